import PyProof.Rows.All
import Wide.All
import OpenK.AllK
import Wide.FinOn
import Lean
import PySem.Challenge.RW_yh0022_02
open PySem PySem.W PySem.Calls PyProof.Rows PySem.Spec
set_option Elab.async false
set_option maxRecDepth 100000
set_option maxHeartbeats 4000000
set_option linter.all false
set_option compiler.extract_closed false
set_option genInjectivity false
set_option genSizeOf false
set_option genSizeOfSpec false
namespace Mine
/- KG -/
noncomputable abbrev pick {α : Type} {x : α} (b : α) (_ : x = b) : α := b
noncomputable def topAt (i : Nat) : Stmt := PySem.Challenge.pw_yh0022_02.main.body.getD i (.Pass ⟨0, 0, 0, 0⟩)
noncomputable def inAt (i j : Nat) : Stmt := match topAt i with | .ClassDef _ _ _ body _ _ _ _ _ _ _ => body.getD j (.Pass ⟨0, 0, 0, 0⟩) | t => t
noncomputable def psOf : Stmt → Arguments | .FunctionDef _ a _ _ _ _ _ _ _ _ => a | _ => default
noncomputable def bdOf : Stmt → List Stmt | .FunctionDef _ _ b _ _ _ _ _ _ _ => b | _ => []
noncomputable def scOf : Stmt → Scope | .FunctionDef _ _ _ _ _ _ c _ _ _ => c | _ => default
noncomputable def o2 : Obj := { cls := Value.none, data := Data.dict #[] }
noncomputable def o3 (P : Params) : Obj := { cls := Value.type "dict", data := Data.dict #[{ hash := PyData.keyHash P (Str.ofString "__name__"), key := Value.str (Str.ofString "__name__") 165, val := Value.str (Str.ofString "law_yh0022_02") 512 }, { hash := PyData.keyHash P (Str.ofString "__doc__"), key := Value.str (Str.ofString "__doc__") 166, val := Value.none }, { hash := PyData.keyHash P (Str.ofString "__package__"), key := Value.str (Str.ofString "__package__") 167, val := Value.none }, { hash := PyData.keyHash P (Str.ofString "__loader__"), key := Value.str (Str.ofString "__loader__") 168, val := Value.builtin "__main__.__loader__#opaque" }, { hash := PyData.keyHash P (Str.ofString "__spec__"), key := Value.str (Str.ofString "__spec__") 169, val := Value.none }, { hash := PyData.keyHash P (Str.ofString "__annotations__"), key := Value.str (Str.ofString "__annotations__") 170, val := Value.ref 6 }, { hash := PyData.keyHash P (Str.ofString "__builtins__"), key := Value.str (Str.ofString "__builtins__") 171, val := Value.ref 4 }, { hash := PyData.keyHash P (Str.ofString "__file__"), key := Value.str (Str.ofString "__file__") 173, val := Value.str (Str.ofString "/claim/cut.py") 172 }, { hash := PyData.keyHash P (Str.ofString "__cached__"), key := Value.str (Str.ofString "__cached__") 174, val := Value.none }, { hash := PyData.keyHash P (Str.ofString "_wall"), key := Value.str (Str.ofString "_wall") 193, val := Value.ref 21 }, { hash := PyData.keyHash P (Str.ofString "NL"), key := Value.str (Str.ofString "NL") 197, val := Value.str (Str.ofString "\n") 196 }, { hash := PyData.keyHash P (Str.ofString "EMPTYSTRING"), key := Value.str (Str.ofString "EMPTYSTRING") 199, val := Value.str (Str.ofString "") 198 }, { hash := PyData.keyHash P (Str.ofString "FWS"), key := Value.str (Str.ofString "FWS") 201, val := Value.str (Str.ofString " \t") 200 }, { hash := PyData.keyHash P (Str.ofString "_ValueFormatter"), key := Value.str (Str.ofString "_ValueFormatter") 309, val := Value.ref 94 }, { hash := PyData.keyHash P (Str.ofString "_Accumulator"), key := Value.str (Str.ofString "_Accumulator") 405, val := Value.ref 178 }, { hash := PyData.keyHash P (Str.ofString "_NO_LINENO"), key := Value.str (Str.ofString "_NO_LINENO") 409, val := Value.str (Str.ofString "  --") 408 }, { hash := PyData.keyHash P (Str.ofString "_get_lineno_width"), key := Value.str (Str.ofString "_get_lineno_width") 418, val := Value.ref 189 }, { hash := PyData.keyHash P (Str.ofString "QName"), key := Value.str (Str.ofString "QName") 511, val := Value.ref 263 }, { hash := PyData.keyHash P (Str.ofString "_law_figures"), key := Value.str (Str.ofString "_law_figures") 521, val := Value.ref 274 }, { hash := PyData.keyHash P (Str.ofString "_law_is_pure"), key := Value.str (Str.ofString "_law_is_pure") 528, val := Value.ref 281 }, { hash := PyData.keyHash P (Str.ofString "_law_by_names"), key := Value.str (Str.ofString "_law_by_names") 534, val := Value.ref 286 }, { hash := PyData.keyHash P (Str.ofString "_law_counts"), key := Value.str (Str.ofString "_law_counts") 547, val := Value.ref 293 }, { hash := PyData.keyHash P (Str.ofString "law"), key := Value.str (Str.ofString "law") 553, val := Value.ref 298 }] 23 }
noncomputable def o15 : Obj := { cls := Value.type "tuple", data := Data.seq #[] }
noncomputable def o17 : Obj := { cls := Value.type "tuple", data := Data.seq #[Value.str (Str.ofString "k") 190] }
noncomputable def o18 : Obj := { cls := Value.type "tuple", data := Data.seq #[] }
noncomputable def o20 : Obj := { cls := Value.type "code", data := Data.fields #[Value.str (Str.ofString "_wall") 187, Value.str (Str.ofString "_wall") 188, Value.str (Str.ofString "/claim/cut.py") 189, Value.int 1 0, Value.int 1 0, Value.int 0 0, Value.int 0 0, Value.int 3 0, Value.ref 15, Value.bool true, Value.int 181 0, Value.ref 16, Value.none, Value.ref 17, Value.ref 18, Value.ref 19, Value.int 191 0, Value.int 1 0, Value.str (Str.ofString "/claim/cut.py") 192] }
noncomputable def p21 : Arguments := pick _ (show psOf (topAt 0) = _ by conv => lhs; whnf)
noncomputable def b21 : List Stmt := pick _ (show bdOf (topAt 0) = _ by conv => lhs; whnf)
noncomputable def s21 : Scope := pick _ (show scOf (topAt 0) = _ by conv => lhs; whnf)
noncomputable def o21 : Obj := pick _ (show ({ cls := Value.type "function", dict := none, data := .func { name := Str.ofString "_wall", qualname := Str.ofString "_wall", params := p21, body := .stmts b21, scope := s21, globals := 3, closure := [], defaults := Value.none, kwdefaults := Value.none, doc := Value.none, pyModule := Value.str (Str.ofString "__main__") 164, annotations := none, code := Value.ref 20, closureTuple := Value.none, builtins := 0 }, slots := #[] } : Obj) = _ by dsimp only [p21, b21, s21, pick])
noncomputable def o29 : Obj := { cls := Value.type "tuple", data := Data.seq #[] }
noncomputable def o31 : Obj := { cls := Value.type "tuple", data := Data.seq #[Value.str (Str.ofString "self") 217, Value.str (Str.ofString "headerlen") 218, Value.str (Str.ofString "maxlen") 219, Value.str (Str.ofString "continuation_ws") 220, Value.str (Str.ofString "splitchars") 221] }
noncomputable def o32 : Obj := { cls := Value.type "tuple", data := Data.seq #[] }
noncomputable def o34 : Obj := { cls := Value.type "code", data := Data.fields #[Value.str (Str.ofString "__init__") 214, Value.str (Str.ofString "_ValueFormatter.__init__") 215, Value.str (Str.ofString "/claim/cut.py") 216, Value.int 10 0, Value.int 5 0, Value.int 0 0, Value.int 0 0, Value.int 3 0, Value.ref 29, Value.bool true, Value.int 181 0, Value.ref 30, Value.none, Value.ref 31, Value.ref 32, Value.ref 33, Value.int 222 0, Value.int 10 0, Value.str (Str.ofString "/claim/cut.py") 223] }
noncomputable def p35 : Arguments := pick _ (show psOf (inAt 5 0) = _ by conv => lhs; whnf)
noncomputable def b35 : List Stmt := pick _ (show bdOf (inAt 5 0) = _ by conv => lhs; whnf)
noncomputable def s35 : Scope := pick _ (show scOf (inAt 5 0) = _ by conv => lhs; whnf)
noncomputable def o35 : Obj := pick _ (show ({ cls := Value.type "function", dict := none, data := .func { name := Str.ofString "__init__", qualname := Str.ofString "_ValueFormatter.__init__", params := p35, body := .stmts b35, scope := s35, globals := 3, closure := [], defaults := Value.none, kwdefaults := Value.none, doc := Value.none, pyModule := Value.str (Str.ofString "cpy313.email.header") 194, annotations := none, code := Value.ref 34, closureTuple := Value.none, builtins := 0 }, slots := #[] } : Obj) = _ by dsimp only [p35, b35, s35, pick])
noncomputable def o36 : Obj := { cls := Value.type "tuple", data := Data.seq #[] }
noncomputable def o38 : Obj := { cls := Value.type "tuple", data := Data.seq #[Value.str (Str.ofString "self") 228, Value.str (Str.ofString "linesep") 229] }
noncomputable def o39 : Obj := { cls := Value.type "tuple", data := Data.seq #[] }
noncomputable def o41 : Obj := { cls := Value.type "code", data := Data.fields #[Value.str (Str.ofString "_str") 225, Value.str (Str.ofString "_ValueFormatter._str") 226, Value.str (Str.ofString "/claim/cut.py") 227, Value.int 18 0, Value.int 2 0, Value.int 0 0, Value.int 0 0, Value.int 3 0, Value.ref 36, Value.bool true, Value.int 181 0, Value.ref 37, Value.none, Value.ref 38, Value.ref 39, Value.ref 40, Value.int 230 0, Value.int 18 0, Value.str (Str.ofString "/claim/cut.py") 231] }
noncomputable def p42 : Arguments := pick _ (show psOf (inAt 5 1) = _ by conv => lhs; whnf)
noncomputable def b42 : List Stmt := pick _ (show bdOf (inAt 5 1) = _ by conv => lhs; whnf)
noncomputable def s42 : Scope := pick _ (show scOf (inAt 5 1) = _ by conv => lhs; whnf)
noncomputable def o42 : Obj := pick _ (show ({ cls := Value.type "function", dict := none, data := .func { name := Str.ofString "_str", qualname := Str.ofString "_ValueFormatter._str", params := p42, body := .stmts b42, scope := s42, globals := 3, closure := [], defaults := Value.none, kwdefaults := Value.none, doc := Value.none, pyModule := Value.str (Str.ofString "cpy313.email.header") 194, annotations := none, code := Value.ref 41, closureTuple := Value.none, builtins := 0 }, slots := #[] } : Obj) = _ by dsimp only [p42, b42, s42, pick])
noncomputable def o43 : Obj := { cls := Value.type "tuple", data := Data.seq #[] }
noncomputable def o45 : Obj := { cls := Value.type "tuple", data := Data.seq #[Value.str (Str.ofString "self") 236] }
noncomputable def o46 : Obj := { cls := Value.type "tuple", data := Data.seq #[] }
noncomputable def o48 : Obj := { cls := Value.type "code", data := Data.fields #[Value.str (Str.ofString "__str__") 233, Value.str (Str.ofString "_ValueFormatter.__str__") 234, Value.str (Str.ofString "/claim/cut.py") 235, Value.int 22 0, Value.int 1 0, Value.int 0 0, Value.int 0 0, Value.int 3 0, Value.ref 43, Value.bool true, Value.int 181 0, Value.ref 44, Value.none, Value.ref 45, Value.ref 46, Value.ref 47, Value.int 237 0, Value.int 22 0, Value.str (Str.ofString "/claim/cut.py") 238] }
noncomputable def p49 : Arguments := pick _ (show psOf (inAt 5 2) = _ by conv => lhs; whnf)
noncomputable def b49 : List Stmt := pick _ (show bdOf (inAt 5 2) = _ by conv => lhs; whnf)
noncomputable def s49 : Scope := pick _ (show scOf (inAt 5 2) = _ by conv => lhs; whnf)
noncomputable def o49 : Obj := pick _ (show ({ cls := Value.type "function", dict := none, data := .func { name := Str.ofString "__str__", qualname := Str.ofString "_ValueFormatter.__str__", params := p49, body := .stmts b49, scope := s49, globals := 3, closure := [], defaults := Value.none, kwdefaults := Value.none, doc := Value.none, pyModule := Value.str (Str.ofString "cpy313.email.header") 194, annotations := none, code := Value.ref 48, closureTuple := Value.none, builtins := 0 }, slots := #[] } : Obj) = _ by dsimp only [p49, b49, s49, pick])
noncomputable def o50 : Obj := { cls := Value.type "tuple", data := Data.seq #[] }
noncomputable def o52 : Obj := { cls := Value.type "tuple", data := Data.seq #[Value.str (Str.ofString "self") 243, Value.str (Str.ofString "end_of_line") 244] }
noncomputable def o53 : Obj := { cls := Value.type "tuple", data := Data.seq #[] }
noncomputable def o55 : Obj := { cls := Value.type "code", data := Data.fields #[Value.str (Str.ofString "newline") 240, Value.str (Str.ofString "_ValueFormatter.newline") 241, Value.str (Str.ofString "/claim/cut.py") 242, Value.int 25 0, Value.int 1 0, Value.int 0 0, Value.int 0 0, Value.int 3 0, Value.ref 50, Value.bool true, Value.int 181 0, Value.ref 51, Value.none, Value.ref 52, Value.ref 53, Value.ref 54, Value.int 245 0, Value.int 25 0, Value.str (Str.ofString "/claim/cut.py") 246] }
noncomputable def p56 : Arguments := pick _ (show psOf (inAt 5 3) = _ by conv => lhs; whnf)
noncomputable def b56 : List Stmt := pick _ (show bdOf (inAt 5 3) = _ by conv => lhs; whnf)
noncomputable def s56 : Scope := pick _ (show scOf (inAt 5 3) = _ by conv => lhs; whnf)
noncomputable def o56 : Obj := pick _ (show ({ cls := Value.type "function", dict := none, data := .func { name := Str.ofString "newline", qualname := Str.ofString "_ValueFormatter.newline", params := p56, body := .stmts b56, scope := s56, globals := 3, closure := [], defaults := Value.none, kwdefaults := Value.none, doc := Value.none, pyModule := Value.str (Str.ofString "cpy313.email.header") 194, annotations := none, code := Value.ref 55, closureTuple := Value.none, builtins := 0 }, slots := #[] } : Obj) = _ by dsimp only [p56, b56, s56, pick])
noncomputable def o57 : Obj := { cls := Value.type "tuple", data := Data.seq #[] }
noncomputable def o59 : Obj := { cls := Value.type "tuple", data := Data.seq #[Value.str (Str.ofString "self") 251] }
noncomputable def o60 : Obj := { cls := Value.type "tuple", data := Data.seq #[] }
noncomputable def o62 : Obj := { cls := Value.type "code", data := Data.fields #[Value.str (Str.ofString "add_transition") 248, Value.str (Str.ofString "_ValueFormatter.add_transition") 249, Value.str (Str.ofString "/claim/cut.py") 250, Value.int 36 0, Value.int 1 0, Value.int 0 0, Value.int 0 0, Value.int 3 0, Value.ref 57, Value.bool true, Value.int 181 0, Value.ref 58, Value.none, Value.ref 59, Value.ref 60, Value.ref 61, Value.int 252 0, Value.int 36 0, Value.str (Str.ofString "/claim/cut.py") 253] }
noncomputable def p63 : Arguments := pick _ (show psOf (inAt 5 4) = _ by conv => lhs; whnf)
noncomputable def b63 : List Stmt := pick _ (show bdOf (inAt 5 4) = _ by conv => lhs; whnf)
noncomputable def s63 : Scope := pick _ (show scOf (inAt 5 4) = _ by conv => lhs; whnf)
noncomputable def o63 : Obj := pick _ (show ({ cls := Value.type "function", dict := none, data := .func { name := Str.ofString "add_transition", qualname := Str.ofString "_ValueFormatter.add_transition", params := p63, body := .stmts b63, scope := s63, globals := 3, closure := [], defaults := Value.none, kwdefaults := Value.none, doc := Value.none, pyModule := Value.str (Str.ofString "cpy313.email.header") 194, annotations := none, code := Value.ref 62, closureTuple := Value.none, builtins := 0 }, slots := #[] } : Obj) = _ by dsimp only [p63, b63, s63, pick])
noncomputable def o64 : Obj := { cls := Value.type "tuple", data := Data.seq #[] }
noncomputable def o66 : Obj := { cls := Value.type "tuple", data := Data.seq #[Value.str (Str.ofString "self") 258, Value.str (Str.ofString "fws") 259, Value.str (Str.ofString "string") 260, Value.str (Str.ofString "charset") 261] }
noncomputable def o67 : Obj := { cls := Value.type "tuple", data := Data.seq #[] }
noncomputable def o69 : Obj := { cls := Value.type "code", data := Data.fields #[Value.str (Str.ofString "feed") 255, Value.str (Str.ofString "_ValueFormatter.feed") 256, Value.str (Str.ofString "/claim/cut.py") 257, Value.int 39 0, Value.int 4 0, Value.int 0 0, Value.int 0 0, Value.int 3 0, Value.ref 64, Value.bool true, Value.int 181 0, Value.ref 65, Value.none, Value.ref 66, Value.ref 67, Value.ref 68, Value.int 262 0, Value.int 39 0, Value.str (Str.ofString "/claim/cut.py") 263] }
noncomputable def p70 : Arguments := pick _ (show psOf (inAt 5 5) = _ by conv => lhs; whnf)
noncomputable def b70 : List Stmt := pick _ (show bdOf (inAt 5 5) = _ by conv => lhs; whnf)
noncomputable def s70 : Scope := pick _ (show scOf (inAt 5 5) = _ by conv => lhs; whnf)
noncomputable def o70 : Obj := pick _ (show ({ cls := Value.type "function", dict := none, data := .func { name := Str.ofString "feed", qualname := Str.ofString "_ValueFormatter.feed", params := p70, body := .stmts b70, scope := s70, globals := 3, closure := [], defaults := Value.none, kwdefaults := Value.none, doc := Value.none, pyModule := Value.str (Str.ofString "cpy313.email.header") 194, annotations := none, code := Value.ref 69, closureTuple := Value.none, builtins := 0 }, slots := #[] } : Obj) = _ by dsimp only [p70, b70, s70, pick])
noncomputable def o71 : Obj := { cls := Value.type "tuple", data := Data.seq #[] }
noncomputable def o73 : Obj := { cls := Value.type "tuple", data := Data.seq #[Value.str (Str.ofString "self") 268] }
noncomputable def o74 : Obj := { cls := Value.type "tuple", data := Data.seq #[] }
noncomputable def o76 : Obj := { cls := Value.type "code", data := Data.fields #[Value.str (Str.ofString "_maxlengths") 265, Value.str (Str.ofString "_ValueFormatter._maxlengths") 266, Value.str (Str.ofString "/claim/cut.py") 267, Value.int 42 0, Value.int 1 0, Value.int 0 0, Value.int 0 0, Value.int 3 0, Value.ref 71, Value.bool true, Value.int 181 0, Value.ref 72, Value.none, Value.ref 73, Value.ref 74, Value.ref 75, Value.int 269 0, Value.int 42 0, Value.str (Str.ofString "/claim/cut.py") 270] }
noncomputable def p77 : Arguments := pick _ (show psOf (inAt 5 6) = _ by conv => lhs; whnf)
noncomputable def b77 : List Stmt := pick _ (show bdOf (inAt 5 6) = _ by conv => lhs; whnf)
noncomputable def s77 : Scope := pick _ (show scOf (inAt 5 6) = _ by conv => lhs; whnf)
noncomputable def o77 : Obj := pick _ (show ({ cls := Value.type "function", dict := none, data := .func { name := Str.ofString "_maxlengths", qualname := Str.ofString "_ValueFormatter._maxlengths", params := p77, body := .stmts b77, scope := s77, globals := 3, closure := [], defaults := Value.none, kwdefaults := Value.none, doc := Value.none, pyModule := Value.str (Str.ofString "cpy313.email.header") 194, annotations := none, code := Value.ref 76, closureTuple := Value.none, builtins := 0 }, slots := #[] } : Obj) = _ by dsimp only [p77, b77, s77, pick])
noncomputable def o78 : Obj := { cls := Value.type "tuple", data := Data.seq #[] }
noncomputable def o80 : Obj := { cls := Value.type "tuple", data := Data.seq #[Value.str (Str.ofString "self") 275, Value.str (Str.ofString "fws") 276, Value.str (Str.ofString "string") 277, Value.str (Str.ofString "splitchars") 278] }
noncomputable def o81 : Obj := { cls := Value.type "tuple", data := Data.seq #[] }
noncomputable def o83 : Obj := { cls := Value.type "code", data := Data.fields #[Value.str (Str.ofString "_ascii_split") 272, Value.str (Str.ofString "_ValueFormatter._ascii_split") 273, Value.str (Str.ofString "/claim/cut.py") 274, Value.int 45 0, Value.int 4 0, Value.int 0 0, Value.int 0 0, Value.int 3 0, Value.ref 78, Value.bool true, Value.int 181 0, Value.ref 79, Value.none, Value.ref 80, Value.ref 81, Value.ref 82, Value.int 279 0, Value.int 45 0, Value.str (Str.ofString "/claim/cut.py") 280] }
noncomputable def p84 : Arguments := pick _ (show psOf (inAt 5 7) = _ by conv => lhs; whnf)
noncomputable def b84 : List Stmt := pick _ (show bdOf (inAt 5 7) = _ by conv => lhs; whnf)
noncomputable def s84 : Scope := pick _ (show scOf (inAt 5 7) = _ by conv => lhs; whnf)
noncomputable def o84 : Obj := pick _ (show ({ cls := Value.type "function", dict := none, data := .func { name := Str.ofString "_ascii_split", qualname := Str.ofString "_ValueFormatter._ascii_split", params := p84, body := .stmts b84, scope := s84, globals := 3, closure := [], defaults := Value.none, kwdefaults := Value.none, doc := Value.none, pyModule := Value.str (Str.ofString "cpy313.email.header") 194, annotations := none, code := Value.ref 83, closureTuple := Value.none, builtins := 0 }, slots := #[] } : Obj) = _ by dsimp only [p84, b84, s84, pick])
noncomputable def o85 : Obj := { cls := Value.type "tuple", data := Data.seq #[] }
noncomputable def o87 : Obj := { cls := Value.type "tuple", data := Data.seq #[Value.str (Str.ofString "self") 285, Value.str (Str.ofString "fws") 286, Value.str (Str.ofString "string") 287, Value.str (Str.ofString "ch") 288, Value.str (Str.ofString "i") 289, Value.str (Str.ofString "prevpart") 290, Value.str (Str.ofString "part") 291, Value.str (Str.ofString "remainder") 292] }
noncomputable def o88 : Obj := { cls := Value.type "tuple", data := Data.seq #[] }
noncomputable def o90 : Obj := { cls := Value.type "code", data := Data.fields #[Value.str (Str.ofString "_append_chunk") 282, Value.str (Str.ofString "_ValueFormatter._append_chunk") 283, Value.str (Str.ofString "/claim/cut.py") 284, Value.int 48 0, Value.int 3 0, Value.int 0 0, Value.int 0 0, Value.int 3 0, Value.ref 85, Value.bool true, Value.int 181 0, Value.ref 86, Value.none, Value.ref 87, Value.ref 88, Value.ref 89, Value.int 293 0, Value.int 48 0, Value.str (Str.ofString "/claim/cut.py") 294] }
noncomputable def p91 : Arguments := pick _ (show psOf (inAt 5 8) = _ by conv => lhs; whnf)
noncomputable def b91 : List Stmt := pick _ (show bdOf (inAt 5 8) = _ by conv => lhs; whnf)
noncomputable def s91 : Scope := pick _ (show scOf (inAt 5 8) = _ by conv => lhs; whnf)
noncomputable def o91 : Obj := pick _ (show ({ cls := Value.type "function", dict := none, data := .func { name := Str.ofString "_append_chunk", qualname := Str.ofString "_ValueFormatter._append_chunk", params := p91, body := .stmts b91, scope := s91, globals := 3, closure := [], defaults := Value.none, kwdefaults := Value.none, doc := Value.none, pyModule := Value.str (Str.ofString "cpy313.email.header") 194, annotations := none, code := Value.ref 90, closureTuple := Value.none, builtins := 0 }, slots := #[] } : Obj) = _ by dsimp only [p91, b91, s91, pick])
noncomputable def o92 : Obj := { cls := Value.type "tuple", data := Data.seq #[Value.str (Str.ofString "_continuation_ws") 296, Value.str (Str.ofString "_continuation_ws_len") 297, Value.str (Str.ofString "_current_line") 298, Value.str (Str.ofString "_lines") 299, Value.str (Str.ofString "_maxlen") 300, Value.str (Str.ofString "_splitchars") 301] }
noncomputable def o93 (P : Params) : Obj := { cls := Value.type "dict", data := Data.dict #[{ hash := PyData.keyHash P (Str.ofString "__module__"), key := Value.str (Str.ofString "__module__") 209, val := Value.str (Str.ofString "cpy313.email.header") 194 }, { hash := PyData.keyHash P (Str.ofString "__firstlineno__"), key := Value.str (Str.ofString "__firstlineno__") 213, val := Value.int 8 212 }, { hash := PyData.keyHash P (Str.ofString "__init__"), key := Value.str (Str.ofString "__init__") 224, val := Value.ref 35 }, { hash := PyData.keyHash P (Str.ofString "_str"), key := Value.str (Str.ofString "_str") 232, val := Value.ref 42 }, { hash := PyData.keyHash P (Str.ofString "__str__"), key := Value.str (Str.ofString "__str__") 239, val := Value.ref 49 }, { hash := PyData.keyHash P (Str.ofString "newline"), key := Value.str (Str.ofString "newline") 247, val := Value.ref 56 }, { hash := PyData.keyHash P (Str.ofString "add_transition"), key := Value.str (Str.ofString "add_transition") 254, val := Value.ref 63 }, { hash := PyData.keyHash P (Str.ofString "feed"), key := Value.str (Str.ofString "feed") 264, val := Value.ref 70 }, { hash := PyData.keyHash P (Str.ofString "_maxlengths"), key := Value.str (Str.ofString "_maxlengths") 271, val := Value.ref 77 }, { hash := PyData.keyHash P (Str.ofString "_ascii_split"), key := Value.str (Str.ofString "_ascii_split") 281, val := Value.ref 84 }, { hash := PyData.keyHash P (Str.ofString "_append_chunk"), key := Value.str (Str.ofString "_append_chunk") 295, val := Value.ref 91 }, { hash := PyData.keyHash P (Str.ofString "__static_attributes__"), key := Value.str (Str.ofString "__static_attributes__") 302, val := Value.ref 92 }, { hash := PyData.keyHash P (Str.ofString "__dict__"), key := Value.str (Str.ofString "__dict__") 304, val := Value.ref 95 }, { hash := PyData.keyHash P (Str.ofString "__weakref__"), key := Value.str (Str.ofString "__weakref__") 306, val := Value.ref 96 }, { hash := PyData.keyHash P (Str.ofString "__doc__"), key := Value.str (Str.ofString "__doc__") 307, val := Value.none }] 4 }
noncomputable def o94 : Obj := { cls := Value.type "type", data := Data.cls { name := Str.ofString "_ValueFormatter", bases := [Value.type "object"], mro := [Value.ref 94, Value.type "object"], ns := 93, qualname := Str.ofString "_ValueFormatter" }, slots := #[none, none, some (Value.str (Str.ofString "_ValueFormatter") 202), some (Value.str (Str.ofString "_ValueFormatter") 210), some (Value.builtin "object.__new__"), some (Value.bool true)] }
noncomputable def o95 : Obj := { cls := Value.type "getset_descriptor", data := Data.fields #[Value.str (Str.ofString "__dict__") 303, Value.ref 94, Value.builtin "function.__dict__", Value.builtin "function.__dict__#set"] }
noncomputable def o96 : Obj := { cls := Value.type "getset_descriptor", data := Data.fields #[Value.str (Str.ofString "__weakref__") 305, Value.ref 94, Value.builtin "ExceptionGroup.__weakref__", Value.none] }
noncomputable def o99 : Obj := { cls := Value.type "tuple", data := Data.seq #[Value.type "list"] }
noncomputable def o102 : Obj := { cls := Value.type "cell", data := Data.cell (some (Value.ref 178)) }
noncomputable def o107 : Obj := { cls := Value.type "tuple", data := Data.seq #[Value.int 0 322] }
noncomputable def o108 : Obj := { cls := Value.type "tuple", data := Data.seq #[Value.ref 102] }
noncomputable def o109 : Obj := { cls := Value.type "tuple", data := Data.seq #[Value.str (Str.ofString "__class__") 326] }
noncomputable def o111 : Obj := { cls := Value.type "tuple", data := Data.seq #[Value.str (Str.ofString "self") 327, Value.str (Str.ofString "initial_size") 328] }
noncomputable def o112 : Obj := { cls := Value.type "tuple", data := Data.seq #[] }
noncomputable def o114 : Obj := { cls := Value.type "code", data := Data.fields #[Value.str (Str.ofString "__init__") 323, Value.str (Str.ofString "_Accumulator.__init__") 324, Value.str (Str.ofString "/claim/cut.py") 325, Value.int 76 0, Value.int 2 0, Value.int 0 0, Value.int 0 0, Value.int 3 0, Value.ref 109, Value.bool true, Value.int 181 0, Value.ref 110, Value.none, Value.ref 111, Value.ref 112, Value.ref 113, Value.int 329 0, Value.int 76 0, Value.str (Str.ofString "/claim/cut.py") 330] }
noncomputable def p115 : Arguments := pick _ (show psOf (inAt 6 0) = _ by conv => lhs; whnf)
noncomputable def b115 : List Stmt := pick _ (show bdOf (inAt 6 0) = _ by conv => lhs; whnf)
noncomputable def s115 : Scope := pick _ (show scOf (inAt 6 0) = _ by conv => lhs; whnf)
noncomputable def o115 : Obj := pick _ (show ({ cls := Value.type "function", dict := none, data := .func { name := Str.ofString "__init__", qualname := Str.ofString "_Accumulator.__init__", params := p115, body := .stmts b115, scope := s115, globals := 3, closure := [(Str.ofString "__class__", 102)], defaults := Value.ref 107, kwdefaults := Value.none, doc := Value.none, pyModule := Value.str (Str.ofString "cpy313.email.header") 194, annotations := none, code := Value.ref 114, closureTuple := Value.ref 108, builtins := 0 }, slots := #[] } : Obj) = _ by dsimp only [p115, b115, s115, pick])
noncomputable def o116 : Obj := { cls := Value.type "tuple", data := Data.seq #[] }
noncomputable def o118 : Obj := { cls := Value.type "tuple", data := Data.seq #[Value.str (Str.ofString "self") 335, Value.str (Str.ofString "fws") 336, Value.str (Str.ofString "string") 337] }
noncomputable def o119 : Obj := { cls := Value.type "tuple", data := Data.seq #[] }
noncomputable def o121 : Obj := { cls := Value.type "code", data := Data.fields #[Value.str (Str.ofString "push") 332, Value.str (Str.ofString "_Accumulator.push") 333, Value.str (Str.ofString "/claim/cut.py") 334, Value.int 80 0, Value.int 3 0, Value.int 0 0, Value.int 0 0, Value.int 3 0, Value.ref 116, Value.bool true, Value.int 181 0, Value.ref 117, Value.none, Value.ref 118, Value.ref 119, Value.ref 120, Value.int 338 0, Value.int 80 0, Value.str (Str.ofString "/claim/cut.py") 339] }
noncomputable def p122 : Arguments := pick _ (show psOf (inAt 6 1) = _ by conv => lhs; whnf)
noncomputable def b122 : List Stmt := pick _ (show bdOf (inAt 6 1) = _ by conv => lhs; whnf)
noncomputable def s122 : Scope := pick _ (show scOf (inAt 6 1) = _ by conv => lhs; whnf)
noncomputable def o122 : Obj := pick _ (show ({ cls := Value.type "function", dict := none, data := .func { name := Str.ofString "push", qualname := Str.ofString "_Accumulator.push", params := p122, body := .stmts b122, scope := s122, globals := 3, closure := [], defaults := Value.none, kwdefaults := Value.none, doc := Value.none, pyModule := Value.str (Str.ofString "cpy313.email.header") 194, annotations := none, code := Value.ref 121, closureTuple := Value.none, builtins := 0 }, slots := #[] } : Obj) = _ by dsimp only [p122, b122, s122, pick])
noncomputable def o123 : Obj := { cls := Value.type "tuple", data := Data.seq #[Value.int 0 341] }
noncomputable def o124 : Obj := { cls := Value.type "tuple", data := Data.seq #[] }
noncomputable def o126 : Obj := { cls := Value.type "tuple", data := Data.seq #[Value.str (Str.ofString "self") 345, Value.str (Str.ofString "i") 346, Value.str (Str.ofString "popped") 347] }
noncomputable def o127 : Obj := { cls := Value.type "tuple", data := Data.seq #[] }
noncomputable def o129 : Obj := { cls := Value.type "code", data := Data.fields #[Value.str (Str.ofString "pop_from") 342, Value.str (Str.ofString "_Accumulator.pop_from") 343, Value.str (Str.ofString "/claim/cut.py") 344, Value.int 83 0, Value.int 2 0, Value.int 0 0, Value.int 0 0, Value.int 3 0, Value.ref 124, Value.bool true, Value.int 181 0, Value.ref 125, Value.none, Value.ref 126, Value.ref 127, Value.ref 128, Value.int 348 0, Value.int 83 0, Value.str (Str.ofString "/claim/cut.py") 349] }
noncomputable def p130 : Arguments := pick _ (show psOf (inAt 6 2) = _ by conv => lhs; whnf)
noncomputable def b130 : List Stmt := pick _ (show bdOf (inAt 6 2) = _ by conv => lhs; whnf)
noncomputable def s130 : Scope := pick _ (show scOf (inAt 6 2) = _ by conv => lhs; whnf)
noncomputable def o130 : Obj := pick _ (show ({ cls := Value.type "function", dict := none, data := .func { name := Str.ofString "pop_from", qualname := Str.ofString "_Accumulator.pop_from", params := p130, body := .stmts b130, scope := s130, globals := 3, closure := [], defaults := Value.ref 123, kwdefaults := Value.none, doc := Value.none, pyModule := Value.str (Str.ofString "cpy313.email.header") 194, annotations := none, code := Value.ref 129, closureTuple := Value.none, builtins := 0 }, slots := #[] } : Obj) = _ by dsimp only [p130, b130, s130, pick])
noncomputable def o131 : Obj := { cls := Value.type "tuple", data := Data.seq #[Value.ref 102] }
noncomputable def o132 : Obj := { cls := Value.type "tuple", data := Data.seq #[Value.str (Str.ofString "__class__") 354] }
noncomputable def o134 : Obj := { cls := Value.type "tuple", data := Data.seq #[Value.str (Str.ofString "self") 355] }
noncomputable def o135 : Obj := { cls := Value.type "tuple", data := Data.seq #[] }
noncomputable def o137 : Obj := { cls := Value.type "code", data := Data.fields #[Value.str (Str.ofString "pop") 351, Value.str (Str.ofString "_Accumulator.pop") 352, Value.str (Str.ofString "/claim/cut.py") 353, Value.int 88 0, Value.int 1 0, Value.int 0 0, Value.int 0 0, Value.int 3 0, Value.ref 132, Value.bool true, Value.int 181 0, Value.ref 133, Value.none, Value.ref 134, Value.ref 135, Value.ref 136, Value.int 356 0, Value.int 88 0, Value.str (Str.ofString "/claim/cut.py") 357] }
noncomputable def p138 : Arguments := pick _ (show psOf (inAt 6 3) = _ by conv => lhs; whnf)
noncomputable def b138 : List Stmt := pick _ (show bdOf (inAt 6 3) = _ by conv => lhs; whnf)
noncomputable def s138 : Scope := pick _ (show scOf (inAt 6 3) = _ by conv => lhs; whnf)
noncomputable def o138 : Obj := pick _ (show ({ cls := Value.type "function", dict := none, data := .func { name := Str.ofString "pop", qualname := Str.ofString "_Accumulator.pop", params := p138, body := .stmts b138, scope := s138, globals := 3, closure := [(Str.ofString "__class__", 102)], defaults := Value.none, kwdefaults := Value.none, doc := Value.none, pyModule := Value.str (Str.ofString "cpy313.email.header") 194, annotations := none, code := Value.ref 137, closureTuple := Value.ref 131, builtins := 0 }, slots := #[] } : Obj) = _ by dsimp only [p138, b138, s138, pick])
noncomputable def o139 : Obj := { cls := Value.type "tuple", data := Data.seq #[] }
noncomputable def o141 : Obj := { cls := Value.type "tuple", data := Data.seq #[Value.str (Str.ofString "self") 362] }
noncomputable def o142 : Obj := { cls := Value.type "tuple", data := Data.seq #[] }
noncomputable def o144 : Obj := { cls := Value.type "code", data := Data.fields #[Value.str (Str.ofString "__len__") 359, Value.str (Str.ofString "_Accumulator.__len__") 360, Value.str (Str.ofString "/claim/cut.py") 361, Value.int 93 0, Value.int 1 0, Value.int 0 0, Value.int 0 0, Value.int 3 0, Value.ref 139, Value.bool true, Value.int 181 0, Value.ref 140, Value.none, Value.ref 141, Value.ref 142, Value.ref 143, Value.int 363 0, Value.int 93 0, Value.str (Str.ofString "/claim/cut.py") 364] }
noncomputable def p145 : Arguments := pick _ (show psOf (inAt 6 4) = _ by conv => lhs; whnf)
noncomputable def b145 : List Stmt := pick _ (show bdOf (inAt 6 4) = _ by conv => lhs; whnf)
noncomputable def s145 : Scope := pick _ (show scOf (inAt 6 4) = _ by conv => lhs; whnf)
noncomputable def o145 : Obj := pick _ (show ({ cls := Value.type "function", dict := none, data := .func { name := Str.ofString "__len__", qualname := Str.ofString "_Accumulator.__len__", params := p145, body := .stmts b145, scope := s145, globals := 3, closure := [], defaults := Value.none, kwdefaults := Value.none, doc := Value.none, pyModule := Value.str (Str.ofString "cpy313.email.header") 194, annotations := none, code := Value.ref 144, closureTuple := Value.none, builtins := 0 }, slots := #[] } : Obj) = _ by dsimp only [p145, b145, s145, pick])
noncomputable def o146 : Obj := { cls := Value.type "tuple", data := Data.seq #[] }
noncomputable def o148 : Obj := { cls := Value.type "tuple", data := Data.seq #[Value.str (Str.ofString "self") 369] }
noncomputable def o149 : Obj := { cls := Value.type "tuple", data := Data.seq #[] }
noncomputable def o151 : Obj := { cls := Value.type "code", data := Data.fields #[Value.str (Str.ofString "__str__") 366, Value.str (Str.ofString "_Accumulator.__str__") 367, Value.str (Str.ofString "/claim/cut.py") 368, Value.int 96 0, Value.int 1 0, Value.int 0 0, Value.int 0 0, Value.int 3 0, Value.ref 146, Value.bool true, Value.int 181 0, Value.ref 147, Value.none, Value.ref 148, Value.ref 149, Value.ref 150, Value.int 370 0, Value.int 96 0, Value.str (Str.ofString "/claim/cut.py") 371] }
noncomputable def p152 : Arguments := pick _ (show psOf (inAt 6 5) = _ by conv => lhs; whnf)
noncomputable def b152 : List Stmt := pick _ (show bdOf (inAt 6 5) = _ by conv => lhs; whnf)
noncomputable def s152 : Scope := pick _ (show scOf (inAt 6 5) = _ by conv => lhs; whnf)
noncomputable def o152 : Obj := pick _ (show ({ cls := Value.type "function", dict := none, data := .func { name := Str.ofString "__str__", qualname := Str.ofString "_Accumulator.__str__", params := p152, body := .stmts b152, scope := s152, globals := 3, closure := [], defaults := Value.none, kwdefaults := Value.none, doc := Value.none, pyModule := Value.str (Str.ofString "cpy313.email.header") 194, annotations := none, code := Value.ref 151, closureTuple := Value.none, builtins := 0 }, slots := #[] } : Obj) = _ by dsimp only [p152, b152, s152, pick])
noncomputable def o153 : Obj := { cls := Value.type "tuple", data := Data.seq #[Value.none] }
noncomputable def o154 : Obj := { cls := Value.type "tuple", data := Data.seq #[] }
noncomputable def o156 : Obj := { cls := Value.type "tuple", data := Data.seq #[Value.str (Str.ofString "self") 376, Value.str (Str.ofString "startval") 377] }
noncomputable def o157 : Obj := { cls := Value.type "tuple", data := Data.seq #[] }
noncomputable def o159 : Obj := { cls := Value.type "code", data := Data.fields #[Value.str (Str.ofString "reset") 373, Value.str (Str.ofString "_Accumulator.reset") 374, Value.str (Str.ofString "/claim/cut.py") 375, Value.int 99 0, Value.int 2 0, Value.int 0 0, Value.int 0 0, Value.int 3 0, Value.ref 154, Value.bool true, Value.int 181 0, Value.ref 155, Value.none, Value.ref 156, Value.ref 157, Value.ref 158, Value.int 378 0, Value.int 99 0, Value.str (Str.ofString "/claim/cut.py") 379] }
noncomputable def p160 : Arguments := pick _ (show psOf (inAt 6 6) = _ by conv => lhs; whnf)
noncomputable def b160 : List Stmt := pick _ (show bdOf (inAt 6 6) = _ by conv => lhs; whnf)
noncomputable def s160 : Scope := pick _ (show scOf (inAt 6 6) = _ by conv => lhs; whnf)
noncomputable def o160 : Obj := pick _ (show ({ cls := Value.type "function", dict := none, data := .func { name := Str.ofString "reset", qualname := Str.ofString "_Accumulator.reset", params := p160, body := .stmts b160, scope := s160, globals := 3, closure := [], defaults := Value.ref 153, kwdefaults := Value.none, doc := Value.none, pyModule := Value.str (Str.ofString "cpy313.email.header") 194, annotations := none, code := Value.ref 159, closureTuple := Value.none, builtins := 0 }, slots := #[] } : Obj) = _ by dsimp only [p160, b160, s160, pick])
noncomputable def o161 : Obj := { cls := Value.type "tuple", data := Data.seq #[] }
noncomputable def o163 : Obj := { cls := Value.type "tuple", data := Data.seq #[Value.str (Str.ofString "self") 384] }
noncomputable def o164 : Obj := { cls := Value.type "tuple", data := Data.seq #[] }
noncomputable def o166 : Obj := { cls := Value.type "code", data := Data.fields #[Value.str (Str.ofString "is_onlyws") 381, Value.str (Str.ofString "_Accumulator.is_onlyws") 382, Value.str (Str.ofString "/claim/cut.py") 383, Value.int 105 0, Value.int 1 0, Value.int 0 0, Value.int 0 0, Value.int 3 0, Value.ref 161, Value.bool true, Value.int 181 0, Value.ref 162, Value.none, Value.ref 163, Value.ref 164, Value.ref 165, Value.int 385 0, Value.int 105 0, Value.str (Str.ofString "/claim/cut.py") 386] }
noncomputable def p167 : Arguments := pick _ (show psOf (inAt 6 7) = _ by conv => lhs; whnf)
noncomputable def b167 : List Stmt := pick _ (show bdOf (inAt 6 7) = _ by conv => lhs; whnf)
noncomputable def s167 : Scope := pick _ (show scOf (inAt 6 7) = _ by conv => lhs; whnf)
noncomputable def o167 : Obj := pick _ (show ({ cls := Value.type "function", dict := none, data := .func { name := Str.ofString "is_onlyws", qualname := Str.ofString "_Accumulator.is_onlyws", params := p167, body := .stmts b167, scope := s167, globals := 3, closure := [], defaults := Value.none, kwdefaults := Value.none, doc := Value.none, pyModule := Value.str (Str.ofString "cpy313.email.header") 194, annotations := none, code := Value.ref 166, closureTuple := Value.none, builtins := 0 }, slots := #[] } : Obj) = _ by dsimp only [p167, b167, s167, pick])
noncomputable def o168 : Obj := { cls := Value.type "tuple", data := Data.seq #[Value.ref 102] }
noncomputable def o169 : Obj := { cls := Value.type "tuple", data := Data.seq #[Value.str (Str.ofString "__class__") 391] }
noncomputable def o171 : Obj := { cls := Value.type "tuple", data := Data.seq #[Value.str (Str.ofString "self") 392] }
noncomputable def o172 : Obj := { cls := Value.type "tuple", data := Data.seq #[] }
noncomputable def o174 : Obj := { cls := Value.type "code", data := Data.fields #[Value.str (Str.ofString "part_count") 388, Value.str (Str.ofString "_Accumulator.part_count") 389, Value.str (Str.ofString "/claim/cut.py") 390, Value.int 108 0, Value.int 1 0, Value.int 0 0, Value.int 0 0, Value.int 3 0, Value.ref 169, Value.bool true, Value.int 181 0, Value.ref 170, Value.none, Value.ref 171, Value.ref 172, Value.ref 173, Value.int 393 0, Value.int 108 0, Value.str (Str.ofString "/claim/cut.py") 394] }
noncomputable def p175 : Arguments := pick _ (show psOf (inAt 6 8) = _ by conv => lhs; whnf)
noncomputable def b175 : List Stmt := pick _ (show bdOf (inAt 6 8) = _ by conv => lhs; whnf)
noncomputable def s175 : Scope := pick _ (show scOf (inAt 6 8) = _ by conv => lhs; whnf)
noncomputable def o175 : Obj := pick _ (show ({ cls := Value.type "function", dict := none, data := .func { name := Str.ofString "part_count", qualname := Str.ofString "_Accumulator.part_count", params := p175, body := .stmts b175, scope := s175, globals := 3, closure := [(Str.ofString "__class__", 102)], defaults := Value.none, kwdefaults := Value.none, doc := Value.none, pyModule := Value.str (Str.ofString "cpy313.email.header") 194, annotations := none, code := Value.ref 174, closureTuple := Value.ref 168, builtins := 0 }, slots := #[] } : Obj) = _ by dsimp only [p175, b175, s175, pick])
noncomputable def o176 : Obj := { cls := Value.type "tuple", data := Data.seq #[Value.str (Str.ofString "_initial_size") 396] }
noncomputable def o177 (P : Params) : Obj := { cls := Value.type "dict", data := Data.dict #[{ hash := PyData.keyHash P (Str.ofString "__module__"), key := Value.str (Str.ofString "__module__") 317, val := Value.str (Str.ofString "cpy313.email.header") 194 }, { hash := PyData.keyHash P (Str.ofString "__firstlineno__"), key := Value.str (Str.ofString "__firstlineno__") 321, val := Value.int 74 320 }, { hash := PyData.keyHash P (Str.ofString "__init__"), key := Value.str (Str.ofString "__init__") 331, val := Value.ref 115 }, { hash := PyData.keyHash P (Str.ofString "push"), key := Value.str (Str.ofString "push") 340, val := Value.ref 122 }, { hash := PyData.keyHash P (Str.ofString "pop_from"), key := Value.str (Str.ofString "pop_from") 350, val := Value.ref 130 }, { hash := PyData.keyHash P (Str.ofString "pop"), key := Value.str (Str.ofString "pop") 358, val := Value.ref 138 }, { hash := PyData.keyHash P (Str.ofString "__len__"), key := Value.str (Str.ofString "__len__") 365, val := Value.ref 145 }, { hash := PyData.keyHash P (Str.ofString "__str__"), key := Value.str (Str.ofString "__str__") 372, val := Value.ref 152 }, { hash := PyData.keyHash P (Str.ofString "reset"), key := Value.str (Str.ofString "reset") 380, val := Value.ref 160 }, { hash := PyData.keyHash P (Str.ofString "is_onlyws"), key := Value.str (Str.ofString "is_onlyws") 387, val := Value.ref 167 }, { hash := PyData.keyHash P (Str.ofString "part_count"), key := Value.str (Str.ofString "part_count") 395, val := Value.ref 175 }, { hash := PyData.keyHash P (Str.ofString "__static_attributes__"), key := Value.str (Str.ofString "__static_attributes__") 397, val := Value.ref 176 }, { hash := PyData.keyHash P (Str.ofString "__dict__"), key := Value.str (Str.ofString "__dict__") 400, val := Value.ref 179 }, { hash := PyData.keyHash P (Str.ofString "__weakref__"), key := Value.str (Str.ofString "__weakref__") 402, val := Value.ref 180 }, { hash := PyData.keyHash P (Str.ofString "__doc__"), key := Value.str (Str.ofString "__doc__") 403, val := Value.none }] 5 }
noncomputable def o178 : Obj := { cls := Value.type "type", data := Data.cls { name := Str.ofString "_Accumulator", bases := [Value.type "list"], mro := [Value.ref 178, Value.type "list", Value.type "object"], ns := 177, qualname := Str.ofString "_Accumulator" }, slots := #[some (Value.ref 99), none, some (Value.str (Str.ofString "_Accumulator") 310), some (Value.str (Str.ofString "_Accumulator") 318), some (Value.builtin "list.__new__"), some (Value.bool true)] }
noncomputable def o179 : Obj := { cls := Value.type "getset_descriptor", data := Data.fields #[Value.str (Str.ofString "__dict__") 399, Value.ref 178, Value.builtin "function.__dict__", Value.builtin "function.__dict__#set"] }
noncomputable def o180 : Obj := { cls := Value.type "getset_descriptor", data := Data.fields #[Value.str (Str.ofString "__weakref__") 401, Value.ref 178, Value.builtin "ExceptionGroup.__weakref__", Value.none] }
noncomputable def o183 : Obj := { cls := Value.type "tuple", data := Data.seq #[] }
noncomputable def o185 : Obj := { cls := Value.type "tuple", data := Data.seq #[Value.str (Str.ofString "linestarts") 413, Value.str (Str.ofString "maxlineno") 414, Value.str (Str.ofString "lineno_width") 415] }
noncomputable def o186 : Obj := { cls := Value.type "tuple", data := Data.seq #[] }
noncomputable def o188 : Obj := { cls := Value.type "code", data := Data.fields #[Value.str (Str.ofString "_get_lineno_width") 410, Value.str (Str.ofString "_get_lineno_width") 411, Value.str (Str.ofString "/claim/cut.py") 412, Value.int 112 0, Value.int 1 0, Value.int 0 0, Value.int 0 0, Value.int 3 0, Value.ref 183, Value.bool true, Value.int 181 0, Value.ref 184, Value.none, Value.ref 185, Value.ref 186, Value.ref 187, Value.int 416 0, Value.int 112 0, Value.str (Str.ofString "/claim/cut.py") 417] }
noncomputable def p189 : Arguments := pick _ (show psOf (topAt 9) = _ by conv => lhs; whnf)
noncomputable def b189 : List Stmt := pick _ (show bdOf (topAt 9) = _ by conv => lhs; whnf)
noncomputable def s189 : Scope := pick _ (show scOf (topAt 9) = _ by conv => lhs; whnf)
noncomputable def o189 : Obj := pick _ (show ({ cls := Value.type "function", dict := none, data := .func { name := Str.ofString "_get_lineno_width", qualname := Str.ofString "_get_lineno_width", params := p189, body := .stmts b189, scope := s189, globals := 3, closure := [], defaults := Value.none, kwdefaults := Value.none, doc := Value.none, pyModule := Value.str (Str.ofString "cpy313.dis") 406, annotations := none, code := Value.ref 188, closureTuple := Value.none, builtins := 0 }, slots := #[] } : Obj) = _ by dsimp only [p189, b189, s189, pick])
noncomputable def o197 : Obj := { cls := Value.type "tuple", data := Data.seq #[Value.none] }
noncomputable def o198 : Obj := { cls := Value.type "tuple", data := Data.seq #[] }
noncomputable def o200 : Obj := { cls := Value.type "tuple", data := Data.seq #[Value.str (Str.ofString "self") 436, Value.str (Str.ofString "text_or_uri") 437, Value.str (Str.ofString "tag") 438] }
noncomputable def o201 : Obj := { cls := Value.type "tuple", data := Data.seq #[] }
noncomputable def o203 : Obj := { cls := Value.type "code", data := Data.fields #[Value.str (Str.ofString "__init__") 433, Value.str (Str.ofString "QName.__init__") 434, Value.str (Str.ofString "/claim/cut.py") 435, Value.int 125 0, Value.int 3 0, Value.int 0 0, Value.int 0 0, Value.int 3 0, Value.ref 198, Value.bool true, Value.int 181 0, Value.ref 199, Value.none, Value.ref 200, Value.ref 201, Value.ref 202, Value.int 439 0, Value.int 125 0, Value.str (Str.ofString "/claim/cut.py") 440] }
noncomputable def p204 : Arguments := pick _ (show psOf (inAt 11 0) = _ by conv => lhs; whnf)
noncomputable def b204 : List Stmt := pick _ (show bdOf (inAt 11 0) = _ by conv => lhs; whnf)
noncomputable def s204 : Scope := pick _ (show scOf (inAt 11 0) = _ by conv => lhs; whnf)
noncomputable def o204 : Obj := pick _ (show ({ cls := Value.type "function", dict := none, data := .func { name := Str.ofString "__init__", qualname := Str.ofString "QName.__init__", params := p204, body := .stmts b204, scope := s204, globals := 3, closure := [], defaults := Value.ref 197, kwdefaults := Value.none, doc := Value.none, pyModule := Value.str (Str.ofString "cpy313.xml.etree.ElementTree") 419, annotations := none, code := Value.ref 203, closureTuple := Value.none, builtins := 0 }, slots := #[] } : Obj) = _ by dsimp only [p204, b204, s204, pick])
noncomputable def o205 : Obj := { cls := Value.type "tuple", data := Data.seq #[] }
noncomputable def o207 : Obj := { cls := Value.type "tuple", data := Data.seq #[Value.str (Str.ofString "self") 445] }
noncomputable def o208 : Obj := { cls := Value.type "tuple", data := Data.seq #[] }
noncomputable def o210 : Obj := { cls := Value.type "code", data := Data.fields #[Value.str (Str.ofString "__str__") 442, Value.str (Str.ofString "QName.__str__") 443, Value.str (Str.ofString "/claim/cut.py") 444, Value.int 130 0, Value.int 1 0, Value.int 0 0, Value.int 0 0, Value.int 3 0, Value.ref 205, Value.bool true, Value.int 181 0, Value.ref 206, Value.none, Value.ref 207, Value.ref 208, Value.ref 209, Value.int 446 0, Value.int 130 0, Value.str (Str.ofString "/claim/cut.py") 447] }
noncomputable def p211 : Arguments := pick _ (show psOf (inAt 11 1) = _ by conv => lhs; whnf)
noncomputable def b211 : List Stmt := pick _ (show bdOf (inAt 11 1) = _ by conv => lhs; whnf)
noncomputable def s211 : Scope := pick _ (show scOf (inAt 11 1) = _ by conv => lhs; whnf)
noncomputable def o211 : Obj := pick _ (show ({ cls := Value.type "function", dict := none, data := .func { name := Str.ofString "__str__", qualname := Str.ofString "QName.__str__", params := p211, body := .stmts b211, scope := s211, globals := 3, closure := [], defaults := Value.none, kwdefaults := Value.none, doc := Value.none, pyModule := Value.str (Str.ofString "cpy313.xml.etree.ElementTree") 419, annotations := none, code := Value.ref 210, closureTuple := Value.none, builtins := 0 }, slots := #[] } : Obj) = _ by dsimp only [p211, b211, s211, pick])
noncomputable def o212 : Obj := { cls := Value.type "tuple", data := Data.seq #[] }
noncomputable def o214 : Obj := { cls := Value.type "tuple", data := Data.seq #[Value.str (Str.ofString "self") 452] }
noncomputable def o215 : Obj := { cls := Value.type "tuple", data := Data.seq #[] }
noncomputable def o217 : Obj := { cls := Value.type "code", data := Data.fields #[Value.str (Str.ofString "__repr__") 449, Value.str (Str.ofString "QName.__repr__") 450, Value.str (Str.ofString "/claim/cut.py") 451, Value.int 133 0, Value.int 1 0, Value.int 0 0, Value.int 0 0, Value.int 3 0, Value.ref 212, Value.bool true, Value.int 181 0, Value.ref 213, Value.none, Value.ref 214, Value.ref 215, Value.ref 216, Value.int 453 0, Value.int 133 0, Value.str (Str.ofString "/claim/cut.py") 454] }
noncomputable def p218 : Arguments := pick _ (show psOf (inAt 11 2) = _ by conv => lhs; whnf)
noncomputable def b218 : List Stmt := pick _ (show bdOf (inAt 11 2) = _ by conv => lhs; whnf)
noncomputable def s218 : Scope := pick _ (show scOf (inAt 11 2) = _ by conv => lhs; whnf)
noncomputable def o218 : Obj := pick _ (show ({ cls := Value.type "function", dict := none, data := .func { name := Str.ofString "__repr__", qualname := Str.ofString "QName.__repr__", params := p218, body := .stmts b218, scope := s218, globals := 3, closure := [], defaults := Value.none, kwdefaults := Value.none, doc := Value.none, pyModule := Value.str (Str.ofString "cpy313.xml.etree.ElementTree") 419, annotations := none, code := Value.ref 217, closureTuple := Value.none, builtins := 0 }, slots := #[] } : Obj) = _ by dsimp only [p218, b218, s218, pick])
noncomputable def o219 : Obj := { cls := Value.type "tuple", data := Data.seq #[] }
noncomputable def o221 : Obj := { cls := Value.type "tuple", data := Data.seq #[Value.str (Str.ofString "self") 459] }
noncomputable def o222 : Obj := { cls := Value.type "tuple", data := Data.seq #[] }
noncomputable def o224 : Obj := { cls := Value.type "code", data := Data.fields #[Value.str (Str.ofString "__hash__") 456, Value.str (Str.ofString "QName.__hash__") 457, Value.str (Str.ofString "/claim/cut.py") 458, Value.int 136 0, Value.int 1 0, Value.int 0 0, Value.int 0 0, Value.int 3 0, Value.ref 219, Value.bool true, Value.int 181 0, Value.ref 220, Value.none, Value.ref 221, Value.ref 222, Value.ref 223, Value.int 460 0, Value.int 136 0, Value.str (Str.ofString "/claim/cut.py") 461] }
noncomputable def p225 : Arguments := pick _ (show psOf (inAt 11 3) = _ by conv => lhs; whnf)
noncomputable def b225 : List Stmt := pick _ (show bdOf (inAt 11 3) = _ by conv => lhs; whnf)
noncomputable def s225 : Scope := pick _ (show scOf (inAt 11 3) = _ by conv => lhs; whnf)
noncomputable def o225 : Obj := pick _ (show ({ cls := Value.type "function", dict := none, data := .func { name := Str.ofString "__hash__", qualname := Str.ofString "QName.__hash__", params := p225, body := .stmts b225, scope := s225, globals := 3, closure := [], defaults := Value.none, kwdefaults := Value.none, doc := Value.none, pyModule := Value.str (Str.ofString "cpy313.xml.etree.ElementTree") 419, annotations := none, code := Value.ref 224, closureTuple := Value.none, builtins := 0 }, slots := #[] } : Obj) = _ by dsimp only [p225, b225, s225, pick])
noncomputable def o226 : Obj := { cls := Value.type "tuple", data := Data.seq #[] }
noncomputable def o228 : Obj := { cls := Value.type "tuple", data := Data.seq #[Value.str (Str.ofString "self") 466, Value.str (Str.ofString "other") 467] }
noncomputable def o229 : Obj := { cls := Value.type "tuple", data := Data.seq #[] }
noncomputable def o231 : Obj := { cls := Value.type "code", data := Data.fields #[Value.str (Str.ofString "__le__") 463, Value.str (Str.ofString "QName.__le__") 464, Value.str (Str.ofString "/claim/cut.py") 465, Value.int 139 0, Value.int 2 0, Value.int 0 0, Value.int 0 0, Value.int 3 0, Value.ref 226, Value.bool true, Value.int 181 0, Value.ref 227, Value.none, Value.ref 228, Value.ref 229, Value.ref 230, Value.int 468 0, Value.int 139 0, Value.str (Str.ofString "/claim/cut.py") 469] }
noncomputable def p232 : Arguments := pick _ (show psOf (inAt 11 4) = _ by conv => lhs; whnf)
noncomputable def b232 : List Stmt := pick _ (show bdOf (inAt 11 4) = _ by conv => lhs; whnf)
noncomputable def s232 : Scope := pick _ (show scOf (inAt 11 4) = _ by conv => lhs; whnf)
noncomputable def o232 : Obj := pick _ (show ({ cls := Value.type "function", dict := none, data := .func { name := Str.ofString "__le__", qualname := Str.ofString "QName.__le__", params := p232, body := .stmts b232, scope := s232, globals := 3, closure := [], defaults := Value.none, kwdefaults := Value.none, doc := Value.none, pyModule := Value.str (Str.ofString "cpy313.xml.etree.ElementTree") 419, annotations := none, code := Value.ref 231, closureTuple := Value.none, builtins := 0 }, slots := #[] } : Obj) = _ by dsimp only [p232, b232, s232, pick])
noncomputable def o233 : Obj := { cls := Value.type "tuple", data := Data.seq #[] }
noncomputable def o235 : Obj := { cls := Value.type "tuple", data := Data.seq #[Value.str (Str.ofString "self") 474, Value.str (Str.ofString "other") 475] }
noncomputable def o236 : Obj := { cls := Value.type "tuple", data := Data.seq #[] }
noncomputable def o238 : Obj := { cls := Value.type "code", data := Data.fields #[Value.str (Str.ofString "__lt__") 471, Value.str (Str.ofString "QName.__lt__") 472, Value.str (Str.ofString "/claim/cut.py") 473, Value.int 144 0, Value.int 2 0, Value.int 0 0, Value.int 0 0, Value.int 3 0, Value.ref 233, Value.bool true, Value.int 181 0, Value.ref 234, Value.none, Value.ref 235, Value.ref 236, Value.ref 237, Value.int 476 0, Value.int 144 0, Value.str (Str.ofString "/claim/cut.py") 477] }
noncomputable def p239 : Arguments := pick _ (show psOf (inAt 11 5) = _ by conv => lhs; whnf)
noncomputable def b239 : List Stmt := pick _ (show bdOf (inAt 11 5) = _ by conv => lhs; whnf)
noncomputable def s239 : Scope := pick _ (show scOf (inAt 11 5) = _ by conv => lhs; whnf)
noncomputable def o239 : Obj := pick _ (show ({ cls := Value.type "function", dict := none, data := .func { name := Str.ofString "__lt__", qualname := Str.ofString "QName.__lt__", params := p239, body := .stmts b239, scope := s239, globals := 3, closure := [], defaults := Value.none, kwdefaults := Value.none, doc := Value.none, pyModule := Value.str (Str.ofString "cpy313.xml.etree.ElementTree") 419, annotations := none, code := Value.ref 238, closureTuple := Value.none, builtins := 0 }, slots := #[] } : Obj) = _ by dsimp only [p239, b239, s239, pick])
noncomputable def o240 : Obj := { cls := Value.type "tuple", data := Data.seq #[] }
noncomputable def o242 : Obj := { cls := Value.type "tuple", data := Data.seq #[Value.str (Str.ofString "self") 482, Value.str (Str.ofString "other") 483] }
noncomputable def o243 : Obj := { cls := Value.type "tuple", data := Data.seq #[] }
noncomputable def o245 : Obj := { cls := Value.type "code", data := Data.fields #[Value.str (Str.ofString "__ge__") 479, Value.str (Str.ofString "QName.__ge__") 480, Value.str (Str.ofString "/claim/cut.py") 481, Value.int 149 0, Value.int 2 0, Value.int 0 0, Value.int 0 0, Value.int 3 0, Value.ref 240, Value.bool true, Value.int 181 0, Value.ref 241, Value.none, Value.ref 242, Value.ref 243, Value.ref 244, Value.int 484 0, Value.int 149 0, Value.str (Str.ofString "/claim/cut.py") 485] }
noncomputable def p246 : Arguments := pick _ (show psOf (inAt 11 6) = _ by conv => lhs; whnf)
noncomputable def b246 : List Stmt := pick _ (show bdOf (inAt 11 6) = _ by conv => lhs; whnf)
noncomputable def s246 : Scope := pick _ (show scOf (inAt 11 6) = _ by conv => lhs; whnf)
noncomputable def o246 : Obj := pick _ (show ({ cls := Value.type "function", dict := none, data := .func { name := Str.ofString "__ge__", qualname := Str.ofString "QName.__ge__", params := p246, body := .stmts b246, scope := s246, globals := 3, closure := [], defaults := Value.none, kwdefaults := Value.none, doc := Value.none, pyModule := Value.str (Str.ofString "cpy313.xml.etree.ElementTree") 419, annotations := none, code := Value.ref 245, closureTuple := Value.none, builtins := 0 }, slots := #[] } : Obj) = _ by dsimp only [p246, b246, s246, pick])
noncomputable def o247 : Obj := { cls := Value.type "tuple", data := Data.seq #[] }
noncomputable def o249 : Obj := { cls := Value.type "tuple", data := Data.seq #[Value.str (Str.ofString "self") 490, Value.str (Str.ofString "other") 491] }
noncomputable def o250 : Obj := { cls := Value.type "tuple", data := Data.seq #[] }
noncomputable def o252 : Obj := { cls := Value.type "code", data := Data.fields #[Value.str (Str.ofString "__gt__") 487, Value.str (Str.ofString "QName.__gt__") 488, Value.str (Str.ofString "/claim/cut.py") 489, Value.int 154 0, Value.int 2 0, Value.int 0 0, Value.int 0 0, Value.int 3 0, Value.ref 247, Value.bool true, Value.int 181 0, Value.ref 248, Value.none, Value.ref 249, Value.ref 250, Value.ref 251, Value.int 492 0, Value.int 154 0, Value.str (Str.ofString "/claim/cut.py") 493] }
noncomputable def p253 : Arguments := pick _ (show psOf (inAt 11 7) = _ by conv => lhs; whnf)
noncomputable def b253 : List Stmt := pick _ (show bdOf (inAt 11 7) = _ by conv => lhs; whnf)
noncomputable def s253 : Scope := pick _ (show scOf (inAt 11 7) = _ by conv => lhs; whnf)
noncomputable def o253 : Obj := pick _ (show ({ cls := Value.type "function", dict := none, data := .func { name := Str.ofString "__gt__", qualname := Str.ofString "QName.__gt__", params := p253, body := .stmts b253, scope := s253, globals := 3, closure := [], defaults := Value.none, kwdefaults := Value.none, doc := Value.none, pyModule := Value.str (Str.ofString "cpy313.xml.etree.ElementTree") 419, annotations := none, code := Value.ref 252, closureTuple := Value.none, builtins := 0 }, slots := #[] } : Obj) = _ by dsimp only [p253, b253, s253, pick])
noncomputable def o254 : Obj := { cls := Value.type "tuple", data := Data.seq #[] }
noncomputable def o256 : Obj := { cls := Value.type "tuple", data := Data.seq #[Value.str (Str.ofString "self") 498, Value.str (Str.ofString "other") 499] }
noncomputable def o257 : Obj := { cls := Value.type "tuple", data := Data.seq #[] }
noncomputable def o259 : Obj := { cls := Value.type "code", data := Data.fields #[Value.str (Str.ofString "__eq__") 495, Value.str (Str.ofString "QName.__eq__") 496, Value.str (Str.ofString "/claim/cut.py") 497, Value.int 159 0, Value.int 2 0, Value.int 0 0, Value.int 0 0, Value.int 3 0, Value.ref 254, Value.bool true, Value.int 181 0, Value.ref 255, Value.none, Value.ref 256, Value.ref 257, Value.ref 258, Value.int 500 0, Value.int 159 0, Value.str (Str.ofString "/claim/cut.py") 501] }
noncomputable def p260 : Arguments := pick _ (show psOf (inAt 11 8) = _ by conv => lhs; whnf)
noncomputable def b260 : List Stmt := pick _ (show bdOf (inAt 11 8) = _ by conv => lhs; whnf)
noncomputable def s260 : Scope := pick _ (show scOf (inAt 11 8) = _ by conv => lhs; whnf)
noncomputable def o260 : Obj := pick _ (show ({ cls := Value.type "function", dict := none, data := .func { name := Str.ofString "__eq__", qualname := Str.ofString "QName.__eq__", params := p260, body := .stmts b260, scope := s260, globals := 3, closure := [], defaults := Value.none, kwdefaults := Value.none, doc := Value.none, pyModule := Value.str (Str.ofString "cpy313.xml.etree.ElementTree") 419, annotations := none, code := Value.ref 259, closureTuple := Value.none, builtins := 0 }, slots := #[] } : Obj) = _ by dsimp only [p260, b260, s260, pick])
noncomputable def o261 : Obj := { cls := Value.type "tuple", data := Data.seq #[Value.str (Str.ofString "text") 503] }
noncomputable def o262 (P : Params) : Obj := { cls := Value.type "dict", data := Data.dict #[{ hash := PyData.keyHash P (Str.ofString "__module__"), key := Value.str (Str.ofString "__module__") 428, val := Value.str (Str.ofString "cpy313.xml.etree.ElementTree") 419 }, { hash := PyData.keyHash P (Str.ofString "__firstlineno__"), key := Value.str (Str.ofString "__firstlineno__") 432, val := Value.int 123 431 }, { hash := PyData.keyHash P (Str.ofString "__init__"), key := Value.str (Str.ofString "__init__") 441, val := Value.ref 204 }, { hash := PyData.keyHash P (Str.ofString "__str__"), key := Value.str (Str.ofString "__str__") 448, val := Value.ref 211 }, { hash := PyData.keyHash P (Str.ofString "__repr__"), key := Value.str (Str.ofString "__repr__") 455, val := Value.ref 218 }, { hash := PyData.keyHash P (Str.ofString "__hash__"), key := Value.str (Str.ofString "__hash__") 462, val := Value.ref 225 }, { hash := PyData.keyHash P (Str.ofString "__le__"), key := Value.str (Str.ofString "__le__") 470, val := Value.ref 232 }, { hash := PyData.keyHash P (Str.ofString "__lt__"), key := Value.str (Str.ofString "__lt__") 478, val := Value.ref 239 }, { hash := PyData.keyHash P (Str.ofString "__ge__"), key := Value.str (Str.ofString "__ge__") 486, val := Value.ref 246 }, { hash := PyData.keyHash P (Str.ofString "__gt__"), key := Value.str (Str.ofString "__gt__") 494, val := Value.ref 253 }, { hash := PyData.keyHash P (Str.ofString "__eq__"), key := Value.str (Str.ofString "__eq__") 502, val := Value.ref 260 }, { hash := PyData.keyHash P (Str.ofString "__static_attributes__"), key := Value.str (Str.ofString "__static_attributes__") 504, val := Value.ref 261 }, { hash := PyData.keyHash P (Str.ofString "__dict__"), key := Value.str (Str.ofString "__dict__") 506, val := Value.ref 264 }, { hash := PyData.keyHash P (Str.ofString "__weakref__"), key := Value.str (Str.ofString "__weakref__") 508, val := Value.ref 265 }, { hash := PyData.keyHash P (Str.ofString "__doc__"), key := Value.str (Str.ofString "__doc__") 509, val := Value.none }] 4 }
noncomputable def o263 : Obj := { cls := Value.type "type", data := Data.cls { name := Str.ofString "QName", bases := [Value.type "object"], mro := [Value.ref 263, Value.type "object"], ns := 262, qualname := Str.ofString "QName" }, slots := #[none, none, some (Value.str (Str.ofString "QName") 421), some (Value.str (Str.ofString "QName") 429), some (Value.builtin "object.__new__"), some (Value.bool true)] }
noncomputable def o264 : Obj := { cls := Value.type "getset_descriptor", data := Data.fields #[Value.str (Str.ofString "__dict__") 505, Value.ref 263, Value.builtin "function.__dict__", Value.builtin "function.__dict__#set"] }
noncomputable def o265 : Obj := { cls := Value.type "getset_descriptor", data := Data.fields #[Value.str (Str.ofString "__weakref__") 507, Value.ref 263, Value.builtin "ExceptionGroup.__weakref__", Value.none] }
noncomputable def o268 : Obj := { cls := Value.type "tuple", data := Data.seq #[] }
noncomputable def o270 : Obj := { cls := Value.type "tuple", data := Data.seq #[Value.str (Str.ofString "number") 517, Value.str (Str.ofString "count") 518] }
noncomputable def o271 : Obj := { cls := Value.type "tuple", data := Data.seq #[] }
noncomputable def o273 : Obj := { cls := Value.type "code", data := Data.fields #[Value.str (Str.ofString "_law_figures") 514, Value.str (Str.ofString "_law_figures") 515, Value.str (Str.ofString "/claim/cut.py") 516, Value.int 164 0, Value.int 1 0, Value.int 0 0, Value.int 0 0, Value.int 3 0, Value.ref 268, Value.bool true, Value.int 181 0, Value.ref 269, Value.none, Value.ref 270, Value.ref 271, Value.ref 272, Value.int 519 0, Value.int 164 0, Value.str (Str.ofString "/claim/cut.py") 520] }
noncomputable def p274 : Arguments := pick _ (show psOf (topAt 13) = _ by conv => lhs; whnf)
noncomputable def b274 : List Stmt := pick _ (show bdOf (topAt 13) = _ by conv => lhs; whnf)
noncomputable def s274 : Scope := pick _ (show scOf (topAt 13) = _ by conv => lhs; whnf)
noncomputable def o274 : Obj := pick _ (show ({ cls := Value.type "function", dict := none, data := .func { name := Str.ofString "_law_figures", qualname := Str.ofString "_law_figures", params := p274, body := .stmts b274, scope := s274, globals := 3, closure := [], defaults := Value.none, kwdefaults := Value.none, doc := Value.none, pyModule := Value.str (Str.ofString "law_yh0022_02") 512, annotations := none, code := Value.ref 273, closureTuple := Value.none, builtins := 0 }, slots := #[] } : Obj) = _ by dsimp only [p274, b274, s274, pick])
noncomputable def o275 : Obj := { cls := Value.type "tuple", data := Data.seq #[] }
noncomputable def o277 : Obj := { cls := Value.type "tuple", data := Data.seq #[Value.str (Str.ofString "number") 525] }
noncomputable def o278 : Obj := { cls := Value.type "tuple", data := Data.seq #[] }
noncomputable def o280 : Obj := { cls := Value.type "code", data := Data.fields #[Value.str (Str.ofString "_law_is_pure") 522, Value.str (Str.ofString "_law_is_pure") 523, Value.str (Str.ofString "/claim/cut.py") 524, Value.int 170 0, Value.int 1 0, Value.int 0 0, Value.int 0 0, Value.int 3 0, Value.ref 275, Value.bool true, Value.int 181 0, Value.ref 276, Value.none, Value.ref 277, Value.ref 278, Value.ref 279, Value.int 526 0, Value.int 170 0, Value.str (Str.ofString "/claim/cut.py") 527] }
noncomputable def p281 : Arguments := pick _ (show psOf (topAt 14) = _ by conv => lhs; whnf)
noncomputable def b281 : List Stmt := pick _ (show bdOf (topAt 14) = _ by conv => lhs; whnf)
noncomputable def s281 : Scope := pick _ (show scOf (topAt 14) = _ by conv => lhs; whnf)
noncomputable def o281 : Obj := pick _ (show ({ cls := Value.type "function", dict := none, data := .func { name := Str.ofString "_law_is_pure", qualname := Str.ofString "_law_is_pure", params := p281, body := .stmts b281, scope := s281, globals := 3, closure := [], defaults := Value.none, kwdefaults := Value.none, doc := Value.none, pyModule := Value.str (Str.ofString "law_yh0022_02") 512, annotations := none, code := Value.ref 280, closureTuple := Value.none, builtins := 0 }, slots := #[] } : Obj) = _ by dsimp only [p281, b281, s281, pick])
noncomputable def o282 : Obj := { cls := Value.type "tuple", data := Data.seq #[] }
noncomputable def o285 : Obj := { cls := Value.type "code", data := Data.fields #[Value.str (Str.ofString "_law_by_names") 529, Value.str (Str.ofString "_law_by_names") 530, Value.str (Str.ofString "/claim/cut.py") 531, Value.int 172 0, Value.int 1 0, Value.int 0 0, Value.int 0 0, Value.int 3 0, Value.ref 282, Value.bool true, Value.int 181 0, Value.ref 283, Value.none, Value.none, Value.none, Value.ref 284, Value.int 532 0, Value.int 172 0, Value.str (Str.ofString "/claim/cut.py") 533] }
noncomputable def p286 : Arguments := pick _ (show psOf (topAt 15) = _ by conv => lhs; whnf)
noncomputable def b286 : List Stmt := pick _ (show bdOf (topAt 15) = _ by conv => lhs; whnf)
noncomputable def s286 : Scope := pick _ (show scOf (topAt 15) = _ by conv => lhs; whnf)
noncomputable def o286 : Obj := pick _ (show ({ cls := Value.type "function", dict := none, data := .func { name := Str.ofString "_law_by_names", qualname := Str.ofString "_law_by_names", params := p286, body := .stmts b286, scope := s286, globals := 3, closure := [], defaults := Value.none, kwdefaults := Value.none, doc := Value.none, pyModule := Value.str (Str.ofString "law_yh0022_02") 512, annotations := none, code := Value.ref 285, closureTuple := Value.none, builtins := 0 }, slots := #[] } : Obj) = _ by dsimp only [p286, b286, s286, pick])
noncomputable def o287 : Obj := { cls := Value.type "tuple", data := Data.seq #[] }
noncomputable def o289 : Obj := { cls := Value.type "tuple", data := Data.seq #[Value.str (Str.ofString "longs") 538, Value.str (Str.ofString "shorts") 539, Value.str (Str.ofString "size") 540, Value.str (Str.ofString "width") 541, Value.str (Str.ofString "fill") 542, Value.str (Str.ofString "counts") 543, Value.str (Str.ofString "more") 544] }
noncomputable def o290 : Obj := { cls := Value.type "tuple", data := Data.seq #[] }
noncomputable def o292 : Obj := { cls := Value.type "code", data := Data.fields #[Value.str (Str.ofString "_law_counts") 535, Value.str (Str.ofString "_law_counts") 536, Value.str (Str.ofString "/claim/cut.py") 537, Value.int 177 0, Value.int 4 0, Value.int 0 0, Value.int 0 0, Value.int 3 0, Value.ref 287, Value.bool true, Value.int 181 0, Value.ref 288, Value.none, Value.ref 289, Value.ref 290, Value.ref 291, Value.int 545 0, Value.int 177 0, Value.str (Str.ofString "/claim/cut.py") 546] }
noncomputable def p293 : Arguments := pick _ (show psOf (topAt 16) = _ by conv => lhs; whnf)
noncomputable def b293 : List Stmt := pick _ (show bdOf (topAt 16) = _ by conv => lhs; whnf)
noncomputable def s293 : Scope := pick _ (show scOf (topAt 16) = _ by conv => lhs; whnf)
noncomputable def o293 : Obj := pick _ (show ({ cls := Value.type "function", dict := none, data := .func { name := Str.ofString "_law_counts", qualname := Str.ofString "_law_counts", params := p293, body := .stmts b293, scope := s293, globals := 3, closure := [], defaults := Value.none, kwdefaults := Value.none, doc := Value.none, pyModule := Value.str (Str.ofString "law_yh0022_02") 512, annotations := none, code := Value.ref 292, closureTuple := Value.none, builtins := 0 }, slots := #[] } : Obj) = _ by dsimp only [p293, b293, s293, pick])
noncomputable def o294 : Obj := { cls := Value.type "tuple", data := Data.seq #[] }
noncomputable def o297 : Obj := { cls := Value.type "code", data := Data.fields #[Value.str (Str.ofString "law") 548, Value.str (Str.ofString "law") 549, Value.str (Str.ofString "/claim/cut.py") 550, Value.int 191 0, Value.int 1 0, Value.int 0 0, Value.int 0 0, Value.int 3 0, Value.ref 294, Value.bool true, Value.int 181 0, Value.ref 295, Value.none, Value.none, Value.none, Value.ref 296, Value.int 551 0, Value.int 191 0, Value.str (Str.ofString "/claim/cut.py") 552] }
noncomputable def p298 : Arguments := pick _ (show psOf (topAt 17) = _ by conv => lhs; whnf)
noncomputable def b298 : List Stmt := pick _ (show bdOf (topAt 17) = _ by conv => lhs; whnf)
noncomputable def s298 : Scope := pick _ (show scOf (topAt 17) = _ by conv => lhs; whnf)
noncomputable def o298 : Obj := pick _ (show ({ cls := Value.type "function", dict := none, data := .func { name := Str.ofString "law", qualname := Str.ofString "law", params := p298, body := .stmts b298, scope := s298, globals := 3, closure := [], defaults := Value.none, kwdefaults := Value.none, doc := Value.none, pyModule := Value.str (Str.ofString "law_yh0022_02") 512, annotations := none, code := Value.ref 297, closureTuple := Value.none, builtins := 0 }, slots := #[] } : Obj) = _ by dsimp only [p298, b298, s298, pick])
noncomputable def heapK : Params → Frag := fun P => (nat_lit 2, o2) :: (nat_lit 3, o3 P) :: (nat_lit 15, o15) :: (nat_lit 17, o17) :: (nat_lit 18, o18) :: (nat_lit 20, o20) :: (nat_lit 21, o21) :: (nat_lit 29, o29) :: (nat_lit 31, o31) :: (nat_lit 32, o32) :: (nat_lit 34, o34) :: (nat_lit 35, o35) :: (nat_lit 36, o36) :: (nat_lit 38, o38) :: (nat_lit 39, o39) :: (nat_lit 41, o41) :: (nat_lit 42, o42) :: (nat_lit 43, o43) :: (nat_lit 45, o45) :: (nat_lit 46, o46) :: (nat_lit 48, o48) :: (nat_lit 49, o49) :: (nat_lit 50, o50) :: (nat_lit 52, o52) :: (nat_lit 53, o53) :: (nat_lit 55, o55) :: (nat_lit 56, o56) :: (nat_lit 57, o57) :: (nat_lit 59, o59) :: (nat_lit 60, o60) :: (nat_lit 62, o62) :: (nat_lit 63, o63) :: (nat_lit 64, o64) :: (nat_lit 66, o66) :: (nat_lit 67, o67) :: (nat_lit 69, o69) :: (nat_lit 70, o70) :: (nat_lit 71, o71) :: (nat_lit 73, o73) :: (nat_lit 74, o74) :: (nat_lit 76, o76) :: (nat_lit 77, o77) :: (nat_lit 78, o78) :: (nat_lit 80, o80) :: (nat_lit 81, o81) :: (nat_lit 83, o83) :: (nat_lit 84, o84) :: (nat_lit 85, o85) :: (nat_lit 87, o87) :: (nat_lit 88, o88) :: (nat_lit 90, o90) :: (nat_lit 91, o91) :: (nat_lit 92, o92) :: (nat_lit 93, o93 P) :: (nat_lit 94, o94) :: (nat_lit 95, o95) :: (nat_lit 96, o96) :: (nat_lit 99, o99) :: (nat_lit 102, o102) :: (nat_lit 107, o107) :: (nat_lit 108, o108) :: (nat_lit 109, o109) :: (nat_lit 111, o111) :: (nat_lit 112, o112) :: (nat_lit 114, o114) :: (nat_lit 115, o115) :: (nat_lit 116, o116) :: (nat_lit 118, o118) :: (nat_lit 119, o119) :: (nat_lit 121, o121) :: (nat_lit 122, o122) :: (nat_lit 123, o123) :: (nat_lit 124, o124) :: (nat_lit 126, o126) :: (nat_lit 127, o127) :: (nat_lit 129, o129) :: (nat_lit 130, o130) :: (nat_lit 131, o131) :: (nat_lit 132, o132) :: (nat_lit 134, o134) :: (nat_lit 135, o135) :: (nat_lit 137, o137) :: (nat_lit 138, o138) :: (nat_lit 139, o139) :: (nat_lit 141, o141) :: (nat_lit 142, o142) :: (nat_lit 144, o144) :: (nat_lit 145, o145) :: (nat_lit 146, o146) :: (nat_lit 148, o148) :: (nat_lit 149, o149) :: (nat_lit 151, o151) :: (nat_lit 152, o152) :: (nat_lit 153, o153) :: (nat_lit 154, o154) :: (nat_lit 156, o156) :: (nat_lit 157, o157) :: (nat_lit 159, o159) :: (nat_lit 160, o160) :: (nat_lit 161, o161) :: (nat_lit 163, o163) :: (nat_lit 164, o164) :: (nat_lit 166, o166) :: (nat_lit 167, o167) :: (nat_lit 168, o168) :: (nat_lit 169, o169) :: (nat_lit 171, o171) :: (nat_lit 172, o172) :: (nat_lit 174, o174) :: (nat_lit 175, o175) :: (nat_lit 176, o176) :: (nat_lit 177, o177 P) :: (nat_lit 178, o178) :: (nat_lit 179, o179) :: (nat_lit 180, o180) :: (nat_lit 183, o183) :: (nat_lit 185, o185) :: (nat_lit 186, o186) :: (nat_lit 188, o188) :: (nat_lit 189, o189) :: (nat_lit 197, o197) :: (nat_lit 198, o198) :: (nat_lit 200, o200) :: (nat_lit 201, o201) :: (nat_lit 203, o203) :: (nat_lit 204, o204) :: (nat_lit 205, o205) :: (nat_lit 207, o207) :: (nat_lit 208, o208) :: (nat_lit 210, o210) :: (nat_lit 211, o211) :: (nat_lit 212, o212) :: (nat_lit 214, o214) :: (nat_lit 215, o215) :: (nat_lit 217, o217) :: (nat_lit 218, o218) :: (nat_lit 219, o219) :: (nat_lit 221, o221) :: (nat_lit 222, o222) :: (nat_lit 224, o224) :: (nat_lit 225, o225) :: (nat_lit 226, o226) :: (nat_lit 228, o228) :: (nat_lit 229, o229) :: (nat_lit 231, o231) :: (nat_lit 232, o232) :: (nat_lit 233, o233) :: (nat_lit 235, o235) :: (nat_lit 236, o236) :: (nat_lit 238, o238) :: (nat_lit 239, o239) :: (nat_lit 240, o240) :: (nat_lit 242, o242) :: (nat_lit 243, o243) :: (nat_lit 245, o245) :: (nat_lit 246, o246) :: (nat_lit 247, o247) :: (nat_lit 249, o249) :: (nat_lit 250, o250) :: (nat_lit 252, o252) :: (nat_lit 253, o253) :: (nat_lit 254, o254) :: (nat_lit 256, o256) :: (nat_lit 257, o257) :: (nat_lit 259, o259) :: (nat_lit 260, o260) :: (nat_lit 261, o261) :: (nat_lit 262, o262 P) :: (nat_lit 263, o263) :: (nat_lit 264, o264) :: (nat_lit 265, o265) :: (nat_lit 268, o268) :: (nat_lit 270, o270) :: (nat_lit 271, o271) :: (nat_lit 273, o273) :: (nat_lit 274, o274) :: (nat_lit 275, o275) :: (nat_lit 277, o277) :: (nat_lit 278, o278) :: (nat_lit 280, o280) :: (nat_lit 281, o281) :: (nat_lit 282, o282) :: (nat_lit 285, o285) :: (nat_lit 286, o286) :: (nat_lit 287, o287) :: (nat_lit 289, o289) :: (nat_lit 290, o290) :: (nat_lit 292, o292) :: (nat_lit 293, o293) :: (nat_lit 294, o294) :: (nat_lit 297, o297) :: (nat_lit 298, o298) :: []
/- TOPA2_2k -/
noncomputable abbrev HK : Hook := kmHook heapK [2, 3, 15, 17, 18, 20, 21, 29, 31, 32, 34, 35, 36, 38, 39, 41, 42, 43, 45, 46, 48, 49, 50, 52, 53, 55, 56, 57, 59, 60, 62, 63, 64, 66, 67, 69, 70, 71, 73, 74, 76, 77, 78, 80, 81, 83, 84, 85, 87, 88, 90, 91, 92, 93, 94, 95, 96, 99, 102, 107, 108, 109, 111, 112, 114, 115, 116, 118, 119, 121, 122, 123, 124, 126, 127, 129, 130, 131, 132, 134, 135, 137, 138, 139, 141, 142, 144, 145, 146, 148, 149, 151, 152, 153, 154, 156, 157, 159, 160, 161, 163, 164, 166, 167, 168, 169, 171, 172, 174, 175, 176, 177, 178, 179, 180, 183, 185, 186, 188, 189, 197, 198, 200, 201, 203, 204, 205, 207, 208, 210, 211, 212, 214, 215, 217, 218, 219, 221, 222, 224, 225, 226, 228, 229, 231, 232, 233, 235, 236, 238, 239, 240, 242, 243, 245, 246, 247, 249, 250, 252, 253, 254, 256, 257, 259, 260, 261, 262, 263, 264, 265, 268, 270, 271, 273, 274, 275, 277, 278, 280, 281, 282, 285, 286, 287, 289, 290, 292, 293, 294, 297, 298] (fun _ => by kernel_rfl) [140, 147, 295]
noncomputable def viewK : Program := view PySem.Challenge.pw_yh0022_02 [0, 2, 3, 4, 5, 6, 8, 9, 11, 13, 14, 15, 16, 17]
theorem leftK : LeftO (PySem.Challenge.rw_yh0022_02.row.toRowW.prog) viewK [Str.ofString "_Accumulator"] (fun s => xlAt viewK [] s && recOk (RowW.records PySem.Challenge.rw_yh0022_02.row.toRowW) s) (Hook.obs HK) (Hook.val HK) 3632 := by
  intro w
  kernel_rfl
theorem saidK : OpenLaw.wellSaid PySem.Challenge.rw_yh0022_02 = true := by kernel_rfl
/- M1 -/
section
open PySem PySem.W PySem.Calls PyProof.Rows
/- h keeps all of g -/
noncomputable abbrev Sub (g h : Heap) : Prop := ∀ b o, g.get? b = some o → h.get? b = some o
/- everything but the addresses ts stands as it stood; nothing is said of the tokens -/
structure Kept (ts : List Addr) (s s' : Shared) : Prop where
  keep : ∀ b o, b ∉ ts → s.heap.get? b = some o → s'.heap.get? b = some o
  size : s.heap.objs.size ≤ s'.heap.objs.size
  os : s'.os = s.os
  drawn : s'.drawn = s.drawn
  gens : AllBare s.gens → AllBare s'.gens
section
variable {prog : Program} {w : World} {A : Around} {E : Value → Shared → Prop} {s : Shared} {K : Frag} {H₀ : Heap} {p : Program} {loose : List Str} {mg mb : Str → Option Value}
  {R : Result → Shared → Prop} {name qual : Str} {params : Arguments} {body : List Stmt} {scope : Scope} {dV kV doc pm cdv ct oc : Value} {an od : Option Addr} {osl : Array (Option Value)} {f : Addr} {args : Args} {binds : List (Str × Value)} {cl : List (Str × Addr)}
theorem enter (T : List (Addr × Obj)) (hT : ∀ q ∈ T, s.heap.get? q.1 = some q.2) (HS : Sub H₀ s.heap) (hT0 : ∀ q ∈ T, H₀.get? q.1 = none) (X : K.In H₀) (TR : TopRead p loose mg mb H₀)
    (ho : K.lookup f = some ⟨oc, od, .func (fnX name qual params body scope cl dV kV doc pm an cdv ct), osl⟩) (hcd : codeIn K cdv qual = true) (hroom : A.depth < recursionLimit)
    (hbind : BindsTo s (fnX name qual params body scope cl dV kV doc pm an cdv ct) args binds) (hloc : ∀ y ∈ binds, scope.names.lookup y.1 = some .local)
    (hcell : ∀ x ∈ scope.names, x.2 ≠ .cell) (hco : scope.isCoroutine = false) (hgen : scope.isGenerator = false) (hk : scope.kind = .function)
    (h : ∀ g L' h₁, Fr g L' h₁ (fun y => binds.reverse.lookup y) → News g L' h₁ T → K.In g → TopRead p loose mg mb g → Sub H₀ g →
      (∀ b o, b ∉ T.map (·.1) → s.heap.get? b = some o → g.get? b = some o) → Sub s.heap h₁ → L' = s.heap.objs.size →
      wpAny (model prog w) (A.deeper (envX qual scope L' f cdv cl)) (execs body (envX qual scope L' f cdv cl))
        (fun fl s' => R (.ok (.ret (match fl with | .ret v => v | _ => .none))) s') (fun _ _ => False)
        { s with heap := h₁, toks := s.toks + binds.length }) : codeAny (model prog w) A (.call (.ref f) args) R s := by
  have nm : ∀ b o, H₀.get? b = some o → b ∉ T.map (·.1) := fun b o e q => by
    obtain ⟨r, hr, rfl⟩ := List.mem_map.mp q
    rw [hT0 r hr] at e; cases e
  have st : Sub H₀ (hideAll s.heap (T.map (·.1))) := fun b o e => hideAll_get _ (HS b o e) (nm b o e)
  refine codeAny_call_def (fd := fnX name qual params body scope cl dV kV doc pm an cdv ct) (body := body) (binds := binds) hroom (HS _ _ (X _ _ ho)) rfl (TR.nolimit.keeps HS) (codeRec_of (X.keeps HS) hcd) rfl hbind hcell hloc (fun h₁ hns hk₁ => ?_) hco hgen hk
  refine wpAny_mono (h _ s.heap.objs.size h₁ ⟨hns, fun b o e => hk₁ b o (of_hideAll _ e), Nat.le_of_eq (hideAll_size _ _)⟩
    (fun q hq => ⟨hk₁ _ _ (hT q hq), Nat.ne_of_lt (Heap.lt_size (hT q hq)), hideAll_none _ (List.mem_map_of_mem hq)⟩) (X.keeps st) (TR.keeps st) st (fun b o hb e => hideAll_get _ e hb) hk₁ rfl) (fun _ _ y => y) fun _ _ y => y.elim
end
end
/- R1 -/
section
open PySem PySem.W PySem.Calls PyProof.Rows
/- an object of a class of the text's own that is built on list -/
noncomputable abbrev lobj (C d : Addr) (its : Array Value) (n : Nat) : Obj := { cls := .ref C, dict := some d, data := .seq its n }
/- what the looks at such a class say -/
structure LCls (K : Frag) (S : Setting) (C : Addr) : Prop where
  dict : hasDictIn K C = true
  list : mroIn K C (.type "list") = some true
  seqk : peek K S (seqItemTypes.anyM fun n => isSubtype (.ref C) (.type n)) = some false
  geta : plainGet K C "append" = true
  gete : plainGet K C "extend" = true
  append : findIn K (.ref C) "append" = some (some (.builtin "list.append"))
  getitem : findIn K (.ref C) "__getitem__" = some (some (.builtin "list.__getitem__"))
  setitem : findIn K (.ref C) "__setitem__" = some (some (.builtin "list.__setitem__"))
  iter : findIn K (.ref C) "__iter__" = some (some (.builtin "list.__iter__"))
section
variable {prog : Program} {w : World} {M : Model} {A : Around} {E : Value → Shared → Prop} {s : Shared} {K : Frag} {x C d L : Addr} {h₀ h : Heap} {m : Str → Option Value} {news news' : List (Addr × Obj)} {its its' : Array Value} {n n' k : Nat} {es : List DictEntry} {ox : Obj} {od : Option Obj} {name : Str}
theorem lobj_inst (hx : h.get? x = some (lobj C d its n)) (hd : h.get? d = some (dictOf es k)) : InstAt h x (lobj C d its n) C (some (dictOf es k)) := ⟨hx, rfl, rfl, hd⟩
theorem inst_news (N : News h₀ L h news) (h1 : (x, lobj C d its n) ∈ news) (h2 : (d, dictOf es k) ∈ news) : InstAt h x (lobj C d its n) C (some (dictOf es k)) := ⟨(N _ h1).1, rfl, rfl, (N _ h2).1⟩
/- a built-in's look at its first argument, an object of a class built on its owner -/
theorem check_any {i owner nm : String} {self : Value} {rest : List Value} {kw : List (Str × Value)} {Q : Unit → Shared → Prop}
    (hk : builtinKind i = some .slot ∨ builtinKind i = some .method) (hs : splitId i = some (owner, nm)) (hi : Looks M s.heap (isInstance self (.type owner)) true) (ha : argsOk i ⟨self :: rest, kw⟩) (q : Q () s) :
    wpAny M A (checkBuiltinCall i ⟨self :: rest, kw⟩) Q E s := by
  rcases hk with hk | hk
  all_goals
    simp only [checkBuiltinCall, hk, hs]
    refine wpAny_bind (hi.here ?_)
    simp only [Bool.not_true, Bool.false_eq_true, if_false]
    cases hsig : Manifest.signature? i with
    | none => exact wpAny_pure q
    | some sig =>
      simp only [argsOk, hsig] at ha
      have h2 : Bind.checkArgs i sig ⟨self :: rest, kw⟩ = pure () := ha
      show wpAny M A (Bind.checkArgs i sig ⟨self :: rest, kw⟩) Q E s
      rw [h2]; exact wpAny_pure q
/- a list's built-in, called upon the object -/
structure LB (i nm : String) (b : Builtin) : Prop where
  kind : builtinKind i = some .slot ∨ builtinKind i = some .method
  split : splitId i = some ("list", nm)
  plain : plainId i = true
  entry : entryFor table i = some b
  bind : ∀ self, bindSpecial (.builtin i) self = pure (.builtin i, [self])
theorem call_bi {i nm : String} {b : Builtin} {rest : List Value} {Q : Value → Shared → Prop} (B : LB i nm b) (X : K.In s.heap) (I : InstAt s.heap x ox C od) (hl : mroIn K C (.type "list") = some true) (ha : argsOk i ⟨.ref x :: rest, []⟩)
    (hc : wpAny (model prog w) A.in1 (b ⟨.ref x :: rest, []⟩) (fun fin s' => ∃ v, fin = .done (.ret v) ∧ Q v s') E s) :
    wpAny (model prog w) A (call (.builtin i) (.ref x :: rest)) Q E s := by
  have hi : Looks (model prog w) s.heap (isInstance (.ref x) (.type "list")) true := I.type.andThen (looks_mroIn X hl)
  refine wpAny_call (codeAny_call_builtin B.plain B.entry (check_any B.kind B.split hi ha (wpAny_mono hc (fun fin s' h' => ?_) fun _ _ h' => h')))
  obtain ⟨v, rfl, hv⟩ := h'; exact hv
theorem special_bi {i : String} {args : List Value} {Q : Option Value → Shared → Prop} (hb : ∀ self, bindSpecial (.builtin i) self = pure (.builtin i, [self])) (X : K.In s.heap) (I : InstAt s.heap x ox C od)
    (hs : findIn K (.ref C) name = some (some (.builtin i))) (h : wpAny M A (call (.builtin i) (.ref x :: args)) (fun v => Q (some v)) E s) :
    wpAny M A (callSpecial? (.ref x) name args) Q E s := by
  refine wpAny_bind (wpAny_bind (I.type.here ((looks_findIn X hs).here (wpAny_holding (wpAny_bind ?_)))))
  rw [hb]
  exact wpAny_pure (wpAny_bind (wpAny_mono h (fun _ _ z => wpAny_pure z) fun _ _ z => z))
theorem lb_append : LB "list.append" "append" Builtin.«list.append» := ⟨.inr (by decide +kernel), by decide +kernel, by decide +kernel, entry_list_append, slot_list_append.bind⟩
theorem lb_getitem : LB "list.__getitem__" "__getitem__" Builtin.«list.__getitem__» := ⟨by first | exact .inl (by decide +kernel) | exact .inr (by decide +kernel), by decide +kernel, by decide +kernel, entry_list_getitem, slot_list_getitem.bind⟩
theorem lb_setitem : LB "list.__setitem__" "__setitem__" Builtin.«list.__setitem__» := ⟨by first | exact .inl (by decide +kernel) | exact .inr (by decide +kernel), by decide +kernel, by decide +kernel, entry_list_setitem, slot_list_setitem.bind⟩
theorem lb_iter : LB "list.__iter__" "__iter__" Builtin.«list.__iter__» := ⟨by first | exact .inl (by decide +kernel) | exact .inr (by decide +kernel), by decide +kernel, by decide +kernel, entry_list_iter, slot_list_iter.bind⟩
theorem lb_len : LB "list.__len__" "__len__" Builtin.«list.__len__» := ⟨by first | exact .inl (by decide +kernel) | exact .inr (by decide +kernel), by decide +kernel, by decide +kernel, entry_list_len, slot_list_len.bind⟩
theorem slot_list_pop : Slot "list" "pop" "list.pop" :=
  .of (owner := "list") (n := "pop") (by rw [typeLookup_type, builtinLookup_eq_fast]; kernel_rfl) (by decide +kernel) (by decide +kernel) (by decide +kernel)
    (by first | exact .inl (by decide +kernel) | exact .inr (by decide +kernel)) (by rw [isSubtype_type]; kernel_rfl)
theorem entry_list_pop : entryFor table "list.pop" = some Builtin.«list.pop» := entryFor_of_tree (by kernel_rfl)
theorem lb_pop : LB "list.pop" "pop" Builtin.«list.pop» := ⟨by first | exact .inl (by decide +kernel) | exact .inr (by decide +kernel), by decide +kernel, by decide +kernel, entry_list_pop, slot_list_pop.bind⟩
theorem slot_list_init : Slot "list" "__init__" "list.__init__" :=
  .of (owner := "list") (n := "__init__") (by rw [typeLookup_type, builtinLookup_eq_fast]; kernel_rfl) (by decide +kernel) (by decide +kernel) (by decide +kernel)
    (by first | exact .inl (by decide +kernel) | exact .inr (by decide +kernel)) (by rw [isSubtype_type]; kernel_rfl)
theorem entry_list_init : entryFor table "list.__init__" = some Builtin.«list.__init__» := entryFor_of_tree (by kernel_rfl)
theorem lb_init : LB "list.__init__" "__init__" Builtin.«list.__init__» := ⟨by first | exact .inl (by decide +kernel) | exact .inr (by decide +kernel), by decide +kernel, by decide +kernel, entry_list_init, slot_list_init.bind⟩
theorem upd_at {o o' : Obj} (F : Fr h₀ L h m) (N : News h₀ L h news) (U : Upd x o o' news news') : h.get? x = some o ∧ x ≠ L ∧ h₀.get? x = none := by
  obtain ⟨pre, post, rfl, rfl, a, b⟩ := U.split
  exact N (x, o) (List.mem_append.mpr (.inr (.head _)))
theorem upd_go {o o' : Obj} {h' : Heap} (F : Fr h₀ L h m) (N : News h₀ L h news) (U : Upd x o o' news news') (hs : Heap.SameBut x h h') (ho : h'.get? x = some o') : Fr h₀ L h' m ∧ News h₀ L h' news' := by
  have z := upd_at F N U
  obtain ⟨pre, post, rfl, rfl, a, b⟩ := U.split
  exact ⟨F.change hs z.2.1 z.2.2, news_set N a b hs ho⟩
theorem mapSeq_lobj (f : Array Value → Array Value) : Obj.mapSeq f (lobj C d its n) = lobj C d (f its) (if (f its).size == its.size then n else n + 1) := rfl
theorem append_lobj {v : Value} {Q : Value → Shared → Prop} (F : Fr h₀ L s.heap m) (X : K.In h₀) (N : News h₀ L s.heap news) (hl : mroIn K C (.type "list") = some true) (I : InstAt s.heap x (lobj C d its n) C od)
    (U : Upd x (lobj C d its n) (lobj C d (its.push v) (n + 1)) news news') (h : ∀ h', Fr h₀ L h' m → News h₀ L h' news' → Q .none { s with heap := h' }) (hsz : its.size ≤ sizeLine) :
    wpAny (model prog w) A (call (.builtin "list.append") [.ref x, v]) Q E s := by
  have z := upd_at F N U
  refine call_bi lb_append (X.keeps F.keep) I hl (args_list_append _ _) ?_
  show wpAny _ _ (updateSeq x (·.push v) >>= fun _ => ret .none) _ _ s
  refine wpAny_bind (wpAny_updateSeq z.1 rfl (wpAny_pure ⟨.none, rfl, ?_⟩))
  have e : Obj.mapSeq (·.push v) (lobj C d its n) = lobj C d (its.push v) (n + 1) := by simp [Obj.mapSeq]
  have ho : (s.heap.update x (Obj.mapSeq (·.push v))).get? x = some (lobj C d (its.push v) (n + 1)) := by
    rw [Heap.get?_update_self _ z.1 (by rw [e]; rfl), e]
  obtain ⟨a, b⟩ := upd_go F N U (Heap.SameBut.update ..) ho
  exact h _ a b
end
end
/- R2 -/
section
open PySem PySem.W PySem.Calls PyProof.Rows
open Builtin Builtin.ObjectAttr Builtin.Getset_descriptor
theorem slot_list_ga : Slot "list" "__getattribute__" "list.__getattribute__" :=
  .of (owner := "list") (n := "__getattribute__") (by rw [typeLookup_type, builtinLookup_eq_fast]; kernel_rfl) (by decide +kernel) (by decide +kernel) (by decide +kernel)
    (by first | exact .inl (by decide +kernel) | exact .inr (by decide +kernel)) (by rw [isSubtype_type]; kernel_rfl)
theorem lb_ga : LB "list.__getattribute__" "__getattribute__" Builtin.«object.__getattribute__» := ⟨by first | exact .inl (by decide +kernel) | exact .inr (by decide +kernel), by decide +kernel, by decide +kernel, PySem.F.entry_list_ga, slot_list_ga.bind⟩
theorem args_list_ga (a b : Value) : argsOk "list.__getattribute__" ⟨[a, b], []⟩ := by unfold argsOk; kernel_rfl
theorem canon_list_ga : (Manifest.canonical "list.__getattribute__" != "object.__getattribute__") = false := by decide +kernel
/- the looks at the class for an attribute of the name -/
noncomputable def plainL (K : Frag) (C : Addr) : Bool := findIn K (.ref C) "__getattribute__" == some (some (.builtin "list.__getattribute__")) && findIn K (.ref C) "__getattr__" == some none
theorem plainL_of {K : Frag} {C : Addr} (h : plainL K C = true) : findIn K (.ref C) "__getattribute__" = some (some (.builtin "list.__getattribute__")) ∧ findIn K (.ref C) "__getattr__" = some none := by
  obtain ⟨a, b⟩ := Bool.and_eq_true_iff.mp h
  exact ⟨beq_iff_eq.mp a, beq_iff_eq.mp b⟩
section
variable {prog : Program} {w : World} {M : Model} {A : Around} {E : Value → Shared → Prop} {s : Shared} {K : Frag} {x C d L : Addr} {h₀ h : Heap} {m : Str → Option Value} {news news' : List (Addr × Obj)} {its its' : Array Value} {n n' k : Nat} {es es' : List DictEntry} {ox : Obj} {od : Option Obj} {name : Str} {v : Value}
/- a list method, met through an attribute of the object -/
theorem method_bil {pl : Sem Bool} {i : String} {Q : Value × List Value → Shared → Prop} (X : K.In s.heap) (I : InstAt s.heap x ox C (some (dictOf es k))) (hg : plainL K C = true)
    (hf : findIn K (.ref C) name = some (some (.builtin i))) (ht : typeIn K (.builtin i) = some (.type "method_descriptor")) (hl : getL name es = some none) (h : Q (.builtin i, [.ref x]) s) :
    wpAny (model prog w) A (getMethod (.ref x) name pl) Q E s := by
  unfold getMethod specialOf
  refine wpAny_bind (wpAny_bind (I.type.here ((looks_findIn X (plainL_of hg).1).here ?_)))
  dsimp only
  rw [canon_list_ga, if_neg (by decide)]
  refine wpAny_bind (wpAny_bind (I.type.here ((looks_findIn X (plainL_of hg).2).here ?_)))
  refine wpAny_bind (wpAny_bind (I.type.here ((looks_findIn X hf).here (wpAny_bind ((looks_typeIn X ht).here ?_)))))
  rw [if_neg (by decide +kernel)]
  refine wpAny_bind (wpAny_loadPart I.at_ ?_)
  have hd := I.dict
  cases e : ox.dict with
  | none => rw [e] at hd; exact hd.elim
  | some dx =>
    rw [e] at hd
    refine wpAny_bind (wpAny_bind (wpAny_loadPart hd ?_))
    rw [nsLook_of (r := none) (by rw [lookIn_dict, hl])]
    refine wpAny_pure ?_
    exact wpAny_bind (wpAny_rule (wpAny_pure h))
/- a def of the class, met through an attribute of the object -/
theorem method_fnl {pl : Sem Bool} {f : Addr} {Q : Value × List Value → Shared → Prop} (X : K.In s.heap) (I : InstAt s.heap x ox C (some (dictOf es k))) (hg : plainL K C = true)
    (hf : findIn K (.ref C) name = some (some (.ref f))) (ht : typeIn K (.ref f) = some (.type "function")) (hl : getL name es = some none) (h : Q (.ref f, [.ref x]) s) :
    wpAny (model prog w) A (getMethod (.ref x) name pl) Q E s := by
  unfold getMethod specialOf
  refine wpAny_bind (wpAny_bind (I.type.here ((looks_findIn X (plainL_of hg).1).here ?_)))
  dsimp only
  rw [canon_list_ga, if_neg (by decide)]
  refine wpAny_bind (wpAny_bind (I.type.here ((looks_findIn X (plainL_of hg).2).here ?_)))
  refine wpAny_bind (wpAny_bind (I.type.here ((looks_findIn X hf).here (wpAny_bind ((looks_typeIn X ht).here ?_)))))
  rw [if_neg (by decide +kernel)]
  refine wpAny_bind (wpAny_loadPart I.at_ ?_)
  have hd := I.dict
  cases e : ox.dict with
  | none => rw [e] at hd; exact hd.elim
  | some dx =>
    rw [e] at hd
    refine wpAny_bind (wpAny_bind (wpAny_loadPart hd ?_))
    rw [nsLook_of (r := none) (by rw [lookIn_dict, hl])]
    refine wpAny_pure ?_
    exact wpAny_bind (wpAny_rule (wpAny_pure h))
/- a field of the object's own is read -/
theorem get_ownl {expr : Bool} {Q : Value → Shared → Prop} {attr : Option Value} (X : K.In s.heap) (I : InstAt s.heap x ox C (some (dictOf es k))) (hg : plainL K C = true) (hm : mroIn K C (.type "list") = some true) (hh : hasDictIn K C = true)
    (ha : findIn K (.ref C) name = some attr) (hn : noGet K attr = true) (hl : getL name es = some (some v)) (hv : handedIn v = true) (h : Q v { s with toks := s.toks + 1 }) :
    wpAny (model prog w) A (getAttr (.ref x) name expr) Q E s := by
  obtain ⟨hp, g, dr, t, os⟩ := s
  have L0 := I.type (M := model prog w)
  have L1 := looks_findIn (M := model prog w) X (plainL_of hg).1
  have L2 := looks_findIn (M := model prog w) X (plainL_of hg).2
  unfold getAttr getAttrBy
  refine wpAny_bind (wpAny_mkText (wpAny_holding (wpAny_bind (L0.at (wpAny_bind (L1.at ?_))))))
  dsimp only
  rw [if_neg (show ¬ ((onTheHeap (Value.ref C) && (Value.builtin "list.__getattribute__" == Value.builtin "object.__getattribute__")) = true) by
    rw [show (Value.builtin "list.__getattribute__" == Value.builtin "object.__getattribute__") = false by decide +kernel, Bool.and_false]; exact Bool.false_ne_true)]
  unfold getAttrByItsOwn hookBefore
  refine wpAny_bind (L2.at ?_)
  unfold callGetattribute boundAndCalled
  rw [if_neg (by cases expr <;> decide)]
  refine wpAny_bind (wpAny_attempt (wpAny_holding ?_))
  rw [lb_ga.bind]
  refine wpAny_bind (wpAny_pure ?_)
  refine call_bi (od := some (dictOf es k)) lb_ga X I hm (args_list_ga _ _) ?_
  show wpAny _ _ (typeOf (.ref x) >>= _) _ _ _
  have L3 := looks_find (M := model prog w) X I (findObj_own hh ha hn hl)
  refine wpAny_bind (L0.at (wpAny_bind (L3.at (wpAny_pure ⟨v, rfl, ?_⟩))))
  show wpAny _ _ (handedOut v) _ _ _
  rw [handedOut_of hv]
  exact wpAny_pure h
theorem refuse_list (self : Value) : refuseLoop self "__setattr__" [.type "list", .type "object"] = pure () := by kernel_rfl
noncomputable def overL (K : Frag) (C : Addr) : Bool := (clsIn K C).any fun cd => cd.mro == [.ref C, .type "list", .type "object"]
theorem setattr_l {tk : Tok} {R : Result → Shared → Prop} (F : Fr h₀ L s.heap m) (X₀ : K.In h₀) (N : News h₀ L s.heap news)
    (I : InstAt s.heap x ox C (some (dictOf es k))) (hd : ox.dict = some d) (hp : overL K C = true) (ht : takerIn K C name = some none) (hh : hasDictIn K C = true)
    (hl : (getL name es).isSome = true) (e : (putL name (PyData.keyHash w.params name) (.str name s.toks) v es, putN name es k) = (es', n')) (U : Upd d (dictOf es k) (dictOf es' n') news news') (hz : es'.length ≤ 1000)
    (h : ∀ h', Fr h₀ L h' m → News h₀ L h' news' → R (.ok (.ret .none)) { s with heap := h', toks := s.toks + 1 }) :
    codeAny (model prog w) A (.call (.builtin "object.__setattr__") ⟨[.ref x, .str name tk, v], []⟩) R s := by
  have X := X₀.keeps F.keep
  obtain ⟨e1, e2⟩ := Prod.mk.inj e
  have hput : Obj.putName name (PyData.keyHash w.params name) (.str name s.toks) v (dictOf es k) = dictOf es' n' := by rw [putName_dict, e1, e2]
  have z := upd_at F N U
  have hs : Heap.SameBut d s.heap (s.heap.update d (Obj.putName name (PyData.keyHash w.params name) (.str name s.toks) v)) := Heap.SameBut.update ..
  have ho : (s.heap.update d (Obj.putName name (PyData.keyHash w.params name) (.str name s.toks) v)).get? d = some (dictOf es' n') := by
    rw [Heap.get?_update_self _ z.1 (by rw [hput]; rfl), hput]
  obtain ⟨F', N'⟩ := upd_go F N U hs ho
  have SF := PySem.F.store_object
  obtain ⟨cd, hc, hm⟩ := any_some hp
  have hm := beq_iff_eq.mp hm
  obtain ⟨cd', hc', hd'⟩ := any_some hh
  rw [hc] at hc'; cases hc'
  have sub : Looks (model prog w) s.heap (isInstance (.ref x) (.type "object")) true := I.type.andThen (looks_mroIn X (by unfold mroIn; rw [hc, Option.bind_some, hm]; rw [if_neg (by simp)]; simp))
  refine codeAny_call_builtin SF.slot.plain SF.entry (@check_slot (model prog w) _ _ s "object.__setattr__" "object" "__setattr__" (.ref x) [.str name tk, v] [] _ SF.kind SF.split sub (SF.args (.ref x) (.str name tk) v) ?_)
  obtain ⟨attr, ha, hr⟩ := Option.bind_eq_some_iff.mp ht
  have hmr : Looks (model prog w) s.heap (mroOf (.ref C)) cd.mro := (looks_clsIn X hc).andThen .now
  have L3 : Looks (model prog w) s.heap (storeTaker? attr) none := by
    cases attr with
    | none => cases hr; exact .now
    | some a =>
      obtain ⟨b, hb, hbb⟩ := Option.map_eq_some_iff.mp hr
      refine (looks_takesIn X hb).andThen ?_
      cases b
      · exact .now
      · cases hbb
  rw [osa_eq, refuse_eq]
  refine wpAny_bind (wpAny_bind (I.type.here (wpAny_bind (hmr.here ?_))))
  rw [hm, refuseLoop_ref, refuse_list]
  refine wpAny_pure (wpAny_bind (I.type.here (wpAny_bind ((looks_findIn X ha).here (wpAny_bind (L3.here ?_))))))
  obtain ⟨hx, hcl, hn, -⟩ := I
  obtain ⟨oc, odi, oda, osl⟩ := ox
  dsimp only at hcl hd
  subst hcl hd
  refine wpAny_bind (wpAny_pure (wpAny_bind (wpAny_bind (wpAny_loadPart hx (wpAny_bind ((looks_clsIn X hc).here ?_))))))
  rw [hd']
  refine wpAny_pure (a := some d) (wpAny_bind (wpAny_pure (wpAny_bind ?_)))
  unfold nsSet
  refine wpAny_bind (wpAny_bind (wpAny_askSetting (wpAny_pure (wpAny_bind (wpAny_mkText (wpAny_bind (wpAny_loadPart z.1 ?_)))))))
  have hl' : (lookIn name (dictOf es k)).isSome = true := by rw [lookIn_dict]; exact hl
  unfold lookIn at hl'
  dsimp only at hl' ⊢
  have c : (!es.toArray.any (·.key.isStr name) && es.toArray.any (·.refKey)) = false := by
    rw [← Array.any_toList, ← Array.any_toList]
    split at hl'
    · rename_i en he
      rw [List.any_eq_true.mpr ⟨en, List.mem_of_find?_eq_some he, List.find?_some he⟩]; rfl
    · split at hl'
      · cases hl'
      · rename_i z; rw [Bool.not_eq_true] at z; rw [z, Bool.and_false]
  rw [aRefKeyMayBeTheName_at, c]
  refine wpAny_updatePart z.1 ?_
  refine wpAny_bind (wpAny_lookBehind ho (by exact pastItsLine_dict (by rw [List.size_toArray, sizeLine_eq]; omega)) ?_)
  exact wpAny_pure (h _ F' N')
/- a field of the object's own is stored -/
theorem set_l {Q : Unit → Shared → Prop} (F : Fr h₀ L s.heap m) (X₀ : K.In h₀) (N : News h₀ L s.heap news) (I : InstAt s.heap x ox C (some (dictOf es k))) (hd : ox.dict = some d)
    (hs : findIn K (.ref C) "__setattr__" = some (some (.builtin "object.__setattr__"))) (hp : overL K C = true) (ht : takerIn K C name = some none) (hh : hasDictIn K C = true) (hl : (getL name es).isSome = true)
    (e : (putL name (PyData.keyHash w.params name) (.str name (s.toks + 1)) v es, putN name es k) = (es', n')) (U : Upd d (dictOf es k) (dictOf es' n') news news') (hz : es'.length ≤ 1000)
    (h : ∀ h', Fr h₀ L h' m → News h₀ L h' news' → Q () { s with heap := h', toks := s.toks + 2 }) :
    wpAny (model prog w) A (setAttr (.ref x) name v) Q E s :=
  set_plain (X₀.keeps F.keep) I hs (setattr_l (s := { s with toks := s.toks + 1 }) F X₀ N I hd hp ht hh hl e U hz h)
end
end
/- R3 -/
section
open PySem PySem.W PySem.Calls PyProof.Rows
section
variable {prog : Program} {w : World} {M : Model} {A : Around} {E : Value → Shared → Prop} {s : Shared} {K : Frag} {x C d L : Addr} {h₀ h : Heap} {m : Str → Option Value} {news news' : List (Addr × Obj)} {its its' : Array Value} {n n' k : Nat} {es es' : List DictEntry} {ox : Obj} {od : Option Obj} {name : Str} {v : Value}
theorem seqKey_l {i : Value} {Q : Value → Shared → Prop} (X : K.In s.heap) (I : InstAt s.heap x ox C od) (hk : mroIn K C (.type "collections.deque") = some false) (h : Q i s) :
    wpAny (model prog w) A (sequenceKey (.ref x) i name) Q E s := by
  unfold sequenceKey
  refine wpAny_bind (I.type.here ?_)
  dsimp only
  have L : Looks (model prog w) s.heap (seqItemTypes.anyM fun n => isSubtype (.ref C) (.type n)) false := by
    unfold seqItemTypes
    rw [List.anyM_cons]
    refine (looks_mroIn X hk).andThen ?_
    exact .now
  refine wpAny_bind (L.here ?_)
  exact wpAny_pure h
theorem getItem_slice_l {sl : Addr} {vl vu vs : Value} {lo hi st : Option Int} {Q : Value → Shared → Prop} (X : K.In s.heap) (I : InstAt s.heap x (lobj C d its n) C od)
    (hk : mroIn K C (.type "collections.deque") = some false) (hm : mroIn K C (.type "list") = some true) (hf : findIn K (.ref C) "__getitem__" = some (some (.builtin "list.__getitem__")))
    (hs : s.heap.IsSliceOf sl vl vu vs) (pl : IsPart vl lo) (pu : IsPart vu hi) (ps : IsPart vs st) (h0 : st ≠ some 0)
    (h : Q (.ref s.heap.objs.size) { s with heap := s.heap.push { cls := .type "list", data := .seq (slicePick its lo hi st) } })
    (hsz : its.size ≤ sizeLine) : wpAny (model prog w) A (getItem (.ref x) (.ref sl)) Q E s := by
  obtain ⟨os, hos, hcs, hds⟩ := id hs
  have hTs : s.TypeIs (.ref sl) "slice" := ⟨os, hos, hcs⟩
  unfold getItem
  refine wpAny_holding ?_
  refine wpAny_bind (seqKey_l X I hk ?_)
  refine wpAny_bind (special_bi (name := Str.ofString "__getitem__") lb_getitem.bind X I hf (call_bi lb_getitem X I hm (args_list_getitem _ _) ?_))
  show wpAny _ _ (Builtin.List.listSubscript? (.ref sl) >>= _) _ _ s
  refine wpAny_bind ?_
  unfold Builtin.List.listSubscript?
  refine wpAny_bind (wpAny_specialOf hTs slice_no_index ?_)
  simp only [Option.isNone_none, if_true]
  refine wpAny_pure ?_
  show wpAny _ _ (typeOf (.ref sl) >>= _) _ _ s
  refine wpAny_bind (wpAny_typeOf hTs ?_)
  rw [if_neg (by decide)]
  rw [listSliceParts_eq]
  have hstep : ¬ ((rawPart st == rawInt 0) = true) := by
    cases st with
    | none => exact Bool.false_ne_true
    | some c =>
      intro hh
      have : c = 0 := by simpa [rawPart, rawInt] using hh
      exact h0 (by rw [this])
  refine wpAny_bind (wpAny_bind (wpAny_field hos hds (x := vs) rfl (wpAny_bind (wpAny_listPart ps ?_))))
  rw [if_neg hstep]
  refine wpAny_bind (wpAny_field hos hds (x := vl) rfl (wpAny_bind (wpAny_listPart pl ?_)))
  refine wpAny_bind (wpAny_field hos hds (x := vu) rfl (wpAny_bind (wpAny_listPart pu (wpAny_pure ?_))))
  refine wpAny_bind (m := Builtin.List.listItems (.ref x)) ?_
  unfold Builtin.List.listItems
  refine wpAny_bind (wpAny_seqItems I.at_ rfl (wpAny_pure ?_))
  refine wpAny_bind (wpAny_of_eq (sliceIndices_raw lo hi st its.size h0) ?_)
  exact wpAny_bind (wpAny_newObj_type (wpAny_pure ⟨_, rfl, wpAny_pure h⟩) (Nat.le_trans (slicePick_size_le its lo hi st) hsz))
/- the tail of a subscript whose base is such an object -/
theorem notInPy {Q : Bool → Shared → Prop} (X : K.In s.heap) (I : InstAt s.heap x ox C od) (hf : findIn K (.ref C) "__getitem__" = some (some (.builtin "list.__getitem__"))) (h : Q false s) :
    wpAny M A (getitemInPython (.ref x)) Q E s := by
  unfold getitemInPython specialOf
  exact wpAny_bind (wpAny_bind (I.type.here ((looks_findIn X hf).here (wpAny_pure h))))
theorem slice_l {value slice : PySem.Expr} {vl vu : Value} {lo hi : Option Int} {Q : Value → Shared → Prop} (F : Fr h₀ L s.heap m) (X : K.In h₀) (N : News h₀ L s.heap news) (I : InstAt s.heap x (lobj C d its n) C (some (dictOf es k)))
    (hk : mroIn K C (.type "collections.deque") = some false) (hm : mroIn K C (.type "list") = some true) (hf : findIn K (.ref C) "__getitem__" = some (some (.builtin "list.__getitem__")))
    (pl : IsPart vl lo) (pu : IsPart vu hi) (h : ∀ D h', Fr h₀ L h' m → News h₀ L h' ((D, listOf (slicePick its lo hi none) 0) :: news) → (∀ p ∈ news, p.1 < D) → Q (.ref D) { s with heap := h' })
    (hs : subscripted slice false (.ref x) (.ref s.heap.objs.size) = operate [.ref s.heap.objs.size, .ref x] (getItem (.ref x) (.ref s.heap.objs.size))) (ht : ∀ r, letTemporaryGo value (.ref x) r = pure ()) (hz : its.size ≤ sizeLine) :
    wpAny (model prog w) A (subscriptTail value slice (.ref x) (.ref s.heap.objs.size)) Q E { s with heap := s.heap.push { cls := .type "slice", data := .fields #[vl, vu, .none] } } := by
  have X' : K.In (s.heap.push { cls := .type "slice", data := .fields #[vl, vu, .none] }) := (X.keeps F.keep).keeps fun b o e => Heap.get?_push_of_some _ e
  have I' : InstAt (s.heap.push { cls := .type "slice", data := .fields #[vl, vu, .none] }) x (lobj C d its n) C (some (dictOf es k)) := lobj_inst (Heap.get?_push_of_some _ I.at_) (Heap.get?_push_of_some _ I.dict)
  unfold subscriptTail
  refine wpAny_bind (notInPy X' I' hf ?_)
  rw [hs]
  refine wpAny_bind (wpAny_operating (getItem_slice_l (st := none) X' I' hk hm hf (Heap.IsSliceOf.new _ _ _ _) pl pu .none (by decide) ?_ hz))
  refine wpAny_bind (wpAny_of_eq (ht _) (wpAny_pure ?_))
  refine h _ _ ((F.push _).push _) ?_ (fun p hp => ?_)
  · intro p hp
    have N1 := (N.push F { cls := .type "slice", data := .fields #[vl, vu, .none] }).push (F.push _) (listOf (slicePick its lo hi none) 0)
    rcases List.mem_cons.mp hp with rfl | hp
    · exact N1 _ (.head _)
    · exact N1 _ (.tail _ (.tail _ hp))
  · rw [Heap.size_push]
    exact Nat.lt_succ_of_lt (Heap.lt_size (N p hp).1)
end
end
/- R4 -/
section
open PySem PySem.W PySem.Calls PyProof.Rows
/- a run of places replaced -/
noncomputable def spl (its new : Array Value) (a b : Nat) : Array Value := its.extract 0 a ++ new ++ its.extract (max a b) its.size
theorem spl_size_le (its new : Array Value) (a b : Nat) : (spl its new a b).size ≤ its.size + new.size := by
  unfold spl
  simp only [Array.size_append, Array.size_extract]
  have h1 : min a its.size ≤ max a b := Nat.le_trans (Nat.min_le_left _ _) (Nat.le_max_left _ _)
  have h2 := Nat.min_le_right a its.size
  rw [Nat.min_self, Nat.sub_zero]
  generalize min a its.size = p at *
  have h3 : p + (its.size - max a b) ≤ its.size := Nat.le_trans (Nat.add_le_add_left (Nat.sub_le_sub_left h1 _) _) (Nat.le_of_eq (Nat.add_sub_cancel' h2))
  omega
section
variable {prog : Program} {w : World} {M : Model} {A : Around} {E : Value → Shared → Prop} {s : Shared} {K : Frag} {x C d L : Addr} {h₀ h : Heap} {m : Str → Option Value} {news news' : List (Addr × Obj)} {its its' : Array Value} {n n' k : Nat} {es es' : List DictEntry} {ox : Obj} {od : Option Obj} {name : Str} {v : Value}
theorem getItem_int_l {i : Int} {t : Tok} {Q : Value → Shared → Prop} (X : K.In s.heap) (I : InstAt s.heap x (lobj C d its n) C od)
    (hk : mroIn K C (.type "collections.deque") = some false) (hm : mroIn K C (.type "list") = some true) (hf : findIn K (.ref C) "__getitem__" = some (some (.builtin "list.__getitem__")))
    (h0 : 0 ≤ i) (hfit : i < 2 ^ 63) (hx : its[i.toNat]? = some v) (h : Q v s) : wpAny (model prog w) A (getItem (.ref x) (.int i t)) Q E s := by
  unfold getItem
  refine wpAny_holding ?_
  refine wpAny_bind (seqKey_l X I hk ?_)
  refine wpAny_bind (special_bi (name := Str.ofString "__getitem__") lb_getitem.bind X I hf (call_bi lb_getitem X I hm (args_list_getitem _ _) ?_))
  show wpAny _ _ (Builtin.List.listSubscript? (.int i t) >>= _) _ _ s
  refine wpAny_bind (wpAny_listSubscript_int (fitsIndex_of h0 hfit) ?_)
  clear hfit
  obtain ⟨j, rfl⟩ := Int.eq_ofNat_of_zero_le h0
  have hx' : its[j]? = some v := hx
  show wpAny _ _ ((seqItemAt x j >>= fun r => pure (r.map (j, ·))) >>= _) _ _ s
  refine wpAny_bind (wpAny_bind (wpAny_seqItemAt I.at_ rfl (wpAny_pure ?_)))
  rw [hx']
  first
    | exact wpAny_bind (wpAny_pure (wpAny_pure ⟨v, rfl, wpAny_pure h⟩))
    | exact wpAny_pure ⟨v, rfl, wpAny_pure h⟩
theorem item_l {value slice : PySem.Expr} {i : Int} {t : Tok} {Q : Value → Shared → Prop} (X : K.In s.heap) (I : InstAt s.heap x (lobj C d its n) C od)
    (hk : mroIn K C (.type "collections.deque") = some false) (hm : mroIn K C (.type "list") = some true) (hf : findIn K (.ref C) "__getitem__" = some (some (.builtin "list.__getitem__")))
    (h0 : 0 ≤ i) (hfit : i < 2 ^ 63) (hx : its[i.toNat]? = some v) (h : Q v s)
    (hs : subscripted slice false (.ref x) (.int i t) = operate [.ref x, .int i t] (getItem (.ref x) (.int i t))) :
    wpAny (model prog w) A (subscriptTail value slice (.ref x) (.int i t)) Q E s := by
  unfold subscriptTail
  refine wpAny_bind (notInPy X I hf ?_)
  rw [hs]
  exact wpAny_bind (wpAny_operating (getItem_int_l X I hk hm hf h0 hfit hx (wpAny_bind (wpAny_letTemporaryGo (wpAny_pure h)))))
theorem setItem_slice_l {sl l : Addr} {vl vu : Value} {lo hi : Option Int} {new : Array Value} {Q : Unit → Shared → Prop} (X : K.In s.heap) (I : InstAt s.heap x (lobj C d its n) C od)
    (hk : mroIn K C (.type "collections.deque") = some false) (hm : mroIn K C (.type "list") = some true) (hf : findIn K (.ref C) "__setitem__" = some (some (.builtin "list.__setitem__")))
    (hs : s.heap.IsSliceOf sl vl vu .none) (pl : IsPart vl lo) (pu : IsPart vu hi) (hl : s.heap.IsList l new)
    (h : Q () { s with heap := s.heap.update x (Obj.mapSeq fun xs => xs.extract 0 (lo.elim 0 (clipAt its.size)) ++ new ++ xs.extract (max (lo.elim 0 (clipAt its.size)) (hi.elim its.size (clipAt its.size))) xs.size) })
    (hsz : its.size + new.size ≤ sizeLine) : wpAny (model prog w) A (setItem (.ref x) (.ref sl) (.ref l)) Q E s := by
  obtain ⟨os, hos, hcs, hds⟩ := id hs
  have hTs : s.TypeIs (.ref sl) "slice" := ⟨os, hos, hcs⟩
  obtain ⟨ol, hol, hcl, ne, hdl⟩ := id hl
  have hne : Builtin.List.listSameRef (.ref x) (.ref l) = false := by
    show (x == l) = false
    cases hb : x == l with
    | false => rfl
    | true =>
      have := eq_of_beq hb
      subst this
      have e := I.at_
      rw [hol] at e
      cases e
      cases hcl
  unfold setItem
  refine wpAny_holding ?_
  refine wpAny_bind (seqKey_l X I hk ?_)
  refine wpAny_bind (special_bi (name := Str.ofString "__setitem__") lb_setitem.bind X I hf (call_bi lb_setitem X I hm (args_list_setitem _ _ _) ?_))
  show wpAny _ _ (Builtin.List.listSubscript? (.ref sl) >>= _) _ _ s
  refine wpAny_bind ?_
  unfold Builtin.List.listSubscript?
  refine wpAny_bind (wpAny_specialOf hTs slice_no_index ?_)
  simp only [Option.isNone_none, if_true]
  refine wpAny_pure ?_
  show wpAny _ _ (typeOf (.ref sl) >>= _) _ _ s
  refine wpAny_bind (wpAny_typeOf hTs ?_)
  rw [if_neg (by decide)]
  rw [listSliceParts_eq]
  refine wpAny_bind (wpAny_bind (wpAny_field hos hds (x := Value.none) rfl (wpAny_bind (wpAny_listPart (k := none) .none ?_))))
  rw [if_neg (show ¬ ((rawPart none == rawInt 0) = true) from Bool.false_ne_true)]
  refine wpAny_bind (wpAny_field hos hds (x := vl) rfl (wpAny_bind (wpAny_listPart pl ?_)))
  refine wpAny_bind (wpAny_field hos hds (x := vu) rfl (wpAny_bind (wpAny_listPart pu (wpAny_pure ?_))))
  dsimp only
  rw [hne, if_neg Bool.false_ne_true]
  refine wpAny_bind ?_
  unfold Builtin.List.listAllItems
  refine wpAny_bind (wpAny_typeOf hl.typeIs ?_)
  rw [if_pos (by decide)]
  refine wpAny_listItems hol hdl ?_
  refine wpAny_bind (wpAny_listItems I.at_ rfl ?_)
  refine wpAny_bind (wpAny_of_eq (sliceIndices_raw lo hi none its.size (by decide)) ?_)
  rw [sliceBounds_plain]
  dsimp only
  rw [if_pos (by decide)]
  refine wpAny_bind (wpAny_rule ?_)
  rw [if_neg (show ¬ (Builtin.List.listTooLong (its.size + new.size) = true) by unfold Builtin.List.listTooLong; simp only [decide_eq_true_eq]; omega)]
  have hsz' : its.size ≤ sizeLine := by omega
  refine wpAny_bind ?_
  show wpAny _ _ (updateSeq x _) _ _ _
  have em : max ((lo.elim 0 (clipAt its.size) : Nat) : Int) ((hi.elim its.size (clipAt its.size) : Nat) : Int) = ((max (lo.elim 0 (clipAt its.size)) (hi.elim its.size (clipAt its.size)) : Nat) : Int) := by omega
  rw [em]
  simp only [Int.toNat_natCast]
  refine wpAny_updateSeq I.at_ rfl ?_ hsz' ?_
  · exact wpAny_bind (wpAny_letGo (wpAny_pure ⟨_, rfl, wpAny_pure h⟩))
  · have := spl_size_le its new (lo.elim 0 (clipAt its.size)) (hi.elim its.size (clipAt its.size))
    unfold spl at this
    omega
theorem setslice_l {l : Addr} {vl vu : Value} {lo hi : Option Int} {new : Array Value} {nl a b : Nat} {Q : Unit → Shared → Prop} (F : Fr h₀ L s.heap m) (X : K.In h₀) (N : News h₀ L s.heap news) (I : InstAt s.heap x (lobj C d its n) C (some (dictOf es k)))
    (hk : mroIn K C (.type "collections.deque") = some false) (hm : mroIn K C (.type "list") = some true) (hf : findIn K (.ref C) "__setitem__" = some (some (.builtin "list.__setitem__")))
    (pl : IsPart vl lo) (pu : IsPart vu hi) (hl : s.heap.IsList l new) (ha : lo.elim 0 (clipAt its.size) = a) (hb : hi.elim its.size (clipAt its.size) = b)
    (U : Upd x (lobj C d its n) (lobj C d (spl its new a b) (if (spl its new a b).size == its.size then n else n + 1)) news news')
    (h : ∀ h', Fr h₀ L h' m → News h₀ L h' news' → Q () { s with heap := h' })
    (hz : its.size + new.size ≤ sizeLine) :
    wpAny (model prog w) A (setItem (.ref x) (.ref s.heap.objs.size) (.ref l)) Q E { s with heap := s.heap.push { cls := .type "slice", data := .fields #[vl, vu, .none] } } := by
  subst ha hb
  have X' : K.In (s.heap.push { cls := .type "slice", data := .fields #[vl, vu, .none] }) := (X.keeps F.keep).keeps fun b o e => Heap.get?_push_of_some _ e
  have I' : InstAt (s.heap.push { cls := .type "slice", data := .fields #[vl, vu, .none] }) x (lobj C d its n) C (some (dictOf es k)) := lobj_inst (Heap.get?_push_of_some _ I.at_) (Heap.get?_push_of_some _ I.dict)
  refine setItem_slice_l X' I' hk hm hf (Heap.IsSliceOf.new _ _ _ _) pl pu (hl.push _) ?_ hz
  have N1 : News h₀ L (s.heap.push { cls := .type "slice", data := .fields #[vl, vu, .none] }) news := fun p hp => (N.push F { cls := .type "slice", data := .fields #[vl, vu, .none] }) p (.tail _ hp)
  have z := upd_at (F.push { cls := .type "slice", data := .fields #[vl, vu, .none] }) N1 U
  have ho : ((s.heap.push { cls := .type "slice", data := .fields #[vl, vu, .none] }).update x (Obj.mapSeq fun xs => xs.extract 0 (lo.elim 0 (clipAt its.size)) ++ new ++ xs.extract (max (lo.elim 0 (clipAt its.size)) (hi.elim its.size (clipAt its.size))) xs.size)).get? x =
      some (lobj C d (spl its new (lo.elim 0 (clipAt its.size)) (hi.elim its.size (clipAt its.size))) (if (spl its new (lo.elim 0 (clipAt its.size)) (hi.elim its.size (clipAt its.size))).size == its.size then n else n + 1)) := by
    rw [Heap.get?_update_self _ z.1 (by rfl)]
    rfl
  obtain ⟨a, b⟩ := upd_go (F.push _) N1 U (Heap.SameBut.update ..) ho
  exact h _ a b
end
end
/- R5 -/
section
open PySem PySem.W PySem.Calls PyProof.Rows
/- a built-in bound to an object -/
noncomputable abbrev boundObj (T i : String) (x : Addr) : Obj := { cls := .type T, data := .fields #[.builtin i, .ref x] }
theorem look_md : typeLookup (.type "method_descriptor") "__get__" = pure (some (.builtin "method_descriptor.__get__")) := by rw [typeLookup_type, builtinLookup_eq_fast]; kernel_rfl
theorem look_wd : typeLookup (.type "wrapper_descriptor") "__get__" = pure (some (.builtin "wrapper_descriptor.__get__")) := by rw [typeLookup_type, builtinLookup_eq_fast]; kernel_rfl
theorem entry_md : entryFor table "method_descriptor.__get__" = some Builtin.«method_descriptor.__get__» := entryFor_of_tree (by kernel_rfl)
theorem entry_wd : entryFor table "wrapper_descriptor.__get__" = some Builtin.«wrapper_descriptor.__get__» := entryFor_of_tree (by kernel_rfl)
theorem args_md (a b c : Value) : argsOk "method_descriptor.__get__" ⟨[a, b, c], []⟩ := by unfold argsOk; kernel_rfl
theorem args_wd (a b c : Value) : argsOk "wrapper_descriptor.__get__" ⟨[a, b, c], []⟩ := by unfold argsOk; kernel_rfl
section
variable {prog : Program} {w : World} {M : Model} {A : Around} {E : Value → Shared → Prop} {s : Shared} {K : Frag} {x C D d L so : Addr} {h₀ h : Heap} {m : Str → Option Value} {news news' : List (Addr × Obj)} {its its' : Array Value} {n n' k : Nat} {es es' : List DictEntry} {ox : Obj} {od : Option Obj} {name : Str} {v : Value}
/- the built-in's own __get__ upon the object -/
theorem get_pop {Q : Value → Shared → Prop} (X : K.In s.heap) (I : InstAt s.heap x ox C od) (hm : mroIn K C (.type "list") = some true)
    (h : Q (.ref s.heap.objs.size) { s with heap := s.heap.push (boundObj "builtin_function_or_method" "list.pop" x) }) :
    wpAny (model prog w) A (call (.builtin "method_descriptor.__get__") [.builtin "list.pop", .ref x, .ref C]) Q E s := by
  have hi : Looks (model prog w) s.heap (isInstance (.builtin "list.pop") (.type "method_descriptor")) true := (Looks.of_pure (show typeOf (.builtin "list.pop") = pure (.type "method_descriptor") by show builtinType _ = _; rw [builtinType_eq_fast]; kernel_rfl)).andThen (Looks.of_pure (by rw [isSubtype_type]; kernel_rfl))
  refine wpAny_call (codeAny_call_builtin (by decide +kernel) entry_md (check_any (i := "method_descriptor.__get__") (owner := "method_descriptor") (nm := "__get__") (by first | exact .inl (by decide +kernel) | exact .inr (by decide +kernel)) (by decide +kernel) hi (args_md _ _ _) ?_))
  have L0 : Looks (model prog w) s.heap (typeOf (.ref x)) (.ref C) := I.type
  have L1 : Looks (model prog w) s.heap (isSubtype (.ref C) (.type (".".intercalate ("list.pop".cutAt '.').dropLast))) true := by
    rw [show ".".intercalate ("list.pop".cutAt '.').dropLast = "list" by decide +kernel]
    exact looks_mroIn X hm
  obtain ⟨hh, g, dr, t, os⟩ := s
  unfold Builtin.«method_descriptor.__get__»
  repeat (first | lk | (rw [if_neg (show ¬ ((!true) = true) by decide)]))
  exact h
theorem get_wd {i : String} {Q : Value → Shared → Prop} (X : K.In s.heap) (I : InstAt s.heap x ox C od) (hm : mroIn K C (.type "list") = some true) (hi : i = "list.__len__" ∨ i = "list.__init__")
    (h : Q (.ref s.heap.objs.size) { s with heap := s.heap.push (boundObj "method-wrapper" i x) }) :
    wpAny (model prog w) A (call (.builtin "wrapper_descriptor.__get__") [.builtin i, .ref x, .ref C]) Q E s := by
  have L0 : Looks (model prog w) s.heap (typeOf (.ref x)) (.ref C) := I.type
  have hl := looks_mroIn (M := model prog w) X hm
  rcases hi with rfl | rfl
  · have L1 : Looks (model prog w) s.heap (isSubtype (.ref C) (.type (".".intercalate ("list.__len__".cutAt '.').dropLast))) true := by
      rw [show ".".intercalate ("list.__len__".cutAt '.').dropLast = "list" by decide +kernel]
      exact hl
    refine wpAny_call (codeAny_call_builtin (by decide +kernel) entry_wd (check_any (i := "wrapper_descriptor.__get__") (owner := "wrapper_descriptor") (nm := "__get__") (by first | exact .inl (by decide +kernel) | exact .inr (by decide +kernel)) (by decide +kernel)
      ((Looks.of_pure (show typeOf _ = pure (.type "wrapper_descriptor") by show builtinType _ = _; rw [builtinType_eq_fast]; kernel_rfl)).andThen (Looks.of_pure (by rw [isSubtype_type]; kernel_rfl))) (args_wd _ _ _) ?_))
    obtain ⟨hh, g, dr, t, os⟩ := s
    unfold Builtin.«wrapper_descriptor.__get__»
    repeat (first | lk | (rw [if_neg (show ¬ ((!true) = true) by decide)]))
    exact h
  · have L1 : Looks (model prog w) s.heap (isSubtype (.ref C) (.type (".".intercalate ("list.__init__".cutAt '.').dropLast))) true := by
      rw [show ".".intercalate ("list.__init__".cutAt '.').dropLast = "list" by decide +kernel]
      exact hl
    refine wpAny_call (codeAny_call_builtin (by decide +kernel) entry_wd (check_any (i := "wrapper_descriptor.__get__") (owner := "wrapper_descriptor") (nm := "__get__") (by first | exact .inl (by decide +kernel) | exact .inr (by decide +kernel)) (by decide +kernel)
      ((Looks.of_pure (show typeOf _ = pure (.type "wrapper_descriptor") by show builtinType _ = _; rw [builtinType_eq_fast]; kernel_rfl)).andThen (Looks.of_pure (by rw [isSubtype_type]; kernel_rfl))) (args_wd _ _ _) ?_))
    obtain ⟨hh, g, dr, t, os⟩ := s
    unfold Builtin.«wrapper_descriptor.__get__»
    repeat (first | lk | (rw [if_neg (show ¬ ((!true) = true) by decide)]))
    exact h
theorem inst_ne {cd : ClassData} (X : K.In h) (I : InstAt h x ox C od) (hc : clsIn K C = some cd) : x ≠ C := ks_ne X I hc
theorem super_ga {i T : String} {tk : Tok} {l : List Value} {gid : String} {cd : ClassData} {Q : Fin → Shared → Prop} (X : K.In s.heap) (I : InstAt s.heap x ox C od)
    (hso : s.heap.get? so = some (ks_superObj D x C)) (hno : nsIn K cStatics "thirdparty.any" = some none) (hc : clsIn K C = some cd) (hl : (cd.mro.dropWhile (· != .ref D)).drop 1 = l)
    (ht : typeIn K (.builtin i) = some (.type T)) (hg : typeLookup (.type T) "__get__" = pure (some (.builtin gid)))
    (hf : alongIn K name l = some (some (.builtin i))) (hn : (name == ("__class__" : Str)) = false)
    (hget : wpAny (model prog w) A (call (.builtin gid) [.builtin i, .ref x, .ref C]) (fun v s' => Q (.done (.ret v)) s') E s) :
    wpAny (model prog w) A (Builtin.«super.__getattribute__» ⟨[.ref so, .str name tk], []⟩) Q E s := by
  have hne : (Value.ref x == Value.ref C) = false := by simp [inst_ne X I hc]
  have hC : Looks (model prog w) s.heap (mroOf (.ref C)) cd.mro := (looks_clsIn X hc).andThen .now
  have hno' := looks_opaque (M := model prog w) X (C := C) hno
  have hT := looks_typeIn (M := model prog w) X ht
  obtain ⟨h, g, dr, t, os⟩ := s
  have hdt : (ks_superObj D x C).data = .fields #[.ref D, .ref x, .ref C] := rfl
  have f0 : (#[.ref D, .ref x, .ref C] : Array Value)[0]? = some (.ref D) := rfl
  have f1 : (#[.ref D, .ref x, .ref C] : Array Value)[1]? = some (.ref x) := rfl
  have f2 : (#[.ref D, .ref x, .ref C] : Array Value)[2]? = some (.ref C) := rfl
  unfold Builtin.«super.__getattribute__»
  repeat (first
    | (with_reducible refine wpAny_field hso hdt f0 ?_) | (with_reducible refine wpAny_field hso hdt f1 ?_) | (with_reducible refine wpAny_field hso hdt f2 ?_)
    | (with_reducible refine ks_wpAny_notOpaque hno' ?_)
    | (with_reducible refine Looks.at hC ?_; rw [hl])
    | (refine ks_forIn_along X (fun _ _ => rfl) rfl ?_ hf)
    | (with_reducible refine Looks.at hT ?_)
    | (with_reducible refine wpAny_of_eq hg ?_)
    | (with_reducible refine wpAny_mono hget (fun v s' hv => ?_) fun _ _ z => z)
    | (simp only [hn, hne, Bool.or_false, Bool.false_eq_true, if_false])
    | wp_step
    | dsimp only)
  all_goals exact hv
end
end
/- R6 -/
section
open PySem PySem.W PySem.Calls PyProof.Rows
section
variable {prog : Program} {w : World} {M : Model} {A : Around} {E : Value → Shared → Prop} {s : Shared} {K : Frag} {x C D d L so q : Addr} {h₀ h : Heap} {m : Str → Option Value} {news news' : List (Addr × Obj)} {its its' : Array Value} {n n' k : Nat} {es es' : List DictEntry} {ox : Obj} {od : Option Obj} {name : Str} {v : Value}
theorem super_method {i T : String} {gid Tb : String} {cd : ClassData} {l : List Value} {pl : Sem Bool} {Q : Value × List Value → Shared → Prop} (F : Fr h₀ L s.heap m) (X₀ : K.In h₀) (N : News h₀ L s.heap news) (I : InstAt s.heap x ox C od)
    (hso : s.heap.get? so = some (ks_superObj D x C)) (hno : nsIn K cStatics "thirdparty.any" = some none) (hc : clsIn K C = some cd) (hl : (cd.mro.dropWhile (· != .ref D)).drop 1 = l)
    (ht : typeIn K (.builtin i) = some (.type T)) (hg : typeLookup (.type T) "__get__" = pure (some (.builtin gid)))
    (hf : alongIn K name l = some (some (.builtin i))) (hn : (name == ("__class__" : Str)) = false)
    (hget : ∀ (A : Around) (Q' E' : Value → Shared → Prop) (s' : Shared), s'.heap = s.heap → Q' (.ref s.heap.objs.size) { s' with heap := s.heap.push (boundObj Tb i x) } → wpAny (model prog w) A (call (.builtin gid) [.builtin i, .ref x, .ref C]) Q' E' s')
    (h : ∀ q h', Fr h₀ L h' m → News h₀ L h' ((q, boundObj Tb i x) :: news) → (∀ p ∈ news, p.1 < q) → Q (.ref q, []) { s with heap := h', toks := s.toks + 1 }) :
    wpAny (model prog w) A (getMethod (.ref so) name pl) Q E s := by
  have hlk := PySem.F.ks_slot_super_ga.lookup
  have hcan := PySem.F.ks_canon_super_ga
  have hq := h s.heap.objs.size _ (F.push _) (N.push F (boundObj Tb i x)) fun p hp => Heap.lt_size (N p hp).1
  have X := X₀.keeps F.keep
  obtain ⟨hh, g, dr, t, os⟩ := s
  have hT : ∀ t', (⟨hh, g, dr, t', os⟩ : Shared).TypeIs (.ref so) "super" := fun _ => ⟨_, hso, rfl⟩
  unfold getMethod
  refine wpAny_bind (wpAny_specialOf (hT _) hlk ?_)
  show wpAny _ _ (if (Manifest.canonical "super.__getattribute__" != "object.__getattribute__") = true then _ else _) _ _ _
  rw [if_pos hcan]
  unfold getAttr getAttrBy
  refine wpAny_bind (wpAny_bind (wpAny_mkText (wpAny_holding (wpAny_bind (wpAny_typeOf (hT _) (wpAny_bind (wpAny_of_eq hlk ?_)))))))
  show wpAny _ _ (getAttrByItsOwn (.ref so) (.str name t) (.type "super") (.builtin "super.__getattribute__") true false) _ _ _
  unfold getAttrByItsOwn hookBefore callGetattribute boundAndCalled
  refine wpAny_bind (wpAny_of_eq (show (if onTheHeap (.type "super") then typeLookup (.type "super") "__getattr__" else pure none) = pure none from rfl) ?_)
  refine wpAny_bind (wpAny_attempt (wpAny_holding ?_))
  show wpAny _ _ (bindSpecial (.builtin "super.__getattribute__") (.ref so) >>= _) _ _ _
  refine wpAny_bind (wpAny_of_eq (PySem.F.ks_slot_super_ga.bind _) ?_)
  refine wpAny_mono (Q := fun v s' => v = .ref hh.objs.size ∧ s' = ⟨hh.push (boundObj Tb i x), g, dr, t + 1, os⟩) (E := fun _ _ => False)
    (wpAny_call_entry PySem.F.ks_slot_super_ga (hT _) PySem.F.ks_entry_super_ga (super_ga (s := ⟨hh, g, dr, t + 1, os⟩) X I hso hno hc hl ht hg hf hn (hget _ _ _ _ rfl ⟨_, rfl, rfl, rfl⟩)) (PySem.F.ks_gaArgs_super _ _)) (fun v s' hv => ?_) fun _ _ z => z.elim
  obtain ⟨rfl, rfl⟩ := hv
  exact wpAny_pure (wpAny_pure hq)
/- the keeper of a bound built-in is the machine -/
theorem keeps_bound {T i : String} (hT : T = "builtin_function_or_method" ∨ T = "method-wrapper") (hq : h.get? q = some (boundObj T i x)) : Looks M h (keeperOf (.ref q)) Keeper.machine := by
  unfold keeperOf
  refine (Looks.ld (part := none) hq).andThen ?_
  dsimp only
  rcases hT with rfl | rfl
  · rw [if_pos (by decide +kernel), if_pos (by decide +kernel)]; exact .now
  · rw [if_pos (by decide +kernel), if_pos (by decide +kernel)]; exact .now
theorem callWith_bound {env : Env} {pos : Pos} {T i : String} {Q : Value → Shared → Prop} (hT : T = "builtin_function_or_method" ∨ T = "method-wrapper") (hq : s.heap.get? q = some (boundObj T i x))
    (h : wpAny M A (call (.ref q) []) Q E s) : wpAny M A (callWith pos (.ref q) [] (backTo pos (starEach [] env)) []) Q E s :=
  callWith_of (P := fun h => h.get? q = some (boundObj T i x)) rfl (fun _ e => ⟨.machine, .inr (.inl rfl), keeps_bound hT e⟩) (evalArgs_nil3 ⟨hq, h⟩)
theorem call_bound {T i nm : String} {b : Builtin} {Q : Value → Shared → Prop} (hT : T = "builtin_function_or_method" ∨ T = "method-wrapper") (hq : s.heap.get? q = some (boundObj T i x)) (B : LB i nm b) (hi : Code.quiet (.builtin i ⟨[.ref x], []⟩) = true)
    (hck : wpAny (model prog w) A.in1 (checkBoundCall i ⟨[.ref x], []⟩) (fun _ s' => s' = s) (fun _ _ => False) s)
    (hc : wpAny (model prog w) A.in1 (b ⟨[.ref x], []⟩) (fun fin s' => ∃ v, fin = .done (.ret v) ∧ Q v s') E s) : wpAny (model prog w) A (call (.ref q) []) Q E s := by
  refine wpAny_call (codeAny_of_tree ?_)
  rw [Around.under_plain (by rfl) (by rfl)]
  show wpAny _ _ (callAny (.ref q) _) _ _ _
  unfold callAny
  refine wpAny_bind (wpAny_load hq ?_)
  have fin : wpAny (model prog w) A.in1 (checkBoundCall i ⟨[.ref x], []⟩ >>= fun _ => again (.builtin i ⟨[.ref x], []⟩)) (fun fin s' => match fin with
      | .done f => (match (Except.ok f : Result) with | .ok (.ret v) => Q v s' | .ok _ => False | .error e => E e s')
      | .again c' => c'.quiet = true ∧ codeAny (model prog w) A c' (fun r s' => match r with | .ok (.ret v) => Q v s' | .ok _ => False | .error e => E e s') s') (fun e s' => E e s') s := by
    refine wpAny_bind (wpAny_mono hck (fun _ s' e => ?_) fun _ _ z => z.elim)
    subst e
    refine wpAny_pure ⟨hi, codeAny_builtin B.entry ?_⟩
    rw [Around.under_plainId B.plain]
    refine wpAny_mono hc (fun fin s'' h' => ?_) fun _ _ z => z
    obtain ⟨v, rfl, hv⟩ := h'
    exact hv
  rcases hT with rfl | rfl
  · exact fin
  · exact fin
end
end
/- R7 -/
section
open PySem PySem.W PySem.Calls PyProof.Rows
theorem has_pop : (Manifest.signature? "list.pop").isSome = true := by kernel_rfl
noncomputable def sg_pop : Manifest.Signature := (Manifest.signature? "list.pop").get has_pop
theorem sig_pop : Manifest.signature? "list.pop" = some sg_pop := (Option.some_get has_pop).symm
theorem has_len : (Manifest.signature? "list.__len__").isSome = true := by kernel_rfl
noncomputable def sg_len : Manifest.Signature := (Manifest.signature? "list.__len__").get has_len
theorem sig_len : Manifest.signature? "list.__len__" = some sg_len := (Option.some_get has_len).symm
theorem has_init : (Manifest.signature? "list.__init__").isSome = true := by kernel_rfl
noncomputable def sg_init : Manifest.Signature := (Manifest.signature? "list.__init__").get has_init
theorem sig_init : Manifest.signature? "list.__init__" = some sg_init := (Option.some_get has_init).symm
theorem kind_pop : builtinKind "list.pop" = some .method := by kernel_rfl
theorem kind_len : builtinKind "list.__len__" = some .slot := by kernel_rfl
theorem kind_init : builtinKind "list.__init__" = some .slot := by kernel_rfl
theorem chk_pop (x : Value) : Bind.checkArgs "list.pop" { sg_pop with full := s!"{(Str.ofString "_Accumulator").toString}.{Bind.lastOf "list.pop"}" } ⟨[x], []⟩ = pure () := by kernel_rfl
theorem chk_len (x : Value) : Bind.checkArgs "list.__len__" sg_len ⟨[x], []⟩ = pure () := by kernel_rfl
theorem chk_init (x : Value) : Bind.checkArgs "list.__init__" sg_init ⟨[x], []⟩ = pure () := by kernel_rfl
theorem var_pop : Manifest.varargsMethods.contains "list.pop" = false := by kernel_rfl
section
variable {prog : Program} {w : World} {M : Model} {A : Around} {E : Value → Shared → Prop} {s : Shared} {K : Frag} {x C D d L so q : Addr} {h₀ h : Heap} {m : Str → Option Value} {news news' : List (Addr × Obj)} {its its' : Array Value} {n n' k : Nat} {es es' : List DictEntry} {ox : Obj} {od : Option Obj} {name : Str} {v : Value}
theorem check_len {E : Value → Shared → Prop} : wpAny M A (checkBoundCall "list.__len__" ⟨[.ref x], []⟩) (fun _ s' => s' = s) E s := by
  unfold checkBoundCall
  rw [sig_len, kind_len]
  dsimp only
  rw [if_pos (by decide), chk_len]
  exact wpAny_pure rfl
theorem check_init {E : Value → Shared → Prop} : wpAny M A (checkBoundCall "list.__init__" ⟨[.ref x], []⟩) (fun _ s' => s' = s) E s := by
  unfold checkBoundCall
  rw [sig_init, kind_init]
  dsimp only
  rw [if_pos (by decide), chk_init]
  exact wpAny_pure rfl
theorem check_pop {E : Value → Shared → Prop} {cd : ClassData} (X : K.In s.heap) (I : InstAt s.heap x ox C od) (hc : clsIn K C = some cd) (hcn : cd.qualname = Str.ofString "_Accumulator") (ht : typeIn K (.ref C) = some (.type "type")) (hmo : mroIn K C (.type "module") = some false) :
    wpAny M A (checkBoundCall "list.pop" ⟨[.ref x], []⟩) (fun _ s' => s' = s) E s := by
  have hx := I.at_
  have hn := I.no
  unfold checkBoundCall
  rw [sig_pop, kind_pop]
  dsimp only
  rw [if_neg (by decide)]
  have hm : Looks M s.heap (isInstance (.ref x) (.type "module")) false := I.type.andThen (looks_mroIn X hmo)
  refine wpAny_bind (hm.here ?_)
  rw [var_pop, if_neg (by decide)]
  have hty : Looks M s.heap (isType (.ref x)) false := by
    unfold isType loadHead
    refine (Looks.ld hx).andThen ?_
    obtain ⟨oc, odd, odt, osl⟩ := ox
    cases odt <;> first | exact .now | exact Bool.noConfusion hn
  refine wpAny_bind (hty.here ?_)
  rw [if_neg Bool.false_ne_true]
  refine wpAny_bind (I.type.here ?_)
  dsimp only
  refine wpAny_bind ((looks_clsIn X hc).here ?_)
  refine wpAny_bind ((looks_typeIn X ht).here ?_)
  rw [if_pos (by decide), hcn, chk_pop]
  exact wpAny_pure rfl
theorem erase_last (its : Array Value) : its.eraseIdxIfInBounds (its.size - 1) = its.pop := by
  unfold Array.eraseIdxIfInBounds
  split
  · rename_i h
    apply Array.ext'
    rw [Array.toList_eraseIdx, Array.toList_pop]
    rw [List.eraseIdx_eq_take_drop_succ, List.dropLast_eq_take, Array.length_toList, List.drop_eq_nil_of_le (by rw [Array.length_toList]; omega), List.append_nil]
  · rename_i h
    have : its.size = 0 := by omega
    have : its = #[] := Array.eq_empty_of_size_eq_zero this
    subst this; rfl
theorem pop_bound {cd : ClassData} {Q : Value → Shared → Prop} (F : Fr h₀ L s.heap m) (X₀ : K.In h₀) (N : News h₀ L s.heap news) (I : InstAt s.heap x (lobj C d its n) C od)
    (hc : clsIn K C = some cd) (hcn : cd.qualname = Str.ofString "_Accumulator") (ht : typeIn K (.ref C) = some (.type "type")) (hmo : mroIn K C (.type "module") = some false)
    (hq : (q, boundObj "builtin_function_or_method" "list.pop" x) ∈ news) (hv : its.back? = some v) (hz : its.size ≤ sizeLine)
    (U : Upd x (lobj C d its n) (lobj C d its.pop (n + 1)) news news')
    (h : ∀ h', Fr h₀ L h' m → News h₀ L h' news' → Q v { s with heap := h' }) : wpAny (model prog w) A (call (.ref q) []) Q E s := by
  have X := X₀.keeps F.keep
  have z := upd_at F N U
  have hpos : 0 < its.size := by
    cases e : its.size with
    | zero =>
      have : its = #[] := Array.eq_empty_of_size_eq_zero e
      subst this; cases hv
    | succ k => omega
  refine call_bound (.inl rfl) (N _ hq).1 lb_pop (plainId_quiet lb_pop.plain _) (check_pop X I hc hcn ht hmo) ?_
  show wpAny _ _ (Builtin.List.listItems (.ref x) >>= _) _ _ _
  refine wpAny_bind (wpAny_listItems I.at_ rfl ?_)
  have hne : its.isEmpty = false := by rw [Array.isEmpty_eq_false_iff_exists_mem]; exact ⟨its[0], Array.getElem_mem hpos⟩
  rw [hne, if_neg Bool.false_ne_true]
  have hi : seqIndex? (-1) its.size = some (its.size - 1) := by
    unfold seqIndex?
    have h1 : ((-1 : Int) < 0) := by decide
    simp only [h1, if_true]
    have h2 : (0 : Int) ≤ -1 + (its.size : Int) := by omega
    have h3 : -1 + (its.size : Int) < its.size := by omega
    simp only [h2, h3, decide_true, Bool.and_self, if_true]
    congr 1
    omega
  rw [hi]
  have hv' : its[its.size - 1]? = some v := by rw [← hv]; rfl
  dsimp only [Option.bind_some]
  rw [hv']
  dsimp only [Option.map_some]
  show wpAny _ _ (updateSeq x _ >>= _) _ _ _
  refine wpAny_bind (wpAny_updateSeq z.1 rfl (wpAny_pure ⟨v, rfl, ?_⟩) hz (by rw [erase_last, Array.size_pop]; omega))
  have e : Obj.mapSeq (·.eraseIdxIfInBounds (its.size - 1)) (lobj C d its n) = lobj C d its.pop (n + 1) := by
    rw [mapSeq_lobj, erase_last, if_neg (by rw [Array.size_pop, beq_iff_eq]; omega)]
  have ho : (s.heap.update x (Obj.mapSeq (·.eraseIdxIfInBounds (its.size - 1)))).get? x = some (lobj C d its.pop (n + 1)) := by
    rw [Heap.get?_update_self _ z.1 (by rw [e]; rfl), e]
  obtain ⟨a, b⟩ := upd_go F N U (Heap.SameBut.update ..) ho
  exact h _ a b
theorem len_bound {Q : Value → Shared → Prop} (N : News h₀ L s.heap news) (I : InstAt s.heap x (lobj C d its n) C od)
    (hq : (q, boundObj "method-wrapper" "list.__len__" x) ∈ news)
    (h : Q (.int its.size s.toks) { s with toks := s.toks + 1 }) : wpAny (model prog w) A (call (.ref q) []) Q E s := by
  refine call_bound (.inr rfl) (N _ hq).1 lb_len (plainId_quiet lb_len.plain _) check_len ?_
  show wpAny _ _ (seqSize x >>= _) _ _ _
  refine wpAny_bind ?_
  unfold seqSize
  refine wpAny_bind (wpAny_loadPart I.at_ (wpAny_pure ?_))
  unfold retInt
  exact wpAny_bind (wpAny_mkInt (wpAny_pure ⟨_, rfl, h⟩))
theorem init_bound {Q : Value → Shared → Prop} (F : Fr h₀ L s.heap m) (N : News h₀ L s.heap news) (I : InstAt s.heap x (lobj C d #[] n) C od)
    (hq : (q, boundObj "method-wrapper" "list.__init__" x) ∈ news)
    (U : Upd x (lobj C d #[] n) (lobj C d #[] n) news news')
    (h : ∀ h', Fr h₀ L h' m → News h₀ L h' news' → Q .none { s with heap := h' }) : wpAny (model prog w) A (call (.ref q) []) Q E s := by
  have z := upd_at F N U
  refine call_bound (.inr rfl) (N _ hq).1 lb_init (plainId_quiet lb_init.plain _) check_init ?_
  show wpAny _ _ (Builtin.List.listItems (.ref x) >>= _) _ _ _
  refine wpAny_bind (wpAny_listItems I.at_ rfl ?_)
  show wpAny _ _ (updateSeq x _ >>= _) _ _ _
  refine wpAny_bind (wpAny_updateSeq z.1 rfl (wpAny_bind (wpAny_letGo (wpAny_pure ⟨.none, rfl, ?_⟩))) (by decide) (by decide))
  have e : Obj.mapSeq (fun _ => #[]) (lobj C d #[] n) = lobj C d #[] n := rfl
  have ho : (s.heap.update x (Obj.mapSeq fun _ => #[])).get? x = some (lobj C d #[] n) := by
    rw [Heap.get?_update_self _ z.1 (by rw [e]; rfl), e]
  obtain ⟨a, b⟩ := upd_go F N U (Heap.SameBut.update ..) ho
  exact h _ a b
end
end
/- R8 -/
section
open PySem PySem.W PySem.Calls PyProof.Rows
/- the class is made by list's own maker -/
noncomputable def makesL (K : Frag) (C : Addr) : Bool := match K.lookup C with
  | some ⟨_, _, .cls cd, sl⟩ => !cd.hasDel && (sl.toList[4]?).join == some (.builtin "list.__new__") && cd.hasDict && cd.mro == [.ref C, .type "list", .type "object"] &&
      specialIn K (.ref C) "__call__" == some (some (.builtin "type.__call__")) && instIn K (.ref C) (.type "type") == some true && typeIn K (.ref C) == some (.type "type")
  | _ => false
structure MakesL (M : Model) (h : Heap) (C : Addr) : Prop where
  obj : ∃ oc od cd sl, h.get? C = some ⟨oc, od, .cls cd, sl⟩ ∧ cd.hasDel = false ∧ cd.hasDict = true ∧ cd.mro = [.ref C, .type "list", .type "object"]
  made : Looks M h (Bind.madeBy (.ref C)) (some "list.__new__")
  base : Looks M h (Bind.staticBase (.ref C)) (.ref C)
  self : Looks M h (isSubtype (.ref C) (.ref C)) true
  list : Looks M h (isSubtype (.ref C) (.type "list")) true
  call : Looks M h (specialOf (.ref C) "__call__") (some (.builtin "type.__call__"))
  typ : Looks M h (isInstance (.ref C) (.type "type")) true
theorem makesL_of {K : Frag} {M : Model} {h : Heap} (X : K.In h) {C : Addr} (e : makesL K C = true) : MakesL M h C := by
  unfold makesL at e
  split at e
  · rename_i oc od cd sl ho
    simp only [Bool.and_eq_true, Bool.not_eq_true', beq_iff_eq] at e
    obtain ⟨⟨⟨⟨⟨⟨e2, e3⟩, eh⟩, e4⟩, e7⟩, e8⟩, e9⟩ := e
    have hc : clsIn K C = some cd := by unfold clsIn; rw [ho]
    have hm : Looks M h (mroOf (.ref C)) cd.mro := (looks_clsIn X hc).andThen .now
    have made : Looks M h (Bind.madeBy (.ref C)) (some "list.__new__") := by
      intro A Q E s k q
      unfold Bind.madeBy
      refine wpAny_bind (hm A _ E s k ?_)
      rw [e4, List.forIn_cons]
      refine wpAny_bind (wpAny_bind (wpAny_bind (wpAny_bind (wpAny_loadPart (k _ _ (X _ _ ho)) (wpAny_pure ?_)))))
      dsimp only
      rw [← Array.getElem?_toList, e3]
      exact wpAny_pure (wpAny_pure (wpAny_pure q))
    refine ⟨⟨oc, od, cd, sl, X _ _ ho, e2, eh, e4⟩, made, ?_, looks_mroIn X ?_, looks_mroIn X ?_, looks_specialIn X e7, looks_instIn X e8⟩
    · intro A Q E s k q
      unfold Bind.staticBase
      refine wpAny_bind (hm A _ E s k ?_)
      rw [e4, List.forIn_cons]
      exact wpAny_bind (wpAny_bind (wpAny_bind (made A _ E s k (wpAny_pure (wpAny_pure (wpAny_pure q))))))
    · unfold mroIn; rw [hc, Option.bind_some, e4, if_neg (by simp)]; simp
    · unfold mroIn; rw [hc, Option.bind_some, e4, if_neg (by simp)]; simp
  · cases e
theorem kind_lnew : builtinKind "list.__new__" = some .builtinFn := by kernel_rfl
theorem split_lnew : splitId "list.__new__" = some ("list", "__new__") := by kernel_rfl
section
variable {prog : Program} {w : World} {A : Around} {K : Frag} {C : Addr} {R : Result → Shared → Prop} {h : Heap} {g : Array GenState} {d : Drawn} {t : Nat} {os : OsState}
theorem lobj_new {rest : List Value} (Y : MakesL (model prog w) h C)
    (hq : R (.ok (.ret (.ref (h.objs.size + 1)))) ⟨(h.push emptyDict).push (lobj C h.objs.size #[] 0), g, d, t, os⟩) :
    codeAny (model prog w) A (.call (.builtin "list.__new__") ⟨.ref C :: rest, []⟩) R ⟨h, g, d, t, os⟩ := by
  obtain ⟨⟨oc, od, cd, sl, hC, e2, eh, e4⟩, made, base, self, list, call, typ⟩ := Y
  refine codeAny_of_tree ?_
  rw [Around.under_plain (by rfl) (by rfl)]
  show wpAny _ A.in1 (do checkBuiltinCall "list.__new__" ⟨.ref C :: rest, []⟩; again (.builtin "list.__new__" ⟨.ref C :: rest, []⟩)) _ _ _
  refine wpAny_bind ?_
  have isT : Looks (model prog w) h (isType (.ref C)) true := by
    unfold isType loadHead
    exact (Looks.ld hC).andThen .now
  have here : Looks (model prog w) h (Bind.madeHere "list.__new__" (.ref C)) () := base.andThen (made.andThen (Looks.of_pure (by simp only [Option.map_some, bne_self_eq_false, Bool.false_eq_true, if_false])))
  have fin : wpAny (model prog w) A.in1 (again (.builtin "list.__new__" ⟨.ref C :: rest, []⟩)) (fun fin s' => match fin with | .done f => R (.ok f) s' | .again c' => c'.quiet = true ∧ codeAny (model prog w) A c' R s') (fun e s' => R (.error e) s') ⟨h, g, d, t, os⟩ := by
    refine wpAny_pure ⟨plainId_quiet PySem.F.plain_list_new _, codeAny_builtin_stack PySem.F.entry_list_new rfl fun p st => ?_⟩
    rw [Around.under_plainId PySem.F.plain_list_new _]
    have hown := owner_list_new
    simp only [hown]
    have hd : typeHasDict (.ref C) = true := rfl
    refine wpAny_bind (isT.here ?_)
    rw [if_neg (by decide)]
    refine wpAny_bind (list.here ?_)
    rw [if_neg (by decide)]
    refine wpAny_bind (wpAny_pure ?_)
    rw [hd, if_neg (by decide)]
    refine wpAny_bind ?_
    show wpAny _ _ (newObj (.type "dict") (.dict #[])) _ _ _
    refine wpAny_newObj_type ?_
    refine wpAny_bind ?_
    show wpAny _ _ (newObjAsIs _ _ _) _ _ _
    unfold newObjAsIs classHasDel
    refine wpAny_bind (wpAny_alloc (wpAny_bind (wpAny_bind (wpAny_load (Heap.get?_push_of_some _ (Heap.get?_push_of_some _ hC)) (wpAny_pure ?_)))))
    rw [e2]
    refine wpAny_pure (wpAny_pure ?_)
    show R _ _
    rw [Heap.size_push]
    exact hq
  simp only [checkBuiltinCall, kind_lnew, split_lnew]
  have hnn : ("__new__" == "__new__") = true := by decide
  repeat (first
    | exact fin
    | (with_reducible refine Looks.at isT ?_) | (with_reducible refine Looks.at list ?_) | (with_reducible refine Looks.at base ?_) | (with_reducible refine Looks.at made ?_)
    | (simp only [beq_self_eq_true, bne_self_eq_false, Bool.not_true, Bool.false_eq_true, if_false, if_true])
    | lk)
theorem lobj_make_core {rest : List Value} {init : Value} (Y : MakesL (model prog w) h C) (hi : Looks (model prog w) h (typeLookup (.ref C) "__init__") (some init))
    (hb : ∀ self, Looks (model prog w) h (bindSpecial init self) (init, [self]))
    (hq : codeAny (model prog w) (A.under (.builtin "type.__call__" ⟨.ref C :: rest, []⟩)) (.call init ⟨.ref (h.objs.size + 1) :: rest, []⟩) (InitBack (h.objs.size + 1) R) ⟨(h.push emptyDict).push (lobj C h.objs.size #[] 0), g, d, t, os⟩) :
    codeAny (model prog w) A (.call (.ref C) ⟨rest, []⟩) R ⟨h, g, d, t, os⟩ := by
  have Y' := Y
  obtain ⟨⟨oc, od, cd, sl, hC, e2, eh, e4⟩, made, base, self, list, call, typ⟩ := Y
  refine codeAny_of_tree ?_
  show wpAny _ _ (callAny (.ref C) _) _ _ _
  refine nd_load hC ?_
  show wpAny _ _ (callAny.viaDunder (.ref C) _) _ _ _
  unfold callAny.viaDunder
  refine wpAny_bind (call.at ?_)
  dsimp only
  rw [tc_bind]
  refine wpAny_bind (wpAny_pure (wpAny_bind (wpAny_pure ?_)))
  refine wpAny_pure (a := Fin.again (.call (.builtin "type.__call__") ⟨.ref C :: rest, []⟩)) (And.intro rfl ?_)
  refine codeAny_call_builtin_at (Code.quiet_builtin _ (by decide +kernel)) entry_typeCall (check_slot tc_kind tc_split typ (tc_args _ _ _) ?_)
  unfold Builtin.«type.__call__»
  have hm : Looks (model prog w) h (mroOf (.ref C)) cd.mro := ((Looks.ld (part := none) hC).andThen .now).andThen .now
  have e4' : cd.mro.isEmpty = false := by rw [e4]; rfl
  repeat (first | simp only [e4', Bool.false_eq_true, if_false] | with_reducible refine wpAny_call ?_ | lk)
  refine lobj_new Y' ?_
  have k : ∀ b o, h.get? b = some o → ((h.push emptyDict).push (lobj C h.objs.size #[] 0)).get? b = some o := fun b o e => Heap.get?_push_of_some _ (Heap.get?_push_of_some _ e)
  have hx : ((h.push emptyDict).push (lobj C h.objs.size #[] 0)).get? (h.objs.size + 1) = some (lobj C h.objs.size #[] 0) := by heap_get
  have t1 : Looks (model prog w) ((h.push emptyDict).push (lobj C h.objs.size #[] 0)) (typeOf (.ref (h.objs.size + 1))) (.ref C) := (Looks.ld hx).andThen .now
  have s1 := self.keeps k
  have i1 := hi.keeps k
  have b1 := (hb (.ref (h.objs.size + 1))).keeps k
  unfold isInstance callSpecial? specialOf
  repeat (first | with_reducible refine wpAny_call ?_ | lk)
  refine codeAny_mono hq fun r s' z => ?_
  rcases r with e | (v | _ | _ | _) <;> first | exact z | exact z.elim | skip
  obtain ⟨rfl, z⟩ := z
  exact wpAny_pure (wpAny_pure z)
end
section
variable {prog : Program} {w : World} {A : Around} {K : Frag} {C : Addr} {s : Shared} {h₀ : Heap} {L : Addr} {m : Str → Option Value} {news : List (Addr × Obj)} {R : Result → Shared → Prop}
end
end
/- M2 -/
section
open PySem PySem.W PySem.Calls PyProof.Rows
section
variable {prog : Program} {w : World} {A : Around} {E : Value → Shared → Prop} {s : Shared} {K : Frag} {H₀ : Heap} {p : Program} {loose : List Str} {mg mb : Str → Option Value}
  {R : Result → Shared → Prop} {name qual : Str} {params : Arguments} {body : List Stmt} {scope : Scope} {dV kV doc pm cdv ct oc : Value} {an od : Option Addr} {osl : Array (Option Value)} {f cc : Addr} {args : Args} {binds : List (Str × Value)}
theorem enterS (T : List (Addr × Obj)) (hT : ∀ q ∈ T, s.heap.get? q.1 = some q.2) (HS : Sub H₀ s.heap) (hT0 : ∀ q ∈ T, H₀.get? q.1 = none) (X : K.In H₀) (TR : TopRead p loose mg mb H₀)
    (ho : K.lookup f = some ⟨oc, od, .func (ksFn name qual params body scope dV kV doc pm an cdv ct cc), osl⟩) (hcd : codeIn K cdv qual = true) (hroom : A.depth < recursionLimit)
    (hbind : BindsTo s (ksFn name qual params body scope dV kV doc pm an cdv ct cc) args binds) (hloc : ∀ y ∈ binds, scope.names.lookup y.1 = some .local)
    (hcell : ∀ x ∈ scope.names, x.2 ≠ .cell) (hco : scope.isCoroutine = false) (hgen : scope.isGenerator = false) (hk : scope.kind = .function)
    (h : ∀ g L' h₁, Fr g L' h₁ (fun y => binds.reverse.lookup y) → News g L' h₁ T → K.In g → TopRead p loose mg mb g → Sub H₀ g →
      (∀ b o, b ∉ T.map (·.1) → s.heap.get? b = some o → g.get? b = some o) → Sub s.heap h₁ → L' = s.heap.objs.size →
      _root_.PySem.wpAt (model prog w) (A.deeper (ksEnv qual scope L' f cdv cc)) (.func body (ksEnv qual scope L' f cdv cc)) (execs body (ksEnv qual scope L' f cdv cc))
        (fun fl s' => R (.ok (.ret (match fl with | .ret v => v | _ => .none))) s') (fun _ _ => False)
        { s with heap := h₁, toks := s.toks + binds.length }) : codeAny (model prog w) A (.call (.ref f) args) R s := by
  have nm : ∀ b o, H₀.get? b = some o → b ∉ T.map (·.1) := fun b o e q => by
    obtain ⟨r, hr, rfl⟩ := List.mem_map.mp q
    rw [hT0 r hr] at e; cases e
  have st : Sub H₀ (hideAll s.heap (T.map (·.1))) := fun b o e => hideAll_get _ (HS b o e) (nm b o e)
  refine ks_codeAny_call_defAt (fd := ksFn name qual params body scope dV kV doc pm an cdv ct cc) (body := body) (binds := binds) hroom (HS _ _ (X _ _ ho)) rfl (TR.nolimit.keeps HS) (codeRec_of (X.keeps HS) hcd) rfl hbind hcell hloc (fun h₁ hns hk₁ => ?_) hco hgen hk
  exact ks_wpAt_mono (h _ s.heap.objs.size h₁ ⟨hns, fun b o e => hk₁ b o (of_hideAll _ e), Nat.le_of_eq (hideAll_size _ _)⟩
    (fun q hq => ⟨hk₁ _ _ (hT q hq), Nat.ne_of_lt (Heap.lt_size (hT q hq)), hideAll_none _ (List.mem_map_of_mem hq)⟩) (X.keeps st) (TR.keeps st) st (fun b o hb e => hideAll_get _ e hb) hk₁ rfl) (fun _ _ y => y) fun _ _ y => y.elim
end
/- what the heap of a walk's end says of the heap at its start -/
theorem kept_of {T : List (Addr × Obj)} {g : Heap} {s s' : Shared} {ts : List Addr} {L : Addr} {m : Str → Option Value} {news : List (Addr × Obj)}
    (hkeep : ∀ b o, b ∉ T.map (·.1) → s.heap.get? b = some o → g.get? b = some o) (F : Fr g L s'.heap m) (hL : s.heap.objs.size = L) (N : News g L s'.heap news)
    (hT : ∀ q ∈ T, s.heap.get? q.1 = some q.2) (hst : ∀ q ∈ T, q.1 ∉ ts → q ∈ news) (hos : s'.os = s.os) (hdr : s'.drawn = s.drawn) (hg : AllBare s.gens → AllBare s'.gens) : Kept ts s s' := by
  refine ⟨fun b o hb e => ?_, ?_, hos, hdr, hg⟩
  · by_cases hm : b ∈ T.map (·.1)
    · obtain ⟨q, hq, rfl⟩ := List.mem_map.mp hm
      have e' := hT q hq
      rw [e] at e'
      cases e'
      exact (N _ (hst q hq hb)).1
    · exact F.keep _ _ (hkeep b o hm e)
  · exact Nat.le_trans (Nat.le_of_eq hL) (Nat.le_of_lt F.ns.lt)
theorem Kept.refl {ts : List Addr} {s : Shared} : Kept ts s s := ⟨fun _ _ _ e => e, Nat.le_refl _, rfl, rfl, id⟩
theorem Kept.trans {ts us : List Addr} {s s' s'' : Shared} (a : Kept ts s s') (b : Kept us s' s'') : Kept (ts ++ us) s s'' :=
  ⟨fun x o hx e => b.keep x o (fun h => hx (List.mem_append_right _ h)) (a.keep x o (fun h => hx (List.mem_append_left _ h)) e), Nat.le_trans a.size b.size, b.os.trans a.os, b.drawn.trans a.drawn, fun h => b.gens (a.gens h)⟩
theorem Kept.mono {ts us : List Addr} {s s' : Shared} (a : Kept ts s s') (h : ∀ x ∈ ts, x ∈ us) : Kept us s s' := ⟨fun x o hx e => a.keep x o (fun q => hx (h x q)) e, a.size, a.os, a.drawn, a.gens⟩
theorem Kept.same {ts : List Addr} {s s' : Shared} (a : Kept ts s s') : Kept ts s s' := a
theorem upd_ne {h : Heap} {a b : Addr} {o o' : Obj} (ha : h.get? a = some o) (hb : h.get? b = some o') (hne : o.cls ≠ o'.cls) : @Ne Nat a b := fun e => by
  subst e
  rw [ha] at hb
  cases hb
  exact hne rfl
theorem fresh_of {T : List (Addr × Obj)} {g h' : Heap} {s : Shared} {L a : Addr} {o : Obj} {news : List (Addr × Obj)}
    (hkeep : ∀ b o, b ∉ T.map (·.1) → s.heap.get? b = some o → g.get? b = some o) (N : News g L h' news) (hm : (a, o) ∈ news) (hn : ∀ q ∈ T, q.1 ≠ a) : s.heap.get? a = none := by
  cases h : s.heap.get? a with
  | none => rfl
  | some o' =>
    have := hkeep a o' (fun q => by obtain ⟨r, hr, e⟩ := List.mem_map.mp q; exact hn r hr e) h
    rw [(N _ hm).2.2] at this
    cases this
end
/- R9 -/
section
open PySem PySem.W PySem.Calls PyProof.Rows
section
variable {prog : Program} {w : World} {A : Around} {E : Value → Shared → Prop} {s : Shared} {h₀ : Heap} {L : Addr} {m mg mb : Str → Option Value} {news : List (Addr × Obj)} {K : Frag} {p : Program} {loose : List Str} {x C D f cc cda so : Addr} {ox : Obj} {odx : Option Obj}
theorem sup_node {body : List Stmt} {q : Str} {scope : Scope} {p0 p1 : Pos} {attr : Str} {whole : Sem Value} {fd : FuncData} {ar : Arg} {vs : Array Value} {file : Str} {tf : Tok} {oc ccl cl : Value} {od cdd cld : Option Addr} {osl ccs csl : Array (Option Value)} {cdD : ClassData} {Q : Value → Shared → Prop}
    (F : Fr h₀ L s.heap m) (X₀ : K.In h₀) (N : News h₀ L s.heap news) (T : TopRead p loose mg mb h₀)
    (hf : K.lookup f = some ⟨oc, od, .func fd, osl⟩) (hp : (fd.params.posonlyargs ++ fd.params.args).head? = some ar) (hv : m ar.arg = some (.ref x)) (I : InstAt s.heap x ox C odx)
    (hcode : K.lookup cda = some ⟨ccl, cdd, .fields vs, ccs⟩) (hvs : vs[2]? = some (.str file tf)) (hfile : ((prog.main.file : Str) == file) = true)
    (hcell : K.lookup cc = some ⟨cl, cld, .cell (some (.ref D)), csl⟩) (hD : clsIn K D = some cdD) (hsub : mroIn K C (.ref D) = some true) (hsuper : nsIn K mainGlobals "super" = some none)
    (hat : (attr == ("__class__" : Str)) = false) (hks : scope.names.lookup ("super" : Str) = some .globalImplicit) (hkc : scope.names.lookup ("__class__" : Str) = some .free) (hka : scope.names.lookup ar.arg = some .local) (hk : scope.kind = .function)
    (htop : (prog.main.scope.names.lookup ("super" : Str)).isSome = false) (hboot : bootBuiltins "super" = some (.type "super"))
    (h : ∀ so h', Fr h₀ L h' m → News h₀ L h' ((so, ks_superObj D x C) :: news) → (∀ p ∈ news, p.1 < so) → Q (.ref so) { s with heap := h' }) :
    _root_.PySem.wpAt (model prog w) A (.func body (ksEnv q scope L f (.ref cda) cc)) (attributeBase (.Call (.Name "super" p0) [] [] p1) attr (ksEnv q scope L f (.ref cda) cc) whole) Q E s := by
  have X : K.In s.heap := X₀.keeps F.keep
  obtain ⟨hh, g, d, t, os⟩ := s
  obtain ⟨oD, hD1, hD2⟩ : ∃ oD, hh.get? D = some oD ∧ oD.data = .cls cdD := by
    unfold clsIn at hD
    split at hD
    · rename_i c d cd' sl ho
      cases hD
      exact ⟨_, X _ _ ho, rfl⟩
    · cases hD
  refine ks_wpAt_super_base (env := ksEnv q scope L f (.ref cda) cc) hks hkc hat rfl (X _ _ hf) rfl hp rfl (X _ _ hcode) rfl hvs hfile htop ?_
  refine ks_loadName_global hk hks (loadGlobal_builtin (env := ksEnv q scope L f (.ref cda) cc) (T.g.keeps F.keep) (mg_none_of X₀ T.g hsuper) (T.b.keeps F.keep) ((T.builtins _ (by decide +kernel)).trans hboot) ⟨rfl, ?_⟩)
  refine wpAny_loadName_free hk hkc rfl ⟨_, X _ _ hcell, rfl⟩ ?_
  refine wpAny_loadName_local hk hka F.ns hv ?_
  refine ks_wpAny_isType_cls hD1 hD2 ⟨rfl, ?_⟩
  refine ks_wpAny_call_super hD1 hD2 I.at_ I.cls (fun c e => ?_) (looks_mroIn X hsub) (fun h' e k => ?_)
  · have := I.no
    unfold notCls at this
    rw [e] at this
    exact Bool.noConfusion this
  · obtain ⟨F', N', l'⟩ := ks_newsPush (s := ⟨hh, g, d, t, os⟩) F N rfl e k
    exact h _ _ F' N' l'
/- super's view of a list method, for a class right above list -/
theorem supm {i T Tb gid : String} {name : Str} {cd : ClassData} {pl : Sem Bool} {Q : Value × List Value → Shared → Prop} (F : Fr h₀ L s.heap m) (X₀ : K.In h₀) (N : News h₀ L s.heap news) (hso : (so, ks_superObj C x C) ∈ news) (I : InstAt s.heap x ox C odx)
    (hno : nsIn K cStatics "thirdparty.any" = some none) (hc : clsIn K C = some cd) (hl : cd.mro = [.ref C, .type "list", .type "object"])
    (ht : typeIn K (.builtin i) = some (.type T)) (hg : typeLookup (.type T) "__get__" = pure (some (.builtin gid)))
    (hf : alongIn K name [.type "list", .type "object"] = some (some (.builtin i))) (hn : (name == ("__class__" : Str)) = false)
    (hget : ∀ (A : Around) (Q' E' : Value → Shared → Prop) (s' : Shared), s'.heap = s.heap → Q' (.ref s.heap.objs.size) { s' with heap := s.heap.push (boundObj Tb i x) } → wpAny (model prog w) A (call (.builtin gid) [.builtin i, .ref x, .ref C]) Q' E' s')
    (h : ∀ q h', Fr h₀ L h' m → News h₀ L h' ((q, boundObj Tb i x) :: news) → (∀ p ∈ news, p.1 < q) → Q (.ref q, []) { s with heap := h', toks := s.toks + 1 }) :
    wpAny (model prog w) A (getMethod (.ref so) name pl) Q E s :=
  super_method F X₀ N I (N _ hso).1 hno hc (by rw [hl]; simp [List.dropWhile]) ht hg hf hn hget h
theorem along_pop {K : Frag} : alongIn K "pop" [.type "list", .type "object"] = some (some (.builtin "list.pop")) := by kernel_rfl
theorem along_len {K : Frag} : alongIn K "__len__" [.type "list", .type "object"] = some (some (.builtin "list.__len__")) := by kernel_rfl
theorem along_init {K : Frag} : alongIn K "__init__" [.type "list", .type "object"] = some (some (.builtin "list.__init__")) := by kernel_rfl
theorem type_pop {K : Frag} : typeIn K (.builtin "list.pop") = some (.type "method_descriptor") := by kernel_rfl
theorem type_len {K : Frag} : typeIn K (.builtin "list.__len__") = some (.type "wrapper_descriptor") := by kernel_rfl
theorem type_init {K : Frag} : typeIn K (.builtin "list.__init__") = some (.type "wrapper_descriptor") := by kernel_rfl
theorem sup_pop {cd : ClassData} {pl : Sem Bool} {Q : Value × List Value → Shared → Prop} (F : Fr h₀ L s.heap m) (X₀ : K.In h₀) (N : News h₀ L s.heap news) (hso : (so, ks_superObj C x C) ∈ news) (I : InstAt s.heap x ox C odx)
    (hno : nsIn K cStatics "thirdparty.any" = some none) (hc : clsIn K C = some cd) (hl : cd.mro = [.ref C, .type "list", .type "object"]) (hm : mroIn K C (.type "list") = some true)
    (h : ∀ q h', Fr h₀ L h' m → News h₀ L h' ((q, boundObj "builtin_function_or_method" "list.pop" x) :: news) → (∀ p ∈ news, p.1 < q) → Q (.ref q, []) { s with heap := h', toks := s.toks + 1 }) :
    wpAny (model prog w) A (getMethod (.ref so) "pop" pl) Q E s :=
  supm F X₀ N hso I hno hc hl type_pop look_md along_pop (by decide) (fun A Q' E' s' e q => by
    obtain ⟨hh, g, d, t, os⟩ := s'
    dsimp only at e
    subst e
    exact get_pop (s := ⟨s.heap, g, d, t, os⟩) (X₀.keeps F.keep) I hm q) h
theorem sup_len {cd : ClassData} {pl : Sem Bool} {Q : Value × List Value → Shared → Prop} (F : Fr h₀ L s.heap m) (X₀ : K.In h₀) (N : News h₀ L s.heap news) (hso : (so, ks_superObj C x C) ∈ news) (I : InstAt s.heap x ox C odx)
    (hno : nsIn K cStatics "thirdparty.any" = some none) (hc : clsIn K C = some cd) (hl : cd.mro = [.ref C, .type "list", .type "object"]) (hm : mroIn K C (.type "list") = some true)
    (h : ∀ q h', Fr h₀ L h' m → News h₀ L h' ((q, boundObj "method-wrapper" "list.__len__" x) :: news) → (∀ p ∈ news, p.1 < q) → Q (.ref q, []) { s with heap := h', toks := s.toks + 1 }) :
    wpAny (model prog w) A (getMethod (.ref so) "__len__" pl) Q E s :=
  supm F X₀ N hso I hno hc hl type_len look_wd along_len (by decide) (fun A Q' E' s' e q => by
    obtain ⟨hh, g, d, t, os⟩ := s'
    dsimp only at e
    subst e
    exact get_wd (s := ⟨s.heap, g, d, t, os⟩) (X₀.keeps F.keep) I hm (.inl rfl) q) h
theorem sup_init {cd : ClassData} {pl : Sem Bool} {Q : Value × List Value → Shared → Prop} (F : Fr h₀ L s.heap m) (X₀ : K.In h₀) (N : News h₀ L s.heap news) (hso : (so, ks_superObj C x C) ∈ news) (I : InstAt s.heap x ox C odx)
    (hno : nsIn K cStatics "thirdparty.any" = some none) (hc : clsIn K C = some cd) (hl : cd.mro = [.ref C, .type "list", .type "object"]) (hm : mroIn K C (.type "list") = some true)
    (h : ∀ q h', Fr h₀ L h' m → News h₀ L h' ((q, boundObj "method-wrapper" "list.__init__" x) :: news) → (∀ p ∈ news, p.1 < q) → Q (.ref q, []) { s with heap := h', toks := s.toks + 1 }) :
    wpAny (model prog w) A (getMethod (.ref so) "__init__" pl) Q E s :=
  supm F X₀ N hso I hno hc hl type_init look_wd along_init (by decide) (fun A Q' E' s' e q => by
    obtain ⟨hh, g, d, t, os⟩ := s'
    dsimp only at e
    subst e
    exact get_wd (s := ⟨s.heap, g, d, t, os⟩) (X₀.keeps F.keep) I hm (.inr rfl) q) h
end
end
/- R10 -/
section
open PySem PySem.W PySem.Calls PyProof.Rows
noncomputable def SeqAt (h : Heap) (l : Addr) (its : Array Value) : Prop := ∃ o n, h.get? l = some o ∧ o.data = .seq its n
theorem SeqAt.keeps {h h' : Heap} {l : Addr} {its : Array Value} (a : SeqAt h l its) (k : ∀ o, h.get? l = some o → h'.get? l = some o) : SeqAt h' l its := let ⟨o, n, e, r⟩ := a; ⟨o, n, k _ e, r⟩
theorem SeqAt.ofList {h : Heap} {l : Addr} {its : Array Value} (a : h.IsList l its) : SeqAt h l its := let ⟨o, e, _, n, r⟩ := a; ⟨o, n, e, r⟩
section
variable {prog : Program} {w : World} {A : Around} {E : Value → Shared → Prop} {s : Shared} {K : Frag} {x C d : Addr} {its : Array Value} {ox : Obj} {od : Option Obj}
theorem next_item_l {it l : Addr} {i : Nat} {items} {x : Value} {Q : Option Value → Shared → Prop} (hit : s.heap.IsListIter it l i)
    (hl : SeqAt s.heap l items) (hx : items[i]? = some x)
    (hQ : ∀ h', h'.IsListIter it l (i + 1) → Heap.SameBut it s.heap h' → Q (some x) { s with heap := h' }) :
    wpAny (model prog w) A (pyNext (.ref it)) Q E s := by
  obtain ⟨o, ho, hc, hd⟩ := id hit
  obtain ⟨ol, nl, hol, hdl⟩ := hl
  unfold pyNext
  refine wpAny_bind (wpAny_attempt (wpAny_callSpecial?_slot (name := Str.ofString "__next__") hit.typeIs slot_listiter_next
    (wpAny_call_entry slot_listiter_next hit.typeIs entry_listiter_next ?_ (args_listiter_next _))))
  show wpAny _ _ (field (.ref it) 0 >>= _) _ _ s
  refine wpAny_bind (wpAny_field ho hd (x := .ref l) rfl ?_)
  show wpAny _ _ (if (Value.ref l == Value.none) = true then _ else _) _ _ s
  rw [if_neg (show ¬ ((Value.ref l == Value.none) = true) from Bool.false_ne_true)]
  show wpAny _ _ (field (.ref it) 1 >>= _) _ _ s
  refine wpAny_bind (wpAny_field ho hd (x := .int i 0) rfl ?_)
  show wpAny _ _ (seqItems? (.ref l) >>= _) _ _ s
  refine wpAny_bind (wpAny_seqItems hol hdl ?_)
  simp only [Int.toNat_natCast, hx]
  refine wpAny_bind (wpAny_setField ho hd (by simp) (wpAny_pure ⟨x, rfl, wpAny_pure (hQ _ ?_ (Heap.SameBut.update ..))⟩))
  exact ⟨_, Heap.get?_update_self _ ho (Obj.isFreed_of_fields (Obj.data_mapFields hd _)), (Obj.cls_mapFields ..).trans hc, by
    rw [Obj.data_mapFields hd]; simp [rawInt]⟩
theorem next_end_l {it l : Addr} {i : Nat} {items} {Q : Option Value → Shared → Prop} (hh : A.handled = none)
    (hit : s.heap.IsListIter it l i) (hl : SeqAt s.heap l items) (hx : items[i]? = none)
    (hQ : ∀ h', Heap.ExtBut it s.heap h' → Q none { s with heap := h' }) : wpAny (model prog w) A (pyNext (.ref it)) Q E s := by
  obtain ⟨o, ho, hc, hd⟩ := id hit
  obtain ⟨ol, nl, hol, hdl⟩ := hl
  unfold pyNext
  refine wpAny_bind (wpAny_attempt (wpAny_callSpecial?_slot (name := Str.ofString "__next__") hit.typeIs slot_listiter_next
    (wpAny_call_entry slot_listiter_next hit.typeIs entry_listiter_next ?_ (args_listiter_next _))))
  show wpAny _ _ (field (.ref it) 0 >>= _) _ _ s
  refine wpAny_bind (wpAny_field ho hd (x := .ref l) rfl ?_)
  show wpAny _ _ (if (Value.ref l == Value.none) = true then _ else _) _ _ s
  rw [if_neg (show ¬ ((Value.ref l == Value.none) = true) from Bool.false_ne_true)]
  show wpAny _ _ (field (.ref it) 1 >>= _) _ _ s
  refine wpAny_bind (wpAny_field ho hd (x := .int i 0) rfl ?_)
  show wpAny _ _ (seqItems? (.ref l) >>= _) _ _ s
  refine wpAny_bind (wpAny_seqItems hol hdl ?_)
  simp only [Int.toNat_natCast, hx]
  refine wpAny_bind (wpAny_rule (wpAny_bind (wpAny_setField ho hd (by simp) ?_)))
  show wpAny _ _ (newExc (.type "StopIteration") [] >>= _) _ _ _
  refine wpAny_bind ?_
  simp only [newExc, newTuple]
  refine wpAny_bind (wpAny_newObj_type ?_ (by size_fits))
  refine wpAny_bind (m := firstArgMember _ _) (wpAny_of_eq (a := Value.none) (by first | rfl | (simp only [firstArgMember]; rfl)) ?_)
  refine wpAny_newObj_type ?_ (by size_fits)
  simp only [raiseNew]
  refine wpAny_bind (wpAny_handled ?_)
  rw [show A.in1.handled = none from hh]
  refine wpAny_bind (wpAny_pure (wpAny_throw ?_))
  refine wpAny_bind (wpAny_isInstance (T := "StopIteration") (b := true) ⟨_, Heap.get?_push_size _ rfl, rfl⟩ isSubtype_stop ?_)
  exact wpAny_pure (hQ _ (((Heap.SameBut.update ..).extBut.push _).push _))
theorem iter_l {Q : Value → Shared → Prop} (X : K.In s.heap) (I : InstAt s.heap x ox C od) (hl : mroIn K C (.type "list") = some true) (hf : findIn K (.ref C) "__iter__" = some (some (.builtin "list.__iter__")))
    (hQ : Q (.ref s.heap.objs.size) { s with heap := s.heap.push { cls := .type "list_iterator", data := .fields #[.ref x, .int 0 0] } }) :
    wpAny (model prog w) A (pyIter (.ref x)) Q E s := by
  have fin : wpAny (model prog w) A (call (.builtin "list.__iter__") [.ref x]) (fun it s' => ∃ T' r, s'.TypeIs it T' ∧ typeLookup (.type T') "__next__" = pure (some r) ∧ Q it s') E s := by
    refine call_bi lb_iter X I hl (args_list_iter _) ?_
    show wpAny _ _ (do ret (← newFields "list_iterator" [.ref x, rawInt 0])) _ _ s
    exact wpAny_bind (wpAny_newObj_type (wpAny_pure ⟨_, rfl, "list_iterator", _, ⟨_, Heap.get?_push_size _ rfl, rfl⟩, slot_listiter_next.lookup, hQ⟩))
  have fin2 : ∀ refuse : Sem Value, wpAny (model prog w) A (if (Value.builtin "list.__iter__" == Value.none) = true then (refuse >>= fun v => pure (some v)) else (call (.builtin "list.__iter__") [.ref x] >>= fun v => pure (some v)))
      (fun r s' => ∃ it, r = some it ∧ ∃ T' r, s'.TypeIs it T' ∧ typeLookup (.type T') "__next__" = pure (some r) ∧ Q it s') E s := fun refuse => by
    simp only [builtin_beq_none, Bool.false_eq_true, if_false]
    exact wpAny_bind (wpAny_mono fin (fun v s' h' => wpAny_pure ⟨v, rfl, h'⟩) fun _ _ h' => h')
  unfold pyIter specialOf
  refine wpAny_bind (wpAny_bind (I.type.here ((looks_findIn X hf).here ?_)))
  show wpAny _ _ (callSpecialIfBoundUnlessNone? (.ref x) "__iter__" _ >>= _) Q E s
  refine wpAny_bind ?_
  simp only [callSpecialIfBoundUnlessNone?, bindSpecialIfBound?]
  unfold specialOf
  refine wpAny_holding (wpAny_bind (wpAny_bind (wpAny_bind (I.type.here ((looks_findIn X hf).here ?_)))))
  simp only [lb_iter.bind]
  refine wpAny_bind (wpAny_askSetting (wpAny_ite ?_))
  have go : ∀ (r : Option Value) s', (∃ it, r = some it ∧ ∃ T' r, s'.TypeIs it T' ∧ typeLookup (.type T') "__next__" = pure (some r) ∧ Q it s') →
      wpAny (model prog w) A (match r with
        | some it => do
          match ← (do typeLookup (← typeOf it) "__next__") with
          | none => rule "iter.non-iterator"; raiseError "TypeError" s!"iter() returned non-iterator of type '{← typeNameOf it}'"
          | some _ => pure it
        | none => do
          match ← bindSpecialIfBound? (.ref x) "__getitem__" with
          | none => rule "iter.not-iterable"; raiseError "TypeError" s!"'{← typeNameOf (.ref x)}' object is not iterable"
          | some _ => rule "iter.getitem-fallback"; newFields "iterator" [.ref x, ← mkInt 0]) Q E s' := by
    rintro r s' ⟨it, rfl, T', r', hT', hl', hq⟩
    exact wpAny_bind (wpAny_specialOf hT' hl' (wpAny_pure hq))
  split
  · exact wpAny_bind (wpAny_pure (wpAny_pure (wpAny_mono (fin2 _) go fun _ _ e => e)))
  · exact wpAny_tryCatch (wpAny_bind (wpAny_pure (wpAny_pure (wpAny_mono (fin2 _) go fun _ _ e => e))))
theorem walksT_l {prog : Program} {w : World} {A : Around} (hh : A.handled = none) (I ax : Addr) (hne : ax ≠ I) (items : Array Value) (Ts : Nat → Addr) (vals : Nat → Array Value)
    (hit : ∀ j, j < items.size → items[j]? = some (.ref (Ts j))) (hTI : ∀ j, j < items.size → Ts j ≠ I) :
    WalksU prog w A I (I :: ax :: (List.range items.size).map Ts) [I] items.size (fun j v => j < items.size ∧ v = vals j)
      (fun j h => h.IsListIter I ax j ∧ SeqAt h ax items ∧ ∀ k, k < items.size → h.IsTuple (Ts k) (vals k))
      (fun j T h => (j < items.size ∧ T = Ts j) ∧ h.IsListIter I ax (j + 1) ∧ SeqAt h ax items ∧ ∀ k, k < items.size → h.IsTuple (Ts k) (vals k)) where
  sub := fun b hb => by simp at hb; simp [hb]
  frame := fun _ _ _ st hk => ⟨st.1.at fun o e => hk I (by simp) o e, st.2.1.keeps fun o e => hk ax (by simp) o e,
    fun k hk' => (st.2.2 k hk').at fun o e => hk (Ts k) (List.mem_cons_of_mem _ (List.mem_cons_of_mem _ (List.mem_map.mpr ⟨k, List.mem_range.mpr hk', rfl⟩))) o e⟩
  item := fun i s Q E hi st hQ => by
    refine next_item_l st.1 st.2.1 (x := .ref (Ts i)) (hit i hi) fun h' hit' hs' => ?_
    have tup : ∀ k, k < items.size → h'.IsTuple (Ts k) (vals k) := fun k hk' => (st.2.2 k hk').extBut hs'.extBut (hTI k hk')
    exact hQ (Ts i) (vals i) h' s.toks ⟨hi, rfl⟩ (tup i hi) ⟨⟨hi, rfl⟩, hit', st.2.1.keeps fun o e => hs'.extBut _ o hne e, tup⟩ fun b o hb e => hs'.extBut b o (fun h => hb (by simp [h])) e
  go := fun _ _ _ _ _ s Q _ hm hQ => wpAny_letOwnedTupleGo_listiter hm.2.1 (hQ s.heap hm.2 fun _ _ _ e => e)
  apart := fun j T _ hm hmem => by
    rcases List.mem_cons.mp hmem with e | e
    · exact hTI j hm.1.1 (hm.1.2 ▸ e)
    · cases e
  done := fun s Q E st hQ => next_end_l hh st.1 st.2.1 (by simp) fun h' he' => hQ h' s.toks fun b o hb e => he' b o (fun h => hb (by simp [h])) e
  self := fun _ _ _ _ st hQ => wpAny_pyIter_listiter st.1 hQ
end
end
/- R11 -/
section
open PySem PySem.W PySem.Calls PyProof.Rows
noncomputable abbrev tupOf (vs : List Value) : Obj := { cls := .type "tuple", data := .seq vs.toArray }
noncomputable def PartAt (h : Heap) (v : Value) (p : Str × Str) : Prop := ∃ a t u, v = .ref a ∧ h.get? a = some (tupOf [.str p.1 t, .str p.2 u])
noncomputable def Parts (h : Heap) (its : List Value) (ps : List (Str × Str)) : Prop := its.length = ps.length ∧ ∀ (i : Nat) (v : Value) (p : Str × Str), its[i]? = some v → ps[i]? = some p → PartAt h v p
theorem PartAt.keeps {h h' : Heap} {v : Value} {p : Str × Str} (a : PartAt h v p) (k : ∀ b o, h.get? b = some o → o.cls = .type "tuple" → h'.get? b = some o) : PartAt h' v p := let ⟨a, t, u, e, r⟩ := a; ⟨a, t, u, e, k _ _ r rfl⟩
theorem Parts.keeps {h h' : Heap} {its : List Value} {ps : List (Str × Str)} (a : Parts h its ps) (k : ∀ b o, h.get? b = some o → o.cls = .type "tuple" → h'.get? b = some o) : Parts h' its ps := ⟨a.1, fun i v p e f => (a.2 i v p e f).keeps k⟩
section
variable {prog : Program} {w : World} {A : Around} {E : Value → Shared → Prop} {s : Shared} {K : Frag} {x C d L c P bm : Addr} {its : Array Value} {n k : Nat} {od : Option Obj} {h₀ : Heap} {m mg : Str → Option Value} {ob : Obj} {news : List (Addr × Obj)} {g : Obj → List (Addr × Obj)} {ps : Array Value}
theorem inst_keeps {h h' : Heap} {ox : Obj} (I : InstAt h x ox C od) (k : ∀ b o, h.get? b = some o → h'.get? b = some o) : InstAt h' x ox C od := by
  refine ⟨k _ _ I.at_, I.cls, I.no, ?_⟩
  have := I.dict
  revert this
  cases ox.dict <;> cases od <;> intro q
  all_goals first | exact q | exact k _ _ q
theorem genT_l {env : Env} {elt iter : Expr} {xa xb : Str} {pa pb pt : Pos} {kt : Nat} {scope : Scope} {cl : List (Str × Addr)} {pos : Pos} {Q : Value → Shared → Prop} {parts : List (Str × Str)} {dt : Str × Str → PyData}
    (F : Fr h₀ L s.heap m) (N : News h₀ L s.heap news) (U : UpdF P (tabObj ps) news g) (CH : CodeHd h₀ c P) (ht : TriplesOk ps.toList) (hcode : env.code = .ref c) (B : BMod h₀ env.globals mg bm ob)
    (G : AllBare s.gens) (hlim : h₀.NoLimit) (hh : A.handled = none) (hco : scope.isCoroutine = false) (hclos : closureFor scope env = pure cl) (hcell : ∀ y ∈ scope.names, y.2 ≠ .cell) (h0 : scope.names.lookup (".0" : Str) = some NameKind.local)
    (hxa : scope.names.lookup xa = some .local) (hxb : scope.names.lookup xb = some .local) (hab : xa ≠ xb) (hkind : scope.kind = .function) (hroom : A.depth < recursionLimit)
    (hm : wpAny (model prog w) A (eval iter env) (fun xv s₁ => xv = .ref x ∧ s₁ = s) E s)
    (X : K.In h₀) (I : InstAt h₀ x (lobj C d its n) C od) (hl : mroIn K C (.type "list") = some true) (hf : findIn K (.ref C) "__iter__" = some (some (.builtin "list.__iter__"))) (PT : Parts h₀ its.toList parts)
    (hel : ∀ (cv : Value) (D : Addr) (A' : Around) E' p (ta tb : Tok) (t : Shared) m₂, A'.handled = none → A'.depth ≤ A.depth + 1 → A'.units ≤ A.units + 8 → p ∈ parts → Fr h₀ D t.heap m₂ → m₂ xa = some (.str p.1 ta) → m₂ xb = some (.str p.2 tb) →
      wpAny (model prog w) A' (eval elt (genEnv scope cl D cv builtinsNs env)) (fun y s₃ => Carried y (dt p) ∧ Keeps t s₃) E' t)
    (hs : ∀ x, genFold iter env x = pure x)
    (hQ : ∀ ps' a s₅ Kb, TriplesOk ps'.toList → Fr h₀ L s₅.heap m → News h₀ L s₅.heap (g (tabObj ps')) → AllBare s₅.gens → s₅.os = s.os → s₅.drawn = s.drawn → s.heap.objs.size ≤ s₅.heap.objs.size → Kb + 1 = s.heap.objs.size → L ≤ Kb →
      GenOnD prog w A Kb a parts (fun _ => true) dt s₅ → Q (.ref a) s₅) :
    wpAny (model prog w) A (eval (.GeneratorExp elt [⟨.Tuple [.Name xa pa, .Name xb pb] kt pt, iter, [], 0⟩] scope pos) env) Q E s := by
  refine wpAny_GeneratorExp_walksQTD hh hco hclos hcell h0 hxa hxb hab hkind hroom (wpAny_mono hm (fun xv s₁ e => ?_) fun _ _ e => e) hs
  obtain ⟨rfl, rfl⟩ := e
  obtain ⟨hh₀, gens, drawn, toks, os⟩ := s₁
  dsimp only at F N G hQ
  have Xh := X.keeps F.keep
  have Ih : InstAt hh₀ x (lobj C d its n) C od := inst_keeps I F.keep
  have hx0 := I.at_
  have hxL := Heap.lt_size hx0
  have hLs : @LT.lt Nat _ L hh₀.objs.size := F.ns.lt
  refine iter_l Xh Ih hl hf ?_
  obtain ⟨pre, post, hnews, hg, ha, hb⟩ := U.split
  have hPm : (P, tabObj ps) ∈ news := by rw [hnews]; exact List.mem_append.mpr (.inr (.head _))
  obtain ⟨hP, hPL, hP0⟩ := N _ hPm
  dsimp only at hP hPL hP0
  have F₂ := F.push { cls := .type "list_iterator", data := .fields #[.ref x, .int 0 0] }
  have hP₂ : (hh₀.push { cls := .type "list_iterator", data := .fields #[.ref x, .int 0 0] }).get? P = some (tabObj ps) := Heap.get?_push_of_some _ hP
  have key : ∀ (cv : Value) (h₃ : Heap) (tk₃ : Tok) (ps' : Array Value), Heap.ExtBut P (hh₀.push { cls := .type "list_iterator", data := .fields #[.ref x, .int 0 0] }) h₃ → hh₀.objs.size + 1 ≤ h₃.objs.size → h₃.get? P = some (tabObj ps') → TriplesOk ps'.toList →
      wpAny (model prog w) A (builtinsFor env.globals env.builtins) (fun bi s₄ =>
        ∃ I fp wr n₀ Pt St₀ Mid pz F, Value.ref hh₀.objs.size = .ref I ∧ (∀ A' : Around, A'.handled = none → WalksU prog w A' I fp wr n₀ Pt St₀ Mid) ∧ (∀ i vals, Pt i vals → ∃ va vb, vals = #[va, vb]) ∧ St₀ 0 s₄.heap ∧ (∀ b ∈ fp, b < s₄.heap.objs.size) ∧ s₄.heap.NoLimit ∧ cStatics ∉ wr ∧
          (∀ href : Heap, (∀ b o, s₄.heap.get? b = some o → href.get? b = some o) →
            QuietGenTD prog w (genEnv scope cl s₄.heap.objs.size cv bi env) xa xb [] elt (List.range s₄.heap.objs.size) wr Pt pz F href (A.depth + 1) (A.units + 8)) ∧
          (∀ a h₅ tk gs, gs.bare = true → s₄.heap.objs.size < a → h₅.objs.size = a + 1 → (∀ b o, s₄.heap.get? b = some o → h₅.get? b = some o) →
            WalksS prog w A.in4 a (a :: s₄.heap.objs.size :: List.range s₄.heap.objs.size) (s₄.heap.objs.size :: wr) (GenOnlyQ s₄.gens.size) (passing pz n₀ 0).length
              (fun j y => ∃ i, (passing pz n₀ 0)[j]? = some i ∧ F i y) (GenAt prog w A.in4 a s₄.gens.size s₄.heap.objs.size (List.range s₄.heap.objs.size) wr pz n₀ F) →
            GenAt prog w A.in4 a s₄.gens.size s₄.heap.objs.size (List.range s₄.heap.objs.size) wr pz n₀ F 0 { s₄ with gens := s₄.gens.push gs, toks := tk, heap := h₅ } →
            Q (.ref a) { s₄ with gens := s₄.gens.push gs, toks := tk, heap := h₅ })) E ⟨h₃, gens, drawn, tk₃, os⟩ := by
    intro cv h₃ tk₃ ps' hx₃ hsz₃ hP₃ ht'
    have keep₃ : ∀ b o, h₀.get? b = some o → h₃.get? b = some o := fun b o e => hx₃ b o (fun q => by rw [q, hP0] at e; cases e) (F₂.keep b o e)
    have F₃ : Fr h₀ L h₃ m := ⟨F₂.ns.extBut hx₃ (Ne.symm hPL), keep₃, F₂.above⟩
    have N₃ : News h₀ L h₃ (g (tabObj ps')) := by
      rw [hg]
      intro q hq
      rcases List.mem_append.mp hq with hq | hq
      · have hm := N q (by rw [hnews]; exact List.mem_append.mpr (.inl hq))
        exact ⟨hx₃ _ _ (ha q hq) (Heap.get?_push_of_some _ hm.1), hm.2⟩
      · rcases List.mem_cons.mp hq with rfl | hq
        · exact ⟨hP₃, hPL, hP0⟩
        · have hm := N q (by rw [hnews]; exact List.mem_append.mpr (.inr (.tail _ hq)))
          exact ⟨hx₃ _ _ (hb q hq) (Heap.get?_push_of_some _ hm.1), hm.2⟩
    have M₃ := B.keeps keep₃
    have hl₃ : h₃.NoLimit := hlim.keeps keep₃
    have hst : cStatics < hh₀.objs.size := let ⟨_, hn, _⟩ := hlim.keeps F.keep; hn.lt
    refine wpAny_builtinsFor M₃.ns M₃.name M₃.ne M₃.obj M₃.cls M₃.dict M₃.data ?_
    have len : its.size = parts.length := by simpa using PT.1
    have part : ∀ j, j < its.size → ∃ p, parts[j]? = some p ∧ ∃ a ta tb, its[j]? = some (.ref a) ∧ h₀.get? a = some (tupOf [.str p.1 ta, .str p.2 tb]) := fun j hj => by
      have h1 : parts[j]? = some (parts[j]'(len ▸ hj)) := List.getElem?_eq_getElem _
      have h2 : its.toList[j]? = some (its[j]) := by simp [hj]
      obtain ⟨a, ta, tb, e, r⟩ := PT.2 j _ _ h2 h1
      exact ⟨_, h1, a, ta, tb, by rw [← e]; simp [hj], r⟩
    let Ts : Nat → Addr := fun j => match its[j]? with | some (.ref a) => a | _ => 0
    let vals : Nat → Array Value := fun j => match h₀.get? (Ts j) with | some ⟨_, _, .seq vs _, _⟩ => vs | _ => #[]
    have hTs : ∀ j, j < its.size → its[j]? = some (.ref (Ts j)) ∧ h₀.get? (Ts j) ≠ none := fun j hj => by
      obtain ⟨p, _, a, ta, tb, e, r⟩ := part j hj
      have q : Ts j = a := by simp only [Ts, e]
      rw [q]; exact ⟨e, by rw [r]; simp⟩
    have hTL : ∀ j, j < its.size → @LT.lt Nat _ (Ts j) hh₀.objs.size := fun j hj => by
      cases e : h₀.get? (Ts j) with
      | none => exact absurd e (hTs j hj).2
      | some o => exact Nat.lt_trans (Nat.lt_of_lt_of_le (Heap.lt_size e) F.above) hLs
    have hvals : ∀ j, j < its.size → ∃ p ta tb, parts[j]? = some p ∧ vals j = #[.str p.1 ta, .str p.2 tb] ∧ h₀.get? (Ts j) = some (tupOf [.str p.1 ta, .str p.2 tb]) := fun j hj => by
      obtain ⟨p, hp, a, ta, tb, e, r⟩ := part j hj
      have q : Ts j = a := by simp only [Ts, e]
      exact ⟨p, ta, tb, hp, by simp only [vals, q, r], by rw [q]; exact r⟩
    have tup : ∀ h : Heap, (∀ b o, h₀.get? b = some o → h.get? b = some o) → ∀ j, j < its.size → h.IsTuple (Ts j) (vals j) := fun h k j hj => by
      obtain ⟨p, ta, tb, hp, hv, r⟩ := hvals j hj
      rw [hv]
      exact ⟨_, k _ _ r, rfl, _, rfl⟩
    have hxs : @LT.lt Nat _ x hh₀.objs.size := Nat.lt_trans (Nat.lt_of_lt_of_le hxL F.above) hLs
    have hitr : (hh₀.push { cls := .type "list_iterator", data := .fields #[.ref x, .int 0 0] }).get? hh₀.objs.size = some { cls := .type "list_iterator", data := .fields #[.ref x, .int 0 0] } := Heap.get?_push_size _ rfl
    have hIP : hh₀.objs.size ≠ P := fun q => Nat.lt_irrefl _ (q ▸ Heap.lt_size hP)
    refine ⟨hh₀.objs.size, _, _, _, _, _, _, (fun i => (parts[i]?.map fun _ => true).getD false), (fun i y => ∃ b, parts[i]? = some b ∧ Carried y (dt b)), rfl,
      (fun A' hA => walksT_l hA hh₀.objs.size x (Nat.ne_of_lt hxs) its Ts vals (fun j hj => (hTs j hj).1) fun j hj => Nat.ne_of_lt (hTL j hj)), ?_, ⟨?_, ?_, ?_⟩, ?_, hl₃, ?_, ?_, ?_⟩
    · rintro i vs ⟨hi, rfl⟩
      obtain ⟨p, ta, tb, _, hv, _⟩ := hvals i hi
      exact ⟨_, _, hv⟩
    · exact ⟨_, hx₃ _ _ hIP hitr, rfl, rfl⟩
    · exact ⟨_, _, keep₃ _ _ hx0, rfl⟩
    · exact tup _ keep₃
    · intro b hb
      simp only [List.mem_cons, List.mem_map, List.mem_range] at hb
      show @LT.lt Nat _ b h₃.objs.size
      rcases hb with rfl | rfl | ⟨j, hj, rfl⟩
      · omega
      · omega
      · have := hTL j hj; omega
    · intro hm
      simp only [List.mem_cons, List.not_mem_nil, or_false] at hm
      exact Nat.ne_of_lt hst hm
    · intro href hhref
      have inB : ∀ (t : Shared) m₂, t.heap.Ns h₃.objs.size m₂ → (∀ b ∈ List.range h₃.objs.size, b ∉ [hh₀.objs.size] → ∀ o, href.get? b = some o → t.heap.get? b = some o) → Fr h₀ h₃.objs.size t.heap m₂ := fun t m₂ hn hkp =>
        ⟨hn, fun b o e => hkp b (List.mem_range.mpr (Heap.lt_size (keep₃ b o e))) (fun hm => by
            simp only [List.mem_cons, List.not_mem_nil, or_false] at hm
            exact Nat.lt_irrefl _ (Nat.lt_of_lt_of_le (Nat.lt_of_le_of_lt (Nat.le_of_eq hm.symm) (Heap.lt_size e)) (Nat.le_trans F.above (Nat.le_of_lt hLs)))) o (hhref b o (keep₃ b o e)),
          Nat.le_trans F.above (Nat.le_of_lt (by omega))⟩
      refine ⟨fun A' E' i va vb t m₂ hA hD hU hP hn hma hmb hkp => ?_, fun A' E' i va vb t m₂ hA hD hU hP hp hn hma hmb hkp => ?_⟩
      · obtain ⟨p, ta, tb, hp, _, _⟩ := hvals i hP.1
        rw [List.forIn_nil]
        exact wpAny_pure ⟨by simp [hp], _, _, rfl, fun _ _ e => e⟩
      · obtain ⟨p, ta, tb, hp', hv, _⟩ := hvals i hP.1
        have e := hP.2
        rw [hv] at e
        obtain ⟨e1, e2⟩ : va = .str p.1 ta ∧ vb = .str p.2 tb := by simpa using congrArg Array.toList e
        subst e1 e2
        exact wpAny_mono (hel cv _ A' E' p ta tb t m₂ hA hD hU (List.mem_of_getElem? hp') (inB t m₂ hn hkp) hma hmb) (fun y s₃ r => ⟨⟨p, hp', r.1⟩, r.2⟩) fun _ _ e => e
    · intro a h₅ tk gs hgb hag hsz₅ hk₅ W hat
      dsimp only at hag hsz₅ hk₅ W hat
      rw [len] at W hat
      refine hQ ps' a _ (hh₀.objs.size - 1) ht' (F₃.keeps hk₅) (fun q hq => ⟨hk₅ _ _ (N₃ q hq).1, (N₃ q hq).2⟩) (G.push hgb) rfl rfl ?_ (Nat.sub_add_cancel (Nat.lt_of_le_of_lt (Nat.zero_le _) hLs)) (Nat.le_sub_one_of_lt hLs) (Gen.toOnD parts (fun _ => true) dt ⟨_, _, _, _, W, hat, (fun i s' st => st.1.typeIs), List.mem_cons_self, ?_, ?_⟩)
      · show hh₀.objs.size ≤ h₅.objs.size
        omega
      · intro b hb
        show b < h₅.objs.size
        rw [hsz₅]
        rcases List.mem_cons.mp hb with rfl | hb
        · exact Nat.lt_succ_self _
        · rcases List.mem_cons.mp hb with rfl | hb
          · exact Nat.lt_succ_of_lt hag
          · exact Nat.lt_succ_of_lt (Nat.lt_trans (List.mem_range.mp hb) hag)
      · intro b hb
        show @LT.lt Nat _ (hh₀.objs.size - 1) b
        rcases List.mem_cons.mp hb with rfl | hb
        · omega
        · simp only [List.mem_cons, List.not_mem_nil, or_false] at hb
          subst hb
          omega
  have CH₂ := CH.keeps F₂.keep
  refine ⟨hlim.keeps F₂.keep, ?_⟩
  cases hnf : codeAmong pos ps.toList with
  | some cv => exact wpAny_codeAt_hit hcode (CH₂.code hP₂ ht) hnf (key cv _ _ ps (Heap.ExtBut.refl _ _) (by rw [Heap.size_push]; exact Nat.le_refl _) hP₂ ht)
  | none =>
    refine wpAny_genexprCodeX hcode (CH₂.code hP₂ ht) (CH₂.tab hP₂) hnf fun c' h₃ tk₃ hx₃ hge hlt hcode₃ _ htab₃ _ => ?_
    refine key (.ref c') h₃ tk₃ _ hx₃ ?_ htab₃.2 ?_
    · dsimp only at hge
      rw [Heap.size_push] at hge
      omega
    · rw [Array.toList_append]
      exact TriplesOk_snoc _ _ _ _ ht
end
end
/- R12 -/
section
open PySem PySem.W PySem.Calls PyProof.Rows PySem.Spec
noncomputable def preS (c0 : Int) (val : Nat → Int) : Nat → Int
  | 0 => c0
  | j + 1 => preS c0 val j + val j
theorem preS_eq (c0 : Int) (val : Nat → Int) : ∀ n, preS c0 val n = c0 + preSum val n
  | 0 => by simp [preS, preSum]
  | n + 1 => by simp only [preS, preSum, preS_eq c0 val n]; omega
theorem args_sum2 (a b : Value) : argsOk "sum" ⟨[a, b], []⟩ := by unfold argsOk; kernel_rfl
section
variable {prog : Program} {w : World} {A : Around} {R : Result → Shared → Prop} {I : Addr} {fp wr : List Addr} {G : Array GenState → Array GenState → Prop} {n : Nat} {P : Nat → Value → Prop} {St : Nat → Shared → Prop}
theorem sum_loop_start (W : WalksS prog w A.in1 I fp wr G n P St) (c0 : Int) (val : Nat → Int) (hval : ∀ i v, P i v → ∃ t, v = .int (val i) t) (S : Addr) (hSf : S ∉ fp) :
    ∀ (k i : Nat) (s : Shared) (tA : Tok) (c : Nat) (st : Int), (st = 0 ∨ st = 2) → n - i = k → i ≤ n → St i s → s.heap.get? S = some { cls := .type "list", dict := none, data := .seq #[.int (preS c0 val i) tA] c, slots := #[] } →
    (∀ s' t', Moved (S :: wr) G s s' → R (.ok (.ret (.int (preS c0 val n) t'))) s') → codeAny (model prog w) A (.builtin "sum.loop" ⟨[.ref I, .ref S, rawInt st, rawInt 0], []⟩) R s := by
  have hSw : S ∉ wr := fun h => hSf (W.sub _ h)
  have hsub : ∀ b ∈ wr, b ∈ S :: wr := fun b hb => List.mem_cons_of_mem _ hb
  intro k
  induction k with
  | zero =>
    intro i s tA c st hst2 hk hi hst hS hR
    have hin : i = n := by omega
    subst hin
    refine codeAny_builtin F.entry_sum_loop ?_
    rw [Around.under_plainId F.plain_sum_loop _]
    show wpAny _ A.in1 (seqItems? (.ref S) >>= _) _ _ s
    refine wpAny_bind (wpAny_seqItems hS rfl ?_)
    show wpAny _ A.in1 (tryCatch (pyNext (.ref I)) _ >>= _) _ _ s
    refine wpAny_bind (wpAny_tryCatch (W.done s _ _ hst fun s' hm => ?_))
    exact wpAny_pure (hR s' tA (hm.mono hsub))
  | succ k ih =>
    intro i s tA c st hst2 hk hi hst hS hR
    have hlt : i < n := by omega
    refine codeAny_builtin F.entry_sum_loop ?_
    rw [Around.under_plainId F.plain_sum_loop _]
    show wpAny _ A.in1 (seqItems? (.ref S) >>= _) _ _ s
    refine wpAny_bind (wpAny_seqItems hS rfl ?_)
    show wpAny _ A.in1 (tryCatch (pyNext (.ref I)) _ >>= _) _ _ s
    refine wpAny_bind (wpAny_tryCatch (W.item i s _ _ hlt hst fun v s' hP hst' hm => ?_))
    obtain ⟨t, rfl⟩ := hval i v hP
    have hS' := hm.heap S _ hSw hS
    rcases hst2 with rfl | rfl
    · show wpAny _ A.in1 (if (_ : Bool) = true then (mkInt (preS c0 val i + val i) >>= _) else _) _ _ _
      split
      · refine wpAny_bind (wpAny_mkInt ?_)
        show wpAny _ A.in1 (updateSeq S (fun _ => #[.int (preS c0 val i + val i) s'.toks]) >>= _) _ _ _
        refine wpAny_bind ?_
        refine wpAny_updateSeq hS' rfl (wpAny_pure ⟨plainId_quiet F.plain_sum_loop _, ih (i + 1) _ s'.toks _ 0 (.inl rfl) (by omega) hlt (W.frame _ s' _ _ hst' (by first | exact Nat.le_refl _ | exact Nat.le_succ _ | omega) fun b hb o e => ?_) (Heap.get?_update_self _ hS' rfl) fun s'' t'' hm'' => ?_⟩)
        · exact (Heap.get?_update_other _ _ (fun h : S = b => hSf (by rw [h]; exact hb))).trans e
        · refine hR s'' t'' (Moved.trans W.gtrans ((hm.mono hsub).then_heap (by first | exact Nat.le_refl _ | exact Nat.le_succ _ | omega) fun b o hb e => ?_) hm'')
          exact (Heap.get?_update_other _ _ (fun h : S = b => hb (by rw [h]; exact List.mem_cons_self))).trans e
      · refine wpAny_bind (wpAny_rule ?_)
        refine wpAny_bind (wpAny_attempt (wpAny_holding (wpAny_add_int ?_)))
        show wpAny _ A.in1 (updateSeq S (fun _ => #[.int (preS c0 val i + val i) s'.toks]) >>= _) _ _ _
        refine wpAny_bind (wpAny_updateSeq hS' rfl ?_)
        have hS₂ := Heap.get?_update_self (Obj.mapSeq fun _ => #[Value.int (preS c0 val i + val i) s'.toks]) hS' rfl
        refine wpAny_bind (wpAny_letGo ?_)
        refine wpAny_bind (wpAny_updateSeq hS₂ rfl (wpAny_pure ⟨plainId_quiet F.plain_sum_loop _, ih (i + 1) _ s'.toks _ 2 (.inr rfl) (by omega) hlt (W.frame _ s' _ _ hst' (by first | exact Nat.le_refl _ | exact Nat.le_succ _ | omega) fun b hb o e => ?_) (Heap.get?_update_self _ hS₂ rfl) fun s'' t'' hm'' => ?_⟩))
        · exact (Heap.get?_update_other _ _ (fun h : S = b => hSf (by rw [h]; exact hb))).trans ((Heap.get?_update_other _ _ (fun h : S = b => hSf (by rw [h]; exact hb))).trans e)
        · refine hR s'' t'' (Moved.trans W.gtrans ((hm.mono hsub).then_heap (by first | exact Nat.le_refl _ | exact Nat.le_succ _ | omega) fun b o hb e => ?_) hm'')
          exact (Heap.get?_update_other _ _ (fun h : S = b => hb (by rw [h]; exact List.mem_cons_self))).trans ((Heap.get?_update_other _ _ (fun h : S = b => hb (by rw [h]; exact List.mem_cons_self))).trans e)
    · show wpAny _ A.in1 ((holding [Value.int (val i) t] (binaryOp .Add (.int (preS c0 val i) tA) (.int (val i) t))).attempt >>= _) _ _ _
      refine wpAny_bind (wpAny_attempt (wpAny_holding (wpAny_add_int ?_)))
      show wpAny _ A.in1 (updateSeq S (fun _ => #[.int (preS c0 val i + val i) s'.toks]) >>= _) _ _ _
      refine wpAny_bind (wpAny_updateSeq hS' rfl ?_)
      have hS₂ := Heap.get?_update_self (Obj.mapSeq fun _ => #[Value.int (preS c0 val i + val i) s'.toks]) hS' rfl
      refine wpAny_bind (wpAny_letGo ?_)
      refine wpAny_bind (wpAny_updateSeq hS₂ rfl (wpAny_pure ⟨plainId_quiet F.plain_sum_loop _, ih (i + 1) _ s'.toks _ 2 (.inr rfl) (by omega) hlt (W.frame _ s' _ _ hst' (by first | exact Nat.le_refl _ | exact Nat.le_succ _ | omega) fun b hb o e => ?_) (Heap.get?_update_self _ hS₂ rfl) fun s'' t'' hm'' => ?_⟩))
      · exact (Heap.get?_update_other _ _ (fun h : S = b => hSf (by rw [h]; exact hb))).trans ((Heap.get?_update_other _ _ (fun h : S = b => hSf (by rw [h]; exact hb))).trans e)
      · refine hR s'' t'' (Moved.trans W.gtrans ((hm.mono hsub).then_heap (by first | exact Nat.le_refl _ | exact Nat.le_succ _ | omega) fun b o hb e => ?_) hm'')
        exact (Heap.get?_update_other _ _ (fun h : S = b => hb (by rw [h]; exact List.mem_cons_self))).trans ((Heap.get?_update_other _ _ (fun h : S = b => hb (by rw [h]; exact List.mem_cons_self))).trans e)
end
section
variable {prog : Program} {w : World} {A : Around} {E : Value → Shared → Prop} {s : Shared}
theorem sum_start_walk {x : Value} {c0 : Int} {tc : Tok} {Q : Value → Shared → Prop}
    (h : wpAny (model prog w) A.in1 (pyIter x) (fun it s₂ => ∃ I fp wr G n P St val, it = .ref I ∧ WalksS prog w A.in1 I fp wr G n P St ∧ St 0 s₂ ∧ (∀ b ∈ fp, b < s₂.heap.objs.size) ∧
      (∀ i v, P i v → ∃ t, v = .int (val i) t) ∧
      ∀ s' t', Moved wr G s₂ s' → Q (.int (preS c0 val n) t') s') E s) :
    wpAny (model prog w) A (call (.builtin "sum") [x, .int c0 tc]) Q E s := by
  refine call_function_tree F.kind_sum F.plain_sum F.entry_sum (args_sum2 _ _) ?_
  unfold Builtin.«sum»
  simp only [List.length_cons, List.length_nil]
  rw [if_neg (by decide)]
  refine wpAny_bind (wpAny_of_eq (show Builtin.Builtins.bindParams "sum" ["start"] 0 { pos := [.int c0 tc] } = pure [some (.int c0 tc)] from rfl) ?_)
  refine wpAny_bind (wpAny_mono h (fun it s₂ h₂ => ?_) fun _ _ e => e)
  obtain ⟨I, fp, wr, G, n, P, St, val, rfl, W, hst, hfp, hval, hQ⟩ := h₂
  have fin : ∀ (tA : Tok) (st : Int) (tk : Tok), s₂.toks ≤ tk → (st = 0 ∨ st = 2) → wpAny (model prog w) A.in1 (do
      for (ty, what, hint) in [("str", "strings", "''"), ("bytes", "bytes", "b''"), ("bytearray", "bytearray", "b''")] do
        if ← isInstance (.int c0 tA) (.type ty) then
          rule "sum.start-refused"; raiseError "TypeError" s!"sum() can't sum {what} [use {hint}.join(seq) instead]"
      again (.builtin "sum.loop" ⟨[.ref I, ← newList [.int c0 tA], rawInt st, rawInt 0], []⟩))
      (fun fin s' => match fin with
        | .done f => (match (Except.ok f : Result) with | .ok (.ret v) => Q v s' | .ok _ => False | .error e => E e s')
        | .again c' => c'.quiet = true ∧ codeAny (model prog w) A c' (fun r s' => match r with | .ok (.ret v) => Q v s' | .ok _ => False | .error e => E e s') s') E { s₂ with toks := tk } := by
    intro tA st tk htk hst2
    simp only [List.forIn_cons, List.forIn_nil]
    refine wpAny_bind (wpAny_bind (wpAny_bind (wpAny_isInstance (T := "int") (b := false) (typeIs_int _ _ _) PySem.sub_int_str ?_)))
    simp only [Bool.false_eq_true, if_false]
    refine wpAny_pure (wpAny_bind (wpAny_bind (wpAny_isInstance (T := "int") (b := false) (typeIs_int _ _ _) PySem.sub_int_bytes ?_)))
    simp only [Bool.false_eq_true, if_false]
    refine wpAny_pure (wpAny_bind (wpAny_bind (wpAny_isInstance (T := "int") (b := false) (typeIs_int _ _ _) PySem.sub_int_bytearray ?_)))
    simp only [Bool.false_eq_true, if_false]
    refine wpAny_pure (wpAny_pure ?_)
    refine wpAny_bind (wpAny_newObj_type ?_)
    have hSf : s₂.heap.objs.size ∉ fp := fun hm => Nat.lt_irrefl _ (hfp _ hm)
    refine wpAny_pure ⟨plainId_quiet F.plain_sum_loop _, sum_loop_start W c0 val hval s₂.heap.objs.size hSf n 0 _ tA 0 st hst2 rfl (Nat.zero_le _)
      (W.frame 0 s₂ _ _ hst (by first | exact Nat.le_refl _ | exact htk | omega) fun b _ o e => Heap.get?_push_of_some _ e) (Heap.get?_push_size _ rfl) fun s' t' hm => ?_⟩
    exact hQ s' t' (hm.drop_new (by first | exact Nat.le_refl _ | exact htk | omega))
  dsimp only
  split
  · exact wpAny_bind (wpAny_rule (wpAny_bind (wpAny_mkInt (wpAny_bind (wpAny_pure (fin _ 0 _ (Nat.le_succ _) (.inl rfl)))))))
  · exact wpAny_bind (wpAny_pure (fin _ 2 _ (Nat.le_refl _) (.inr rfl)))
end
section
variable {prog : Program} {w : World} {A : Around} {E : Value → Shared → Prop} {s : Shared} {h₀ : Heap} {L K : Addr} {m : Str → Option Value}
theorem join_rows_d {a : Addr} {n : Nat} {F : Nat → Value → Prop} {Q : Value → Shared → Prop} {sep : Str} {t : Tok} (Fh : Fr h₀ L s.heap m) (G : AllBare s.gens) (X : Gen prog w A K a n F s) (hLK : L ≤ K) (tx : Nat → Str) (htx : ∀ j v, F j v → ∃ u, v = .str (tx j) u)
    (hok : JoinOk sep ((List.range n).map tx) = true)
    (hQ : ∀ s' t', Fr h₀ L s'.heap m → AllBare s'.gens → s'.os = s.os → s'.drawn = s.drawn → (∀ b o, b ≤ K → s.heap.get? b = some o → s'.heap.get? b = some o) → Q (.str (Txt.join sep ((List.range n).map tx)) t') s')
    (hsz : n ≤ sizeLine) : wpAny (model prog w) A (call (.builtin "str.join") [.str sep t, .ref a]) Q E s := by
  obtain ⟨fp, wr, g, St, W, hst, hT, ha, hfp, hwr⟩ := X
  have W := W.in4_2
  refine SC.joinGen W hT hst hfp ha (fun j v hv => let ⟨u, e⟩ := htx j v hv; ⟨_, u, e⟩) (fun s' lt hm hacc => ?_) hsz
  have hl : lt.map (·.1) = (List.range n).map tx := by
    apply List.ext_getElem?
    intro j
    have hsz : lt.length = n := by simpa [strValues] using hacc.1
    by_cases hj : j < n
    · have hj' : j < lt.length := hsz ▸ hj
      obtain ⟨u, hv⟩ := htx j _ (hacc.2 j (.str lt[j].1 lt[j].2) (by simp [strValues, List.getElem?_eq_getElem hj']))
      injection hv with h1 _
      simp [List.getElem?_eq_getElem hj', hj, h1]
    · rw [List.getElem?_eq_none (by simpa [hsz] using Nat.le_of_not_lt hj), List.getElem?_eq_none (by simpa using Nat.le_of_not_lt hj)]
  rw [hl]
  have f1 := Fh.moved hm fun b hb => Nat.lt_of_le_of_lt hLK (hwr b hb)
  have k1 : ∀ b o, b ≤ K → s.heap.get? b = some o → s'.heap.get? b = some o := fun b o hb e => hm.heap b o (fun hmem => Nat.lt_irrefl _ (Nat.lt_of_lt_of_le (hwr b hmem) hb)) e
  have g1 := G.movedS hm
  have o1 := hm.os
  have d1 := hm.drawn
  exact ⟨hok, fun t' k => hQ { s' with toks := k } t' f1 g1 o1 d1 k1⟩
end
section
variable {prog : Program} {w : World} {A : Around} {E : Value → Shared → Prop} {s : Shared} {h₀ : Heap} {L Kb : Addr} {m : Str → Option Value}
variable {α : Type} {a : Addr} {as : List α} {pz : α → Bool} {Q : Value → Shared → Prop}
theorem sum_start_gen {f : α → Int} {c0 : Int} {tc : Tok} (Fh : Fr h₀ L s.heap m) (G : AllBare s.gens) (X : GenOnD prog w A Kb a as pz (fun k => .int (f k)) s) (hLK : L ≤ Kb)
    (hQ : ∀ s' t', Fr h₀ L s'.heap m → AllBare s'.gens → s'.os = s.os → s'.drawn = s.drawn → (∀ b o, b ≤ Kb → s.heap.get? b = some o → s'.heap.get? b = some o) → Q (.int (c0 + ((as.filter pz).map f).sum) t') s') :
    wpAny (model prog w) A (call (.builtin "sum") [.ref a, .int c0 tc]) Q E s := by
  obtain ⟨fp, wr, g, St, W, hst, _, _, hfp, hwr⟩ := X
  have W := W.in4_1
  refine sum_start_walk (W.self 0 _ _ _ hst ⟨a, _, _, _, _, _, _, (fun j => ((as.filter pz).map f).getD j 0), rfl, W, hst, hfp, fun i v hv => ?_, fun s' t' hm => ?_⟩)
  · obtain ⟨b, hb, hc⟩ := hv
    cases hc with
    | int _ t => exact ⟨t, by simp [List.getD_eq_getElem?_getD, hb]⟩
  · have e := preSum_getD ((as.filter pz).map f) (as.filter pz).length
    rw [List.take_of_length_le (by simp)] at e
    rw [preS_eq, e]
    exact hQ s' t' (Fh.moved hm fun b hb => Nat.lt_of_le_of_lt hLK (hwr b hb)) (G.movedS hm) hm.os hm.drawn fun b o hb e => hm.heap b o (fun hmem => Nat.lt_irrefl _ (Nat.lt_of_lt_of_le (hwr b hmem) hb)) e
theorem join_gen_d {sep : Str} {t : Tok} {f : α → Str} (Fh : Fr h₀ L s.heap m) (G : AllBare s.gens) (X : GenOnD prog w A Kb a as pz (fun k => .str (f k)) s) (hLK : L ≤ Kb)
    (hok : JoinOk sep ((as.filter pz).map f) = true)
    (hQ : ∀ s' t', Fr h₀ L s'.heap m → AllBare s'.gens → s'.os = s.os → s'.drawn = s.drawn → (∀ b o, b ≤ Kb → s.heap.get? b = some o → s'.heap.get? b = some o) → Q (.str (Txt.join sep ((as.filter pz).map f)) t') s')
    (hsz : as.length ≤ sizeLine) :
    wpAny (model prog w) A (call (.builtin "str.join") [.str sep t, .ref a]) Q E s := by
  have e : (List.range (as.filter pz).length).map (fun j => ((as.filter pz).map f).getD j ("" : Str)) = (as.filter pz).map f := by
    apply List.ext_getElem
    · simp
    · intro i h₁ h₂
      have hi : i < (as.filter pz).length := by simpa using h₂
      simp [List.getD_eq_getElem?_getD, List.getElem?_eq_getElem hi]
  refine join_rows_d Fh G X hLK (fun j => ((as.filter pz).map f).getD j ("" : Str)) (fun j v hv => ?_) (by rw [e]; exact hok) (by rw [e]; exact hQ) (Nat.le_trans (List.length_filter_le _ _) hsz)
  obtain ⟨b, hb, hc⟩ := hv
  cases hc with
  | str _ u => exact ⟨u, by simp [List.getD_eq_getElem?_getD, hb]⟩
end
end
/- R13 -/
section
open PySem PySem.W PySem.Calls PyProof.Rows PySem.Spec
section
variable {M : Model} {A : Around} {E : Value → Shared → Prop} {s : Shared} {K : Frag} {h₀ : Heap} {L C : Addr} {m mg mb : Str → Option Value} {p : Program} {loose : List Str} {scope : Scope} {cl : List (Str × Addr)} {code : Value} {env : Env}
  {x : Str} {pos : Pos} {v : Value} {Q : Value → Shared → Prop}
theorem nameG_K (F : Fr h₀ C s.heap m) (X : K.In h₀) (T : TopRead p loose mg mb h₀) (e : nsIn K mainGlobals x = some (some v)) (h : Q v s) (hg : env.globals = mainGlobals)
    (hk : scope.kind = .function) (hx : (genEnv scope cl C code builtinsNs env).kindOf x = some .globalImplicit) (hd : (x == ("__debug__" : Str)) = false) :
    wpAny M A (eval (.Name x pos) (genEnv scope cl C code builtinsNs env)) Q E s := Name_function_global hk hx (loadGlobal_global (env := genEnv scope cl C code builtinsNs env) (show s.heap.Ns env.globals mg from hg ▸ T.g.keeps F.keep) (mg_of X T.g e) h) hd
theorem nameG_B (F : Fr h₀ C s.heap m) (X : K.In h₀) (T : TopRead p loose mg mb h₀) (e : nsIn K mainGlobals x = some none) (hv : bootBuiltins x = some v) (hn : x ≠ "__name__") (h : Q v s) (hg : env.globals = mainGlobals)
    (hk : scope.kind = .function) (hx : (genEnv scope cl C code builtinsNs env).kindOf x = some .globalImplicit) (hd : (x == ("__debug__" : Str)) = false) :
    wpAny M A (eval (.Name x pos) (genEnv scope cl C code builtinsNs env)) Q E s :=
  Name_function_global hk hx (loadGlobal_builtin (env := genEnv scope cl C code builtinsNs env) (show s.heap.Ns env.globals mg from hg ▸ T.g.keeps F.keep) (mg_none_of X T.g e) (T.b.keeps F.keep) ((T.builtins x hn).trans hv) h) hd
theorem nameG_L (F : Fr h₀ C s.heap m) (hv : m x = some v) (h : Q v s)
    (hk : scope.kind = .function) (hx : (genEnv scope cl C code builtinsNs env).kindOf x = some .local) (hd : (x == ("__debug__" : Str)) = false) :
    wpAny M A (eval (.Name x pos) (genEnv scope cl C code builtinsNs env)) Q E s := wpAny_Name (wpAny_loadName_local hk hx F.ns hv h) hd
theorem inst_base {h h₀ : Heap} {L x C : Addr} {m : Str → Option Value} {ox : Obj} {od : Option Obj} (F : Fr h₀ L h m) (I : InstAt h₀ x ox C od) : InstAt h x ox C od := inst_keeps I F.keep
end
theorem gen_keeps {prog : Program} {w : World} {A : Around} {L a : Addr} {n : Nat} {F : Nat → Value → Prop} {s : Shared} (X : Gen prog w A L a n F s) (h : Heap) (tk : Tok) (ht : s.toks ≤ tk) (hk : ∀ b o, s.heap.get? b = some o → h.get? b = some o) (hsz : s.heap.objs.size ≤ h.objs.size) :
    Gen prog w A L a n F { s with heap := h, toks := tk } := by
  obtain ⟨fp, wr, g, St, W, hst, hT, ha, hfp, hwr⟩ := X
  exact ⟨fp, wr, g, St, W, W.frame 0 s h tk hst ht fun b _ o e => hk b o e, hT, ha, fun b hb => Nat.lt_of_lt_of_le (hfp b hb) hsz, hwr⟩
theorem genD_keeps {α : Type} {prog : Program} {w : World} {A : Around} {L a : Addr} {as : List α} {pz : α → Bool} {d : α → PyData} {s : Shared} (X : GenOnD prog w A L a as pz d s) (h : Heap) (tk : Tok) (ht : s.toks ≤ tk) (hk : ∀ b o, s.heap.get? b = some o → h.get? b = some o) (hsz : s.heap.objs.size ≤ h.objs.size) :
    GenOnD prog w A L a as pz d { s with heap := h, toks := tk } := gen_keeps X h tk ht hk hsz
end
/- R14 -/
section
open PySem PySem.W PySem.Calls PyProof.Rows PySem.Spec
theorem clip_nat {n i : Nat} (h : i ≤ n) : clipAt n (i : Int) = i := by
  have := clipAt_cast n (i : Int)
  rw [if_neg (Int.not_lt.mpr (Int.natCast_nonneg i))] at this
  rw [Int.min_eq_left (Int.ofNat_le.mpr h), Int.max_eq_right (Int.natCast_nonneg i)] at this
  exact Int.ofNat_inj.mp this
theorem spl_take {its : Array Value} {i : Nat} (h : i ≤ its.size) : spl its #[] i its.size = (its.toList.take i).toArray := by
  apply Array.toList_inj.mp
  simp only [spl, Array.toList_append, Array.toList_extract, List.append_nil, List.extract_eq_take_drop, Nat.max_eq_right h, Nat.sub_self, List.take_zero, Nat.sub_zero, List.drop_zero]
theorem spl_all {its new : Array Value} : spl its new 0 its.size = new := by
  apply Array.toList_inj.mp
  simp only [spl, Array.toList_append, Array.toList_extract, List.extract_eq_take_drop, Nat.sub_self, List.take_zero, List.drop_zero, Nat.zero_max, List.append_nil, List.nil_append]
theorem clip_mm {a n : Nat} : max 0 (min ((a : Nat) : Int) ((n : Nat) : Int)) = ((min a n : Nat) : Int) := by
  rcases Nat.le_total a n with h | h
  · rw [Nat.min_eq_left h, Int.min_eq_left (Int.ofNat_le.mpr h), Int.max_eq_right (Int.natCast_nonneg a)]
  · rw [Nat.min_eq_right h, Int.min_eq_right (Int.ofNat_le.mpr h), Int.max_eq_right (Int.natCast_nonneg n)]
theorem pick_drop {its : Array Value} {i : Nat} (h : i ≤ its.size) : slicePick its (some (i : Int)) none none = (its.toList.drop i).toArray := by
  rw [kmk_pick_nat its (a := i) (b := its.size)]
  · rw [List.take_of_length_le (by simp)]
  · simp only [sliceBounds, Option.getD_none, show (1 : Int) > 0 by decide, if_true, if_neg (Int.not_lt.mpr (Int.natCast_nonneg i))]
    rw [clip_mm, Nat.min_eq_left h]
section
variable {prog : Program} {w : World} {A : Around} {s s' : Shared} {g : Heap} {L : Addr} {m : Str → Option Value} {news news' : List (Addr × Obj)} {ts : List Addr}
/- a frame lives on behind a call that changed made objects alone -/
theorem kept_fr (Kp : Kept ts s s') (F : Fr g L s.heap m) (N : News g L s.heap news) (hts : ∀ t ∈ ts, t ∈ news.map (·.1)) : Fr g L s'.heap m := by
  have nm : ∀ t ∈ ts, t ≠ L ∧ g.get? t = none := fun t ht => by
    obtain ⟨q, hq, rfl⟩ := List.mem_map.mp (hts t ht)
    exact (N q hq).2
  exact ⟨F.ns.at fun o e => Kp.keep L o (fun h => (nm L h).1 rfl) e, fun b o e => Kp.keep b o (fun h => by rw [(nm b h).2] at e; cases e) (F.keep b o e), F.above⟩
theorem kept_news (Kp : Kept ts s s') (F : Fr g L s.heap m) (N : News g L s.heap news)
    (h : ∀ q ∈ news', (q ∈ news ∧ q.1 ∉ ts) ∨ (s'.heap.get? q.1 = some q.2 ∧ (q.1 ∈ news.map (·.1) ∨ s.heap.get? q.1 = none))) : News g L s'.heap news' := by
  intro q hq
  rcases h q hq with ⟨h1, h2⟩ | ⟨h1, h2 | h2⟩
  · exact ⟨Kp.keep _ _ h2 (N q h1).1, (N q h1).2⟩
  · obtain ⟨r, hr, e⟩ := List.mem_map.mp h2
    refine ⟨h1, ?_⟩
    rw [← e]
    exact (N r hr).2
  · refine ⟨h1, fun e => ?_, ?_⟩
    · obtain ⟨o, _, _, ho, _⟩ := F.ns
      rw [e, ho] at h2; cases h2
    · cases e : g.get? q.1 with
      | none => rfl
      | some o => rw [F.keep _ _ e] at h2; cases h2
end
end
/- R15 -/
section
open PySem PySem.W PySem.Calls PyProof.Rows PySem.Spec
section
variable {s s' : Shared} {g h H₀ : Heap} {L : Addr} {m : Str → Option Value} {news news' : List (Addr × Obj)} {ts : List Addr}
theorem sub_fr (F : Fr g L h m) (HG : Sub H₀ g) : Sub H₀ h := fun b o e => F.keep b o (HG b o e)
theorem kept_fr0 (Kp : Kept [] s s') (F : Fr g L s.heap m) : Fr g L s'.heap m := ⟨F.ns.at fun o e => Kp.keep L o (fun h => nomatch h) e, fun b o e => Kp.keep b o (fun h => nomatch h) (F.keep b o e), F.above⟩
theorem kept_news0 (Kp : Kept [] s s') (N : News g L s.heap news) : News g L s'.heap news := fun q hq => ⟨Kp.keep _ _ (fun h => nomatch h) (N q hq).1, (N q hq).2⟩
/- two calls one behind the other -/
theorem Kept.andThen {s s' s'' : Shared} {us : List Addr} (a : Kept ts s s') (b : Kept us s' s'') (h : ∀ t ∈ us, t ∈ ts ∨ s.heap.get? t = none) : Kept ts s s'' := by
  refine ⟨fun x o hx e => ?_, Nat.le_trans a.size b.size, b.os.trans a.os, b.drawn.trans a.drawn, fun q => b.gens (a.gens q)⟩
  refine b.keep x o (fun q => ?_) (a.keep x o hx e)
  rcases h x q with r | r
  · exact hx r
  · rw [r] at e; cases e
end
end
/- R16 -/
section
open PySem PySem.W PySem.Calls PyProof.Rows PySem.Spec Builtin
section
variable {prog : Program} {w : World} {A : Around} {E : Value → Shared → Prop} {s : Shared} {K : Frag} {x C L f : Addr} {h₀ : Heap} {m : Str → Option Value} {ox : Obj} {od : Option Obj}
noncomputable def TruthBack (Q : Bool → Shared → Prop) (v : Value) (s' : Shared) : Prop := match v with
  | .int n _ => (0 ≤ n ∧ n < 2 ^ 63) ∧ Q (n != 0) { s' with toks := s'.toks + 1 }
  | _ => False
theorem truthy_len {Q : Bool → Shared → Prop} (F : Fr h₀ L s.heap m) (X₀ : K.In h₀) (I : InstAt s.heap x ox C od) (hb : findIn K (.ref C) "__bool__" = some none) (hs : findIn K (.ref C) "__len__" = some (some (.ref f))) (hf : isFn K (.ref f) = true)
    (h : wpAny (model prog w) A.in1 (call (.ref f) [.ref x]) (TruthBack Q) E s) : wpAny (model prog w) A (truthy (.ref x)) Q E s := by
  have X := X₀.keeps F.keep
  have key : wpAny (model prog w) A (runValue (.builtin "len" ⟨[.ref x], []⟩)) (fun r s' => ∃ n t, r = .int n t ∧ Q (n != 0) s') E s := by
    refine wpAny_runValue (codeAny_builtin entry_len ?_)
    rw [Around.under_plainId plain_len _]
    unfold Builtin.«len»
    refine wpAny_bind (m := oneArg "len" _) (wpAny_pure ?_)
    refine wpAny_bind (m := callSpecial? (.ref x) (Str.ofString "__len__")) (special_fn X I hs (beq_iff_eq.mp hf) (wpAny_mono h (fun r s' hr => ?_) fun _ _ y => y))
    cases r <;> first | exact hr.elim | skip
    rename_i n u
    obtain ⟨⟨h0, h1⟩, hq⟩ := hr
    refine wpAny_bind (wpAny_holding (wpAny_pure ?_))
    refine wpAny_bind (wpAny_letGo ?_)
    show wpAny _ _ (if n < 0 then _ else _) _ _ _
    rw [if_neg (by omega)]
    show wpAny _ _ (if n ≥ 2 ^ 63 then _ else _) _ _ _
    rw [if_neg (by omega)]
    exact wpAny_bind (wpAny_mkInt (wpAny_pure ⟨_, _, rfl, hq⟩))
  unfold truthy
  refine wpAny_bind (m := callSpecial? (.ref x) (Str.ofString "__bool__")) (wpAny_bind (wpAny_bind (I.type.here ((looks_findIn X hb).here (wpAny_pure ?_)))))
  refine wpAny_bind (wpAny_bind (I.type.here ((looks_findIn X hs).here ?_)))
  show wpAny _ _ (if (some (Value.ref f)).isNone = true then _ else _) _ _ _
  rw [if_neg (by simp)]
  refine wpAny_bind (wpAny_mono key (fun r s' hr => ?_) fun _ _ y => y)
  obtain ⟨n, t, rfl, hq⟩ := hr
  exact wpAny_pure hq
end
theorem parts_hide {T : List (Addr × Obj)} {g : Heap} {s : Shared} {its : List Value} {parts : List (Str × Str)} (hkeep : ∀ b o, b ∉ T.map (·.1) → s.heap.get? b = some o → g.get? b = some o) (hT : ∀ q ∈ T, s.heap.get? q.1 = some q.2)
    (hc : ∀ q ∈ T, q.2.cls ≠ .type "tuple") (hpt : Parts s.heap its parts) : Parts g its parts := hpt.keeps fun b o e hcl => hkeep b o (fun hm => by
  obtain ⟨q, hq, rfl⟩ := List.mem_map.mp hm
  have := hT q hq
  rw [e] at this
  cases this
  exact hc q hq hcl) e
noncomputable def plen (parts : List (Str × Str)) : Int := (parts.map fun p => ((p.1.length : Int) + p.2.length)).sum
theorem plen_bound : ∀ {parts : List (Str × Str)}, (∀ p ∈ parts, p.1.length ≤ 1000 ∧ p.2.length ≤ 1000) → 0 ≤ plen parts ∧ plen parts ≤ 2000 * parts.length
  | [], _ => by simp [plen]
  | q :: r, h => by
    have ih := plen_bound (parts := r) fun p hp => h p (.tail _ hp)
    have h1 := h q (.head _)
    simp only [plen, List.map_cons, List.sum_cons, List.length_cons] at ih ⊢
    omega
noncomputable def ptext (parts : List (Str × Str)) : Str := Txt.join "" (parts.map fun p => Txt.join "" [p.1, p.2])
end
/- R17 -/
section
open PySem PySem.W PySem.Calls PyProof.Rows PySem.Spec
noncomputable def AllNe (y : Addr) : List (Addr × Obj) → Prop
  | [] => True
  | p :: r => @Ne Nat p.1 y ∧ AllNe y r
section
variable {s s' : Shared} {g h : Heap} {L a t u : Addr} {m : Str → Option Value} {news n1 n2 : List (Addr × Obj)} {ts : List Addr} {o o' q q' : Obj}
theorem allNe_of (N : News g L h news) (e : h.get? a = none) : AllNe a news := by
  induction news with
  | nil => trivial
  | cons r l ih =>
    refine ⟨fun k => ?_, ih fun x hx => N x (.tail _ hx)⟩
    have := (N r (.head _)).1
    rw [show r.1 = a from k, e] at this
    cases this
theorem news_fresh (Kp : Kept ts s s') (F : Fr g L s.heap m) (N : News g L s'.heap news) (e : s.heap.get? a = none) (ho : s'.heap.get? a = some o) : News g L s'.heap ((a, o) :: news) := by
  intro x hx
  rcases List.mem_cons.mp hx with rfl | hx
  · refine ⟨ho, fun k => ?_, ?_⟩
    · obtain ⟨oL, _, _, hL, _⟩ := F.ns
      rw [show a = L from k, hL] at e; cases e
    · cases k : g.get? a with
      | none => rfl
      | some b => rw [F.keep _ _ k] at e; cases e
  · exact N x hx
theorem step0 (Kp : Kept [] s s') (F : Fr g L s.heap m) (N : News g L s.heap news) : Fr g L s'.heap m ∧ News g L s'.heap news := ⟨kept_fr0 Kp F, kept_news0 Kp N⟩
theorem step1 (Kp : Kept [t] s s') (F : Fr g L s.heap m) (N : News g L s.heap news) (U : Upd t o o' news n1) (e : s'.heap.get? t = some o') : Fr g L s'.heap m ∧ News g L s'.heap n1 := by
  obtain ⟨pre, post, rfl, rfl, a, b⟩ := U.split
  have ht : (t, o) ∈ pre ++ (t, o) :: post := List.mem_append.mpr (.inr (.head _))
  refine ⟨kept_fr Kp F N fun x hx => ?_, fun x hx => ?_⟩
  · simp only [List.mem_cons, List.not_mem_nil, or_false] at hx
    subst hx
    exact List.mem_map.mpr ⟨_, ht, rfl⟩
  · rcases List.mem_append.mp hx with hx | hx
    · have := N x (List.mem_append.mpr (.inl hx))
      exact ⟨Kp.keep _ _ (by simpa using a x hx) this.1, this.2⟩
    · rcases List.mem_cons.mp hx with rfl | hx
      · exact ⟨e, (N _ ht).2⟩
      · have := N x (List.mem_append.mpr (.inr (.tail _ hx)))
        exact ⟨Kp.keep _ _ (by simpa using b x hx) this.1, this.2⟩
theorem step2 (Kp : Kept [t, u] s s') (F : Fr g L s.heap m) (N : News g L s.heap news) (U : Upd t o o' news n1) (V : Upd u q q' n1 n2) (e : s'.heap.get? t = some o') (e2 : s'.heap.get? u = some q') (hne : @Ne Nat t u) : Fr g L s'.heap m ∧ News g L s'.heap n2 := by
  obtain ⟨pre, post, rfl, rfl, a, b⟩ := U.split
  have ht : (t, o) ∈ pre ++ (t, o) :: post := List.mem_append.mpr (.inr (.head _))
  obtain ⟨pre', post', hn, rfl, c, d⟩ := V.split
  have hu : (u, q) ∈ pre ++ (t, o') :: post := by rw [hn]; exact List.mem_append.mpr (.inr (.head _))
  have hu' : (u, q) ∈ pre ++ (t, o) :: post := by
    rcases List.mem_append.mp hu with k | k
    · exact List.mem_append.mpr (.inl k)
    · rcases List.mem_cons.mp k with k | k
      · exact absurd (Prod.mk.inj k).1.symm hne
      · exact List.mem_append.mpr (.inr (.tail _ k))
  have old : ∀ x ∈ pre ++ (t, o') :: post, x.1 ≠ u → s'.heap.get? x.1 = some x.2 ∧ x.1 ≠ L ∧ g.get? x.1 = none := fun x hx hxu => by
    rcases List.mem_append.mp hx with hx | hx
    · have := N x (List.mem_append.mpr (.inl hx))
      exact ⟨Kp.keep _ _ (by simpa using ⟨a x hx, hxu⟩) this.1, this.2⟩
    · rcases List.mem_cons.mp hx with rfl | hx
      · exact ⟨e, (N _ ht).2⟩
      · have := N x (List.mem_append.mpr (.inr (.tail _ hx)))
        exact ⟨Kp.keep _ _ (by simpa using ⟨b x hx, hxu⟩) this.1, this.2⟩
  refine ⟨kept_fr Kp F N fun x hx => ?_, fun x hx => ?_⟩
  · simp only [List.mem_cons, List.not_mem_nil, or_false] at hx
    rcases hx with rfl | rfl
    · exact List.mem_map.mpr ⟨_, ht, rfl⟩
    · exact List.mem_map.mpr ⟨_, hu', rfl⟩
  · rcases List.mem_append.mp hx with hx | hx
    · exact old x (by rw [hn]; exact List.mem_append.mpr (.inl hx)) (c x hx)
    · rcases List.mem_cons.mp hx with rfl | hx
      · exact ⟨e2, (N _ hu').2⟩
      · exact old x (by rw [hn]; exact List.mem_append.mpr (.inr (.tail _ hx))) (d x hx)
end
end
/- R18 -/
section
open PySem PySem.W PySem.Calls PyProof.Rows PySem.Spec Builtin Builtin.ObjectAttr
section
variable {prog : Program} {w : World} {M : Model} {A : Around} {E : Value → Shared → Prop} {s : Shared} {K : Frag} {x C d L f : Addr} {h₀ h : Heap} {m : Str → Option Value} {news : List (Addr × Obj)} {its : Array Value} {n k : Nat} {es : List DictEntry} {ox : Obj} {od : Option Obj} {name : Str} {v : Value} {env : Env}
/- a def of the class, met through the object of a class built on list: a method object is made -/
theorem get_methl {expr : Bool} {Q : Value → Shared → Prop} (F : Fr h₀ L s.heap m) (X₀ : K.In h₀) (N : News h₀ L s.heap news) (I : InstAt s.heap x ox C (some (dictOf es k))) (hg : plainL K C = true) (hm : mroIn K C (.type "list") = some true) (hh : hasDictIn K C = true)
    (ha : findIn K (.ref C) name = some (some (.ref f))) (hf : isFn K (.ref f) = true) (hgf : specialIn K (.ref f) "__get__" = some (some (.builtin "function.__get__"))) (ht : takesIn K (.ref f) = some false) (hc : copiedNames.contains name = false) (hl : getL name es = some none)
    (h : ∀ q h', Fr h₀ L h' m → News h₀ L h' ((q, methodObj (.ref f) (.ref x)) :: news) → (∀ p ∈ news, p.1 < q) → Q (.ref q) { s with heap := h', toks := s.toks + 1 }) :
    wpAny (model prog w) A (getAttr (.ref x) name expr) Q E s := by
  have X := X₀.keeps F.keep
  have hq := h s.heap.objs.size _ (F.push _) (N.push F (methodObj (.ref f) (.ref x))) fun p hp => Heap.lt_size (N p hp).1
  obtain ⟨hp, g, dr, t, os⟩ := s
  have L0 := I.type (M := model prog w)
  have L1 := looks_findIn (M := model prog w) X (plainL_of hg).1
  have L2 := looks_findIn (M := model prog w) X (plainL_of hg).2
  unfold getAttr getAttrBy
  refine wpAny_bind (wpAny_mkText (wpAny_holding (wpAny_bind (L0.at (wpAny_bind (L1.at ?_))))))
  dsimp only
  rw [if_neg (show ¬ ((onTheHeap (Value.ref C) && (Value.builtin "list.__getattribute__" == Value.builtin "object.__getattribute__")) = true) by
    rw [show (Value.builtin "list.__getattribute__" == Value.builtin "object.__getattribute__") = false by decide +kernel, Bool.and_false]; exact Bool.false_ne_true)]
  unfold getAttrByItsOwn hookBefore
  refine wpAny_bind (L2.at ?_)
  unfold callGetattribute boundAndCalled
  rw [if_neg (by cases expr <;> decide)]
  refine wpAny_bind (wpAny_attempt (wpAny_holding ?_))
  rw [lb_ga.bind]
  refine wpAny_bind (wpAny_pure ?_)
  refine call_bi (od := some (dictOf es k)) lb_ga X I hm (args_list_ga _ _) ?_
  show wpAny _ _ (typeOf (.ref x) >>= _) _ _ _
  have L3 := looks_find (M := model prog w) X I (findObj_fn hh ha hgf ht hc (by show lookIn name (dictOf es k) = _; rw [lookIn_dict, hl]))
  refine wpAny_bind (L0.at (wpAny_bind (L3.at ?_)))
  show wpAny _ _ (bindTo _ _ _ _) _ _ _
  unfold bindTo
  refine wpAny_bind (wpAny_holding (wpAny_call (fn_get (s := ⟨hp, g, dr, t + 1, os⟩) X (beq_iff_eq.mp hf) (wpAny_pure ⟨_, rfl, ?_⟩))))
  show wpAny _ _ (handedOut _) _ _ _
  exact handed_on rfl hq
theorem star_method {o : Expr} {apos pos p : Pos} {e : Expr} {Q : Value → Shared → Prop} (hl : ∀ q : Pos, starEach [.Starred e q] env = [(true, eval e env)])
    (h : wpAny M A (eval o env) (fun ov s₁ => wpAny M A (getAttr ov name true) (fun fv s₂ => wpAny M A (callWith pos fv [] (backTo pos (starEach [.Starred e p] env)) []) Q E s₂) E s₁) E s)
    (hb : attributeBase o name env (eval o env) = eval o env) :
    wpAny M A (eval (.Call (.Attribute o name apos) [.Starred e p] [] pos) env) Q E s := by
  show wpAny M A (do
    let ov ← attributeBase o name env (eval o env)
    standAt apos.atName
    methodCall o name apos pos env ov 1 (backTo pos (starEach [.Starred e p] env)) []) Q E s
  rw [hb]
  refine wpAny_bind (wpAny_mono h (fun ov s₁ h₁ => wpAny_bind (wpAny_standAt ?_)) fun _ _ x => x)
  unfold methodCall
  rw [hl]
  rw [hl] at h₁
  have hfm : methodCallForm 1 (backTo pos [(true, eval e env)]) [] = false := rfl
  rw [hfm]
  refine wpAny_bind (wpAny_holding (wpAny_bind (wpAny_mono h₁ (fun fv s₂ h₂ => wpAny_pure ?_) fun _ _ x => x)))
  dsimp only
  refine wpAny_bind ?_
  unfold methodCallPos
  exact wpAny_pure h₂
theorem callWith_SM {pos p : Pos} {q g : Addr} {self : Value} {e : Expr} {first : List Value} {Q : Value → Shared → Prop} (hf : fnIn K g = true)
    (h : wpAny M A (eval e env) (fun v s₁ => StarOf M A E v (fun vs s₂ => MethP K q g self s₂.heap ∧ wpAny M A (call (.ref q) (first ++ vs)) Q E s₂) s₁) E s)
    (he : starEach [.Starred e p] env = [(true, eval e env)]) :
    wpAny M A (callWith pos (.ref q) first (backTo pos (starEach [.Starred e p] env)) []) Q E s := by
  rw [he]
  exact ks_call rfl (keeps_M hf) (ks_lone h)
end
theorem parts_nil {h : Heap} : Parts h [] [] := ⟨rfl, fun i v p e => by simp at e⟩
theorem parts_push {h : Heap} {its : List Value} {ps : List (Str × Str)} {v : Value} {p : Str × Str} (a : Parts h its ps) (b : PartAt h v p) : Parts h (its ++ [v]) (ps ++ [p]) := by
  refine ⟨by simp [a.1], fun i v' p' e f => ?_⟩
  rw [List.getElem?_append] at e f
  rw [← a.1] at f
  split at e
  · rename_i hi
    rw [if_pos hi] at f
    exact a.2 i v' p' e f
  · rename_i hi
    rw [if_neg hi] at f
    cases hk : i - its.length with
    | zero => rw [hk] at e f; simp at e f; subst e f; exact b
    | succ k => rw [hk] at e; simp at e
theorem parts_one {h : Heap} {a : Addr} {p : Str × Str} {t u : Tok} (e : h.get? a = some (tupOf [.str p.1 t, .str p.2 u])) : Parts h [.ref a] [p] := parts_push (its := []) (ps := []) parts_nil ⟨a, t, u, rfl, e⟩
end
/- R19 -/
section
open PySem PySem.W PySem.Calls PyProof.Rows PySem.Spec
section
variable {prog : Program} {w : World} {A : Around} {E : Value → Shared → Prop} {s : Shared} {l L : Addr} {h₀ : Heap} {m : Str → Option Value} {news news' : List (Addr × Obj)} {its : Array Value} {n : Nat}
theorem append_list {v : Value} {Q : Value → Shared → Prop} (F : Fr h₀ L s.heap m) (N : News h₀ L s.heap news) (U : Upd l (listOf its n) (listOf (its.push v) (n + 1)) news news')
    (h : ∀ h', Fr h₀ L h' m → News h₀ L h' news' → Q .none { s with heap := h' }) (hsz : its.size ≤ sizeLine) :
    wpAny (model prog w) A (call (.builtin "list.append") [.ref l, v]) Q E s := by
  have z := upd_at F N U
  have hT : s.TypeIs (.ref l) "list" := ⟨_, z.1, rfl⟩
  refine wpAny_call_entry slot_list_append hT entry_list_append ?_ (args_list_append _ _)
  show wpAny _ _ (updateSeq l (·.push v) >>= fun _ => ret .none) _ _ s
  refine wpAny_bind (wpAny_updateSeq z.1 rfl (wpAny_pure ⟨.none, rfl, ?_⟩))
  have e : Obj.mapSeq (·.push v) (listOf its n) = listOf (its.push v) (n + 1) := by simp [Obj.mapSeq]
  have ho : (s.heap.update l (Obj.mapSeq (·.push v))).get? l = some (listOf (its.push v) (n + 1)) := by
    rw [Heap.get?_update_self _ z.1 (by rw [e]; rfl), e]
  obtain ⟨a, b⟩ := upd_go F N U (Heap.SameBut.update ..) ho
  exact h _ a b
theorem append_list_c {v : Value} {Q : Value → Shared → Prop} (hl : s.heap.get? l = some (listOf its n)) (hsz : its.size ≤ sizeLine)
    (h : ∀ s', Kept [l] s s' → s'.heap.get? l = some (listOf (its.push v) (n + 1)) → Q .none s') :
    wpAny (model prog w) A (call (.builtin "list.append") [.ref l, v]) Q E s := by
  have hT : s.TypeIs (.ref l) "list" := ⟨_, hl, rfl⟩
  refine wpAny_call_entry slot_list_append hT entry_list_append ?_ (args_list_append _ _)
  show wpAny _ _ (updateSeq l (·.push v) >>= fun _ => ret .none) _ _ s
  refine wpAny_bind (wpAny_updateSeq hl rfl (wpAny_pure ⟨.none, rfl, ?_⟩))
  have e : Obj.mapSeq (·.push v) (listOf its n) = listOf (its.push v) (n + 1) := by simp [Obj.mapSeq]
  have ho : (s.heap.update l (Obj.mapSeq (·.push v))).get? l = some (listOf (its.push v) (n + 1)) := by
    rw [Heap.get?_update_self _ hl (by rw [e]; rfl), e]
  refine h _ ⟨fun b o hb e => ?_, Nat.le_of_eq (Heap.SameBut.update ..).1.symm, rfl, rfl, id⟩ ho
  exact (Heap.SameBut.update ..).extBut b o (by simpa using hb) e
end
end
/- R20 -/
section
open PySem PySem.W PySem.Calls PyProof.Rows PySem.Spec
section
variable {prog : Program} {w : World} {A : Around} {E : Value → Shared → Prop} {s : Shared} {h₀ : Heap} {L a : Addr} {m : Str → Option Value} {news : List (Addr × Obj)}
/- a starred tuple that is held, made or not -/
theorem star_tuple {vs : List Value} {Q : List Value → Shared → Prop} (D : s.heap.get? a = some (tupOf vs)) (F : Fr h₀ L s.heap m) (N : News h₀ L s.heap news)
    (hz : vs.length ≤ sizeLine) (h : ∀ h', (∀ b o, s.heap.get? b = some o → h'.get? b = some o) → Fr h₀ L h' m → News h₀ L h' news → Q vs { s with heap := h' }) : StarOf (model prog w) A E (.ref a) Q s := by
  have hT' : s.TypeIs (.ref a) "tuple" := ⟨_, D, rfl⟩
  have z : wpAny (model prog w) A (collect (.ref a)) Q E s := by
    refine wpAny_collect_seq a (.inr rfl) D rfl rfl (fun h' hk => h h' hk ?_ fun p hp => ⟨hk _ _ (N p hp).1, (N p hp).2⟩) (by simpa using hz)
    obtain ⟨oL, es, ep, hL, r⟩ := F.ns
    exact ⟨⟨oL, es, ep, hk _ _ hL, r⟩, fun b x q => hk _ _ (F.keep b x q), F.above⟩
  unfold StarOf notIterableAtAll
  exact wpAny_bind (wpAny_specialOf hT' PySem.F.slot_tuple_iter.lookup (wpAny_pure ⟨rfl, z⟩))
end
end
/- R21 -/
section
open PySem PySem.W PySem.Calls PyProof.Rows PySem.Spec
theorem slot_filter_next : Slot "filter" "__next__" "filter.__next__" :=
  .of (owner := "filter") (n := "__next__") (by rw [typeLookup_type, builtinLookup_eq_fast]; kernel_rfl) (by decide +kernel) (by decide +kernel) (by decide +kernel)
    (by first | exact .inl (by decide +kernel) | exact .inr (by decide +kernel)) (by rw [isSubtype_type]; kernel_rfl)
theorem entry_filter_next : entryFor table "filter.__next__" = some Builtin.«filter.__next__» := entryFor_of_tree (by kernel_rfl)
theorem args_filter_next (a : Value) : argsOk "filter.__next__" ⟨[a], []⟩ := by unfold argsOk; kernel_rfl
theorem mro_filter : mroOf (.type "filter") = pure [.type "filter", .type "object"] := by rw [mroOf_type]; kernel_rfl
theorem lookup_filter_new : typeLookup (.type "filter") "__new__" = pure (some (.builtin "filter.__new__")) := by rw [typeLookup_type, builtinLookup_eq_fast]; kernel_rfl
theorem slot_filter_init : Slot "filter" "__init__" "object.__init__" :=
  .of (owner := "object") (n := "__init__") (by rw [typeLookup_type, builtinLookup_eq_fast]; kernel_rfl) (by decide +kernel) (by decide +kernel) (by decide +kernel)
    (by first | exact .inl (by decide +kernel) | exact .inr (by decide +kernel)) (by rw [isSubtype_type]; kernel_rfl)
theorem called_filter : TypeCalled "filter" "filter.__new__" "object.__init__" :=
  ⟨by decide +kernel, by decide +kernel, ⟨_, _, mro_filter⟩, madeBy_type mro_filter lookup_filter_new (by decide +kernel), by decide +kernel, by rw [isSubtype_type]; kernel_rfl, slot_filter_init⟩
theorem entry_filter_new : entryFor table "filter.__new__" = some Builtin.«filter.__new__» := entryFor_of_tree (by kernel_rfl)
theorem typeCall_filter_2 (a b : Value) : checkTypeCall "filter" ⟨[a, b], []⟩ = pure () := by kernel_rfl
theorem newCall_filter_2 (a b : Value) : checkBuiltinCall "filter.__new__" ⟨[.type "filter", a, b], []⟩ = pure () := by kernel_rfl
theorem plain_filter_next : plainId "filter.__next__" = true := by decide +kernel
section
variable {prog : Program} {w : World} {K : Type} [DecidableEq K] {knd : KeyKind prog w K} {A : Around} {E : Value → Shared → Prop} {s : Shared}
/- a values iterator's own step -/
theorem vals_item {it d : Addr} {i ep : Nat} {kvs : List (K × Value)} {k : K} {v : Value} {Q : Option Value → Shared → Prop} (hit : s.heap.IsValIter it d i kvs.length ep)
    (hm : s.heap.DictAt knd d kvs ep) (hx : kvs[i]? = some (k, v))
    (hQ : ∀ h', h'.IsValIter it d (i + 1) kvs.length ep → Heap.SameBut it s.heap h' → Q (some v) { s with heap := h' }) :
    wpAny (model prog w) A (callSpecial? (.ref it) (Str.ofString "__next__")) Q E s := by
  obtain ⟨o, ho, hc, hd⟩ := id hit
  obtain ⟨od, es, hod, hcd, hdd, hk, hp, hn⟩ := id hm
  refine wpAny_callSpecial?_slot (name := Str.ofString "__next__") hit.typeIs PySem.F.slot_dict_valueiterator_next
    (wpAny_call_entry PySem.F.slot_dict_valueiterator_next hit.typeIs PySem.F.entry_dict_valueiterator_next ?_ (PySem.F.args_dict_valueiterator_next_1 _))
  refine wpAny_bind (wpAny_pure ?_)
  refine wpAny_bind ?_
  refine wpAny_bind ?_
  first | refine wpAny_bind (wpAny_typeNameOfWhole_valiter hit.typeIs (wpAny_pure ?_)) | refine wpAny_bind (wpAny_typeNameOf_valiter hit.typeIs (wpAny_pure ?_))
  refine wpAny_bind (wpAny_fieldsOf ho hd ?_)
  have hown : Builtin.Dict_items.ownsTuple "dict_valueiterator" = false := by decide
  simp only [hown, Bool.false_eq_true, if_false]
  show wpAny _ _ (if (Value.ref d == Value.none) = true then _ else _) _ _ s
  rw [if_neg (show ¬ ((Value.ref d == Value.none) = true) from Bool.false_ne_true)]
  refine wpAny_bind (wpAny_pure ?_)
  refine wpAny_bind (wpAny_dictEntries hod hdd ?_)
  have hsz : es.size = kvs.length := by rw [← hp.length]; simp
  rw [if_neg (by rw [hsz]; simp)]
  refine wpAny_bind (wpAny_pure ?_)
  refine wpAny_bind (wpAny_dictEpoch hod hdd ?_)
  rw [if_neg (by simp)]
  refine wpAny_pure ?_
  have hlt : i < kvs.length := by
    rcases Nat.lt_or_ge i kvs.length with h | h
    · exact h
    · simp [List.getElem?_eq_none h] at hx
  have hlt' : i < es.size := by rw [hsz]; exact hlt
  have hval : es[i].val = v := (hp.get? (e := es[i]) (by simp [hlt']) hx).2
  simp only [show ¬ ((i : Int) < 0) from by omega, if_false, Int.toNat_natCast, Array.getElem?_eq_getElem hlt']
  refine wpAny_bind ?_
  first | refine wpAny_bind (wpAny_typeNameOfWhole_valiter hit.typeIs (wpAny_pure ?_)) | refine wpAny_bind (wpAny_typeNameOf_valiter hit.typeIs (wpAny_pure ?_))
  refine wpAny_bind (wpAny_isOneOf_valiter hit.typeIs ?_)
  show wpAny _ _ (setField (.ref it) 1 (rawInt ((i : Int) + 1)) >>= _) _ _ s
  refine wpAny_bind (wpAny_setField ho hd (by simp) ?_)
  have hit' : (s.heap.update it (Obj.mapFields (·.setIfInBounds 1 (rawInt ((i : Int) + 1))))).IsValIter it d (i + 1) kvs.length ep :=
    ⟨_, Heap.get?_update_self _ ho (Obj.isFreed_of_fields (Obj.data_mapFields hd _)), (Obj.cls_mapFields ..).trans hc, by rw [Obj.data_mapFields hd]; simp [rawInt]⟩
  refine wpAny_bind (wpAny_holding ?_)
  refine wpAny_bind (wpAny_isOneOf_valiter (s := { s with heap := s.heap.update it (Obj.mapFields (·.setIfInBounds 1 (rawInt ((i : Int) + 1)))) }) hit'.typeIs ?_)
  refine wpAny_bind (wpAny_isOneOf_valiter (s := { s with heap := s.heap.update it (Obj.mapFields (·.setIfInBounds 1 (rawInt ((i : Int) + 1)))) }) hit'.typeIs ?_)
  show wpAny _ _ (pure es[i].val) _ _ _
  exact wpAny_pure (wpAny_pure ⟨_, rfl, hval ▸ hQ _ hit' (Heap.SameBut.update ..)⟩)
theorem vals_end {it d : Addr} {i ep : Nat} {kvs : List (K × Value)} {Q : Option Value → Shared → Prop} (hh : A.handled = none) (hit : s.heap.IsValIter it d i kvs.length ep)
    (hm : s.heap.DictAt knd d kvs ep) (hx : kvs[i]? = none)
    (hQ : ∀ e h', (∃ oe, h'.get? e = some oe ∧ oe.cls = .type "StopIteration") → Heap.ExtBut it s.heap h' → E (.ref e) { s with heap := h' }) :
    wpAny (model prog w) A (callSpecial? (.ref it) (Str.ofString "__next__")) Q E s := by
  obtain ⟨o, ho, hc, hd⟩ := id hit
  obtain ⟨od, es, hod, hcd, hdd, hk, hp, hn⟩ := id hm
  refine wpAny_callSpecial?_slot (name := Str.ofString "__next__") hit.typeIs PySem.F.slot_dict_valueiterator_next
    (wpAny_call_entry PySem.F.slot_dict_valueiterator_next hit.typeIs PySem.F.entry_dict_valueiterator_next ?_ (PySem.F.args_dict_valueiterator_next_1 _))
  refine wpAny_bind (wpAny_pure ?_)
  refine wpAny_bind ?_
  refine wpAny_bind ?_
  first | refine wpAny_bind (wpAny_typeNameOfWhole_valiter hit.typeIs (wpAny_pure ?_)) | refine wpAny_bind (wpAny_typeNameOf_valiter hit.typeIs (wpAny_pure ?_))
  refine wpAny_bind (wpAny_fieldsOf ho hd ?_)
  have hown : Builtin.Dict_items.ownsTuple "dict_valueiterator" = false := by decide
  simp only [hown, Bool.false_eq_true, if_false]
  show wpAny _ _ (if (Value.ref d == Value.none) = true then _ else _) _ _ s
  rw [if_neg (show ¬ ((Value.ref d == Value.none) = true) from Bool.false_ne_true)]
  refine wpAny_bind (wpAny_pure ?_)
  refine wpAny_bind (wpAny_dictEntries hod hdd ?_)
  have hsz : es.size = kvs.length := by rw [← hp.length]; simp
  rw [if_neg (by rw [hsz]; simp)]
  refine wpAny_bind (wpAny_pure ?_)
  refine wpAny_bind (wpAny_dictEpoch hod hdd ?_)
  rw [if_neg (by simp)]
  refine wpAny_pure ?_
  have hge : es.size ≤ i := by rw [hsz]; simpa using hx
  simp only [show ¬ ((i : Int) < 0) from by omega, if_false, Int.toNat_natCast, Array.getElem?_eq_none hge]
  refine wpAny_bind ?_
  first | refine wpAny_bind (wpAny_typeNameOfWhole_valiter hit.typeIs (wpAny_pure ?_)) | refine wpAny_bind (wpAny_typeNameOf_valiter hit.typeIs (wpAny_pure ?_))
  show wpAny _ _ (setField (.ref it) 0 .none >>= _) _ _ s
  refine wpAny_bind (wpAny_setField ho hd (by simp) ?_)
  show wpAny _ _ (newExc (.type "StopIteration") [] >>= _) _ _ _
  refine wpAny_bind ?_
  simp only [newExc, newTuple]
  refine wpAny_bind (wpAny_newObj_type ?_ (by size_fits))
  refine wpAny_bind (m := firstArgMember _ _) (wpAny_of_eq (a := Value.none) (by first | rfl | (simp only [firstArgMember]; rfl)) ?_)
  refine wpAny_newObj_type ?_ (by size_fits)
  simp only [raiseNew]
  refine wpAny_bind (wpAny_handled ?_)
  rw [show A.in1.handled = none from hh]
  refine wpAny_bind (wpAny_pure (wpAny_throw ?_))
  exact hQ _ _ ⟨_, Heap.get?_push_size _ rfl, rfl⟩ (((Heap.SameBut.update ..).extBut.push _).push _)
noncomputable def passes : Value → Bool
  | .int n _ => n != 0
  | _ => false
noncomputable def plainV : Value → Prop
  | .int _ _ => True
  | .none => True
  | _ => False
theorem truthy_plain {v : Value} {Q : Bool → Shared → Prop} (hv : plainV v) (h : Q (passes v) s) : wpAny (model prog w) A (truthy v) Q E s := by
  cases v <;> first | exact hv.elim | skip
  · exact PyProof.Rows.truthy_none h
  · exact PyProof.Rows.truthy_int h
noncomputable abbrev filtO (it : Addr) : Obj := { cls := .type "filter", data := .fields #[.none, .ref it] }
theorem filt_code (hh : A.handled = none) {R : Result → Shared → Prop} {I it d : Addr} {ep : Nat} {kvs : List (K × Value)} (hI : I ≠ it) (hd : d ≠ it) (hv : ∀ p ∈ kvs, plainV p.2) :
    ∀ (k i : Nat) (s : Shared), kvs.length - i = k → i ≤ kvs.length → s.heap.get? I = some (filtO it) → s.heap.IsValIter it d i kvs.length ep → s.heap.DictAt knd d kvs ep →
      (∀ i' kv h', kvs[i']? = some kv → ((kvs.drop i).map (·.2)).filter passes = kv.2 :: ((kvs.drop (i' + 1)).map (·.2)).filter passes → i' + 1 ≤ kvs.length → h'.IsValIter it d (i' + 1) kvs.length ep →
        (∀ b o, b ≠ it → s.heap.get? b = some o → h'.get? b = some o) → R (.ok (.ret kv.2)) { s with heap := h' }) →
      (∀ e h', ((kvs.drop i).map (·.2)).filter passes = [] → (∃ oe, h'.get? e = some oe ∧ oe.cls = .type "StopIteration") → (∀ b o, b ≠ it → s.heap.get? b = some o → h'.get? b = some o) → R (.error (.ref e)) { s with heap := h' }) →
      codeAny (model prog w) A (.builtin "filter.__next__" ⟨[.ref I], []⟩) R s := by
  intro k
  induction k with
  | zero =>
    intro i s hk hi hF hit hm hitem hdone
    have hin : i = kvs.length := by omega
    subst hin
    refine codeAny_builtin entry_filter_next ?_
    rw [Around.under_plainId plain_filter_next _]
    refine wpAny_bind (wpAny_pure ?_)
    refine wpAny_bind (wpAny_field hF rfl (x := .none) rfl ?_)
    refine wpAny_bind (wpAny_field hF rfl (x := .ref it) rfl ?_)
    refine wpAny_bind (vals_end hh hit hm (by simp) fun e h' he hx => ?_)
    exact hdone e h' (by simp) he fun b o hb e => hx b o hb e
  | succ k ih =>
    intro i s hk hi hF hit hm hitem hdone
    have hlt : i < kvs.length := by omega
    have hx : kvs[i]? = some kvs[i] := List.getElem?_eq_getElem hlt
    have hpl : plainV kvs[i].2 := hv _ (List.getElem_mem hlt)
    have hdrop : kvs.drop i = kvs[i] :: kvs.drop (i + 1) := List.drop_eq_getElem_cons hlt
    refine codeAny_builtin entry_filter_next ?_
    rw [Around.under_plainId plain_filter_next _]
    refine wpAny_bind (wpAny_pure ?_)
    refine wpAny_bind (wpAny_field hF rfl (x := .none) rfl ?_)
    refine wpAny_bind (wpAny_field hF rfl (x := .ref it) rfl ?_)
    refine wpAny_bind (vals_item hit hm hx fun h' hit' hs => ?_)
    have hm' : h'.DictAt knd d kvs ep := hm.extBut hs.extBut hd
    have hF' : h'.get? I = some (filtO it) := hs.extBut _ _ hI hF
    refine wpAny_bind (wpAny_holding ?_)
    refine wpAny_ite_split (fun _ => ?_) (fun h => absurd rfl h)
    refine wpAny_bind (wpAny_rule (truthy_plain hpl ?_))
    cases hb : passes kvs[i].2 with
    | true =>
      refine wpAny_pure (hitem i kvs[i] h' hx (by rw [hdrop, List.map_cons, List.filter_cons, if_pos hb]) hlt hit' fun b o hb e => hs.extBut b o hb e)
    | false =>
      refine wpAny_pure ⟨plainId_quiet plain_filter_next _, ih (i + 1) _ (by omega) hlt hF' hit' hm' (fun i' kv h'' e1 e2 e3 e4 e5 => ?_) fun e h'' e1 e2 e3 => ?_⟩
      · exact hitem i' kv h'' e1 (by rw [hdrop, List.map_cons, List.filter_cons, if_neg (by rw [hb]; exact Bool.false_ne_true)]; exact e2) e3 e4 fun b o hb e => e5 b o hb (hs.extBut b o hb e)
      · exact hdone e h'' (by rw [hdrop, List.map_cons, List.filter_cons, if_neg (by rw [hb]; exact Bool.false_ne_true)]; exact e1) e2 fun b o hb e => e3 b o hb (hs.extBut b o hb e)
noncomputable def filtAt (knd : KeyKind prog w K) (I it d : Addr) (kvs : List (K × Value)) (ep : Nat) (j : Nat) (h : Heap) : Prop :=
  h.get? I = some (filtO it) ∧ h.DictAt knd d kvs ep ∧ ∃ i, i ≤ kvs.length ∧ h.IsValIter it d i kvs.length ep ∧ ((kvs.drop i).map (·.2)).filter passes = ((kvs.map (·.2)).filter passes).drop j
theorem slot_filter_iter : Slot "filter" "__iter__" "filter.__iter__" :=
  .of (owner := "filter") (n := "__iter__") (by rw [typeLookup_type, builtinLookup_eq_fast]; kernel_rfl) (by decide +kernel) (by decide +kernel) (by decide +kernel)
    (by first | exact .inl (by decide +kernel) | exact .inr (by decide +kernel)) (by rw [isSubtype_type]; kernel_rfl)
theorem entry_filter_iter : entryFor table "filter.__iter__" = some Builtin.«dict_keyiterator.__iter__» :=
  entryFor_alias (id' := "dict_keyiterator.__iter__") (by kernel_rfl) (by first | rfl | decide +kernel | (unfold String.splitOn; simp +decide [String.splitOnAux])) (by decide +kernel) (by kernel_rfl)
theorem args_filter_iter (a : Value) : argsOk "filter.__iter__" ⟨[a], []⟩ := by unfold argsOk; kernel_rfl
theorem filt_next (hh : A.handled = none) {Q : Option Value → Shared → Prop} {I it d : Addr} {kvs : List (K × Value)} {ep j : Nat} (hI : I ≠ it) (hd : d ≠ it) (hv : ∀ p ∈ kvs, plainV p.2) (st : filtAt knd I it d kvs ep j s.heap)
    (hitem : ∀ v h', ((kvs.map (·.2)).filter passes)[j]? = some v → filtAt knd I it d kvs ep (j + 1) h' → (∀ b o, b ≠ it → s.heap.get? b = some o → h'.get? b = some o) → Q (some v) { s with heap := h' })
    (hdone : ∀ h', ((kvs.map (·.2)).filter passes)[j]? = none → (∀ b o, b ≠ it → s.heap.get? b = some o → h'.get? b = some o) → Q none { s with heap := h' }) :
    wpAny (model prog w) A (pyNext (.ref I)) Q E s := by
  obtain ⟨a, b, i, c, dd, e⟩ := st
  have hT : s.TypeIs (.ref I) "filter" := ⟨_, a, rfl⟩
  unfold pyNext
  refine wpAny_bind (wpAny_attempt (wpAny_callSpecial?_slot (name := Str.ofString "__next__") hT slot_filter_next ?_))
  refine wpAny_call (codeAny_of_tree ?_)
  show wpAny _ A.in1 (do checkBuiltinCall "filter.__next__" ⟨[.ref I], []⟩; again (.builtin "filter.__next__" ⟨[.ref I], []⟩)) _ _ s
  refine wpAny_bind (slot_filter_next.check _ _ _ _ _ _ _ _ hT (args_filter_next _) (wpAny_pure (And.intro (plainId_quiet plain_filter_next _) ?_)))
  refine filt_code (A := A) hh hI hd hv _ i s rfl c a dd b (fun i' kv h' e1 e2 e3 e4 e5 => ?_) (fun x h' e1 e2 e3 => ?_)
  · rw [e] at e2
    have hj : ((kvs.map (·.2)).filter passes)[j]? = some kv.2 := by
      have := congrArg (·[0]?) e2
      simpa using this
    have ht : ((kvs.drop (i' + 1)).map (·.2)).filter passes = ((kvs.map (·.2)).filter passes).drop (j + 1) := by
      have := congrArg (List.drop 1) e2
      rw [List.drop_drop] at this
      exact this.symm
    exact wpAny_pure (hitem kv.2 h' hj ⟨e5 _ _ hI a, b.at' fun o q => e5 _ _ hd q, i' + 1, e3, e4, ht⟩ e5)
  · rw [e] at e1
    have hj : ((kvs.map (·.2)).filter passes)[j]? = none := by
      rw [List.drop_eq_nil_iff] at e1
      exact List.getElem?_eq_none e1
    refine wpAny_bind (wpAny_isInstance (T := "StopIteration") (b := true) ?_ isSubtype_stop ?_)
    · obtain ⟨oe, q1, q2⟩ := e2; exact ⟨oe, q1, q2⟩
    · exact wpAny_pure (hdone h' hj e3)
theorem Walks.filt (hh : A.handled = none) {I it d : Addr} {kvs : List (K × Value)} {ep : Nat} (hI : I ≠ it) (hd : d ≠ it) (hv : ∀ p ∈ kvs, plainV p.2) :
    Walks prog w A I [I, it, d] [it] ((kvs.map (·.2)).filter passes).length (fun j v => ((kvs.map (·.2)).filter passes)[j]? = some v) (filtAt knd I it d kvs ep) where
  sub := fun b hb => by simp at hb; simp [hb]
  frame := fun _ h h' st hk => by
    obtain ⟨a, b, i, c, d', e⟩ := st
    exact ⟨hk I (by simp) _ a, b.at' fun o q => hk d (by simp) o q, i, c, d'.at fun o q => hk it (by simp) o q, e⟩
  item := fun j s Q E hj st hQ => by
    refine filt_next hh hI hd hv st (fun v h' e1 e2 e3 => hQ v h' s.toks e1 e2 fun b o hb e => e3 b o (by simpa using hb) e) (fun h' e1 _ => ?_)
    rw [List.getElem?_eq_none_iff] at e1
    omega
  done := fun s Q E st hQ => by
    refine filt_next hh hI hd hv st (fun v h' e1 e2 e3 => ?_) (fun h' e1 e3 => hQ h' s.toks fun b o hb e => e3 b o (by simpa using hb) e)
    simp at e1
  self := fun j s Q E st hQ => by
    have hT : s.TypeIs (.ref I) "filter" := ⟨_, st.1, rfl⟩
    refine wpAny_pyIter_slot hT slot_filter_iter (wpAny_call_entry slot_filter_iter hT entry_filter_iter ?_ (args_filter_iter _))
    show wpAny _ _ (ret (.ref I)) _ _ s
    exact wpAny_pure ⟨_, rfl, "filter", _, hT, slot_filter_next.lookup, hQ⟩
end
end
/- R22 -/
section
open PySem PySem.W PySem.Calls PyProof.Rows PySem.Spec
theorem stepU {s s' : Shared} {g : Heap} {L : Addr} {m : Str → Option Value} {news news' : List (Addr × Obj)} {ts : List Addr}
    (Kp : Kept ts s s') (F : Fr g L s.heap m) (N : News g L s.heap news) (hts : ∀ t ∈ ts, t ∈ news.map (·.1))
    (hn : ∀ q ∈ news', (q ∈ news ∧ q.1 ∉ ts) ∨ (s'.heap.get? q.1 = some q.2 ∧ q.1 ∈ news.map (·.1))) : Fr g L s'.heap m ∧ News g L s'.heap news' :=
  ⟨kept_fr Kp F N hts, kept_news Kp F N fun q hq => by
    rcases hn q hq with h | h
    · exact .inl h
    · exact .inr ⟨h.1, .inl h.2⟩⟩
end
/- R23 -/
section
open PySem PySem.W PySem.Calls PyProof.Rows PySem.Spec
noncomputable abbrev NoE : Value → Shared → Prop := fun _ _ => False
noncomputable def LoopR (Q : Flow → Shared → Prop) : Result → Shared → Prop := fun r s' => match r with | .ok f => Q f s' | .error _ => False
section
variable {prog : Program} {w : World} {A : Around} {E : Value → Shared → Prop} {s : Shared} {env : Env} {target iter test it' : Expr} {body orelse : List Stmt} {pos : Pos} {Q : Flow → Shared → Prop} {it : Value} {g : Heap} {L I l : Addr} {m : Str → Option Value} {news : List (Addr × Obj)}
/- what a turn's body ends in -/
noncomputable def LoopB (prog : Program) (w : World) (A : Around) (c : Code) (Q : Flow → Shared → Prop) : Flow → Shared → Prop := fun f s₃ => match f with
  | .next => codeAny (model prog w) A c (LoopR Q) s₃
  | .cont => codeAny (model prog w) A c (LoopR Q) s₃
  | .brk => Q .next s₃
  | .ret v => Q (.ret v) s₃
theorem LoopB.next {c : Code} (h : codeAny (model prog w) A c (LoopR Q) s) : LoopB prog w A c Q .next s := h
theorem LoopB.cont {c : Code} (h : codeAny (model prog w) A c (LoopR Q) s) : LoopB prog w A c Q .cont s := h
theorem LoopB.brk {c : Code} (h : Q .next s) : LoopB prog w A c Q .brk s := h
theorem LoopB.ret {c : Code} {v : Value} (h : Q (.ret v) s) : LoopB prog w A c Q (.ret v) s := h
theorem for_own (h : wpAny (model prog w) A (eval iter env) (fun x s₁ => wpAny (model prog w) A (pyIter x) (fun it s₂ => codeAny (model prog w) A (.forLoop target it body orelse env) (LoopR Q) s₂) NoE s₁) NoE s)
    (hs : ∀ x, foldedSetIterable iter env x = pure x) : wpAny (model prog w) A (exec (.For target iter body orelse pos) env) Q E s :=
  wpAny_For (wpAny_mono h (fun x s₁ h₁ => wpAny_mono h₁ (fun it s₂ h₂ => codeAny_mono h₂ fun r s' hr => by
    cases r with
    | ok f => exact hr
    | error e => exact hr.elim) fun _ _ e => e.elim) fun _ _ e => e.elim) hs
theorem while_own (h : codeAny (model prog w) A (.whileLoop test body orelse env) (LoopR Q) s) : wpAny (model prog w) A (exec (.While test body orelse pos) env) Q E s :=
  wpAny_While (codeAny_mono h fun r s' hr => by
    cases r with
    | ok f => exact hr
    | error e => exact hr.elim)
theorem for_turn (turn : wpAny (model prog w) A (pyNext it) (fun r s₁ => match r with
      | none => wpAny (model prog w) A (execs orelse env) Q NoE s₁
      | some v => wpAny (model prog w) A (letOwnedTupleGo target it v) (fun _ s₁' => wpAny (model prog w) A (assign target env v) (fun _ s₂ => wpAny (model prog w) A (execs body env)
          (LoopB prog w A (.forLoop target it body orelse env) Q) NoE s₂) NoE s₁') NoE s₁) NoE s) : codeAny (model prog w) A (.forLoop target it body orelse env) (LoopR Q) s := by
  have no : ∀ {x : Value} {t : Shared}, NoE x t → notedBy (model prog w) A env (fun e s' => LoopR Q (.error e) s') x t := fun h => h.elim
  refine codeAny_of_tree ?_
  show wpAny _ A ((forTurn target it body orelse env).onRaise (fun x => do noteFrame x env; theTreesLotGoes x)) _ _ s
  refine wpAny_noted ?_
  simp only [forTurn]
  refine wpAny_bind (wpAny_standAt (wpAny_bind (wpAny_onRaise (wpAny_mono turn (fun r s₁ h₁ => ?_) fun _ _ h' => h'.elim))))
  cases r with
  | none => exact wpAny_pure ⟨rfl, codeAny_block (wpAny_mono h₁ (fun _ _ q => q) fun _ _ q => no q)⟩
  | some v =>
    refine wpAny_bind (wpAny_mono h₁ (fun _ s₁' h₁' => ?_) fun _ _ h' => no h')
    refine wpAny_bind (wpAny_mono h₁' (fun _ s₂ h₂ => wpAny_bind (wpAny_mono h₂ (fun f s₃ h₃ => ?_) fun _ _ h' => no h')) fun _ _ h' => no h')
    cases f with
    | next => exact wpAny_pure ⟨rfl, h₃⟩
    | cont => exact wpAny_pure ⟨rfl, h₃⟩
    | brk => exact wpAny_pure h₃
    | ret v => exact wpAny_pure h₃
theorem while_turn (turn : wpAny (model prog w) A (isTrue test env (eval test env)) (fun b s₂ =>
        if b = true then wpAny (model prog w) A (execs body env) (LoopB prog w A (.whileLoop test body orelse env) Q) NoE s₂
        else wpAny (model prog w) A (execs orelse env) Q NoE s₂) NoE s) : codeAny (model prog w) A (.whileLoop test body orelse env) (LoopR Q) s := by
  have no : ∀ {x : Value} {t : Shared}, NoE x t → notedBy (model prog w) A env (fun e s' => LoopR Q (.error e) s') x t := fun h => h.elim
  refine codeAny_of_tree ?_
  show wpAny _ A ((whileTurn test body orelse env).onRaise (fun x => do noteFrame x env; theTreesLotGoes x)) _ _ s
  refine wpAny_noted ?_
  simp only [whileTurn]
  refine wpAny_bind (wpAny_mono turn (fun b s₂ h₂ => ?_) fun _ _ h' => no h')
  cases b with
  | false =>
    simp only [Bool.false_eq_true, if_false] at h₂ ⊢
    exact wpAny_bind (wpAny_mono h₂ (fun f s₃ h₃ => wpAny_pure h₃) fun _ _ h' => no h')
  | true =>
    simp only [if_true] at h₂ ⊢
    refine wpAny_bind (wpAny_mono h₂ (fun f s₃ h₃ => ?_) fun _ _ h' => no h')
    cases f with
    | next => exact wpAny_pure ⟨rfl, h₃⟩
    | cont => exact wpAny_pure ⟨rfl, h₃⟩
    | brk => exact wpAny_pure h₃
    | ret v => exact wpAny_pure h₃
/- a step of an iterator that is in the ledger -/
theorem iter_fr {oI oI' : Obj} {h' : Heap} (F : Fr g L s.heap m) (N : News g L s.heap ((I, oI) :: news)) (hoff : ∀ p ∈ news, @Ne Nat p.1 I) (hs : Heap.ExtBut I s.heap h') (ho : h'.get? I = some oI') :
    Fr g L h' m ∧ News g L h' ((I, oI') :: news) := by
  have z := N _ (.head _)
  refine ⟨⟨F.ns.extBut hs (Ne.symm z.2.1), fun b o e => hs b o (fun q => by rw [q, z.2.2] at e; cases e) (F.keep b o e), F.above⟩, fun p hp => ?_⟩
  rcases List.mem_cons.mp hp with rfl | hp
  · exact ⟨ho, z.2⟩
  · exact ⟨hs _ _ (hoff p hp) (N p (.tail _ hp)).1, (N p (.tail _ hp)).2⟩
noncomputable def LIter (o : Obj) (l : Addr) (i : Nat) : Prop := o.cls = .type "list_iterator" ∧ o.data = .fields #[.ref l, .int i 0]
theorem letOwned_list {i : Nat} {v : Value} {Q : Unit → Shared → Prop} (hit : s.heap.IsListIter I l i) (hQ : Q () s) : wpAny (model prog w) A (letOwnedTupleGo target (.ref I) v) Q E s := by
  obtain ⟨o, ho, hc, hd⟩ := id hit
  have key : ∀ T, wpAny (model prog w) A (letOwnedTupleGo (.Tuple [] 0 default) (.ref I) (.ref T)) Q E s := fun T => wpAny_letOwnedTupleGo_listiter hit hQ
  unfold letOwnedTupleGo at key ⊢
  split
  · cases v <;> first | exact wpAny_pure hQ | exact key _
  · cases v <;> first | exact wpAny_pure hQ | exact key _
  · exact wpAny_pure hQ
theorem for_list_item {oI : Obj} {i : Nat} {items : Array Value} {v : Value} (F : Fr g L s.heap m) (N : News g L s.heap ((I, oI) :: news)) (hoff : ∀ p ∈ news, @Ne Nat p.1 I) (hI : LIter oI l i) (hl : s.heap.IsList l items) (hx : items[i]? = some v)
    (h : ∀ h' oI', LIter oI' l (i + 1) → Fr g L h' m → News g L h' ((I, oI') :: news) → Heap.ExtBut I s.heap h' →
      wpAny (model prog w) A (assign target env v) (fun _ s₂ => wpAny (model prog w) A (execs body env) (LoopB prog w A (.forLoop target (.ref I) body orelse env) Q) NoE s₂) NoE { s with heap := h' }) :
    codeAny (model prog w) A (.forLoop target (.ref I) body orelse env) (LoopR Q) s := by
  refine for_turn ?_
  have hit : s.heap.IsListIter I l i := ⟨_, (N _ (.head _)).1, hI.1, hI.2⟩
  refine wpAny_pyNext_list_item hit hl hx fun h' hit' hs' => ?_
  obtain ⟨o', e1, e2, e3⟩ := id hit'
  obtain ⟨F', N'⟩ := iter_fr F N hoff hs'.extBut e1
  dsimp only
  exact letOwned_list hit' (h h' o' ⟨e2, e3⟩ F' N' hs'.extBut)
theorem for_list_done {oI : Obj} {i : Nat} {items : Array Value} (hh : A.handled = none) (F : Fr g L s.heap m) (N : News g L s.heap ((I, oI) :: news)) (hoff : ∀ p ∈ news, @Ne Nat p.1 I) (hI : LIter oI l i) (hl : s.heap.IsList l items) (hx : items[i]? = none)
    (h : ∀ h', Fr g L h' m → News g L h' news → Heap.ExtBut I s.heap h' → wpAny (model prog w) A (execs orelse env) Q NoE { s with heap := h' }) :
    codeAny (model prog w) A (.forLoop target (.ref I) body orelse env) (LoopR Q) s := by
  refine for_turn ?_
  have z := N _ (.head _)
  have hit : s.heap.IsListIter I l i := ⟨_, z.1, hI.1, hI.2⟩
  refine wpAny_pyNext_list_end hh hit hl hx fun h' hs => ?_
  dsimp only
  exact h h' ⟨F.ns.extBut hs (Ne.symm z.2.1), fun b o e => hs b o (fun q => by rw [q, z.2.2] at e; cases e) (F.keep b o e), F.above⟩ (fun p hp => ⟨hs _ _ (hoff p hp) (N p (.tail _ hp)).1, (N p (.tail _ hp)).2⟩) hs
theorem iter_list_own {items : Array Value} {Q : Value → Shared → Prop} (F : Fr g L s.heap m) (N : News g L s.heap news) (hl : s.heap.IsList l items)
    (h : ∀ I h' oI, LIter oI l 0 → Fr g L h' m → News g L h' ((I, oI) :: news) → (∀ p ∈ news, @Ne Nat p.1 I) → (∀ b o, s.heap.get? b = some o → h'.get? b = some o) → Q (.ref I) { s with heap := h' }) :
    wpAny (model prog w) A (pyIter (.ref l)) Q E s := by
  refine wpAny_pyIter_list hl ?_
  exact h _ _ _ ⟨rfl, rfl⟩ (F.push _) (N.push F { cls := .type "list_iterator", data := .fields #[.ref l, .int 0 0] } rfl) (fun p hp => Nat.ne_of_lt (Heap.lt_size (N p hp).1)) fun b o e => Heap.get?_push_of_some _ e
end
end
/- R24 -/
section
open PySem PySem.W PySem.Calls PyProof.Rows PySem.Spec
/- a goal that the walk leaves alone -/
structure Hold (p : Prop) : Prop where
  out : p
section
variable {prog : Program} {w : World} {A : Around} {E : Value → Shared → Prop} {s : Shared} {env : Env} {target : Expr} {body orelse : List Stmt} {Q : Flow → Shared → Prop} {g : Heap} {L I l : Addr} {m : Str → Option Value} {news : List (Addr × Obj)}
noncomputable def SIter (o : Obj) (x : Str) (t : Tok) (i : Nat) : Prop := o.cls = .type "str_ascii_iterator" ∧ o.data = .fields #[.str x t, .int i 0]
noncomputable abbrev rIter (x left step : Int) : Obj := { cls := .type "range_iterator", dict := none, data := .fields #[rawInt x, rawInt left, rawInt step], slots := #[] }
theorem iter_str_own {x : Str} {t : Tok} {Q : Value → Shared → Prop} (ha : x.cps.all (· < 128) = true) (F : Fr g L s.heap m) (N : News g L s.heap news)
    (h : ∀ I h' oI, SIter oI x t 0 → Fr g L h' m → News g L h' ((I, oI) :: news) → (∀ p ∈ news, @Ne Nat p.1 I) → (∀ b o, s.heap.get? b = some o → h'.get? b = some o) → Q (.ref I) { s with heap := h' }) :
    wpAny (model prog w) A (pyIter (.str x t)) Q E s := by
  refine wpAny_pyIter_ascii ha ?_
  exact h _ _ _ ⟨rfl, rfl⟩ (F.push _) (N.push F { cls := .type "str_ascii_iterator", data := .fields #[.str x t, .int 0 0] } rfl) (fun p hp => Nat.ne_of_lt (Heap.lt_size (N p hp).1)) fun b o e => Heap.get?_push_of_some _ e
theorem for_str_item {oI : Obj} {i c : Nat} {x : Str} {t : Tok} (F : Fr g L s.heap m) (N : News g L s.heap ((I, oI) :: news)) (hoff : ∀ p ∈ news, @Ne Nat p.1 I) (hI : SIter oI x t i) (hx : x.cps[i]? = some c)
    (ht : ∀ v, letOwnedTupleGo target (.ref I) v = pure ())
    (h : ∀ h' oI' tk tk', SIter oI' x t (i + 1) → Fr g L h' m → News g L h' ((I, oI') :: news) → Heap.ExtBut I s.heap h' →
      wpAny (model prog w) A (assign target env (.str ⟨#[c]⟩ tk)) (fun _ s₂ => wpAny (model prog w) A (execs body env) (LoopB prog w A (.forLoop target (.ref I) body orelse env) Q) NoE s₂) NoE { s with heap := h', toks := tk' }) :
    codeAny (model prog w) A (.forLoop target (.ref I) body orelse env) (LoopR Q) s := by
  refine for_turn ?_
  have hit : s.heap.IsStrIter I "str_ascii_iterator" x t i := ⟨_, (N _ (.head _)).1, hI.1, hI.2⟩
  refine wpAny_pyNext_ascii_item hit hx fun h' hit' hs' => ?_
  obtain ⟨o', e1, e2, e3⟩ := id hit'
  obtain ⟨F', N'⟩ := iter_fr F N hoff hs'.extBut e1
  dsimp only
  exact wpAny_of_eq (ht _) (h h' o' _ _ ⟨e2, e3⟩ F' N' hs'.extBut)
theorem for_str_done {oI : Obj} {i : Nat} {x : Str} {t : Tok} (hh : A.handled = none) (F : Fr g L s.heap m) (N : News g L s.heap ((I, oI) :: news)) (hoff : ∀ p ∈ news, @Ne Nat p.1 I) (hI : SIter oI x t i) (hx : x.cps[i]? = none)
    (h : ∀ h', Fr g L h' m → News g L h' news → Heap.ExtBut I s.heap h' → wpAny (model prog w) A (execs orelse env) Q NoE { s with heap := h' }) :
    codeAny (model prog w) A (.forLoop target (.ref I) body orelse env) (LoopR Q) s := by
  refine for_turn ?_
  have z := N _ (.head _)
  have hit : s.heap.IsStrIter I "str_ascii_iterator" x t i := ⟨_, z.1, hI.1, hI.2⟩
  refine wpAny_pyNext_ascii_end hh hit hx fun h' hs => ?_
  dsimp only
  exact h h' ⟨F.ns.extBut hs (Ne.symm z.2.1), fun b o e => hs b o (fun q => by rw [q, z.2.2] at e; cases e) (F.keep b o e), F.above⟩ (fun p hp => ⟨hs _ _ (hoff p hp) (N p (.tail _ hp)).1, (N p (.tail _ hp)).2⟩) hs
theorem iter_range_own {r : Addr} {a b c : Int} {t u v : Tok} {Q : Value → Shared → Prop} (hr : IsRange s.heap r a b c t u v) (hsm : Builtin.Range.small a b c = true) (F : Fr g L s.heap m) (N : News g L s.heap news)
    (h : ∀ I h', Fr g L h' m → News g L h' ((I, rIter a (Builtin.Range.rangeSize a b c) c) :: news) → (∀ p ∈ news, @Ne Nat p.1 I) → (∀ b o, s.heap.get? b = some o → h'.get? b = some o) → Q (.ref I) { s with heap := h' }) :
    wpAny (model prog w) A (pyIter (.ref r)) Q E s := by
  refine wpAny_pyIter_range hr hsm ?_
  exact h _ _ (F.push _) (News.push F N (rIter a (Builtin.Range.rangeSize a b c) c) rfl) (fun p hp => Nat.ne_of_lt (Heap.lt_size (N p hp).1)) fun b o e => Heap.get?_push_of_some _ e
theorem for_range_item {x left step : Int} (F : Fr g L s.heap m) (N : News g L s.heap ((I, rIter x left step) :: news)) (hoff : ∀ p ∈ news, @Ne Nat p.1 I) (hleft : 0 < left)
    (ht : ∀ v, letOwnedTupleGo target (.ref I) v = pure ())
    (h : ∀ h' tk tk', Fr g L h' m → News g L h' ((I, rIter (x + step) (left - 1) step) :: news) → Heap.ExtBut I s.heap h' →
      wpAny (model prog w) A (assign target env (.int x tk)) (fun _ s₂ => wpAny (model prog w) A (execs body env) (LoopB prog w A (.forLoop target (.ref I) body orelse env) Q) NoE s₂) NoE { s with heap := h', toks := tk' }) :
    codeAny (model prog w) A (.forLoop target (.ref I) body orelse env) (LoopR Q) s := by
  refine for_turn ?_
  refine wpAny_pyNext_range_item (N _ (.head _)).1 hleft fun h' hit' hs' => ?_
  obtain ⟨F', N'⟩ := iter_fr F N hoff hs'.extBut hit'
  dsimp only
  exact wpAny_of_eq (ht _) (h h' _ _ F' N' hs'.extBut)
theorem for_range_done {x left step : Int} (hh : A.handled = none) (F : Fr g L s.heap m) (N : News g L s.heap ((I, rIter x left step) :: news)) (hoff : ∀ p ∈ news, @Ne Nat p.1 I) (hleft : left ≤ 0)
    (h : ∀ h', Fr g L h' m → News g L h' news → Heap.ExtBut I s.heap h' → wpAny (model prog w) A (execs orelse env) Q NoE { s with heap := h' }) :
    codeAny (model prog w) A (.forLoop target (.ref I) body orelse env) (LoopR Q) s := by
  refine for_turn ?_
  have z := N _ (.head _)
  refine wpAny_pyNext_range_end hh z.1 hleft fun h' hs => ?_
  dsimp only
  exact h h' ⟨F.ns.extBut hs (Ne.symm z.2.1), fun b o e => hs b o (fun q => by rw [q, z.2.2] at e; cases e) (F.keep b o e), F.above⟩ (fun p hp => ⟨hs _ _ (hoff p hp) (N p (.tail _ hp)).1, (N p (.tail _ hp)).2⟩) hs
theorem while_inv {test : Expr} (J : Nat → Shared → Prop)
    (turn : ∀ n s, J n s → wpAny (model prog w) A (isTrue test env (eval test env)) (fun b s₂ =>
        if b = true then wpAny (model prog w) A (execs body env) (fun f s₃ => match f with
            | .next => Hold (∃ m, m < n ∧ J m s₃)
            | .cont => Hold (∃ m, m < n ∧ J m s₃)
            | .brk => Q .next s₃
            | .ret v => Q (.ret v) s₃) NoE s₂
        else wpAny (model prog w) A (execs orelse env) Q NoE s₂) NoE s) (n : Nat) (h : J n s) : codeAny (model prog w) A (.whileLoop test body orelse env) (LoopR Q) s := by
  have key : ∀ k n s, n ≤ k → J n s → codeAny (model prog w) A (.whileLoop test body orelse env) (LoopR Q) s := by
    intro k
    induction k with
    | zero =>
      intro n s hn hJ
      refine while_turn (wpAny_mono (turn n s hJ) (fun b s₂ h₂ => ?_) fun _ _ e => e)
      cases b with
      | false => exact h₂
      | true =>
        rw [if_pos rfl] at h₂ ⊢
        refine wpAny_mono h₂ (fun f s₃ h₃ => ?_) fun _ _ e => e
        cases f with
        | next => obtain ⟨m, h1, _⟩ := h₃.out; omega
        | cont => obtain ⟨m, h1, _⟩ := h₃.out; omega
        | brk => exact h₃
        | ret v => exact h₃
    | succ k ih =>
      intro n s hn hJ
      refine while_turn (wpAny_mono (turn n s hJ) (fun b s₂ h₂ => ?_) fun _ _ e => e)
      cases b with
      | false => exact h₂
      | true =>
        rw [if_pos rfl] at h₂ ⊢
        refine wpAny_mono h₂ (fun f s₃ h₃ => ?_) fun _ _ e => e
        cases f with
        | next => obtain ⟨m, h1, h2⟩ := h₃.out; exact ih m s₃ (by omega) h2
        | cont => obtain ⟨m, h1, h2⟩ := h₃.out; exact ih m s₃ (by omega) h2
        | brk => exact h₃
        | ret v => exact h₃
  exact key n n s (Nat.le_refl _) h
theorem fr_congr {h : Heap} {m m' : Str → Option Value} (F : Fr g L h m) (e : ∀ y, m y = m' y) : Fr g L h m' := (funext e : m = m') ▸ F
end
end
/- R25 -/
section
open PySem PySem.W PySem.Calls PyProof.Rows PySem.Spec
/- the figures of a number, nought has none -/
noncomputable def figs (n : Nat) : Nat := if h : n = 0 then 0 else figs (n / 10) + 1
termination_by n
decreasing_by omega
theorem figs_zero : figs 0 = 0 := by rw [figs]; rfl
theorem figs_pos {n : Nat} (h : 0 < n) : figs n = figs (n / 10) + 1 := by rw [figs, dif_neg (by omega)]
theorem figs_le (n : Nat) : figs n ≤ n := by
  induction n using Nat.strongRecOn with
  | _ n ih =>
    by_cases h : n = 0
    · subst h; rw [figs_zero]; exact Nat.le_refl _
    · rw [figs_pos (by omega)]
      have := ih (n / 10) (by omega)
      omega
theorem figs_lt_pow (n : Nat) : n < 10 ^ figs n := by
  induction n using Nat.strongRecOn with
  | _ n ih =>
    by_cases h : n = 0
    · subst h; rw [figs_zero]; exact Nat.zero_lt_one
    · rw [figs_pos (by omega)]
      have := ih (n / 10) (by omega)
      rw [Nat.pow_succ]
      omega
theorem pow_le_figs {n : Nat} (h : 0 < n) : 10 ^ (figs n - 1) ≤ n := by
  induction n using Nat.strongRecOn with
  | _ n ih =>
    rw [figs_pos h, Nat.add_sub_cancel]
    by_cases h0 : n / 10 = 0
    · rw [h0, figs_zero]; exact h
    · have := ih (n / 10) (by omega) (by omega)
      have e : figs (n / 10) = (figs (n / 10) - 1) + 1 := by
        have := figs_pos (n := n / 10) (by omega)
        omega
      rw [e, Nat.pow_succ]
      omega
theorem figs_le_of_lt {n k : Nat} (h : n < 10 ^ k) : figs n ≤ k := by
  by_cases h0 : n = 0
  · subst h0; rw [figs_zero]; exact Nat.zero_le _
  · have := pow_le_figs (n := n) (by omega)
    have q : 10 ^ (figs n - 1) < 10 ^ k := Nat.lt_of_le_of_lt this h
    have := (Nat.pow_lt_pow_iff_right (by decide : 1 < 10)).mp q
    omega
theorem lt_figs_of_le {n k : Nat} (h : 10 ^ k ≤ n) : k < figs n := by
  have := figs_lt_pow n
  have q : 10 ^ k < 10 ^ figs n := Nat.lt_of_le_of_lt h this
  exact (Nat.pow_lt_pow_iff_right (by decide : 1 < 10)).mp q
theorem toDigits_length {n : Nat} (h : 0 < n) : (Nat.toDigits 10 n).length = figs n := by
  induction n using Nat.strongRecOn with
  | _ n ih =>
    by_cases hn : n < 10
    · rw [Nat.toDigits_of_lt_base hn, figs_pos h, show n / 10 = 0 by omega, figs_zero]; rfl
    · rw [Nat.toDigits_of_base_le (by decide) (by omega), List.length_append, ih (n / 10) (by omega) (by omega), figs_pos h]
      rfl
end
/- R26 -/
section
open PySem PySem.W PySem.Calls PyProof.Rows PySem.Spec
theorem sub_filter : isSubtype (.type "filter") (.type "filter") = pure true := by rw [isSubtype_type]; kernel_rfl
section
variable {prog : Program} {w : World} {K : Type} [DecidableEq K] {knd : KeyKind prog w K} {A : Around} {E : Value → Shared → Prop} {s : Shared} {v d : Addr} {kvs : List (K × Value)} {ep : Nat}
theorem meets_filter_new :
    MeetsIn prog w (Builtin.«filter.__new__» ⟨[.type "filter", .none, .ref v], []⟩) (fun _ R s => (s.heap.IsValuesView v d ∧ s.heap.DictAt knd d kvs ep) ∧
      R (.ok (.ret (.ref (s.heap.objs.size + 1)))) { s with heap := (s.heap.push { cls := .type "dict_valueiterator", data := .fields #[.ref d, .int 0 0, .int kvs.length 0, .int ep 0] }).push (filtO s.heap.objs.size) }) :=
  .of_wp fun A R s h => by
    obtain ⟨hp, g, dr, tk, os⟩ := s; obtain ⟨⟨hv, hm⟩, h⟩ := h
    have hsub := sub_filter
    have e : (hp.push { cls := .type "dict_valueiterator", data := .fields #[.ref d, .int 0 0, .int kvs.length 0, .int ep 0] }).objs.size = hp.objs.size + 1 := Heap.size_push ..
    wp_walk using wpAny_pyIter_values hv hm
    dsimp only at e h ⊢
    rw [← e] at h
    exact ⟨_, rfl, h⟩
theorem call_filter {L : Addr} {g : Heap} {m : Str → Option Value} {news : List (Addr × Obj)} {Q : Value → Shared → Prop} (F : Fr g L s.heap m) (N : News g L s.heap news) (hv : s.heap.IsValuesView v d) (hm : s.heap.DictAt knd d kvs ep)
    (h : ∀ I it h', Fr g L h' m → News g L h' news → filtAt knd I it d kvs ep 0 h' → @Ne Nat I it → @Ne Nat d it → (∀ b o, s.heap.get? b = some o → h'.get? b = some o) → s.heap.get? it = none → s.heap.get? I = none → Q (.ref I) { s with heap := h' }) :
    wpAny (model prog w) A (call (.type "filter") [.none, .ref v]) Q E s := by
  refine callType_newIn called_filter (by decide) (typeCall_filter_2 _ _) (newCall_filter_2 _ _) (fun obj => PySem.F.args_object_init_3 obj _ _) entry_filter_new (meets_filter_new (knd := knd) (kvs := kvs) (ep := ep) (v := v) (d := d)) ?_
  refine ⟨⟨hv, hm⟩, ?_⟩
  have e : (s.heap.push { cls := .type "dict_valueiterator", data := .fields #[.ref d, .int 0 0, .int kvs.length 0, .int ep 0] }).objs.size = s.heap.objs.size + 1 := Heap.size_push ..
  have hI : ((s.heap.push { cls := .type "dict_valueiterator", data := .fields #[.ref d, .int 0 0, .int kvs.length 0, .int ep 0] }).push (filtO s.heap.objs.size)).get? (s.heap.objs.size + 1) = some (filtO s.heap.objs.size) := by
    rw [← e]; exact Heap.get?_push_size _ rfl
  have hit : ((s.heap.push { cls := .type "dict_valueiterator", data := .fields #[.ref d, .int 0 0, .int kvs.length 0, .int ep 0] }).push (filtO s.heap.objs.size)).get? s.heap.objs.size = some { cls := .type "dict_valueiterator", data := .fields #[.ref d, .int 0 0, .int kvs.length 0, .int ep 0] } :=
    Heap.get?_push_of_some _ (Heap.get?_push_size _ rfl)
  have hk : ∀ b o, s.heap.get? b = some o → ((s.heap.push { cls := .type "dict_valueiterator", data := .fields #[.ref d, .int 0 0, .int kvs.length 0, .int ep 0] }).push (filtO s.heap.objs.size)).get? b = some o := fun b o e => Heap.get?_push_of_some _ (Heap.get?_push_of_some _ e)
  have no : ∀ b, s.heap.objs.size ≤ b → s.heap.get? b = none := fun b e => by
    cases q : s.heap.get? b with
    | none => rfl
    | some o => exact absurd (Heap.lt_size q) (Nat.not_lt.mpr e)
  refine ⟨⟨_, hI, rfl⟩, h _ s.heap.objs.size _ ((F.push _).push _) (fun p hp => ⟨hk _ _ (N p hp).1, (N p hp).2⟩) ⟨hI, hm.keep hk, 0, Nat.zero_le _, ⟨_, hit, rfl, rfl⟩, rfl⟩ (Nat.succ_ne_self _) (Nat.ne_of_lt hm.lt_size) hk (no _ (Nat.le_refl _)) (no _ (Nat.le_succ _))⟩
end
section
variable {prog : Program} {w : World} {A : Around} {R : Result → Shared → Prop} {I : Addr} {fp wr : List Addr} {n : Nat} {P : Nat → Value → Prop} {St : Nat → Heap → Prop} {kw : List (Str × Value)}
theorem max_loop_kw (W : Walks prog w A.in1 I fp wr n P St) (bt : Nat → Nat → Bool) (hcmp : CmpOf prog w A.in1 .Gt P bt) (S : Addr) (hSf : S ∉ fp) :
    ∀ (k j : Nat) (s : Shared) (vb : Value) (c : Nat), n - (j + 1) = k → j + 1 ≤ n → St (j + 1) s.heap → P (argBest bt j) vb →
    s.heap.get? S = some { cls := .type "list", dict := none, data := .seq #[vb, vb] c, slots := #[] } →
    (∀ v h' tk, P (argBest bt (n - 1)) v → (∀ b o, b ∉ wr → b ≠ S → s.heap.get? b = some o → h'.get? b = some o) → R (.ok (.ret v)) { s with heap := h', toks := tk }) →
    codeAny (model prog w) A (.builtin "max.loop" ⟨[.ref I, .none, .ref S], kw⟩) R s := by
  have hSw : S ∉ wr := fun h => hSf (W.sub _ h)
  have hname : (toString "max" ++ toString ".loop" : String) = "max.loop" := by decide
  intro k
  induction k with
  | zero =>
    intro j s vb c hk hj hst hPb hS hR
    have hin : j + 1 = n := by omega
    refine codeAny_builtin PySem.F.entry_max_loop ?_
    rw [Around.under_plainId PySem.F.plain_max_loop _]
    show wpAny _ A.in1 (seqItems? (.ref S) >>= _) _ _ s
    refine wpAny_bind (wpAny_seqItems hS rfl ?_)
    show wpAny _ A.in1 (tryCatch (pyNext (.ref I)) _ >>= _) _ _ s
    refine wpAny_bind (wpAny_tryCatch (W.done s _ _ (hin ▸ hst) fun h' tk hk' => ?_))
    have hS' := hk' S _ hSw hS
    show wpAny _ A.in1 (updateSeq S (fun _ => #[]) >>= _) _ _ _
    refine wpAny_bind ?_
    refine wpAny_updateSeq hS' rfl (wpAny_bind (wpAny_letGo (wpAny_pure ?_)))
    refine hR vb _ tk (by rw [← hin]; exact hPb) fun b o hbw hbS e => (Heap.get?_update_other _ _ (Ne.symm hbS)).trans (hk' b o hbw e)
  | succ k ih =>
    intro j s vb c hk hj hst hPb hS hR
    have hlt : j + 1 < n := by omega
    refine codeAny_builtin PySem.F.entry_max_loop ?_
    rw [Around.under_plainId PySem.F.plain_max_loop _]
    show wpAny _ A.in1 (seqItems? (.ref S) >>= _) _ _ s
    refine wpAny_bind (wpAny_seqItems hS rfl ?_)
    show wpAny _ A.in1 (tryCatch (pyNext (.ref I)) _ >>= _) _ _ s
    refine wpAny_bind (wpAny_tryCatch (W.item (j + 1) s _ _ hlt hst fun v h' tk hP hst' hk' => ?_))
    have hS' := hk' S _ hSw hS
    show wpAny _ A.in1 (tryCatch (holding [v, v] (richCompare .Gt v vb >>= _)) _ >>= _) _ _ _
    refine wpAny_bind (wpAny_tryCatch (wpAny_holding (wpAny_bind (hcmp (j + 1) (argBest bt j) v vb _ _ _ hP hPb ?_))))
    refine wpAny_bind (wpAny_holding (wpAny_truthy_bool ?_))
    refine wpAny_bind (wpAny_letGo (wpAny_pure ?_))
    cases hb : bt (j + 1) (argBest bt j) with
    | true =>
      simp only [if_true]
      refine wpAny_bind ?_
      refine wpAny_updateSeq hS' rfl (wpAny_bind (wpAny_letGo ?_))
      rw [hname]
      refine wpAny_pure ⟨plainId_quiet PySem.F.plain_max_loop _, ih (j + 1) _ v _ (by omega) hlt (W.frame _ _ _ hst' fun b hbf o e => ?_) (by simp only [argBest, hb, if_true]; exact hP) (Heap.get?_update_self _ hS' rfl)
        fun v' h'' tk'' hP' hk'' => ?_⟩
      · exact (Heap.get?_update_other _ _ (fun h : S = b => hSf (by rw [h]; exact hbf))).trans e
      · exact hR v' h'' tk'' hP' fun b o hbw hbS e => hk'' b o hbw hbS ((Heap.get?_update_other _ _ (Ne.symm hbS)).trans (hk' b o hbw e))
    | false =>
      simp only [Bool.false_eq_true, if_false]
      refine wpAny_bind (wpAny_letGo ?_)
      rw [hname]
      refine wpAny_pure ⟨plainId_quiet PySem.F.plain_max_loop _, ih (j + 1) _ vb c (by omega) hlt hst' (by simp only [argBest, hb, Bool.false_eq_true, if_false]; exact hPb) hS' fun v' h'' tk'' hP' hk'' => ?_⟩
      exact hR v' h'' tk'' hP' fun b o hbw hbS e => hk'' b o hbw hbS (hk' b o hbw e)
theorem max_first_kw (W : Walks prog w A.in1 I fp wr n P St) (bt : Nat → Nat → Bool) (hcmp : CmpOf prog w A.in1 .Gt P bt) (S : Addr) (hSf : S ∉ fp) (hn : 0 < n) {s : Shared} {c : Nat} (hst : St 0 s.heap)
    (hS : s.heap.get? S = some { cls := .type "list", dict := none, data := .seq #[] c, slots := #[] })
    (hR : ∀ v h' tk, P (argBest bt (n - 1)) v → (∀ b o, b ∉ wr → b ≠ S → s.heap.get? b = some o → h'.get? b = some o) → R (.ok (.ret v)) { s with heap := h', toks := tk }) :
    codeAny (model prog w) A (.builtin "max.loop" ⟨[.ref I, .none, .ref S], kw⟩) R s := by
  have hSw : S ∉ wr := fun h => hSf (W.sub _ h)
  have hname : (toString "max" ++ toString ".loop" : String) = "max.loop" := by decide
  refine codeAny_builtin PySem.F.entry_max_loop ?_
  rw [Around.under_plainId PySem.F.plain_max_loop _]
  show wpAny _ A.in1 (seqItems? (.ref S) >>= _) _ _ s
  refine wpAny_bind (wpAny_seqItems hS rfl ?_)
  show wpAny _ A.in1 (tryCatch (pyNext (.ref I)) _ >>= _) _ _ s
  refine wpAny_bind (wpAny_tryCatch (W.item 0 s _ _ hn hst fun v h' tk hP hst' hk' => ?_))
  have hS' := hk' S _ hSw hS
  show wpAny _ A.in1 (updateSeq S (fun _ => #[v, v]) >>= _) _ _ _
  refine wpAny_bind ?_
  refine wpAny_updateSeq hS' rfl ?_
  rw [hname]
  refine wpAny_pure ⟨plainId_quiet PySem.F.plain_max_loop _, max_loop_kw W bt hcmp S hSf _ 0 _ v _ rfl hn (W.frame _ _ _ hst' fun b hbf o e => ?_) hP (Heap.get?_update_self _ hS' rfl) fun v' h'' tk'' hP' hk'' => ?_⟩
  · exact (Heap.get?_update_other _ _ (fun h : S = b => hSf (by rw [h]; exact hbf))).trans e
  · exact hR v' h'' tk'' hP' fun b o hbw hbS e => hk'' b o hbw hbS ((Heap.get?_update_other _ _ (Ne.symm hbS)).trans (hk' b o hbw e))
end
theorem args_max_d (a d : Value) : argsOk "max" ⟨[a], [("default", d)]⟩ := by unfold argsOk; kernel_rfl
section
variable {prog : Program} {w : World} {A : Around} {E : Value → Shared → Prop} {s : Shared}
theorem call_max_kw {x dv : Value} {Q : Value → Shared → Prop}
    (h : wpAny (model prog w) A.in1 (pyIter x) (fun it s₂ => ∃ I fp wr n P St bt, it = .ref I ∧ Walks prog w A.in1 I fp wr n P St ∧ St 0 s₂.heap ∧ (∀ b ∈ fp, b < s₂.heap.objs.size) ∧ 0 < n ∧ CmpOf prog w A.in1 .Gt P bt ∧
      ∀ v h' tk, P (argBest bt (n - 1)) v → (∀ b o, b ∉ wr → s₂.heap.get? b = some o → h'.get? b = some o) → Q v { s₂ with heap := h', toks := tk }) E s) :
    wpAny (model prog w) A (call (.builtin "max") [x] [("default", dv)]) Q E s := by
  have hname : (toString "max" ++ toString ".loop" : String) = "max.loop" := by decide
  refine wpAny_call (codeAny_call_builtin PySem.F.plain_max PySem.F.entry_max ?_)
  have ha := args_max_d x dv
  simp only [checkBuiltinCall, PySem.F.kind_max]
  have body : wpAny (model prog w) A.in1 (Builtin.«max» ⟨[x], [("default", dv)]⟩) (fun fin s' => match fin with
      | .done f => (match (Except.ok f : Result) with | .ok (.ret v) => Q v s' | .ok _ => False | .error e => E e s')
      | .again c' => c'.quiet = true ∧ codeAny (model prog w) A c' (fun r s' => match r with | .ok (.ret v) => Q v s' | .ok _ => False | .error e => E e s') s') E s := by
    show wpAny _ A.in1 (Builtin.Builtins.bindParams "max" ["key", "default"] 0 ⟨[], [("default", dv)]⟩ >>= _) _ _ s
    refine wpAny_bind (wpAny_of_eq (show Builtin.Builtins.bindParams "max" ["key", "default"] 0 ⟨[], [("default", dv)]⟩ = pure [none, some dv] from by kernel_rfl) ?_)
    refine wpAny_bind (wpAny_pure ?_)
    refine wpAny_bind (wpAny_mono h (fun it s₂ h₂ => ?_) fun _ _ e => e)
    obtain ⟨I, fp, wr, n, P, St, bt, rfl, W, hst, hfp, hn, hcmp, hQ⟩ := h₂
    refine wpAny_bind (wpAny_newObj_type ?_)
    have hSf : s₂.heap.objs.size ∉ fp := fun hm => Nat.lt_irrefl _ (hfp _ hm)
    rw [hname]
    refine wpAny_pure ⟨plainId_quiet PySem.F.plain_max_loop _, max_first_kw W bt hcmp s₂.heap.objs.size hSf hn (W.frame _ _ _ hst fun b _ o e => Heap.get?_push_of_some _ e) (Heap.get?_push_size _ rfl) fun v h' tk hP hk => ?_⟩
    exact hQ v h' tk hP fun b o hbw e => hk b o hbw (Nat.ne_of_lt (Heap.lt_size e)) (Heap.get?_push_of_some _ e)
  cases hsig : Manifest.signature? "max" with
  | none => exact wpAny_pure body
  | some sig =>
    simp only [argsOk, hsig] at ha
    have h2 : Bind.checkArgs "max" sig ⟨[x], [("default", dv)]⟩ = pure () := ha
    show wpAny _ A.in1 (Bind.checkArgs "max" sig ⟨[x], [("default", dv)]⟩) _ _ s
    rw [h2]; exact wpAny_pure body
/- max(filter(None, d.values()), default=..) behind the filter's making -/
theorem max_filt {K : Type} [DecidableEq K] {knd : KeyKind prog w K} {I it d L : Addr} {kvs : List (K × Value)} {ep : Nat} {g : Heap} {m : Str → Option Value} {news : List (Addr × Obj)} {dv : Value} {Q : Value → Shared → Prop} {mx : Int} {t0 : Tok}
    (hh : A.handled = none) (F : Fr g L s.heap m) (N : News g L s.heap news) (hI : @Ne Nat I it) (hd : @Ne Nat d it) (hv : ∀ p ∈ kvs, plainV p.2) (st : filtAt knd I it d kvs ep 0 s.heap)
    (hit : g.get? it = none) (hitL : @Ne Nat it L) (hoff : ∀ p ∈ news, @Ne Nat p.1 it) (hmem : Value.int mx t0 ∈ kvs.map (·.2)) (h0 : mx ≠ 0) (hmx : ∀ n t, Value.int n t ∈ kvs.map (·.2) → n ≤ mx)
    (h : ∀ h' tk t, Fr g L h' m → News g L h' news → Q (.int mx t) { s with heap := h', toks := tk }) :
    wpAny (model prog w) A (call (.builtin "max") [.ref I] [("default", dv)]) Q E s := by
  have W := Walks.filt (prog := prog) (w := w) (A := A.in1) (knd := knd) hh hI hd hv (ep := ep)
  refine call_max_kw (W.self 0 s _ _ st ?_)
  have hints : ∀ v ∈ (kvs.map (·.2)).filter passes, ∃ n t, v = Value.int n t := fun v hv => by
    have := (List.mem_filter.mp hv).2
    cases v <;> first | exact ⟨_, _, rfl⟩ | cases this
  have hin : Value.int mx t0 ∈ (kvs.map (·.2)).filter passes := List.mem_filter.mpr ⟨hmem, by show (mx != 0) = true; simpa using h0⟩
  obtain ⟨num, hnumd⟩ : ∃ num : Nat → Int, num = fun j => match ((kvs.map (·.2)).filter passes)[j]? with | some (.int n _) => n | _ => 0 := ⟨_, rfl⟩
  have hnum : ∀ (i : Nat) (v : Value), ((kvs.map (·.2)).filter passes)[i]? = some v → ∃ t, v = Value.int (num i) t := fun i v e => by
    obtain ⟨n, t, rfl⟩ := hints v (List.mem_of_getElem? e)
    exact ⟨t, by simp only [hnumd, e]⟩
  have hlt : ∀ {b : Addr} {o : Obj}, s.heap.get? b = some o → b < s.heap.objs.size := fun e => Heap.lt_size e
  refine ⟨I, _, _, _, _, _, (fun i j : Nat => decide (num i > num j)), rfl, W, st, ?_, List.length_pos_of_mem hin, CmpOf.ints_gt num hnum, fun v h' tk hP hk => ?_⟩
  · obtain ⟨a, b, i, c, dd, e⟩ := st
    intro q hq
    simp only [List.mem_cons, List.not_mem_nil, or_false] at hq
    rcases hq with rfl | rfl | rfl
    · exact hlt a
    · obtain ⟨o, ho, _⟩ := dd; exact hlt ho
    · exact b.lt_size
  · obtain ⟨t, rfl⟩ := hnum _ v hP
    have hb := argBest_gt num (((kvs.map (·.2)).filter passes).length - 1)
    have hle : num (argBest (fun i j : Nat => decide (num i > num j)) (((kvs.map (·.2)).filter passes).length - 1)) ≤ mx := hmx _ t (List.mem_filter.mp (List.mem_of_getElem? hP)).1
    obtain ⟨j, hj⟩ := List.getElem?_of_mem hin
    have hjl : j < ((kvs.map (·.2)).filter passes).length := by
      have := List.getElem?_eq_some_iff.mp hj
      exact this.1
    have hge : mx ≤ num (argBest (fun i j : Nat => decide (num i > num j)) (((kvs.map (·.2)).filter passes).length - 1)) := by
      have q := hb.2 j (by omega)
      have e : num j = mx := by simp only [hnumd, hj]
      rw [e] at q; exact q
    have heq := Int.le_antisymm hle hge
    rw [heq]
    have hw : ∀ b o, @Ne Nat b it → s.heap.get? b = some o → h'.get? b = some o := fun b o hb e => hk b o (by simpa using hb) e
    exact h h' tk t ⟨F.ns.at' fun o e => hw L o hitL.symm e, fun b o e => hw b o (fun q => by rw [q, hit] at e; cases e) (F.keep b o e), F.above⟩ fun p hp => ⟨hw _ _ (hoff p hp) (N p hp).1, (N p hp).2⟩
end
end
/- R27 -/
section
open PySem PySem.W PySem.Calls PyProof.Rows PySem.Spec
/- a number's numeral -/
noncomputable def dec (n : Nat) : Str := Str.ofString (toString (n : Int))
noncomputable def digs (n : Nat) : List Nat := (Nat.toDigits 10 n).map Char.toNat
theorem toString_nat (n : Nat) : (toString (n : Int) : String) = String.ofList (Nat.toDigits 10 n) := rfl
theorem dec_cps (n : Nat) : (dec n).cps = (digs n).toArray := by
  unfold dec digs
  rw [toString_nat, Str.ofString_eq_toList, String.toList_ofList]
theorem dec_length {n : Nat} (h : 0 < n) : (dec n).length = figs n := by
  show (dec n).cps.size = _
  rw [dec_cps]
  simp [digs, toDigits_length h]
set_option exponentiation.threshold 600 in
theorem log2_of_figs {n : Nat} (h : figs n ≤ 500) : ((n : Int)).natAbs.log2 < 1920 := by
  by_cases h0 : n = 0
  · subst h0; decide
  · rw [Int.natAbs_natCast]
    refine (Nat.log2_lt h0).mpr ?_
    have h1 := figs_lt_pow n
    have h2 : 10 ^ figs n ≤ 10 ^ 500 := Nat.pow_le_pow_right (by decide) h
    have h3 : 10 ^ 500 < 2 ^ 1920 := by decide +kernel
    exact Nat.lt_of_lt_of_le h1 (Nat.le_trans h2 (Nat.le_of_lt h3))
section
variable {prog : Program} {w : World} {A : Around} {E : Value → Shared → Prop} {s : Shared}
theorem str_of_nat {n : Nat} {t : Tok} {Q : Value → Shared → Prop} (hn : figs n ≤ 500) (h : Q (.str (dec n) s.toks) { s with toks := s.toks + 1 }) : wpAny (model prog w) A (call (.type "str") [.int (n : Int) t]) Q E s :=
  PySem.P.str_of_int (log2_of_figs hn) h
theorem getMethod_values {K : Type} [DecidableEq K] {knd : KeyKind prog w K} {g : Heap} {L d : Addr} {m : Str → Option Value} {kvs : List (K × Value)} {ep : Nat} {pl : Sem Bool} {Q : Value × List Value → Shared → Prop} (F : Fr g L s.heap m)
    (hda : ∀ h : Heap, (∀ b o, g.get? b = some o → h.get? b = some o) → Heap.DictAt knd h d kvs ep) (h : Q (.builtin "dict.values", [.ref d]) s) : wpAny (model prog w) A (getMethod (.ref d) "values" pl) Q E s :=
  getMethod_builtin (T := "dict") (name := Str.ofString "values") (id := "dict.values") (hda _ F.keep).dictOf.typeIs PySem.F.plainAttrs_dict PySem.F.slot_dict_values PySem.F.type_dict_values (hda _ F.keep).dictOf.mapOf.noDict h
theorem call_values {K : Type} [DecidableEq K] {knd : KeyKind prog w K} {g : Heap} {L d : Addr} {m : Str → Option Value} {kvs : List (K × Value)} {ep : Nat} {news : List (Addr × Obj)} {Q : Value → Shared → Prop} (F : Fr g L s.heap m) (N : News g L s.heap news)
    (hda : ∀ h : Heap, (∀ b o, g.get? b = some o → h.get? b = some o) → Heap.DictAt knd h d kvs ep) (hds : (d == sysModules) = false)
    (h : ∀ v h', Fr g L h' m → News g L h' ((v, { cls := .type "dict_values", data := .fields #[.ref d] }) :: news) → Q (.ref v) { s with heap := h' }) : wpAny (model prog w) A (call (.builtin "dict.values") [.ref d]) Q E s :=
  call_meetsIn PySem.F.slot_dict_values (hda _ F.keep).dictOf.typeIs PySem.F.entry_dict_values (PySem.F.args_dict_values_1 _) (meets_dict_values knd d hds) ⟨⟨kvs, (hda _ F.keep).dictOf⟩, h _ _ (F.push _) (News.push F N _)⟩
end
end
/- R28 -/
section
open PySem PySem.W PySem.Calls PyProof.Rows PySem.Spec
section
variable {prog : Program} {w : World} {A : Around} {E : Value → Shared → Prop} {s : Shared} {K : Frag} {H₀ : Heap} {p : Program} {loose : List Str} {mg mb : Str → Option Value}
  {R : Result → Shared → Prop} {name qual : Str} {params : Arguments} {body : List Stmt} {scope : Scope} {dV kV doc pm cdv ct oc : Value} {an od : Option Addr} {osl : Array (Option Value)} {f : Addr} {args : Args} {binds : List (Str × Value)} {cl : List (Str × Addr)}
end
/- a made generator that stands ahead of its first yield; what the yield hands out is v; the places ts are turned thereby -/
noncomputable def GenReady (prog : Program) (w : World) (h : Heap) (gens : Array GenState) (ge : Addr) (v : Int) (tb : Addr) : Prop :=
  ∃ (gi : Nat) (env : Env) (e : Expr) (yp pos : Pos) (rest : List Stmt), h.IsGen ge gi ∧ gens[gi]? = some (.fresh (.func (.Expr (.Yield (some e) yp) pos :: rest) env)) ∧ env.scope.isCoroutine = false ∧ interactive env = false ∧
    ∀ (A' : Around) (t : Shared) (Q : Value → Shared → Prop), A'.handled = none → A'.depth < 480 → A'.units < 1800 → t.heap = h → AllBare t.gens →
      (∀ t' tk ps', Kept [tb] t t' → t'.heap.get? tb = some (tabObj ps') → TriplesOk ps'.toList → Q (.int v tk) t') → wpAny (model prog w) A' (eval e env) Q NoE t
end
/- R29 -/
section
open PySem PySem.W PySem.Calls PyProof.Rows PySem.Spec
section
variable {prog : Program} {w : World} {A : Around} {E : Value → Shared → Prop} {s : Shared}
end
section
variable {prog : Program} {w : World} {A : Around} {E : Value → Shared → Prop} {s : Shared} {K : Frag} {h₀ : Heap}
end
end
/- R30 -/
section
open PySem PySem.W PySem.Calls PyProof.Rows PySem.Spec
/- the order of two texts, as the four comparisons tell it -/
noncomputable def ordOf (op : CmpOp) (a b : Str) : Bool := match op with
  | .Lt => decide (a.cps.toList < b.cps.toList)
  | .LtE => !decide (b.cps.toList < a.cps.toList)
  | .Gt => decide (b.cps.toList < a.cps.toList)
  | _ => !decide (a.cps.toList < b.cps.toList)
section
variable {prog : Program} {w : World} {A : Around} {E : Value → Shared → Prop} {s : Shared} {K : Frag} {x C L f : Addr} {h₀ : Heap} {m : Str → Option Value} {ox : Obj} {od : Option Obj} {u : Str} {t : Tok}
theorem strcmp_ref {id nm : String} {ff : List Nat → List Nat → Bool} {Q : Value → Shared → Prop} {name : Str} (hslot : Slot "str" name id) (hb : entryFor table id = some (Builtin.Str.strCompare nm ff)) (ha : argsOk id ⟨[.str u t, .ref x], []⟩)
    (hx : s.heap.get? x = some ox) (hox : ox.data = .plain) (h : Q .notImplemented s) : wpAny (model prog w) A (call (.builtin id) [.str u t, .ref x]) Q E s := by
  refine wpAny_call_entry hslot (typeIs_str s u t) hb ?_ ha
  unfold Builtin.Str.strCompare
  refine wpAny_bind (m := Builtin.Str.strSlot nm 1 _) (wpAny_pure ?_)
  refine wpAny_bind ?_
  show wpAny _ _ (asStr? (.ref x)) _ _ _
  unfold asStr?
  refine wpAny_bind (wpAny_load hx ?_)
  rw [hox]
  refine wpAny_pure ?_
  exact wpAny_bind (wpAny_rule (wpAny_pure ⟨_, rfl, h⟩))
theorem cmp_refl {op : CmpOp} {id nm : String} {ff : List Nat → List Nat → Bool} {Q : Value → Shared → Prop} (hslot : Slot "str" (cmpInfo op).2.1 id) (hb : entryFor table id = some (Builtin.Str.strCompare nm ff)) (ha : argsOk id ⟨[.str u t, .ref x], []⟩)
    (hu : A.units < cLine) (X : K.In s.heap) (I : InstAt s.heap x ox C od) (hox : ox.data = .plain) (hsub : mroIn K C (.type "str") = some false)
    (hs : findIn K (.ref C) (cmpInfo op).2.2 = some (some (.ref f))) (hf : isFn K (.ref f) = true)
    (h : wpAny (model prog w) A (call (.ref f) [.ref x, .str u t]) (W.CmpBack Q) E s) : wpAny (model prog w) A (richCompare op (.str u t) (.ref x)) Q E s := by
  have one : wpAny (model prog w) A (tryCompare (.ref x) (cmpInfo op).2.2 (.str u t)) (fun r s' => ∃ v, r = some v ∧ Q v s') E s := by
    unfold tryCompare
    refine wpAny_bind (ifBound_K X I hs hf (wpAny_mono h (fun v s' hv => ?_) fun _ _ e => e))
    cases v <;> first | exact hv.elim | exact wpAny_pure ⟨_, rfl, hv⟩
  rcases hi : cmpInfo op with ⟨sym, f1, r1⟩
  rw [hi] at hslot one
  have hT := typeIs_str s u t
  simp only [richCompare, hi, hT.oneThing_none]
  refine wpAny_holding (wpAny_bind (wpAny_cRoomFor hu ?_))
  refine wpAny_bind (wpAny_typeOf hT (wpAny_bind (I.type.here ?_)))
  have hne : (Value.type "str" != Value.ref C) = true := rfl
  rw [if_pos hne]
  refine wpAny_bind ((looks_mroIn X hsub).here ?_)
  simp only [Bool.false_eq_true, if_false]
  refine wpAny_bind ?_
  unfold tryCompare
  refine wpAny_bind (wpAny_callSpecialIfBound?_slot hT hslot (strcmp_ref hslot hb ha I.at_ hox ?_))
  refine wpAny_pure ?_
  simp only [Bool.not_false, if_true]
  refine wpAny_bind (wpAny_mono one (fun r s' z => ?_) fun _ _ e => e)
  obtain ⟨v, rfl, hq⟩ := z
  exact wpAny_pure hq
end
end
/- R31 -/
section
open PySem PySem.W PySem.Calls PyProof.Rows PySem.Spec
section
variable {prog : Program} {w : World} {A : Around} {E : Value → Shared → Prop} {s : Shared} {g : Heap} {L a b : Addr} {m : Str → Option Value} {news news' : List (Addr × Obj)} {its new : Array Value} {n k : Nat}
/- a += b, both lists -/
theorem iadd_list {Q : Value → Shared → Prop} (F : Fr g L s.heap m) (N : News g L s.heap news) (hb : s.heap.IsList b new) (U : Upd a (listOf its n) (listOf (its ++ new) (if (its ++ new).size == its.size then n else n + 1)) news news')
    (hz : its.size + new.size ≤ 100000) (h : ∀ h', Fr g L h' m → News g L h' news' → Q (.ref a) { s with heap := h' }) :
    wpAny (model prog w) A (inplaceOp .Add (.ref a) (.ref b)) Q E s := by
  have z := upd_at F N U
  have ha : s.TypeIs (.ref a) "list" := ⟨_, z.1, rfl⟩
  have hT := hb.typeIs
  obtain ⟨ob, hob, hcb, nb, hdb⟩ := id hb
  have hsl : isSeqSlot (some (.builtin "list.__iadd__")) = true := by decide +kernel
  unfold inplaceOp
  refine wpAny_holding ?_
  have hfi : fillsInplaceSlot (.type "list") "add" (Operator.Add == .Add) = pure false := by
    unfold fillsInplaceSlot
    show (typeLookup (.type "list") (dunderI "add") >>= fun fi => pure (fi.isSome && !isSeqSlot fi)) = pure false
    rw [PySem.F.slot_list_iadd.lookup]
    show (pure (true && !isSeqSlot (some (.builtin "list.__iadd__"))) : Sem Bool) = pure false
    rw [hsl]; rfl
  have hsi : seqSlot? (.type "list") (dunderI "add") = pure (some (.builtin "list.__iadd__"))   := PySem.seqSlot_of PySem.F.slot_list_iadd.lookup hsl
  refine wpAny_bind (wpAny_typeOf ha (wpAny_bind (wpAny_of_eq hfi ?_)))
  show wpAny _ A (if false = true then _ else _) Q E s
  rw [if_neg Bool.false_ne_true]
  refine wpAny_bind (wpAny_binaryOp1_none (nm := "add") ha hT noFill_list_add ?_)
  refine wpAny_bind (wpAny_of_eq hsi ?_)
  refine wpAny_bind (wpAny_rule ?_)
  refine wpAny_call_entry PySem.F.slot_list_iadd ha PySem.F.entry_list_iadd ?_ (PySem.F.args_list_iadd_2 _ _)
  show wpAny _ _ (Builtin.List.listExtendWith (.ref a) (.ref b) (.ref a)) _ _ s
  unfold Builtin.List.listExtendWith
  refine wpAny_bind (wpAny_typeOf hT ?_)
  rw [if_pos (by simp)]
  refine wpAny_bind (wpAny_listItems hob hdb (wpAny_bind (wpAny_listItems z.1 rfl ?_)))
  rw [if_neg (by
    have : Builtin.List.listTooLong (its.size + new.size) = false := by
      unfold Builtin.List.listTooLong
      have := sizeLine_eq
      simp only [decide_eq_false_iff_not]; omega
    simp [this])]
  refine wpAny_bind ?_
  show wpAny _ _ (updateSeq a (· ++ new)) _ _ _
  have hz1 : its.size ≤ sizeLine := Nat.le_trans (Nat.le_trans (Nat.le_add_right _ _) hz) (Nat.le_of_ble_eq_true rfl)
  have hz2 : (its ++ new).size ≤ sizeLine := by rw [Array.size_append]; exact Nat.le_trans hz (Nat.le_of_ble_eq_true rfl)
  refine wpAny_updateSeq z.1 rfl (wpAny_pure ⟨_, rfl, ?_⟩) hz1 (Nat.le_succ_of_le hz2)
  have ho : (s.heap.update a (Obj.mapSeq (· ++ new))).get? a = some (listOf (its ++ new) (if (its ++ new).size == its.size then n else n + 1)) := by
    rw [Heap.get?_update_self _ z.1 (by rfl)]
    rfl
  obtain ⟨p, q⟩ := upd_go F N U (Heap.SameBut.update ..) ho
  exact h _ p q
end
end
/- R32 -/
section
open PySem PySem.W PySem.Calls PyProof.Rows PySem.Spec
section
variable {prog : Program} {w : World} {A : Around} {E : Value → Shared → Prop} {s : Shared} {env : Env} {target : Expr} {body orelse : List Stmt} {Q : Flow → Shared → Prop} {g : Heap} {L I l : Addr} {m : Str → Option Value} {news : List (Addr × Obj)} {gf : Obj → List (Addr × Obj)}
end
end
/- R33 -/
section
open PySem PySem.W PySem.Calls PyProof.Rows PySem.Spec
section
variable {prog : Program} {w : World} {A : Around} {E : Value → Shared → Prop} {s : Shared} {l1 l2 : Addr} {n1 n2 : Nat} {b : Bool}
end
end
/- R34 -/
section
open PySem PySem.W PySem.Calls PyProof.Rows PySem.Spec
section
variable {s s' : Shared} {g : Heap} {L t : Addr} {m : Str → Option Value} {news n1 n2 n3 n4 n5 : List (Addr × Obj)} {o o' : Obj}
end
end
/- PL1 -/
section
open PySem PySem.W PySem.Calls PyProof.Rows PySem.Spec
/- the figures, most significant first, as codes -/
theorem digs_lt {n : Nat} (h : n < 10) : digs n = [n + 48] := by
  unfold digs
  rw [Nat.toDigits_of_lt_base h]
  have : ∀ m, m < 10 → (List.map Char.toNat [Nat.digitChar m]) = [m + 48] := by decide
  exact this n h
theorem digs_ge {n : Nat} (h : 10 ≤ n) : digs n = digs (n / 10) ++ [n % 10 + 48] := by
  unfold digs
  rw [Nat.toDigits_of_base_le (by decide) h, List.map_append]
  have : ∀ m, m < 10 → (List.map Char.toNat [Nat.digitChar m]) = [m + 48] := by decide
  rw [this (n % 10) (Nat.mod_lt _ (by decide))]
/- of two numerals of the same length the order is the numbers' -/
theorem lex_append_single {a b : List Nat} {x y : Nat} (hl : a.length = b.length) : (a ++ [x] < b ++ [y]) ↔ (a < b ∨ (a = b ∧ x < y)) := by
  induction a generalizing b with
  | nil =>
    cases b with
    | nil => simp [List.cons_lt_cons_iff]
    | cons c b => simp at hl
  | cons c a ih =>
    cases b with
    | nil => simp at hl
    | cons d b =>
      simp only [List.cons_append, List.cons_lt_cons_iff, ih (by simpa using hl), List.cons.injEq]
      constructor
      · rintro (h | ⟨rfl, h | ⟨rfl, h⟩⟩)
        · exact .inl (.inl h)
        · exact .inl (.inr ⟨rfl, h⟩)
        · exact .inr ⟨⟨rfl, rfl⟩, h⟩
      · rintro ((h | ⟨rfl, h⟩) | ⟨⟨rfl, rfl⟩, h⟩)
        · exact .inl h
        · exact .inr ⟨rfl, .inl h⟩
        · exact .inr ⟨rfl, .inr ⟨rfl, h⟩⟩
theorem digs_length {n : Nat} (h : 0 < n) : (digs n).length = figs n := by
  unfold digs
  rw [List.length_map, toDigits_length h]
theorem digs_inj {a b : Nat} (ha : 0 < a) (hb : 0 < b) (h : digs a = digs b) : a = b := by
  induction a using Nat.strongRecOn generalizing b with
  | _ a ih =>
    by_cases h1 : a < 10
    · by_cases h2 : b < 10
      · rw [digs_lt h1, digs_lt h2] at h
        simp at h; exact h
      · rw [digs_lt h1, digs_ge (by omega)] at h
        have := congrArg List.length h
        rw [List.length_append, digs_length (by omega)] at this
        have := figs_pos (n := b / 10) (by omega)
        simp at *; omega
    · by_cases h2 : b < 10
      · rw [digs_lt h2, digs_ge (by omega)] at h
        have := congrArg List.length h
        rw [List.length_append, digs_length (by omega)] at this
        have := figs_pos (n := a / 10) (by omega)
        simp at *; omega
      · rw [digs_ge (by omega), digs_ge (n := b) (by omega)] at h
        have q := List.append_inj' h rfl
        have := ih (a / 10) (by omega) (by omega) (by omega) q.1
        have := q.2
        simp at this
        omega
theorem digs_lt_same {a b : Nat} (ha : 0 < a) (hb : 0 < b) (hl : figs a = figs b) : (digs a < digs b) ↔ a < b := by
  induction a using Nat.strongRecOn generalizing b with
  | _ a ih =>
    by_cases h1 : a < 10
    · have e1 : figs a = 1 := by rw [figs_pos ha, show a / 10 = 0 by omega, figs_zero]
      have h2 : b < 10 := by
        rcases Nat.lt_or_ge b 10 with h | h
        · exact h
        · have := figs_pos hb; have := figs_pos (n := b / 10) (by omega); omega
      rw [digs_lt h1, digs_lt h2]
      simp [List.cons_lt_cons_iff]
    · have h2 : 10 ≤ b := by
        rcases Nat.lt_or_ge b 10 with h | h
        · have e2 : figs b = 1 := by rw [figs_pos hb, show b / 10 = 0 by omega, figs_zero]
          have := figs_pos ha; have := figs_pos (n := a / 10) (by omega); omega
        · exact h
      have f1 := figs_pos ha
      have f2 := figs_pos hb
      have hl' : figs (a / 10) = figs (b / 10) := by omega
      rw [digs_ge (by omega), digs_ge h2, lex_append_single (by rw [digs_length (by omega), digs_length (by omega), hl']), ih (a / 10) (by omega) (by omega) (by omega) hl']
      constructor
      · rintro (h | ⟨h, h'⟩)
        · omega
        · have := digs_inj (by omega) (by omega) h
          omega
      · intro h
        by_cases hq : a / 10 < b / 10
        · exact .inl hq
        · have e : a / 10 = b / 10 := by omega
          refine .inr ⟨by rw [e], by omega⟩
theorem lt_prefix {u v r : List Nat} (hl : u.length = v.length) : (u ++ r < v) ↔ u < v := by
  induction u generalizing v with
  | nil =>
    cases v with
    | nil => simp
    | cons c v => simp at hl
  | cons c u ih =>
    cases v with
    | nil => simp at hl
    | cons d v => simp only [List.cons_append, List.cons_lt_cons_iff, ih (by simpa using hl)]
theorem digs_prefix {k n : Nat} (h : 0 < n / 10 ^ k) : ∃ r, digs n = digs (n / 10 ^ k) ++ r ∧ r.length = k := by
  induction k generalizing n with
  | zero => exact ⟨[], by simp, rfl⟩
  | succ k ih =>
    have e : n / 10 ^ (k + 1) = n / 10 / 10 ^ k := by rw [Nat.pow_succ, Nat.mul_comm, Nat.div_div_eq_div_mul]
    rw [e] at h ⊢
    obtain ⟨r, h1, h2⟩ := ih h
    have hn : 10 ≤ n := by
      rcases Nat.lt_or_ge n 10 with q | q
      · rw [Nat.div_eq_of_lt q, Nat.zero_div] at h; omega
      · exact q
    exact ⟨r ++ [n % 10 + 48], by rw [digs_ge hn, h1, List.append_assoc], by simp [h2]⟩
theorem figs_div {k n : Nat} (h : 0 < n / 10 ^ k) : figs (n / 10 ^ k) + k = figs n := by
  obtain ⟨r, h1, h2⟩ := digs_prefix h
  have hn : 0 < n := by
    rcases Nat.eq_zero_or_pos n with q | q
    · rw [q, Nat.zero_div] at h; omega
    · exact q
  have := congrArg List.length h1
  rw [List.length_append, digs_length h, digs_length hn, h2] at this
  exact this.symm
end
/- R35 -/
section
open PySem PySem.W PySem.Calls PyProof.Rows PySem.Spec
theorem ext_cps {a b : Str} (h : a.cps = b.cps) : a = b := by
  cases a; cases b; cases h; rfl
theorem app_as (x y z : Str) : (x ++ y ++ z : Str) = x ++ (y ++ z) := by
  apply ext_cps
  show x.cps ++ y.cps ++ z.cps = x.cps ++ (y.cps ++ z.cps)
  rw [Array.append_assoc]
theorem digs_codes {n : Nat} : ∀ c ∈ digs n, 48 ≤ c ∧ c ≤ 57 := by
  induction n using Nat.strongRecOn with
  | _ n ih =>
    by_cases h : n < 10
    · rw [digs_lt h]
      intro c hc
      simp at hc
      omega
    · rw [digs_ge (by omega)]
      intro c hc
      rcases List.mem_append.mp hc with hc | hc
      · exact ih (n / 10) (by omega) c hc
      · simp at hc; omega
theorem dec_ok (n : Nat) : PyData.strOk (dec n) = true := by
  unfold PyData.strOk
  rw [dec_cps, List.all_toArray]
  rw [List.all_eq_true]
  intro c hc
  have := digs_codes c hc
  simp; omega
theorem blank_ok : PyData.strOk (Str.ofString " ") = true := by decide +kernel
end
/- R36 -/
section
open PySem PySem.W PySem.Calls PyProof.Rows PySem.Spec
end
/- R37 -/
section
open PySem PySem.W PySem.Calls PyProof.Rows PySem.Spec
section
variable {α β : Type} {R : α → β → Prop}
theorem two_append {a c : List α} {b d : List β} (x : Paired R a b) (y : Paired R c d) : Paired R (a ++ c) (b ++ d) := by
  induction x with
  | nil => exact y
  | cons h _ ih => exact .cons h ih
theorem two_take {a : List α} {b : List β} (x : Paired R a b) : ∀ k, Paired R (a.take k) (b.take k) := by
  induction x with
  | nil => intro k; simpa using Paired.nil
  | cons h _ ih =>
    intro k
    cases k with
    | zero => exact .nil
    | succ k => exact .cons h (ih k)
theorem two_get {a : List α} {b : List β} (x : Paired R a b) : ∀ {i : Nat} {v : α} {n : β}, a[i]? = some v → b[i]? = some n → R v n := by
  induction x with
  | nil => intro i v n e; simp at e
  | cons h _ ih =>
    intro i v n e f
    cases i with
    | zero => simp at e f; subst e; subst f; exact h
    | succ i => exact ih (by simpa using e) (by simpa using f)
theorem two_has {a : List α} {b : List β} (x : Paired R a b) {i : Nat} (h : i < b.length) : ∃ v n, a[i]? = some v ∧ b[i]? = some n ∧ R v n := by
  have hl := x.length
  have h1 : i < a.length := by omega
  exact ⟨a[i], b[i], List.getElem?_eq_getElem h1, List.getElem?_eq_getElem h, two_get x (List.getElem?_eq_getElem h1) (List.getElem?_eq_getElem h)⟩
end
/- tuples and lists alone -/
noncomputable def Tups (tups : List (Addr × Obj)) : Prop := ∀ p ∈ tups, p.2.cls = .type "tuple" ∨ p.2.cls = .type "list"
noncomputable def TupIn (tups : List (Addr × Obj)) (v : Value) (n : Nat) : Prop := ∃ a t u, v = .ref a ∧ (a, tupOf [.str (Str.ofString "") t, .str (dec n) u]) ∈ tups
noncomputable abbrev PartsIn (tups : List (Addr × Obj)) (its : List Value) (ns : List Nat) : Prop := Paired (TupIn tups) its ns
noncomputable abbrev NatsAre (vs : List Value) (ns : List Nat) : Prop := Paired (fun v n => ∃ t, v = .int ((n : Nat) : Int) t) vs ns
noncomputable abbrev pairD (n : Nat) : PyData := .tuple [.str (Str.ofString ""), .str (dec n)]
noncomputable def PairAt (h : Heap) (v : Value) (n : Nat) : Prop := ∃ a o t u k, v = .ref a ∧ h.get? a = some o ∧ o.cls = .type "tuple" ∧ o.data = .seq [.str (Str.ofString "") t, .str (dec n) u].toArray k
section
variable {prog : Program} {w : World} {A : Around} {E : Value → Shared → Prop} {s : Shared} {l1 l2 : Addr} {n1 n2 : Nat} {i1 i2 : Array Value} {ns : List Nat}
end
end
/- R38 -/
section
open PySem PySem.W PySem.Calls PyProof.Rows PySem.Spec
theorem pick_from {its : Array Value} {x : Int} {k : Nat} (h : x = (k : Int)) : (slicePick its (some x) none none).toList = its.toList.drop k := by
  subst h
  have e : sliceBounds (some (k : Int)) none none its.size = (((min k its.size : Nat) : Int), ((its.size : Nat) : Int), 1) := by
    simp only [sliceBounds, Option.getD_none, show (1 : Int) > 0 by decide, if_true, if_neg (Int.not_lt.mpr (Int.natCast_nonneg k))]
    rw [clip_mm]
  rw [kmk_pick_nat _ e]
  show (its.toList.drop (min k its.size)).take (its.size - min k its.size) = _
  rw [← Array.length_toList, kmk_drop_min, List.take_of_length_le (by rw [List.length_drop]; exact Nat.sub_le_sub_left (Nat.min_le_left _ _) _)]
theorem pick_upto {its : Array Value} {x : Int} {k : Nat} (h : x = (k : Int)) : (slicePick its none (some x) none).toList = its.toList.take k := by
  subst h
  have e : sliceBounds none (some (k : Int)) none its.size = (((0 : Nat) : Int), ((min k its.size : Nat) : Int), 1) := by
    simp only [sliceBounds, Option.getD_none, show (1 : Int) > 0 by decide, if_true, if_neg (Int.not_lt.mpr (Int.natCast_nonneg k))]
    rw [clip_mm]
    rfl
  rw [kmk_pick_nat _ e]
  show (its.toList.drop 0).take (min k its.size - 0) = _
  rw [List.drop_zero, Nat.sub_zero, ← Array.length_toList, kmk_take_min]
section
variable {prog : Program} {w : World} {A : Around} {E : Value → Shared → Prop} {s : Shared} {env : Env} {target : Expr} {body orelse : List Stmt} {Q : Flow → Shared → Prop} {g : Heap} {L I l : Addr}
/- a for over a list that lies in the ledger, by an invariant -/
theorem for_list_invN {items : Array Value} {R : Flow → Shared → Prop} (hh : A.handled = none) (J : Nat → (Str → Option Value) → List (Addr × Obj) → Shared → Prop)
    (hJ : ∀ i m news s h', J i m news s → J i m news { s with heap := h' })
    (hl : ∀ i m news s h, J i m news s → News g L h news → h.IsList l items)
    (turn : ∀ i v m news s tk I oI, items[i]? = some v → J i m news s → LIter oI l (i + 1) → Fr g L s.heap m → News g L s.heap ((I, oI) :: news) → (∀ p ∈ news, @Ne Nat p.1 I) →
      wpAny (model prog w) A (assign target env v) (fun _ s₂ => wpAny (model prog w) A (execs body env) (fun f s₃ => match f with
            | .next => Hold (∃ m' news', J (i + 1) m' news' s₃ ∧ Fr g L s₃.heap m' ∧ News g L s₃.heap ((I, oI) :: news') ∧ (∀ p ∈ news', @Ne Nat p.1 I))
            | .cont => Hold (∃ m' news', J (i + 1) m' news' s₃ ∧ Fr g L s₃.heap m' ∧ News g L s₃.heap ((I, oI) :: news') ∧ (∀ p ∈ news', @Ne Nat p.1 I))
            | .brk => R .next s₃
            | .ret v => R (.ret v) s₃) NoE s₂) NoE { s with toks := tk })
    (done : ∀ m news s, J items.size m news s → Fr g L s.heap m → News g L s.heap news → wpAny (model prog w) A (execs orelse env) R NoE s)
    {oI : Obj} {i : Nat} {m : Str → Option Value} {news : List (Addr × Obj)} (hi : i ≤ items.size) (hI : LIter oI l i) (h : J i m news s) (F : Fr g L s.heap m) (N : News g L s.heap ((I, oI) :: news)) (hoff : ∀ p ∈ news, @Ne Nat p.1 I) :
    codeAny (model prog w) A (.forLoop target (.ref I) body orelse env) (LoopR R) s := by
  have key : ∀ k i (s : Shared) oI m news, items.size - i = k → i ≤ items.size → LIter oI l i → J i m news s → Fr g L s.heap m → News g L s.heap ((I, oI) :: news) → (∀ p ∈ news, @Ne Nat p.1 I) →
      codeAny (model prog w) A (.forLoop target (.ref I) body orelse env) (LoopR R) s := by
    intro k
    induction k with
    | zero =>
      intro i s oI m news hk hi hI h F N hoff
      have hin : i = items.size := by omega
      subst hin
      refine for_list_done hh F N hoff hI (hl _ _ _ _ _ h fun p hp => N p (.tail _ hp)) (by simp) fun h' F' N' x => ?_
      exact done m news _ (hJ _ _ _ _ _ h) F' N'
    | succ k ih =>
      intro i s oI m news hk hi hI h F N hoff
      have hlt : i < items.size := by omega
      have hx : items[i]? = some items[i] := Array.getElem?_eq_getElem hlt
      refine for_list_item F N hoff hI (hl _ _ _ _ _ h fun p hp => N p (.tail _ hp)) hx fun h' oI' hI' F' N' x => ?_
      refine wpAny_mono (turn i _ m news { s with heap := h' } _ I oI' hx (hJ _ _ _ _ _ h) hI' F' N' hoff) (fun _ s₂ h₂ => wpAny_mono h₂ (fun f s₃ h₃ => ?_) fun _ _ e => e) fun _ _ e => e
      cases f with
      | next => obtain ⟨m', news', a, b, c, d⟩ := h₃.out; exact ih (i + 1) s₃ oI' m' news' (by omega) hlt hI' a b c d
      | cont => obtain ⟨m', news', a, b, c, d⟩ := h₃.out; exact ih (i + 1) s₃ oI' m' news' (by omega) hlt hI' a b c d
      | brk => exact h₃
      | ret v => exact h₃
  exact key _ i s oI m news rfl hi hI h F N hoff
theorem item_list {value slice : Expr} {its : Array Value} {x : Int} {k : Nat} {u : Tok} {v : Value} {Q : Value → Shared → Prop} (hl : s.heap.IsList l its) (hk : x = (k : Int)) (hb : k < 1000) (hx : its.toList[k]? = some v) (h : Q v s)
    (hs : subscripted slice false (.ref l) (.int x u) = operate [.ref l, .int x u] (getItem (.ref l) (.int x u)) := by with_unfolding_all rfl) :
    wpAny (model prog w) A (subscriptTail value slice (.ref l) (.int x u)) Q E s := by
  subst hk
  have h63 : (k : Int) < 2 ^ 63 := Int.lt_trans (by omega : (k : Int) < 1000) (by decide)
  exact tail_any hl.typeIs slot_list_getitem.lookup (wpAny_getItem_list hl (by omega) h63 (by simpa using hx) h) hs
end
end
/- S1 -/
section
open PySem PySem.W PySem.Calls PyProof.Rows
/- what the sort answers when its questions are answered by lt -/
noncomputable def kev {α : Type} (lt : Nat → Nat → Bool) : KasT α → α
  | .ret a => a
  | .ask i j k => kev lt (k (lt i j))
theorem kev_bind {α β : Type} {lt : Nat → Nat → Bool} {f : α → KasT β} : ∀ t : KasT α, kev lt (t.bind f) = kev lt (f (kev lt t))
  | .ret _ => rfl
  | .ask i j k => kev_bind (k (lt i j))
section
variable {n : Nat} {lt : Nat → Nat → Bool}
structure Strict (n : Nat) (lt : Nat → Nat → Bool) : Prop where
  tr : ∀ a b c, a < n → b < n → c < n → lt a b = true → lt b c = true → lt a c = true
  as : ∀ a b, a < n → b < n → lt a b = true → lt b a = false
  tot : ∀ a b, a < n → b < n → a ≠ b → lt a b = true ∨ lt b a = true
noncomputable abbrev at' (p : Array Nat) (k : Nat) : Nat := p.getD k 0
noncomputable def PermN (n : Nat) (p : Array Nat) : Prop := p.Perm (List.range n).toArray
theorem PermN.size {p : Array Nat} (h : PermN n p) : p.size = n := by rw [Array.Perm.size_eq h]; simp
theorem PermN.lim {p : Array Nat} (h : PermN n p) {k : Nat} (hk : k < n) : at' p k < n := by
  have hk' : k < p.size := by rw [h.size]; exact hk
  have e : at' p k = p[k] := by simp [at', Array.getD, hk']
  have hm : p[k] ∈ p.toList := by simp
  have := (Array.perm_iff_toList_perm.mp h).mem_iff.mp hm
  rw [e]
  simpa using this
theorem PermN.ne {p : Array Nat} (h : PermN n p) {i j : Nat} (hi : i < n) (hj : j < n) (hij : i ≠ j) : at' p i ≠ at' p j := by
  have hi' : i < p.toList.length := by rw [Array.length_toList, h.size]; exact hi
  have hj' : j < p.toList.length := by rw [Array.length_toList, h.size]; exact hj
  have nd : p.toList.Nodup := ((Array.perm_iff_toList_perm.mp h).nodup_iff).mpr (by simpa using List.nodup_range)
  have hi2 : i < p.size := by rw [h.size]; exact hi
  have hj2 : j < p.size := by rw [h.size]; exact hj
  have e1 : at' p i = p.toList[i] := by simp [at', Array.getD, hi2]
  have e2 : at' p j = p.toList[j] := by simp [at', Array.getD, hj2]
  rw [e1, e2]
  intro e
  exact hij ((List.getElem_inj nd).mp e)
theorem at_rev {p : Array Nat} {m : Nat} (hm : m ≤ p.size) (k : Nat) : at' (kas_rev p 0 m) k = if k < m then at' p (m - 1 - k) else at' p k := by
  have e := getElem?_mirror_all (xs := p) (i := 0) hm k
  simp only [at', Array.getD_eq_getD_getElem?]
  unfold kas_rev
  rw [e]
  by_cases h : k < m
  · rw [if_pos ⟨Nat.zero_le _, h⟩, if_pos h, Nat.zero_add]
  · rw [if_neg (fun q => h q.2), if_neg h]
theorem at_bubble {p : Array Nat} {k l : Nat} (hk : k < p.size) (hl : l ≤ k) (i : Nat) : at' (bubble p k (k - l)) i = if i = l then at' p k else if l < i ∧ i ≤ k then at' p (i - 1) else at' p i := by
  have e := getElem?_bubble hk (k - l) (by omega) i
  simp only [at', Array.getD_eq_getD_getElem?]
  rw [e, show k - (k - l) = l by omega]
  by_cases h1 : i = l
  · rw [if_pos h1, if_pos h1]
  · rw [if_neg h1, if_neg h1]
    by_cases h2 : l < i ∧ i ≤ k
    · rw [if_pos h2, if_pos h2]
    · rw [if_neg h2, if_neg h2]
noncomputable def Srt (lt : Nat → Nat → Bool) (p : Array Nat) (k : Nat) : Prop := ∀ i j, i < j → j < k → lt (at' p i) (at' p j) = true
theorem Srt.more (T : Strict n lt) {p : Array Nat} (P : PermN n p) {k : Nat} (h : Srt lt p k) (hk : k < n) (h0 : 0 < k) (c : lt (at' p k) (at' p (k - 1)) = false) : Srt lt p (k + 1) := by
  have c' : lt (at' p (k - 1)) (at' p k) = true := by
    rcases T.tot _ _ (P.lim hk) (P.lim (show k - 1 < n by omega)) (P.ne hk (by omega) (by omega)) with e | e
    · rw [e] at c; cases c
    · exact e
  intro i j hij hj
  by_cases e : j < k
  · exact h i j hij e
  · obtain rfl : j = k := by omega
    by_cases e2 : i = j - 1
    · rw [e2]; exact c'
    · exact T.tr _ _ _ (P.lim (by omega)) (P.lim (by omega)) (P.lim hk) (h i (j - 1) (by omega) (by omega)) c'
theorem asc_ok (T : Strict n lt) {p : Array Nat} (P : PermN n p) : ∀ (f k : Nat), 0 < k → k + f = n → Srt lt p k →
    k ≤ kev lt (kas_asc p f k) ∧ kev lt (kas_asc p f k) ≤ n ∧ Srt lt p (kev lt (kas_asc p f k)) ∧ (kev lt (kas_asc p f k) < n → lt (at' p (kev lt (kas_asc p f k))) (at' p (kev lt (kas_asc p f k) - 1)) = true)
  | 0, k, _, hf, h => ⟨Nat.le_refl _, by simp only [kas_asc, kev]; omega, h, fun q => by simp only [kas_asc, kev] at q; omega⟩
  | f + 1, k, h0, hf, h => by
    simp only [kas_asc, kev]
    cases c : lt (p.getD k 0) (p.getD (k - 1) 0) with
    | true => exact ⟨Nat.le_refl _, by simp only [if_true, kev]; omega, h, fun _ => c⟩
    | false =>
      simp only [Bool.false_eq_true, if_false]
      obtain ⟨a, b, d, e⟩ := asc_ok T P f (k + 1) (by omega) (by omega) (h.more T P (by omega) h0 c)
      exact ⟨by omega, b, d, e⟩
noncomputable def Dsc (lt : Nat → Nat → Bool) (p : Array Nat) (k : Nat) : Prop := ∀ i j, i < j → j < k → lt (at' p j) (at' p i) = true
theorem Dsc.more (T : Strict n lt) {p : Array Nat} (P : PermN n p) {k : Nat} (h : Dsc lt p k) (hk : k < n) (h0 : 0 < k) (c : lt (at' p k) (at' p (k - 1)) = true) : Dsc lt p (k + 1) := by
  intro i j hij hj
  by_cases e : j < k
  · exact h i j hij e
  · obtain rfl : j = k := by omega
    by_cases e2 : i = j - 1
    · rw [e2]; exact c
    · exact T.tr _ _ _ (P.lim hk) (P.lim (by omega)) (P.lim (by omega)) c (h i (j - 1) (by omega) (by omega))
theorem desc_ok (T : Strict n lt) {p : Array Nat} (P : PermN n p) : ∀ (f k : Nat), 0 < k → k + f = n → Dsc lt p k →
    ∃ m, kev lt (kas_desc f p k 0) = (p, m, 0) ∧ k ≤ m ∧ m ≤ n ∧ Dsc lt p m
  | 0, k, _, hf, h => ⟨k, rfl, Nat.le_refl _, by omega, h⟩
  | f + 1, k, h0, hf, h => by
    simp only [kas_desc, kev]
    cases c : lt (p.getD k 0) (p.getD (k - 1) 0) with
    | true =>
      simp only [if_true, Nat.lt_irrefl, gt_iff_lt, if_false]
      obtain ⟨m, a, b, d, e⟩ := desc_ok T P f (k + 1) (by omega) (by omega) (h.more T P (by omega) h0 c)
      exact ⟨m, a, by omega, d, e⟩
    | false =>
      simp only [Bool.false_eq_true, if_false, kev]
      have c' : lt (p.getD (k - 1) 0) (p.getD k 0) = true := by
        rcases T.tot _ _ (P.lim (show k < n by omega)) (P.lim (show k - 1 < n by omega)) (P.ne (by omega) (by omega) (by omega)) with e | e
        · rw [show lt (p.getD k 0) (p.getD (k - 1) 0) = true from e] at c; cases c
        · exact e
      rw [c']
      exact ⟨k, by simp only [if_true, kev], Nat.le_refl _, by omega, h⟩
theorem rev_perm {p : Array Nat} (P : PermN n p) (m : Nat) : PermN n (kas_rev p 0 m) := Array.Perm.trans (mirror_perm _ _ _ _) P
theorem rev_srt {p : Array Nat} (P : PermN n p) {m : Nat} (hm : m ≤ n) (h : Dsc lt p m) : Srt lt (kas_rev p 0 m) m := fun i j hij hj => by
  rw [at_rev (by rw [P.size]; exact hm), at_rev (by rw [P.size]; exact hm), if_pos (by omega), if_pos hj]
  exact h _ _ (by omega) (by omega)
theorem count_ok (T : Strict n lt) {p : Array Nat} (P : PermN n p) (hn : 0 < n) : 0 < (kev lt (kas_count n p)).1 ∧ (kev lt (kas_count n p)).1 ≤ n ∧ PermN n (kev lt (kas_count n p)).2 ∧ Srt lt (kev lt (kas_count n p)).2 (kev lt (kas_count n p)).1 := by
  unfold kas_count
  rw [kev_bind]
  obtain ⟨a, b, c, d⟩ := asc_ok T P (n - 1) 1 (by omega) (by omega) (fun i j hij hj => by omega)
  revert a b c d
  generalize kev lt (kas_asc p (n - 1) 1) = m
  intro a b c d
  by_cases e1 : m = n
  · subst e1
    simp only [beq_self_eq_true, if_true, kev]
    exact ⟨hn, Nat.le_refl _, P, c⟩
  · have e1' : (m == n) = false := by simpa using e1
    simp only [e1', Bool.false_eq_true, if_false]
    by_cases e2 : m > 1
    · rw [if_pos e2]
      simp only [kev]
      rw [show lt (p.getD 0 0) (p.getD (m - 1) 0) = true from c 0 (m - 1) (by omega) (by omega)]
      simp only [if_true, kev]
      exact ⟨by omega, b, P, c⟩
    · rw [if_neg e2]
      obtain rfl : m = 1 := by omega
      have d' := d (by omega)
      unfold kas_descPart
      rw [kev_bind]
      obtain ⟨m, q1, q2, q3, q4⟩ := desc_ok T P (n - (1 + 1)) (1 + 1) (by omega) (by omega) (fun i j hij hj => by
        obtain rfl : i = 0 := by omega
        obtain rfl : j = 1 := by omega
        exact d')
      rw [q1]
      simp only [Nat.lt_irrefl, gt_iff_lt, if_false]
      unfold kas_tail3
      rw [kev_bind]
      obtain ⟨a', b', c', _⟩ := asc_ok T (rev_perm P m) (n - m) m (by omega) (by omega) (rev_srt P q3 q4)
      exact ⟨by simp only [kev]; omega, b', rev_perm P m, c'⟩
theorem place_ok (T : Strict n lt) {p : Array Nat} (P : PermN n p) {k : Nat} (hk : k < n) (hs : Srt lt p k) : ∀ (f l r : Nat), l ≤ r → r ≤ k → r - l ≤ f → (∀ i, i < l → lt (at' p i) (at' p k) = true) → (∀ i, r ≤ i → i < k → lt (at' p k) (at' p i) = true) →
    kev lt (kas_place p k f l r) ≤ k ∧ (∀ i, i < kev lt (kas_place p k f l r) → lt (at' p i) (at' p k) = true) ∧ (∀ i, kev lt (kas_place p k f l r) ≤ i → i < k → lt (at' p k) (at' p i) = true)
  | 0, l, r, h1, h2, h3, a, b => by
    simp only [kas_place, kev]
    exact ⟨by omega, a, fun i hi => b i (by omega)⟩
  | f + 1, l, r, h1, h2, h3, a, b => by
    simp only [kas_place]
    by_cases e : l ≥ r
    · rw [if_pos e]
      simp only [kev]
      exact ⟨by omega, a, fun i hi => b i (by omega)⟩
    · rw [if_neg e]
      simp only [kev]
      have hm1 : l ≤ (l + r) / 2 := by omega
      have hm2 : (l + r) / 2 < r := by omega
      have hm3 : r - l ≤ f + 1 := h3
      clear h3
      generalize (l + r) / 2 = mid at *
      have hm : mid < k := Nat.lt_of_lt_of_le hm2 h2
      have h4 : mid - l ≤ f := by omega
      have h5 : r - (mid + 1) ≤ f := by omega
      cases c : lt (p.getD k 0) (p.getD mid 0) with
      | true =>
        simp only [if_true]
        refine place_ok T P hk hs f l mid hm1 (Nat.le_of_lt hm) h4 a fun i hi hik => ?_
        rcases Nat.lt_or_eq_of_le hi with q | rfl
        · exact T.tr _ _ _ (P.lim hk) (P.lim (Nat.lt_trans hm hk)) (P.lim (Nat.lt_trans hik hk)) c (hs _ _ q hik)
        · exact c
      | false =>
        simp only [Bool.false_eq_true, if_false]
        have c' : lt (at' p mid) (at' p k) = true := by
          rcases T.tot _ _ (P.lim hk) (P.lim (Nat.lt_trans hm hk)) (P.ne hk (Nat.lt_trans hm hk) (Nat.ne_of_gt hm)) with e | e
          · rw [show lt (p.getD k 0) (p.getD mid 0) = true from e] at c; cases c
          · exact e
        refine place_ok T P hk hs f (mid + 1) r hm2 h2 h5 (fun i hi => ?_) b
        rcases Nat.lt_or_eq_of_le (Nat.le_of_lt_succ hi) with q | rfl
        · exact T.tr _ _ _ (P.lim (Nat.lt_trans (Nat.lt_trans q hm) hk)) (P.lim (Nat.lt_trans hm hk)) (P.lim hk) (hs _ _ q hm) c'
        · exact c'
theorem bubble_srt {p : Array Nat} (P : PermN n p) {k l : Nat} (hk : k < n) (hl : l ≤ k) (hs : Srt lt p k) (a : ∀ i, i < l → lt (at' p i) (at' p k) = true) (b : ∀ i, l ≤ i → i < k → lt (at' p k) (at' p i) = true) : Srt lt (bubble p k (k - l)) (k + 1) := fun i j hij hj => by
  have hz : k < p.size := by rw [P.size]; exact hk
  have hj := Nat.le_of_lt_succ hj
  rw [at_bubble hz hl, at_bubble hz hl]
  rcases Nat.lt_trichotomy i l with h1 | rfl | h1
  · rw [if_neg (Nat.ne_of_lt h1), if_neg (fun e => Nat.lt_asymm h1 e.1)]
    rcases Nat.lt_trichotomy j l with h2 | rfl | h2
    · rw [if_neg (Nat.ne_of_lt h2), if_neg (fun e => Nat.lt_asymm h2 e.1)]
      exact hs _ _ hij (Nat.lt_of_lt_of_le h2 hl)
    · rw [if_pos rfl]
      exact a _ h1
    · rw [if_neg (Nat.ne_of_gt h2), if_pos ⟨h2, hj⟩]
      exact hs _ _ (Nat.lt_of_lt_of_le h1 (Nat.le_sub_one_of_lt h2)) (Nat.sub_one_lt_of_le (Nat.zero_lt_of_lt h2) hj)
  · rw [if_pos rfl, if_neg (Nat.ne_of_gt hij), if_pos ⟨hij, hj⟩]
    exact b _ (Nat.le_sub_one_of_lt hij) (Nat.sub_one_lt_of_le (Nat.zero_lt_of_lt hij) hj)
  · have h2 := Nat.lt_trans h1 hij
    rw [if_neg (Nat.ne_of_gt h1), if_pos ⟨h1, Nat.le_trans (Nat.le_of_lt hij) hj⟩, if_neg (Nat.ne_of_gt h2), if_pos ⟨h2, hj⟩]
    exact hs _ _ (Nat.sub_lt_sub_right (Nat.succ_le_of_lt (Nat.zero_lt_of_lt h1)) hij) (Nat.sub_one_lt_of_le (Nat.zero_lt_of_lt h2) hj)
theorem bin_ok (T : Strict n lt) : ∀ (f : Nat) (p : Array Nat) (k : Nat), PermN n p → k + f = n → Srt lt p k → PermN n (kev lt (kas_bin f p k)) ∧ Srt lt (kev lt (kas_bin f p k)) n
  | 0, p, k, P, hk, hs => by
    obtain rfl : k = n := by omega
    exact ⟨P, hs⟩
  | f + 1, p, k, P, hk, hs => by
    simp only [kas_bin]
    rw [kev_bind]
    obtain ⟨a, b, c⟩ := place_ok T P (show k < n by omega) hs k 0 k (Nat.zero_le _) (Nat.le_refl _) (by omega) (fun i hi => by omega) (fun i hi hk => by omega)
    exact bin_ok T f _ (k + 1) (Array.Perm.trans (bubble_perm _ _ _) P) (by omega) (bubble_srt P (by omega) a hs b c)
theorem sort_ok (T : Strict n lt) (hn : 0 < n) : PermN n (kev lt (kas_sort n)) ∧ Srt lt (kev lt (kas_sort n)) n := by
  unfold kas_sort
  rw [kev_bind]
  obtain ⟨a, b, c, d⟩ := count_ok T (p := (List.range n).toArray) (Array.Perm.refl _) hn
  revert a b c d
  generalize kev lt (kas_count n (List.range n).toArray) = r
  intro a b c d
  have hm : max r.1 1 = r.1 := by omega
  rw [hm]
  split
  · exact bin_ok T _ _ _ c (by omega) d
  · simp only [kev]
    obtain h : r.1 = n := by omega
    rw [h] at d
    exact ⟨c, d⟩
end
/- every question is about two of n items -/
noncomputable def KasP {α : Type} (n : Nat) (R : α → Prop) : KasT α → Prop
  | .ret a => R a
  | .ask i j k => i < n ∧ j < n ∧ ∀ b, KasP n R (k b)
theorem KasP.bind {α β : Type} {n : Nat} {R : α → Prop} {R' : β → Prop} {f : α → KasT β} : ∀ {t : KasT α}, KasP n R t → (∀ a, R a → KasP n R' (f a)) → KasP n R' (t.bind f)
  | .ret _, h, hf => hf _ h
  | .ask _ _ _, h, hf => ⟨h.1, h.2.1, fun b => KasP.bind (h.2.2 b) hf⟩
noncomputable def Small (n : Nat) (p : Array Nat) : Prop := 0 < n ∧ ∀ x ∈ p.toList, x < n
section
variable {n : Nat} {p : Array Nat}
theorem Small.get (h : Small n p) (k : Nat) : p.getD k 0 < n := by
  by_cases hk : k < p.size
  · have e : p.getD k 0 = p[k] := by simp [Array.getD, hk]
    rw [e]
    exact h.2 _ (by simp)
  · have e : p.getD k 0 = 0 := by simp [Array.getD, hk]
    rw [e]
    exact h.1
theorem Small.perm {q : Array Nat} (h : Small n p) (e : q.Perm p) : Small n q := ⟨h.1, fun x hx => h.2 x ((Array.perm_iff_toList_perm.mp e).mem_iff.mp hx)⟩
theorem asc_in (h : Small n p) : ∀ f k, KasP n (fun _ => True) (kas_asc p f k)
  | 0, _ => trivial
  | f + 1, k => ⟨h.get _, h.get _, fun b => by
    cases b with
    | true => exact trivial
    | false => exact asc_in h f (k + 1)⟩
theorem desc_in : ∀ f {p : Array Nat} k q, Small n p → KasP n (fun r => Small n r.1) (kas_desc f p k q)
  | 0, _, _, _, h => h
  | f + 1, p, k, q, h => ⟨h.get _, h.get _, fun b => by
    cases b with
    | true =>
      show KasP n _ (if q > 0 then kas_desc f (kas_rev p (k - (q + 1)) k) (k + 1) 0 else kas_desc f p (k + 1) 0)
      split
      · exact desc_in f (k + 1) 0 (h.perm (mirror_perm _ _ _ _))
      · exact desc_in f (k + 1) 0 h
    | false =>
      show KasP n _ (KasT.ask (p.getD (k - 1) 0) (p.getD k 0) fun d => if d = true then KasT.ret (p, k, q) else kas_desc f p (k + 1) (q + 1))
      refine ⟨h.get _, h.get _, fun b => ?_⟩
      cases b with
      | true => exact h
      | false => exact desc_in f (k + 1) (q + 1) h⟩
theorem tail3_in (h : Small n p) {m r : Nat} : KasP n (fun r => Small n r.2) (kas_tail3 m r p) :=
  (asc_in (h.perm (mirror_perm _ _ _ _)) _ _).bind fun _ _ => h.perm (mirror_perm _ _ _ _)
theorem descPart_in (h : Small n p) {m r : Nat} : KasP n (fun r => Small n r.2) (kas_descPart m r p) :=
  (desc_in _ _ _ h).bind fun q hq => by
    split
    · exact tail3_in (hq.perm (mirror_perm _ _ _ _))
    · exact tail3_in hq
theorem count_in (h : Small n p) {r : Nat} : KasP n (fun r => Small n r.2) (kas_count r p) :=
  (asc_in h _ _).bind fun m _ => by
    split
    · exact h
    · split
      · refine ⟨h.get _, h.get _, fun b => ?_⟩
        cases b with
        | true => exact h
        | false => exact descPart_in (h.perm (mirror_perm _ _ _ _))
      · exact descPart_in h
theorem place_in (h : Small n p) {k : Nat} : ∀ f l r, KasP n (fun _ => True) (kas_place p k f l r)
  | 0, _, _ => trivial
  | f + 1, l, r => by
    unfold kas_place
    split
    · exact trivial
    · refine ⟨h.get _, h.get _, fun b => ?_⟩
      cases b with
      | true => exact place_in h f _ _
      | false => exact place_in h f _ _
theorem bin_in : ∀ f {p : Array Nat} k, Small n p → KasP n (fun _ => True) (kas_bin f p k)
  | 0, _, _, _ => trivial
  | f + 1, _, k, h => (place_in h _ _ _).bind fun _ _ => bin_in f (k + 1) (h.perm (bubble_perm _ _ _))
theorem sort_in (hn : 0 < n) : KasP n (fun _ => True) (kas_sort n) :=
  (count_in (p := (List.range n).toArray) ⟨hn, fun x hx => by simpa using hx⟩).bind fun r hr => by
    split
    · exact bin_in _ _ hr
    · exact trivial
end
/- the questions may change the state as long as what holds of it stays -/
theorem kasWp_kev {α : Type} {cmp : Nat → Nat → (Bool → Shared → Prop) → Shared → Prop} {n : Nat} {lt : Nat → Nat → Bool} {I : Shared → Prop}
    (hc : ∀ i j C s, i < n → j < n → I s → (∀ s', I s' → C (lt i j) s') → cmp i j C s) : ∀ (t : KasT α) {R : α → Prop} {Q : α → Shared → Prop} {s : Shared}, KasP n R t → I s → (∀ s', I s' → Q (kev lt t) s') → t.kasWp cmp Q s
  | .ret _, _, _, _, _, hI, h => h _ hI
  | .ask i j k, _, _, _, hp, hI, h => hc i j _ _ hp.1 hp.2.1 hI fun _ h' => kasWp_kev hc (k (lt i j)) (hp.2.2 _) h' h
end
/- S2 -/
section
open PySem PySem.W PySem.Calls PyProof.Rows
section
variable {M : Model} {A : Around} {E : Value → Shared → Prop} {s : Shared}
theorem mapM_each {α β : Type} {f : α → Sem β} {r : α → β} : ∀ (l : List α) {Q : List β → Shared → Prop}, (∀ v ∈ l, ∀ Q' : β → Shared → Prop, Q' (r v) s → wpAny M A (f v) Q' E s) → Q (l.map r) s → wpAny M A (l.mapM f) Q E s
  | [], _, _, h => by rw [List.mapM_nil]; exact wpAny_pure h
  | x :: l, Q, hf, h => by
    rw [List.mapM_cons]
    exact wpAny_bind (hf x (.head _) _ (wpAny_bind (mapM_each l (Q := fun bs s' => wpAny M A (pure (r x :: bs)) Q E s') (fun v hv => hf v (.tail _ hv)) (wpAny_pure h))))
theorem first_none {v T : Value} {Q : Option Value → Shared → Prop} (hT : Looks M s.heap (typeOf v) T) (hn : (T != Value.type "tuple") = true) (h : Q none s) : wpAny M A (firstOfTuple' v) Q E s := by
  rw [kas_first_eq]
  refine wpAny_bind (hT.here ?_)
  rw [if_pos hn]
  exact wpAny_pure h
/- keys of unlike types, none of them a tuple: no short way for the comparisons -/
theorem kind_mixed {v0 v1 : Value} {r : List Value} {ty : Value → Value} {Q : SortKind → Shared → Prop} (hT : ∀ v ∈ v0 :: v1 :: r, Looks M s.heap (typeOf v) (ty v)) (hn : ∀ v ∈ v0 :: v1 :: r, (ty v != Value.type "tuple") = true)
    (hd : (ty v1 == ty v0) = false) (h : Q general' s) : wpAny M A (keyKind' (v0 :: v1 :: r).toArray) Q E s := by
  rw [keyKind'_eq, List.mapM_toArray, map_eq_pure_bind]
  refine wpAny_bind (wpAny_bind (mapM_each (r := fun _ => none) _ (fun v hv Q' hq => first_none (hT v hv) (hn v hv) hq) (wpAny_pure ?_)))
  rw [if_neg (by simp), if_neg (by simp), oneTypeOnly'_eq, List.mapM_toArray, map_eq_pure_bind]
  refine wpAny_bind (wpAny_bind (wpAny_bind (mapM_each (r := ty) _ (fun v hv Q' hq => (hT v hv).here hq) (wpAny_pure ?_))))
  have h0 : (List.map ty (v0 :: v1 :: r)).toArray[0]? = some (ty v0) := by simp
  have hall : ((List.map ty (v0 :: v1 :: r)).toArray.all fun x => x == ty v0) = false := by
    simp [hd]
  rw [h0]
  simp only [hall, Bool.false_eq_true, if_false]
  exact wpAny_pure (wpAny_pure h)
theorem lt_general {x y : Value} {Q : Bool → Shared → Prop} (h : wpAny M A (richCompare .Lt x y) (fun v s' => ∃ b, v = .bool b ∧ Q b s') E s) : wpAny M A (keyLt' general' x y) Q E s := by
  have e : keyLt' general' x y = oneLt' false x y := rfl
  rw [e, oneLt'_eq]
  simp only [Bool.false_eq_true, if_false]
  refine wpAny_bind (wpAny_mono h (fun v s' hv => ?_) fun _ _ e => e)
  obtain ⟨b, rfl, hq⟩ := hv
  exact wpAny_truthy_bool hq
end
section
variable {prog : Program} {w : World} {A : Around} {E : Value → Shared → Prop} {s : Shared} {g : Heap} {L : Addr} {m : Str → Option Value} {news : List (Addr × Obj)} {vs : List Value}
/- the list that a sort hands back -/
noncomputable def outOf (vs : List Value) (lt : Nat → Nat → Bool) : List Value := (kev lt (kas_sort vs.length)).toList.map fun i => vs.getD i Value.none
theorem sorted_mixed {l : Addr} {v0 v1 : Value} {r : List Value} {ty : Value → Value} {lt : Nat → Nat → Bool} {Q : Value → Shared → Prop} (F : Fr g L s.heap m) (N : News g L s.heap news) (hl : s.heap.IsList l (v0 :: v1 :: r).toArray) (h64 : (v0 :: v1 :: r).length < 64)
    (hT : ∀ h, Fr g L h m → News g L h news → ∀ v ∈ v0 :: v1 :: r, Looks (model prog w) h (typeOf v) (ty v)) (hn : ∀ v ∈ v0 :: v1 :: r, (ty v != Value.type "tuple") = true) (hd : (ty v1 == ty v0) = false)
    (ask : ∀ (i j : Nat) (C : Bool → Shared → Prop) (s' : Shared), i < (v0 :: v1 :: r).length → j < (v0 :: v1 :: r).length → Fr g L s'.heap m → News g L s'.heap news → (∀ s'', Kept [] s' s'' → C (lt i j) s'') → wpAny (model prog w) A.in1.in1 (richCompare .Lt ((v0 :: v1 :: r).getD i Value.none) ((v0 :: v1 :: r).getD j Value.none)) (fun v s'' => ∃ b, v = .bool b ∧ C b s'') NoE s')
    (hQ : ∀ s' D c, Fr g L s'.heap m → News g L s'.heap ((D, listOf (outOf (v0 :: v1 :: r) lt).toArray c) :: news) → (∀ q ∈ news, q.1 < D) → s'.os = s.os → s'.drawn = s.drawn → (AllBare s.gens → AllBare s'.gens) → Q (.ref D) s') :
    wpAny (model prog w) A (call (.builtin "sorted") [.ref l]) Q E s := by
  refine kat_sorted F N hl (by simp) h64 ?_
  intro D e1 h' F' N' hlt
  refine kind_mixed (hT h' F' fun p hp => N' p (.tail _ hp)) hn hd ?_
  refine kasWp_kev (n := (v0 :: v1 :: r).length) (lt := lt) (I := fun s' => Kept [] { s with heap := h' } s') (fun i j C s' hi hj Kp hC => ?_) _ (sort_in (by simp)) Kept.refl fun s2 Kp => ?_
  · have F2 := kept_fr0 Kp F'
    have N2 := kept_news0 Kp N'
    exact lt_general (ask i j C s' hi hj F2 (fun p hp => N2 p (.tail _ hp)) fun s'' Kp' => hC s'' (Kp.trans Kp'))
  · refine KasFin.intro (kept_fr0 Kp F') (kept_news0 Kp N') (.head fun p hp => Nat.ne_of_lt (hlt p hp)) fun h'' c F'' N'' => ?_
    exact hQ _ D c F'' N'' hlt Kp.os Kp.drawn Kp.gens
end
end
/- S3 -/
section
open PySem PySem.W PySem.Calls PyProof.Rows
section
variable {prog : Program} {w : World} {A : Around} {E : Value → Shared → Prop} {s : Shared} {g : Heap} {L : Addr} {m : Str → Option Value} {news : List (Addr × Obj)} {v : Value}
/- what sorted does ahead of the sort itself: a new list of the same items -/
theorem sorted_head {l : Addr} {vs : List Value} {kw : List (Str × Value)} {Q : Value → Shared → Prop} (F : Fr g L s.heap m) (N : News g L s.heap news) (hl : s.heap.IsList l vs.toArray) (h64 : vs.length < 64)
    (ha1 : argsOk "sorted" ⟨[.ref l], kw⟩) (ha2 : ∀ x, argsOk "list.sort" ⟨[.ref x], kw⟩)
    (h : ∀ D n h', Fr g L h' m → News g L h' ((D, seqObj "list" vs.toArray n) :: news) → (∀ q ∈ news, q.1 < D) →
      wpAny (model prog w) A.in1.in1 (Builtin.«list.sort» ⟨[.ref D], kw⟩) (fun fin s' => fin = .done (.ret .none) ∧ Q (.ref D) s') NoE { s with heap := h' }) :
    wpAny (model prog w) A (call (.builtin "sorted") [.ref l] kw) Q E s := by
  have hL : L < s.heap.objs.size := F.ns.lt
  refine call_function_entry_kw kind_sorted plain_sorted entry_sorted ha1 ?_
  unfold Builtin.«sorted»
  refine wpAny_bind (m := checkCount "sorted" 1 1 _) (wpAny_pure (wpAny_bind (collect_list hl (wpAny_bind (wpAny_newList ?_ (by rw [sizeLine_eq]; omega))) (by rw [sizeLine_eq]; omega))))
  dsimp only
  have F1 : Fr g L (s.heap.push (seqObj "list" #[] 0)) m := F.push _
  have N1 := N.push F (seqObj "list" #[] 0) rfl
  have n1 := N1 _ (.head _)
  have sb := Heap.SameBut.update (s.heap.push (seqObj "list" #[] 0)) s.heap.objs.size (Obj.mapSeq (· ++ vs.toArray))
  have F2 := kas_fr F1 sb n1.2.1 n1.2.2
  have N2 := kas_news (fun p hp => N1 p (.tail _ hp) : News g L _ news) sb fun p hp => Nat.ne_of_lt (Heap.lt_size (N p hp).1)
  have F3 := F2.push (seqObj "list" vs.toArray 0)
  have N3 := N2.push F2 (seqObj "list" vs.toArray 0) rfl
  refine wpAny_bind (wpAny_holding (wpAny_call_entry_kw slot_list_sort ⟨_, (N3 _ (.head _)).1, rfl⟩ entry_list_sort ?_ (ha2 _)))
  refine wpAny_mono (h _ 0 _ F3 N3 fun q hq => ?_) (fun fin s' hf => ?_) fun _ _ e => e.elim
  · exact Heap.lt_size (N2 q hq).1
  · obtain ⟨rfl, hq⟩ := hf
    exact ⟨_, rfl, wpAny_pure ⟨_, rfl, hq⟩⟩
theorem sorted_one {l : Addr} {Q : Value → Shared → Prop} (F : Fr g L s.heap m) (N : News g L s.heap news) (hl : s.heap.IsList l #[v])
    (hQ : ∀ s' D c, Fr g L s'.heap m → News g L s'.heap ((D, listOf #[v] c) :: news) → (∀ q ∈ news, q.1 < D) → s'.os = s.os → s'.drawn = s.drawn → s'.gens = s.gens → Q (.ref D) s') :
    wpAny (model prog w) A (call (.builtin "sorted") [.ref l]) Q E s := by
  refine sorted_head (vs := [v]) F N hl (by simp) (args_sorted1 _) (fun x => args_list_sort _) ?_
  intro D n h1 F1 N1 l1
  have nD := N1 _ (.head _)
  have sb := Heap.SameBut.update h1 D (Obj.mapSeq fun _ => (#[] : Array Value))
  obtain ⟨e1, ho1⟩ : ∃ e1, (h1.update D (Obj.mapSeq fun _ => (#[] : Array Value))).get? D = some (seqObj "list" #[] e1) := ⟨_, get?_update_seq nD.1 fun _ => #[]⟩
  have F2 := kas_fr F1 sb nD.2.1 nD.2.2
  have N2 := kas_news (fun p hp => N1 p (.tail _ hp) : News g L _ news) sb fun p hp => Nat.ne_of_lt (l1 p hp)
  have F3 := (F2.push (seqObj "tuple" #[v] 0)).push (seqObj "list" #[] 0)
  have up : ∀ b o, (h1.update D (Obj.mapSeq fun _ => (#[] : Array Value))).get? b = some o → (((h1.update D (Obj.mapSeq fun _ => (#[] : Array Value))).push (seqObj "tuple" #[v] 0)).push (seqObj "list" #[] 0)).get? b = some o := fun b o e => Heap.get?_push_of_some _ (Heap.get?_push_of_some _ e)
  have N3 := N2.grown up
  have ho3 := up _ _ ho1
  rw [list_sort_plain]
  refine wpAny_bind (listItems_at nD.1 rfl (wpAny_bind (listUpdate_at nD.1 rfl (wpAny_bind (seqEpoch_at ho1 rfl (wpAny_bind (wpAny_newTuple (wpAny_bind (wpAny_newList (wpAny_holding ?_) (Nat.zero_le _))) (show 1 ≤ sizeLine from Nat.le_of_ble_eq_true rfl))))) (Nat.le_of_ble_eq_true rfl) (Nat.zero_le _))))
  have one : (#[v] : Array Value).size < 2 := Nat.le_of_ble_eq_true rfl
  rw [if_pos one, if_pos one]
  refine wpAny_bind (wpAny_pure ?_)
  dsimp only
  rw [StateT.run_pure]
  refine wpAny_bind (wpAny_pure ?_)
  dsimp only
  have hout : (arrOf (SortSt.mk' general' ((#[v] : Array Value).zip #[v]) #[] 7 none)).map (·.2) = #[v] := by
    show (((#[v] : Array Value).zip #[v]).map (·.2)) = #[v]
    simp
  rw [hout]
  refine wpAny_bind (seqEpoch_at ho3 rfl (wpAny_bind (listUpdate_at ho3 rfl ?_ (Nat.zero_le _) (Nat.le_of_ble_eq_true rfl))))
  simp only [bne_self_eq_false, Bool.false_eq_true, if_false]
  have sb4 := Heap.SameBut.update (((h1.update D (Obj.mapSeq fun _ => (#[] : Array Value))).push (seqObj "tuple" #[v] 0)).push (seqObj "list" #[] 0)) D (Obj.mapSeq fun _ => (#[v] : Array Value))
  obtain ⟨c2, hc2⟩ : ∃ c2, ((((h1.update D (Obj.mapSeq fun _ => (#[] : Array Value))).push (seqObj "tuple" #[v] 0)).push (seqObj "list" #[] 0)).update D (Obj.mapSeq fun _ => (#[v] : Array Value))).get? D = some (seqObj "list" #[v] c2) := ⟨_, get?_update_seq ho3 fun _ => #[v]⟩
  refine wpAny_pure ⟨rfl, hQ _ D c2 (kas_fr F3 sb4 nD.2.1 nD.2.2) (fun p hp => ?_) l1 rfl rfl rfl⟩
  rcases List.mem_cons.mp hp with rfl | hp
  · exact ⟨hc2, nD.2⟩
  · exact kas_news N3 sb4 (fun p hp => Nat.ne_of_lt (l1 p hp)) p hp
theorem sorted_oneK {l q : Addr} {Q : Value → Shared → Prop} (F : Fr g L s.heap m) (N : News g L s.heap news) (hl : s.heap.IsList l #[v])
    (hcall : ∀ h', Fr g L h' m → News g L h' news → wpAny (model prog w) A.in1.in1 (call (.ref q) [v]) (fun _ s' => Kept [] { s with heap := h' } s') NoE { s with heap := h' })
    (hQ : ∀ s' D c, Fr g L s'.heap m → News g L s'.heap ((D, listOf #[v] c) :: news) → (∀ q ∈ news, q.1 < D) → s'.os = s.os → s'.drawn = s.drawn → (AllBare s.gens → AllBare s'.gens) → Q (.ref D) s') :
    wpAny (model prog w) A (call (.builtin "sorted") [.ref l] [(Str.ofString "key", .ref q)]) Q E s := by
  refine sorted_head (vs := [v]) F N hl (by simp) (ksk_s1 _ _) (fun x => ksk_l1 _ _) ?_
  intro D n h1 F1 N1 l1
  have nD := N1 _ (.head _)
  have sb := Heap.SameBut.update h1 D (Obj.mapSeq fun _ => (#[] : Array Value))
  obtain ⟨e1, ho1⟩ : ∃ e1, (h1.update D (Obj.mapSeq fun _ => (#[] : Array Value))).get? D = some (seqObj "list" #[] e1) := ⟨_, get?_update_seq nD.1 fun _ => #[]⟩
  have F2 := kas_fr F1 sb nD.2.1 nD.2.2
  have N2 : News g L _ ((D, seqObj "list" #[] e1) :: news) := fun p hp => by
    rcases List.mem_cons.mp hp with rfl | hp
    · exact ⟨ho1, nD.2⟩
    · exact kas_news (fun p hp => N1 p (.tail _ hp) : News g L _ news) sb (fun p hp => Nat.ne_of_lt (l1 p hp)) p hp
  have F3 := F2.push (seqObj "tuple" #[v] 0)
  have N3 := N2.grown fun b o e => Heap.get?_push_of_some (seqObj "tuple" #[v] 0) e
  have F4 := F3.push (seqObj "list" #[] 0)
  have N4 := N3.push F3 (seqObj "list" #[] 0) rfl
  have l4 : ∀ p ∈ (D, seqObj "list" #[] e1) :: news, p.1 < (((h1.update D (Obj.mapSeq fun _ => (#[] : Array Value))).push (seqObj "tuple" #[v] 0))).objs.size := fun p hp => Heap.lt_size (N3 p hp).1
  rw [ksk_t1]
  unfold ksk_tree
  refine wpAny_bind (listItems_at nD.1 rfl (wpAny_bind (listUpdate_at nD.1 rfl (wpAny_bind (seqEpoch_at ho1 rfl (wpAny_bind (wpAny_newTuple (wpAny_bind (wpAny_newList (wpAny_holding ?_) (Nat.zero_le _))) (show 1 ≤ sizeLine from Nat.le_of_ble_eq_true rfl))))) (Nat.le_of_ble_eq_true rfl) (Nat.zero_le _))))
  unfold ksk_rest
  refine wpAny_bind (wpAny_rule ?_)
  rw [List.forIn_toArray, List.forIn_cons]
  refine wpAny_bind (wpAny_bind (wpAny_bind (wpAny_attempt (wpAny_mono (hcall _ F4 fun p hp => N4 p (.tail _ (.tail _ hp))) (fun k s5 Kp => ?_) fun _ _ e => e.elim))))
  have F5 := kept_fr0 Kp F4
  have N5 := kept_news0 Kp N4
  have nk := N5 _ (.head _)
  have sb6 := Heap.SameBut.update s5.heap (((h1.update D (Obj.mapSeq fun _ => (#[] : Array Value))).push (seqObj "tuple" #[v] 0))).objs.size (Obj.mapSeq (·.push k))
  obtain ⟨c6, hc6⟩ : ∃ c6, (s5.heap.update (((h1.update D (Obj.mapSeq fun _ => (#[] : Array Value))).push (seqObj "tuple" #[v] 0))).objs.size (Obj.mapSeq (·.push k))).get? (((h1.update D (Obj.mapSeq fun _ => (#[] : Array Value))).push (seqObj "tuple" #[v] 0))).objs.size = some (seqObj "list" #[k] c6) := ⟨_, get?_update_seq nk.1 (·.push k)⟩
  have F6 := kas_fr F5 sb6 nk.2.1 nk.2.2
  have N6 := kas_news (fun p hp => N5 p (.tail _ hp) : News g L _ ((D, seqObj "list" #[] e1) :: news)) sb6 fun p hp => Nat.ne_of_lt (l4 p hp)
  dsimp only
  refine wpAny_bind (listUpdate_at nk.1 rfl ?_ (Nat.zero_le _) (Nat.le_of_ble_eq_true rfl))
  refine wpAny_pure ?_
  dsimp only
  rw [List.forIn_nil]
  refine wpAny_pure (wpAny_bind (listItems_at hc6 rfl ?_))
  unfold ksk_end
  have one : (#[v] : Array Value).size < 2 := Nat.le_of_ble_eq_true rfl
  dsimp only
  rw [if_neg (by decide), if_pos one, if_pos one]
  refine wpAny_bind (wpAny_pure ?_)
  (try dsimp only)
  rw [StateT.run_pure]
  refine wpAny_bind (wpAny_pure ?_)
  dsimp only
  refine kat_tail (ks := [k]) (a := D) (out := [v]) (kS := (((h1.update D (Obj.mapSeq fun _ => (#[] : Array Value))).push (seqObj "tuple" #[v] 0))).objs.size) (e := c6) (h₀ := g) (L := L) (m := m) ?_ (show 1 < 64 by decide) (show 1 < 64 by decide) rfl ?_
  · show (((#[k] : Array Value).zip #[v]).map (·.2)) = #[v]
    simp
  · refine KatFin.intro (news := ((((h1.update D (Obj.mapSeq fun _ => (#[] : Array Value))).push (seqObj "tuple" #[v] 0))).objs.size, seqObj "list" #[k] c6) :: (D, seqObj "list" #[] e1) :: news) F6 (fun p hp => ?_) (.head fun p hp => Nat.ne_of_lt (l4 p hp)) fun h7 c7 F7 N7 => ?_
    · rcases List.mem_cons.mp hp with rfl | hp
      · exact ⟨hc6, nk.2⟩
      · exact N6 p hp
    · refine KasFin.intro F7 (fun p hp => N7 p (.tail _ hp) : News g L _ ((D, seqObj "list" #[] e1) :: news)) (.head fun p hp => Nat.ne_of_lt (l1 p hp)) fun h8 c8 F8 N8 => ?_
      exact ⟨rfl, hQ _ D c8 F8 N8 l1 Kp.os Kp.drawn Kp.gens⟩
/- sorted of a list whose first two items are of unlike types, or of one item -/
theorem sorted_txt {l : Addr} {vs : List Value} {ty : Value → Value} {lt : Nat → Nat → Bool} {Q : Value → Shared → Prop} (F : Fr g L s.heap m) (N : News g L s.heap news) (hl : s.heap.IsList l vs.toArray) (h1 : 0 < vs.length) (h64 : vs.length < 64)
    (hT : ∀ h, Fr g L h m → News g L h news → ∀ v ∈ vs, Looks (model prog w) h (typeOf v) (ty v)) (hn : ∀ v ∈ vs, (ty v != Value.type "tuple") = true) (hd : ∀ v0 v1 r, vs = v0 :: v1 :: r → (ty v1 == ty v0) = false)
    (ask : ∀ (i j : Nat) (C : Bool → Shared → Prop) (s' : Shared), i < vs.length → j < vs.length → Fr g L s'.heap m → News g L s'.heap news → (∀ s'', Kept [] s' s'' → C (lt i j) s'') → wpAny (model prog w) A.in1.in1 (richCompare .Lt (vs.getD i Value.none) (vs.getD j Value.none)) (fun v s'' => ∃ b, v = .bool b ∧ C b s'') NoE s')
    (hQ : ∀ s' D c, Fr g L s'.heap m → News g L s'.heap ((D, listOf (outOf vs lt).toArray c) :: news) → (∀ q ∈ news, q.1 < D) → s'.os = s.os → s'.drawn = s.drawn → (AllBare s.gens → AllBare s'.gens) → Q (.ref D) s') :
    wpAny (model prog w) A (call (.builtin "sorted") [.ref l]) Q E s := by
  match vs, h1, h64, hT, hn, hd, ask, hQ, hl with
  | [v], _, _, _, _, _, _, hQ, hl => exact sorted_one F N hl fun s' D c a b d e f k => hQ s' D c a b d e f fun q => k ▸ q
  | v0 :: v1 :: r, _, h64, hT, hn, hd, ask, hQ, hl => exact sorted_mixed F N hl h64 hT hn (hd v0 v1 r rfl) ask hQ
end
end
/- S4 -/
section
open PySem PySem.W PySem.Calls PyProof.Rows
section
variable {prog : Program} {w : World} {A : Around} {E : Value → Shared → Prop} {s : Shared} {env : Env} {target : Expr} {body orelse : List Stmt} {g : Heap} {L I : Addr}
/- a for over range(k), by an invariant -/
theorem for_range_inv {k : Nat} {R : Flow → Shared → Prop} (hh : A.handled = none) (J : Nat → (Str → Option Value) → List (Addr × Obj) → Shared → Prop)
    (hJ : ∀ i m news s h' tk, J i m news s → J i m news { s with heap := h', toks := tk })
    (ht : ∀ v I, letOwnedTupleGo target (.ref I) v = pure ())
    (turn : ∀ i m news s tk I oI, i < k → J i m news s → oI.cls = .type "range_iterator" → Fr g L s.heap m → News g L s.heap ((I, oI) :: news) → (∀ p ∈ news, @Ne Nat p.1 I) →
      wpAny (model prog w) A (assign target env (.int (i : Int) tk)) (fun _ s₂ => wpAny (model prog w) A (execs body env) (fun f s₃ => match f with
            | .next => Hold (∃ m' news', J (i + 1) m' news' s₃ ∧ Fr g L s₃.heap m' ∧ News g L s₃.heap ((I, oI) :: news') ∧ (∀ p ∈ news', @Ne Nat p.1 I))
            | .cont => Hold (∃ m' news', J (i + 1) m' news' s₃ ∧ Fr g L s₃.heap m' ∧ News g L s₃.heap ((I, oI) :: news') ∧ (∀ p ∈ news', @Ne Nat p.1 I))
            | .brk => R .next s₃
            | .ret v => R (.ret v) s₃) NoE s₂) NoE s)
    (done : ∀ m news s, J k m news s → Fr g L s.heap m → News g L s.heap news → wpAny (model prog w) A (execs orelse env) R NoE s)
    {m : Str → Option Value} {news : List (Addr × Obj)} {left : Int} (hk : left = (k : Int)) (h : J 0 m news s) (F : Fr g L s.heap m) (N : News g L s.heap ((I, rIter 0 left 1) :: news)) (hoff : ∀ p ∈ news, @Ne Nat p.1 I) :
    codeAny (model prog w) A (.forLoop target (.ref I) body orelse env) (LoopR R) s := by
  subst hk
  have key : ∀ d i (s : Shared) x left m news, k - i = d → i ≤ k → x = (i : Int) → left = (k : Int) - i → J i m news s → Fr g L s.heap m → News g L s.heap ((I, rIter x left 1) :: news) → (∀ p ∈ news, @Ne Nat p.1 I) →
      codeAny (model prog w) A (.forLoop target (.ref I) body orelse env) (LoopR R) s := by
    intro d
    induction d with
    | zero =>
      intro i s x left m news hd hi hx hl h3 F3 N3 hoff3
      obtain rfl : i = k := by omega
      refine for_range_done hh F3 N3 hoff3 (by omega) fun h' F' N' x => ?_
      exact done m news _ (hJ _ _ _ _ h' s.toks h3) F' N'
    | succ d ih =>
      intro i s x left m news hd hi hx hl h3 F3 N3 hoff3
      subst hx
      refine for_range_item F3 N3 hoff3 (by omega) (fun v => ht v I) fun h' tk tk' F' N' x => ?_
      refine wpAny_mono (turn i m news { s with heap := h', toks := tk' } tk I _ (by omega) (hJ _ _ _ _ h' tk' h3) rfl F' N' hoff3) (fun _ s₂ h₂ => wpAny_mono h₂ (fun f s₃ h₃ => ?_) fun _ _ e => e) fun _ _ e => e
      cases f with
      | next => obtain ⟨m', news', a, b, c, d'⟩ := h₃.out; exact ih (i + 1) s₃ _ _ m' news' (by omega) (by omega) (by omega) (by omega) a b c d'
      | cont => obtain ⟨m', news', a, b, c, d'⟩ := h₃.out; exact ih (i + 1) s₃ _ _ m' news' (by omega) (by omega) (by omega) (by omega) a b c d'
      | brk => exact h₃
      | ret v => exact h₃
  exact key _ 0 s 0 k m news rfl (Nat.zero_le _) rfl (by omega) h F N hoff
end
end
/- S5 -/
section
open PySem PySem.W PySem.Calls PyProof.Rows
/- what an item of a comprehension must come to; the walk leaves it alone -/
structure Elt (p : Prop) (t t' : Shared) : Prop where
  ok : p
  keeps : Keeps t t'
section
variable {M : Model} {A : Around} {E : Value → Shared → Prop} {s : Shared} {K : Frag} {h₀ : Heap} {L C : Addr} {m m₂ mg mb : Str → Option Value} {news : List (Addr × Obj)} {scope : Scope} {cl : List (Str × Addr)} {env : Env} {p : Program} {loose : List Str} {x : Str} {pos : Pos} {v : Value} {oC : Obj} {Q : Value → Shared → Prop}
theorem nameC_L (N : News h₀ L s.heap news) (hm : (C, oC) ∈ news) (hC : LCg.NsObj oC m₂) (hx : m₂ x = some v) (h : Q v s)
    (hk : (compEnvC scope cl C env).scope.kind = .function) (hl : (compEnvC scope cl C env).kindOf x = some .local) (hd : (x == ("__debug__" : Str)) = false) :
    wpAny M A (eval (.Name x pos) (compEnvC scope cl C env)) Q E s := wpAny_Name (wpAny_loadName_local hk hl (hC.ns (N _ hm).1) hx h) hd
theorem nameC_K (F : Fr h₀ L s.heap m) (X : K.In h₀) (T : TopRead p loose mg mb h₀) (e : nsIn K mainGlobals x = some (some v)) (h : Q v s) (hg : env.globals = mainGlobals)
    (hk : (compEnvC scope cl C env).scope.kind = .function) (hx : (compEnvC scope cl C env).kindOf x = some .globalImplicit) (hd : (x == ("__debug__" : Str)) = false) :
    wpAny M A (eval (.Name x pos) (compEnvC scope cl C env)) Q E s :=
  Name_function_global hk hx (loadGlobal_global (env := compEnvC scope cl C env) (show s.heap.Ns env.globals mg from hg ▸ T.g.keeps F.keep) (mg_of X T.g e) h) hd
theorem nameC_B (F : Fr h₀ L s.heap m) (X : K.In h₀) (T : TopRead p loose mg mb h₀) (e : nsIn K mainGlobals x = some none) (hv : bootBuiltins x = some v) (hn : x ≠ "__name__") (h : Q v s) (hg : env.globals = mainGlobals) (hb : env.builtins = builtinsNs)
    (hk : (compEnvC scope cl C env).scope.kind = .function) (hx : (compEnvC scope cl C env).kindOf x = some .globalImplicit) (hd : (x == ("__debug__" : Str)) = false) :
    wpAny M A (eval (.Name x pos) (compEnvC scope cl C env)) Q E s :=
  Name_function_global hk hx (loadGlobal_builtin (env := compEnvC scope cl C env) (show s.heap.Ns env.globals mg from hg ▸ T.g.keeps F.keep) (mg_none_of X T.g e) (show s.heap.Ns env.builtins mb from hb ▸ T.b.keeps F.keep) ((T.builtins x hn).trans hv) h) hd
theorem nameC_C {c : Addr} {o : Obj} (N : News h₀ L s.heap news) (hc : cl.lookup x = some c) (hm : (c, o) ∈ news) (hd : o.data = .cell (some v)) (h : Q v s)
    (hk : (compEnvC scope cl C env).scope.kind = .function) (hx : (compEnvC scope cl C env).kindOf x = some .cell) (hb : (x == ("__debug__" : Str)) = false) :
    wpAny M A (eval (.Name x pos) (compEnvC scope cl C env)) Q E s := wpAny_Name (wpAny_loadName_cell hk hx hc ⟨o, (N _ hm).1, hd⟩ h) hb
end
section
variable {prog : Program} {w : World} {A : Around} {E : Value → Shared → Prop} {s : Shared} {h₀ : Heap} {L : Addr} {m : Str → Option Value} {env : Env} {ct elt : Expr} {x : Str} {scope : Scope} {cl : List (Str × Addr)} {news : List (Addr × Obj)} {Fin : List Value → List (Addr × Obj) → Prop} {G : Value → Value → Prop} {P : Value → Bool}
theorem paired_snoc {R : Value → Value → Prop} {a b : List Value} {v y : Value} (x : Paired R a b) (r : R v y) : Paired R (a ++ [v]) (b ++ [y]) := two_append x (.cons r .nil)
theorem lcg_end {t : Shared} {I C D : Addr} {oI oC oD : Obj} {S : List (Addr × Obj) → Prop} {rest : Value → List (Addr × Obj) → Prop} {y : Value} {t' : Shared} (F : Fr h₀ L t.heap m) (N : News h₀ L t.heap ((I, oI) :: (C, oC) :: (D, oD) :: news)) (off : LCg.Off3 I C D news) (hS : S news)
    (k : Keeps t t') (r : rest y news) : LCg.CompEnd h₀ L m t I oI C oC D oD S rest y t' := by
  obtain ⟨h', tk, rfl, kk⟩ := k
  exact ⟨h', tk, news, rfl, F.keeps kk, N.grown kk, off, hS, r⟩
/- a comprehension over a list, item by item; nothing that was made is changed -/
theorem comp_each {ax : Addr} {its : Array Value} (hS : LCg.SrcAt h₀ ax its news)
    (turn : ∀ (i : Nat) (v : Value) (C : Addr) (oC : Obj) m₂ (X : List (Addr × Obj)) (t : Shared) (E' : Value → Shared → Prop), its[i]? = some v → LCg.NsObj oC m₂ → m₂ x = some v → Fr h₀ L t.heap m → News h₀ L t.heap X → (C, oC) ∈ X → (∀ p ∈ news, p ∈ X) → t.os = s.os → t.drawn = s.drawn → t.gens = s.gens →
      wpAny (model prog w) A (eval elt (compEnvC scope cl C env)) (fun y t' => Elt (G v y) t t') E' t)
    (fin : ∀ ys, Paired G its.toList ys → Fin ys news) : LCg.CompRest prog w A h₀ L m env elt x scope cl s (LCg.SrcAt h₀ ax its) (fun i v => its[i]? = some v) Fin its.size 0 [] news := by
  have key : ∀ (j i : Nat) (ys : List Value), i + j = its.size → Paired G (its.toList.take i) ys → LCg.CompRest prog w A h₀ L m env elt x scope cl s (LCg.SrcAt h₀ ax its) (fun i v => its[i]? = some v) Fin j i ys news := by
    intro j
    induction j with
    | zero =>
      intro i ys hi hy
      rw [List.take_of_length_le (by rw [Array.length_toList]; omega)] at hy
      exact LCg.CompRest.zero (fin ys hy)
    | succ j ih =>
      intro i ys hi hy
      refine LCg.CompRest.succ ?_
      intro v I oI C oC D m₂ h tk E' hv hC hx F N off ne
      refine wpAny_mono (turn i v C oC m₂ _ { s with heap := h, toks := tk } E' hv hC hx F N (.tail _ (.head _)) (fun p hp => .tail _ (.tail _ (.tail _ hp))) rfl rfl rfl) (fun y t' hq => ?_) fun _ _ e => e
      refine lcg_end F N off hS hq.2 (ih (i + 1) _ (by omega) ?_)
      rw [List.take_add_one, Array.getElem?_toList, hv]
      exact paired_snoc hy hq.1
  exact key its.size 0 [] (by omega) .nil
/- the same, with a test -/
theorem comp_test {ax : Addr} {its : Array Value} (hS : LCg.SrcAt h₀ ax its news)
    (test : ∀ (i : Nat) (v : Value) (C : Addr) (oC : Obj) m₂ (X : List (Addr × Obj)) (t : Shared) (E' : Value → Shared → Prop), its[i]? = some v → LCg.NsObj oC m₂ → m₂ x = some v → Fr h₀ L t.heap m → News h₀ L t.heap X → (C, oC) ∈ X → (∀ p ∈ news, p ∈ X) → t.os = s.os → t.drawn = s.drawn → t.gens = s.gens →
      wpAny (model prog w) A (isTrue ct (compEnvC scope cl C env) (eval ct (compEnvC scope cl C env))) (fun ok t' => Elt (ok = P v) t t') E' t)
    (turn : ∀ (i : Nat) (v : Value) (C : Addr) (oC : Obj) m₂ (X : List (Addr × Obj)) (t : Shared) (E' : Value → Shared → Prop), its[i]? = some v → P v = true → LCg.NsObj oC m₂ → m₂ x = some v → Fr h₀ L t.heap m → News h₀ L t.heap X → (C, oC) ∈ X → (∀ p ∈ news, p ∈ X) → t.os = s.os → t.drawn = s.drawn → t.gens = s.gens →
      wpAny (model prog w) A (eval elt (compEnvC scope cl C env)) (fun y t' => Elt (G v y) t t') E' t)
    (fin : ∀ ys, Paired G (its.toList.filter P) ys → Fin ys news) : LCt.CompRestT prog w A h₀ L m env ct elt x scope cl s (LCg.SrcAt h₀ ax its) (fun i v => its[i]? = some v) Fin its.size 0 [] news := by
  have key : ∀ (j i : Nat) (ys : List Value), i + j = its.size → Paired G ((its.toList.take i).filter P) ys → LCt.CompRestT prog w A h₀ L m env ct elt x scope cl s (LCg.SrcAt h₀ ax its) (fun i v => its[i]? = some v) Fin j i ys news := by
    intro j
    induction j with
    | zero =>
      intro i ys hi hy
      rw [List.take_of_length_le (by rw [Array.length_toList]; omega)] at hy
      exact LCt.CompRestT.zero (fin ys hy)
    | succ j ih =>
      intro i ys hi hy
      refine LCt.CompRestT.succ ?_
      intro v I oI C oC D m₂ h tk E' hv hC hx F N off ne
      refine wpAny_mono (test i v C oC m₂ _ { s with heap := h, toks := tk } E' hv hC hx F N (.tail _ (.head _)) (fun p hp => .tail _ (.tail _ (.tail _ hp))) rfl rfl rfl) (fun ok t' hq => ?_) fun _ _ e => e
      obtain ⟨rfl, h2, tk2, rfl, kk⟩ := hq
      cases hP : P v with
      | true =>
        rw [if_pos rfl]
        refine wpAny_mono (turn i v C oC m₂ _ { s with heap := h2, toks := tk2 } E' hv hP hC hx (F.keeps kk) (N.grown kk) (.tail _ (.head _)) (fun p hp => .tail _ (.tail _ (.tail _ hp))) rfl rfl rfl) (fun y t' hq => ?_) fun _ _ e => e
        obtain ⟨hG, h3, tk3, rfl, k3⟩ := hq
        refine lcg_end F N off hS ⟨h3, tk3, rfl, fun b o e => k3 b o (kk b o e)⟩ (ih (i + 1) _ (by omega) ?_)
        rw [List.take_add_one, Array.getElem?_toList, hv, List.filter_append]
        simpa [hP] using paired_snoc hy hG
      | false =>
        rw [if_neg (by simp)]
        refine lcg_end F N off hS ⟨h2, tk2, rfl, kk⟩ (ih (i + 1) _ (by omega) ?_)
        rw [List.take_add_one, Array.getElem?_toList, hv, List.filter_append]
        simpa [hP] using hy
  exact key its.size 0 [] (by omega) .nil
end
end
/- S6 -/
section
open PySem PySem.W PySem.Calls PyProof.Rows
theorem two_join2 {α β γ : Type} {R : α → β → Prop} {S : α → γ → Prop} {T : γ → β → Prop} (f : ∀ v n c, R v n → S v c → T c n) : ∀ {a : List α} {b : List β} {c : List γ}, Paired R a b → Paired S a c → Paired T c b
  | _, _, _, .nil, .nil => .nil
  | _, _, _, .cons h t, .cons h' t' => .cons (f _ _ _ h h') (two_join2 f t t')
theorem strs_of {a : List Value} {b : List Str} (x : Paired (fun c t => ∃ tok, c = .str t tok) a b) : StrsAre a b := by
  induction x with
  | nil => exact .nil
  | cons h _ ih => obtain ⟨tok, rfl⟩ := h; exact .cons _ _ ih
theorem perm_getD {α : Type} {l : List α} {d : α} {p : Array Nat} (h : PermN l.length p) : (p.toList.map fun i => l.getD i d).Perm l := by
  have h1 := (Array.perm_iff_toList_perm.mp h).map (fun i => l.getD i d)
  have h2 : (List.range l.length).map (fun i => l.getD i d) = l := by
    apply List.ext_getElem
    · simp
    · intro i h1 h2
      simp [h2]
  have h3 : ((List.range l.length).toArray.toList.map fun i => l.getD i d) = l := h2
  rw [h3] at h1
  exact h1
theorem srt_pair {n : Nat} {lt : Nat → Nat → Bool} {p : Array Nat} (h : PermN n p) (hs : Srt lt p n) : p.toList.Pairwise (fun i j => lt i j = true) := by
  rw [List.pairwise_iff_getElem]
  intro i j hi hj hij
  have hj' : j < p.size := by simpa using hj
  have hi' : i < p.size := by simpa using hi
  have := hs i j hij (by rw [← h.size]; exact hj')
  simpa [at', Array.getD, hi', hj'] using this
theorem perm_lt {n : Nat} {p : Array Nat} (h : PermN n p) : ∀ i ∈ p.toList, i < n := fun i hi => by
  have := (Array.perm_iff_toList_perm.mp h).mem_iff.mp hi
  simpa using this
/- the order of decimals -/
noncomputable def decLt (ns : List Nat) (i j : Nat) : Bool := decide (digs (ns.getD i 0) < digs (ns.getD j 0))
theorem decLt_strict {ns : List Nat} (hnd : ns.Nodup) (hpos : ∀ n ∈ ns, 0 < n) : Strict ns.length (decLt ns) where
  tr a b c _ _ _ h1 h2 := by
    unfold decLt at *
    exact decide_eq_true (List.lt_trans (of_decide_eq_true h1) (of_decide_eq_true h2))
  as a b _ _ h := by
    unfold decLt at *
    exact decide_eq_false (List.lt_asymm (of_decide_eq_true h))
  tot a b ha hb hab := by
    unfold decLt
    have ea : ns.getD a 0 = ns[a] := by simp [ha]
    have eb : ns.getD b 0 = ns[b] := by simp [hb]
    rw [ea, eb]
    have hne : digs ns[a] ≠ digs ns[b] := fun e => hab ((List.getElem_inj hnd).mp (digs_inj (hpos _ (List.getElem_mem ha)) (hpos _ (List.getElem_mem hb)) e))
    by_cases h : digs ns[a] < digs ns[b]
    · exact .inl (decide_eq_true h)
    · by_cases h2 : digs ns[b] < digs ns[a]
      · exact .inr (decide_eq_true h2)
      · exact absurd (List.le_antisymm (List.not_lt.mp h2) (List.not_lt.mp h)) hne
theorem paired_getD {R : Value → Str → Prop} {vs : List Value} {ts : List Str} (x : Paired R vs ts) {is : List Nat} (h : ∀ i ∈ is, i < vs.length) {d : Str} : Paired R (is.map fun i => vs.getD i Value.none) (is.map fun i => ts.getD i d) := by
  induction is with
  | nil => exact .nil
  | cons i is ih =>
    have hi := h i (.head _)
    have hl := x.length
    refine .cons ?_ (ih fun j hj => h j (.tail _ hj))
    have e1 : vs[i]? = some (vs.getD i Value.none) := by simp [hi]
    have e2 : ts[i]? = some (ts.getD i d) := by simp [hl ▸ hi]
    exact two_get x e1 e2
/- what a sort of the decimals hands back -/
theorem sorted_decs {R : Value → Str → Prop} {ns : List Nat} {vs : List Value} (hnd : ns.Nodup) (hpos : ∀ n ∈ ns, 0 < n) (h0 : 0 < ns.length) (x : Paired R vs (ns.map dec)) :
    ∃ rs : List Nat, rs.Perm ns ∧ rs.Pairwise (fun a b => digs a < digs b) ∧ Paired R (outOf vs (decLt ns)) (rs.map dec) := by
  have hl : vs.length = ns.length := by rw [x.length, List.length_map]
  obtain ⟨P, hs⟩ := sort_ok (decLt_strict hnd hpos) h0
  refine ⟨(kev (decLt ns) (kas_sort ns.length)).toList.map fun i => ns.getD i 0, perm_getD P, ?_, ?_⟩
  · rw [List.pairwise_map]
    exact (srt_pair P hs).imp fun h => of_decide_eq_true h
  · unfold outOf
    rw [hl]
    have := paired_getD (d := dec 0) x (is := (kev (decLt ns) (kas_sort ns.length)).toList) fun i hi => by rw [hl]; exact perm_lt P i hi
    refine cast (congrArg _ ?_) this
    rw [List.map_map]
    refine List.map_congr_left fun i hi => ?_
    have hi' := perm_lt P i hi
    simp [hi']
end
/- S7 -/
section
open PySem PySem.W PySem.Calls PyProof.Rows PySem.Spec
section
variable {prog : Program} {w : World} {A : Around} {E : Value → Shared → Prop} {s : Shared} {g : Heap} {L l : Addr} {m : Str → Option Value} {news : List (Addr × Obj)}
noncomputable abbrev intD (n : Nat) : PyData := .int (n : Int)
theorem foldl_one {v : Value} : ∀ k, List.foldl (fun x1 x2 => x1 ++ x2) (#[] : Array Value) (List.replicate k #[v]) = (List.replicate k v).toArray := fun k => by
  have key : ∀ k (acc : Array Value), List.foldl (fun x1 x2 => x1 ++ x2) acc (List.replicate k #[v]) = acc ++ (List.replicate k v).toArray := by
    intro k
    induction k with
    | zero => intro acc; simp
    | succ k ih => intro acc; rw [List.replicate_succ, List.foldl_cons, ih]; exact Array.toList_inj.mp (by simp [List.replicate_succ])
  rw [key]; simp
/- [v] * k -/
theorem mul_one {v : Value} {n k : Nat} {x : Int} {u : Tok} {Q : Value → Shared → Prop} (F : Fr g L s.heap m) (N : News g L s.heap news) (hm : (l, listOf #[v] n) ∈ news) (hk : x = (k : Int)) (hz : k ≤ 1000)
    (h : ∀ D h', Fr g L h' m → News g L h' ((D, listOf (List.replicate k v).toArray 0) :: news) → (∀ p ∈ news, p.1 < D) → Q (.ref D) { s with heap := h' }) :
    wpAny (model prog w) A (binaryOp .Mult (.ref l) (.int x u)) Q E s := by
  subst hk
  refine mul_list (k := n) F N (N _ hm).1 (by omega) (by omega) (by show 1 * _ ≤ _; omega) fun h' F' N' => ?_
  have e : (if (#[v] : Array Value).isEmpty = true then 0 else (k : Int).toNat) = k := by simp
  rw [e, foldl_one] at N'
  exact h _ h' F' N' fun p hp => Heap.lt_size (N p hp).1
/- the last item -/
theorem item_last {value slice : Expr} {its : Array Value} {u : Tok} {v : Value} {Q : Value → Shared → Prop} (hl : s.heap.IsList l its) (hx : its.toList.getLast? = some v) (h : Q v s)
    (hs : subscripted slice false (.ref l) (.int (-1) u) = operate [.ref l, .int (-1) u] (getItem (.ref l) (.int (-1) u)) := by with_unfolding_all rfl) :
    wpAny (model prog w) A (subscriptTail value slice (.ref l) (.int (-1) u)) Q E s := by
  have hp : 0 < its.size := by
    rw [← Array.length_toList]
    cases e : its.toList with
    | nil => rw [e] at hx; simp at hx
    | cons a b => simp
  refine tail_any hl.typeIs slot_list_getitem.lookup (wpAny_getItem_list_neg hl (by decide) (by omega) (by decide) ?_ h) hs
  rw [show ((-1 : Int) + (its.size : Int)).toNat = its.size - 1 by omega, ← Array.getElem?_toList, ← Array.length_toList, ← List.getLast?_eq_getElem?]
  exact hx
theorem pick_init {its : Array Value} {x : Int} (h : x = -1) (hp : 0 < its.size) : (slicePick its none (some x) none).toList = its.toList.dropLast := by
  subst h
  have e : sliceBounds none (some (-1 : Int)) none its.size = (((0 : Nat) : Int), ((its.size - 1 : Nat) : Int), 1) := by
    simp only [sliceBounds, Option.getD_none, show (1 : Int) > 0 by decide, if_true, show ((-1 : Int) < 0) from by decide]
    rw [show (-1 : Int) + (its.size : Int) = ((its.size - 1 : Nat) : Int) by omega, clip_mm, Nat.min_eq_left (Nat.sub_le _ _)]
    rfl
  rw [kmk_pick_nat _ e]
  show (its.toList.drop 0).take (its.size - 1 - 0) = _
  rw [List.drop_zero, Nat.sub_zero, ← Array.length_toList, List.dropLast_eq_take]
theorem ints_read {h : Heap} : ∀ {vs : List Value} {ns : List Nat}, NatsAre vs ns → ReadsAll h vs (ns.map intD) []
  | _, _, .nil => .nil
  | _, _, .cons ⟨t, e⟩ r => e ▸ ReadsAll.cons (as := []) (Reads.int _ _) (ints_read r)
theorem ints_lay (ns : List Nat) : PyData.canLayAll0 (ns.map intD) = true := by
  induction ns with
  | nil => rfl
  | cons n ns ih => simpa [PyData.canLayAll0, PyData.canLay0] using ih
theorem ints_depth (ns : List Nat) : PyData.depthAll (ns.map intD) ≤ 1 := by
  induction ns with
  | nil => simp [PyData.depthAll]
  | cons n ns ih => simp only [List.map_cons, PyData.depthAll, PyData.depth]; omega
theorem ints_shaped (ns : List Nat) : PySem.SeqAt.shaped (.list (ns.map intD)) = true := by
  have := ints_depth ns
  have h2 : PyData.depth (.list (ns.map intD)) ≤ 64 := by simp only [PyData.depth]; omega
  have h1 : PyData.canLay0 (.list (ns.map intD)) = true := ints_lay ns
  unfold PySem.SeqAt.shaped
  rw [h1, decide_eq_true h2]
  rfl
/- a list of ints against an empty one -/
theorem ne_empty {l2 : Addr} {i1 : Array Value} {n1 n2 : Nat} {ns : List Nat} {Q : Value → Shared → Prop} (h1 : s.heap.get? l = some (listOf i1 n1)) (h2 : s.heap.get? l2 = some (listOf #[] n2)) (x1 : NatsAre i1.toList ns)
    (hu : A.units + 64 < cLine) (h : Q (.bool (!ns.isEmpty)) s) : wpAny (model prog w) A (compareOp .NotEq (.ref l) (.ref l2)) Q E s := by
  have r1 : Reads s.heap (.ref l) (.list (ns.map intD)) _ := .list h1 rfl rfl (ints_read x1)
  have r2 : Reads s.heap (.ref l2) (.list (([] : List Nat).map intD)) _ := .list h2 rfl rfl .nil
  refine ne_dataH r1 r2 (ints_shaped ns) (ints_shaped []) hu ?_
  have e : (PyData.list (ns.map intD)).eqv (PyData.list (([] : List Nat).map intD)) = ns.isEmpty := by cases ns <;> rfl
  rw [e]
  exact h
theorem pick_both {its : Array Value} {x y : Int} {a b : Nat} (hx : x = (a : Int)) (hy : y = (b : Int)) : (slicePick its (some x) (some y) none).toList = (its.toList.drop a).take (b - a) := by
  subst hx hy
  have e : sliceBounds (some (a : Int)) (some (b : Int)) none its.size = (((min a its.size : Nat) : Int), ((min b its.size : Nat) : Int), 1) := by
    simp only [sliceBounds, Option.getD_none, show (1 : Int) > 0 by decide, if_true, if_neg (Int.not_lt.mpr (Int.natCast_nonneg a)), if_neg (Int.not_lt.mpr (Int.natCast_nonneg b))]
    rw [clip_mm, clip_mm]
  rw [kmk_pick_nat _ e]
  show (its.toList.drop (min a its.size)).take (min b its.size - min a its.size) = _
  rw [← Array.length_toList]
  generalize its.toList = l
  rcases Nat.le_total a l.length with h | h
  · rw [Nat.min_eq_left h]
    rcases Nat.le_total b l.length with h2 | h2
    · rw [Nat.min_eq_left h2]
    · rw [Nat.min_eq_right h2, List.take_of_length_le (by rw [List.length_drop]; exact Nat.le_refl _), List.take_of_length_le (by rw [List.length_drop]; exact Nat.sub_le_sub_right h2 a)]
  · rw [Nat.min_eq_right h, List.drop_of_length_le (Nat.le_refl _), List.drop_of_length_le h, List.take_nil, List.take_nil]
end
end
/- S8 -/
section
open PySem PySem.W PySem.Calls PyProof.Rows PySem.Spec
theorem entry_contains_iter : entryFor table "proto.contains_iter" = some Builtin.«proto.contains_iter» := entryFor_of_tree (by kernel_rfl)
theorem plain_contains_iter : plainId "proto.contains_iter" = true := by decide +kernel
theorem no_values_contains : typeLookup (.type "dict_values") "__contains__" = pure none := by kernel_rfl
section
variable {prog : Program} {w : World} {A : Around} {E : Value → Shared → Prop} {s : Shared} {K : Type} [DecidableEq K] {knd : KeyKind prog w K}
theorem eqBool_none {v : Value} {Q : Bool → Shared → Prop} (hv : plainV v) (hu : A.units + 64 < cLine) (h : Q (v == .none) s) : wpAny (model prog w) A (eqBool v .none) Q E s := by
  cases v <;> first | exact hv.elim | skip
  · have r1 : Reads s.heap Value.none .none [] := .none
    exact PySem.SeqAt.eqAt_reads .none .none A s .none .none [] [] r1 r1 rfl rfl (by simp [PyData.depth]; omega) prog w E Q h
  · exact PySem.SeqAt.eqAt_reads (.int _) .none A s _ .none [] [] (Reads.int _ _) .none rfl rfl (by simp [PyData.depth]; omega) prog w E Q h
theorem iter_code (hh : A.handled = none) {R : Result → Shared → Prop} {it d : Addr} {ep : Nat} {kvs : List (K × Value)} (hd : d ≠ it) (hu : A.units + 70 < cLine) (hv : ∀ p ∈ kvs, plainV p.2) :
    ∀ (k i : Nat) (s : Shared), kvs.length - i = k → i ≤ kvs.length → s.heap.IsValIter it d i kvs.length ep → s.heap.DictAt knd d kvs ep →
      (∀ h' tk, (∀ b o, b ≠ it → s.heap.get? b = some o → h'.get? b = some o) → R (.ok (.ret (.bool (((kvs.drop i).map (·.2)).any (· == .none))))) { s with heap := h', toks := tk }) →
      codeAny (model prog w) A (.builtin "proto.contains_iter" ⟨[.ref it, .none], []⟩) R s := by
  intro k
  induction k with
  | zero =>
    intro i s hk hi hit hm done
    have hin : i = kvs.length := by omega
    subst hin
    refine codeAny_builtin entry_contains_iter ?_
    rw [Around.under_plainId plain_contains_iter _]
    refine wpAny_bind (wpAny_pyNext_values_end hh hit hm (by simp) fun h' hx => ?_)
    refine wpAny_bind (wpAny_rule (wpAny_pure ?_))
    have := done h' s.toks fun b o hb e => hx b o hb e
    simpa using this
  | succ k ih =>
    intro i s hk hi hit hm done
    have hlt : i < kvs.length := by omega
    have hx : kvs[i]? = some (kvs[i].1, kvs[i].2) := List.getElem?_eq_getElem hlt
    have hpl : plainV kvs[i].2 := hv _ (List.getElem_mem hlt)
    have hdrop : kvs.drop i = kvs[i] :: kvs.drop (i + 1) := List.drop_eq_getElem_cons hlt
    refine codeAny_builtin entry_contains_iter ?_
    rw [Around.under_plainId plain_contains_iter _]
    refine wpAny_bind (wpAny_pyNext_values_item hit hm hx fun h' hit' hs => ?_)
    have hm' : h'.DictAt knd d kvs ep := hm.at fun o e => hs.extBut d o hd e
    dsimp only
    refine wpAny_bind (eqBool_none hpl (by simp only [units_in1]; omega) ?_)
    cases e : (kvs[i].2 == Value.none) with
    | true =>
      rw [if_pos rfl]
      refine wpAny_bind (wpAny_rule (wpAny_pure ?_))
      have := done h' s.toks fun b o hb e => hs.extBut b o hb e
      rw [hdrop, List.map_cons, List.any_cons, e, Bool.true_or] at this
      exact this
    | false =>
      rw [if_neg (by simp)]
      refine wpAny_pure ⟨Code.quiet_builtin _ (by decide +kernel), ih (i + 1) { s with heap := h' } (by omega) hlt hit' hm' fun h2 tk k2 => ?_⟩
      have := done h2 tk fun b o hb e => k2 b o hb (hs.extBut b o hb e)
      rw [hdrop, List.map_cons, List.any_cons, e, Bool.false_or] at this
      exact this
/- None in d.values() -/
theorem none_in_values {g : Heap} {L v d : Addr} {m : Str → Option Value} {news : List (Addr × Obj)} {ep : Nat} {kvs : List (K × Value)} {Q : Value → Shared → Prop} (hh : A.handled = none) (hu : A.units + 80 < cLine) (F : Fr g L s.heap m) (N : News g L s.heap news)
    (hda : ∀ h : Heap, (∀ b o, g.get? b = some o → h.get? b = some o) → Heap.DictAt knd h d kvs ep) (hvw : (v, { cls := .type "dict_values", data := .fields #[.ref d] }) ∈ news) (hv : ∀ p ∈ kvs, plainV p.2)
    (h : ∀ h' tk, Fr g L h' m → News g L h' news → Q (.bool ((kvs.map (·.2)).any (· == .none))) { s with heap := h', toks := tk }) :
    wpAny (model prog w) A (compareOp .In .none (.ref v)) Q E s := by
  have hV : s.heap.IsValuesView v d := ⟨_, (N _ hvw).1, rfl, rfl⟩
  have hm := hda _ F.keep
  show wpAny _ _ (contains (.ref v) .none >>= fun b => pure (Value.bool b)) _ _ s
  refine wpAny_bind ?_
  unfold contains
  refine wpAny_holding ?_
  rw [stdlibNamesSay?_of_typeIs hV.typeIs]
  refine wpAny_bind (wpAny_specialOf hV.typeIs no_values_contains ?_)
  rw [if_neg (by simp)]
  refine wpAny_bind ?_
  simp only [callSpecialUnlessNone?]
  refine wpAny_bind (wpAny_specialOf hV.typeIs no_values_contains (wpAny_pure ?_))
  dsimp only
  refine wpAny_bind (wpAny_rule ?_)
  refine wpAny_bind (wpAny_tryCatch (wpAny_pyIter_values hV hm ?_))
  have hdlt : @LT.lt Nat _ d s.heap.objs.size := by obtain ⟨o, _, ho, _⟩ := id hm; exact Heap.lt_size ho
  have up : ∀ b o, s.heap.get? b = some o → (s.heap.push { cls := .type "dict_valueiterator", data := .fields #[.ref d, .int 0 0, .int kvs.length 0, .int ep 0] }).get? b = some o := fun b o e => Heap.get?_push_of_some _ e
  have hit : (s.heap.push { cls := .type "dict_valueiterator", data := .fields #[.ref d, .int 0 0, .int kvs.length 0, .int ep 0] }).IsValIter s.heap.objs.size d 0 kvs.length ep := ⟨_, Heap.get?_push_size _ rfl, rfl, rfl⟩
  refine wpAny_bind (wpAny_runValue (iter_code hh (Nat.ne_of_lt hdlt) (by omega) hv _ 0 { s with heap := _ } rfl (Nat.zero_le _) hit (hm.at fun o e => up d o e) fun h' tk k => ?_))
  have k2 : ∀ b o, s.heap.get? b = some o → h'.get? b = some o := fun b o e => k b o (Nat.ne_of_lt (Heap.lt_size e)) (up b o e)
  refine wpAny_pure (wpAny_pure ?_)
  rw [List.drop_zero]
  exact h h' tk (F.keeps k2) (N.grown k2)
end
end
/- S9 -/
section
open PySem PySem.W PySem.Calls PyProof.Rows PySem.Spec
theorem newDict_at {M : Model} {A : Around} {E : Value → Shared → Prop} {s : Shared} {Q : Value → Shared → Prop} (h : wpAny M A newDict (fun acc s' => acc = .ref s.heap.objs.size → Q acc s') E s) : wpAny M A newDict Q E s := fun Γ p hΓ => by
  have k := h Γ p hΓ
  exact k rfl
section
variable {prog : Program} {w : World} {A : Around} {E : Value → Shared → Prop} {s : Shared} {h₀ : Heap} {L : Addr} {m : Str → Option Value} {env : Env}
/- the source of a dict comprehension over a range, its items and what comes behind -/
structure DictRange (prog : Program) (w : World) (A : Around) (h₀ : Heap) (L : Addr) (m : Str → Option Value) (env : Env) (kx vx : Expr) (x y : Str) (scope : Scope) (cl : List (Str × Addr)) (Q : Flow → Shared → Prop) (knd : KeyKind prog w Int) (xv : Value) (s₁ : Shared) : Prop where
  ex : ∃ (r : Addr) (b : Int) (t u v : Tok) (n : Nat) (news : List (Addr × Obj)) (FK : Value → Int → Prop) (FV : Value → Value → Prop), xv = .ref r ∧ IsRange s₁.heap r 0 b 1 t u v ∧ Builtin.Range.small 0 b 1 = true ∧ Builtin.Range.rangeSize 0 b 1 = ((n : Nat) : Int) ∧ n ≤ sizeLine ∧ Fr h₀ L s₁.heap m ∧ News h₀ L s₁.heap news ∧
    (∀ C (i : Nat) t s₃ m₃ E', i < n → s₃.heap.Ns C m₃ → m₃ x = some (Value.int (i : Int) t) → (∀ b o, s₁.heap.get? b = some o → s₃.heap.get? b = some o) →
      wpAny (model prog w) A (eval kx (compEnvC scope cl C env)) (fun key s₄ => (∃ k, knd.is k key = true ∧ FK (Value.int (i : Int) t) k) ∧ Keeps s₃ s₄) E' s₃) ∧
    (∀ C (i : Nat) t s₃ m₃ E', i < n → s₃.heap.Ns C m₃ → m₃ x = some (Value.int (i : Int) t) → (∀ b o, s₁.heap.get? b = some o → s₃.heap.get? b = some o) →
      wpAny (model prog w) A (eval vx (compEnvC scope cl C env)) (fun z s₄ => FV (Value.int (i : Int) t) z ∧ Keeps s₃ s₄) E' s₃) ∧
    (∀ D (kvs : List (Int × Value)) (vs : List Value) h' tk, Fr h₀ L h' (fun z => if z = y then some (.ref D) else m z) → News h₀ L h' news → h₀.get? D = none → (D == sysModules) = false → h'.DictOf knd D kvs → vs.length = n → (∀ (j : Nat) (v : Value), vs[j]? = some v → ∃ t, v = Value.int (j : Int) t) → StoredAll FK FV vs kvs → Q .next { s₁ with heap := h', toks := tk })
theorem Assign_DictComp_range {kx vx iter : Expr} {x y : Str} {px py : Pos} {scope : Scope} {cl : List (Str × Addr)} {pos spos : Pos} {Q : Flow → Shared → Prop} (knd : KeyKind prog w Int)
    (hsw : swapsWith (.DictComp kx vx [⟨.Name x px, iter, [], 0⟩] scope pos) (some (.Name y py)) spos.line env = pure true) (hL : env.locals = L)
    (hh : A.handled = none) (hclos : closureFor scope env = pure cl) (hcell : ∀ z ∈ scope.names, z.2 ≠ .cell) (hkind : scope.kind = .function)
    (hbig : h₀.NoLimit) (hnames : ∀ z ∈ scope.names, z.2 = .local → scope.names.lookup z.1 = some .local) (hx : scope.names.lookup x = some .local)
    (hy : env.kindOf y = some .local) (hp : (env.scope.kind == .class || (env.scope.kind == .module && env.locals != env.globals)) = false)
    (h : wpAny (model prog w) A (eval iter env) (DictRange prog w A h₀ L m env kx vx x y scope cl Q knd) E s)
    (hs : ∀ x, foldedSetIterable iter env x = pure x := by intro _; rfl) :
    wpAny (model prog w) A (exec (.Assign [.Name y py] (.DictComp kx vx [⟨.Name x px, iter, [], 0⟩] scope pos) spos) env) Q E s := by
  subst hL
  rw [exec_Assign_Name_used _ _ _ _ hsw]
  refine wpAny_bind (wpAny_standAt (wpAny_bind ?_))
  show wpAny _ A (do let _ ← comprehension (.DictComp kx vx [⟨.Name x px, iter, [], 0⟩] scope pos) scope env _ newDict false (eval iter env) (some (assign (.Name y py) env))) _ _ s
  refine wpAny_bind (wpAny_mono (wpAny_comprehension_free (use := some (assign (.Name y py) env)) (Q := fun _ s' => Q .next s') rfl hs hclos hkind hnames
    (wpAny_mono h (fun xv s₁ h₁ => ?_) fun _ _ e => e)) (fun _ s' hq => wpAny_pure (wpAny_pure hq)) fun _ _ e => e)
  obtain ⟨r, b, t, u, v, n, news, FK, FV, rfl, hr, hsm, hn, hsz, F, N, hkey, hval, hQ⟩ := h₁.ex
  refine wpAny_pyIter_range hr hsm ?_
  have up : ∀ (s₃ : Shared), (∀ c o, c ∉ [s₁.heap.objs.size] → (s₁.heap.push { cls := .type "range_iterator", data := .fields #[rawInt 0, rawInt (Builtin.Range.rangeSize 0 b 1), rawInt 1] }).get? c = some o → s₃.heap.get? c = some o) → ∀ b o, s₁.heap.get? b = some o → s₃.heap.get? b = some o :=
    fun s₃ hk b o e => hk b o (fun hm => by rcases List.mem_cons.mp hm with rfl | hm; exact Nat.lt_irrefl _ (Heap.lt_size e); cases hm) (Heap.get?_push_of_some _ e)
  have hP9 : ∀ {i : Nat} {v : Value}, (i < n ∧ ∃ t, v = .int (0 + (i : Int) * 1) t) → i < n ∧ ∃ t, v = Value.int (i : Int) t := fun ⟨a, t, e⟩ => ⟨a, t, by rw [e]; congr 1; omega⟩
  refine newDict_at (wpAny_mono (Q := fun acc s₃ => wpAny (model prog w) A (newFunctionEnv scope env.globals cl [] env.qual none .none (some env)) (fun cenv s₄ =>
      codeAny (model prog w) A (.compStart (.DictComp kx vx [⟨.Name x px, iter, [], 0⟩] scope pos) 0 (.ref s₁.heap.objs.size) acc { cenv with scope := relabel scope env }) (fun r s' => acc = .ref (s₁.heap.objs.size + 1) → compPost (model prog w) A E (some (assign (.Name y py) env)) (fun _ s' => Q .next s') acc cenv.locals r s') s₄) E s₃) ?_
    (fun acc s₃ h e => wpAny_mono h (fun cenv s₄ h₄ => codeAny_mono h₄ fun r s' hr => hr (e.trans (by show Value.ref (s₁.heap.push _).objs.size = _; rw [Heap.size_push]))) fun _ _ e => e) fun _ _ e => e)
  refine comp_block_walkCD (knd := knd) (RR := fun acc C r s' => acc = .ref (s₁.heap.objs.size + 1) → compPost (model prog w) A E (some (assign (.Name y py) env)) (fun _ s' => Q .next s') acc C r s') (Walks.range hh s₁.heap.objs.size 0 1 n).bound hsz (fun _ => true)
    FK FV hcell hkind hx (by show IsRangeIter _ _ _ _ _; rw [hn]; simpa using Heap.get?_push_size _ rfl) ?_ ⟨?_, ?_, ?_⟩ ?_
  · intro b hb
    rw [List.mem_singleton.mp hb]
    show s₁.heap.objs.size < (s₁.heap.push _).objs.size
    rw [Heap.size_push]; exact Nat.lt_succ_self _
  · intro C i v s₃ m₃ E' hP hn hm hk
    exact wpAny_pure ⟨rfl, ⟨_, _, rfl, fun _ _ e => e⟩⟩
  · intro C i v s₃ m₃ E' hP hp' hn hm hk
    obtain ⟨hi, t, rfl⟩ := hP9 hP
    exact hkey C i t s₃ m₃ E' hi hn hm (up s₃ hk)
  · intro C i v s₃ m₃ E' hP hp' hn hm hk
    obtain ⟨hi, t, rfl⟩ := hP9 hP
    exact hval C i t s₃ m₃ E' hi hn hm (up s₃ hk)
  · intro D C h' tk m' kvs vs hD hC hDC hnC hlD hlen hP hF hk eD
    have hds : (D == sysModules) = false := by
      injection eD with eD
      rw [eD]
      exact beq_eq_false_iff_ne.mpr (Nat.ne_of_gt (Nat.lt_trans (modules_low hbig) (Nat.lt_succ_of_lt (Nat.lt_of_le_of_lt F.above F.ns.lt))))
    have hn : (s₁.heap.push { cls := .type "range_iterator", data := .fields #[rawInt 0, rawInt (Builtin.Range.rangeSize 0 b 1), rawInt 1] }).Ns env.locals m := F.ns.push _
    have hLf : env.locals ∉ [s₁.heap.objs.size] := fun hm => by
      rcases List.mem_cons.mp hm with e | hm
      · exact Nat.lt_irrefl _ (e ▸ F.ns.lt)
      · cases hm
    have hLC : env.locals ≠ C := by rintro rfl; obtain ⟨o, _, _, ho, _⟩ := hn; rw [hC] at ho; cases ho
    have hLD : env.locals ≠ D := by rintro rfl; obtain ⟨o, _, _, ho, _⟩ := hn; rw [hD] at ho; cases ho
    show wpAny _ A (assign (.Name y py) env (.ref D)) _ _ _
    refine wpAny_assign_Name (wpAny_storeName_local hy (hn.at' fun o e => hk _ o hLf e) (fun h₂ hn₂ hs₂ => ?_) hp)
    refine ⟨m', hnC.sameBut hs₂ (Ne.symm hLC), fun h₃ hs₃ => ?_⟩
    have keep : ∀ b o, b ≠ env.locals → s₁.heap.get? b = some o → h₃.get? b = some o := fun b o hb e =>
      hs₃.extBut b o (by rintro rfl; rw [Heap.get?_push_of_some _ e] at hC; cases hC) (hs₂.extBut b o hb (up { s₁ with heap := h' } hk b o e))
    have hD1 : s₁.heap.get? D = none := by
      cases e : s₁.heap.get? D with
      | none => rfl
      | some o' => rw [Heap.get?_push_of_some _ e] at hD; cases hD
    have hD0 : h₀.get? D = none := by
      cases e : h₀.get? D with
      | none => rfl
      | some o' => rw [F.keep _ _ e] at hD1; cases hD1
    refine hQ D kvs vs h₃ _ ⟨hn₂.sameBut hs₃ hLC, fun b o e => keep b o (Nat.ne_of_lt (Nat.lt_of_lt_of_le (Heap.lt_size e) F.above)) (F.keep b o e), F.above⟩
      (fun p hp => ⟨keep _ _ (N p hp).2.1 (N p hp).1, (N p hp).2⟩) hD0 hds ((hlD.extBut hs₂.extBut (Ne.symm hLD)).extBut hs₃.extBut hDC) hlen (fun j v e => (hP9 (hP j v e)).2) (by rwa [List.filter_eq_self.mpr (fun _ _ => rfl)] at hF)
theorem stored_range {its vs : List Value} {kvs : List (Int × Value)}
    (h : StoredAll (fun v k => ∃ (i : Nat) (t : Tok), v = Value.int (i : Int) t ∧ k = 2 * (i : Int)) (fun v z => ∃ (i : Nat) (t : Tok), v = Value.int (i : Int) t ∧ its[i]? = some z) vs kvs)
    (hv : ∀ (j : Nat) (v : Value), vs[j]? = some v → ∃ t, v = Value.int (j : Int) t) : kvs.map (·.2) = its.take vs.length ∧ ∀ p ∈ kvs, p.1 < 2 * (vs.length : Int) := by
  induction h with
  | nil => exact ⟨rfl, fun p hp => nomatch hp⟩
  | @snoc l kvs v k y _ hk hy ih =>
    obtain ⟨e1, e2⟩ := ih fun j v e => hv j v (by rw [List.getElem?_append_left (List.getElem?_eq_some_iff.mp e).1]; exact e)
    obtain ⟨t0, rfl⟩ := hv l.length v (by simp)
    obtain ⟨i, t, ei, rfl⟩ := hk
    obtain ⟨j, t', ej, hj⟩ := hy
    injection ei with ei _
    injection ej with ej _
    obtain rfl : l.length = i := by omega
    obtain rfl : l.length = j := by omega
    have ha : (kvs.any fun kv => decide (kv.1 = 2 * (l.length : Int))) = false := by
      rw [List.any_eq_false]
      intro p hp
      have := e2 p hp
      simp only [decide_eq_true_eq]; omega
    have es : stored kvs (2 * (l.length : Int)) y = kvs ++ [(2 * (l.length : Int), y)] := by
      unfold stored; rw [ha]; rfl
    rw [es, List.length_append, List.length_singleton]
    refine ⟨?_, fun p hp => ?_⟩
    · rw [List.map_append, e1, List.take_add_one, hj]; rfl
    · rcases List.mem_append.mp hp with hp | hp
      · have := e2 p hp; omega
      · rw [List.mem_singleton.mp hp]; show 2 * (l.length : Int) < _; omega
end
end
/- S10 -/
section
open PySem PySem.W PySem.Calls PyProof.Rows
noncomputable abbrev KeyOrd (key : Nat → Nat) (a b : Nat) : Prop := key a < key b ∨ (key a = key b ∧ a < b)
noncomputable def keyLt (key : Nat → Nat) (ns : List Nat) (i j : Nat) : Bool := decide (KeyOrd key (ns.getD i 0) (ns.getD j 0))
theorem keyOrd_trans {key : Nat → Nat} {a b c : Nat} : KeyOrd key a b → KeyOrd key b c → KeyOrd key a c := by
  rintro (h | ⟨e, h⟩) (k | ⟨f, k⟩)
  · exact .inl (Nat.lt_trans h k)
  · exact .inl (f ▸ h)
  · exact .inl (e ▸ k)
  · exact .inr ⟨e.trans f, Nat.lt_trans h k⟩
theorem keyOrd_asymm {key : Nat → Nat} {a b : Nat} : KeyOrd key a b → ¬ KeyOrd key b a := by
  rintro (h | ⟨e, h⟩) (k | ⟨f, k⟩)
  · exact Nat.lt_asymm h k
  · exact Nat.ne_of_gt h f
  · exact Nat.ne_of_gt k e
  · exact Nat.lt_asymm h k
theorem keyOrd_total {key : Nat → Nat} {a b : Nat} (hne : a ≠ b) : KeyOrd key a b ∨ KeyOrd key b a := by
  rcases Nat.lt_trichotomy (key a) (key b) with h | h | h
  · exact .inl (.inl h)
  · rcases Nat.lt_or_gt_of_ne hne with k | k
    · exact .inl (.inr ⟨h, k⟩)
    · exact .inr (.inr ⟨h.symm, k⟩)
  · exact .inr (.inl h)
theorem keyLt_strict {key : Nat → Nat} {ns : List Nat} (hnd : ns.Nodup) : Strict ns.length (keyLt key ns) where
  tr a b c _ _ _ h1 h2 := decide_eq_true (keyOrd_trans (of_decide_eq_true h1) (of_decide_eq_true h2))
  as a b _ _ h := decide_eq_false (keyOrd_asymm (of_decide_eq_true h))
  tot a b ha hb hab := by
    have ea : ns.getD a 0 = ns[a] := by simp [ha]
    have eb : ns.getD b 0 = ns[b] := by simp [hb]
    have hne : ns.getD a 0 ≠ ns.getD b 0 := fun e => hab ((List.getElem_inj hnd).mp (by rw [← ea, ← eb]; exact e))
    rcases keyOrd_total (key := key) hne with h | h
    · exact .inl (decide_eq_true h)
    · exact .inr (decide_eq_true h)
noncomputable abbrev KeysIn (key : Nat → Nat) (tups : List (Addr × Obj)) (ks : List Value) (kn : List Nat) : Prop := Paired (fun k n => ∃ T t1 t2, k = Value.ref T ∧ (T, tupOf [.int ((key n : Nat) : Int) t1, .int ((n : Nat) : Int) t2]) ∈ tups) ks kn
theorem keysIn_more {key : Nat → Nat} {tups tups' : List (Addr × Obj)} {ks : List Value} {kn : List Nat} (x : KeysIn key tups ks kn) (h : ∀ p ∈ tups, p ∈ tups') : KeysIn key tups' ks kn := x.mono fun _ _ ⟨T, t1, t2, e, m⟩ => ⟨T, t1, t2, e, h _ m⟩
theorem keysIn_tups {key : Nat → Nat} {h : Heap} {tups : List (Addr × Obj)} {ks : List Value} {kn : List Nat} (x : KeysIn key tups ks kn) (H : ∀ p ∈ tups, h.get? p.1 = some p.2) : ∃ fs, KatTups h ks fs ∧ fs.length = kn.length ∧ ∀ v ∈ fs, ∃ n t, v = Value.int n t := by
  induction x with
  | nil => exact ⟨[], .nil, rfl, fun v h => nomatch h⟩
  | cons a _ ih =>
    obtain ⟨T, t1, t2, rfl, m⟩ := a
    obtain ⟨fs, h1, h2, h3⟩ := ih
    exact ⟨_ :: fs, .cons (H _ m) rfl rfl rfl h1, congrArg (· + 1) h2, List.forall_mem_cons.mpr ⟨⟨_, _, rfl⟩, h3⟩⟩
section
variable {prog : Program} {w : World} {A : Around} {E : Value → Shared → Prop} {s : Shared} {g : Heap} {L : Addr} {m : Str → Option Value} {news : List (Addr × Obj)} {key : Nat → Nat}
/- what lies outside the heap, as it was -/
noncomputable def Else (s s' : Shared) : Prop := s'.os = s.os ∧ s'.drawn = s.drawn ∧ (AllBare s.gens → AllBare s'.gens)
theorem Else.next {s s' s'' : Shared} {ts : List Addr} (a : Else s s') (k : Kept ts s' s'') : Else s s'' := ⟨k.os.trans a.1, k.drawn.trans a.2.1, fun q => k.gens (a.2.2 q)⟩
/- the key function: of n a new pair of key n and n -/
noncomputable def KeyCall (prog : Program) (w : World) (A : Around) (key : Nat → Nat) (f : Addr) (g : Heap) (L : Addr) (m : Str → Option Value) (news : List (Addr × Obj)) (ns : List Nat) : Prop :=
  ∀ (n : Nat) (t : Tok) (s' : Shared) (Q' : Value → Shared → Prop), n ∈ ns → Fr g L s'.heap m → News g L s'.heap news →
    (∀ s'' T t1 t2, Kept [] s' s'' → s'.heap.get? T = none → s''.heap.get? T = some (tupOf [.int ((key n : Nat) : Int) t1, .int ((n : Nat) : Int) t2]) → Q' (.ref T) s'') → wpAny (model prog w) A (call (.ref f) [.int ((n : Nat) : Int) t]) Q' (fun _ _ => False) s'
theorem keys_go {D kS f : Addr} {oD : Obj} {ns : List Nat} {Fin : List Value → Nat → Shared → Prop} (hc : KeyCall prog w A key f g L m news ns)
    (fin : ∀ ks e s' tups, KeysIn key tups ks ns → Fr g L s'.heap m → News g L s'.heap ((kS, seqObj "list" ks.toArray e) :: (D, oD) :: (tups ++ news)) → (∀ p ∈ (D, oD) :: (tups ++ news), p.1 ≠ kS) → (∀ p ∈ tups ++ news, p.1 ≠ D) → Else s s' → Fin ks e s') :
    ∀ (r : List Value) (rn kn : List Nat) (ks : List Value) (e : Nat) (s' : Shared) (tups : List (Addr × Obj)), kn ++ rn = ns → NatsAre r rn → KeysIn key tups ks kn → Fr g L s'.heap m → News g L s'.heap ((kS, seqObj "list" ks.toArray e) :: (D, oD) :: (tups ++ news)) →
      (∀ p ∈ (D, oD) :: (tups ++ news), p.1 ≠ kS) → (∀ p ∈ tups ++ news, p.1 ≠ D) → Else s s' → KatKeys prog w A g L m kS (.ref f) Fin r ks e s'
  | _, _, kn, ks, e, s', tups, hn, .nil, hk, F, N, o1, o2, hE => by
    rw [List.append_nil] at hn
    subst hn
    exact KatKeys.nil (fin ks e s' tups hk F N o1 o2 hE)
  | _, n :: rn, kn, ks, e, s', tups, hn, .cons (a := v) h hr, hk, F, N, o1, o2, hE => by
    obtain ⟨t, rfl⟩ := h
    refine KatKeys.cons (hc n t s' _ (by rw [← hn]; simp) F (fun p hp => N p (.tail _ (.tail _ (List.mem_append_right _ hp)))) ?_)
    intro s'' T t1 t2 Kp e1 e2
    have F2 := kept_fr0 Kp F
    have N2 := news_fresh Kp F (kept_news0 Kp N) e1 e2
    have q : ∀ p ∈ (kS, seqObj "list" ks.toArray e) :: (D, oD) :: (tups ++ news), p.1 ≠ T := fun p hp q => by
      have := (N p hp).1
      rw [q, e1] at this; cases this
    have o1' : ∀ p ∈ (D, oD) :: (((T, tupOf [.int ((key n : Nat) : Int) t1, .int ((n : Nat) : Int) t2]) :: tups) ++ news), p.1 ≠ kS := fun p hp => by
      rcases List.mem_cons.mp hp with rfl | hp
      · exact o1 _ (.head _)
      rcases List.mem_cons.mp hp with rfl | hp
      · exact Ne.symm (q _ (.head _))
      · exact o1 _ (.tail _ hp)
    have o2' : ∀ p ∈ ((T, tupOf [.int ((key n : Nat) : Int) t1, .int ((n : Nat) : Int) t2]) :: tups) ++ news, p.1 ≠ D := fun p hp => by
      rcases List.mem_cons.mp hp with rfl | hp
      · exact Ne.symm (q _ (.tail _ (.head _)))
      · exact o2 _ hp
    refine KatBack.intro (news := (kS, seqObj "list" ks.toArray e) :: (D, oD) :: (((T, tupOf [.int ((key n : Nat) : Int) t1, .int ((n : Nat) : Int) t2]) :: tups) ++ news)) F2 (fun p hp => ?_) (.head o1') ?_
    · rcases List.mem_cons.mp hp with rfl | hp
      · exact N2 _ (.tail _ (.head _))
      rcases List.mem_cons.mp hp with rfl | hp
      · exact N2 _ (.tail _ (.tail _ (.head _)))
      rcases List.mem_cons.mp hp with rfl | hp
      · exact N2 _ (.head _)
      · exact N2 _ (.tail _ (.tail _ (.tail _ hp)))
    · intro h' c F3 N3
      exact keys_go hc fin _ rn (kn ++ [n]) _ c _ _ (by rw [← hn]; simp) hr (two_append (keysIn_more hk fun p hp => .tail _ hp) (.cons ⟨T, t1, t2, rfl, .head _⟩ .nil)) F3 N3 o1' o2' (show Else s s'' from hE.next Kp)
theorem eq_of_int {a b : Nat} : (((a : Nat) : Int) == ((b : Nat) : Int)) = decide (a = b) := by
  rw [Bool.eq_iff_iff, beq_iff_eq, decide_eq_true_iff]
  exact ⟨Int.ofNat.inj, fun e => congrArg _ e⟩
theorem lt_of_int {a b : Nat} : decide (((a : Nat) : Int) < ((b : Nat) : Int)) = decide (a < b) := by
  rw [Bool.eq_iff_iff, decide_eq_true_iff, decide_eq_true_iff]; omega
theorem lex_two {a b c d : Nat} {ta tb tc td : Tok} {fin : Bool} {C : Bool → Shared → Prop} (hf : fin = false) (hC : C (decide (a < c ∨ (a = c ∧ b < d))) s) :
    KatLex prog w A true fin C [(Value.int ((a : Nat) : Int) ta, Value.int ((c : Nat) : Int) tc), (Value.int ((b : Nat) : Int) tb, Value.int ((d : Nat) : Int) td)] 0 s := by
  refine kat_cons (wpAny_eqBool_int ?_)
  rw [eq_of_int]
  by_cases h : a = c
  · rw [decide_eq_true h]
    refine kat_yes (kat_cons (wpAny_eqBool_int ?_))
    rw [eq_of_int]
    by_cases h2 : b = d
    · rw [decide_eq_true h2]
      refine kat_yes (kat_nil ?_)
      have : decide (a < c ∨ (a = c ∧ b < d)) = false := decide_eq_false (by omega)
      rw [this] at hC
      rw [hf]
      exact hC
    · rw [decide_eq_false h2]
      refine kat_no (kat_one _ _ (PyProof.Rows.lt_int ?_))
      show C _ s
      rw [lt_of_int]
      have : decide (a < c ∨ (a = c ∧ b < d)) = decide (b < d) := by
        rw [Bool.eq_iff_iff, decide_eq_true_iff, decide_eq_true_iff]; omega
      rw [this] at hC
      exact hC
  · rw [decide_eq_false h]
    refine kat_no (oneLt_int ?_)
    rw [lt_of_int]
    have : decide (a < c ∨ (a = c ∧ b < d)) = decide (a < c) := by
      rw [Bool.eq_iff_iff, decide_eq_true_iff, decide_eq_true_iff]; omega
    rw [this] at hC
    exact hC
theorem keys_ask {kn : List Nat} {tups : List (Addr × Obj)} {ks : List Value} (hk : KeysIn key tups ks kn) {i j : Nat} {C : Bool → Shared → Prop} (hi : i < kn.length) (hj : j < kn.length) (H : ∀ p ∈ tups, s.heap.get? p.1 = some p.2) (hC : C (keyLt key kn i j) s) : kas_ask prog w A (tuples' true) ks i j C s := by
  unfold kas_ask
  have hl := hk.length
  have at_ : ∀ i, i < kn.length → ∃ T t1 t2, ks.getD i Value.none = Value.ref T ∧ s.heap.get? T = some (tupOf [.int ((key (kn.getD i 0) : Nat) : Int) t1, .int ((kn.getD i 0 : Nat) : Int) t2]) := fun i hi => by
    have e1 : ks[i]? = some (ks.getD i Value.none) := by simp [hl ▸ hi]
    have e2 : kn[i]? = some (kn.getD i 0) := by simp [hi]
    obtain ⟨T, t1, t2, e, m⟩ := two_get hk e1 e2
    exact ⟨T, t1, t2, e, H _ m⟩
  obtain ⟨T, t1, t2, e1, g1⟩ := at_ i hi
  obtain ⟨U, u1, u2, e2, g2⟩ := at_ j hj
  rw [e1, e2]
  unfold keyLt at hC
  revert hC g1 g2
  generalize kn.getD i 0 = a
  generalize kn.getD j 0 = b
  intro hC g1 g2
  exact kat_lt (xs := #[.int ((key a : Nat) : Int) t1, .int ((a : Nat) : Int) t2]) (ys := #[.int ((key b : Nat) : Int) u1, .int ((b : Nat) : Int) u2]) g1 rfl g2 rfl (lex_two (decide_eq_false (Nat.lt_irrefl _)) hC)
theorem nats_getD {vs : List Value} {ns : List Nat} (x : NatsAre vs ns) {is : List Nat} (h : ∀ i ∈ is, i < vs.length) : NatsAre (is.map fun i => vs.getD i Value.none) (is.map fun i => ns.getD i 0) := by
  induction is with
  | nil => exact .nil
  | cons i is ih =>
    have hi := h i (.head _)
    have hl := x.length
    refine .cons ?_ (ih fun j hj => h j (.tail _ hj))
    have e1 : vs[i]? = some (vs.getD i Value.none) := by simp [hi]
    have e2 : ns[i]? = some (ns.getD i 0) := by simp [hl ▸ hi]
    exact two_get x e1 e2
/- sorted(l, key=f), the items numbers, the keys pairs -/
theorem sorted_keyed {l f : Addr} {vs : List Value} {ns : List Nat} {Q : Value → Shared → Prop} (F : Fr g L s.heap m) (N : News g L s.heap news) (hl : s.heap.IsList l vs.toArray) (hn : NatsAre vs ns) (h1 : 0 < ns.length) (h64 : ns.length < 64) (hnd : ns.Nodup)
    (hc : KeyCall prog w A.in1.in1 key f g L m news ns)
    (hQ : ∀ s' D c rs out, Fr g L s'.heap m → News g L s'.heap ((D, listOf out c) :: news) → (∀ q ∈ news, q.1 ≠ D) → Else s s' → rs.Perm ns → rs.Pairwise (KeyOrd key) → NatsAre out.toList rs → Q (.ref D) s') :
    wpAny (model prog w) A (call (.builtin "sorted") [.ref l] [(Str.ofString "key", .ref f)]) Q E s := by
  have hvl := hn.length
  by_cases h2 : 2 ≤ vs.length
  · refine kat_sortedK (b := false) F N hl h2 (by omega) (ksk_s1 _ _) (fun x => ksk_l1 _ _) (fun x => ksk_t1 _ _) ?_
    intro D kS e1 h' F1 N1 l1 l2
    refine keys_go (s := s) hc ?_ vs ns [] [] 0 _ [] rfl hn .nil F1 N1 (fun p hp => ?_) (fun p hp => Nat.ne_of_lt (l2 p hp)) ⟨rfl, rfl, id⟩
    · intro ks e s' tups hk F2 N2 o1 o2 hE
      obtain ⟨fs, k1, k2, k3⟩ := keysIn_tups hk fun p hp => (N2 p (.tail _ (.tail _ (List.mem_append_left _ hp)))).1
      refine kat_kind (T := .type "int") k1 (by omega) (fun v hv => by obtain ⟨n, t, rfl⟩ := k3 v hv; exact .now) (by decide) ?_
      show (kas_sort vs.length).kasWp (kas_ask prog w A.in1.in1 (tuples' true) ks) _ _
      refine kasWp_kev (n := vs.length) (lt := keyLt key ns) (I := fun s4 => s4 = s') (fun i j C s4 hi hj e4 hC => ?_) _ (sort_in (by omega)) rfl fun s4 e4 => ?_
      · subst e4
        exact keys_ask hk (by omega) (by omega) (fun p hp => (N2 p (.tail _ (.tail _ (List.mem_append_left _ hp)))).1) (hC _ rfl)
      · subst e4
        obtain ⟨P, hs⟩ := sort_ok (keyLt_strict (key := key) hnd) h1
        refine KatFin.intro (news := (kS, seqObj "list" ks.toArray e) :: (D, seqObj "list" #[] e1) :: (tups ++ news)) F2 N2 (.head o1) fun h7 c7 F7 N7 => ?_
        refine KasFin.intro F7 (fun p hp => N7 p (.tail _ hp) : News g L _ ((D, seqObj "list" #[] e1) :: (tups ++ news))) (.head o2) fun h8 c8 F8 N8 => ?_
        rw [hvl] at N8
        refine hQ _ D c8 ((kev (keyLt key ns) (kas_sort ns.length)).toList.map fun i => ns.getD i 0) _ F8 (fun p hp => N8 p ?_) (fun q hq => o2 q (List.mem_append_right _ hq)) hE (perm_getD P) ?_ (nats_getD hn fun i hi => by rw [hvl]; exact perm_lt P i hi)
        · rcases List.mem_cons.mp hp with rfl | hp
          · exact .head _
          · exact .tail _ (List.mem_append_right _ hp)
        · rw [List.pairwise_map]
          exact (srt_pair P hs).imp fun h => of_decide_eq_true h
    · rcases List.mem_cons.mp hp with rfl | hp
      · exact Nat.ne_of_lt l1
      · exact Nat.ne_of_lt (Nat.lt_trans (l2 p hp) l1)
  · obtain ⟨v, rfl⟩ := List.length_eq_one_iff.mp (show vs.length = 1 by omega)
    obtain ⟨n, rfl⟩ := List.length_eq_one_iff.mp (show ns.length = 1 by omega)
    have hv : ∃ t, v = Value.int ((n : Nat) : Int) t := two_get hn (i := 0) rfl rfl
    obtain ⟨t, rfl⟩ := hv
    refine sorted_oneK F N hl (fun h' F1 N1 => hc n t _ _ (.head _) F1 N1 fun s'' T t1 t2 Kp _ _ => Kp) ?_
    intro s' D c F1 N1 l1 e1 e2 e3
    exact hQ s' D c [n] _ F1 N1 (fun q hq => Nat.ne_of_lt (l1 q hq)) ⟨e1, e2, e3⟩ (.refl _) (by simp) (.cons ⟨t, rfl⟩ .nil)
end
end
/- S11 -/
section
open PySem PySem.W PySem.Calls PyProof.Rows PySem.Spec
section
variable {M : Model} {A : Around} {E : Value → Shared → Prop} {s : Shared} {g : Heap} {L c P bm : Addr} {m mg mb : Str → Option Value} {news : List (Addr × Obj)} {env : Env} {p : Program} {loose : List Str} {ob : Obj} {name qual : Str} {params : Arguments} {body : PySem.Expr} {scope : Scope} {ps : Array Value} {pos : Pos} {firstLine : Nat} {clos : List (Str × Addr)}
/- a lambda made: its code goes into the table of places of the code around it -/
theorem lam_made {Q : Value → Shared → Prop} (F : Fr g L s.heap m) (N : News g L s.heap ((P, tabObj ps) :: news)) (hP : ∀ q ∈ news, q.1 ≠ P) (TG : TopRead p loose mg mb g) (B : BMod g mainGlobals mg bm ob) (C : CodeHd g c P) (hge0 : env.globals = mainGlobals) (hcode : env.code = .ref c)
    (ht : TriplesOk ps.toList) (hnf : codeAmong pos ps.toList = none) (hcl : closureFor scope env = pure clos)
    (h : ∀ f c' oc vs t ctv h' tk, Fr g L h' m →
      News g L h' ((f, kla_obj name qual params body scope clos ((mg "__name__").getD .none) c' ctv) :: (c', oc) :: (P, tabObj (ps ++ #[rawInt pos.line, rawInt pos.col, .ref c'])) :: news) →
      oc.data = .fields vs → vs[1]? = some (.str qual t) → (∀ q ∈ (P, tabObj ps) :: news, q.1 < c') → c' < f → Q (.ref f) { s with heap := h', toks := tk }) :
    wpAny M A (makeFunction name qual params (.expr body) scope env [] [] [] pos firstLine) Q E s := by
  have hm := N (P, tabObj ps) (.head _)
  have hgs := TG.g.keeps F.keep
  have hgP : mainGlobals ≠ P := fun q => by
    obtain ⟨o, es, ep, e, hd, _⟩ := hgs
    rw [q, hm.1] at e; cases e; cases hd
  have hbP : bm ≠ P := fun q => by
    have e := F.keep _ _ B.obj
    rw [q, hm.1] at e; cases e; cases B.cls
  have hbG : bm ≠ mainGlobals := fun q => by
    obtain ⟨o, es, ep, e, hd, _⟩ := TG.g
    have b3 := B.obj
    rw [q, e] at b3; cases b3; have b6 := B.data; rw [hd] at b6; cases b6
  refine kla_makeFunction (mg := mg) hcl hge0 hgs hcode (C.keeps F.keep) hm.1 ht hnf hgP ⟨bm, ob, B.name, B.ne, hbG, hbP, F.keep _ _ B.obj, B.cls, B.dict, B.data⟩ fun c' ctv h' tk hx hge hlt hrec htb => ?_
  obtain ⟨c₂, oc, vs, t, e2, hoc, hd, hv⟩ := hrec
  cases e2
  have hLs : L < s.heap.objs.size := F.ns.lt
  have hLc : L < c' := Nat.lt_of_lt_of_le hLs hge
  have old : ∀ b o, g.get? b = some o → h'.get? b = some o := fun b o e => hx b o (fun q => by rw [q, hm.2.2] at e; cases e) (F.keep b o e)
  have fresh : ∀ b, L < b → g.get? b = none := fun b hb => Heap.get?_none_of_le (Nat.le_trans F.above (Nat.le_of_lt hb))
  refine h h'.objs.size c' oc vs t ctv _ tk ⟨(F.ns.extBut hx hm.2.1.symm).push _, fun b o e => Heap.get?_push_of_some _ (old b o e), F.above⟩ (fun q hq => ?_) hd hv
    (fun q hq => Nat.lt_of_lt_of_le (Heap.lt_size (N q hq).1) hge) hlt
  rcases List.mem_cons.mp hq with rfl | hq
  · exact ⟨Heap.get?_push_size _ rfl, Nat.ne_of_gt (Nat.lt_trans hLc hlt), fresh _ (Nat.lt_trans hLc hlt)⟩
  rcases List.mem_cons.mp hq with rfl | hq
  · exact ⟨Heap.get?_push_of_some _ hoc, Nat.ne_of_gt hLc, fresh _ hLc⟩
  rcases List.mem_cons.mp hq with rfl | hq
  · exact ⟨Heap.get?_push_of_some _ htb, hm.2⟩
  · have n := N q (.tail _ hq)
    exact ⟨Heap.get?_push_of_some _ (hx _ _ (hP q hq) n.1), n.2⟩
end
section
variable {prog : Program} {w : World} {A : Around} {s : Shared} {K : Frag} {H₀ : Heap} {p : Program} {loose : List Str} {mg mb : Str → Option Value}
  {R : Result → Shared → Prop} {name qual : Str} {params : Arguments} {body : PySem.Expr} {scope : Scope} {pm ctv : Value} {c' f : Addr} {args : Args} {binds : List (Str × Value)} {cl : List (Str × Addr)}
/- into a lambda's body; what lies in T is told, all else of the heap is behind the wall -/
theorem enterE (T : List (Addr × Obj)) (hT : ∀ q ∈ T, s.heap.get? q.1 = some q.2) (HS : Sub H₀ s.heap) (hT0 : ∀ q ∈ T, H₀.get? q.1 = none) (X : K.In H₀) (TR : TopRead p loose mg mb H₀)
    (ho : s.heap.get? f = some (kla_obj name qual params body scope cl pm c' ctv)) (hcd : s.heap.CodeRec (.ref c') qual) (hroom : A.depth < recursionLimit)
    (hbind : bindArgs (kla_fn name qual params body scope cl pm (.ref c') ctv) args = pure binds) (hloc : ∀ y ∈ binds, scope.names.lookup y.1 = some .local)
    (hcell : ∀ x ∈ scope.names, x.2 ≠ .cell) (hco : scope.isCoroutine = false) (hgen : scope.isGenerator = false) (hk : scope.kind = .function)
    (h : ∀ g L' h₁, Fr g L' h₁ (fun y => binds.reverse.lookup y) → News g L' h₁ T → K.In g → TopRead p loose mg mb g → Sub H₀ g →
      (∀ b o, b ∉ T.map (·.1) → s.heap.get? b = some o → g.get? b = some o) → Sub s.heap h₁ → L' = s.heap.objs.size →
      wpAny (model prog w) (A.deeper (envX qual scope L' f (.ref c') cl)) (eval body (envX qual scope L' f (.ref c') cl)) (fun v s' => R (.ok (.ret v)) s') (fun _ _ => False)
        { s with heap := h₁, toks := s.toks + binds.length }) : codeAny (model prog w) A (.call (.ref f) args) R s := by
  have nm : ∀ b o, H₀.get? b = some o → b ∉ T.map (·.1) := fun b o e q => by
    obtain ⟨r, hr, rfl⟩ := List.mem_map.mp q
    rw [hT0 r hr] at e; cases e
  have st : Sub H₀ (hideAll s.heap (T.map (·.1))) := fun b o e => hideAll_get _ (HS b o e) (nm b o e)
  refine kla_callFunE hroom ho rfl hco hgen rfl hcd ?_
  rw [hbind]
  refine wpAny_pure (wpAny_newFunctionEnv hcell hloc (fun h₁ hns hsb => ⟨(TR.nolimit.keeps HS).fresh _ hsb, ?_⟩) hk)
  show codeAny _ _ (.expr body (envX qual scope s.heap.objs.size f (.ref c') cl)) _ _
  have hk₁ : ∀ b o, s.heap.get? b = some o → h₁.get? b = some o := fun b o e => hsb.extBut b o (Nat.ne_of_lt (Heap.lt_size e)) (Heap.get?_push_of_some _ e)
  exact kla_codeExpr (wpAny_mono (h _ s.heap.objs.size h₁ ⟨hns, fun b o e => hk₁ b o (of_hideAll _ e), Nat.le_of_eq (hideAll_size _ _)⟩
    (fun q hq => ⟨hk₁ _ _ (hT q hq), Nat.ne_of_lt (Heap.lt_size (hT q hq)), hideAll_none _ (List.mem_map_of_mem hq)⟩) (X.keeps st) (TR.keeps st) st (fun b o hb e => hideAll_get _ e hb) hk₁ rfl) (fun _ _ y => y) fun _ _ y => y.elim)
end
end
/- S12 -/
section
open PySem PySem.W PySem.Calls PyProof.Rows PySem.Spec
section
variable {prog : Program} {w : World} {A : Around} {E : Value → Shared → Prop} {s : Shared} {l l2 : Addr}
theorem strs_read {h : Heap} {vs : List Value} {ts : List Str} (x : StrsAre vs ts) : ReadsAll h vs (ts.map PyData.str) [] := by
  induction x with
  | nil => exact .nil
  | cons _ _ _ ih => exact ReadsAll.cons (as := []) (Reads.str _ _) ih
theorem strs_lay {ts : List Str} (h : ∀ t ∈ ts, PyData.strOk t = true) : PyData.canLayAll0 (ts.map PyData.str) = true := by
  induction ts with
  | nil => rfl
  | cons t ts ih =>
    have h1 := h t (.head _)
    have h2 := ih fun x hx => h x (.tail _ hx)
    simp only [List.map_cons, PyData.canLayAll0, PyData.canLay0, h1, h2, Bool.and_self]
theorem strs_depth (ts : List Str) : PyData.depthAll (ts.map PyData.str) ≤ 1 := by
  induction ts with
  | nil => simp [PyData.depthAll]
  | cons n ns ih => simp only [List.map_cons, PyData.depthAll, PyData.depth]; omega
theorem strs_shaped {ts : List Str} (h : ∀ t ∈ ts, PyData.strOk t = true) : PySem.SeqAt.shaped (.list (ts.map PyData.str)) = true := by
  have := strs_depth ts
  have h2 : PyData.depth (.list (ts.map PyData.str)) ≤ 64 := by simp only [PyData.depth]; omega
  have h1 : PyData.canLay0 (.list (ts.map PyData.str)) = true := strs_lay h
  unfold PySem.SeqAt.shaped
  rw [h1, decide_eq_true h2]
  rfl
/- two lists of the same texts -/
theorem ne_strs {i1 i2 : Array Value} {n1 n2 : Nat} {ts : List Str} {Q : Value → Shared → Prop} (h1 : s.heap.get? l = some (listOf i1 n1)) (h2 : s.heap.get? l2 = some (listOf i2 n2)) (x1 : StrsAre i1.toList ts) (x2 : StrsAre i2.toList ts) (hok : ∀ t ∈ ts, PyData.strOk t = true)
    (hu : A.units + 64 < cLine) (h : Q (.bool false) s) : wpAny (model prog w) A (compareOp .NotEq (.ref l) (.ref l2)) Q E s := by
  have r1 : Reads s.heap (.ref l) (.list (ts.map PyData.str)) _ := .list h1 rfl rfl (strs_read x1)
  have r2 : Reads s.heap (.ref l2) (.list (ts.map PyData.str)) _ := .list h2 rfl rfl (strs_read x2)
  refine ne_dataH r1 r2 (strs_shaped hok) (strs_shaped hok) hu ?_
  rw [PySem.SeqAt.eqv_refl _ (show PyData.canLay0 (.list (ts.map PyData.str)) = true from strs_lay hok)]
  exact h
end
end
/- L1_2k -/
local macro_rules | `(tactic| k_inst) => `(tactic| (refine' inst_news ?N9 ?h19 ?h29; (case N9 => k_asm); (case h19 => k_mem); (case h29 => k_mem)))
local macro_rules | `(tactic| k_all) => `(tactic| assumption)
local macro_rules | `(tactic| walk_at "getMethod ref") => `(tactic| (k_here; k_dflt (first
  | (refine' method_bil (ox := lobj _ _ _ _) ?X9 ?I9 ?g9 ?f9 ?t9 ?l9 ?_; (case X9 => k_in); (case I9 => k_inst); (case f9 => k_is); (case g9 => kernel_rfl); (case t9 => k_is); (case l9 => k_get); k_whole)
  | (refine' method_fnl (ox := lobj _ _ _ _) ?X9 ?I9 ?g9 ?f9 ?t9 ?l9 ?_; (case X9 => k_in); (case I9 => k_inst); (case f9 => k_is); (case g9 => kernel_rfl); (case t9 => k_is); (case l9 => k_get); k_whole))))
local macro_rules | `(tactic| walk_at "call builtin:list.append") => `(tactic| (k_here; (with_reducible show wpAny _ _ (call (Value.builtin _) [Value.ref _, _]) _ _ _); k_dflt (refine' append_lobj ?F9 ?X9 ?N9 ?m9 ?I9 ?U9 ?_ ?z9; (case F9 => k_asm); (case X9 => k_asm); (case N9 => k_asm); (case I9 => k_inst); (case m9 => k_is); (case U9 => k_upd); (case z9 => first | assumption | size_fits); k_whole); intro h' F' N'; (try k_sweep)))
local macro_rules | `(tactic| walk_at "getAttr ref") => `(tactic| (k_here; k_dflt (refine get_ownl (ox := lobj _ _ _ _) (by k_in) (by k_inst) (by kernel_rfl) (by k_is) (by k_is) (by k_is) (by k_is) (by k_get) (by k_handed) ?_)))
local macro_rules | `(tactic| walk_at "setAttr ref") => `(tactic| (k_here; k_dflt (refine set_l (ox := lobj _ _ _ _) (by k_asm) (by k_asm) (by k_asm) (by k_inst) rfl (by k_is) (by kernel_rfl) (by k_is) (by k_is) (by k_get) (by k_put) (by k_upd) (by exact Nat.le_of_ble_eq_true rfl) ?_); intro h' F' N'; (try k_sweep)))
local macro_rules | `(tactic| walk_at "wpAt") => `(tactic| (ks_step "attributeBase Call"; k_here; k_dflt (refine sup_node (by k_asm) (by k_asm) (by k_asm) (by k_asm) (by k_is) (by rfl) (by rfl) (by k_inst) (by k_is) (by rfl) (by first | rfl | decide +kernel) (by k_is) (by k_is) (by k_is) (by k_is) (by decide) (by rfl) (by rfl) (by rfl) (by rfl) (by decide +kernel) (by first | boot_by_name | rfl | kernel_rfl) ?_; intro so' h' F' N' l1; (try k_lt l1))))
local macro_rules | `(tactic| walk_at "getMethod ref") => `(tactic| (k_here; k_dflt ((first | refine' sup_pop ?F9 ?X9 ?N9 ?so9 ?I9 ?no9 ?c9 ?l9 ?m9 ?_ | refine' sup_len ?F9 ?X9 ?N9 ?so9 ?I9 ?no9 ?c9 ?l9 ?m9 ?_ | refine' sup_init ?F9 ?X9 ?N9 ?so9 ?I9 ?no9 ?c9 ?l9 ?m9 ?_ | fail "sup"); (case F9 => k_asm); (case X9 => k_asm); (case N9 => k_asm); (case so9 => k_mem); (case I9 => k_inst); (case no9 => k_is); (case c9 => k_is); (case l9 => rfl); (case m9 => k_is); k_whole); intro q' h' F' N' l1; (try k_lt l1); (try k_sweep)))
local macro_rules | `(tactic| walk_at "callWith ref") => `(tactic| (k_here; k_dflt (refine' callWith_bound ?r9 ?q9 ?_; (case q9 => exact (News.get (by k_asm) (by k_mem))); (case r9 => first | exact .inl rfl | exact .inr rfl); k_whole)))
local macro_rules | `(tactic| walk_at "call ref") => `(tactic| (k_here; k_dflt (first
  | (refine' init_bound ?F9 ?N9 ?I9 ?q9 ?U9 ?_; (case F9 => k_asm); (case N9 => k_asm); (case q9 => k_mem); (case I9 => k_inst); (case U9 => k_upd); k_whole; intro h' F' N'; (try k_sweep))
  | (refine' len_bound ?N9 ?I9 ?q9 ?_; (case N9 => k_asm); (case q9 => k_mem); (case I9 => k_inst); k_whole)
  | (refine' pop_bound ?F9 ?X9 ?N9 ?I9 ?c9 ?cn9 ?t9 ?mo9 ?q9 ?v9 ?z9 ?U9 ?_; (case F9 => k_asm); (case X9 => k_asm); (case N9 => k_asm); (case q9 => k_mem); (case I9 => k_inst); (case c9 => k_is); (case cn9 => rfl); (case t9 => k_is); (case mo9 => k_is); (case v9 => assumption); (case z9 => assumption); (case U9 => k_upd); k_whole; intro h' F' N'; (try k_sweep)))))
local macro_rules | `(tactic| walk_at "wpAt") => `(tactic| ((try dsimp only); ks_step "execs cons"; k_dflt (refine ks_wpAt_execs_cons ?_)))
local macro_rules | `(tactic| walk_at "wpAt") => `(tactic| ((try dsimp only); ks_step "exec Expr"; k_dflt (refine ks_wpAt_Expr_any ?_)))
local macro_rules | `(tactic| walk_at "wpAt") => `(tactic| ((try dsimp only); ks_step "exec Return"; k_dflt (refine ks_wpAt_Return_some ?_)))
local macro_rules | `(tactic| walk_at "wpAt") => `(tactic| ((try dsimp only); ks_step "exec If"; k_dflt (refine ks_wpAt_If ?_)))
local macro_rules | `(tactic| walk_at "wpAt") => `(tactic| ((try dsimp only); ks_step "eval Call"; k_dflt (refine ks_wpAt_MethodCall ?_)))
local macro_rules | `(tactic| k_inst) => `(tactic| first | (refine' inst_base ?F9 ?I9; (case F9 => k_asm); (case I9 => assumption)) | fail "inst_base")
local macro_rules | `(tactic| walk_at "eval Name") => `(tactic| (k_here; (with_reducible show wpAny _ _ (eval (Expr.Name _ _) (genEnv _ _ _ _ _ _)) _ _ _); k_dflt (first
  | (refine nameG_L (by k_asm) (by assumption) ?_ (by rfl) (by rfl) (by decide))
  | (refine nameG_B (by k_asm) (by k_asm) (by k_asm) (by k_is) (by first | boot_by_name | rfl | kernel_rfl) (by decide) ?_ (by rfl) (by rfl) (by rfl) (by decide))
  | (refine nameG_K (by k_asm) (by k_asm) (by k_asm) (by k_is) ?_ (by rfl) (by rfl) (by rfl) (by decide)))))
theorem all_nil {α : Type} {P : α → Prop} : ∀ q ∈ ([] : List α), P q := fun _ h => nomatch h
theorem all_cons {α : Type} {P : α → Prop} {a : α} {l : List α} (h : P a) (t : ∀ q ∈ l, P q) : ∀ q ∈ a :: l, P q := fun q m => by
  rcases List.mem_cons.mp m with rfl | m
  · exact h
  · exact t q m
theorem dep_lt {A : Around} {e : Env} {n : Nat} (h : A.depth < n) : (A.deeper e).depth < n + 1 := Nat.succ_lt_succ h
theorem uni_lt {A : Around} {e : Env} {n : Nat} (h : A.units < n) : (A.deeper e).units < n + 3 := Nat.add_lt_add_right h 3
theorem ne_of_nat {a b : Nat} (h : a ≠ b) : @Ne Addr a b := h
theorem ne_all {d a : Nat} {o : Obj} {T : List (Addr × Obj)} (h : AllLt d T) (m : ((a : Addr), o) ∈ T) : a ≠ d := by
  induction T with
  | nil => nomatch m
  | cons p T ih =>
    rcases List.mem_cons.mp m with rfl | m
    · exact Nat.ne_of_lt h.1
    · exact ih h.2 m
local macro_rules | `(tactic| k_lt $h) => `(tactic| (replace $h := allLt_of $h; have lt9 := $h; dsimp only [AllLt] at $h:ident))
local macro_rules | `(tactic| k_ne) => `(tactic| first | (refine ne_of_nat ?_; (try dsimp only); first | assumption | (apply Ne.symm; assumption) | exact ne_all (by assumption) (by k_mem) | exact Ne.symm (ne_all (by assumption) (by k_mem))) | fail "k_ne")
/- P1_2k -/
section
open PySem PySem.W PySem.Calls PyProof.Rows
noncomputable abbrev accD (P : Params) (isz : Int) (t u : Tok) : Obj := dictOf [⟨PyData.keyHash P "_initial_size", .str "_initial_size" t, .int isz u⟩] 1
theorem push_core {prog : Program} {w : World} {A : Around} {R : Result → Shared → Prop} {s : Shared} {H₀ : Heap} {p : Program} {loose : List Str} {mg mb : Str → Option Value} 
    {x d : Addr} {items : Array Value} {n : Nat} {isz : Int} {t1 t2 : Tok} {a b : Str} {t u : Tok}
    (HS : Sub H₀ s.heap) (X : (heapK w.params).In H₀) (TR : TopRead p loose mg mb H₀) (hdp : A.depth < 500)
    (hx : s.heap.get? x = some (lobj 178 d items n)) (hdx : s.heap.get? d = some (accD w.params isz t1 t2)) (hx0 : H₀.get? x = none) (hd0 : H₀.get? d = none) (hsz : items.size ≤ sizeLine)
    (hQ : ∀ s' tp, Kept [x] s s' → s.heap.get? tp = none → s'.heap.get? tp = some (tupOf [.str a t, .str b u]) → s'.heap.get? x = some (lobj 178 d (items.push (.ref tp)) (n + 1)) → R (.ok (.ret .none)) s') :
    codeAny (model prog w) A (.call (.ref 122) ⟨[.ref x, .str a t, .str b u], []⟩) R s := by
  have : PySem.Challenge.rw_yh0022_02.prog = PySem.Challenge.rw_yh0022_02.prog ∧ heapK = heapK := by k_fill; exact ⟨rfl, rfl⟩
  clear this
  have hne : @Ne Nat x d := upd_ne hx hdx (by simp)
  have hT : ∀ q ∈ [(x, lobj 178 d items n), (d, accD w.params isz t1 t2)], s.heap.get? q.1 = some q.2 := (all_cons hx (all_cons hdx all_nil))
  refine enter _ hT HS (all_cons hx0 (all_cons hd0 all_nil)) X TR (by k_is) (by k_is) (Nat.lt_of_lt_of_le hdp (Nat.le_of_ble_eq_true rfl)) (BindsTo.of_eq (binds := [("self", .ref x), ("fws", .str a t), ("string", .str b u)]) rfl) (locs rfl) (by decide) rfl rfl rfl ?_
  intro g L' h₁ F N XG TG HG hkeep hk₁ hL
  (try dsimp only)
  (try k_fold)
  k_steps
  (with_reducible rename News _ _ _ _ => N9); (with_reducible rename Fr _ _ _ _ => F9)
  refine hQ _ _ ?_ ?_ (N9 _ (.head _)).1 (N9 _ (.tail _ (.head _))).1
  · exact kept_of hkeep F9 hL.symm N9 hT (by (repeat (refine all_cons (fun h9 => by first | k_mem | exact absurd (by k_mem) h9) ?_)); exact all_nil) rfl rfl id
  · exact fresh_of hkeep N9 (.head _) (by k_all)
theorem push_c {prog : Program} {w : World} {A : Around} {E : Value → Shared → Prop} {s : Shared} {H₀ : Heap} {p : Program} {loose : List Str} {mg mb : Str → Option Value} {Q : Value → Shared → Prop}
    {x d : Addr} {items : Array Value} {n : Nat} {isz : Int} {t1 t2 : Tok} {a b : Str} {t u : Tok}
    (HS : Sub H₀ s.heap) (X : (heapK w.params).In H₀) (TR : TopRead p loose mg mb H₀) (hdp : A.depth < 500)
    (hx : s.heap.get? x = some (lobj 178 d items n)) (hdx : s.heap.get? d = some (accD w.params isz t1 t2)) (hx0 : H₀.get? x = none) (hd0 : H₀.get? d = none) (hsz : items.size ≤ sizeLine)
    (hQ : ∀ s' tp, Kept [x] s s' → s.heap.get? tp = none → s'.heap.get? tp = some (tupOf [.str a t, .str b u]) → s'.heap.get? x = some (lobj 178 d (items.push (.ref tp)) (n + 1)) → Q .none s') :
    wpAny (model prog w) A (call (.ref 122) [.ref x, .str a t, .str b u]) Q E s :=
  wpAny_call (push_core HS X TR hdp hx hdx hx0 hd0 hsz hQ)
end
/- P2_2k -/
section
open PySem PySem.W PySem.Calls PyProof.Rows
theorem init_c {prog : Program} {w : World} {A : Around} {R : Result → Shared → Prop} {s : Shared} {H₀ : Heap} {p : Program} {loose : List Str} {mg mb : Str → Option Value}
    {x d : Addr} {isz : Int} {u : Tok} {args : List Value}
    (hprog : prog = PySem.Challenge.pw_yh0022_02)
    (HS : Sub H₀ s.heap) (X : (heapK w.params).In H₀) (TR : TopRead p loose mg mb H₀) (hdp : A.depth < 500)
    (hx : s.heap.get? x = some (lobj 178 d #[] 0)) (hdx : s.heap.get? d = some emptyDict) (hx0 : H₀.get? x = none) (hd0 : H₀.get? d = none)
    (hargs : args = [.int isz u] ∨ (args = [] ∧ isz = 0))
    (hQ : ∀ s' t1 t2, Kept [x, d] s s' → s'.heap.get? x = some (lobj 178 d #[] 0) → s'.heap.get? d = some (accD w.params isz t1 t2) → R (.ok (.ret .none)) s') :
    codeAny (model prog w) A (.call (.ref 115) ⟨.ref x :: args, []⟩) R s := by
  have : PySem.Challenge.rw_yh0022_02.prog = PySem.Challenge.rw_yh0022_02.prog ∧ heapK = heapK := by k_fill; exact ⟨rfl, rfl⟩
  clear this
  subst hprog
  have hne : @Ne Nat x d := upd_ne hx hdx (by simp)
  have hT : ∀ q ∈ [(x, lobj 178 d #[] 0), (d, emptyDict)], s.heap.get? q.1 = some q.2 := (all_cons hx (all_cons hdx all_nil))
  rcases hargs with rfl | ⟨rfl, rfl⟩
  · refine enterS _ hT HS (all_cons hx0 (all_cons hd0 all_nil)) X TR (by k_is) (by k_is) (Nat.lt_of_lt_of_le hdp (Nat.le_of_ble_eq_true rfl)) (binds_K (binds := [("self", .ref x), ("initial_size", .int isz u)]) (by exact X.keeps HS) rfl (by k_is) rfl rfl rfl) (locs rfl) (by decide) rfl rfl rfl ?_
    intro g L' h₁ F N XG TG HG hkeep hk₁ hL
    (try dsimp only)
    k_steps
    (with_reducible rename News _ _ _ _ => N9); (with_reducible rename Fr _ _ _ _ => F9)
    refine hQ _ _ _ ?_ (And.left (N9 (x, _) (by k_mem))) (And.left (N9 (d, _) (by k_mem)))
    exact kept_of hkeep F9 hL.symm N9 hT (by (repeat (refine all_cons (fun h9 => by first | k_mem | exact absurd (by k_mem) h9) ?_)); exact all_nil) rfl rfl id
  · refine enterS _ hT HS (all_cons hx0 (all_cons hd0 all_nil)) X TR (by k_is) (by k_is) (Nat.lt_of_lt_of_le hdp (Nat.le_of_ble_eq_true rfl)) (binds_K (binds := [("self", .ref x), ("initial_size", .int 0 322)]) (by exact X.keeps HS) rfl (by k_is) rfl rfl rfl) (locs rfl) (by decide) rfl rfl rfl ?_
    intro g L' h₁ F N XG TG HG hkeep hk₁ hL
    (try dsimp only)
    k_steps
    (with_reducible rename News _ _ _ _ => N9); (with_reducible rename Fr _ _ _ _ => F9)
    refine hQ _ _ _ ?_ (And.left (N9 (x, _) (by k_mem))) (And.left (N9 (d, _) (by k_mem)))
    exact kept_of hkeep F9 hL.symm N9 hT (by (repeat (refine all_cons (fun h9 => by first | k_mem | exact absurd (by k_mem) h9) ?_)); exact all_nil) rfl rfl id
theorem acc_make {prog : Program} {w : World} {A : Around} {E : Value → Shared → Prop} {s : Shared} {H₀ : Heap} {p : Program} {loose : List Str} {mg mb : Str → Option Value} {Q : Value → Shared → Prop}
    {isz : Int} {u : Tok} {args : List Value}
    (hprog : prog = PySem.Challenge.pw_yh0022_02)
    (HS : Sub H₀ s.heap) (X : (heapK w.params).In H₀) (TR : TopRead p loose mg mb H₀) (hdp : A.depth < 498) (hsz : H₀.objs.size ≤ s.heap.objs.size)
    (hargs : args = [.int isz u] ∨ (args = [] ∧ isz = 0))
    (hQ : ∀ s' x d t1 t2, Kept [] s s' → s.heap.get? x = none → s.heap.get? d = none → s'.heap.get? x = some (lobj 178 d #[] 0) → s'.heap.get? d = some (accD w.params isz t1 t2) → Q (.ref x) s') :
    wpAny (model prog w) A (call (.ref 178) args) Q E s := by
  have : PySem.Challenge.rw_yh0022_02.prog = PySem.Challenge.rw_yh0022_02.prog ∧ heapK = heapK := by k_fill; exact ⟨rfl, rfl⟩
  clear this
  have X' := X.keeps HS
  obtain ⟨hh, g, d, t, os⟩ := s
  refine wpAny_call ?_
  have he : (emptyDict).isFreed = false := rfl
  have hl : (lobj 178 hh.objs.size #[] 0).isFreed = false := rfl
  have hd : ((hh.push emptyDict).push (lobj 178 hh.objs.size #[] 0)).get? hh.objs.size = some emptyDict := Heap.get?_push_of_some _ (Heap.get?_push_size _ he)
  have hx : ((hh.push emptyDict).push (lobj 178 hh.objs.size #[] 0)).get? (hh.objs.size + 1) = some (lobj 178 hh.objs.size #[] 0) := Heap.get?_push_at (by rw [Heap.size_push]) hl
  have up : Sub hh ((hh.push emptyDict).push (lobj 178 hh.objs.size #[] 0)) := fun b o e => Heap.get?_push_of_some _ (Heap.get?_push_of_some _ e)
  have no : ∀ h : Heap, ∀ b, h.objs.size ≤ b → h.get? b = none := fun h b e => by
    cases q : h.get? b with
    | none => rfl
    | some o => exact absurd (Heap.lt_size q) (Nat.not_lt.mpr e)
  have sz : H₀.objs.size ≤ hh.objs.size := hsz
  refine lobj_make_core (makesL_of X' (C := 178) (by kernel_rfl)) (looks_findIn X' (by k_is)) (fun self => bind_fn X' self (by k_is)) ?_
  have wt : (Code.builtin "type.__call__" { pos := Value.ref 178 :: args }).weight ≤ 1 := Nat.le_of_ble_eq_true rfl
  refine init_c (isz := isz) (u := u) (x := hh.objs.size + 1) (d := hh.objs.size) (args := args) (H₀ := H₀) hprog (fun b o e => up b o (HS b o e)) X TR (by simp only [Around.under]; omega) hx hd (no _ _ (by omega)) (no _ _ (by omega)) hargs ?_
  intro s' t1 t2 KP h1 h2
  refine ⟨rfl, hQ s' _ _ t1 t2 ⟨fun b o _ e => ?_, ?_, KP.os, KP.drawn, KP.gens⟩ (no _ _ (by dsimp only; omega)) (no _ _ (Nat.le_refl _)) h1 h2⟩
  · refine KP.keep b o ?_ (up b o e)
    have this : @LT.lt Nat _ b hh.objs.size := Heap.lt_size e
    simp only [List.mem_cons, List.not_mem_nil, or_false, not_or]
    exact ⟨by change @Ne Nat _ _; omega, by change @Ne Nat _ _; omega⟩
  · have := KP.size
    simp only [Heap.size_push] at this
    dsimp only
    omega
end
/- P3_2k -/
section
open PySem PySem.W PySem.Calls PyProof.Rows
theorem len_c {prog : Program} {w : World} {A : Around} {E : Value → Shared → Prop} {s : Shared} {H₀ : Heap} {p : Program} {loose : List Str} {mg mb : Str → Option Value} {Q : Value → Shared → Prop} {bm : Addr} {ob : Obj} {ps : Array Value}
    {x d : Addr} {items : Array Value} {parts : List (Str × Str)} {n : Nat} {isz : Int} {t1 t2 : Tok}
    (HS : Sub H₀ s.heap) (X : (heapK w.params).In H₀) (TR : TopRead p loose mg mb H₀) (B : BMod H₀ mainGlobals mg bm ob) (hdp : A.depth < 500) (hun : A.units < 2000) (hh : A.handled = none) (G : AllBare s.gens)
    (hP : s.heap.get? 140 = some (tabObj ps)) (hP0 : H₀.get? 140 = none) (ht : TriplesOk ps.toList)
    (hx : s.heap.get? x = some (lobj 178 d items n)) (hdx : s.heap.get? d = some (accD w.params isz t1 t2)) (hpt : Parts s.heap items.toList parts) (hsm : ∀ p ∈ parts, p.1.length ≤ 100000 ∧ p.2.length ≤ 100000)
    (hQ : ∀ s' t ps', Kept [140] s s' → s'.heap.get? 140 = some (tabObj ps') → TriplesOk ps'.toList → Q (.int (isz + plen parts) t) s') :
    wpAny (model prog w) A (call (.ref 145) [.ref x]) Q E s := by
  have : PySem.Challenge.rw_yh0022_02.prog = PySem.Challenge.rw_yh0022_02.prog ∧ heapK = heapK := by k_fill; exact ⟨rfl, rfl⟩
  clear this
  have hne : @Ne Nat x 140 := upd_ne hx hP (by simp)
  have hnd : @Ne Nat d 140 := upd_ne hdx hP (by simp)
  have hT : ∀ q ∈ [((140 : Addr), tabObj ps)], s.heap.get? q.1 = some q.2 := (all_cons hP all_nil)
  refine wpAny_call ?_
  refine enter _ hT HS (all_cons hP0 all_nil) X TR (by k_is) (by k_is) (Nat.lt_of_lt_of_le hdp (Nat.le_of_ble_eq_true rfl)) (BindsTo.of_eq (binds := [("self", .ref x)]) rfl) (locs rfl) (by decide) rfl rfl rfl ?_
  intro g L' h₁ F N XG TG HG hkeep hk₁ hL
  have gx : InstAt g x (lobj 178 d items n) 178 (some (accD w.params isz t1 t2)) := ⟨hkeep _ _ (by simpa using hne) hx, rfl, rfl, hkeep _ _ (by simpa using hnd) hdx⟩
  have gp : Parts g items.toList parts := hpt.keeps fun b o e hc => hkeep b o (by
    simp only [List.map_cons, List.map_nil, List.mem_cons, List.not_mem_nil, or_false]
    intro q; subst q; rw [hP] at e; cases e; cases hc) e
  dsimp only
  (try k_fold)
  k_steps
  have BG := B.keeps HG
  refine genT_l (x := x) (C := 178) (parts := parts) (dt := fun p => .int ((p.1.length : Int) + p.2.length)) F N (.head (fun _ h => nomatch h)) (codeHd_of_K (c := 144) XG (by kernel_rfl)) ht rfl BG G TG.nolimit hh rfl rfl (by decide) rfl rfl rfl (by decide) rfl (by simp only [depth_deeper, recursionLimit]; omega) ?_ XG gx (by k_is) (by k_is) gp ?_ (fun _ => rfl) ?_
  · k_steps
  · intro cv D A' E' p ta tb t m₂ hA hD hU hp F' ha hb
    clear F N
    (try dsimp only)
    have hb1 := hsm p hp
    k_steps
    · exact .int _ _
    · exact ⟨_, _, rfl, fun _ _ e => e⟩
  · intro ps' a s₅ Kb ht' F₅ N₅ G₅ os₅ dr₅ sz₅ hKb hLK GN
    clear F N
    k_steps
    refine sum_start_gen F₅ G₅ (genD_keeps GN _ _ (Nat.le_succ _) (fun _ _ e => e) (Nat.le_refl _)) hLK ?_
    intro s' t' F' G' os' dr' kp
    rw [List.filter_eq_self.mpr (by simp)]
    have N' : News g L' s'.heap [(140, tabObj ps')] := fun q hq => ⟨kp _ _ (by
      have e := Heap.lt_size (hT _ (.head _))
      simp only [List.mem_cons, List.not_mem_nil, or_false] at hq
      subst hq
      have e2 : @LT.lt Nat _ (140) L' := hL ▸ e
      have e3 : @LE.le Nat _ L' Kb := hLK
      show @LE.le Nat _ (140) Kb
      omega) (N₅ q hq).1, (N₅ q hq).2⟩
    refine hQ s' t' ps' ?_ (N' _ (.head _)).1 ht'
    exact kept_of hkeep F' hL.symm N' hT (by (repeat (refine all_cons (fun h9 => by first | k_mem | exact absurd (by k_mem) h9) ?_)); exact all_nil) (os'.trans os₅) (dr'.trans dr₅) (fun _ => G')
theorem parts_join_le {parts : List (Str × Str)} (hsm : ∀ p ∈ parts, p.1.length ≤ 1000 ∧ p.2.length ≤ 1000) (hln : parts.length ≤ 1000) :
    ((parts.map fun p => Txt.join "" [p.1, p.2]).map (·.length)).sum + (parts.map fun p => Txt.join "" [p.1, p.2]).length * ("" : Str).length ≤ 16777216 := by
  have e0 : ("" : Str).length = 0 := rfl
  rw [e0, Nat.mul_zero, Nat.add_zero]
  have h : ∀ l : List (Str × Str), (∀ p ∈ l, p.1.length ≤ 1000 ∧ p.2.length ≤ 1000) → ((l.map fun p => Txt.join "" [p.1, p.2]).map (·.length)).sum ≤ l.length * 2000 := by
    intro l
    induction l with
    | nil => intro _; exact Nat.le_refl _
    | cons q r ih =>
      intro hl
      have h1 := hl q (.head _)
      have h2 := ih fun p hp => hl p (.tail _ hp)
      have h3 : (Txt.join "" [q.1, q.2]).length ≤ _ := StrLaws.join_length_le "" [q.1, q.2]
      simp only [List.map_cons, List.map_nil, List.sum_cons, List.sum_nil, List.length_cons, List.length_nil, e0] at h3 ⊢
      omega
  have := h parts hsm
  omega
theorem str_c {prog : Program} {w : World} {A : Around} {E : Value → Shared → Prop} {s : Shared} {H₀ : Heap} {p : Program} {loose : List Str} {mg mb : Str → Option Value} {Q : Value → Shared → Prop} {bm : Addr} {ob : Obj} {ps : Array Value}
    {x d : Addr} {items : Array Value} {parts : List (Str × Str)} {n : Nat} {isz : Int} {t1 t2 : Tok}
    (HS : Sub H₀ s.heap) (X : (heapK w.params).In H₀) (TR : TopRead p loose mg mb H₀) (B : BMod H₀ mainGlobals mg bm ob) (hdp : A.depth < 500) (hun : A.units < 2000) (hh : A.handled = none) (G : AllBare s.gens)
    (hP : s.heap.get? 147 = some (tabObj ps)) (hP0 : H₀.get? 147 = none) (ht : TriplesOk ps.toList)
    (hx : s.heap.get? x = some (lobj 178 d items n)) (hdx : s.heap.get? d = some (accD w.params isz t1 t2)) (hpt : Parts s.heap items.toList parts) (hsm : ∀ p ∈ parts, p.1.length ≤ 1000 ∧ p.2.length ≤ 1000) (hln : parts.length ≤ 1000)
    (hQ : ∀ s' t ps', Kept [147] s s' → s'.heap.get? 147 = some (tabObj ps') → TriplesOk ps'.toList → Q (.str (ptext parts) t) s') :
    wpAny (model prog w) A (call (.ref 152) [.ref x]) Q E s := by
  have : PySem.Challenge.rw_yh0022_02.prog = PySem.Challenge.rw_yh0022_02.prog ∧ heapK = heapK := by k_fill; exact ⟨rfl, rfl⟩
  clear this
  have hne : @Ne Nat x 147 := upd_ne hx hP (by simp)
  have hnd : @Ne Nat d 147 := upd_ne hdx hP (by simp)
  have hT : ∀ q ∈ [((147 : Addr), tabObj ps)], s.heap.get? q.1 = some q.2 := (all_cons hP all_nil)
  refine wpAny_call ?_
  refine enter _ hT HS (all_cons hP0 all_nil) X TR (by k_is) (by k_is) (Nat.lt_of_lt_of_le hdp (Nat.le_of_ble_eq_true rfl)) (BindsTo.of_eq (binds := [("self", .ref x)]) rfl) (locs rfl) (by decide) rfl rfl rfl ?_
  intro g L' h₁ F N XG TG HG hkeep hk₁ hL
  have gx : InstAt g x (lobj 178 d items n) 178 (some (accD w.params isz t1 t2)) := ⟨hkeep _ _ (by simpa using hne) hx, rfl, rfl, hkeep _ _ (by simpa using hnd) hdx⟩
  have gp : Parts g items.toList parts := hpt.keeps fun b o e hc => hkeep b o (by
    simp only [List.map_cons, List.map_nil, List.mem_cons, List.not_mem_nil, or_false]
    intro q; subst q; rw [hP] at e; cases e; cases hc) e
  dsimp only
  (try k_fold)
  k_steps
  have BG := B.keeps HG
  refine genT_l (x := x) (C := 178) (parts := parts) (dt := fun p => .str (Txt.join "" [p.1, p.2])) F N (.head (fun _ h => nomatch h)) (codeHd_of_K (c := 151) XG (by kernel_rfl)) ht rfl BG G TG.nolimit hh rfl rfl (by decide) rfl rfl rfl (by decide) rfl (by simp only [depth_deeper, recursionLimit]; omega) ?_ XG gx (by k_is) (by k_is) gp ?_ (fun _ => rfl) ?_
  · k_steps
  · intro cv D A' E' p ta tb t m₂ hA hD hU hp F' ha hb
    clear F N
    (try dsimp only)
    have hb1 := hsm p hp
    k_steps
    refine wpAny_newTuple ?_ (show 2 ≤ sizeLine from Nat.le_of_ble_eq_true rfl)
    k_steps
    refine join_tupleW (ys := [p.1, p.2]) ⟨_, Heap.get?_push_size _ rfl, rfl, _, rfl⟩ (.cons _ _ (.cons _ _ .nil)) (by decide +kernel) (by simp only [List.map_cons, List.map_nil, List.sum_cons, List.sum_nil, List.length_cons, List.length_nil]; omega) ?_
    intro t' k
    exact ⟨.str _ _, _, _, rfl, fun _ _ e => Heap.get?_push_of_some _ e⟩
  · intro ps' a s₅ Kb ht' F₅ N₅ G₅ os₅ dr₅ sz₅ hKb hLK GN
    clear F N
    k_steps
    refine join_gen_d F₅ G₅ GN hLK ?_ ?_ ?_
    · rw [List.filter_eq_self.mpr (by simp)]; exact joinOk_of (parts_join_le hsm hln)
    · intro s' t' F' G' os' dr' kp
      rw [List.filter_eq_self.mpr (by simp)]
      have N' : News g L' s'.heap [(147, tabObj ps')] := fun q hq => ⟨kp _ _ (by
        have e := Heap.lt_size (hT _ (.head _))
        simp only [List.mem_cons, List.not_mem_nil, or_false] at hq
        subst hq
        have e2 : @LT.lt Nat _ (147) L' := hL ▸ e
        have e3 : @LE.le Nat _ L' Kb := hLK
        show @LE.le Nat _ (147) Kb
        omega) (N₅ q hq).1, (N₅ q hq).2⟩
      refine hQ s' t' ps' ?_ (N' _ (.head _)).1 ht'
      exact kept_of hkeep F' hL.symm N' hT (by (repeat (refine all_cons (fun h9 => by first | k_mem | exact absurd (by k_mem) h9) ?_)); exact all_nil) (os'.trans os₅) (dr'.trans dr₅) (fun _ => G')
    · exact Nat.le_trans hln (Nat.le_of_ble_eq_true rfl)
end
/- P4_2k -/
section
open PySem PySem.W PySem.Calls PyProof.Rows
theorem pc_c {prog : Program} {w : World} {A : Around} {E : Value → Shared → Prop} {s : Shared} {H₀ : Heap} {p : Program} {loose : List Str} {mg mb : Str → Option Value} {Q : Value → Shared → Prop} {x d : Addr} {items : Array Value} {n : Nat} {isz : Int} {t1 t2 : Tok} (hprog : prog = PySem.Challenge.pw_yh0022_02)
    (HS : Sub H₀ s.heap) (X : (heapK w.params).In H₀) (TR : TopRead p loose mg mb H₀) (hdp : A.depth < 500)
    (hx : s.heap.get? x = some (lobj 178 d items n)) (hdx : s.heap.get? d = some (accD w.params isz t1 t2)) {c : Int} (hc : (items.size : Int) = c)
    (hQ : ∀ s' t, Kept [] s s' → Q (.int c t) s') :
    wpAny (model prog w) A (call (.ref 175) [.ref x]) Q E s := by
  have : PySem.Challenge.rw_yh0022_02.prog = PySem.Challenge.rw_yh0022_02.prog ∧ heapK = heapK := by k_fill; exact ⟨rfl, rfl⟩
  clear this
  subst hprog
  subst hc
  refine wpAny_call ?_
  refine enterS [] all_nil HS all_nil X TR (by k_is) (by k_is) (Nat.lt_of_lt_of_le hdp (Nat.le_of_ble_eq_true rfl)) (BindsTo.of_eq (binds := [("self", .ref x)]) rfl) (locs rfl) (by decide) rfl rfl rfl ?_
  intro g L' h₁ F N XG TG HG hkeep hk₁ hL
  have gx : InstAt g x (lobj 178 d items n) 178 (some (accD w.params isz t1 t2)) := ⟨hkeep _ _ (by simp) hx, rfl, rfl, hkeep _ _ (by simp) hdx⟩
  (try dsimp only)
  k_steps
  (with_reducible rename News _ _ _ _ => N9); (with_reducible rename Fr _ _ _ _ => F9)
  refine hQ _ _ (kept_of hkeep F9 hL.symm N9 all_nil all_nil rfl rfl id)
theorem popfrom_c {prog : Program} {w : World} {A : Around} {E : Value → Shared → Prop} {s : Shared} {H₀ : Heap} {p : Program} {loose : List Str} {mg mb : Str → Option Value} {Q : Value → Shared → Prop} {x d : Addr} {items : Array Value} {n : Nat} {isz : Int} {t1 t2 : Tok} {i : Nat} {ti : Tok} {args : List Value}
    (HS : Sub H₀ s.heap) (X : (heapK w.params).In H₀) (TR : TopRead p loose mg mb H₀) (hdp : A.depth < 500)
    (hx : s.heap.get? x = some (lobj 178 d items n)) (hdx : s.heap.get? d = some (accD w.params isz t1 t2)) (hx0 : H₀.get? x = none) (hd0 : H₀.get? d = none) (hsz : items.size ≤ 100000) (hi : i ≤ items.size)
    (hargs : args = [.int i ti] ∨ (args = [] ∧ i = 0))
    (hQ : ∀ s' y ny n', Kept [x] s s' → s.heap.get? y = none → s'.heap.get? y = some { cls := .type "list", data := .seq (items.toList.drop i).toArray ny } → s'.heap.get? x = some (lobj 178 d (items.toList.take i).toArray n') → Q (.ref y) s') :
    wpAny (model prog w) A (call (.ref 130) (.ref x :: args)) Q E s := by
  have : PySem.Challenge.rw_yh0022_02.prog = PySem.Challenge.rw_yh0022_02.prog ∧ heapK = heapK := by k_fill; exact ⟨rfl, rfl⟩
  clear this
  have hne : @Ne Nat x d := upd_ne hx hdx (by simp)
  have hT : ∀ q ∈ [(x, lobj 178 d items n), (d, accD w.params isz t1 t2)], s.heap.get? q.1 = some q.2 := (all_cons hx (all_cons hdx all_nil))
  refine wpAny_call ?_
  rcases hargs with rfl | ⟨rfl, rfl⟩
  · refine enter _ hT HS (all_cons hx0 (all_cons hd0 all_nil)) X TR (by k_is) (by k_is) (Nat.lt_of_lt_of_le hdp (Nat.le_of_ble_eq_true rfl)) (binds_K (binds := [("self", .ref x), ("i", .int (i : Nat) ti)]) (by exact X.keeps HS) rfl (by k_is) rfl rfl rfl) (locs rfl) (by decide) rfl rfl rfl ?_
    intro g L' h₁ F N XG TG HG hkeep hk₁ hL
    dsimp only
    (try k_fold)
    k_steps
    refine slice_l F XG N (inst_news N (.head _) (.tail _ (.head _))) (by k_is) (by k_is) (by k_is) (.int _ _) .none ?_ rfl (fun _ => rfl) (Nat.le_trans hsz (Nat.le_of_ble_eq_true rfl))
    intro D h' F' N' hlt; k_lt hlt
    clear F N
    k_steps
    (with_reducible rename News _ _ _ _ => N2); (with_reducible rename Fr _ _ _ _ => F2)
    refine setslice_l (nl := 0) (b := items.size) F2 XG N2 (inst_news N2 (.tail _ (.tail _ (.head _))) (.tail _ (.tail _ (.tail _ (.head _))))) (by k_is) (by k_is) (by k_is) (.int _ _) .none ⟨_, (N2 _ (.head _)).1, rfl, _, rfl⟩ (clip_nat hi) rfl (by k_upd) ?_ (Nat.le_trans (Nat.le_of_eq (Nat.add_zero _)) (Nat.le_trans hsz (Nat.le_of_ble_eq_true rfl)))
    intro h2 F3 N3
    clear F2 N2
    k_steps
    (with_reducible rename News _ _ _ _ => N9); (with_reducible rename Fr _ _ _ _ => F9)
    rw [spl_take hi] at N9
    rw [pick_drop hi] at N9
    refine hQ _ D _ _ ?_ ?_ (N9 (D, _) (by k_mem)).1 (N9 (x, _) (by k_mem)).1
    · exact kept_of hkeep F9 hL.symm N9 hT (by (repeat (refine all_cons (fun h9 => by first | k_mem | exact absurd (by k_mem) h9) ?_)); exact all_nil) rfl rfl id
    · exact fresh_of hkeep N9 (a := D) (by k_mem) (by k_all)
  · refine enter _ hT HS (all_cons hx0 (all_cons hd0 all_nil)) X TR (by k_is) (by k_is) (Nat.lt_of_lt_of_le hdp (Nat.le_of_ble_eq_true rfl)) (binds_K (binds := [("self", .ref x), ("i", .int (0 : Nat) 341)]) (by exact X.keeps HS) rfl (by k_is) rfl rfl rfl) (locs rfl) (by decide) rfl rfl rfl ?_
    intro g L' h₁ F N XG TG HG hkeep hk₁ hL
    dsimp only
    (try k_fold)
    k_steps
    refine slice_l F XG N (inst_news N (.head _) (.tail _ (.head _))) (by k_is) (by k_is) (by k_is) (.int _ _) .none ?_ rfl (fun _ => rfl) (Nat.le_trans hsz (Nat.le_of_ble_eq_true rfl))
    intro D h' F' N' hlt; k_lt hlt
    clear F N
    k_steps
    (with_reducible rename News _ _ _ _ => N2); (with_reducible rename Fr _ _ _ _ => F2)
    refine setslice_l (nl := 0) (b := items.size) F2 XG N2 (inst_news N2 (.tail _ (.tail _ (.head _))) (.tail _ (.tail _ (.tail _ (.head _))))) (by k_is) (by k_is) (by k_is) (.int _ _) .none ⟨_, (N2 _ (.head _)).1, rfl, _, rfl⟩ (clip_nat hi) rfl (by k_upd) ?_ (Nat.le_trans (Nat.le_of_eq (Nat.add_zero _)) (Nat.le_trans hsz (Nat.le_of_ble_eq_true rfl)))
    intro h2 F3 N3
    clear F2 N2
    k_steps
    (with_reducible rename News _ _ _ _ => N9); (with_reducible rename Fr _ _ _ _ => F9)
    rw [spl_take hi] at N9
    rw [pick_drop hi] at N9
    refine hQ _ D _ _ ?_ ?_ (N9 (D, _) (by k_mem)).1 (N9 (x, _) (by k_mem)).1
    · exact kept_of hkeep F9 hL.symm N9 hT (by (repeat (refine all_cons (fun h9 => by first | k_mem | exact absurd (by k_mem) h9) ?_)); exact all_nil) rfl rfl id
    · exact fresh_of hkeep N9 (a := D) (by k_mem) (by k_all)
end
/- P5_2k -/
section
open PySem PySem.W PySem.Calls PyProof.Rows
theorem pop_c {prog : Program} {w : World} {A : Around} {E : Value → Shared → Prop} {s : Shared} {H₀ : Heap} {p : Program} {loose : List Str} {mg mb : Str → Option Value} {Q : Value → Shared → Prop} {x d : Addr} {items : Array Value} {v : Value} {n : Nat} {isz : Int} {t1 t2 : Tok} (hprog : prog = PySem.Challenge.pw_yh0022_02)
    (HS : Sub H₀ s.heap) (X : (heapK w.params).In H₀) (TR : TopRead p loose mg mb H₀) (hdp : A.depth < 490)
    (hx : s.heap.get? x = some (lobj 178 d (items.push v) n)) (hdx : s.heap.get? d = some (accD w.params isz t1 t2)) (hx0 : H₀.get? x = none) (hd0 : H₀.get? d = none) (hsz : items.size ≤ 100000)
    (hQ : ∀ s' n', Kept [x] s s' → s'.heap.get? x = some (lobj 178 d items n') → Q v s') :
    wpAny (model prog w) A (call (.ref 138) [.ref x]) Q E s := by
  have : PySem.Challenge.rw_yh0022_02.prog = PySem.Challenge.rw_yh0022_02.prog ∧ heapK = heapK := by k_fill; exact ⟨rfl, rfl⟩
  clear this
  have hprog' := hprog
  subst hprog
  have hne : @Ne Nat x d := upd_ne hx hdx (by simp)
  have hT : ∀ q ∈ [(x, lobj 178 d (items.push v) n), (d, accD w.params isz t1 t2)], s.heap.get? q.1 = some q.2 := (all_cons hx (all_cons hdx all_nil))
  refine wpAny_call ?_
  refine enterS _ hT HS (all_cons hx0 (all_cons hd0 all_nil)) X TR (by k_is) (by k_is) (Nat.lt_of_lt_of_le hdp (Nat.le_of_ble_eq_true rfl)) (BindsTo.of_eq (binds := [("self", .ref x)]) rfl) (locs rfl) (by decide) rfl rfl rfl ?_
  intro g L' h₁ F N XG TG HG hkeep hk₁ hL
  (try dsimp only)
  k_steps
  refine pc_c (c := items.size + 1) rfl (sub_fr F HG) X TR (by (repeat (with_reducible refine dep_lt ?_)); first | exact Nat.lt_of_lt_of_le hdp (Nat.le_of_ble_eq_true rfl) | omega | (simp only [depth_deeper, depth_in1, units_deeper, units_in1]; omega)) (N _ (.head _)).1 (N _ (.tail _ (.head _))).1 (by simp) ?_
  intro s2 t2' Kp
  have F2 := kept_fr0 Kp F
  have N2 := kept_news0 Kp N
  clear F N
  have hback : (items.push v).back? = some v := by simp
  have hz9 : (items.push v).size ≤ sizeLine := Nat.le_trans (Nat.le_trans (Nat.le_of_eq (Array.size_push ..)) (Nat.succ_le_succ hsz)) (Nat.le_of_ble_eq_true rfl)
  k_steps
  · exfalso; omega
  · (with_reducible rename News _ _ _ _ => N9); (with_reducible rename Fr _ _ _ _ => F9)
    rw [Array.pop_push] at N9
    refine hQ _ _ ?_ (N9 (x, _) (by k_mem)).1
    exact kept_of hkeep F9 hL.symm N9 hT (by (repeat (refine all_cons (fun h9 => by first | k_mem | exact absurd (by k_mem) h9) ?_)); exact all_nil) Kp.os Kp.drawn Kp.gens
end
/- P6_2k -/
section
open PySem PySem.W PySem.Calls PyProof.Rows
theorem reset_c {prog : Program} {w : World} {A : Around} {E : Value → Shared → Prop} {s : Shared} {H₀ : Heap} {p : Program} {loose : List Str} {mg mb : Str → Option Value} {Q : Value → Shared → Prop} {x d : Addr} {items new : Array Value} {n : Nat} {isz : Int} {t1 t2 : Tok} {args : List Value}
    (HS : Sub H₀ s.heap) (X : (heapK w.params).In H₀) (TR : TopRead p loose mg mb H₀) (hdp : A.depth < 500)
    (hx : s.heap.get? x = some (lobj 178 d items n)) (hdx : s.heap.get? d = some (accD w.params isz t1 t2)) (hx0 : H₀.get? x = none) (hd0 : H₀.get? d = none) (hsz : items.size ≤ 100000) (hsn : new.size ≤ 100000)
    (hargs : (∃ l nl, args = [.ref l] ∧ s.heap.get? l = some { cls := .type "list", data := .seq new nl }) ∨ (args = [] ∧ new = #[]))
    (hQ : ∀ s' n' u2, Kept [x, d] s s' → s'.heap.get? x = some (lobj 178 d new n') → s'.heap.get? d = some (accD w.params 0 t1 u2) → Q .none s') :
    wpAny (model prog w) A (call (.ref 160) (.ref x :: args)) Q E s := by
  have : PySem.Challenge.rw_yh0022_02.prog = PySem.Challenge.rw_yh0022_02.prog ∧ heapK = heapK := by k_fill; exact ⟨rfl, rfl⟩
  clear this
  have hne : @Ne Nat x d := upd_ne hx hdx (by simp)
  have hT : ∀ q ∈ [(x, lobj 178 d items n), (d, accD w.params isz t1 t2)], s.heap.get? q.1 = some q.2 := (all_cons hx (all_cons hdx all_nil))
  refine wpAny_call ?_
  rcases hargs with ⟨l, nl, rfl, hl⟩ | ⟨rfl, rfl⟩
  · have hlx : @Ne Nat l x := upd_ne hl hx (by simp)
    have hld : @Ne Nat l d := upd_ne hl hdx (by simp)
    refine enter _ hT HS (all_cons hx0 (all_cons hd0 all_nil)) X TR (by k_is) (by k_is) (Nat.lt_of_lt_of_le hdp (Nat.le_of_ble_eq_true rfl)) (binds_K (binds := [("self", .ref x), ("startval", .ref l)]) (by exact X.keeps HS) rfl (by k_is) rfl rfl rfl) (locs rfl) (by decide) rfl rfl rfl ?_
    intro g L' h₁ F N XG TG HG hkeep hk₁ hL
    have gl : g.get? l = some { cls := .type "list", data := .seq new nl } := hkeep _ _ (by simp only [List.map_cons, List.map_nil, List.mem_cons, List.not_mem_nil, or_false, not_or]; exact ⟨hlx, hld⟩) hl
    dsimp only
    (try k_fold)
    k_steps
    refine setslice_l (nl := 0) (a := 0) (b := items.size) (new := new) F XG N (inst_news N (.head _) (.tail _ (.head _))) (by k_is) (by k_is) (by k_is) .none .none ⟨_, F.keep _ _ gl, rfl, _, rfl⟩ rfl rfl (by k_upd) ?_ (Nat.le_trans (Nat.add_le_add hsz hsn) (Nat.le_of_ble_eq_true rfl))
    intro h2 F3 N3
    clear F N
    k_steps
    (with_reducible rename News _ _ _ _ => N9); (with_reducible rename Fr _ _ _ _ => F9)
    rw [spl_all] at N9
    refine hQ _ _ _ ?_ (N9 (x, _) (by k_mem)).1 (And.left (N9 (d, _) (by k_mem)))
    exact kept_of hkeep F9 hL.symm N9 hT (by (repeat (refine all_cons (fun h9 => by first | k_mem | exact absurd (by k_mem) h9) ?_)); exact all_nil) rfl rfl id
  · refine enter _ hT HS (all_cons hx0 (all_cons hd0 all_nil)) X TR (by k_is) (by k_is) (Nat.lt_of_lt_of_le hdp (Nat.le_of_ble_eq_true rfl)) (binds_K (binds := [("self", .ref x), ("startval", .none)]) (by exact X.keeps HS) rfl (by k_is) rfl rfl rfl) (locs rfl) (by decide) rfl rfl rfl ?_
    intro g L' h₁ F N XG TG HG hkeep hk₁ hL
    dsimp only
    (try k_fold)
    k_steps
    (with_reducible rename News _ _ _ _ => N2); (with_reducible rename Fr _ _ _ _ => F2)
    refine setslice_l (nl := 0) (a := 0) (b := items.size) (new := #[]) F2 XG N2 (inst_news N2 (.tail _ (.head _)) (.tail _ (.tail _ (.head _)))) (by k_is) (by k_is) (by k_is) .none .none ⟨_, (N2 _ (.head _)).1, rfl, _, rfl⟩ rfl rfl (by k_upd) ?_ (Nat.le_trans (Nat.add_le_add hsz hsn) (Nat.le_of_ble_eq_true rfl))
    intro h2 F3 N3
    clear F2 N2
    k_steps
    (with_reducible rename News _ _ _ _ => N9); (with_reducible rename Fr _ _ _ _ => F9)
    rw [spl_all] at N9
    refine hQ _ _ _ ?_ (N9 (x, _) (by k_mem)).1 (And.left (N9 (d, _) (by k_mem)))
    exact kept_of hkeep F9 hL.symm N9 hT (by (repeat (refine all_cons (fun h9 => by first | k_mem | exact absurd (by k_mem) h9) ?_)); exact all_nil) rfl rfl id
end
/- P7_2k -/
section
open PySem PySem.W PySem.Calls PyProof.Rows
theorem onlyws_c {prog : Program} {w : World} {A : Around} {E : Value → Shared → Prop} {s : Shared} {H₀ : Heap} {p : Program} {loose : List Str} {mg mb : Str → Option Value} {Q : Value → Shared → Prop} {bm : Addr} {ob : Obj} {ps1 ps2 : Array Value} {x d : Addr} {items : Array Value} {parts : List (Str × Str)} {n : Nat} {isz : Int} {t1 t2 : Tok}
    (HS : Sub H₀ s.heap) (X : (heapK w.params).In H₀) (TR : TopRead p loose mg mb H₀) (hdp : A.depth < 490) (B : BMod H₀ mainGlobals mg bm ob) (hun : A.units < 1900) (hh : A.handled = none) (G : AllBare s.gens)
    (hP1 : s.heap.get? 140 = some (tabObj ps1)) (hP10 : H₀.get? 140 = none) (ht1 : TriplesOk ps1.toList) (hP2 : s.heap.get? 147 = some (tabObj ps2)) (hP20 : H₀.get? 147 = none) (ht2 : TriplesOk ps2.toList)
    (hx : s.heap.get? x = some (lobj 178 d items n)) (hdx : s.heap.get? d = some (accD w.params isz t1 t2)) (hpt : Parts s.heap items.toList parts) (hsm : ∀ p ∈ parts, p.1.length ≤ 1000 ∧ p.2.length ≤ 1000) (hln : parts.length ≤ 1000)
    (hno : isz ≠ 0 ∨ (isz = 0 ∧ plen parts ≠ 0 ∧ Txt.isspace (ptext parts) = false))
    (hQ : ∀ s' ps1' ps2', Kept [140, 147] s s' → s'.heap.get? 140 = some (tabObj ps1') → TriplesOk ps1'.toList → s'.heap.get? 147 = some (tabObj ps2') → TriplesOk ps2'.toList → Q (.bool false) s') :
    wpAny (model prog w) A (call (.ref 167) [.ref x]) Q E s := by
  have : PySem.Challenge.rw_yh0022_02.prog = PySem.Challenge.rw_yh0022_02.prog ∧ heapK = heapK := by k_fill; exact ⟨rfl, rfl⟩
  clear this
  have hx1 : @Ne Nat x 140 := upd_ne hx hP1 (by simp)
  have hd1 : @Ne Nat d 140 := upd_ne hdx hP1 (by simp)
  have hx2 : @Ne Nat x 147 := upd_ne hx hP2 (by simp)
  have hd2 : @Ne Nat d 147 := upd_ne hdx hP2 (by simp)
  have hT : ∀ q ∈ [((140 : Addr), tabObj ps1), ((147 : Addr), tabObj ps2)], s.heap.get? q.1 = some q.2 := (all_cons hP1 (all_cons hP2 all_nil))
  refine wpAny_call ?_
  refine enter _ hT HS (all_cons hP10 (all_cons hP20 all_nil)) X TR (by k_is) (by k_is) (Nat.lt_of_lt_of_le hdp (Nat.le_of_ble_eq_true rfl)) (BindsTo.of_eq (binds := [("self", .ref x)]) rfl) (locs rfl) (by decide) rfl rfl rfl ?_
  intro g L' h₁ F N XG TG HG hkeep hk₁ hL
  have gx : InstAt g x (lobj 178 d items n) 178 (some (accD w.params isz t1 t2)) := ⟨hkeep _ _ (by simp only [List.map_cons, List.map_nil, List.mem_cons, List.not_mem_nil, or_false, not_or]; exact ⟨hx1, hx2⟩) hx, rfl, rfl, hkeep _ _ (by simp only [List.map_cons, List.map_nil, List.mem_cons, List.not_mem_nil, or_false, not_or]; exact ⟨hd1, hd2⟩) hdx⟩
  have gp : Parts g items.toList parts := parts_hide hkeep hT (by simp) hpt
  have BG := B.keeps HG
  dsimp only
  (try k_fold)
  have pb := plen_bound hsm
  k_steps
  · rename_i hz
    subst hz
    have hno' := hno.resolve_left (fun h => h rfl)
    refine truthy_len F XG (inst_base F gx) (by k_is) (by k_is) (by k_is) ?_
    refine len_c (sub_fr F HG) X TR B (by (repeat (with_reducible refine dep_lt ?_)); first | exact Nat.lt_of_lt_of_le hdp (Nat.le_of_ble_eq_true rfl) | omega | (simp only [depth_deeper, depth_in1, units_deeper, units_in1]; omega)) (by (repeat (with_reducible refine uni_lt ?_)); first | exact Nat.lt_of_lt_of_le hun (Nat.le_of_ble_eq_true rfl) | omega | (simp only [depth_deeper, depth_in1, units_deeper, units_in1]; omega)) hh G (N _ (.head _)).1 hP10 ht1 (inst_base F gx).at_ (inst_base F gx).dict (gp.keeps fun b o e _ => F.keep b o e) (fun p hp => by have := hsm p hp; omega) ?_
    intro s2 t ps1' Kp e1 ht1'
    have F2 := kept_fr Kp F N (by simp)
    have N2 : News g L' s2.heap [((140 : Addr), tabObj ps1'), ((147 : Addr), tabObj ps2)] := kept_news Kp F N (by
      intro q hq
      simp only [List.mem_cons, List.not_mem_nil, or_false] at hq
      rcases hq with rfl | rfl
      · exact .inr ⟨e1, .inl (by simp)⟩
      · exact .inl ⟨by simp, by simp⟩)
    clear F N
    refine ⟨⟨by omega, by omega⟩, ?_⟩
    have hbne : ((0 : Int) + plen parts != 0) = true := by simpa using hno'.2.1
    k_steps
    refine kso_call (by simp only [units_deeper, units_in1, cLine]; omega) (XG.keeps F2.keep) (inst_base F2 gx) (by k_is) (by k_is) ?_
    refine str_c (sub_fr F2 HG) X TR B (by (repeat (with_reducible refine dep_lt ?_)); first | exact Nat.lt_of_lt_of_le hdp (Nat.le_of_ble_eq_true rfl) | omega | (simp only [depth_deeper, depth_in1, units_deeper, units_in1]; omega)) (by (repeat (with_reducible refine uni_lt ?_)); first | exact Nat.lt_of_lt_of_le hun (Nat.le_of_ble_eq_true rfl) | omega | (simp only [depth_deeper, depth_in1, units_deeper, units_in1]; omega)) hh (Kp.gens G) (N2 _ (.tail _ (.head _))).1 hP20 ht2 (inst_base F2 gx).at_ (inst_base F2 gx).dict (gp.keeps fun b o e _ => F2.keep b o e) hsm hln ?_
    intro s3 t3 ps2' Kp3 e3 ht2'
    have F3 := kept_fr Kp3 F2 N2 (by simp)
    have N3 : News g L' s3.heap [((140 : Addr), tabObj ps1'), ((147 : Addr), tabObj ps2')] := kept_news Kp3 F2 N2 (by
      intro q hq
      simp only [List.mem_cons, List.not_mem_nil, or_false] at hq
      rcases hq with rfl | rfl
      · exact .inl ⟨by simp, by simp⟩
      · exact .inr ⟨e3, .inl (by simp)⟩)
    clear F2 N2
    dsimp only [StrBack]
    have hsp := hno'.2.2
    k_steps
    (try rw [hsp])
    refine hQ _ ps1' ps2' ?_ (N3 _ (.head _)).1 ht1' (N3 _ (.tail _ (.head _))).1 ht2'
    exact kept_of hkeep F3 hL.symm N3 hT (by (repeat (refine all_cons (fun h9 => by first | k_mem | exact absurd (by k_mem) h9) ?_)); exact all_nil) (Kp3.os.trans Kp.os) (Kp3.drawn.trans Kp.drawn) (fun h => Kp3.gens (Kp.gens h))
  · have hne0 : (isz == 0) = false := by simpa using ‹isz ≠ 0›
    (with_reducible rename News _ _ _ _ => N9); (with_reducible rename Fr _ _ _ _ => F9)
    rw [hne0]
    refine hQ _ ps1 ps2 ?_ (N9 _ (.head _)).1 ht1 (N9 _ (.tail _ (.head _))).1 ht2
    exact kept_of hkeep F9 hL.symm N9 hT (by (repeat (refine all_cons (fun h9 => by first | k_mem | exact absurd (by k_mem) h9) ?_)); exact all_nil) rfl rfl id
end
/- P8_2k -/
section
open PySem PySem.W PySem.Calls PyProof.Rows
structure VTok where
  (k1 k2 k3 k4 k5 k6 u1 u2 u3 u4 : Tok)
noncomputable abbrev vfD (P : Params) (ml cl : Int) (cw sc : Str) (ll ax : Addr) (k : VTok) : Obj :=
  dictOf [⟨PyData.keyHash P "_maxlen", .str "_maxlen" k.k1, .int ml k.u1⟩, ⟨PyData.keyHash P "_continuation_ws", .str "_continuation_ws" k.k2, .str cw k.u2⟩, ⟨PyData.keyHash P "_continuation_ws_len", .str "_continuation_ws_len" k.k3, .int cl k.u3⟩,
    ⟨PyData.keyHash P "_splitchars", .str "_splitchars" k.k4, .str sc k.u4⟩, ⟨PyData.keyHash P "_lines", .str "_lines" k.k5, .ref ll⟩, ⟨PyData.keyHash P "_current_line", .str "_current_line" k.k6, .ref ax⟩] 6
theorem vinit_c {prog : Program} {w : World} {A : Around} {R : Result → Shared → Prop} {s : Shared} {H₀ : Heap} {p : Program} {loose : List Str} {mg mb : Str → Option Value}
    {x d : Addr} {hl ml : Int} {cw sc : Str} {a1 a2 a3 a4 : Tok}
    (hprog : prog = PySem.Challenge.pw_yh0022_02)
    (HS : Sub H₀ s.heap) (X : (heapK w.params).In H₀) (TR : TopRead p loose mg mb H₀) (hdp : A.depth < 490)
    (hx : s.heap.get? x = some (instObj 94 d)) (hdx : s.heap.get? d = some emptyDict) (hx0 : H₀.get? x = none) (hd0 : H₀.get? d = none) (hsz : H₀.objs.size ≤ s.heap.objs.size) (hcw : cw.length ≤ 1000)
    (hQ : ∀ s' ll ax ad k t1 t2, Kept [d] s s' → s'.heap.get? d = some (vfD w.params ml cw.length cw sc ll ax k) → s.heap.get? ll = none → s.heap.get? ax = none → s.heap.get? ad = none →
      s'.heap.get? ll = some (listOf #[] 0) → s'.heap.get? ax = some (lobj 178 ad #[] 0) → s'.heap.get? ad = some (accD w.params hl t1 t2) → R (.ok (.ret .none)) s') :
    codeAny (model prog w) A (.call (.ref 35) ⟨[.ref x, .int hl a1, .int ml a2, .str cw a3, .str sc a4], []⟩) R s := by
  have : PySem.Challenge.rw_yh0022_02.prog = PySem.Challenge.rw_yh0022_02.prog ∧ heapK = heapK := by k_fill; exact ⟨rfl, rfl⟩
  clear this
  have hne : @Ne Nat x d := upd_ne hx hdx (by simp)
  have hT : ∀ q ∈ [(x, instObj 94 d), (d, emptyDict)], s.heap.get? q.1 = some q.2 := (all_cons hx (all_cons hdx all_nil))
  refine enter _ hT HS (all_cons hx0 (all_cons hd0 all_nil)) X TR (by k_is) (by k_is) (Nat.lt_of_lt_of_le hdp (Nat.le_of_ble_eq_true rfl)) (BindsTo.of_eq (binds := [("self", .ref x), ("headerlen", .int hl a1), ("maxlen", .int ml a2), ("continuation_ws", .str cw a3), ("splitchars", .str sc a4)]) rfl) (locs rfl) (by decide) rfl rfl rfl ?_
  intro g L' h₁ F N XG TG HG hkeep hk₁ hL
  (try dsimp only)
  (try k_fold)
  k_steps
  (with_reducible rename News _ _ _ _ => N2); (with_reducible rename Fr _ _ _ _ => F2)
  refine acc_make (isz := hl) (u := a1) hprog (sub_fr F2 HG) X TR (by (repeat (with_reducible refine dep_lt ?_)); first | exact Nat.lt_of_lt_of_le hdp (Nat.le_of_ble_eq_true rfl) | omega | (simp only [depth_deeper, depth_in1, units_deeper, units_in1]; omega)) (Nat.le_trans hsz (Nat.le_of_lt (hL ▸ F2.ns.lt))) (.inl rfl) ?_
  intro s3 ax ad t1 t2 Kp e1 e2 hax had
  have F3 := kept_fr0 Kp F2
  have q1 := allNe_of N2 e1
  have q2 := allNe_of N2 e2
  simp only [AllNe, and_true] at q1 q2
  (repeat (obtain ⟨_, q1⟩ := q1)); (repeat (obtain ⟨_, q2⟩ := q2))
  have q3 : @Ne Nat ax ad := upd_ne hax had (by simp)
  have N3 := news_fresh Kp F2 (news_fresh Kp F2 (kept_news0 Kp N2) e2 had) e1 hax
  clear F2 N2
  k_steps
  (with_reducible rename News _ _ _ _ => N9); (with_reducible rename Fr _ _ _ _ => F9)
  refine hQ _ _ ax ad ⟨_, _, _, _, _, _, _, _, _, _⟩ t1 t2 ?_ (N9 (d, _) (by k_mem)).1 ?_ ?_ ?_ ?_ ?_ ?_
  · exact kept_of hkeep F9 hL.symm N9 hT (by (repeat (refine all_cons (fun h9 => by first | k_mem | exact absurd (by k_mem) h9) ?_)); exact all_nil) Kp.os Kp.drawn Kp.gens
  · exact fresh_of hkeep N9 (by k_mem) (by k_all)
  · exact fresh_of hkeep N9 (.head _) (by k_all)
  · exact fresh_of hkeep N9 (.tail _ (.head _)) (by k_all)
  · exact (N9 (_, listOf #[] 0) (by k_mem)).1
  · exact (N9 _ (.head _)).1
  · exact (N9 _ (.tail _ (.head _))).1
theorem vf_make {prog : Program} {w : World} {A : Around} {E : Value → Shared → Prop} {s : Shared} {H₀ : Heap} {p : Program} {loose : List Str} {mg mb : Str → Option Value} {Q : Value → Shared → Prop}
    {hl ml : Int} {cw sc : Str} {a1 a2 a3 a4 : Tok}
    (hprog : prog = PySem.Challenge.pw_yh0022_02)
    (HS : Sub H₀ s.heap) (X : (heapK w.params).In H₀) (TR : TopRead p loose mg mb H₀) (hdp : A.depth < 480) (hsz : H₀.objs.size ≤ s.heap.objs.size) (hcw : cw.length ≤ 1000)
    (hQ : ∀ s' x d ll ax ad k t1 t2, Kept [] s s' → s.heap.get? x = none → s.heap.get? d = none → s.heap.get? ll = none → s.heap.get? ax = none → s.heap.get? ad = none →
      s'.heap.get? x = some (instObj 94 d) → s'.heap.get? d = some (vfD w.params ml cw.length cw sc ll ax k) →
      s'.heap.get? ll = some (listOf #[] 0) → s'.heap.get? ax = some (lobj 178 ad #[] 0) → s'.heap.get? ad = some (accD w.params hl t1 t2) → Q (.ref x) s') :
    wpAny (model prog w) A (call (.ref 94) [.int hl a1, .int ml a2, .str cw a3, .str sc a4]) Q E s := by
  have : PySem.Challenge.rw_yh0022_02.prog = PySem.Challenge.rw_yh0022_02.prog ∧ heapK = heapK := by k_fill; exact ⟨rfl, rfl⟩
  clear this
  have X' := X.keeps HS
  obtain ⟨hh, g, d, t, os⟩ := s
  refine wpAny_call ?_
  have he : (emptyDict).isFreed = false := rfl
  have hl' : (instObj 94 hh.objs.size).isFreed = false := rfl
  have hd : ((hh.push emptyDict).push (instObj 94 hh.objs.size)).get? hh.objs.size = some emptyDict := Heap.get?_push_of_some _ (Heap.get?_push_size _ he)
  have hx : ((hh.push emptyDict).push (instObj 94 hh.objs.size)).get? (hh.objs.size + 1) = some (instObj 94 hh.objs.size) := Heap.get?_push_at (by rw [Heap.size_push]) hl'
  have up : Sub hh ((hh.push emptyDict).push (instObj 94 hh.objs.size)) := fun b o e => Heap.get?_push_of_some _ (Heap.get?_push_of_some _ e)
  have no : ∀ h : Heap, ∀ b, h.objs.size ≤ b → h.get? b = none := fun h b e => by
    cases q : h.get? b with
    | none => rfl
    | some o => exact absurd (Heap.lt_size q) (Nat.not_lt.mpr e)
  have nn : ∀ b, ((hh.push emptyDict).push (instObj 94 hh.objs.size)).get? b = none → hh.get? b = none := fun b e => by
    cases q : hh.get? b with
    | none => rfl
    | some o => rw [up b o q] at e; cases e
  have sz : H₀.objs.size ≤ hh.objs.size := hsz
  refine make_core (makes_of X' (C := 94) (by kernel_rfl)) (looks_findIn X' (by k_is)) (fun self => bind_fn X' self (by k_is)) (.inl rfl) ?_
  have wt : (Code.builtin "type.__call__" { pos := [Value.ref 94, .int hl a1, .int ml a2, .str cw a3, .str sc a4] }).weight ≤ 1 := Nat.le_of_ble_eq_true rfl
  refine vinit_c (x := hh.objs.size + 1) (d := hh.objs.size) (H₀ := H₀) hprog (fun b o e => up b o (HS b o e)) X TR (by simp only [Around.under]; omega) hx hd (no _ _ (by omega)) (no _ _ (by omega)) (by dsimp only; rw [Heap.size_push, Heap.size_push]; omega) hcw ?_
  intro s' ll ax ad k t1 t2 KP h1 h2 h3 h4 h5 h6 h7
  have hne : hh.objs.size + 1 ∉ [hh.objs.size] := by simp
  refine ⟨rfl, hQ s' _ _ ll ax ad k t1 t2 ⟨fun b o _ e => ?_, ?_, KP.os, KP.drawn, KP.gens⟩ (no _ _ (by dsimp only; omega)) (no _ _ (Nat.le_refl _)) (nn _ h2) (nn _ h3) (nn _ h4) (KP.keep _ _ hne hx) h1 h5 h6 h7⟩
  · refine KP.keep b o ?_ (up b o e)
    have this : @LT.lt Nat _ b hh.objs.size := Heap.lt_size e
    simp only [List.mem_cons, List.not_mem_nil, or_false]
    change @Ne Nat _ _; omega
  · have := KP.size
    simp only [Heap.size_push] at this
    dsimp only
    omega
end
/- P9_2k -/
section
open PySem PySem.W PySem.Calls PyProof.Rows
theorem obj_ne {h : Heap} {a b : Addr} {o o' : Obj} (ha : h.get? a = some o) (hb : h.get? b = some o') (hne : o ≠ o') : @Ne Nat a b := fun e => by
  subst e
  rw [ha] at hb
  cases hb
  exact hne rfl
theorem vf_acc_ne {P : Params} {ml cl isz : Int} {cw sc : Str} {ll ax : Addr} {k : VTok} {t1 t2 : Tok} : vfD P ml cl cw sc ll ax k ≠ accD P isz t1 t2 := fun e => by
  injection e with _ _ e
  injection e with e
  have := congrArg Array.size e
  simp at this
theorem vf_nes {s : Shared} {P : Params} {xd x ll ax ad : Addr} {ml cl isz : Int} {cw sc : Str} {k : VTok} {li items : Array Value} {nl n : Nat} {t1 t2 : Tok} {ps1 ps2 : Array Value}
    (hx : s.heap.get? x = some (instObj 94 xd)) (hxd : s.heap.get? xd = some (vfD P ml cl cw sc ll ax k)) (hll : s.heap.get? ll = some (listOf li nl)) (hax : s.heap.get? ax = some (lobj 178 ad items n)) (had : s.heap.get? ad = some (accD P isz t1 t2))
    (hP1 : s.heap.get? 140 = some (tabObj ps1)) (hP2 : s.heap.get? 147 = some (tabObj ps2)) :
    @Ne Nat x xd ∧ @Ne Nat x ll ∧ @Ne Nat x ax ∧ @Ne Nat x ad ∧ @Ne Nat xd ll ∧ @Ne Nat xd ax ∧ @Ne Nat xd ad ∧ @Ne Nat ll ax ∧ @Ne Nat ll ad ∧ @Ne Nat ax ad ∧ @Ne Nat x 140 ∧ @Ne Nat x 147 ∧ @Ne Nat xd 140 ∧ @Ne Nat xd 147 ∧ @Ne Nat ll 140 ∧ @Ne Nat ll 147 ∧ @Ne Nat ax 140 ∧ @Ne Nat ax 147 ∧ @Ne Nat ad 140 ∧ @Ne Nat ad 147 := by
  have n1 : @Ne Nat x xd := upd_ne hx hxd (by simp)
  have n2 : @Ne Nat x ll := upd_ne hx hll (by simp)
  have n3 : @Ne Nat x ax := upd_ne hx hax (by simp)
  have n4 : @Ne Nat x ad := upd_ne hx had (by simp)
  have n5 : @Ne Nat xd ll := upd_ne hxd hll (by simp)
  have n6 : @Ne Nat xd ax := upd_ne hxd hax (by simp)
  have n7 : @Ne Nat xd ad := obj_ne hxd had vf_acc_ne
  have n8 : @Ne Nat ll ax := upd_ne hll hax (by simp)
  have n9 : @Ne Nat ll ad := upd_ne hll had (by simp)
  have n10 : @Ne Nat ax ad := upd_ne hax had (by simp)
  have n11 : @Ne Nat x 140 := upd_ne hx hP1 (by simp)
  have n12 : @Ne Nat x 147 := upd_ne hx hP2 (by simp)
  have n13 : @Ne Nat xd 140 := upd_ne hxd hP1 (by simp)
  have n14 : @Ne Nat xd 147 := upd_ne hxd hP2 (by simp)
  have n15 : @Ne Nat ll 140 := upd_ne hll hP1 (by simp)
  have n16 : @Ne Nat ll 147 := upd_ne hll hP2 (by simp)
  have n17 : @Ne Nat ax 140 := upd_ne hax hP1 (by simp)
  have n18 : @Ne Nat ax 147 := upd_ne hax hP2 (by simp)
  have n19 : @Ne Nat ad 140 := upd_ne had hP1 (by simp)
  have n20 : @Ne Nat ad 147 := upd_ne had hP2 (by simp)
  exact ⟨n1, n2, n3, n4, n5, n6, n7, n8, n9, n10, n11, n12, n13, n14, n15, n16, n17, n18, n19, n20⟩
theorem vf_nt {w : World} {x xd ll ax ad : Addr} {ml cl isz : Int} {cw sc : Str} {k : VTok} {li items : Array Value} {nl n : Nat} {t1 t2 : Tok} {ps1 ps2 : Array Value} : ∀ q ∈ [(x, instObj 94 xd), (xd, vfD w.params ml cl cw sc ll ax k), (ll, listOf li nl), (ax, lobj 178 ad items n), (ad, accD w.params isz t1 t2), ((140 : Addr), tabObj ps1), ((147 : Addr), tabObj ps2)], q.2.cls ≠ .type "tuple" := by simp
end
/- P10_2k -/
section
open PySem PySem.W PySem.Calls PyProof.Rows
theorem newline1_c {prog : Program} {w : World} {A : Around} {E : Value → Shared → Prop} {s : Shared} {H₀ : Heap} {p : Program} {loose : List Str} {mg mb : Str → Option Value} {Q : Value → Shared → Prop} {bm : Addr} {ob : Obj} {ps1 ps2 : Array Value} {x xd ll ax ad : Addr} {ml cl isz : Int} {cw sc : Str} {k : VTok} {li items : Array Value} {nl n : Nat} {t1 t2 : Tok} {a : Addr} {f u : Str} {ta tb : Tok} {its : Array Value} {ps0 : List (Str × Str)} (hprog : prog = PySem.Challenge.pw_yh0022_02)
    (HS : Sub H₀ s.heap) (X : (heapK w.params).In H₀) (TR : TopRead p loose mg mb H₀) (hdp : A.depth < 480) (B : BMod H₀ mainGlobals mg bm ob) (hun : A.units < 1800) (hh : A.handled = none) (G : AllBare s.gens)
    (hP1 : s.heap.get? 140 = some (tabObj ps1)) (hP10 : H₀.get? 140 = none) (ht1 : TriplesOk ps1.toList) (hP2 : s.heap.get? 147 = some (tabObj ps2)) (hP20 : H₀.get? 147 = none) (ht2 : TriplesOk ps2.toList)
    (hx : s.heap.get? x = some (instObj 94 xd)) (hxd : s.heap.get? xd = some (vfD w.params ml cl cw sc ll ax k)) (hll : s.heap.get? ll = some (listOf li nl)) (hax : s.heap.get? ax = some (lobj 178 ad items n)) (had : s.heap.get? ad = some (accD w.params isz t1 t2)) (hx0 : H₀.get? x = none) (hxd0 : H₀.get? xd = none) (hll0 : H₀.get? ll = none) (hax0 : H₀.get? ax = none) (had0 : H₀.get? ad = none) (hit : items = its.push (.ref a)) (ha : s.heap.get? a = some (tupOf [.str f ta, .str u tb])) (hpt : Parts s.heap its.toList ps0)
    (hsm : ∀ p ∈ ps0 ++ [(f, u)], p.1.length ≤ 1000 ∧ p.2.length ≤ 1000) (hln : (ps0 ++ [(f, u)]).length ≤ 900) (hfu : (f == (" " : Str) && u == ("" : Str)) = false) (hok : PyData.strOk f = true ∧ PyData.strOk u = true) (hisz : 0 ≤ isz) (hbig : isz ≤ 100000) (hpos : 0 < isz + plen (ps0 ++ [(f, u)])) (hli : li.size ≤ 100000)
    (hno : isz ≠ 0 ∨ (isz = 0 ∧ plen (ps0 ++ [(f, u)]) ≠ 0 ∧ Txt.isspace (ptext (ps0 ++ [(f, u)])) = false))
    (hQ : ∀ s' ps1' ps2' n' u1 u2, Kept [ll, ax, ad, 140, 147] s s' → s'.heap.get? 140 = some (tabObj ps1') → TriplesOk ps1'.toList → s'.heap.get? 147 = some (tabObj ps2') → TriplesOk ps2'.toList →
      (∃ tt nl', s'.heap.get? ll = some (listOf (li.push (.str (ptext (ps0 ++ [(f, u)])) tt)) nl')) → s'.heap.get? ax = some (lobj 178 ad #[] n') → s'.heap.get? ad = some (accD w.params 0 u1 u2) → Q .none s') :
    wpAny (model prog w) A (call (.ref 56) [.ref x]) Q E s := by
  have : PySem.Challenge.rw_yh0022_02.prog = PySem.Challenge.rw_yh0022_02.prog ∧ heapK = heapK := by k_fill; exact ⟨rfl, rfl⟩
  clear this
  obtain ⟨n1, n2, n3, n4, n5, n6, n7, n8, n9, n10, n11, n12, n13, n14, n15, n16, n17, n18, n19, n20⟩ := vf_nes hx hxd hll hax had hP1 hP2
  have m1 : @Ne Nat a x := upd_ne ha hx (by simp)
  have m2 : @Ne Nat a xd := upd_ne ha hxd (by simp)
  have m3 : @Ne Nat a ll := upd_ne ha hll (by simp)
  have m4 : @Ne Nat a ax := upd_ne ha hax (by simp)
  have m5 : @Ne Nat a ad := upd_ne ha had (by simp)
  have m6 : @Ne Nat a 140 := upd_ne ha hP1 (by simp)
  have m7 : @Ne Nat a 147 := upd_ne ha hP2 (by simp)
  subst hit
  have hT : ∀ q ∈ [(x, instObj 94 xd), (xd, vfD w.params ml cl cw sc ll ax k), (ll, listOf li nl), (ax, lobj 178 ad (its.push (.ref a)) n), (ad, accD w.params isz t1 t2), ((140 : Addr), tabObj ps1), ((147 : Addr), tabObj ps2)], s.heap.get? q.1 = some q.2 := (all_cons hx (all_cons hxd (all_cons hll (all_cons hax (all_cons had (all_cons hP1 (all_cons hP2 all_nil)))))))
  refine wpAny_call ?_
  refine enter _ hT HS (all_cons hx0 (all_cons hxd0 (all_cons hll0 (all_cons hax0 (all_cons had0 (all_cons hP10 (all_cons hP20 all_nil))))))) X TR (by k_is) (by k_is) (Nat.lt_of_lt_of_le hdp (Nat.le_of_ble_eq_true rfl)) (BindsTo.of_eq (binds := [("self", .ref x)]) rfl) (locs rfl) (by decide) rfl rfl rfl ?_
  intro g L' h₁ F N XG TG HG hkeep hk₁ hL
  have BG := B.keeps HG
  have hisz9 : its.size ≤ 900 := by have := hpt.1; simp only [Array.length_toList, List.length_append, List.length_cons, List.length_nil] at this hln; omega
  have ga : g.get? a = some (tupOf [.str f ta, .str u tb]) := hkeep a _ (by simp only [List.map_cons, List.map_nil, List.mem_cons, List.not_mem_nil, or_false, not_or]; exact ⟨m1, m2, m3, m4, m5, m6, m7⟩) ha
  have gp : Parts g its.toList ps0 := parts_hide hkeep hT vf_nt hpt
  have gq : Parts g (its.toList ++ [.ref a]) (ps0 ++ [(f, u)]) := parts_push gp ⟨a, ta, tb, rfl, ga⟩
  dsimp only
  (try k_fold)
  k_steps
  refine pop_c (x := ax) (d := ad) (items := its) (v := .ref a) hprog (sub_fr F HG) X TR (by (repeat (with_reducible refine dep_lt ?_)); first | exact Nat.lt_of_lt_of_le hdp (Nat.le_of_ble_eq_true rfl) | omega | (simp only [depth_deeper, depth_in1, units_deeper, units_in1]; omega)) (N (ax, _) (by k_mem)).1 (N (ad, _) (by k_mem)).1 hax0 had0 (by omega) ?_
  intro s2 n2 Kp e2
  obtain ⟨F2, N2⟩ := step1 Kp F N (by k_upd) e2
  clear F N
  k_steps
  (with_reducible rename News _ _ _ _ => N3); (with_reducible rename Fr _ _ _ _ => F3)
  refine ne_dataH (reads_tuple_at (F3.keep _ _ ga) rfl rfl (by ke_reads)) (by ke_read) (by simp [SeqAt.shaped, PyData.canLay0, PyData.depth, PyData.canLayAll0, PyData.depthAll, hok]) (by kernel_rfl) (by simp only [units_deeper, cLine]; omega) ?_
  ke_norm
  rw [hfu]
  k_steps
  refine star_method (fun _ => rfl) ?_ rfl
  k_steps
  (with_reducible rename News _ _ _ _ => N3); (with_reducible rename Fr _ _ _ _ => F3)
  refine get_methl F3 XG N3 (inst_news N3 (C := 178) (by k_mem) (by k_mem)) (by kernel_rfl) (by k_is) (by k_is) (by k_is) (by k_is) (by k_is) (by k_is) (by decide +kernel) (by k_get) ?_
  intro q h4 F4 N4 hlt4
  k_lt hlt4
  clear F3 N3
  refine callWith_SM (K := heapK w.params) (g := 122) (self := .ref ax) (by k_is) ?_ rfl
  k_steps
  refine star_tuple (vs := [.str f ta, .str u tb]) (F4.keep _ _ ga) F4 N4 (show 2 ≤ sizeLine from Nat.le_of_ble_eq_true rfl) ?_
  intro h45 hk45 F45 N45
  clear F4 N4
  k_steps
  (with_reducible rename News _ _ _ _ => N5); (with_reducible rename Fr _ _ _ _ => F5)
  refine call_meth N5 (f := .ref 122) (self := .ref ax) (by k_mem) ?_
  refine push_core (x := ax) (d := ad) (sub_fr F5 HG) X TR (by (repeat (with_reducible refine dep_lt ?_)); first | exact Nat.lt_of_lt_of_le hdp (Nat.le_of_ble_eq_true rfl) | omega | (simp only [depth_deeper, depth_in1, units_deeper, units_in1]; omega)) (N5 (ax, _) (by k_mem)).1 (N5 (ad, _) (by k_mem)).1 hax0 had0 (Nat.le_trans hisz9 (Nat.le_of_ble_eq_true rfl)) ?_
  intro s6 tp2 Kp6 e61 e62 e63
  obtain ⟨F6, N6'⟩ := step1 Kp6 F5 N5 (by k_upd) e63
  have q6 := allNe_of N5 e61
  simp only [AllNe, and_true] at q6
  (repeat (obtain ⟨_, q6⟩ := q6))
  have N6 := news_fresh Kp6 F5 N6' e61 e62
  clear F5 N5 N6'
  dsimp only
  k_steps
  have G6 := Kp6.gens (Kp.gens G)
  have hb := plen_bound hsm
  have hits : (its.push (Value.ref tp2)).toList = its.toList ++ [.ref tp2] := by simp
  have gq : ∀ h : Heap, (∀ b o, g.get? b = some o → h.get? b = some o) → h.get? tp2 = some (tupOf [.str f ta, .str u tb]) → Parts h (its.push (Value.ref tp2)).toList (ps0 ++ [(f, u)]) := fun h k e => by
    rw [hits]; exact parts_push (gp.keeps fun b o q _ => k b o q) ⟨tp2, ta, tb, rfl, e⟩
  (with_reducible rename News _ _ _ _ => N7); (with_reducible rename Fr _ _ _ _ => F7)
  refine len_c (parts := ps0 ++ [(f, u)]) (x := ax) (d := ad) (sub_fr F7 HG) X TR B (by (repeat (with_reducible refine dep_lt ?_)); first | exact Nat.lt_of_lt_of_le hdp (Nat.le_of_ble_eq_true rfl) | omega | (simp only [depth_deeper, depth_in1, units_deeper, units_in1]; omega)) (by (repeat (with_reducible refine uni_lt ?_)); first | exact Nat.lt_of_lt_of_le hun (Nat.le_of_ble_eq_true rfl) | omega | (simp only [depth_deeper, depth_in1, units_deeper, units_in1]; omega)) hh G6 (N7 (140, _) (by k_mem)).1 hP10 ht1 (N7 (ax, _) (by k_mem)).1 (N7 (ad, _) (by k_mem)).1 (gq _ F7.keep (N7 (tp2, tupOf _) (by k_mem)).1) (fun p hp => by have := hsm p hp; omega) ?_
  intro s8 t8 ps3 Kp8 e81 ht3
  obtain ⟨F8, N8⟩ := step1 Kp8 F7 N7 (by k_upd) e81
  clear F7 N7
  have G8 := Kp8.gens G6
  dsimp only [W.LenBack]
  refine ⟨⟨by omega, by omega⟩, ?_⟩
  k_steps
  (with_reducible rename News _ _ _ _ => N9); (with_reducible rename Fr _ _ _ _ => F9)
  refine onlyws_c (parts := ps0 ++ [(f, u)]) (x := ax) (d := ad) (sub_fr F9 HG) X TR (by (repeat (with_reducible refine dep_lt ?_)); first | exact Nat.lt_of_lt_of_le hdp (Nat.le_of_ble_eq_true rfl) | omega | (simp only [depth_deeper, depth_in1, units_deeper, units_in1]; omega)) B (by (repeat (with_reducible refine uni_lt ?_)); first | exact Nat.lt_of_lt_of_le hun (Nat.le_of_ble_eq_true rfl) | omega | (simp only [depth_deeper, depth_in1, units_deeper, units_in1]; omega)) hh G8 (N9 (140, _) (by k_mem)).1 hP10 ht3 (N9 (147, _) (by k_mem)).1 hP20 ht2 (N9 (ax, _) (by k_mem)).1 (N9 (ad, _) (by k_mem)).1 (gq _ F9.keep (N9 (tp2, tupOf _) (by k_mem)).1) hsm (by omega) hno ?_
  intro s10 ps4 ps5 Kp10 f1 ht4 f2 ht5
  obtain ⟨F10, N10⟩ := step2 Kp10 F9 N9 (by k_upd) (by k_upd) f1 f2 (by decide)
  clear F9 N9
  have G10 := Kp10.gens G8
  k_steps
  (with_reducible rename News _ _ _ _ => N11); (with_reducible rename Fr _ _ _ _ => F11)
  refine kso_call (by simp only [units_deeper, units_in1, cLine]; omega) (XG.keeps F11.keep) (inst_news N11 (x := ax) (d := ad) (C := 178) (by k_mem) (by k_mem)) (by k_is) (by k_is) ?_
  refine str_c (parts := ps0 ++ [(f, u)]) (x := ax) (d := ad) (sub_fr F11 HG) X TR B (by (repeat (with_reducible refine dep_lt ?_)); first | exact Nat.lt_of_lt_of_le hdp (Nat.le_of_ble_eq_true rfl) | omega | (simp only [depth_deeper, depth_in1, units_deeper, units_in1]; omega)) (by (repeat (with_reducible refine uni_lt ?_)); first | exact Nat.lt_of_lt_of_le hun (Nat.le_of_ble_eq_true rfl) | omega | (simp only [depth_deeper, depth_in1, units_deeper, units_in1]; omega)) hh G10 (N11 (147, _) (by k_mem)).1 hP20 ht5 (N11 (ax, _) (by k_mem)).1 (N11 (ad, _) (by k_mem)).1 (gq _ F11.keep (N11 (tp2, tupOf _) (by k_mem)).1) hsm (by omega) ?_
  intro s12 t12 ps6 Kp12 e12 ht6
  obtain ⟨F12, N12⟩ := step1 Kp12 F11 N11 (by k_upd) e12
  clear F11 N11
  have G12 := Kp12.gens G10
  dsimp only [StrBack]
  walk1
  refine append_list_c (l := ll) (its := li) (n := nl) (N12 (ll, _) (by k_mem)).1 (Nat.le_trans hli (Nat.le_of_ble_eq_true rfl)) ?_
  intro s13 Kp13 e13
  obtain ⟨F13, N13⟩ := step1 Kp13 F12 N12 (by k_upd) e13
  have G13 := Kp13.gens G12
  clear F12 N12
  k_steps
  refine reset_c (items := its.push (.ref tp2)) (new := #[]) (args := []) (x := ax) (d := ad) (sub_fr F13 HG) X TR (by (repeat (with_reducible refine dep_lt ?_)); first | exact Nat.lt_of_lt_of_le hdp (Nat.le_of_ble_eq_true rfl) | omega | (simp only [depth_deeper, depth_in1, units_deeper, units_in1]; omega)) (N13 (ax, _) (by k_mem)).1 (N13 (ad, _) (by k_mem)).1 hax0 had0 (by rw [Array.size_push]; omega) (show 0 ≤ 100000 by decide) (.inr ⟨rfl, rfl⟩) ?_
  intro s14 n14 u14 Kp14 g1 g2
  obtain ⟨F14, N14⟩ := step2 Kp14 F13 N13 (by k_upd) (by k_upd) g1 g2 n10
  clear F13 N13
  dsimp only
  k_steps
  (with_reducible rename News _ _ _ _ => N9); (with_reducible rename Fr _ _ _ _ => F9)
  refine hQ _ ps4 ps6 n14 t1 u14 ?_ (N9 (140, _) (by k_mem)).1 ht4 (N9 (147, _) (by k_mem)).1 ht6 ⟨t12, nl + 1, (N9 (ll, _) (by k_mem)).1⟩ (N9 (ax, _) (by k_mem)).1 (N9 (ad, _) (by k_mem)).1
  refine kept_of hkeep F9 hL.symm N9 hT ?_ (Kp14.os.trans (Kp13.os.trans (Kp12.os.trans (Kp10.os.trans (Kp8.os.trans (Kp6.os.trans Kp.os)))))) (Kp14.drawn.trans (Kp13.drawn.trans (Kp12.drawn.trans (Kp10.drawn.trans (Kp8.drawn.trans (Kp6.drawn.trans Kp.drawn)))))) (fun _ => Kp14.gens G13)
  intro q hq hn
  simp only [List.mem_cons, List.not_mem_nil, or_false, not_or] at hq hn
  rcases hq with rfl | rfl | rfl | rfl | rfl | rfl | rfl
  · k_mem
  · k_mem
  · exact absurd rfl hn.1
  · exact absurd rfl hn.2.1
  · exact absurd rfl hn.2.2.1
  · exact absurd rfl hn.2.2.2.1
  · exact absurd rfl hn.2.2.2.2
end
/- P11_2k -/
section
open PySem PySem.W PySem.Calls PyProof.Rows
local macro_rules | `(tactic| k_handed) => `(tactic| fail)
theorem strs_push {vs : List Value} {ys : List Str} {y : Str} {t : Tok} (h : StrsAre vs ys) : StrsAre (vs ++ [.str y t]) (ys ++ [y]) := by
  induction h with
  | nil => exact .cons _ _ .nil
  | cons _ _ _ ih => exact .cons _ _ ih
theorem vstr_c {prog : Program} {w : World} {A : Around} {E : Value → Shared → Prop} {s : Shared} {H₀ : Heap} {p : Program} {loose : List Str} {mg mb : Str → Option Value} {Q : Value → Shared → Prop} {bm : Addr} {ob : Obj} {ps1 ps2 : Array Value} {x xd ll ax ad : Addr} {ml cl isz : Int} {cw sc : Str} {k : VTok} {li items : Array Value} {nl n : Nat} {t1 t2 : Tok} {a : Addr} {f u sep : Str} {ta tb tsep : Tok} {its : Array Value} {ps0 : List (Str × Str)} {lines : List Str} (hprog : prog = PySem.Challenge.pw_yh0022_02)
    (HS : Sub H₀ s.heap) (X : (heapK w.params).In H₀) (TR : TopRead p loose mg mb H₀) (hdp : A.depth < 470) (B : BMod H₀ mainGlobals mg bm ob) (hun : A.units < 1700) (hh : A.handled = none) (G : AllBare s.gens)
    (hP1 : s.heap.get? 140 = some (tabObj ps1)) (hP10 : H₀.get? 140 = none) (ht1 : TriplesOk ps1.toList) (hP2 : s.heap.get? 147 = some (tabObj ps2)) (hP20 : H₀.get? 147 = none) (ht2 : TriplesOk ps2.toList)
    (hx : s.heap.get? x = some (instObj 94 xd)) (hxd : s.heap.get? xd = some (vfD w.params ml cl cw sc ll ax k)) (hll : s.heap.get? ll = some (listOf li nl)) (hax : s.heap.get? ax = some (lobj 178 ad items n)) (had : s.heap.get? ad = some (accD w.params isz t1 t2)) (hx0 : H₀.get? x = none) (hxd0 : H₀.get? xd = none) (hll0 : H₀.get? ll = none) (hax0 : H₀.get? ax = none) (had0 : H₀.get? ad = none) (hit : items = its.push (.ref a)) (ha : s.heap.get? a = some (tupOf [.str f ta, .str u tb])) (hpt : Parts s.heap its.toList ps0)
    (hsm : ∀ p ∈ ps0 ++ [(f, u)], p.1.length ≤ 1000 ∧ p.2.length ≤ 1000) (hln : (ps0 ++ [(f, u)]).length ≤ 900) (hfu : (f == (" " : Str) && u == ("" : Str)) = false) (hok : PyData.strOk f = true ∧ PyData.strOk u = true) (hisz : 0 ≤ isz) (hbig : isz ≤ 100000) (hpos : 0 < isz + plen (ps0 ++ [(f, u)])) (hli : li.size ≤ 100000)
    (hno : isz ≠ 0 ∨ (isz = 0 ∧ plen (ps0 ++ [(f, u)]) ≠ 0 ∧ Txt.isspace (ptext (ps0 ++ [(f, u)])) = false))
    (hlines : StrsAre li.toList lines) (hroom : ((lines ++ [ptext (ps0 ++ [(f, u)])]).map (·.length)).sum + (lines ++ [ptext (ps0 ++ [(f, u)])]).length * sep.length ≤ 16777216)
    (hQ : ∀ s' ps1' ps2' t, Kept [ll, ax, ad, 140, 147] s s' → s'.heap.get? 140 = some (tabObj ps1') → TriplesOk ps1'.toList → s'.heap.get? 147 = some (tabObj ps2') → TriplesOk ps2'.toList → Q (.str (Txt.join sep (lines ++ [ptext (ps0 ++ [(f, u)])])) t) s') :
    wpAny (model prog w) A (call (.ref 42) [.ref x, .str sep tsep]) Q E s := by
  have : PySem.Challenge.rw_yh0022_02.prog = PySem.Challenge.rw_yh0022_02.prog ∧ heapK = heapK := by k_fill; exact ⟨rfl, rfl⟩
  clear this
  obtain ⟨n1, n2, n3, n4, n5, n6, n7, n8, n9, n10, n11, n12, n13, n14, n15, n16, n17, n18, n19, n20⟩ := vf_nes hx hxd hll hax had hP1 hP2
  have m1 : @Ne Nat a x := upd_ne ha hx (by simp)
  have m2 : @Ne Nat a xd := upd_ne ha hxd (by simp)
  have m3 : @Ne Nat a ll := upd_ne ha hll (by simp)
  have m4 : @Ne Nat a ax := upd_ne ha hax (by simp)
  have m5 : @Ne Nat a ad := upd_ne ha had (by simp)
  have m6 : @Ne Nat a 140 := upd_ne ha hP1 (by simp)
  have m7 : @Ne Nat a 147 := upd_ne ha hP2 (by simp)
  have hit9 := hit
  subst hit
  have hT : ∀ q ∈ [(x, instObj 94 xd), (xd, vfD w.params ml cl cw sc ll ax k), (ll, listOf li nl), (ax, lobj 178 ad (its.push (.ref a)) n), (ad, accD w.params isz t1 t2), ((140 : Addr), tabObj ps1), ((147 : Addr), tabObj ps2)], s.heap.get? q.1 = some q.2 := (all_cons hx (all_cons hxd (all_cons hll (all_cons hax (all_cons had (all_cons hP1 (all_cons hP2 all_nil)))))))
  refine wpAny_call ?_
  refine enter _ hT HS (all_cons hx0 (all_cons hxd0 (all_cons hll0 (all_cons hax0 (all_cons had0 (all_cons hP10 (all_cons hP20 all_nil))))))) X TR (by k_is) (by k_is) (Nat.lt_of_lt_of_le hdp (Nat.le_of_ble_eq_true rfl)) (BindsTo.of_eq (binds := [("self", .ref x), ("linesep", .str sep tsep)]) rfl) (locs rfl) (by decide) rfl rfl rfl ?_
  intro g L' h₁ F N XG TG HG hkeep hk₁ hL
  have ga : g.get? a = some (tupOf [.str f ta, .str u tb]) := hkeep a _ (by simp only [List.map_cons, List.map_nil, List.mem_cons, List.not_mem_nil, or_false, not_or]; exact ⟨m1, m2, m3, m4, m5, m6, m7⟩) ha
  have gp : Parts g its.toList ps0 := parts_hide hkeep hT vf_nt hpt
  dsimp only
  (try k_fold)
  k_steps
  refine newline1_c (x := x) (its := its) (a := a) hprog (sub_fr F HG) X TR (by (repeat (with_reducible refine dep_lt ?_)); first | exact Nat.lt_of_lt_of_le hdp (Nat.le_of_ble_eq_true rfl) | omega | (simp only [depth_deeper, depth_in1, units_deeper, units_in1]; omega)) B (by (repeat (with_reducible refine uni_lt ?_)); first | exact Nat.lt_of_lt_of_le hun (Nat.le_of_ble_eq_true rfl) | omega | (simp only [depth_deeper, depth_in1, units_deeper, units_in1]; omega)) hh G (N (140, _) (by k_mem)).1 hP10 ht1 (N (147, _) (by k_mem)).1 hP20 ht2
    (N (x, _) (by k_mem)).1 (N (xd, _) (by k_mem)).1 (N (ll, _) (by k_mem)).1 (N (ax, _) (by k_mem)).1 (N (ad, _) (by k_mem)).1 hx0 hxd0 hll0 hax0 had0 rfl (F.keep _ _ ga) (gp.keeps fun b o e _ => F.keep b o e) hsm hln hfu hok hisz hbig hpos hli hno ?_
  intro s2 ps3 ps4 nn u1 u2 Kp e1 ht3 e2 ht4 e3 e4 e5
  dsimp only at Kp e1 e2 e3 e4 e5
  obtain ⟨tt, nl2, e3⟩ := e3
  obtain ⟨F2, N2⟩ := stepU (news' := [(x, instObj 94 xd), (xd, vfD w.params ml cl cw sc ll ax k), (ll, listOf (li.push (.str (ptext (ps0 ++ [(f, u)])) tt)) nl2), (ax, lobj 178 ad #[] nn), (ad, accD w.params 0 u1 u2), ((140 : Addr), tabObj ps3), ((147 : Addr), tabObj ps4)]) Kp F N (by simp) (by
    intro q hq
    simp only [List.mem_cons, List.not_mem_nil, or_false] at hq
    rcases hq with rfl | rfl | rfl | rfl | rfl | rfl | rfl
    · exact .inl ⟨by k_mem, by simp only [List.mem_cons, List.not_mem_nil, or_false, not_or]; exact ⟨n2, n3, n4, n11, n12⟩⟩
    · exact .inl ⟨by k_mem, by simp only [List.mem_cons, List.not_mem_nil, or_false, not_or]; exact ⟨n5, n6, n7, n13, n14⟩⟩
    · exact .inr ⟨e3, by simp⟩
    · exact .inr ⟨e4, by simp⟩
    · exact .inr ⟨e5, by simp⟩
    · exact .inr ⟨e1, by simp⟩
    · exact .inr ⟨e2, by simp⟩)
  clear F N
  dsimp only
  k_steps
  refine join_list (items := li.push (.str (ptext (ps0 ++ [(f, u)])) tt)) (ys := lines ++ [ptext (ps0 ++ [(f, u)])]) ⟨_, (N2 (ll, _) (by k_mem)).1, rfl, _, rfl⟩ ?_ hroom ?_
  · rw [Array.toList_push]
    exact strs_push hlines
  · intro t' k9
    refine hQ _ ps3 ps4 t' ?_ (N2 (140, _) (by k_mem)).1 ht3 (N2 (147, _) (by k_mem)).1 ht4
    refine kept_of hkeep F2 hL.symm N2 hT ?_ Kp.os Kp.drawn Kp.gens
    intro q hq hn
    simp only [List.mem_cons, List.not_mem_nil, or_false, not_or] at hq hn
    rcases hq with rfl | rfl | rfl | rfl | rfl | rfl | rfl
    · k_mem
    · k_mem
    · exact absurd rfl hn.1
    · exact absurd rfl hn.2.1
    · exact absurd rfl hn.2.2.1
    · exact absurd rfl hn.2.2.2.1
    · exact absurd rfl hn.2.2.2.2
end
/- P12_2k -/
section
open PySem PySem.W PySem.Calls PyProof.Rows
theorem appendA_c {prog : Program} {w : World} {A : Around} {E : Value → Shared → Prop} {s : Shared} {H₀ : Heap} {p : Program} {loose : List Str} {mg mb : Str → Option Value} {Q : Value → Shared → Prop} {bm : Addr} {ob : Obj} {ps1 ps2 : Array Value} {x xd ll ax ad : Addr} {ml cl isz : Int} {cw sc : Str} {k : VTok} {li items : Array Value} {nl n : Nat} {t1 t2 : Tok} {f u : Str} {ta tb : Tok} {ps0 : List (Str × Str)} (hprog : prog = PySem.Challenge.pw_yh0022_02)
    (HS : Sub H₀ s.heap) (X : (heapK w.params).In H₀) (TR : TopRead p loose mg mb H₀) (hdp : A.depth < 470) (B : BMod H₀ mainGlobals mg bm ob) (hun : A.units < 1700) (hh : A.handled = none) (G : AllBare s.gens)
    (hP1 : s.heap.get? 140 = some (tabObj ps1)) (hP10 : H₀.get? 140 = none) (ht1 : TriplesOk ps1.toList) (hP2 : s.heap.get? 147 = some (tabObj ps2)) (hP20 : H₀.get? 147 = none) (ht2 : TriplesOk ps2.toList)
    (hx : s.heap.get? x = some (instObj 94 xd)) (hxd : s.heap.get? xd = some (vfD w.params ml cl cw sc ll ax k)) (hll : s.heap.get? ll = some (listOf li nl)) (hax : s.heap.get? ax = some (lobj 178 ad items n)) (had : s.heap.get? ad = some (accD w.params isz t1 t2)) (hx0 : H₀.get? x = none) (hxd0 : H₀.get? xd = none) (hll0 : H₀.get? ll = none) (hax0 : H₀.get? ax = none) (had0 : H₀.get? ad = none) (hpt : Parts s.heap items.toList ps0)
    (hsm : ∀ p ∈ ps0 ++ [(f, u)], p.1.length ≤ 1000 ∧ p.2.length ≤ 1000) (hln : (ps0 ++ [(f, u)]).length ≤ 900) (hisz : 0 ≤ isz) (hbig : isz ≤ 100000) (hfit : isz + plen (ps0 ++ [(f, u)]) ≤ ml) (hml : ml ≤ 1000000)
    (hQ : ∀ s' ps1' n' tp, Kept [ax, 140] s s' → s'.heap.get? 140 = some (tabObj ps1') → TriplesOk ps1'.toList → s.heap.get? tp = none → s'.heap.get? tp = some (tupOf [.str f ta, .str u tb]) →
      s'.heap.get? ax = some (lobj 178 ad (items.push (.ref tp)) n') → Q .none s') :
    wpAny (model prog w) A (call (.ref 91) [.ref x, .str f ta, .str u tb]) Q E s := by
  have : PySem.Challenge.rw_yh0022_02.prog = PySem.Challenge.rw_yh0022_02.prog ∧ heapK = heapK := by k_fill; exact ⟨rfl, rfl⟩
  clear this
  obtain ⟨n1, n2, n3, n4, n5, n6, n7, n8, n9, n10, n11, n12, n13, n14, n15, n16, n17, n18, n19, n20⟩ := vf_nes hx hxd hll hax had hP1 hP2
  have hT : ∀ q ∈ [(x, instObj 94 xd), (xd, vfD w.params ml cl cw sc ll ax k), (ll, listOf li nl), (ax, lobj 178 ad items n), (ad, accD w.params isz t1 t2), ((140 : Addr), tabObj ps1), ((147 : Addr), tabObj ps2)], s.heap.get? q.1 = some q.2 := (all_cons hx (all_cons hxd (all_cons hll (all_cons hax (all_cons had (all_cons hP1 (all_cons hP2 all_nil)))))))
  refine wpAny_call ?_
  refine enter _ hT HS (all_cons hx0 (all_cons hxd0 (all_cons hll0 (all_cons hax0 (all_cons had0 (all_cons hP10 (all_cons hP20 all_nil))))))) X TR (by k_is) (by k_is) (Nat.lt_of_lt_of_le hdp (Nat.le_of_ble_eq_true rfl)) (BindsTo.of_eq (binds := [("self", .ref x), ("fws", .str f ta), ("string", .str u tb)]) rfl) (locs rfl) (by decide) rfl rfl rfl ?_
  intro g L' h₁ F N XG TG HG hkeep hk₁ hL
  have gp : Parts g items.toList ps0 := parts_hide hkeep hT vf_nt hpt
  have hpb := plen_bound hsm
  have hsz9 : items.size ≤ 900 := by have := hpt.1; simp only [Array.length_toList, List.length_append, List.length_cons, List.length_nil] at this hln; omega
  dsimp only
  (try k_fold)
  k_steps
  refine push_c (x := ax) (d := ad) (items := items) (n := n) (sub_fr F HG) X TR (by (repeat (with_reducible refine dep_lt ?_)); first | exact Nat.lt_of_lt_of_le hdp (Nat.le_of_ble_eq_true rfl) | omega | (simp only [depth_deeper, depth_in1, units_deeper, units_in1]; omega)) (N (ax, _) (by k_mem)).1 (N (ad, _) (by k_mem)).1 hax0 had0 (Nat.le_trans hsz9 (Nat.le_of_ble_eq_true rfl)) ?_
  intro s2 tp Kp e1 e2 e3
  obtain ⟨F2, N2'⟩ := step1 Kp F N (by k_upd) e3
  have q2 := allNe_of N e1
  simp only [AllNe, and_true] at q2
  (repeat (obtain ⟨_, q2⟩ := q2))
  have N2 := news_fresh Kp F N2' e1 e2
  clear F N N2'
  have G2 := Kp.gens G
  (try dsimp only)
  k_steps
  have gq : ∀ h : Heap, (∀ b o, g.get? b = some o → h.get? b = some o) → h.get? tp = some (tupOf [.str f ta, .str u tb]) → Parts h (items.push (Value.ref tp)).toList (ps0 ++ [(f, u)]) := fun h k e => by
    rw [Array.toList_push]; exact parts_push (gp.keeps fun b o q _ => k b o q) ⟨tp, ta, tb, rfl, e⟩
  (with_reducible rename News _ _ _ _ => N3); (with_reducible rename Fr _ _ _ _ => F3)
  refine len_c (parts := ps0 ++ [(f, u)]) (x := ax) (d := ad) (sub_fr F3 HG) X TR B (by (repeat (with_reducible refine dep_lt ?_)); first | exact Nat.lt_of_lt_of_le hdp (Nat.le_of_ble_eq_true rfl) | omega | (simp only [depth_deeper, depth_in1, units_deeper, units_in1]; omega)) (by (repeat (with_reducible refine uni_lt ?_)); first | exact Nat.lt_of_lt_of_le hun (Nat.le_of_ble_eq_true rfl) | omega | (simp only [depth_deeper, depth_in1, units_deeper, units_in1]; omega)) hh G2 (N3 (140, _) (by k_mem)).1 hP10 ht1 (N3 (ax, _) (by k_mem)).1 (N3 (ad, _) (by k_mem)).1 (gq _ F3.keep (N3 (tp, tupOf _) (by k_mem)).1) (fun p hp => by have := hsm p hp; omega) ?_
  intro s4 t4 ps3 Kp4 e41 ht3
  obtain ⟨F4, N4⟩ := step1 Kp4 F3 N3 (by k_upd) e41
  clear F3 N3
  dsimp only [W.LenBack]
  refine ⟨⟨by omega, by omega⟩, ?_⟩
  k_steps
  refine hQ _ ps3 (n + 1) tp ?_ (N4 (140, _) (by k_mem)).1 ht3 ?_ (N4 (tp, tupOf _) (by k_mem)).1 (N4 (ax, _) (by k_mem)).1
  · refine kept_of hkeep F4 hL.symm N4 hT ?_ (Kp4.os.trans Kp.os) (Kp4.drawn.trans Kp.drawn) (fun q => Kp4.gens (Kp.gens q))
    intro q hq hn
    simp only [List.mem_cons, List.not_mem_nil, or_false, not_or] at hq hn
    rcases hq with rfl | rfl | rfl | rfl | rfl | rfl | rfl
    · k_mem
    · k_mem
    · k_mem
    · exact absurd rfl hn.1
    · k_mem
    · exact absurd rfl hn.2
    · k_mem
  · exact fresh_of hkeep N4 (.head _) (by
      intro q hq
      simp only [List.mem_cons, List.not_mem_nil, or_false] at hq
      rcases hq with rfl | rfl | rfl | rfl | rfl | rfl | rfl <;> assumption)
end
/- P14_2k -/
section
open PySem PySem.W PySem.Calls PyProof.Rows
theorem news_tail {g h : Heap} {L : Addr} {p : Addr × Obj} {l : List (Addr × Obj)} (N : News g L h (p :: l)) : News g L h l := fun x hx => N x (.tail _ hx)
theorem appendC_c {prog : Program} {w : World} {A : Around} {E : Value → Shared → Prop} {s : Shared} {H₀ : Heap} {p : Program} {loose : List Str} {mg mb : Str → Option Value} {Q : Value → Shared → Prop} {bm : Addr} {ob : Obj} {ps1 ps2 : Array Value} {x xd ll ax ad : Addr} {ml cl isz : Int} {cw sc : Str} {k : VTok} {li items : Array Value} {nl n : Nat} {t1 t2 : Tok} {u : Str} {ta tb : Tok} {ps0 : List (Str × Str)} (hprog : prog = PySem.Challenge.pw_yh0022_02)
    (HS : Sub H₀ s.heap) (X : (heapK w.params).In H₀) (TR : TopRead p loose mg mb H₀) (hdp : A.depth < 470) (B : BMod H₀ mainGlobals mg bm ob) (hun : A.units < 1700) (hh : A.handled = none) (G : AllBare s.gens)
    (hP1 : s.heap.get? 140 = some (tabObj ps1)) (hP10 : H₀.get? 140 = none) (ht1 : TriplesOk ps1.toList) (hP2 : s.heap.get? 147 = some (tabObj ps2)) (hP20 : H₀.get? 147 = none) (ht2 : TriplesOk ps2.toList)
    (hx : s.heap.get? x = some (instObj 94 xd)) (hxd : s.heap.get? xd = some (vfD w.params ml cl cw sc ll ax k)) (hll : s.heap.get? ll = some (listOf li nl)) (hax : s.heap.get? ax = some (lobj 178 ad items n)) (had : s.heap.get? ad = some (accD w.params isz t1 t2)) (hx0 : H₀.get? x = none) (hxd0 : H₀.get? xd = none) (hll0 : H₀.get? ll = none) (hax0 : H₀.get? ax = none) (had0 : H₀.get? ad = none) (hpt : Parts s.heap items.toList ps0) (hit : 0 < items.size) (hsc : sc = Str.ofString " \t") (hz : isz = 0)
    (hsm : ∀ p ∈ ps0 ++ [(Str.ofString " ", u)], p.1.length ≤ 1000 ∧ p.2.length ≤ 1000) (hln : (ps0 ++ [(Str.ofString " ", u)]).length ≤ 900) (hover : ml < plen (ps0 ++ [(Str.ofString " ", u)])) (hml : ml ≤ 1000000) (hli : li.size ≤ 100000)
    (hQ : ∀ s' ps1' ps2' n' u1 u2 tp, Kept [ll, ax, ad, 140, 147] s s' → s'.heap.get? 140 = some (tabObj ps1') → TriplesOk ps1'.toList → s'.heap.get? 147 = some (tabObj ps2') → TriplesOk ps2'.toList →
      (∃ tt nl', s'.heap.get? ll = some (listOf (li.push (.str (ptext ps0) tt)) nl')) → s.heap.get? tp = none → s'.heap.get? tp = some (tupOf [.str (Str.ofString " ") ta, .str u tb]) →
      s'.heap.get? ax = some (lobj 178 ad #[.ref tp] n') → s'.heap.get? ad = some (accD w.params 0 u1 u2) → Q .none s') :
    wpAny (model prog w) A (call (.ref 91) [.ref x, .str (Str.ofString " ") ta, .str u tb]) Q E s := by
  have : PySem.Challenge.rw_yh0022_02.prog = PySem.Challenge.rw_yh0022_02.prog ∧ heapK = heapK := by k_fill; exact ⟨rfl, rfl⟩
  clear this
  obtain ⟨n1, n2, n3, n4, n5, n6, n7, n8, n9, n10, n11, n12, n13, n14, n15, n16, n17, n18, n19, n20⟩ := vf_nes hx hxd hll hax had hP1 hP2
  have hT : ∀ q ∈ [(x, instObj 94 xd), (xd, vfD w.params ml cl cw sc ll ax k), (ll, listOf li nl), (ax, lobj 178 ad items n), (ad, accD w.params isz t1 t2), ((140 : Addr), tabObj ps1), ((147 : Addr), tabObj ps2)], s.heap.get? q.1 = some q.2 := (all_cons hx (all_cons hxd (all_cons hll (all_cons hax (all_cons had (all_cons hP1 (all_cons hP2 all_nil)))))))
  refine wpAny_call ?_
  refine enter _ hT HS (all_cons hx0 (all_cons hxd0 (all_cons hll0 (all_cons hax0 (all_cons had0 (all_cons hP10 (all_cons hP20 all_nil))))))) X TR (by k_is) (by k_is) (Nat.lt_of_lt_of_le hdp (Nat.le_of_ble_eq_true rfl)) (BindsTo.of_eq (binds := [("self", .ref x), ("fws", .str (Str.ofString " ") ta), ("string", .str u tb)]) rfl) (locs rfl) (by decide) rfl rfl rfl ?_
  intro g L' h₁ F N XG TG HG hkeep hk₁ hL
  subst hsc
  subst hz
  have gp : Parts g items.toList ps0 := parts_hide hkeep hT vf_nt hpt
  have hpb := plen_bound hsm
  have hsz9 : items.size ≤ 900 := by have := hpt.1; simp only [Array.length_toList, List.length_append, List.length_cons, List.length_nil] at this hln; omega
  dsimp only
  (try k_fold)
  k_steps
  refine push_c (x := ax) (d := ad) (items := items) (n := n) (sub_fr F HG) X TR (by (repeat (with_reducible refine dep_lt ?_)); first | exact Nat.lt_of_lt_of_le hdp (Nat.le_of_ble_eq_true rfl) | omega | (simp only [depth_deeper, depth_in1, units_deeper, units_in1]; omega)) (N (ax, _) (by k_mem)).1 (N (ad, _) (by k_mem)).1 hax0 had0 (Nat.le_trans hsz9 (Nat.le_of_ble_eq_true rfl)) ?_
  intro s2 tp Kp e1 e2 e3
  obtain ⟨F2, N2'⟩ := step1 Kp F N (by k_upd) e3
  have q2 := allNe_of N e1
  simp only [AllNe, and_true] at q2
  (repeat (obtain ⟨_, q2⟩ := q2))
  have N2 := news_fresh Kp F N2' e1 e2
  clear F N N2'
  have G2 := Kp.gens G
  (try dsimp only)
  k_steps
  have gq : ∀ h : Heap, (∀ b o, g.get? b = some o → h.get? b = some o) → h.get? tp = some (tupOf [.str (Str.ofString " ") ta, .str u tb]) → Parts h (items.push (Value.ref tp)).toList (ps0 ++ [(Str.ofString " ", u)]) := fun h k e => by
    rw [Array.toList_push]; exact parts_push (gp.keeps fun b o q _ => k b o q) ⟨tp, ta, tb, rfl, e⟩
  (with_reducible rename News _ _ _ _ => N3); (with_reducible rename Fr _ _ _ _ => F3)
  refine len_c (parts := ps0 ++ [(Str.ofString " ", u)]) (x := ax) (d := ad) (sub_fr F3 HG) X TR B (by (repeat (with_reducible refine dep_lt ?_)); first | exact Nat.lt_of_lt_of_le hdp (Nat.le_of_ble_eq_true rfl) | omega | (simp only [depth_deeper, depth_in1, units_deeper, units_in1]; omega)) (by (repeat (with_reducible refine uni_lt ?_)); first | exact Nat.lt_of_lt_of_le hun (Nat.le_of_ble_eq_true rfl) | omega | (simp only [depth_deeper, depth_in1, units_deeper, units_in1]; omega)) hh G2 (N3 (140, _) (by k_mem)).1 hP10 ht1 (N3 (ax, _) (by k_mem)).1 (N3 (ad, _) (by k_mem)).1 (gq _ F3.keep (N3 (tp, tupOf _) (by k_mem)).1) (fun p hp => by have := hsm p hp; omega) ?_
  intro s4 t4 ps3 Kp4 e41 ht3
  obtain ⟨F4, N4⟩ := step1 Kp4 F3 N3 (by k_upd) e41
  clear F3 N3
  have G4 := Kp4.gens G2
  rw [Int.zero_add]
  dsimp only [W.LenBack]
  refine ⟨⟨by omega, by omega⟩, ?_⟩
  k_steps
  refine for_own ?_ (fun _ => rfl)
  k_steps
  (with_reducible rename News _ _ _ _ => N4); (with_reducible rename Fr _ _ _ _ => F4)
  refine iter_str_own (by decide +kernel) F4 N4 ?_
  intro I h5 oI hI F5 N5 hoff5 k5
  have q5 := hoff5
  simp only [List.forall_mem_cons, List.not_mem_nil, false_implies, implies_true, and_true] at q5
  (repeat (obtain ⟨_, q5⟩ := q5))
  clear F4 N4
  refine for_str_item (c := 32) F5 N5 hoff5 hI rfl (fun _ => rfl) ?_
  intro h6 oI6 tk6 tk6' hI6 F6 N6 x6
  clear F5 N5
  refine wpAny_assign_Name ?_
  k_steps
  refine for_own ?_ (fun _ => rfl)
  k_steps
  (with_reducible rename News _ _ _ _ => N7); (with_reducible rename Fr _ _ _ _ => F7)
  refine pc_c (x := ax) (d := ad) (items := items.push (.ref tp)) (c := (items.size : Int) + 1) hprog (sub_fr F7 HG) X TR (by (repeat (with_reducible refine dep_lt ?_)); first | exact Nat.lt_of_lt_of_le hdp (Nat.le_of_ble_eq_true rfl) | omega | (simp only [depth_deeper, depth_in1, units_deeper, units_in1]; omega)) (N7 (ax, _) (by k_mem)).1 (N7 (ad, _) (by k_mem)).1 (by rw [Array.size_push]; omega) ?_
  intro s8 t8 Kp8
  obtain ⟨F8, N8⟩ := step0 Kp8 F7 N7
  clear F7 N7
  have G8 := Kp8.gens G4
  k_steps
  (with_reducible rename News _ _ _ _ => N9); (with_reducible rename Fr _ _ _ _ => F9)
  refine iter_range_own (by assumption) (small_down (by omega) (by omega) (by decide) (by decide)) F9 N9 ?_
  intro J h10 F10 N10 hoff10 k10
  clear F9 N9
  have hrs : 0 < Builtin.Range.rangeSize ((items.size : Int) + 1 - 1) 0 (-1) := by
    unfold Builtin.Range.rangeSize
    rw [if_neg (by decide), if_pos (by omega), show (-(-1) : Int) = 1 from rfl, Int.ediv_one]
    omega
  refine for_range_item F10 N10 hoff10 hrs (fun _ => rfl) ?_
  intro h11 tk11 tk11' F11 N11 x11
  clear F10 N10
  refine wpAny_assign_Name ?_
  rw [show (items.size : Int) + 1 - 1 = (items.size : Int) by omega] at *
  k_steps
  (with_reducible rename News _ _ _ _ => N12); (with_reducible rename Fr _ _ _ _ => F12)
  refine item_l (v := .ref tp) (XG.keeps F12.keep) (inst_news N12 (x := ax) (d := ad) (C := 178) (by k_mem) (by k_mem)) (by k_is) (by k_is) (by k_is) (by omega) (by omega) (by simp) ?_ (by with_unfolding_all rfl)
  k_steps
  dsimp only
  refine LoopB.brk ?_
  dsimp only
  k_steps
  dsimp only
  refine LoopB.brk ?_
  dsimp only
  k_steps
  have hd9 : (items.push (.ref tp)).toList.drop items.size = [.ref tp] := by simp
  have ht9 : (items.push (.ref tp)).toList.take items.size = items.toList := by simp
  (with_reducible rename News _ _ _ _ => N13a); (with_reducible rename Fr _ _ _ _ => F13)
  have N13 := news_tail (news_tail N13a)
  clear N13a
  refine popfrom_c (x := ax) (d := ad) (items := items.push (.ref tp)) (i := items.size) (sub_fr F13 HG) X TR (by (repeat (with_reducible refine dep_lt ?_)); first | exact Nat.lt_of_lt_of_le hdp (Nat.le_of_ble_eq_true rfl) | omega | (simp only [depth_deeper, depth_in1, units_deeper, units_in1]; omega)) (N13 (ax, _) (by k_mem)).1 (N13 (ad, _) (by k_mem)).1 hax0 had0 (by rw [Array.size_push]; omega) (by rw [Array.size_push]; omega) (.inl rfl) ?_
  intro s14 y ny n14 Kp14 e1 e2 e3
  rw [hd9] at e2
  rw [ht9, Array.toArray_toList] at e3
  obtain ⟨F14, N14'⟩ := step1 Kp14 F13 N13 (by k_upd) e3
  have q14 := allNe_of N13 e1
  simp only [AllNe, and_true] at q14
  (repeat (obtain ⟨_, q14⟩ := q14))
  have N14 := news_fresh Kp14 F13 N14' e1 e2
  have G14 := Kp14.gens G8
  clear F13 N13 N14'
  k_steps
  (with_reducible rename News _ _ _ _ => N15); (with_reducible rename Fr _ _ _ _ => F15)
  refine kso_call (by simp only [units_deeper, units_in1, cLine]; omega) (XG.keeps F15.keep) (inst_news N15 (x := ax) (d := ad) (C := 178) (by k_mem) (by k_mem)) (by k_is) (by k_is) ?_
  refine str_c (parts := ps0) (x := ax) (d := ad) (sub_fr F15 HG) X TR B (by (repeat (with_reducible refine dep_lt ?_)); first | exact Nat.lt_of_lt_of_le hdp (Nat.le_of_ble_eq_true rfl) | omega | (simp only [depth_deeper, depth_in1, units_deeper, units_in1]; omega)) (by (repeat (with_reducible refine uni_lt ?_)); first | exact Nat.lt_of_lt_of_le hun (Nat.le_of_ble_eq_true rfl) | omega | (simp only [depth_deeper, depth_in1, units_deeper, units_in1]; omega)) hh G14 (N15 (147, _) (by k_mem)).1 hP20 ht2 (N15 (ax, _) (by k_mem)).1 (N15 (ad, _) (by k_mem)).1 (gp.keeps fun b o q _ => F15.keep b o q) (fun p hp => hsm p (List.mem_append_left _ hp)) (by rw [List.length_append] at hln; omega) ?_
  intro s16 t16 ps4 Kp16 e16 ht4
  obtain ⟨F16, N16⟩ := step1 Kp16 F15 N15 (by k_upd) e16
  have G16 := Kp16.gens G14
  clear F15 N15
  dsimp only [StrBack]
  walk1
  refine append_list_c (l := ll) (its := li) (n := nl) (N16 (ll, _) (by k_mem)).1 (Nat.le_trans hli (Nat.le_of_ble_eq_true rfl)) ?_
  intro s17 Kp17 e17
  obtain ⟨F17, N17⟩ := step1 Kp17 F16 N16 (by k_upd) e17
  have G17 := Kp17.gens G16
  clear F16 N16
  k_steps
  (with_reducible rename News _ _ _ _ => N18); (with_reducible rename Fr _ _ _ _ => F18)
  refine reset_c (items := items) (new := #[.ref tp]) (args := [.ref y]) (x := ax) (d := ad) (sub_fr F18 HG) X TR (by (repeat (with_reducible refine dep_lt ?_)); first | exact Nat.lt_of_lt_of_le hdp (Nat.le_of_ble_eq_true rfl) | omega | (simp only [depth_deeper, depth_in1, units_deeper, units_in1]; omega)) (N18 (ax, _) (by k_mem)).1 (N18 (ad, _) (by k_mem)).1 hax0 had0 (by omega) (show 1 ≤ 100000 by decide) (.inl ⟨y, ny, rfl, (N18 (y, _) (by k_mem)).1⟩) ?_
  intro s19 n19 u19 Kp19 g1 g2
  obtain ⟨F19, N19⟩ := step2 Kp19 F18 N18 (by k_upd) (by k_upd) g1 g2 n10
  clear F18 N18
  (try dsimp only)
  k_steps
  (try dsimp only)
  (with_reducible rename News _ _ _ _ => N20); (with_reducible rename Fr _ _ _ _ => F20)
  refine hQ _ ps3 ps4 n19 t1 u19 tp ?_ (N20 (140, _) (by k_mem)).1 ht3 (N20 (147, _) (by k_mem)).1 ht4 ⟨t16, nl + 1, (N20 (ll, _) (by k_mem)).1⟩ ?_ (N20 (tp, tupOf _) (by k_mem)).1 (N20 (ax, _) (by k_mem)).1 (N20 (ad, _) (by k_mem)).1
  · refine kept_of hkeep F20 hL.symm N20 hT ?_ (Kp19.os.trans (Kp17.os.trans (Kp16.os.trans (Kp14.os.trans (Kp8.os.trans (Kp4.os.trans Kp.os)))))) (Kp19.drawn.trans (Kp17.drawn.trans (Kp16.drawn.trans (Kp14.drawn.trans (Kp8.drawn.trans (Kp4.drawn.trans Kp.drawn)))))) (fun _ => Kp19.gens G17)
    intro q hq hn
    simp only [List.mem_cons, List.not_mem_nil, or_false, not_or] at hq hn
    rcases hq with rfl | rfl | rfl | rfl | rfl | rfl | rfl
    · k_mem
    · k_mem
    · exact absurd rfl hn.1
    · exact absurd rfl hn.2.1
    · exact absurd rfl hn.2.2.1
    · exact absurd rfl hn.2.2.2.1
    · exact absurd rfl hn.2.2.2.2
  · exact fresh_of hkeep N20 (by k_mem) (by
      intro q hq
      simp only [List.mem_cons, List.not_mem_nil, or_false] at hq
      rcases hq with rfl | rfl | rfl | rfl | rfl | rfl | rfl <;> assumption)
end
/- P15_2k -/
section
open PySem PySem.W PySem.Calls PyProof.Rows
theorem appendD_c {prog : Program} {w : World} {A : Around} {E : Value → Shared → Prop} {s : Shared} {H₀ : Heap} {p : Program} {loose : List Str} {mg mb : Str → Option Value} {Q : Value → Shared → Prop} {bm : Addr} {ob : Obj} {ps1 ps2 : Array Value} {x xd ll ax ad : Addr} {ml cl isz : Int} {cw sc : Str} {k : VTok} {li items : Array Value} {nl n : Nat} {t1 t2 : Tok} {u : Str} {ta tb : Tok} (hprog : prog = PySem.Challenge.pw_yh0022_02)
    (HS : Sub H₀ s.heap) (X : (heapK w.params).In H₀) (TR : TopRead p loose mg mb H₀) (hdp : A.depth < 470) (B : BMod H₀ mainGlobals mg bm ob) (hun : A.units < 1700) (hh : A.handled = none) (G : AllBare s.gens)
    (hP1 : s.heap.get? 140 = some (tabObj ps1)) (hP10 : H₀.get? 140 = none) (ht1 : TriplesOk ps1.toList) (hP2 : s.heap.get? 147 = some (tabObj ps2)) (hP20 : H₀.get? 147 = none) (ht2 : TriplesOk ps2.toList)
    (hx : s.heap.get? x = some (instObj 94 xd)) (hxd : s.heap.get? xd = some (vfD w.params ml cl cw sc ll ax k)) (hll : s.heap.get? ll = some (listOf li nl)) (hax : s.heap.get? ax = some (lobj 178 ad items n)) (had : s.heap.get? ad = some (accD w.params isz t1 t2)) (hx0 : H₀.get? x = none) (hxd0 : H₀.get? xd = none) (hll0 : H₀.get? ll = none) (hax0 : H₀.get? ax = none) (had0 : H₀.get? ad = none) (hit : items = #[]) (hsc : sc = Str.ofString " \t") (hu : u.length ≤ 900) (hisz : isz = 0) (hover : ml < plen [(Str.ofString " ", u)]) (hml : ml ≤ 1000000)
    (hQ : ∀ s' ps1' n' tp, Kept [ax, 140] s s' → s'.heap.get? 140 = some (tabObj ps1') → TriplesOk ps1'.toList → s.heap.get? tp = none → (∃ ta tb, s'.heap.get? tp = some (tupOf [.str (Str.ofString " ") ta, .str u tb])) →
      s'.heap.get? ax = some (lobj 178 ad #[.ref tp] n') → Q .none s') :
    wpAny (model prog w) A (call (.ref 91) [.ref x, .str (Str.ofString " ") ta, .str u tb]) Q E s := by
  have : PySem.Challenge.rw_yh0022_02.prog = PySem.Challenge.rw_yh0022_02.prog ∧ heapK = heapK := by k_fill; exact ⟨rfl, rfl⟩
  clear this
  obtain ⟨n1, n2, n3, n4, n5, n6, n7, n8, n9, n10, n11, n12, n13, n14, n15, n16, n17, n18, n19, n20⟩ := vf_nes hx hxd hll hax had hP1 hP2
  have hT : ∀ q ∈ [(x, instObj 94 xd), (xd, vfD w.params ml cl cw sc ll ax k), (ll, listOf li nl), (ax, lobj 178 ad items n), (ad, accD w.params isz t1 t2), ((140 : Addr), tabObj ps1), ((147 : Addr), tabObj ps2)], s.heap.get? q.1 = some q.2 := (all_cons hx (all_cons hxd (all_cons hll (all_cons hax (all_cons had (all_cons hP1 (all_cons hP2 all_nil)))))))
  refine wpAny_call ?_
  refine enter _ hT HS (all_cons hx0 (all_cons hxd0 (all_cons hll0 (all_cons hax0 (all_cons had0 (all_cons hP10 (all_cons hP20 all_nil))))))) X TR (by k_is) (by k_is) (Nat.lt_of_lt_of_le hdp (Nat.le_of_ble_eq_true rfl)) (BindsTo.of_eq (binds := [("self", .ref x), ("fws", .str (Str.ofString " ") ta), ("string", .str u tb)]) rfl) (locs rfl) (by decide) rfl rfl rfl ?_
  intro g L' h₁ F N XG TG HG hkeep hk₁ hL
  subst hit
  subst hsc
  subst hisz
  have hsm : ∀ p ∈ [(Str.ofString " ", u)], p.1.length ≤ 1000 ∧ p.2.length ≤ 1000 := by
    intro p hp
    simp only [List.mem_cons, List.not_mem_nil, or_false] at hp
    subst hp
    exact ⟨show (Str.ofString " ").length ≤ 1000 by decide +kernel, by dsimp only; omega⟩
  have hpb := plen_bound hsm
  simp only [List.length_cons, List.length_nil] at hpb
  dsimp only
  (try k_fold)
  k_steps
  refine push_c (x := ax) (d := ad) (items := #[]) (n := n) (sub_fr F HG) X TR (by (repeat (with_reducible refine dep_lt ?_)); first | exact Nat.lt_of_lt_of_le hdp (Nat.le_of_ble_eq_true rfl) | omega | (simp only [depth_deeper, depth_in1, units_deeper, units_in1]; omega)) (N (ax, _) (by k_mem)).1 (N (ad, _) (by k_mem)).1 hax0 had0 (Nat.le_of_ble_eq_true rfl) ?_
  intro s2 tp Kp e1 e2 e3
  obtain ⟨F2, N2'⟩ := step1 Kp F N (by k_upd) e3
  have q2 := allNe_of N e1
  simp only [AllNe, and_true] at q2
  (repeat (obtain ⟨_, q2⟩ := q2))
  have N2 := news_fresh Kp F N2' e1 e2
  clear F N N2'
  have G2 := Kp.gens G
  (try dsimp only)
  k_steps
  (with_reducible rename News _ _ _ _ => N3); (with_reducible rename Fr _ _ _ _ => F3)
  refine len_c (parts := [(Str.ofString " ", u)]) (x := ax) (d := ad) (sub_fr F3 HG) X TR B (by (repeat (with_reducible refine dep_lt ?_)); first | exact Nat.lt_of_lt_of_le hdp (Nat.le_of_ble_eq_true rfl) | omega | (simp only [depth_deeper, depth_in1, units_deeper, units_in1]; omega)) (by (repeat (with_reducible refine uni_lt ?_)); first | exact Nat.lt_of_lt_of_le hun (Nat.le_of_ble_eq_true rfl) | omega | (simp only [depth_deeper, depth_in1, units_deeper, units_in1]; omega)) hh G2 (N3 (140, _) (by k_mem)).1 hP10 ht1 (N3 (ax, _) (by k_mem)).1 (N3 (ad, _) (by k_mem)).1 (parts_one (N3 (tp, tupOf _) (by k_mem)).1) (fun p hp => by have := hsm p hp; omega) ?_
  intro s4 t4 ps3 Kp4 e41 ht3
  obtain ⟨F4, N4⟩ := step1 Kp4 F3 N3 (by k_upd) e41
  clear F3 N3
  dsimp only [W.LenBack]
  refine ⟨⟨by omega, by omega⟩, ?_⟩
  k_steps
  refine for_own ?_ (fun _ => rfl)
  k_steps
  (with_reducible rename News _ _ _ _ => N4); (with_reducible rename Fr _ _ _ _ => F4)
  refine iter_str_own (by decide +kernel) F4 N4 ?_
  intro I h5 oI hI F5 N5 hoff5 k5
  have q5 := hoff5
  simp only [List.forall_mem_cons, List.not_mem_nil, false_implies, implies_true, and_true] at q5
  (repeat (obtain ⟨_, q5⟩ := q5))
  clear F4 N4
  refine for_str_item (c := 32) F5 N5 hoff5 hI rfl (fun _ => rfl) ?_
  intro h6 oI6 tk6 tk6' hI6 F6 N6 x6
  clear F5 N5
  refine wpAny_assign_Name ?_
  k_steps
  refine for_own ?_ (fun _ => rfl)
  k_steps
  (with_reducible rename News _ _ _ _ => N7); (with_reducible rename Fr _ _ _ _ => F7)
  refine pc_c (x := ax) (d := ad) (items := #[.ref tp]) (c := 1) hprog (sub_fr F7 HG) X TR (by (repeat (with_reducible refine dep_lt ?_)); first | exact Nat.lt_of_lt_of_le hdp (Nat.le_of_ble_eq_true rfl) | omega | (simp only [depth_deeper, depth_in1, units_deeper, units_in1]; omega)) (N7 (ax, _) (by k_mem)).1 (N7 (ad, _) (by k_mem)).1 rfl ?_
  intro s8 t8 Kp8
  obtain ⟨F8, N8⟩ := step0 Kp8 F7 N7
  clear F7 N7
  k_steps
  (with_reducible rename News _ _ _ _ => N9); (with_reducible rename Fr _ _ _ _ => F9)
  refine iter_range_own (by assumption) (by decide +kernel) F9 N9 ?_
  intro J h10 F10 N10 hoff10 k10
  clear F9 N9
  refine for_range_done hh F10 N10 hoff10 (by decide +kernel) ?_
  intro h11 F11 N11 x11
  clear F10 N10
  k_steps
  refine LoopB.cont ?_
  clear q5
  refine for_str_item (c := 9) F11 N11 hoff5 hI6 rfl (fun _ => rfl) ?_
  intro h26 oI26 tk26 tk26' hI26 F26 N26 x26
  clear F11 N11
  refine wpAny_assign_Name ?_
  k_steps
  refine for_own ?_ (fun _ => rfl)
  k_steps
  (with_reducible rename News _ _ _ _ => N27); (with_reducible rename Fr _ _ _ _ => F27)
  refine pc_c (x := ax) (d := ad) (items := #[.ref tp]) (c := 1) hprog (sub_fr F27 HG) X TR (by (repeat (with_reducible refine dep_lt ?_)); first | exact Nat.lt_of_lt_of_le hdp (Nat.le_of_ble_eq_true rfl) | omega | (simp only [depth_deeper, depth_in1, units_deeper, units_in1]; omega)) (N27 (ax, _) (by k_mem)).1 (N27 (ad, _) (by k_mem)).1 rfl ?_
  intro s28 t28 Kp28
  obtain ⟨F28, N28⟩ := step0 Kp28 F27 N27
  clear F27 N27
  k_steps
  (with_reducible rename News _ _ _ _ => N29); (with_reducible rename Fr _ _ _ _ => F29)
  refine iter_range_own (by assumption) (by decide +kernel) F29 N29 ?_
  intro J2 h30 F30 N30 hoff30 k30
  clear F29 N29
  refine for_range_done hh F30 N30 hoff30 (by decide +kernel) ?_
  intro h31 F31 N31 x31
  clear F30 N30
  k_steps
  refine LoopB.cont ?_
  refine for_str_done hh F31 N31 hoff5 hI26 rfl ?_
  intro h12 F12 N12 x12
  clear F31 N31
  k_steps
  (with_reducible rename News _ _ _ _ => N13); (with_reducible rename Fr _ _ _ _ => F13)
  have G13 := Kp28.gens (Kp8.gens (Kp4.gens G2))
  refine pop_c (x := ax) (d := ad) (items := #[]) (v := .ref tp) hprog (sub_fr F13 HG) X TR (by (repeat (with_reducible refine dep_lt ?_)); first | exact Nat.lt_of_lt_of_le hdp (Nat.le_of_ble_eq_true rfl) | omega | (simp only [depth_deeper, depth_in1, units_deeper, units_in1]; omega)) (N13 (ax, _) (by k_mem)).1 (N13 (ad, _) (by k_mem)).1 hax0 had0 (Nat.zero_le _) ?_
  intro s14 nn14 Kp14 e14
  obtain ⟨F14, N14⟩ := step1 Kp14 F13 N13 (by k_upd) e14
  have G14 := Kp14.gens G13
  clear F13 N13
  refine unpackN_ F14 N14 (items := #[.str (Str.ofString " ") ta, .str u tb]) ⟨_, (N14 (tp, tupOf _) (by k_mem)).1, rfl, _, rfl⟩ hh rfl rfl ?_
  intro h15 F15 N15
  clear F14 N14
  k_steps
  (with_reducible rename News _ _ _ _ => N16); (with_reducible rename Fr _ _ _ _ => F16)
  refine push_c (x := ax) (d := ad) (items := #[]) (sub_fr F16 HG) X TR (by (repeat (with_reducible refine dep_lt ?_)); first | exact Nat.lt_of_lt_of_le hdp (Nat.le_of_ble_eq_true rfl) | omega | (simp only [depth_deeper, depth_in1, units_deeper, units_in1]; omega)) (N16 (ax, _) (by k_mem)).1 (N16 (ad, _) (by k_mem)).1 hax0 had0 (Nat.le_of_ble_eq_true rfl) ?_
  intro s19 tp2 Kp19 f1 f2 f3
  obtain ⟨F19, N19'⟩ := step1 Kp19 F16 N16 (by k_upd) f3
  have q19 := allNe_of N16 f1
  simp only [AllNe, and_true] at q19
  (repeat (obtain ⟨_, q19⟩ := q19))
  have N19 := news_fresh Kp19 F16 N19' f1 f2
  clear F16 N16 N19'
  k_steps
  (try dsimp only)
  refine hQ _ ps3 _ tp2 ?_ (N19 (140, _) (by k_mem)).1 ht3 ?_ ⟨_, _, (N19 (tp2, tupOf _) (by k_mem)).1⟩ (N19 (ax, _) (by k_mem)).1
  · refine kept_of hkeep F19 hL.symm N19 hT ?_ (Kp19.os.trans (Kp14.os.trans (Kp28.os.trans (Kp8.os.trans (Kp4.os.trans Kp.os))))) (Kp19.drawn.trans (Kp14.drawn.trans (Kp28.drawn.trans (Kp8.drawn.trans (Kp4.drawn.trans Kp.drawn))))) (fun _ => Kp19.gens G14)
    intro q hq hn
    simp only [List.mem_cons, List.not_mem_nil, or_false, not_or] at hq hn
    rcases hq with rfl | rfl | rfl | rfl | rfl | rfl | rfl
    · k_mem
    · k_mem
    · k_mem
    · exact absurd rfl hn.1
    · k_mem
    · exact absurd rfl hn.2
    · k_mem
  · exact fresh_of hkeep N19 (by k_mem) (by
      intro q hq
      simp only [List.mem_cons, List.not_mem_nil, or_false] at hq
      rcases hq with rfl | rfl | rfl | rfl | rfl | rfl | rfl <;> assumption)
end
/- L2_2k -/
local macro_rules | `(tactic| walk_at "call type:str") => `(tactic| (k_here; (with_reducible show wpAny _ _ (call (Value.type "str") [Value.int (Nat.cast _) _]) _ _ _); k_dflt (first | (refine str_of_nat (by first | assumption | omega) ?_) | fail "str_of_nat")))
local macro_rules | `(tactic| walk_at "call builtin:max") => `(tactic| (k_here; k_dflt (first | (refine max_two_N (by first | exact rfl | assumption) (by k_asm) (by k_asm) ?_) | fail "max_two"); intro h' tk' F' N'; (try k_sweep)))
local macro_rules | `(tactic| walk_at "assign Tuple") => `(tactic| (k_here; k_dflt (first | (refine unpackN_ (by k_asm) (by k_asm) (by first | with_reducible assumption | (refine News.isTup (by k_asm) (by k_mem))) (by first | exact rfl | assumption) (by exact rfl) (by exact rfl) ?_) | fail "unpack"); intro h' F' N'; (try k_sweep)))
local macro_rules | `(tactic| walk_at "getMethod ref") => `(tactic| (k_here; (with_reducible show wpAny _ _ (getMethod (Value.ref _) "values" _) _ _ _); k_dflt (first | (refine getMethod_values (by k_asm) (by assumption) ?_) | fail "values")))
local macro_rules | `(tactic| walk_at "call builtin:dict.values") => `(tactic| (k_here; k_dflt (first | (refine call_values (by k_asm) (by k_asm) (by assumption) (by assumption) ?_) | fail "values"); intro v' h' F' N'; (try k_sweep)))
/- E0_2k -/
section
open PySem PySem.W PySem.Calls PyProof.Rows
theorem keeps_of {g : Heap} {s : Shared} {L : Addr} {h : Heap} {tk : Nat} {m : Str → Option Value} (hkeep : ∀ b o, b ∉ ([] : List (Addr × Obj)).map (·.1) → s.heap.get? b = some o → g.get? b = some o) (F : Fr g L h m) : Keeps s { s with heap := h, toks := tk } :=
  ⟨h, tk, rfl, fun b o e => F.keep b o (hkeep b o (by simp) e)⟩
theorem figures_c {prog : Program} {w : World} {A : Around} {E : Value → Shared → Prop} {s : Shared} {H₀ : Heap} {p : Program} {loose : List Str} {mg mb : Str → Option Value} {Q : Value → Shared → Prop} {n : Nat} {t : Tok}
    (HS : Sub H₀ s.heap) (X : (heapK w.params).In H₀) (TR : TopRead p loose mg mb H₀) (hdp : A.depth < 470) (hh : A.handled = none)
    (hQ : ∀ s' t', Kept [] s s' → Keeps s s' → Q (.int (figs n) t') s') :
    wpAny (model prog w) A (call (.ref 274) [.int n t]) Q E s := by
  have : PySem.Challenge.rw_yh0022_02.prog = PySem.Challenge.rw_yh0022_02.prog ∧ heapK = heapK := by k_fill; exact ⟨rfl, rfl⟩
  clear this
  refine wpAny_call ?_
  refine enter [] all_nil HS all_nil X TR (by k_is) (by k_is) (Nat.lt_of_lt_of_le hdp (Nat.le_of_ble_eq_true rfl)) (BindsTo.of_eq (binds := [("number", .int n t)]) rfl) (locs rfl) (by decide) rfl rfl rfl ?_
  intro g L' h₁ F N XG TG HG hkeep hk₁ hL
  dsimp only
  (try k_fold)
  walk1
  walk1
  walk1
  walk1
  walk1
  walk1
  refine while_own ?_
  (with_reducible rename Fr _ _ _ _ => F2)
  refine' while_inv (fun k s' => ∃ (v c : Nat) (tv tc : Tok) (h : Heap) (tk : Nat), k = v ∧ c + figs v = figs n ∧ s' = { s with heap := h, toks := tk } ∧
    Fr g L' h (fun y => if y = Str.ofString "count" then some (.int (c : Int) tc) else if y = Str.ofString "number" then some (.int (v : Int) tv) else none)) ?turn9 n ⟨n, 0, t, ?tc9, _, _, rfl, Nat.zero_add _, rfl, fr_congr F2 ?eqn9⟩
  case eqn9 =>
    intro y
    by_cases hy : y = Str.ofString "count"
    · rw [if_pos hy, if_pos hy]; rfl
    · rw [if_neg hy, if_neg hy]
      simp only [List.reverse_cons, List.reverse_nil, List.nil_append, List.lookup]
      by_cases hz : y = Str.ofString "number"
      · rw [if_pos hz, hz]; simp
      · rw [if_neg hz, beq_false_of_ne hz]
  case turn9 =>
    rintro k s' ⟨v, c, tv, tc, h, tk, rfl, hv, rfl, F3⟩
    clear F2
    k_steps
    · (with_reducible rename Fr _ _ _ _ => F4)
      have hk9 : 0 < k := by omega
      have e9 : Int.fdiv (k : Int) 10 = ((k / 10 : Nat) : Int) := by rw [Int.fdiv_eq_ediv_of_nonneg _ (by decide)]; omega
      refine' ⟨k / 10, by omega, k / 10, c + 1, _, _, _, _, rfl, by rw [← hv, figs_pos hk9]; omega, rfl, fr_congr F4 ?eqn8⟩
      case eqn8 =>
        intro y
        by_cases hy : y = Str.ofString "count"
        · simp only [if_pos hy]; rfl
        · by_cases hz : y = Str.ofString "number"
          · simp only [if_neg hy, if_pos hz, e9]; rfl
          · simp only [if_neg hy, if_neg hz]
    · dsimp only
      have hk9 : k = 0 := by omega
      subst hk9
      rw [figs_zero, Nat.add_zero] at hv
      subst hv
      refine hQ _ _ (kept_of hkeep F3 hL.symm (news := []) (fun _ h => nomatch h) all_nil all_nil rfl rfl id) (keeps_of hkeep F3)
/- a power of ten -/
noncomputable def isPure (n : Nat) : Bool := n == 10 ^ (figs n - 1)
theorem pure_c {prog : Program} {w : World} {A : Around} {E : Value → Shared → Prop} {s : Shared} {H₀ : Heap} {p : Program} {loose : List Str} {mg mb : Str → Option Value} {Q : Value → Shared → Prop} {n : Nat} {t : Tok}
    (HS : Sub H₀ s.heap) (X : (heapK w.params).In H₀) (TR : TopRead p loose mg mb H₀) (hdp : A.depth < 460) (hh : A.handled = none) (hn : 0 < n) (hf : figs n ≤ 100)
    (hQ : ∀ s', Kept [] s s' → Keeps s s' → Q (.bool (isPure n)) s') :
    wpAny (model prog w) A (call (.ref 281) [.int n t]) Q E s := by
  have : PySem.Challenge.rw_yh0022_02.prog = PySem.Challenge.rw_yh0022_02.prog ∧ heapK = heapK := by k_fill; exact ⟨rfl, rfl⟩
  clear this
  refine wpAny_call ?_
  refine enter [] all_nil HS all_nil X TR (by k_is) (by k_is) (Nat.lt_of_lt_of_le hdp (Nat.le_of_ble_eq_true rfl)) (BindsTo.of_eq (binds := [("number", .int n t)]) rfl) (locs rfl) (by decide) rfl rfl rfl ?_
  intro g L' h₁ F N XG TG HG hkeep hk₁ hL
  have hf0 := figs_pos hn
  dsimp only
  (try k_fold)
  k_steps
  (with_reducible rename News _ _ _ _ => N1); (with_reducible rename Fr _ _ _ _ => F1)
  refine figures_c (sub_fr F1 HG) X TR (by (repeat (with_reducible refine dep_lt ?_)); first | exact Nat.lt_of_lt_of_le hdp (Nat.le_of_ble_eq_true rfl) | omega | (simp only [depth_deeper, depth_in1, units_deeper, units_in1]; omega)) hh ?_
  intro s1 t1 Kp1 Ks1
  obtain ⟨F2, N2⟩ := step0 Kp1 F1 N1
  obtain ⟨h1, tk1, rfl, kk1⟩ := Ks1
  clear F1 N1
  k_steps
  have e9 : ((n : Int) == 10 ^ ((figs n : Int) - 1).toNat) = isPure n := by
    unfold isPure
    rw [Int.pred_toNat, Int.toNat_natCast, Bool.eq_iff_iff, beq_iff_eq, beq_iff_eq]
    constructor
    · intro h; exact Int.ofNat.inj (h.trans (by simp))
    · intro h; exact (congrArg (fun k : Nat => (k : Int)) h).trans (by simp)
  rw [e9]
  (with_reducible rename Fr _ _ _ _ => F9); (with_reducible rename News _ _ _ _ => N9)
  exact hQ _ (kept_of hkeep F9 hL.symm N9 all_nil all_nil rfl rfl id) (keeps_of hkeep F9)
end
/- L3_2k -/
local macro_rules | `(tactic| walk_at "exec For Tuple List cons nil") => `(tactic| (k_here; refine for_own ?_ (fun _ => rfl)))
local macro_rules | `(tactic| walk_at "exec For Name Subscript cons nil") => `(tactic| (k_here; refine for_own ?_ (fun _ => rfl)))
/- Q5_2k -/
section
open PySem PySem.W PySem.Calls PyProof.Rows
noncomputable abbrev qnD (P : Params) (t : Str) (k u : Tok) : Obj := dictOf [⟨PyData.keyHash P "text", .str "text" k, .str t u⟩] 1
theorem qinit_c {prog : Program} {w : World} {A : Around} {R : Result → Shared → Prop} {s : Shared} {H₀ : Heap} {p : Program} {loose : List Str} {mg mb : Str → Option Value}
    {x d : Addr} {t : Str} {a1 : Tok}
    (HS : Sub H₀ s.heap) (X : (heapK w.params).In H₀) (TR : TopRead p loose mg mb H₀) (hdp : A.depth < 490)
    (hx : s.heap.get? x = some (instObj 263 d)) (hdx : s.heap.get? d = some emptyDict) (hx0 : H₀.get? x = none) (hd0 : H₀.get? d = none)
    (hQ : ∀ s' k u, Kept [d] s s' → s'.heap.get? d = some (qnD w.params t k u) → R (.ok (.ret .none)) s') :
    codeAny (model prog w) A (.call (.ref 204) ⟨[.ref x, .str t a1], []⟩) R s := by
  have : PySem.Challenge.rw_yh0022_02.prog = PySem.Challenge.rw_yh0022_02.prog ∧ heapK = heapK := by k_fill; exact ⟨rfl, rfl⟩
  clear this
  have hne : @Ne Nat x d := upd_ne hx hdx (by simp)
  have hT : ∀ q ∈ [(x, instObj 263 d), (d, emptyDict)], s.heap.get? q.1 = some q.2 := (all_cons hx (all_cons hdx all_nil))
  refine enter _ hT HS (all_cons hx0 (all_cons hd0 all_nil)) X TR (by k_is) (by k_is) (Nat.lt_of_lt_of_le hdp (Nat.le_of_ble_eq_true rfl)) (binds_K (binds := [("self", .ref x), ("text_or_uri", .str t a1), ("tag", .none)]) (by exact X.keeps HS) rfl (by k_is) rfl rfl rfl) (locs rfl) (by decide) rfl rfl rfl ?_
  intro g L' h₁ F N XG TG HG hkeep hk₁ hL
  (try dsimp only)
  (try k_fold)
  k_steps
  (with_reducible rename News _ _ _ _ => N9); (with_reducible rename Fr _ _ _ _ => F9)
  refine hQ _ _ _ ?_ (N9 (d, _) (by k_mem)).1
  exact kept_of hkeep F9 hL.symm N9 hT (by (repeat (refine all_cons (fun h9 => by first | k_mem | exact absurd (by k_mem) h9) ?_)); exact all_nil) rfl rfl id
theorem qn_make {prog : Program} {w : World} {A : Around} {E : Value → Shared → Prop} {s : Shared} {H₀ : Heap} {p : Program} {loose : List Str} {mg mb : Str → Option Value} {Q : Value → Shared → Prop}
    {t : Str} {a1 : Tok}
    (HS : Sub H₀ s.heap) (X : (heapK w.params).In H₀) (TR : TopRead p loose mg mb H₀) (hdp : A.depth < 480) (hsz : H₀.objs.size ≤ s.heap.objs.size)
    (hQ : ∀ s' x d k u, Kept [] s s' → s.heap.get? x = none → s.heap.get? d = none → s'.heap.get? x = some (instObj 263 d) → s'.heap.get? d = some (qnD w.params t k u) → Q (.ref x) s') :
    wpAny (model prog w) A (call (.ref 263) [.str t a1]) Q E s := by
  have : PySem.Challenge.rw_yh0022_02.prog = PySem.Challenge.rw_yh0022_02.prog ∧ heapK = heapK := by k_fill; exact ⟨rfl, rfl⟩
  clear this
  have X' := X.keeps HS
  obtain ⟨hh, g, d, tk, os⟩ := s
  refine wpAny_call ?_
  have he : (emptyDict).isFreed = false := rfl
  have hl' : (instObj 263 hh.objs.size).isFreed = false := rfl
  have hd : ((hh.push emptyDict).push (instObj 263 hh.objs.size)).get? hh.objs.size = some emptyDict := Heap.get?_push_of_some _ (Heap.get?_push_size _ he)
  have hx : ((hh.push emptyDict).push (instObj 263 hh.objs.size)).get? (hh.objs.size + 1) = some (instObj 263 hh.objs.size) := Heap.get?_push_at (by rw [Heap.size_push]) hl'
  have up : Sub hh ((hh.push emptyDict).push (instObj 263 hh.objs.size)) := fun b o e => Heap.get?_push_of_some _ (Heap.get?_push_of_some _ e)
  have no : ∀ h : Heap, ∀ b, h.objs.size ≤ b → h.get? b = none := fun h b e => by
    cases q : h.get? b with
    | none => rfl
    | some o => exact absurd (Heap.lt_size q) (Nat.not_lt.mpr e)
  have sz : H₀.objs.size ≤ hh.objs.size := hsz
  refine make_core (makes_of X' (C := 263) (by kernel_rfl)) (looks_findIn X' (by k_is)) (fun self => bind_fn X' self (by k_is)) (.inl rfl) ?_
  have wt : (Code.builtin "type.__call__" { pos := [Value.ref 263, .str t a1] }).weight ≤ 1 := Nat.le_of_ble_eq_true rfl
  refine qinit_c (x := hh.objs.size + 1) (d := hh.objs.size) (H₀ := H₀) (fun b o e => up b o (HS b o e)) X TR (by simp only [Around.under]; omega) hx hd (no _ _ (by omega)) (no _ _ (by omega)) ?_
  intro s' k u KP h1
  have hne : hh.objs.size + 1 ∉ [hh.objs.size] := by simp
  refine ⟨rfl, hQ s' _ _ k u ⟨fun b o _ e => ?_, ?_, KP.os, KP.drawn, KP.gens⟩ (no _ _ (by dsimp only; omega)) (no _ _ (Nat.le_refl _)) (KP.keep _ _ hne hx) h1⟩
  · refine KP.keep b o ?_ (up b o e)
    have this : @LT.lt Nat _ b hh.objs.size := Heap.lt_size e
    simp only [List.mem_cons, List.not_mem_nil, or_false]
    change @Ne Nat _ _; omega
  · have := KP.size
    simp only [Heap.size_push] at this
    dsimp only
    omega
end
/- E1_2k -/
section
open PySem PySem.W PySem.Calls PyProof.Rows
noncomputable def TxtAt (P : Params) (h : Heap) (v : Value) (t : Str) : Prop := (∃ tok, v = .str t tok) ∨ (∃ x d k u, v = .ref x ∧ h.get? x = some (instObj 263 d) ∧ h.get? d = some (qnD P t k u))
theorem TxtAt.keeps {P : Params} {h h' : Heap} {v : Value} {t : Str} (a : TxtAt P h v t) (k : ∀ b o, h.get? b = some o → h'.get? b = some o) : TxtAt P h' v t := by
  rcases a with ⟨tok, rfl⟩ | ⟨x, d, k1, u, rfl, e1, e2⟩
  · exact .inl ⟨tok, rfl⟩
  · exact .inr ⟨x, d, k1, u, rfl, k _ _ e1, k _ _ e2⟩
theorem qlt_c {prog : Program} {w : World} {A : Around} {E : Value → Shared → Prop} {s : Shared} {H₀ : Heap} {p : Program} {loose : List Str} {mg mb : Str → Option Value} {Q : Value → Shared → Prop} {x d : Addr} {t t2 : Str} {k u : Tok} {v : Value}
    (HS : Sub H₀ s.heap) (X : (heapK w.params).In H₀) (TR : TopRead p loose mg mb H₀) (hdp : A.depth < 480) (hx : s.heap.get? x = some (instObj 263 d)) (hdx : s.heap.get? d = some (qnD w.params t k u)) (hv : TxtAt w.params s.heap v t2)
    (hQ : ∀ s', Kept [] s s' → Q (.bool (ordOf .Lt t t2)) s') :
    wpAny (model prog w) A (call (.ref 239) [.ref x, v]) Q E s := by
  have : PySem.Challenge.rw_yh0022_02.prog = PySem.Challenge.rw_yh0022_02.prog ∧ heapK = heapK := by k_fill; exact ⟨rfl, rfl⟩
  clear this
  refine wpAny_call ?_
  rcases hv with ⟨tok, rfl⟩ | ⟨y, e, k2, u2, rfl, hy, hdy⟩
  · refine enter [] all_nil HS all_nil X TR (by k_is) (by k_is) (Nat.lt_of_lt_of_le hdp (Nat.le_of_ble_eq_true rfl)) (BindsTo.of_eq (binds := [("self", .ref x), ("other", .str t2 tok)]) rfl) (locs rfl) (by decide) rfl rfl rfl ?_
    intro g L' h₁ F N XG TG HG hkeep hk₁ hL
    have gx : InstAt g x (instObj 263 d) 263 (some (qnD w.params t k u)) := ⟨hkeep _ _ (by simp) hx, rfl, rfl, hkeep _ _ (by simp) hdx⟩
    dsimp only
    (try k_fold)
    k_steps
    (with_reducible rename News _ _ _ _ => N9); (with_reducible rename Fr _ _ _ _ => F9)
    exact hQ _ (kept_of hkeep F9 hL.symm N9 all_nil all_nil rfl rfl id)
  · refine enter [] all_nil HS all_nil X TR (by k_is) (by k_is) (Nat.lt_of_lt_of_le hdp (Nat.le_of_ble_eq_true rfl)) (BindsTo.of_eq (binds := [("self", .ref x), ("other", .ref y)]) rfl) (locs rfl) (by decide) rfl rfl rfl ?_
    intro g L' h₁ F N XG TG HG hkeep hk₁ hL
    have gx : InstAt g x (instObj 263 d) 263 (some (qnD w.params t k u)) := ⟨hkeep _ _ (by simp) hx, rfl, rfl, hkeep _ _ (by simp) hdx⟩
    have gy : InstAt g y (instObj 263 e) 263 (some (qnD w.params t2 k2 u2)) := ⟨hkeep _ _ (by simp) hy, rfl, rfl, hkeep _ _ (by simp) hdy⟩
    dsimp only
    (try k_fold)
    k_steps
    (with_reducible rename News _ _ _ _ => N9); (with_reducible rename Fr _ _ _ _ => F9)
    exact hQ _ (kept_of hkeep F9 hL.symm N9 all_nil all_nil rfl rfl id)
theorem qgt_c {prog : Program} {w : World} {A : Around} {E : Value → Shared → Prop} {s : Shared} {H₀ : Heap} {p : Program} {loose : List Str} {mg mb : Str → Option Value} {Q : Value → Shared → Prop} {x d : Addr} {t t2 : Str} {k u : Tok} {v : Value}
    (HS : Sub H₀ s.heap) (X : (heapK w.params).In H₀) (TR : TopRead p loose mg mb H₀) (hdp : A.depth < 480) (hx : s.heap.get? x = some (instObj 263 d)) (hdx : s.heap.get? d = some (qnD w.params t k u)) (hv : TxtAt w.params s.heap v t2)
    (hQ : ∀ s', Kept [] s s' → Q (.bool (ordOf .Gt t t2)) s') :
    wpAny (model prog w) A (call (.ref 253) [.ref x, v]) Q E s := by
  have : PySem.Challenge.rw_yh0022_02.prog = PySem.Challenge.rw_yh0022_02.prog ∧ heapK = heapK := by k_fill; exact ⟨rfl, rfl⟩
  clear this
  refine wpAny_call ?_
  rcases hv with ⟨tok, rfl⟩ | ⟨y, e, k2, u2, rfl, hy, hdy⟩
  · refine enter [] all_nil HS all_nil X TR (by k_is) (by k_is) (Nat.lt_of_lt_of_le hdp (Nat.le_of_ble_eq_true rfl)) (BindsTo.of_eq (binds := [("self", .ref x), ("other", .str t2 tok)]) rfl) (locs rfl) (by decide) rfl rfl rfl ?_
    intro g L' h₁ F N XG TG HG hkeep hk₁ hL
    have gx : InstAt g x (instObj 263 d) 263 (some (qnD w.params t k u)) := ⟨hkeep _ _ (by simp) hx, rfl, rfl, hkeep _ _ (by simp) hdx⟩
    dsimp only
    (try k_fold)
    k_steps
    (with_reducible rename News _ _ _ _ => N9); (with_reducible rename Fr _ _ _ _ => F9)
    exact hQ _ (kept_of hkeep F9 hL.symm N9 all_nil all_nil rfl rfl id)
  · refine enter [] all_nil HS all_nil X TR (by k_is) (by k_is) (Nat.lt_of_lt_of_le hdp (Nat.le_of_ble_eq_true rfl)) (BindsTo.of_eq (binds := [("self", .ref x), ("other", .ref y)]) rfl) (locs rfl) (by decide) rfl rfl rfl ?_
    intro g L' h₁ F N XG TG HG hkeep hk₁ hL
    have gx : InstAt g x (instObj 263 d) 263 (some (qnD w.params t k u)) := ⟨hkeep _ _ (by simp) hx, rfl, rfl, hkeep _ _ (by simp) hdx⟩
    have gy : InstAt g y (instObj 263 e) 263 (some (qnD w.params t2 k2 u2)) := ⟨hkeep _ _ (by simp) hy, rfl, rfl, hkeep _ _ (by simp) hdy⟩
    dsimp only
    (try k_fold)
    k_steps
    (with_reducible rename News _ _ _ _ => N9); (with_reducible rename Fr _ _ _ _ => F9)
    exact hQ _ (kept_of hkeep F9 hL.symm N9 all_nil all_nil rfl rfl id)
theorem richLt_c {prog : Program} {w : World} {A : Around} {E : Value → Shared → Prop} {s : Shared} {H₀ : Heap} {p : Program} {loose : List Str} {mg mb : Str → Option Value} {Q : Value → Shared → Prop} {v1 v2 : Value} {t1 t2 : Str} {g : Heap} {L : Addr} {m : Str → Option Value} (F : Fr g L s.heap m) (XG : (heapK w.params).In g)
    (HS : Sub H₀ s.heap) (X : (heapK w.params).In H₀) (TR : TopRead p loose mg mb H₀) (hdp : A.depth < 470) (hun : A.units < 1700) (h1 : TxtAt w.params s.heap v1 t1) (h2 : TxtAt w.params s.heap v2 t2)
    (hQ : ∀ s', Kept [] s s' → Q (.bool (ordOf .Lt t1 t2)) s') : wpAny (model prog w) A (richCompare .Lt v1 v2) Q E s := by
  have : PySem.Challenge.rw_yh0022_02.prog = PySem.Challenge.rw_yh0022_02.prog ∧ heapK = heapK := by k_fill; exact ⟨rfl, rfl⟩
  clear this
  have hu : A.units < cLine := by simp only [cLine]; omega
  have XS := XG.keeps F.keep
  rcases h1 with ⟨tok, rfl⟩ | ⟨x, d, k, u, rfl, hx, hdx⟩
  · rcases h2 with ⟨tok2, rfl⟩ | ⟨y, e, k2, u2, rfl, hy, hdy⟩
    · exact PyProof.Rows.lt_str (hQ s Kept.refl)
    · have gy : InstAt s.heap y (instObj 263 e) 263 (some (qnD w.params t2 k2 u2)) := ⟨hy, rfl, rfl, hdy⟩
      refine cmp_refl (op := .Lt) PySem.F.slot_str_lt PySem.F.entry_str_lt (by unfold argsOk; kernel_rfl) hu XS gy rfl (by k_is) (by k_is) (by k_is) ?_
      refine qgt_c HS X TR (by (repeat (with_reducible refine dep_lt ?_)); first | exact Nat.lt_of_lt_of_le hdp (Nat.le_of_ble_eq_true rfl) | omega | (simp only [depth_deeper, depth_in1, units_deeper, units_in1]; omega)) hy hdy (.inl ⟨tok, rfl⟩) ?_
      intro s' Kp
      exact hQ s' Kp
  · have gx : InstAt s.heap x (instObj 263 d) 263 (some (qnD w.params t1 k u)) := ⟨hx, rfl, rfl, hdx⟩
    rcases h2 with ⟨tok2, rfl⟩ | ⟨y, e, k2, u2, rfl, hy, hdy⟩
    · refine cmp_K hu F XG gx (by k_typeOf) (by k_is) (by k_is) (by k_is) ?_
      refine qlt_c HS X TR (by (repeat (with_reducible refine dep_lt ?_)); first | exact Nat.lt_of_lt_of_le hdp (Nat.le_of_ble_eq_true rfl) | omega | (simp only [depth_deeper, depth_in1, units_deeper, units_in1]; omega)) hx hdx (.inl ⟨tok2, rfl⟩) ?_
      intro s' Kp
      exact hQ s' Kp
    · have gy : InstAt s.heap y (instObj 263 e) 263 (some (qnD w.params t2 k2 u2)) := ⟨hy, rfl, rfl, hdy⟩
      refine cmp_K hu F XG gx gy.type (by k_is) (by k_is) (by k_is) ?_
      refine qlt_c HS X TR (by (repeat (with_reducible refine dep_lt ?_)); first | exact Nat.lt_of_lt_of_le hdp (Nat.le_of_ble_eq_true rfl) | omega | (simp only [depth_deeper, depth_in1, units_deeper, units_in1]; omega)) hx hdx (.inr ⟨y, e, k2, u2, rfl, hy, hdy⟩) ?_
      intro s' Kp
      exact hQ s' Kp
theorem qstr_c {prog : Program} {w : World} {A : Around} {E : Value → Shared → Prop} {s : Shared} {H₀ : Heap} {p : Program} {loose : List Str} {mg mb : Str → Option Value} {Q : Value → Shared → Prop} {x d : Addr} {t : Str} {k u : Tok}
    (HS : Sub H₀ s.heap) (X : (heapK w.params).In H₀) (TR : TopRead p loose mg mb H₀) (hdp : A.depth < 480) (hx : s.heap.get? x = some (instObj 263 d)) (hdx : s.heap.get? d = some (qnD w.params t k u))
    (hQ : ∀ s', Kept [] s s' → Keeps s s' → Q (.str t u) s') :
    wpAny (model prog w) A (call (.ref 211) [.ref x]) Q E s := by
  have : PySem.Challenge.rw_yh0022_02.prog = PySem.Challenge.rw_yh0022_02.prog ∧ heapK = heapK := by k_fill; exact ⟨rfl, rfl⟩
  clear this
  refine wpAny_call ?_
  refine enter [] all_nil HS all_nil X TR (by k_is) (by k_is) (Nat.lt_of_lt_of_le hdp (Nat.le_of_ble_eq_true rfl)) (BindsTo.of_eq (binds := [("self", .ref x)]) rfl) (locs rfl) (by decide) rfl rfl rfl ?_
  intro g L' h₁ F N XG TG HG hkeep hk₁ hL
  have gx : InstAt g x (instObj 263 d) 263 (some (qnD w.params t k u)) := ⟨hkeep _ _ (by simp) hx, rfl, rfl, hkeep _ _ (by simp) hdx⟩
  dsimp only
  (try k_fold)
  k_steps
  (with_reducible rename News _ _ _ _ => N9); (with_reducible rename Fr _ _ _ _ => F9)
  exact hQ _ (kept_of hkeep F9 hL.symm N9 all_nil all_nil rfl rfl id) (keeps_of hkeep F9)
end
/- H0_2k -/
section
open PySem PySem.W PySem.Calls PyProof.Rows
theorem figs_gt {n : Nat} (h : 0 < n) : 0 < figs n := by rw [figs_pos h]; exact Nat.succ_pos _
theorem lt_of_figs {a b : Nat} (h : figs a < figs b) : a < b := by
  rcases Nat.lt_or_ge a b with q | q
  · exact q
  · exact absurd (figs_le_of_lt (Nat.lt_of_le_of_lt q (figs_lt_pow a))) (Nat.not_le.mpr h)
theorem exp_split {t x y k : Nat} (hk : y = x + k) (hy : y ≤ t) : t - x = k + (t - y) := by
  subst hk
  obtain ⟨d, rfl⟩ := Nat.exists_eq_add_of_le hy
  rw [Nat.add_sub_cancel_left, Nat.add_assoc, Nat.add_sub_cancel_left]
theorem exp_sum' {T f : Nat} (h0 : 0 < f) (h1 : f ≤ T + 1) : f - 1 + (T + 1 - f) = T := by
  obtain ⟨g, rfl⟩ := Nat.exists_eq_succ_of_ne_zero (Nat.ne_of_gt h0)
  rw [Nat.succ_sub_one, Nat.succ_eq_add_one, Nat.add_sub_add_right]
  exact Nat.add_sub_cancel' (Nat.le_of_succ_le_succ h1)
theorem pow_sum {T f : Nat} (h0 : 0 < f) (h1 : f ≤ T + 1) : 10 ^ (f - 1) * 10 ^ (T + 1 - f) = 10 ^ T := by rw [← Nat.pow_add, exp_sum' h0 h1]
theorem figs_pow (k : Nat) : figs (10 ^ k) = k + 1 := by
  have h1 := lt_figs_of_le (n := 10 ^ k) (k := k) (Nat.le_refl _)
  have h2 := figs_le_of_lt (n := 10 ^ k) (k := k + 1) (by rw [Nat.pow_succ]; have := Nat.pow_pos (n := k) (show 0 < 10 by decide); omega)
  omega
theorem isPure_pow (k : Nat) : isPure (10 ^ k) = true := by
  unfold isPure
  rw [figs_pow]; simp
theorem pure_eq {n : Nat} (h : isPure n = true) : n = 10 ^ (figs n - 1) := by
  unfold isPure at h
  exact eq_of_beq h
theorem pure_ne {n : Nat} (h : isPure n = false) : n ≠ 10 ^ (figs n - 1) := by
  unfold isPure at h
  exact fun e => by rw [← e] at h; simp at h
/- what is known of a divisor and its cofactor -/
structure Cof (T n c : Nat) : Prop where
  pos : 0 < n
  posc : 0 < c
  mul : c * n = 10 ^ T
theorem Cof.symm {T n c : Nat} (h : Cof T n c) : Cof T c n := ⟨h.posc, h.pos, by rw [Nat.mul_comm]; exact h.mul⟩
theorem cof_of {T n : Nat} (h : 0 < n ∧ n ∣ 10 ^ T) : Cof T n (10 ^ T / n) :=
  ⟨h.1, Nat.div_pos (Nat.le_of_dvd (Nat.pow_pos (by decide)) h.2) h.1, Nat.div_mul_cancel h.2⟩
theorem Cof.eq {T n c : Nat} (h : Cof T n c) : c = 10 ^ T / n := by
  rw [← h.mul, Nat.mul_div_cancel _ h.pos]
theorem Cof.le {T n c : Nat} (h : Cof T n c) : n ≤ 10 ^ T := by rw [← h.mul]; exact Nat.le_mul_of_pos_left _ h.posc
theorem Cof.figs_le {T n c : Nat} (h : Cof T n c) : figs n ≤ T + 1 := figs_le_of_lt (Nat.lt_of_le_of_lt h.le (Nat.pow_lt_pow_right (by decide) (by omega)))
theorem Cof.figs_lt {T n c : Nat} (h : Cof T n c) (hp : isPure n = false) : figs n ≤ T := by
  have h1 := h.figs_le
  rcases Nat.lt_or_ge T (figs n) with q | q
  · have e : figs n = T + 1 := by omega
    have := pow_le_figs h.pos
    rw [e] at this
    have := Nat.le_antisymm h.le this
    exact absurd (by rw [e]; exact this) (pure_ne hp)
  · exact q
theorem Cof.pure {T n c : Nat} (h : Cof T n c) (hp : isPure n = true) : c = 10 ^ (T + 1 - Mine.figs n) := by
  have q := pow_sum (figs_gt h.pos) h.figs_le
  rw [← pure_eq hp, ← h.mul, Nat.mul_comm n] at q
  exact (Nat.eq_of_mul_eq_mul_right h.pos q).symm
theorem Cof.figs {T n c : Nat} (h : Cof T n c) : figs c + figs n = T + 1 + (if isPure n = true then 1 else 0) := by
  have f0 := figs_gt h.pos
  have f1 := h.figs_le
  have h0 := h.pos
  cases hp : isPure n with
  | true =>
    have e : Mine.figs c = T + 1 - Mine.figs n + 1 := by rw [h.pure hp, figs_pow]
    rw [if_pos rfl, e]
    clear e h
    omega
  | false =>
    have f2 := h.figs_lt hp
    have hlt : 10 ^ (Mine.figs n - 1) < n := Nat.lt_of_le_of_ne (pow_le_figs h.pos) fun e => pure_ne hp e.symm
    have u : Mine.figs c ≤ T + 1 - Mine.figs n := by
      refine figs_le_of_lt ?_
      have r : c * 10 ^ (Mine.figs n - 1) < c * n := Nat.mul_lt_mul_of_pos_left hlt h.posc
      rw [h.mul, ← pow_sum f0 f1, Nat.mul_comm] at r
      exact Nat.lt_of_mul_lt_mul_left r
    have v : T - Mine.figs n < Mine.figs c := by
      refine lt_figs_of_le ?_
      have q : 10 ^ (T - Mine.figs n) * 10 ^ (Mine.figs n) = 10 ^ T := by rw [← Nat.pow_add, Nat.sub_add_cancel f2]
      have r : c * n < c * 10 ^ Mine.figs n := Nat.mul_lt_mul_of_pos_left (figs_lt_pow n) h.posc
      rw [h.mul, ← q] at r
      exact Nat.le_of_lt (Nat.lt_of_mul_lt_mul_right r)
    rw [if_neg Bool.false_ne_true]
    clear hlt hp h
    omega
theorem Cof.due {T n c : Nat} (h : Cof T n c) : (((T : Nat) : Int) + 1 - ((Mine.figs n : Nat) : Int)) + (if isPure n = true then 1 else 0) = ((Mine.figs c : Nat) : Int) := by
  have := h.figs
  have f1 := h.figs_le
  split <;> simp_all <;> omega
/- the figures behind the point -/
noncomputable def keyOf (T n : Nat) : Nat := n * 10 ^ (T + 1 - figs n)
theorem lt_right {u v r : List Nat} (hl : u.length = v.length) (hr : r ≠ []) : (u < v ++ r) ↔ (u < v ∨ u = v) := by
  induction u generalizing v with
  | nil =>
    cases v with
    | nil => cases r with
      | nil => exact absurd rfl hr
      | cons a r => simp
    | cons c v => simp at hl
  | cons c u ih =>
    cases v with
    | nil => simp at hl
    | cons d v =>
      simp only [List.cons_append, List.cons_lt_cons_iff, ih (by simpa using hl), List.cons.injEq]
      constructor
      · rintro (h | ⟨rfl, h | h⟩)
        · exact .inl (.inl h)
        · exact .inl (.inr ⟨rfl, h⟩)
        · exact .inr ⟨rfl, h⟩
      · rintro ((h | ⟨rfl, h⟩) | ⟨rfl, h⟩)
        · exact .inl h
        · exact .inr ⟨rfl, .inl h⟩
        · exact .inr ⟨rfl, .inr h⟩
theorem pow10 (k : Nat) : 0 < 10 ^ k := Nat.pow_pos (by decide)
theorem digs_key {T a b : Nat} (ha : 0 < a) (hb : 0 < b) (fa : figs a ≤ T + 1) (fb : figs b ≤ T + 1) : (digs a < digs b) ↔ (keyOf T a < keyOf T b ∨ (keyOf T a = keyOf T b ∧ a < b)) := by
  unfold keyOf
  rcases Nat.lt_trichotomy (figs a) (figs b) with h | h | h
  · -- the shorter left
    obtain ⟨k, hk⟩ : ∃ k, figs b = figs a + k := Nat.exists_eq_add_of_le (Nat.le_of_lt h)
    have k0 : 0 < k := Nat.pos_of_lt_add_right (hk ▸ h)
    have hb1 : 10 ^ k ≤ b := Nat.le_trans (Nat.pow_le_pow_right (by decide) (Nat.le_sub_one_of_lt (hk ▸ Nat.lt_add_of_pos_left (figs_gt ha)))) (pow_le_figs hb)
    have hd : 0 < b / 10 ^ k := Nat.div_pos hb1 (pow10 k)
    obtain ⟨r, e, hr⟩ := digs_prefix hd
    have hfe : figs a = figs (b / 10 ^ k) := Nat.add_right_cancel (hk.symm.trans (figs_div hd).symm)
    rw [e, lt_right (by rw [digs_length ha, digs_length hd, hfe]) (fun q => by rw [q] at hr; exact absurd hr (Nat.ne_of_lt k0)), digs_lt_same ha hd hfe]
    have e1 : a * 10 ^ (T + 1 - figs a) = a * 10 ^ k * 10 ^ (T + 1 - figs b) := by rw [exp_split hk fb, Nat.pow_add, Nat.mul_assoc]
    have hab : a < b := lt_of_figs h
    have s1 : (digs a = digs (b / 10 ^ k)) ↔ a = b / 10 ^ k := ⟨fun q => digs_inj ha hd q, fun q => by rw [← q]⟩
    rw [s1, e1, ← Nat.le_iff_lt_or_eq, Nat.le_div_iff_mul_le (pow10 k)]
    constructor
    · intro q
      rcases Nat.lt_or_eq_of_le (Nat.mul_le_mul_right (10 ^ (T + 1 - figs b)) q) with q | q
      · exact .inl q
      · exact .inr ⟨q, hab⟩
    · rintro (q | ⟨q, _⟩)
      · exact Nat.le_of_lt (Nat.lt_of_mul_lt_mul_right q)
      · exact Nat.le_of_mul_le_mul_right (Nat.le_of_eq q) (pow10 _)
  · rw [digs_lt_same ha hb h, h]
    constructor
    · intro q; exact .inl (Nat.mul_lt_mul_of_pos_right q (pow10 _))
    · rintro (q | ⟨_, q⟩)
      · exact Nat.lt_of_mul_lt_mul_right q
      · exact q
  · obtain ⟨k, hk⟩ : ∃ k, figs a = figs b + k := Nat.exists_eq_add_of_le (Nat.le_of_lt h)
    have ha1 : 10 ^ k ≤ a := Nat.le_trans (Nat.pow_le_pow_right (by decide) (Nat.le_sub_one_of_lt (hk ▸ Nat.lt_add_of_pos_left (figs_gt hb)))) (pow_le_figs ha)
    have hd : 0 < a / 10 ^ k := Nat.div_pos ha1 (pow10 k)
    obtain ⟨r, e, hr⟩ := digs_prefix hd
    have hfe : figs (a / 10 ^ k) = figs b := (Nat.add_right_cancel (hk.symm.trans (figs_div hd).symm)).symm
    rw [e, lt_prefix (by rw [digs_length hb, digs_length hd, hfe]), digs_lt_same hd hb hfe, Nat.div_lt_iff_lt_mul (pow10 k)]
    have e1 : b * 10 ^ (T + 1 - figs b) = b * 10 ^ k * 10 ^ (T + 1 - figs a) := by rw [exp_split hk fa, Nat.pow_add, Nat.mul_assoc]
    have hab : b < a := lt_of_figs h
    rw [e1]
    constructor
    · intro q; exact .inl (Nat.mul_lt_mul_of_pos_right q (pow10 _))
    · rintro (q | ⟨_, q⟩)
      · exact Nat.lt_of_mul_lt_mul_right q
      · exact absurd q (Nat.lt_asymm hab)
theorem key_pure {T n c : Nat} (h : Cof T n c) (hp : isPure n = true) : keyOf T n = 10 ^ T := by
  have e := pure_eq hp
  unfold keyOf
  exact (congrArg (· * 10 ^ (T + 1 - figs n)) e).trans (pow_sum (figs_gt h.pos) h.figs_le)
theorem key_rest {T n c : Nat} (h : Cof T n c) (hp : isPure n = false) : 10 ^ T < keyOf T n := by
  have hlt : 10 ^ (figs n - 1) < n := Nat.lt_of_le_of_ne (pow_le_figs h.pos) fun e => pure_ne hp e.symm
  unfold keyOf
  rw [← pow_sum (figs_gt h.pos) h.figs_le]
  exact Nat.mul_lt_mul_of_pos_right hlt (pow10 _)
theorem pure_cof {T n c : Nat} (h : Cof T n c) (hp : isPure n = true) : isPure c = true := by
  rw [h.pure hp]; exact isPure_pow _
theorem pure_cof_eq {T n c : Nat} (h : Cof T n c) : isPure c = isPure n := by
  cases hp : isPure n with
  | true => exact pure_cof h hp
  | false =>
    cases hc : isPure c with
    | true => rw [pure_cof h.symm hc] at hp; cases hp
    | false => rfl
theorem key_cof {T n c : Nat} (h : Cof T n c) (hp : isPure n = false) : keyOf T n * keyOf T c = 10 ^ (2 * T + 1) := by
  have hf := h.figs
  rw [hp, if_neg Bool.false_ne_true] at hf
  have e : T + (T + 1 - figs n + (T + 1 - figs c)) = 2 * T + 1 := by
    rw [Nat.add_zero] at hf
    rw [← hf, Nat.add_sub_cancel, Nat.add_sub_cancel_left, hf, Nat.two_mul, Nat.add_assoc]
  unfold keyOf
  rw [show n * 10 ^ (T + 1 - figs n) * (c * 10 ^ (T + 1 - figs c)) = (c * n) * (10 ^ (T + 1 - figs n) * 10 ^ (T + 1 - figs c)) by
    rw [Nat.mul_comm c n]; exact Nat.mul_mul_mul_comm _ _ _ _, h.mul, ← Nat.pow_add, ← Nat.pow_add, e]
theorem mul_anti {a b x y p : Nat} (h1 : a * x = p) (h2 : b * y = p) (hp : 0 < p) (h : a < b) : y < x := by
  rcases Nat.lt_or_ge y x with q | q
  · exact q
  · have x0 : 0 < x := Nat.pos_of_ne_zero fun e => by rw [e] at h1; omega
    have := Nat.mul_lt_mul_of_pos_right h x0
    have := Nat.mul_le_mul_left b q
    omega
/- two divisors alike: their cofactors stand the other way about -/
theorem digs_anti {T a b c d : Nat} (ha : Cof T a c) (hb : Cof T b d) (hp : isPure a = isPure b) (h : digs a < digs b) : digs d < digs c := by
  have h' := (digs_key ha.pos hb.pos ha.figs_le hb.figs_le).mp h
  refine (digs_key hb.posc ha.posc hb.symm.figs_le ha.symm.figs_le).mpr ?_
  have lt_of : a < b → d < c := fun q => mul_anti (by rw [Nat.mul_comm]; exact ha.mul) (by rw [Nat.mul_comm]; exact hb.mul) (pow10 T) q
  cases hq : isPure a with
  | true =>
    have hq2 := hp.symm.trans hq
    rw [key_pure ha hq, key_pure hb hq2] at h'
    rw [key_pure hb.symm (pure_cof hb hq2), key_pure ha.symm (pure_cof ha hq)]
    rcases h' with h' | ⟨_, h'⟩
    · omega
    · exact .inr ⟨rfl, lt_of h'⟩
  | false =>
    have hq2 := hp.symm.trans hq
    rcases h' with h' | ⟨e, h'⟩
    · exact .inl (mul_anti (key_cof ha hq) (key_cof hb hq2) (pow10 _) h')
    · refine .inr ⟨?_, lt_of h'⟩
      have := (key_cof ha hq).trans (key_cof hb hq2).symm
      rw [e] at this
      exact (Nat.eq_of_mul_eq_mul_left (Nat.lt_of_le_of_lt (Nat.zero_le _) (key_rest hb hq2)) this).symm
theorem digs_first {T a b c d : Nat} (ha : Cof T a c) (hb : Cof T b d) (hp : isPure a = true) (hq : isPure b = false) : digs a < digs b := by
  refine (digs_key ha.pos hb.pos ha.figs_le hb.figs_le).mpr (.inl ?_)
  rw [key_pure ha hp]
  exact key_rest hb hq
end
/- H1_2k -/
section
open PySem PySem.W PySem.Calls PyProof.Rows
noncomputable abbrev Ord (l : List Nat) : Prop := l.Pairwise fun a b => digs a < digs b
theorem ord_uniq {a b : List Nat} (p : a.Perm b) (ha : Ord a) (hb : Ord b) : a = b :=
  List.Perm.eq_of_pairwise (le := fun x y => digs x < digs y) (fun x y _ _ h1 h2 => absurd h2 (List.lt_asymm h1)) ha hb p
/- powers of ten first -/
theorem part_first {P : Nat → Bool} {R : Nat → Nat → Prop} : ∀ {l : List Nat}, l.Pairwise R → (∀ a ∈ l, ∀ b ∈ l, P a = false → P b = true → ¬ R a b) → l = l.filter P ++ l.filter (fun n => !P n)
  | [], _, _ => rfl
  | a :: l, h, hx => by
    have h1 := (List.pairwise_cons.mp h)
    cases hp : P a with
    | true =>
      rw [List.filter_cons_of_pos hp, List.filter_cons_of_neg (by simp [hp]), List.cons_append]
      exact congrArg (a :: ·) (part_first h1.2 fun x hx' y hy' => hx x (.tail _ hx') y (.tail _ hy'))
    | false =>
      have hn : l.filter P = [] := List.filter_eq_nil_iff.mpr fun b hb q => hx a (.head _) b (.tail _ hb) hp q (h1.1 b hb)
      have ha : l.filter (fun n => !P n) = l := List.filter_eq_self.mpr fun b hb => by
        cases q : P b with
        | true => exact absurd (h1.1 b hb) (hx a (.head _) b (.tail _ hb) hp q)
        | false => rfl
      rw [List.filter_cons_of_neg (by simp [hp]), List.filter_cons_of_pos (by simp [hp]), hn, ha]
      rfl
section
variable {T : Nat} {ns rs : List Nat}
theorem ranked_first (hd : ∀ n ∈ rs, 0 < n ∧ n ∣ 10 ^ T) (ho : Ord rs) : rs = rs.filter isPure ++ rs.filter (fun n => !isPure n) :=
  part_first ho fun a ha b hb h1 h2 => List.lt_asymm (digs_first (cof_of (hd b hb)) (cof_of (hd a ha)) h2 h1)
/- the cofactors' names, sorted -/
theorem other_sorted (hd : ∀ n ∈ rs, 0 < n ∧ n ∣ 10 ^ T) (ho : Ord rs) : Ord (((rs.filter isPure).reverse ++ (rs.filter (fun n => !isPure n)).reverse).map fun n => 10 ^ T / n) := by
  have hf : ∀ {P : Nat → Bool} {n : Nat}, n ∈ rs.filter P → n ∈ rs ∧ P n = true := fun h => List.mem_filter.mp h
  rw [Ord, List.pairwise_map, List.pairwise_append]
  refine ⟨?_, ?_, ?_⟩
  · rw [List.pairwise_reverse]
    refine (List.Pairwise.filter isPure ho).imp_of_mem fun {a b} ha hb h => ?_
    exact digs_anti (cof_of (hd a (hf ha).1)) (cof_of (hd b (hf hb).1)) ((hf ha).2.trans (hf hb).2.symm) h
  · rw [List.pairwise_reverse]
    refine (List.Pairwise.filter (fun n => !isPure n) ho).imp_of_mem fun {a b} ha hb h => ?_
    refine digs_anti (cof_of (hd a (hf ha).1)) (cof_of (hd b (hf hb).1)) ?_ h
    have h1 := (hf ha).2
    have h2 := (hf hb).2
    simp at h1 h2
    rw [h1, h2]
  · intro a ha b hb
    have ha := hf (List.mem_reverse.mp ha)
    have hb := hf (List.mem_reverse.mp hb)
    have h2 := hb.2
    simp at h2
    refine digs_first (cof_of (hd a ha.1)).symm (cof_of (hd b hb.1)).symm (pure_cof (cof_of (hd a ha.1)) ha.2) ?_
    rw [pure_cof_eq (cof_of (hd b hb.1))]; exact h2
theorem other_perm (ho : rs = rs.filter isPure ++ rs.filter (fun n => !isPure n)) (hp : rs.Perm ns) : (((rs.filter isPure).reverse ++ (rs.filter (fun n => !isPure n)).reverse).map fun n => 10 ^ T / n).Perm (ns.map fun n => 10 ^ T / n) := by
  refine List.Perm.map _ ?_
  refine (List.Perm.append (List.reverse_perm _) (List.reverse_perm _)).trans ?_
  exact (List.Perm.of_eq ho.symm).trans hp
theorem cof_nodup (hd : ∀ n ∈ ns, 0 < n ∧ n ∣ 10 ^ T) (hn : ns.Nodup) : (ns.map fun n => 10 ^ T / n).Nodup := by
  unfold List.Nodup at *
  rw [List.pairwise_map]
  refine hn.imp_of_mem fun {a b} ha hb h e => h ?_
  have ca := cof_of (hd a ha)
  have cb := cof_of (hd b hb)
  rw [ca.symm.eq, cb.symm.eq, e]
theorem cof_dvd (hd : ∀ n ∈ ns, 0 < n ∧ n ∣ 10 ^ T) : ∀ c ∈ ns.map (fun n => 10 ^ T / n), 0 < c ∧ c ∣ 10 ^ T := fun c hc => by
  obtain ⟨n, hn, rfl⟩ := List.mem_map.mp hc
  have h := cof_of (hd n hn)
  exact ⟨h.posc, ⟨n, h.mul.symm⟩⟩
end
end
/- LE0_2k -/
/- what does not lie in the heap stands as it stood -/
structure Acc (s0 : Shared) (os : OsState) (dr : Drawn) (gens : Array GenState) : Prop where
  os : os = s0.os
  drawn : dr = s0.drawn
  gens : AllBare s0.gens → AllBare gens
theorem Acc.next {s0 s s' : Shared} {ts : List Addr} (a : Acc s0 s.os s.drawn s.gens) (b : Kept ts s s') : Acc s0 s'.os s'.drawn s'.gens := ⟨b.os.trans a.os, b.drawn.trans a.drawn, fun q => b.gens (a.gens q)⟩
section
variable {prog : Program} {w : World} {A : Around} {E : Value → Shared → Prop} {s s0 : Shared} {H₀ g : Heap} {L : Addr} {m : Str → Option Value} {news : List (Addr × Obj)} {p : Program} {loose : List Str} {mg mb : Str → Option Value} {Q : Value → Shared → Prop}
theorem qn_makeN {t : Str} {a1 : Tok} (F : Fr g L s.heap m) (N : News g L s.heap news) (HG : Sub H₀ g) (X : (heapK w.params).In H₀) (TR : TopRead p loose mg mb H₀) (hdp : A.depth < 480) (hsz : H₀.objs.size ≤ L) (KA : Acc s0 s.os s.drawn s.gens)
    (hQ : ∀ s' x d k u, Fr g L s'.heap m → News g L s'.heap ((x, instObj 263 d) :: (d, qnD w.params t k u) :: news) → AllNe x news → AllNe d news → @Ne Nat x d → Acc s0 s'.os s'.drawn s'.gens → Q (.ref x) s') :
    wpAny (model prog w) A (call (.ref 263) [.str t a1]) Q E s := by
  refine qn_make (sub_fr F HG) X TR hdp (Nat.le_trans hsz (Nat.le_of_lt F.ns.lt)) ?_
  intro s' x d k u Kp e1 e2 e3 e4
  exact hQ s' x d k u (kept_fr0 Kp F) (news_fresh Kp F (news_fresh Kp F (kept_news0 Kp N) e2 e4) e1 e3) (allNe_of N e1) (allNe_of N e2) (upd_ne e3 e4 (by simp)) (KA.next Kp)
end
local macro_rules | `(tactic| walk_at "call ref") => `(tactic| (k_here; (with_reducible show wpAny _ _ (call (Value.ref _) [Value.str _ _]) _ _ _); k_dflt (first | (refine qn_makeN (by k_asm) (by k_asm) (by assumption) (by assumption) (by assumption) (by simp only [depth_deeper]; omega) (by assumption) (by assumption) ?_) | fail "qn"); intro s' x' d' k' u' F' N' q1' q2' q3' KA'; simp only [AllNe, and_true] at q1' q2'; (repeat (obtain ⟨_, q1'⟩ := q1')); (repeat (obtain ⟨_, q2'⟩ := q2'))))
local macro_rules | `(tactic| walk_at "m5") => `(tactic| (intro D' h' F' N' l1; (try k_lt l1); (try k_sweep)))
local macro_rules | `(tactic| walk_at "subscriptTail Name Slice ref ref") => `(tactic| (k_here; (with_reducible show wpAny _ _ (subscriptTail _ (PySem.Expr.Slice _ _ none _) _ _) _ _ _); k_dflt (refine kmk_slice_lit (by k_asm) (by k_asm) (by kmk_list) (by kmk_part) (by kmk_part) (by first | exact pick_from (by first | exact rfl | assumption) | exact pick_init rfl (by omega) | exact pick_upto (by first | exact rfl | assumption) | exact pick_both rfl (by with_reducible assumption)) ?_ (by with_unfolding_all rfl) (by kmk_pure) (by first | with_reducible assumption | exact Nat.le_of_ble_eq_true rfl | (simp only [sizeLine_eq, ← Array.length_toList, List.length_dropLast, List.length_drop, List.length_take, List.length_append]; omega))); walk_at "m5"))
local macro_rules | `(tactic| walk_at "binaryOp Add ref ref") => `(tactic| (k_here; k_dflt (refine kmk_add_lit (by k_asm) (by k_asm) (by kmk_list) (by kmk_list) rfl ?_ (by simp only [sizeLine_eq, List.length_append, List.length_dropLast, List.length_drop, List.length_take, List.length_cons, List.length_nil]; omega)); walk_at "m5"))
local macro_rules | `(tactic| walk_at "subscriptTail") => `(tactic| (k_here; (with_reducible show wpAny _ _ (subscriptTail _ _ (Value.ref _) (Value.int _ _)) _ _ _); k_dflt (first | (refine item_list (by kmk_list) (by first | exact rfl | assumption) (by omega) (by assumption) ?_ (by with_unfolding_all rfl)) | fail "item")))
local macro_rules | `(tactic| k_mem) => `(tactic| assumption)
local macro_rules | `(tactic| walk_at "exec For Name Call cons nil") => `(tactic| (k_here; refine for_own ?_ (fun _ => rfl)))
local macro_rules | `(tactic| walk_at "mine_var") => `(tactic| first | exact rfl | assumption | (refine (if_neg (by decide)).trans ?_; walk_at "mine_var") | (refine (if_pos rfl).trans ?_; exact rfl))
local macro_rules | `(tactic| walk_at "eval Name") => `(tactic| (k_here; k_dflt (first | (refine ld (by k_asm) (by first | assumption | (refine (if_neg (by decide)).trans ?_; walk_at "mine_var")) ?_) | fail "var")))
local macro_rules | `(tactic| walk_at "loadName") => `(tactic| (k_here; k_dflt (first | (refine ldn (by k_asm) (by first | assumption | walk_at "mine_var") ?_) | fail "var")))
local macro_rules | `(tactic| walk_at "eval Name") => `(tactic| (k_here; (with_reducible show wpAny _ _ (eval (Expr.Name _ _) (compEnvC _ _ _ _)) _ _ _); k_dflt (first
  | (refine nameC_L (by k_asm) (by assumption) (by assumption) (by assumption) ?_ (by rfl) (by rfl) (by decide))
  | (refine nameC_C (by k_asm) (by rfl) (by k_mem) (by assumption) ?_ (by rfl) (by rfl) (by decide))
  | (refine nameC_B (by k_asm) (by k_asm) (by k_asm) (by k_is) (by first | boot_by_name | rfl | kernel_rfl) (by decide) ?_ (by rfl) (by rfl) (by rfl) (by rfl) (by decide))
  | (refine nameC_K (by k_asm) (by k_asm) (by k_asm) (by k_is) ?_ (by rfl) (by rfl) (by rfl) (by decide)))))
/- E2_2k -/
section
open PySem PySem.W PySem.Calls PyProof.Rows
noncomputable def forBody : List Stmt → List Stmt | .For _ _ b _ _ :: _ => b | _ => []
/- objects of QName and their dicts alone -/
noncomputable def QTail (qs : List (Addr × Obj)) : Prop := ∀ p ∈ qs, p.2.cls = .ref 263 ∨ p.2.cls = .type "dict"
noncomputable def TxtIn (P : Params) (qs : List (Addr × Obj)) (v : Value) (t : Str) : Prop := (∃ tok, v = .str t tok) ∨ (∃ x d k u, v = .ref x ∧ (x, instObj 263 d) ∈ qs ∧ (d, qnD P t k u) ∈ qs)
theorem TxtIn.more {P : Params} {qs qs' : List (Addr × Obj)} {v : Value} {t : Str} (a : TxtIn P qs v t) (h : ∀ p ∈ qs, p ∈ qs') : TxtIn P qs' v t := by
  rcases a with ⟨tok, rfl⟩ | ⟨x, d, k, u, rfl, e1, e2⟩
  · exact .inl ⟨tok, rfl⟩
  · exact .inr ⟨x, d, k, u, rfl, h _ e1, h _ e2⟩
theorem TxtIn.here {P : Params} {h : Heap} {qs : List (Addr × Obj)} {v : Value} {t : Str} (a : TxtIn P qs v t) (H : ∀ p ∈ qs, h.get? p.1 = some p.2) : TxtAt P h v t := by
  rcases a with ⟨tok, rfl⟩ | ⟨x, d, k, u, rfl, e1, e2⟩
  · exact .inl ⟨tok, rfl⟩
  · exact .inr ⟨x, d, k, u, rfl, H _ e1, H _ e2⟩
theorem names_even {P : Params} {g h : Heap} {L I nm x d : Addr} {oI : Obj} {items : Array Value} {n : Nat} {qs : List (Addr × Obj)} {ts : List Str} {t : Str} {k u : Tok}
    (hq : QTail qs) (hp : Paired (TxtIn P qs) items.toList ts) (N : News g L h ((x, instObj 263 d) :: (d, qnD P t k u) :: (I, oI) :: (nm, listOf (items.push (.ref x)) n) :: qs)) (y1 : @Ne Nat nm I) (y2 : ∀ p ∈ qs, @Ne Nat p.1 I) (y3 : @Ne Nat x I) (y4 : @Ne Nat d I) :
    ∃ qs', News g L h ((I, oI) :: (nm, listOf (items.push (.ref x)) n) :: qs') ∧ QTail qs' ∧ Paired (TxtIn P qs') (items.push (.ref x)).toList (ts ++ [t]) ∧ ∀ p ∈ (nm, listOf (items.push (.ref x)) n) :: qs', @Ne Nat p.1 I := by
  refine ⟨(x, instObj 263 d) :: (d, qnD P t k u) :: qs, fun p hp => ?_, List.forall_mem_cons.mpr ⟨.inl rfl, List.forall_mem_cons.mpr ⟨.inr rfl, hq⟩⟩, ?_, List.forall_mem_cons.mpr ⟨y1, List.forall_mem_cons.mpr ⟨y3, List.forall_mem_cons.mpr ⟨y4, y2⟩⟩⟩⟩
  · refine N p ?_
    simp only [List.mem_cons] at hp ⊢
    rcases hp with h | h | h | h | h
    · exact .inr (.inr (.inl h))
    · exact .inr (.inr (.inr (.inl h)))
    · exact .inl h
    · exact .inr (.inl h)
    · exact .inr (.inr (.inr (.inr h)))
  · rw [Array.toList_push]
    exact two_append (hp.mono fun _ _ h => h.more fun p hp => .tail _ (.tail _ hp)) (.cons (.inr ⟨_, _, _, _, rfl, .head _, .tail _ (.head _)⟩) .nil)
theorem TxtIn.uniq {P : Params} {h : Heap} {qs : List (Addr × Obj)} {v : Value} {t t' : Str} (a : TxtIn P qs v t) (b : TxtIn P qs v t') (H : ∀ p ∈ qs, h.get? p.1 = some p.2) : t = t' := by
  rcases a with ⟨tok, rfl⟩ | ⟨x, d, k, u, rfl, e1, e2⟩
  · rcases b with ⟨tok', e⟩ | ⟨x', d', k', u', e, _, _⟩
    · cases e; rfl
    · cases e
  · rcases b with ⟨tok', e⟩ | ⟨x', d', k', u', e, f1, f2⟩
    · cases e
    · cases e
      have a1 : h.get? x = some (instObj 263 d) := H _ e1
      have a2 : h.get? x = some (instObj 263 d') := H _ f1
      have i2 : d = d' := by simpa using a1.symm.trans a2
      subst i2
      have a3 : h.get? d = some (qnD P t k u) := H _ e2
      have a4 : h.get? d = some (qnD P t' k' u') := H _ f2
      have i3 := Option.some.inj (a3.symm.trans a4)
      simp only [qnD, dictOf, Obj.mk.injEq, Data.dict.injEq, Array.mk.injEq, List.cons.injEq, DictEntry.mk.injEq, Value.str.injEq] at i3
      simp_all
noncomputable def tyOf : Value → Value
  | .ref _ => .ref 263
  | _ => .type "str"
theorem tyOf_ok {P : Params} {M : Model} {h : Heap} {v : Value} {t : Str} (a : TxtAt P h v t) : Looks M h (typeOf v) (tyOf v) := by
  rcases a with ⟨tok, rfl⟩ | ⟨x, d, k, u, rfl, e1, e2⟩
  · exact .now
  · exact InstAt.type (show InstAt h x (instObj 263 d) 263 (some (qnD P t k u)) from ⟨e1, rfl, rfl, e2⟩)
theorem tyOf_no {P : Params} {h : Heap} {v : Value} {t : Str} (a : TxtAt P h v t) : (tyOf v != Value.type "tuple") = true := by
  rcases a with ⟨tok, rfl⟩ | ⟨x, d, k, u, rfl, e1, e2⟩ <;> rfl
theorem two_mem2 {α β : Type} {R : α → β → Prop} : ∀ {a : List α} {b : List β}, Paired R a b → ∀ {x : α}, x ∈ a → ∃ y, y ∈ b ∧ R x y
  | _, _, .nil, _, h => nomatch h
  | _, _, .cons r t, x, h => by
    rcases List.mem_cons.mp h with rfl | h
    · exact ⟨_, .head _, r⟩
    · obtain ⟨y, hy, q⟩ := two_mem2 t h
      exact ⟨y, .tail _ hy, q⟩
theorem par_push {items : Array Value} {i : Nat} {v : Value} (h : ∀ (j : Nat) v, items.toList[j]? = some v → (j % 2 = 0 ↔ ∃ x, v = Value.ref x)) (hi : items.size = i) (hv : i % 2 = 0 ↔ ∃ x, v = Value.ref x) : ∀ (j : Nat) u, (items.push v).toList[j]? = some u → (j % 2 = 0 ↔ ∃ x, u = Value.ref x) := fun j u hu => by
  rw [Array.toList_push, List.getElem?_append] at hu
  split at hu
  · exact h j u hu
  · rename_i hj
    rw [Array.length_toList] at hj hu
    obtain ⟨h1, h2⟩ := List.getElem?_eq_some_iff.mp hu
    simp only [List.length_cons, List.length_nil] at h1
    obtain rfl : j = i := by omega
    simp only [List.getElem_singleton] at h2
    rw [← h2]
    exact hv
theorem fmod2_even {i : Nat} (e : (i : Int).fmod 2 = 0) : i % 2 = 0 := by rw [Int.fmod_eq_emod_of_nonneg _ (by decide)] at e; omega
theorem fmod2_odd {i : Nat} (e : (i : Int).fmod 2 ≠ 0) : ¬ i % 2 = 0 := fun q => e (by rw [Int.fmod_eq_emod_of_nonneg _ (by decide)]; omega)
theorem names_c {prog : Program} {w : World} {A : Around} {E : Value → Shared → Prop} {s : Shared} {H₀ : Heap} {p : Program} {loose : List Str} {mg mb : Str → Option Value} {Q : Value → Shared → Prop} {bm : Addr} {ob : Obj} {l : Addr} {vs : Array Value} {nl : Nat} {ns : List Nat}
    (HS : Sub H₀ s.heap) (X : (heapK w.params).In H₀) (TR : TopRead p loose mg mb H₀) (hdp : A.depth < 460) (B : BMod H₀ mainGlobals mg bm ob) (hun : A.units < 1600) (hh : A.handled = none) (hsz : H₀.objs.size ≤ s.heap.objs.size)
    (hl : s.heap.get? l = some (listOf vs nl)) (hN : NatsAre vs.toList ns) (hpos : ∀ n ∈ ns, 0 < n) (hfig : ∀ n ∈ ns, figs n ≤ 100) (hnd : ns.Nodup) (h0 : 0 < ns.length) (h20 : ns.length ≤ 20)
    (hQ : ∀ s' D c out (rs : List Nat), Kept [] s s' → s.heap.get? D = none → s'.heap.get? D = some (listOf out c) → StrsAre out.toList (rs.map dec) → rs.Perm ns → rs.Pairwise (fun a b => digs a < digs b) → Q (.ref D) s') :
    wpAny (model prog w) A (call (.ref 286) [.ref l]) Q E s := by
  have : PySem.Challenge.rw_yh0022_02.prog = PySem.Challenge.rw_yh0022_02.prog ∧ heapK = heapK := by k_fill; exact ⟨rfl, rfl⟩
  clear this
  refine wpAny_call ?_
  refine enter [] all_nil HS all_nil X TR (by k_is) (by k_is) (Nat.lt_of_lt_of_le hdp (Nat.le_of_ble_eq_true rfl)) (BindsTo.of_eq (binds := [("numbers", .ref l)]) rfl) (locs rfl) (by decide) rfl rfl rfl ?_
  intro g L' h₁ F N XG TG HG hkeep hk₁ hL
  have gl : g.get? l = some (listOf vs nl) := hkeep _ _ (by simp) hl
  have gL : g.IsList l vs := ⟨_, gl, rfl, _, rfl⟩
  have hszL : H₀.objs.size ≤ L' := by rw [hL]; exact hsz
  have hvs : vs.size = ns.length := by rw [← Array.length_toList]; exact hN.length
  have hsz9 : vs.size ≤ sizeLine := by rw [sizeLine_eq]; omega
  dsimp only
  (try k_fold)
  k_steps
  (with_reducible rename News _ _ _ _ => N1); (with_reducible rename Fr _ _ _ _ => F1)
  refine iter_range_own (by assumption) (small_one (by omega) (by omega) (by omega) (by omega)) F1 N1 ?_
  intro I h2 F2 N2 hoff2 k2
  clear F1 N1
  have hrs : Builtin.Range.rangeSize 0 (vs.size : Int) 1 = (ns.length : Int) := by
    unfold Builtin.Range.rangeSize
    rw [if_pos (by decide), if_pos (by omega), Int.ediv_one]
    omega
  refine for_range_inv (k := ns.length) hh (fun i m' news' s' => ∃ nm items n qs, news' = (nm, listOf items n) :: qs ∧ m' "names" = some (.ref nm) ∧ m' "numbers" = some (.ref l) ∧ QTail qs ∧ Paired (TxtIn w.params qs) items.toList ((ns.take i).map dec) ∧ (∀ j v, items.toList[j]? = some v → (j % 2 = 0 ↔ ∃ x, v = Value.ref x)) ∧ Acc s s'.os s'.drawn s'.gens)
    (fun i m' news' s' h' tk q => q) (fun _ _ => rfl) (fun i m' news' s2 tk I3 oI3 hi q hoI F3 N3 hoff3 => ?_) (fun m' news' s2 q F3 N3 => ?_) hrs
    ⟨_, #[], 0, [], rfl, by walk_at "mine_var", by walk_at "mine_var", fun p hp => (nomatch hp), by simpa using Paired.nil, fun j v h => by simp at h, ⟨rfl, rfl, id⟩⟩ F2 N2 hoff2
  · obtain ⟨nm, items, n, qs, rfl, q1, q2, q3, q4, q5, q6⟩ := q
    obtain ⟨v, nn, hv, hn, tn, rfl⟩ := two_has hN hi
    have hnn := List.mem_of_getElem? hn
    have hp0 := hpos nn hnn
    have hf9 : figs nn ≤ 500 := by have := hfig nn hnn; omega
    have z1 : ∀ p ∈ qs, @Ne Nat p.1 nm := fun p hp => upd_ne (N3 p (.tail _ (.tail _ hp))).1 (N3 (nm, _) (.tail _ (.head _))).1 (by rcases q3 p hp with e | e <;> rw [e] <;> simp)
    simp only [List.forall_mem_cons] at hoff3
    obtain ⟨y1, y2⟩ := hoff3
    refine wpAny_assign_Name ?_
    have hil := q4.length
    simp only [List.length_map, List.length_take, Array.length_toList] at hil
    have hz9 : items.size ≤ 16777216 := Nat.le_trans (Nat.le_of_eq hil) (Nat.le_trans (Nat.min_le_right _ _) (Nat.le_trans h20 (by decide)))
    have hfm : (i : Int).fmod 2 = (i : Int) % 2 := Int.fmod_eq_emod_of_nonneg _ (by decide)
    have htk : (ns.take (i + 1)).map dec = (ns.take i).map dec ++ [dec nn] := by rw [List.take_add_one, hn]; simp
    k_steps
    · (with_reducible rename News _ _ _ _ => N5); (with_reducible rename Fr _ _ _ _ => F5)
      dsimp only
      obtain ⟨qs', N6, r1, r2, r3⟩ := names_even q3 q4 N5 y1 y2 (by k_ne) (by k_ne)
      exact ⟨_, _, ⟨nm, _, _, qs', rfl, by walk_at "mine_var", by walk_at "mine_var", r1, by rw [htk]; exact r2, par_push q5 (hil.trans (Nat.min_eq_left (Nat.le_of_lt hi))) (by (with_reducible rename Int.fmod _ _ = 0 => e9); exact ⟨fun _ => ⟨_, rfl⟩, fun _ => fmod2_even e9⟩), by assumption⟩, F5, N6, r3⟩
    · (with_reducible rename News _ _ _ _ => N5); (with_reducible rename Fr _ _ _ _ => F5)
      dsimp only
      refine ⟨_, _, ⟨nm, _, _, qs, rfl, by walk_at "mine_var", by walk_at "mine_var", q3, ?_, par_push q5 (hil.trans (Nat.min_eq_left (Nat.le_of_lt hi))) (by (with_reducible rename Int.fmod _ _ ≠ 0 => e9); exact ⟨fun q => absurd q (fmod2_odd e9), fun ⟨x, e⟩ => by cases e⟩), by assumption⟩, F5, N5, ?_⟩
      · rw [htk, Array.toList_push]
        exact two_append q4 (.cons (.inl ⟨_, rfl⟩) .nil)
      · exact List.forall_mem_cons.mpr ⟨y1, y2⟩
  · obtain ⟨nm, items, n, qs, rfl, q1, q2, q3, q4, q5, q6⟩ := q
    rw [List.take_length] at q4
    have hil := q4.length
    rw [List.length_map, Array.length_toList] at hil
    refine wpAny_execs_nil ?_
    walk1
    walk1
    refine LCg.ListComp_U F3 rfl (by decide) rfl (by decide) rfl ?_
    k_steps
    (with_reducible rename News _ _ _ _ => N4); (with_reducible rename Fr _ _ _ _ => F4)
    obtain ⟨rs, hr1, hr2, hr3⟩ := sorted_decs hnd hpos h0 q4
    have hty : ∀ (h : Heap), News g L' h ((nm, listOf items n) :: qs) → ∀ v ∈ items.toList, ∃ t, TxtAt w.params h v t := fun h N v hv => by
      obtain ⟨t, _, ht⟩ := two_mem2 q4 hv
      exact ⟨t, ht.here fun p hp => (N p (.tail _ hp)).1⟩
    refine sorted_txt (vs := items.toList) (lt := decLt ns) (ty := tyOf) F4 N4 (by rw [Array.toArray_toList]; exact News.isList N4 (.head _)) (by rw [Array.length_toList]; omega) (by rw [Array.length_toList]; omega)
      (fun h F N v hv => by obtain ⟨t, ht⟩ := hty h N v hv; exact tyOf_ok ht) (fun v hv => by obtain ⟨t, ht⟩ := hty _ N4 v hv; exact tyOf_no ht) (fun v0 v1 r hv => ?_) (fun i j C s' hi hj F N hC => ?_) ?_
    · obtain ⟨x0, rfl⟩ := (q5 0 v0 (by rw [hv]; rfl)).mp rfl
      have n1 := mt (q5 1 v1 (by rw [hv]; rfl)).mpr (by decide)
      obtain ⟨t1, _, h1⟩ := two_mem2 q4 (x := v1) (by rw [hv]; exact .tail _ (.head _))
      rcases h1 with ⟨tok, rfl⟩ | ⟨x, d, k, u, rfl, e1, e2⟩
      · rfl
      · exact absurd ⟨x, rfl⟩ n1
    · have hat : ∀ i, i < items.toList.length → TxtAt w.params s'.heap (items.toList.getD i Value.none) (dec (ns.getD i 0)) := fun i hi => by
        have hi' : i < ns.length := by rw [Array.length_toList] at hi; omega
        have e1 : items.toList[i]? = some (items.toList.getD i Value.none) := by simp only [List.getD_eq_getElem?_getD, List.getElem?_eq_getElem hi, Option.getD_some]
        have e2 : (ns.map dec)[i]? = some (dec (ns.getD i 0)) := by simp [hi']
        exact (two_get q4 e1 e2).here fun p hp => (N p (.tail _ hp)).1
      refine richLt_c F XG (sub_fr F HG) X TR (by simp only [depth_in1, depth_deeper]; omega) (by simp only [units_in1, units_deeper]; omega) (hat i hi) (hat j hj) ?_
      intro s'' Kp
      have e9 : ordOf .Lt (dec (ns.getD i 0)) (dec (ns.getD j 0)) = decLt ns i j := by
        unfold ordOf decLt
        simp only [dec_cps]
      rw [e9]
      exact ⟨_, rfl, hC s'' Kp⟩
    · intro s5 D c F5 N5 lt5 e1 e2 e3
      have hol : (outOf items.toList (decLt ns)).length ≤ 20 := by rw [hr3.length, List.length_map, hr1.length_eq]; exact h20
      refine LCg.CompSrc.ledger hh F5 N5 (.head _) (by rw [List.size_toArray, sizeLine_eq]; omega) (fun g9 => comp_each (G := fun v y => ∀ t, TxtIn w.params qs v t → ∃ tok, y = .str t tok) (.inr ⟨_, .head _, rfl, _, rfl⟩) (fun i v C oC m₂ Y t E' hv hC hx F6 N6 hm hsub o1 o2 o3 => ?_) (fun ys hy => ?_))
      · obtain ⟨t0, _, ht0⟩ := two_mem2 hr3 (x := v) (List.mem_of_getElem? (by simpa using hv))
        have hun0 : ∀ t', TxtIn w.params qs v t' → t' = t0 := fun t' h' => h'.uniq ht0 fun p hp => (N6 p (hsub p (.tail _ (.tail _ hp)))).1
        rcases ht0 with ⟨tok, rfl⟩ | ⟨x, d, k, u, rfl, f1, f2⟩
        · k_steps
          exact ⟨fun t' h' => by rw [hun0 t' h']; exact ⟨_, rfl⟩, ⟨_, _, rfl, fun _ _ e => e⟩⟩
        · have gx : InstAt t.heap x (instObj 263 d) 263 (some (qnD w.params t0 k u)) := ⟨(N6 _ (hsub _ (.tail _ (.tail _ f1)))).1, rfl, rfl, (N6 _ (hsub _ (.tail _ (.tail _ f2)))).1⟩
          k_steps
          refine kso_call (by simp only [units_in1, units_deeper, cLine]; omega) (XG.keeps F6.keep) gx (by k_is) (by k_is) ?_
          refine qstr_c (sub_fr F6 HG) X TR (by simp only [depth_in1, depth_deeper]; omega) gx.at_ gx.dict ?_
          intro s6 Kp6 Ks6
          exact ⟨fun t' h' => by rw [hun0 t' h']; exact ⟨_, rfl⟩, Ks6⟩
      · intro D2 h7 tk7 F7 N7 off7
        refine hQ _ D2 _ ys.toArray rs (kept_of hkeep F7 hL.symm N7 all_nil all_nil (e1.trans q6.os) (e2.trans q6.drawn) (fun q => e3 (q6.gens q))) (fresh_of hkeep N7 (.head _) all_nil) (N7 _ (.head _)).1 ?_ hr1 hr2
        exact strs_of (two_join2 (fun v t y a b => b t a) hr3 hy)
end
/- LE1_2k -/
local macro_rules | `(tactic| walk_at "binaryOp Mult ref int") => `(tactic| (k_here; k_dflt (first | (refine mul_one (by k_asm) (by k_asm) (by k_mem) (by first | exact rfl | assumption) (by first | assumption | omega) ?_) | fail "mul"); walk_at "m5"))
local macro_rules | `(tactic| walk_at "inplaceOp Add ref ref") => `(tactic| (k_here; k_dflt (first | (refine iadd_list (by k_asm) (by k_asm) (by kmk_list) (by k_upd) (by first | assumption | (simp; omega)) ?_) | fail "iadd"); intro h' F' N'; (try k_sweep)))
theorem fdiv_nat (a b : Nat) : (a : Int).fdiv (b : Int) = ((a / b : Nat) : Int) := by
  rw [Int.fdiv_eq_ediv_of_nonneg _ (Int.natCast_nonneg b)]; rfl
theorem fmod_nat2 (a b : Nat) : (a : Int).fmod (b : Int) = ((a % b : Nat) : Int) := by
  rw [Int.fmod_eq_emod_of_nonneg _ (Int.natCast_nonneg b)]; rfl
section
variable {prog : Program} {w : World} {A : Around} {E : Value → Shared → Prop} {s : Shared} {a b : Nat} {t u : Tok} {Q : Value → Shared → Prop}
theorem div_nats (hb : 0 < b) (ha : b < 1073741824) (h : Q (.int ((a / b : Nat) : Int) s.toks) { s with toks := s.toks + 1 }) : wpAny (model prog w) A (binaryOp .FloorDiv (.int (a : Int) t) (.int (b : Int) u)) Q E s :=
  floordiv_int (by omega) (by rw [fdiv_nat]; exact h) (.inl (PyProof.noPylong_small (by omega)))
theorem mod_nats (hb : 0 < b) (h : Q (.int ((a % b : Nat) : Int) s.toks) { s with toks := s.toks + 1 }) : wpAny (model prog w) A (binaryOp .Mod (.int (a : Int) t) (.int (b : Int) u)) Q E s :=
  PyProof.Rows.mod_int' (by omega) (by rw [fmod_nat2]; exact h)
end
local macro_rules | `(tactic| walk_at "binaryOp FloorDiv int int") => `(tactic| (k_here; (with_reducible show wpAny _ _ (binaryOp Operator.FloorDiv (Value.int _ _) (Value.int (Nat.cast _) _)) _ _ _); k_dflt (first | (refine floordiv_int (by omega) ?_ (.inl (PyProof.noPylong_small (by omega)))) | fail "div")))
local macro_rules | `(tactic| walk_at "binaryOp FloorDiv int int") => `(tactic| (k_here; (with_reducible show wpAny _ _ (binaryOp Operator.FloorDiv (Value.int (Nat.cast _) _) (Value.int (Nat.cast _) _)) _ _ _); k_dflt (first | (refine div_nats (by first | assumption | omega) (by omega) ?_) | fail "div")))
local macro_rules | `(tactic| walk_at "binaryOp Mod int int") => `(tactic| (k_here; (with_reducible show wpAny _ _ (binaryOp Operator.Mod (Value.int (Nat.cast _) _) (Value.int (Nat.cast _) _)) _ _ _); k_dflt (first | (refine mod_nats (by first | assumption | omega) ?_) | fail "mod")))
local macro_rules | `(tactic| walk_at "subscriptTail") => `(tactic| (k_here; (with_reducible show wpAny _ _ (subscriptTail _ _ (Value.ref _) (Value.int (-1) _)) _ _ _); k_dflt (first | (refine item_last (by kmk_list) (by assumption) ?_ (by with_unfolding_all rfl)) | fail "last")))
local macro_rules | `(tactic| walk_at "binaryOp Mult int int") => `(tactic| (k_here; (with_reducible show wpAny _ _ (binaryOp Operator.Mult (Value.int _ _) (Value.int _ _)) _ _ _); k_dflt (first | (refine PyProof.Rows.mul_int ?_ (PySem.IntMulOk.of_right (PySem.intBits_le_64 (by omega) (by omega)))) | fail "mul")))
theorem most_fit {wd c z : Nat} (hz : 0 < z) : (if ((wd : Int) - (c : Int) * ((z : Int) + 1)).fdiv (z : Int) > 0 then ((wd : Int) - (c : Int) * ((z : Int) + 1)).fdiv (z : Int) else 0) = (((wd - c * (z + 1)) / z : Nat) : Int) := by
  by_cases h : c * (z + 1) ≤ wd
  · have e : (wd : Int) - (c : Int) * ((z : Int) + 1) = ((wd - c * (z + 1) : Nat) : Int) := by
      rw [Int.ofNat_sub h]; simp
    rw [e, fdiv_nat]
    generalize (wd - c * (z + 1)) / z = q
    split
    · rfl
    · omega
  · have e : (wd - c * (z + 1)) = 0 := by omega
    rw [e, Nat.zero_div, if_neg]
    · rfl
    · have h1 : (wd : Int) - (c : Int) * ((z : Int) + 1) < 0 := by
        have : ((c * (z + 1) : Nat) : Int) = (c : Int) * ((z : Int) + 1) := by simp
        omega
      have h2 := Int.fdiv_neg_of_neg_of_pos h1 (show (0 : Int) < z by omega)
      omega
theorem least_of {a b : Nat} : (if (b : Int) < (a : Int) then (b : Int) else (a : Int)) = ((min a b : Nat) : Int) := by
  split <;> omega
theorem two_last {α β : Type} {R : α → β → Prop} {a : List α} {b : List β} (x : Paired R a b) {n : β} (h : b.getLast? = some n) : ∃ v, a.getLast? = some v ∧ R v n := by
  have hl := x.length
  rw [List.getLast?_eq_getElem?] at h
  obtain ⟨h1, h2⟩ := List.getElem?_eq_some_iff.mp h
  have h3 : b.length - 1 < a.length := by omega
  refine ⟨a[b.length - 1], ?_, ?_⟩
  · rw [List.getLast?_eq_getElem?, hl, List.getElem?_eq_getElem h3]
  · exact two_get x (List.getElem?_eq_getElem h3) (by rw [← h2]; exact List.getElem?_eq_getElem h1)
theorem two_init {α β : Type} {R : α → β → Prop} {a : List α} {b : List β} (x : Paired R a b) : Paired R a.dropLast b.dropLast := by
  rw [List.dropLast_eq_take, List.dropLast_eq_take, x.length]
  exact two_take x _
/- k as f, f, .. and the rest -/
noncomputable def chunk (f k : Nat) : List Nat := List.replicate (k / f) f ++ (if 0 < k % f then [k % f] else [])
theorem chunk_yes {f k : Nat} (h : 0 < k % f) : chunk f k = List.replicate (k / f) f ++ [k % f] := by unfold chunk; rw [if_pos h]
theorem chunk_no {f k : Nat} (h : ¬ 0 < k % f) : chunk f k = List.replicate (k / f) f := by unfold chunk; rw [if_neg h, List.append_nil]
theorem news1 {g h : Heap} {L : Addr} {l : List (Addr × Obj)} {p : Addr × Obj} (N : News g L h l) (a : p ∈ l) : News g L h [p] := fun x hx => by
  rw [List.mem_singleton.mp hx]; exact N _ a
theorem nats_rep {f k : Nat} {t : Tok} : NatsAre (List.replicate k (Value.int (f : Int) t)) (List.replicate k f) := by
  induction k with
  | zero => exact .nil
  | succ k ih => exact .cons ⟨t, rfl⟩ ih
/- E3_2k -/
section
open PySem PySem.W PySem.Calls PyProof.Rows
section
variable {prog : Program} {w : World} {A : Around} {s : Shared} {H₀ g : Heap} {L : Addr} {p : Program} {loose : List Str} {mg mb m : Str → Option Value} {Q : Flow → Shared → Prop} {D : Addr} {items : Array Value} {n : Nat} {cs : List Nat} {lo sh z wd f : Nat} {t1 t2 t3 t4 t5 : Tok}
theorem countsC (XG : (heapK w.params).In g) (TG : TopRead p loose mg mb g) (hdp : A.depth < 480) (hh : A.handled = none)
    (F : Fr g L s.heap m) (N : News g L s.heap [(D, listOf items n)]) (hc : NatsAre items.toList cs) (hcl : cs.length ≤ 60) (hsh : sh ≤ 50) (hz : 0 < z) (hzw : z ≤ wd) (hwd : wd ≤ 100)
    (m1 : m "counts" = some (.ref D)) (m2 : m "shorts" = some (.int (sh : Int) t1)) (m3 : m "size" = some (.int (z : Int) t2)) (m4 : m "width" = some (.int (wd : Int) t3))
    (hQ : ∀ h tk m' out c, Fr g L h m' → News g L h [(D, listOf out c)] → NatsAre out.toList (cs ++ chunk (wd / z) sh) → Q (.ret (.ref D)) { s with heap := h, toks := tk }) :
    wpAny (model prog w) A (execs (b293.drop 4) (envX (Str.ofString "_law_counts") s293 L 293 (.ref 292) [])) Q NoE s := by
  have : PySem.Challenge.rw_yh0022_02.prog = PySem.Challenge.rw_yh0022_02.prog ∧ heapK = heapK := by k_fill; exact ⟨rfl, rfl⟩
  clear this
  have hil := hc.length
  rw [Array.length_toList] at hil
  have hf0 : 0 < wd / z := Nat.div_pos hzw hz
  have hw9 : wd / z < 1073741824 := by have := Nat.div_le_self wd z; omega
  have hq9 : sh / (wd / z) ≤ 50 := Nat.le_trans (Nat.div_le_self _ _) hsh
  dsimp only [b293, s293, pick, List.drop]
  k_steps
  · (with_reducible rename News _ _ _ _ => N1); (with_reducible rename Fr _ _ _ _ => F1); (with_reducible rename (0 : Int) < _ => e1)
    dsimp only
    refine hQ _ _ _ _ _ F1 (news1 N1 (.tail _ (.tail _ (.head _)))) ?_
    rw [chunk_yes (by omega), Array.toList_push, Array.toList_append, ← List.append_assoc]
    exact two_append (two_append hc nats_rep) (.cons ⟨_, rfl⟩ .nil)
  · (with_reducible rename News _ _ _ _ => N1); (with_reducible rename Fr _ _ _ _ => F1); (with_reducible rename ¬ _ => e1)
    dsimp only
    refine hQ _ _ _ _ _ F1 (news1 N1 (.tail _ (.tail _ (.head _)))) ?_
    rw [chunk_no (by omega), Array.toList_append]
    exact two_append hc nats_rep
/- the short words that still go into the last row, then the rest in rows of their own -/
noncomputable def moreOn (cs : List Nat) (wd z sh : Nat) : List Nat := match cs.getLast? with
  | none => chunk (wd / z) sh
  | some c => cs.dropLast ++ [c + min sh ((wd - c * (z + 1)) / z)] ++ chunk (wd / z) (sh - min sh ((wd - c * (z + 1)) / z))
theorem countsB (XG : (heapK w.params).In g) (TG : TopRead p loose mg mb g) (hdp : A.depth < 480) (hun : A.units < 1600) (hh : A.handled = none)
    (F : Fr g L s.heap m) (N : News g L s.heap [(D, listOf items n)]) (hc : NatsAre items.toList cs) (hcl : cs.length ≤ 50) (hcs : ∀ c ∈ cs, c ≤ 100) (hsh : sh ≤ 50) (hz : 0 < z) (hzw : z ≤ wd) (hwd : wd ≤ 100)
    (m1 : m "counts" = some (.ref D)) (m2 : m "shorts" = some (.int (sh : Int) t1)) (m3 : m "size" = some (.int (z : Int) t2)) (m4 : m "width" = some (.int (wd : Int) t3))
    (hQ : ∀ h tk m' D' out c, Fr g L h m' → News g L h [(D', listOf out c)] → NatsAre out.toList (moreOn cs wd z sh) → Q (.ret (.ref D')) { s with heap := h, toks := tk }) :
    wpAny (model prog w) A (execs (b293.drop 3) (envX (Str.ofString "_law_counts") s293 L 293 (.ref 292) [])) Q NoE s := by
  have : PySem.Challenge.rw_yh0022_02.prog = PySem.Challenge.rw_yh0022_02.prog ∧ heapK = heapK := by k_fill; exact ⟨rfl, rfl⟩
  clear this
  have hil := hc.length
  rw [Array.length_toList] at hil
  dsimp only [b293, s293, pick, List.drop]
  k_steps
  (with_reducible rename News _ _ _ _ => N1); (with_reducible rename Fr _ _ _ _ => F1)
  refine ne_empty (ns := cs) (N1 (D, _) (by k_mem)).1 (N1 _ (.head _)).1 hc (by simp only [cLine]; omega) ?_
  have N2 := news1 N1 (.tail _ (.head _))
  rcases hlast : cs.getLast? with _ | c0
  · obtain rfl : cs = [] := List.getLast?_eq_none_iff.mp hlast
    iterate 3 (first | walk1 | (dsimp only; walk1))
    refine countsC (D := D) (cs := []) XG TG hdp hh F1 N2 hc (by simp) hsh hz hzw hwd m1 m2 m3 m4 ?_
    intro h tk m' out c F3 N3 hout
    exact hQ _ _ _ _ _ _ F3 N3 hout
  · have hne : cs.isEmpty = false := by cases cs <;> simp_all
    rw [hne]
    obtain ⟨v, hv, tv, rfl⟩ := two_last hc hlast
    have hcm := List.mem_of_getLast? hlast
    have hc9 := hcs c0 hcm
    have hpos : 0 < cs.length := List.length_pos_of_mem hcm
    have hlin := hc.length
    k_steps
    rw [most_fit hz]
    (with_reducible rename News _ _ _ _ => N3); (with_reducible rename Fr _ _ _ _ => F3)
    refine min_two_N hh F3 N3 ?_
    intro h4 tk4 F4 N4
    rw [least_of]
    clear F3 N3
    have hmn : min sh ((wd - c0 * (z + 1)) / z) ≤ sh := Nat.min_le_left _ _
    have hsub : (sh : Int) - ((min sh ((wd - c0 * (z + 1)) / z) : Nat) : Int) = ((sh - min sh ((wd - c0 * (z + 1)) / z) : Nat) : Int) := by rw [Int.ofNat_sub hmn]
    iterate 38 (first | walk1 | (dsimp only; walk1))
    (with_reducible rename News _ _ _ _ => N5); (with_reducible rename Fr _ _ _ _ => F5)
    rw [hsub] at F5
    refine countsC (cs := cs.dropLast ++ [c0 + min sh ((wd - c0 * (z + 1)) / z)]) (sh := sh - min sh ((wd - c0 * (z + 1)) / z)) XG TG hdp hh F5 (news1 N5 (.head _)) ?_ ?_ (Nat.le_trans (Nat.sub_le _ _) hsh) hz hzw hwd (by walk_at "mine_var") (by walk_at "mine_var") (by walk_at "mine_var") (by walk_at "mine_var") ?_
    · exact two_append (two_init hc) (.cons ⟨_, congrArg (fun i => Value.int i _) (Int.natCast_add _ _).symm⟩ .nil)
    · rw [List.length_append, List.length_dropLast]; simp; omega
    · intro h tk m' out c F6 N6 hout
      refine hQ _ _ _ _ _ _ F6 N6 ?_
      unfold moreOn
      rw [hlast]
      exact hout
end
end
/- E4_2k -/
section
open PySem PySem.W PySem.Calls PyProof.Rows
theorem fill_of {wd z : Nat} : (if (wd : Int).fdiv ((z : Int) + 1) > 1 then (wd : Int).fdiv ((z : Int) + 1) else 1) = ((max 1 (wd / (z + 1)) : Nat) : Int) := by
  have e : (wd : Int).fdiv ((z : Int) + 1) = ((wd / (z + 1) : Nat) : Int) := by
    have := fdiv_nat wd (z + 1)
    simpa using this
  rw [e]
  generalize wd / (z + 1) = q
  split <;> omega
/- what _law_counts gives back -/
noncomputable def countsOf (lo sh z wd : Nat) : List Nat := moreOn (chunk (max 1 (wd / (z + 1))) lo) wd z sh
theorem chunk_length {f k : Nat} (hf : 0 < f) : (chunk f k).length ≤ k := by
  have h := Nat.div_add_mod k f
  have h2 : k / f ≤ f * (k / f) := Nat.le_mul_of_pos_left _ hf
  unfold chunk
  split <;> simp <;> omega
theorem chunk_le {f k b : Nat} (h0 : 0 < f) (hf : f ≤ b) : ∀ c ∈ chunk f k, c ≤ b := fun c hc => by
  unfold chunk at hc
  rcases List.mem_append.mp hc with h | h
  · rw [List.eq_of_mem_replicate h]; exact hf
  · split at h
    · rw [List.mem_singleton.mp h]
      exact Nat.le_trans (Nat.le_of_lt (Nat.mod_lt _ h0)) hf
    · simp at h
theorem counts_c {prog : Program} {w : World} {A : Around} {E : Value → Shared → Prop} {s : Shared} {H₀ : Heap} {p : Program} {loose : List Str} {mg mb : Str → Option Value} {Q : Value → Shared → Prop} {bm : Addr} {ob : Obj} {lo sh z wd : Nat} {t1 t2 t3 t4 : Tok}
    (HS : Sub H₀ s.heap) (X : (heapK w.params).In H₀) (TR : TopRead p loose mg mb H₀) (hdp : A.depth < 460) (B : BMod H₀ mainGlobals mg bm ob) (hun : A.units < 1500) (hh : A.handled = none)
    (hlo : lo ≤ 50) (hsh : sh ≤ 50) (hz : 0 < z) (hzw : z ≤ wd) (hwd : wd ≤ 100)
    (hQ : ∀ s' D c out, Kept [] s s' → s.heap.get? D = none → s'.heap.get? D = some (listOf out c) → NatsAre out.toList (countsOf lo sh z wd) → Q (.ref D) s') :
    wpAny (model prog w) A (call (.ref 293) [.int (lo : Int) t1, .int (sh : Int) t2, .int (z : Int) t3, .int (wd : Int) t4]) Q E s := by
  have : PySem.Challenge.rw_yh0022_02.prog = PySem.Challenge.rw_yh0022_02.prog ∧ heapK = heapK := by k_fill; exact ⟨rfl, rfl⟩
  clear this
  refine wpAny_call ?_
  refine enter [] all_nil HS all_nil X TR (by k_is) (by k_is) (Nat.lt_of_lt_of_le hdp (Nat.le_of_ble_eq_true rfl)) (BindsTo.of_eq (binds := [("longs", .int (lo : Int) t1), ("shorts", .int (sh : Int) t2), ("size", .int (z : Int) t3), ("width", .int (wd : Int) t4)]) rfl) (locs rfl) (by decide) rfl rfl rfl ?_
  intro g L' h₁ F N XG TG HG hkeep hk₁ hL
  dsimp only
  (try k_fold)
  k_steps
  (with_reducible rename News _ _ _ _ => N1); (with_reducible rename Fr _ _ _ _ => F1)
  rw [fill_of] at F1 N1
  rw [fill_of]
  have hf0 : 0 < max 1 (wd / (z + 1)) := by omega
  have hf1 : max 1 (wd / (z + 1)) ≤ 100 := by have := Nat.div_le_self wd (z + 1); omega
  have hcl := chunk_length (f := max 1 (wd / (z + 1))) (k := lo) hf0
  have hce := chunk_le (k := lo) hf0 hf1
  have hdv : lo / max 1 (wd / (z + 1)) ≤ 50 := Nat.le_trans (Nat.div_le_self _ _) hlo
  unfold countsOf at hQ
  generalize max 1 (wd / (z + 1)) = f at *
  iterate 15 (first | walk1 | (dsimp only; walk1))
  · iterate 16 (first | walk1 | (dsimp only; walk1))
    (with_reducible rename News _ _ _ _ => N2); (with_reducible rename Fr _ _ _ _ => F2); (with_reducible rename (0 : Int) < _ => e2)
    refine countsB (cs := chunk f lo) XG TG (by (repeat (with_reducible refine dep_lt ?_)); first | exact Nat.lt_of_lt_of_le hdp (Nat.le_of_ble_eq_true rfl) | omega | (simp only [depth_deeper, depth_in1, units_deeper, units_in1]; omega)) (by (repeat (with_reducible refine uni_lt ?_)); first | exact Nat.lt_of_lt_of_le hun (Nat.le_of_ble_eq_true rfl) | omega | (simp only [depth_deeper, depth_in1, units_deeper, units_in1]; omega)) hh F2 (news1 N2 (.head _)) ?_ (by omega) hce hsh hz hzw hwd (by walk_at "mine_var") (by walk_at "mine_var") (by walk_at "mine_var") (by walk_at "mine_var") ?_
    · rw [chunk_yes (by omega), Array.toList_push]
      exact two_append nats_rep (.cons ⟨_, rfl⟩ .nil)
    · intro h tk m' D' out c F3 N3 hout
      exact hQ _ _ _ _ (kept_of hkeep F3 hL.symm N3 all_nil all_nil rfl rfl id) (fresh_of hkeep N3 (.head _) all_nil) (N3 _ (.head _)).1 hout
  · iterate 2 (first | walk1 | (dsimp only; walk1))
    (with_reducible rename News _ _ _ _ => N2); (with_reducible rename Fr _ _ _ _ => F2); (with_reducible rename ¬ _ => e2)
    refine countsB (cs := chunk f lo) XG TG (by (repeat (with_reducible refine dep_lt ?_)); first | exact Nat.lt_of_lt_of_le hdp (Nat.le_of_ble_eq_true rfl) | omega | (simp only [depth_deeper, depth_in1, units_deeper, units_in1]; omega)) (by (repeat (with_reducible refine uni_lt ?_)); first | exact Nat.lt_of_lt_of_le hun (Nat.le_of_ble_eq_true rfl) | omega | (simp only [depth_deeper, depth_in1, units_deeper, units_in1]; omega)) hh F2 (news1 N2 (.head _)) ?_ (by omega) hce hsh hz hzw hwd (by walk_at "mine_var") (by walk_at "mine_var") (by walk_at "mine_var") (by walk_at "mine_var") ?_
    · rw [chunk_no (by omega)]
      exact nats_rep
    · intro h tk m' D' out c F3 N3 hout
      exact hQ _ _ _ _ (kept_of hkeep F3 hL.symm N3 all_nil all_nil rfl rfl id) (fresh_of hkeep N3 (.head _) all_nil) (N3 _ (.head _)).1 hout
end
/- H2_2k -/
section
open PySem PySem.W PySem.Calls PyProof.Rows
section
variable {α : Type} {len : α → Nat} {wd : Nat}
/- a word laid behind the rows that are closed and the one that grows -/
noncomputable def lay (len : α → Nat) (wd : Nat) (st : List (List α) × List α) (w : α) : List (List α) × List α :=
  if st.2.isEmpty || decide ((st.2.map len).sum + len w ≤ wd) then (st.1, st.2 ++ [w]) else (st.1 ++ [st.2], [w])
noncomputable def layAll (len : α → Nat) (wd : Nat) (ws : List α) : List (List α) × List α := ws.foldl (lay len wd) ([], [])
theorem layAll_snoc {ws : List α} {w : α} : layAll len wd (ws ++ [w]) = lay len wd (layAll len wd ws) w := by
  unfold layAll; rw [List.foldl_append]; rfl
theorem lay_fit {st : List (List α) × List α} {w : α} (h : st.2 = [] ∨ (st.2.map len).sum + len w ≤ wd) : lay len wd st w = (st.1, st.2 ++ [w]) := by
  unfold lay
  rw [if_pos]
  rcases h with h | h
  · rw [h]; rfl
  · rw [decide_eq_true h, Bool.or_true]
theorem lay_cut {st : List (List α) × List α} {w : α} (h0 : st.2 ≠ []) (h : ¬ (st.2.map len).sum + len w ≤ wd) : lay len wd st w = (st.1 ++ [st.2], [w]) := by
  unfold lay
  rw [if_neg]
  rw [decide_eq_false h, Bool.or_false]
  cases e : st.2 with
  | nil => exact absurd e h0
  | cons a l => simp
/- the same, by the lengths alone -/
noncomputable def layN (wd : Nat) (st : List Nat × Nat × Nat) (l : Nat) : List Nat × Nat × Nat :=
  if st.2.1 == 0 || decide (st.2.2 + l ≤ wd) then (st.1, st.2.1 + 1, st.2.2 + l) else (st.1 ++ [st.2.1], 1, l)
noncomputable def endN (st : List Nat × Nat × Nat) : List Nat := if st.2.1 = 0 then st.1 else st.1 ++ [st.2.1]
noncomputable def told (len : α → Nat) (st : List (List α) × List α) : List Nat × Nat × Nat := (st.1.map (·.length), st.2.length, (st.2.map len).sum)
theorem lay_told {st : List (List α) × List α} {w : α} : told len (lay len wd st w) = layN wd (told len st) (len w) := by
  unfold lay layN told
  have e : (st.2.length == 0) = st.2.isEmpty := by cases st.2 <;> rfl
  rw [e]
  dsimp only
  by_cases h : (st.2.isEmpty || decide ((st.2.map len).sum + len w ≤ wd)) = true
  · rw [if_pos h, if_pos h]; simp
  · rw [if_neg h, if_neg h]; simp
theorem layAll_told {ws : List α} : ∀ {st : List (List α) × List α}, told len (ws.foldl (lay len wd) st) = (ws.map len).foldl (layN wd) (told len st) := by
  induction ws with
  | nil => intro st; rfl
  | cons w ws ih => intro st; rw [List.foldl_cons, ih, lay_told]; rfl
theorem layAll_flat {ws : List α} : ∀ {st : List (List α) × List α}, (ws.foldl (lay len wd) st).1.flatten ++ (ws.foldl (lay len wd) st).2 = st.1.flatten ++ st.2 ++ ws := by
  induction ws with
  | nil => intro st; simp
  | cons w ws ih =>
    intro st
    rw [List.foldl_cons, ih]
    unfold lay
    split <;> simp
/- all rows -/
noncomputable def rowsOf (len : α → Nat) (wd : Nat) (ws : List α) : List (List α) := (layAll len wd ws).1 ++ [(layAll len wd ws).2]
theorem layAll_some {ws : List α} (h : ws ≠ []) : (layAll len wd ws).2 ≠ [] := by
  obtain ⟨l, w, rfl⟩ : ∃ l w, ws = l ++ [w] := ⟨ws.dropLast, ws.getLast h, (List.dropLast_concat_getLast h).symm⟩
  rw [layAll_snoc]
  unfold lay
  split <;> simp
/- a list cut into pieces of the given lengths -/
noncomputable def cut : List α → List Nat → List (List α)
  | _, [] => []
  | ws, c :: cs => ws.take c :: cut (ws.drop c) cs
theorem cut_of : ∀ (rows : List (List α)), cut rows.flatten (rows.map (·.length)) = rows
  | [] => rfl
  | r :: rows => by
    rw [List.map_cons, List.flatten_cons]
    unfold cut
    rw [List.take_left, List.drop_left, cut_of rows]
theorem cut_length : ∀ (ws : List α) (cs : List Nat), (cut ws cs).length = cs.length
  | _, [] => rfl
  | ws, c :: cs => by unfold cut; rw [List.length_cons, cut_length, List.length_cons]
theorem cut_get {c : Nat} : ∀ {ws : List α} {cs : List Nat} {i : Nat}, cs[i]? = some c → (cut ws cs)[i]? = some ((ws.drop (cs.take i).sum).take c)
  | _, [], _, h => by simp at h
  | ws, d :: cs, 0, h => by
    simp at h
    subst h
    simp [cut]
  | ws, d :: cs, i + 1, h => by
    unfold cut
    rw [List.getElem?_cons_succ, cut_get (by simpa using h), List.take_succ_cons, List.sum_cons, List.drop_drop]
end
/- the law of the rows, for few words -/
noncomputable def okAt (z wd lo sh : Nat) : Bool := endN ((List.replicate lo (z + 1) ++ List.replicate sh z).foldl (layN wd) ([], 0, 0)) == countsOf lo sh z wd
noncomputable def okZ (z : Nat) : Bool := (List.range (2 * z + 3)).all fun b => (List.range 8).all fun lo => (List.range (8 - lo)).all fun sh => okAt z (z + b) lo sh
theorem okZs : (List.range 6).all (fun a => okZ (a + 6)) = true := by decide +kernel
theorem ok_all {z wd lo sh : Nat} (h1 : 6 ≤ z) (h2 : z ≤ 11) (h3 : z ≤ wd) (h4 : wd ≤ 3 * z + 2) (h5 : lo + sh ≤ 7) : endN ((List.replicate lo (z + 1) ++ List.replicate sh z).foldl (layN wd) ([], 0, 0)) = countsOf lo sh z wd := by
  have hz : okZ z = true := by
    have h := List.all_eq_true.mp okZs (z - 6) (List.mem_range.mpr (by omega))
    rwa [Nat.sub_add_cancel h1] at h
  unfold okZ at hz
  rw [List.all_eq_true] at hz
  have hz := hz (wd - z) (List.mem_range.mpr (by omega))
  rw [List.all_eq_true] at hz
  have hz := hz lo (List.mem_range.mpr (by omega))
  rw [List.all_eq_true] at hz
  have hz := hz sh (List.mem_range.mpr (by omega))
  rw [show z + (wd - z) = wd by omega] at hz
  exact eq_of_beq hz
/- the rows that the formatter lays are the rows that the law counts -/
theorem rows_law {α : Type} {len : α → Nat} {z wd lo sh : Nat} {ws : List α} (hl : ws.map len = List.replicate lo (z + 1) ++ List.replicate sh z) (h1 : 6 ≤ z) (h2 : z ≤ 11) (h3 : z ≤ wd) (h4 : wd ≤ 3 * z + 2) (h5 : lo + sh ≤ 7) (h6 : ws ≠ []) :
    cut ws (countsOf lo sh z wd) = rowsOf len wd ws := by
  have e1 := layAll_told (len := len) (wd := wd) (ws := ws) (st := ([], []))
  have e2 := layAll_flat (len := len) (wd := wd) (ws := ws) (st := ([], []))
  have e3 := layAll_some (len := len) (wd := wd) h6
  have e4 := ok_all h1 h2 h3 h4 h5
  rw [← hl, show (([], 0, 0) : List Nat × Nat × Nat) = told len (([], []) : List (List α) × List α) from rfl, ← e1] at e4
  change (layAll len wd ws).1.flatten ++ (layAll len wd ws).2 = [] ++ [] ++ ws at e2
  change endN (told len (layAll len wd ws)) = _ at e4
  unfold endN told at e4
  rw [if_neg (by simpa using e3)] at e4
  have e5 : (rowsOf len wd ws).map (·.length) = countsOf lo sh z wd := by rw [← e4]; simp [rowsOf]
  have e6 : (rowsOf len wd ws).flatten = ws := by rw [rowsOf, List.flatten_append]; simpa using e2
  rw [← e5, ← congrArg (fun l => cut l _) e6]
  exact cut_of _
end
/- E5_2k -/
section
open PySem PySem.W PySem.Calls PyProof.Rows
theorem q_int {Q : Value → Shared → Prop} {a b : Int} {t : Tok} {s : Shared} (e : a = b) (h : Q (.int b t) s) : Q (.int a t) s := e ▸ h
theorem glw2_c {prog : Program} {w : World} {A : Around} {E : Value → Shared → Prop} {s : Shared} {H₀ : Heap} {p : Program} {loose : List Str} {mg mb : Str → Option Value} {Q : Value → Shared → Prop} {d : Addr} {od : Obj} {kvs : List (Int × Value)} {mx : Nat}
    (HS : Sub H₀ s.heap) (X : (heapK w.params).In H₀) (TR : TopRead p loose mg mb H₀) (hdp : A.depth < 470) (hh : A.handled = none) (hun : A.units < 1500) {nn : Bool}
    (hdo : s.heap.get? d = some od) (hdk : od.IsDictOf (PySem.intKind prog w) kvs) (hds : (d == sysModules) = false) (hv : ∀ p ∈ kvs, plainV p.2) (hmem0 : ∃ t0, Value.int (mx : Int) t0 ∈ kvs.map (·.2)) (hmx : ∀ n t, Value.int n t ∈ kvs.map (·.2) → n ≤ mx) (hlo : 1 ≤ mx) (hhi : figs mx ≤ 100) (hnn : nn = true ↔ Value.none ∈ kvs.map (·.2))
    (hQ : ∀ s' t', Kept [] s s' → Q (.int ((max (if nn then 4 else 3) (figs mx) : Nat) : Int) t') s') :
    wpAny (model prog w) A (call (.ref 189) [.ref d]) Q E s := by
  have : PySem.Challenge.rw_yh0022_02.prog = PySem.Challenge.rw_yh0022_02.prog ∧ heapK = heapK := by k_fill; exact ⟨rfl, rfl⟩
  clear this
  obtain ⟨t0, hmem⟩ := hmem0
  refine wpAny_call ?_
  refine enter [] all_nil HS all_nil X TR (by k_is) (by k_is) (Nat.lt_of_lt_of_le hdp (Nat.le_of_ble_eq_true rfl)) (BindsTo.of_eq (binds := [("linestarts", .ref d)]) rfl) (locs rfl) (by decide) rfl rfl rfl ?_
  intro g L' h₁ F N XG TG HG hkeep hk₁ hL
  have gd : g.get? d = some od := hkeep _ _ (by simp) hdo
  obtain ⟨ep, hka⟩ := KdkAt.of hdk
  have hda : ∀ h : Heap, (∀ b o, g.get? b = some o → h.get? b = some o) → Heap.DictAt (PySem.intKind prog w) h d kvs ep := fun h k => hka.dictAt (k _ _ gd)
  dsimp only
  (try k_fold)
  k_steps
  (with_reducible rename News _ _ _ _ => N2); (with_reducible rename Fr _ _ _ _ => F2)
  refine call_filter (knd := PySem.intKind prog w) (kvs := kvs) (ep := ep) (d := d) F2 N2 ⟨_, (N2 _ (.head _)).1, rfl, rfl⟩ (hda _ F2.keep) ?_
  intro I it h3 F3 N3 st3 hI3 hd3 k3 no1 no2
  have hitL : @Ne Nat it L' := fun e => by
    obtain ⟨o, _, _, ho, _⟩ := F2.ns
    rw [show it = L' from e, ho] at no1; cases no1
  have hoff := allNe_of N2 no1
  have hg : g.get? it = none := by
    cases q : g.get? it with
    | none => rfl
    | some o => rw [F2.keep _ _ q] at no1; cases no1
  clear F2 N2
  k_steps
  refine max_filt (knd := PySem.intKind prog w) (it := it) (d := d) (kvs := kvs) (ep := ep) (mx := mx) (t0 := t0) hh F3 N3 hI3 hd3 hv st3 hg hitL (fun p hp => ?_) hmem (by omega) hmx ?_
  · simp only [List.mem_cons, List.not_mem_nil, or_false] at hp
    subst hp
    exact hoff.1
  intro h4 tk4 t4 F4 N4
  clear F3 N3
  have hlen : (dec mx).length = figs mx := dec_length (by omega)
  have hf5 : figs mx ≤ 500 := by omega
  have hany : ((kvs.map (·.2)).any (· == Value.none)) = nn := by
    cases nn with
    | true => exact List.any_eq_true.mpr ⟨_, hnn.mp rfl, rfl⟩
    | false =>
      refine List.any_eq_false.mpr fun v hv' e => ?_
      have hp : plainV v := by obtain ⟨p, hp, rfl⟩ := List.mem_map.mp hv'; exact hv p hp
      cases v <;> first | exact hp.elim | skip
      · exact absurd (hnn.mpr hv') (by simp)
      · cases e
  k_steps
  · exfalso; omega
  · (with_reducible rename News _ _ _ _ => N9); (with_reducible rename Fr _ _ _ _ => F9)
    refine none_in_values hh (by simp only [units_deeper, cLine]; omega) F9 N9 hda (by k_mem) hv ?_
    intro h5 tk5 F10 N10
    rw [hany]
    clear F9 N9
    cases nn with
    | true =>
      k_steps
      (with_reducible rename News _ _ _ _ => N11); (with_reducible rename Fr _ _ _ _ => F11); (with_reducible rename (_ : Int) < _ => e9)
      dsimp only
      refine q_int ?_ (hQ _ _ (kept_of hkeep F11 hL.symm N11 all_nil all_nil rfl rfl id))
      rw [hlen] at e9
      rw [if_pos rfl]
      split at e9 <;> omega
    | false =>
      k_steps
      (with_reducible rename News _ _ _ _ => N11); (with_reducible rename Fr _ _ _ _ => F11); (with_reducible rename (_ : Int) < _ => e9)
      dsimp only
      refine q_int ?_ (hQ _ _ (kept_of hkeep F11 hL.symm N11 all_nil all_nil rfl rfl id))
      rw [hlen] at e9 ⊢
      simp only [Bool.false_eq_true, if_false]
      split at e9
      · omega
      · rw [if_neg (by assumption)]; omega
  · (with_reducible rename News _ _ _ _ => N9); (with_reducible rename Fr _ _ _ _ => F9); (with_reducible rename ¬ _ => e9)
    dsimp only
    refine q_int ?_ (hQ _ _ (kept_of hkeep F9 hL.symm N9 all_nil all_nil rfl rfl id))
    rw [hlen] at e9 ⊢
    split at e9
    · rw [if_pos (by assumption)]; split <;> omega
    · omega
end
/- LE2_2k -/
local macro_rules | `(tactic| walk_at "eval Name") => `(tactic| (k_here; (with_reducible show wpAny _ _ (eval (Expr.Name _ _) (envX _ _ _ _ _ (List.cons _ _))) _ _ _); k_dflt (first
  | (refine nameX_L (by k_asm) (by first | with_reducible assumption | walk_at "mine_var") ?_ rfl rfl)
  | (refine nameX_C (by k_asm) rfl (by k_mem) (by k_asm) ?_ rfl rfl)
  | (refine nameX_K (by k_asm) (by k_asm) (by k_asm) (by k_is) ?_ rfl rfl)
  | (refine nameX_B (by k_asm) (by k_asm) (by k_asm) (by k_is) (by first | boot_by_name | rfl | kernel_rfl) (by decide) ?_ rfl rfl))))
theorem add_as {prog : Program} {w : World} {A : Around} {E : Value → Shared → Prop} {s : Shared} {a b c : Int} {t u : Tok} {Q : Value → Shared → Prop} (e : a + b = c) (h : Q (.int c s.toks) { s with toks := s.toks + 1 }) : wpAny (model prog w) A (binaryOp .Add (.int a t) (.int b u)) Q E s := by
  subst e; exact PyProof.Rows.add_int h
theorem mod_as {prog : Program} {w : World} {A : Around} {E : Value → Shared → Prop} {s : Shared} {a b c : Int} {t u : Tok} {Q : Value → Shared → Prop} (hb : b ≠ 0) (e : a.fmod b = c) (h : Q (.int c s.toks) { s with toks := s.toks + 1 }) : wpAny (model prog w) A (binaryOp .Mod (.int a t) (.int b u)) Q E s := by
  subst e; exact PyProof.Rows.mod_int' hb h
theorem fmod_nat (y : Int) {m : Int} (h : 0 < m) : ∃ k : Nat, y.fmod m = (k : Int) ∧ (k : Int) < m := by
  have h0 := Int.fmod_nonneg_of_pos y h
  have h1 := Int.fmod_lt_of_pos y h
  exact ⟨(y.fmod m).toNat, by omega, by omega⟩
noncomputable abbrev NumsAre (vs : List Value) (xs : List Int) : Prop := Paired (fun v x => ∃ t, v = .int x t) vs xs
theorem nums_of {vs : List Value} {xs : List Int} (h : IntsAre vs xs) : NumsAre vs xs := by
  induction h with
  | nil => exact .nil
  | cons a t _ ih => exact .cons ⟨_, rfl⟩ ih
/- G1_2k -/
section
open PySem PySem.W PySem.Calls PyProof.Rows
noncomputable def lawNums (xs : List Int) : List Int := xs.take 8 ++ [56, 3, 4, 55, 28, 9, 16, 25].drop xs.length
theorem lawNums_length {xs : List Int} : (lawNums xs).length = 8 := by
  simp only [lawNums, List.length_append, List.length_take, List.length_drop, List.length_cons, List.length_nil]; omega
/- what holds when "some" is made -/
structure SomeOk (T : Nat) (ns : List Nat) : Prop where
  nd : ns.Nodup
  dvd : ∀ n ∈ ns, 0 < n ∧ n ∣ 10 ^ T
  len : ns.length ≤ 7
theorem lt_all {d : Addr} : ∀ {l : List (Addr × Obj)}, AllLt d l → ∀ p ∈ l, @LT.lt Nat _ p.1 d
  | [], _, _, h => nomatch h
  | _ :: _, x, p, h => by
    rcases List.mem_cons.mp h with rfl | h
    · exact x.1
    · exact lt_all x.2 p h
theorem width_nat {q r : Nat} : ((3 + q : Nat) : Int) + 3 + (r : Int) = ((3 + q + 3 + r : Nat) : Int) := by omega
theorem width_lo (q r : Nat) : 3 + q + 3 ≤ 3 + q + 3 + r := by omega
theorem width_hi {q r : Nat} (_hq : (q : Int) < 6) (hr : (r : Int) < 2 * (((3 + q : Nat) : Int) + 3) + 3) : 3 + q + 3 + r ≤ 3 * (3 + q) + 11 := by omega
theorem mod_ne (q : Nat) : 2 * (((3 + q : Nat) : Int) + 3) + 3 ≠ 0 := by omega
theorem lawA1_c {prog : Program} {w : World} {A : Around} {s s0 : Shared} {H₀ g : Heap} {L : Addr} {p : Program} {loose : List Str} {mg mb m : Str → Option Value} {Q : Flow → Shared → Prop} {bm : Addr} {ob : Obj} {cT cK : Addr} {nl : Addr} {items : Array Value} {n1 : Nat} {xs : List Int} {oT oK : Obj} {R : List (Addr × Obj)}
    (hprog : prog = PySem.Challenge.pw_yh0022_02) (X : (heapK w.params).In H₀) (TR : TopRead p loose mg mb H₀) (XG : (heapK w.params).In g) (TG : TopRead p loose mg mb g) (HG : Sub H₀ g) (B : BMod H₀ mainGlobals mg bm ob) (hdp : A.depth < 455) (hun : A.units < 1450) (hh : A.handled = none) (hszL : H₀.objs.size ≤ L)
    (jA : Acc s0 s.os s.drawn s.gens) (F : Fr g L s.heap m) (N : News g L s.heap ((nl, listOf items n1) :: (cT, oT) :: (cK, oK) :: R)) (hoT : oT.data = .cell none) (hoK : oK.data = .cell none)
    (hnum : NumsAre items.toList (lawNums xs)) (m1 : m "numbers" = some (.ref nl)) (z1 : @Ne Nat nl cT) (z2 : ∀ p ∈ R, @Ne Nat p.1 cT) (z3 : @Ne Nat cK cT)
    (hQ : ∀ h tk m' T wd sl sn oT' t1 t2 t3, 3 ≤ T → T ≤ 8 → T + 3 ≤ wd → wd ≤ 3 * T + 11 → Fr g L h m' → News g L h ((sl, listOf #[] sn) :: (nl, listOf items n1) :: (cT, oT') :: (cK, oK) :: R) → (∀ p ∈ (nl, listOf items n1) :: (cT, oT') :: (cK, oK) :: R, @LT.lt Nat _ p.1 sl) → oT'.data = .cell (some (.int ((T : Nat) : Int) t1)) →
      m' "numbers" = some (.ref nl) → m' "size" = some (.int (((T : Nat) : Int) + 3) t2) → m' "width" = some (.int ((wd : Nat) : Int) t3) → m' "some" = some (.ref sl) → wpAny (model prog w) A (execs (b298.drop 5) (envX (Str.ofString "law") s298 L 298 (.ref 297) [(Str.ofString "tens", cT), (Str.ofString "kept", cK)])) Q NoE { s with heap := h, toks := tk }) :
    wpAny (model prog w) A (execs (b298.drop 1) (envX (Str.ofString "law") s298 L 298 (.ref 297) [(Str.ofString "tens", cT), (Str.ofString "kept", cK)])) Q NoE s := by
  have : PySem.Challenge.rw_yh0022_02.prog = PySem.Challenge.rw_yh0022_02.prog ∧ heapK = heapK := by k_fill; exact ⟨rfl, rfl⟩
  clear this
  dsimp only [b298, s298, pick, List.drop]
  (try dsimp only)
  obtain ⟨v0, y, hv0, hy0, ty, rfl⟩ := two_has hnum (i := 0) (by rw [lawNums_length]; decide)
  have hk0 : (0 : Int) = ((0 : Nat) : Int) := rfl
  obtain ⟨q, hq, hq6⟩ := fmod_nat y (m := 6) (by decide)
  have hT : 3 + y.fmod 6 = ((3 + q : Nat) : Int) := by omega
  k_steps
  refine item_list (k := 0) (its := items) (News.isList N (by k_mem)) hk0 (by decide) hv0 ?_ (by with_unfolding_all rfl)
  iterate 3 (first | walk1 | (dsimp only; walk1))
  dsimp only
  rw [hT]
  k_steps
  (with_reducible rename News _ _ _ _ => N1); (with_reducible rename Fr _ _ _ _ => F1)
  refine item_list (k := 0) (its := items) (News.isList N1 (by k_mem)) hk0 (by decide) hv0 ?_ (by with_unfolding_all rfl)
  obtain ⟨r, hr, hr9⟩ := fmod_nat (y.fdiv 6) (m := 2 * (((3 + q : Nat) : Int) + 3) + 3) (by omega)
  dsimp only
  iterate 9 (first | walk1 | (dsimp only; walk1))
  dsimp only
  refine mod_as (mod_ne q) hr ?_
  refine add_as width_nat ?_
  have hw1 := width_lo q r
  have hw2 := width_hi hq6 hr9
  clear hr hr9 hT hq
  dsimp only
  iterate 8 (first | walk1 | (dsimp only; walk1))
  dsimp only
  (with_reducible rename News _ _ _ _ => N2); (with_reducible rename Fr _ _ _ _ => F2); (with_reducible rename AllLt _ _ => l2)
  exact hQ _ _ _ (3 + q) (3 + q + 3 + r) _ _ _ _ _ _ (by omega) (by omega) hw1 hw2 F2 N2 (lt_all l2) (by assumption) (by walk_at "mine_var") (by walk_at "mine_var") (by walk_at "mine_var") (by walk_at "mine_var")
end
/- G2_2k -/
section
open PySem PySem.W PySem.Calls PyProof.Rows
noncomputable def divOf (a b : Nat) : Nat := 2 ^ a * 5 ^ b
theorem divOf_dvd {T a b : Nat} (ha : a ≤ T) (hb : b ≤ T) : 0 < divOf a b ∧ divOf a b ∣ 10 ^ T := by
  refine ⟨Nat.mul_pos (Nat.pow_pos (by decide)) (Nat.pow_pos (by decide)), ?_⟩
  rw [show (10 : Nat) = 2 * 5 from rfl, Nat.mul_pow]
  exact Nat.mul_dvd_mul (Nat.pow_dvd_pow _ ha) (Nat.pow_dvd_pow _ hb)
section
variable {prog : Program} {w : World} {A : Around} {E : Value → Shared → Prop} {s : Shared} {c : Int} {a b k : Nat} {t u : Tok} {Q : Value → Shared → Prop}
theorem pow_as (hc : c = (a : Int)) (ha : a ≤ 10) (hk : k ≤ 100) (h : Q (.int ((a ^ k : Nat) : Int) s.toks) { s with toks := s.toks + 1 }) : wpAny (model prog w) A (binaryOp .Pow (.int c t) (.int (k : Int) u)) Q E s := by
  subst hc
  refine PyProof.Rows.pow_int_small (by omega) (by omega) (by omega) ?_
  rw [Int.toNat_natCast, ← Int.natCast_pow]
  exact h
theorem mul_ax {x y : Int} (e1 : x = (a : Int)) (e2 : y = (b : Int)) (hb : b < 2 ^ 60) (h : Q (.int ((a * b : Nat) : Int) s.toks) { s with toks := s.toks + 1 }) : wpAny (model prog w) A (binaryOp .Mult (.int x t) (.int y u)) Q E s := by
  subst e1 e2
  exact PyProof.Rows.mul_int (by rw [← Int.natCast_mul]; exact h) (PySem.IntMulOk.of_right (PySem.intBits_le_64 (by omega) (by omega)))
theorem mul_as (hb : b < 2 ^ 60) (h : Q (.int ((a * b : Nat) : Int) s.toks) { s with toks := s.toks + 1 }) : wpAny (model prog w) A (binaryOp .Mult (.int (a : Int) t) (.int (b : Int) u)) Q E s :=
  PyProof.Rows.mul_int (by rw [← Int.natCast_mul]; exact h) (PySem.IntMulOk.of_right (PySem.intBits_le_64 (by omega) (by omega)))
end
theorem two_pow (a : Nat) : (2 : Int) ^ ((a : Int).toNat) = ((2 ^ a : Nat) : Int) := by simp
theorem five_pow (a : Nat) : (5 : Int) ^ ((a : Int).toNat) = ((5 ^ a : Nat) : Int) := by simp
theorem pow_lt60 {b : Nat} (hb : b ≤ 8) : 5 ^ b < 2 ^ 60 := Nat.lt_of_le_of_lt (Nat.pow_le_pow_right (by decide) hb) (by decide)
theorem any_mem {ns : List Nat} {d : Nat} : (ns.map fun n : Nat => (n : Int)).any (· == (d : Int)) = ns.contains d := by
  induction ns with
  | nil => rfl
  | cons n ns ih => rw [List.map_cons, List.any_cons, ih, List.contains_cons]; congr 1; rw [Bool.eq_iff_iff, beq_iff_eq, beq_iff_eq]; omega
theorem ints_nats {vs : List Value} {ns : List Nat} (h : NatsAre vs ns) : IntsAre vs (ns.map fun n : Nat => (n : Int)) := by
  induction h with
  | nil => exact .nil
  | cons h _ ih => obtain ⟨t, rfl⟩ := h; exact .cons _ _ ih
/- the divisor taken into "some" -/
noncomputable def takeIn (ns : List Nat) (d : Nat) : List Nat := if ns.contains d then ns else ns ++ [d]
theorem news_k1 {g h : Heap} {L : Addr} {R : List (Addr × Obj)} {p q r : Addr × Obj} (N : News g L h (p :: q :: r :: R)) : News g L h (p :: R) := fun x hx => by
  rcases List.mem_cons.mp hx with rfl | hx
  · exact N _ (.head _)
  · exact N _ (.tail _ (.tail _ (.tail _ hx)))
theorem turnA_c {prog : Program} {w : World} {A : Around} {s s0 : Shared} {H₀ g : Heap} {L : Addr} {p : Program} {loose : List Str} {mg mb m : Str → Option Value} {Q : Flow → Shared → Prop} {bm : Addr} {ob : Obj} {cT cK : Addr} {sl : Addr} {sv : Array Value} {sn : Nat} {ns : List Nat} {a b : Nat} {ta tb : Tok} {R : List (Addr × Obj)}
    (hprog : prog = PySem.Challenge.pw_yh0022_02) (X : (heapK w.params).In H₀) (TR : TopRead p loose mg mb H₀) (XG : (heapK w.params).In g) (TG : TopRead p loose mg mb g) (HG : Sub H₀ g) (B : BMod H₀ mainGlobals mg bm ob) (hdp : A.depth < 455) (hun : A.units < 1450) (hh : A.handled = none) (hszL : H₀.objs.size ≤ L)
    (jA : Acc s0 s.os s.drawn s.gens) (F : Fr g L s.heap m) (N : News g L s.heap ((sl, listOf sv sn) :: R)) (hnum : NatsAre sv.toList ns) (hln : ns.length ≤ 10) (ha : a ≤ 8) (hb : b ≤ 8)
    (m1 : m "twos" = some (.int (a : Int) ta)) (m2 : m "fives" = some (.int (b : Int) tb)) (m3 : m "some" = some (.ref sl))
    (hQ : ∀ h tk m' sl' sv' sn', Fr g L h m' → News g L h ((sl', listOf sv' sn') :: R) → NatsAre sv'.toList (takeIn ns (divOf a b)) → m' "some" = some (.ref sl') → (∀ y : Str, y ≠ Str.ofString "divisor" → y ≠ Str.ofString "some" → m' y = m y) → Q .next { s with heap := h, toks := tk }) :
    wpAny (model prog w) A (execs ((forBody (b298.drop 5)).drop 2) (envX (Str.ofString "law") s298 L 298 (.ref 297) [(Str.ofString "tens", cT), (Str.ofString "kept", cK)])) Q NoE s := by
  have : PySem.Challenge.rw_yh0022_02.prog = PySem.Challenge.rw_yh0022_02.prog ∧ heapK = heapK := by k_fill; exact ⟨rfl, rfl⟩
  clear this
  dsimp only [forBody, b298, s298, pick, List.drop]
  (try dsimp only)
  k_steps
  dsimp only
  refine mul_ax (two_pow a) (five_pow b) (pow_lt60 hb) ?_
  dsimp only
  k_steps
  (with_reducible rename News _ _ _ _ => N1); (with_reducible rename Fr _ _ _ _ => F1)
  have hil := hnum.length
  have hvz : sv.size ≤ 10 := by rw [← Array.length_toList]; omega
  refine notin_list_ints (vs := sv.toList) (by rw [Array.toArray_toList]; exact News.isList N1 (.head _)) (ints_nats hnum) ?_
  rw [any_mem]
  cases hc : ns.contains (2 ^ a * 5 ^ b) with
  | true =>
    have ht : takeIn ns (divOf a b) = ns := if_pos hc
    (try dsimp only)
    k_steps
    (try dsimp only)
    exact hQ _ _ _ sl sv sn (by k_asm) (by k_asm) (by rw [ht]; exact hnum) (by walk_at "mine_var") (fun y h1 h2 => if_neg h1)
  | false =>
    have ht : takeIn ns (divOf a b) = ns ++ [2 ^ a * 5 ^ b] := if_neg (by rw [show divOf a b = 2 ^ a * 5 ^ b from rfl, hc]; simp)
    (try dsimp only)
    k_steps
    (with_reducible rename News _ _ _ _ => N2); (with_reducible rename Fr _ _ _ _ => F2)
    (try dsimp only)
    exact hQ _ _ _ _ _ _ F2 (news_k1 N2) (by rw [ht]; exact two_append hnum (.cons ⟨_, rfl⟩ .nil)) (by walk_at "mine_var") (fun y h1 h2 => (if_neg h2).trans (if_neg h1))
end
/- G3_2k -/
section
open PySem PySem.W PySem.Calls PyProof.Rows
/- the two exponents that a number tells -/
noncomputable def twosOf (T : Nat) (x : Int) : Nat := ((x.fdiv 3).fmod ((T : Int) + 1)).toNat
noncomputable def fivesOf (T : Nat) (x : Int) : Nat := if x.fmod 3 = 0 then twosOf T x else (((x.fdiv 3).fdiv ((T : Int) + 1)).fmod ((T : Int) + 1)).toNat
theorem turn_c {prog : Program} {w : World} {A : Around} {s s0 : Shared} {H₀ g : Heap} {L : Addr} {p : Program} {loose : List Str} {mg mb m : Str → Option Value} {Q : Flow → Shared → Prop} {bm : Addr} {ob : Obj} {cT cK : Addr} {sl : Addr} {sv : Array Value} {sn : Nat} {ns : List Nat} {T : Nat} {x : Int} {oT : Obj} {tx tT : Tok} {R : List (Addr × Obj)}
    (hprog : prog = PySem.Challenge.pw_yh0022_02) (X : (heapK w.params).In H₀) (TR : TopRead p loose mg mb H₀) (XG : (heapK w.params).In g) (TG : TopRead p loose mg mb g) (HG : Sub H₀ g) (B : BMod H₀ mainGlobals mg bm ob) (hdp : A.depth < 455) (hun : A.units < 1450) (hh : A.handled = none) (hszL : H₀.objs.size ≤ L)
    (jA : Acc s0 s.os s.drawn s.gens) (F : Fr g L s.heap m) (N : News g L s.heap ((sl, listOf sv sn) :: (cT, oT) :: R)) (hoT : oT.data = .cell (some (.int ((T : Nat) : Int) tT))) (hnum : NatsAre sv.toList ns) (hln : ns.length ≤ 10) (hT : T ≤ 8)
    (mx : m "x" = some (.int x tx)) (m3 : m "some" = some (.ref sl))
    (hQ : ∀ h tk m' sl' sv' sn', Fr g L h m' → News g L h ((sl', listOf sv' sn') :: (cT, oT) :: R) → NatsAre sv'.toList (takeIn ns (divOf (twosOf T x) (fivesOf T x))) → m' "some" = some (.ref sl') → (∀ y : Str, y ≠ Str.ofString "divisor" → y ≠ Str.ofString "some" → y ≠ Str.ofString "twos" → y ≠ Str.ofString "fives" → m' y = m y) → Q .next { s with heap := h, toks := tk }) :
    wpAny (model prog w) A (execs (forBody (b298.drop 5)) (envX (Str.ofString "law") s298 L 298 (.ref 297) [(Str.ofString "tens", cT), (Str.ofString "kept", cK)])) Q NoE s := by
  have : PySem.Challenge.rw_yh0022_02.prog = PySem.Challenge.rw_yh0022_02.prog ∧ heapK = heapK := by k_fill; exact ⟨rfl, rfl⟩
  clear this
  obtain ⟨a, ha, ha9⟩ := fmod_nat (x.fdiv 3) (m := (T : Int) + 1) (by omega)
  obtain ⟨b, hb, hb9⟩ := fmod_nat ((x.fdiv 3).fdiv ((T : Int) + 1)) (m := (T : Int) + 1) (by omega)
  have ha8 : a ≤ 8 := by omega
  have hb8 : b ≤ 8 := by omega
  have hT1 : ((T : Int) + 1) ≠ 0 := by omega
  have ea : twosOf T x = a := by unfold twosOf; rw [ha]; rfl
  have eb : fivesOf T x = if x.fmod 3 = 0 then a else b := by unfold fivesOf; rw [hb, ea]; rfl
  clear ha9 hb9
  dsimp only [forBody, b298, s298, pick, List.drop]
  (try dsimp only)
  iterate 12 (first | walk1 | (dsimp only; walk1))
  dsimp only
  rw [ha]
  iterate 14 (first | walk1 | (dsimp only; walk1))
  · (with_reducible rename Int.fmod _ _ = 0 => e9)
    rw [if_pos e9] at eb
    iterate 2 (first | walk1 | (dsimp only; walk1))
    dsimp only
    (with_reducible rename News _ _ _ _ => N1); (with_reducible rename Fr _ _ _ _ => F1)
    refine turnA_c (a := a) (b := a) (sl := sl) (ns := ns) hprog X TR XG TG HG B hdp hun hh hszL jA F1 N1 hnum hln ha8 ha8 (by walk_at "mine_var") (by walk_at "mine_var") (by walk_at "mine_var") ?_
    intro h tk m' sl' sv' sn' F2 N2 hn2 w1 w2
    rw [ea, eb] at hQ
    exact hQ h tk m' sl' sv' sn' F2 N2 hn2 w1 fun y h1 h2 h3 h4 => (w2 y h1 h2).trans ((if_neg h4).trans (if_neg h3))
  · (with_reducible rename Int.fmod _ _ ≠ 0 => e9)
    rw [if_neg e9] at eb
    iterate 16 (first | walk1 | (dsimp only; walk1))
    dsimp only
    rw [hb]
    iterate 1 (first | walk1 | (dsimp only; walk1))
    dsimp only
    (with_reducible rename News _ _ _ _ => N1); (with_reducible rename Fr _ _ _ _ => F1)
    refine turnA_c (a := a) (b := b) (sl := sl) (ns := ns) hprog X TR XG TG HG B hdp hun hh hszL jA F1 N1 hnum hln ha8 hb8 (by walk_at "mine_var") (by walk_at "mine_var") (by walk_at "mine_var") ?_
    intro h tk m' sl' sv' sn' F2 N2 hn2 w1 w2
    rw [ea, eb] at hQ
    exact hQ h tk m' sl' sv' sn' F2 N2 hn2 w1 fun y h1 h2 h3 h4 => (w2 y h1 h2).trans ((if_neg h4).trans (if_neg h3))
end
/- G4_2k -/
section
open PySem PySem.W PySem.Calls PyProof.Rows
theorem nums_append {a b : List Value} {x y : List Int} (h : NumsAre a x) (k : NumsAre b y) : NumsAre (a ++ b) (x ++ y) := by
  induction h with
  | nil => exact k
  | cons h _ ih => exact .cons h ih
theorem nums_take {a : List Value} {x : List Int} (h : NumsAre a x) (n : Nat) : NumsAre (a.take n) (x.take n) := by
  induction h generalizing n with
  | nil => cases n <;> exact .nil
  | cons h _ ih => cases n with
    | zero => exact .nil
    | succ n => exact .cons h (ih n)
theorem nums_drop {a : List Value} {x : List Int} (h : NumsAre a x) (n : Nat) : NumsAre (a.drop n) (x.drop n) := by
  induction h generalizing n with
  | nil => cases n <;> exact .nil
  | cons h k ih => cases n with
    | zero => exact .cons h k
    | succ n => exact ih n
theorem news_off3 {g h : Heap} {L : Addr} {a b c d : Addr × Obj} {l : List (Addr × Obj)} (N : News g L h (a :: b :: c :: d :: l)) : News g L h (a :: l) := fun p hp => N p (by
  rcases List.mem_cons.mp hp with rfl | hp
  · exact List.mem_cons_self
  · exact List.mem_cons_of_mem _ (List.mem_cons_of_mem _ (List.mem_cons_of_mem _ (List.mem_cons_of_mem _ hp))))
theorem lawA0_c {prog : Program} {w : World} {A : Around} {s s0 : Shared} {H₀ g : Heap} {L : Addr} {p : Program} {loose : List Str} {mg mb m : Str → Option Value} {Q : Flow → Shared → Prop} {bm : Addr} {ob : Obj} {cT cK : Addr} {sc : Addr} {vs : List Value} {xs : List Int} {oT oK : Obj} {R : List (Addr × Obj)}
    (hprog : prog = PySem.Challenge.pw_yh0022_02) (X : (heapK w.params).In H₀) (TR : TopRead p loose mg mb H₀) (XG : (heapK w.params).In g) (TG : TopRead p loose mg mb g) (HG : Sub H₀ g) (B : BMod H₀ mainGlobals mg bm ob) (hdp : A.depth < 455) (hun : A.units < 1450) (hh : A.handled = none) (hszL : H₀.objs.size ≤ L)
    (jA : Acc s0 s.os s.drawn s.gens) (F : Fr g L s.heap m) (N : News g L s.heap ((cT, oT) :: (cK, oK) :: R)) (hoT : oT.data = .cell none) (hoK : oK.data = .cell none)
    (hsc : g.IsList sc vs.toArray) (hI : IntsAre vs xs) (hlx : xs.length ≤ 63) (m1 : m "script" = some (.ref sc)) (z2 : ∀ p ∈ R, @Ne Nat p.1 cT) (z3 : @Ne Nat cK cT)
    (hQ : ∀ h tk m' T wd nl items n1 sl sn oT' t1 t2 t3, NumsAre items.toList (lawNums xs) → 3 ≤ T → T ≤ 8 → T + 3 ≤ wd → wd ≤ 3 * T + 11 → Fr g L h m' → News g L h ((sl, listOf #[] sn) :: (nl, listOf items n1) :: (cT, oT') :: (cK, oK) :: R) → (∀ p ∈ (nl, listOf items n1) :: (cT, oT') :: (cK, oK) :: R, @LT.lt Nat _ p.1 sl) → oT'.data = .cell (some (.int ((T : Nat) : Int) t1)) →
      m' "numbers" = some (.ref nl) → m' "size" = some (.int (((T : Nat) : Int) + 3) t2) → m' "width" = some (.int ((wd : Nat) : Int) t3) → m' "some" = some (.ref sl) → wpAny (model prog w) A (execs (b298.drop 5) (envX (Str.ofString "law") s298 L 298 (.ref 297) [(Str.ofString "tens", cT), (Str.ofString "kept", cK)])) Q NoE { s with heap := h, toks := tk }) :
    wpAny (model prog w) A (execs b298 (envX (Str.ofString "law") s298 L 298 (.ref 297) [(Str.ofString "tens", cT), (Str.ofString "kept", cK)])) Q NoE s := by
  refine Eq.subst (motive := fun l => wpAny (model prog w) A (execs l (envX (Str.ofString "law") s298 L 298 (.ref 297) [(Str.ofString "tens", cT), (Str.ofString "kept", cK)])) Q NoE s) (List.take_append_drop 1 b298) ?_
  have : PySem.Challenge.rw_yh0022_02.prog = PySem.Challenge.rw_yh0022_02.prog ∧ heapK = heapK := by k_fill; exact ⟨rfl, rfl⟩
  clear this
  generalize hl : b298.drop 1 = tl
  dsimp only [b298, s298, pick, List.take, List.cons_append, List.nil_append]
  (try dsimp only)
  have hvl : vs.length = xs.length := hI.length
  have hk7 : (8 : Int) = ((8 : Nat) : Int) := rfl
  have hsz9 : vs.toArray.size ≤ sizeLine := by rw [sizeLine_eq, List.size_toArray]; omega
  iterate 46 (first | walk1 | (dsimp only; walk1))
  dsimp only
  (with_reducible rename News _ _ _ _ => N1); (with_reducible rename Fr _ _ _ _ => F1); (with_reducible rename AllLt _ _ => l2)
  subst hl
  refine lawA1_c (xs := xs) hprog X TR XG TG HG B hdp hun hh hszL jA F1 (oT := oT) (oK := oK) (R := R) (news_off3 N1) hoT hoK ?_ (by walk_at "mine_var") ?_ z2 z3 ?_
  · exact nums_append (nums_take (nums_of hI) 8) (nums_drop (.cons ⟨_, rfl⟩ (.cons ⟨_, rfl⟩ (.cons ⟨_, rfl⟩ (.cons ⟨_, rfl⟩ (.cons ⟨_, rfl⟩ (.cons ⟨_, rfl⟩ (.cons ⟨_, rfl⟩ (.cons ⟨_, rfl⟩ .nil)))))))) _)
  · exact Nat.ne_of_gt (lt_all l2 (cT, oT) (by k_mem))
  · intro h tk m' T wd sl sn oT' t1 t2 t3 q1 q2 q3 q4 F2 N2 q5 q6 q7 q8 q9 q10
    exact hQ h tk m' T wd _ _ _ sl sn oT' t1 t2 t3 (nums_append (nums_take (nums_of hI) 8) (nums_drop (.cons ⟨_, rfl⟩ (.cons ⟨_, rfl⟩ (.cons ⟨_, rfl⟩ (.cons ⟨_, rfl⟩ (.cons ⟨_, rfl⟩ (.cons ⟨_, rfl⟩ (.cons ⟨_, rfl⟩ (.cons ⟨_, rfl⟩ .nil)))))))) _)) q1 q2 q3 q4 F2 N2 q5 q6 q7 q8 q9 q10
end
/- G5_2k -/
section
open PySem PySem.W PySem.Calls PyProof.Rows
theorem twosOf_le (T : Nat) (x : Int) : twosOf T x ≤ T := by
  obtain ⟨a, ha, h9⟩ := fmod_nat (x.fdiv 3) (m := (T : Int) + 1) (by omega)
  unfold twosOf; rw [ha, Int.toNat_natCast]; omega
theorem fivesOf_le (T : Nat) (x : Int) : fivesOf T x ≤ T := by
  unfold fivesOf
  split
  · exact twosOf_le T x
  · obtain ⟨a, ha, h9⟩ := fmod_nat ((x.fdiv 3).fdiv ((T : Int) + 1)) (m := (T : Int) + 1) (by omega)
    rw [ha, Int.toNat_natCast]; omega
theorem takeIn_nodup {ns : List Nat} {d : Nat} (h : ns.Nodup) : (takeIn ns d).Nodup := by
  unfold takeIn
  cases hc : ns.contains d with
  | true => exact h
  | false =>
    have hm : d ∉ ns := fun q => by rw [List.contains_iff_mem.mpr q] at hc; cases hc
    rw [if_neg (by simp)]
    refine List.nodup_append.mpr ⟨h, by simp, fun a ha b hb => ?_⟩
    rw [List.mem_singleton.mp hb]; exact fun e => hm (e ▸ ha)
theorem takeIn_mem {ns : List Nat} {d n : Nat} (h : n ∈ takeIn ns d) : n ∈ ns ∨ n = d := by
  unfold takeIn at h
  split at h
  · exact .inl h
  · rcases List.mem_append.mp h with h | h
    · exact .inl h
    · exact .inr (List.mem_singleton.mp h)
theorem takeIn_len {ns : List Nat} {d : Nat} : (takeIn ns d).length ≤ ns.length + 1 ∧ 0 < (takeIn ns d).length := by
  unfold takeIn
  split
  · rename_i h
    exact ⟨Nat.le_succ _, List.length_pos_of_mem (List.contains_iff_mem.mp h)⟩
  · simp
/- "some" behind i turns -/
structure SomeJ (T : Nat) (i : Nat) (ns : List Nat) : Prop where
  nd : ns.Nodup
  dvd : ∀ n ∈ ns, 0 < n ∧ n ∣ 10 ^ T
  len : ns.length ≤ i
  some : 0 < i → 0 < ns.length
theorem SomeJ.next {T i : Nat} {ns : List Nat} (x : Int) (h : SomeJ T i ns) : SomeJ T (i + 1) (takeIn ns (divOf (twosOf T x) (fivesOf T x))) := by
  refine ⟨takeIn_nodup h.nd, fun n hn => ?_, Nat.le_trans takeIn_len.1 (Nat.succ_le_succ h.len), fun _ => takeIn_len.2⟩
  rcases takeIn_mem hn with hn | rfl
  · exact h.dvd n hn
  · exact divOf_dvd (twosOf_le T x) (fivesOf_le T x)
theorem news_in3 {g h : Heap} {L : Addr} {a b c : Addr × Obj} {l : List (Addr × Obj)} (N : News g L h (a :: b :: c :: l)) : News g L h (b :: c :: a :: l) := fun p hp => N p (by
  rcases List.mem_cons.mp hp with rfl | hp
  · exact .tail _ (.head _)
  rcases List.mem_cons.mp hp with rfl | hp
  · exact .tail _ (.tail _ (.head _))
  rcases List.mem_cons.mp hp with rfl | hp
  · exact .head _
  · exact .tail _ (.tail _ (.tail _ hp)))
theorem news_arr {g h : Heap} {L : Addr} {i d a n c k : Addr × Obj} {l : List (Addr × Obj)} (N : News g L h (i :: d :: a :: n :: c :: k :: l)) : News g L h (i :: a :: c :: d :: k :: l) := fun p hp => N p (by
  rcases List.mem_cons.mp hp with rfl | hp
  · exact .head _
  rcases List.mem_cons.mp hp with rfl | hp
  · exact .tail _ (.tail _ (.head _))
  rcases List.mem_cons.mp hp with rfl | hp
  · exact .tail _ (.tail _ (.tail _ (.tail _ (.head _))))
  rcases List.mem_cons.mp hp with rfl | hp
  · exact .tail _ (.head _)
  rcases List.mem_cons.mp hp with rfl | hp
  · exact .tail _ (.tail _ (.tail _ (.tail _ (.tail _ (.head _)))))
  · exact .tail _ (.tail _ (.tail _ (.tail _ (.tail _ (.tail _ hp))))))
theorem news_out3 {g h : Heap} {L : Addr} {a b c : Addr × Obj} {l : List (Addr × Obj)} (N : News g L h (b :: c :: a :: l)) : News g L h (a :: b :: c :: l) := news_in3 (news_in3 N)
theorem news_off2 {g h : Heap} {L : Addr} {a b c : Addr × Obj} {l : List (Addr × Obj)} (N : News g L h (a :: b :: c :: l)) : News g L h (a :: b :: l) := fun p hp => N p (by
  rcases List.mem_cons.mp hp with rfl | hp
  · exact .head _
  rcases List.mem_cons.mp hp with rfl | hp
  · exact .tail _ (.head _)
  · exact .tail _ (.tail _ (.tail _ hp)))
theorem listOf_cls {v : Array Value} {n : Nat} : (listOf v n).cls ≠ .type "list_iterator" := fun e => by
  replace e : Value.type "list" = Value.type "list_iterator" := e
  injection e with e
  revert e; decide
theorem news_offI {g h : Heap} {L I : Addr} {oI : Obj} {p : Addr × Obj} {l : List (Addr × Obj)} (N : News g L h ((I, oI) :: p :: l)) (hI : oI.cls = .type "list_iterator") (hp : p.2.cls ≠ .type "list_iterator") (hl : ∀ q ∈ l, @Ne Nat q.1 I) : ∀ q ∈ p :: l, @Ne Nat q.1 I := fun q hq => by
  rcases List.mem_cons.mp hq with rfl | hq
  · exact upd_ne (N _ (.tail _ (.head _))).1 (N _ (.head _)).1 (by rw [hI]; exact hp)
  · exact hl q hq
/- the loop's invariant -/
structure SomeL (s0 : Shared) (T wd : Nat) (t2 t3 : Tok) (rest : List (Addr × Obj)) (i : Nat) (m : Str → Option Value) (news : List (Addr × Obj)) (s : Shared) : Prop where
  ok : ∃ sl sv sn ns, news = (sl, listOf sv sn) :: rest ∧ NatsAre sv.toList ns ∧ SomeJ T i ns ∧ m "some" = some (.ref sl)
  size : m "size" = some (.int (((T : Nat) : Int) + 3) t2)
  width : m "width" = some (.int ((wd : Nat) : Int) t3)
  acc : Acc s0 s.os s.drawn s.gens
theorem lawA2_c {prog : Program} {w : World} {A : Around} {s s0 : Shared} {H₀ g : Heap} {L : Addr} {p : Program} {loose : List Str} {mg mb m : Str → Option Value} {Q : Flow → Shared → Prop} {bm : Addr} {ob : Obj} {cT cK : Addr} {sl nl : Addr} {items : Array Value} {sn n1 T wd : Nat} {xs : List Int} {oT oK : Obj} {t1 t2 t3 : Tok} {R : List (Addr × Obj)}
    (hprog : prog = PySem.Challenge.pw_yh0022_02) (X : (heapK w.params).In H₀) (TR : TopRead p loose mg mb H₀) (XG : (heapK w.params).In g) (TG : TopRead p loose mg mb g) (HG : Sub H₀ g) (B : BMod H₀ mainGlobals mg bm ob) (hdp : A.depth < 455) (hun : A.units < 1450) (hh : A.handled = none) (hszL : H₀.objs.size ≤ L)
    (jA : Acc s0 s.os s.drawn s.gens) (F : Fr g L s.heap m) (N : News g L s.heap ((sl, listOf #[] sn) :: (nl, listOf items n1) :: (cT, oT) :: (cK, oK) :: R)) (hoT : oT.data = .cell (some (.int ((T : Nat) : Int) t1))) (hT : T ≤ 8)
    (hnum : NumsAre items.toList (lawNums xs)) (m1 : m "numbers" = some (.ref nl)) (m2 : m "size" = some (.int (((T : Nat) : Int) + 3) t2)) (m3 : m "width" = some (.int ((wd : Nat) : Int) t3)) (m4 : m "some" = some (.ref sl))
    (hQ : ∀ s' m' sl' sv' sn' ns, SomeJ T 7 ns → NatsAre sv'.toList ns → Acc s0 s'.os s'.drawn s'.gens → Fr g L s'.heap m' → News g L s'.heap ((sl', listOf sv' sn') :: (cT, oT) :: (cK, oK) :: R) →
      m' "size" = some (.int (((T : Nat) : Int) + 3) t2) → m' "width" = some (.int ((wd : Nat) : Int) t3) → m' "some" = some (.ref sl') → wpAny (model prog w) A (execs (b298.drop 6) (envX (Str.ofString "law") s298 L 298 (.ref 297) [(Str.ofString "tens", cT), (Str.ofString "kept", cK)])) Q NoE s') :
    wpAny (model prog w) A (execs (b298.drop 5) (envX (Str.ofString "law") s298 L 298 (.ref 297) [(Str.ofString "tens", cT), (Str.ofString "kept", cK)])) Q NoE s := by
  refine Eq.subst (motive := fun l => wpAny (model prog w) A (execs l (envX (Str.ofString "law") s298 L 298 (.ref 297) [(Str.ofString "tens", cT), (Str.ofString "kept", cK)])) Q NoE s) (List.take_append_drop 1 (b298.drop 5)) ?_
  have : PySem.Challenge.rw_yh0022_02.prog = PySem.Challenge.rw_yh0022_02.prog ∧ heapK = heapK := by k_fill; exact ⟨rfl, rfl⟩
  clear this
  rw [List.drop_drop]
  generalize hl : b298.drop (5 + 1) = tl
  have hk1 : (1 : Int) = ((1 : Nat) : Int) := rfl
  have hil : items.toList.length = 8 := by rw [hnum.length, lawNums_length]
  have hsz9 : items.size ≤ sizeLine := by rw [sizeLine_eq, ← Array.length_toList]; omega
  dsimp only [b298, s298, pick, List.take, List.drop, List.cons_append, List.nil_append]
  (try dsimp only)
  k_steps
  dsimp only
  (with_reducible rename News _ _ _ _ => N4); (with_reducible rename Fr _ _ _ _ => F4)
  rename_i D h9 l9 lt9
  refine iter_list_own F4 N4 (News.isList N4 (by k_mem)) ?_
  intro I h5 oI0 hI0 F5 N5 hoff5 k5
  clear F4 N4
  generalize hits : (List.drop 1 items.toList).toArray = its at N5 hoff5
  have hnum2 : NumsAre its.toList ((lawNums xs).drop 1) := by rw [← hits]; exact nums_drop hnum 1
  have hD : its.size = 7 := by rw [← hits, List.size_toArray, List.length_drop, hil]
  have N6 := news_arr N5
  have hoff6 : ∀ q ∈ (cT, oT) :: (D, listOf its 0) :: (cK, oK) :: R, @Ne Nat q.1 I := fun q hq => hoff5 q (by
    rcases List.mem_cons.mp hq with rfl | hq
    · exact .tail _ (.tail _ (.tail _ (.head _)))
    rcases List.mem_cons.mp hq with rfl | hq
    · exact .head _
    · exact .tail _ (.tail _ (.tail _ (.tail _ hq))))
  have N7 := N6
  clear N5 N6 hits
  refine for_list_invN (items := its) hh (SomeL s0 T wd t2 t3 ((cT, oT) :: (D, listOf its 0) :: (cK, oK) :: R))
    (fun i m' news' s' h' q => ⟨q.ok, q.size, q.width, q.acc⟩) (fun i m' news' s' h' q N => ?_) (fun i v m' news' s' tk' I3 oI3 hv q hI3 F3 N3 hoff3 => ?_) (fun m' news' s' q F3 N3 => ?_) (Nat.zero_le _) hI0
    ⟨⟨sl, #[], sn, [], rfl, .nil, ⟨List.nodup_nil, (fun n hn => nomatch hn), Nat.le_refl _, fun h => nomatch h⟩, m4⟩, m2, m3, jA⟩ F5 N7 (news_offI N7 hI0.1 listOf_cls hoff6)
  · obtain ⟨sl1, sv1, sn1, ns1, rfl, _⟩ := q.ok
    exact News.isList N (.tail _ (.tail _ (.head _)))
  · obtain ⟨sl1, sv1, sn1, ns1, rfl, q1, q2, q3⟩ := q.ok
    have hi3 : i < its.size := (Array.getElem?_eq_some_iff.mp hv).1
    obtain ⟨v0, x, hv0, hx, tx, rfl⟩ := two_has hnum2 (i := i) (by rw [← hnum2.length, Array.length_toList]; exact hi3)
    obtain rfl := Option.some.inj (hv0.symm.trans (by simpa using hv))
    refine wpAny_assign_Name ?_
    walk1
    dsimp only
    (with_reducible rename Fr _ _ _ _ => F4); (with_reducible rename News _ _ _ _ => N4)
    refine turn_c (x := x) (T := T) (ns := ns1) hprog X TR XG TG HG B hdp hun hh hszL q.acc F4 (news_in3 N4) hoT q1 (by have := q2.len; omega) hT (by walk_at "mine_var") (by walk_at "mine_var") ?_
    intro h tk m5 sl5 sv5 sn5 F5' N5' q5 w1 w2
    refine ⟨m5, _, ⟨⟨sl5, sv5, sn5, _, rfl, q5, q2.next x, w1⟩, ?_, ?_, q.acc⟩, F5', news_out3 N5', news_offI (news_out3 N5') hI3.1 listOf_cls (fun p hp => hoff3 p (.tail _ hp))⟩
    · rw [w2 _ (by decide) (by decide) (by decide) (by decide)]; exact q.size
    · rw [w2 _ (by decide) (by decide) (by decide) (by decide)]; exact q.width
  · obtain ⟨sl1, sv1, sn1, ns1, rfl, q1, q2, q3⟩ := q.ok
    refine wpAny_execs_nil ?_
    dsimp only
    subst hl
    exact hQ _ m' sl1 sv1 sn1 ns1 (by rw [hD] at q2; exact q2) q1 q.acc F3 (news_off2 N3) q.size q.width q3
end
/- G6_2k -/
section
open PySem PySem.W PySem.Calls PyProof.Rows
theorem dvd_small {n T : Nat} (h : n ∣ 10 ^ T) (hT : T ≤ 8) : n < 1073741824 :=
  Nat.lt_of_le_of_lt (Nat.le_trans (Nat.le_of_dvd (Nat.pow_pos (by decide)) h) (Nat.pow_le_pow_right (by decide) hT)) (by decide)
theorem nats_div {T : Nat} {a b : List Value} {ns : List Nat} (h : NatsAre a ns) (k : Paired (fun v y => ∃ n t t' : Nat, v = .int ((n : Nat) : Int) t ∧ y = .int ((10 ^ T / n : Nat) : Int) t') a b) : NatsAre b (ns.map fun n => 10 ^ T / n) := by
  induction h generalizing b with
  | nil => cases k; exact .nil
  | cons h _ ih =>
    cases k with
    | cons k kk =>
      obtain ⟨t, rfl⟩ := h
      obtain ⟨n, t1, t2, e, rfl⟩ := k
      injection e with e _
      obtain rfl := Int.ofNat.inj e
      exact .cons ⟨_, rfl⟩ (ih kk)
theorem lawB_c {prog : Program} {w : World} {A : Around} {s s0 : Shared} {H₀ g : Heap} {L : Addr} {p : Program} {loose : List Str} {mg mb m : Str → Option Value} {Q : Flow → Shared → Prop} {bm : Addr} {ob : Obj} {cT cK : Addr} {sl : Addr} {sv : Array Value} {sn T : Nat} {ns : List Nat} {oT : Obj} {t1 : Tok} {R : List (Addr × Obj)}
    (hprog : prog = PySem.Challenge.pw_yh0022_02) (X : (heapK w.params).In H₀) (TR : TopRead p loose mg mb H₀) (XG : (heapK w.params).In g) (TG : TopRead p loose mg mb g) (HG : Sub H₀ g) (B : BMod H₀ mainGlobals mg bm ob) (hdp : A.depth < 455) (hun : A.units < 1450) (hh : A.handled = none) (hszL : H₀.objs.size ≤ L)
    (jA : Acc s0 s.os s.drawn s.gens) (F : Fr g L s.heap m) (N : News g L s.heap ((sl, listOf sv sn) :: (cT, oT) :: R)) (hoT : oT.data = .cell (some (.int ((T : Nat) : Int) t1))) (hT : T ≤ 8)
    (hnum : NatsAre sv.toList ns) (hpos : ∀ n ∈ ns, 0 < n ∧ n ∣ 10 ^ T) (hln : ns.length ≤ 7) (m4 : m "some" = some (.ref sl))
    (hQ : ∀ h tk m' ol ov on, NatsAre ov.toList (ns.map fun n => 10 ^ T / n) → Fr g L h m' → News g L h ((ol, listOf ov on) :: (sl, listOf sv sn) :: (cT, oT) :: R) → LCg.Off1 ol ((sl, listOf sv sn) :: (cT, oT) :: R) →
      m' "other" = some (.ref ol) → (∀ y : Str, y ≠ Str.ofString "other" → m' y = m y) → wpAny (model prog w) A (execs (b298.drop 7) (envX (Str.ofString "law") s298 L 298 (.ref 297) [(Str.ofString "tens", cT), (Str.ofString "kept", cK)])) Q NoE { s with heap := h, toks := tk }) :
    wpAny (model prog w) A (execs (b298.drop 6) (envX (Str.ofString "law") s298 L 298 (.ref 297) [(Str.ofString "tens", cT), (Str.ofString "kept", cK)])) Q NoE s := by
  refine Eq.subst (motive := fun l => wpAny (model prog w) A (execs l (envX (Str.ofString "law") s298 L 298 (.ref 297) [(Str.ofString "tens", cT), (Str.ofString "kept", cK)])) Q NoE s) (List.take_append_drop 1 (b298.drop 6)) ?_
  have : PySem.Challenge.rw_yh0022_02.prog = PySem.Challenge.rw_yh0022_02.prog ∧ heapK = heapK := by k_fill; exact ⟨rfl, rfl⟩
  clear this
  rw [List.drop_drop]
  generalize hl : b298.drop (6 + 1) = tl
  dsimp only [b298, s298, pick, List.take, List.drop, List.cons_append, List.nil_append]
  (try dsimp only)
  k_steps
  have hsz : sv.size = ns.length := by rw [← Array.length_toList, hnum.length]
  refine LCg.CompSrc.ledger hh F N (.head _) (by rw [sizeLine_eq]; omega) (fun g9 => comp_each (G := fun v y => ∃ n t t' : Nat, v = .int ((n : Nat) : Int) t ∧ y = .int ((10 ^ T / n : Nat) : Int) t') (.inr ⟨_, .head _, rfl, _, rfl⟩) (fun i v C oC m₂ Y t E' hv hC hx F6 N6 hm hsub o1 o2 o3 => ?_) (fun ys hy => ?_))
  · obtain ⟨n, hn, t0, rfl⟩ := two_mem2 hnum (x := v) (List.mem_of_getElem? (by simpa using hv))
    have hn0 := hpos n hn
    have hn9 := dvd_small hn0.2 hT
    iterate 3 (first | walk1 | (dsimp only; walk1))
    refine nameC_C (o := oT) N6 rfl (hsub _ (.tail _ (.head _))) hoT ?_ rfl rfl rfl
    refine pow_as (a := 10) (k := T) rfl (by decide) (by omega) ?_
    dsimp only
    iterate 1 (first | walk1 | (dsimp only; walk1))
    refine div_nats hn0.1 hn9 ?_
    exact ⟨⟨_, _, _, rfl, rfl⟩, ⟨_, _, rfl, fun _ _ e => e⟩⟩
  · intro D h7 tk7 F7 N7 off7
    dsimp only
    subst hl
    exact hQ h7 tk7 _ D _ _ (nats_div hnum hy) F7 N7 off7 (by walk_at "mine_var") (fun y hy => if_neg hy)
end
/- G7_2k -/
section
open PySem PySem.W PySem.Calls PyProof.Rows
theorem lawC1_c {prog : Program} {w : World} {A : Around} {s s0 : Shared} {H₀ g : Heap} {L : Addr} {p : Program} {loose : List Str} {mg mb m : Str → Option Value} {Q : Flow → Shared → Prop} {bm : Addr} {ob : Obj} {cT cK : Addr} {ml : Addr} {mv : Array Value} {mn T : Nat} {ms : List Nat} {oT : Obj} {t1 : Tok} {R : List (Addr × Obj)}
    (hprog : prog = PySem.Challenge.pw_yh0022_02) (X : (heapK w.params).In H₀) (TR : TopRead p loose mg mb H₀) (XG : (heapK w.params).In g) (TG : TopRead p loose mg mb g) (HG : Sub H₀ g) (B : BMod H₀ mainGlobals mg bm ob) (hdp : A.depth < 455) (hun : A.units < 1450) (hh : A.handled = none) (hszL : H₀.objs.size ≤ L)
    (jA : Acc s0 s.os s.drawn s.gens) (F : Fr g L s.heap m) (N : News g L s.heap ((ml, listOf mv mn) :: (cT, oT) :: R)) (hoT : oT.data = .cell (some (.int ((T : Nat) : Int) t1))) (hT : T ≤ 8)
    (hnum : NatsAre mv.toList ms) (hpos : ∀ n ∈ ms, 0 < n ∧ n ∣ 10 ^ T) (hl0 : 0 < ms.length) (hln : ms.length ≤ 7) (m4 : m "mirror" = some (.ref ml))
    (hQ : ∀ h tk m' mm t2, mm ∈ ms → (∀ a ∈ ms, mm ≤ a) → Fr g L h m' → News g L h ((ml, listOf mv mn) :: (cT, oT) :: R) → m' "due" = some (.int ((((T : Nat) : Int) + 1 - ((figs mm : Nat) : Int)) + (if isPure mm = true then 1 else 0)) t2) → (∀ y : Str, y ≠ Str.ofString "due" → y ≠ Str.ofString "least" → m' y = m y) →
      wpAny (model prog w) A (execs ((forBody (b298.drop 7)).drop 2) (envX (Str.ofString "law") s298 L 298 (.ref 297) [(Str.ofString "tens", cT), (Str.ofString "kept", cK)])) Q NoE { s with heap := h, toks := tk }) :
    wpAny (model prog w) A (execs (forBody (b298.drop 7)) (envX (Str.ofString "law") s298 L 298 (.ref 297) [(Str.ofString "tens", cT), (Str.ofString "kept", cK)])) Q NoE s := by
  refine Eq.subst (motive := fun l => wpAny (model prog w) A (execs l (envX (Str.ofString "law") s298 L 298 (.ref 297) [(Str.ofString "tens", cT), (Str.ofString "kept", cK)])) Q NoE s) (List.take_append_drop 2 (forBody (b298.drop 7))) ?_
  have : PySem.Challenge.rw_yh0022_02.prog = PySem.Challenge.rw_yh0022_02.prog ∧ heapK = heapK := by k_fill; exact ⟨rfl, rfl⟩
  clear this
  generalize hl : (forBody (b298.drop 7)).drop 2 = tl
  dsimp only [forBody, b298, s298, pick, List.take, List.drop, List.cons_append, List.nil_append]
  (try dsimp only)
  iterate 8 (first | walk1 | (dsimp only; walk1))
  refine min_list_N (vs := mv.toList) (ns := ms.map fun n : Nat => (n : Int)) hh F N (News.isList N (.head _)) (ints_nats hnum) (by rw [List.length_map]; exact hl0) ?_
  intro h1 M tM tk1 F1 N1 hM hmin0
  obtain ⟨mm, hmm, rfl⟩ := List.mem_map.mp hM
  have hmin : ∀ a ∈ ms, mm ≤ a := fun a ha => Int.ofNat_le.mp (hmin0 _ (List.mem_map.mpr ⟨a, ha, rfl⟩))
  clear F N hM hmin0
  have hmm9 := dvd_small (hpos mm hmm).2 hT
  have hf9 : figs mm ≤ 100 := Nat.le_trans (figs_le_of_lt (k := 10) (by omega)) (by decide)
  k_steps
  (with_reducible rename News _ _ _ _ => N3); (with_reducible rename Fr _ _ _ _ => F3)
  refine figures_c (sub_fr F3 HG) X TR (by (repeat (with_reducible refine dep_lt ?_)); first | exact Nat.lt_of_lt_of_le hdp (Nat.le_of_ble_eq_true rfl) | omega | (simp only [depth_deeper, depth_in1, units_deeper, units_in1]; omega)) hh ?_
  intro s4 t4 Kp4 Ks4
  obtain ⟨F4, N4⟩ := step0 Kp4 F3 N3
  obtain ⟨h4, tk4, rfl, kk4⟩ := Ks4
  have jA4 : Acc s0 s.os s.drawn s.gens := jA
  clear F3 N3
  k_steps
  (with_reducible rename News _ _ _ _ => N5); (with_reducible rename Fr _ _ _ _ => F5)
  refine pure_c (sub_fr F5 HG) X TR (by (repeat (with_reducible refine dep_lt ?_)); first | exact Nat.lt_of_lt_of_le hdp (Nat.le_of_ble_eq_true rfl) | omega | (simp only [depth_deeper, depth_in1, units_deeper, units_in1]; omega)) hh (hpos mm hmm).1 hf9 ?_
  intro s6 Kp6 Ks6
  obtain ⟨F6, N6⟩ := step0 Kp6 F5 N5
  obtain ⟨h6, tk6, rfl, kk6⟩ := Ks6
  clear F5 N5
  cases hp : isPure mm with
  | true =>
    k_steps
    (with_reducible rename News _ _ _ _ => N7); (with_reducible rename Fr _ _ _ _ => F7)
    (try dsimp only)
    subst hl
    exact hQ _ _ _ mm _ hmm hmin F7 N7 (by rw [if_pos hp]; walk_at "mine_var") (fun y h1 h2 => (if_neg h1).trans (if_neg h2))
  | false =>
    k_steps
    (with_reducible rename News _ _ _ _ => N7); (with_reducible rename Fr _ _ _ _ => F7)
    (try dsimp only)
    subst hl
    exact hQ _ _ _ mm _ hmm hmin F7 N7 (by rw [if_neg (show ¬ (isPure mm = true) by rw [hp]; decide)]; walk_at "mine_var") (fun y h1 h2 => (if_neg h1).trans (if_neg h2))
end
/- G8_2k -/
section
open PySem PySem.W PySem.Calls PyProof.Rows
theorem lawC2_c {prog : Program} {w : World} {A : Around} {s s0 : Shared} {H₀ g : Heap} {L : Addr} {p : Program} {loose : List Str} {mg mb m : Str → Option Value} {Q : Flow → Shared → Prop} {bm : Addr} {ob : Obj} {cT cK : Addr} {ll : Addr} {lv : Array Value} {ln T : Nat} {ls : List Nat} {oT oK : Obj} {t1 t2 : Tok} {due : Int} {R : List (Addr × Obj)}
    (hprog : prog = PySem.Challenge.pw_yh0022_02) (X : (heapK w.params).In H₀) (TR : TopRead p loose mg mb H₀) (XG : (heapK w.params).In g) (TG : TopRead p loose mg mb g) (HG : Sub H₀ g) (B : BMod H₀ mainGlobals mg bm ob) (hdp : A.depth < 455) (hun : A.units < 1450) (hh : A.handled = none) (hszL : H₀.objs.size ≤ L)
    (jA : Acc s0 s.os s.drawn s.gens) (F : Fr g L s.heap m) (N : News g L s.heap ((ll, listOf lv ln) :: (cT, oT) :: (cK, oK) :: R)) (hoT : oT.data = .cell (some (.int ((T : Nat) : Int) t1))) (hT : T ≤ 8) (o9 : Option Value) (hoK : oK.data = .cell o9) (z3 : @Ne Nat cK cT) (z4 : @Ne Nat ll cK) (z5 : ∀ p ∈ R, @Ne Nat p.1 cK)
    (hnum : NatsAre lv.toList ls) (hpos : ∀ n ∈ ls, 0 < n ∧ n ∣ 10 ^ T) (hl0 : 0 < ls.length) (hln : ls.length ≤ 7) (m4 : m "lines" = some (.ref ll)) (m5 : m "due" = some (.int due t2))
    (hQ : ∀ h tk m' D kvs (kv : Array Value) vK oK', kvs.map (·.2) = kv.toList → kv.toList = lv.toList ++ List.replicate (ls.length % 2) Value.none → h.DictOf (PySem.intKind prog w) D kvs → g.get? D = none → (D == sysModules) = false → Fr g L h m' → News g L h ((ll, listOf lv ln) :: (cT, oT) :: (cK, oK') :: R) → oK'.data = .cell (some vK) → m' "table" = some (.ref D) → (∀ y : Str, y ≠ Str.ofString "table" → m' y = m y) →
      wpAny (model prog w) A (execs (((forBody (b298.drop 7)).drop 2).drop 2) (envX (Str.ofString "law") s298 L 298 (.ref 297) [(Str.ofString "tens", cT), (Str.ofString "kept", cK)])) Q NoE { s with heap := h, toks := tk }) :
    wpAny (model prog w) A (execs ((forBody (b298.drop 7)).drop 2) (envX (Str.ofString "law") s298 L 298 (.ref 297) [(Str.ofString "tens", cT), (Str.ofString "kept", cK)])) Q NoE s := by
  refine Eq.subst (motive := fun l => wpAny (model prog w) A (execs l (envX (Str.ofString "law") s298 L 298 (.ref 297) [(Str.ofString "tens", cT), (Str.ofString "kept", cK)])) Q NoE s) (List.take_append_drop 2 ((forBody (b298.drop 7)).drop 2)) ?_
  have : PySem.Challenge.rw_yh0022_02.prog = PySem.Challenge.rw_yh0022_02.prog ∧ heapK = heapK := by k_fill; exact ⟨rfl, rfl⟩
  clear this
  generalize hl : ((forBody (b298.drop 7)).drop 2).drop 2 = tl
  dsimp only [forBody, b298, s298, pick, List.take, List.drop, List.cons_append, List.nil_append]
  (try dsimp only)
  have hll := hnum.length
  have hls : lv.size = ls.length := by rw [← Array.length_toList]; exact hll
  have hsz9 : lv.size ≤ sizeLine := by rw [sizeLine_eq]; omega
  iterate 19 (first | walk1 | (dsimp only; walk1))
  refine mod_as (by decide) (show Int.fmod ((ls.length : Nat) : Int) 2 = ((ls.length % 2 : Nat) : Int) by rw [Int.fmod_eq_emod_of_nonneg _ (by decide)]; omega) ?_
  dsimp only
  (with_reducible rename News _ _ _ _ => N2); (with_reducible rename Fr _ _ _ _ => F2)
  refine mul_one F2 N2 (by k_mem) rfl (by omega) ?_
  intro D3 h3 F3 N3 l3
  k_lt l3
  clear F2 N2
  refine kmk_add_lit F3 N3 (News.isList N3 (by k_mem)) (News.isList N3 (by k_mem)) rfl ?_ (by simp only [sizeLine_eq, Array.length_toList, List.length_replicate]; omega)
  intro D4 h4 F4 N4 l4
  generalize hkv0 : (lv.toList ++ (List.replicate (ls.length % 2) Value.none).toArray.toList).toArray = kv at N4
  have hkv : kv.toList = lv.toList ++ List.replicate (ls.length % 2) Value.none := by rw [← hkv0]
  have hks : kv.size = ls.length + ls.length % 2 := by rw [← Array.length_toList, hkv, List.length_append, List.length_replicate, hll]
  k_lt l4
  clear F3 N3
  iterate 1 (first | walk1 | (dsimp only; walk1))
  iterate 2 (first | walk1 | (dsimp only; walk1))
  (with_reducible rename News _ _ _ _ => N5); (with_reducible rename Fr _ _ _ _ => F5)
  refine Assign_DictComp_range (h₀ := g) (L := L) (m := m) (PySem.intKind prog w) rfl rfl hh rfl (by decide) rfl TG.nolimit (by decide) rfl rfl rfl ?_ (by intro _; rfl)
  k_steps
  (with_reducible rename IsRange _ _ _ _ _ _ _ _ => hr9); (with_reducible rename News _ _ _ _ => N6); (with_reducible rename Fr _ _ _ _ => F6); (with_reducible rename _ = Data.cell (some (Value.ref D4)) => dK)
  refine ⟨⟨_, _, _, _, _, ls.length + ls.length % 2, _, (fun v k => ∃ (i : Nat) (t : Tok), v = Value.int (i : Int) t ∧ k = 2 * (i : Int)), (fun v z => ∃ (i : Nat) (t : Tok), v = Value.int (i : Int) t ∧ kv.toList[i]? = some z), rfl, hr9, ?_, ?_, ?_, F6, N6, ?_, ?_, ?_⟩⟩
  · exact small_one (by decide) (by decide) (by omega) (by omega)
  · exact rangeSize_nat _ _
  · rw [sizeLine_eq]; omega
  · intro C i t s3 m3 E' hi hC hx hk
    iterate 2 (first | walk1 | (dsimp only; walk1))
    refine wpAny_Name (wpAny_loadName_local rfl rfl hC hx ?_) rfl
    refine PyProof.Rows.mul_int ?_ (PySem.IntMulOk.of_right (PySem.intBits_le_64 (by omega) (by omega)))
    exact ⟨⟨_, by simp [PySem.intKind, Value.isInt], _, _, rfl, rfl⟩, ⟨_, _, rfl, fun _ _ e => e⟩⟩
  · intro C i t s3 m3 E' hi hC hx hk
    obtain ⟨z, hz⟩ : ∃ z, kv.toList[i]? = some z := ⟨_, List.getElem?_eq_getElem (by rw [Array.length_toList]; omega)⟩
    have N7 := N6.grown hk
    iterate 1 (first | walk1 | (dsimp only; walk1))
    refine wpAny_Name (wpAny_loadName_cell rfl rfl rfl ⟨_, (N7 (cK, _) (by k_mem)).1, dK⟩ ?_) rfl
    refine wpAny_Name (wpAny_loadName_local rfl rfl hC hx ?_) rfl
    refine item_list (k := i) (its := kv) (News.isList N7 (by k_mem)) rfl (by omega) hz ?_ (by with_unfolding_all rfl)
    exact ⟨⟨_, _, rfl, hz⟩, ⟨_, _, rfl, fun _ _ e => e⟩⟩
  · intro D kvs vs h7 tk7 F7 N7 hD0 hD1 hDO hlen hvs hst
    have hk9 := (stored_range hst hvs).1
    rw [List.take_of_length_le (by rw [Array.length_toList]; omega)] at hk9
    dsimp only
    subst hl
    exact hQ h7 tk7 _ D kvs kv _ _ hk9 hkv hDO hD0 hD1 F7 (fun p hp => N7 p (.tail _ (.tail _ (.tail _ hp)))) dK (by walk_at "mine_var") (fun y hy => if_neg hy)
end
/- G9_2k -/
section
open PySem PySem.W PySem.Calls PyProof.Rows
theorem turn_max {f k : Nat} : ((max k f : Nat) : Int) = if ((f : Nat) : Int) > ((k : Nat) : Int) then ((f : Nat) : Int) else ((k : Nat) : Int) := by split <;> omega
theorem turn_eq {n f : Nat} {due : Int} (hd : due = (f : Int)) : (((max (if decide (n % 2 = 1) = true then 4 else 3) f : Nat)) : Int) = if due > 3 + ((n : Nat) : Int).fmod 2 then due else 3 + ((n : Nat) : Int).fmod 2 := by
  have e : 3 + ((n : Nat) : Int).fmod 2 = ((if decide (n % 2 = 1) = true then 4 else 3 : Nat) : Int) := by
    rw [Int.fmod_eq_emod_of_nonneg _ (by decide)]
    rcases Nat.mod_two_eq_zero_or_one n with h | h <;> rw [h] <;> (simp; omega)
  rw [hd, e]
  exact turn_max
theorem lawC3_c {prog : Program} {w : World} {A : Around} {s s0 : Shared} {H₀ g : Heap} {L : Addr} {p : Program} {loose : List Str} {mg mb m : Str → Option Value} {Q : Flow → Shared → Prop} {bm : Addr} {ob : Obj} {cT cK : Addr} {D : Addr} {kvs : List (Int × Value)} {lv kv : Array Value} {ll : Addr} {ln : Nat} {ls : List Nat} {mx : Nat} {t2 : Tok} {due : Int} {R : List (Addr × Obj)}
    (hprog : prog = PySem.Challenge.pw_yh0022_02) (X : (heapK w.params).In H₀) (TR : TopRead p loose mg mb H₀) (XG : (heapK w.params).In g) (TG : TopRead p loose mg mb g) (HG : Sub H₀ g) (B : BMod H₀ mainGlobals mg bm ob) (hdp : A.depth < 455) (hun : A.units < 1450) (hh : A.handled = none) (hszL : H₀.objs.size ≤ L)
    (jA : Acc s0 s.os s.drawn s.gens) (F : Fr g L s.heap m) (N : News g L s.heap ((ll, listOf lv ln) :: R)) (hDO : s.heap.DictOf (PySem.intKind prog w) D kvs) (hD0 : g.get? D = none) (hds : (D == sysModules) = false)
    (hkv : kvs.map (·.2) = kv.toList) (hkt : kv.toList = lv.toList ++ List.replicate (ls.length % 2) Value.none) (hnum : NatsAre lv.toList ls) (hln : ls.length ≤ 7) (hmx : mx ∈ ls) (hmax : ∀ n ∈ ls, n ≤ mx) (h1 : 1 ≤ mx) (hf : figs mx ≤ 100)
    (m4 : m "lines" = some (.ref ll)) (m5 : m "due" = some (.int due t2)) (m6 : m "table" = some (.ref D)) (hdue : due = ((figs mx : Nat) : Int))
    (hQ : ∀ s', Acc s0 s'.os s'.drawn s'.gens → Fr g L s'.heap m → News g L s'.heap ((ll, listOf lv ln) :: R) → Q .next s') :
    wpAny (model prog w) A (execs (((forBody (b298.drop 7)).drop 2).drop 2) (envX (Str.ofString "law") s298 L 298 (.ref 297) [(Str.ofString "tens", cT), (Str.ofString "kept", cK)])) Q NoE s := by
  have : PySem.Challenge.rw_yh0022_02.prog = PySem.Challenge.rw_yh0022_02.prog ∧ heapK = heapK := by k_fill; exact ⟨rfl, rfl⟩
  clear this
  dsimp only [forBody, b298, s298, pick, List.drop]
  (try dsimp only)
  have hll := hnum.length
  have hls : lv.size = ls.length := by rw [← Array.length_toList]; exact hll
  obtain ⟨od, hdo, hdk⟩ := Heap.dictOf_iff.mp hDO
  have hmem : ∀ v, v ∈ kvs.map (·.2) ↔ v ∈ lv.toList ∨ v ∈ List.replicate (ls.length % 2) Value.none := fun v => by rw [hkv, hkt, List.mem_append]
  have hint : ∀ v ∈ lv.toList, ∃ n ∈ ls, ∃ t, v = Value.int ((n : Nat) : Int) t := fun v h => two_mem2 hnum h
  have hnone : ∀ v ∈ List.replicate (ls.length % 2) Value.none, v = Value.none := fun v h => List.eq_of_mem_replicate h
  k_steps
  (with_reducible rename News _ _ _ _ => N1); (with_reducible rename Fr _ _ _ _ => F1)
  refine glw2_c (mx := mx) (nn := decide (ls.length % 2 = 1)) (sub_fr F1 HG) X TR (by (repeat (with_reducible refine dep_lt ?_)); first | exact Nat.lt_of_lt_of_le hdp (Nat.le_of_ble_eq_true rfl) | omega | (simp only [depth_deeper, depth_in1, units_deeper, units_in1]; omega)) hh (by omega) hdo hdk hds ?_ ?_ ?_ h1 hf ?_ ?_
  · intro p hp
    rcases (hmem p.2).mp (List.mem_map.mpr ⟨p, hp, rfl⟩) with h | h
    · obtain ⟨n, _, t, e⟩ := hint _ h
      rw [e]; trivial
    · rw [hnone _ h]; trivial
  · obtain ⟨i, hi, e⟩ := List.getElem_of_mem hmx
    obtain ⟨v0, y, hv0, hy0, ty, rfl⟩ := two_has hnum (i := i) hi
    rw [List.getElem?_eq_getElem hi, e] at hy0
    obtain rfl := Option.some.inj hy0
    exact ⟨ty, (hmem _).mpr (.inl (List.mem_of_getElem? hv0))⟩
  · intro n t h
    rcases (hmem _).mp h with h | h
    · obtain ⟨n', hn', t', e⟩ := hint _ h
      injection e with e _
      rw [e]; exact Int.ofNat_le.mpr (hmax n' hn')
    · have := hnone _ h; cases this
  · rw [decide_eq_true_iff, hmem]
    constructor
    · intro h; right; rw [h]; exact .head _
    · rintro (h | h)
      · obtain ⟨_, _, _, e⟩ := hint _ h; cases e
      · have := List.length_pos_of_mem h; rw [List.length_replicate] at this; omega
  · intro s2 t2' Kp2
    obtain ⟨F2, N2⟩ := step0 Kp2 F1 N1
    clear F1 N1
    have jA2 : Acc s0 s2.os s2.drawn s2.gens := ⟨Kp2.os.trans jA.os, Kp2.drawn.trans jA.drawn, fun q => Kp2.gens (jA.gens q)⟩
    k_steps
    · (with_reducible rename _ ≠ _ => e9)
      exact absurd (turn_eq hdue) e9
    · (with_reducible rename News _ _ _ _ => N3); (with_reducible rename Fr _ _ _ _ => F3)
      exact hQ _ jA2 F3 N3
end
/- G10_2k -/
section
open PySem PySem.W PySem.Calls PyProof.Rows
theorem news_sub {g h : Heap} {L : Addr} {l l' : List (Addr × Obj)} (N : News g L h l) (k : ∀ p ∈ l', p ∈ l) : News g L h l' := fun p hp => N p (k p hp)
theorem sub_cons {l l' : List (Addr × Obj)} {p : Addr × Obj} (h : p ∈ l) (k : ∀ q ∈ l', q ∈ l) : ∀ q ∈ p :: l', q ∈ l := List.forall_mem_cons.mpr ⟨h, k⟩
theorem sub_tail {l l' : List (Addr × Obj)} {p : Addr × Obj} (k : ∀ q ∈ l', q ∈ l) : ∀ q ∈ l', q ∈ p :: l := fun q hq => .tail _ (k q hq)
theorem sub_rfl {l : List (Addr × Obj)} : ∀ q ∈ l, q ∈ l := fun _ h => h
/- a turn of the loop over the two rows and their mirrors -/
theorem lawTurn2_c {prog : Program} {w : World} {A : Around} {s s0 : Shared} {H₀ g : Heap} {L : Addr} {p : Program} {loose : List Str} {mg mb m : Str → Option Value} {Q : Flow → Shared → Prop} {bm : Addr} {ob : Obj} {cT cK : Addr} {ll ml : Addr} {lv mv : Array Value} {ln mn T : Nat} {ls ms : List Nat} {oT oK : Obj} {t1 : Tok} {R : List (Addr × Obj)}
    (hprog : prog = PySem.Challenge.pw_yh0022_02) (X : (heapK w.params).In H₀) (TR : TopRead p loose mg mb H₀) (XG : (heapK w.params).In g) (TG : TopRead p loose mg mb g) (HG : Sub H₀ g) (B : BMod H₀ mainGlobals mg bm ob) (hdp : A.depth < 455) (hun : A.units < 1450) (hh : A.handled = none) (hszL : H₀.objs.size ≤ L)
    (jA : Acc s0 s.os s.drawn s.gens) (F : Fr g L s.heap m) (N : News g L s.heap ((ll, listOf lv ln) :: (ml, listOf mv mn) :: (cT, oT) :: (cK, oK) :: R)) (hoT : oT.data = .cell (some (.int ((T : Nat) : Int) t1))) (hT : T ≤ 8) (o9 : Option Value) (hoK : oK.data = .cell o9) (z3 : @Ne Nat cK cT) (z4 : @Ne Nat ll cK) (z5 : @Ne Nat ml cK) (z6 : ∀ p ∈ R, @Ne Nat p.1 cK)
    (hl : NatsAre lv.toList ls) (hm : NatsAre mv.toList ms) (hd : ∀ n ∈ ls, 0 < n ∧ n ∣ 10 ^ T) (hd2 : ∀ n ∈ ms, 0 < n ∧ n ∣ 10 ^ T) (hx : ∀ n ∈ ms, 10 ^ T / n ∈ ls) (hy : ∀ n ∈ ls, 10 ^ T / n ∈ ms) (hl0 : 0 < ls.length) (hln : ls.length ≤ 7) (hm0 : 0 < ms.length) (hmn : ms.length ≤ 7) (m4 : m "lines" = some (.ref ll)) (m5 : m "mirror" = some (.ref ml))
    (hQ : ∀ s' m' oK' vK, oK'.data = .cell (some vK) → Acc s0 s'.os s'.drawn s'.gens → Fr g L s'.heap m' → News g L s'.heap ((ll, listOf lv ln) :: (ml, listOf mv mn) :: (cT, oT) :: (cK, oK') :: R) →
      (∀ y : Str, y ≠ Str.ofString "due" → y ≠ Str.ofString "least" → y ≠ Str.ofString "table" → m' y = m y) → Q .next s') :
    wpAny (model prog w) A (execs (forBody (b298.drop 7)) (envX (Str.ofString "law") s298 L 298 (.ref 297) [(Str.ofString "tens", cT), (Str.ofString "kept", cK)])) Q NoE s := by
  refine lawC1_c (R := (ll, listOf lv ln) :: (cK, oK) :: R) hprog X TR XG TG HG B hdp hun hh hszL jA F (news_sub N (by
    refine sub_cons (.tail _ (.head _)) (sub_cons (.tail _ (.tail _ (.head _))) (sub_cons (.head _) (sub_cons (.tail _ (.tail _ (.tail _ (.head _)))) (sub_tail (sub_tail (sub_tail (sub_tail sub_rfl)))))))) ) hoT hT hm hd2 hm0 hmn m5 ?_
  intro h1 tk1 m1 mm t2 hmm hmin F1 N1 md1 me1
  refine lawC2_c (R := (ml, listOf mv mn) :: R) hprog X TR XG TG HG B hdp hun hh hszL jA F1 (news_sub N1 (by
    refine sub_cons (.tail _ (.tail _ (.head _))) (sub_cons (.tail _ (.head _)) (sub_cons (.tail _ (.tail _ (.tail _ (.head _)))) (sub_cons (.head _) (sub_tail (sub_tail (sub_tail (sub_tail sub_rfl)))))))) ) hoT hT o9 hoK z3 z4 (List.forall_mem_cons.mpr ⟨z5, z6⟩) hl hd hl0 hln (by rw [me1 _ (by decide) (by decide)]; exact m4) md1 ?_
  intro h2 tk2 m2 D kvs kv vK oK' hkv hkt hDO hD0 hds F2 N2 hoK' mt2 me2
  have cf := cof_of (hd2 mm hmm)
  have hmx := hx mm hmm
  refine lawC3_c (mx := 10 ^ T / mm) (R := (ml, listOf mv mn) :: (cT, oT) :: (cK, oK') :: R) hprog X TR XG TG HG B hdp hun hh hszL jA F2 (news_sub N2 (by
    refine sub_cons (.head _) (sub_cons (.tail _ (.tail _ (.tail _ (.head _)))) (sub_cons (.tail _ (.head _)) (sub_cons (.tail _ (.tail _ (.head _))) (sub_tail (sub_tail (sub_tail (sub_tail sub_rfl)))))))) ) hDO hD0 hds hkv hkt hl hln hmx ?_ cf.posc (Nat.le_trans cf.symm.figs_le (by omega))
    (by rw [me2 _ (by decide), me1 _ (by decide) (by decide)]; exact m4) (by rw [me2 _ (by decide)]; exact md1) mt2 cf.due ?_
  · intro n hn
    have cn := cof_of (hd n hn)
    have h9 := hmin _ (hy n hn)
    refine (Nat.le_div_iff_mul_le cf.pos).mpr ?_
    have := Nat.mul_le_mul_left n h9
    rw [Nat.mul_comm n (10 ^ T / n), cn.mul] at this
    exact this
  · intro s3 jA3 F3 N3
    exact hQ s3 m2 oK' vK hoK' jA3 F3 (news_sub N3 (by
      refine sub_cons (.head _) (sub_cons (.tail _ (.head _)) (sub_cons (.tail _ (.tail _ (.head _))) (sub_cons (.tail _ (.tail _ (.tail _ (.head _)))) (sub_tail (sub_tail (sub_tail (sub_tail sub_rfl)))))))) ) fun y h1 h2 h3 => (me2 y h3).trans (me1 y h1 h2)
end
/- G11_2k -/
section
open PySem PySem.W PySem.Calls PyProof.Rows
theorem lawC_c {prog : Program} {w : World} {A : Around} {s s0 : Shared} {H₀ g : Heap} {L : Addr} {p : Program} {loose : List Str} {mg mb m : Str → Option Value} {Q : Flow → Shared → Prop} {bm : Addr} {ob : Obj} {cT cK : Addr} {sl ol : Addr} {sv ov : Array Value} {sn on T : Nat} {ns : List Nat} {oT oK : Obj} {t1 t2 t3 : Tok} {sz wd : Int} {R : List (Addr × Obj)}
    (hprog : prog = PySem.Challenge.pw_yh0022_02) (X : (heapK w.params).In H₀) (TR : TopRead p loose mg mb H₀) (XG : (heapK w.params).In g) (TG : TopRead p loose mg mb g) (HG : Sub H₀ g) (B : BMod H₀ mainGlobals mg bm ob) (hdp : A.depth < 455) (hun : A.units < 1450) (hh : A.handled = none) (hszL : H₀.objs.size ≤ L)
    (jA : Acc s0 s.os s.drawn s.gens) (F : Fr g L s.heap m) (N : News g L s.heap ((ol, listOf ov on) :: (sl, listOf sv sn) :: (cT, oT) :: (cK, oK) :: R)) (hoT : oT.data = .cell (some (.int ((T : Nat) : Int) t1))) (hT : T ≤ 8) (hoK : oK.data = .cell none) (z3 : @Ne Nat cK cT) (z4 : @Ne Nat sl cK) (z5 : @Ne Nat ol cK) (z6 : ∀ p ∈ R, @Ne Nat p.1 cK)
    (hnum : NatsAre sv.toList ns) (hnum2 : NatsAre ov.toList (ns.map fun n => 10 ^ T / n)) (hpos : ∀ n ∈ ns, 0 < n ∧ n ∣ 10 ^ T) (hl0 : 0 < ns.length) (hln : ns.length ≤ 7) (m4 : m "some" = some (.ref sl)) (m5 : m "other" = some (.ref ol)) (m6 : m "size" = some (.int sz t2)) (m7 : m "width" = some (.int wd t3))
    (hQ : ∀ s' m' oK', Acc s0 s'.os s'.drawn s'.gens → Fr g L s'.heap m' → News g L s'.heap ((ol, listOf ov on) :: (sl, listOf sv sn) :: (cT, oT) :: (cK, oK') :: R) →
      m' "some" = some (.ref sl) → m' "other" = some (.ref ol) → m' "size" = some (.int sz t2) → m' "width" = some (.int wd t3) → wpAny (model prog w) A (execs (b298.drop 8) (envX (Str.ofString "law") s298 L 298 (.ref 297) [(Str.ofString "tens", cT), (Str.ofString "kept", cK)])) Q NoE s') :
    wpAny (model prog w) A (execs (b298.drop 7) (envX (Str.ofString "law") s298 L 298 (.ref 297) [(Str.ofString "tens", cT), (Str.ofString "kept", cK)])) Q NoE s := by
  refine Eq.subst (motive := fun l => wpAny (model prog w) A (execs l (envX (Str.ofString "law") s298 L 298 (.ref 297) [(Str.ofString "tens", cT), (Str.ofString "kept", cK)])) Q NoE s) (List.take_append_drop 1 (b298.drop 7)) ?_
  have : PySem.Challenge.rw_yh0022_02.prog = PySem.Challenge.rw_yh0022_02.prog ∧ heapK = heapK := by k_fill; exact ⟨rfl, rfl⟩
  clear this
  rw [List.drop_drop]
  generalize hl : b298.drop (7 + 1) = tl
  dsimp only [b298, s298, pick, List.take, List.drop, List.cons_append, List.nil_append]
  (try dsimp only)
  have hlm : (ns.map fun n => 10 ^ T / n).length = ns.length := List.length_map ..
  have hback : ∀ n ∈ ns, 10 ^ T / (10 ^ T / n) = n := fun n hn => (cof_of (hpos n hn)).symm.eq.symm
  k_steps
  (with_reducible rename News _ _ _ _ => N1); (with_reducible rename Fr _ _ _ _ => F1)
  rename_i D1 h1 la ltA D2 h2 lb ltB l9 h3 lc ltC
  have lA := lt_all ltA
  have lB := lt_all ltB
  have lC := lt_all ltC
  refine iter_list_own F1 N1 (News.isList N1 (.head _)) ?_
  intro I h4 oI hI F2 N2 hoff2 k2
  clear F1 N1
  have hoff5 : ∀ o' : Obj, ∀ p ∈ (l9, listOf #[Value.ref D1, Value.ref D2] 0) :: (D2, tupOf [Value.ref ol, Value.ref sl]) :: (D1, tupOf [Value.ref sl, Value.ref ol]) :: (ol, listOf ov on) :: (sl, listOf sv sn) :: (cT, oT) :: (cK, o') :: R, @Ne Nat p.1 I := fun o' => by
    refine List.forall_mem_cons.mpr ⟨hoff2 _ (.head _), List.forall_mem_cons.mpr ⟨hoff2 _ (.tail _ (.head _)), List.forall_mem_cons.mpr ⟨hoff2 _ (.tail _ (.tail _ (.head _))), List.forall_mem_cons.mpr ⟨hoff2 _ (.tail _ (.tail _ (.tail _ (.head _)))), List.forall_mem_cons.mpr ⟨hoff2 _ (.tail _ (.tail _ (.tail _ (.tail _ (.head _))))), List.forall_mem_cons.mpr ⟨hoff2 _ (.tail _ (.tail _ (.tail _ (.tail _ (.tail _ (.head _)))))), List.forall_mem_cons.mpr ⟨?_, fun p hp => hoff2 p (.tail _ (.tail _ (.tail _ (.tail _ (.tail _ (.tail _ (.tail _ hp))))))) ⟩⟩⟩⟩⟩⟩⟩
    exact hoff2 (cK, oK) (.tail _ (.tail _ (.tail _ (.tail _ (.tail _ (.tail _ (.head _)))))))
  have zR : ∀ oI' : Obj, ∀ p ∈ (I, oI') :: (l9, listOf #[Value.ref D1, Value.ref D2] 0) :: (D2, tupOf [Value.ref ol, Value.ref sl]) :: (D1, tupOf [Value.ref sl, Value.ref ol]) :: R, @Ne Nat p.1 cK := fun oI' =>
    List.forall_mem_cons.mpr ⟨Ne.symm (hoff5 oK (cK, oK) (.tail _ (.tail _ (.tail _ (.tail _ (.tail _ (.tail _ (.head _)))))))), List.forall_mem_cons.mpr ⟨Nat.ne_of_gt (lC (cK, oK) (by k_mem)), List.forall_mem_cons.mpr ⟨Nat.ne_of_gt (lB (cK, oK) (by k_mem)), List.forall_mem_cons.mpr ⟨Nat.ne_of_gt (lA (cK, oK) (by k_mem)), z6⟩⟩⟩⟩
  have back : ∀ {h : Heap} {o' oI' : Obj}, News g L h ((sl, listOf sv sn) :: (ol, listOf ov on) :: (cT, oT) :: (cK, o') :: (I, oI') :: (l9, listOf #[Value.ref D1, Value.ref D2] 0) :: (D2, tupOf [Value.ref ol, Value.ref sl]) :: (D1, tupOf [Value.ref sl, Value.ref ol]) :: R) → News g L h ((I, oI') :: (l9, listOf #[Value.ref D1, Value.ref D2] 0) :: (D2, tupOf [Value.ref ol, Value.ref sl]) :: (D1, tupOf [Value.ref sl, Value.ref ol]) :: (ol, listOf ov on) :: (sl, listOf sv sn) :: (cT, oT) :: (cK, o') :: R) := fun N => news_sub N (by
    repeat (refine sub_cons (by k_mem) ?_)
    exact fun q hq => .tail _ (.tail _ (.tail _ (.tail _ (.tail _ (.tail _ (.tail _ (.tail _ hq))))))))
  have fore : ∀ {h : Heap} {o' oI' : Obj}, News g L h ((I, oI') :: (l9, listOf #[Value.ref D1, Value.ref D2] 0) :: (D2, tupOf [Value.ref ol, Value.ref sl]) :: (D1, tupOf [Value.ref sl, Value.ref ol]) :: (ol, listOf ov on) :: (sl, listOf sv sn) :: (cT, oT) :: (cK, o') :: R) → News g L h ((sl, listOf sv sn) :: (ol, listOf ov on) :: (cT, oT) :: (cK, o') :: (I, oI') :: (l9, listOf #[Value.ref D1, Value.ref D2] 0) :: (D2, tupOf [Value.ref ol, Value.ref sl]) :: (D1, tupOf [Value.ref sl, Value.ref ol]) :: R) := fun N => news_sub N (by
    repeat (refine sub_cons (by k_mem) ?_)
    exact fun q hq => .tail _ (.tail _ (.tail _ (.tail _ (.tail _ (.tail _ (.tail _ (.tail _ hq))))))))
  refine for_list_item (v := .ref D1) F2 N2 hoff2 hI (News.isList N2 (.tail _ (.head _))) rfl ?_
  intro h5 oI3 hI3 F3 N3 x3
  clear F2 N2
  iterate 9 (first | walk1 | (dsimp only; walk1))
  dsimp only
  (with_reducible rename News _ _ _ _ => N4); (with_reducible rename Fr _ _ _ _ => F4)
  refine lawTurn2_c (ls := ns) (ms := ns.map fun n => 10 ^ T / n) hprog X TR XG TG HG B hdp hun hh hszL jA F4 (fore N4) hoT hT none hoK z3 z4 z5 (zR oI3) hnum hnum2 hpos (cof_dvd hpos)
    (fun n hn => by obtain ⟨k, hk, rfl⟩ := List.mem_map.mp hn; rw [hback k hk]; exact hk) (fun n hn => List.mem_map.mpr ⟨n, hn, rfl⟩) hl0 hln (by rw [hlm]; exact hl0) (by rw [hlm]; exact hln) (by walk_at "mine_var") (by walk_at "mine_var") ?_
  intro s6 m6' oK6 vK6 hoK6 jA6 F6 N6 me6
  refine LoopB.next ?_
  have N7 := back N6
  clear F4 N4
  refine for_list_item (v := .ref D2) F6 N7 (hoff5 oK6) hI3 (News.isList N7 (.tail _ (.head _))) rfl ?_
  intro h8 oI8 hI8 F8 N8 x8
  clear F6 N6 N7
  iterate 9 (first | walk1 | (dsimp only; walk1))
  dsimp only
  (with_reducible rename News _ _ _ _ => N9); (with_reducible rename Fr _ _ _ _ => F9)
  have swap : ∀ {h : Heap} {a b : Addr × Obj} {l : List (Addr × Obj)}, News g L h (a :: b :: l) → News g L h (b :: a :: l) := fun N => news_sub N (sub_cons (.tail _ (.head _)) (sub_cons (.head _) (sub_tail (sub_tail sub_rfl))))
  refine lawTurn2_c (ls := ns.map fun n => 10 ^ T / n) (ms := ns) hprog X TR XG TG HG B hdp hun hh hszL jA6 F9 (swap (fore N9)) hoT hT (some vK6) hoK6 z3 z5 z4 (zR oI8) hnum2 hnum (cof_dvd hpos) hpos
    (fun n hn => List.mem_map.mpr ⟨n, hn, rfl⟩) (fun n hn => by obtain ⟨k, hk, rfl⟩ := List.mem_map.mp hn; rw [hback k hk]; exact hk) (by rw [hlm]; exact hl0) (by rw [hlm]; exact hln) hl0 hln (by walk_at "mine_var") (by walk_at "mine_var") ?_
  intro s10 m10 oK10 vK10 hoK10 jA10 F10 N10 me10
  refine LoopB.next ?_
  have N11 := back (swap N10)
  clear F9 N9
  refine for_list_done hh F10 N11 (hoff5 oK10) hI8 (News.isList N11 (.tail _ (.head _))) rfl ?_
  intro h12 F12 N12 x12
  clear F10 N10 N11
  refine wpAny_execs_nil ?_
  dsimp only
  subst hl
  have m9 : ∀ y : Str, y ≠ Str.ofString "due" → y ≠ Str.ofString "least" → y ≠ Str.ofString "table" → y ≠ Str.ofString "lines" → y ≠ Str.ofString "mirror" → m10 y = m y := fun y h1 h2 h3 h4 h5 => by
    rw [me10 y h1 h2 h3]
    refine (if_neg h5).trans ((if_neg h4).trans ?_)
    rw [me6 y h1 h2 h3]
    exact (if_neg h5).trans (if_neg h4)
  exact hQ _ m10 oK10 jA10 F12 (news_sub N12 fun p hp => .tail _ (.tail _ (.tail _ hp))) (by rw [m9 _ (by decide) (by decide) (by decide) (by decide) (by decide)]; exact m4) (by rw [m9 _ (by decide) (by decide) (by decide) (by decide) (by decide)]; exact m5) (by rw [m9 _ (by decide) (by decide) (by decide) (by decide) (by decide)]; exact m6) (by rw [m9 _ (by decide) (by decide) (by decide) (by decide) (by decide)]; exact m7)
end
/- G12_2k -/
section
open PySem PySem.W PySem.Calls PyProof.Rows
theorem sub_none {H g : Heap} {a : Addr} (HG : Sub H g) (h : g.get? a = none) : H.get? a = none := by
  cases e : H.get? a with
  | none => rfl
  | some o => rw [HG _ _ e] at h; cases h
theorem sub_as {prog : Program} {w : World} {A : Around} {E : Value → Shared → Prop} {s : Shared} {a b c : Int} {t u : Tok} {Q : Value → Shared → Prop} (e : a - b = c) (h : Q (.int c s.toks) { s with toks := s.toks + 1 }) : wpAny (model prog w) A (binaryOp .Sub (.int a t) (.int b u)) Q E s := by
  subst e; exact PyProof.Rows.sub_int h
theorem pow10_lt60 {k : Nat} (h : k ≤ 9) : 10 ^ k < 2 ^ 60 := Nat.lt_of_le_of_lt (Nat.pow_le_pow_right (by decide) h) (by decide)
theorem lawD_c {prog : Program} {w : World} {A : Around} {s s0 : Shared} {H₀ g : Heap} {L : Addr} {p : Program} {loose : List Str} {mg mb m : Str → Option Value} {Q : Flow → Shared → Prop} {bm : Addr} {ob : Obj} {cT cK : Addr} {sl : Addr} {sv : Array Value} {sn T : Nat} {ns : List Nat} {oT : Obj} {t1 : Tok} {R : List (Addr × Obj)}
    (hprog : prog = PySem.Challenge.pw_yh0022_02) (X : (heapK w.params).In H₀) (TR : TopRead p loose mg mb H₀) (XG : (heapK w.params).In g) (TG : TopRead p loose mg mb g) (HG : Sub H₀ g) (B : BMod H₀ mainGlobals mg bm ob) (hdp : A.depth < 455) (hun : A.units < 1450) (hh : A.handled = none) (hszL : H₀.objs.size ≤ L)
    (jA : Acc s0 s.os s.drawn s.gens) (F : Fr g L s.heap m) (N : News g L s.heap ((295, tabObj #[]) :: (sl, listOf sv sn) :: (cT, oT) :: R)) (hoT : oT.data = .cell (some (.int ((T : Nat) : Int) t1))) (hT : T ≤ 8) (zT : ∀ q ∈ (sl, listOf sv sn) :: (cT, oT) :: R, q.1 ≠ (295 : Addr))
    (hnum : NatsAre sv.toList ns) (hnd : ns.Nodup) (hpos : ∀ n ∈ ns, 0 < n ∧ n ∣ 10 ^ T) (hl0 : 0 < ns.length) (hln : ns.length ≤ 7) (m4 : m "some" = some (.ref sl))
    (hQ : ∀ s' rl rv rn ps rs, rs.Perm ns → rs.Pairwise (KeyOrd (keyOf T)) → NatsAre rv.toList rs → Acc s0 s'.os s'.drawn s'.gens → Fr g L s'.heap (fun y => if y = Str.ofString "ranked" then some (.ref rl) else m y) → News g L s'.heap ((rl, listOf rv rn) :: (295, tabObj ps) :: (sl, listOf sv sn) :: (cT, oT) :: R) → wpAny (model prog w) A (execs (b298.drop 9) (envX (Str.ofString "law") s298 L 298 (.ref 297) [(Str.ofString "tens", cT), (Str.ofString "kept", cK)])) Q NoE s') :
    wpAny (model prog w) A (execs (b298.drop 8) (envX (Str.ofString "law") s298 L 298 (.ref 297) [(Str.ofString "tens", cT), (Str.ofString "kept", cK)])) Q NoE s := by
  refine Eq.subst (motive := fun l => wpAny (model prog w) A (execs l (envX (Str.ofString "law") s298 L 298 (.ref 297) [(Str.ofString "tens", cT), (Str.ofString "kept", cK)])) Q NoE s) (List.take_append_drop 1 (b298.drop 8)) ?_
  have : PySem.Challenge.rw_yh0022_02.prog = PySem.Challenge.rw_yh0022_02.prog ∧ heapK = heapK := by k_fill; exact ⟨rfl, rfl⟩
  clear this
  rw [List.drop_drop]
  generalize hl : b298.drop (8 + 1) = tl
  dsimp only [b298, s298, pick, List.take, List.drop, List.cons_append, List.nil_append]
  (try dsimp only)
  k_steps
  refine kla_eval rfl ?_
  refine lam_made F N zT TG (B.keeps HG) (codeHd_of_K (c := 297) (P := 295) XG (by kernel_rfl)) rfl rfl (by simp [TriplesOk]) rfl rfl ?_
  intro f c' oc vs tq ctv h1 tk1 F1 N1 hoc hvq lt1 lt2
  iterate 1 (first | walk1 | (dsimp only; walk1))
  (try dsimp only)
  have zf : ∀ q ∈ (295, tabObj #[]) :: (sl, listOf sv sn) :: (cT, oT) :: R, q.1 ≠ f := fun q hq => Nat.ne_of_lt (Nat.lt_trans (lt1 q hq) lt2)
  refine sorted_keyed (key := keyOf T) (vs := sv.toList) (ns := ns) F1 N1 (by rw [Array.toArray_toList]; exact News.isList N1 (.tail _ (.tail _ (.tail _ (.head _))))) hnum hl0 (by omega) hnd ?_ ?_
  · intro n t s2 Q' hn F2 N2 hq
    refine wpAny_call ?_
    refine enterE [(cT, oT)] (all_cons (N2 (cT, oT) (by k_mem)).1 all_nil) (sub_fr F2 HG) (all_cons ?_ all_nil) X TR (N2 (f, _) (.head _)).1 ⟨c', oc, vs, tq, rfl, (N2 (c', oc) (.tail _ (.head _))).1, hoc, hvq⟩ (by simp only [recursionLimit, depth_deeper, depth_in1]; omega) rfl (locs rfl) (by decide) rfl rfl rfl ?_
    · exact sub_none HG (N2 (cT, oT) (by k_mem)).2.2
    · intro g3 L3 h3 F3 N3 X3 T3 H3 keep3 sub3 hL3
      have cn := cof_of (hpos n hn)
      have hf9 := cn.figs_le
      dsimp only
      (try k_fold)
      iterate 8 (first | walk1 | (dsimp only; walk1))
      refine nameX_F N3 rfl (.head _) hoT ?_
      k_steps
      (with_reducible rename News _ _ _ _ => N4); (with_reducible rename Fr _ _ _ _ => F4)
      refine figures_c (sub_fr F4 H3) X TR (by (repeat (with_reducible refine dep_lt ?_)); first | exact Nat.lt_of_lt_of_le hdp (Nat.le_of_ble_eq_true rfl) | omega | (simp only [depth_deeper, depth_in1, units_deeper, units_in1]; omega)) hh ?_
      intro s5 t5 Kp5 Ks5
      obtain ⟨F5, N5⟩ := step0 Kp5 F4 N4
      obtain ⟨h5, tk5, rfl, kk5⟩ := Ks5
      clear F4 N4
      dsimp only
      refine sub_as (c := ((T + 1 - figs n : Nat) : Int)) (by omega) ?_
      refine pow_as (a := 10) (k := T + 1 - figs n) rfl (by decide) (by omega) ?_
      refine mul_as (pow10_lt60 (by have := figs_pos cn.pos; omega)) ?_
      dsimp only
      k_steps
      (with_reducible rename News _ _ _ _ => N6); (with_reducible rename Fr _ _ _ _ => F6); (with_reducible rename AllLt _ _ => l6)
      refine hq _ _ _ _ (kept_of keep3 F6 hL3.symm N6 (all_cons (N2 (cT, oT) (by k_mem)).1 all_nil) (all_cons (fun _ => by k_mem) all_nil) rfl rfl id) (fresh_of keep3 N6 (.head _) (all_cons (Nat.ne_of_lt (lt_all l6 (cT, oT) (by k_mem))) all_nil)) (N6 _ (.head _)).1
  · intro s4 D c rs out F4 N4 z4 hE hp hw ho
    k_steps
    (with_reducible rename News _ _ _ _ => N6); (with_reducible rename Fr _ _ _ _ => F6)
    (try dsimp only)
    subst hl
    exact hQ _ D out c _ rs hp hw ho ⟨hE.1.trans jA.os, hE.2.1.trans jA.drawn, fun q => hE.2.2 (jA.gens q)⟩ F6 (news_sub N6 (sub_cons (.head _) (sub_cons (.tail _ (.tail _ (.tail _ (.head _)))) fun q hq => .tail _ (.tail _ (.tail _ (.tail _ hq))))))
end
/- G13_2k -/
section
open PySem PySem.W PySem.Calls PyProof.Rows
noncomputable def pureV : Value → Bool | .int n _ => isPure n.toNat | _ => false
theorem nats_filter {q : Bool} {a : List Value} {ns : List Nat} (h : NatsAre a ns) : NatsAre (a.filter fun v => pureV v == q) (ns.filter fun n => isPure n == q) := by
  induction h with
  | nil => exact .nil
  | @cons v n l1 l2 h _ ih =>
    obtain ⟨t, rfl⟩ := h
    by_cases e : (isPure n == q) = true
    · rw [List.filter_cons_of_pos (a := n) e, List.filter_cons_of_pos (a := Value.int ((n : Nat) : Int) t) (show (pureV (.int ((n : Nat) : Int) t) == q) = true from e)]
      exact .cons ⟨t, rfl⟩ ih
    · rw [List.filter_cons_of_neg (a := n) e, List.filter_cons_of_neg (a := Value.int ((n : Nat) : Int) t) (show ¬ (pureV (.int ((n : Nat) : Int) t) == q) = true from e)]
      exact ih
theorem same_pairs {a b : List Value} (h : Paired (fun v y => y = v) a b) : b = a := by
  induction h with
  | nil => rfl
  | cons h _ ih => rw [h, ih]
theorem lawE1_c {prog : Program} {w : World} {A : Around} {s s0 : Shared} {H₀ g : Heap} {L : Addr} {p : Program} {loose : List Str} {mg mb m : Str → Option Value} {Q : Flow → Shared → Prop} {bm : Addr} {ob : Obj} {cT cK : Addr} {rl : Addr} {rv : Array Value} {rn T : Nat} {rs : List Nat} {R : List (Addr × Obj)}
    (hprog : prog = PySem.Challenge.pw_yh0022_02) (X : (heapK w.params).In H₀) (TR : TopRead p loose mg mb H₀) (XG : (heapK w.params).In g) (TG : TopRead p loose mg mb g) (HG : Sub H₀ g) (B : BMod H₀ mainGlobals mg bm ob) (hdp : A.depth < 455) (hun : A.units < 1450) (hh : A.handled = none) (hszL : H₀.objs.size ≤ L)
    (jA : Acc s0 s.os s.drawn s.gens) (F : Fr g L s.heap m) (N : News g L s.heap ((rl, listOf rv rn) :: R))
    (hnum : NatsAre rv.toList rs) (hpos : ∀ n ∈ rs, 0 < n ∧ n ∣ 10 ^ T) (hT : T ≤ 8) (hln : rs.length ≤ 7) (m4 : m "ranked" = some (.ref rl))
    (hQ : ∀ h tk pl pv pn, NatsAre pv.toList (rs.filter fun n => isPure n == true) → Fr g L h (fun y => if y = Str.ofString "pure" then some (.ref pl) else m y) → News g L h ((pl, listOf pv pn) :: (rl, listOf rv rn) :: R) → LCg.Off1 pl ((rl, listOf rv rn) :: R) → wpAny (model prog w) A (execs (b298.drop 10) (envX (Str.ofString "law") s298 L 298 (.ref 297) [(Str.ofString "tens", cT), (Str.ofString "kept", cK)])) Q NoE { s with heap := h, toks := tk }) :
    wpAny (model prog w) A (execs (b298.drop 9) (envX (Str.ofString "law") s298 L 298 (.ref 297) [(Str.ofString "tens", cT), (Str.ofString "kept", cK)])) Q NoE s := by
  refine Eq.subst (motive := fun l => wpAny (model prog w) A (execs l (envX (Str.ofString "law") s298 L 298 (.ref 297) [(Str.ofString "tens", cT), (Str.ofString "kept", cK)])) Q NoE s) (List.take_append_drop 1 (b298.drop 9)) ?_
  have : PySem.Challenge.rw_yh0022_02.prog = PySem.Challenge.rw_yh0022_02.prog ∧ heapK = heapK := by k_fill; exact ⟨rfl, rfl⟩
  clear this
  rw [List.drop_drop]
  generalize hl : b298.drop (9 + 1) = tl
  dsimp only [b298, s298, pick, List.take, List.drop, List.cons_append, List.nil_append]
  (try dsimp only)
  have hrl := hnum.length
  have hrs : rv.size = rs.length := by rw [← Array.length_toList]; exact hrl
  walk1
  refine LCt.Assign_ListComp_T (F₀ := F) rfl (by with_unfolding_all rfl) (by with_unfolding_all rfl) (by decide) rfl (by decide) rfl rfl rfl ?_
  walk1
  refine LCt.CompSrcT.ledger hh F N (.head _) (by rw [sizeLine_eq]; omega) (fun g9 => comp_test (G := fun v y => y = v) (P := fun v => pureV v == true) (.inr ⟨_, .head _, rfl, _, rfl⟩) (fun i v C oC m₂ Y t E' hv hC hx F6 N6 hm hsub o1 o2 o3 => ?_) (fun i v C oC m₂ Y t E' hv hp hC hx F6 N6 hm hsub o1 o2 o3 => ?_) (fun ys hy => ?_))
  · obtain ⟨n, hn, t0, rfl⟩ := two_mem2 hnum (x := v) (List.mem_of_getElem? (by simpa using hv))
    have hf9 : figs n ≤ 100 := by have := (cof_of (hpos n hn)).figs_le; omega
    k_steps
    refine pure_c (sub_fr F6 HG) X TR (by (repeat (with_reducible refine dep_lt ?_)); first | exact Nat.lt_of_lt_of_le hdp (Nat.le_of_ble_eq_true rfl) | omega | (simp only [depth_deeper, depth_in1, units_deeper, units_in1]; omega)) hh (hpos n hn).1 hf9 ?_
    intro s6 Kp6 Ks6
    k_steps
    exact ⟨(show isPure n = (isPure n == true) by simp), Ks6⟩
  · obtain ⟨n, hn, t0, rfl⟩ := two_mem2 hnum (x := v) (List.mem_of_getElem? (by simpa using hv))
    k_steps
    exact ⟨rfl, ⟨_, _, rfl, fun _ _ e => e⟩⟩
  · intro D h7 tk7 F7 N7 off7
    dsimp only
    subst hl
    exact hQ h7 tk7 D _ _ (by rw [same_pairs hy]; exact nats_filter hnum) F7 N7 off7
theorem lawE2_c {prog : Program} {w : World} {A : Around} {s s0 : Shared} {H₀ g : Heap} {L : Addr} {p : Program} {loose : List Str} {mg mb m : Str → Option Value} {Q : Flow → Shared → Prop} {bm : Addr} {ob : Obj} {cT cK : Addr} {rl : Addr} {rv : Array Value} {rn T : Nat} {rs : List Nat} {R : List (Addr × Obj)}
    (hprog : prog = PySem.Challenge.pw_yh0022_02) (X : (heapK w.params).In H₀) (TR : TopRead p loose mg mb H₀) (XG : (heapK w.params).In g) (TG : TopRead p loose mg mb g) (HG : Sub H₀ g) (B : BMod H₀ mainGlobals mg bm ob) (hdp : A.depth < 455) (hun : A.units < 1450) (hh : A.handled = none) (hszL : H₀.objs.size ≤ L)
    (jA : Acc s0 s.os s.drawn s.gens) (F : Fr g L s.heap m) (N : News g L s.heap ((rl, listOf rv rn) :: R))
    (hnum : NatsAre rv.toList rs) (hpos : ∀ n ∈ rs, 0 < n ∧ n ∣ 10 ^ T) (hT : T ≤ 8) (hln : rs.length ≤ 7) (m4 : m "ranked" = some (.ref rl))
    (hQ : ∀ h tk pl pv pn, NatsAre pv.toList (rs.filter fun n => isPure n == false) → Fr g L h (fun y => if y = Str.ofString "rest" then some (.ref pl) else m y) → News g L h ((pl, listOf pv pn) :: (rl, listOf rv rn) :: R) → LCg.Off1 pl ((rl, listOf rv rn) :: R) → wpAny (model prog w) A (execs (b298.drop 11) (envX (Str.ofString "law") s298 L 298 (.ref 297) [(Str.ofString "tens", cT), (Str.ofString "kept", cK)])) Q NoE { s with heap := h, toks := tk }) :
    wpAny (model prog w) A (execs (b298.drop 10) (envX (Str.ofString "law") s298 L 298 (.ref 297) [(Str.ofString "tens", cT), (Str.ofString "kept", cK)])) Q NoE s := by
  refine Eq.subst (motive := fun l => wpAny (model prog w) A (execs l (envX (Str.ofString "law") s298 L 298 (.ref 297) [(Str.ofString "tens", cT), (Str.ofString "kept", cK)])) Q NoE s) (List.take_append_drop 1 (b298.drop 10)) ?_
  have : PySem.Challenge.rw_yh0022_02.prog = PySem.Challenge.rw_yh0022_02.prog ∧ heapK = heapK := by k_fill; exact ⟨rfl, rfl⟩
  clear this
  rw [List.drop_drop]
  generalize hl : b298.drop (10 + 1) = tl
  dsimp only [b298, s298, pick, List.take, List.drop, List.cons_append, List.nil_append]
  (try dsimp only)
  have hrl := hnum.length
  have hrs : rv.size = rs.length := by rw [← Array.length_toList]; exact hrl
  walk1
  refine LCt.Assign_ListComp_T (F₀ := F) rfl (by with_unfolding_all rfl) (by with_unfolding_all rfl) (by decide) rfl (by decide) rfl rfl rfl ?_
  walk1
  refine LCt.CompSrcT.ledger hh F N (.head _) (by rw [sizeLine_eq]; omega) (fun g9 => comp_test (G := fun v y => y = v) (P := fun v => pureV v == false) (.inr ⟨_, .head _, rfl, _, rfl⟩) (fun i v C oC m₂ Y t E' hv hC hx F6 N6 hm hsub o1 o2 o3 => ?_) (fun i v C oC m₂ Y t E' hv hp hC hx F6 N6 hm hsub o1 o2 o3 => ?_) (fun ys hy => ?_))
  · obtain ⟨n, hn, t0, rfl⟩ := two_mem2 hnum (x := v) (List.mem_of_getElem? (by simpa using hv))
    have hf9 : figs n ≤ 100 := by have := (cof_of (hpos n hn)).figs_le; omega
    k_steps
    refine pure_c (sub_fr F6 HG) X TR (by (repeat (with_reducible refine dep_lt ?_)); first | exact Nat.lt_of_lt_of_le hdp (Nat.le_of_ble_eq_true rfl) | omega | (simp only [depth_deeper, depth_in1, units_deeper, units_in1]; omega)) hh (hpos n hn).1 hf9 ?_
    intro s6 Kp6 Ks6
    k_steps
    exact ⟨(show (!isPure n) = (isPure n == false) by simp), Ks6⟩
  · obtain ⟨n, hn, t0, rfl⟩ := two_mem2 hnum (x := v) (List.mem_of_getElem? (by simpa using hv))
    k_steps
    exact ⟨rfl, ⟨_, _, rfl, fun _ _ e => e⟩⟩
  · intro D h7 tk7 F7 N7 off7
    dsimp only
    subst hl
    exact hQ h7 tk7 D _ _ (by rw [same_pairs hy]; exact nats_filter hnum) F7 N7 off7
end
/- G14_2k -/
section
open PySem PySem.W PySem.Calls PyProof.Rows
theorem nats_decs {vs : List Value} {ns : List Nat} (h : NatsAre vs ns) : Paired (fun v x => ∃ n t, x = dec n ∧ v = Value.int ((n : Nat) : Int) t) vs (ns.map dec) := by
  induction h with
  | nil => exact .nil
  | cons h _ ih => obtain ⟨t, rfl⟩ := h; exact .cons ⟨_, t, rfl, rfl⟩ ih
theorem lawF_c {prog : Program} {w : World} {A : Around} {s s0 : Shared} {H₀ g : Heap} {L : Addr} {p : Program} {loose : List Str} {mg mb m : Str → Option Value} {Q : Flow → Shared → Prop} {bm : Addr} {ob : Obj} {cT cK : Addr} {rl sl : Addr} {rv sv : Array Value} {rn sn T : Nat} {rs ns : List Nat} {R : List (Addr × Obj)}
    (hprog : prog = PySem.Challenge.pw_yh0022_02) (X : (heapK w.params).In H₀) (TR : TopRead p loose mg mb H₀) (XG : (heapK w.params).In g) (TG : TopRead p loose mg mb g) (HG : Sub H₀ g) (B : BMod H₀ mainGlobals mg bm ob) (hdp : A.depth < 455) (hun : A.units < 1450) (hh : A.handled = none) (hszL : H₀.objs.size ≤ L)
    (jA : Acc s0 s.os s.drawn s.gens) (F : Fr g L s.heap m) (N : News g L s.heap ((rl, listOf rv rn) :: (sl, listOf sv sn) :: R))
    (hnum : NatsAre sv.toList ns) (hrk : NatsAre rv.toList rs) (hnd : ns.Nodup) (hpos : ∀ n ∈ ns, 0 < n ∧ n ∣ 10 ^ T) (hT : T ≤ 8) (hl0 : 0 < ns.length) (hln : ns.length ≤ 7) (hp : rs.Perm ns) (ho : Ord rs) (m4 : m "ranked" = some (.ref rl)) (m5 : m "some" = some (.ref sl))
    (hQ : ∀ s' dl dv dn, StrsAre dv.toList (rs.map dec) → Acc s0 s'.os s'.drawn s'.gens → Fr g L s'.heap (fun y => if y = Str.ofString "told" then some (.ref dl) else m y) → News g L s'.heap ((dl, listOf dv dn) :: (rl, listOf rv rn) :: (sl, listOf sv sn) :: R) → AllNe dl ((rl, listOf rv rn) :: (sl, listOf sv sn) :: R) → wpAny (model prog w) A (execs (b298.drop 13) (envX (Str.ofString "law") s298 L 298 (.ref 297) [(Str.ofString "tens", cT), (Str.ofString "kept", cK)])) Q NoE s') :
    wpAny (model prog w) A (execs (b298.drop 11) (envX (Str.ofString "law") s298 L 298 (.ref 297) [(Str.ofString "tens", cT), (Str.ofString "kept", cK)])) Q NoE s := by
  refine Eq.subst (motive := fun l => wpAny (model prog w) A (execs l (envX (Str.ofString "law") s298 L 298 (.ref 297) [(Str.ofString "tens", cT), (Str.ofString "kept", cK)])) Q NoE s) (List.take_append_drop 2 (b298.drop 11)) ?_
  have : PySem.Challenge.rw_yh0022_02.prog = PySem.Challenge.rw_yh0022_02.prog ∧ heapK = heapK := by k_fill; exact ⟨rfl, rfl⟩
  clear this
  rw [List.drop_drop]
  generalize hl : b298.drop (11 + 2) = tl
  dsimp only [b298, s298, pick, List.take, List.drop, List.cons_append, List.nil_append]
  (try dsimp only)
  k_steps
  (with_reducible rename News _ _ _ _ => N1); (with_reducible rename Fr _ _ _ _ => F1)
  refine names_c (sub_fr F1 HG) X TR (by (repeat (with_reducible refine dep_lt ?_)); first | exact Nat.lt_of_lt_of_le hdp (Nat.le_of_ble_eq_true rfl) | omega | (simp only [depth_deeper, depth_in1, units_deeper, units_in1]; omega)) B (by (repeat (with_reducible refine uni_lt ?_)); first | exact Nat.lt_of_lt_of_le hun (Nat.le_of_ble_eq_true rfl) | omega | (simp only [depth_deeper, depth_in1, units_deeper, units_in1]; omega)) hh (Nat.le_trans hszL (Nat.le_of_lt F1.ns.lt)) (N1 (sl, _) (by k_mem)).1 hnum (fun n hn => (hpos n hn).1) (fun n hn => Nat.le_trans (cof_of (hpos n hn)).figs_le (by omega)) hnd hl0 (by omega) ?_
  intro s2 dl dc dv rs2 Kp2 e1 e2 hstr hp2 ho2
  obtain rfl : rs2 = rs := ord_uniq (hp2.trans hp.symm) ho2 ho
  have N2 := news_fresh Kp2 F1 (kept_news0 Kp2 N1) e1 e2
  have F2 := kept_fr0 Kp2 F1
  have q2 := allNe_of N1 e1
  clear F1 N1
  iterate 6 (first | walk1 | (dsimp only; walk1))
  (with_reducible rename News _ _ _ _ => N3); (with_reducible rename Fr _ _ _ _ => F3)
  have hrl := hrk.length
  have hrs : rv.size = rs2.length := by rw [← Array.length_toList]; exact hrl
  have hrn : rs2.length = ns.length := hp.length_eq
  have jA2 : Acc s0 s2.os s2.drawn s2.gens := ⟨Kp2.os.trans jA.os, Kp2.drawn.trans jA.drawn, fun q => Kp2.gens (jA.gens q)⟩
  refine LCg.ListComp_U F3 rfl (by decide) rfl (by decide) rfl ?_
  walk1
  refine LCg.CompSrc.ledger hh F3 N3 (.tail _ (.head _)) (by rw [sizeLine_eq]; omega) (fun g9 => comp_each (G := fun v y => ∃ n t t', v = Value.int ((n : Nat) : Int) t ∧ y = .str (dec n) t') (.inr ⟨_, .tail _ (.head _), rfl, _, rfl⟩) (fun i v C oC m₂ Y t E' hv hC hx F6 N6 hm hsub o1 o2 o3 => ?_) (fun ys hy => ?_))
  · obtain ⟨n, hn, t0, rfl⟩ := two_mem2 hrk (x := v) (List.mem_of_getElem? (by simpa using hv))
    have hf9 : figs n ≤ 500 := Nat.le_trans (cof_of (hpos n (hp.mem_iff.mp hn))).figs_le (by omega)
    k_steps
    exact ⟨⟨_, _, _, rfl, rfl⟩, ⟨_, _, rfl, fun _ _ e => e⟩⟩
  · intro D h7 tk7 F7 N7 off7
    have hys := strs_of (two_join2 (T := fun c t => ∃ tok, c = Value.str t tok) (R := fun v x => ∃ n t, x = dec n ∧ v = Value.int ((n : Nat) : Int) t) (fun v x c a b => by
      obtain ⟨n, t, rfl, rfl⟩ := a
      obtain ⟨n', t1, t2, e, rfl⟩ := b
      injection e with e _
      obtain rfl := Int.ofNat.inj e
      exact ⟨_, rfl⟩) (nats_decs hrk) hy)
    refine ne_strs (ts := rs2.map dec) (N7 (dl, _) (.tail _ (.head _))).1 (N7 (D, _) (.head _)).1 hstr hys (fun t ht => by obtain ⟨n, _, rfl⟩ := List.mem_map.mp ht; exact dec_ok n) (by simp only [cLine]; omega) ?_
    dsimp only
    k_steps
    (with_reducible rename News _ _ _ _ => N8); (with_reducible rename Fr _ _ _ _ => F8)
    (try dsimp only)
    subst hl
    exact hQ _ dl dv dc hstr jA2 F8 (news_sub N8 fun p hp => .tail _ hp) q2
end
/- G15_2k -/
section
open PySem PySem.W PySem.Calls PyProof.Rows
local macro_rules | `(tactic| walk_at "subscriptTail Name Slice ref ref") => `(tactic| (k_here; (with_reducible show wpAny _ _ (subscriptTail _ (PySem.Expr.Slice none none (some _) _) _ _) _ _ _); k_dflt (refine krv_lit (by k_asm) (by k_asm) (by kmk_list) (by exact IsPart.int _ _) rfl ?_ (by with_unfolding_all rfl) (by kmk_pure) (by with_reducible assumption)); walk_at "m5"))
theorem nats_rev {a : List Value} {ns : List Nat} (h : NatsAre a ns) : NatsAre a.reverse ns.reverse := by
  induction h with
  | nil => exact .nil
  | cons h _ ih => rw [List.reverse_cons, List.reverse_cons]; exact two_append ih (.cons h .nil)
theorem pure_true : (fun n => isPure n == true) = isPure := by funext n; simp
theorem pure_false : (fun n => isPure n == false) = fun n => !isPure n := by funext n; cases isPure n <;> rfl
theorem nats_cofs {T : Nat} {vs : List Value} {ns : List Nat} (h : NatsAre vs ns) : Paired (fun v x => ∃ n t, x = dec (10 ^ T / n) ∧ v = Value.int ((n : Nat) : Int) t) vs ((ns.map fun n => 10 ^ T / n).map dec) := by
  induction h with
  | nil => exact .nil
  | cons h _ ih => obtain ⟨t, rfl⟩ := h; exact .cons ⟨_, t, rfl, rfl⟩ ih
theorem lawG_c {prog : Program} {w : World} {A : Around} {s s0 : Shared} {H₀ g : Heap} {L : Addr} {p : Program} {loose : List Str} {mg mb m : Str → Option Value} {Q : Flow → Shared → Prop} {bm : Addr} {ob : Obj} {cT cK : Addr} {rl sl ol pl tl' : Addr} {ov pv tv : Array Value} {on pn tn T : Nat} {rs ns : List Nat} {oT : Obj} {t1 : Tok} {R : List (Addr × Obj)}
    (hprog : prog = PySem.Challenge.pw_yh0022_02) (X : (heapK w.params).In H₀) (TR : TopRead p loose mg mb H₀) (XG : (heapK w.params).In g) (TG : TopRead p loose mg mb g) (HG : Sub H₀ g) (B : BMod H₀ mainGlobals mg bm ob) (hdp : A.depth < 455) (hun : A.units < 1450) (hh : A.handled = none) (hszL : H₀.objs.size ≤ L)
    (jA : Acc s0 s.os s.drawn s.gens) (F : Fr g L s.heap m) (N : News g L s.heap ((pl, listOf pv pn) :: (tl', listOf tv tn) :: (ol, listOf ov on) :: (cT, oT) :: R)) (hoT : oT.data = .cell (some (.int ((T : Nat) : Int) t1))) (hT : T ≤ 8)
    (hnum2 : NatsAre ov.toList (ns.map fun n => 10 ^ T / n)) (hpv : NatsAre pv.toList (rs.filter fun n => isPure n == true)) (htv : NatsAre tv.toList (rs.filter fun n => isPure n == false)) (hnd : ns.Nodup) (hpos : ∀ n ∈ ns, 0 < n ∧ n ∣ 10 ^ T) (hl0 : 0 < ns.length) (hln : ns.length ≤ 7) (hp : rs.Perm ns) (ho : Ord rs)
    (m4 : m "other" = some (.ref ol)) (m5 : m "pure" = some (.ref pl)) (m6 : m "rest" = some (.ref tl'))
    (hQ : ∀ s', Acc s0 s'.os s'.drawn s'.gens → Fr g L s'.heap m → News g L s'.heap ((pl, listOf pv pn) :: (tl', listOf tv tn) :: (ol, listOf ov on) :: (cT, oT) :: R) → wpAny (model prog w) A (execs (b298.drop 14) (envX (Str.ofString "law") s298 L 298 (.ref 297) [(Str.ofString "tens", cT), (Str.ofString "kept", cK)])) Q NoE s') :
    wpAny (model prog w) A (execs (b298.drop 13) (envX (Str.ofString "law") s298 L 298 (.ref 297) [(Str.ofString "tens", cT), (Str.ofString "kept", cK)])) Q NoE s := by
  refine Eq.subst (motive := fun l => wpAny (model prog w) A (execs l (envX (Str.ofString "law") s298 L 298 (.ref 297) [(Str.ofString "tens", cT), (Str.ofString "kept", cK)])) Q NoE s) (List.take_append_drop 1 (b298.drop 13)) ?_
  have : PySem.Challenge.rw_yh0022_02.prog = PySem.Challenge.rw_yh0022_02.prog ∧ heapK = heapK := by k_fill; exact ⟨rfl, rfl⟩
  clear this
  rw [List.drop_drop]
  generalize hl : b298.drop (13 + 1) = tl
  dsimp only [b298, s298, pick, List.take, List.drop, List.cons_append, List.nil_append]
  (try dsimp only)
  k_steps
  (with_reducible rename News _ _ _ _ => N1); (with_reducible rename Fr _ _ _ _ => F1)
  have hcd := cof_dvd hpos
  refine names_c (sub_fr F1 HG) X TR (by (repeat (with_reducible refine dep_lt ?_)); first | exact Nat.lt_of_lt_of_le hdp (Nat.le_of_ble_eq_true rfl) | omega | (simp only [depth_deeper, depth_in1, units_deeper, units_in1]; omega)) B (by (repeat (with_reducible refine uni_lt ?_)); first | exact Nat.lt_of_lt_of_le hun (Nat.le_of_ble_eq_true rfl) | omega | (simp only [depth_deeper, depth_in1, units_deeper, units_in1]; omega)) hh (Nat.le_trans hszL (Nat.le_of_lt F1.ns.lt)) (N1 (ol, _) (by k_mem)).1 hnum2 (fun n hn => (hcd n hn).1) (fun n hn => Nat.le_trans (cof_of (hcd n hn)).figs_le (by omega)) (cof_nodup hpos hnd) (by rw [List.length_map]; exact hl0) (by rw [List.length_map]; omega) ?_
  intro s2 dl dc dv rs2 Kp2 e1 e2 hstr hp2 ho2
  have hd2 : ∀ n ∈ rs, 0 < n ∧ n ∣ 10 ^ T := fun n hn => hpos n (hp.mem_iff.mp hn)
  obtain rfl : rs2 = ((rs.filter isPure).reverse ++ (rs.filter (fun n => !isPure n)).reverse).map fun n => 10 ^ T / n := ord_uniq (hp2.trans (other_perm (ranked_first hd2 ho) hp).symm) ho2 (other_sorted hd2 ho)
  have N2 := news_fresh Kp2 F1 (kept_news0 Kp2 N1) e1 e2
  have F2 := kept_fr0 Kp2 F1
  have q2 := allNe_of N1 e1
  clear F1 N1
  rw [pure_true] at hpv
  rw [pure_false] at htv
  have hrn : rs.length = ns.length := hp.length_eq
  have hpl : pv.size = (rs.filter isPure).length := by rw [← Array.length_toList, hpv.length]
  have htl : tv.size = (rs.filter fun n => !isPure n).length := by rw [← Array.length_toList, htv.length]
  have hpl7 : (rs.filter isPure).length ≤ 7 := Nat.le_trans (List.length_filter_le _ _) (by omega)
  have htl7 : (rs.filter fun n => !isPure n).length ≤ 7 := Nat.le_trans (List.length_filter_le _ _) (by omega)
  have hz1 : pv.size ≤ sizeLine := by rw [sizeLine_eq]; omega
  have hz2 : tv.size ≤ sizeLine := by rw [sizeLine_eq]; omega
  refine LCg.ListComp_U F2 rfl (by decide) rfl (by decide) rfl ?_
  iterate 21 (first | walk1 | (dsimp only; walk1))
  dsimp only
  (with_reducible rename News _ _ _ _ => N3); (with_reducible rename Fr _ _ _ _ => F3)
  refine kmk_add_lit F3 N3 (News.isList N3 (.tail _ (.head _))) (News.isList N3 (.head _)) rfl ?_ (by simp only [sizeLine_eq, List.length_reverse, Array.length_toList]; omega)
  intro D4 h4 F4 N4 l4
  generalize hqv0 : (pv.toList.reverse.toArray.toList ++ tv.toList.reverse.toArray.toList).toArray = qv at N4
  have hqv : NatsAre qv.toList ((rs.filter isPure).reverse ++ (rs.filter fun n => !isPure n).reverse) := by rw [← hqv0]; exact two_append (nats_rev hpv) (nats_rev htv)
  have hqz : qv.size ≤ 14 := by rw [← hqv0]; simp only [List.size_toArray, List.length_append, List.length_reverse, Array.length_toList]; omega
  clear F3 N3 hqv0
  have hqd : ∀ n ∈ (rs.filter isPure).reverse ++ (rs.filter fun n => !isPure n).reverse, 0 < n ∧ n ∣ 10 ^ T := fun n hn => hd2 n (by
    rcases List.mem_append.mp hn with h | h
    · exact (List.mem_filter.mp (List.mem_reverse.mp h)).1
    · exact (List.mem_filter.mp (List.mem_reverse.mp h)).1)
  have jA2 : Acc s0 s2.os s2.drawn s2.gens := ⟨Kp2.os.trans jA.os, Kp2.drawn.trans jA.drawn, fun q => Kp2.gens (jA.gens q)⟩
  generalize hqs : (rs.filter isPure).reverse ++ (rs.filter fun n => !isPure n).reverse = qs at hqv hqd hstr hp2 ho2
  refine LCg.CompSrc.ledger hh F4 N4 (.head _) (by rw [sizeLine_eq]; omega) (fun g9 => comp_each (G := fun v y => ∃ n t t', v = Value.int ((n : Nat) : Int) t ∧ y = .str (dec (10 ^ T / n)) t') (.inr ⟨_, .head _, rfl, _, rfl⟩) (fun i v C oC m₂ Y t E' hv hC hx F6 N6 hm hsub o1 o2 o3 => ?_) (fun ys hy => ?_))
  · obtain ⟨n, hn, t0, rfl⟩ := two_mem2 hqv (x := v) (List.mem_of_getElem? (by simpa using hv))
    have hn0 := hqd n hn
    have hn9 := dvd_small hn0.2 hT
    have cn := cof_of hn0
    have hf9 : figs (10 ^ T / n) ≤ 500 := Nat.le_trans cn.symm.figs_le (by omega)
    iterate 7 (first | walk1 | (dsimp only; walk1))
    refine nameC_C (o := oT) N6 rfl (hsub _ (by k_mem)) hoT ?_ rfl rfl rfl
    refine pow_as (a := 10) (k := T) rfl (by decide) (by omega) ?_
    dsimp only
    iterate 1 (first | walk1 | (dsimp only; walk1))
    refine div_nats hn0.1 hn9 ?_
    dsimp only
    k_steps
    exact ⟨⟨_, _, _, rfl, rfl⟩, ⟨_, _, rfl, fun _ _ e => e⟩⟩
  · intro D h7 tk7 F7 N7 off7
    have hys := strs_of (two_join2 (T := fun c t => ∃ tok, c = Value.str t tok) (R := fun v x => ∃ n t, x = dec (10 ^ T / n) ∧ v = Value.int ((n : Nat) : Int) t) (fun v x c a b => by
      obtain ⟨n, t, rfl, rfl⟩ := a
      obtain ⟨n', t1, t2, e, rfl⟩ := b
      injection e with e _
      obtain rfl := Int.ofNat.inj e
      exact ⟨_, rfl⟩) (nats_cofs (T := T) hqv) hy)
    refine ne_strs (ts := (qs.map fun n => 10 ^ T / n).map dec) (N7 (dl, _) (by k_mem)).1 (N7 (D, _) (.head _)).1 hstr hys (fun t ht => by obtain ⟨n, _, rfl⟩ := List.mem_map.mp ht; exact dec_ok n) (by simp only [cLine]; omega) ?_
    dsimp only
    k_steps
    (with_reducible rename News _ _ _ _ => N8); (with_reducible rename Fr _ _ _ _ => F8)
    (try dsimp only)
    subst hl
    exact hQ _ jA2 F8 (news_sub N8 fun p hp => .tail _ (.tail _ (.tail _ (.tail _ (.tail _ hp)))))
end
/- G16_2k -/
section
open PySem PySem.W PySem.Calls PyProof.Rows
/- the length of a word with its blank -/
noncomputable def ulen (u : Str) : Nat := 1 + u.length
/- a row's text -/
noncomputable def rowText (us : List Str) : Str := ptext (us.map fun u => (Str.ofString " ", u))
noncomputable abbrev PartsV (tups : List (Addr × Obj)) (its : List Value) (us : List Str) : Prop := Paired (fun v u => ∃ a t t', v = Value.ref a ∧ (a, tupOf [.str (Str.ofString " ") t, .str u t']) ∈ tups) its us
theorem partsV_more {tups tups' : List (Addr × Obj)} {its : List Value} {us : List Str} (x : PartsV tups its us) (h : ∀ p ∈ tups, p ∈ tups') : PartsV tups' its us := x.mono fun _ _ ⟨a, t, t', e, m⟩ => ⟨a, t, t', e, h _ m⟩
theorem partsV_at {h : Heap} {tups : List (Addr × Obj)} {its : List Value} {us : List Str} (x : PartsV tups its us) (H : ∀ p ∈ tups, h.get? p.1 = some p.2) : Parts h its (us.map fun u => (Str.ofString " ", u)) := by
  induction x with
  | nil => exact parts_nil
  | @cons v u l1 l2 a _ ih =>
    obtain ⟨a, t, t', rfl, m⟩ := a
    refine ⟨by simp [ih.1], fun i v p e f => ?_⟩
    cases i with
    | zero =>
      simp at e f
      subst e f
      exact ⟨a, t, t', rfl, H _ m⟩
    | succ i => exact ih.2 i v p (by simpa using e) (by simpa using f)
theorem blank_len : (Str.ofString " ").length = 1 := by decide +kernel
theorem plen_words (us : List Str) : plen (us.map fun u => (Str.ofString " ", u)) = (((us.map ulen).sum : Nat) : Int) := by
  induction us with
  | nil => rfl
  | cons u us ih =>
    unfold plen at *
    simp only [List.map_cons, List.sum_cons, blank_len]
    rw [ih]
    unfold ulen
    omega
theorem map_snoc {us : List Str} {u : Str} : (us.map fun u => (Str.ofString " ", u)) ++ [(Str.ofString " ", u)] = (us ++ [u]).map fun u => (Str.ofString " ", u) := by simp
section
variable {wd : Nat} {us : List Str}
theorem lay_flat : (layAll ulen wd us).1.flatten ++ (layAll ulen wd us).2 = us := by
  have := layAll_flat (len := ulen) (wd := wd) (ws := us) (st := ([], []))
  simpa [layAll] using this
theorem lay_mem : ∀ u ∈ (layAll ulen wd us).2, u ∈ us := fun u h => by
  have := lay_flat (wd := wd) (us := us)
  rw [← this]; exact List.mem_append_right _ h
theorem lay_len2 : (layAll ulen wd us).2.length ≤ us.length := by
  have := congrArg List.length (lay_flat (wd := wd) (us := us))
  rw [List.length_append] at this; omega
theorem fold_len1 {α : Type} {len : α → Nat} {wd : Nat} (ws : List α) : ∀ st : List (List α) × List α, (ws.foldl (lay len wd) st).1.length ≤ st.1.length + ws.length := by
  induction ws with
  | nil => intro st; exact Nat.le_refl _
  | cons w ws ih =>
    intro st
    rw [List.foldl_cons]
    refine Nat.le_trans (ih _) ?_
    unfold lay
    split <;> simp <;> omega
theorem lay_len1 : (layAll ulen wd us).1.length ≤ us.length := by
  have := fold_len1 (len := ulen) (wd := wd) us ([], [])
  simpa [layAll] using this
end
/- the formatter as the ledger tells it -/
noncomputable abbrev VN (P : Params) (wd : Nat) (x xd ll ax ad : Addr) (k : VTok) (li : Array Value) (nl : Nat) (items : Array Value) (n : Nat) (t1 t2 : Tok) (ps1 ps2 : Array Value) (tl : List (Addr × Obj)) : List (Addr × Obj) :=
  (x, instObj 94 xd) :: (xd, vfD P (wd : Int) 1 (Str.ofString " ") (Str.ofString " \t") ll ax k) :: (ll, listOf li nl) :: (ax, lobj 178 ad items n) :: (ad, accD P 0 t1 t2) :: (140, tabObj ps1) :: (147, tabObj ps2) :: tl
/- what holds of it when the words us are laid -/
structure VJ (wd : Nat) (us : List Str) (li items ps1 ps2 : Array Value) (tups : List (Addr × Obj)) : Prop where
  lines : StrsAre li.toList ((layAll ulen wd us).1.map rowText)
  parts : PartsV tups items.toList (layAll ulen wd us).2
  t1 : TriplesOk ps1.toList
  t2 : TriplesOk ps2.toList
  cls : ∀ p ∈ tups, p.2.cls = .type "tuple"
/- the rest of the ledger is none of the five objects that change -/
noncomputable def Off5 (ll ax ad : Addr) (l : List (Addr × Obj)) : Prop := ∀ p ∈ l, p.1 ∉ [ll, ax, ad, (140 : Addr), (147 : Addr)]
theorem notin5 {a b c d e f : Addr} (h1 : @Ne Nat a b) (h2 : @Ne Nat a c) (h3 : @Ne Nat a d) (h4 : @Ne Nat a e) (h5 : @Ne Nat a f) : a ∉ [b, c, d, e, f] := fun h => by
  rcases List.mem_cons.mp h with h | h
  · exact h1 h
  rcases List.mem_cons.mp h with h | h
  · exact h2 h
  rcases List.mem_cons.mp h with h | h
  · exact h3 h
  rcases List.mem_cons.mp h with h | h
  · exact h4 h
  rcases List.mem_cons.mp h with h | h
  · exact h5 h
  · cases h
theorem notin2 {a b c : Addr} (h1 : @Ne Nat a b) (h2 : @Ne Nat a c) : a ∉ [b, c] := fun h => by
  rcases List.mem_cons.mp h with h | h
  · exact h1 h
  rcases List.mem_cons.mp h with h | h
  · exact h2 h
  · cases h
theorem kept_5 {a b c d e : Addr} {s s' : Shared} (h : Kept [b, d] s s') : Kept [a, b, c, d, e] s s' := h.mono fun x hx => by
  rcases List.mem_cons.mp hx with rfl | hx
  · exact .tail _ (.head _)
  rcases List.mem_cons.mp hx with rfl | hx
  · exact .tail _ (.tail _ (.tail _ (.head _)))
  · cases hx
theorem append_law {prog : Program} {w : World} {A : Around} {s s0 : Shared} {H₀ g : Heap} {L : Addr} {p : Program} {loose : List Str} {mg mb m : Str → Option Value} {bm : Addr} {ob : Obj} {x xd ll ax ad : Addr} {k : VTok} {li items ps1 ps2 : Array Value} {nl n wd : Nat} {t1 t2 ta tb : Tok} {tups R : List (Addr × Obj)} {us : List Str} {u : Str} {E : Value → Shared → Prop} {Q : Value → Shared → Prop} (hprog : prog = PySem.Challenge.pw_yh0022_02)
    (HG : Sub H₀ g) (X : (heapK w.params).In H₀) (TR : TopRead p loose mg mb H₀) (hdp : A.depth < 470) (B : BMod H₀ mainGlobals mg bm ob) (hun : A.units < 1700) (hh : A.handled = none) (jA : Acc s0 s.os s.drawn s.gens) (hG : AllBare s0.gens)
    (F : Fr g L s.heap m) (N : News g L s.heap (VN w.params wd x xd ll ax ad k li nl items n t1 t2 ps1 ps2 (tups ++ R))) (J : VJ wd us li items ps1 ps2 tups) (z : Off5 ll ax ad (tups ++ R)) (hwd : wd ≤ 100) (hul : ∀ v ∈ us ++ [u], v.length ≤ 100) (hln : us.length ≤ 20)
    (hQ : ∀ s' li' nl' items' n' t1' t2' ps1' ps2' tups', Fr g L s'.heap m → News g L s'.heap (VN w.params wd x xd ll ax ad k li' nl' items' n' t1' t2' ps1' ps2' (tups' ++ R)) → VJ wd (us ++ [u]) li' items' ps1' ps2' tups' → Off5 ll ax ad (tups' ++ R) → Acc s0 s'.os s'.drawn s'.gens → Q .none s') :
    wpAny (model prog w) A (call (.ref 91) [.ref x, .str (Str.ofString " ") ta, .str u tb]) Q E s := by
  have : PySem.Challenge.rw_yh0022_02.prog = PySem.Challenge.rw_yh0022_02.prog ∧ heapK = heapK := by k_fill; exact ⟨rfl, rfl⟩
  clear this
  have HS := sub_fr F HG
  have hx := N (x, _) (.head _)
  have hxd := N (xd, _) (.tail _ (.head _))
  have hll := N (ll, _) (.tail _ (.tail _ (.head _)))
  have hax := N (ax, _) (.tail _ (.tail _ (.tail _ (.head _))))
  have had := N (ad, _) (.tail _ (.tail _ (.tail _ (.tail _ (.head _)))))
  have hP1 := N (140, _) (.tail _ (.tail _ (.tail _ (.tail _ (.tail _ (.head _))))))
  have hP2 := N (147, _) (.tail _ (.tail _ (.tail _ (.tail _ (.tail _ (.tail _ (.head _)))))))
  obtain ⟨n1, n2, n3, n4, n5, n6, n7, n8, n9, n10, n11, n12, n13, n14, n15, n16, n17, n18, n19, n20⟩ := vf_nes hx.1 hxd.1 hll.1 hax.1 had.1 hP1.1 hP2.1
  have hgen := jA.gens hG
  have hpt := partsV_at J.parts fun p hp => (N p (.tail _ (.tail _ (.tail _ (.tail _ (.tail _ (.tail _ (.tail _ (List.mem_append_left _ hp))))))))).1
  have hsm : ∀ q ∈ ((layAll ulen wd us).2.map fun u => (Str.ofString " ", u)) ++ [(Str.ofString " ", u)], q.1.length ≤ 1000 ∧ q.2.length ≤ 1000 := fun q hq => by
    rw [map_snoc] at hq
    obtain ⟨v, hv, rfl⟩ := List.mem_map.mp hq
    refine ⟨by rw [blank_len]; decide, ?_⟩
    have : v.length ≤ 100 := hul v (by
      rcases List.mem_append.mp hv with h | h
      · exact List.mem_append_left _ (lay_mem v h)
      · exact List.mem_append_right _ h)
    show v.length ≤ 1000
    omega
  have hlen : (((layAll ulen wd us).2.map fun u => (Str.ofString " ", u)) ++ [(Str.ofString " ", u)]).length ≤ 900 := by
    have := lay_len2 (wd := wd) (us := us)
    simp; omega
  have hpl : plen (((layAll ulen wd us).2.map fun u => (Str.ofString " ", u)) ++ [(Str.ofString " ", u)]) = ((((layAll ulen wd us).2.map ulen).sum + ulen u : Nat) : Int) := by
    rw [map_snoc, plen_words]; simp
  have hlil : li.size ≤ 100000 := by
    have h1 := StrsAre.length J.lines
    have h2 := lay_len1 (wd := wd) (us := us)
    rw [List.length_map, Array.length_toList] at h1; omega
  have base : ∀ {s' : Shared}, Kept [ll, ax, ad, (140 : Addr), (147 : Addr)] s s' → ∀ {li' items' ps1' ps2' : Array Value} {nl' n' : Nat} {t1' t2' : Tok} {tp : Addr} {ot : Obj}, s'.heap.get? ll = some (listOf li' nl') → s'.heap.get? ax = some (lobj 178 ad items' n') → s'.heap.get? ad = some (accD w.params 0 t1' t2') → s'.heap.get? 140 = some (tabObj ps1') → s'.heap.get? 147 = some (tabObj ps2') →
      s.heap.get? tp = none → s'.heap.get? tp = some ot → Fr g L s'.heap m ∧ News g L s'.heap (VN w.params wd x xd ll ax ad k li' nl' items' n' t1' t2' ps1' ps2' (((tp, ot) :: tups) ++ R)) ∧ Off5 ll ax ad (((tp, ot) :: tups) ++ R) ∧ Acc s0 s'.os s'.drawn s'.gens := by
    intro s' Kp li' items' ps1' ps2' nl' n' t1' t2' tp ot e1 e2 e3 e4 e5 f1 f2
    have F5 := stepU Kp F N (news' := VN w.params wd x xd ll ax ad k li' nl' items' n' t1' t2' ps1' ps2' (tups ++ R)) (fun t ht => ?_) (fun q hq => ?_)
    · obtain ⟨F5, N5⟩ := F5
      have N6 := news_fresh Kp F N5 f1 f2
      have ne_of : ∀ {b : Addr} {o : Obj}, s.heap.get? b = some o → @Ne Nat tp b := fun {b o} e q => by
        rw [show tp = b from q, e] at f1; cases f1
      refine ⟨F5, news_sub N6 fun p hp => ?_, List.forall_mem_cons.mpr ⟨notin5 (ne_of hll.1) (ne_of hax.1) (ne_of had.1) (ne_of hP1.1) (ne_of hP2.1), z⟩, ⟨Kp.os.trans jA.os, Kp.drawn.trans jA.drawn, fun q => Kp.gens (jA.gens q)⟩⟩
      rcases List.mem_cons.mp hp with rfl | hp
      · exact .tail _ (.head _)
      rcases List.mem_cons.mp hp with rfl | hp
      · exact .tail _ (.tail _ (.head _))
      rcases List.mem_cons.mp hp with rfl | hp
      · exact .tail _ (.tail _ (.tail _ (.head _)))
      rcases List.mem_cons.mp hp with rfl | hp
      · exact .tail _ (.tail _ (.tail _ (.tail _ (.head _))))
      rcases List.mem_cons.mp hp with rfl | hp
      · exact .tail _ (.tail _ (.tail _ (.tail _ (.tail _ (.head _)))))
      rcases List.mem_cons.mp hp with rfl | hp
      · exact .tail _ (.tail _ (.tail _ (.tail _ (.tail _ (.tail _ (.head _))))))
      rcases List.mem_cons.mp hp with rfl | hp
      · exact .tail _ (.tail _ (.tail _ (.tail _ (.tail _ (.tail _ (.tail _ (.head _)))))))
      rcases List.mem_cons.mp hp with rfl | hp
      · exact .head _
      · exact .tail _ (.tail _ (.tail _ (.tail _ (.tail _ (.tail _ (.tail _ (.tail _ hp)))))))
    · rcases List.mem_cons.mp ht with rfl | ht
      · exact .tail _ (.tail _ (.head _))
      rcases List.mem_cons.mp ht with rfl | ht
      · exact .tail _ (.tail _ (.tail _ (.head _)))
      rcases List.mem_cons.mp ht with rfl | ht
      · exact .tail _ (.tail _ (.tail _ (.tail _ (.head _))))
      rcases List.mem_cons.mp ht with rfl | ht
      · exact .tail _ (.tail _ (.tail _ (.tail _ (.tail _ (.head _)))))
      rcases List.mem_cons.mp ht with rfl | ht
      · exact .tail _ (.tail _ (.tail _ (.tail _ (.tail _ (.tail _ (.head _))))))
      · cases ht
    · rcases List.mem_cons.mp hq with rfl | hq
      · exact .inl ⟨.head _, notin5 n2 n3 n4 n11 n12⟩
      rcases List.mem_cons.mp hq with rfl | hq
      · exact .inl ⟨.tail _ (.head _), notin5 n5 n6 n7 n13 n14⟩
      rcases List.mem_cons.mp hq with rfl | hq
      · exact .inr ⟨e1, .tail _ (.tail _ (.head _))⟩
      rcases List.mem_cons.mp hq with rfl | hq
      · exact .inr ⟨e2, .tail _ (.tail _ (.tail _ (.head _)))⟩
      rcases List.mem_cons.mp hq with rfl | hq
      · exact .inr ⟨e3, .tail _ (.tail _ (.tail _ (.tail _ (.head _))))⟩
      rcases List.mem_cons.mp hq with rfl | hq
      · exact .inr ⟨e4, .tail _ (.tail _ (.tail _ (.tail _ (.tail _ (.head _)))))⟩
      rcases List.mem_cons.mp hq with rfl | hq
      · exact .inr ⟨e5, .tail _ (.tail _ (.tail _ (.tail _ (.tail _ (.tail _ (.head _))))))⟩
      · exact .inl ⟨.tail _ (.tail _ (.tail _ (.tail _ (.tail _ (.tail _ (.tail _ hq)))))), z q hq⟩
  by_cases hfit : ((layAll ulen wd us).2.map ulen).sum + ulen u ≤ wd
  · have hlay : layAll ulen wd (us ++ [u]) = ((layAll ulen wd us).1, (layAll ulen wd us).2 ++ [u]) := by rw [layAll_snoc]; exact lay_fit (.inr hfit)
    refine appendA_c hprog HS X TR hdp B hun hh hgen hP1.1 (sub_none HG hP1.2.2) J.t1 hP2.1 (sub_none HG hP2.2.2) J.t2 hx.1 hxd.1 hll.1 hax.1 had.1 (sub_none HG hx.2.2) (sub_none HG hxd.2.2) (sub_none HG hll.2.2) (sub_none HG hax.2.2) (sub_none HG had.2.2) hpt hsm hlen (Int.le_refl _) (by decide) (by rw [hpl]; omega) (by omega) ?_
    intro s' ps1' n' tp Kp q1 q2 q3 q4 q5
    obtain ⟨F5, N5, z5, A5⟩ := base (kept_5 Kp) (Kp.keep ll _ (notin2 n8 n15) hll.1) q5 (Kp.keep ad _ (notin2 (Ne.symm n10) n19) had.1) q1 (Kp.keep 147 _ (notin2 (Ne.symm n18) (by decide)) hP2.1) q3 q4
    refine hQ s' _ _ _ _ _ _ _ _ _ F5 N5 ⟨?_, ?_, q2, J.t2, List.forall_mem_cons.mpr ⟨rfl, J.cls⟩⟩ z5 A5
    · rw [hlay]; exact J.lines
    · rw [hlay, Array.toList_push]
      exact two_append (partsV_more J.parts fun p hp => .tail _ hp) (.cons ⟨tp, _, _, rfl, .head _⟩ .nil)
  · by_cases h0 : (layAll ulen wd us).2 = []
    · have hlay : layAll ulen wd (us ++ [u]) = ((layAll ulen wd us).1, (layAll ulen wd us).2 ++ [u]) := by rw [layAll_snoc]; exact lay_fit (.inl h0)
      have hit : items = #[] := by
        have := J.parts.length
        rw [h0, Array.length_toList] at this
        exact Array.eq_empty_of_size_eq_zero this
      have hu9 := hul u (List.mem_append_right _ (.head _))
      refine appendD_c hprog HS X TR hdp B hun hh hgen hP1.1 (sub_none HG hP1.2.2) J.t1 hP2.1 (sub_none HG hP2.2.2) J.t2 hx.1 hxd.1 hll.1 hax.1 had.1 (sub_none HG hx.2.2) (sub_none HG hxd.2.2) (sub_none HG hll.2.2) (sub_none HG hax.2.2) (sub_none HG had.2.2) hit rfl (by omega) rfl (by
        rw [h0] at hpl hfit
        simp only [List.map_nil, List.nil_append] at hpl
        rw [hpl]
        simp only [List.map_nil, List.sum_nil] at hfit ⊢
        omega) (by omega) ?_
      intro s' ps1' n' tp Kp q1 q2 q3 q4 q5
      obtain ⟨ta', tb', q4⟩ := q4
      obtain ⟨F5, N5, z5, A5⟩ := base (kept_5 Kp) (Kp.keep ll _ (notin2 n8 n15) hll.1) q5 (Kp.keep ad _ (notin2 (Ne.symm n10) n19) had.1) q1 (Kp.keep 147 _ (notin2 (Ne.symm n18) (by decide)) hP2.1) q3 q4
      refine hQ s' _ _ _ _ _ _ _ _ _ F5 N5 ⟨?_, ?_, q2, J.t2, List.forall_mem_cons.mpr ⟨rfl, J.cls⟩⟩ z5 A5
      · rw [hlay]; exact J.lines
      · rw [hlay, h0]
        exact .cons ⟨tp, _, _, rfl, .head _⟩ .nil
    · have hlay : layAll ulen wd (us ++ [u]) = ((layAll ulen wd us).1 ++ [(layAll ulen wd us).2], [u]) := by rw [layAll_snoc]; exact lay_cut h0 hfit
      have hit : 0 < items.size := by
        have := J.parts.length
        rw [Array.length_toList] at this
        have := List.length_pos_iff.mpr h0
        omega
      refine appendC_c hprog HS X TR hdp B hun hh hgen hP1.1 (sub_none HG hP1.2.2) J.t1 hP2.1 (sub_none HG hP2.2.2) J.t2 hx.1 hxd.1 hll.1 hax.1 had.1 (sub_none HG hx.2.2) (sub_none HG hxd.2.2) (sub_none HG hll.2.2) (sub_none HG hax.2.2) (sub_none HG had.2.2) hpt hit rfl rfl hsm hlen (by rw [hpl]; omega) (by omega) hlil ?_
      intro s' ps1' ps2' n' u1 u2 tp Kp q1 q2 q3 q4 q5 q6 q7 q8 q9
      obtain ⟨tt, nl', q5⟩ := q5
      obtain ⟨F5, N5, z5, A5⟩ := base Kp q5 q8 q9 q1 q3 q6 q7
      refine hQ s' _ _ _ _ _ _ _ _ _ F5 N5 ⟨?_, ?_, q2, q4, List.forall_mem_cons.mpr ⟨rfl, J.cls⟩⟩ z5 A5
      · rw [hlay, Array.toList_push, List.map_append]
        exact strs_push J.lines
      · rw [hlay]
        exact .cons ⟨tp, _, _, rfl, .head _⟩ .nil
end
/- G17_2k -/
section
open PySem PySem.W PySem.Calls PyProof.Rows
theorem int_of_dec {prog : Program} {w : World} {A : Around} {E : Value → Shared → Prop} {s : Shared} {Q : Value → Shared → Prop} {n : Nat} {t : Tok} (hn : n < 10 ^ 10) (h : Q (.int ((n : Nat) : Int) s.toks) { s with toks := s.toks + 1 }) : wpAny (model prog w) A (call (.type "int") [.str (dec n) t]) Q E s :=
  KIN.call_num (n := ((n : Nat) : Int)) (Int.natCast_nonneg n) (by omega) h
theorem lawH1_c {prog : Program} {w : World} {A : Around} {s s0 : Shared} {H₀ g : Heap} {L : Addr} {p : Program} {loose : List Str} {mg mb m : Str → Option Value} {Q : Flow → Shared → Prop} {bm : Addr} {ob : Obj} {cT cK : Addr} {ps1 ps2 : Array Value} {wd : Nat} {t3 : Tok} {R : List (Addr × Obj)}
    (hprog : prog = PySem.Challenge.pw_yh0022_02) (X : (heapK w.params).In H₀) (TR : TopRead p loose mg mb H₀) (XG : (heapK w.params).In g) (TG : TopRead p loose mg mb g) (HG : Sub H₀ g) (B : BMod H₀ mainGlobals mg bm ob) (hdp : A.depth < 455) (hun : A.units < 1450) (hh : A.handled = none) (hszL : H₀.objs.size ≤ L)
    (jA : Acc s0 s.os s.drawn s.gens) (F : Fr g L s.heap m) (N : News g L s.heap ((140, tabObj ps1) :: (147, tabObj ps2) :: R)) (ht1 : TriplesOk ps1.toList) (ht2 : TriplesOk ps2.toList) (m4 : m "width" = some (.int ((wd : Nat) : Int) t3)) (zR : ∀ p ∈ R, p.1 ≠ (140 : Addr) ∧ p.1 ≠ (147 : Addr))
    (hQ : ∀ s' x xd ll ax ad k nl n t1 t2, Fr g L s'.heap (fun y => if y = Str.ofString "formatter" then some (.ref x) else m y) → News g L s'.heap (VN w.params wd x xd ll ax ad k #[] nl #[] n t1 t2 ps1 ps2 ([] ++ R)) → VJ wd [] #[] #[] ps1 ps2 [] → Off5 ll ax ad ([] ++ R) → Acc s0 s'.os s'.drawn s'.gens → wpAny (model prog w) A (execs (b298.drop 15) (envX (Str.ofString "law") s298 L 298 (.ref 297) [(Str.ofString "tens", cT), (Str.ofString "kept", cK)])) Q NoE s') :
    wpAny (model prog w) A (execs (b298.drop 14) (envX (Str.ofString "law") s298 L 298 (.ref 297) [(Str.ofString "tens", cT), (Str.ofString "kept", cK)])) Q NoE s := by
  refine Eq.subst (motive := fun l => wpAny (model prog w) A (execs l (envX (Str.ofString "law") s298 L 298 (.ref 297) [(Str.ofString "tens", cT), (Str.ofString "kept", cK)])) Q NoE s) (List.take_append_drop 1 (b298.drop 14)) ?_
  have : PySem.Challenge.rw_yh0022_02.prog = PySem.Challenge.rw_yh0022_02.prog ∧ heapK = heapK := by k_fill; exact ⟨rfl, rfl⟩
  clear this
  rw [List.drop_drop]
  generalize hl : b298.drop (14 + 1) = tl
  dsimp only [b298, s298, pick, List.take, List.drop, List.cons_append, List.nil_append]
  (try dsimp only)
  k_steps
  (with_reducible rename News _ _ _ _ => N1); (with_reducible rename Fr _ _ _ _ => F1)
  refine vf_make hprog (sub_fr F1 HG) X TR (by (repeat (with_reducible refine dep_lt ?_)); first | exact Nat.lt_of_lt_of_le hdp (Nat.le_of_ble_eq_true rfl) | omega | (simp only [depth_deeper, depth_in1, units_deeper, units_in1]; omega)) (Nat.le_trans hszL (Nat.le_of_lt F1.ns.lt)) (by rw [blank_len]; decide) ?_
  intro s2 x xd ll ax ad k u1 u2 Kp f1 f2 f3 f4 f5 e1 e2 e3 e4 e5
  rw [blank_len] at e2
  have F2 := kept_fr0 Kp F1
  have N2 := news_fresh Kp F1 (news_fresh Kp F1 (news_fresh Kp F1 (news_fresh Kp F1 (news_fresh Kp F1 (kept_news0 Kp N1) f5 e5) f4 e4) f3 e3) f2 e2) f1 e1
  have ne_of : ∀ {b : Addr}, s.heap.get? b = none → ∀ p ∈ R, @Ne Nat p.1 b := fun {b} e p hp q => by
    have := (N1 p (.tail _ (.tail _ hp))).1
    rw [show p.1 = b from q, e] at this; cases this
  have z : Off5 ll ax ad ([] ++ R) := fun p hp => notin5 (ne_of f3 p hp) (ne_of f4 p hp) (ne_of f5 p hp) (zR p hp).1 (zR p hp).2
  have A2 : Acc s0 s2.os s2.drawn s2.gens := ⟨Kp.os.trans jA.os, Kp.drawn.trans jA.drawn, fun q => Kp.gens (jA.gens q)⟩
  clear F1 N1
  k_steps
  (with_reducible rename News _ _ _ _ => N3); (with_reducible rename Fr _ _ _ _ => F3)
  (try dsimp only)
  subst hl
  exact hQ _ x xd ll ax ad k 0 0 u1 u2 F3 N3 ⟨.nil, .nil, ht1, ht2, fun p hp => nomatch hp⟩ z A2
end
/- G18_2k -/
section
open PySem PySem.W PySem.Calls PyProof.Rows
theorem add_txt {prog : Program} {w : World} {A : Around} {E : Value → Shared → Prop} {s : Shared} {Q : Value → Shared → Prop} {x y : Str} {t u : Tok} (hz : x.length + y.length ≤ 100000) (h : ∀ t' c, Q (.str (x ++ y) t') { s with toks := c }) : wpAny (model prog w) A (binaryOp .Add (.str x t) (.str y u)) Q E s :=
  SBL.add (fun t' c _ => h t' c) (by rw [sizeLine_eq]; omega)
theorem app_len (x y : Str) : (x ++ y : Str).length = x.length + y.length := Array.size_append
theorem star_len : (Str.ofString "*").length = 1 := by decide +kernel
/- a word of the law, without its blank -/
noncomputable def wordOf (T n : Nat) : Str := dec n ++ Str.ofString "*" ++ dec (10 ^ T / n)
structure FmtJ (P : Params) (s0 : Shared) (wd T : Nat) (rs : List Nat) (x xd ll ax ad : Addr) (k : VTok) (R : List (Addr × Obj)) (m0 : Str → Option Value) (i : Nat) (m : Str → Option Value) (news : List (Addr × Obj)) (s : Shared) : Prop where
  ok : ∃ li nl items n t1 t2 ps1 ps2 tups, news = VN P wd x xd ll ax ad k li nl items n t1 t2 ps1 ps2 (tups ++ R) ∧ VJ wd ((rs.take i).map (wordOf T)) li items ps1 ps2 tups ∧ Off5 ll ax ad (tups ++ R)
  same : ∀ y : Str, y ≠ Str.ofString "text" → m y = m0 y
  acc : Acc s0 s.os s.drawn s.gens
theorem lawH2_c {prog : Program} {w : World} {A : Around} {s s0 : Shared} {H₀ g : Heap} {L : Addr} {p : Program} {loose : List Str} {mg mb m : Str → Option Value} {Q : Flow → Shared → Prop} {bm : Addr} {ob : Obj} {cT cK : Addr} {x xd ll ax ad dl : Addr} {k : VTok} {nl n dn wd T : Nat} {dv ps1 ps2 : Array Value} {u1 u2 t1 : Tok} {rs : List Nat} {oT : Obj} {R : List (Addr × Obj)}
    (hprog : prog = PySem.Challenge.pw_yh0022_02) (X : (heapK w.params).In H₀) (TR : TopRead p loose mg mb H₀) (XG : (heapK w.params).In g) (TG : TopRead p loose mg mb g) (HG : Sub H₀ g) (B : BMod H₀ mainGlobals mg bm ob) (hdp : A.depth < 455) (hun : A.units < 1450) (hh : A.handled = none) (hszL : H₀.objs.size ≤ L)
    (jA : Acc s0 s.os s.drawn s.gens) (hG : AllBare s0.gens) (F : Fr g L s.heap m) (N : News g L s.heap (VN w.params wd x xd ll ax ad k #[] nl #[] n u1 u2 ps1 ps2 ([] ++ ((cT, oT) :: (dl, listOf dv dn) :: R)))) (J : VJ wd [] #[] #[] ps1 ps2 []) (z : Off5 ll ax ad ([] ++ ((cT, oT) :: (dl, listOf dv dn) :: R)))
    (hoT : oT.data = .cell (some (.int ((T : Nat) : Int) t1))) (hT : T ≤ 8) (hstr : StrsAre dv.toList (rs.map dec)) (hpos : ∀ n ∈ rs, 0 < n ∧ n ∣ 10 ^ T) (hln : rs.length ≤ 7) (hwd : wd ≤ 100) (m4 : m "told" = some (.ref dl)) (m5 : m "formatter" = some (.ref x))
    (hQ : ∀ s' m' li nl' items n' u1' u2' ps1' ps2' tups, (∀ y : Str, y ≠ Str.ofString "text" → m' y = m y) → Fr g L s'.heap m' → News g L s'.heap (VN w.params wd x xd ll ax ad k li nl' items n' u1' u2' ps1' ps2' (tups ++ ((cT, oT) :: (dl, listOf dv dn) :: R))) → VJ wd (rs.map (wordOf T)) li items ps1' ps2' tups → Off5 ll ax ad (tups ++ ((cT, oT) :: (dl, listOf dv dn) :: R)) → Acc s0 s'.os s'.drawn s'.gens → wpAny (model prog w) A (execs (b298.drop 16) (envX (Str.ofString "law") s298 L 298 (.ref 297) [(Str.ofString "tens", cT), (Str.ofString "kept", cK)])) Q NoE s') :
    wpAny (model prog w) A (execs (b298.drop 15) (envX (Str.ofString "law") s298 L 298 (.ref 297) [(Str.ofString "tens", cT), (Str.ofString "kept", cK)])) Q NoE s := by
  refine Eq.subst (motive := fun l => wpAny (model prog w) A (execs l (envX (Str.ofString "law") s298 L 298 (.ref 297) [(Str.ofString "tens", cT), (Str.ofString "kept", cK)])) Q NoE s) (List.take_append_drop 1 (b298.drop 15)) ?_
  have : PySem.Challenge.rw_yh0022_02.prog = PySem.Challenge.rw_yh0022_02.prog ∧ heapK = heapK := by k_fill; exact ⟨rfl, rfl⟩
  clear this
  rw [List.drop_drop]
  generalize hl : b298.drop (15 + 1) = tl
  dsimp only [b298, s298, pick, List.take, List.drop, List.cons_append, List.nil_append]
  (try dsimp only)
  have hdl := StrsAre.length hstr
  rw [List.length_map, Array.length_toList] at hdl
  walk1
  refine for_own ?_ (fun _ => rfl)
  refine nameX_L F m4 ?_ rfl rfl rfl
  refine iter_list_own (items := dv) F N (News.isList N (by
    refine .tail _ (.tail _ (.tail _ (.tail _ (.tail _ (.tail _ (.tail _ (.tail _ (.head _)))))))))) ?_
  intro I h5 oI0 hI0 F5 N5 hoff5 k5
  refine for_list_invN (items := dv) hh (FmtJ w.params s0 wd T rs x xd ll ax ad k ((cT, oT) :: (dl, listOf dv dn) :: R) m)
    (fun i m' news' s' h' q => ⟨q.ok, q.same, q.acc⟩) (fun i m' news' s' h' q N => ?_) (fun i v m' news' s' tk' I3 oI3 hv q hI3 F3 N3 hoff3 => ?_) (fun m' news' s' q F3 N3 => ?_) (Nat.zero_le _) hI0
    ⟨⟨_, _, _, _, _, _, _, _, [], rfl, J, z⟩, fun _ _ => rfl, jA⟩ F5 N5 hoff5
  · obtain ⟨li, nl1, items, n1, a1, a2, p1, p2, tups, rfl, q1, q2⟩ := q.ok
    exact News.isList N (.tail _ (.tail _ (.tail _ (.tail _ (.tail _ (.tail _ (.tail _ (List.mem_append_right _ (.tail _ (.head _))))))))))
  · obtain ⟨li, nl1, items, n1, a1, a2, p1, p2, tups, rfl, q1, q2⟩ := q.ok
    have hi3 : i < dv.size := (Array.getElem?_eq_some_iff.mp hv).1
    have hir : i < rs.length := by omega
    have hn : rs[i]? = some rs[i] := List.getElem?_eq_getElem hir
    generalize rs[i] = nn at hn
    have hnn := List.mem_of_getElem? hn
    obtain ⟨tx, htx⟩ := StrsAre.get hstr i (dec nn) (by rw [List.getElem?_map, hn]; rfl)
    obtain rfl : v = .str (dec nn) tx := Option.some.inj ((by simpa using hv : dv.toList[i]? = some v).symm.trans htx)
    have cn := cof_of (hpos nn hnn)
    have hn9 := dvd_small (hpos nn hnn).2 hT
    have hc9 : figs (10 ^ T / nn) ≤ 500 := Nat.le_trans cn.symm.figs_le (by omega)
    refine wpAny_assign_Name ?_
    walk1
    dsimp only
    (with_reducible rename Fr _ _ _ _ => F4); (with_reducible rename News _ _ _ _ => N4)
    have N6 : News g L _ ((cT, oT) :: VN w.params wd x xd ll ax ad k li nl1 items n1 a1 a2 p1 p2 (tups ++ ((I3, oI3) :: (cT, oT) :: (dl, listOf dv dn) :: R))) := news_sub N4 (by
      refine sub_cons ?_ ?_
      · exact .tail _ (.tail _ (.tail _ (.tail _ (.tail _ (.tail _ (.tail _ (.tail _ (List.mem_append_right _ (.head _)))))))))
      · iterate 7 (refine sub_cons (by k_mem) ?_)
        intro p hp
        rcases List.mem_append.mp hp with hp | hp
        · exact .tail _ (.tail _ (.tail _ (.tail _ (.tail _ (.tail _ (.tail _ (.tail _ (List.mem_append_left _ hp))))))))
        · rcases List.mem_cons.mp hp with rfl | hp
          · exact .head _
          · exact .tail _ (.tail _ (.tail _ (.tail _ (.tail _ (.tail _ (.tail _ (.tail _ (List.mem_append_right _ hp)))))))))
    clear N4
    have mf : m' (Str.ofString "formatter") = some (.ref x) := (q.same _ (by decide)).trans m5
    dsimp only [VN] at N6
    have ln := dec_length cn.pos
    have lc := dec_length cn.posc
    have fn9 := cn.figs_le
    have fc9 := cn.symm.figs_le
    iterate 13 (first | walk1 | (dsimp only; walk1))
    refine add_txt (by rw [star_len]; omega) ?_
    intro ta9 ca9
    iterate 8 (first | walk1 | (dsimp only; walk1))
    refine pow_as (a := 10) (k := T) rfl (by decide) (by omega) ?_
    dsimp only
    have ni9 : nn < 10 ^ 10 := by omega
    iterate 6 (first | walk1 | (dsimp only; walk1))
    refine int_of_dec ni9 ?_
    dsimp only
    refine div_nats cn.pos hn9 ?_
    dsimp only
    iterate 2 (first | walk1 | (dsimp only; walk1))
    refine add_txt (by rw [app_len, star_len]; omega) ?_
    intro tb9 cb9
    dsimp only
    iterate 2 (first | walk1 | (dsimp only; walk1))
    (with_reducible rename Fr _ _ _ _ => F7); (with_reducible rename News _ _ _ _ => N7)
    refine append_law (R := (I3, oI3) :: (cT, oT) :: (dl, listOf dv dn) :: R) (us := (rs.take i).map (wordOf T)) hprog HG X TR (by (repeat (with_reducible refine dep_lt ?_)); first | exact Nat.lt_of_lt_of_le hdp (Nat.le_of_ble_eq_true rfl) | omega | (simp only [depth_deeper, depth_in1, units_deeper, units_in1]; omega)) B (by (repeat (with_reducible refine uni_lt ?_)); first | exact Nat.lt_of_lt_of_le hun (Nat.le_of_ble_eq_true rfl) | omega | (simp only [depth_deeper, depth_in1, units_deeper, units_in1]; omega)) hh q.acc hG F7 (news_sub N7 fun p hp => .tail _ hp) q1 ?_ hwd ?_ ?_ ?_
    · intro p hp
      rcases List.mem_append.mp hp with hp | hp
      · exact q2 p (List.mem_append_left _ hp)
      rcases List.mem_cons.mp hp with rfl | hp
      · have e := fun (p : Addr × Obj) (h : p ∈ VN w.params wd x xd ll ax ad k li nl1 items n1 a1 a2 p1 p2 (tups ++ ((cT, oT) :: (dl, listOf dv dn) :: R))) => Ne.symm (hoff3 p h)
        exact notin5 (e (ll, _) (by k_mem)) (e (ax, _) (by k_mem)) (e (ad, _) (by k_mem)) (e (140, _) (by k_mem)) (e (147, _) (by k_mem))
      · exact q2 p (List.mem_append_right _ hp)
    · intro v hv
      have key : ∀ n ∈ rs, (wordOf T n).length ≤ 100 := fun n hn => by
        have cn := cof_of (hpos n hn)
        have := cn.figs_le
        have := cn.symm.figs_le
        unfold wordOf
        rw [app_len, app_len, star_len, dec_length cn.pos, dec_length cn.posc]
        omega
      rcases List.mem_append.mp hv with h | h
      · obtain ⟨n, hn, rfl⟩ := List.mem_map.mp h
        exact key n (List.mem_of_mem_take hn)
      · rw [List.mem_singleton.mp h]; exact key nn hnn
    · rw [List.length_map, List.length_take]; omega
    · intro s8 li8 nl8 items8 n8 b1 b2 ps18 ps28 tups8 F8 N8 J8 z8 A8
      k_steps
      refine ⟨_, VN w.params wd x xd ll ax ad k li8 nl8 items8 n8 b1 b2 ps18 ps28 (tups8 ++ ((cT, oT) :: (dl, listOf dv dn) :: R)), ⟨⟨_, _, _, _, _, _, _, _, tups8, rfl, ?_, ?_⟩, ?_, A8⟩, F8, news_sub N8 ?_, ?_⟩
      · have e : (rs.take (i + 1)).map (wordOf T) = (rs.take i).map (wordOf T) ++ [wordOf T nn] := by rw [List.take_add_one, hn]; simp
        rw [e]; exact J8
      · intro p hp
        rcases List.mem_append.mp hp with hp | hp
        · exact z8 p (List.mem_append_left _ hp)
        · exact z8 p (List.mem_append_right _ (.tail _ hp))
      · exact fun y hy => (if_neg hy).trans (q.same y hy)
      · refine sub_cons (.tail _ (.tail _ (.tail _ (.tail _ (.tail _ (.tail _ (.tail _ (List.mem_append_right _ (.head _)))))))))  ?_
        iterate 7 (refine sub_cons (by k_mem) ?_)
        intro p hp
        rcases List.mem_append.mp hp with hp | hp
        · exact .tail _ (.tail _ (.tail _ (.tail _ (.tail _ (.tail _ (.tail _ (List.mem_append_left _ hp)))))))
        · exact .tail _ (.tail _ (.tail _ (.tail _ (.tail _ (.tail _ (.tail _ (List.mem_append_right _ (.tail _ hp))))))))
      · have hI := (N8 (I3, oI3) (.tail _ (.tail _ (.tail _ (.tail _ (.tail _ (.tail _ (.tail _ (List.mem_append_right _ (.head _)))))))))).1
        have ne : ∀ {a : Addr} {o : Obj}, s8.heap.get? a = some o → o.cls ≠ .type "list_iterator" → @Ne Nat a I3 := fun e h => upd_ne e hI (by rw [hI3.1]; exact h)
        refine List.forall_mem_cons.mpr ⟨ne (N8 (x, _) (by k_mem)).1 (by simp), List.forall_mem_cons.mpr ⟨ne (N8 (xd, _) (by k_mem)).1 (by simp), List.forall_mem_cons.mpr ⟨ne (N8 (ll, _) (by k_mem)).1 (by simp), List.forall_mem_cons.mpr ⟨ne (N8 (ax, _) (by k_mem)).1 (by simp), List.forall_mem_cons.mpr ⟨ne (N8 (ad, _) (by k_mem)).1 (by simp), List.forall_mem_cons.mpr ⟨ne (N8 (140, _) (by k_mem)).1 (by simp), List.forall_mem_cons.mpr ⟨ne (N8 (147, _) (by k_mem)).1 (by simp), fun p hp => ?_⟩⟩⟩⟩⟩⟩⟩
        rcases List.mem_append.mp hp with hp | hp
        · exact ne (N8 p (.tail _ (.tail _ (.tail _ (.tail _ (.tail _ (.tail _ (.tail _ (List.mem_append_left _ hp))))))))).1 (by rw [J8.cls p hp]; simp)
        · exact hoff3 p (.tail _ (.tail _ (.tail _ (.tail _ (.tail _ (.tail _ (.tail _ (List.mem_append_right _ hp))))))))
  · obtain ⟨li, nl1, items, n1, a1, a2, p1, p2, tups, rfl, q1, q2⟩ := q.ok
    refine wpAny_execs_nil ?_
    dsimp only
    subst hl
    rw [List.take_of_length_le (by omega)] at q1
    exact hQ _ m' li nl1 items n1 a1 a2 p1 p2 tups q.same F3 N3 q1 q2 q.acc
end
/- G19_2k -/
section
open PySem PySem.W PySem.Calls PyProof.Rows
/- a word of the law, with its blank -/
noncomputable def wordS (T n : Nat) : Str := Str.ofString " " ++ dec n ++ Str.ofString "*" ++ dec (10 ^ T / n)
theorem nats_words {T : Nat} {vs : List Value} {ns : List Nat} (h : NatsAre vs ns) : Paired (fun v x => ∃ n t, x = wordS T n ∧ v = Value.int ((n : Nat) : Int) t) vs (ns.map (wordS T)) := by
  induction h with
  | nil => exact .nil
  | cons h _ ih => obtain ⟨t, rfl⟩ := h; exact .cons ⟨_, t, rfl, rfl⟩ ih
theorem lawI_c {prog : Program} {w : World} {A : Around} {s s0 : Shared} {H₀ g : Heap} {L : Addr} {p : Program} {loose : List Str} {mg mb m : Str → Option Value} {Q : Flow → Shared → Prop} {bm : Addr} {ob : Obj} {cT cK : Addr} {rl : Addr} {rv : Array Value} {rn T : Nat} {t1 : Tok} {rs : List Nat} {oT : Obj} {R : List (Addr × Obj)}
    (hprog : prog = PySem.Challenge.pw_yh0022_02) (X : (heapK w.params).In H₀) (TR : TopRead p loose mg mb H₀) (XG : (heapK w.params).In g) (TG : TopRead p loose mg mb g) (HG : Sub H₀ g) (B : BMod H₀ mainGlobals mg bm ob) (hdp : A.depth < 455) (hun : A.units < 1450) (hh : A.handled = none) (hszL : H₀.objs.size ≤ L)
    (jA : Acc s0 s.os s.drawn s.gens) (F : Fr g L s.heap m) (N : News g L s.heap ((rl, listOf rv rn) :: (cT, oT) :: R)) (hoT : oT.data = .cell (some (.int ((T : Nat) : Int) t1))) (hT : T ≤ 8)
    (hnum : NatsAre rv.toList rs) (hpos : ∀ n ∈ rs, 0 < n ∧ n ∣ 10 ^ T) (hln : rs.length ≤ 7) (m4 : m "ranked" = some (.ref rl))
    (hQ : ∀ h tk wl wv wn, StrsAre wv.toList (rs.map (wordS T)) → Fr g L h (fun y => if y = Str.ofString "words" then some (.ref wl) else m y) → News g L h ((wl, listOf wv wn) :: (rl, listOf rv rn) :: (cT, oT) :: R) → LCg.Off1 wl ((rl, listOf rv rn) :: (cT, oT) :: R) → wpAny (model prog w) A (execs (b298.drop 17) (envX (Str.ofString "law") s298 L 298 (.ref 297) [(Str.ofString "tens", cT), (Str.ofString "kept", cK)])) Q NoE { s with heap := h, toks := tk }) :
    wpAny (model prog w) A (execs (b298.drop 16) (envX (Str.ofString "law") s298 L 298 (.ref 297) [(Str.ofString "tens", cT), (Str.ofString "kept", cK)])) Q NoE s := by
  refine Eq.subst (motive := fun l => wpAny (model prog w) A (execs l (envX (Str.ofString "law") s298 L 298 (.ref 297) [(Str.ofString "tens", cT), (Str.ofString "kept", cK)])) Q NoE s) (List.take_append_drop 1 (b298.drop 16)) ?_
  have : PySem.Challenge.rw_yh0022_02.prog = PySem.Challenge.rw_yh0022_02.prog ∧ heapK = heapK := by k_fill; exact ⟨rfl, rfl⟩
  clear this
  rw [List.drop_drop]
  generalize hl : b298.drop (16 + 1) = tl
  dsimp only [b298, s298, pick, List.take, List.drop, List.cons_append, List.nil_append]
  (try dsimp only)
  have hrl := hnum.length
  have hrs : rv.size = rs.length := by rw [← Array.length_toList]; exact hrl
  k_steps
  refine LCg.CompSrc.ledger hh F N (.head _) (by rw [sizeLine_eq]; omega) (fun g9 => comp_each (G := fun v y => ∃ n t t', v = Value.int ((n : Nat) : Int) t ∧ y = .str (wordS T n) t') (.inr ⟨_, .head _, rfl, _, rfl⟩) (fun i v C oC m₂ Y t E' hv hC hx F6 N6 hm hsub o1 o2 o3 => ?_) (fun ys hy => ?_))
  · obtain ⟨n, hn, t0, rfl⟩ := two_mem2 hnum (x := v) (List.mem_of_getElem? (by simpa using hv))
    have hn9 := dvd_small (hpos n hn).2 hT
    have cn := cof_of (hpos n hn)
    have ln := dec_length cn.pos
    have lc := dec_length cn.posc
    have fn9 := cn.figs_le
    have fc9 := cn.symm.figs_le
    have hf1 : figs n ≤ 500 := by omega
    have hf2 : figs (10 ^ T / n) ≤ 500 := by omega
    iterate 11 (first | walk1 | (dsimp only; walk1))
    refine add_txt (by rw [blank_len]; omega) ?_
    intro ta9 ca9
    dsimp only
    iterate 1 (first | walk1 | (dsimp only; walk1))
    refine add_txt (by rw [app_len, blank_len, star_len]; omega) ?_
    intro tb9 cb9
    dsimp only
    iterate 7 (first | walk1 | (dsimp only; walk1))
    refine nameC_C (o := oT) N6 rfl (hsub _ (.tail _ (.head _))) hoT ?_ rfl rfl rfl
    refine pow_as (a := 10) (k := T) rfl (by decide) (by omega) ?_
    dsimp only
    iterate 1 (first | walk1 | (dsimp only; walk1))
    refine div_nats cn.pos hn9 ?_
    dsimp only
    iterate 2 (first | walk1 | (dsimp only; walk1))
    refine add_txt (by rw [app_len, app_len, blank_len, star_len]; omega) ?_
    intro tc9 cc9
    exact ⟨⟨_, _, _, rfl, rfl⟩, ⟨_, _, rfl, fun _ _ e => e⟩⟩
  · intro D h7 tk7 F7 N7 off7
    dsimp only
    subst hl
    refine hQ h7 tk7 D _ _ ?_ F7 N7 off7
    exact strs_of (two_join2 (T := fun c t => ∃ tok, c = Value.str t tok) (R := fun v x => ∃ n t, x = wordS T n ∧ v = Value.int ((n : Nat) : Int) t) (fun v x c a b => by
      obtain ⟨n, t, rfl, rfl⟩ := a
      obtain ⟨n', t1, t2, e, rfl⟩ := b
      injection e with e _
      obtain rfl := Int.ofNat.inj e
      exact ⟨_, rfl⟩) (nats_words hnum) hy)
end
/- G20_2k -/
section
open PySem PySem.W PySem.Calls PyProof.Rows
theorem strs_drop {a : List Value} {b : List Str} (h : StrsAre a b) : ∀ k, StrsAre (a.drop k) (b.drop k) := by
  induction h with
  | nil => intro k; cases k <;> exact .nil
  | cons x t h ih => intro k; cases k with
    | zero => exact .cons x t h
    | succ k => exact ih k
theorem strs_take {a : List Value} {b : List Str} (h : StrsAre a b) : ∀ k, StrsAre (a.take k) (b.take k) := by
  induction h with
  | nil => intro k; cases k <;> exact .nil
  | cons x t h ih => intro k; cases k with
    | zero => exact .nil
    | succ k => exact .cons x t (ih k)
theorem sum_len {b : Nat} : ∀ {us : List Str}, (∀ u ∈ us, u.length ≤ b) → (us.map (·.length)).sum ≤ b * us.length
  | [], _ => Nat.zero_le _
  | u :: us, h => by
    have h1 := h u (.head _)
    have h2 := sum_len (us := us) fun v hv => h v (.tail _ hv)
    rw [List.map_cons, List.sum_cons, List.length_cons, Nat.mul_succ]
    omega
theorem slice_len {α : Type} (l : List α) (a b : Nat) : ((l.drop a).take b).length ≤ l.length := Nat.le_trans (List.length_take_le' _ _) (by rw [List.length_drop]; exact Nat.sub_le _ _)
theorem room_of {a b : Nat} (h1 : a ≤ 100 * b) (h2 : b ≤ 7) : a + b * 0 ≤ 16777216 := by omega
theorem wd_le {T wd : Nat} (hT : T ≤ 8) (hwd : wd ≤ 3 * T + 11) : wd ≤ 100 := by omega
theorem size_ok {n k : Nat} (h : n ≤ k) (hk : k ≤ 14) : n ≤ sizeLine := by rw [sizeLine_eq]; omega
theorem more_length {cs : List Nat} {wd z sh : Nat} (h : 0 < wd / z) : (moreOn cs wd z sh).length ≤ cs.length + sh := by
  unfold moreOn
  rcases hc : cs.getLast? with _ | c
  · have := chunk_length (k := sh) h
    dsimp only
    exact Nat.le_trans this (Nat.le_add_left _ _)
  · have h1 := chunk_length (k := sh - min sh ((wd - c * (z + 1)) / z)) h
    have h2 : 0 < cs.length := List.length_pos_of_mem (List.mem_of_getLast? hc)
    have h3 : (cs.dropLast ++ [c + min sh ((wd - c * (z + 1)) / z)]).length = cs.length := by
      rw [List.length_append, List.length_dropLast, List.length_singleton]; omega
    dsimp only
    rw [List.length_append, h3]
    exact Nat.add_le_add_left (Nat.le_trans h1 (Nat.sub_le _ _)) _
theorem counts_length {lo sh z wd : Nat} (hz : 0 < z) (h : z ≤ wd) : (countsOf lo sh z wd).length ≤ lo + sh := by
  unfold countsOf
  have h1 := more_length (cs := chunk (max 1 (wd / (z + 1))) lo) (sh := sh) (Nat.div_pos h hz)
  have h2 := chunk_length (f := max 1 (wd / (z + 1))) (k := lo) (by omega)
  omega
/- the row of some words -/
noncomputable def joinRow (us : List Str) : Str := Txt.join (Str.ofString "") us
/- the rows behind i turns -/
structure RowJ (s0 : Shared) (ws : List Str) (cs : List Nat) (rw' : Addr) (R : List (Addr × Obj)) (m0 : Str → Option Value) (i : Nat) (m : Str → Option Value) (news : List (Addr × Obj)) (s : Shared) : Prop where
  ok : ∃ rv rn t, news = (rw', listOf rv rn) :: R ∧ StrsAre rv.toList (((cut ws cs).take i).map joinRow) ∧ m (Str.ofString "begin") = some (.int (((cs.take i).sum : Nat) : Int) t)
  same : ∀ y : Str, y ≠ Str.ofString "count" → y ≠ Str.ofString "begin" → m y = m0 y
  acc : Acc s0 s.os s.drawn s.gens
theorem lawJ_c {prog : Program} {w : World} {A : Around} {s s0 : Shared} {H₀ g : Heap} {L : Addr} {p : Program} {loose : List Str} {mg mb m : Str → Option Value} {Q : Flow → Shared → Prop} {bm : Addr} {ob : Obj} {cT cK : Addr} {pl tl' wl : Addr} {pv tv wv : Array Value} {pn tn wn T wd : Nat} {t2 t3 : Tok} {rs : List Nat} {ws : List Str} {R : List (Addr × Obj)}
    (hprog : prog = PySem.Challenge.pw_yh0022_02) (X : (heapK w.params).In H₀) (TR : TopRead p loose mg mb H₀) (XG : (heapK w.params).In g) (TG : TopRead p loose mg mb g) (HG : Sub H₀ g) (B : BMod H₀ mainGlobals mg bm ob) (hdp : A.depth < 455) (hun : A.units < 1450) (hh : A.handled = none) (hszL : H₀.objs.size ≤ L)
    (jA : Acc s0 s.os s.drawn s.gens) (F : Fr g L s.heap m) (N : News g L s.heap ((wl, listOf wv wn) :: (pl, listOf pv pn) :: (tl', listOf tv tn) :: R)) (hT3 : 3 ≤ T) (hT : T ≤ 8) (hwd0 : T + 3 ≤ wd) (hwd : wd ≤ 3 * T + 11)
    (hpv : NatsAre pv.toList (rs.filter fun n => isPure n == true)) (htv : NatsAre tv.toList (rs.filter fun n => isPure n == false)) (hln : rs.length ≤ 7) (hws : StrsAre wv.toList ws) (hwl : ws.length = rs.length) (hwu : ∀ u ∈ ws, u.length ≤ 100)
    (m4 : m "pure" = some (.ref pl)) (m5 : m "rest" = some (.ref tl')) (m6 : m "size" = some (.int (((T : Nat) : Int) + 3) t2)) (m7 : m "width" = some (.int ((wd : Nat) : Int) t3)) (m8 : m "words" = some (.ref wl))
    (hQ : ∀ s' m' rl rv rn, StrsAre rv.toList ((cut ws (countsOf (rs.filter isPure).length (rs.filter fun n => !isPure n).length (T + 3) wd)).map joinRow) → Acc s0 s'.os s'.drawn s'.gens → (∀ y : Str, y ≠ Str.ofString "rows" → y ≠ Str.ofString "count" → y ≠ Str.ofString "begin" → m' y = m y) → m' "rows" = some (.ref rl) → Fr g L s'.heap m' → News g L s'.heap ((rl, listOf rv rn) :: (wl, listOf wv wn) :: (pl, listOf pv pn) :: (tl', listOf tv tn) :: R) → (∀ p ∈ R, @Ne Nat p.1 rl) → wpAny (model prog w) A (execs (b298.drop 20) (envX (Str.ofString "law") s298 L 298 (.ref 297) [(Str.ofString "tens", cT), (Str.ofString "kept", cK)])) Q NoE s') :
    wpAny (model prog w) A (execs (b298.drop 17) (envX (Str.ofString "law") s298 L 298 (.ref 297) [(Str.ofString "tens", cT), (Str.ofString "kept", cK)])) Q NoE s := by
  refine Eq.subst (motive := fun l => wpAny (model prog w) A (execs l (envX (Str.ofString "law") s298 L 298 (.ref 297) [(Str.ofString "tens", cT), (Str.ofString "kept", cK)])) Q NoE s) (List.take_append_drop 3 (b298.drop 17)) ?_
  have : PySem.Challenge.rw_yh0022_02.prog = PySem.Challenge.rw_yh0022_02.prog ∧ heapK = heapK := by k_fill; exact ⟨rfl, rfl⟩
  clear this
  rw [List.drop_drop]
  generalize hl : b298.drop (17 + 3) = tl
  dsimp only [b298, s298, pick, List.take, List.drop, List.cons_append, List.nil_append]
  (try dsimp only)
  rw [pure_true] at hpv
  rw [pure_false] at htv
  have hpl : pv.size = (rs.filter isPure).length := by rw [← Array.length_toList, hpv.length]
  have htl : tv.size = (rs.filter fun n => !isPure n).length := by rw [← Array.length_toList, htv.length]
  have hpl7 : (rs.filter isPure).length ≤ 7 := Nat.le_trans (List.length_filter_le _ _) hln
  have htl7 : (rs.filter fun n => !isPure n).length ≤ 7 := Nat.le_trans (List.length_filter_le _ _) hln
  replace m6 : m (Str.ofString "size") = some (.int ((T + 3 : Nat) : Int) t2) := m6.trans (by rw [Int.natCast_add]; rfl)
  have hwz : wv.size = ws.length := by rw [← Array.length_toList, StrsAre.length hws]
  have hwz9 : wv.size ≤ sizeLine := size_ok (Nat.le_of_eq (hwz.trans hwl)) (Nat.le_trans hln (by decide))
  k_steps
  (with_reducible rename News _ _ _ _ => N1); (with_reducible rename Fr _ _ _ _ => F1)
  refine counts_c (sub_fr F1 HG) X TR (by (repeat (with_reducible refine dep_lt ?_)); first | exact Nat.lt_of_lt_of_le hdp (Nat.le_of_ble_eq_true rfl) | omega | (simp only [depth_deeper, depth_in1, units_deeper, units_in1]; omega)) B (by (repeat (with_reducible refine uni_lt ?_)); first | exact Nat.lt_of_lt_of_le hun (Nat.le_of_ble_eq_true rfl) | omega | (simp only [depth_deeper, depth_in1, units_deeper, units_in1]; omega)) hh (Nat.le_trans hpl7 (by decide)) (Nat.le_trans htl7 (by decide)) (Nat.succ_pos _) hwd0 (wd_le hT hwd) ?_
  intro s2 D dc cv Kp2 e1 e2 hcs
  have hcn := counts_length (lo := (rs.filter isPure).length) (sh := (rs.filter fun n => !isPure n).length) (z := T + 3) (Nat.succ_pos _) hwd0
  generalize countsOf (rs.filter isPure).length (rs.filter fun n => !isPure n).length (T + 3) wd = cs at hcs hQ hcn
  have N2 := news_fresh Kp2 F1 (kept_news0 Kp2 N1) e1 e2
  have F2 := kept_fr0 Kp2 F1
  have q2 := allNe_of N1 e1
  have jA2 : Acc s0 s2.os s2.drawn s2.gens := ⟨Kp2.os.trans jA.os, Kp2.drawn.trans jA.drawn, fun q => Kp2.gens (jA.gens q)⟩
  clear F1 N1
  have hcl := hcs.length
  rw [Array.length_toList] at hcl
  refine iter_list_own (items := cv) F2 N2 (News.isList N2 (.head _)) ?_
  intro I h5 oI0 hI0 F5 N5 hoff5 k5
  clear F2 N2
  rename_i rl9 h8 l8 lt8 h9 h10
  have qD := q2
  have zR : ∀ p ∈ (D, listOf cv dc) :: (wl, listOf wv wn) :: (pl, listOf pv pn) :: (tl', listOf tv tn) :: R, @Ne Nat p.1 rl9 := List.forall_mem_cons.mpr ⟨Ne.symm qD.1, fun p hp => Nat.ne_of_lt (lt_all lt8 p hp)⟩
  have N6 : News g L h5 ((I, oI0) :: (rl9, listOf #[] 0) :: (D, listOf cv dc) :: (wl, listOf wv wn) :: (pl, listOf pv pn) :: (tl', listOf tv tn) :: R) := news_sub N5 (sub_cons (.head _) (sub_cons (.tail _ (.tail _ (.head _))) (sub_cons (.tail _ (.head _)) fun p hp => .tail _ (.tail _ (.tail _ hp)))))
  have hoff6 : ∀ p ∈ (rl9, listOf #[] 0) :: (D, listOf cv dc) :: (wl, listOf wv wn) :: (pl, listOf pv pn) :: (tl', listOf tv tn) :: R, @Ne Nat p.1 I := fun p hp => by
    rcases List.mem_cons.mp hp with rfl | hp
    · exact hoff5 _ (.tail _ (.head _))
    rcases List.mem_cons.mp hp with rfl | hp
    · exact hoff5 _ (.head _)
    · exact hoff5 p (.tail _ (.tail _ hp))
  clear N5
  refine for_list_invN (items := cv) hh (RowJ s0 ws cs rl9 ((D, listOf cv dc) :: (wl, listOf wv wn) :: (pl, listOf pv pn) :: (tl', listOf tv tn) :: R) (fun y => if y = Str.ofString "rows" then some (.ref rl9) else m y))
    (fun i m' news' s' h' q => ⟨q.ok, q.same, q.acc⟩) (fun i m' news' s' h' q N => ?_) (fun i v m' news' s' tk' I3 oI3 hv q hI3 F3 N3 hoff3 => ?_) (fun m' news' s' q F3 N3 => ?_) (Nat.zero_le _) hI0
    ⟨⟨#[], 0, _, rfl, .nil, rfl⟩, fun y h1 h2 => if_neg h2, jA2⟩ F5 N6 hoff6
  · obtain ⟨rv, rn, t, rfl, q1, q3⟩ := q.ok
    exact News.isList N (.tail _ (.head _))
  · obtain ⟨rv, rn, tb, rfl, q1, q3⟩ := q.ok
    have hi3 : i < cv.size := (Array.getElem?_eq_some_iff.mp hv).1
    obtain ⟨v0, c, hv0, hc, tc, rfl⟩ := two_has hcs (i := i) (hcl ▸ hi3)
    obtain rfl := Option.some.inj (hv0.symm.trans (by simpa using hv))
    have hcut := cut_get (ws := ws) hc
    have mr : m' (Str.ofString "rows") = some (.ref rl9) := (q.same _ (by decide) (by decide)).trans rfl
    have mw : m' (Str.ofString "words") = some (.ref wl) := (q.same _ (by decide) (by decide)).trans m8
    have hsum : (cs.take (i + 1)).sum = (cs.take i).sum + c := by rw [List.take_add_one, hc]; simp
    generalize (cs.take i).sum = b at hcut q3 hsum
    have hbc : ((b : Nat) : Int) + ((c : Nat) : Int) = ((b + c : Nat) : Int) := (Int.natCast_add b c).symm
    have zI : ∀ p ∈ (I3, oI3) :: (D, listOf cv dc) :: (wl, listOf wv wn) :: (pl, listOf pv pn) :: (tl', listOf tv tn) :: R, @Ne Nat p.1 rl9 := List.forall_mem_cons.mpr ⟨Ne.symm (hoff3 _ (.head _)), zR⟩
    have N7 : News g L s'.heap ((rl9, listOf rv rn) :: (I3, oI3) :: (D, listOf cv dc) :: (wl, listOf wv wn) :: (pl, listOf pv pn) :: (tl', listOf tv tn) :: R) := news_sub N3 (sub_cons (.tail _ (.head _)) (sub_cons (.head _) fun p hp => .tail _ (.tail _ hp)))
    clear N3
    have hrz : rv.size ≤ sizeLine := by
      have h1 := StrsAre.length q1
      rw [List.length_map, List.length_take, cut_length, Array.length_toList] at h1
      exact size_ok (Nat.le_trans (Nat.le_of_eq h1) (Nat.le_trans (Nat.min_le_right _ _) hcn)) (Nat.add_le_add hpl7 htl7)
    refine wpAny_assign_Name ?_
    k_steps
    (with_reducible rename News _ _ _ _ => N8)
    refine join_list (items := ((wv.toList.drop b).take (b + c - b)).toArray) (ys := (ws.drop b).take (b + c - b)) ⟨_, (N8 _ (.head _)).1, rfl, _, rfl⟩ (by simpa using strs_take (strs_drop hws b) _) ?_ ?_
    · have h1 := sum_len (b := 100) (us := (ws.drop b).take (b + c - b)) fun u hu => hwu u (List.mem_of_mem_drop (List.mem_of_mem_take hu))
      have h2 : ((ws.drop b).take (b + c - b)).length ≤ 7 := Nat.le_trans (slice_len _ _ _) (hwl ▸ hln)
      rw [show (Str.ofString "").length = 0 by decide +kernel]
      exact room_of h1 h2
    · intro t9 k9
      dsimp only
      k_steps
      (with_reducible rename Fr _ _ _ _ => F9)
      refine wpAny_loadName_local rfl rfl F9.ns (show _ = some (Value.int ((b : Nat) : Int) tb) by walk_at "mine_var") ?_
      k_steps
      (with_reducible rename Fr _ _ _ _ => F10); (with_reducible rename News _ _ _ _ => N10)
      (try dsimp only)
      rw [Nat.add_sub_cancel_left] at N10
      refine ⟨_, (rl9, listOf (rv.push (Value.str (Txt.join (Str.ofString "") ((ws.drop b).take c)) t9)) (rn + 1)) :: (D, listOf cv dc) :: (wl, listOf wv wn) :: (pl, listOf pv pn) :: (tl', listOf tv tn) :: R, ⟨⟨_, _, _, rfl, ?_, by rw [hsum, Int.natCast_add]; exact if_pos rfl⟩, fun y h1 h2 => (if_neg h2).trans ((if_neg h1).trans (q.same y h1 h2)), q.acc⟩, F10, news_sub N10 (sub_cons (.tail _ (.tail _ (.head _))) (sub_cons (.tail _ (.head _)) fun p hp => .tail _ (.tail _ (.tail _ hp)))), List.forall_mem_cons.mpr ⟨Ne.symm (zI _ (.head _)), fun p hp => hoff3 p (.tail _ hp)⟩⟩
      rw [Array.toList_push, List.take_add_one, hcut, List.map_append]
      exact strs_push q1
  · obtain ⟨rv, rn, tb, rfl, q1, q3⟩ := q.ok
    refine wpAny_execs_nil ?_
    dsimp only
    subst hl
    rw [List.take_of_length_le (by rw [cut_length]; exact Nat.le_of_eq hcl.symm)] at q1
    exact hQ _ m' rl9 rv rn q1 q.acc (fun y h1 h2 h3 => (q.same y h2 h3).trans (if_neg h1)) ((q.same _ (by decide) (by decide)).trans rfl) F3 (news_sub N3 (sub_cons (.head _) fun p hp => .tail _ (.tail _ hp))) (fun p hp => zR p (.tail _ (.tail _ (.tail _ (.tail _ hp)))))
end
/- H3_2k -/
section
open PySem PySem.W PySem.Calls PyProof.Rows
theorem wordS_eq (T n : Nat) : wordS T n = Str.ofString " " ++ wordOf T n := by
  unfold wordS wordOf
  rw [app_as, app_as, app_as]
theorem rowText_eq (us : List Str) : rowText us = joinRow (us.map fun u => Str.ofString " " ++ u) := by
  unfold rowText joinRow ptext
  rw [List.map_map]
  show Txt.join (Str.ofString "") _ = _
  congr 1
theorem cut_map {α β : Type} (f : α → β) : ∀ (l : List α) (cs : List Nat), cut (l.map f) cs = (cut l cs).map fun r => r.map f
  | _, [] => rfl
  | l, c :: cs => by
    unfold cut
    rw [List.map_cons, ← cut_map f (l.drop c) cs, List.map_take, List.map_drop]
theorem word_len {T n : Nat} (h : 0 < n ∧ n ∣ 10 ^ T) : ulen (wordOf T n) = T + 3 + (if isPure n = true then 1 else 0) := by
  have cn := cof_of h
  have := cn.figs
  unfold ulen wordOf
  rw [app_len, app_len, star_len, dec_length cn.pos, dec_length cn.posc]
  split <;> simp_all <;> omega
theorem lens_of {T : Nat} {rs : List Nat} (hd : ∀ n ∈ rs, 0 < n ∧ n ∣ 10 ^ T) (ho : Ord rs) : (rs.map (wordOf T)).map ulen = List.replicate (rs.filter isPure).length (T + 3 + 1) ++ List.replicate (rs.filter fun n => !isPure n).length (T + 3) := by
  have e := ranked_first hd ho
  rw [List.map_map]
  conv => lhs; rw [e]
  rw [List.map_append]
  congr 1
  · refine List.eq_replicate_iff.mpr ⟨by rw [List.length_map], fun b hb => ?_⟩
    obtain ⟨n, hn, rfl⟩ := List.mem_map.mp hb
    have h := List.mem_filter.mp hn
    show ulen (wordOf T n) = _
    rw [word_len (hd n h.1), if_pos h.2]
  · refine List.eq_replicate_iff.mpr ⟨by rw [List.length_map], fun b hb => ?_⟩
    obtain ⟨n, hn, rfl⟩ := List.mem_map.mp hb
    have h := List.mem_filter.mp hn
    have h2 := h.2
    simp at h2
    show ulen (wordOf T n) = _
    rw [word_len (hd n h.1), h2]
    rfl
/- the law's rows are the formatter's -/
theorem rows_text {T wd : Nat} {rs : List Nat} (hd : ∀ n ∈ rs, 0 < n ∧ n ∣ 10 ^ T) (ho : Ord rs) (h0 : 0 < rs.length) (hln : rs.length ≤ 7) (hT3 : 3 ≤ T) (hT : T ≤ 8) (hwd0 : T + 3 ≤ wd) (hwd : wd ≤ 3 * T + 11) :
    (cut (rs.map (wordS T)) (countsOf (rs.filter isPure).length (rs.filter fun n => !isPure n).length (T + 3) wd)).map joinRow = (rowsOf ulen wd (rs.map (wordOf T))).map rowText := by
  have e := ranked_first hd ho
  have hl := congrArg List.length e
  rw [List.length_append] at hl
  have h1 := rows_law (z := T + 3) (wd := wd) (lens_of hd ho) (by omega) (by omega) hwd0 (by omega) (by omega) (fun q => by
    have := congrArg List.length q
    rw [List.length_map, List.length_nil] at this
    omega)
  have h2 : rs.map (wordS T) = (rs.map (wordOf T)).map fun u => Str.ofString " " ++ u := by
    rw [List.map_map]
    exact List.map_congr_left fun n _ => wordS_eq T n
  rw [h2, cut_map, h1, List.map_map]
  exact List.map_congr_left fun r _ => (rowText_eq r).symm
end
/- H4_2k -/
section
open PySem PySem.W PySem.Calls PyProof.Rows
theorem joinTxt_eq (sep : Str) (l : List Str) : Txt.join sep l = PySem.Str.join sep l := StrLaws.glued_eq_join _ _
theorem join_mem {sep : Str} : ∀ {l : List Str} {x : Str} {c : Nat}, x ∈ l → c ∈ x.cps.toList → c ∈ (PySem.Str.join sep l).cps.toList
  | [y], x, c, h, hc => by
    rw [List.mem_singleton.mp h] at hc
    exact hc
  | y :: z :: r, x, c, h, hc => by
    show c ∈ (y.cps ++ sep.cps ++ (PySem.Str.join sep (z :: r)).cps).toList
    rw [Array.toList_append, Array.toList_append]
    rcases List.mem_cons.mp h with rfl | h
    · exact List.mem_append_left _ (List.mem_append_left _ hc)
    · exact List.mem_append_right _ (join_mem h hc)
theorem no_space {t : Str} {c : Nat} (h : c ∈ t.cps.toList) (hc : Unicode.isSpace c = false) : Txt.isspace t = false := by
  unfold Txt.isspace
  have : t.cps.all Unicode.isSpace = false := by
    rw [← Array.all_toList, List.all_eq_false]
    exact ⟨c, h, by rw [hc]; decide⟩
  rw [this, Bool.and_false]
theorem digit_space {c : Nat} (h1 : 48 ≤ c) (h2 : c ≤ 57) : Unicode.isSpace c = false := by
  have q : ∀ i : Fin 10, Unicode.isSpace (48 + i.val) = false := by decide +kernel
  have r := q ⟨c - 48, Nat.sub_lt_left_of_lt_add h1 (Nat.lt_succ_of_le h2)⟩
  rwa [Nat.add_sub_cancel' h1] at r
theorem app_cps (x y : Str) : (x ++ y : Str).cps.toList = x.cps.toList ++ y.cps.toList := by
  show (x.cps ++ y.cps).toList = _
  rw [Array.toList_append]
theorem row_space {T n : Nat} {us : List Str} (hn : 0 < n) (h : wordOf T n ∈ us) : Txt.isspace (rowText us) = false := by
  have hne : digs n ≠ [] := fun e => by
    have := digs_length hn
    rw [e] at this
    have := figs_pos hn
    simp at *; omega
  obtain ⟨c, r, e⟩ := List.exists_cons_of_ne_nil hne
  have hc := digs_codes (n := n) c (by rw [e]; exact .head _)
  refine no_space (c := c) ?_ (digit_space hc.1 hc.2)
  rw [rowText_eq]
  unfold joinRow
  rw [joinTxt_eq]
  refine join_mem (List.mem_map.mpr ⟨_, h, rfl⟩) ?_
  unfold wordOf
  rw [app_cps, app_cps, app_cps, dec_cps, e]
  exact List.mem_append_right _ (List.mem_append_left _ (List.mem_append_left _ (.head _)))
theorem word_ok (T n : Nat) : PyData.strOk (wordOf T n) = true := by
  have h1 := dec_ok n
  have h2 := dec_ok (10 ^ T / n)
  have h3 : PyData.strOk (Str.ofString "*") = true := by decide +kernel
  unfold PyData.strOk at *
  unfold wordOf
  rw [← Array.all_toList] at *
  rw [app_cps, app_cps, List.all_append, List.all_append, h1, h2, h3]
  rfl
theorem row_len {us : List Str} (h : ∀ u ∈ us, u.length ≤ 100) : (rowText us).length ≤ 101 * us.length := by
  rw [rowText_eq]
  unfold joinRow
  rw [joinTxt_eq]
  refine Nat.le_trans (StrLaws.join_length_le _ _) ?_
  rw [show (Str.ofString "").length = 0 by decide +kernel, Nat.mul_zero, Nat.add_zero]
  have := sum_len (b := 101) (us := us.map fun u => Str.ofString " " ++ u) fun v hv => by
    obtain ⟨u, hu, rfl⟩ := List.mem_map.mp hv
    rw [app_len, blank_len]
    have := h u hu
    omega
  rwa [List.length_map] at this
theorem rows_room {wd : Nat} {us : List Str} (h : ∀ u ∈ us, u.length ≤ 100) (hl : us.length ≤ 20) : (((rowsOf ulen wd us).map rowText).map (·.length)).sum + ((rowsOf ulen wd us).map rowText).length * 1 ≤ 16777216 := by
  have e : (rowsOf ulen wd us).flatten = us := by
    have := lay_flat (wd := wd) (us := us)
    unfold rowsOf
    rw [List.flatten_append]
    simpa using this
  have hin : ∀ r ∈ rowsOf ulen wd us, (∀ v ∈ r, v ∈ us) ∧ r.length ≤ 20 := fun r hr => by
    have hv : ∀ v ∈ r, v ∈ us := fun v hv => by rw [← e]; exact List.mem_flatten.mpr ⟨r, hr, hv⟩
    refine ⟨hv, ?_⟩
    have hs : r.Sublist us := by rw [← e]; exact List.sublist_flatten_of_mem hr
    exact Nat.le_trans hs.length_le hl
  have hn : (rowsOf ulen wd us).length ≤ 21 := by
    have := lay_len1 (wd := wd) (us := us)
    unfold rowsOf
    rw [List.length_append, List.length_singleton]
    omega
  have := sum_len (b := 2020) (us := (rowsOf ulen wd us).map rowText) fun v hv => by
    obtain ⟨r, hr, rfl⟩ := List.mem_map.mp hv
    have h1 := row_len (us := r) fun u hu => h u ((hin r hr).1 u hu)
    have := (hin r hr).2
    omega
  rw [List.length_map] at this ⊢
  have := Nat.mul_le_mul_left 2020 hn
  omega
theorem paired_last {α β : Type} {R : α → β → Prop} : ∀ {b : List β} {c : β} {l : List α}, Paired R l (b ++ [c]) → ∃ a x, l = a ++ [x] ∧ Paired R a b ∧ R x c
  | [], c, _, .cons h .nil => ⟨[], _, rfl, .nil, h⟩
  | b :: bs, c, _, .cons h r => by
    obtain ⟨a, x, rfl, h1, h2⟩ := paired_last (b := bs) r
    exact ⟨_ :: a, x, rfl, .cons h h1, h2⟩
end
/- G21_2k -/
section
open PySem PySem.W PySem.Calls PyProof.Rows
theorem lawK_c {prog : Program} {w : World} {A : Around} {s s0 : Shared} {H₀ g : Heap} {L : Addr} {p : Program} {loose : List Str} {mg mb m : Str → Option Value} {Q : Flow → Shared → Prop} {bm : Addr} {ob : Obj} {cT cK : Addr} {x xd ll ax ad rl : Addr} {k : VTok} {li items rv ps1 ps2 : Array Value} {nl n rn wd T : Nat} {u1 u2 : Tok} {rs : List Nat} {tups R : List (Addr × Obj)}
    (hprog : prog = PySem.Challenge.pw_yh0022_02) (X : (heapK w.params).In H₀) (TR : TopRead p loose mg mb H₀) (XG : (heapK w.params).In g) (TG : TopRead p loose mg mb g) (HG : Sub H₀ g) (B : BMod H₀ mainGlobals mg bm ob) (hdp : A.depth < 455) (hun : A.units < 1450) (hh : A.handled = none) (hszL : H₀.objs.size ≤ L)
    (jA : Acc s0 s.os s.drawn s.gens) (hG : AllBare s0.gens) (F : Fr g L s.heap m) (N : News g L s.heap (VN w.params wd x xd ll ax ad k li nl items n u1 u2 ps1 ps2 (tups ++ ((rl, listOf rv rn) :: R)))) (J : VJ wd (rs.map (wordOf T)) li items ps1 ps2 tups) (z : Off5 ll ax ad (tups ++ ((rl, listOf rv rn) :: R)))
    (hT3 : 3 ≤ T) (hT : T ≤ 8) (hwd0 : T + 3 ≤ wd) (hwd : wd ≤ 3 * T + 11) (hd : ∀ n ∈ rs, 0 < n ∧ n ∣ 10 ^ T) (ho : Ord rs) (h0 : 0 < rs.length) (hln : rs.length ≤ 7)
    (hrv : StrsAre rv.toList ((cut (rs.map (wordS T)) (countsOf (rs.filter isPure).length (rs.filter fun n => !isPure n).length (T + 3) wd)).map joinRow)) (m5 : m "formatter" = some (.ref x)) (m6 : m "rows" = some (.ref rl))
    (hQ : ∀ s' m' ps1' ps2', Acc s0 s'.os s'.drawn s'.gens → Fr g L s'.heap m' → s'.heap.get? 140 = some (tabObj ps1') → s'.heap.get? 147 = some (tabObj ps2') → (∀ p ∈ R, s'.heap.get? p.1 = some p.2) → Q (.ret (.bool true)) s') :
    wpAny (model prog w) A (execs (b298.drop 20) (envX (Str.ofString "law") s298 L 298 (.ref 297) [(Str.ofString "tens", cT), (Str.ofString "kept", cK)])) Q NoE s := by
  have : PySem.Challenge.rw_yh0022_02.prog = PySem.Challenge.rw_yh0022_02.prog ∧ heapK = heapK := by k_fill; exact ⟨rfl, rfl⟩
  clear this
  have hlaw := rows_text hd ho h0 hln hT3 hT hwd0 hwd
  rw [hlaw] at hrv
  have HS := sub_fr F HG
  have hne : (layAll ulen wd (rs.map (wordOf T))).2 ≠ [] := layAll_some (fun q => by
    have := congrArg List.length q
    rw [List.length_map, List.length_nil] at this
    omega)
  obtain ⟨us0, u, hus⟩ : ∃ l w, (layAll ulen wd (rs.map (wordOf T))).2 = l ++ [w] := ⟨_, _, (List.dropLast_concat_getLast hne).symm⟩
  have hlen : ∀ v ∈ (layAll ulen wd (rs.map (wordOf T))).2, v.length ≤ 100 := fun v hv => by
    obtain ⟨n, hn, rfl⟩ := List.mem_map.mp (lay_mem v hv)
    have cn := cof_of (hd n hn)
    have := cn.figs_le
    have := cn.symm.figs_le
    unfold wordOf
    rw [app_len, app_len, star_len, dec_length cn.pos, dec_length cn.posc]
    omega
  have hrows : rowsOf ulen wd (rs.map (wordOf T)) = (layAll ulen wd (rs.map (wordOf T))).1 ++ [us0 ++ [u]] := by rw [rowsOf, hus]
  have hpar := J.parts
  rw [hus] at hpar
  dsimp only [b298, s298, pick, List.drop]
  (try dsimp only)
  obtain ⟨its0, v0, hits, hpar0, a, ta, tb, rfl, hmem⟩ := paired_last hpar
  have hit : items = its0.toArray.push (.ref a) := by
    apply Array.toList_inj.mp
    rw [Array.toList_push, hits]
  have hul : u ∈ (layAll ulen wd (rs.map (wordOf T))).2 := by rw [hus]; exact List.mem_append_right _ (.head _)
  obtain ⟨nn, hnn, hun9⟩ := List.mem_map.mp (lay_mem u hul)
  have hall : ∀ v ∈ rs.map (wordOf T), v.length ≤ 100 := fun v hv => by
    obtain ⟨n, hn, rfl⟩ := List.mem_map.mp hv
    have cn := cof_of (hd n hn)
    have := cn.figs_le
    have := cn.symm.figs_le
    unfold wordOf
    rw [app_len, app_len, star_len, dec_length cn.pos, dec_length cn.posc]
    omega
  have hroom := rows_room (wd := wd) hall (by rw [List.length_map]; omega)
  have hroom0 := hroom
  rw [hrows, List.map_append] at hroom
  have hlen2 := lay_len2 (wd := wd) (us := rs.map (wordOf T))
  rw [hus, List.length_append, List.length_singleton, List.length_map] at hlen2
  have hsum : 0 < ((us0 ++ [u]).map ulen).sum := by
    rw [List.map_append, List.sum_append]
    simp only [List.map_cons, List.map_nil, List.sum_cons, List.sum_nil]
    unfold ulen
    omega
  have hlil : li.size ≤ 100000 := by
    have h1 := StrsAre.length J.lines
    have h2 := lay_len1 (wd := wd) (us := rs.map (wordOf T))
    rw [List.length_map, Array.length_toList] at h1
    rw [List.length_map] at h2
    omega
  have hmin : ∀ p ∈ tups, p ∈ VN w.params wd x xd ll ax ad k li nl items n u1 u2 ps1 ps2 (tups ++ ((rl, listOf rv rn) :: R)) := fun p hp => .tail _ (.tail _ (.tail _ (.tail _ (.tail _ (.tail _ (.tail _ (List.mem_append_left _ hp)))))))
  have hnl : (Str.ofString "\n").length = 1 := by decide +kernel
  dsimp only [VN] at N
  k_steps
  refine vstr_c (x := x) (its := its0.toArray) (a := a) (f := Str.ofString " ") (u := u) (ps0 := us0.map fun u => (Str.ofString " ", u)) (lines := (layAll ulen wd (rs.map (wordOf T))).1.map rowText) hprog HS X TR (by (repeat (with_reducible refine dep_lt ?_)); first | exact Nat.lt_of_lt_of_le hdp (Nat.le_of_ble_eq_true rfl) | omega | (simp only [depth_deeper, depth_in1, units_deeper, units_in1]; omega)) B (by (repeat (with_reducible refine uni_lt ?_)); first | exact Nat.lt_of_lt_of_le hun (Nat.le_of_ble_eq_true rfl) | omega | (simp only [depth_deeper, depth_in1, units_deeper, units_in1]; omega)) hh (jA.gens hG)
    (N (140, _) (by k_mem)).1 (sub_none HG (N (140, _) (by k_mem)).2.2) J.t1 (N (147, _) (by k_mem)).1 (sub_none HG (N (147, _) (by k_mem)).2.2) J.t2
    (N (x, _) (by k_mem)).1 (N (xd, _) (by k_mem)).1 (N (ll, _) (by k_mem)).1 (N (ax, _) (by k_mem)).1 (N (ad, _) (by k_mem)).1 (sub_none HG (N (x, _) (by k_mem)).2.2) (sub_none HG (N (xd, _) (by k_mem)).2.2) (sub_none HG (N (ll, _) (by k_mem)).2.2) (sub_none HG (N (ax, _) (by k_mem)).2.2) (sub_none HG (N (ad, _) (by k_mem)).2.2)
    hit (N (a, _) (hmin _ hmem)).1 (partsV_at hpar0 fun p hp => (N p (hmin p hp)).1) ?_ ?_ ?_ ⟨blank_ok, by rw [← hun9]; exact word_ok T nn⟩ (Int.le_refl _) (by decide) ?_ hlil ?_ J.lines ?_ ?_
  · intro q hq
    rw [map_snoc] at hq
    obtain ⟨v, hv, rfl⟩ := List.mem_map.mp hq
    refine ⟨by rw [blank_len]; decide, ?_⟩
    have : v.length ≤ 100 := hlen v (by rw [hus]; exact hv)
    show v.length ≤ 1000
    omega
  · rw [List.length_append, List.length_map, List.length_singleton]; omega
  · have : (u == ("" : Str)) = false := beq_false_of_ne fun e => by
      have h := word_len (hd nn hnn)
      unfold ulen at h
      rw [hun9, e] at h
      rw [show ("" : Str).length = 0 by decide +kernel] at h
      omega
    rw [this, Bool.and_false]
  · rw [map_snoc, plen_words]; omega
  · refine .inr ⟨rfl, ?_, ?_⟩
    · rw [map_snoc, plen_words]; omega
    · rw [map_snoc]
      exact row_space (T := T) (n := nn) (hd nn hnn).1 (by rw [hun9]; exact List.mem_append_right _ (.head _))
  · rw [map_snoc, hnl]
    exact hroom
  · intro s2 p1 p2 tk2 Kp g1 g2 g3 g4
    obtain ⟨F2, N2⟩ := stepU (news' := (rl, listOf rv rn) :: R) Kp F N (fun t ht => by
      rcases List.mem_cons.mp ht with rfl | ht
      · exact .tail _ (.tail _ (.head _))
      rcases List.mem_cons.mp ht with rfl | ht
      · exact .tail _ (.tail _ (.tail _ (.head _)))
      rcases List.mem_cons.mp ht with rfl | ht
      · exact .tail _ (.tail _ (.tail _ (.tail _ (.head _))))
      rcases List.mem_cons.mp ht with rfl | ht
      · exact .tail _ (.tail _ (.tail _ (.tail _ (.tail _ (.head _)))))
      rcases List.mem_cons.mp ht with rfl | ht
      · exact .tail _ (.tail _ (.tail _ (.tail _ (.tail _ (.tail _ (.head _))))))
      · cases ht) (fun q hq => .inl ⟨.tail _ (.tail _ (.tail _ (.tail _ (.tail _ (.tail _ (.tail _ (List.mem_append_right _ hq))))))), z q (List.mem_append_right _ hq)⟩)
    have jA2 : Acc s0 s2.os s2.drawn s2.gens := ⟨Kp.os.trans jA.os, Kp.drawn.trans jA.drawn, fun q => Kp.gens (jA.gens q)⟩
    clear F N
    k_steps
    (with_reducible rename News _ _ _ _ => N3)
    refine join_list (items := rv) (ys := (rowsOf ulen wd (rs.map (wordOf T))).map rowText) ⟨_, (N3 (rl, _) (by k_mem)).1, rfl, _, rfl⟩ hrv (by rw [hnl]; exact hroom0) ?_
    intro t9 k9
    dsimp only
    k_steps
    (with_reducible rename News _ _ _ _ => N4); (with_reducible rename Fr _ _ _ _ => F4)
    have heq : (layAll ulen wd (rs.map (wordOf T))).1.map rowText ++ [ptext ((us0.map fun u => (Str.ofString " ", u)) ++ [(Str.ofString " ", u)])] = (rowsOf ulen wd (rs.map (wordOf T))).map rowText := by
      rw [hrows, List.map_append, map_snoc]; rfl
    rw [heq, beq_self_eq_true]
    exact hQ _ _ p1 p2 jA2 F4 g1 g3 fun p hp => (N4 p (.tail _ hp)).1
end
/- G22_2k -/
section
open PySem PySem.W PySem.Calls PyProof.Rows
theorem ord_of {T : Nat} {rs : List Nat} (hd : ∀ n ∈ rs, 0 < n ∧ n ∣ 10 ^ T) (h : rs.Pairwise (KeyOrd (keyOf T))) : Ord rs := by
  refine h.imp_of_mem fun {a b} ha hb k => ?_
  exact (digs_key (cof_of (hd a ha)).pos (cof_of (hd b hb)).pos (cof_of (hd a ha)).figs_le (cof_of (hd b hb)).figs_le).mpr k
theorem cell_ne {g h : Heap} {L a b : Addr} {o o' : Obj} {l : List (Addr × Obj)} {c : Option Value} (N : News g L h l) (ha : (a, o) ∈ l) (hb : (b, o') ∈ l) (h1 : o'.data = .cell c) (h2 : ∀ c, o.data ≠ .cell c) : @Ne Nat a b :=
  obj_ne (N _ ha).1 (N _ hb).1 fun e => h2 c (by have e' : o = o' := e; rw [e']; exact h1)
theorem law_c {prog : Program} {w : World} {A : Around} {s s0 : Shared} {H₀ g : Heap} {L : Addr} {p : Program} {loose : List Str} {mg mb m : Str → Option Value} {Q : Flow → Shared → Prop} {bm : Addr} {ob : Obj} {cT cK : Addr} {sc : Addr} {vs : List Value} {xs : List Int} {oT oK : Obj} {ps1 ps2 : Array Value}
    (hprog : prog = PySem.Challenge.pw_yh0022_02) (X : (heapK w.params).In H₀) (TR : TopRead p loose mg mb H₀) (XG : (heapK w.params).In g) (TG : TopRead p loose mg mb g) (HG : Sub H₀ g) (B : BMod H₀ mainGlobals mg bm ob) (hdp : A.depth < 455) (hun : A.units < 1450) (hh : A.handled = none) (hszL : H₀.objs.size ≤ L)
    (jA : Acc s0 s.os s.drawn s.gens) (hG : AllBare s0.gens) (F : Fr g L s.heap m) (N : News g L s.heap ((cT, oT) :: (cK, oK) :: [((295 : Addr), tabObj #[]), ((140 : Addr), tabObj ps1), ((147 : Addr), tabObj ps2)])) (hoT : oT.data = .cell none) (hoK : oK.data = .cell none) (ht1 : TriplesOk ps1.toList) (ht2 : TriplesOk ps2.toList)
    (hsc : g.IsList sc vs.toArray) (hI : IntsAre vs xs) (hlx : xs.length ≤ 63) (m1 : m "script" = some (.ref sc)) (z3 : @Ne Nat cK cT)
    (hQ : ∀ s' m' q1 q2 q3, Acc s0 s'.os s'.drawn s'.gens → Fr g L s'.heap m' → s'.heap.get? 295 = some (tabObj q1) → s'.heap.get? 140 = some (tabObj q2) → s'.heap.get? 147 = some (tabObj q3) → Q (.ret (.bool true)) s') :
    wpAny (model prog w) A (execs b298 (envX (Str.ofString "law") s298 L 298 (.ref 297) [(Str.ofString "tens", cT), (Str.ofString "kept", cK)])) Q NoE s := by
  have : PySem.Challenge.rw_yh0022_02.prog = PySem.Challenge.rw_yh0022_02.prog ∧ heapK = heapK := by k_fill; exact ⟨rfl, rfl⟩
  clear this
  have dT : ∀ {ps : Array Value} c, (tabObj ps).data ≠ .cell c := fun c e => by cases e
  have dL : ∀ {v : Array Value} {n : Nat} c, (listOf v n).data ≠ .cell c := fun c e => by cases e
  have zT : ∀ p ∈ [((295 : Addr), tabObj #[]), ((140 : Addr), tabObj ps1), ((147 : Addr), tabObj ps2)], @Ne Nat p.1 cT := List.forall_mem_cons.mpr ⟨cell_ne N (.tail _ (.tail _ (.head _))) (.head _) hoT dT, List.forall_mem_cons.mpr ⟨cell_ne N (.tail _ (.tail _ (.tail _ (.head _)))) (.head _) hoT dT, List.forall_mem_cons.mpr ⟨cell_ne N (.tail _ (.tail _ (.tail _ (.tail _ (.head _))))) (.head _) hoT dT, fun p hp => nomatch hp⟩⟩⟩
  have zK : ∀ p ∈ [((295 : Addr), tabObj #[]), ((140 : Addr), tabObj ps1), ((147 : Addr), tabObj ps2)], @Ne Nat p.1 cK := List.forall_mem_cons.mpr ⟨cell_ne N (.tail _ (.tail _ (.head _))) (.tail _ (.head _)) hoK dT, List.forall_mem_cons.mpr ⟨cell_ne N (.tail _ (.tail _ (.tail _ (.head _)))) (.tail _ (.head _)) hoK dT, List.forall_mem_cons.mpr ⟨cell_ne N (.tail _ (.tail _ (.tail _ (.tail _ (.head _))))) (.tail _ (.head _)) hoK dT, fun p hp => nomatch hp⟩⟩⟩
  refine lawA0_c (xs := xs) hprog X TR XG TG HG B hdp hun hh hszL jA F N hoT hoK hsc hI hlx m1 zT z3 ?_
  intro h1 tk1 ma T wd nl items n1 sl0 sn0 oT1 t1 t2 t3 hnum hT3 hT hwd0 hwd F1 N1 lt1 hoT1 a1 a2 a3 a4
  refine lawA2_c (xs := xs) hprog X TR XG TG HG B hdp hun hh hszL jA F1 N1 hoT1 hT hnum a1 a2 a3 a4 ?_
  intro s2 mb2 sl sv sn ns hS hns jA2 F2 N2 b2 b3 b4
  have hpos := hS.dvd
  have hl0 := hS.some (by decide)
  have hln := hS.len
  refine lawB_c hprog X TR XG TG HG B hdp hun hh hszL jA2 F2 N2 hoT1 hT hns hpos hln b4 ?_
  intro h3 tk3 m3 ol ov on hov F3 N3 off3 c1 c2
  have c3 := (c2 _ (by decide)).trans b2
  have c4 := (c2 _ (by decide)).trans b3
  have c5 := (c2 _ (by decide)).trans b4
  refine lawC_c hprog X TR XG TG HG B hdp hun hh hszL jA2 F3 N3 hoT1 hT hoK z3 (cell_ne N3 (by k_mem) (b := cK) (by k_mem) hoK dL) (cell_ne N3 (by k_mem) (b := cK) (by k_mem) hoK dL) zK hns hov hpos hl0 hln c5 c1 c3 c4 ?_
  intro s4 m4 oK4 jA4 F4 N4 d1 d2 d3 d4
  have lT : ∀ {v : Array Value} {n : Nat} {ps : Array Value}, (listOf v n).cls ≠ (tabObj ps).cls := by intro v n ps; simp
  -- ranked
  refine lawD_c (R := (ol, listOf ov on) :: [((140 : Addr), tabObj ps1), ((147 : Addr), tabObj ps2)]) hprog X TR XG TG HG B hdp hun hh hszL jA4 F4 (news_sub N4 (sub_cons (by k_mem) (sub_cons (by k_mem) (sub_cons (by k_mem) (sub_cons (by k_mem) (sub_cons (by k_mem) (sub_cons (by k_mem) fun p hp => nomatch hp))))))) hoT1 hT
    (List.forall_mem_cons.mpr ⟨upd_ne (N4 (sl, _) (by k_mem)).1 (N4 (295, _) (by k_mem)).1 lT, List.forall_mem_cons.mpr ⟨Ne.symm (zT _ (.head _)), List.forall_mem_cons.mpr ⟨upd_ne (N4 (ol, _) (by k_mem)).1 (N4 (295, _) (by k_mem)).1 lT, List.forall_mem_cons.mpr ⟨(show @Ne Nat 140 295 from by decide), List.forall_mem_cons.mpr ⟨(show @Ne Nat 147 295 from by decide), fun p hp => nomatch hp⟩⟩⟩⟩⟩)
    hns hS.nd hpos hl0 hln d1 ?_
  intro s5 rl rv rn ps rs hperm hkey hrv jA5 F5 N5
  have hd : ∀ n ∈ rs, 0 < n ∧ n ∣ 10 ^ T := fun n hn => hpos n (hperm.mem_iff.mp hn)
  have hord := ord_of hd hkey
  have hlr : rs.length = ns.length := hperm.length_eq
  -- pure, rest
  refine lawE1_c hprog X TR XG TG HG B hdp hun hh hszL jA5 F5 N5 hrv hd hT (by omega) (by walk_at "mine_var") ?_
  intro h6 tk6 pl pv pn hpv F6 N6 off6
  refine lawE2_c (R := (pl, listOf pv pn) :: (295, tabObj ps) :: (sl, listOf sv sn) :: (cT, oT1) :: (ol, listOf ov on) :: [((140 : Addr), tabObj ps1), ((147 : Addr), tabObj ps2)]) hprog X TR XG TG HG B hdp hun hh hszL jA5 F6 (news_sub N6 (sub_cons (.tail _ (.head _)) (sub_cons (.head _) fun p hp => .tail _ (.tail _ hp)))) hrv hd hT (by omega) (by walk_at "mine_var") ?_
  intro h7 tk7 tl7 tv tn htv F7 N7 off7
  -- told
  refine lawF_c (R := (tl7, listOf tv tn) :: (pl, listOf pv pn) :: (295, tabObj ps) :: (cT, oT1) :: (ol, listOf ov on) :: [((140 : Addr), tabObj ps1), ((147 : Addr), tabObj ps2)]) hprog X TR XG TG HG B hdp hun hh hszL jA5 F7 (news_sub N7 (by (repeat (refine sub_cons (by repeat (first | exact List.Mem.head _ | refine List.Mem.tail _ ?_)) ?_)); exact fun p hp => nomatch hp)) hns hrv hS.nd hpos hT hl0 hln hperm hord (by walk_at "mine_var") (by walk_at "mine_var") ?_
  intro s8 dl dv dn hstr jA8 F8 N8 off8
  refine lawG_c (rs := rs) (ns := ns) (pl := pl) (tl' := tl7) (ol := ol) (R := (dl, listOf dv dn) :: (rl, listOf rv rn) :: (295, tabObj ps) :: [((140 : Addr), tabObj ps1), ((147 : Addr), tabObj ps2)]) (sl := sl) (rl := rl) hprog X TR XG TG HG B hdp hun hh hszL jA8 F8 (news_sub N8 (by (repeat (refine sub_cons (by repeat (first | exact List.Mem.head _ | refine List.Mem.tail _ ?_)) ?_)); exact fun p hp => nomatch hp)) hoT1 hT hov hpv htv hS.nd hpos hl0 hln hperm hord (by walk_at "mine_var") (by walk_at "mine_var") (by walk_at "mine_var") ?_
  intro s9 jA9 F9 N9
  have yL : ∀ {a : Addr} {v : Array Value} {n : Nat}, (a, listOf v n) ∈ (pl, listOf pv pn) :: (tl7, listOf tv tn) :: (ol, listOf ov on) :: (cT, oT1) :: (dl, listOf dv dn) :: (rl, listOf rv rn) :: (295, tabObj ps) :: [((140 : Addr), tabObj ps1), ((147 : Addr), tabObj ps2)] → a ≠ (140 : Addr) ∧ a ≠ (147 : Addr) := fun h =>
    ⟨upd_ne (N9 _ h).1 (N9 (140, tabObj ps1) (by repeat (first | exact List.Mem.head _ | refine List.Mem.tail _ ?_))).1 lT, upd_ne (N9 _ h).1 (N9 (147, tabObj ps2) (by repeat (first | exact List.Mem.head _ | refine List.Mem.tail _ ?_))).1 lT⟩
  -- the formatter
  refine lawH1_c (wd := wd) (R := (cT, oT1) :: (dl, listOf dv dn) :: (rl, listOf rv rn) :: (pl, listOf pv pn) :: (tl7, listOf tv tn) :: [((295 : Addr), tabObj ps)]) hprog X TR XG TG HG B hdp hun hh hszL jA9 F9 (news_sub N9 (by (repeat (refine sub_cons (by repeat (first | exact List.Mem.head _ | refine List.Mem.tail _ ?_)) ?_)); exact fun p hp => nomatch hp)) ht1 ht2 (by walk_at "mine_var")
    (List.forall_mem_cons.mpr ⟨⟨Ne.symm (zT _ (.tail _ (.head _))), Ne.symm (zT _ (.tail _ (.tail _ (.head _))))⟩, List.forall_mem_cons.mpr ⟨yL (by repeat (first | exact List.Mem.head _ | refine List.Mem.tail _ ?_)), List.forall_mem_cons.mpr ⟨yL (by repeat (first | exact List.Mem.head _ | refine List.Mem.tail _ ?_)), List.forall_mem_cons.mpr ⟨yL (by repeat (first | exact List.Mem.head _ | refine List.Mem.tail _ ?_)), List.forall_mem_cons.mpr ⟨yL (by repeat (first | exact List.Mem.head _ | refine List.Mem.tail _ ?_)), List.forall_mem_cons.mpr ⟨⟨(show @Ne Nat 295 140 from by decide), (show @Ne Nat 295 147 from by decide)⟩, fun p hp => nomatch hp⟩⟩⟩⟩⟩⟩) ?_
  intro s10 x xd ll ax ad k nl10 n10 u1 u2 F10 N10 J10 z10 jA10
  refine lawH2_c (R := (rl, listOf rv rn) :: (pl, listOf pv pn) :: (tl7, listOf tv tn) :: [((295 : Addr), tabObj ps)]) hprog X TR XG TG HG B hdp hun hh hszL jA10 hG F10 N10 J10 z10 hoT1 hT hstr hd (by omega) (by omega) (by walk_at "mine_var") (by walk_at "mine_var") ?_
  intro s11 m11 li nl11 its n11 v1 v2 q1 q2 tups e11 F11 N11 J11 z11 jA11
  have i11 : ∀ p ∈ (cT, oT1) :: (dl, listOf dv dn) :: (rl, listOf rv rn) :: (pl, listOf pv pn) :: (tl7, listOf tv tn) :: [((295 : Addr), tabObj ps)], p ∈ VN w.params wd x xd ll ax ad k li nl11 its n11 v1 v2 q1 q2 (tups ++ ((cT, oT1) :: (dl, listOf dv dn) :: (rl, listOf rv rn) :: (pl, listOf pv pn) :: (tl7, listOf tv tn) :: [((295 : Addr), tabObj ps)])) := fun p hp => .tail _ (.tail _ (.tail _ (.tail _ (.tail _ (.tail _ (.tail _ (List.mem_append_right _ hp)))))))
  have r11 : m11 (Str.ofString "ranked") = some (.ref rl) := (e11 _ (by decide)).trans (by walk_at "mine_var")
  have p11 : m11 (Str.ofString "pure") = some (.ref pl) := (e11 _ (by decide)).trans (by walk_at "mine_var")
  have t11 : m11 (Str.ofString "rest") = some (.ref tl7) := (e11 _ (by decide)).trans (by walk_at "mine_var")
  have f11 : m11 (Str.ofString "formatter") = some (.ref x) := (e11 _ (by decide)).trans (by walk_at "mine_var")
  have s11' : m11 (Str.ofString "size") = some (.int (((T : Nat) : Int) + 3) t2) := (e11 _ (by decide)).trans (by walk_at "mine_var")
  have w11 : m11 (Str.ofString "width") = some (.int ((wd : Nat) : Int) t3) := (e11 _ (by decide)).trans (by walk_at "mine_var")
  -- words, rows
  refine lawI_c (R := VN w.params wd x xd ll ax ad k li nl11 its n11 v1 v2 q1 q2 (tups ++ ((cT, oT1) :: (dl, listOf dv dn) :: (rl, listOf rv rn) :: (pl, listOf pv pn) :: (tl7, listOf tv tn) :: [((295 : Addr), tabObj ps)]))) hprog X TR XG TG HG B hdp hun hh hszL jA11 F11 (news_sub N11 (sub_cons (i11 _ (by repeat (first | exact List.Mem.head _ | refine List.Mem.tail _ ?_))) (sub_cons (i11 _ (by repeat (first | exact List.Mem.head _ | refine List.Mem.tail _ ?_))) sub_rfl))) hoT1 hT hrv hd (by omega) r11 ?_
  intro h12 tk12 wl wv wn hwv F12 N12 off12
  refine lawJ_c (rs := rs) (T := T) (wd := wd) (R := VN w.params wd x xd ll ax ad k li nl11 its n11 v1 v2 q1 q2 (tups ++ ((cT, oT1) :: (dl, listOf dv dn) :: (rl, listOf rv rn) :: (pl, listOf pv pn) :: (tl7, listOf tv tn) :: [((295 : Addr), tabObj ps)]))) hprog X TR XG TG HG B hdp hun hh hszL jA11 F12 (news_sub N12 (sub_cons (.head _) (sub_cons (.tail _ (.tail _ (.tail _ (i11 _ (by repeat (first | exact List.Mem.head _ | refine List.Mem.tail _ ?_)))))) (sub_cons (.tail _ (.tail _ (.tail _ (i11 _ (by repeat (first | exact List.Mem.head _ | refine List.Mem.tail _ ?_)))))) fun p hp => .tail _ (.tail _ (.tail _ hp)))))) hT3 hT hwd0 hwd hpv htv (by omega) hwv (List.length_map ..) (fun v hv => ?_)
    ((if_neg (by decide)).trans p11) ((if_neg (by decide)).trans t11) ((if_neg (by decide)).trans s11') ((if_neg (by decide)).trans w11) (if_pos rfl) ?_
  · obtain ⟨n, hn, rfl⟩ := List.mem_map.mp hv
    have cn := cof_of (hd n hn)
    have := cn.figs_le
    have := cn.symm.figs_le
    rw [wordS_eq]
    unfold wordOf
    rw [app_len, app_len, app_len, blank_len, star_len, dec_length cn.pos, dec_length cn.posc]
    omega
  intro s13 m13 ql qv qn hqv jA13 e13 r13 F13 N13 ne13
  have i13 : ∀ p ∈ VN w.params wd x xd ll ax ad k li nl11 its n11 v1 v2 q1 q2 (tups ++ ((cT, oT1) :: (dl, listOf dv dn) :: (rl, listOf rv rn) :: (pl, listOf pv pn) :: (tl7, listOf tv tn) :: [((295 : Addr), tabObj ps)])), p ∈ (ql, listOf qv qn) :: (wl, listOf wv wn) :: (pl, listOf pv pn) :: (tl7, listOf tv tn) :: VN w.params wd x xd ll ax ad k li nl11 its n11 v1 v2 q1 q2 (tups ++ ((cT, oT1) :: (dl, listOf dv dn) :: (rl, listOf rv rn) :: (pl, listOf pv pn) :: (tl7, listOf tv tn) :: [((295 : Addr), tabObj ps)])) := fun p hp => .tail _ (.tail _ (.tail _ (.tail _ hp)))
  refine lawK_c (x := x) (xd := xd) (ll := ll) (ax := ax) (ad := ad) (k := k) (nl := nl11) (n := n11) (u1 := v1) (u2 := v2) (rl := ql) (rn := qn) (R := [((295 : Addr), tabObj ps)]) (tups := tups) hprog X TR XG TG HG B hdp hun hh hszL jA13 hG F13 (news_sub N13 ?_) J11 ?_ hT3 hT hwd0 hwd hd hord (by omega) (by omega) hqv ((e13 _ (by decide) (by decide) (by decide)).trans ((if_neg (by decide)).trans f11)) r13 ?_
  · iterate 7 (refine sub_cons (i13 _ (by repeat (first | exact List.Mem.head _ | refine List.Mem.tail _ ?_))) ?_)
    intro p hp
    rcases List.mem_append.mp hp with hp | hp
    · exact i13 p (.tail _ (.tail _ (.tail _ (.tail _ (.tail _ (.tail _ (.tail _ (List.mem_append_left _ hp))))))))
    rcases List.mem_cons.mp hp with rfl | hp
    · exact .head _
    · rw [List.mem_singleton.mp hp]
      exact i13 _ (i11 _ (by repeat (first | exact List.Mem.head _ | refine List.Mem.tail _ ?_)))
  · intro p hp
    rcases List.mem_append.mp hp with hp | hp
    · exact z11 p (List.mem_append_left _ hp)
    rcases List.mem_cons.mp hp with rfl | hp
    · exact notin5 (Ne.symm (ne13 (ll, _) (by repeat (first | exact List.Mem.head _ | refine List.Mem.tail _ ?_)))) (Ne.symm (ne13 (ax, _) (by repeat (first | exact List.Mem.head _ | refine List.Mem.tail _ ?_)))) (Ne.symm (ne13 (ad, _) (by repeat (first | exact List.Mem.head _ | refine List.Mem.tail _ ?_)))) (Ne.symm (ne13 (140, _) (by repeat (first | exact List.Mem.head _ | refine List.Mem.tail _ ?_)))) (Ne.symm (ne13 (147, _) (by repeat (first | exact List.Mem.head _ | refine List.Mem.tail _ ?_))))
    · rw [List.mem_singleton.mp hp]
      exact z11 _ (List.mem_append_right _ (by repeat (first | exact List.Mem.head _ | refine List.Mem.tail _ ?_)))
  · intro s14 m14 p1 p2 jA14 F14 g1 g2 g3
    exact hQ s14 m14 ps p1 p2 jA14 F14 (g3 _ (.head _)) g1 g2
end
/- D8_2k -/
section
open PySem PySem.W PySem.Calls PyProof.Rows
section
variable {h : Heap} {ts : List Addr}
theorem not_tab (ht : ∀ t ∈ ts, h.get? t = some (tabObj #[])) {b : Addr} {o : Obj} (e : h.get? b = some o) (hne : o ≠ tabObj #[]) : b ∉ ts := fun q => by
  have := ht b q
  rw [e] at this
  exact hne (Option.some.inj this)
theorem ns_hide (ht : ∀ t ∈ ts, h.get? t = some (tabObj #[])) {a : Addr} {m : Str → Option Value} (n : h.Ns a m) : (hideAll h ts).Ns a m := by
  obtain ⟨o, es, ep, e, hd, r⟩ := n
  exact ⟨o, es, ep, hideAll_get _ e (not_tab ht e fun q => by rw [q] at hd; cases hd), hd, r⟩
theorem top_hide (ht : ∀ t ∈ ts, h.get? t = some (tabObj #[])) {p : Program} {loose : List Str} {mg mb : Str → Option Value} (T : TopRead p loose mg mb h) : TopRead p loose mg mb (hideAll h ts) := by
  obtain ⟨mc, hc, hl⟩ := T.nolimit
  exact ⟨ns_hide ht T.g, ns_hide ht T.b, ⟨mc, ns_hide ht hc, hl⟩, T.builtins, T.free⟩
theorem bmod_hide (ht : ∀ t ∈ ts, h.get? t = some (tabObj #[])) {g bm : Addr} {mg : Str → Option Value} {ob : Obj} (B : BMod h g mg bm ob) : BMod (hideAll h ts) g mg bm ob :=
  ⟨ns_hide ht B.ns, B.name, B.ne, hideAll_get _ B.obj (not_tab ht B.obj fun q => by have := B.cls; rw [q] at this; cases this), B.cls, B.dict, B.data⟩
theorem list_hide (ht : ∀ t ∈ ts, h.get? t = some (tabObj #[])) {l : Addr} {items : Array Value} (L : h.IsList l items) : (hideAll h ts).IsList l items := by
  obtain ⟨o, e, hc, r⟩ := L
  exact ⟨o, hideAll_get _ e (not_tab ht e fun q => by rw [q] at hc; cases hc), hc, r⟩
theorem frag_hide {K : Frag} (X : K.In h) (hk : ∀ t ∈ ts, K.lookup t = none) : K.In (hideAll h ts) := fun a o e => hideAll_get _ (X a o e) fun q => by rw [hk a q] at e; cases e
theorem fr_hide {L : Addr} {h' : Heap} {m : Str → Option Value} (F : Fr h L h' m) : Fr (hideAll h ts) L h' m := ⟨F.ns, fun b o e => F.keep b o (of_hideAll _ e), Nat.le_trans (Nat.le_of_eq (hideAll_size _ _)) F.above⟩
theorem news_hide {L : Addr} {h' : Heap} {m : Str → Option Value} (F : Fr h L h' m) (hts : ts = [(140 : Addr), 147, 295]) (ht : ∀ t ∈ ts, h.get? t = some (tabObj #[])) (hL : L = h.objs.size) : News (hideAll h ts) L h' [((295 : Addr), tabObj #[]), ((140 : Addr), tabObj #[]), ((147 : Addr), tabObj #[])] := by
  subst hts
  intro p hp
  have key : ∀ t ∈ [(140 : Addr), 147, 295], h'.get? t = some (tabObj #[]) ∧ t ≠ L ∧ (hideAll h [(140 : Addr), 147, 295]).get? t = none := fun t q =>
    ⟨F.keep _ _ (ht t q), fun e => by have := Heap.lt_size (ht t q); rw [e, hL] at this; exact Nat.lt_irrefl _ this, hideAll_none _ q⟩
  simp only [List.mem_cons, List.not_mem_nil, or_false] at hp
  rcases hp with rfl | rfl | rfl
  · exact key _ (by simp)
  · exact key _ (by simp)
  · exact key _ (by simp)
theorem good_end {s₁ s' : Shared} {c : ClaimW} {cl : Str → Option Addr} {mean : ExcName → Option Value} {args : List WData} {L : Addr} {m' : Str → Option Value} {ps1 ps2 ps3 : Array Value} (hT : TabsAt [((144 : Addr), (140 : Addr)), (151, 147), (297, 295)] s₁.heap) (hr : ∀ cls, c.raises args cls = false) (hp : c.post args (.bool true) args = true)
    (F : Fr (hideAll s₁.heap [(140 : Addr), 147, 295]) L s'.heap m') (e1 : s'.heap.get? 140 = some (tabObj ps1)) (e2 : s'.heap.get? 147 = some (tabObj ps2)) (e3 : s'.heap.get? 295 = some (tabObj ps3)) (hos : s'.os = s₁.os) (hg : AllBare s'.gens) : GoodWG c cl mean args s₁ (.ok (.ret (.bool true))) s' := by
  have key : ∀ b o, s₁.heap.get? b = some o → s'.heap.get? b = some o ∨ (isCodeTable s₁.heap b ∧ o = tabObj #[] ∧ ∃ ps, s'.heap.get? b = some (tabObj ps)) := by
    intro b o e
    by_cases hb : b ∈ [(140 : Addr), 147, 295]
    · refine .inr ?_
      simp only [List.mem_cons, List.not_mem_nil, or_false] at hb
      rcases hb with rfl | rfl | rfl
      · have q := hT (144, 140) (by simp)
        exact ⟨(q.1.tab q.2).isCodeTable, Option.some.inj (e.symm.trans q.2), _, e1⟩
      · have q := hT (151, 147) (by simp)
        exact ⟨(q.1.tab q.2).isCodeTable, Option.some.inj (e.symm.trans q.2), _, e2⟩
      · have q := hT (297, 295) (by simp)
        exact ⟨(q.1.tab q.2).isCodeTable, Option.some.inj (e.symm.trans q.2), _, e3⟩
    · exact .inl (F.keep _ _ (hideAll_get _ e hb))
  refine ⟨.inl ⟨.bool true, .bool true, [], rfl, hr, .bool _, hp, fun _ => ⟨.nil, fun a ha => nomatch ha⟩⟩, ⟨fun b o e => ?_, fun b o e => ?_⟩, hos, hg⟩
  · rcases key b o e with h | ⟨h1, rfl, ps, h2⟩
    · exact .inl h
    · exact .inr (.inl ⟨h1, rfl, #[], ps, rfl, by simpa using h2⟩)
  · rcases key b o e with h | ⟨_, _, ps, h2⟩
    · exact ⟨_, h⟩
    · exact ⟨_, h2⟩
end
theorem post_ok (args ds : List WData) : PySem.Challenge.rw_yh0022_02.row.claim.post args (.bool true) ds = true := by kernel_rfl
end
end Mine
/- TOP -/
open Mine
theorem PySem.Challenge.cw_yh0022_02_holds : PySem.Challenge.rw_yh0022_02.Holds := by
  w_on
  refine holds_law saidK fun said => ?_
  refine holds_open (q := viewK) (loose := [Str.ofString "_Accumulator"]) (Xt := fun s => xlAt viewK [] s && recOk (RowW.records PySem.Challenge.rw_yh0022_02.row.toRowW) s) (XP := XL viewK []) (Yf := Hook.obs HK) (Ya := Hook.val HK) (YP := Hook.says HK) (N := 3632) leftK (Hook.of HK) (Hook.keeps HK) (fun s e => xl_of s (Bool.and_eq_true_iff.mp e).1) XL.keeps (by rfl) (by rfl) (by rfl) (fun s e => recFacts_of (Bool.and_eq_true_iff.mp e).2) (by rfl) (by first | assumption | decide +kernel) (by decide +kernel) ⟨rfl, rfl, rfl, rfl, rfl, by decide +kernel⟩ ?hw ?hc
  case hw => w_witness2
  case hc =>
    have hreg : PySem.Challenge.rw_yh0022_02.prog = PySem.Challenge.rw_yh0022_02.prog ∧ heapK = heapK := by k_fill; exact ⟨rfl, rfl⟩
    clear hreg
    intro w s₀ s₁ mg mb G Y fa o pm cd doc dV kV ho hd hcd hD hmg hg args vals as hpre hlay hrd hwl hlo
    have KX := km_in_of Y
    have KT := km_tabs_of Y
    have TT : s₁.heap.Ns mainGlobals mg := Ground.open G fun T _ _ _ _ => T.g
    have e1 := mg_of KX TT (n := Str.ofString "law") (v := .ref 298) (by k_is)
    obtain rfl : 298 = fa := Value.ref.inj (Option.some.inj (e1.symm.trans hmg))
    have e2 := KX 298 _ (by k_is)
    have e3 := Option.some.inj (ho.symm.trans e2)
    have e4 : cd = .ref 297 := by
      rw [e3] at hd
      exact (congrArg FuncData.code (Data.func.inj hd)).symm
    subst e4
    have X := (Ground.X G).1
    refine Ground.open G ?_
    intro T B D TE TW
    try (refine guard_noD D (by decide +kernel) ?_; clear D)
    obtain ⟨_, _, M⟩ := bmod_of_top T
    clear hmg
    wrow_args hpre hlay hrd hwl hlo
    first | refine callC_kw (enter_call ?_) | refine enter_call ?_ | refine callC_kw (enter_callW ?_) | refine enter_callW ?_
    w_top on
    have K0 := below_caller (Top.heap T)
    w_call any ho hd hcd hD T F
    clear hd
    k_drop
    (with_reducible rename Fr _ _ _ _ => F1); (with_reducible rename Top _ _ _ _ _ _ => T1); (with_reducible rename BMod _ _ _ _ _ => M1); (with_reducible rename IntsAre _ _ => I1); (with_reducible rename Heap.IsList _ _ _ => L1); (with_reducible rename News _ _ _ _ => N1)
    rename_i hA hB hC
    have hK : ∀ t ∈ [(140 : Addr), 147, 295], (heapK w.params).lookup t = none := by
      intro t ht
      simp only [List.mem_cons, List.not_mem_nil, or_false] at ht
      rcases ht with rfl | rfl | rfl <;> kernel_rfl
    have hts : ∀ t ∈ [(140 : Addr), 147, 295], s₁.heap.get? t = some (tabObj #[]) := KT
    have N2 := news_hide F1 rfl hts rfl
    have none_of : ∀ {a : Addr}, s₁.heap.get? a = none → (hideAll s₁.heap [(140 : Addr), 147, 295]).get? a = none := fun {a} e => by
      cases q : (hideAll s₁.heap [(140 : Addr), 147, 295]).get? a with
      | none => rfl
      | some o => rw [of_hideAll _ q] at e; cases e
    refine wpAny_mono (law_c (p := _) (loose := _) (mg := mg) (mb := mb) (Q := fun fl s' => fl = .ret (.bool true) ∧ ∃ m' q1 q2 q3, Fr (hideAll s₁.heap [(140 : Addr), 147, 295]) s₁.heap.objs.size s'.heap m' ∧ s'.heap.get? 140 = some (tabObj q1) ∧ s'.heap.get? 147 = some (tabObj q2) ∧ s'.heap.get? 295 = some (tabObj q3) ∧ s'.os = s₁.os ∧ AllBare s'.gens) (H₀ := hideAll s₁.heap [(140 : Addr), 147, 295]) (g := hideAll s₁.heap [(140 : Addr), 147, 295]) (L := s₁.heap.objs.size) (cT := s₁.heap.objs.size + 1 + 1) (cK := s₁.heap.objs.size + 1) (s0 := s₁) rfl (frag_hide KX hK) (top_hide hts (topRead_of T1)) (frag_hide KX hK) (top_hide hts (topRead_of T1)) (fun b o e => e) (bmod_hide hts M1) ?dp ?un ?hh (Nat.le_of_eq (hideAll_size _ _)) ⟨rfl, rfl, id⟩ (AllBare.of_eq hg) (fr_hide F1)
      (List.forall_mem_cons.mpr ⟨⟨(N1 _ (.head _)).1, (N1 _ (.head _)).2.1, none_of (N1 _ (.head _)).2.2⟩, List.forall_mem_cons.mpr ⟨⟨(N1 _ (.tail _ (.head _))).1, (N1 _ (.tail _ (.head _))).2.1, none_of (N1 _ (.tail _ (.head _))).2.2⟩, N2⟩⟩) hA hB ?t1 ?t2 (list_hide hts L1) I1 (by omega) rfl (Nat.ne_of_lt (Nat.lt_succ_self _)) ?q) ?fin ?no
    case dp => rw [depth_deeper]; decide
    case un => rw [units_deeper]; decide
    case hh => rfl
    case t1 => simp [TriplesOk]
    case t2 => simp [TriplesOk]
    case q => exact fun s' m' q1 q2 q3 A' F' e1 e2 e3 => ⟨rfl, m', q2, q3, q1, F', e2, e3, e1, A'.os, A'.gens (AllBare.of_eq hg)⟩
    case no => exact fun _ _ h => h.elim
    case fin =>
      rintro fl s' ⟨rfl, m', q1, q2, q3, F', e1, e2, e3, h3, h4⟩
      exact good_end (List.forall_mem_cons.mpr ⟨⟨codeHd_of_K (c := 144) (P := 140) KX (by kernel_rfl), KT _ (by simp)⟩, List.forall_mem_cons.mpr ⟨⟨codeHd_of_K (c := 151) (P := 147) KX (by kernel_rfl), KT _ (by simp)⟩, List.forall_mem_cons.mpr ⟨⟨codeHd_of_K (c := 297) (P := 295) KX (by kernel_rfl), KT _ (by simp)⟩, List.forall_mem_nil _⟩⟩⟩) (fun _ => rfl) (post_ok _ _) F' e1 e2 e3 h3 h4
