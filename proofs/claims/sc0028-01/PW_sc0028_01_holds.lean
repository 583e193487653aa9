import PyProof.Rows.All
import Wide.All
import OpenK.AllK
import Wide.FinOn
import PySem.Challenge.RW_sc0028_01
set_option Elab.async false
set_option maxRecDepth 100000
section
open PySem PySem.W PyProof.Rows
namespace Mine
noncomputable def topSt (i : Nat) : Stmt := PySem.Challenge.pw_sc0028_01.main.body.getD i default
noncomputable def defB : Stmt → List Stmt
  | .FunctionDef _ _ body .. => body
  | _ => []
noncomputable def defA : Stmt → Arguments
  | .FunctionDef _ args .. => args
  | _ => default
noncomputable def defS : Stmt → Scope
  | .FunctionDef _ _ _ _ _ _ scope .. => scope
  | _ => default
noncomputable def clB : Stmt → List Stmt
  | .ClassDef _ _ _ body .. => body
  | _ => []
noncomputable def clSt (i j : Nat) : Stmt := (clB (topSt i)).getD j default
noncomputable def heapX (P : Params) : Frag :=
  [
    (2, { cls := Value.none, data := Data.dict #[] }),
    (3, { cls := Value.type "dict", data := Data.dict #[{ hash := PyData.keyHash P (Str.ofString "__name__"), key := Value.str (Str.ofString "__name__") 165, val := Value.str (Str.ofString "law_sc0028_01") 291 }, { hash := PyData.keyHash P (Str.ofString "__doc__"), key := Value.str (Str.ofString "__doc__") 166, val := Value.none }, { hash := PyData.keyHash P (Str.ofString "__package__"), key := Value.str (Str.ofString "__package__") 167, val := Value.none }, { hash := PyData.keyHash P (Str.ofString "__loader__"), key := Value.str (Str.ofString "__loader__") 168, val := Value.builtin "__main__.__loader__#opaque" }, { hash := PyData.keyHash P (Str.ofString "__spec__"), key := Value.str (Str.ofString "__spec__") 169, val := Value.none }, { hash := PyData.keyHash P (Str.ofString "__annotations__"), key := Value.str (Str.ofString "__annotations__") 170, val := Value.ref 6 }, { hash := PyData.keyHash P (Str.ofString "__builtins__"), key := Value.str (Str.ofString "__builtins__") 171, val := Value.ref 4 }, { hash := PyData.keyHash P (Str.ofString "__file__"), key := Value.str (Str.ofString "__file__") 173, val := Value.str (Str.ofString "/claim/cut.py") 172 }, { hash := PyData.keyHash P (Str.ofString "__cached__"), key := Value.str (Str.ofString "__cached__") 174, val := Value.none }, { hash := PyData.keyHash P (Str.ofString "_wall"), key := Value.str (Str.ofString "_wall") 193, val := Value.ref 21 }, { hash := PyData.keyHash P (Str.ofString "Entry"), key := Value.str (Str.ofString "Entry") 253, val := Value.ref 59 }, { hash := PyData.keyHash P (Str.ofString "merge_entries"), key := Value.str (Str.ofString "merge_entries") 262, val := Value.ref 70 }, { hash := PyData.keyHash P (Str.ofString "_strcoll"), key := Value.str (Str.ofString "_strcoll") 272, val := Value.ref 77 }, { hash := PyData.keyHash P (Str.ofString "_strxfrm"), key := Value.str (Str.ofString "_strxfrm") 279, val := Value.ref 84 }, { hash := PyData.keyHash P (Str.ofString "CHAR_MAX"), key := Value.str (Str.ofString "CHAR_MAX") 281, val := Value.int 127 280 }, { hash := PyData.keyHash P (Str.ofString "_grouping_intervals"), key := Value.str (Str.ofString "_grouping_intervals") 290, val := Value.ref 91 }, { hash := PyData.keyHash P (Str.ofString "_law_rows"), key := Value.str (Str.ofString "_law_rows") 298, val := Value.ref 96 }, { hash := PyData.keyHash P (Str.ofString "_law_plain"), key := Value.str (Str.ofString "_law_plain") 304, val := Value.ref 101 }, { hash := PyData.keyHash P (Str.ofString "_law_told"), key := Value.str (Str.ofString "_law_told") 314, val := Value.ref 108 }, { hash := PyData.keyHash P (Str.ofString "_law_refused"), key := Value.str (Str.ofString "_law_refused") 323, val := Value.ref 115 }, { hash := PyData.keyHash P (Str.ofString "_law_book"), key := Value.str (Str.ofString "_law_book") 329, val := Value.ref 120 }, { hash := PyData.keyHash P (Str.ofString "_law_pages"), key := Value.str (Str.ofString "_law_pages") 335, val := Value.ref 125 }, { hash := PyData.keyHash P (Str.ofString "_law_writings"), key := Value.str (Str.ofString "_law_writings") 341, val := Value.ref 130 }, { hash := PyData.keyHash P (Str.ofString "law"), key := Value.str (Str.ofString "law") 347, val := Value.ref 135 }] 24 }),
    (6, { cls := Value.type "dict", data := Data.dict #[] }),
    (15, { cls := Value.type "tuple", data := Data.seq #[] }),
    (17, { cls := Value.type "tuple", data := Data.seq #[Value.str (Str.ofString "k") 190] }),
    (18, { cls := Value.type "tuple", data := Data.seq #[] }),
    (20, { cls := Value.type "code", data := Data.fields #[Value.str (Str.ofString "_wall") 187, Value.str (Str.ofString "_wall") 188, Value.str (Str.ofString "/claim/cut.py") 189, Value.int 1 0, Value.int 1 0, Value.int 0 0, Value.int 0 0, Value.int 3 0, Value.ref 15, Value.bool true, Value.int 181 0, Value.ref 16, Value.none, Value.ref 17, Value.ref 18, Value.ref 19, Value.int 191 0, Value.int 1 0, Value.str (Str.ofString "/claim/cut.py") 192] }),
    (21, { cls := Value.type "function", data := Data.func { name := Str.ofString "_wall", qualname := Str.ofString "_wall", params := defA (topSt 0), body := FuncBody.stmts (defB (topSt 0)), scope := defS (topSt 0), globals := 3, closure := [], defaults := Value.none, kwdefaults := Value.none, pyModule := Value.str (Str.ofString "__main__") 164, code := Value.ref 20 } }),
    (29, { cls := Value.type "tuple", data := Data.seq #[] }),
    (31, { cls := Value.type "tuple", data := Data.seq #[Value.str (Str.ofString "self") 211] }),
    (32, { cls := Value.type "tuple", data := Data.seq #[] }),
    (34, { cls := Value.type "code", data := Data.fields #[Value.str (Str.ofString "__init__") 208, Value.str (Str.ofString "Entry.__init__") 209, Value.str (Str.ofString "/claim/cut.py") 210, Value.int 7 0, Value.int 1 0, Value.int 0 0, Value.int 0 0, Value.int 3 0, Value.ref 29, Value.bool true, Value.int 181 0, Value.ref 30, Value.none, Value.ref 31, Value.ref 32, Value.ref 33, Value.int 212 0, Value.int 7 0, Value.str (Str.ofString "/claim/cut.py") 213] }),
    (35, { cls := Value.type "function", data := Data.func { name := Str.ofString "__init__", qualname := Str.ofString "Entry.__init__", params := defA (clSt 2 0), body := FuncBody.stmts (defB (clSt 2 0)), scope := defS (clSt 2 0), globals := 3, closure := [], defaults := Value.none, kwdefaults := Value.none, pyModule := Value.str (Str.ofString "cpy313.urllib.robotparser") 194, code := Value.ref 34 } }),
    (36, { cls := Value.type "tuple", data := Data.seq #[] }),
    (38, { cls := Value.type "tuple", data := Data.seq #[Value.str (Str.ofString "self") 218, Value.str (Str.ofString "ret") 219, Value.str (Str.ofString "agent") 220, Value.str (Str.ofString "rate") 221] }),
    (39, { cls := Value.type "tuple", data := Data.seq #[] }),
    (41, { cls := Value.type "code", data := Data.fields #[Value.str (Str.ofString "__str__") 215, Value.str (Str.ofString "Entry.__str__") 216, Value.str (Str.ofString "/claim/cut.py") 217, Value.int 13 0, Value.int 1 0, Value.int 0 0, Value.int 0 0, Value.int 3 0, Value.ref 36, Value.bool true, Value.int 181 0, Value.ref 37, Value.none, Value.ref 38, Value.ref 39, Value.ref 40, Value.int 222 0, Value.int 13 0, Value.str (Str.ofString "/claim/cut.py") 223] }),
    (42, { cls := Value.type "function", data := Data.func { name := Str.ofString "__str__", qualname := Str.ofString "Entry.__str__", params := defA (clSt 2 1), body := FuncBody.stmts (defB (clSt 2 1)), scope := defS (clSt 2 1), globals := 3, closure := [], defaults := Value.none, kwdefaults := Value.none, pyModule := Value.str (Str.ofString "cpy313.urllib.robotparser") 194, code := Value.ref 41 } }),
    (43, { cls := Value.type "tuple", data := Data.seq #[] }),
    (45, { cls := Value.type "tuple", data := Data.seq #[Value.str (Str.ofString "self") 228, Value.str (Str.ofString "useragent") 229, Value.str (Str.ofString "agent") 230] }),
    (46, { cls := Value.type "tuple", data := Data.seq #[] }),
    (48, { cls := Value.type "code", data := Data.fields #[Value.str (Str.ofString "applies_to") 225, Value.str (Str.ofString "Entry.applies_to") 226, Value.str (Str.ofString "/claim/cut.py") 227, Value.int 30 0, Value.int 2 0, Value.int 0 0, Value.int 0 0, Value.int 3 0, Value.ref 43, Value.bool true, Value.int 181 0, Value.ref 44, Value.none, Value.ref 45, Value.ref 46, Value.ref 47, Value.int 231 0, Value.int 30 0, Value.str (Str.ofString "/claim/cut.py") 232] }),
    (49, { cls := Value.type "function", data := Data.func { name := Str.ofString "applies_to", qualname := Str.ofString "Entry.applies_to", params := defA (clSt 2 2), body := FuncBody.stmts (defB (clSt 2 2)), scope := defS (clSt 2 2), globals := 3, closure := [], defaults := Value.none, kwdefaults := Value.none, pyModule := Value.str (Str.ofString "cpy313.urllib.robotparser") 194, code := Value.ref 48 } }),
    (50, { cls := Value.type "tuple", data := Data.seq #[] }),
    (52, { cls := Value.type "tuple", data := Data.seq #[Value.str (Str.ofString "self") 237, Value.str (Str.ofString "filename") 238] }),
    (53, { cls := Value.type "tuple", data := Data.seq #[] }),
    (55, { cls := Value.type "code", data := Data.fields #[Value.str (Str.ofString "allowance") 234, Value.str (Str.ofString "Entry.allowance") 235, Value.str (Str.ofString "/claim/cut.py") 236, Value.int 41 0, Value.int 2 0, Value.int 0 0, Value.int 0 0, Value.int 3 0, Value.ref 50, Value.bool true, Value.int 181 0, Value.ref 51, Value.none, Value.ref 52, Value.ref 53, Value.ref 54, Value.int 239 0, Value.int 41 0, Value.str (Str.ofString "/claim/cut.py") 240] }),
    (56, { cls := Value.type "function", data := Data.func { name := Str.ofString "allowance", qualname := Str.ofString "Entry.allowance", params := defA (clSt 2 3), body := FuncBody.stmts (defB (clSt 2 3)), scope := defS (clSt 2 3), globals := 3, closure := [], defaults := Value.none, kwdefaults := Value.none, pyModule := Value.str (Str.ofString "cpy313.urllib.robotparser") 194, code := Value.ref 55 } }),
    (57, { cls := Value.type "tuple", data := Data.seq #[Value.str (Str.ofString "delay") 242, Value.str (Str.ofString "req_rate") 243, Value.str (Str.ofString "rulelines") 244, Value.str (Str.ofString "useragents") 245] }),
    (58, { cls := Value.type "dict", data := Data.dict #[{ hash := PyData.keyHash P (Str.ofString "__module__"), key := Value.str (Str.ofString "__module__") 203, val := Value.str (Str.ofString "cpy313.urllib.robotparser") 194 }, { hash := PyData.keyHash P (Str.ofString "__firstlineno__"), key := Value.str (Str.ofString "__firstlineno__") 207, val := Value.int 5 206 }, { hash := PyData.keyHash P (Str.ofString "__init__"), key := Value.str (Str.ofString "__init__") 214, val := Value.ref 35 }, { hash := PyData.keyHash P (Str.ofString "__str__"), key := Value.str (Str.ofString "__str__") 224, val := Value.ref 42 }, { hash := PyData.keyHash P (Str.ofString "applies_to"), key := Value.str (Str.ofString "applies_to") 233, val := Value.ref 49 }, { hash := PyData.keyHash P (Str.ofString "allowance"), key := Value.str (Str.ofString "allowance") 241, val := Value.ref 56 }, { hash := PyData.keyHash P (Str.ofString "__static_attributes__"), key := Value.str (Str.ofString "__static_attributes__") 246, val := Value.ref 57 }, { hash := PyData.keyHash P (Str.ofString "__dict__"), key := Value.str (Str.ofString "__dict__") 248, val := Value.ref 60 }, { hash := PyData.keyHash P (Str.ofString "__weakref__"), key := Value.str (Str.ofString "__weakref__") 250, val := Value.ref 61 }, { hash := PyData.keyHash P (Str.ofString "__doc__"), key := Value.str (Str.ofString "__doc__") 251, val := Value.none }] 4 }),
    (59, { cls := Value.type "type", data := Data.cls { name := Str.ofString "Entry", bases := [Value.type "object"], mro := [Value.ref 59, Value.type "object"], ns := 58, qualname := Str.ofString "Entry" }, slots := #[none, none, some (Value.str (Str.ofString "Entry") 196), some (Value.str (Str.ofString "Entry") 204), some (Value.builtin "object.__new__"), some (Value.bool true)] }),
    (60, { cls := Value.type "getset_descriptor", data := Data.fields #[Value.str (Str.ofString "__dict__") 247, Value.ref 59, Value.builtin "function.__dict__", Value.builtin "function.__dict__#set"] }),
    (61, { cls := Value.type "getset_descriptor", data := Data.fields #[Value.str (Str.ofString "__weakref__") 249, Value.ref 59, Value.builtin "ExceptionGroup.__weakref__", Value.none] }),
    (64, { cls := Value.type "tuple", data := Data.seq #[] }),
    (66, { cls := Value.type "tuple", data := Data.seq #[Value.str (Str.ofString "e1") 257, Value.str (Str.ofString "e2") 258, Value.str (Str.ofString "entry") 259] }),
    (67, { cls := Value.type "tuple", data := Data.seq #[] }),
    (69, { cls := Value.type "code", data := Data.fields #[Value.str (Str.ofString "merge_entries") 254, Value.str (Str.ofString "merge_entries") 255, Value.str (Str.ofString "/claim/cut.py") 256, Value.int 43 0, Value.int 2 0, Value.int 0 0, Value.int 0 0, Value.int 3 0, Value.ref 64, Value.bool true, Value.int 181 0, Value.ref 65, Value.none, Value.ref 66, Value.ref 67, Value.ref 68, Value.int 260 0, Value.int 43 0, Value.str (Str.ofString "/claim/cut.py") 261] }),
    (70, { cls := Value.type "function", data := Data.func { name := Str.ofString "merge_entries", qualname := Str.ofString "merge_entries", params := defA (topSt 3), body := FuncBody.stmts (defB (topSt 3)), scope := defS (topSt 3), globals := 3, closure := [], defaults := Value.none, kwdefaults := Value.none, pyModule := Value.str (Str.ofString "cpy313.urllib.robotparser") 194, code := Value.ref 69 } }),
    (71, { cls := Value.type "tuple", data := Data.seq #[] }),
    (73, { cls := Value.type "tuple", data := Data.seq #[Value.str (Str.ofString "a") 268, Value.str (Str.ofString "b") 269] }),
    (74, { cls := Value.type "tuple", data := Data.seq #[] }),
    (76, { cls := Value.type "code", data := Data.fields #[Value.str (Str.ofString "_strcoll") 265, Value.str (Str.ofString "_strcoll") 266, Value.str (Str.ofString "/claim/cut.py") 267, Value.int 51 0, Value.int 2 0, Value.int 0 0, Value.int 0 0, Value.int 3 0, Value.ref 71, Value.bool true, Value.int 181 0, Value.ref 72, Value.none, Value.ref 73, Value.ref 74, Value.ref 75, Value.int 270 0, Value.int 51 0, Value.str (Str.ofString "/claim/cut.py") 271] }),
    (77, { cls := Value.type "function", data := Data.func { name := Str.ofString "_strcoll", qualname := Str.ofString "_strcoll", params := defA (topSt 5), body := FuncBody.stmts (defB (topSt 5)), scope := defS (topSt 5), globals := 3, closure := [], defaults := Value.none, kwdefaults := Value.none, pyModule := Value.str (Str.ofString "cpy313.locale") 263, code := Value.ref 76 } }),
    (78, { cls := Value.type "tuple", data := Data.seq #[] }),
    (80, { cls := Value.type "tuple", data := Data.seq #[Value.str (Str.ofString "s") 276] }),
    (81, { cls := Value.type "tuple", data := Data.seq #[] }),
    (83, { cls := Value.type "code", data := Data.fields #[Value.str (Str.ofString "_strxfrm") 273, Value.str (Str.ofString "_strxfrm") 274, Value.str (Str.ofString "/claim/cut.py") 275, Value.int 53 0, Value.int 1 0, Value.int 0 0, Value.int 0 0, Value.int 3 0, Value.ref 78, Value.bool true, Value.int 181 0, Value.ref 79, Value.none, Value.ref 80, Value.ref 81, Value.ref 82, Value.int 277 0, Value.int 53 0, Value.str (Str.ofString "/claim/cut.py") 278] }),
    (84, { cls := Value.type "function", data := Data.func { name := Str.ofString "_strxfrm", qualname := Str.ofString "_strxfrm", params := defA (topSt 6), body := FuncBody.stmts (defB (topSt 6)), scope := defS (topSt 6), globals := 3, closure := [], defaults := Value.none, kwdefaults := Value.none, pyModule := Value.str (Str.ofString "cpy313.locale") 263, code := Value.ref 83 } }),
    (85, { cls := Value.type "tuple", data := Data.seq #[] }),
    (87, { cls := Value.type "tuple", data := Data.seq #[Value.str (Str.ofString "grouping") 285, Value.str (Str.ofString "last_interval") 286, Value.str (Str.ofString "interval") 287] }),
    (88, { cls := Value.type "tuple", data := Data.seq #[] }),
    (90, { cls := Value.type "code", data := Data.fields #[Value.str (Str.ofString "_grouping_intervals") 282, Value.str (Str.ofString "_grouping_intervals") 283, Value.str (Str.ofString "/claim/cut.py") 284, Value.int 56 0, Value.int 1 0, Value.int 0 0, Value.int 0 0, Value.int 35 0, Value.ref 85, Value.bool true, Value.int 181 0, Value.ref 86, Value.none, Value.ref 87, Value.ref 88, Value.ref 89, Value.int 288 0, Value.int 56 0, Value.str (Str.ofString "/claim/cut.py") 289] }),
    (91, { cls := Value.type "function", data := Data.func { name := Str.ofString "_grouping_intervals", qualname := Str.ofString "_grouping_intervals", params := defA (topSt 8), body := FuncBody.stmts (defB (topSt 8)), scope := defS (topSt 8), globals := 3, closure := [], defaults := Value.none, kwdefaults := Value.none, pyModule := Value.str (Str.ofString "cpy313.locale") 263, code := Value.ref 90 } }),
    (92, { cls := Value.type "tuple", data := Data.seq #[] }),
    (95, { cls := Value.type "code", data := Data.fields #[Value.str (Str.ofString "_law_rows") 293, Value.str (Str.ofString "_law_rows") 294, Value.str (Str.ofString "/claim/cut.py") 295, Value.int 69 0, Value.int 1 0, Value.int 0 0, Value.int 0 0, Value.int 3 0, Value.ref 92, Value.bool true, Value.int 181 0, Value.ref 93, Value.none, Value.none, Value.none, Value.ref 94, Value.int 296 0, Value.int 69 0, Value.str (Str.ofString "/claim/cut.py") 297] }),
    (96, { cls := Value.type "function", data := Data.func { name := Str.ofString "_law_rows", qualname := Str.ofString "_law_rows", params := defA (topSt 10), body := FuncBody.stmts (defB (topSt 10)), scope := defS (topSt 10), globals := 3, closure := [], defaults := Value.none, kwdefaults := Value.none, pyModule := Value.str (Str.ofString "law_sc0028_01") 291, code := Value.ref 95 } }),
    (97, { cls := Value.type "tuple", data := Data.seq #[] }),
    (100, { cls := Value.type "code", data := Data.fields #[Value.str (Str.ofString "_law_plain") 299, Value.str (Str.ofString "_law_plain") 300, Value.str (Str.ofString "/claim/cut.py") 301, Value.int 80 0, Value.int 2 0, Value.int 0 0, Value.int 0 0, Value.int 3 0, Value.ref 97, Value.bool true, Value.int 181 0, Value.ref 98, Value.none, Value.none, Value.none, Value.ref 99, Value.int 302 0, Value.int 80 0, Value.str (Str.ofString "/claim/cut.py") 303] }),
    (101, { cls := Value.type "function", data := Data.func { name := Str.ofString "_law_plain", qualname := Str.ofString "_law_plain", params := defA (topSt 11), body := FuncBody.stmts (defB (topSt 11)), scope := defS (topSt 11), globals := 3, closure := [], defaults := Value.none, kwdefaults := Value.none, pyModule := Value.str (Str.ofString "law_sc0028_01") 291, code := Value.ref 100 } }),
    (102, { cls := Value.type "tuple", data := Data.seq #[] }),
    (104, { cls := Value.type "tuple", data := Data.seq #[Value.str (Str.ofString "row") 308, Value.str (Str.ofString "length") 309, Value.str (Str.ofString "told") 310, Value.str (Str.ofString "size") 311] }),
    (105, { cls := Value.type "tuple", data := Data.seq #[] }),
    (107, { cls := Value.type "code", data := Data.fields #[Value.str (Str.ofString "_law_told") 305, Value.str (Str.ofString "_law_told") 306, Value.str (Str.ofString "/claim/cut.py") 307, Value.int 88 0, Value.int 2 0, Value.int 0 0, Value.int 0 0, Value.int 3 0, Value.ref 102, Value.bool true, Value.int 181 0, Value.ref 103, Value.none, Value.ref 104, Value.ref 105, Value.ref 106, Value.int 312 0, Value.int 88 0, Value.str (Str.ofString "/claim/cut.py") 313] }),
    (108, { cls := Value.type "function", data := Data.func { name := Str.ofString "_law_told", qualname := Str.ofString "_law_told", params := defA (topSt 12), body := FuncBody.stmts (defB (topSt 12)), scope := defS (topSt 12), globals := 3, closure := [], defaults := Value.none, kwdefaults := Value.none, pyModule := Value.str (Str.ofString "law_sc0028_01") 291, code := Value.ref 107 } }),
    (109, { cls := Value.type "tuple", data := Data.seq #[] }),
    (111, { cls := Value.type "tuple", data := Data.seq #[Value.str (Str.ofString "row") 318, Value.str (Str.ofString "size") 319, Value.str (Str.ofString "refusal") 320] }),
    (112, { cls := Value.type "tuple", data := Data.seq #[] }),
    (114, { cls := Value.type "code", data := Data.fields #[Value.str (Str.ofString "_law_refused") 315, Value.str (Str.ofString "_law_refused") 316, Value.str (Str.ofString "/claim/cut.py") 317, Value.int 95 0, Value.int 1 0, Value.int 0 0, Value.int 0 0, Value.int 3 0, Value.ref 109, Value.bool true, Value.int 181 0, Value.ref 110, Value.none, Value.ref 111, Value.ref 112, Value.ref 113, Value.int 321 0, Value.int 95 0, Value.str (Str.ofString "/claim/cut.py") 322] }),
    (115, { cls := Value.type "function", data := Data.func { name := Str.ofString "_law_refused", qualname := Str.ofString "_law_refused", params := defA (topSt 13), body := FuncBody.stmts (defB (topSt 13)), scope := defS (topSt 13), globals := 3, closure := [], defaults := Value.none, kwdefaults := Value.none, pyModule := Value.str (Str.ofString "law_sc0028_01") 291, code := Value.ref 114 } }),
    (116, { cls := Value.type "tuple", data := Data.seq #[] }),
    (119, { cls := Value.type "code", data := Data.fields #[Value.str (Str.ofString "_law_book") 324, Value.str (Str.ofString "_law_book") 325, Value.str (Str.ofString "/claim/cut.py") 326, Value.int 102 0, Value.int 4 0, Value.int 0 0, Value.int 0 0, Value.int 3 0, Value.ref 116, Value.bool true, Value.int 181 0, Value.ref 117, Value.none, Value.none, Value.none, Value.ref 118, Value.int 327 0, Value.int 102 0, Value.str (Str.ofString "/claim/cut.py") 328] }),
    (120, { cls := Value.type "function", data := Data.func { name := Str.ofString "_law_book", qualname := Str.ofString "_law_book", params := defA (topSt 14), body := FuncBody.stmts (defB (topSt 14)), scope := defS (topSt 14), globals := 3, closure := [], defaults := Value.none, kwdefaults := Value.none, pyModule := Value.str (Str.ofString "law_sc0028_01") 291, code := Value.ref 119 } }),
    (121, { cls := Value.type "tuple", data := Data.seq #[] }),
    (124, { cls := Value.type "code", data := Data.fields #[Value.str (Str.ofString "_law_pages") 330, Value.str (Str.ofString "_law_pages") 331, Value.str (Str.ofString "/claim/cut.py") 332, Value.int 114 0, Value.int 4 0, Value.int 0 0, Value.int 0 0, Value.int 3 0, Value.ref 121, Value.bool true, Value.int 181 0, Value.ref 122, Value.none, Value.none, Value.none, Value.ref 123, Value.int 333 0, Value.int 114 0, Value.str (Str.ofString "/claim/cut.py") 334] }),
    (125, { cls := Value.type "function", data := Data.func { name := Str.ofString "_law_pages", qualname := Str.ofString "_law_pages", params := defA (topSt 15), body := FuncBody.stmts (defB (topSt 15)), scope := defS (topSt 15), globals := 3, closure := [], defaults := Value.none, kwdefaults := Value.none, pyModule := Value.str (Str.ofString "law_sc0028_01") 291, code := Value.ref 124 } }),
    (126, { cls := Value.type "tuple", data := Data.seq #[] }),
    (129, { cls := Value.type "code", data := Data.fields #[Value.str (Str.ofString "_law_writings") 336, Value.str (Str.ofString "_law_writings") 337, Value.str (Str.ofString "/claim/cut.py") 338, Value.int 133 0, Value.int 3 0, Value.int 0 0, Value.int 0 0, Value.int 3 0, Value.ref 126, Value.bool true, Value.int 181 0, Value.ref 127, Value.none, Value.none, Value.none, Value.ref 128, Value.int 339 0, Value.int 133 0, Value.str (Str.ofString "/claim/cut.py") 340] }),
    (130, { cls := Value.type "function", data := Data.func { name := Str.ofString "_law_writings", qualname := Str.ofString "_law_writings", params := defA (topSt 16), body := FuncBody.stmts (defB (topSt 16)), scope := defS (topSt 16), globals := 3, closure := [], defaults := Value.none, kwdefaults := Value.none, pyModule := Value.str (Str.ofString "law_sc0028_01") 291, code := Value.ref 129 } }),
    (131, { cls := Value.type "tuple", data := Data.seq #[] }),
    (134, { cls := Value.type "code", data := Data.fields #[Value.str (Str.ofString "law") 342, Value.str (Str.ofString "law") 343, Value.str (Str.ofString "/claim/cut.py") 344, Value.int 151 0, Value.int 1 0, Value.int 0 0, Value.int 0 0, Value.int 3 0, Value.ref 131, Value.bool true, Value.int 181 0, Value.ref 132, Value.none, Value.none, Value.none, Value.ref 133, Value.int 345 0, Value.int 151 0, Value.str (Str.ofString "/claim/cut.py") 346] }),
    (135, { cls := Value.type "function", data := Data.func { name := Str.ofString "law", qualname := Str.ofString "law", params := defA (topSt 17), body := FuncBody.stmts (defB (topSt 17)), scope := defS (topSt 17), globals := 3, closure := [], defaults := Value.none, kwdefaults := Value.none, pyModule := Value.str (Str.ofString "law_sc0028_01") 291, code := Value.ref 134 } })]
noncomputable def viewX : Program := { PySem.Challenge.pw_sc0028_01 with main := { PySem.Challenge.pw_sc0028_01.main with body := [topSt 0, topSt 2, topSt 3, topSt 5, topSt 6, topSt 7, topSt 8, topSt 10, topSt 11, topSt 12, topSt 13, topSt 14, topSt 15, topSt 16, topSt 17] } }
noncomputable def asX : List Addr := [2, 3, 6, 15, 17, 18, 20, 21, 29, 31, 32, 34, 35, 36, 38, 39, 41, 42, 43, 45, 46, 48, 49, 50, 52, 53, 55, 56, 57, 58, 59, 60, 61, 64, 66, 67, 69, 70, 71, 73, 74, 76, 77, 78, 80, 81, 83, 84, 85, 87, 88, 90, 91, 92, 95, 96, 97, 100, 101, 102, 104, 105, 107, 108, 109, 111, 112, 114, 115, 116, 119, 120, 121, 124, 125, 126, 129, 130, 131, 134, 135]
theorem asX_eq : ∀ P, asX = (heapX P).map (·.1) := fun _ => by kernel_rfl
noncomputable def hookX : Hook := kHook heapX asX asX_eq
theorem leftX : LeftO PySem.Challenge.pw_sc0028_01 viewX [] (fun s => xlAt viewX [] s && recOk (RowW.records PySem.Challenge.rw_sc0028_01.row.toRowW) s) hookX.obs hookX.val 1582 := fun w => by kernel_rfl
end Mine
end
section
open PySem PySem.W PyProof.Rows
namespace Mine
inductive D where
  | none
  | bool (b : Bool)
  | int (i : Int)
  | str (s : List Nat)
  | list (xs : List D)
  | tup (xs : List D)
  | ent (ua rl : List D)
  | rng (a b : Int)
noncomputable def Ext (h h' : Heap) : Prop := ∀ b o, h.get? b = some o → h'.get? b = some o
theorem Ext.refl (h : Heap) : Ext h h := fun _ _ e => e
theorem Ext.trans {h h' h'' : Heap} (x : Ext h h') (y : Ext h' h'') : Ext h h'' := fun b o e => y b o (x b o e)
theorem Ext.push (h : Heap) (o : Obj) : Ext h (h.push o) := fun _ _ e => Heap.get?_push_of_some _ e
structure GKeep (a b : Array GenState) : Prop where
  bare : AllBare a → AllBare b
  keep : ∀ (i : Nat) x, a[i]? = some x → b[i]? = some x
theorem GKeep.refl (a : Array GenState) : GKeep a a := ⟨id, fun _ _ e => e⟩
theorem GKeep.trans {a b c : Array GenState} (x : GKeep a b) (y : GKeep b c) : GKeep a c := ⟨fun h => y.bare (x.bare h), fun i z e => y.keep i z (x.keep i z e)⟩
structure Nxt (s s' : Shared) : Prop where
  heap : Ext s.heap s'.heap
  os : s'.os = s.os
  gens : GKeep s.gens s'.gens
theorem Nxt.refl (s : Shared) : Nxt s s := ⟨.refl _, rfl, .refl _⟩
theorem Nxt.trans {s s' s'' : Shared} (x : Nxt s s') (y : Nxt s' s'') : Nxt s s'' := ⟨x.heap.trans y.heap, y.os.trans x.os, x.gens.trans y.gens⟩
theorem Nxt.mk' {s : Shared} {h : Heap} {tk : Nat} (x : Ext s.heap h) : Nxt s { s with heap := h, toks := tk } := ⟨x, rfl, .refl _⟩
theorem Nxt.tok {s : Shared} {tk : Nat} : Nxt s { s with toks := tk } := ⟨.refl _, rfl, .refl _⟩
noncomputable def Live (X : List Addr) (h : Heap) : Prop := ∀ a ∈ X, ∃ o, h.get? a = some o
theorem Live.ext {X : List Addr} {h h' : Heap} (x : Live X h) (e : Ext h h') : Live X h' := fun a ha => let ⟨o, ho⟩ := x a ha; ⟨o, e a o ho⟩
theorem Live.fresh {X : List Addr} {h : Heap} (x : Live X h) {a : Addr} (e : h.get? a = none) : a ∉ X := fun ha => by
  obtain ⟨o, ho⟩ := x a ha
  rw [e] at ho; cases ho
theorem get_size (h : Heap) : h.get? h.objs.size = none := by
  cases e : h.get? h.objs.size with
  | none => rfl
  | some o => exact absurd (Heap.lt_size e) (Nat.lt_irrefl _)
theorem get_ge {h : Heap} {a : Addr} (ha : h.objs.size ≤ a) : h.get? a = none := by
  cases e : h.get? a with
  | none => rfl
  | some o => exact absurd (Heap.lt_size e) (Nat.not_lt.mpr ha)
noncomputable def Keep (X : List Addr) (h h' : Heap) : Prop := ∀ b o, b ∉ X → h.get? b = some o → h'.get? b = some o
theorem Ext.keep {X : List Addr} {h h' : Heap} (x : Ext h h') : Keep X h h' := fun b o _ e => x b o e
theorem Keep.trans {X : List Addr} {h h' h'' : Heap} (x : Keep X h h') (y : Keep X h' h'') : Keep X h h'' := fun b o n e => y b o n (x b o n e)
theorem Keep.sub {X Y : List Addr} {h h' : Heap} (x : Keep X h h') (s : ∀ a ∈ X, a ∈ Y) : Keep Y h h' := fun b o n e => x b o (fun m => n (s b m)) e
theorem keep_sameBut {a : Addr} {h h' : Heap} (hs : Heap.SameBut a h h') : Keep [a] h h' := fun b o n e => (hs.2 b (fun q => n (by simp [q]))).trans e
abbrev cE : Addr := 59
noncomputable def entL (H : Nat → Int) (T : Nat → Tok) (u r : Value) : List DictEntry :=
  [⟨H 0, .str (Str.ofString "useragents") (T 0), u⟩, ⟨H 1, .str (Str.ofString "rulelines") (T 1), r⟩, ⟨H 2, .str (Str.ofString "delay") (T 2), .none⟩, ⟨H 3, .str (Str.ofString "req_rate") (T 3), .none⟩]
structure EntAt (h : Heap) (a dx u r : Addr) (od : Obj) : Prop where
  inst : h.get? a = some (instObj cE dx)
  dict : h.get? dx = some od
  is : ∃ H T n, od = dictOf (entL H T (.ref u) (.ref r)) n
mutual
inductive Rep (X : List Addr) (h : Heap) : Value → D → Prop
  | none : Rep X h Value.none D.none
  | bool (b : Bool) : Rep X h (Value.bool b) (D.bool b)
  | int (i : Int) (t : Tok) : Rep X h (Value.int i t) (D.int i)
  | str (cs : List Nat) (t : Tok) : Rep X h (Value.str ⟨cs.toArray⟩ t) (D.str cs)
  | list {a : Addr} {vs : List Value} {ds : List D} : a ∉ X → h.PlainList a vs.toArray → RepL X h vs ds → Rep X h (Value.ref a) (D.list ds)
  | tup {a : Addr} {vs : List Value} {ds : List D} : a ∉ X → h.IsTuple a vs.toArray → RepL X h vs ds → Rep X h (Value.ref a) (D.tup ds)
  | ent {a dx u r : Addr} {od : Obj} {us rs : List Value} {du dr : List D} : a ∉ X → dx ∉ X → u ∉ X → r ∉ X → EntAt h a dx u r od →
      h.PlainList u us.toArray → RepL X h us du → h.PlainList r rs.toArray → RepL X h rs dr → Rep X h (Value.ref a) (D.ent du dr)
  | rng {a : Addr} {lo hi : Int} {t1 t2 t3 : Tok} : a ∉ X → h.get? a = some { cls := .type "range", data := .fields #[.int lo t1, .int hi t2, .int 1 t3] } → Rep X h (Value.ref a) (D.rng lo hi)
inductive RepL (X : List Addr) (h : Heap) : List Value → List D → Prop
  | nil : RepL X h [] []
  | cons {v : Value} {vs : List Value} {d : D} {ds : List D} : Rep X h v d → RepL X h vs ds → RepL X h (v :: vs) (d :: ds)
end
theorem EntAt.keep {h h' : Heap} {a dx u r : Addr} {od : Obj} (x : EntAt h a dx u r od) (ka : ∀ o, h.get? a = some o → h'.get? a = some o) (kd : ∀ o, h.get? dx = some o → h'.get? dx = some o) :
    EntAt h' a dx u r od := ⟨ka _ x.inst, kd _ x.dict, x.is⟩
mutual
theorem Rep.keep {X : List Addr} {h h' : Heap} (k : Keep X h h') : ∀ {v : Value} {d : D}, Rep X h v d → Rep X h' v d
  | _, _, .none => .none
  | _, _, .bool b => .bool b
  | _, _, .int i t => .int i t
  | _, _, .str cs t => .str cs t
  | _, _, .list n p r => .list n (p.at fun o e => k _ o n e) (RepL.keep k r)
  | _, _, .tup n p r => .tup n (let ⟨o, ho, q⟩ := p; ⟨o, k _ o n ho, q⟩) (RepL.keep k r)
  | _, _, .ent na nd nu nr x pu ru pr rr => .ent na nd nu nr (x.keep (fun o e => k _ o na e) fun o e => k _ o nd e) (pu.at fun o e => k _ o nu e) (RepL.keep k ru) (pr.at fun o e => k _ o nr e) (RepL.keep k rr)
  | _, _, .rng n p => .rng n (k _ _ n p)
theorem RepL.keep {X : List Addr} {h h' : Heap} (k : Keep X h h') : ∀ {vs : List Value} {ds : List D}, RepL X h vs ds → RepL X h' vs ds
  | _, _, .nil => .nil
  | _, _, .cons r rs => .cons (Rep.keep k r) (RepL.keep k rs)
end
theorem Rep.ext {X : List Addr} {h h' : Heap} {v : Value} {d : D} (r : Rep X h v d) (k : Ext h h') : Rep X h' v d := r.keep k.keep
theorem RepL.ext {X : List Addr} {h h' : Heap} {v : List Value} {d : List D} (r : RepL X h v d) (k : Ext h h') : RepL X h' v d := r.keep k.keep
mutual
theorem Rep.re {X Y : List Addr} {h : Heap} (k : ∀ a ∈ Y, a ∈ X ∨ h.get? a = none) : ∀ {v : Value} {d : D}, Rep X h v d → Rep Y h v d
  | _, _, .none => .none
  | _, _, .bool b => .bool b
  | _, _, .int i t => .int i t
  | _, _, .str cs t => .str cs t
  | _, _, .list n p r => .list (fun m => (k _ m).elim n fun q => by obtain ⟨_, e⟩ := p; rw [q] at e; cases e) p (RepL.re k r)
  | _, _, .tup n p r => .tup (fun m => (k _ m).elim n fun q => by obtain ⟨o, e, _⟩ := p; rw [q] at e; cases e) p (RepL.re k r)
  | _, _, .ent na nd nu nr x pu ru pr rr => .ent (fun m => (k _ m).elim na fun q => by have e := x.inst; rw [q] at e; cases e) (fun m => (k _ m).elim nd fun q => by have e := x.dict; rw [q] at e; cases e)
      (fun m => (k _ m).elim nu fun q => by obtain ⟨_, e⟩ := pu; rw [q] at e; cases e) (fun m => (k _ m).elim nr fun q => by obtain ⟨_, e⟩ := pr; rw [q] at e; cases e) x pu (RepL.re k ru) pr (RepL.re k rr)
  | _, _, .rng n p => .rng (fun m => (k _ m).elim n fun q => by rw [q] at p; cases p) p
theorem RepL.re {X Y : List Addr} {h : Heap} (k : ∀ a ∈ Y, a ∈ X ∨ h.get? a = none) : ∀ {vs : List Value} {ds : List D}, RepL X h vs ds → RepL Y h vs ds
  | _, _, .nil => .nil
  | _, _, .cons r rs => .cons (Rep.re k r) (RepL.re k rs)
end
theorem Rep.sub {X Y : List Addr} {h : Heap} {v : Value} {d : D} (r : Rep X h v d) (k : ∀ a ∈ Y, a ∈ X) : Rep Y h v d := r.re fun a m => .inl (k a m)
theorem RepL.sub {X Y : List Addr} {h : Heap} {v : List Value} {d : List D} (r : RepL X h v d) (k : ∀ a ∈ Y, a ∈ X) : RepL Y h v d := r.re fun a m => .inl (k a m)
theorem RepL.length {X : List Addr} {h : Heap} : ∀ {vs : List Value} {ds : List D}, RepL X h vs ds → vs.length = ds.length
  | _, _, .nil => rfl
  | _, _, .cons _ rs => by rw [List.length_cons, List.length_cons, rs.length]
theorem RepL.at {X : List Addr} {h : Heap} : ∀ {vs : List Value} {ds : List D}, RepL X h vs ds → ∀ {i : Nat} {d : D}, ds[i]? = some d → ∃ v, vs[i]? = some v ∧ Rep X h v d
  | _, _, .nil, i, d, e => by simp at e
  | _, _, .cons r rs, 0, d, e => by simp at e; subst e; exact ⟨_, rfl, r⟩
  | _, _, .cons r rs, i + 1, d, e => by simpa using rs.at (i := i) (d := d) (by simpa using e)
theorem RepL.at' {X : List Addr} {h : Heap} : ∀ {vs : List Value} {ds : List D}, RepL X h vs ds → ∀ {i : Nat} {v : Value}, vs[i]? = some v → ∃ d, ds[i]? = some d ∧ Rep X h v d
  | _, _, .nil, i, d, e => by simp at e
  | _, _, .cons r rs, 0, d, e => by simp at e; subst e; exact ⟨_, rfl, r⟩
  | _, _, .cons r rs, i + 1, d, e => by simpa using rs.at' (i := i) (v := d) (by simpa using e)
theorem RepL.append {X : List Addr} {h : Heap} : ∀ {vs ws : List Value} {ds es : List D}, RepL X h vs ds → RepL X h ws es → RepL X h (vs ++ ws) (ds ++ es)
  | _, _, _, _, .nil, y => y
  | _, _, _, _, .cons r rs, y => .cons r (rs.append y)
theorem RepL.snoc {X : List Addr} {h : Heap} {vs : List Value} {ds : List D} {v : Value} {d : D} (r : RepL X h vs ds) (q : Rep X h v d) : RepL X h (vs ++ [v]) (ds ++ [d]) := r.append (.cons q .nil)
end Mine
end
section
open PySem PySem.W PyProof.Rows
namespace Mine
structure EnvOk (env : Env) : Prop where
  kind : env.scope.kind = .function
  glob : env.globals = mainGlobals
  bi : env.builtins = builtinsNs
  all : ∀ n, env.kindOf n = some .cell ∨ env.kindOf n = some .free → ∃ c, env.cells.lookup n = some c
noncomputable def Look (h : Heap) (env : Env) (x : Str) (v : Value) : Prop :=
  (env.kindOf x = some .local ∧ ∃ m, h.Ns env.locals m ∧ m x = some v) ∨
  ((env.kindOf x = some .cell ∨ env.kindOf x = some .free) ∧ ∃ c, env.cells.lookup x = some c ∧ h.IsCell c (some v))
noncomputable def fa (env : Env) : List Addr := env.locals :: env.cells.map (·.2)
theorem fa_cell {env : Env} {x : Str} {c : Addr} (h : env.cells.lookup x = some c) : c ∈ fa env := List.mem_cons_of_mem _ (List.mem_map.mpr ⟨(x, c), mem_of_lookup h, rfl⟩)
theorem Look.keep {h h' : Heap} {env : Env} {x : Str} {v : Value} (l : Look h env x v) (k : ∀ a ∈ fa env, ∀ o, h.get? a = some o → h'.get? a = some o) : Look h' env x v := by
  rcases l with ⟨hk, m, hn, hm⟩ | ⟨hk, c, hc, hv⟩
  · exact .inl ⟨hk, m, hn.at' (fun o e => k _ (List.mem_cons_self ..) o e), hm⟩
  · refine .inr ⟨hk, c, hc, ?_⟩
    obtain ⟨o, ho, hd⟩ := hv
    exact ⟨o, k _ (fa_cell hc) o ho, hd⟩
theorem Look.ext {h h' : Heap} {env : Env} {x : Str} {v : Value} (l : Look h env x v) (k : Ext h h') : Look h' env x v := l.keep fun a _ o e => k a o e
noncomputable def isVar (k : Option NameKind) : Bool := k == some .local || k == some .cell || k == some .free
section
variable {M : Model} {A : Around} {E : Value → Shared → Prop} {s : Shared} {env : Env}
theorem load_look {x : Str} {v : Value} {Q : Value → Shared → Prop} (hk : env.scope.kind = .function) (l : Look s.heap env x v) (hc : (x == ("__classdict__" : Str)) = false) (h : Q v s) :
    wpAny M A (loadName env x) Q E s := by
  rcases l with ⟨hl, m, hn, hm⟩ | ⟨hl | hl, c, hcl, hv⟩
  · exact wpAny_loadName_local hk hl hn hm h
  · exact wpAny_loadName_cell hk hl hcl hv h
  · exact wpAny_loadName_free hk hl hcl hv h hc
theorem name_look {x : Str} {pos : Pos} {v : Value} {Q : Value → Shared → Prop} (hk : env.scope.kind = .function) (l : Look s.heap env x v) (hc : (x == ("__classdict__" : Str)) = false)
    (hd : (x == ("__debug__" : Str)) = false) (h : Q v s) : wpAny M A (eval (.Name x pos) env) Q E s := wpAny_Name (load_look hk l hc h) hd
structure FrW (env : Env) (h : Heap) : Prop where
  ns : ∃ m, h.Ns env.locals m
  cell : ∀ n c, env.cells.lookup n = some c → ∃ v, h.IsCell c v
  apart : env.cells.Pairwise fun x y => x.2 ≠ y.2
  off : ∀ n c, (n, c) ∈ env.cells → env.locals ≠ c
theorem FrW.keep {h h' : Heap} (x : FrW env h) (k : ∀ a ∈ fa env, ∀ o, h.get? a = some o → h'.get? a = some o) : FrW env h' where
  ns := let ⟨m, hn⟩ := x.ns; ⟨m, hn.at' (fun o e => k _ (List.mem_cons_self ..) o e)⟩
  cell := fun n c hc => by
    obtain ⟨v, o, ho, hd⟩ := x.cell n c hc
    exact ⟨v, o, k _ (fa_cell hc) o ho, hd⟩
  apart := x.apart
  off := x.off
theorem store_look {x : Str} {v : Value} {Q : Unit → Shared → Prop} (ok : EnvOk env) (F : FrW env s.heap) (hx : env.kindOf x = some .local ∨ env.kindOf x = some .cell)
    (h : ∀ h' tk, FrW env h' → Look h' env x v → (∀ y u, y ≠ x → Look s.heap env y u → Look h' env y u) → Keep (fa env) s.heap h' → (∀ a ∈ fa env, ∀ o, s.heap.get? a = some o → ∃ o', h'.get? a = some o') →
      Q () { s with heap := h', toks := tk }) : wpAny M A (storeName env x v) Q E s := by
  rcases hx with hx | hx
  · obtain ⟨m, hn⟩ := F.ns
    refine wpAny_storeName_local hx hn (fun h' hn' hs' => ?_) (by rw [ok.kind]; rfl)
    have kc : ∀ n c, env.cells.lookup n = some c → ∀ u, s.heap.IsCell c u → h'.IsCell c u := fun n c hc u hu => hu.sameBut hs' (F.off n c (mem_of_lookup hc)).symm
    refine h h' _ ⟨⟨_, hn'⟩, fun n c hc => let ⟨u, hu⟩ := F.cell n c hc; ⟨u, kc n c hc u hu⟩, F.apart, F.off⟩ (.inl ⟨hx, _, hn', by simp⟩) ?_ ((keep_sameBut hs').sub fun a ha => by simp at ha; simp [fa, ha]) ?_
    · intro y u hy l
      rcases l with ⟨hk, m₂, hn₂, hm₂⟩ | ⟨hk, c, hc, hv⟩
      · refine .inl ⟨hk, _, hn', ?_⟩
        rw [if_neg hy]
        obtain ⟨o, es, ep, ho, hd, hs, hf⟩ := hn
        obtain ⟨o₂, es₂, ep₂, ho₂, hd₂, hs₂, hf₂⟩ := hn₂
        rw [ho] at ho₂; cases ho₂
        rw [hd] at hd₂; cases hd₂
        rw [← hf y, hf₂ y, hm₂]
      · exact .inr ⟨hk, c, hc, kc y c hc _ hv⟩
    · intro a ha o e
      by_cases q : a = env.locals
      · subst q
        obtain ⟨o', _, _, e', _⟩ := hn'
        exact ⟨o', e'⟩
      · exact ⟨o, (hs'.2 a q).trans e⟩
  · obtain ⟨c, hc⟩ := ok.all x (.inl hx)
    obtain ⟨v₀, hv₀⟩ := F.cell x c hc
    refine wpAny_storeName_cell ok.kind hx hc hv₀ fun h' hv' hs' => ?_
    have kn : ∀ m, s.heap.Ns env.locals m → h'.Ns env.locals m := fun m hn => hn.sameBut hs' (F.off x c (mem_of_lookup hc))
    have kc : ∀ n c', env.cells.lookup n = some c' → n ≠ x → ∀ u, s.heap.IsCell c' u → h'.IsCell c' u := fun n c' hc' hne u hu => hu.sameBut hs' fun e => hne (name_of_addr F.apart (mem_of_lookup hc') (e ▸ mem_of_lookup hc))
    refine h h' _ ⟨let ⟨m, hn⟩ := F.ns; ⟨m, kn m hn⟩, fun n c' hc' => ?_, F.apart, F.off⟩ (.inr ⟨.inl hx, c, hc, hv'⟩) ?_ ((keep_sameBut hs').sub fun a ha => by simp at ha; exact ha ▸ fa_cell hc) ?_
    · by_cases hn : n = x
      · subst hn; rw [hc] at hc'; cases hc'; exact ⟨_, hv'⟩
      · obtain ⟨u, hu⟩ := F.cell n c' hc'
        exact ⟨u, kc n c' hc' hn u hu⟩
    · intro y u hy l
      rcases l with ⟨hk, m₂, hn₂, hm₂⟩ | ⟨hk, c', hc', hv⟩
      · exact .inl ⟨hk, m₂, kn _ hn₂, hm₂⟩
      · exact .inr ⟨hk, c', hc', kc y c' hc' hy _ hv⟩
    · intro a ha o e
      by_cases q : a = c
      · subst q
        obtain ⟨o', e', _⟩ := hv'
        exact ⟨o', e'⟩
      · exact ⟨o, (hs'.2 a q).trans e⟩
end
end Mine
end
section
open PySem PySem.W PyProof.Rows
namespace Mine
structure ClsOk (K : Frag) (fI fA : Addr) : Prop where
  ga : findIn K (.ref cE) "__getattribute__" = some (some (.builtin "object.__getattribute__"))
  gg : findIn K (.ref cE) "__getattr__" = some none
  hd : hasDictIn K cE = true
  ua : findIn K (.ref cE) (Str.ofString "useragents") = some none
  rl : findIn K (.ref cE) (Str.ofString "rulelines") = some none
  dl : findIn K (.ref cE) (Str.ofString "delay") = some none
  rr : findIn K (.ref cE) (Str.ofString "req_rate") = some none
  ap : findIn K (.ref cE) (Str.ofString "applies_to") = some (some (.ref fA))
  apf : typeIn K (.ref fA) = some (.type "function")
  sa : findIn K (.ref cE) "__setattr__" = some (some (.builtin "object.__setattr__"))
  po : plainOver K cE = true
  mak : makesIn K cE = true
  ini : findIn K (.ref cE) "__init__" = some (some (.ref fI))
  inf : typeIn K (.ref fI) = some (.type "function")
  kp : keepIn K (.ref cE) = true
  ka : keepIn K (.ref fA) = true
structure Cx where
  prog : Program
  w : World
  h0 : Heap
  os0 : OsState
  G : Str → Option Value
  lim : h0.NoLimit
  K : Frag
  kin : K.In h0
  fI : Addr
  fA : Addr
  cls : ClsOk K fI fA
  glob : ∀ (M : Model) (A : Around) (E : Value → Shared → Prop) (s : Shared) (env : Env) (x : Str) (v : Value) (Q : Value → Shared → Prop), EnvOk env → env.kindOf x = some .globalImplicit → Ext h0 s.heap → G x = some v → Q v s → wpAny M A (loadName env x) Q E s
structure AOk (k : Nat) (A : Around) : Prop where
  h : A.handled = none
  d : A.depth + k < recursionLimit
  u : A.units + 10 * k < cLine
theorem AOk.deeper {k : Nat} {A : Around} (a : AOk (k + 1) A) (env : Env) : AOk k (A.deeper env) := ⟨a.h, by have := a.d; simp only [Around.deeper]; omega, by have := a.u; simp only [Around.deeper]; omega⟩
theorem AOk.in1 {k : Nat} {A : Around} (a : AOk (k + 1) A) : AOk k A.in1 := ⟨a.h, by have := a.d; simp only [Around.in1]; omega, by have := a.u; simp only [Around.in1]; omega⟩
theorem AOk.down {k : Nat} {A : Around} (a : AOk (k + 1) A) : AOk k A := ⟨a.h, by have := a.d; omega, by have := a.u; omega⟩
theorem AOk.room {k : Nat} {A : Around} (a : AOk k A) : A.depth < recursionLimit := by have := a.d; omega
theorem AOk.line {k : Nat} {A : Around} (a : AOk k A) : A.units < cLine := by have := a.u; omega
abbrev Names := List (Str × NameKind)
abbrev Sig := List (Str × Bool × D)
structure EnvFor (ns : Names) (env : Env) : Prop extends EnvOk env where
  loc : ∀ x, ns.lookup x = some .local → env.kindOf x = some .local
  cel : ∀ x, ns.lookup x = some .cell → env.kindOf x = some .cell
  fre : ∀ x, ns.lookup x = some .free → env.kindOf x = some .cell ∨ env.kindOf x = some .free
  glo : ∀ x, ns.lookup x = some .globalImplicit → env.kindOf x = some .globalImplicit
  none : ∀ x, ns.lookup x = none → env.kindOf x = none
noncomputable def ListAt (X : List Addr) (h : Heap) (v : Value) (ds : List D) : Prop := ∃ a vs, v = .ref a ∧ h.PlainList a vs.toArray ∧ RepL X h vs ds
theorem ListAt.keep {X : List Addr} {h h' : Heap} {v : Value} {ds : List D} (x : ListAt X h v ds) (k : Keep X h h') (own : ∀ a o, v = .ref a → h.get? a = some o → h'.get? a = some o) : ListAt X h' v ds :=
  let ⟨a, vs, e, p, r⟩ := x; ⟨a, vs, e, p.at fun o q => own a o e q, r.keep k⟩
theorem ListAt.ext {X : List Addr} {h h' : Heap} {v : Value} {ds : List D} (x : ListAt X h v ds) (k : Ext h h') : ListAt X h' v ds := x.keep k.keep fun a o _ e => k a o e
theorem Rep.listAt {X : List Addr} {h : Heap} {v : Value} {ds : List D} (r : Rep X h v (.list ds)) : ListAt X h v ds := by cases r with | list n p q => exact ⟨_, _, rfl, p, q⟩
theorem ListAt.rep {X : List Addr} {h : Heap} {v : Value} {ds : List D} (x : ListAt X h v ds) (n : ∀ a, v = .ref a → a ∉ X) : Rep X h v (.list ds) := by
  obtain ⟨a, vs, rfl, p, r⟩ := x; exact .list (n a rfl) p r
inductive OwnAt (X : List Addr) (h : Heap) : Value → D → List Addr → Prop
  | list {a : Addr} {vs : List Value} {ds : List D} : h.PlainList a vs.toArray → RepL X h vs ds → OwnAt X h (.ref a) (.list ds) [a]
  | ent {a dx u r : Addr} {od : Obj} {us rs : List Value} {du dr : List D} : EntAt h a dx u r od → u ≠ r → a ≠ u → a ≠ r → dx ≠ u → dx ≠ r → a ≠ dx →
      h.PlainList u us.toArray → RepL X h us du → h.PlainList r rs.toArray → RepL X h rs dr → OwnAt X h (.ref a) (.ent du dr) [a, dx, u, r]
theorem OwnAt.keep {X : List Addr} {h h' : Heap} {v : Value} {d : D} {f : List Addr} (x : OwnAt X h v d f) (k : Keep X h h') (own : ∀ a ∈ f, ∀ o, h.get? a = some o → h'.get? a = some o) : OwnAt X h' v d f := by
  cases x with
  | list p r => exact .list (p.at fun o e => own _ (by simp) o e) (r.keep k)
  | ent e a1 a2 a3 a4 a5 a6 p r q t => exact .ent (e.keep (fun o e => own _ (by simp) o e) fun o e => own _ (by simp) o e) a1 a2 a3 a4 a5 a6 (p.at fun o e => own _ (by simp) o e) (r.keep k) (q.at fun o e => own _ (by simp) o e) (t.keep k)
theorem OwnAt.re {X Y : List Addr} {h : Heap} (k : ∀ a ∈ Y, a ∈ X ∨ h.get? a = none) {v : Value} {d : D} {f : List Addr} (x : OwnAt X h v d f) : OwnAt Y h v d f := by
  cases x with
  | list p r => exact .list p (r.re k)
  | ent e a1 a2 a3 a4 a5 a6 p r q t => exact .ent e a1 a2 a3 a4 a5 a6 p (r.re k) q (t.re k)
theorem OwnAt.live {X : List Addr} {h : Heap} {v : Value} {d : D} {f : List Addr} (x : OwnAt X h v d f) : ∀ a ∈ f, ∃ o, h.get? a = some o := by
  cases x with
  | list p r => intro a ha; simp at ha; subst ha; obtain ⟨n, e⟩ := p; exact ⟨_, e⟩
  | ent e a1 a2 a3 a4 a5 a6 p r q t =>
    intro a ha; simp at ha
    obtain ⟨_, e1⟩ := p
    obtain ⟨_, e2⟩ := q
    rcases ha with rfl | rfl | rfl | rfl
    · exact ⟨_, e.inst⟩
    · exact ⟨_, e.dict⟩
    · exact ⟨_, e1⟩
    · exact ⟨_, e2⟩
theorem OwnAt.listAt {X : List Addr} {h : Heap} {v : Value} {ds : List D} {f : List Addr} (x : OwnAt X h v (.list ds) f) : ListAt X h v ds := by cases x with | list p r => exact ⟨_, _, rfl, p, r⟩
theorem OwnAt.rep {X : List Addr} {h : Heap} {v : Value} {d : D} {f : List Addr} (x : OwnAt X h v d f) (n : ∀ a ∈ f, a ∉ X) : Rep X h v d := by
  cases x with
  | list p r => exact .list (n _ (by simp)) p r
  | ent e a1 a2 a3 a4 a5 a6 p r q t => exact .ent (n _ (by simp)) (n _ (by simp)) (n _ (by simp)) (n _ (by simp)) e p r q t
noncomputable def isVar' (env : Env) (x : Str) : Bool := isVar (env.kindOf x)
structure Base (c : Cx) (he : Heap) (X0 X : List Addr) (s : Shared) : Prop where
  old : Ext c.h0 he
  keep : Ext he s.heap
  x0 : ∀ a ∈ X0, c.h0.get? a = none
  x0x : ∀ a ∈ X0, a ∈ X
  new : ∀ a ∈ X, a ∉ X0 → he.get? a = none
  live : Live X s.heap
  os : s.os = c.os0
  gens : AllBare s.gens
theorem Base.nxt {c : Cx} {he : Heap} {X0 X : List Addr} {s s' : Shared} (b : Base c he X0 X s) (n : Nxt s s') : Base c he X0 X s' :=
  ⟨b.old, b.keep.trans n.heap, b.x0, b.x0x, b.new, b.live.ext n.heap, n.os.trans b.os, n.gens.bare b.gens⟩
theorem Base.top {c : Cx} {he : Heap} {X0 X : List Addr} {s : Shared} (b : Base c he X0 X s) : Ext c.h0 s.heap := b.old.trans b.keep
theorem Base.off {c : Cx} {he : Heap} {X0 X : List Addr} {s : Shared} (b : Base c he X0 X s) {a : Addr} (m : a ∈ X) : c.h0.get? a = none := by
  by_cases q : a ∈ X0
  · exact b.x0 a q
  · cases e : c.h0.get? a with
    | none => rfl
    | some o => have := b.old a o e; rw [b.new a m q] at this; cases this
structure St (c : Cx) (he : Heap) (X0 X : List Addr) (env : Env) (σ : Sig) (F : Str → List Addr) (s : Shared) : Prop where
  base : Base c he X0 X s
  fw : FrW env s.heap
  fx : ∀ a ∈ fa env, a ∈ X
  f0 : ∀ a ∈ fa env, a ∉ X0
  vis : ∀ x o d, σ.lookup x = some (o, d) → isVar (env.kindOf x) = true → ∃ v, Look s.heap env x v ∧ if o then OwnAt X s.heap v d (F x) else Rep X s.heap v d
  own : ∀ x d, σ.lookup x = some (true, d) → ∀ a ∈ F x, a ∈ X ∧ a ∉ X0 ∧ a ∉ fa env
  apart : ∀ x d y d', σ.lookup x = some (true, d) → σ.lookup y = some (true, d') → x ≠ y → ∀ a ∈ F x, a ∉ F y
theorem St.nxt {c : Cx} {he : Heap} {X0 X : List Addr} {env : Env} {σ : Sig} {F : Str → List Addr} {s s' : Shared} (t : St c he X0 X env σ F s) (n : Nxt s s') : St c he X0 X env σ F s' where
  base := t.base.nxt n
  fw := t.fw.keep fun a _ o e => n.heap a o e
  fx := t.fx
  f0 := t.f0
  vis := fun x o d e hv => by
    obtain ⟨v, l, r⟩ := t.vis x o d e hv
    refine ⟨v, l.ext n.heap, ?_⟩
    cases o with
    | true => exact OwnAt.keep r n.heap.keep fun a _ o e => n.heap a o e
    | false => exact Rep.ext r n.heap
  own := t.own
  apart := t.apart
theorem St.weak {c : Cx} {he : Heap} {X0 X : List Addr} {env : Env} {σ σ' : Sig} {F : Str → List Addr} {s : Shared} (t : St c he X0 X env σ F s) (w : ∀ x y, σ'.lookup x = some y → σ.lookup x = some y) : St c he X0 X env σ' F s where
  base := t.base
  fw := t.fw
  fx := t.fx
  f0 := t.f0
  vis := fun x o d e hv => t.vis x o d (w x _ e) hv
  own := fun x d e => t.own x d (w x _ e)
  apart := fun x d y d' e e' => t.apart x d y d' (w x _ e) (w y _ e')
theorem St.touch {c : Cx} {he : Heap} {X0 X : List Addr} {env : Env} {σ : Sig} {F : Str → List Addr} {s s' : Shared} (t : St c he X0 X env σ F s) (M : List Addr) (k : Keep M s.heap s'.heap)
    (hm : ∀ a ∈ M, a ∈ X ∧ a ∉ X0 ∧ a ∉ fa env ∧ (∃ o, s'.heap.get? a = some o) ∧ ∀ x d, σ.lookup x = some (true, d) → a ∉ F x) (ho : s'.os = s.os) (hg : AllBare s.gens → AllBare s'.gens) : St c he X0 X env σ F s' where
  base := ⟨t.base.old, fun b o e => k b o (fun q => by have := t.base.new b (hm b q).1 (hm b q).2.1; rw [e] at this; cases this) (t.base.keep b o e), t.base.x0, t.base.x0x, t.base.new,
    fun a ha => by
      by_cases q : a ∈ M
      · exact (hm a q).2.2.2.1
      · obtain ⟨o, e⟩ := t.base.live a ha; exact ⟨o, k a o q e⟩, ho.trans t.base.os, hg t.base.gens⟩
  fw := t.fw.keep fun a ha o e => k a o (fun q => (hm a q).2.2.1 ha) e
  fx := t.fx
  f0 := t.f0
  vis := fun x o d e hv => by
    obtain ⟨v, l, r⟩ := t.vis x o d e hv
    have kx : Keep X s.heap s'.heap := k.sub fun a ha => (hm a ha).1
    refine ⟨v, l.keep fun a ha o e => k a o (fun q => (hm a q).2.2.1 ha) e, ?_⟩
    cases o with
    | true => exact OwnAt.keep r kx fun a ha o e' => k a o (fun q => (hm a q).2.2.2.2 x d e ha) e'
    | false => exact Rep.keep kx r
  own := t.own
  apart := t.apart
theorem St.moreX {c : Cx} {he : Heap} {X0 X Y : List Addr} {env : Env} {σ : Sig} {F : Str → List Addr} {s : Shared} (t : St c he X0 X env σ F s) (sub : ∀ a ∈ X, a ∈ Y) (n : ∀ a ∈ Y, a ∈ X ∨ (he.get? a = none ∧ ∃ o, s.heap.get? a = some o))
    (r : ∀ x o d v, σ.lookup x = some (o, d) → isVar (env.kindOf x) = true → Look s.heap env x v → (if o then OwnAt X s.heap v d (F x) else Rep X s.heap v d) → if o then OwnAt Y s.heap v d (F x) else Rep Y s.heap v d) : St c he X0 Y env σ F s where
  base := ⟨t.base.old, t.base.keep, t.base.x0, fun a ha => sub a (t.base.x0x a ha), fun a ha q => (n a ha).elim (fun m => t.base.new a m q) fun m => m.1,
    fun a ha => (n a ha).elim (t.base.live a) fun m => m.2, t.base.os, t.base.gens⟩
  fw := t.fw
  fx := fun a ha => sub a (t.fx a ha)
  f0 := t.f0
  vis := fun x o d e hv => by
    obtain ⟨v, l, q⟩ := t.vis x o d e hv
    exact ⟨v, l, r x o d v e hv l q⟩
  own := fun x d e a ha => let ⟨p, q⟩ := t.own x d e a ha; ⟨sub a p, q⟩
  apart := t.apart
theorem St.fresh {c : Cx} {he : Heap} {X0 X : List Addr} {env : Env} {σ : Sig} {F : Str → List Addr} {s s' : Shared} (t : St c he X0 X env σ F s) (n : Nxt s s') (N : List Addr)
    (hN : ∀ a ∈ N, s.heap.get? a = none ∧ ∃ o, s'.heap.get? a = some o) : St c he X0 (N ++ X) env σ F s' := by
  have re : ∀ a ∈ N ++ X, a ∈ X ∨ s.heap.get? a = none := fun a ha => (List.mem_append.mp ha).elim (fun m => .inr (hN a m).1) .inl
  refine { base := ⟨t.base.old, t.base.keep.trans n.heap, t.base.x0, fun a ha => List.mem_append_right _ (t.base.x0x a ha), fun a ha q => ?_, fun a ha => ?_, n.os.trans t.base.os, n.gens.bare t.base.gens⟩, fw := t.fw.keep fun a _ o e => n.heap a o e, fx := fun a ha => List.mem_append_right _ (t.fx a ha), f0 := t.f0, vis := fun x o d e hv => ?_, own := fun x d e a ha => let ⟨p, q⟩ := t.own x d e a ha; ⟨List.mem_append_right _ p, q⟩, apart := t.apart }
  · rcases List.mem_append.mp ha with m | m
    · cases e : he.get? a with
      | none => rfl
      | some o => have := t.base.keep a o e; rw [(hN a m).1] at this; cases this
    · exact t.base.new a m q
  · rcases List.mem_append.mp ha with m | m
    · exact (hN a m).2
    · obtain ⟨o, e⟩ := t.base.live a m; exact ⟨o, n.heap a o e⟩
  · obtain ⟨v, l, r⟩ := t.vis x o d e hv
    refine ⟨v, l.ext n.heap, ?_⟩
    cases o with
    | true => exact (OwnAt.re re r).keep n.heap.keep fun a _ o e => n.heap a o e
    | false => exact (Rep.re re r).ext n.heap
end Mine
end
section
open PySem PySem.W PyProof.Rows
set_option linter.unusedSimpArgs false
set_option linter.unusedVariables false
namespace Mine
noncomputable def WRep (X : List Addr) (h : Heap) (v : Value) (d : D) : Prop := match d with
  | .list ds => ListAt X h v ds
  | d => Rep X h v d
theorem Rep.w {X : List Addr} {h : Heap} {v : Value} {d : D} (r : Rep X h v d) : WRep X h v d := by
  cases d <;> first | exact r | exact r.listAt
theorem WRep.ext {X : List Addr} {h h' : Heap} {v : Value} {d : D} (r : WRep X h v d) (k : Ext h h') : WRep X h' v d := by
  cases d <;> first | exact Rep.ext r k | exact ListAt.ext r k
noncomputable def EV (c : Cx) (k : Nat) (ns : Names) (σ : Sig) (e : Expr) (d : D) : Prop :=
  ∀ env, EnvFor ns env → ∀ A, AOk k A → ∀ he X0 X F s Q E, St c he X0 X env σ F s → (∀ v s', Nxt s s' → Rep X s'.heap v d → Q v s') → wpAny (model c.prog c.w) A (eval e env) Q E s
noncomputable def EW (c : Cx) (k : Nat) (ns : Names) (σ : Sig) (e : Expr) (d : D) : Prop :=
  ∀ env, EnvFor ns env → ∀ A, AOk k A → ∀ he X0 X F s Q E, St c he X0 X env σ F s → (∀ v s', Nxt s s' → WRep X s'.heap v d → Q v s') → wpAny (model c.prog c.w) A (eval e env) Q E s
noncomputable def ET (c : Cx) (k : Nat) (ns : Names) (σ : Sig) (e : Expr) (b : Bool) : Prop :=
  ∀ env, EnvFor ns env → ∀ A, AOk k A → ∀ he X0 X F s Q E, St c he X0 X env σ F s → (∀ s', Nxt s s' → Q b s') → wpAny (model c.prog c.w) A (isTrue e env (eval e env)) Q E s
theorem EV.w {c : Cx} {k : Nat} {ns : Names} {σ : Sig} {e : Expr} {d : D} (h : EV c k ns σ e d) : EW c k ns σ e d :=
  fun env ef A a he X0 X F s Q E st q => h env ef A a he X0 X F s Q E st fun v s' n r => q v s' n r.w
section
variable {c : Cx} {k : Nat} {ns : Names} {σ : Sig}
theorem isVar_of {ns : Names} {env : Env} {x : Str} (ef : EnvFor ns env) (hv : isVar (ns.lookup x) = true) : isVar (env.kindOf x) = true := by
  cases e : ns.lookup x with
  | none => rw [e] at hv; cases hv
  | some kd =>
    rw [e] at hv
    cases kd <;> first | cases hv | skip
    · rw [ef.loc x e]; rfl
    · rw [ef.cel x e]; rfl
    · rcases ef.fre x e with h | h <;> rw [h] <;> rfl
noncomputable def nameOk (x : Str) : Bool := !(x == ("__classdict__" : Str)) && !(x == ("__debug__" : Str))
theorem ev_name {x : Str} {pos : Pos} {d : D} (hs : σ.lookup x = some (false, d)) (hv : isVar (ns.lookup x) = true) (hn : nameOk x = true) : EV c k ns σ (.Name x pos) d := by
  intro env ef A a he X0 X F s Q E st q
  obtain ⟨v, l, r⟩ := st.vis x false d hs (isVar_of ef hv)
  simp only [nameOk, Bool.and_eq_true, Bool.not_eq_true'] at hn
  exact name_look ef.kind l hn.1 hn.2 (q v s (.refl s) r)
theorem ew_own {x : Str} {pos : Pos} {ds : List D} (hs : σ.lookup x = some (true, .list ds)) (hv : isVar (ns.lookup x) = true) (hn : nameOk x = true) : EW c k ns σ (.Name x pos) (.list ds) := by
  intro env ef A a he X0 X F s Q E st q
  obtain ⟨v, l, r⟩ := st.vis x true _ hs (isVar_of ef hv)
  simp only [nameOk, Bool.and_eq_true, Bool.not_eq_true'] at hn
  exact name_look ef.kind l hn.1 hn.2 (q v s (.refl s) (OwnAt.listAt r))
noncomputable def EG (c : Cx) (ns : Names) (e : Expr) (v : Value) : Prop :=
  ∀ env, EnvFor ns env → ∀ A s (Q : Value → Shared → Prop) E, Ext c.h0 s.heap → Q v s → wpAny (model c.prog c.w) A (eval e env) Q E s
theorem eg_name {x : Str} {pos : Pos} {v : Value} (hg : c.G x = some v) (hv : ns.lookup x = some .globalImplicit) (hn : nameOk x = true) : EG c ns (.Name x pos) v := by
  intro env ef A s Q E old q
  simp only [nameOk, Bool.and_eq_true, Bool.not_eq_true'] at hn
  exact wpAny_Name (c.glob _ _ _ _ _ _ _ _ ef.toEnvOk (ef.glo x hv) old hg q) hn.2
theorem Nxt.toks {s : Shared} {tk : Nat} : Nxt s { s with toks := tk } := .tok
theorem Nxt.push {s : Shared} {o : Obj} : Nxt s { s with heap := s.heap.push o } := ⟨.push _ _, rfl, .refl _⟩
theorem Nxt.push' {s : Shared} {o : Obj} {tk : Nat} : Nxt s { s with heap := s.heap.push o, toks := tk } := ⟨.push _ _, rfl, .refl _⟩
theorem ev_int {i : Int} {kd : Nat} {pos : Pos} : EV c k ns σ (.Constant (.int i) kd pos) (.int i) :=
  fun env ef A a he X0 X F s Q E st q => wpAny_Constant_int (q _ _ .tok (.int i _))
theorem ev_str {x : Str} {cs : List Nat} {kd : Nat} {pos : Pos} (hx : x.cps = cs.toArray) : EV c k ns σ (.Constant (.str x) kd pos) (.str cs) :=
  fun env ef A a he X0 X F s Q E st q => wpAny_Constant_str (q _ _ .tok (by
    have e : x = ⟨cs.toArray⟩ := by cases x; simp only at hx; rw [hx]
    rw [e]; exact .str cs _))
theorem ev_none {kd : Nat} {pos : Pos} : EV c k ns σ (.Constant .none kd pos) .none :=
  fun env ef A a he X0 X F s Q E st q => wpAny_Constant_none (q _ _ (.refl s) .none)
theorem ev_bool {b : Bool} {kd : Nat} {pos : Pos} : EV c k ns σ (.Constant (.bool b) kd pos) (.bool b) :=
  fun env ef A a he X0 X F s Q E st q => wpAny_Constant_bool (q _ _ (.refl s) (.bool b))
inductive EVs (c : Cx) (k : Nat) (ns : Names) (σ : Sig) : List Expr → List D → Prop
  | nil : EVs c k ns σ [] []
  | cons {e : Expr} {es : List Expr} {d : D} {ds : List D} : (∀ env, starEach (e :: es) env = (false, eval e env) :: starEach es env) → EV c k ns σ e d → EVs c k ns σ es ds → EVs c k ns σ (e :: es) (d :: ds)
theorem EVs.spl {es : List Expr} {ds : List D} (h : EVs c k ns σ es ds) : ∀ env, EnvFor ns env → ∀ A, AOk k A → ∀ he X0 X F s (Q : List Value → Shared → Prop) E pos, St c he X0 X env σ F s →
    (∀ vs s', Nxt s s' → RepL X s'.heap vs ds → Q vs s') → wpAny (model c.prog c.w) A (spliced (backTo pos (starEach es env))) Q E s := by
  induction h with
  | nil => intro env ef A a he X0 X F s Q E pos st q; exact wpAny_items_nil (q [] s (.refl s) .nil)
  | cons hs h1 h2 ih =>
    intro env ef A a he X0 X F s Q E pos st q
    exact wpAny_items_cons (h1 env ef A a he X0 X F s _ E st fun v s₁ n₁ r₁ => ih env ef A a he X0 X F s₁ _ E pos (st.nxt n₁) fun vs s₂ n₂ r₂ => q _ _ (n₁.trans n₂) (.cons (r₁.ext n₂.heap) r₂)) (hs env)
theorem EVs.len {es : List Expr} {ds : List D} (h : EVs c k ns σ es ds) : es.length = ds.length := by
  induction h with
  | nil => rfl
  | cons _ _ _ ih => simp [ih]
theorem size_off {c : Cx} {he : Heap} {X0 X : List Addr} {s : Shared} (b : Base c he X0 X s) : s.heap.objs.size ∉ X := b.live.fresh (get_size _)
theorem plainList_push (h : Heap) (vs : List Value) : (h.push { cls := .type "list", data := .seq vs.toArray }).PlainList h.objs.size vs.toArray := ⟨_, Heap.get?_push_size _ rfl⟩
theorem isTuple_push (h : Heap) (vs : List Value) : (h.push { cls := .type "tuple", data := .seq vs.toArray }).IsTuple h.objs.size vs.toArray := ⟨_, Heap.get?_push_size _ rfl, rfl, _, rfl⟩
theorem ev_list {es : List Expr} {ds : List D} {pos : Pos} (h : EVs c k ns σ es ds) (hl : ds.length ≤ sizeLine) : EV c k ns σ (.List es pos) (.list ds) := by
  intro env ef A a he X0 X F s Q E st q
  refine wpAny_List (h.spl env ef A a he X0 X F s _ E pos st fun vs s₁ n₁ r₁ => ⟨by rw [r₁.length]; exact hl, ?_⟩)
  exact q _ _ (n₁.trans .push) (.list (size_off (st.base.nxt n₁)) (plainList_push _ _) (r₁.ext (.push _ _)))
theorem ev_tuple {es : List Expr} {ds : List D} {kd : Nat} {pos : Pos} (h : EVs c k ns σ es ds) (hl : ds.length ≤ sizeLine) : EV c k ns σ (.Tuple es kd pos) (.tup ds) := by
  intro env ef A a he X0 X F s Q E st q
  refine wpAny_Tuple (h.spl env ef A a he X0 X F s _ E pos st fun vs s₁ n₁ r₁ => ⟨by rw [r₁.length]; exact hl, ?_⟩)
  exact q _ _ (n₁.trans .push) (.tup (size_off (st.base.nxt n₁)) (isTuple_push _ _) (r₁.ext (.push _ _)))
noncomputable def Op2 (c : Cx) (k : Nat) (op : Value → Value → Sem Value) (d1 d2 r : D) : Prop :=
  ∀ A, AOk k A → ∀ he X0 X s (Q : Value → Shared → Prop) E v1 v2, Base c he X0 X s → WRep X s.heap v1 d1 → WRep X s.heap v2 d2 → (∀ v s', Nxt s s' → Rep X s'.heap v r → Q v s') → wpAny (model c.prog c.w) A (op v1 v2) Q E s
theorem ev_bin {l r : Expr} {op : Operator} {pos : Pos} {d1 d2 d : D} (o : Op2 c k (binaryOp op) d1 d2 d) (h1 : EW c k ns σ l d1) (h2 : EW c k ns σ r d2) : EV c k ns σ (.BinOp l op r pos) d := by
  intro env ef A a he X0 X F s Q E st q
  exact wpAny_BinOp (h1 env ef A a he X0 X F s _ E st fun v s₁ n₁ r₁ => h2 env ef A a he X0 X F s₁ _ E (st.nxt n₁) fun w s₂ n₂ r₂ =>
    o A a he X0 X s₂ _ E v w ((st.base.nxt n₁).nxt n₂) (r₁.ext n₂.heap) r₂ fun u s₃ n₃ r₃ => q u s₃ ((n₁.trans n₂).trans n₃) r₃)
theorem ev_cmp {l r : Expr} {op : CmpOp} {pos : Pos} {d1 d2 d : D} (o : Op2 c k (compareOp op) d1 d2 d) (h1 : EW c k ns σ l d1) (h2 : EW c k ns σ r d2) (hm : behindInMarks op r = false) : EV c k ns σ (.Compare l [op] [r] pos) d := by
  intro env ef A a he X0 X F s Q E st q
  exact wpAny_Compare1 (h1 env ef A a he X0 X F s _ E st fun v s₁ n₁ r₁ => h2 env ef A a he X0 X F s₁ _ E (st.nxt n₁) fun w s₂ n₂ r₂ =>
    o A a he X0 X s₂ _ E v w ((st.base.nxt n₁).nxt n₂) (r₁.ext n₂.heap) r₂ fun u s₃ n₃ r₃ => q u s₃ ((n₁.trans n₂).trans n₃) r₃) hm
theorem et_cmp {l r : Expr} {op : CmpOp} {pos : Pos} {d1 d2 : D} {b : Bool} (o : Op2 c k (compareOp op) d1 d2 (.bool b)) (h1 : EW c k ns σ l d1) (h2 : EW c k ns σ r d2) (hm : behindInMarks op r = false) : ET c k ns σ (.Compare l [op] [r] pos) b := by
  intro env ef A a he X0 X F s Q E st q
  exact wpAny_isTrue_Compare1 (h1 env ef A a he X0 X F s _ E st fun v s₁ n₁ r₁ => h2 env ef A a he X0 X F s₁ _ E (st.nxt n₁) fun w s₂ n₂ r₂ =>
    o A a he X0 X s₂ _ E v w ((st.base.nxt n₁).nxt n₂) (r₁.ext n₂.heap) r₂ fun u s₃ n₃ r₃ => by
      cases r₃; exact wpAny_truthy_bool (q s₃ ((n₁.trans n₂).trans n₃))) hm
theorem et_or2 {e1 e2 : Expr} {pos : Pos} {b1 b2 : Bool} (h1 : ET c k ns σ e1 b1) (h2 : b1 = false → ET c k ns σ e2 b2) : ET c k ns σ (.BoolOp .Or [e1, e2] pos) (b1 || b2) := by
  intro env ef A a he X0 X F s Q E st q
  refine wpAny_isTrue_BoolOp (wpAny_allTrue_Or_cons (h1 env ef A a he X0 X F s _ E st fun s₁ n₁ => ?_))
  cases b1 with
  | true => exact q s₁ n₁
  | false =>
    refine wpAny_allTrue_Or_cons (h2 rfl env ef A a he X0 X F s₁ _ E (st.nxt n₁) fun s₂ n₂ => ?_)
    cases b2 with
    | true => exact q s₂ (n₁.trans n₂)
    | false => exact wpAny_allTrue_Or_nil (q s₂ (n₁.trans n₂))
theorem ev_if {t b o : Expr} {pos : Pos} {d : D} {x : Bool} (ht : ET c k ns σ t x) (hb : x = true → EV c k ns σ b d) (ho : x = false → EV c k ns σ o d) : EV c k ns σ (.IfExp t b o pos) d := by
  intro env ef A a he X0 X F s Q E st q
  refine wpAny_IfExp (ht env ef A a he X0 X F s _ E st fun s₁ n₁ => ?_)
  cases x with
  | true => exact hb rfl env ef A a he X0 X F s₁ _ E (st.nxt n₁) fun v s₂ n₂ r => q v s₂ (n₁.trans n₂) r
  | false => exact ho rfl env ef A a he X0 X F s₁ _ E (st.nxt n₁) fun v s₂ n₂ r => q v s₂ (n₁.trans n₂) r
theorem ev_neg {e : Expr} {pos : Pos} {i : Int} (h : EV c k ns σ e (.int i)) : EV c k ns σ (.UnaryOp .USub e pos) (.int (-i)) := by
  intro env ef A a he X0 X F s Q E st q
  refine wpAny_UnaryOp (h env ef A a he X0 X F s _ E st fun v s₁ n₁ r₁ => ?_)
  cases r₁
  exact neg_int (q _ _ (n₁.trans .tok) (.int _ _))
end
end Mine
end
section
open PySem PySem.W PyProof.Rows
set_option linter.unusedSimpArgs false
set_option linter.unusedVariables false
namespace Mine
section ops
variable {c : Cx} {k : Nat}
theorem W_int {X : List Addr} {h : Heap} {v : Value} {i : Int} (r : WRep X h v (.int i)) : ∃ t, v = .int i t := by cases r; exact ⟨_, rfl⟩
theorem W_str {X : List Addr} {h : Heap} {v : Value} {x : List Nat} (r : WRep X h v (.str x)) : ∃ t, v = .str ⟨x.toArray⟩ t := by cases r; exact ⟨_, rfl⟩
theorem W_bool {X : List Addr} {h : Heap} {v : Value} {b : Bool} (r : WRep X h v (.bool b)) : v = .bool b := by cases r; rfl
theorem op_add_int {a b : Int} : Op2 c k (binaryOp .Add) (.int a) (.int b) (.int (a + b)) := by
  intro A ha he X0 X s Q E v1 v2 st r1 r2 q
  obtain ⟨t, rfl⟩ := W_int r1; obtain ⟨u, rfl⟩ := W_int r2
  exact PyProof.Rows.add_int (q _ _ .tok (.int _ _))
theorem op_sub_int {a b : Int} : Op2 c k (binaryOp .Sub) (.int a) (.int b) (.int (a - b)) := by
  intro A ha he X0 X s Q E v1 v2 st r1 r2 q
  obtain ⟨t, rfl⟩ := W_int r1; obtain ⟨u, rfl⟩ := W_int r2
  exact PyProof.Rows.sub_int (q _ _ .tok (.int _ _))
theorem op_mod_int {a b : Int} (hb : b ≠ 0) : Op2 c k (binaryOp .Mod) (.int a) (.int b) (.int (a.fmod b)) := by
  intro A ha he X0 X s Q E v1 v2 st r1 r2 q
  obtain ⟨t, rfl⟩ := W_int r1; obtain ⟨u, rfl⟩ := W_int r2
  exact PyProof.Rows.mod_int' hb (q _ _ .tok (.int _ _))
theorem op_div_int {a b : Int} (hb : b ≠ 0) (hp : Builtin.divisionGoesByPylong a b = false) : Op2 c k (binaryOp .FloorDiv) (.int a) (.int b) (.int (a.fdiv b)) := by
  intro A ha he X0 X s Q E v1 v2 st r1 r2 q
  obtain ⟨t, rfl⟩ := W_int r1; obtain ⟨u, rfl⟩ := W_int r2
  exact PyProof.Rows.floordiv_int hb (q _ _ .tok (.int _ _)) (.inl hp)
theorem op_sub_bool {a b : Bool} : Op2 c k (binaryOp .Sub) (.bool a) (.bool b) (.int (b2i a - b2i b)) := by
  intro A ha he X0 X s Q E v1 v2 st r1 r2 q
  cases W_bool r1; cases W_bool r2
  exact PyProof.Rows.sub_bool (q _ _ .tok (.int _ _))
theorem pylong_small {a b : Int} (h : b.natAbs < 2 ^ 64) : Builtin.divisionGoesByPylong a b = false := by
  unfold Builtin.divisionGoesByPylong
  have h2 : (if (b == 0) = true then 0 else b.natAbs.log2 / 30 + 1) ≤ 300 := by
    split
    · omega
    · rename_i hb
      have hb0 : b.natAbs ≠ 0 := by simpa using hb
      have := (Nat.log2_lt hb0).mpr h
      omega
  simp only [Bool.and_eq_false_imp, decide_eq_true_eq]
  intro h3; omega
theorem intBits_small {a : Int} (h : a.natAbs < 2 ^ 64) : Builtin.Int.intBits a ≤ 64 := by
  unfold Builtin.Int.intBits
  by_cases hb : a.natAbs = 0
  · have ha : a = 0 := by omega
    subst ha; decide
  · have := (Nat.log2_lt hb).mpr h
    split <;> omega
theorem op_mul_int {a b : Int} (h : a.natAbs < 2 ^ 64) : Op2 c k (binaryOp .Mult) (.int a) (.int b) (.int (a * b)) := by
  intro A ha he X0 X s Q E v1 v2 st r1 r2 q
  obtain ⟨t, rfl⟩ := W_int r1; obtain ⟨u, rfl⟩ := W_int r2
  refine PyProof.Rows.mul_int (q _ _ .tok (.int _ _)) ?_
  unfold IntMulOk
  have := intBits_small h
  simp only [Bool.and_eq_true, decide_eq_true_eq, shortFactorBits, not_and]
  intro h3
  exact absurd (of_decide_eq_true h3.1) (by omega)
theorem op_add_str {a b : List Nat} (h : a.length + b.length ≤ sizeLine) : Op2 c k (binaryOp .Add) (.str a) (.str b) (.str (a ++ b)) := by
  intro A ha he X0 X s Q E v1 v2 st r1 r2 q
  obtain ⟨t, rfl⟩ := W_str r1; obtain ⟨u, rfl⟩ := W_str r2
  refine PyProof.Rows.add_str (fun t' tk => q _ _ .tok ?_) (by simpa [PySem.Str.length] using h)
  have e : (⟨a.toArray⟩ : PySem.Str) ++ (⟨b.toArray⟩ : PySem.Str) = ⟨(a ++ b).toArray⟩ := by
    apply Str.ext'; rw [Str.cps_append]; simp
  rw [e]; exact .str _ _
theorem op_gt_str {a b : List Nat} : Op2 c k (compareOp .Gt) (.str a) (.str b) (.bool (decide (b < a))) := by
  intro A ha he X0 X s Q E v1 v2 st r1 r2 q
  obtain ⟨t, rfl⟩ := W_str r1; obtain ⟨u, rfl⟩ := W_str r2
  exact PySem.P.gt_str (q _ _ (.refl s) (by simpa using Rep.bool _))
theorem op_lt_str {a b : List Nat} : Op2 c k (compareOp .Lt) (.str a) (.str b) (.bool (decide (a < b))) := by
  intro A ha he X0 X s Q E v1 v2 st r1 r2 q
  obtain ⟨t, rfl⟩ := W_str r1; obtain ⟨u, rfl⟩ := W_str r2
  exact PyProof.Rows.lt_str (q _ _ (.refl s) (by simpa using Rep.bool _))
theorem op_add_list {a b : List D} (h : a.length + b.length ≤ sizeLine) : Op2 c k (binaryOp .Add) (.list a) (.list b) (.list (a ++ b)) := by
  rintro A ha he X0 X s Q E v1 v2 st ⟨l, vs, rfl, p, r1⟩ ⟨m, ws, rfl, p2, r2⟩ q
  obtain ⟨n, e⟩ := id p
  obtain ⟨n2, e2⟩ := id p2
  refine P.add_list (n := n) (n2 := n2) e e2 ?_ (by simp [r1.length, r2.length]; exact h)
  refine q _ _ .push ?_
  rw [show vs.toArray ++ ws.toArray = (vs ++ ws).toArray by simp]
  exact .list (size_off st) (plainList_push _ _) ((r1.append r2).ext (.push _ _))
noncomputable def isNone : D → Bool
  | .none => true
  | _ => false
theorem op_is_none {d : D} : Op2 c k (compareOp .Is) d .none (.bool (isNone d)) := by
  intro A ha he X0 X s Q E v1 v2 st r1 r2 q
  cases r2
  have e : (v1 == Value.none) = isNone d := by
    cases d with
    | list ds => obtain ⟨a, vs, rfl, _⟩ := r1; rfl
    | _ => cases r1; rfl
  refine PyProof.Rows.is_none_gen ?_
  rw [e]; exact q _ _ (.refl s) (.bool _)
inductive Ty where
  | int | str | bool
  | list (t : Ty)
noncomputable def Ty.has : Ty → D → Prop
  | .int, .int _ => True
  | .str, .str _ => True
  | .bool, .bool _ => True
  | .list t, .list ds => ∀ d ∈ ds, t.has d
  | _, _ => False
noncomputable def Ty.depth : Ty → Nat
  | .list t => t.depth + 1
  | _ => 0
mutual
noncomputable def deq : D → D → Bool
  | .int a, .int b => a == b
  | .str a, .str b => a == b
  | .bool a, .bool b => a == b
  | .list a, .list b => deqL a b
  | _, _ => false
noncomputable def deqL : List D → List D → Bool
  | [], [] => true
  | a :: r, b :: t => deq a b && deqL r t
  | _, _ => false
end
theorem deqL_len : ∀ {a b : List D}, a.length ≠ b.length → deqL a b = false
  | [], [], h => absurd rfl h
  | [], _ :: _, _ => rfl
  | _ :: _, [], _ => rfl
  | a :: r, b :: t, h => by
    rw [deqL, deqL_len (a := r) (b := t) (by simpa using h), Bool.and_false]
theorem deqL_all : ∀ {a b : List D}, a.length = b.length → deqL a b = (List.range a.length).all fun j => deq (a.getD j .none) (b.getD j .none)
  | [], [], _ => rfl
  | a :: r, b :: t, h => by
    rw [deqL, deqL_all (a := r) (b := t) (by simpa using h), List.length_cons, List.range_succ_eq_map, List.all_cons, List.all_map]
    rfl
theorem arr_inj {vs ws : List Value} {h : Heap} {a : Addr} (p : h.PlainList a vs.toArray) (q : h.PlainList a ws.toArray) : vs = ws := by
  obtain ⟨n, e⟩ := p
  obtain ⟨m, f⟩ := q
  rw [e] at f
  simpa using congrArg (fun o : Option Obj => match o with | some ⟨_, _, .seq xs _, _⟩ => xs.toList | _ => []) f
theorem RepL.cons_inv {X : List Addr} {h : Heap} {v : Value} {vs : List Value} {d : D} {ds : List D} (r : RepL X h (v :: vs) (d :: ds)) : Rep X h v d ∧ RepL X h vs ds := by cases r with | cons a b => exact ⟨a, b⟩
theorem same_D {X : List Addr} {h : Heap} : ∀ (t : Ty) {v : Value} {d1 d2 : D}, t.has d1 → t.has d2 → WRep X h v d1 → WRep X h v d2 → deq d1 d2 = true := by
  intro t
  induction t with
  | int =>
    intro v d1 d2 h1 h2 r1 r2
    cases d1 <;> first | exact h1.elim | skip
    cases d2 <;> first | exact h2.elim | skip
    obtain ⟨_, rfl⟩ := W_int r1; obtain ⟨_, e⟩ := W_int r2
    cases e; simp [deq]
  | str =>
    intro v d1 d2 h1 h2 r1 r2
    cases d1 <;> first | exact h1.elim | skip
    cases d2 <;> first | exact h2.elim | skip
    obtain ⟨_, rfl⟩ := W_str r1; obtain ⟨_, e⟩ := W_str r2
    simp at e; simp [deq, e.1]
  | bool =>
    intro v d1 d2 h1 h2 r1 r2
    cases d1 <;> first | exact h1.elim | skip
    cases d2 <;> first | exact h2.elim | skip
    cases W_bool r1; cases W_bool r2; simp [deq]
  | list t ih =>
    intro v d1 d2 h1 h2 r1 r2
    cases d1 <;> first | exact h1.elim | skip
    cases d2 <;> first | exact h2.elim | skip
    rename_i l1 l2
    obtain ⟨a, vs, rfl, p, q1⟩ := r1
    obtain ⟨b, ws, e, p2, q2⟩ := r2
    cases e
    cases arr_inj p p2
    simp only [Ty.has] at h1 h2
    simp only [deq]
    clear p p2
    induction vs generalizing l1 l2 with
    | nil => cases q1; cases q2; rfl
    | cons v vs ihv =>
      cases q1 with
      | cons a1 b1 =>
        cases q2 with
        | cons a2 b2 =>
          rw [deqL, ih (h1 _ (List.mem_cons_self ..)) (h2 _ (List.mem_cons_self ..)) a1.w a2.w, Bool.true_and]
          exact ihv _ (fun d hd => h1 d (List.mem_cons_of_mem _ hd)) _ (fun d hd => h2 d (List.mem_cons_of_mem _ hd)) b1 b2
open PySem.SeqAt in
theorem eqAt_D {X : List Addr} {s : Shared} : ∀ (t : Ty) {A : Around} {k : Nat}, AOk (k + t.depth) A → ∀ {v1 v2 : Value} {d1 d2 : D}, t.has d1 → t.has d2 → WRep X s.heap v1 d1 → WRep X s.heap v2 d2 → EqAt A s v1 v2 (deq d1 d2) := by
  intro t
  induction t with
  | int =>
    intro A k ha v1 v2 d1 d2 h1 h2 r1 r2
    cases d1 <;> first | exact h1.elim | skip
    cases d2 <;> first | exact h2.elim | skip
    obtain ⟨_, rfl⟩ := W_int r1; obtain ⟨_, rfl⟩ := W_int r2
    exact EqAt.int_int _ _ _ _
  | str =>
    intro A k ha v1 v2 d1 d2 h1 h2 r1 r2
    cases d1 <;> first | exact h1.elim | skip
    cases d2 <;> first | exact h2.elim | skip
    rename_i x y
    obtain ⟨t, rfl⟩ := W_str r1; obtain ⟨u, rfl⟩ := W_str r2
    have := EqAt.str_str (A := A) (s := s) ⟨x.toArray⟩ t ⟨y.toArray⟩ u
    have e : ((⟨x.toArray⟩ : PySem.Str) == ⟨y.toArray⟩) = (x == y) := by
      rw [Bool.eq_iff_iff]; simp
    rw [e] at this
    exact this
  | bool =>
    intro A k ha v1 v2 d1 d2 h1 h2 r1 r2
    cases d1 <;> first | exact h1.elim | skip
    cases d2 <;> first | exact h2.elim | skip
    cases W_bool r1; cases W_bool r2
    exact EqAt.bool_bool _ _
  | list t ih =>
    intro A k ha v1 v2 d1 d2 h1 h2 r1 r2
    by_cases hv : v1 = v2
    · subst hv
      rw [same_D _ h1 h2 r1 r2]; exact EqAt.same _
    cases d1 <;> first | exact h1.elim | skip
    cases d2 <;> first | exact h2.elim | skip
    rename_i l1 l2
    obtain ⟨a, vs, rfl, p, q1⟩ := r1
    obtain ⟨b, ws, rfl, p2, q2⟩ := r2
    simp only [Ty.has] at h1 h2
    have hne : a ≠ b := fun e => hv (by rw [e])
    have hu : A.units < cLine := ha.line
    simp only [deq]
    by_cases hl : l1.length = l2.length
    · rw [deqL_all hl]
      have e1 := q1.length
      have e2 := q2.length
      have := RcAt.lists (A := A) (s := s) (e := fun j => deq (l1.getD j .none) (l2.getD j .none)) p.isList p2.isList (by simp; omega) hu (fun j g1 g2 => ?_)
      · rw [show vs.toArray.size = l1.length by simp [e1]] at this
        exact EqAt.of_refs hne this
      · have g1' : j < vs.length := by simpa using g1
        have g2' : j < ws.length := by simpa using g2
        obtain ⟨x, hx, rx⟩ := q1.at' (i := j) (v := vs[j]) (by simp [g1'])
        obtain ⟨y, hy, ry⟩ := q2.at' (i := j) (v := ws[j]) (by simp [g2'])
        have := ih (A := A.in1) (k := k) (AOk.in1 ha) (v1 := vs[j]) (v2 := ws[j]) (d1 := x) (d2 := y) (h1 x (List.mem_of_getElem? hx)) (h2 y (List.mem_of_getElem? hy)) rx.w ry.w
        simpa [List.getD_eq_getElem?_getD, hx, hy] using this
    · rw [deqL_len hl]
      exact EqAt.of_refs hne (RcAt.lists_lengths p.isList p2.isList (by simp [q1.length, q2.length]; exact hl) hu)
open PySem.SeqAt in
theorem op_eq (t : Ty) {d1 d2 : D} (h1 : t.has d1) (h2 : t.has d2) : Op2 c (k + t.depth) (compareOp .Eq) d1 d2 (.bool (deq d1 d2)) := by
  intro A ha he X0 X s Q E v1 v2 st r1 r2 q
  cases t with
  | int =>
    cases d1 <;> first | exact h1.elim | skip
    cases d2 <;> first | exact h2.elim | skip
    obtain ⟨_, rfl⟩ := W_int r1; obtain ⟨_, rfl⟩ := W_int r2
    exact PyProof.Rows.eq_int (q _ _ (.refl s) (.bool _))
  | str =>
    cases d1 <;> first | exact h1.elim | skip
    cases d2 <;> first | exact h2.elim | skip
    obtain ⟨_, rfl⟩ := W_str r1; obtain ⟨_, rfl⟩ := W_str r2
    exact P.eq_str (q _ _ (.refl s) (by simpa [deq] using Rep.bool _))
  | bool =>
    cases d1 <;> first | exact h1.elim | skip
    cases d2 <;> first | exact h2.elim | skip
    cases W_bool r1; cases W_bool r2
    exact PyProof.Rows.eq_bool (q _ _ (.refl s) (.bool _))
  | list t =>
    cases d1 <;> first | exact h1.elim | skip
    cases d2 <;> first | exact h2.elim | skip
    rename_i l1 l2
    obtain ⟨a, vs, rfl, p, q1⟩ := r1
    obtain ⟨b, ws, rfl, p2, q2⟩ := r2
    simp only [Ty.has] at h1 h2
    have hu : A.units < cLine := ha.line
    have e1 := q1.length
    have e2 := q2.length
    by_cases hl : l1.length = l2.length
    · refine eq_listAt (e := fun j => deq (l1.getD j .none) (l2.getD j .none)) p.isList p2.isList (by simp; omega) hu (fun j g1 g2 => ?_) ?_
      · have g1' : j < vs.length := by simpa using g1
        have g2' : j < ws.length := by simpa using g2
        obtain ⟨x, hx, rx⟩ := q1.at' (i := j) (v := vs[j]) (by simp [g1'])
        obtain ⟨y, hy, ry⟩ := q2.at' (i := j) (v := ws[j]) (by simp [g2'])
        have := eqAt_D (A := A.in1) (k := k) t (AOk.in1 ha) (v1 := vs[j]) (v2 := ws[j]) (d1 := x) (d2 := y) (h1 x (List.mem_of_getElem? hx)) (h2 y (List.mem_of_getElem? hy)) rx.w ry.w
        simpa [List.getD_eq_getElem?_getD, hx, hy] using this
      · rw [show vs.toArray.size = l1.length by simp [e1], ← deqL_all hl]
        exact q _ _ (.refl s) (.bool _)
    · refine eq_list_lengthsAt p.isList p2.isList (by simp [e1, e2]; exact hl) hu ?_
      have := q (.bool (deqL l1 l2)) s (.refl s) (.bool _)
      rw [deqL_len hl] at this; exact this
open PySem.SeqAt in
theorem op_ne (t : Ty) {d1 d2 : D} (h1 : t.has d1) (h2 : t.has d2) : Op2 c (k + t.depth) (compareOp .NotEq) d1 d2 (.bool (!deq d1 d2)) := by
  intro A ha he X0 X s Q E v1 v2 st r1 r2 q
  cases t with
  | int =>
    cases d1 <;> first | exact h1.elim | skip
    cases d2 <;> first | exact h2.elim | skip
    obtain ⟨_, rfl⟩ := W_int r1; obtain ⟨_, rfl⟩ := W_int r2
    exact PyProof.Rows.ne_int (q _ _ (.refl s) (.bool _))
  | str =>
    cases d1 <;> first | exact h1.elim | skip
    cases d2 <;> first | exact h2.elim | skip
    obtain ⟨_, rfl⟩ := W_str r1; obtain ⟨_, rfl⟩ := W_str r2
    exact P.ne_str (q _ _ (.refl s) (by simpa [deq, bne] using Rep.bool _))
  | bool =>
    cases d1 <;> first | exact h1.elim | skip
    cases d2 <;> first | exact h2.elim | skip
    cases W_bool r1; cases W_bool r2
    exact PyProof.Rows.ne_bool (q _ _ (.refl s) (.bool _))
  | list t =>
    cases d1 <;> first | exact h1.elim | skip
    cases d2 <;> first | exact h2.elim | skip
    rename_i l1 l2
    obtain ⟨a, vs, rfl, p, q1⟩ := r1
    obtain ⟨b, ws, rfl, p2, q2⟩ := r2
    simp only [Ty.has] at h1 h2
    have hu : A.units < cLine := ha.line
    have e1 := q1.length
    have e2 := q2.length
    by_cases hl : l1.length = l2.length
    · refine RcNeAt.lists (e := fun j => deq (l1.getD j .none) (l2.getD j .none)) p.isList p2.isList (by simp; omega) hu (fun j g1 g2 => ?_) _ _ E Q ?_
      · have g1' : j < vs.length := by simpa using g1
        have g2' : j < ws.length := by simpa using g2
        obtain ⟨x, hx, rx⟩ := q1.at' (i := j) (v := vs[j]) (by simp [g1'])
        obtain ⟨y, hy, ry⟩ := q2.at' (i := j) (v := ws[j]) (by simp [g2'])
        have := eqAt_D (A := A.in1) (k := k) t (AOk.in1 ha) (v1 := vs[j]) (v2 := ws[j]) (d1 := x) (d2 := y) (h1 x (List.mem_of_getElem? hx)) (h2 y (List.mem_of_getElem? hy)) rx.w ry.w
        simpa [List.getD_eq_getElem?_getD, hx, hy] using this
      · rw [show vs.toArray.size = l1.length by simp [e1], ← deqL_all hl]
        exact q _ _ (.refl s) (.bool _)
    · refine RcNeAt.lists_lengths p.isList p2.isList (by simp [e1, e2]; exact hl) hu _ _ E Q ?_
      have := q (.bool (!deqL l1 l2)) s (.refl s) (.bool _)
      rw [deqL_len hl] at this; exact this
open PySem.SeqAt in
theorem op_in_strs {x : List Nat} {l : List (List Nat)} : Op2 c (k + 1) (compareOp .In) (.str x) (.list (l.map .str)) (.bool (l.contains x)) := by
  rintro A ha he X0 X s Q E v1 v2 st r1 ⟨b, ws, rfl, p, r⟩ q
  obtain ⟨t, rfl⟩ := W_str r1
  let e : Value → Bool := fun v => match v with | .str y _ => y.cps.toList == x | _ => false
  have hall : ∀ (ws : List Value) (l : List (List Nat)), RepL X s.heap ws (l.map .str) → ws.any e = l.contains x := by
    intro ws
    induction ws with
    | nil => intro l r; cases l with
      | nil => rfl
      | cons => cases r
    | cons v ws ih =>
      intro l r
      cases l with
      | nil => cases r
      | cons y l =>
        obtain ⟨r1, r2⟩ := RepL.cons_inv r
        cases r1
        rw [List.any_cons, ih l r2, List.contains_cons]
        congr 1
        show ((y.toArray.toList) == x) = (x == y)
        exact Bool.eq_iff_iff.mpr (by rw [beq_iff_eq, beq_iff_eq]; exact eq_comm)
  refine in_listAt e p.isList (fun y hy => ?_) ?_
  · obtain ⟨j, hj⟩ := List.mem_iff_getElem?.mp (by simpa using hy)
    obtain ⟨d, hd, rd⟩ := r.at' hj
    have hd' := List.mem_of_getElem? hd
    obtain ⟨z, hz, rfl⟩ := List.mem_map.mp hd'
    cases rd
    have := EqAt.str_str (A := A.in1) (s := s) ⟨z.toArray⟩ ‹_› ⟨x.toArray⟩ t
    have e1 : ((⟨z.toArray⟩ : PySem.Str) == ⟨x.toArray⟩) = e (.str ⟨z.toArray⟩ ‹_›) := by
      show _ = (z.toArray.toList == x)
      exact Bool.eq_iff_iff.mpr (by rw [beq_iff_eq, beq_iff_eq]; constructor <;> intro h <;> simp_all)
    rw [e1] at this; exact this
  · have : ws.toArray.any e = l.contains x := by rw [← hall ws l r]; simp
    rw [this]
    exact q _ _ (.refl s) (.bool _)
end ops
end Mine
end
section
open PySem PySem.W PyProof.Rows
set_option linter.unusedSimpArgs false
set_option linter.unusedVariables false
namespace Mine
section
variable {c : Cx} {k : Nat} {ns : Names} {σ : Sig}
inductive WRepL (X : List Addr) (h : Heap) : List Value → List D → Prop
  | nil : WRepL X h [] []
  | cons {v : Value} {vs : List Value} {d : D} {ds : List D} : WRep X h v d → WRepL X h vs ds → WRepL X h (v :: vs) (d :: ds)
theorem WRepL.ext {X : List Addr} {h h' : Heap} (k : Ext h h') : ∀ {vs : List Value} {ds : List D}, WRepL X h vs ds → WRepL X h' vs ds
  | _, _, .nil => .nil
  | _, _, .cons r rs => .cons (WRep.ext r k) (rs.ext k)
theorem RepL.w {X : List Addr} {h : Heap} : ∀ {vs : List Value} {ds : List D}, RepL X h vs ds → WRepL X h vs ds
  | _, _, .nil => .nil
  | _, _, .cons r rs => .cons r.w rs.w
inductive EWs (c : Cx) (k : Nat) (ns : Names) (σ : Sig) : List Expr → List D → Prop
  | nil : EWs c k ns σ [] []
  | cons {e : Expr} {es : List Expr} {d : D} {ds : List D} : (∀ env, starEach (e :: es) env = (false, eval e env) :: starEach es env) → EW c k ns σ e d → EWs c k ns σ es ds → EWs c k ns σ (e :: es) (d :: ds)
theorem EWs.spl {es : List Expr} {ds : List D} (h : EWs c k ns σ es ds) : ∀ env, EnvFor ns env → ∀ A, AOk k A → ∀ he X0 X F s (Q : List Value → Shared → Prop) E pos, St c he X0 X env σ F s →
    (∀ vs s', Nxt s s' → WRepL X s'.heap vs ds → Q vs s') → wpAny (model c.prog c.w) A (spliced (backTo pos (starEach es env))) Q E s := by
  induction h with
  | nil => intro env ef A a he X0 X F s Q E pos st q; exact wpAny_items_nil (q [] s (.refl s) .nil)
  | cons hs h1 h2 ih =>
    intro env ef A a he X0 X F s Q E pos st q
    exact wpAny_items_cons (h1 env ef A a he X0 X F s _ E st fun v s₁ n₁ r₁ => ih env ef A a he X0 X F s₁ _ E pos (st.nxt n₁) fun vs s₂ n₂ r₂ => q _ _ (n₁.trans n₂) (.cons (r₁.ext n₂.heap) r₂)) (hs env)
noncomputable def FN (c : Cx) (k : Nat) (f : Value) (ds : List D) (r : D) : Prop :=
  ∀ A, AOk k A → ∀ he X0 X s (Q : Value → Shared → Prop) E vs, Base c he X0 X s → WRepL X s.heap vs ds → (∀ v s', Nxt s s' → Rep X s'.heap v r → Q v s') → wpAny (model c.prog c.w) A (call f vs) Q E s
noncomputable def Keep1 (c : Cx) (f : Value) : Prop := ∀ (M : Model) h, Ext c.h0 h → ∃ k, (k = Keeper.frame ∨ k = Keeper.machine ∨ k = Keeper.boundFrame) ∧ Looks M h (keeperOf f) k
theorem keep_builtin {id : String} : Keep1 c (.builtin id) := fun M h _ => ⟨.machine, .inr (.inl rfl), Looks.of_pure rfl⟩
theorem keep_type {id : String} : Keep1 c (.type id) := fun M h _ => ⟨.machine, .inr (.inl rfl), Looks.of_pure rfl⟩
theorem ev_call {x : Str} {p pos : Pos} {e : Expr} {es : List Expr} {f : Value} {ds : List D} {r : D} (hg : EG c ns (.Name x p) f) (hk : Keep1 c f) (ha : EWs c k ns σ (e :: es) ds) (hf : FN c k f ds r) :
    EV c k ns σ (.Call (.Name x p) (e :: es) [] pos) r := by
  intro env ef A a he X0 X F s Q E st q
  have hs : starEach (e :: es) env = (false, eval e env) :: starEach es env := by cases ha with | cons h _ _ => exact h env
  refine wpAny_Call_ofName (hg env ef A s _ E st.base.top ?_)
  refine callWith_of (P := Ext c.h0) (by
    show ((backTo pos (starEach (e :: es) env)).any (·.1) || false) = false
    have : ∀ {es : List Expr} {ds : List D}, EWs c k ns σ es ds → (backTo pos (starEach es env)).any (·.1) = false := by
      intro es ds h
      induction h with
      | nil => rfl
      | cons hs _ _ ih => rw [hs env]; simpa [backTo] using ih
    rw [this ha]; rfl) (fun h hh => hk _ h hh) ?_
  have key := ha.spl env ef A a he X0 X F s (fun vs s' => Ext c.h0 s'.heap ∧ wpAny (model c.prog c.w) A (call f ([] ++ vs) []) Q E s') E pos st fun vs s₁ n₁ r₁ =>
    ⟨(st.base.nxt n₁).top, hf A a he X0 X s₁ Q E vs (st.base.nxt n₁) r₁ fun v s₂ n₂ r₂ => q v s₂ (n₁.trans n₂) r₂⟩
  rw [hs] at key ⊢
  exact Calls.evalArgs_plain key
theorem wpAny_sub {M : Model} {prog : Program} {w : World} {A : Around} {E : Value → Shared → Prop} {s : Shared} {env : Env} {value slice : Expr} {pos : Pos} {Q : Value → Shared → Prop}
    (h : wpAny (model prog w) A (eval value env) (fun o s₁ => wpAny (model prog w) A (eval slice env) (fun i s₂ => SubscriptOn (model prog w) A o i Q E s₂) E s₁) E s) :
    wpAny (model prog w) A (eval (.Subscript value slice pos) env) Q E s := by
  rw [arm_eval_Subscript]
  refine wpAny_bind (wpAny_mono h (fun o s₁ h₁ => wpAny_bind (wpAny_holding (wpAny_mono h₁ (fun i s₂ h₂ => wpAny_bind (wpAny_standAt ?_)) fun _ _ x => x)))
    fun _ _ x => x)
  obtain ⟨T, id, hl, hT, hg⟩ := h₂
  refine wpAny_bind ?_
  rw [getitemInPython_of_ne hT.not_modules]
  refine wpAny_bind (wpAny_specialOf hT hl ?_)
  have fin : wpAny (model prog w) A (subscripted slice false o i) (fun r s₃ => wpAny (model prog w) A (letTemporaryGo value o r >>= fun _ => pure r) Q E s₃) E s₂ := by
    have e : ∃ l, subscripted slice false o i = operate l (getItem o i) := by
      unfold subscripted
      split <;> first | exact ⟨_, rfl⟩ | exact absurd ‹false = true› Bool.false_ne_true
    obtain ⟨l, e⟩ := e
    rw [e]
    exact wpAny_operating (wpAny_mono hg (fun r s₃ h₃ => wpAny_bind (wpAny_letTemporaryGo (wpAny_pure h₃))) fun _ _ x => x)
  exact wpAny_pure (wpAny_bind fin)
theorem list_gi : typeLookup (.type "list") "__getitem__" = pure (some (.builtin "list.__getitem__")) := slot_list_getitem.lookup
theorem ev_item {b i : Expr} {pos : Pos} {ds : List D} {n : Int} {d : D} (hb : EW c k ns σ b (.list ds)) (hi : EW c k ns σ i (.int n)) (h0 : 0 ≤ n) (h1 : ds[n.toNat]? = some d) (hl : ds.length ≤ sizeLine) : EV c k ns σ (.Subscript b i pos) d := by
  intro env ef A a he X0 X F s Q E st q
  refine wpAny_sub (M := model c.prog c.w) (hb env ef A a he X0 X F s _ E st fun v s₁ n₁ r₁ => hi env ef A a he X0 X F s₁ _ E (st.nxt n₁) fun w s₂ n₂ r₂ => ?_)
  obtain ⟨l, vs, rfl, p, r⟩ := r₁
  obtain ⟨t, rfl⟩ := W_int r₂
  have p' := (p.at fun o e => n₂.heap _ o e).isList
  obtain ⟨x, hx, rx⟩ := (r.ext n₂.heap).at h1
  refine ⟨"list", _, list_gi, p'.typeIs, wpAny_getItem_list p' h0 ?_ (x := x) (by simpa using hx) (q x s₂ (n₁.trans n₂) rx)⟩
  have := (List.getElem?_eq_some_iff.mp h1).1
  rw [sizeLine_eq] at hl
  omega
theorem ev_itemNeg {b i : Expr} {pos : Pos} {ds : List D} {n : Int} {d : D} (hb : EW c k ns σ b (.list ds)) (hi : EW c k ns σ i (.int n)) (h0 : n < 0) (hn : -(ds.length : Int) ≤ n) (h1 : ds[(n + ds.length).toNat]? = some d) (hl : ds.length ≤ sizeLine) : EV c k ns σ (.Subscript b i pos) d := by
  intro env ef A a he X0 X F s Q E st q
  refine wpAny_sub (M := model c.prog c.w) (hb env ef A a he X0 X F s _ E st fun v s₁ n₁ r₁ => hi env ef A a he X0 X F s₁ _ E (st.nxt n₁) fun w s₂ n₂ r₂ => ?_)
  obtain ⟨l, vs, rfl, p, r⟩ := r₁
  obtain ⟨t, rfl⟩ := W_int r₂
  have p' := (p.at fun o e => n₂.heap _ o e).isList
  obtain ⟨x, hx, rx⟩ := (r.ext n₂.heap).at h1
  have el := r.length
  rw [sizeLine_eq] at hl
  exact ⟨"list", _, list_gi, p'.typeIs, wpAny_getItem_list_neg p' h0 (by simp [el]; exact hn) (by omega) (x := x) (by simpa [el] using hx) (q x s₂ (n₁.trans n₂) rx)⟩
noncomputable def EP (c : Cx) (k : Nat) (ns : Names) (σ : Sig) (x : Option Expr) (i : Option Int) : Prop :=
  ∀ env, EnvFor ns env → ∀ A, AOk k A → ∀ he X0 X F s Q E, St c he X0 X env σ F s → (∀ v s', Nxt s s' → IsPart v i → Q v s') → wpAny (model c.prog c.w) A (evalPart x env) Q E s
theorem ep_none : EP c k ns σ none none := fun env ef A a he X0 X F s Q E st q => by unfold evalPart; exact wpAny_pure (q _ s (.refl s) .none)
theorem ep_some {e : Expr} {i : Int} (h : EW c k ns σ e (.int i)) : EP c k ns σ (some e) (some i) := fun env ef A a he X0 X F s Q E st q => by
  unfold evalPart; exact h env ef A a he X0 X F s _ E st fun v s' n r => by obtain ⟨t, rfl⟩ := W_int r; exact q _ s' n (.int i t)
noncomputable def pick {α : Type} (l : List α) (lo hi st : Option Int) : List α :=
  (sliceRange (sliceBounds lo hi st l.length).1 (sliceBounds lo hi st l.length).2.1 (sliceBounds lo hi st l.length).2.2).filterMap (l[·]?)
theorem RepL.pick {X : List Addr} {h : Heap} {vs : List Value} {ds : List D} (r : RepL X h vs ds) (lo hi st : Option Int) : RepL X h (slicePick vs.toArray lo hi st).toList (pick ds lo hi st) := by
  unfold slicePick Mine.pick
  rw [List.toList_toArray]
  have e : vs.toArray.size = ds.length := by simp [r.length]
  rw [e]
  generalize sliceRange _ _ _ = is
  simp only [List.getElem?_toArray]
  induction is with
  | nil => exact .nil
  | cons i is ih =>
    simp only [List.filterMap_cons]
    cases hv : vs[i]? with
    | none =>
      have hd : ds[i]? = none := by
        rw [List.getElem?_eq_none_iff] at hv ⊢; rw [← r.length]; exact hv
      simp only [hv, hd]; exact ih
    | some v =>
      obtain ⟨d, hd, rd⟩ := r.at' hv
      simp only [hv, hd]; exact .cons rd ih
theorem ev_slice {b : Expr} {lo hi : Option Expr} {st : Option Expr} {p pos : Pos} {ds : List D} {i j n : Option Int} (hb : EW c k ns σ b (.list ds)) (h1 : EP c k ns σ lo i) (h2 : EP c k ns σ hi j) (h3 : EP c k ns σ st n) (h0 : n ≠ some 0)
    (hl : ds.length ≤ sizeLine) : EV c k ns σ (.Subscript b (.Slice lo hi st p) pos) (.list (pick ds i j n)) := by
  intro env ef A a he X0 X F s Q E st q
  refine wpAny_sub (M := model c.prog c.w) (hb env ef A a he X0 X F s _ E st fun v s₁ n₁ r₁ => wpAny_Slice (h1 env ef A a he X0 X F s₁ _ E (st.nxt n₁) fun v1 s₂ n₂ r₂ =>
    h2 env ef A a he X0 X F s₂ _ E ((st.nxt n₁).nxt n₂) fun v2 s₃ n₃ r₃ => h3 env ef A a he X0 X F s₃ _ E (((st.nxt n₁).nxt n₂).nxt n₃) fun v3 s₄ n₄ r₄ => ?_))
  obtain ⟨l, vs, rfl, pl, r⟩ := r₁
  have n14 := (n₂.trans n₃).trans n₄
  have n5 : Nxt s₁ { s₄ with heap := s₄.heap.push { cls := .type "slice", data := .fields #[v1, v2, v3] } } := n14.trans .push
  have p' := pl.at fun o e => n5.heap _ o e
  have st5 := (st.nxt n₁).nxt n5
  refine ⟨"list", _, list_gi, p'.isList.typeIs, wpAny_getItem_list_slice (hsz := by simp [r.length]; exact hl) p'.isList (Heap.IsSliceOf.new _ _ _ _) r₂ r₃ r₄ h0 ?_⟩
  refine q _ _ ((n₁.trans n5).trans .push) ?_
  have e : slicePick vs.toArray i j n = (slicePick vs.toArray i j n).toList.toArray := by simp
  rw [e]
  exact .list (size_off st5.base) (plainList_push _ _) (((r.ext n5.heap).pick i j n).ext (.push _ _))
theorem fn_len_list {ds : List D} (hl : ds.length ≤ sizeLine) : FN c k (.builtin "len") [.list ds] (.int ds.length) := by
  intro A a he X0 X s Q E vs b r q
  cases r with | cons r1 r2 => cases r2; obtain ⟨l, vs, rfl, p, r⟩ := r1
                               rw [sizeLine_eq] at hl
                               refine Calls.call_len_list p.isList (by simp [r.length]; omega) ?_
                               have e : ((vs.toArray.size : Nat) : Int) = ds.length := by simp [r.length]
                               rw [e]
                               exact q _ _ .tok (.int _ _)
theorem fn_range1 {n : Int} : FN c k (.type "range") [.int n] (.rng 0 n) := by
  intro A a he X0 X s Q E vs b r q
  cases r with | cons r1 r2 => cases r2; obtain ⟨t, rfl⟩ := W_int r1
                               exact call_range_1 (q _ _ .push' (.rng (size_off b) (Heap.get?_push_size _ rfl)))
theorem fn_range2 {m n : Int} : FN c k (.type "range") [.int m, .int n] (.rng m n) := by
  intro A a he X0 X s Q E vs b r q
  cases r with | cons r1 r2 => cases r2 with | cons r2 r3 => cases r3; obtain ⟨t, rfl⟩ := W_int r1; obtain ⟨u, rfl⟩ := W_int r2
                                                             exact call_range_2 (q _ _ .push' (.rng (size_off b) (Heap.get?_push_size _ rfl)))
end
end Mine
end
section
open PySem PySem.W PyProof.Rows
set_option linter.unusedSimpArgs false
set_option linter.unusedVariables false
namespace Mine
section
variable {c : Cx} {k : Nat} {ns : Names} {σ : Sig}
theorem pick_run' {α : Type} (xs : List α) (a : Nat) (k : Nat) : ((List.range k).map (a + ·)).filterMap (xs[·]?) = (xs.drop a).take k := by
  have := pick_run xs.toArray a k
  simpa using this
theorem pick_plain {α : Type} (l : List α) (lo hi : Option Int) : pick l lo hi none = (l.drop (lo.elim 0 (clipAt l.length))).take (hi.elim l.length (clipAt l.length) - lo.elim 0 (clipAt l.length)) := by
  unfold pick
  rw [sliceBounds_plain]
  simp only [sliceRange_one, pick_run']
theorem pick_to {α : Type} (l : List α) (n : Nat) : pick l none (some (n : Int)) none = l.take n := by
  rw [pick_plain]
  simp only [Option.elim, clipAt_nat, List.drop_zero, Nat.sub_zero]
  rcases Nat.le_total n l.length with h | h
  · rw [Nat.min_eq_left h]
  · rw [Nat.min_eq_right h, List.take_of_length_le (Nat.le_refl _), List.take_of_length_le h]
theorem pick_from {α : Type} (l : List α) (n : Nat) : pick l (some (n : Int)) none none = l.drop n := by
  rw [pick_plain]
  simp only [Option.elim, clipAt_nat]
  rcases Nat.le_total n l.length with h | h
  · rw [Nat.min_eq_left h, List.take_of_length_le (by simp)]
  · rw [Nat.min_eq_right h, List.drop_of_length_le (Nat.le_refl _), List.drop_of_length_le h]; simp
theorem pick_butLast {α : Type} (l : List α) : pick l none (some (-1)) none = l.dropLast := by
  rw [pick_plain]
  simp only [Option.elim, List.drop_zero, Nat.sub_zero]
  rw [show (-1 : Int) = -((1 : Nat) : Int) by decide, clipAt_neg _ 1 (by decide), List.dropLast_eq_take]
theorem sindices (lo hi : Option Int) (n : Nat) : Builtin.Str.strSliceIndices lo hi 1 n = sliceRange (sliceBounds lo hi none n).1 (sliceBounds lo hi none n).2.1 (sliceBounds lo hi none n).2.2 := rfl
theorem pick_full {α : Type} (l : List α) (lo hi : Option Int) (h : (Builtin.Str.strSliceIndices lo hi 1 l.length).length = l.length) : pick l lo hi none = l := by
  rw [sindices, sliceBounds_plain] at h
  rw [pick_plain]
  simp only [sliceRange_one, List.length_map, List.length_range] at h
  have h2 : lo.elim 0 (clipAt l.length) = 0 := by
    have : hi.elim l.length (clipAt l.length) ≤ l.length := by
      cases hi with
      | none => exact Nat.le_refl _
      | some i => have := clipAt_cast l.length i; simp only [Option.elim]; omega
    by_cases hz : l.length = 0
    · cases lo with
      | none => rfl
      | some i => have := clipAt_cast l.length i; simp only [Option.elim]; omega
    · omega
  rw [h2] at h ⊢
  rw [List.drop_zero, List.take_of_length_le (by omega)]
theorem slice_post {x : List Nat} {t : Tok} {lo hi : Option (Int × Tok)} {Q : Value → Shared → Prop} {s : Shared} {X : List Addr} (hl : x.length ≤ sizeLine)
    (q : ∀ v s', Nxt s s' → Rep X s'.heap v (.str (pick x (lo.map (·.1)) (hi.map (·.1)) none)) → Q v s') : (sliceMade ⟨x.toArray⟩ t lo hi none).post Q s := by
  unfold sliceMade
  have e : slicePicked ⟨x.toArray⟩ lo hi none = Builtin.Str.strSliceIndices (lo.map (·.1)) (hi.map (·.1)) 1 x.length := rfl
  have el : (⟨x.toArray⟩ : PySem.Str).length = x.length := by simp [PySem.Str.length]
  rw [e, el]
  by_cases h : (Builtin.Str.strSliceIndices (lo.map (·.1)) (hi.map (·.1)) 1 x.length).length = x.length
  · rw [if_pos (by simp [h])]
    refine q _ s (.refl s) ?_
    rw [pick_full _ _ _ h]; exact .str _ _
  · rw [if_neg (by simp [h])]
    have e2 : (Builtin.Str.strSliceIndices (lo.map (·.1)) (hi.map (·.1)) 1 x.length).filterMap (x.toArray[·]?) = pick x (lo.map (·.1)) (hi.map (·.1)) none := by
      rw [sindices]; unfold pick; simp
    show (Made.str ⟨(List.filterMap (x.toArray[·]?) _).toArray⟩).post Q s
    rw [e2]
    refine ⟨?_, q _ _ .tok (.str _ _)⟩
    rw [pick_plain]
    simp [PySem.Str.length]
    omega
theorem str_gi : typeLookup (.type "str") "__getitem__" = pure (some (.builtin "str.__getitem__")) := F.slot_str_getitem.lookup
theorem ev_sslice {b : Expr} {lo hi : Option Expr} {p pos : Pos} {x : List Nat} {i j : Option Int} (hb : EW c k ns σ b (.str x)) (h1 : EP c k ns σ lo i) (h2 : EP c k ns σ hi j)
    (hl : x.length ≤ sizeLine) : EV c k ns σ (.Subscript b (.Slice lo hi none p) pos) (.str (pick x i j none)) := by
  intro env ef A a he X0 X F s Q E st q
  refine wpAny_sub (M := model c.prog c.w) (hb env ef A a he X0 X F s _ E st fun v s₁ n₁ r₁ => wpAny_Slice (h1 env ef A a he X0 X F s₁ _ E (st.nxt n₁) fun v1 s₂ n₂ r₂ =>
    h2 env ef A a he X0 X F s₂ _ E ((st.nxt n₁).nxt n₂) fun v2 s₃ n₃ r₃ => ep_none env ef A a he X0 X F s₃ _ E (((st.nxt n₁).nxt n₂).nxt n₃) fun v3 s₄ n₄ r₄ => ?_))
  obtain ⟨t, rfl⟩ := W_str r₁
  cases r₄
  have n14 := (n₂.trans n₃).trans n₄
  have n5 : Nxt s₁ { s₄ with heap := s₄.heap.push { cls := .type "slice", data := .fields #[v1, v2, Value.none] } } := n14.trans .push
  obtain ⟨lo', e1, e1'⟩ : ∃ lo' : Option (Int × Tok), v1 = partValue lo' ∧ lo'.map (·.1) = i := by cases r₂ with | none => exact ⟨none, rfl, rfl⟩ | int i t => exact ⟨some (i, t), rfl, rfl⟩
  obtain ⟨hi', e2, e2'⟩ : ∃ hi' : Option (Int × Tok), v2 = partValue hi' ∧ hi'.map (·.1) = j := by cases r₃ with | none => exact ⟨none, rfl, rfl⟩ | int i t => exact ⟨some (i, t), rfl, rfl⟩
  refine ⟨"str", _, str_gi, typeIs_str _ _ _, wpAny_getItem_str_slice (l := lo') (u := hi') (st := none) ⟨_, Heap.get?_push_size _ rfl, rfl, by rw [e1, e2]; rfl⟩ rfl ?_⟩
  subst e1' e2'
  exact slice_post (X := X) hl fun v s' n r => q v s' ((n₁.trans n5).trans n) r
theorem ev_sitem {b i : Expr} {pos : Pos} {x : List Nat} {n : Int} {ch : Nat} (hb : EW c k ns σ b (.str x)) (hi : EW c k ns σ i (.int n)) (h0 : 0 ≤ n) (h1 : x[n.toNat]? = some ch) (hl : x.length ≤ sizeLine) : EV c k ns σ (.Subscript b i pos) (.str [ch]) := by
  intro env ef A a he X0 X F s Q E st q
  refine wpAny_sub (M := model c.prog c.w) (hb env ef A a he X0 X F s _ E st fun v s₁ n₁ r₁ => hi env ef A a he X0 X F s₁ _ E (st.nxt n₁) fun w s₂ n₂ r₂ => ?_)
  obtain ⟨t, rfl⟩ := W_str r₁
  obtain ⟨u, rfl⟩ := W_int r₂
  have hlt := (List.getElem?_eq_some_iff.mp h1).1
  rw [sizeLine_eq] at hl
  refine ⟨"str", _, str_gi, typeIs_str _ _ _, P.getItem_str ?_ (c := ch) ?_ (q _ _ ((n₁.trans n₂).trans .tok) (.str [ch] _))⟩
  · simp; omega
  · have el : (⟨x.toArray⟩ : PySem.Str).length = x.length := by simp [PySem.Str.length]
    unfold seqIndex?
    rw [el]
    have hn : ¬ n < 0 := by omega
    simp only [hn, if_false]
    have : (decide (0 ≤ n) && decide (n < (x.length : Int))) = true := by simp; omega
    rw [if_pos this]
    simpa using h1
theorem fn_len_str {x : List Nat} (hl : x.length ≤ sizeLine) : FN c k (.builtin "len") [.str x] (.int x.length) := by
  intro A a he X0 X s Q E vs b r q
  cases r with | cons r1 r2 => cases r2; obtain ⟨t, rfl⟩ := W_str r1
                               rw [sizeLine_eq] at hl
                               have el : (⟨x.toArray⟩ : PySem.Str).length = x.length := by simp [PySem.Str.length]
                               refine P.len_str (by rw [el]; omega) ?_
                               rw [el]
                               exact q _ _ .tok (.int _ _)
theorem op_mul_str {x : List Nat} {n : Nat} (h : x.length * n ≤ sizeLine) (hx : 1 ≤ x.length) : Op2 c k (binaryOp .Mult) (.str x) (.int n) (.str (List.replicate n x).flatten) := by
  intro A ha he X0 X s Q E v1 v2 st r1 r2 q
  obtain ⟨t, rfl⟩ := W_str r1; obtain ⟨u, rfl⟩ := W_int r2
  have el : (⟨x.toArray⟩ : PySem.Str).length = x.length := by simp [PySem.Str.length]
  rw [sizeLine_eq] at h
  have hn : n ≤ 16777216 := Nat.le_trans (Nat.le_mul_of_pos_left _ hx) h
  refine P.mul_str (by simp only [Bool.or_eq_false_iff, decide_eq_false_iff_not]; omega) (fun h1 h2 => ?_) (fun h1 h2 => ?_) ?_
  · rw [el]
    have : ((x.length * n : Nat) : Int) ≤ 16777216 := by omega
    rw [Int.natCast_mul] at this
    have h3 : (x.length : Int) ≤ 16777216 := by
      have := Nat.le_trans (Nat.le_mul_of_pos_right x.length (show 0 < n by omega)) h
      omega
    have h4 : (16777216 : Int) ≤ (2 ^ 63 - 1) / (n : Int) := by
      rw [Int.le_ediv_iff_mul_le (by omega)]; omega
    omega
  · rw [el]
    simp [Builtin.Str.tooLong, sizeLine_eq]; omega
  · by_cases h0 : (n : Int) < 1
    · have : n = 0 := by omega
      subst this
      rw [if_pos h0]
      exact ⟨by decide, q _ _ .tok (.str [] _)⟩
    · rw [if_neg h0]
      by_cases h1 : ((n : Int) == 1 || (⟨x.toArray⟩ : PySem.Str).length == 0) = true
      · rw [if_pos h1]
        rw [el] at h1
        have h1' : ((n : Int) == 1) = true ∨ (x.length == 0) = true := by simpa only [Bool.or_eq_true] using h1
        have : n = 1 := by
          rcases h1' with h | h
          · have := eq_of_beq h; omega
          · have := eq_of_beq h; omega
        subst this
        exact q _ _ (.refl s) (by simpa using Rep.str x t)
      · rw [if_neg h1]
        have e : (List.foldl (fun x1 x2 : Array Nat => x1 ++ x2) #[] (List.replicate (n : Int).toNat x.toArray)) = (List.replicate n x).flatten.toArray := by
          have : ∀ (m : Nat) (acc : List Nat), List.foldl (fun x1 x2 : Array Nat => x1 ++ x2) acc.toArray (List.replicate m x.toArray) = (acc ++ (List.replicate m x).flatten).toArray := by
            intro m
            induction m with
            | zero => intro acc; simp
            | succ m ih => intro acc; rw [List.replicate_succ, List.foldl_cons, List.append_toArray, ih]; simp [List.replicate_succ]
          simpa using this n []
        show (Made.str ⟨_⟩).post Q s
        simp only [] at e ⊢
        rw [e]
        refine ⟨?_, q _ _ .tok (.str _ _)⟩
        simp [PySem.Str.length, sizeLine_eq]
        rw [Nat.mul_comm]; omega
noncomputable def inStr (y x : List Nat) : Bool := (List.range (x.length + 1)).any fun i => (x.drop i).take y.length == y
theorem op_in_str {y x : List Nat} : Op2 c k (compareOp .In) (.str y) (.str x) (.bool (inStr y x)) := by
  intro A ha he X0 X s Q E v1 v2 st r1 r2 q
  obtain ⟨t, rfl⟩ := W_str r1; obtain ⟨u, rfl⟩ := W_str r2
  refine P.in_str ?_
  have e : (!(Builtin.Str.occurrences ⟨x.toArray⟩ ⟨y.toArray⟩ 0 (⟨x.toArray⟩ : PySem.Str).length 1).isEmpty) = inStr y x := by
    rw [Bool.eq_iff_iff, StrLaws.found_iff]
    unfold inStr
    simp only [List.any_eq_true, List.mem_range, StrLaws.subAt_eq, PySem.Str.length, List.size_toArray]
    constructor
    · rintro ⟨i, h1, h2⟩; exact ⟨i, by omega, by simpa using h2⟩
    · rintro ⟨i, h1, h2⟩
      refine ⟨i, ?_, by simpa using h2⟩
      have := congrArg List.length (eq_of_beq h2)
      simp at this; omega
  rw [e]; exact q _ _ (.refl s) (.bool _)
theorem mul_list_gen {prog : Program} {w : World} {A : Around} {E : Value → Shared → Prop} {s : Shared} {l : Addr} {items : Array Value} {k : Nat} {x : Int} {u : Tok} {Q : Value → Shared → Prop}
    (hl : s.heap.get? l = some { cls := .type "list", dict := none, data := .seq items k, slots := #[] })
    (hlo : -(2 ^ 63 : Int) ≤ x) (hhi : x < 2 ^ 63) (hsz : items.size * x.toNat ≤ 2 ^ 24)
    (h : Q (.ref s.heap.objs.size) { s with heap := s.heap.push { cls := .type "list", data := .seq (List.foldl (fun x1 x2 => x1 ++ x2) #[] (List.replicate (if items.isEmpty = true then 0 else x.toNat) items)) } }) :
    wpAny (model prog w) A (binaryOp .Mult (.ref l) (.int x u)) Q E s :=
  wpAny_binaryOp_repeat_ref (T := "list") (U := "int") (by decide) ⟨_, hl, rfl⟩ (fun s' => typeIs_int s' x u) noFill_list_mul F.fills_int_mul F.slot_int_rmul repeat_list F.slot_int_index.lookup
    (call_meets F.slot_int_rmul (typeIs_int s x u) F.entry_int_rmul (F.args_int_rmul_2 _ _) (int___rmul___int_list x u l items k)
      ⟨hl, rfl, ⟨_, hl, rfl⟩, call_meets F.slot_list_mul ⟨_, hl, rfl⟩ F.entry_list_mul (F.args_list_mul_2 _ _)
        (AutoListH.list___mul___list_int_3 l items k x u (by simp [Builtin.List.listFitsIndex]; omega) (by omega) (by simp [Builtin.List.listTooLong, sizeLine]; omega))
        ⟨hl, h⟩⟩)
theorem op_mul_list {x : D} {n : Nat} (h : n ≤ sizeLine) : Op2 c k (binaryOp .Mult) (.list [x]) (.int n) (.list (List.replicate n x)) := by
  rintro A ha he X0 X s Q E v1 v2 st ⟨l, vs, rfl, p, r1⟩ r2 q
  obtain ⟨u, rfl⟩ := W_int r2
  obtain ⟨kk, hl⟩ := id p
  have e1 := r1.length
  obtain ⟨v, rfl⟩ : ∃ v, vs = [v] := by
    match vs, e1 with
    | [v], _ => exact ⟨v, rfl⟩
  rw [sizeLine_eq] at h
  have e : (List.foldl (fun x1 x2 : Array Value => x1 ++ x2) #[] (List.replicate (if [v].toArray.isEmpty = true then 0 else (n : Int).toNat) [v].toArray)) = (List.replicate n v).toArray := by
    have : ∀ (m : Nat) (acc : List Value), List.foldl (fun x1 x2 : Array Value => x1 ++ x2) acc.toArray (List.replicate m [v].toArray) = (acc ++ List.replicate m v).toArray := by
      intro m
      induction m with
      | zero => intro acc; simp
      | succ m ih => intro acc; rw [List.replicate_succ, List.foldl_cons, List.append_toArray, ih]; simp [List.replicate_succ]
    simpa using this n []
  have hsz : [v].toArray.size = 1 := rfl
  generalize [v].toArray = items at hl e hsz
  refine mul_list_gen hl (by omega) (by omega) (by rw [hsz]; omega) ?_
  rw [e]
  refine q _ _ .push (.list (size_off st) (plainList_push _ _) ?_)
  have rv : Rep X s.heap v x := by cases r1 with | cons a b => exact a
  have : ∀ m, RepL X s.heap (List.replicate m v) (List.replicate m x) := by
    intro m
    induction m with
    | zero => exact .nil
    | succ m ih => rw [List.replicate_succ, List.replicate_succ]; exact .cons rv ih
  exact (this n).ext (.push _ _)
end
end Mine
end
section
open PySem PySem.W PyProof.Rows
set_option linter.unusedSimpArgs false
set_option linter.unusedVariables false
namespace Mine
section
variable {c : Cx} {k : Nat} {ns : Names} {σ : Sig}
theorem strJoin_empty : ∀ (l : List PySem.Str), Txt.join ⟨#[]⟩ l = ⟨(l.map fun s => s.cps.toList).flatten.toArray⟩ := by
  intro l
  unfold Txt.join Builtin.Str.glued
  have : ∀ (l : List PySem.Str) (acc : Array Nat), l.foldl (fun (acc : Array Nat) p => acc ++ #[] ++ p.cps) acc = acc ++ (l.map fun s => s.cps.toList).flatten.toArray := by
    intro l
    induction l with
    | nil => intro acc; simp
    | cons p l ih => intro acc; rw [List.foldl_cons, ih]; apply Array.toList_inj.mp; simp
  cases l with
  | nil => simp [PySem.Str.empty]
  | cons p l =>
    simp only [List.drop_one, List.tail_cons, List.headD_cons]
    rw [this l p.cps]; congr 1; apply Array.toList_inj.mp; simp
theorem strs_rep {X : List Addr} {h : Heap} : ∀ {vs : List Value} {l : List (List Nat)}, RepL X h vs (l.map .str) → ∃ m : List (PySem.Str × Tok), vs = strValues m ∧ m.map (·.1) = l.map fun x => ⟨x.toArray⟩
  | [], [], _ => ⟨[], rfl, rfl⟩
  | [], _ :: _, r => by cases r
  | _ :: _, [], r => by cases r
  | v :: vs, x :: l, r => by
    obtain ⟨r1, r2⟩ := RepL.cons_inv r
    obtain ⟨m, e1, e2⟩ := strs_rep r2
    cases r1 with | str _ t => exact ⟨(⟨x.toArray⟩, t) :: m, by simp [strValues, e1], by simp [e2]⟩
theorem ev_join {e : Expr} {apos pos cp : Pos} {kd : Nat} {l : List (List Nat)} {sep : PySem.Str} (hs : sep.cps = #[]) (he : ∀ env, starEach [e] env = [(false, eval e env)]) (hp : (apos.endLine == pos.line) = true)
    (h : EW c k ns σ e (.list (l.map .str))) (hl : (l.map List.length).sum ≤ sizeLine) :
    EV c k ns σ (.Call (.Attribute (.Constant (.str sep) kd cp) (Str.ofString "join") apos) [e] [] pos) (.str l.flatten) := by
  intro env ef A a he' X0 X F s Q E st q
  have e0 : sep = ⟨#[]⟩ := by cases sep; simp only at hs; rw [hs]
  subst e0
  refine wpAny_Call_method_lateS rfl (by rw [he env]; rfl) hp (wpAny_Constant_str ?_)
  rw [he env]
  show MethodOnS _ _ _ _ _ _ _ [(false, eval e env)] _ _
  refine SB.join (h env ef A a he' X0 X F _ _ E (st.nxt .tok) fun v s₁ n₁ r₁ => ?_)
  obtain ⟨D, vs, rfl, p, r⟩ := r₁
  obtain ⟨m, rfl, em⟩ := strs_rep r
  refine ⟨D, m, rfl, p.isList, _, rfl, ?_, fun t' k' => q _ _ ((Nxt.tok.trans n₁).trans .tok) ?_⟩
  · rw [em]
    unfold JoinOk
    have : ∀ (l : List (List Nat)) (acc : Nat), (l.map fun x => (⟨x.toArray⟩ : PySem.Str)).foldl (· + ·.length + (⟨#[]⟩ : PySem.Str).length) acc = acc + (l.map List.length).sum := by
      intro l
      induction l with
      | nil => intro acc; simp
      | cons x l ih => intro acc; rw [List.map_cons, List.foldl_cons, ih]; simp [PySem.Str.length]; omega
    rw [List.foldl_toArray, this l 0]
    simp [Builtin.Str.tooLong]; omega
  · rw [em, strJoin_empty]
    have : (l.map fun x => (⟨x.toArray⟩ : PySem.Str)).map (fun s => s.cps.toList) = l := by
      rw [List.map_map]; simp [Function.comp_def]
    rw [this]; exact .str _ _
noncomputable def ahead (ch : Nat) (x : List Nat) : List Nat := x.takeWhile (· != ch)
theorem ahead_of {ch : Nat} {a b : List Nat} (h : ch ∉ a) : ahead ch (a ++ ch :: b) = a := by
  unfold ahead
  rw [List.takeWhile_append_of_pos (fun x hx => by simp; rintro rfl; exact h hx)]
  simp
theorem ahead_free {ch : Nat} {a : List Nat} (h : ch ∉ a) : ahead ch a = a := by
  unfold ahead
  have := List.takeWhile_append_of_pos (p := (· != ch)) (l₁ := a) (l₂ := []) (fun x hx => by simp; rintro rfl; exact h hx)
  simpa using this
theorem split_head (x : List Nat) (ch : Nat) : ∃ r, Txt.split ⟨x.toArray⟩ ⟨#[ch]⟩ = ⟨(ahead ch x).toArray⟩ :: r := by
  have h1 := StrLaws.join_split ⟨x.toArray⟩ ⟨#[ch]⟩
  have h2 := StrLaws.split_free ⟨x.toArray⟩ ch
  cases e : Txt.split ⟨x.toArray⟩ ⟨#[ch]⟩ with
  | nil =>
    unfold Txt.split at e
    split at e
    · cases e
    · split at e
      · cases e
      · have := congrArg List.length e
        rw [length_partsBetween] at this; simp at this
  | cons p r =>
    refine ⟨r, ?_⟩
    rw [e] at h1 h2
    have hf := h2 p (List.mem_cons_self ..)
    have hx : x = p.cps.toList ∨ ∃ b, x = p.cps.toList ++ ch :: b := by
      cases r with
      | nil =>
        left
        have : p = ⟨x.toArray⟩ := h1
        rw [this]
      | cons q r =>
        right
        have : p ++ (⟨#[ch]⟩ : PySem.Str) ++ Str.join ⟨#[ch]⟩ (q :: r) = ⟨x.toArray⟩ := h1
        have := congrArg (fun s : PySem.Str => s.cps.toList) this
        simp only [Str.cps_append, Array.toList_append] at this
        exact ⟨_, by simpa using this.symm⟩
    congr 1
    rcases hx with hx | ⟨b, hx⟩
    · rw [hx, ahead_free hf]
    · rw [hx, ahead_of hf]
theorem ext_kept {s : Shared} : KeptByPush (fun s' => Nxt s s') := fun s' ob k' n => n.trans .push'
theorem ev_splitFirst {o : Expr} {apos pos pos' cp ip : Pos} {kd kd' : Nat} {x : List Nat} {ch : Nat} {sep : PySem.Str} (hs : sep.cps = #[ch]) (hb : ∀ env, attributeBase o (Str.ofString "split") env (eval o env) = eval o env) (hp : (apos.endLine == pos.line) = true)
    (h : EW c k ns σ o (.str x)) (hl : x.length + 3 ≤ sizeLine) :
    EV c k ns σ (.Subscript (.Call (.Attribute o (Str.ofString "split") apos) [.Constant (.str sep) kd cp] [] pos) (.Constant (.int 0) kd' ip) pos') (.str (ahead ch x)) := by
  intro env ef A a he' X0 X F s Q E st q
  have e0 : sep = ⟨#[ch]⟩ := by cases sep; simp only at hs; rw [hs]
  subst e0
  refine wpAny_sub (M := model c.prog c.w) (wpAny_Call_method_lateS (hb env) rfl hp (h env ef A a he' X0 X F s _ E st fun v s₁ n₁ r₁ => ?_))
  obtain ⟨t, rfl⟩ := W_str r₁
  have el : (⟨x.toArray⟩ : PySem.Str).length = x.length := by simp [PySem.Str.length]
  refine SBG.split1 (Fm := fun s' => Nxt s₁ s') ext_kept (wpAny_Constant_str (k := kd) (pos := cp) ⟨_, _, rfl, rfl, .tok, ?_, fun D l s₂ hsp n₂ hD => ?_⟩) (by rw [el]; omega)
  · rw [length_partsBetween]
    have := StrLaws.occ_length_le ⟨x.toArray⟩ ⟨#[ch]⟩ 0 (⟨x.toArray⟩ : PySem.Str).length ((⟨x.toArray⟩ : PySem.Str).length + 1)
    omega
  · refine wpAny_Constant_int ?_
    obtain ⟨r, hr⟩ := split_head x ch
    rw [hr] at hsp
    cases l with
    | nil => cases hsp
    | cons p l =>
      have hp1 : p.1 = ⟨(ahead ch x).toArray⟩ := by simpa using (List.cons.inj hsp).1
      refine ⟨"list", _, list_gi, hD.typeIs, wpAny_getItem_list hD (by decide) (by decide) (x := .str p.1 p.2) (by simp [strValues]) (q _ _ ((n₁.trans n₂).trans .tok) ?_)⟩
      rw [hp1]; exact .str _ _
theorem ev_lower {o : Expr} {apos pos : Pos} {x : List Nat} (hb : ∀ env, attributeBase o (Str.ofString "lower") env (eval o env) = eval o env) (hp : (apos.endLine == pos.line) = true)
    (h : EW c k ns σ o (.str x)) (hl : x.length ≤ 5592405) (ha : ∀ ch ∈ x, ch < 128) :
    EV c k ns σ (.Call (.Attribute o (Str.ofString "lower") apos) [] [] pos) (.str (x.map lo1)) := by
  intro env ef A a he' X0 X F s Q E st q
  refine wpAny_Call_method_lateS (hb env) rfl hp (h env ef A a he' X0 X F s _ E st fun v s₁ n₁ r₁ => ?_)
  obtain ⟨t, rfl⟩ := W_str r₁
  have el : (⟨x.toArray⟩ : PySem.Str).length = x.length := by simp [PySem.Str.length]
  refine SB.lower (fit_lower (by rw [el]; exact hl)) (q _ _ (n₁.trans .tok) ?_)
  rw [lower_ascii (by simpa using ha)]
  simp only [List.map_toArray]
  exact .str _ _
end
end Mine
end
section
open PySem PySem.W PyProof.Rows
set_option linter.unusedSimpArgs false
set_option linter.unusedVariables false
namespace Mine
/-! sorting of texts -/
noncomputable def ltS : List Nat → List Nat → Bool
  | [], [] => false
  | [], _ :: _ => true
  | _ :: _, [] => false
  | a :: l, b :: m => if a = b then ltS l m else decide (a < b)
theorem ltS_eq : ∀ (a b : List Nat), ltS a b = decide (a < b)
  | [], [] => by simp [ltS]
  | [], _ :: _ => by simp [ltS]
  | _ :: _, [] => by simp [ltS]
  | a :: l, b :: m => by
    simp only [ltS, ltS_eq l m, List.cons_lt_cons_iff]
    by_cases h : a = b
    · subst h; simp
    · simp [h]
noncomputable def insS (x : List Nat) : List (List Nat) → List (List Nat)
  | [] => [x]
  | y :: r => if ltS y x then y :: insS x r else x :: y :: r
noncomputable def sortS : List (List Nat) → List (List Nat)
  | [] => []
  | x :: r => insS x (sortS r)
theorem insS_perm (x : List Nat) : ∀ l, (insS x l).Perm (x :: l)
  | [] => .refl _
  | y :: r => by
    unfold insS
    split
    · exact ((insS_perm x r).cons y).trans (.swap ..)
    · exact .refl _
theorem sortS_perm : ∀ l, (sortS l).Perm l
  | [] => .refl _
  | x :: r => (insS_perm x _).trans ((sortS_perm r).cons x)
noncomputable def LeS (a b : List Nat) : Prop := ¬ b < a
theorem LeS.trans {a b d : List Nat} (h : LeS a b) (g : LeS b d) : LeS a d := fun q => by
  have h1 := List.not_lt.mp h
  have h2 := List.not_lt.mp g
  exact absurd q (List.not_lt.mpr (List.le_trans h1 h2))
theorem insS_sorted (x : List Nat) : ∀ l, l.Pairwise LeS → (insS x l).Pairwise LeS
  | [], _ => by simp [insS]
  | y :: r, h => by
    obtain ⟨h1, h2⟩ := List.pairwise_cons.mp h
    unfold insS
    split
    · rename_i hy
      rw [ltS_eq, decide_eq_true_eq] at hy
      refine List.pairwise_cons.mpr ⟨fun z hz => ?_, insS_sorted x r h2⟩
      rcases List.mem_cons.mp ((insS_perm x r).mem_iff.mp hz) with rfl | hz
      · exact fun q => List.lt_irrefl _ (List.lt_trans hy q)
      · exact h1 z hz
    · rename_i hy
      rw [ltS_eq, decide_eq_true_eq] at hy
      refine List.pairwise_cons.mpr ⟨fun z hz => ?_, h⟩
      rcases List.mem_cons.mp hz with rfl | hz
      · exact hy
      · exact LeS.trans (b := y) hy (h1 z hz)
theorem sortS_sorted : ∀ l, (sortS l).Pairwise LeS
  | [] => .nil
  | x :: r => insS_sorted x _ (sortS_sorted r)
theorem LeS.antisymm {a b : List Nat} (h : LeS a b) (g : LeS b a) : a = b := List.le_antisymm (List.not_lt.mp h) (List.not_lt.mp g)
theorem sorted_unique : ∀ {l m : List (List Nat)}, l.Perm m → l.Pairwise LeS → m.Pairwise LeS → l = m
  | [], m, p, _, _ => by rw [List.nil_perm] at p; exact p.symm
  | a :: l, [], p, _, _ => by have := p.length_eq; simp at this
  | a :: l, b :: m, p, h1, h2 => by
    obtain ⟨a1, a2⟩ := List.pairwise_cons.mp h1
    obtain ⟨b1, b2⟩ := List.pairwise_cons.mp h2
    have e : a = b := by
      have ha : a ∈ b :: m := p.mem_iff.mp (List.mem_cons_self ..)
      have hb : b ∈ a :: l := p.mem_iff.mpr (List.mem_cons_self ..)
      rcases List.mem_cons.mp ha with h | ha
      · exact h
      · rcases List.mem_cons.mp hb with h | hb
        · exact h.symm
        · exact LeS.antisymm (a1 b hb) (b1 a ha)
    subst e
    rw [sorted_unique (List.Perm.cons_inv p) a2 b2]
/-! a strictly falling list: one run -/
section
variable {prog : Program} {w : World} {A : Around} {E : Value → Shared → Prop} {s : Shared} {a₀ : Array Keyed} {κ : KeyKind}
noncomputable def FallK (κ : KeyKind) (xs : Array Keyed) : Prop := ∀ i, 1 ≤ i → i < xs.size → κ.klt (KK κ xs i) (KK κ xs (i - 1))
theorem wpS_descLoopF {st : SortSt} {n nrem : Nat} {Q : DescSt → SortSt → Prop} (hO : κ.OneLt) (h0 : KeysOf κ a₀) (hn : nrem ≤ a₀.size) (h1 : 1 ≤ n) (hnn : n ≤ nrem) (hB : SBase a₀ st) (hf : FallK κ (arrOf st))
    (h : Q (none, nrem, 0) st) : wpS (model prog w) A E s (descLoop n nrem) Q st := by
  unfold descLoop
  refine wpS_forRange (I := fun x c st' => st' = st ∧ c = (none, x, 0)) ?step ?fin ⟨rfl, rfl⟩
  case fin =>
    rintro c st' ⟨rfl, rfl⟩
    rw [show max n nrem = nrem by omega]; exact h
  case step =>
    rintro x c st' hax hxn ⟨rfl, rfl⟩
    dsimp only
    refine wpS_bind (wpS_ltKK hO hB h0 (by omega) (by omega) ?_)
    have : κ.blt (KK κ (arrOf st') x) (KK κ (arrOf st') (x - 1)) = true := hf x (by omega) (by rw [hB.size]; omega)
    rw [this]
    dsimp only
    rw [if_pos rfl, if_neg (by omega)]
    exact wpS_pure ⟨rfl, rfl⟩
theorem wpS_countRunF {st : SortSt} {Q : Option Nat → SortSt → Prop} (hO : κ.OneLt) (h0 : KeysOf κ a₀) (h1 : 2 ≤ a₀.size) (hB : SBase a₀ st) (hf : FallK κ (arrOf st))
    (h : ∀ st', SBase a₀ st' → SortedToK κ (arrOf st') a₀.size → Q (some a₀.size) st') :
    wpS (model prog w) A E s (countRun' 0 a₀.size) Q st := by
  rw [countRun0_eq]
  have hnon : ∀ m, m ≤ a₀.size → NonIncK κ (arrOf st) m := by
    intro m hm i j hij hj
    obtain ⟨d, rfl⟩ := Nat.exists_eq_add_of_le hij
    clear hij
    induction d with
    | zero => exact KeyOrd.kle_refl _
    | succ d ih =>
      have := hf (i + (d + 1)) (by omega) (by rw [hB.size]; omega)
      exact KeyOrd.kle_trans (KeyOrd.kle_of_klt this) (ih (by omega))
  refine wpS_bind (wpS_ascLoopK hO h0 (Nat.le_refl _) (Nat.le_refl 1) (by omega) hB (fun i j hij hj => by have : i = j := (by omega); subst this; exact KeyOrd.kle_refl _) fun n hn1 hn2 hsn hor => ?_)
  dsimp only
  have hn1' : n = 1 := by
    by_cases hq : n = 1
    · exact hq
    · have a1 := hsn 0 1 (by omega) (by omega)
      exact absurd (hf 1 (Nat.le_refl 1) (by rw [hB.size]; omega)) (KeyOrd.not_klt_of_kle a1)
  subst hn1'
  rw [if_neg (by simp; omega), if_neg (by omega)]
  unfold descPart
  refine wpS_bind (wpS_lift (wpAny_rule ⟨rfl, ?_⟩))
  refine wpS_bind (wpS_descLoopF hO h0 (Nat.le_refl _) (by omega) (by omega) hB hf ?_)
  dsimp only
  rw [if_neg (by omega)]
  unfold tail3
  have hsz : a₀.size ≤ (arrOf st).size := by rw [hB.size]; omega
  refine wpS_bind (wpS_reverse ?_)
  have hB' : SBase a₀ (setArr st (mirror (arrOf st) 0 a₀.size ((a₀.size - 0) / 2))) := hB.setArr (mirror_perm _ _ _ _)
  have hs : SortedToK κ (arrOf (setArr st (mirror (arrOf st) 0 a₀.size ((a₀.size - 0) / 2)))) a₀.size := by
    intro i j hij hj
    show κ.kle (KK κ (mirror (arrOf st) 0 a₀.size ((a₀.size - 0) / 2)) i) (KK κ (mirror (arrOf st) 0 a₀.size ((a₀.size - 0) / 2)) j)
    rw [KK_mirror hsz, KK_mirror hsz, if_pos (by omega), if_pos (by omega)]
    exact hnon a₀.size (Nat.le_refl _) _ _ (by omega) (by omega)
  exact wpS_bind (wpS_ascLoopK hO h0 (Nat.le_refl _) (by omega) (Nat.le_refl _) hB' hs fun m hm1 hm2 hsm _ => wpS_pure (by
    have : m = a₀.size := by omega
    subst this; exact h _ hB' hsm))
theorem wpS_sortRunsF {st : SortSt} {Q : Unit → SortSt → Prop} (hO : κ.OneLt) (h0 : KeysOf κ a₀) (hB : SBase a₀ st) (h2 : 64 ≤ a₀.size) (h128 : a₀.size < 128) (hf : FallK κ (arrOf st))
    (h : ∀ st', (arrOf st').Perm a₀ → failedOf st' = none → SortedToK κ (arrOf st') a₀.size → Q () st') : wpS (model prog w) A E s sortRuns' Q st := by
  rw [sortRuns'_eq]
  refine wpS_bind (wpS_get ?_)
  dsimp only
  have hmr : minRun' a₀.size a₀.size 0 ≤ a₀.size := by
    obtain ⟨f, hf⟩ : ∃ f, a₀.size = f + 1 + 1 := ⟨a₀.size - 2, by omega⟩
    have : minRun' (f + 1 + 1) a₀.size 0 ≤ a₀.size := by
      rw [minRun'_succ, if_neg (by omega), minRun'_succ, if_pos (by omega)]; omega
    rwa [← hf] at this
  simp only [hB.size]
  refine wpS_bind (wpS_mono (wpS_forRange
    (I := fun x c st' => (x = 0 ∧ c = (none, 0) ∧ st' = st) ∨ (1 ≤ x ∧ c = (none, a₀.size) ∧ SDoneK κ a₀ st'))
    (Q := fun c st' => c = (none, a₀.size) ∧ SDoneK κ a₀ st') ?step ?fin (.inl ⟨rfl, rfl, rfl⟩)) ?post)
  case fin =>
    rintro c st' (⟨hx, _, _⟩ | ⟨_, hc, hD⟩)
    · omega
    · exact ⟨hc, hD⟩
  case step =>
    rintro x c st' _ hx (⟨rfl, rfl, rfl⟩ | ⟨hx1, rfl, hD⟩)
    · dsimp only
      rw [if_neg (by omega)]
      simp only [Nat.sub_zero, Nat.zero_add]
      refine wpS_bind (wpS_countRunF hO h0 (by omega) hB hf fun st2 hB2 hs2 => ?_)
      dsimp only
      rw [if_neg (by omega)]
      refine wpS_bind (wpS_get ?_)
      have hb : (pendingOf st2).back? = none := by rw [hB2.pend]; rfl
      rw [hb]
      dsimp only
      exact wpS_bind (wpS_modify (wpS_pure (.inr ⟨by omega, rfl, hB2.doneK hs2⟩)))
    · dsimp only
      rw [if_pos (Nat.le_refl _)]
      exact wpS_pure ⟨rfl, hD⟩
  case post =>
    rintro c st' ⟨rfl, hD⟩
    dsimp only
    refine wpS_bind (wpS_mono (wpS_forRange (I := fun _ c st'' => st'' = st' ∧ c = (none, ())) (Q := fun c st'' => st'' = st' ∧ c = (none, ())) ?_ (fun _ _ hh => hh) ⟨rfl, rfl⟩) ?_)
    · rintro x c st'' _ _ ⟨rfl, rfl⟩
      refine wpS_bind (wpS_get ?_)
      rw [if_pos (by rw [hD.2.2.1]; exact Nat.le_refl 1)]
      exact wpS_pure ⟨rfl, rfl⟩
    · rintro c st'' ⟨rfl, rfl⟩
      exact wpS_pure (h _ hD.1 hD.2.1 hD.2.2.2)
end
end Mine
end
section
open PySem PySem.W PyProof.Rows
set_option linter.unusedSimpArgs false
set_option linter.unusedVariables false
namespace Mine
noncomputable def txt : Value → List Nat
  | .str x _ => x.cps.toList
  | _ => []
noncomputable def isTxt : Value → Bool
  | .str _ _ => true
  | _ => false
theorem Nxt.upd {s0 s : Shared} (n : Nxt s0 s) {a : Addr} {f : Obj → Obj} (h : s0.heap.get? a = none) : Nxt s0 { s with heap := s.heap.update a f } :=
  ⟨fun b o e => by
    have hb : b ≠ a := fun q => by rw [q, h] at e; cases e
    exact (Heap.get?_update_ne _ _ _ _ hb).trans (n.heap b o e), n.os, n.gens⟩
theorem none_before {s0 s : Shared} (n : Nxt s0 s) {a : Addr} (h : s.heap.get? a = none) : s0.heap.get? a = none := by
  cases e : s0.heap.get? a with
  | none => rfl
  | some o => have := n.heap a o e; rw [h] at this; cases this
noncomputable def Prs (ps : List Keyed) (ss : List (List Nat)) : Prop := ps.map (fun p => txt p.1) = ss ∧ ∀ p ∈ ps, isTxt p.1 = true ∧ isTxt p.2 = true ∧ txt p.1 = txt p.2
theorem rep_txt {X : List Addr} {h : Heap} : ∀ (vs : List Value), (∀ v ∈ vs, isTxt v = true) → RepL X h vs ((vs.map txt).map .str)
  | [], _ => .nil
  | v :: vs, H => by
    refine .cons ?_ (rep_txt vs fun v hv => H v (List.mem_cons_of_mem _ hv))
    have := H v (List.mem_cons_self ..)
    cases v <;> first | cases this | skip
    rename_i x t
    have : x = ⟨x.cps.toList.toArray⟩ := by cases x; simp
    rw [this]; exact .str _ _
theorem keysOf_prs {ps : Array Keyed} {ss : List (List Nat)} (P : Prs ps.toList ss) : KeysOf strKind ps := fun p hp => by
  have h := (P.2 p hp).1
  cases e : p.1 <;> rw [e] at h <;> first | cases h | skip
  exact ⟨_, rfl⟩
theorem KK_txt {xs : Array Keyed} {i : Nat} (hi : i < xs.size) (h : isTxt xs[i].1 = true) : KK strKind xs i = txt xs[i].1 := by
  unfold KK
  simp only [Array.getElem?_eq_getElem hi]
  cases e : xs[i].1 with
  | str x t => rfl
  | _ => rw [e] at h; cases h
theorem sorted_prs {ps xs : Array Keyed} {ss : List (List Nat)} (P : Prs ps.toList ss) (hp : xs.Perm ps) (hs : SortedToK strKind xs ps.size) :
    (xs.map (·.2)).toList.map txt = sortS ss ∧ ∀ v ∈ (xs.map (·.2)).toList, isTxt v = true := by
  have hl := Array.perm_iff_toList_perm.mp hp
  have hm : ∀ p ∈ xs.toList, isTxt p.1 = true ∧ isTxt p.2 = true ∧ txt p.1 = txt p.2 := fun p h => P.2 p (hl.mem_iff.mp h)
  refine ⟨?_, fun v hv => ?_⟩
  · have e1 : (xs.map (·.2)).toList.map txt = xs.toList.map (fun p => txt p.1) := by
      rw [Array.toList_map, List.map_map]
      exact List.map_congr_left fun p h => (hm p h).2.2.symm
    rw [e1]
    refine sorted_unique ?_ ?_ (sortS_sorted _)
    · have := hl.map (fun p => txt p.1)
      rw [P.1] at this
      exact this.trans (sortS_perm _).symm
    · rw [List.pairwise_iff_getElem]
      intro i j hi hj hij
      have hi' : i < xs.size := by simpa using hi
      have hj' : j < xs.size := by simpa using hj
      have h1 := hs i j (Nat.le_of_lt hij) (by rw [← hp.size_eq]; exact hj')
      rw [KK_txt hi' (hm _ (by simp)).1, KK_txt hj' (hm _ (by simp)).1] at h1
      change decide (txt xs[j].1 < txt xs[i].1) = false at h1
      simpa [LeS] using h1
  · rw [Array.toList_map] at hv
    obtain ⟨p, hp', rfl⟩ := List.mem_map.mp hv
    exact (hm p hp').2.1
theorem strsAre_txt : ∀ (vs : List Value), (∀ v ∈ vs, isTxt v = true) → ∃ ss, StrsAre vs ss
  | [], _ => ⟨[], .nil⟩
  | v :: vs, H => by
    obtain ⟨ss, h⟩ := strsAre_txt vs fun v hv => H v (List.mem_cons_of_mem _ hv)
    have := H v (List.mem_cons_self ..)
    cases v <;> first | cases this | skip
    exact ⟨_, .cons _ _ h⟩
noncomputable def Fit (ss : List (List Nat)) : Prop := ss.length < 64 ∨ (ss.length < 128 ∧ ∀ i, 1 ≤ i → i < ss.length → ss.getD i [] < ss.getD (i - 1) [])
section
variable {c : Cx} {k : Nat}
theorem sort_end {prog : Program} {w : World} {A : Around} {E : Value → Shared → Prop} {s0 s : Shared} {a kS : Addr} {keys items : Array Value} {e e1 : Nat} {ss : List (List Nat)} {P : PySem.Fin → Shared → Prop} {X : List Addr}
    (n : Nxt s0 s) (ha0 : s0.heap.get? a = none) (hk0 : s0.heap.get? kS = none) (hak : kS ≠ a)
    (ha : s.heap.get? a = some (seqObj "list" #[] e1)) (hk : s.heap.get? kS = some (seqObj "list" keys e)) (hp : Prs (keys.zip items).toList ss) (hsz : keys.size = items.size) (hfit : Fit ss)
    (h : ∀ s' out cc, Nxt s0 s' → s'.heap.get? a = some (seqObj "list" out cc) → RepL X s'.heap out.toList ((sortS ss).map .str) → P (.done (.ret .none)) s') :
    wpAny (model prog w) A (ksk_end a false items e1 (.ref kS) keys) P E s := by
  have hlen : ss.length = items.size := by
    rw [← hp.1]; simp [hsz]
  have hitems : items.size < 128 := by rcases hfit with h | h <;> omega
  have tail : ∀ st : SortSt, (arrOf st).Perm (keys.zip items) → SortedToK strKind (arrOf st) (keys.zip items).size → failedOf st = none → wpAny (model prog w) A (ksk_tail a false e1 (.ref kS) st) P E s := by
    intro st h1 h2 h3
    obtain ⟨o1, o2⟩ := sorted_prs hp h1 h2
    have hsz2 : (arrOf st).size = items.size := by rw [h1.size_eq, Array.size_zip, hsz, Nat.min_self]
    unfold ksk_tail
    try dsimp only
    refine wpAny_bind (listUpdate_at hk rfl ?_ (by rw [hsz, sizeLine_eq]; omega) (Nat.zero_le _))
    refine wpAny_bind (wpAny_letGo ?_)
    have na1 : (s.heap.update kS (Obj.mapSeq fun _ => (#[] : Array Value))).get? a = some (seqObj "list" #[] e1) := (Heap.get?_update_ne _ _ _ _ hak.symm).trans ha
    refine wpAny_bind (seqEpoch_at na1 rfl ?_)
    refine wpAny_bind (listUpdate_at na1 rfl ?_ (Nat.zero_le _) (by simp only [Bool.false_eq_true, if_false, Array.size_map]; rw [hsz2, sizeLine_eq]; omega))
    rw [h3]
    simp only [bne_self_eq_false, Bool.false_eq_true, if_false]
    refine wpAny_pure (h _ ((arrOf st).map (·.2)) _ ((n.upd hk0).upd ha0) (get?_update_seq na1 _) ?_)
    rw [← o1]
    exact rep_txt _ o2
  unfold ksk_end
  try dsimp only
  simp only [Bool.false_eq_true, if_false]
  by_cases h2 : items.size < 2
  · rw [if_pos h2, if_pos h2]
    refine wpAny_bind (wpAny_pure ?_)
    rw [StateT.run_pure]
    refine wpAny_bind (wpAny_pure ?_)
    try dsimp only
    refine tail (SortSt.mk' general' (keys.zip items) #[] 7 none) (Array.Perm.refl _) ?_ rfl
    intro i j hij hj
    have hj2 : j < (keys.zip items).size := hj
    rw [Array.size_zip, hsz, Nat.min_self] at hj2
    have : i = j := by omega
    subst this
    exact KeyOrd.kle_refl _
  · rw [if_neg h2, if_neg h2]
    have hkk : keyKind' keys = pure oneType' := by
      obtain ⟨v₁, v₂, rest, e⟩ : ∃ v₁ v₂ rest, keys.toList = v₁ :: v₂ :: rest := by
        have hl : 2 ≤ keys.toList.length := by rw [Array.length_toList]; omega
        cases q : keys.toList with
        | nil => rw [q] at hl; simp at hl
        | cons v₁ r =>
          cases r with
          | nil => rw [q] at hl; simp at hl
          | cons v₂ rest => exact ⟨v₁, v₂, rest, rfl⟩
      have ek : keys = (v₁ :: v₂ :: rest).toArray := by rw [← e, Array.toArray_toList]
      obtain ⟨ts, hS⟩ := strsAre_txt keys.toList fun v hv => by
        obtain ⟨i, hi⟩ := List.mem_iff_getElem?.mp hv
        have hi' : i < keys.size := by have := (List.getElem?_eq_some_iff.mp hi).1; simpa using this
        have hv' : keys[i] = v := by simpa [hi'] using hi
        have := (hp.2 (keys[i], items[i]'(by omega)) (by
          rw [Array.toList_zip]
          refine List.mem_iff_getElem?.mpr ⟨i, ?_⟩
          rw [List.getElem?_zip_eq_some]
          simp [hi', show i < items.size by omega])).1
        rw [← hv']; exact this
      rw [e] at hS
      rw [ek]
      exact keyKind_strs hS
    rw [hkk]
    refine wpAny_bind (wpAny_pure ?_)
    have key : wpS (model prog w) A E s sortRuns' (fun _ st' => (arrOf st').Perm (keys.zip items) ∧ failedOf st' = none ∧ SortedToK strKind (arrOf st') (keys.zip items).size) (SortSt.mk' oneType' (keys.zip items) #[] 7 none) := by
      have hzs : (keys.zip items).size = items.size := by rw [Array.size_zip, hsz, Nat.min_self]
      by_cases h64 : items.size < 64
      · exact wpS_sortRunsK (κ := strKind) strKind_oneLt (a₀ := keys.zip items) (keysOf_prs hp) ⟨Array.Perm.refl _, rfl, rfl, rfl⟩ (by rw [hzs]; omega) (by rw [hzs]; exact h64) fun st' a1 a2 a3 => ⟨a1, a2, a3⟩
      · refine wpS_sortRunsF (κ := strKind) strKind_oneLt (a₀ := keys.zip items) (keysOf_prs hp) ⟨Array.Perm.refl _, rfl, rfl, rfl⟩ (by rw [hzs]; omega) (by rw [hzs]; omega) ?_ fun st' a1 a2 a3 => ⟨a1, a2, a3⟩
        rcases hfit with hf | ⟨_, hf⟩
        · omega
        · intro i h1 h3
          have h3' : i < items.size := by rw [← hzs]; exact h3
          have g : ∀ j, j < items.size → KK strKind (keys.zip items) j = ss.getD j [] := by
            intro j hj
            have hj' : j < (keys.zip items).size := by rw [hzs]; exact hj
            rw [KK_txt hj' (hp.2 _ (Array.getElem_mem_toList hj')).1, ← hp.1]
            rw [List.getD_eq_getElem?_getD, List.getElem?_map, Array.getElem?_toList, Array.getElem?_eq_getElem hj']
            rfl
          show decide (KK strKind (keys.zip items) i < KK strKind (keys.zip items) (i - 1)) = true
          rw [g i h3', g (i - 1) (by omega), decide_eq_true_eq]
          exact hf i h1 (by omega)
    refine wpAny_bind (wpAny_mono key ?_ fun _ _ e => e)
    rintro ⟨⟨⟩, st'⟩ s' ⟨rfl, q1, q2, q3⟩
    exact tail st' q1 q3 q2
theorem Prs.snoc {ks vs : List Value} {ss : List (List Nat)} {x : List Nat} {t u : Tok} : Prs (ks.zip vs) ss → ks.length = vs.length → Prs ((ks ++ [Value.str ⟨x.toArray⟩ t]).zip (vs ++ [Value.str ⟨x.toArray⟩ u])) (ss ++ [x]) := by
  rintro ⟨h1, h2⟩ hl
  rw [List.zip_append hl]
  refine ⟨by rw [List.map_append, h1]; simp [txt], fun p hp => ?_⟩
  rcases List.mem_append.mp hp with hp | hp
  · exact h2 p hp
  · simp at hp; subst hp; exact ⟨rfl, rfl, rfl⟩
theorem sort_rest {he : Heap} {X0 X : List Addr} {A : Around} {E : Value → Shared → Prop} {s0 s : Shared} {f : Value} {a kS : Addr} {vs : List Value} {e1 : Nat} {ss : List (List Nat)} {P : PySem.Fin → Shared → Prop} (hA : AOk k A)
    (b : Base c he X0 X s0) (n : Nxt s0 s) (ha0 : s0.heap.get? a = none) (hk0 : s0.heap.get? kS = none) (hak : kS ≠ a)
    (ha : s.heap.get? a = some (seqObj "list" #[] e1)) (hk : s.heap.get? kS = some (seqObj "list" #[] 0)) (r : RepL X s0.heap vs (ss.map .str)) (hfit : Fit ss) (turn : ∀ x ∈ ss, FN c k f [.str x] (.str x))
    (h : ∀ s' out cc, Nxt s0 s' → s'.heap.get? a = some (seqObj "list" out cc) → RepL X s'.heap out.toList ((sortS ss).map .str) → P (.done (.ret .none)) s') :
    wpAny (model c.prog c.w) A (ksk_rest a f false vs.toArray e1 (.ref kS)) P E s := by
  have hlen : vs.length = ss.length := by have := r.length; simpa using this
  have hss : ss.length < 128 := by rcases hfit with h | h <;> omega
  unfold ksk_rest
  refine wpAny_bind (wpAny_rule ?_)
  first
    | rw [List.forIn_toArray]
    | (rw [← Array.forIn_toList]; simp only [List.toList_toArray])
    | rw [← Array.forIn_toList]
  refine wpAny_bind (ksk_fold (fun i s' => Nxt s0 s' ∧ ∃ kA e, s'.heap.get? kS = some (seqObj "list" kA e) ∧ s'.heap.get? a = some (seqObj "list" #[] e1) ∧ kA.size = i ∧ Prs (kA.toList.zip (vs.take i)) (ss.take i)) vs 0 s
    ⟨n, #[], 0, hk, ha, rfl, by simp [Prs]⟩ ?step ?done)
  case step =>
    rintro j x s' hx ⟨n', kA, e, hk', ha', hsz, hp⟩
    simp only [Nat.zero_add] at hsz hp ⊢
    have hj : j < vs.length := (List.getElem?_eq_some_iff.mp hx).1
    obtain ⟨d, hd, rd⟩ := r.at' hx
    obtain ⟨y, hy, rfl⟩ : ∃ y, ss[j]? = some y ∧ d = .str y := by
      rw [List.getElem?_map] at hd
      cases q : ss[j]? with
      | none => rw [q] at hd; cases hd
      | some y => rw [q] at hd; exact ⟨y, rfl, by simpa using hd.symm⟩
    refine wpAny_bind (wpAny_attempt (turn y (List.mem_of_getElem? hy) A hA he X0 X s' _ _ [x] (b.nxt n') (.cons (rd.ext n'.heap).w .nil) fun v s'' n'' rv => ?_))
    try dsimp only
    have hk'' := n''.heap _ _ hk'
    have ha'' := n''.heap _ _ ha'
    refine wpAny_bind (listUpdate_at hk'' rfl ?_ (by rw [sizeLine_eq]; omega) (Nat.le_trans (Nat.le_of_eq (Array.size_push ..)) (by rw [sizeLine_eq]; omega)))
    refine wpAny_pure ⟨rfl, (n'.trans n'').upd hk0, kA.push v, _, get?_update_seq hk'' _, (Heap.get?_update_ne _ _ _ _ hak.symm).trans ha'', by rw [Array.size_push, hsz], ?_⟩
    cases rv
    cases rd
    rw [List.take_add_one, hx, List.take_add_one, hy, Array.toList_push]
    exact hp.snoc (by simp [hsz]; omega)
  case done =>
    rintro s' ⟨n', kA, e, hk', ha', hsz, hp⟩
    simp only [Nat.zero_add] at hsz hp
    rw [List.take_of_length_le (Nat.le_refl _), List.take_of_length_le (by omega)] at hp
    try dsimp only
    refine wpAny_bind (listItems_at hk' rfl ?_)
    exact sort_end (X := X) n' ha0 hk0 hak ha' hk' (by rw [Array.toList_zip]; exact hp) (by rw [hsz]; simp) hfit h
theorem sort_tree {he : Heap} {X0 X : List Addr} {A : Around} {E : Value → Shared → Prop} {s0 s : Shared} {f : Value} {a : Addr} {vs : List Value} {e0 : Nat} {ss : List (List Nat)} {P : PySem.Fin → Shared → Prop} (hA : AOk k A)
    (b : Base c he X0 X s0) (n : Nxt s0 s) (ha0 : s0.heap.get? a = none) (ho : s.heap.get? a = some (seqObj "list" vs.toArray e0))
    (r : RepL X s0.heap vs (ss.map .str)) (hfit : Fit ss) (turn : ∀ x ∈ ss, FN c k f [.str x] (.str x))
    (h : ∀ s' out cc, Nxt s0 s' → s'.heap.get? a = some (seqObj "list" out cc) → RepL X s'.heap out.toList ((sortS ss).map .str) → P (.done (.ret .none)) s') :
    wpAny (model c.prog c.w) A (ksk_tree a f false) P E s := by
  have hlen : vs.length = ss.length := by have := r.length; simpa using this
  have hss : ss.length < 128 := by rcases hfit with h | h <;> omega
  have hlt : a < s.heap.objs.size := Heap.lt_size ho
  obtain ⟨e1, ho1⟩ : ∃ e1, (s.heap.update a (Obj.mapSeq fun _ => (#[] : Array Value))).get? a = some (seqObj "list" #[] e1) := ⟨_, get?_update_seq ho fun _ => #[]⟩
  unfold ksk_tree
  refine wpAny_bind (listItems_at ho rfl ?_)
  refine wpAny_bind (listUpdate_at ho rfl ?_ (by rw [List.size_toArray, sizeLine_eq]; omega) (Nat.zero_le _))
  refine wpAny_bind (seqEpoch_at ho1 rfl ?_)
  refine wpAny_bind (wpAny_newTuple ?_ (by show vs.length ≤ _; rw [sizeLine_eq]; omega))
  refine wpAny_bind (wpAny_newList ?_ (Nat.zero_le _))
  refine wpAny_holding ?_
  have n1 : Nxt s0 { s with heap := s.heap.update a (Obj.mapSeq fun _ => (#[] : Array Value)) } := n.upd ha0
  have n2 := n1.trans (Nxt.push (o := seqObj "tuple" vs.toArray 0))
  have n3 := n2.trans (Nxt.push (o := seqObj "list" #[] 0))
  have hk0 : s0.heap.get? ((s.heap.update a (Obj.mapSeq fun _ => (#[] : Array Value))).push (seqObj "tuple" vs.toArray 0)).objs.size = none := none_before n2 (get_size _)
  refine sort_rest (s := { s with heap := ((s.heap.update a (Obj.mapSeq fun _ => (#[] : Array Value))).push (seqObj "tuple" vs.toArray 0)).push (seqObj "list" #[] 0) }) hA b n3 ha0 hk0 ?_
    (Heap.get?_push_of_some _ (Heap.get?_push_of_some _ ho1)) (Heap.get?_push_size _ rfl) r hfit turn h
  rw [size_push', Heap.size_update]; exact Nat.ne_of_gt (Nat.lt_succ_of_lt hlt)
theorem fn_sorted_key {he : Heap} {X0 X : List Addr} {A : Around} {E : Value → Shared → Prop} {s : Shared} {l q : Addr} {vs : List Value} {ss : List (List Nat)} {Q : Value → Shared → Prop} (hA : AOk (k + 2) A)
    (b : Base c he X0 X s) (hl : s.heap.PlainList l vs.toArray) (r : RepL X s.heap vs (ss.map .str)) (hfit : Fit ss) (turn : ∀ x ∈ ss, FN c k (.ref q) [.str x] (.str x))
    (h : ∀ v s', Nxt s s' → Rep X s'.heap v (.list ((sortS ss).map .str)) → Q v s') :
    wpAny (model c.prog c.w) A (call (.builtin "sorted") [.ref l] [(Str.ofString "key", .ref q)]) Q E s := by
  have hlen : vs.length = ss.length := by have := r.length; simpa using this
  have hss : ss.length < 128 := by rcases hfit with h | h <;> omega
  refine call_function_entry_kw kind_sorted plain_sorted entry_sorted (ksk_s1 _ _) ?_
  unfold Builtin.«sorted»
  refine wpAny_bind (m := checkCount "sorted" 1 1 _) (wpAny_pure ?_)
  refine wpAny_bind (collect_list hl.isList ?_ (by rw [sizeLine_eq]; omega))
  refine wpAny_bind (wpAny_newList ?_ (by rw [sizeLine_eq]; omega))
  have hsz : ((s.heap.push (seqObj "list" #[] 0)).update s.heap.objs.size (Obj.mapSeq (· ++ vs.toArray))).objs.size = s.heap.objs.size + 1 := by
    rw [Heap.size_update, size_push']
  have hoL : (((s.heap.push (seqObj "list" #[] 0)).update s.heap.objs.size (Obj.mapSeq (· ++ vs.toArray))).push (seqObj "list" vs.toArray 0)).get? (s.heap.objs.size + 1) = some (seqObj "list" vs.toArray 0) := by
    rw [← hsz]; exact Heap.get?_push_size _ rfl
  have n1 : Nxt s { s with heap := ((s.heap.push (seqObj "list" #[] 0)).update s.heap.objs.size (Obj.mapSeq (· ++ vs.toArray))).push (seqObj "list" vs.toArray 0) } :=
    ((Nxt.push (s := s) (o := seqObj "list" #[] 0)).upd (get_size _)).trans .push
  show wpAny _ _ _ _ _ { s with heap := ((s.heap.push (seqObj "list" #[] 0)).update s.heap.objs.size (Obj.mapSeq (· ++ vs.toArray))).push (seqObj "list" vs.toArray 0) }
  rw [hsz]
  refine wpAny_bind (wpAny_holding (wpAny_call_entry_kw slot_list_sort ⟨_, hoL, rfl⟩ entry_list_sort ?body (ksk_l1 _ _)))
  have hS0 : s.heap.get? (s.heap.objs.size + 1) = none := get_ge (Nat.le_succ _)
  rw [ksk_t1]
  refine sort_tree (s0 := s) (s := { s with heap := ((s.heap.push (seqObj "list" #[] 0)).update s.heap.objs.size (Obj.mapSeq (· ++ vs.toArray))).push (seqObj "list" vs.toArray 0) }) hA.in1.in1 b n1 hS0 hoL r hfit turn
    fun s' out cc n' ho' ro => ⟨_, rfl, ?_⟩
  refine wpAny_pure ⟨_, rfl, h _ s' n' ?_⟩
  have ho2 : s'.heap.PlainList (s.heap.objs.size + 1) out.toList.toArray := ⟨cc, by simpa using ho'⟩
  exact .list (fun m => by obtain ⟨o, e⟩ := b.live _ m; rw [hS0] at e; cases e) ho2 ro
end
end Mine
end
section
open PySem PySem.W PyProof.Rows
set_option linter.unusedSimpArgs false
set_option linter.unusedVariables false
namespace Mine
/-! lists of ints by order -/
noncomputable def ltI : List Int → List Int → Bool
  | [], [] => false
  | [], _ :: _ => true
  | _ :: _, [] => false
  | a :: l, b :: m => if a = b then ltI l m else decide (a < b)
open PySem.SeqAt MeetsSeq MeetsSeq2 MeetsSeq3 SeqRoads2
open AutoSeq1 (wpAny_loadPart')
theorem ints_at {X : List Addr} {h : Heap} {vs : List Value} {xs : List Int} (r : RepL X h vs (xs.map .int)) (i : Nat) : (∀ x, xs[i]? = some x → ∃ t, vs[i]? = some (.int x t)) ∧ (xs[i]? = none → vs[i]? = none) := by
  refine ⟨fun x hx => ?_, fun hn => ?_⟩
  · obtain ⟨v, hv, rv⟩ := r.at (i := i) (d := .int x) (by simp [hx])
    cases rv; exact ⟨_, hv⟩
  · have := r.length
    rw [List.getElem?_eq_none_iff] at hn ⊢
    simp at this; omega
theorem lt_loop (l b : Addr) (vs ws : List Value) (xs ys : List Int) (n n2 : Nat) (X : List Addr) (h0 : Heap) (r1 : RepL X h0 vs (xs.map .int)) (r2 : RepL X h0 ws (ys.map .int)) (k : Nat) :
    ∀ i : Nat, xs.length - i = k → Meets (Builtin.«list.__eq__.loop» ⟨[.ref l, .ref b, rawInt i, rawInt 0], []⟩)
      (fun A R s => s.heap.get? l = some { cls := .type "list", dict := none, data := .seq vs.toArray n, slots := #[] } ∧ s.heap.get? b = some { cls := .type "list", dict := none, data := .seq ws.toArray n2, slots := #[] } ∧
        (xs.take i = ys.take i → i ≤ xs.length → i ≤ ys.length → R (.ok (.ret (.bool (ltI (xs.drop i) (ys.drop i))))) s) ∧ xs.take i = ys.take i ∧ i ≤ xs.length ∧ i ≤ ys.length) := by
  induction k with
  | zero =>
    intro i hk prog w A R s h
    obtain ⟨hp, g, d, tk, os⟩ := s; obtain ⟨hl, hb, hR, h1, h2, h3⟩ := h
    have hR := hR h1 h2 h3
    wp_walk using wpAny_loadPart' hl, wpAny_loadPart' hb
    have e1 : xs[i]? = none := by rw [List.getElem?_eq_none_iff]; omega
    have hi1 : vs.toArray[((i : Nat) : Int).toNat]? = none := by simpa using (ints_at r1 i).2 e1
    rw [hi1]
    wp_walk using wpAny_loadPart' hl, wpAny_loadPart' hb
    have l1 := r1.length
    have l2 := r2.length
    simp only [List.length_map] at l1 l2
    have : ltI (xs.drop i) (ys.drop i) = decide (vs.toArray.size < ws.toArray.size) := by
      rw [List.drop_of_length_le (by omega)]
      simp only [List.size_toArray, l1, l2]
      cases hy : ys.drop i with
      | nil =>
        have := congrArg List.length hy
        simp at this
        simp [ltI]; omega
      | cons a r =>
        have := congrArg List.length hy
        simp at this
        simp [ltI]; omega
    rw [this] at hR
    exact hR
  | succ k ih =>
    intro i hk prog w A R s h
    obtain ⟨hp, g, d, tk, os⟩ := s; obtain ⟨hl, hb, hR, h1, h2, h3⟩ := h
    wp_walk using wpAny_loadPart' hl, wpAny_loadPart' hb
    have hlt : i < xs.length := by omega
    obtain ⟨t, ht⟩ := (ints_at r1 i).1 xs[i] (by simp [hlt])
    have hi1 : vs.toArray[((i : Nat) : Int).toNat]? = some (.int xs[i] t) := by simpa using ht
    rw [hi1]
    have hdx : xs.drop i = xs[i] :: xs.drop (i + 1) := List.drop_eq_getElem_cons hlt
    by_cases hlt2 : i < ys.length
    · obtain ⟨u, hu⟩ := (ints_at r2 i).1 ys[i] (by simp [hlt2])
      have hi2 : ws.toArray[((i : Nat) : Int).toNat]? = some (.int ys[i] u) := by simpa using hu
      have hdy : ys.drop i = ys[i] :: ys.drop (i + 1) := List.drop_eq_getElem_cons hlt2
      rw [hi2]
      have hc : ((i : Int) + 1) = ((i + 1 : Nat) : Int) := by push_cast; rfl
      refine wpAny_bind (EqAt.int_int _ _ _ _ prog w _ _ ?_)
      cases hb' : xs[i] == ys[i] with
      | true =>
        have he : xs[i] = ys[i] := eq_of_beq hb'
        wp_walk
        rw [hc]
        refine ⟨plainId_quiet plain_eq_loop _, codeAny_builtin entry_eq_loop (by
          rw [Around.under_plainId plain_eq_loop _]
          refine ih (i + 1) (by omega) prog w A R _ ⟨hl, hb, fun _ _ _ => ?_, ?_, by omega, by omega⟩
          · have := hR h1 h2 h3
            rw [hdx, hdy] at this
            simpa [ltI, he] using this
          · rw [List.take_add_one, List.take_add_one, h1]; simp [hlt, hlt2, he])⟩
      | false =>
        have he : xs[i] ≠ ys[i] := fun q => by rw [q] at hb'; simp at hb'
        wp_walk using wpAny_loadPart' hl, wpAny_loadPart' hb
        rw [hi1, hi2]
        refine wpAny_bind (PyProof.Rows.lt_int ?_)
        wp_walk
        have := hR h1 h2 h3
        rw [hdx, hdy] at this
        simpa [ltI, he] using this
    · have hi2 : ws.toArray[((i : Nat) : Int).toNat]? = none := by
        have := (ints_at r2 i).2 (by rw [List.getElem?_eq_none_iff]; omega)
        simpa using this
      rw [hi2]
      wp_walk using wpAny_loadPart' hl, wpAny_loadPart' hb
      have l1 := r1.length
      have l2 := r2.length
      simp only [List.length_map] at l1 l2
      have := hR h1 h2 h3
      rw [hdx, List.drop_of_length_le (l := ys) (by omega)] at this
      have e : decide (vs.toArray.size < ws.toArray.size) = false := by simp [l1, l2]; omega
      show R (.ok (.ret (.bool (decide (vs.toArray.size < ws.toArray.size))))) _
      rw [e]
      simpa [ltI] using this
theorem gt_loop (l b : Addr) (vs ws : List Value) (xs ys : List Int) (n n2 : Nat) (X : List Addr) (h0 : Heap) (r1 : RepL X h0 vs (xs.map .int)) (r2 : RepL X h0 ws (ys.map .int)) (k : Nat) :
    ∀ i : Nat, xs.length - i = k → Meets (Builtin.«list.__eq__.loop» ⟨[.ref l, .ref b, rawInt i, rawInt 4], []⟩)
      (fun A R s => s.heap.get? l = some { cls := .type "list", dict := none, data := .seq vs.toArray n, slots := #[] } ∧ s.heap.get? b = some { cls := .type "list", dict := none, data := .seq ws.toArray n2, slots := #[] } ∧
        (xs.take i = ys.take i → i ≤ xs.length → i ≤ ys.length → R (.ok (.ret (.bool (ltI (ys.drop i) (xs.drop i))))) s) ∧ xs.take i = ys.take i ∧ i ≤ xs.length ∧ i ≤ ys.length) := by
  induction k with
  | zero =>
    intro i hk prog w A R s h
    obtain ⟨hp, g, d, tk, os⟩ := s; obtain ⟨hl, hb, hR, h1, h2, h3⟩ := h
    have hR := hR h1 h2 h3
    wp_walk using wpAny_loadPart' hl, wpAny_loadPart' hb
    have e1 : xs[i]? = none := by rw [List.getElem?_eq_none_iff]; omega
    have hi1 : vs.toArray[((i : Nat) : Int).toNat]? = none := by simpa using (ints_at r1 i).2 e1
    rw [hi1]
    wp_walk using wpAny_loadPart' hl, wpAny_loadPart' hb
    have l1 := r1.length
    have l2 := r2.length
    simp only [List.length_map] at l1 l2
    have : ltI (ys.drop i) (xs.drop i) = decide (vs.toArray.size > ws.toArray.size) := by
      rw [List.drop_of_length_le (l := xs) (by omega)]
      simp only [List.size_toArray, l1, l2]
      cases hy : ys.drop i with
      | nil =>
        have := congrArg List.length hy
        simp at this
        simp [ltI]; omega
      | cons a r =>
        have := congrArg List.length hy
        simp at this
        simp [ltI]; omega
    rw [this] at hR
    exact hR
  | succ k ih =>
    intro i hk prog w A R s h
    obtain ⟨hp, g, d, tk, os⟩ := s; obtain ⟨hl, hb, hR, h1, h2, h3⟩ := h
    wp_walk using wpAny_loadPart' hl, wpAny_loadPart' hb
    have hlt : i < xs.length := by omega
    obtain ⟨t, ht⟩ := (ints_at r1 i).1 xs[i] (by simp [hlt])
    have hi1 : vs.toArray[((i : Nat) : Int).toNat]? = some (.int xs[i] t) := by simpa using ht
    rw [hi1]
    have hdx : xs.drop i = xs[i] :: xs.drop (i + 1) := List.drop_eq_getElem_cons hlt
    by_cases hlt2 : i < ys.length
    · obtain ⟨u, hu⟩ := (ints_at r2 i).1 ys[i] (by simp [hlt2])
      have hi2 : ws.toArray[((i : Nat) : Int).toNat]? = some (.int ys[i] u) := by simpa using hu
      have hdy : ys.drop i = ys[i] :: ys.drop (i + 1) := List.drop_eq_getElem_cons hlt2
      rw [hi2]
      have hc : ((i : Int) + 1) = ((i + 1 : Nat) : Int) := by push_cast; rfl
      refine wpAny_bind (EqAt.int_int _ _ _ _ prog w _ _ ?_)
      cases hb' : xs[i] == ys[i] with
      | true =>
        have he : xs[i] = ys[i] := eq_of_beq hb'
        wp_walk
        rw [hc]
        refine ⟨plainId_quiet plain_eq_loop _, codeAny_builtin entry_eq_loop (by
          rw [Around.under_plainId plain_eq_loop _]
          refine ih (i + 1) (by omega) prog w A R _ ⟨hl, hb, fun _ _ _ => ?_, ?_, by omega, by omega⟩
          · have := hR h1 h2 h3
            rw [hdx, hdy] at this
            simpa [ltI, he] using this
          · rw [List.take_add_one, List.take_add_one, h1]; simp [hlt, hlt2, he])⟩
      | false =>
        have he : xs[i] ≠ ys[i] := fun q => by rw [q] at hb'; simp at hb'
        wp_walk using wpAny_loadPart' hl, wpAny_loadPart' hb
        rw [hi1, hi2]
        refine wpAny_bind (PyProof.Rows.gt_int ?_)
        wp_walk
        have := hR h1 h2 h3
        rw [hdx, hdy] at this
        simpa [ltI, Ne.symm he] using this
    · have hi2 : ws.toArray[((i : Nat) : Int).toNat]? = none := by
        have := (ints_at r2 i).2 (by rw [List.getElem?_eq_none_iff]; omega)
        simpa using this
      rw [hi2]
      wp_walk using wpAny_loadPart' hl, wpAny_loadPart' hb
      have l1 := r1.length
      have l2 := r2.length
      simp only [List.length_map] at l1 l2
      have := hR h1 h2 h3
      rw [hdx, List.drop_of_length_le (l := ys) (by omega)] at this
      have e : decide (vs.toArray.size > ws.toArray.size) = true := by simp [l1, l2]; omega
      show R (.ok (.ret (.bool (decide (vs.toArray.size > ws.toArray.size))))) _
      rw [e]
      simpa [ltI] using this
theorem list_lt_meets (l b : Addr) (vs ws : List Value) (xs ys : List Int) (n n2 : Nat) (X : List Addr) (h0 : Heap) (r1 : RepL X h0 vs (xs.map .int)) (r2 : RepL X h0 ws (ys.map .int)) :
    Meets (Builtin.«list.__lt__» ⟨[.ref l, .ref b], []⟩)
      (fun A R s => s.heap.get? l = some { cls := .type "list", dict := none, data := .seq vs.toArray n, slots := #[] } ∧ s.heap.get? b = some { cls := .type "list", dict := none, data := .seq ws.toArray n2, slots := #[] } ∧
        R (.ok (.ret (.bool (ltI xs ys)))) s) := by
  intro prog w A R s h
  obtain ⟨hp, g, d, tk, os⟩ := s; obtain ⟨hl, hb, h⟩ := h
  have f3 := AutoSeq1.sub_list_list
  wp_walk using wpAny_loadPart' hl, wpAny_loadPart' hb
  exact ⟨plainId_quiet plain_eq_loop _, codeAny_builtin entry_eq_loop (by
    rw [Around.under_plainId plain_eq_loop _]
    exact lt_loop l b vs ws xs ys n n2 X h0 r1 r2 _ 0 rfl prog w A R _ ⟨hl, hb, fun _ _ _ => by simpa using h, by simp, Nat.zero_le _, Nat.zero_le _⟩)⟩
theorem list_gt_meets (l b : Addr) (vs ws : List Value) (xs ys : List Int) (n n2 : Nat) (X : List Addr) (h0 : Heap) (r1 : RepL X h0 vs (xs.map .int)) (r2 : RepL X h0 ws (ys.map .int)) :
    Meets (Builtin.«list.__gt__» ⟨[.ref l, .ref b], []⟩)
      (fun A R s => s.heap.get? l = some { cls := .type "list", dict := none, data := .seq vs.toArray n, slots := #[] } ∧ s.heap.get? b = some { cls := .type "list", dict := none, data := .seq ws.toArray n2, slots := #[] } ∧
        R (.ok (.ret (.bool (ltI ys xs)))) s) := by
  intro prog w A R s h
  obtain ⟨hp, g, d, tk, os⟩ := s; obtain ⟨hl, hb, h⟩ := h
  have f3 := AutoSeq1.sub_list_list
  wp_walk using wpAny_loadPart' hl, wpAny_loadPart' hb
  exact ⟨plainId_quiet plain_eq_loop _, codeAny_builtin entry_eq_loop (by
    rw [Around.under_plainId plain_eq_loop _]
    exact gt_loop l b vs ws xs ys n n2 X h0 r1 r2 _ 0 rfl prog w A R _ ⟨hl, hb, fun _ _ _ => by simpa using h, by simp, Nat.zero_le _, Nat.zero_le _⟩)⟩
theorem args_list_lt (a b : Value) : argsOk "list.__lt__" ⟨[a, b], []⟩ := F.args_list_lt_2 a b
section
variable {c : Cx} {k : Nat}
theorem rc_lt_ints {X : List Addr} {A : Around} (hu : A.units < cLine) {s : Shared} {Q : Value → Shared → Prop} {E : Value → Shared → Prop} {v1 v2 : Value} {xs ys : List Int} (r1 : ListAt X s.heap v1 (xs.map .int)) (r2 : ListAt X s.heap v2 (ys.map .int)) (q : Q (.bool (ltI xs ys)) s) :
    wpAny (model c.prog c.w) A (richCompare .Lt v1 v2) Q E s := by
  obtain ⟨a, vs, rfl, p, r1⟩ := r1
  obtain ⟨b, ws, rfl, p2, r2⟩ := r2
  obtain ⟨n, e⟩ := p
  obtain ⟨n2, e2⟩ := p2
  exact richCompare_meets_room (op := .Lt) ⟨_, e, rfl⟩ ⟨_, e2, rfl⟩ F.slot_list_lt F.entry_list_lt (F.args_list_lt_2 _ _) (list_lt_meets a b vs ws xs ys n n2 X s.heap r1 r2)
    ⟨e, e2, show Value.bool (ltI xs ys) ≠ Value.notImplemented ∧ Q (.bool (ltI xs ys)) s from ⟨(fun x => nomatch x), q⟩⟩ hu
theorem op_lt_ints {xs ys : List Int} : Op2 c k (compareOp .Lt) (.list (xs.map .int)) (.list (ys.map .int)) (.bool (ltI xs ys)) := by
  intro A ha he X0 X s Q E v1 v2 st r1 r2 q
  exact rc_lt_ints (c := c) ha.line r1 r2 (q _ _ (.refl s) (.bool _))
theorem op_gt_ints {xs ys : List Int} : Op2 c k (compareOp .Gt) (.list (xs.map .int)) (.list (ys.map .int)) (.bool (ltI ys xs)) := by
  rintro A ha he X0 X s Q E v1 v2 st ⟨a, vs, rfl, p, r1⟩ ⟨b, ws, rfl, p2, r2⟩ q
  obtain ⟨n, e⟩ := p
  obtain ⟨n2, e2⟩ := p2
  exact richCompare_meets_room (op := .Gt) ⟨_, e, rfl⟩ ⟨_, e2, rfl⟩ F.slot_list_gt F.entry_list_gt (F.args_list_gt_2 _ _) (list_gt_meets a b vs ws xs ys n n2 X s.heap r1 r2)
    ⟨e, e2, show Value.bool (ltI ys xs) ≠ Value.notImplemented ∧ Q (.bool (ltI ys xs)) s from ⟨(fun x => nomatch x), q _ _ (.refl s) (.bool _)⟩⟩ ha.line
theorem fn_min2 {a b : Int} : FN c k (.builtin "min") [.int a, .int b] (.int (if b < a then b else a)) := by
  intro A ha he X0 X s Q E vs bs r q
  cases r with | cons r1 r2 => cases r2 with | cons r2 r3 => cases r3; obtain ⟨t, rfl⟩ := W_int r1; obtain ⟨u, rfl⟩ := W_int r2
                                                             refine PySem.Flt.min_two_num ha.h (.int _ _) (.int _ _) fun h' tk kp => ?_
                                                             have n : Nxt s { s with heap := h', toks := tk } := ⟨fun c o e => kp c o e, rfl, .refl _⟩
                                                             by_cases hb : b < a
                                                             · simp only [PySem.Flt.ltV, hb, decide_true, if_true] at q ⊢; exact q _ _ n (.int _ _)
                                                             · simp only [PySem.Flt.ltV, hb, decide_false, if_false, Bool.false_eq_true] at q ⊢; exact q _ _ n (.int _ _)
end
end Mine
end
section
open PySem PySem.W PyProof.Rows
set_option linter.unusedSimpArgs false
set_option linter.unusedVariables false
namespace Mine
section
variable {c : Cx} {k : Nat}
theorem preSum_eq (xs : List Int) : ∀ n, n ≤ xs.length → preSum (fun i => xs.getD i 0) n = (xs.take n).sum := by
  intro n
  induction n with
  | zero => intro _; simp [preSum]
  | succ n ih =>
    intro h
    have e : xs.take (n + 1) = xs.take n ++ [xs[n]] := by rw [List.take_add_one]; simp [show n < xs.length by omega]
    rw [preSum, ih (by omega), e, List.sum_append]
    simp [List.getD_eq_getElem?_getD, show n < xs.length by omega]
theorem fn_sum {xs : List Int} : FN c (k + 1) (.builtin "sum") [.list (xs.map .int)] (.int xs.sum) := by
  intro A ha he X0 X s Q E vs b r q
  cases r with | cons r1 r2 => ?_
  cases r2
  obtain ⟨a, ws, rfl, p, r⟩ := r1
  refine call_sum_walkAnyS (wpAny_pyIter_list p.isList ?_)
  have hne : a ≠ s.heap.objs.size := by obtain ⟨n, e⟩ := p; exact Nat.ne_of_lt (Heap.lt_size e)
  have el := r.length
  simp only [List.length_map] at el
  refine ⟨s.heap.objs.size, [s.heap.objs.size, a], [s.heap.objs.size], _, ws.toArray.size, _, _, fun i => xs.getD i 0, rfl, (Walks.list (A := A.in1) ha.h s.heap.objs.size a hne ws.toArray).toS,
    ⟨⟨_, Heap.get?_push_size _ rfl, rfl, rfl⟩, p.isList.at fun o e => Heap.get?_push_of_some _ e⟩, fun b hb => ?_, fun i v hv => ?_, fun s' t' m => ?_⟩
  · show b < (s.heap.push _).objs.size
    rw [size_push']
    simp at hb
    rcases hb with rfl | rfl
    · exact Nat.lt_succ_self _
    · obtain ⟨n, e⟩ := p; exact Nat.lt_succ_of_lt (Heap.lt_size e)
  · have hv' : ws[i]? = some v := by simpa using hv
    obtain ⟨d, hd, rd⟩ := r.at' hv'
    rw [List.getElem?_map] at hd
    cases hx : xs[i]? with
    | none => rw [hx] at hd; cases hd
    | some x =>
      rw [hx] at hd
      cases hd
      cases rd
      exact ⟨_, by simp only [List.getD_eq_getElem?_getD, hx, Option.getD_some]; rfl⟩
  · have e : preSum (fun i => xs.getD i 0) ws.toArray.size = xs.sum := by
      rw [show ws.toArray.size = xs.length by simp [el], preSum_eq xs _ (Nat.le_refl _), List.take_length]
    rw [e]
    refine q _ _ ⟨fun b o e => m.heap b o (fun hb => ?_) (Heap.get?_push_of_some _ e), m.os, ?_⟩ (.int _ _)
    · simp at hb; subst hb; rw [get_size] at e; cases e
    · have := m.gens
      rw [this]; exact .refl _
noncomputable def minI : List Int → Int
  | [] => 0
  | x :: r => r.foldl (fun a y => if y < a then y else a) x
theorem minI_snoc (x y : Int) (l : List Int) : minI (y :: l ++ [x]) = (if x < minI (y :: l) then x else minI (y :: l)) := by
  show (l ++ [x]).foldl _ y = _
  rw [List.foldl_append]; rfl
theorem argBest_min (xs : List Int) : ∀ n, n < xs.length → xs.getD (argBest (fun i j => decide (xs.getD i 0 < xs.getD j 0)) n) 0 = minI (xs.take (n + 1)) ∧ argBest (fun i j => decide (xs.getD i 0 < xs.getD j 0)) n < xs.length := by
  intro n
  induction n with
  | zero =>
    intro h
    cases xs with
    | nil => simp at h
    | cons x r => exact ⟨rfl, h⟩
  | succ n ih =>
    intro h
    obtain ⟨i1, i2⟩ := ih (by omega)
    rw [argBest]
    rw [List.take_add_one, show xs[n + 1]? = some xs[n + 1] by simp [h]]
    have hx : xs.getD (n + 1) 0 = xs[n + 1] := by simp [List.getD_eq_getElem?_getD, h]
    obtain ⟨y, l, e⟩ : ∃ y l, xs.take (n + 1) = y :: l := by
      cases q : xs.take (n + 1) with
      | nil => have := congrArg List.length q; simp at this; rw [this] at h; simp at h
      | cons y l => exact ⟨y, l, rfl⟩
    rw [e] at i1 ⊢
    show _ ∧ _
    simp only [Option.toList, decide_eq_true_eq]
    rw [minI_snoc, ← i1, ← hx]
    split
    · exact ⟨rfl, h⟩
    · exact ⟨rfl, i2⟩
theorem fn_min_ints {xs : List Int} (hx : xs ≠ []) : FN c (k + 1) (.builtin "min") [.list (xs.map .int)] (.int (minI xs)) := by
  intro A ha he X0 X s Q E vs b r q
  cases r with | cons r1 r2 => ?_
  cases r2
  obtain ⟨a, ws, rfl, p, r⟩ := r1
  refine call_min_walkS (wpAny_pyIter_list p.isList ?_)
  have hne : a ≠ s.heap.objs.size := by obtain ⟨n, e⟩ := p; exact Nat.ne_of_lt (Heap.lt_size e)
  have el := r.length
  simp only [List.length_map] at el
  have hpos : 0 < xs.length := List.length_pos_iff.mpr hx
  have get : ∀ i v, ws.toArray[i]? = some v → ∃ t, v = Value.int (xs.getD i 0) t := by
    intro i v hv
    have hv' : ws[i]? = some v := by simpa using hv
    obtain ⟨d, hd, rd⟩ := r.at' hv'
    rw [List.getElem?_map] at hd
    cases hx : xs[i]? with
    | none => rw [hx] at hd; cases hd
    | some x =>
      rw [hx] at hd
      cases hd
      cases rd
      exact ⟨_, by simp only [List.getD_eq_getElem?_getD, hx, Option.getD_some]; rfl⟩
  refine ⟨s.heap.objs.size, [s.heap.objs.size, a], [s.heap.objs.size], _, ws.toArray.size, _, _, fun i j => decide (xs.getD i 0 < xs.getD j 0), rfl, (Walks.list (A := A.in1) ha.h s.heap.objs.size a hne ws.toArray).toS,
    ⟨⟨_, Heap.get?_push_size _ rfl, rfl, rfl⟩, p.isList.at fun o e => Heap.get?_push_of_some _ e⟩, fun b hb => ?_, by simp; omega, fun i j vi vj s' Q' E' hi hj hQ => ?_, fun v s' hv m => ?_⟩
  · show b < (s.heap.push _).objs.size
    rw [size_push']
    simp at hb
    rcases hb with rfl | rfl
    · exact Nat.lt_succ_self _
    · obtain ⟨n, e⟩ := p; exact Nat.lt_succ_of_lt (Heap.lt_size e)
  · obtain ⟨t, rfl⟩ := get i vi hi
    obtain ⟨u, rfl⟩ := get j vj hj
    exact wpAny_lt_int hQ
  · obtain ⟨t, rfl⟩ := get _ v hv
    have h2 := (argBest_min xs (ws.toArray.size - 1) (by simp; omega)).1
    rw [h2, show ws.toArray.size - 1 + 1 = xs.length by simp; omega, List.take_length]
    refine q _ _ ⟨fun b o e => m.heap b o (fun hb => ?_) (Heap.get?_push_of_some _ e), m.os, ?_⟩ (.int _ _)
    · simp at hb; subst hb; rw [get_size] at e; cases e
    · have := m.gens
      rw [this]; exact .refl _
theorem fn_min_lists {xs ys : List Int} : FN c (k + 1) (.builtin "min") [.list [.list (xs.map .int), .list (ys.map .int)]] (.list ((if ltI ys xs then ys else xs).map .int)) := by
  intro A ha he X0 X s Q E vs b r q
  cases r with | cons r1 r2 => ?_
  cases r2
  obtain ⟨a, ws, rfl, p, r⟩ := r1
  obtain ⟨v0, v1, rfl⟩ : ∃ v0 v1, ws = [v0, v1] := by
    match ws, r.length with
    | [v0, v1], _ => exact ⟨v0, v1, rfl⟩
  obtain ⟨rv0, r'⟩ := RepL.cons_inv r
  obtain ⟨rv1, _⟩ := RepL.cons_inv r'
  have hu : A.in1.units < cLine := ha.in1.line
  have hname : (toString "min" ++ toString ".loop" : String) = "min.loop" := by decide
  have hne : a ≠ s.heap.objs.size := by obtain ⟨n, e⟩ := p; exact Nat.ne_of_lt (Heap.lt_size e)
  have W := Walks.list (prog := c.prog) (w := c.w) (A := A.in1) ha.h s.heap.objs.size a hne [v0, v1].toArray
  refine call_function_tree F.kind_min F.plain_min F.entry_min (F.args_min1 _) ?_
  show wpAny _ A.in1 (Builtin.Builtins.bindParams "min" ["key", "default"] 0 ⟨[], []⟩ >>= _) _ _ s
  refine wpAny_bind (wpAny_of_eq (show Builtin.Builtins.bindParams "min" ["key", "default"] 0 ⟨[], []⟩ = pure [none, none] from rfl) ?_)
  refine wpAny_bind (wpAny_pure ?_)
  refine wpAny_bind (wpAny_pyIter_list p.isList ?_)
  refine wpAny_bind (wpAny_newObj_type ?_)
  rw [hname]
  let h1 := s.heap.push { cls := .type "list_iterator", data := .fields #[.ref a, .int 0 0] }
  have hS : h1.objs.size = s.heap.objs.size + 1 := size_push' _ _
  have hSf : h1.objs.size ∉ [s.heap.objs.size, a] := by
    rw [hS]; intro hm; simp at hm
    obtain ⟨n, e⟩ := p
    have := Heap.lt_size e
    rw [← hm] at this; exact absurd this (Nat.not_lt.mpr (Nat.le_succ _))
  have hSw : h1.objs.size ∉ [s.heap.objs.size] := fun hm => hSf (by simp at hm ⊢; exact .inl hm)
  have keepS : ∀ (g g' : Heap), Ext s.heap g → (∀ b o, b ∉ [s.heap.objs.size] → g.get? b = some o → g'.get? b = some o) → Ext s.heap g' := fun g g' x y b o e => y b o (fun hm => by simp at hm; subst hm; rw [get_size] at e; cases e) (x b o e)
  have keepU : ∀ (g : Heap) (f : Obj → Obj), Ext s.heap g → Ext s.heap (g.update h1.objs.size f) := fun g f x b o e => (Heap.get?_update_ne _ _ _ _ (by rw [hS]; exact Nat.ne_of_lt (Nat.lt_succ_of_lt (Heap.lt_size e)))).trans (x b o e)
  have hst0 : (fun (i : Nat) (h : Heap) => h.IsListIter s.heap.objs.size a i ∧ h.IsList a [v0, v1].toArray) 0 (h1.push { cls := .type "list", dict := none, data := .seq ([] : List Value).toArray }) :=
    ⟨⟨_, Heap.get?_push_of_some _ (Heap.get?_push_size _ rfl), rfl, rfl⟩, (p.isList.at fun o e => Heap.get?_push_of_some _ e).at fun o e => Heap.get?_push_of_some _ e⟩
  refine wpAny_pure ⟨plainId_quiet F.plain_min_loop _, codeAny_builtin F.entry_min_loop ?_⟩
  rw [Around.under_plainId F.plain_min_loop _]
  show wpAny _ A.in1 (seqItems? (.ref h1.objs.size) >>= _) _ _ _
  refine wpAny_bind (wpAny_seqItems (Heap.get?_push_size _ rfl) rfl ?_)
  show wpAny _ A.in1 (tryCatch (pyNext (.ref s.heap.objs.size)) _ >>= _) _ _ _
  refine wpAny_bind (wpAny_tryCatch (W.item 0 _ _ _ (Nat.zero_lt_succ _) hst0 fun v g tk hP hst1 hk1 => ?_))
  have hv : v = v0 := by simpa using hP.symm
  subst hv
  have x0 : Ext s.heap g := keepS _ _ (fun b o e => Heap.get?_push_of_some _ (Heap.get?_push_of_some _ e)) hk1
  have hS1 := hk1 h1.objs.size _ hSw (Heap.get?_push_size _ rfl)
  show wpAny _ A.in1 (updateSeq h1.objs.size (fun _ => #[v, v]) >>= _) _ _ _
  refine wpAny_bind ?_
  refine wpAny_updateSeq hS1 rfl ?_
  rw [hname]
  have hst1' : (fun (i : Nat) (h : Heap) => h.IsListIter s.heap.objs.size a i ∧ h.IsList a [v, v1].toArray) 1 (g.update h1.objs.size (Obj.mapSeq fun _ => #[v, v])) := W.frame _ _ _ hst1 fun b hb o e => (Heap.get?_update_other _ _ (fun h : h1.objs.size = b => hSf (by rw [h]; exact hb))).trans e
  have x1 := keepU g (Obj.mapSeq fun _ => #[v, v]) x0
  have hS2 := Heap.get?_update_self (Obj.mapSeq fun _ => #[v, v]) hS1 rfl
  refine wpAny_pure ⟨plainId_quiet F.plain_min_loop _, codeAny_builtin F.entry_min_loop ?_⟩
  rw [Around.under_plainId F.plain_min_loop _]
  show wpAny _ A.in1 (seqItems? (.ref h1.objs.size) >>= _) _ _ _
  refine wpAny_bind (wpAny_seqItems hS2 rfl ?_)
  show wpAny _ A.in1 (tryCatch (pyNext (.ref s.heap.objs.size)) _ >>= _) _ _ _
  refine wpAny_bind (wpAny_tryCatch (W.item 1 _ _ _ (Nat.succ_lt_succ (Nat.zero_lt_succ _)) hst1' fun u g2 tk2 hP2 hst2 hk2 => ?_))
  have hu1 : u = v1 := by simpa using hP2.symm
  subst hu1
  have x2 : Ext s.heap g2 := keepS _ _ x1 hk2
  have hS3 := hk2 h1.objs.size _ hSw hS2
  show wpAny _ A.in1 (tryCatch (holding [u, u] (richCompare .Lt u v >>= _)) _ >>= _) _ _ _
  refine wpAny_bind (wpAny_tryCatch (wpAny_holding (wpAny_bind (rc_lt_ints (c := c) (X := X) hu (rv1.ext x2).listAt (rv0.ext x2).listAt ?_))))
  refine wpAny_bind (wpAny_holding (wpAny_truthy_bool ?_))
  refine wpAny_bind (wpAny_letGo (wpAny_pure ?_))
  have last : ∀ (g3 : Heap) (tk3 : Nat) (z : Value) (zs : List Int) (cc : Nat), Ext s.heap g3 → (fun (i : Nat) (h : Heap) => h.IsListIter s.heap.objs.size a i ∧ h.IsList a [v, u].toArray) 2 g3 → g3.get? h1.objs.size = some { cls := .type "list", dict := none, data := .seq #[z, z] cc, slots := #[] } →
      Rep X s.heap z (.list (zs.map .int)) → zs = (if ltI ys xs then ys else xs) →
      codeAny (model c.prog c.w) A (.builtin "min.loop" ⟨[.ref s.heap.objs.size, .none, .ref h1.objs.size], []⟩) (fun r s' => match r with | .ok (.ret v) => Q v s' | .ok _ => False | .error e => E e s') { s with heap := g3, toks := tk3 } := by
    intro g3 tk3 z zs cc x3 hst3 hSS rz ez
    refine codeAny_builtin F.entry_min_loop ?_
    rw [Around.under_plainId F.plain_min_loop _]
    show wpAny _ A.in1 (seqItems? (.ref h1.objs.size) >>= _) _ _ _
    refine wpAny_bind (wpAny_seqItems hSS rfl ?_)
    show wpAny _ A.in1 (tryCatch (pyNext (.ref s.heap.objs.size)) _ >>= _) _ _ _
    refine wpAny_bind (wpAny_tryCatch (W.done _ _ _ hst3 fun g4 tk4 hk4 => ?_))
    have hS4 := hk4 h1.objs.size _ hSw hSS
    show wpAny _ A.in1 (updateSeq h1.objs.size (fun _ => #[]) >>= _) _ _ _
    refine wpAny_bind ?_
    refine wpAny_updateSeq hS4 rfl (wpAny_bind (wpAny_letGo (wpAny_pure ?_)))
    have x5 := keepU g4 (Obj.mapSeq fun _ => #[]) (keepS _ _ x3 hk4)
    exact q _ _ ⟨x5, rfl, .refl _⟩ (by rw [← ez]; exact rz.ext x5)
  cases hb : ltI ys xs with
  | true =>
    simp only [if_true]
    refine wpAny_bind ?_
    refine wpAny_updateSeq hS3 rfl (wpAny_bind (wpAny_letGo ?_))
    rw [hname]
    exact wpAny_pure ⟨plainId_quiet F.plain_min_loop _, last _ _ u ys _ (keepU _ _ x2) (W.frame _ _ _ hst2 fun b hb o e => (Heap.get?_update_other _ _ (fun h : h1.objs.size = b => hSf (by rw [h]; exact hb))).trans e) (Heap.get?_update_self _ hS3 rfl) rv1 (by rw [hb]; rfl)⟩
  | false =>
    simp only [Bool.false_eq_true, if_false]
    refine wpAny_bind (wpAny_letGo ?_)
    rw [hname]
    exact wpAny_pure ⟨plainId_quiet F.plain_min_loop _, last _ _ v xs _ x2 hst2 hS3 rv0 (by rw [hb]; rfl)⟩
end
end Mine
end
section
open PySem PySem.W PyProof.Rows
set_option linter.unusedSimpArgs false
set_option linter.unusedVariables false
namespace Mine
/-! the frame of a comprehension -/
theorem forIn_fold {α β : Type} {f : α → β → Sem (ForInStep β)} (g : β → α → β) : ∀ (l : List α) (b : β), (∀ x ∈ l, ∀ b, f x b = pure (.yield (g b x))) → forIn l b f = pure (l.foldl g b)
  | [], b, _ => rfl
  | x :: l, b, h => by
    rw [List.forIn_cons, h x List.mem_cons_self, pure_bind]
    exact forIn_fold g l _ fun y hy => h y (List.mem_cons_of_mem _ hy)
noncomputable def clStep (env : Env) (cs : List (Str × Addr)) (x : Str × NameKind) : List (Str × Addr) := if x.2 == .free then (x.1, (env.cells.lookup x.1).getD 0) :: cs else cs
noncomputable def clOf (env : Env) (names : Names) : List (Str × Addr) := names.foldl (clStep env) []
theorem closure_of {scope : Scope} {env : Env} (h : ∀ n, (n, NameKind.free) ∈ scope.names → ∃ c, env.cells.lookup n = some c) : closureFor scope env = pure (clOf env scope.names) := by
  simp only [closureFor]
  rw [forIn_fold (clStep env) _ _ (fun x hx cs => by
    obtain ⟨n, kind⟩ := x
    by_cases hk : kind = .free
    · subst hk
      obtain ⟨c, hc⟩ := h n hx
      have e : cellOf env n = pure c := by unfold cellOf; rw [hc]
      simp [clStep, e, hc]
    · have : (kind == NameKind.free) = false := by simpa using hk
      simp [clStep, this])]
  rfl
theorem clGo_lookup (env : Env) : ∀ (names : Names) (acc : List (Str × Addr)) (y : Str), (names.map (·.1)).Nodup → (∀ x ∈ names, acc.lookup x.1 = none) →
    (names.foldl (clStep env) acc).lookup y = if names.lookup y = some .free then some ((env.cells.lookup y).getD 0) else acc.lookup y
  | [], acc, y, _, _ => by simp
  | (n, k) :: r, acc, y, hn, ha => by
    rw [List.map_cons, List.nodup_cons] at hn
    have hn1 : ∀ x ∈ r, x.1 ≠ n := fun x hx e => hn.1 (e ▸ List.mem_map.mpr ⟨x, hx, rfl⟩)
    rw [List.foldl_cons]
    have ha' : ∀ x ∈ r, (clStep env acc (n, k)).lookup x.1 = none := fun x hx => by
      unfold clStep
      split
      · rw [List.lookup_cons, beq_false_of_ne (hn1 x hx)]; exact ha x (List.mem_cons_of_mem _ hx)
      · exact ha x (List.mem_cons_of_mem _ hx)
    rw [clGo_lookup env r _ y hn.2 ha', List.lookup_cons]
    by_cases hy : y = n
    · subst hy
      rw [beq_self_eq_true]
      have : r.lookup y = none := by
        cases e : r.lookup y with
        | none => rfl
        | some kk => exact absurd rfl (hn1 _ (mem_of_lookup e))
      rw [this]
      unfold clStep
      by_cases hk : k = .free
      · subst hk; simp
      · have : (k == NameKind.free) = false := by simpa using hk
        simp [this, hk]
    · rw [beq_false_of_ne hy]
      simp only []
      split
      · rfl
      · unfold clStep
        split
        · rw [List.lookup_cons, beq_false_of_ne hy]
        · rfl
theorem clOf_lookup (env : Env) {names : Names} (hn : (names.map (·.1)).Nodup) (y : Str) : (clOf env names).lookup y = if names.lookup y = some .free then some ((env.cells.lookup y).getD 0) else none := by
  unfold clOf
  rw [clGo_lookup env names [] y hn (fun _ _ => rfl)]
  rfl
theorem cellsFrom_app : ∀ (names : Names) (n : Nat) (acc : List (Str × Addr)), cellsFrom n names acc = cellsFrom n names [] ++ acc
  | [], n, acc => rfl
  | (x, k) :: r, n, acc => by
    unfold cellsFrom
    split
    · rw [cellsFrom_app r (n + 1) ((x, n) :: acc), cellsFrom_app r (n + 1) [(x, n)]]; simp
    · exact cellsFrom_app r n acc
theorem cellsFrom_mem : ∀ (names : Names) (n : Nat) (y : Str) (c : Addr), (y, c) ∈ cellsFrom n names [] → (y, NameKind.cell) ∈ names
  | [], n, y, c, h => by cases h
  | (x, k) :: r, n, y, c, h => by
    unfold cellsFrom at h
    split at h
    · rename_i hk
      have hk' : k = .cell := by cases k <;> first | rfl | cases hk
      rw [cellsFrom_app] at h
      rcases List.mem_append.mp h with h | h
      · exact List.mem_cons_of_mem _ (cellsFrom_mem r _ y c h)
      · simp at h; obtain ⟨rfl, _⟩ := h; subst hk'; exact List.mem_cons_self ..
    · exact List.mem_cons_of_mem _ (cellsFrom_mem r _ y c h)
theorem cellsFrom_has : ∀ (names : Names) (n : Nat) (y : Str), (y, NameKind.cell) ∈ names → ∃ c, (y, c) ∈ cellsFrom n names []
  | (x, k) :: r, n, y, h => by
    unfold cellsFrom
    rcases List.mem_cons.mp h with h | h
    · cases h
      rw [if_pos (beq_self_eq_true _), cellsFrom_app]
      exact ⟨n, List.mem_append_right _ (List.mem_cons_self ..)⟩
    · split
      · obtain ⟨c, hc⟩ := cellsFrom_has r (n + 1) y h
        rw [cellsFrom_app]
        exact ⟨c, List.mem_append_left _ hc⟩
      · exact cellsFrom_has r n y h
theorem lookup_isSome_of_mem {α : Type} : ∀ {l : List (Str × α)} {y : Str} {c : α}, (y, c) ∈ l → ∃ c', l.lookup y = some c'
  | (x, d) :: r, y, c, h => by
    rw [List.lookup_cons]
    by_cases hy : y = x
    · subst hy; rw [beq_self_eq_true]; exact ⟨_, rfl⟩
    · rw [beq_false_of_ne hy]
      rcases List.mem_cons.mp h with h | h
      · cases h; exact absurd rfl hy
      · exact lookup_isSome_of_mem h
theorem lookup_append {α : Type} : ∀ (a b : List (Str × α)) (y : Str), (a ++ b).lookup y = (a.lookup y).or (b.lookup y)
  | [], b, y => by simp
  | (x, d) :: r, b, y => by
    rw [List.cons_append, List.lookup_cons, List.lookup_cons]
    cases y == x with
    | true => rfl
    | false => exact lookup_append r b y
theorem lookup_of_nodup {α : Type} : ∀ {l : List (Str × α)} {y : Str} {c : α}, (l.map (·.1)).Nodup → (y, c) ∈ l → l.lookup y = some c
  | (x, d) :: r, y, c, hn, h => by
    rw [List.map_cons, List.nodup_cons] at hn
    rw [List.lookup_cons]
    rcases List.mem_cons.mp h with h | h
    · cases h; rw [beq_self_eq_true]
    · have hne : y ≠ x := fun e => hn.1 (List.mem_map.mpr ⟨(y, c), h, e⟩)
      rw [beq_false_of_ne hne]
      exact lookup_of_nodup hn.2 h
theorem relabel_lookup (scope : Scope) (env : Env) (y : Str) : (relabel scope env).names.lookup y = (scope.names.lookup y).map fun k => if (k == .free && env.scope.kind == .function && env.kindOf y == some .cell) then .cell else k := by
  unfold relabel
  simp only []
  induction scope.names with
  | nil => rfl
  | cons x r ih =>
    obtain ⟨n, k⟩ := x
    rw [List.map_cons, List.lookup_cons]
    have e : ∀ n k, ((if (k == NameKind.free && env.scope.kind == ScopeKind.function && env.kindOf n == some NameKind.cell) = true then (n, NameKind.cell) else (n, k)) : Str × NameKind) = (n, if (k == NameKind.free && env.scope.kind == ScopeKind.function && env.kindOf n == some NameKind.cell) = true then NameKind.cell else k) := by
      intro n k; split <;> rfl
    rw [e, List.lookup_cons]
    by_cases hy : y = n
    · subst hy; rw [beq_self_eq_true]; rfl
    · rw [beq_false_of_ne hy]; exact ih
noncomputable abbrev cenvOf (scope : Scope) (C : Addr) (env : Env) : Env := compEnvC scope (cellsFrom (C + 1) scope.names (clOf env scope.names)) C env
theorem kind_cenv (scope : Scope) (C : Addr) (env : Env) (y : Str) : (cenvOf scope C env).kindOf y = (scope.names.lookup y).map fun k => if (k == .free && env.scope.kind == .function && env.kindOf y == some .cell) then .cell else k := relabel_lookup scope env y
structure ScOk (ns : Names) (scope : Scope) : Prop where
  kind : scope.kind = .function
  nodup : (scope.names.map (·.1)).Nodup
  free : ∀ n, (n, NameKind.free) ∈ scope.names → ns.lookup n = some .cell ∨ ns.lookup n = some .free
theorem cells_cenv {ns : Names} {scope : Scope} {env : Env} (ef : EnvFor ns env) (so : ScOk ns scope) {C : Addr} : (∀ y, scope.names.lookup y = some .free → ∃ c, env.cells.lookup y = some c ∧ (cenvOf scope C env).cells.lookup y = some c) ∧
    (∀ y, scope.names.lookup y = some .cell → ∃ c, (cenvOf scope C env).cells.lookup y = some c) := by
  refine ⟨fun y hy => ?_, fun y hy => ?_⟩
  · have hc : ∃ c, env.cells.lookup y = some c := by
      rcases so.free y (mem_of_lookup hy) with h | h
      · exact ef.all y (.inl (ef.cel y h))
      · exact ef.all y (ef.fre y h)
    obtain ⟨c, hc⟩ := hc
    refine ⟨c, hc, ?_⟩
    show (cellsFrom (C + 1) scope.names (clOf env scope.names)).lookup y = some c
    rw [cellsFrom_app, lookup_append, clOf_lookup env so.nodup, if_pos hy, hc]
    have : (cellsFrom (C + 1) scope.names []).lookup y = none := by
      cases e : (cellsFrom (C + 1) scope.names []).lookup y with
      | none => rfl
      | some c' =>
        have := lookup_of_nodup so.nodup (cellsFrom_mem _ _ _ _ (mem_of_lookup e))
        rw [hy] at this; cases this
    rw [this]; rfl
  · obtain ⟨c, hc⟩ := cellsFrom_has scope.names (C + 1) y (mem_of_lookup hy)
    obtain ⟨c', hc'⟩ := lookup_isSome_of_mem hc
    refine ⟨c', ?_⟩
    show (cellsFrom (C + 1) scope.names (clOf env scope.names)).lookup y = some c'
    rw [cellsFrom_app, lookup_append, hc']; rfl
theorem envFor_cenv {ns : Names} {scope : Scope} {env : Env} (ef : EnvFor ns env) (so : ScOk ns scope) (C : Addr) : EnvFor scope.names (cenvOf scope C env) := by
  have hk := kind_cenv scope C env
  refine { kind := so.kind, glob := ef.glob, bi := ef.bi, all := fun n h => ?_, loc := fun x h => ?_, cel := fun x h => ?_, fre := fun x h => ?_, glo := fun x h => ?_, none := fun x h => ?_ }
  · obtain ⟨f, g⟩ := cells_cenv ef so (C := C)
    rw [hk] at h
    cases e : scope.names.lookup n with
    | none => rw [e] at h; simp at h
    | some k =>
      cases k with
      | free => obtain ⟨c, _, hc⟩ := f n e; exact ⟨c, hc⟩
      | cell => exact g n e
      | _ => rw [e] at h; simp at h
  · rw [hk, h]; rfl
  · rw [hk, h]; rfl
  · rw [hk, h]
    by_cases hc : (env.scope.kind == .function && env.kindOf x == some .cell) = true
    · left; simp only [Option.map_some, beq_self_eq_true, Bool.true_and, hc, if_true]
    · right; simp only [Option.map_some, beq_self_eq_true, Bool.true_and, hc, if_false, Bool.false_eq_true]
  · rw [hk, h]; rfl
  · rw [hk, h]; rfl
theorem look_cenv {ns : Names} {scope : Scope} {env : Env} (ef : EnvFor ns env) (so : ScOk ns scope) {C : Addr} {h : Heap} {y : Str} {v : Value} (hy : scope.names.lookup y = some .free) (l : Look h env y v) : Look h (cenvOf scope C env) y v := by
  obtain ⟨c, hc, hc'⟩ := (cells_cenv ef so (C := C)).1 y hy
  rcases l with ⟨hl, _⟩ | ⟨hl, c2, hc2, hv⟩
  · rcases so.free y (mem_of_lookup hy) with h | h
    · rw [ef.cel y h] at hl; cases hl
    · rcases ef.fre y h with h | h <;> rw [h] at hl <;> cases hl
  · rw [hc] at hc2; cases hc2
    exact .inr ⟨(envFor_cenv ef so C).fre y hy, c, hc', hv⟩
end Mine
end
section
open PySem PySem.W PyProof.Rows
set_option linter.unusedSimpArgs false
set_option linter.unusedVariables false
namespace Mine
noncomputable def At1 (env : Env) (x : Str) (t : Addr) : Prop := (env.kindOf x = some .local ∧ t = env.locals) ∨ (env.kindOf x = some .cell ∧ env.cells.lookup x = some t)
section
variable {M : Model} {A : Around} {E : Value → Shared → Prop} {s : Shared} {env : Env}
theorem store_at {x : Str} {v : Value} {Q : Unit → Shared → Prop} (ok : EnvOk env) (F : FrW env s.heap) (hx : env.kindOf x = some .local ∨ env.kindOf x = some .cell)
    (h : ∀ h' tk t, At1 env x t → FrW env h' → Look h' env x v → (∀ y u, y ≠ x → Look s.heap env y u → Look h' env y u) → Keep [t] s.heap h' → (∃ o, h'.get? t = some o) →
      Q () { s with heap := h', toks := tk }) : wpAny M A (storeName env x v) Q E s := by
  rcases hx with hx | hx
  · obtain ⟨m, hn⟩ := F.ns
    refine wpAny_storeName_local hx hn (fun h' hn' hs' => ?_) (by rw [ok.kind]; rfl)
    have kc : ∀ n c, env.cells.lookup n = some c → ∀ u, s.heap.IsCell c u → h'.IsCell c u := fun n c hc u hu => hu.sameBut hs' (F.off n c (mem_of_lookup hc)).symm
    refine h h' _ env.locals (.inl ⟨hx, rfl⟩) ⟨⟨_, hn'⟩, fun n c hc => let ⟨u, hu⟩ := F.cell n c hc; ⟨u, kc n c hc u hu⟩, F.apart, F.off⟩ (.inl ⟨hx, _, hn', by simp⟩) ?_ (keep_sameBut hs') (let ⟨o', _, _, e', _⟩ := hn'; ⟨o', e'⟩)
    intro y u hy l
    rcases l with ⟨hk, m₂, hn₂, hm₂⟩ | ⟨hk, c, hc, hv⟩
    · refine .inl ⟨hk, _, hn', ?_⟩
      rw [if_neg hy]
      obtain ⟨o, es, ep, ho, hd, hs, hf⟩ := hn
      obtain ⟨o₂, es₂, ep₂, ho₂, hd₂, hs₂, hf₂⟩ := hn₂
      rw [ho] at ho₂; cases ho₂
      rw [hd] at hd₂; cases hd₂
      rw [← hf y, hf₂ y, hm₂]
    · exact .inr ⟨hk, c, hc, kc y c hc _ hv⟩
  · obtain ⟨c, hc⟩ := ok.all x (.inl hx)
    obtain ⟨v₀, hv₀⟩ := F.cell x c hc
    refine wpAny_storeName_cell ok.kind hx hc hv₀ fun h' hv' hs' => ?_
    have kn : ∀ m, s.heap.Ns env.locals m → h'.Ns env.locals m := fun m hn => hn.sameBut hs' (F.off x c (mem_of_lookup hc))
    have kc : ∀ n c', env.cells.lookup n = some c' → n ≠ x → ∀ u, s.heap.IsCell c' u → h'.IsCell c' u := fun n c' hc' hne u hu => hu.sameBut hs' fun e => hne (name_of_addr F.apart (mem_of_lookup hc') (e ▸ mem_of_lookup hc))
    refine h h' _ c (.inr ⟨hx, hc⟩) ⟨let ⟨m, hn⟩ := F.ns; ⟨m, kn m hn⟩, fun n c' hc' => ?_, F.apart, F.off⟩ (.inr ⟨.inl hx, c, hc, hv'⟩) ?_ (keep_sameBut hs') (let ⟨o', e', _⟩ := hv'; ⟨o', e'⟩)
    · by_cases hn : n = x
      · subst hn; rw [hc] at hc'; cases hc'; exact ⟨_, hv'⟩
      · obtain ⟨u, hu⟩ := F.cell n c' hc'
        exact ⟨u, kc n c' hc' hn u hu⟩
    · intro y u hy l
      rcases l with ⟨hk, m₂, hn₂, hm₂⟩ | ⟨hk, c', hc', hv⟩
      · exact .inl ⟨hk, m₂, kn _ hn₂, hm₂⟩
      · exact .inr ⟨hk, c', hc', kc y c' hc' hy _ hv⟩
end
noncomputable def Src (c : Cx) (A : Around) (X : List Addr) (h1 h2 : Heap) (I : Addr) (ds : List D) : Prop :=
  ∃ fp P Stt, Walks c.prog c.w A I fp [I] ds.length P Stt ∧ Stt 0 h2 ∧ (∀ b ∈ fp, b = I ∨ (b ∉ X ∧ ∃ o, h1.get? b = some o)) ∧ (∀ i h, Stt i h → ∃ o, h.get? I = some o) ∧
    ∀ i v, i < ds.length → P i v → ∃ d, ds[i]? = some d ∧ ∀ Y h', (∀ a ∈ Y, a ∈ X ∨ h1.get? a = none) → Keep Y h1 h' → Rep Y h' v d
noncomputable def EI (c : Cx) (k : Nat) (ns : Names) (σ : Sig) (e : Expr) (ds : List D) : Prop :=
  ∀ env, EnvFor ns env → ∀ A, AOk k A → ∀ he X0 X F s Q E, St c he X0 X env σ F s →
    (∀ v s1, Nxt s s1 → (∀ Q' E', (∀ I s2, Nxt s1 s2 → s1.heap.get? I = none → Src c A X s1.heap s2.heap I ds → Q' (.ref I) s2) → wpAny (model c.prog c.w) A (pyIter v) Q' E' s1) → Q v s1) → wpAny (model c.prog c.w) A (eval e env) Q E s
section
variable {c : Cx} {k : Nat} {ns : Names} {σ : Sig}
theorem ei_list {e : Expr} {ds : List D} (h : EV c k ns σ e (.list ds)) : EI c k ns σ e ds := by
  intro env ef A a he X0 X F s Q E st q
  refine h env ef A a he X0 X F s _ E st fun v s1 n1 r => q v s1 n1 fun Q' E' q' => ?_
  cases r with
  | list na p r =>
    rename_i ax vs
    have hax : ax < s1.heap.objs.size := by obtain ⟨n, e⟩ := p; exact Heap.lt_size e
    have hne : ax ≠ s1.heap.objs.size := Nat.ne_of_lt hax
    refine wpAny_pyIter_list p.isList (q' _ _ .push (get_size _) ?_)
    have W := Walks.list (prog := c.prog) (w := c.w) (A := A) a.h s1.heap.objs.size ax hne vs.toArray
    rw [show vs.toArray.size = ds.length by simp [r.length]] at W
    refine ⟨_, _, _, W, ⟨⟨_, Heap.get?_push_size _ rfl, rfl, rfl⟩, p.isList.at fun o e => Heap.get?_push_of_some _ e⟩, fun b hb => ?_, fun i h st => let ⟨o, e, _⟩ := st.1; ⟨o, e⟩, fun i v hi hv => ?_⟩
    · simp at hb
      rcases hb with rfl | rfl
      · exact .inl rfl
      · obtain ⟨n, e⟩ := p; exact .inr ⟨na, _, e⟩
    · have hv' : vs[i]? = some v := by simpa using hv
      obtain ⟨d, hd, rd⟩ := r.at' hv'
      exact ⟨d, hd, fun Y h' hY kp => (rd.re hY).keep kp⟩
noncomputable def rngD (lo hi : Int) : List D := (List.range (hi - lo).toNat).map fun i : Nat => D.int (lo + (i : Int))
theorem ei_range {e : Expr} {lo hi : Int} (h : EV c k ns σ e (.rng lo hi)) (hs : Builtin.Range.small lo hi 1 = true) : EI c k ns σ e (rngD lo hi) := by
  have hlen : (rngD lo hi).length = (hi - lo).toNat := by simp [rngD]
  intro env ef A a he X0 X F s Q E st q
  refine h env ef A a he X0 X F s _ E st fun v s1 n1 r => q v s1 n1 fun Q' E' q' => ?_
  cases r with
  | rng na p =>
    refine wpAny_pyIter_range p hs (q' _ _ .push (get_size _) ?_)
    have hsz : Builtin.Range.rangeSize lo hi 1 = ((hi - lo).toNat : Int) := by
      unfold Builtin.Range.rangeSize
      simp only [show (1 : Int) > 0 by decide, if_true]
      split <;> omega
    have W := Walks.range (prog := c.prog) (w := c.w) (A := A) a.h s1.heap.objs.size lo 1 (hi - lo).toNat
    rw [← hlen] at W
    refine ⟨_, _, _, W, ?_, fun b hb => .inl (by simpa using hb), fun i h st => ⟨_, st⟩, fun i v hi hv => ?_⟩
    · have e0 : lo + ((0 : Nat) : Int) * 1 = lo := by omega
      have e1 : (((rngD lo hi).length : Int) - ((0 : Nat) : Int)) = ((hi - lo).toNat : Int) := by rw [hlen]; omega
      show IsRangeIter _ _ (lo + ((0 : Nat) : Int) * 1) (((rngD lo hi).length : Int) - ((0 : Nat) : Int)) 1
      rw [hsz, e0, e1]
      exact Heap.get?_push_size _ rfl
    · obtain ⟨t, rfl⟩ := hv
      rw [hlen] at hi
      refine ⟨.int (lo + (i : Int)), by simp [rngD, hi], fun Y h' _ _ => ?_⟩
      rw [Int.mul_one]; exact .int _ _
end
end Mine
end
section
open PySem PySem.W PyProof.Rows
set_option linter.unusedSimpArgs false
set_option linter.unusedVariables false
namespace Mine
theorem clGo_mem (env : Env) : ∀ (names : Names) (acc : List (Str × Addr)) (y : Str) (c : Addr), (y, c) ∈ names.foldl (clStep env) acc → (y, c) ∈ acc ∨ ((y, NameKind.free) ∈ names ∧ c = (env.cells.lookup y).getD 0)
  | [], acc, y, c, h => .inl h
  | (n, k) :: r, acc, y, c, h => by
    rw [List.foldl_cons] at h
    rcases clGo_mem env r _ y c h with h | ⟨h1, h2⟩
    · unfold clStep at h
      split at h
      · rename_i hk
        have hk' : k = .free := by cases k <;> first | rfl | cases hk
        rcases List.mem_cons.mp h with h | h
        · cases h; subst hk'; exact .inr ⟨List.mem_cons_self .., rfl⟩
        · exact .inl h
      · exact .inl h
    · exact .inr ⟨List.mem_cons_of_mem _ h1, h2⟩
theorem clGo_pair (env : Env) : ∀ (names : Names) (acc : List (Str × Addr)), (names.map (·.1)).Nodup → (∀ x ∈ names, ∀ y ∈ acc, y.1 ≠ x.1) → acc.Pairwise (fun x y => x.1 ≠ y.1) → (names.foldl (clStep env) acc).Pairwise (fun x y => x.1 ≠ y.1)
  | [], acc, _, _, h => h
  | (n, k) :: r, acc, hn, ha, h => by
    rw [List.map_cons, List.nodup_cons] at hn
    rw [List.foldl_cons]
    have hn1 : ∀ x ∈ r, x.1 ≠ n := fun x hx e => hn.1 (e ▸ List.mem_map.mpr ⟨x, hx, rfl⟩)
    refine clGo_pair env r _ hn.2 (fun x hx y hy => ?_) ?_
    · unfold clStep at hy
      split at hy
      · rcases List.mem_cons.mp hy with rfl | hy
        · exact (hn1 x hx).symm
        · exact ha x (List.mem_cons_of_mem _ hx) y hy
      · exact ha x (List.mem_cons_of_mem _ hx) y hy
    · unfold clStep
      split
      · exact List.pairwise_cons.mpr ⟨fun y hy => (ha (n, k) (List.mem_cons_self ..) y hy).symm, h⟩
      · exact h
noncomputable def newCells (C : Addr) (names : Names) : List Addr := (cellsFrom (C + 1) names []).map (·.2)
section
variable {M : Model} {A : Around} {E : Value → Shared → Prop} {s : Shared} {env : Env}
theorem newEnv_comp {scope : Scope} {cl : List (Str × Addr)} {Q : Env → Shared → Prop}
    (h : Q (newEnv scope s.heap.objs.size env.globals (cellsFrom (s.heap.objs.size + 1) scope.names cl) env.qual none .none (some env) builtinsNs) { s with heap := pushCells (s.heap.push { cls := .type "dict", data := .dict #[] }) scope.names }) :
    wpAny M A (newFunctionEnv scope env.globals cl [] env.qual none .none (some env)) Q E s := by
  simp only [newFunctionEnv, Option.isSome_some, if_true]
  refine wpAny_bind (wpAny_alloc ?_)
  refine wpAny_bind (wpAny_layCells _ (fun name kind cells => by cases hkc : kind == NameKind.cell <;> simp [hkc]) _ _ _ _ ?_)
  rw [show ({ s with heap := s.heap.push { cls := .type "dict", data := .dict #[] } } : Shared).heap.objs.size = s.heap.objs.size + 1 from Heap.size_push ..]
  exact wpAny_bind (by rw [List.forIn_nil]; exact wpAny_pure (wpAny_pure h))
end
theorem comp_frame {ns : Names} {scope : Scope} {env : Env} {s : Shared} (ef : EnvFor ns env) (so : ScOk ns scope) (F : FrW env s.heap) :
    FrW (cenvOf scope s.heap.objs.size env) (pushCells (s.heap.push { cls := .type "dict", data := .dict #[] }) scope.names) ∧
    Ext s.heap (pushCells (s.heap.push { cls := .type "dict", data := .dict #[] }) scope.names) ∧
    (∀ a ∈ s.heap.objs.size :: newCells s.heap.objs.size scope.names, s.heap.get? a = none ∧ ∃ o, (pushCells (s.heap.push { cls := .type "dict", data := .dict #[] }) scope.names).get? a = some o) ∧
    (∀ a ∈ fa (cenvOf scope s.heap.objs.size env), a ∈ s.heap.objs.size :: newCells s.heap.objs.size scope.names ∨ a ∈ fa env) ∧
    (∀ y, scope.names.lookup y = some .cell → ∀ t, (cenvOf scope s.heap.objs.size env).cells.lookup y = some t → t ∈ newCells s.heap.objs.size scope.names) := by
  have ok := cellsFrom_ok scope.names (s.heap.push { cls := .type "dict", data := .dict #[] }) (s.heap.objs.size + 1) [] ⟨fun _ _ hm => (nomatch hm), List.Pairwise.nil⟩ (by rw [Heap.size_push]; exact Nat.le_refl _)
  rw [Heap.size_push] at ok
  generalize hH : pushCells (s.heap.push { cls := .type "dict", data := .dict #[] }) scope.names = H at ok ⊢
  have ext : Ext s.heap H := fun b o e => hH ▸ pushCells_keeps _ _ b o (Heap.get?_push_of_some _ e)
  have hC : H.get? s.heap.objs.size = some { cls := .type "dict", data := .dict #[] } := hH ▸ pushCells_keeps _ _ _ _ (Heap.get?_push_size _ rfl)
  have cells : (cenvOf scope s.heap.objs.size env).cells = cellsFrom (s.heap.objs.size + 1) scope.names [] ++ clOf env scope.names := cellsFrom_app _ _ _
  have clLook : ∀ y c, (y, c) ∈ clOf env scope.names → env.cells.lookup y = some c := fun y c hm => by
    rcases clGo_mem env scope.names [] y c hm with h | ⟨h1, h2⟩
    · cases h
    · obtain ⟨c', hc', _⟩ := (cells_cenv ef so (C := s.heap.objs.size)).1 y (lookup_of_nodup so.nodup h1)
      rw [hc'] at h2; rw [hc']; exact congrArg some h2.symm
  have clLive : ∀ y c, (y, c) ∈ clOf env scope.names → c < s.heap.objs.size := fun y c hm => by
    obtain ⟨v, hv⟩ := F.cell y c (clLook y c hm); exact hv.lt
  refine ⟨⟨⟨_, hH ▸ (Heap.Ns.new s.heap (.type "dict")).keeps (pushCells_keeps _ _)⟩, fun n c hc => ?_, ?_, fun n c hm => ?_⟩, ext, fun a ha => ?_, fun a ha => ?_, fun y hy t ht => ?_⟩
  · rw [cells] at hc
    rcases List.mem_append.mp (mem_of_lookup hc) with hm | hm
    · exact ⟨none, (ok.empty n c hm).1⟩
    · obtain ⟨v, hv⟩ := F.cell n c (clLook n c hm)
      exact ⟨v, hv.keeps ext⟩
  · rw [cells, List.pairwise_append]
    refine ⟨ok.apart, ?_, fun x hx y hy e => ?_⟩
    · have hp := clGo_pair env scope.names [] so.nodup (fun _ _ _ h => nomatch h) .nil
      refine List.Pairwise.imp_of_mem ?_ hp
      intro x y hx hy hne e
      obtain ⟨x1, x2⟩ := x
      obtain ⟨y1, y2⟩ := y
      refine hne (name_of_addr F.apart (mem_of_lookup (clLook _ _ hx)) ?_)
      have := mem_of_lookup (clLook _ _ hy)
      rw [show x2 = y2 from e]; exact this
    · have h1 := (ok.empty x.1 x.2 hx).2
      have h2 := clLive y.1 y.2 hy
      rw [e] at h1
      exact absurd h2 (Nat.not_lt.mpr (Nat.le_of_succ_le h1))
  · rw [cells] at hm
    show s.heap.objs.size ≠ c
    rcases List.mem_append.mp hm with hm | hm
    · exact Nat.ne_of_lt (ok.empty n c hm).2
    · exact Nat.ne_of_gt (clLive n c hm)
  · rcases List.mem_cons.mp ha with rfl | ha
    · exact ⟨get_size _, _, hC⟩
    · obtain ⟨x, hx, rfl⟩ := List.mem_map.mp ha
      obtain ⟨⟨o, e, _⟩, h2⟩ := ok.empty x.1 x.2 hx
      exact ⟨get_ge (Nat.le_of_succ_le h2), o, e⟩
  · rcases List.mem_cons.mp ha with rfl | ha
    · exact .inl (List.mem_cons_self ..)
    · rw [cells, List.map_append] at ha
      rcases List.mem_append.mp ha with ha | ha
      · exact .inl (List.mem_cons_of_mem _ ha)
      · obtain ⟨x, hx, rfl⟩ := List.mem_map.mp ha
        exact .inr (fa_cell (clLook x.1 x.2 hx))
  · rw [cells] at ht
    rcases List.mem_append.mp (mem_of_lookup ht) with hm | hm
    · exact List.mem_map.mpr ⟨_, hm, rfl⟩
    · rcases clGo_mem env scope.names [] y t hm with h | ⟨h1, _⟩
      · cases h
      · rw [lookup_of_nodup so.nodup h1] at hy; cases hy
noncomputable def sigOk (σ : Sig) (names : Names) (x : Str) : Bool := σ.all fun e => e.1 == x || (match names.lookup e.1 with | some .local => false | some .cell => false | _ => true)
theorem st_cenv {c : Cx} {ns : Names} {scope : Scope} {env : Env} {he : Heap} {X0 X N : List Addr} {σ : Sig} {F : Str → List Addr} {C : Addr} {s1 s : Shared} {x : Str} {d : D} {v : Value}
    (ef : EnvFor ns env) (so : ScOk ns scope) (hσ : sigOk σ scope.names x = true) (hx : scope.names.lookup x = some .local ∨ scope.names.lookup x = some .cell) (st : St c he X0 X env σ F s1) (n : Nxt s1 s) (hN : ∀ a ∈ N, s1.heap.get? a = none ∧ ∃ o, s.heap.get? a = some o)
    (fr : FrW (cenvOf scope C env) s.heap) (hfa : ∀ a ∈ fa (cenvOf scope C env), a ∈ N ∨ a ∈ fa env) (lx : Look s.heap (cenvOf scope C env) x v) (rx : Rep (N ++ X) s.heap v d) :
    St c he X0 (N ++ X) (cenvOf scope C env) ((x, false, d) :: σ) F s := by
  have t := st.fresh n N hN
  have nN : ∀ a ∈ N, ∀ b, (∃ o, s1.heap.get? b = some o) → b ≠ a := fun a ha b ⟨o, hb⟩ e => by rw [e, (hN a ha).1] at hb; cases hb
  refine { base := t.base, fw := fr, fx := fun a ha => (hfa a ha).elim (List.mem_append_left _) fun m => List.mem_append_right _ (st.fx a m), f0 := fun a ha h0 => ?_, vis := fun y o dy e hv => ?_, own := fun y dy e a ha => ?_, apart := fun y dy z dz e1 e2 hne => ?_ }
  · rcases hfa a ha with m | m
    · exact nN a m a (st.base.live a (st.base.x0x a h0)) rfl
    · exact st.f0 a m h0
  · rw [List.lookup_cons] at e
    by_cases hy : y = x
    · subst hy
      rw [beq_self_eq_true] at e; cases e
      exact ⟨v, lx, rx⟩
    · rw [beq_false_of_ne hy] at e
      have hm := mem_of_lookup e
      have h1 := List.all_eq_true.mp hσ _ hm
      simp only [beq_false_of_ne hy, Bool.false_or] at h1
      rw [kind_cenv] at hv
      cases ek : scope.names.lookup y with
      | none => rw [ek] at hv; cases hv
      | some kd =>
        rw [ek] at h1 hv
        have hkd : kd = .free := by
          cases kd <;> first | rfl | (exfalso; exact absurd h1 (by decide)) | (exfalso; exact absurd hv (by simp [isVar]))
        subst hkd
        have hvy : isVar (env.kindOf y) = true := by
          rcases so.free y (mem_of_lookup ek) with h | h
          · rw [ef.cel y h]; rfl
          · rcases ef.fre y h with h | h <;> rw [h] <;> rfl
        obtain ⟨u, lu, ru⟩ := t.vis y o dy e hvy
        exact ⟨u, look_cenv ef so ek lu, ru⟩
  · rw [List.lookup_cons] at e
    by_cases hy : y = x
    · subst hy; rw [beq_self_eq_true] at e; cases e
    · rw [beq_false_of_ne hy] at e
      obtain ⟨a1, a2, a3⟩ := st.own y dy e a ha
      refine ⟨List.mem_append_right _ a1, a2, fun hf => ?_⟩
      rcases hfa a hf with m | m
      · exact nN a m a (st.base.live a a1) rfl
      · exact a3 m
  · rw [List.lookup_cons] at e1 e2
    by_cases hy : y = x
    · subst hy; rw [beq_self_eq_true] at e1; cases e1
    · by_cases hz : z = x
      · subst hz; rw [beq_self_eq_true] at e2; cases e2
      · rw [beq_false_of_ne hy] at e1
        rw [beq_false_of_ne hz] at e2
        exact st.apart y dy z dz e1 e2 hne
end Mine
end
section
open PySem PySem.W PyProof.Rows
set_option linter.unusedSimpArgs false
set_option linter.unusedVariables false
namespace Mine
noncomputable def testLoop (ifs : List Expr) (env : Env) : Sem Bool := forIn ifs true fun c r => if r = true then do let ok ← isTrue c env (eval c env); pure (ForInStep.yield ok) else pure (ForInStep.yield r)
noncomputable def ETs (c : Cx) (k : Nat) (ns : Names) (σ : Sig) (ifs : List Expr) (b : Bool) : Prop :=
  ∀ env, EnvFor ns env → ∀ A, AOk k A → ∀ he X0 X F s Q E, St c he X0 X env σ F s → (∀ s', Nxt s s' → Q b s') → wpAny (model c.prog c.w) A (testLoop ifs env) Q E s
section
variable {c : Cx} {k : Nat} {ns : Names} {σ : Sig}
theorem ets_nil : ETs c k ns σ [] true := fun env ef A a he X0 X F s Q E st q => by
  unfold testLoop; rw [List.forIn_nil]; exact wpAny_pure (q s (.refl s))
theorem ets_one {t : Expr} {b : Bool} (h : ET c k ns σ t b) : ETs c k ns σ [t] b := fun env ef A a he X0 X F s Q E st q => by
  unfold testLoop
  rw [List.forIn_cons]
  simp only [if_true]
  refine wpAny_bind (wpAny_bind (h env ef A a he X0 X F s _ E st fun s' n => wpAny_pure ?_))
  show wpAny _ _ (forIn [] b _) _ _ _
  rw [List.forIn_nil]; exact wpAny_pure (q s' n)
theorem filter_take {α : Type} (p : α → Bool) (l : List α) (i : Nat) (x : α) (h : l[i]? = some x) : (l.take (i + 1)).filter p = (l.take i).filter p ++ (if p x then [x] else []) := by
  rw [List.take_add_one, h, List.filter_append]
  cases hp : p x <;> simp [hp]
theorem comp_core {elt iter : Expr} {x : Str} {px : Pos} {ifs : List Expr} {scope : Scope} {pos : Pos} {env : Env} {A : Around} {he : Heap} {X0 X : List Addr} {F : Str → List Addr} {s1 s2 : Shared} {I : Addr} {ds : List D} {p : D → Bool} {f : D → D}
    {RR : Value → Addr → Result → Shared → Prop} {E : Value → Shared → Prop}
    (ef : EnvFor ns env) (a : AOk k A) (so : ScOk ns scope) (hσ : sigOk σ scope.names x = true) (hx : scope.names.lookup x = some .local ∨ scope.names.lookup x = some .cell)
    (st : St c he X0 X env σ F s1) (n12 : Nxt s1 s2) (hI : s1.heap.get? I = none) (src : Src c A X s1.heap s2.heap I ds)
    (htest : ∀ d ∈ ds, ETs c k scope.names ((x, false, d) :: σ) ifs (p d)) (helt : ∀ d ∈ ds, p d = true → EV c k scope.names ((x, false, d) :: σ) elt (f d)) (hlen : ds.length ≤ sizeLine)
    (fin : ∀ s' D C ys, Nxt s1 s' → s1.heap.get? D = none → s1.heap.get? C = none → D ≠ C → s'.heap.PlainList D ys.toArray → RepL (C :: X) s'.heap ys ((ds.filter p).map f) → (∃ m, s'.heap.Ns C m) → RR (.ref D) C (.ok .next) s') :
    wpAny (model c.prog c.w) A (newList []) (fun acc s₃ => wpAny (model c.prog c.w) A (newFunctionEnv scope env.globals (clOf env scope.names) [] env.qual none .none (some env)) (fun cenv s₄ =>
      codeAny (model c.prog c.w) A (.compStart (.ListComp elt [⟨.Name x px, iter, ifs, 0⟩] scope pos) 0 (.ref I) acc { cenv with scope := relabel scope env }) (RR acc cenv.locals) s₄) E s₃) E s2 := by
  obtain ⟨fp, P, Stt, W, st0, hfp, halive, hitem⟩ := src
  refine wpAny_newList ?_ (Nat.zero_le _)
  refine newEnv_comp ?_
  let s3 : Shared := { s2 with heap := s2.heap.push { cls := .type "list", data := .seq ([] : List Value).toArray } }
  have n23 : Nxt s2 s3 := .push
  have st2 := st.nxt (n12.trans n23)
  obtain ⟨fr, xt, hnew, hfa, hcell⟩ := comp_frame (s := s3) ef so st2.fw
  have hC : s3.heap.objs.size = s2.heap.objs.size + 1 := size_push' _ _
  let D := s2.heap.objs.size
  let C := s3.heap.objs.size
  let N : List Addr := I :: D :: (C :: newCells C scope.names)
  let s4 : Shared := { s3 with heap := pushCells (s3.heap.push { cls := .type "dict", data := .dict #[] }) scope.names }
  have n34 : Nxt s3 s4 := ⟨xt, rfl, .refl _⟩
  have n14 : Nxt s1 s4 := (n12.trans n23).trans n34
  have hD1 : s1.heap.get? D = none := none_before n12 (get_size _)
  have hN1 : ∀ a ∈ N, s1.heap.get? a = none := fun b hb => by
    rcases List.mem_cons.mp hb with rfl | hb
    · exact hI
    rcases List.mem_cons.mp hb with rfl | hb
    · exact hD1
    · exact none_before (n12.trans n23) (hnew b hb).1
  have hID : I ≠ D := fun e => by obtain ⟨o, h⟩ := halive 0 _ st0; rw [e] at h; rw [get_size] at h; cases h
  have hCN : ∀ b ∈ C :: newCells C scope.names, b ≠ I ∧ b ≠ D := fun b hb => by
    refine ⟨fun e => ?_, fun e => ?_⟩
    · obtain ⟨o, h⟩ := halive 0 _ st0
      have := (hnew b hb).1; rw [e, n23.heap I o h] at this; cases this
    · have := (hnew b hb).1
      rw [e, Heap.get?_push_size _ rfl] at this; cases this
  have hID' : D ≠ C := ((hCN C (List.mem_cons_self ..)).2).symm
  have hk1 : ∀ (g g' : Heap) (M : List Addr), (∀ b ∈ M, b ∈ N) → Ext s1.heap g → Keep M g g' → Ext s1.heap g' := fun g g' M hM h1 h2 b o e => h2 b o (fun hm => by rw [hN1 b (hM b hm)] at e; cases e) (h1 b o e)
  have hfpN : ∀ b ∈ fp, b = I ∨ (b ∉ N ∧ ∃ o, s1.heap.get? b = some o) := fun b hb => (hfp b hb).imp id fun ⟨_, o, e⟩ => ⟨(fun hm => by rw [hN1 b hm] at e; cases e), o, e⟩
  let J : Nat → Shared → Prop := fun i s' => Nxt s1 s' ∧ Stt i s'.heap ∧ (∀ b ∈ N, ∃ o, s'.heap.get? b = some o) ∧ FrW (cenvOf scope C env) s'.heap ∧
    ∃ ys, s'.heap.PlainList D ys.toArray ∧ RepL (N ++ X) s'.heap ys (((ds.take i).filter p).map f)
  have hfa' : ∀ a ∈ fa (cenvOf scope C env), a ∈ N ∨ a ∈ fa env := fun b hb => (hfa b hb).imp (fun m => List.mem_cons_of_mem _ (List.mem_cons_of_mem _ m)) id
  have efc := envFor_cenv ef so C
  have hxc : (cenvOf scope C env).kindOf x = some .local ∨ (cenvOf scope C env).kindOf x = some .cell := hx.imp (efc.loc x) (efc.cel x)
  have hNI : I ∈ N := List.mem_cons_self ..
  have hND : D ∈ N := List.mem_cons_of_mem _ (List.mem_cons_self ..)
  have J0 : J 0 s4 := by
    refine ⟨n14, W.frame 0 _ _ st0 fun b hb o e => (n23.trans n34).heap b o e, fun b hb => ?_, fr, [], ⟨0, xt _ _ (Heap.get?_push_size _ rfl)⟩, by simp; exact .nil⟩
    rcases List.mem_cons.mp hb with rfl | hb
    · obtain ⟨o, e⟩ := halive 0 _ st0; exact ⟨o, (n23.trans n34).heap _ _ e⟩
    rcases List.mem_cons.mp hb with rfl | hb
    · exact ⟨_, xt _ _ (Heap.get?_push_size _ rfl)⟩
    · exact (hnew b hb).2
  have loop : codeAny (model c.prog c.w) A (.compLoop (.ListComp elt [⟨.Name x px, iter, ifs, 0⟩] scope pos) 0 (.ref I) (.ref D) (cenvOf scope C env)) (RR (.ref D) C) s4 := by
    refine codeAny_compLoop_tests (fun m s' => ∃ i, m = ds.length - i ∧ i ≤ ds.length ∧ J i s') ?_ (ds.length - 0) ⟨0, rfl, Nat.zero_le _, J0⟩
    rintro m s' ⟨i, rfl, hi, n1, hst, hlive, frc, ys, hD, rys⟩
    by_cases hlt : i < ds.length
    · refine W.item i s' _ _ hlt hst fun v h' tk hP hst' hk => ?_
      obtain ⟨d, hd, rd⟩ := hitem i v hlt hP
      have hdm := List.mem_of_getElem? hd
      have x1 : Ext s1.heap h' := hk1 _ _ [I] (fun b hb => by simp at hb; subst hb; exact hNI) n1.heap hk
      have live1 : ∀ b ∈ N, ∃ o, h'.get? b = some o := fun b hb => by
        by_cases hbI : b = I
        · subst hbI; exact halive _ _ hst'
        · obtain ⟨o, e⟩ := hlive b hb; exact ⟨o, hk b o (by simpa using hbI) e⟩
      have fr1 : FrW (cenvOf scope C env) h' := frc.keep fun b hb o e => hk b o (by
        simp only [List.mem_singleton]
        rcases hfa b hb with m | m
        · exact (hCN b m).1
        · intro e2; subst e2; have := st.fx b m; obtain ⟨o2, e3⟩ := st.base.live b this; rw [hI] at e3; cases e3) e
      have hD1' := hD.at fun o e => hk D o (by simpa using hID.symm) e
      have rys1 := rys.keep (h' := h') (Keep.sub (X := [I]) hk fun b hb => by simp at hb; subst hb; exact List.mem_append_left _ hNI)
      refine wpAny_assign_Name (store_at efc.toEnvOk fr1 hxc fun h2 tk2 t hat fr2 lx2 _ hk2 halt => ?_)
      have htN : t ∈ C :: newCells C scope.names := by
        rcases hat with ⟨_, rfl⟩ | ⟨hkx, hcx⟩
        · exact List.mem_cons_self ..
        · refine List.mem_cons_of_mem _ (hcell x ?_ t hcx)
          rcases hx with hx | hx
          · rw [efc.loc x hx] at hkx; cases hkx
          · exact hx
      have htN' : t ∈ N := List.mem_cons_of_mem _ (List.mem_cons_of_mem _ htN)
      have x2 : Ext s1.heap h2 := hk1 _ _ [t] (fun b hb => by simp at hb; subst hb; exact htN') x1 hk2
      have live2 : ∀ b ∈ N, ∃ o, h2.get? b = some o := fun b hb => by
        by_cases hbt : b = t
        · subst hbt; exact halt
        · obtain ⟨o, e⟩ := live1 b hb; exact ⟨o, hk2 b o (by simpa using hbt) e⟩
      have hst2 : Stt (i + 1) h2 := W.frame _ _ _ hst' fun b hb o e => hk2 b o (fun hm => by
        simp at hm; subst hm
        rcases hfpN b hb with rfl | ⟨m, _⟩
        · exact (hCN b htN).1 rfl
        · exact m htN') e
      have hD2 := hD1'.at fun o e => hk2 D o (by simp only [List.mem_singleton]; exact ((hCN t htN).2).symm) e
      have rys2 := rys1.keep (h' := h2) (Keep.sub (X := [t]) hk2 fun b hb => by simp at hb; subst hb; exact List.mem_append_left _ htN')
      have n2 : Nxt s1 { s' with heap := h2, toks := tk2 } := ⟨x2, n1.os, n1.gens⟩
      have stc : St c he X0 (N ++ X) (cenvOf scope C env) ((x, false, d) :: σ) F { s' with heap := h2, toks := tk2 } :=
        st_cenv ef so hσ hx st n2 (fun b hb => ⟨hN1 b hb, live2 b hb⟩) fr2 hfa' lx2 (rd (N ++ X) h2 (fun b hb => (List.mem_append.mp hb).elim (fun m => .inr (hN1 b m)) .inl) x2.keep)
      refine htest d hdm _ efc A a he X0 (N ++ X) F _ _ _ stc fun s5 n5 => ?_
      have hfil := filter_take p ds i d hd
      cases hp : p d with
      | false =>
        simp only [Bool.false_eq_true, if_false]
        refine ⟨_, ?_, i + 1, rfl, hlt, n2.trans n5, W.frame _ _ _ hst2 fun b hb o e => n5.heap b o e, fun b hb => let ⟨o, e⟩ := live2 b hb; ⟨o, n5.heap b o e⟩, fr2.keep fun b _ o e => n5.heap b o e, ys, hD2.at fun o e => n5.heap _ o e, ?_⟩
        · omega
        · rw [hfil, hp]; simpa using rys2.ext n5.heap
      | true =>
        simp only [if_true]
        refine helt d hdm hp _ efc A a he X0 (N ++ X) F _ _ _ (stc.nxt n5) fun y s6 n6 ry => ?_
        have hD6 := (hD2.at fun o e => n5.heap _ o e).at fun o e => n6.heap _ o e
        have hys : ys.length ≤ ds.length := by
          have := rys.length
          rw [List.length_map] at this
          rw [this]
          exact Nat.le_trans (List.length_filter_le _ _) (by simp; omega)
        refine wpAny_list_append_plain (hsz := by simp; omega) hD6 fun h7 hl7 hs7 => ?_
        have n7 := (n2.trans n5).trans n6
        have hk7 : Keep [D] s6.heap h7 := keep_sameBut hs7
        have kNX : Keep (N ++ X) s6.heap h7 := hk7.sub fun b hb => by simp at hb; subst hb; exact List.mem_append_left _ hND
        refine ⟨_, ?_, i + 1, rfl, hlt, ⟨hk1 _ _ [D] (fun b hb => by simp at hb; subst hb; exact hND) n7.heap hk7, n7.os, n7.gens⟩, W.frame _ _ _ hst2 fun b hb o e => ?_, fun b hb => ?_, fr2.keep fun b hb o e => ?_, ys ++ [y], by simpa using hl7, ?_⟩
        · omega
        · refine hk7 b o (fun hm => ?_) (n6.heap b o (n5.heap b o e))
          simp at hm; subst hm
          rcases hfpN _ hb with h | ⟨m, _⟩
          · exact hID h.symm
          · exact m hND
        · by_cases hbD : b = D
          · subst hbD; obtain ⟨n, e⟩ := hl7; exact ⟨_, e⟩
          · obtain ⟨o, e⟩ := live2 b hb; exact ⟨o, hk7 b o (by simpa using hbD) (n6.heap b o (n5.heap b o e))⟩
        · refine hk7 b o (fun hm => ?_) (n6.heap b o (n5.heap b o e))
          simp at hm; subst hm
          rcases hfa _ hb with m | m
          · exact (hCN _ m).2 rfl
          · have := st.fx _ m; obtain ⟨o2, e3⟩ := st.base.live _ this; rw [hD1] at e3; cases e3
        · rw [hfil, hp]
          simp only [if_true, List.map_append, List.map_cons, List.map_nil]
          exact (((rys2.ext n5.heap).ext n6.heap).keep kNX).snoc (ry.keep kNX)
    · have hin : i = ds.length := by omega
      subst hin
      refine W.done s' _ _ hst fun h' tk hk => ?_
      have x1 : Ext s1.heap h' := hk1 _ _ [I] (fun b hb => by simp at hb; subst hb; exact hNI) n1.heap hk
      have fr1 : FrW (cenvOf scope C env) h' := frc.keep fun b hb o e => hk b o (by
        simp only [List.mem_singleton]
        rcases hfa b hb with m | m
        · exact (hCN b m).1
        · intro e2; subst e2; have := st.fx b m; obtain ⟨o2, e3⟩ := st.base.live b this; rw [hI] at e3; cases e3) e
      refine fin _ D C ys ⟨x1, n1.os, n1.gens⟩ hD1 (hN1 C (List.mem_cons_of_mem _ (List.mem_cons_of_mem _ (List.mem_cons_self ..)))) hID' (hD.at fun o e => hk D o (by simpa using hID.symm) e) ?_ fr1.ns
      rw [List.take_length] at rys
      refine (rys.keep (h' := h') (Keep.sub (X := [I]) hk fun b hb => by simp at hb; subst hb; exact List.mem_append_left _ hNI)).sub fun b hb => ?_
      rcases List.mem_cons.mp hb with rfl | hb
      · exact List.mem_append_left _ (List.mem_cons_of_mem _ (List.mem_cons_of_mem _ (List.mem_cons_self ..)))
      · exact List.mem_append_right _ hb
  exact codeAny_compStart_list loop (W.self 0 _ _ _ J0.2.1 loop)
end
end Mine
end
section
open PySem PySem.W PyProof.Rows
set_option linter.unusedSimpArgs false
set_option linter.unusedVariables false
namespace Mine
inductive Out where
  | next (σ : Sig)
  | brk (σ : Sig)
  | ret (d : D)
structure Kp (X0 X : List Addr) (s : Shared) (X' : List Addr) (s' : Shared) : Prop where
  keep : ∀ b o, (b ∉ X ∨ b ∈ X0) → s.heap.get? b = some o → s'.heap.get? b = some o
  sub : ∀ a ∈ X', a ∈ X ∨ s.heap.get? a = none
  gens : GKeep s.gens s'.gens
theorem Kp.of_nxt {X0 X : List Addr} {s s' : Shared} (n : Nxt s s') : Kp X0 X s X s' := ⟨fun b o _ e => n.heap b o e, fun a h => .inl h, n.gens⟩
theorem Kp.trans {X0 X X1 X2 : List Addr} {s s1 s2 : Shared} (x : Kp X0 X s X1 s1) (y : Kp X0 X1 s1 X2 s2) : Kp X0 X s X2 s2 := by
  refine ⟨fun b o h e => ?_, fun a ha => ?_, x.gens.trans y.gens⟩
  · have e1 := x.keep b o h e
    refine y.keep b o ?_ e1
    rcases h with h | h
    · refine .inl fun m => ?_
      rcases x.sub b m with h' | h'
      · exact h h'
      · rw [h'] at e; cases e
    · exact .inr h
  · rcases y.sub a ha with h | h
    · exact x.sub a h
    · by_cases hX : a ∈ X
      · exact .inl hX
      · refine .inr ?_
        cases e : s.heap.get? a with
        | none => rfl
        | some o => have := x.keep a o (.inl hX) e; rw [h] at this; cases this
structure Fin0 (c : Cx) (he : Heap) (X0 : List Addr) (s : Shared) (v : Value) (d : D) : Prop where
  keep : Ext he s.heap
  rep : Rep X0 s.heap v d
  os : s.os = c.os0
  gens : AllBare s.gens
noncomputable def Ends (c : Cx) (he : Heap) (X0 X : List Addr) (env : Env) (s : Shared) (out : Out) (fl : Flow) (X' : List Addr) (F' : Str → List Addr) (s' : Shared) : Prop := match out with
  | .next σ' => fl = .next ∧ St c he X0 X' env σ' F' s' ∧ Kp X0 X s X' s'
  | .brk σ' => fl = .brk ∧ St c he X0 X' env σ' F' s' ∧ Kp X0 X s X' s'
  | .ret d => ∃ v, fl = .ret v ∧ Fin0 c he X0 s' v d ∧ GKeep s.gens s'.gens
noncomputable def EX (c : Cx) (k : Nat) (ns : Names) (σ : Sig) (st : Stmt) (out : Out) : Prop :=
  ∀ env, EnvFor ns env → ∀ A, AOk k A → ∀ he X0 X F s Q E, St c he X0 X env σ F s → (∀ fl X' F' s', Ends c he X0 X env s out fl X' F' s' → Q fl s') → wpAny (model c.prog c.w) A (exec st env) Q E s
noncomputable def EXs (c : Cx) (k : Nat) (ns : Names) (σ : Sig) (ss : List Stmt) (out : Out) : Prop :=
  ∀ env, EnvFor ns env → ∀ A, AOk k A → ∀ he X0 X F s Q E, St c he X0 X env σ F s → (∀ fl X' F' s', Ends c he X0 X env s out fl X' F' s' → Q fl s') → wpAny (model c.prog c.w) A (execs ss env) Q E s
theorem Ends.after {c : Cx} {he : Heap} {X0 X X1 : List Addr} {env : Env} {s s1 : Shared} {out : Out} {fl : Flow} {X' : List Addr} {F' : Str → List Addr} {s' : Shared} (x : Kp X0 X s X1 s1) (e : Ends c he X0 X1 env s1 out fl X' F' s') : Ends c he X0 X env s out fl X' F' s' := by
  cases out with
  | next σ => exact ⟨e.1, e.2.1, x.trans e.2.2⟩
  | brk σ => exact ⟨e.1, e.2.1, x.trans e.2.2⟩
  | ret d => obtain ⟨v, e1, e2, e3⟩ := e; exact ⟨v, e1, e2, x.gens.trans e3⟩
section
variable {c : Cx} {k : Nat} {ns : Names} {σ : Sig}
theorem exs_nil : EXs c k ns σ [] (.next σ) := fun env ef A a he X0 X F s Q E st q => wpAny_execs_nil (q _ X F s ⟨rfl, st, .of_nxt (.refl s)⟩)
theorem exs_cons {st : Stmt} {rest : List Stmt} {σ1 : Sig} {out : Out} (h1 : EX c k ns σ st (.next σ1)) (h2 : EXs c k ns σ1 rest out) : EXs c k ns σ (st :: rest) out := by
  intro env ef A a he X0 X F s Q E st q
  refine wpAny_execs_cons (h1 env ef A a he X0 X F s _ E st fun fl X1 F1 s1 en => ?_)
  obtain ⟨rfl, st1, kp⟩ := en
  exact h2 env ef A a he X0 X1 F1 s1 Q E st1 fun fl X' F' s' en => q fl X' F' s' (en.after kp)
theorem exs_ret {st : Stmt} {rest : List Stmt} {d : D} (h1 : EX c k ns σ st (.ret d)) : EXs c k ns σ (st :: rest) (.ret d) := by
  intro env ef A a he X0 X F s Q E st q
  refine wpAny_execs_cons (h1 env ef A a he X0 X F s _ E st fun fl X1 F1 s1 en => ?_)
  obtain ⟨v, rfl, fin, gk⟩ := en
  exact q _ X1 F1 s1 ⟨v, rfl, fin, gk⟩
theorem exs_brk {st : Stmt} {rest : List Stmt} {σ1 : Sig} (h1 : EX c k ns σ st (.brk σ1)) : EXs c k ns σ (st :: rest) (.brk σ1) := by
  intro env ef A a he X0 X F s Q E st q
  refine wpAny_execs_cons (h1 env ef A a he X0 X F s _ E st fun fl X1 F1 s1 en => ?_)
  obtain ⟨rfl, st1, kp⟩ := en
  exact q _ X1 F1 s1 ⟨rfl, st1, kp⟩
theorem exs_weak {σ' : Sig} {ss : List Stmt} {out : Out} (w : ∀ x y, σ'.lookup x = some y → σ.lookup x = some y) (h : EXs c k ns σ' ss out) : EXs c k ns σ ss out := by
  intro env ef A a he X0 X F s Q E st q
  exact h env ef A a he X0 X F s Q E (st.weak w) q
theorem exs_weakOut {σ1 σ2 : Sig} {ss : List Stmt} (w : ∀ x y, σ2.lookup x = some y → σ1.lookup x = some y) (h : EXs c k ns σ ss (.next σ1)) : EXs c k ns σ ss (.next σ2) := by
  intro env ef A a he X0 X F s Q E st q
  exact h env ef A a he X0 X F s Q E st fun fl X' F' s' en => q fl X' F' s' ⟨en.1, en.2.1.weak w, en.2.2⟩
theorem ex_if {t : Expr} {body orelse : List Stmt} {pos : Pos} {b : Bool} {out : Out} (ht : ET c k ns σ t b) (h1 : b = true → EXs c k ns σ body out) (h2 : b = false → EXs c k ns σ orelse out) : EX c k ns σ (.If t body orelse pos) out := by
  intro env ef A a he X0 X F s Q E st q
  refine wpAny_If (ht env ef A a he X0 X F s _ E st fun s1 n1 => ?_)
  cases b with
  | true => exact h1 rfl env ef A a he X0 X F s1 Q E (st.nxt n1) fun fl X' F' s' en => q fl X' F' s' (en.after (.of_nxt n1))
  | false => exact h2 rfl env ef A a he X0 X F s1 Q E (st.nxt n1) fun fl X' F' s' en => q fl X' F' s' (en.after (.of_nxt n1))
theorem fin0 {he : Heap} {X0 X : List Addr} {s : Shared} {v : Value} {d : D} (b : Base c he X0 X s) (r : Rep X s.heap v d) : Fin0 c he X0 s v d := ⟨b.keep, r.sub fun a ha => b.x0x a ha, b.os, b.gens⟩
theorem ex_return {e : Expr} {pos : Pos} {d : D} (h : EV c k ns σ e d) : EX c k ns σ (.Return (some e) pos) (.ret d) := by
  intro env ef A a he X0 X F s Q E st q
  exact wpAny_Return_some (h env ef A a he X0 X F s _ E st fun v s1 n1 r => q _ X F s1 ⟨v, rfl, fin0 (st.base.nxt n1) r, n1.gens⟩)
theorem ex_returnOwn {x : Str} {p pos : Pos} {d : D} (hs : σ.lookup x = some (true, d)) (hv : isVar (ns.lookup x) = true) (hn : nameOk x = true) : EX c k ns σ (.Return (some (.Name x p)) pos) (.ret d) := by
  intro env ef A a he X0 X F s Q E st q
  obtain ⟨v, l, r⟩ := st.vis x true _ hs (isVar_of ef hv)
  simp only [nameOk, Bool.and_eq_true, Bool.not_eq_true'] at hn
  refine wpAny_Return_some (name_look ef.kind l hn.1 hn.2 (q _ X F s ⟨v, rfl, ⟨st.base.keep, ?_, st.base.os, st.base.gens⟩, .refl _⟩))
  exact OwnAt.rep (OwnAt.re (fun b hb => .inl (st.base.x0x b hb)) r) fun b hb => (st.own x d hs b hb).2.1
theorem ex_break {pos : Pos} : EX c k ns σ (.Break pos) (.brk σ) := fun env ef A a he X0 X F s Q E st q => wpAny_Break (q _ X F s ⟨rfl, st, .of_nxt (.refl s)⟩)
theorem St.touch' {he : Heap} {X0 X : List Addr} {env : Env} {F : Str → List Addr} {s s' : Shared} (t : St c he X0 X env σ F s) (M : List Addr) (k : Keep M s.heap s'.heap)
    (hm : ∀ a ∈ M, a ∈ X ∧ he.get? a = none ∧ a ∉ fa env ∧ (∃ o, s'.heap.get? a = some o) ∧ ∀ x d, σ.lookup x = some (true, d) → a ∉ F x) (ho : s'.os = s.os) (hg : AllBare s.gens → AllBare s'.gens) : St c he X0 X env σ F s' where
  base := ⟨t.base.old, fun b o e => k b o (fun q => by rw [(hm b q).2.1] at e; cases e) (t.base.keep b o e), t.base.x0, t.base.x0x, t.base.new,
    fun a ha => by
      by_cases q : a ∈ M
      · exact (hm a q).2.2.2.1
      · obtain ⟨o, e⟩ := t.base.live a ha; exact ⟨o, k a o q e⟩, ho.trans t.base.os, hg t.base.gens⟩
  fw := t.fw.keep fun a ha o e => k a o (fun q => (hm a q).2.2.1 ha) e
  fx := t.fx
  f0 := t.f0
  vis := fun x o d e hv => by
    obtain ⟨v, l, r⟩ := t.vis x o d e hv
    have kx : Keep X s.heap s'.heap := k.sub fun a ha => (hm a ha).1
    refine ⟨v, l.keep fun a ha o e => k a o (fun q => (hm a q).2.2.1 ha) e, ?_⟩
    cases o with
    | true => exact OwnAt.keep r kx fun a ha o e' => k a o (fun q => (hm a q).2.2.2.2 x d e ha) e'
    | false => exact Rep.keep kx r
  own := t.own
  apart := t.apart
theorem St.bind {he : Heap} {X0 X : List Addr} {env : Env} {F : Str → List Addr} {s : Shared} {h' : Heap} {tk : Nat} {x : Str} {v : Value} {d : D} {t : Addr} (st : St c he X0 X env σ F s)
    (hat : At1 env x t) (fw : FrW env h') (l : Look h' env x v) (ls : ∀ y u, y ≠ x → Look s.heap env y u → Look h' env y u) (kt : Keep [t] s.heap h') (al : ∃ o, h'.get? t = some o)
    (r : Rep X s.heap v d) : St c he X0 X env ((x, false, d) :: σ) F { s with heap := h', toks := tk } ∧ Kp X0 X s X { s with heap := h', toks := tk } := by
  have htf : t ∈ fa env := by
    rcases hat with ⟨_, rfl⟩ | ⟨_, hc⟩
    · exact List.mem_cons_self ..
    · exact fa_cell hc
  have htX := st.fx t htf
  have ht0 := st.f0 t htf
  have kX : Keep X s.heap h' := kt.sub fun b hb => by simp at hb; subst hb; exact htX
  have hb : Base c he X0 X { s with heap := h', toks := tk } := by
    refine ⟨st.base.old, fun b o e => kt b o (fun m => ?_) (st.base.keep b o e), st.base.x0, st.base.x0x, st.base.new, fun b hb => ?_, st.base.os, st.base.gens⟩
    · simp at m; subst m; have := st.base.new b htX ht0; rw [e] at this; cases this
    · by_cases hbt : b = t
      · subst hbt; exact al
      · obtain ⟨o, e⟩ := st.base.live b hb; exact ⟨o, kt b o (by simpa using hbt) e⟩
  refine ⟨⟨hb, fw, st.fx, st.f0, fun y o dy e hv => ?_, fun y dy e => ?_, fun y dy z dz e1 e2 hne => ?_⟩, ⟨fun b o hb e => kt b o (fun m => ?_) e, fun b hb => .inl hb, .refl _⟩⟩
  · rw [List.lookup_cons] at e
    by_cases hy : y = x
    · subst hy; rw [beq_self_eq_true] at e; cases e; exact ⟨v, l, r.keep kX⟩
    · rw [beq_false_of_ne hy] at e
      obtain ⟨u, lu, ru⟩ := st.vis y o dy e hv
      refine ⟨u, ls y u hy lu, ?_⟩
      cases o with
      | true => exact OwnAt.keep ru kX fun b hb o e' => kt b o (fun m => by simp at m; subst m; exact (st.own y dy e b hb).2.2 htf) e'
      | false => exact Rep.keep kX ru
  · rw [List.lookup_cons] at e
    by_cases hy : y = x
    · subst hy; rw [beq_self_eq_true] at e; cases e
    · rw [beq_false_of_ne hy] at e; exact st.own y dy e
  · rw [List.lookup_cons] at e1 e2
    by_cases hy : y = x
    · subst hy; rw [beq_self_eq_true] at e1; cases e1
    · by_cases hz : z = x
      · subst hz; rw [beq_self_eq_true] at e2; cases e2
      · rw [beq_false_of_ne hy] at e1
        rw [beq_false_of_ne hz] at e2
        exact st.apart y dy z dz e1 e2 hne
  · simp at m; subst m
    rcases hb with hb | hb
    · exact hb htX
    · exact ht0 hb
theorem store_st {env : Env} {A : Around} {he : Heap} {X0 X : List Addr} {F : Str → List Addr} {s : Shared} {x : Str} {v : Value} {d : D} {Q : Unit → Shared → Prop} {E : Value → Shared → Prop} (ef : EnvFor ns env) (hx : ns.lookup x = some .local ∨ ns.lookup x = some .cell)
    (st : St c he X0 X env σ F s) (r : Rep X s.heap v d) (q : ∀ s', St c he X0 X env ((x, false, d) :: σ) F s' → Kp X0 X s X s' → Q () s') : wpAny (model c.prog c.w) A (storeName env x v) Q E s := by
  refine store_at ef.toEnvOk st.fw (hx.imp (ef.loc x) (ef.cel x)) fun h' tk t hat fw l ls kt al => ?_
  obtain ⟨s1, k1⟩ := st.bind (tk := tk) hat fw l ls kt al r
  exact q _ s1 k1
theorem ex_assign {x : Str} {p pos : Pos} {e : Expr} {d : D} (h : EV c k ns σ e d) (hx : ns.lookup x = some .local ∨ ns.lookup x = some .cell) (hs : ∀ env, EnvFor ns env → swapsWith e (some (.Name x p)) pos.line env = pure false) :
    EX c k ns σ (.Assign [.Name x p] e pos) (.next ((x, false, d) :: σ)) := by
  intro env ef A a he X0 X F s Q E st q
  refine wpAny_Assign_Name (h env ef A a he X0 X F s _ E st fun v s1 n1 r => store_st ef hx (st.nxt n1) r fun s2 st2 kp => q _ X F s2 ⟨rfl, st2, (Kp.of_nxt n1).trans kp⟩) (hs env ef)
theorem ex_augStr {x : Str} {p pos : Pos} {e : Expr} {a b : List Nat} (hs : σ.lookup x = some (false, .str a)) (hx : ns.lookup x = some .local ∨ ns.lookup x = some .cell) (hn : nameOk x = true) (h : EV c k ns σ e (.str b)) (hl : a.length + b.length ≤ sizeLine) :
    EX c k ns σ (.AugAssign (.Name x p) .Add e pos) (.next ((x, false, .str (a ++ b)) :: σ)) := by
  intro env ef A ao he X0 X F s Q E st q
  have hv : isVar (ns.lookup x) = true := by rcases hx with h | h <;> rw [h] <;> rfl
  obtain ⟨v, l, r⟩ := st.vis x false _ hs (isVar_of ef hv)
  simp only [nameOk, Bool.and_eq_true, Bool.not_eq_true'] at hn
  refine wpAny_AugAssign_Name (load_look ef.kind l hn.1 (h env ef A ao he X0 X F s _ E st fun w s1 n1 rw => ?_))
  cases r with
  | str _ t =>
    cases rw with
    | str _ u =>
      refine SB.iadd (fun t' tk => ?_) (by simpa [PySem.Str.length] using hl)
      have e : (⟨a.toArray⟩ : PySem.Str) ++ (⟨b.toArray⟩ : PySem.Str) = ⟨(a ++ b).toArray⟩ := by
        apply Str.ext'; rw [Str.cps_append]; simp
      rw [e]
      exact store_st ef hx ((st.nxt n1).nxt .tok) (.str _ _) fun s2 st2 kp => q _ X F s2 ⟨rfl, st2, ((Kp.of_nxt n1).trans (Kp.of_nxt .tok)).trans kp⟩
end
end Mine
end
section
open PySem PySem.W PyProof.Rows
set_option linter.unusedSimpArgs false
set_option linter.unusedVariables false
namespace Mine
section
variable {c : Cx} {k : Nat} {ns : Names} {σ : Sig}
structure CompOk (ns : Names) (σ : Sig) (scope : Scope) (x : Str) : Prop where
  so : ScOk ns scope
  sg : sigOk σ scope.names x = true
  hx : scope.names.lookup x = some .local ∨ scope.names.lookup x = some .cell
  hl : ∀ y ∈ scope.names, y.2 = .local → scope.names.lookup y.1 = some .local
theorem closure_ok {ns : Names} {scope : Scope} {env : Env} (ef : EnvFor ns env) (so : ScOk ns scope) : closureFor scope env = pure (clOf env scope.names) :=
  closure_of fun n hn => by
    rcases so.free n hn with h | h
    · exact ef.all n (.inl (ef.cel n h))
    · exact ef.all n (ef.fre n h)
theorem ev_comp {elt iter : Expr} {x : Str} {px : Pos} {ifs : List Expr} {scope : Scope} {pos : Pos} {ds : List D} {p : D → Bool} {f : D → D} (co : CompOk ns σ scope x) (hi : EI c k ns σ iter ds)
    (htest : ∀ d ∈ ds, ETs c k scope.names ((x, false, d) :: σ) ifs (p d)) (helt : ∀ d ∈ ds, p d = true → EV c k scope.names ((x, false, d) :: σ) elt (f d)) (hlen : ds.length ≤ sizeLine)
    (hs : ∀ env x, foldedSetIterable iter env x = pure x) :
    EV c k ns σ (.ListComp elt [⟨.Name x px, iter, ifs, 0⟩] scope pos) (.list ((ds.filter p).map f)) := by
  intro env ef A a he X0 X F s Q E st q
  rw [eval_ListComp]
  refine wpAny_comprehension_free (use := none) rfl (hs env) (closure_ok ef co.so) co.so.kind co.hl (hi env ef A a he X0 X F s _ E st fun v s1 n1 hit => ?_)
  have st1 := st.nxt n1
  refine hit _ _ fun I s2 n2 hI src => ?_
  refine comp_core (RR := fun acc C => compPost (model c.prog c.w) A E none Q acc C) ef a co.so co.sg co.hx st1 n2 hI src htest helt hlen fun s' D C ys n3 hD hC hDC pl rys hn => ?_
  obtain ⟨m, hn⟩ := hn
  refine ⟨m, hn, fun h' hs' => ?_⟩
  have kC : Keep [C] s'.heap h' := keep_sameBut hs'
  have hDX : D ∉ X := fun hm => by obtain ⟨o, e⟩ := st1.base.live D hm; rw [hD] at e; cases e
  refine q _ _ (n1.trans ⟨fun b o e => kC b o (fun hm => by simp at hm; subst hm; rw [hC] at e; cases e) (n3.heap b o e), n3.os, n3.gens⟩) ?_
  refine .list hDX (pl.at fun o e => kC D o (by simpa using hDC) e) ?_
  exact ((rys.keep (h' := h') (Keep.sub (X := [C]) kC fun b hb => by simp at hb; subst hb; exact List.mem_cons_self ..)).sub fun b hb => List.mem_cons_of_mem _ hb)
theorem ex_assignComp {y : Str} {py spos : Pos} {elt iter : Expr} {x : Str} {px : Pos} {ifs : List Expr} {scope : Scope} {pos : Pos} {ds : List D} {p : D → Bool} {f : D → D} (co : CompOk ns σ scope x) (hi : EI c k ns σ iter ds)
    (htest : ∀ d ∈ ds, ETs c k scope.names ((x, false, d) :: σ) ifs (p d)) (helt : ∀ d ∈ ds, p d = true → EV c k scope.names ((x, false, d) :: σ) elt (f d)) (hlen : ds.length ≤ sizeLine)
    (hs : ∀ env x, foldedSetIterable iter env x = pure x) (hy : ns.lookup y = some .local)
    (hsw : ∀ env, EnvFor ns env → swapsWith (.ListComp elt [⟨.Name x px, iter, ifs, 0⟩] scope pos) (some (.Name y py)) spos.line env = pure true) :
    EX c k ns σ (.Assign [.Name y py] (.ListComp elt [⟨.Name x px, iter, ifs, 0⟩] scope pos) spos) (.next ((y, false, .list ((ds.filter p).map f)) :: σ)) := by
  intro env ef A a he X0 X F s Q E st q
  rw [exec_Assign_Name_used _ _ _ _ (hsw env ef)]
  refine wpAny_bind (wpAny_standAt (wpAny_bind ?_))
  show wpAny _ A (do let _ ← comprehension (.ListComp elt [⟨.Name x px, iter, ifs, 0⟩] scope pos) scope env _ (newList []) false (eval iter env) (some (assign (.Name y py) env))) _ _ s
  refine wpAny_bind (wpAny_mono (wpAny_comprehension_free (use := some (assign (.Name y py) env)) (Q := fun _ s' => Q .next s') rfl (hs env) (closure_ok ef co.so) co.so.kind co.hl
    (hi env ef A a he X0 X F s _ E st fun v s1 n1 hit => ?_)) (fun _ s' hq => wpAny_pure (wpAny_pure hq)) fun _ _ e => e)
  have st1 := st.nxt n1
  refine hit _ _ fun I s2 n2 hI src => ?_
  refine comp_core (RR := fun acc C => compPost (model c.prog c.w) A E (some (assign (.Name y py) env)) (fun _ s' => Q .next s') acc C) ef a co.so co.sg co.hx st1 n2 hI src htest helt hlen fun s' D C ys n3 hD hC hDC pl rys hn => ?_
  obtain ⟨m, hn⟩ := hn
  show wpAny _ A (assign (.Name y py) env (.ref D)) _ _ _
  have hDX : D ∉ X := fun hm => by obtain ⟨o, e⟩ := st1.base.live D hm; rw [hD] at e; cases e
  have st3 := st1.nxt n3
  have hCn : C ≠ env.locals := fun e => by
    have := st1.fx env.locals (List.mem_cons_self ..); obtain ⟨o, e2⟩ := st1.base.live _ this; rw [← e, hC] at e2; cases e2
  refine wpAny_assign_Name (store_at ef.toEnvOk st3.fw (.inl (ef.loc y hy)) fun h4 tk4 t hat fw l ls kt al => ?_)
  have htf : t ∈ fa env := by
    rcases hat with ⟨_, rfl⟩ | ⟨_, hc⟩
    · exact List.mem_cons_self ..
    · exact fa_cell hc
  have hCt : C ≠ t := fun e => by have := st1.fx t htf; obtain ⟨o, e2⟩ := st1.base.live _ this; rw [← e, hC] at e2; cases e2
  obtain ⟨st4, kp4⟩ := st3.bind (tk := tk4) hat fw l ls kt al (.list hDX pl (rys.sub fun b hb => List.mem_cons_of_mem _ hb))
  refine ⟨m, hn.at' fun o e => kt C o (by simpa using hCt) e, fun h5 hs5 => ?_⟩
  have k5 : Keep [C] h4 h5 := keep_sameBut hs5
  have hCX : C ∉ X := fun hm => by obtain ⟨o, e⟩ := st1.base.live C hm; rw [hC] at e; cases e
  have st4' := st4.weak (σ' := (y, false, .list ((ds.filter p).map f)) :: σ) fun _ _ e => e
  have ext5 : ∀ b o, s'.heap.get? b = some o → b ≠ C → b ≠ t → h5.get? b = some o := fun b o e h1 h2 => k5 b o (by simpa using h1) (kt b o (by simpa using h2) e)
  refine q _ X F _ ⟨rfl, ?_, ?_⟩
  · have kX5 : ∀ b, b ∈ X → ∀ o, h4.get? b = some o → h5.get? b = some o := fun b hb o e => k5 b o (fun hm => by simp at hm; subst hm; exact hCX hb) e
    refine ⟨⟨st4.base.old, fun b o e => k5 b o (fun hm => ?_) (st4.base.keep b o e), st4.base.x0, st4.base.x0x, st4.base.new, fun b hb => ?_, st4.base.os, st4.base.gens⟩, st4.fw.keep fun b hb o e => kX5 b (st4.fx b hb) o e, st4.fx, st4.f0, fun z o dz e hv => ?_, st4.own, st4.apart⟩
    · simp at hm; subst hm; have := st1.base.keep _ o e; rw [hC] at this; cases this
    · obtain ⟨o, e⟩ := st4.base.live b hb; exact ⟨o, kX5 b hb o e⟩
    · rw [List.lookup_cons] at e
      by_cases hz : z = y
      · subst hz
        rw [beq_self_eq_true] at e; cases e
        refine ⟨.ref D, l.keep fun b hb o e => kX5 b (st4.fx b hb) o e, ?_⟩
        have hDt : D ≠ t := fun e => hDX (e ▸ st1.fx t htf)
        refine .list hDX (pl.at fun o e => ext5 D o e hDC hDt) ?_
        have r4 := rys.keep (h' := h4) (Keep.sub (X := [t]) kt fun b hb => by simp at hb; subst hb; exact List.mem_cons_of_mem _ (st1.fx _ htf))
        exact (r4.keep (h' := h5) (Keep.sub (X := [C]) k5 fun b hb => by simp at hb; subst hb; exact List.mem_cons_self ..)).sub fun b hb => List.mem_cons_of_mem _ hb
      · rw [beq_false_of_ne hz] at e
        obtain ⟨u, lu, ru⟩ := st1.vis z o dz e hv
        refine ⟨u, (ls z u hz (lu.ext n3.heap)).keep fun b hb o e => kX5 b (st4.fx b hb) o e, ?_⟩
        have kk : Keep (C :: X) s1.heap h5 := fun b o hb e => ext5 b o (n3.heap b o e) (fun h => hb (h ▸ List.mem_cons_self ..)) fun h => hb (List.mem_cons_of_mem _ (h ▸ st1.fx t htf))
        cases o with
        | true =>
          refine OwnAt.re (X := C :: X) (fun b hb => .inl (List.mem_cons_of_mem _ hb)) ((OwnAt.re (Y := C :: X) (fun b hb => ?_) ru).keep kk fun b hb o e => ?_)
          · rcases List.mem_cons.mp hb with rfl | hb
            · exact .inr hC
            · exact .inl hb
          · have h1 := st1.own z dz ‹_› b hb
            exact ext5 b o (n3.heap b o e) (fun h => hCX (h ▸ h1.1)) fun h => h1.2.2 (h ▸ htf)
        | false =>
          refine Rep.sub (X := C :: X) ((Rep.re (Y := C :: X) (fun b hb => ?_) ru).keep kk) fun b hb => List.mem_cons_of_mem _ hb
          rcases List.mem_cons.mp hb with rfl | hb
          · exact .inr hC
          · exact .inl hb
  · refine (Kp.of_nxt n1).trans ⟨fun b o hb e => k5 b o (fun hm => ?_) (kp4.keep b o hb (n3.heap b o e)), fun b hb => .inl hb, n3.gens.trans kp4.gens⟩
    simp at hm; subst hm; rw [hC] at e; cases e
end
end Mine
end
section
open PySem PySem.W PyProof.Rows
set_option linter.unusedSimpArgs false
set_option linter.unusedVariables false
namespace Mine
section
variable {c : Cx} {k : Nat} {ns : Names} {σ : Sig}
theorem St.bindOwn {he : Heap} {X0 X : List Addr} {env : Env} {F : Str → List Addr} {s : Shared} {h' : Heap} {tk : Nat} {x : Str} {v : Value} {d : D} {t : Addr} {f : List Addr} (st : St c he X0 X env σ F s)
    (hat : At1 env x t) (fw : FrW env h') (l : Look h' env x v) (ls : ∀ y u, y ≠ x → Look s.heap env y u → Look h' env y u) (kt : Keep [t] s.heap h') (al : ∃ o, h'.get? t = some o)
    (r : OwnAt X s.heap v d f) (hf : ∀ a ∈ f, a ∈ X ∧ a ∉ X0 ∧ a ∉ fa env) (hd : ∀ z dz, σ.lookup z = some (true, dz) → z ≠ x → ∀ a ∈ f, a ∉ F z) :
    St c he X0 X env ((x, true, d) :: σ) (fun z => if z = x then f else F z) { s with heap := h', toks := tk } ∧ Kp X0 X s X { s with heap := h', toks := tk } := by
  have htf : t ∈ fa env := by
    rcases hat with ⟨_, rfl⟩ | ⟨_, hc⟩
    · exact List.mem_cons_self ..
    · exact fa_cell hc
  have htX := st.fx t htf
  have ht0 := st.f0 t htf
  have kX : Keep X s.heap h' := kt.sub fun b hb => by simp at hb; subst hb; exact htX
  have hb : Base c he X0 X { s with heap := h', toks := tk } := by
    refine ⟨st.base.old, fun b o e => kt b o (fun m => ?_) (st.base.keep b o e), st.base.x0, st.base.x0x, st.base.new, fun b hb => ?_, st.base.os, st.base.gens⟩
    · simp at m; subst m; have := st.base.new b htX ht0; rw [e] at this; cases this
    · by_cases hbt : b = t
      · subst hbt; exact al
      · obtain ⟨o, e⟩ := st.base.live b hb; exact ⟨o, kt b o (by simpa using hbt) e⟩
  refine ⟨⟨hb, fw, st.fx, st.f0, fun y o dy e hv => ?_, fun y dy e => ?_, fun y dy z dz e1 e2 hne => ?_⟩, ⟨fun b o hb e => kt b o (fun m => ?_) e, fun b hb => .inl hb, .refl _⟩⟩
  · rw [List.lookup_cons] at e
    by_cases hy : y = x
    · subst hy; rw [beq_self_eq_true] at e; cases e
      refine ⟨v, l, ?_⟩
      simp only [if_true]
      exact r.keep kX fun b hb o e => kt b o (fun m => by simp at m; subst m; exact (hf b hb).2.2 htf) e
    · rw [beq_false_of_ne hy] at e
      obtain ⟨u, lu, ru⟩ := st.vis y o dy e hv
      refine ⟨u, ls y u hy lu, ?_⟩
      cases o with
      | true =>
        simp only [if_true, if_neg hy] at ru ⊢
        exact OwnAt.keep ru kX fun b hb o e' => kt b o (fun m => by simp at m; subst m; exact (st.own y dy e b hb).2.2 htf) e'
      | false => exact Rep.keep kX ru
  · rw [List.lookup_cons] at e
    by_cases hy : y = x
    · subst hy; rw [if_pos rfl]; exact hf
    · rw [beq_false_of_ne hy] at e; rw [if_neg hy]; exact st.own y dy e
  · rw [List.lookup_cons] at e1 e2
    by_cases hy : y = x
    · subst hy
      by_cases hz : z = y
      · exact absurd hz.symm hne
      · rw [beq_false_of_ne hz] at e2
        rw [if_pos rfl, if_neg hz]
        exact hd z dz e2 hz
    · rw [beq_false_of_ne hy] at e1
      by_cases hz : z = x
      · subst hz
        rw [if_pos rfl, if_neg hy]
        exact fun a ha hm => hd y dy e1 hy a hm ha
      · rw [beq_false_of_ne hz] at e2
        rw [if_neg hy, if_neg hz]
        exact st.apart y dy z dz e1 e2 hne
  · simp at m; subst m
    rcases hb with hb | hb
    · exact hb htX
    · exact ht0 hb
theorem store_own {env : Env} {A : Around} {he : Heap} {X0 X : List Addr} {F : Str → List Addr} {s : Shared} {x : Str} {v : Value} {d : D} {f : List Addr} {Q : Unit → Shared → Prop} {E : Value → Shared → Prop} (ef : EnvFor ns env) (hx : ns.lookup x = some .local ∨ ns.lookup x = some .cell)
    (st : St c he X0 X env σ F s) (r : OwnAt X s.heap v d f) (hf : ∀ a ∈ f, a ∈ X ∧ a ∉ X0 ∧ a ∉ fa env) (hd : ∀ z dz, σ.lookup z = some (true, dz) → z ≠ x → ∀ a ∈ f, a ∉ F z)
    (q : ∀ s', St c he X0 X env ((x, true, d) :: σ) (fun z => if z = x then f else F z) s' → Kp X0 X s X s' → Q () s') : wpAny (model c.prog c.w) A (storeName env x v) Q E s := by
  refine store_at ef.toEnvOk st.fw (hx.imp (ef.loc x) (ef.cel x)) fun h' tk t hat fw l ls kt al => ?_
  obtain ⟨s1, k1⟩ := st.bindOwn (tk := tk) hat fw l ls kt al r hf hd
  exact q _ s1 k1
theorem ex_ownList {y : Str} {py lp spos : Pos} {es : List Expr} {ds : List D} (h : EVs c k ns σ es ds) (hl : ds.length ≤ sizeLine) (hy : ns.lookup y = some .local ∨ ns.lookup y = some .cell) :
    EX c k ns σ (.Assign [.Name y py] (.List es lp) spos) (.next ((y, true, .list ds) :: σ)) := by
  intro env ef A a he X0 X F s Q E st q
  refine wpAny_Assign_Name (wpAny_List (h.spl env ef A a he X0 X F s _ E lp st fun vs s1 n1 r1 => ⟨by rw [r1.length]; exact hl, ?_⟩)) rfl
  have st1 := st.nxt n1
  have n2 : Nxt s1 { s1 with heap := s1.heap.push { cls := .type "list", data := .seq vs.toArray } } := .push
  have st2 := st1.fresh n2 [s1.heap.objs.size] (fun a ha => by simp at ha; subst ha; exact ⟨get_size _, _, Heap.get?_push_size _ rfl⟩)
  have hnX : s1.heap.objs.size ∉ X := size_off st1.base
  refine store_own ef hy st2 (f := [s1.heap.objs.size]) (.list (plainList_push _ _) ((r1.re fun a ha => ?_).ext n2.heap)) (fun a ha => ?_) (fun z dz e hz a ha hm => ?_) fun s3 st3 kp => ?_
  · rcases List.mem_append.mp ha with h | h
    · simp at h; subst h; exact .inr (get_size _)
    · exact .inl h
  · simp at ha; subst ha
    exact ⟨List.mem_cons_self .., fun h => hnX (st1.base.x0x _ h), fun h => hnX (st1.fx _ h)⟩
  · simp at ha; subst ha
    exact hnX (st1.own z dz e _ hm).1
  · refine q _ _ _ _ ⟨rfl, st3, (Kp.of_nxt n1).trans ⟨fun b o hb e => ?_, fun b hb => ?_, n2.gens.trans kp.gens⟩⟩
    · have hbn : b ≠ s1.heap.objs.size := Nat.ne_of_lt (Heap.lt_size e)
      refine kp.keep b o ?_ (n2.heap b o e)
      rcases hb with hb | hb
      · exact .inl (by simp [hbn, hb])
      · exact .inr hb
    · rcases List.mem_append.mp hb with h | h
      · simp at h; subst h; exact .inr (get_size _)
      · exact .inl h
theorem own_append {env : Env} {A : Around} {he : Heap} {X0 X : List Addr} {F : Str → List Addr} {s : Shared} {y : Str} {a : Addr} {vs : List Value} {ds : List D} {v : Value} {d : D} {Q : Value → Shared → Prop} {E : Value → Shared → Prop}
    (ef : EnvFor ns env) (st : St c he X0 X env σ F s) (hs : σ.lookup y = some (true, .list ds)) (hF : F y = [a]) (l : Look s.heap env y (.ref a)) (p : s.heap.PlainList a vs.toArray) (r : RepL X s.heap vs ds) (rv : Rep X s.heap v d) (hl : ds.length + 1 ≤ sizeLine)
    (q : ∀ s', St c he X0 X env ((y, true, .list (ds ++ [d])) :: σ) F s' → Kp X0 X s X s' → Q .none s') : wpAny (model c.prog c.w) A (call (.builtin "list.append") [.ref a, v]) Q E s := by
  have ho := st.own y _ hs a (by rw [hF]; exact List.mem_cons_self ..)
  refine wpAny_list_append_plain (hsz := by simp [r.length]; omega) p fun h' hl' hs' => ?_
  have ka : Keep [a] s.heap h' := keep_sameBut hs'
  have kX : Keep X s.heap h' := ka.sub fun b hb => by simp at hb; subst hb; exact ho.1
  have st' := (st.weak (σ' := []) (fun _ _ e => nomatch e)).touch' (s' := { s with heap := h' }) [a] ka (fun b hb => ?_) rfl id
  · refine q _ ?_ ⟨fun b o hb e => ka b o (fun hm => ?_) e, fun b hb => .inl hb, .refl _⟩
    · refine { base := st'.base, fw := st'.fw, fx := st'.fx, f0 := st'.f0, vis := fun z o dz e hv => ?_, own := fun z dz e => ?_, apart := fun z dz w dw e1 e2 hne => ?_ }
      · rw [List.lookup_cons] at e
        by_cases hz : z = y
        · subst hz; rw [beq_self_eq_true] at e; cases e
          refine ⟨.ref a, l.keep fun b hb o e => ka b o (fun hm => ?_) e, ?_⟩
          · simp at hm; subst hm; exact ho.2.2 hb
          · simp only [if_true]
            rw [hF]
            exact .list (vs := vs ++ [v]) (by simpa using hl') ((r.keep kX).snoc (rv.keep kX))
        · rw [beq_false_of_ne hz] at e
          by_cases hown : o = true ∧ ∃ b ∈ F z, b = a
          · obtain ⟨rfl, b, hb, rfl⟩ := hown
            exact absurd (by rw [hF]; exact List.mem_cons_self ..) (st.apart z dz y _ e hs hz _ hb)
          · obtain ⟨u, lu, ru⟩ := st.vis z o dz e hv
            refine ⟨u, lu.keep fun b hb o e => ka b o (fun hm => by simp at hm; subst hm; exact ho.2.2 hb) e, ?_⟩
            cases o with
            | true => exact OwnAt.keep ru kX fun b hb o e' => ka b o (fun hm => by simp at hm; subst hm; exact hown ⟨rfl, _, hb, rfl⟩) e'
            | false => exact Rep.keep kX ru
      · rw [List.lookup_cons] at e
        by_cases hz : z = y
        · subst hz; exact st.own z _ hs
        · rw [beq_false_of_ne hz] at e; exact st.own z dz e
      · rw [List.lookup_cons] at e1 e2
        by_cases hz : z = y
        · subst hz
          by_cases hw : w = z
          · exact absurd hw.symm hne
          · rw [beq_false_of_ne hw] at e2
            exact st.apart z _ w dw hs e2 hne
        · rw [beq_false_of_ne hz] at e1
          by_cases hw : w = y
          · subst hw
            exact st.apart z dz w _ e1 hs hne
          · rw [beq_false_of_ne hw] at e2
            exact st.apart z dz w dw e1 e2 hne
    · simp at hm; subst hm
      rcases hb with hb | hb
      · exact hb ho.1
      · exact ho.2.1 hb
  · simp at hb; subst hb
    refine ⟨ho.1, st.base.new _ ho.1 ho.2.1, ho.2.2, ?_, ?_⟩
    · obtain ⟨n, e⟩ := hl'; exact ⟨_, e⟩
    · exact fun _ _ e => nomatch e
theorem append_call {env : Env} {A : Around} {s : Shared} {y : Str} {yp apos pos : Pos} {e : Expr} {a : Addr} {vs : List Value} {Q : Value → Shared → Prop} {E : Value → Shared → Prop} (ef : EnvFor ns env) (hn : nameOk y = true) (he : starEach [e] env = [(false, eval e env)]) (hp : (apos.endLine == pos.line) = true)
    (hb : attributeBase (.Name y yp) (Str.ofString "append") env (eval (.Name y yp) env) = eval (.Name y yp) env) (l : Look s.heap env y (.ref a)) (p : s.heap.PlainList a vs.toArray)
    (h : wpAny (model c.prog c.w) A (eval e env) (fun v s₂ => wpAny (model c.prog c.w) A (call (.builtin "list.append") [.ref a, v]) Q E s₂) E s) :
    wpAny (model c.prog c.w) A (eval (.Call (.Attribute (.Name y yp) (Str.ofString "append") apos) [e] [] pos) env) Q E s := by
  simp only [nameOk, Bool.and_eq_true, Bool.not_eq_true'] at hn
  refine wpAny_Call_append hb (by rw [he]; rfl) hp (by rw [he]; rfl) (name_look ef.kind l hn.1 hn.2 ⟨a, vs.toArray, rfl, ?_, h⟩)
  obtain ⟨n, e⟩ := p
  exact ⟨_, n, e, rfl, rfl, rfl⟩
theorem ex_append {y : Str} {yp apos pos spos : Pos} {e : Expr} {ds : List D} {d : D} (hs : σ.lookup y = some (true, .list ds)) (hv : isVar (ns.lookup y) = true) (hn : nameOk y = true) (he : ∀ env, starEach [e] env = [(false, eval e env)]) (hp : (apos.endLine == pos.line) = true)
    (hb : ∀ env, attributeBase (.Name y yp) (Str.ofString "append") env (eval (.Name y yp) env) = eval (.Name y yp) env) (h : EV c k ns σ e d) (hl : ds.length + 1 ≤ sizeLine) :
    EX c k ns σ (.Expr (.Call (.Attribute (.Name y yp) (Str.ofString "append") apos) [e] [] pos) spos) (.next ((y, true, .list (ds ++ [d])) :: σ)) := by
  intro env ef A ao he' X0 X F s Q E st q
  obtain ⟨v, l, r⟩ := st.vis y true _ hs (isVar_of ef hv)
  simp only [if_true] at r
  generalize hF : F y = fy at r
  cases r with
  | list p r =>
    rename_i a vs
    refine wpAny_Expr_any (append_call ef hn (he env) hp (hb env) l p (h env ef A ao he' X0 X F s _ E st fun v s1 n1 rv => ?_)) (by unfold interactive; rw [ef.kind]; rfl)
    exact own_append ef (st.nxt n1) hs hF (l.ext n1.heap) (p.at fun o e => n1.heap _ o e) (r.ext n1.heap) rv hl fun s2 st2 kp => q _ X F s2 ⟨rfl, st2, (Kp.of_nxt n1).trans kp⟩
theorem St.free {he : Heap} {X0 X : List Addr} {env : Env} {F : Str → List Addr} {s : Shared} {z : Str} {dz : D} (st : St c he X0 X env σ F s) (hz : σ.lookup z = some (true, dz)) :
    St c he X0 (X.filter fun a => !(F z).contains a) env ((z, false, dz) :: σ) F s ∧ (∀ v, OwnAt X s.heap v dz (F z) → Rep (X.filter fun a => !(F z).contains a) s.heap v dz) := by
  have sub : ∀ a ∈ X.filter fun a => !(F z).contains a, a ∈ X := fun a ha => (List.mem_filter.mp ha).1
  have mem : ∀ a ∈ X, a ∉ F z → a ∈ X.filter fun a => !(F z).contains a := fun a ha hf => List.mem_filter.mpr ⟨ha, by simpa using hf⟩
  have hrep : ∀ v, OwnAt X s.heap v dz (F z) → Rep (X.filter fun a => !(F z).contains a) s.heap v dz := fun v r =>
    OwnAt.rep (OwnAt.re (fun a ha => .inl (sub a ha)) r) fun a ha hm => by have := (List.mem_filter.mp hm).2; simp at this; exact this ha
  refine ⟨⟨⟨st.base.old, st.base.keep, st.base.x0, fun a ha => mem a (st.base.x0x a ha) fun hf => (st.own z dz hz a hf).2.1 ha, fun a ha => st.base.new a (sub a ha), fun a ha => st.base.live a (sub a ha), st.base.os, st.base.gens⟩,
    st.fw, fun a ha => mem a (st.fx a ha) fun hf => (st.own z dz hz a hf).2.2 ha, st.f0, fun y o dy e hv => ?_, fun y dy e a ha => ?_, fun y dy w dw e1 e2 hne => ?_⟩, hrep⟩
  · rw [List.lookup_cons] at e
    by_cases hy : y = z
    · subst hy; rw [beq_self_eq_true] at e; cases e
      obtain ⟨u, lu, ru⟩ := st.vis y true _ hz hv
      exact ⟨u, lu, hrep u ru⟩
    · rw [beq_false_of_ne hy] at e
      obtain ⟨u, lu, ru⟩ := st.vis y o dy e hv
      refine ⟨u, lu, ?_⟩
      cases o with
      | true => exact OwnAt.re (fun a ha => .inl (sub a ha)) ru
      | false => exact Rep.sub ru sub
  · rw [List.lookup_cons] at e
    by_cases hy : y = z
    · subst hy; rw [beq_self_eq_true] at e; cases e
    · rw [beq_false_of_ne hy] at e
      obtain ⟨a1, a2, a3⟩ := st.own y dy e a ha
      exact ⟨mem a a1 (st.apart y dy z dz e hz hy a ha), a2, a3⟩
  · rw [List.lookup_cons] at e1 e2
    by_cases hy : y = z
    · subst hy; rw [beq_self_eq_true] at e1; cases e1
    · by_cases hw : w = z
      · subst hw; rw [beq_self_eq_true] at e2; cases e2
      · rw [beq_false_of_ne hy] at e1
        rw [beq_false_of_ne hw] at e2
        exact st.apart y dy w dw e1 e2 hne
theorem ex_appendMove {y z : Str} {yp zp apos pos spos : Pos} {ds : List D} {dz : D} (hs : σ.lookup y = some (true, .list ds)) (hz : σ.lookup z = some (true, dz)) (hne : y ≠ z) (hv : isVar (ns.lookup y) = true) (hvz : isVar (ns.lookup z) = true) (hn : nameOk y = true) (hnz : nameOk z = true) (hp : (apos.endLine == pos.line) = true)
    (hb : ∀ env, attributeBase (.Name y yp) (Str.ofString "append") env (eval (.Name y yp) env) = eval (.Name y yp) env) (hl : ds.length + 1 ≤ sizeLine) :
    EX c k ns σ (.Expr (.Call (.Attribute (.Name y yp) (Str.ofString "append") apos) [.Name z zp] [] pos) spos) (.next ((y, true, .list (ds ++ [dz])) :: (z, false, dz) :: σ)) := by
  intro env ef A ao he' X0 X F s Q E st q
  obtain ⟨st1, hrep⟩ := st.free hz
  have hs1 : ((z, false, dz) :: σ).lookup y = some (true, .list ds) := by rw [List.lookup_cons, beq_false_of_ne hne]; exact hs
  obtain ⟨v, l, r⟩ := st1.vis y true _ hs1 (isVar_of ef hv)
  obtain ⟨u, lu, ru⟩ := st.vis z true _ hz (isVar_of ef hvz)
  simp only [if_true] at r
  generalize hF : F y = fy at r
  simp only [nameOk, Bool.and_eq_true, Bool.not_eq_true'] at hnz
  cases r with
  | list p r =>
    rename_i a vs
    refine wpAny_Expr_any (append_call ef hn rfl hp (hb env) l p (name_look ef.kind lu hnz.1 hnz.2 ?_)) (by unfold interactive; rw [ef.kind]; rfl)
    refine own_append ef st1 hs1 hF l p r (hrep u ru) hl fun s2 st2 kp => q _ _ F s2 ⟨rfl, st2, ⟨fun b o hb' e => kp.keep b o ?_ e, fun b hb' => ?_, kp.gens⟩⟩
    · exact hb'.imp (fun h hm => h (List.mem_filter.mp hm).1) id
    · exact .inl (List.mem_filter.mp hb').1
end
end Mine
end
section
open PySem PySem.W PyProof.Rows
set_option linter.unusedSimpArgs false
set_option linter.unusedVariables false
namespace Mine
section
variable {c : Cx} {k : Nat} {ns : Names} {σ : Sig}
theorem St.addX0 {he : Heap} {X0 X : List Addr} {env : Env} {F : Str → List Addr} {s1 s2 : Shared} {I : Addr} (st : St c he X0 X env σ F s1) (n : Nxt s1 s2) (hI : s1.heap.get? I = none) (al : ∃ o, s2.heap.get? I = some o) :
    St c he (I :: X0) (I :: X) env σ F s2 := by
  have t := st.fresh n [I] fun a ha => by simp at ha; subst ha; exact ⟨hI, al⟩
  have nX : I ∉ X := st.base.live.fresh hI
  refine ⟨⟨t.base.old, t.base.keep, fun a ha => ?_, fun a ha => ?_, fun a ha h => ?_, t.base.live, t.base.os, t.base.gens⟩, t.fw, t.fx, fun a ha h => ?_, t.vis, fun y dy e a ha => ?_, t.apart⟩
  · rcases List.mem_cons.mp ha with rfl | ha
    · cases e : c.h0.get? a with
      | none => rfl
      | some o => have := st.base.top a o e; rw [hI] at this; cases this
    · exact t.base.x0 a ha
  · rcases List.mem_cons.mp ha with rfl | ha
    · exact List.mem_cons_self ..
    · exact t.base.x0x a ha
  · exact t.base.new a ha fun h' => h (List.mem_cons_of_mem _ h')
  · rcases List.mem_cons.mp h with rfl | h
    · exact nX (st.fx _ ha)
    · exact st.f0 a ha h
  · obtain ⟨a1, a2, a3⟩ := t.own y dy e a ha
    refine ⟨a1, fun h => ?_, a3⟩
    rcases List.mem_cons.mp h with rfl | h
    · exact nX (st.own y dy e _ ha).1
    · exact a2 h
theorem St.dropX0 {he : Heap} {X0 X : List Addr} {env : Env} {F : Str → List Addr} {s : Shared} {I : Addr} (st : St c he (I :: X0) X env σ F s) (hI : he.get? I = none) : St c he X0 X env σ F s :=
  ⟨⟨st.base.old, st.base.keep, fun a ha => st.base.x0 a (List.mem_cons_of_mem _ ha), fun a ha => st.base.x0x a (List.mem_cons_of_mem _ ha), fun a ha h => by
      by_cases q : a = I
      · subst q; exact hI
      · exact st.base.new a ha fun h' => by rcases List.mem_cons.mp h' with h' | h'; exact q h'; exact h h', st.base.live, st.base.os, st.base.gens⟩,
    st.fw, st.fx, fun a ha h => st.f0 a ha (List.mem_cons_of_mem _ h), st.vis, fun y dy e a ha => let ⟨a1, a2, a3⟩ := st.own y dy e a ha; ⟨a1, fun h => a2 (List.mem_cons_of_mem _ h), a3⟩, st.apart⟩
theorem St.dropI {he : Heap} {X0 X : List Addr} {env : Env} {F : Str → List Addr} {s : Shared} {I : Addr} {h' : Heap} {tk : Nat} (st : St c he (I :: X0) X env σ F s) (hk : ∀ b o, b ∉ [I] → s.heap.get? b = some o → h'.get? b = some o) (hI : he.get? I = none) (h0 : I ∉ X0) :
    St c he X0 (X.filter fun a => a != I) env σ F { s with heap := h', toks := tk } := by
  have sub : ∀ a ∈ X.filter fun a => a != I, a ∈ X := fun a ha => (List.mem_filter.mp ha).1
  have mem : ∀ a ∈ X, a ≠ I → a ∈ X.filter fun a => a != I := fun a ha hf => List.mem_filter.mpr ⟨ha, by simpa using hf⟩
  have st' := st.dropX0 hI
  have kX : Keep X s.heap h' := Keep.sub (X := [I]) hk fun b hb => by simp at hb; subst hb; exact st.base.x0x _ (List.mem_cons_self ..)
  have kne : ∀ b, b ≠ I → ∀ o, s.heap.get? b = some o → h'.get? b = some o := fun b hb o e => hk b o (by simpa using hb) e
  have hfa : ∀ a ∈ fa env, a ≠ I := fun a ha h => st.f0 a ha (h ▸ List.mem_cons_self ..)
  refine ⟨⟨st.base.old, fun b o e => kne b (fun h => by rw [h, hI] at e; cases e) o (st.base.keep b o e), st'.base.x0, fun a ha => mem a (st'.base.x0x a ha) fun h => h0 (h ▸ ha), fun a ha => st'.base.new a (sub a ha), fun a ha => ?_, st.base.os, st.base.gens⟩,
    st.fw.keep fun a ha o e => kne a (hfa a ha) o e, fun a ha => mem a (st.fx a ha) (hfa a ha), st'.f0, fun y o dy e hv => ?_, fun y dy e a ha => ?_, st.apart⟩
  · have := (List.mem_filter.mp ha).2
    obtain ⟨o, e⟩ := st.base.live a (sub a ha)
    exact ⟨o, kne a (by simpa using this) o e⟩
  · obtain ⟨u, lu, ru⟩ := st.vis y o dy e hv
    refine ⟨u, lu.keep fun a ha o e => kne a (hfa a ha) o e, ?_⟩
    cases o with
    | true => exact OwnAt.re (fun a ha => .inl (sub a ha)) (OwnAt.keep ru kX fun a ha o e' => kne a (fun h => (st.own y dy e a ha).2.1 (h ▸ List.mem_cons_self ..)) o e')
    | false => exact Rep.sub (Rep.keep kX ru) sub
  · obtain ⟨a1, a2, a3⟩ := st.own y dy e a ha
    exact ⟨mem a a1 fun h => a2 (h ▸ List.mem_cons_self ..), fun h => a2 (List.mem_cons_of_mem _ h), a3⟩
noncomputable def LoopEnd (c : Cx) (k : Nat) (ns : Names) (x : Str) (body : List Stmt) (ds : List D) (τ : Nat → Sig) (j : Nat) (out : Out) : Prop :=
  (j = ds.length ∧ out = .next (τ j)) ∨ ∃ d, ds[j]? = some d ∧ ((∃ r, EXs c k ns ((x, false, d) :: τ j) body (.ret r) ∧ out = .ret r) ∨ ∃ σ', EXs c k ns ((x, false, d) :: τ j) body (.brk σ') ∧ out = .next σ')
theorem ex_for {x : Str} {px pos : Pos} {iter : Expr} {body : List Stmt} {ds : List D} (τ : Nat → Sig) (j : Nat) {out : Out} (hi : EI c k ns σ iter ds) (hx : ns.lookup x = some .local ∨ ns.lookup x = some .cell)
    (h0 : ∀ y v, (τ 0).lookup y = some v → σ.lookup y = some v) (hj : j ≤ ds.length) (step : ∀ i d, i < j → ds[i]? = some d → EXs c k ns ((x, false, d) :: τ i) body (.next (τ (i + 1))))
    (last : LoopEnd c k ns x body ds τ j out) (hs : ∀ env x, foldedSetIterable iter env x = pure x) : EX c k ns σ (.For (.Name x px) iter body [] pos) out := by
  intro env ef A a he X0 X F s Q E st q
  refine wpAny_For (hi env ef A a he X0 X F s _ E st fun v s1 n1 hit => ?_) (hs env)
  have st1 := st.nxt n1
  refine hit _ _ fun I s2 n2 hI src => ?_
  obtain ⟨fp, P, Stt, W, st0, hfp, halive, hitem⟩ := src
  have stI := (st1.weak h0).addX0 n2 hI (halive 0 _ st0)
  have hIhe : he.get? I = none := by
    cases e : he.get? I with
    | none => rfl
    | some o => have := st1.base.keep I o e; rw [hI] at this; cases this
  have ne1 : ∀ b o, s1.heap.get? b = some o → b ≠ I := fun b o e h => by rw [h, hI] at e; cases e
  have kp0 : Kp X0 X s1 (I :: X) s2 := ⟨fun b o _ e => n2.heap b o e, (fun b hb => by
    rcases List.mem_cons.mp hb with rfl | hb
    · exact .inr hI
    · exact .inl hb), n2.gens⟩
  refine codeAny_forLoop (fun m s' => ∃ i X' F', m = ds.length - i ∧ i ≤ j ∧ St c he (I :: X0) X' env (τ i) F' s' ∧ Kp X0 X s1 X' s' ∧ Stt i s'.heap) ?_ (ds.length - 0) ⟨0, I :: X, F, rfl, Nat.zero_le _, stI, kp0, st0⟩
  rintro m s' ⟨i, X', F', rfl, hij, st', kp, hst⟩
  have hnext : ∀ h' tk, (∃ o, h'.get? I = some o) → (∀ b o, b ∉ [I] → s'.heap.get? b = some o → h'.get? b = some o) → St c he (I :: X0) X' env (τ i) F' { s' with heap := h', toks := tk } ∧ Kp X0 X s1 X' { s' with heap := h', toks := tk } := by
    intro h' tk al hk
    refine ⟨st'.touch' [I] hk (fun b hb => ?_) rfl id, ⟨fun b o hb e => hk b o (by simpa using ne1 b o e) (kp.keep b o hb e), kp.sub, kp.gens⟩⟩
    simp at hb; subst hb
    refine ⟨st'.base.x0x _ (List.mem_cons_self ..), hIhe, fun h => st'.f0 _ h (List.mem_cons_self ..), al, fun y dy e h => (st'.own y dy e _ h).2.1 (List.mem_cons_self ..)⟩
  by_cases hlt : i < ds.length
  · refine W.item i s' _ _ hlt hst fun v h' tk hP hst' hk => ?_
    obtain ⟨d, hd, rd⟩ := hitem i v hlt hP
    obtain ⟨st2, kp2⟩ := hnext h' tk (halive _ _ hst') hk
    have rv : Rep X' h' v d := (rd (X' ++ X) h' (fun b hb => (List.mem_append.mp hb).elim (fun m => kp2.sub b m) .inl) fun b o hb e => kp2.keep b o (.inl fun m => hb (List.mem_append_right _ m)) e).sub fun b hb => List.mem_append_left _ hb
    refine wpAny_assign_Name (store_st ef hx st2 rv fun s3 st3 kp3 => ?_)
    have hst3 : Stt (i + 1) s3.heap := W.frame _ _ _ hst' fun b hb o e => kp3.keep b o (by
      rcases hfp b hb with rfl | ⟨hbX, o1, e1⟩
      · exact .inr (List.mem_cons_self ..)
      · refine .inl fun m => ?_
        rcases kp2.sub b m with h | h
        · exact hbX h
        · rw [h] at e1; cases e1) e
    have join : ∀ {X'' : List Addr} {s4 : Shared}, Kp (I :: X0) X' s3 X'' s4 → Kp X0 X s1 X'' s4 ∧ (∀ b ∈ fp, ∀ o, s3.heap.get? b = some o → s4.heap.get? b = some o) := by
      intro X'' s4 kp4
      have kp34 := kp3.trans kp4
      refine ⟨⟨fun b o hb e => kp34.keep b o ?_ (kp2.keep b o hb e), fun b hb => ?_, kp2.gens.trans kp34.gens⟩, fun b hb o e => kp4.keep b o ?_ e⟩
      · rcases hb with hb | hb
        · refine .inl fun m => ?_
          rcases kp2.sub b m with h | h
          · exact hb h
          · rw [h] at e; cases e
        · exact .inr (List.mem_cons_of_mem _ hb)
      · rcases kp34.sub b hb with h | h
        · exact kp2.sub b h
        · by_cases hbX : b ∈ X
          · exact .inl hbX
          · refine .inr ?_
            cases e : s1.heap.get? b with
            | none => rfl
            | some o => have := kp2.keep b o (.inl hbX) e; rw [h] at this; cases this
      · rcases hfp b hb with rfl | ⟨hbX, o1, e1⟩
        · exact .inr (List.mem_cons_self ..)
        · refine .inl fun m => ?_
          rcases kp2.sub b m with h | h
          · exact hbX h
          · rw [h] at e1; cases e1
    by_cases hij' : i < j
    · refine step i d hij' hd env ef A a he (I :: X0) X' F' s3 _ _ st3 fun fl X'' F'' s4 en => ?_
      obtain ⟨rfl, st4, kp4⟩ := en
      obtain ⟨j1, j2⟩ := join kp4
      exact ⟨_, by omega, i + 1, X'', F'', rfl, hij', st4, j1, W.frame _ _ _ hst3 j2⟩
    · have : i = j := by omega
      subst this
      rcases last with ⟨h1, _⟩ | ⟨d', hd', h1⟩
      · omega
      · rw [hd] at hd'; cases hd'
        rcases h1 with ⟨r, hr, rfl⟩ | ⟨σ', hr, rfl⟩
        · refine hr env ef A a he (I :: X0) X' F' s3 _ _ st3 fun fl X'' F'' s4 en => ?_
          obtain ⟨u, rfl, fin, gk⟩ := en
          exact q _ X'' F'' s4 ⟨u, rfl, ⟨fin.keep, fin.rep.sub fun b hb => List.mem_cons_of_mem _ hb, fin.os, fin.gens⟩, ((n1.gens.trans kp2.gens).trans kp3.gens).trans gk⟩
        · refine hr env ef A a he (I :: X0) X' F' s3 _ _ st3 fun fl X'' F'' s4 en => ?_
          obtain ⟨rfl, st4, kp4⟩ := en
          obtain ⟨j1, j2⟩ := join kp4
          exact q _ X'' F'' s4 ⟨rfl, st4.dropX0 hIhe, (Kp.of_nxt n1).trans j1⟩
  · have hin : i = ds.length := by omega
    have hjl : j = ds.length := by omega
    refine W.done s' _ _ (hin ▸ hst) fun h' tk hk => wpAny_execs_nil ?_
    have hI0 : I ∉ X0 := fun h => by obtain ⟨o, e⟩ := st1.base.live I (st1.base.x0x I h); rw [hI] at e; cases e
    have st5 := st'.dropI (tk := tk) hk hIhe hI0
    rcases last with ⟨_, rfl⟩ | ⟨d', hd', _⟩
    · have hij2 : i = j := by omega
      subst hij2
      refine q _ _ F' _ ⟨rfl, st5, (Kp.of_nxt n1).trans ⟨fun b o hb e => hk b o (by simpa using ne1 b o e) (kp.keep b o hb e), fun b hb => kp.sub b (List.mem_filter.mp hb).1, kp.gens⟩⟩
    · have := (List.getElem?_eq_some_iff.mp hd').1; omega
end
end Mine
end
section
open PySem PySem.W PyProof.Rows
set_option linter.unusedSimpArgs false
set_option linter.unusedVariables false
namespace Mine
section
variable {c : Cx} {k : Nat} {ns : Names} {σ : Sig}
noncomputable def tgs (es : List (Str × Pos)) : List Expr := es.map fun e => .Name e.1 e.2
theorem tgs_assign (es : List (Str × Pos)) (env : Env) : assignEach (tgs es) env = es.map fun e => (false, assign (.Name e.1 e.2) env) := by
  induction es with
  | nil => rfl
  | cons e r ih =>
    show (false, assign (.Name e.1 e.2) env) :: assignEach (tgs r) env = _
    rw [ih]; rfl
noncomputable def bindAll : List (Str × Pos) → List D → Sig → Sig
  | e :: r, d :: ds, σ => bindAll r ds ((e.1, false, d) :: σ)
  | _, _, σ => σ
theorem assign_all {env : Env} {A : Around} {he : Heap} {X0 : List Addr} {E : Value → Shared → Prop} (ef : EnvFor ns env) : ∀ (es : List (Str × Pos)) (vs : List Value) (ds : List D) (σ : Sig) (X : List Addr) (F : Str → List Addr) (s : Shared) (Q : Unit → Shared → Prop),
    es.length = ds.length → (∀ e ∈ es, ns.lookup e.1 = some .local ∨ ns.lookup e.1 = some .cell) → St c he X0 X env σ F s → RepL X s.heap vs ds → (∀ s', St c he X0 X env (bindAll es ds σ) F s' → Kp X0 X s X s' → Q () s') →
    wpAny (model c.prog c.w) A (assignInOrder (es.map fun e => assign (.Name e.1 e.2) env) vs) Q E s
  | [], vs, ds, σ, X, F, s, Q, hl, hk, st, r, q => by
    cases ds with
    | nil => cases r; exact wpAny_pure (q s st (.of_nxt (.refl s)))
    | cons => simp at hl
  | e :: es, vs, ds, σ, X, F, s, Q, hl, hk, st, r, q => by
    cases ds with
    | nil => simp at hl
    | cons d ds =>
      cases r with
      | cons r1 r2 =>
        rename_i v vs
        rw [List.map_cons]
        refine wpAny_assignInOrder_more (wpAny_assign_Name (store_st ef (hk e (List.mem_cons_self ..)) st r1 fun s1 st1 kp1 => ?_))
        have r2' : RepL X s1.heap vs ds := r2.keep fun b o hb e => kp1.keep b o (.inl hb) e
        exact assign_all ef es vs ds _ X F s1 Q (by simpa using hl) (fun e he => hk e (List.mem_cons_of_mem _ he)) st1 r2' fun s2 st2 kp2 => q s2 st2 (kp1.trans kp2)
theorem ex_unpack {es : List (Str × Pos)} {kd : Nat} {tp pos : Pos} {e : Expr} {ds : List D} (h : EV c k ns σ e (.tup ds)) (hl : es.length = ds.length) (hk : ∀ e ∈ es, ns.lookup e.1 = some .local ∨ ns.lookup e.1 = some .cell)
    (hs : ∀ env, EnvFor ns env → swapsWithSole [.Tuple (tgs es) kd tp] e pos.line env = pure false) (hw : ∀ env, EnvFor ns env → swappedStores [.Tuple (tgs es) kd tp] e env = pure none) :
    EX c k ns σ (.Assign [.Tuple (tgs es) kd tp] e pos) (.next (bindAll es ds σ)) := by
  intro env ef A a he X0 X F s Q E st q
  refine Assign_Tuple (h env ef A a he X0 X F s _ E st fun v s1 n1 r => ?_) (hs env ef) (hw env ef)
  cases r with
  | tup na p r =>
    rename_i t vs
    have hlen := r.length
    refine wpAny_assign_Tuple a.h p (by rw [tgs_assign]; simp [hl, hlen]) (by rw [tgs_assign]; simp [List.findIdx?_map]) fun h' hx => ?_
    have n2 : Nxt s1 { s1 with heap := h' } := ⟨fun b o e => hx b o (Nat.ne_of_lt (Heap.lt_size e)) e, rfl, .refl _⟩
    rw [tgs_assign, List.map_map, List.toList_toArray]
    exact assign_all ef es vs ds σ X F _ _ hl hk ((st.nxt n1).nxt n2) (r.ext n2.heap) fun s3 st3 kp3 => q _ X F s3 ⟨rfl, st3, ((Kp.of_nxt n1).trans (Kp.of_nxt n2)).trans kp3⟩
/-! calls of defs -/
structure FnAt (c : Cx) (f : Addr) (fd : FuncData) (body : List Stmt) (ps : List Str) : Prop where
  obj : ∃ o, c.h0.get? f = some o ∧ o.data = .func fd
  body : fd.body = .stmts body
  clo : fd.closure = []
  code : c.h0.CodeRec fd.code fd.qualname
  glob : fd.globals = mainGlobals
  bi : fd.builtins = builtinsNs
  kind : fd.scope.kind = .function
  co : fd.scope.isCoroutine = false
  gen : fd.scope.isGenerator = false
  bind : ∀ vals : List Value, vals.length = ps.length → bindArgs fd ⟨vals, []⟩ = pure (ps.zip vals)
  kinds : ∀ p ∈ ps, fd.scope.names.lookup p = some .local ∨ fd.scope.names.lookup p = some .cell
  nodup : ps.Nodup
  nofree : ∀ n, fd.scope.names.lookup n ≠ some .free
  snodup : (fd.scope.names.map (·.1)).Nodup
noncomputable def FD (c : Cx) (k : Nat) (f : Value) (ds : List D) (r : D) : Prop :=
  ∀ A, AOk k A → ∀ he X0 X s (Q : Value → Shared → Prop) E vs, Base c he X0 X s → RepL X s.heap vs ds → (∀ v s', Nxt s s' → Rep X s'.heap v r → Q v s') → wpAny (model c.prog c.w) A (call f vs) Q E s
theorem FN.fd {f : Value} {ds : List D} {r : D} (h : FN c k f ds r) : FD c k f ds r := fun A a he X0 X s Q E vs b rs q => h A a he X0 X s Q E vs b rs.w q
noncomputable def sig0 (ps : List Str) (ds : List D) : Sig := ps.zip (ds.map fun d => (false, d))
theorem bindL_not {kf : Str → Option NameKind} : ∀ (bs : List (Str × Value)) (m : Str → Option Value) (x : Str), (∀ b ∈ bs, b.1 ≠ x) → bindL kf bs m x = m x
  | [], m, x, _ => rfl
  | (n, v) :: r, m, x, h => by
    unfold bindL
    rw [bindL_not r _ x fun b hb => h b (List.mem_cons_of_mem _ hb)]
    have := h (n, v) (List.mem_cons_self ..)
    split
    · simp [Ne.symm this]
    · rfl
theorem bindC_not {kf : Str → Option NameKind} : ∀ (bs : List (Str × Value)) (m : Str → Option Value) (x : Str), (∀ b ∈ bs, b.1 ≠ x) → bindC kf bs m x = m x
  | [], m, x, _ => rfl
  | (n, v) :: r, m, x, h => by
    unfold bindC
    rw [bindC_not r _ x fun b hb => h b (List.mem_cons_of_mem _ hb)]
    have := h (n, v) (List.mem_cons_self ..)
    split
    · rfl
    · simp [Ne.symm this]
theorem sig0_bound {X : List Addr} {h : Heap} {kf : Str → Option NameKind} : ∀ (ps : List Str) (vs : List Value) (ds : List D) (m cm : Str → Option Value), ps.Nodup → RepL X h vs ds → ∀ x o d, (sig0 ps ds).lookup x = some (o, d) →
    ∃ v, (kf x = some .local → bindL kf (ps.zip vs) m x = some v) ∧ (kf x ≠ some .local → bindC kf (ps.zip vs) cm x = some v) ∧ o = false ∧ Rep X h v d ∧ x ∈ ps
  | [], vs, ds, m, cm, _, _, x, o, d, e => by simp [sig0] at e
  | p :: ps, vs, [], m, cm, _, _, x, o, d, e => by simp [sig0] at e
  | p :: ps, vs, d0 :: ds, m, cm, hn, r, x, o, d, e => by
    cases r with
    | cons r1 r2 =>
      rename_i v vs
      rw [List.nodup_cons] at hn
      have e' : ((p, false, d0) :: sig0 ps ds).lookup x = some (o, d) := e
      rw [List.lookup_cons] at e'
      rw [List.zip_cons_cons]
      by_cases hx : x = p
      · subst hx
        rw [beq_self_eq_true] at e'; cases e'
        have hni : ∀ b ∈ ps.zip vs, b.1 ≠ x := fun b hb h => hn.1 (h ▸ (List.of_mem_zip (show (b.1, b.2) ∈ ps.zip vs from hb)).1)
        refine ⟨v, fun hk => ?_, fun hk => ?_, rfl, r1, List.mem_cons_self ..⟩
        · unfold bindL; rw [if_pos hk, bindL_not _ _ _ hni]; simp
        · unfold bindC; rw [if_neg hk, bindC_not _ _ _ hni]; simp
      · rw [beq_false_of_ne hx] at e'
        obtain ⟨u, h1, h2, h3, h4, h5⟩ := sig0_bound (kf := kf) ps vs ds (if kf p = some .local then fun y => if y = p then some v else m y else m) (if kf p = some .local then cm else fun y => if y = p then some v else cm y) hn.2 r2 x o d e'
        exact ⟨u, fun hk => by unfold bindL; exact h1 hk, fun hk => by unfold bindC; exact h2 hk, h3, h4, List.mem_cons_of_mem _ h5⟩
theorem cellsFrom_nodup : ∀ (names : Names) (n : Nat), (names.map (·.1)).Nodup → ((cellsFrom n names []).map (·.1)).Nodup
  | [], n, _ => by simp [cellsFrom]
  | (x, k) :: r, n, h => by
    rw [List.map_cons, List.nodup_cons] at h
    unfold cellsFrom
    split
    · rw [cellsFrom_app, List.map_append, List.nodup_append]
      refine ⟨cellsFrom_nodup r _ h.2, by simp, fun a ha b hb => ?_⟩
      simp at hb; subst hb
      obtain ⟨y, hy, rfl⟩ := List.mem_map.mp ha
      intro e
      exact h.1 (e ▸ List.mem_map.mpr ⟨_, cellsFrom_mem r _ y.1 y.2 hy, rfl⟩)
    · exact cellsFrom_nodup r n h.2
theorem fd_def {f : Addr} {fd : FuncData} {body : List Stmt} {ps : List Str} {ds : List D} {r : D} (fa' : FnAt c f fd body ps) (hl : ds.length = ps.length) (hb : EXs c k fd.scope.names (sig0 ps ds) body (.ret r)) : FD c (k + 1) (.ref f) ds r := by
  intro A a he X0 X s Q E vs b rs q
  obtain ⟨o, ho, hd⟩ := fa'.obj
  have hvl : vs.length = ps.length := by rw [rs.length, hl]
  have hof := b.top f o ho
  have ok := cellsFrom_ok fd.scope.names (s.heap.push { cls := .type "frame", data := .dict #[] }) (s.heap.objs.size + 1) [] ⟨fun _ _ hm => (nomatch hm), List.Pairwise.nil⟩ (by rw [Heap.size_push]; exact Nat.le_refl _)
  rw [Heap.size_push] at ok
  refine wpAny_call (codeAny_call_cells (fd := fd) (body := body) (vals := vs) (binds := ps.zip vs) a.room hof hd (c.lim.keeps b.top) (fa'.code.keeps b.top) fa'.body (fa'.bind vs hvl) fa'.clo (fun x hx => ?_) (fun s1 ic => ?_) fa'.co fa'.gen fa'.kind)
  · have hm := (List.of_mem_zip (show (x.1, x.2) ∈ ps.zip vs from hx)).1
    rcases fa'.kinds x.1 hm with h | h
    · exact .inl h
    · obtain ⟨c1, h1⟩ := cellsFrom_has fd.scope.names (s.heap.objs.size + 1) x.1 (mem_of_lookup h)
      obtain ⟨c2, h2⟩ := lookup_isSome_of_mem h1
      exact .inr ⟨h, by rw [h2]; rfl⟩
  · generalize henv : callEnvC fd s.heap.objs.size f = env at ic ⊢
    have hL : env.locals = s.heap.objs.size := by rw [← henv]; rfl
    have hcells : env.cells = cellsFrom (s.heap.objs.size + 1) fd.scope.names [] := by rw [← henv]; rfl
    have hkind : ∀ x, env.kindOf x = fd.scope.names.lookup x := fun x => by rw [← henv]; rfl
    have ef : EnvFor fd.scope.names env := by
      refine { kind := by rw [← henv]; exact fa'.kind, glob := by rw [← henv]; exact fa'.glob, bi := by rw [← henv]; exact fa'.bi, all := fun n h => ?_, loc := fun x h => (hkind x).trans h, cel := fun x h => (hkind x).trans h, fre := fun x h => .inr ((hkind x).trans h), glo := fun x h => (hkind x).trans h, none := fun x h => (hkind x).trans h }
      rcases h with h | h
      · obtain ⟨c1, h1⟩ := cellsFrom_has fd.scope.names (s.heap.objs.size + 1) n (mem_of_lookup ((hkind n).symm.trans h))
        rw [hcells]; exact lookup_isSome_of_mem h1
      · exact absurd ((hkind n).symm.trans h) (fa'.nofree n)
    obtain ⟨h1, tk1, hs1⟩ := ic.toInCall.same
    have n1 : Nxt s s1 := ⟨ic.toInCall.keep, by rw [hs1], by rw [hs1]; exact .refl _⟩
    have fresh : ∀ a ∈ fa env, s.heap.get? a = none := fun a ha => by
      rcases List.mem_cons.mp ha with rfl | ha
      · rw [hL]; exact get_size _
      · obtain ⟨x, hx, rfl⟩ := List.mem_map.mp ha
        exact get_ge (Nat.le_of_lt (by rw [← hL]; exact ic.above x.1 x.2 hx))
    have hfw : FrW env s1.heap := ⟨⟨_, ic.toInCall.ns⟩, fun n cc hc => ⟨_, ic.cell n cc hc⟩, ic.apart, fun n cc hm => Nat.ne_of_lt (ic.above n cc hm)⟩
    have live1 : ∀ a ∈ fa env, ∃ o, s1.heap.get? a = some o := fun a ha => by
      rcases List.mem_cons.mp ha with rfl | ha
      · obtain ⟨o, _, _, e, _⟩ := ic.toInCall.ns; exact ⟨o, e⟩
      · obtain ⟨x, hx, rfl⟩ := List.mem_map.mp ha
        have hm : (x.1, x.2) ∈ cellsFrom (s.heap.objs.size + 1) fd.scope.names [] := hcells ▸ hx
        have hlk := lookup_of_nodup (cellsFrom_nodup fd.scope.names (s.heap.objs.size + 1) fa'.snodup) hm
        obtain ⟨o, e, _⟩ := ic.cell x.1 x.2 (by rw [hcells]; exact hlk)
        exact ⟨o, e⟩
    have reX : ∀ a ∈ fa env ++ X, a ∈ X ∨ s.heap.get? a = none := fun a ha => (List.mem_append.mp ha).elim (fun m => .inr (fresh a m)) .inl
    have st : St c s.heap X (fa env ++ X) env (sig0 ps ds) (fun _ => []) s1 := by
      refine ⟨⟨b.top, ic.toInCall.keep, fun a ha => b.off ha, fun a ha => List.mem_append_right _ ha, fun a ha h => ?_, fun a ha => ?_, n1.os.trans b.os, n1.gens.bare b.gens⟩, hfw, fun a ha => List.mem_append_left _ ha, fun a ha h => ?_, fun x o d e hv => ?_, fun x d e a ha => ?_, fun x d y d' e1 e2 hne a ha => ?_⟩
      · rcases List.mem_append.mp ha with m | m
        · exact fresh a m
        · exact absurd m h
      · rcases List.mem_append.mp ha with m | m
        · exact live1 a m
        · obtain ⟨o, e⟩ := b.live a m; exact ⟨o, n1.heap a o e⟩
      · obtain ⟨o, e⟩ := b.live a h; rw [fresh a ha] at e; cases e
      · obtain ⟨v, hL', hC', rfl, rv, hxp⟩ := sig0_bound (kf := env.kindOf) ps vs ds (fun _ => none) (fun _ => none) fa'.nodup rs x o d e
        have rv' : Rep (fa env ++ X) s1.heap v d := (rv.re reX).ext n1.heap
        refine ⟨v, ?_, rv'⟩
        rcases fa'.kinds x hxp with h | h
        · have hk : env.kindOf x = some .local := (hkind x).trans h
          exact .inl ⟨hk, _, ic.toInCall.ns, hL' hk⟩
        · have hk : env.kindOf x = some .cell := (hkind x).trans h
          have hnl : env.kindOf x ≠ some .local := by rw [hk]; intro e; cases e
          obtain ⟨cc, hcc⟩ := ef.all x (.inl hk)
          refine .inr ⟨.inl hk, cc, hcc, ?_⟩
          have := ic.cell x cc hcc
          rw [hC' hnl] at this; exact this
      · obtain ⟨_, _, _, h, _⟩ := sig0_bound (kf := env.kindOf) ps vs ds (fun _ => none) (fun _ => none) fa'.nodup rs x true d e
        cases h
      · cases ha
    refine hb env ef (A.deeper env) (a.deeper env) s.heap X (fa env ++ X) (fun _ => []) s1 _ _ st fun fl X' F' s' en => ?_
    obtain ⟨v, rfl, fin, gk⟩ := en
    exact q v s' ⟨fin.keep, fin.os.trans b.os.symm, n1.gens.trans gk⟩ fin.rep
end
end Mine
end
section
open PySem PySem.W PyProof.Rows
set_option linter.unusedSimpArgs false
set_option linter.unusedVariables false
namespace Mine
section
variable {c : Cx} {k : Nat} {ns : Names} {σ : Sig}
theorem EntAt.inAt {h : Heap} {a dx u r : Addr} {od : Obj} (e : EntAt h a dx u r od) : InstAt h a (instObj cE dx) cE (some od) := ⟨e.inst, rfl, rfl, e.dict⟩
theorem ent_get {A : Around} {E : Value → Shared → Prop} {s : Shared} {a dx u r : Addr} {od : Obj} {name : Str} {v : Value} {ex : Bool} {Q : Value → Shared → Prop} (b : Ext c.h0 s.heap) (e : EntAt s.heap a dx u r od)
    (hf : findIn c.K (.ref cE) name = some none) (hl : lookIn name od = some (some v)) (hv : handedIn v = true) (h : Q v { s with toks := s.toks + 1 }) : wpAny (model c.prog c.w) A (getAttr (.ref a) name ex) Q E s :=
  get_value (c.kin.keeps b) e.inAt c.cls.ga (findObj_own c.cls.hd hf rfl hl) hv h
theorem ent_ua {h : Heap} {a dx u r : Addr} {od : Obj} (e : EntAt h a dx u r od) : lookIn (Str.ofString "useragents") od = some (some (.ref u)) := by obtain ⟨H, T, n, rfl⟩ := e.is; rfl
theorem ent_rl {h : Heap} {a dx u r : Addr} {od : Obj} (e : EntAt h a dx u r od) : lookIn (Str.ofString "rulelines") od = some (some (.ref r)) := by obtain ⟨H, T, n, rfl⟩ := e.is; rfl
theorem ent_dl {h : Heap} {a dx u r : Addr} {od : Obj} (e : EntAt h a dx u r od) : lookIn (Str.ofString "delay") od = some (some .none) := by obtain ⟨H, T, n, rfl⟩ := e.is; rfl
theorem ent_rr {h : Heap} {a dx u r : Addr} {od : Obj} (e : EntAt h a dx u r od) : lookIn (Str.ofString "req_rate") od = some (some .none) := by obtain ⟨H, T, n, rfl⟩ := e.is; rfl
theorem ent_ap {h : Heap} {a dx u r : Addr} {od : Obj} (e : EntAt h a dx u r od) : lookIn (Str.ofString "applies_to") od = some none := by obtain ⟨H, T, n, rfl⟩ := e.is; rfl
theorem ev_ua {x : Str} {p pos : Pos} {du dr : List D} (h : EW c k ns σ (.Name x p) (.ent du dr)) : EV c k ns σ (.Attribute (.Name x p) (Str.ofString "useragents") pos) (.list du) := by
  intro env ef A a he X0 X F s Q E st q
  refine Attribute_name (h env ef A a he X0 X F s _ E st fun v s1 n1 r1 => ?_)
  cases r1 with | ent na nd nu nr x pu ru pr rr =>
  exact ent_get (st.base.nxt n1).top x c.cls.ua (ent_ua x) rfl (q _ _ (n1.trans .tok) (.list nu pu ru))
theorem ev_rl {x : Str} {p pos : Pos} {du dr : List D} (h : EW c k ns σ (.Name x p) (.ent du dr)) : EV c k ns σ (.Attribute (.Name x p) (Str.ofString "rulelines") pos) (.list dr) := by
  intro env ef A a he X0 X F s Q E st q
  refine Attribute_name (h env ef A a he X0 X F s _ E st fun v s1 n1 r1 => ?_)
  cases r1 with | ent na nd nu nr x pu ru pr rr =>
  exact ent_get (st.base.nxt n1).top x c.cls.rl (ent_rl x) rfl (q _ _ (n1.trans .tok) (.list nr pr rr))
theorem ev_dl {x : Str} {p pos : Pos} {du dr : List D} (h : EW c k ns σ (.Name x p) (.ent du dr)) : EV c k ns σ (.Attribute (.Name x p) (Str.ofString "delay") pos) .none := by
  intro env ef A a he X0 X F s Q E st q
  refine Attribute_name (h env ef A a he X0 X F s _ E st fun v s1 n1 r1 => ?_)
  cases r1 with | ent na nd nu nr x pu ru pr rr =>
  exact ent_get (st.base.nxt n1).top x c.cls.dl (ent_dl x) rfl (q _ _ (n1.trans .tok) .none)
theorem ev_rr {x : Str} {p pos : Pos} {du dr : List D} (h : EW c k ns σ (.Name x p) (.ent du dr)) : EV c k ns σ (.Attribute (.Name x p) (Str.ofString "req_rate") pos) .none := by
  intro env ef A a he X0 X F s Q E st q
  refine Attribute_name (h env ef A a he X0 X F s _ E st fun v s1 n1 r1 => ?_)
  cases r1 with | ent na nd nu nr x pu ru pr rr =>
  exact ent_get (st.base.nxt n1).top x c.cls.rr (ent_rr x) rfl (q _ _ (n1.trans .tok) .none)
theorem evs_plain {es : List Expr} {ds : List D} {pos : Pos} {env : Env} (h : EVs c k ns σ es ds) : (backTo pos (starEach es env)).any (·.1) = false := by
  induction h with
  | nil => rfl
  | cons hs _ _ ih => rw [hs env]; simpa [backTo] using ih
theorem keep_fn {f : Value} (hk : keepIn c.K f = true) : Keep1 c f := fun M h e => by
  obtain ⟨k, hk, l⟩ := looks_keep hk (c.kin.keeps e) (M := M)
  exact ⟨k, hk.imp id .inl, l⟩
theorem callWith_D {env : Env} {A : Around} {he : Heap} {X0 X : List Addr} {F : Str → List Addr} {s : Shared} {Q : Value → Shared → Prop} {E : Value → Shared → Prop} {e : Expr} {es : List Expr} {f : Value} {ds d1 : List D} {r : D} {first : List Value} {pos : Pos}
    (ef : EnvFor ns env) (a : AOk k A) (st : St c he X0 X env σ F s) (hk : Keep1 c f) (ha : EVs c k ns σ (e :: es) ds) (hr : RepL X s.heap first d1) (hf : FD c k f (d1 ++ ds) r) (q : ∀ v s', Nxt s s' → Rep X s'.heap v r → Q v s') :
    wpAny (model c.prog c.w) A (callWith pos f first (backTo pos (starEach (e :: es) env)) []) Q E s := by
  have hs : starEach (e :: es) env = (false, eval e env) :: starEach es env := by cases ha with | cons h _ _ => exact h env
  refine callWith_of (P := Ext c.h0) (by
    show ((backTo pos (starEach (e :: es) env)).any (·.1) || false) = false
    rw [evs_plain ha]; rfl) (fun h hh => hk _ h hh) ?_
  have key := ha.spl env ef A a he X0 X F s (fun vs s' => Ext c.h0 s'.heap ∧ wpAny (model c.prog c.w) A (call f (first ++ vs) []) Q E s') E pos st fun vs s₁ n₁ r₁ =>
    ⟨(st.base.nxt n₁).top, hf A a he X0 X s₁ Q E _ (st.base.nxt n₁) ((hr.ext n₁.heap).append r₁) fun v s₂ n₂ r₂ => q v s₂ (n₁.trans n₂) r₂⟩
  rw [hs] at key ⊢
  exact Calls.evalArgs_plain key
theorem ev_callD {x : Str} {p pos : Pos} {e : Expr} {es : List Expr} {f : Value} {ds : List D} {r : D} (hg : EG c ns (.Name x p) f) (hk : Keep1 c f) (ha : EVs c k ns σ (e :: es) ds) (hf : FD c k f ds r) :
    EV c k ns σ (.Call (.Name x p) (e :: es) [] pos) r := by
  intro env ef A a he X0 X F s Q E st q
  exact wpAny_Call_ofName (hg env ef A s _ E st.base.top (callWith_D ef a st hk ha .nil hf q))
noncomputable def Meth (o : Expr) (name : Str) (apos pos : Pos) (args : List Expr) : Prop := ∀ env, ∃ pl : Sem Bool, eval (.Call (.Attribute o name apos) args [] pos) env = (do
      let ov ← eval o env
      standAt apos.atName
      let (f, first) ← holding [ov] (getMethod ov name pl)
      callWith pos f first (backTo pos (starEach args env)) [])
theorem ev_applies {x : Str} {xp apos pos : Pos} {e : Expr} {d r : D} {du dr : List D} (h : EW c k ns σ (.Name x xp) (.ent du dr)) (ha : EVs c k ns σ [e] [d]) (hf : FD c k (.ref c.fA) [.ent du dr, d] r) (hm : Meth (.Name x xp) (Str.ofString "applies_to") apos pos [e]) :
    EV c k ns σ (.Call (.Attribute (.Name x xp) (Str.ofString "applies_to") apos) [e] [] pos) r := by
  intro env ef A a he X0 X F s Q E st q
  obtain ⟨pl, hpl⟩ := hm env
  refine MethodCall_ (he := hpl) (h env ef A a he X0 X F s _ E st fun v s1 n1 r1 => ?_)
  have r1' := r1
  cases r1 with | ent na nd nu nr x pu ru pr rr =>
  refine method_fn (c.kin.keeps (st.base.nxt n1).top) x.inAt c.cls.ga c.cls.gg c.cls.ap c.cls.apf (by show (lookIn _ _).map _ = _; rw [ent_ap x]; rfl) ?_
  exact callWith_D ef a (st.nxt n1) (keep_fn c.cls.ka) ha (.cons r1' .nil) hf fun v s2 n2 r2 => q v s2 (n1.trans n2) r2
end
end Mine
end
section
open PySem PySem.W PyProof.Rows PySem.Calls Builtin Builtin.ObjectAttr Builtin.Getset_descriptor
set_option linter.unusedSimpArgs false
set_option linter.unusedVariables false
namespace Mine
section
variable {prog : Program} {w : World} {A : Around} {E : Value → Shared → Prop} {s : Shared} {K : Frag} {x C dx : Addr} {R : Result → Shared → Prop} {name : Str} {v : Value}
theorem osa_at {ox : Obj} {tk : Tok} {es : List DictEntry} {n : Nat} (X : K.In s.heap) (I : InstAt s.heap x ox C (some (dictOf es n))) (hd : ox.dict = some dx) (hp : plainOver K C = true) (ht : takerIn K C name = some none) (hh : (clsIn K C).any (·.hasDict) = true)
    (hl : (getL name es).isSome = true) (hz : (putL name (PyData.keyHash w.params name) (.str name s.toks) v es).length ≤ 1000)
    (h : R (.ok (.ret .none)) { s with heap := s.heap.update dx (Obj.putName name (PyData.keyHash w.params name) (.str name s.toks) v), toks := s.toks + 1 }) :
    codeAny (model prog w) A (.call (.builtin "object.__setattr__") ⟨[.ref x, .str name tk, v], []⟩) R s := by
  refine osa_open X I hp ht fun b => ?_
  obtain ⟨cd, hc, hd'⟩ := any_some hh
  obtain ⟨hx, hcl, hn, D⟩ := I
  obtain ⟨oc, odi, oda, osl⟩ := ox
  dsimp only at hcl hd D
  subst hcl hd
  have D' : (s.heap.update dx (Obj.putName name (PyData.keyHash w.params name) (.str name s.toks) v)).get? dx = some (dictOf (putL name (PyData.keyHash w.params name) (.str name s.toks) v es) (putN name es n)) := by
    rw [Heap.get?_update_self _ D (by rw [putName_dict]; rfl), putName_dict]
  refine wpAny_bind (wpAny_pure (wpAny_bind (wpAny_bind (wpAny_loadPart hx (wpAny_bind ((looks_clsIn X hc).here ?_))))))
  rw [hd']
  refine wpAny_pure (a := some dx) (wpAny_bind (wpAny_pure (wpAny_bind ?_)))
  unfold nsSet
  refine wpAny_bind (wpAny_bind (wpAny_askSetting (wpAny_pure (wpAny_bind (wpAny_mkText (wpAny_bind (wpAny_loadPart D ?_)))))))
  dsimp only
  have c : (!es.toArray.any (·.key.isStr name) && es.toArray.any (·.refKey)) = false := by
    rw [← Array.any_toList, ← Array.any_toList]
    unfold getL at hl
    split at hl
    · rename_i en he
      rw [List.any_eq_true.mpr ⟨en, List.mem_of_find?_eq_some he, List.find?_some he⟩]; rfl
    · split at hl
      · cases hl
      · rename_i z; rw [Bool.not_eq_true] at z; rw [z, Bool.and_false]
  rw [aRefKeyMayBeTheName_at, c]
  refine wpAny_updatePart D ?_
  refine wpAny_bind (wpAny_lookBehind D' (pastItsLine_dict (by rw [List.size_toArray, sizeLine_eq]; omega)) ?_)
  exact wpAny_pure h
theorem set_at {ox : Obj} {es : List DictEntry} {n : Nat} {Q : Unit → Shared → Prop} (X : K.In s.heap) (I : InstAt s.heap x ox C (some (dictOf es n))) (hd : ox.dict = some dx) (hs : findIn K (.ref C) "__setattr__" = some (some (.builtin "object.__setattr__"))) (hp : plainOver K C = true) (ht : takerIn K C name = some none) (hh : hasDictIn K C = true)
    (hl : (getL name es).isSome = true) (hz : (putL name (PyData.keyHash w.params name) (.str name (s.toks + 1)) v es).length ≤ 1000)
    (h : Q () { s with heap := s.heap.update dx (Obj.putName name (PyData.keyHash w.params name) (.str name (s.toks + 1)) v), toks := s.toks + 2 }) : wpAny (model prog w) A (setAttr (.ref x) name v) Q E s :=
  set_plain X I hs (osa_at (s := { s with toks := s.toks + 1 }) X I hd hp ht hh hl hz h)
end
section
variable {c : Cx} {k : Nat}
theorem taker_of {K : Frag} {C : Addr} {name : Str} (h : findIn K (.ref C) name = some none) : takerIn K C name = some none := by unfold takerIn; rw [h]; rfl
theorem zip_mem {ps : List Str} {vs : List Value} {p : Str} {v : Value} {m : Str → Option Value} {kf : Str → Option NameKind} (hn : ps.Nodup) (hm : (p, v) ∈ ps.zip vs) : (kf p = some .local → bindL kf (ps.zip vs) m p = some v) ∧ (kf p ≠ some .local → bindC kf (ps.zip vs) m p = some v) := by
  induction ps generalizing vs m with
  | nil => cases hm
  | cons q ps ih =>
    cases vs with
    | nil => cases hm
    | cons u vs =>
      rw [List.nodup_cons] at hn
      rw [List.zip_cons_cons] at hm ⊢
      rcases List.mem_cons.mp hm with e | hm
      · cases e
        have hnot : ∀ b ∈ ps.zip vs, b.1 ≠ p := fun b hb e => hn.1 (e ▸ (List.of_mem_zip (show (b.1, b.2) ∈ ps.zip vs from hb)).1)
        constructor
        · intro hk; unfold bindL; rw [bindL_not _ _ _ hnot]; simp [hk]
        · intro hk; unfold bindC; rw [bindC_not _ _ _ hnot]
          split
          · exact absurd ‹_› (by simpa using hk)
          · simp
      · constructor
        · intro hk; unfold bindL; exact (ih hn.2 hm).1 hk
        · intro hk; unfold bindC; exact (ih hn.2 hm).2 hk
theorem enter_def {f : Addr} {fd : FuncData} {body : List Stmt} {ps : List Str} {A : Around} {he : Heap} {X0 X : List Addr} {s : Shared} {vs : List Value} {R : Result → Shared → Prop} (fa' : FnAt c f fd body ps) (a : AOk (k + 1) A) (b : Base c he X0 X s) (hvl : vs.length = ps.length)
    (h : ∀ env s1, EnvFor fd.scope.names env → env.frame = some env.locals → AOk k (A.deeper env) → Nxt s s1 → St c s.heap X (fa env ++ X) env [] (fun _ => []) s1 → (∀ a ∈ fa env, s.heap.get? a = none) → (∀ p v, (p, v) ∈ ps.zip vs → Look s1.heap env p v) →
      wpAny (model c.prog c.w) (A.deeper env) (execs body env) (fun fl s' => R (.ok (.ret (match fl with | .ret v => v | _ => .none))) s') (fun e s' => wpAny (model c.prog c.w) (A.deeper env) (leaving env e) (fun _ s'' => R (.error e) s'') (fun e' s'' => R (.error e') s'') s') s1) :
    codeAny (model c.prog c.w) A (.call (.ref f) ⟨vs, []⟩) R s := by
  obtain ⟨o, ho, hd⟩ := fa'.obj
  have hof := b.top f o ho
  have ok := cellsFrom_ok fd.scope.names (s.heap.push { cls := .type "frame", data := .dict #[] }) (s.heap.objs.size + 1) [] ⟨fun _ _ hm => (nomatch hm), List.Pairwise.nil⟩ (by rw [Heap.size_push]; exact Nat.le_refl _)
  rw [Heap.size_push] at ok
  refine codeAny_call_cells (fd := fd) (body := body) (vals := vs) (binds := ps.zip vs) a.room hof hd (c.lim.keeps b.top) (fa'.code.keeps b.top) fa'.body (fa'.bind vs hvl) fa'.clo (fun x hx => ?_) (fun s1 ic => ?_) fa'.co fa'.gen fa'.kind
  · have hm := (List.of_mem_zip (show (x.1, x.2) ∈ ps.zip vs from hx)).1
    rcases fa'.kinds x.1 hm with h | h
    · exact .inl h
    · obtain ⟨c1, h1⟩ := cellsFrom_has fd.scope.names (s.heap.objs.size + 1) x.1 (mem_of_lookup h)
      obtain ⟨c2, h2⟩ := lookup_isSome_of_mem h1
      exact .inr ⟨h, by rw [h2]; rfl⟩
  · have hh := h (callEnvC fd s.heap.objs.size f) s1
    have hfr0 : (callEnvC fd s.heap.objs.size f).frame = some (callEnvC fd s.heap.objs.size f).locals := rfl
    clear h
    generalize henv : callEnvC fd s.heap.objs.size f = env at ic hh hfr0 ⊢
    have hL : env.locals = s.heap.objs.size := by rw [← henv]; rfl
    have hcells : env.cells = cellsFrom (s.heap.objs.size + 1) fd.scope.names [] := by rw [← henv]; rfl
    have hkind : ∀ x, env.kindOf x = fd.scope.names.lookup x := fun x => by rw [← henv]; rfl
    have ef : EnvFor fd.scope.names env := by
      refine { kind := by rw [← henv]; exact fa'.kind, glob := by rw [← henv]; exact fa'.glob, bi := by rw [← henv]; exact fa'.bi, all := fun n h => ?_, loc := fun x h => (hkind x).trans h, cel := fun x h => (hkind x).trans h, fre := fun x h => .inr ((hkind x).trans h), glo := fun x h => (hkind x).trans h, none := fun x h => (hkind x).trans h }
      rcases h with h | h
      · obtain ⟨c1, h1⟩ := cellsFrom_has fd.scope.names (s.heap.objs.size + 1) n (mem_of_lookup ((hkind n).symm.trans h))
        rw [hcells]; exact lookup_isSome_of_mem h1
      · exact absurd ((hkind n).symm.trans h) (fa'.nofree n)
    obtain ⟨h1, tk1, hs1⟩ := ic.toInCall.same
    have n1 : Nxt s s1 := ⟨ic.toInCall.keep, by rw [hs1], by rw [hs1]; exact .refl _⟩
    have fresh : ∀ a ∈ fa env, s.heap.get? a = none := fun a ha => by
      rcases List.mem_cons.mp ha with rfl | ha
      · rw [hL]; exact get_size _
      · obtain ⟨x, hx, rfl⟩ := List.mem_map.mp ha
        exact get_ge (Nat.le_of_lt (by rw [← hL]; exact ic.above x.1 x.2 hx))
    have hfw : FrW env s1.heap := ⟨⟨_, ic.toInCall.ns⟩, fun n cc hc => ⟨_, ic.cell n cc hc⟩, ic.apart, fun n cc hm => Nat.ne_of_lt (ic.above n cc hm)⟩
    have live1 : ∀ a ∈ fa env, ∃ o, s1.heap.get? a = some o := fun a ha => by
      rcases List.mem_cons.mp ha with rfl | ha
      · obtain ⟨o, _, _, e, _⟩ := ic.toInCall.ns; exact ⟨o, e⟩
      · obtain ⟨x, hx, rfl⟩ := List.mem_map.mp ha
        have hm : (x.1, x.2) ∈ cellsFrom (s.heap.objs.size + 1) fd.scope.names [] := hcells ▸ hx
        have hlk := lookup_of_nodup (cellsFrom_nodup fd.scope.names (s.heap.objs.size + 1) fa'.snodup) hm
        obtain ⟨o, e, _⟩ := ic.cell x.1 x.2 (by rw [hcells]; exact hlk)
        exact ⟨o, e⟩
    have st : St c s.heap X (fa env ++ X) env [] (fun _ => []) s1 := by
      refine ⟨⟨b.top, ic.toInCall.keep, fun a ha => b.off ha, fun a ha => List.mem_append_right _ ha, fun a ha h => ?_, fun a ha => ?_, n1.os.trans b.os, n1.gens.bare b.gens⟩, hfw, fun a ha => List.mem_append_left _ ha, fun a ha h => ?_, fun x o d e hv => (nomatch e), fun x d e a ha => (nomatch e), fun x d y d' e1 e2 hne a ha => (nomatch e1)⟩
      · rcases List.mem_append.mp ha with m | m
        · exact fresh a m
        · exact absurd m h
      · rcases List.mem_append.mp ha with m | m
        · exact live1 a m
        · obtain ⟨o, e⟩ := b.live a m; exact ⟨o, n1.heap a o e⟩
      · obtain ⟨o, e⟩ := b.live a h; rw [fresh a ha] at e; cases e
    refine hh ef hfr0 (a.deeper env) n1 st fresh fun p v hpv => ?_
    have hp := (List.of_mem_zip (show (p, v) ∈ ps.zip vs from hpv)).1
    rcases fa'.kinds p hp with h | h
    · have hk : env.kindOf p = some .local := (hkind p).trans h
      exact .inl ⟨hk, _, ic.toInCall.ns, (zip_mem fa'.nodup hpv).1 hk⟩
    · have hk : env.kindOf p = some .cell := (hkind p).trans h
      have hnl : env.kindOf p ≠ some .local := by rw [hk]; intro e; cases e
      obtain ⟨cc, hcc⟩ := ef.all p (.inl hk)
      refine .inr ⟨.inl hk, cc, hcc, ?_⟩
      have := ic.cell p cc hcc
      rw [(zip_mem fa'.nodup hpv).2 hnl] at this; exact this
end
end Mine
end
section
open PySem PySem.W PyProof.Rows PySem.Calls
set_option linter.unusedSimpArgs false
set_option linter.unusedVariables false
namespace Mine
theorem putL_len (name : Str) (H : Int) (key v : Value) : ∀ es : List DictEntry, (putL name H key v es).length ≤ es.length + 1
  | [] => Nat.le_refl _
  | e :: r => by
    unfold putL
    split
    · exact Nat.le_succ _
    · exact Nat.succ_le_succ (putL_len name H key v r)
structure IS (s0 : Shared) (env : Env) (sf : Str) (x dx : Addr) (es : List DictEntry) (s : Shared) : Prop where
  nx : Nxt s0 s
  lk : Look s.heap env sf (.ref x)
  inst : s.heap.get? x = some (instObj cE dx)
  dict : ∃ n, s.heap.get? dx = some (dictOf es n)
theorem IS.nxt {s0 : Shared} {env : Env} {self : Str} {x dx : Addr} {es : List DictEntry} {s s' : Shared} (i : IS s0 env self x dx es s) (n : Nxt s s') : IS s0 env self x dx es s' :=
  ⟨i.nx.trans n, i.lk.ext n.heap, n.heap _ _ i.inst, i.dict.imp fun _ e => n.heap _ _ e⟩
section
variable {c : Cx} {k : Nat} {ns : Names} {σ : Sig}
theorem is_step {s0 s : Shared} {env : Env} {A : Around} {self name : Str} {x dx : Addr} {es : List DictEntry} {e : Expr} {p pa ps : Pos} {P : Value → Shared → Prop} {Q : Flow → Shared → Prop} {E : Value → Shared → Prop}
    (hdx : s0.heap.get? dx = none) (hfa : dx ∉ fa env) (hxd : x ≠ dx) (b : Ext c.h0 s0.heap) (ef : EnvFor ns env) (hn : nameOk self = true) (i : IS s0 env self x dx es s) (hf : findIn c.K (.ref cE) name = some none)
    (hval : ∀ Q', (∀ v s1, Nxt s s1 → P v s1 → Q' v s1) → wpAny (model c.prog c.w) A (eval e env) Q' E s) (hl : (getL name es).isSome = true) (hz : es.length ≤ 900)
    (hs : swapsWith e (some (.Attribute (.Name self p) name pa)) ps.line env = pure false)
    (q : ∀ v s1 s' H t, P v s1 → Nxt s s1 → Keep [dx] s1.heap s'.heap → IS s0 env self x dx (putL name H (.str name t) v es) s' → Q .next s') :
    wpAny (model c.prog c.w) A (exec (.Assign [.Attribute (.Name self p) name pa] e ps) env) Q E s := by
  simp only [nameOk, Bool.and_eq_true, Bool.not_eq_true'] at hn
  refine plainObj_wpAny_Assign_Attribute (hval _ fun v s1 n1 hp => ?_) hs
  have i1 := i.nxt n1
  refine name_look ef.kind i1.lk hn.1 hn.2 ?_
  obtain ⟨n, hd⟩ := i1.dict
  refine set_at (dx := dx) (c.kin.keeps (b.trans i1.nx.heap)) ⟨i1.inst, rfl, rfl, hd⟩ rfl c.cls.sa c.cls.po (taker_of hf) c.cls.hd hl (Nat.le_trans (putL_len _ _ _ _ _) (by omega)) ?_
  have kp : Keep [dx] s1.heap (s1.heap.update dx (Obj.putName name (PyData.keyHash c.w.params name) (.str name (s1.toks + 1)) v)) := fun a o ha e => by
    rw [Heap.get?_update_other _ _ (by simpa [eq_comm] using ha)]; exact e
  have D' : (s1.heap.update dx (Obj.putName name (PyData.keyHash c.w.params name) (.str name (s1.toks + 1)) v)).get? dx = some (dictOf (putL name (PyData.keyHash c.w.params name) (.str name (s1.toks + 1)) v es) (putN name es n)) := by
    rw [Heap.get?_update_self _ hd (by rw [putName_dict]; rfl), putName_dict]
  refine q v s1 _ _ _ hp n1 kp ⟨?_, ?_, kp _ _ (by simpa using hxd) i1.inst, _, D'⟩
  · exact (Nxt.upd i1.nx hdx).trans .tok
  · exact i1.lk.keep fun a ha o e => kp a o (by simp; rintro rfl; exact hfa ha) e
structure InitAt (c : Cx) (fd : FuncData) (sf : Str) (body : List Stmt) : Prop where
  fn : FnAt c c.fI fd body [sf]
  ok : nameOk sf = true
  bd : ∃ p1 a1 l1 q1 p2 a2 l2 q2 p3 a3 k3 l3 q3 p4 a4 k4 l4 q4, body =
    [.Assign [.Attribute (.Name sf p1) (Str.ofString "useragents") a1] (.List [] l1) q1, .Assign [.Attribute (.Name sf p2) (Str.ofString "rulelines") a2] (.List [] l2) q2,
     .Assign [.Attribute (.Name sf p3) (Str.ofString "delay") a3] (.Constant .none k3 l3) q3, .Assign [.Attribute (.Name sf p4) (Str.ofString "req_rate") a4] (.Constant .none k4 l4) q4] ∧
    (∀ env, swapsWith (.List [] l1) (some (.Attribute (.Name sf p1) (Str.ofString "useragents") a1)) q1.line env = pure false) ∧ (∀ env, swapsWith (.List [] l2) (some (.Attribute (.Name sf p2) (Str.ofString "rulelines") a2)) q2.line env = pure false) ∧
    (∀ env, swapsWith (.Constant .none k3 l3) (some (.Attribute (.Name sf p3) (Str.ofString "delay") a3)) q3.line env = pure false) ∧ (∀ env, swapsWith (.Constant .none k4 l4) (some (.Attribute (.Name sf p4) (Str.ofString "req_rate") a4)) q4.line env = pure false)
theorem val_list {s : Shared} {env : Env} {A : Around} {l : Pos} {E : Value → Shared → Prop} : ∀ Q', (∀ v s1, Nxt s s1 → (∃ u, v = .ref u ∧ s.heap.get? u = none ∧ s1.heap.PlainList u #[]) → Q' v s1) → wpAny (model c.prog c.w) A (eval (.List [] l) env) Q' E s := by
  intro Q' h
  refine wpAny_List (elts := []) ?_
  have : wpAny (model c.prog c.w) A (spliced (backTo l (starEach [] env))) (fun vs s' => vs = [] ∧ s' = s) E s := wpAny_pure ⟨rfl, rfl⟩
  refine wpAny_mono this (fun vs s' hh => ?_) fun _ _ e => e
  obtain ⟨rfl, rfl⟩ := hh
  exact ⟨by rw [sizeLine_eq]; simp, h _ _ .push ⟨_, rfl, get_size _, plainList_push _ []⟩⟩
theorem val_none {s : Shared} {env : Env} {A : Around} {kd : Nat} {l : Pos} {E : Value → Shared → Prop} : ∀ Q', (∀ v s1, Nxt s s1 → v = .none → Q' v s1) → wpAny (model c.prog c.w) A (eval (.Constant .none kd l) env) Q' E s :=
  fun Q' h => wpAny_Constant_none (h _ _ (.refl s) rfl)
theorem make_entry {fd : FuncData} {self : Str} {body : List Stmt} {he : Heap} {X0 X : List Addr} {A : Around} {s : Shared} {Q : Value → Shared → Prop} {E : Value → Shared → Prop} (ia : InitAt c fd self body) (a : AOk (k + 2) A) (b : Base c he X0 X s)
    (q : ∀ x dx u r od s', Nxt s s' → (∀ y ∈ [x, dx, u, r], s.heap.get? y = none) → [x, dx, u, r].Nodup → EntAt s'.heap x dx u r od → s'.heap.PlainList u #[] → s'.heap.PlainList r #[] → Q (.ref x) s') :
    wpAny (model c.prog c.w) A (call (.ref cE) []) Q E s := by
  obtain ⟨p1, a1, l1, q1, p2, a2, l2, q2, p3, a3, k3, l3, q3, p4, a4, k4, l4, q4, hbody, w1, w2, w3, w4⟩ := ia.bd
  obtain ⟨h, g, d, t, os⟩ := s
  have X' : c.K.In h := c.kin.keeps b.top
  refine wpAny_call (make_core (makes_of X' c.cls.mak) (looks_findIn X' c.cls.ini) (fun self => bind_fn X' self c.cls.inf) (.inl rfl) ?_)
  have n0 : Nxt ⟨h, g, d, t, os⟩ ⟨(h.push emptyDict).push (instObj cE h.objs.size), g, d, t, os⟩ := ⟨(Ext.push h _).trans (Ext.push _ _), rfl, .refl _⟩
  have a' : AOk (k + 1) (A.under (.builtin "type.__call__" ⟨[.ref cE], []⟩)) := by
    obtain ⟨hh, hd, hu⟩ := a
    have hw : (Code.builtin "type.__call__" ⟨[.ref cE], []⟩).weight = 1 := by decide +kernel
    have hu' : (Code.builtin "type.__call__" ⟨[.ref cE], []⟩).cUnits = 1 := by decide +kernel
    exact ⟨hh, by simp only [Around.under, hw]; omega, by simp only [Around.under, hu']; omega⟩
  refine enter_def ia.fn a' (b.nxt n0) (by rfl) fun env s1 ef _ ax n1 st fresh lk => ?_
  subst hbody
  have hx : ((h.push emptyDict).push (instObj cE h.objs.size)).get? (h.objs.size + 1) = some (instObj cE h.objs.size) := by heap_get
  have hd : ((h.push emptyDict).push (instObj cE h.objs.size)).get? h.objs.size = some (dictOf [] 0) := Heap.get?_push_of_some _ (Heap.get?_push_size _ rfl)
  have hdx : h.get? h.objs.size = none := get_size h
  have hfa : h.objs.size ∉ fa env := fun m => by have := fresh _ m; rw [hd] at this; cases this
  have hxd : h.objs.size + 1 ≠ h.objs.size := Nat.succ_ne_self _
  have i0 : IS ⟨h, g, d, t, os⟩ env self (h.objs.size + 1) h.objs.size [] s1 := ⟨n0.trans n1, lk self _ (by simp), n1.heap _ _ hx, 0, n1.heap _ _ hd⟩
  refine wpAny_execs_cons (is_step hdx hfa hxd b.top ef ia.ok i0 c.cls.ua val_list rfl (by simp) (w1 env) fun v s2 s2' H1 t1 hv m2 kp2 i2 => ?_)
  obtain ⟨u, rfl, hu, pu⟩ := hv
  have u1 : u ≠ h.objs.size := fun e => by rw [e] at hu; obtain ⟨n, hn⟩ := i0.dict; rw [hn] at hu; cases hu
  have pu2 : s2'.heap.PlainList u #[] := pu.at fun o e => kp2 u o (by simpa using u1) e
  refine wpAny_execs_cons (is_step hdx hfa hxd b.top ef ia.ok i2 c.cls.rl val_list rfl (show (1 : Nat) ≤ 900 by decide) (w2 env) fun v s3 s3' H2 t2 hv m3 kp3 i3 => ?_)
  obtain ⟨r, rfl, hr, pr⟩ := hv
  have r1 : r ≠ h.objs.size := fun e => by rw [e] at hr; obtain ⟨n, hn⟩ := i2.dict; rw [hn] at hr; cases hr
  have r2 : u ≠ r := fun e => by obtain ⟨n, hn⟩ := pu2; rw [e, hr] at hn; cases hn
  have pu3 : s3'.heap.PlainList u #[] := (pu2.at fun o e => m3.heap u o e).at fun o e => kp3 u o (by simpa using u1) e
  have pr3 : s3'.heap.PlainList r #[] := pr.at fun o e => kp3 r o (by simpa using r1) e
  refine wpAny_execs_cons (is_step hdx hfa hxd b.top ef ia.ok i3 c.cls.dl val_none rfl (show (2 : Nat) ≤ 900 by decide) (w3 env) fun v s4 s4' H3 t3 hv m4 kp4 i4 => ?_)
  subst hv
  have pu4 : s4'.heap.PlainList u #[] := (pu3.at fun o e => m4.heap u o e).at fun o e => kp4 u o (by simpa using u1) e
  have pr4 : s4'.heap.PlainList r #[] := (pr3.at fun o e => m4.heap r o e).at fun o e => kp4 r o (by simpa using r1) e
  refine wpAny_execs_cons (is_step hdx hfa hxd b.top ef ia.ok i4 c.cls.rr val_none rfl (show (3 : Nat) ≤ 900 by decide) (w4 env) fun v s5 s5' H4 t4 hv m5 kp5 i5 => ?_)
  subst hv
  have pu5 : s5'.heap.PlainList u #[] := (pu4.at fun o e => m5.heap u o e).at fun o e => kp5 u o (by simpa using u1) e
  have pr5 : s5'.heap.PlainList r #[] := (pr4.at fun o e => m5.heap r o e).at fun o e => kp5 r o (by simpa using r1) e
  refine wpAny_execs_nil ⟨rfl, ?_⟩
  obtain ⟨n, hD⟩ := i5.dict
  have hx1 : s1.heap.get? (h.objs.size + 1) = some (instObj cE h.objs.size) := i0.inst
  have xu : h.objs.size + 1 ≠ u := fun e => by rw [← e, hx1] at hu; cases hu
  have xr : h.objs.size + 1 ≠ r := fun e => by rw [← e] at hr; rw [i2.inst] at hr; cases hr
  have hu0 : h.get? u = none := by cases e : h.get? u with | none => rfl | some o => rw [n1.heap _ _ (n0.heap _ _ e)] at hu; cases hu
  have hr0 : h.get? r = none := by cases e : h.get? r with | none => rfl | some o => rw [i2.nx.heap _ _ e] at hr; cases hr
  refine q (h.objs.size + 1) h.objs.size u r _ s5' i5.nx (fun y hy => ?_) ?_ ⟨i5.inst, hD, fun j => [H1, H2, H3, H4].getD j 0, fun j => [t1, t2, t3, t4].getD j 0, n, rfl⟩ pu5 pr5
  · simp at hy
    rcases hy with rfl | rfl | rfl | rfl
    · exact get_ge (Nat.le_succ _)
    · exact hdx
    · exact hu0
    · exact hr0
  · simp only [List.nodup_cons, List.mem_cons, List.not_mem_nil, or_false, not_or]
    exact ⟨⟨hxd, xu, xr⟩, ⟨u1.symm, r1.symm⟩, r2, not_false, List.nodup_nil⟩
end
end Mine
end
section
open PySem PySem.W PyProof.Rows PySem.Calls
set_option linter.unusedSimpArgs false
set_option linter.unusedVariables false
namespace Mine
section
variable {c : Cx} {k : Nat} {ns : Names} {σ : Sig}
theorem St.ownTouch {env : Env} {he : Heap} {X0 X : List Addr} {F : Str → List Addr} {s s' : Shared} {y : Str} {dy d' : D} {v : Value} {Mo : List Addr} (st : St c he X0 X env σ F s) (hs : σ.lookup y = some (true, dy)) (l : Look s.heap env y v)
    (hM : ∀ a ∈ Mo, a ∈ F y) (ka : Keep Mo s.heap s'.heap) (al : ∀ a ∈ Mo, ∃ o, s'.heap.get? a = some o) (new : OwnAt X s'.heap v d' (F y)) (ho : s'.os = s.os) (hg : GKeep s.gens s'.gens) :
    St c he X0 X env ((y, true, d') :: σ) F s' ∧ Kp X0 X s X s' := by
  have own := st.own y _ hs
  have kX : Keep X s.heap s'.heap := ka.sub fun b hb => (own b (hM b hb)).1
  have st' := (st.weak (σ' := []) (fun _ _ e => nomatch e)).touch' (s' := s') Mo ka (fun b hb => ?_) ho hg.bare
  · refine ⟨{ base := st'.base, fw := st'.fw, fx := st'.fx, f0 := st'.f0, vis := fun z o dz e hv => ?_, own := fun z dz e => ?_, apart := fun z dz w dw e1 e2 hne => ?_ }, ⟨fun b o hb e => ka b o (fun hm => ?_) e, fun b hb => .inl hb, hg⟩⟩
    · rw [List.lookup_cons] at e
      by_cases hz : z = y
      · subst hz; rw [beq_self_eq_true] at e; cases e
        exact ⟨v, l.keep fun b hb o e => ka b o (fun hm => (own b (hM b hm)).2.2 hb) e, new⟩
      · rw [beq_false_of_ne hz] at e
        obtain ⟨u, lu, ru⟩ := st.vis z o dz e hv
        refine ⟨u, lu.keep fun b hb o e => ka b o (fun hm => (own b (hM b hm)).2.2 hb) e, ?_⟩
        cases o with
        | true => exact OwnAt.keep ru kX fun b hb o e' => ka b o (fun hm => st.apart z dz y _ e hs hz _ hb (hM b hm)) e'
        | false => exact Rep.keep kX ru
    · rw [List.lookup_cons] at e
      by_cases hz : z = y
      · subst hz; exact st.own z _ hs
      · rw [beq_false_of_ne hz] at e; exact st.own z dz e
    · rw [List.lookup_cons] at e1 e2
      by_cases hz : z = y
      · subst hz
        by_cases hw : w = z
        · exact absurd hw.symm hne
        · rw [beq_false_of_ne hw] at e2
          exact st.apart z _ w dw hs e2 hne
      · rw [beq_false_of_ne hz] at e1
        by_cases hw : w = y
        · subst hw
          exact st.apart z dz w _ e1 hs hne
        · rw [beq_false_of_ne hw] at e2
          exact st.apart z dz w dw e1 e2 hne
    · have := own b (hM b hm)
      rcases hb with hb | hb
      · exact hb this.1
      · exact this.2.1 hb
  · have := own b (hM b hb)
    exact ⟨this.1, st.base.new _ this.1 this.2.1, this.2.2, al b hb, fun _ _ e => nomatch e⟩
theorem ex_newEntry {fd : FuncData} {self : Str} {body : List Stmt} {y n : Str} {py pn cpos spos : Pos} (ia : InitAt c fd self body) (hg : EG c ns (.Name n pn) (.ref cE)) (hy : ns.lookup y = some .local ∨ ns.lookup y = some .cell)
    (hs : ∀ env, EnvFor ns env → swapsWith (.Call (.Name n pn) [] [] cpos) (some (.Name y py)) spos.line env = pure false) :
    EX c (k + 2) ns σ (.Assign [.Name y py] (.Call (.Name n pn) [] [] cpos) spos) (.next ((y, true, .ent [] []) :: σ)) := by
  intro env ef A a he X0 X F s Q E st q
  refine wpAny_Assign_Name ?_ (hs env ef)
  refine wpAny_Call_ofName (hg env ef A s _ E st.base.top ?_)
  refine callWith_of (P := Ext c.h0) rfl (fun h hh => keep_fn c.cls.kp _ h hh) ?_
  refine PyProof.Rows.evalArgs_none ⟨st.base.top, ?_⟩
  refine make_entry ia a st.base fun x dx u r od s1 n1 hfr hnd ea pu pr => ?_
  have st2 := st.fresh n1 [x, dx, u, r] (fun b hb => ⟨hfr b hb, by
    simp at hb
    rcases hb with rfl | rfl | rfl | rfl
    · exact ⟨_, ea.inst⟩
    · exact ⟨_, ea.dict⟩
    · obtain ⟨n, e⟩ := pu; exact ⟨_, e⟩
    · obtain ⟨n, e⟩ := pr; exact ⟨_, e⟩⟩)
  have notX : ∀ b ∈ [x, dx, u, r], b ∉ X := fun b hb h => by obtain ⟨o, e⟩ := st.base.live b h; rw [hfr b hb] at e; cases e
  simp only [List.nodup_cons, List.mem_cons, List.not_mem_nil, or_false, not_or] at hnd
  obtain ⟨⟨h1, h2, h3⟩, ⟨h4, h5⟩, h6, -⟩ := hnd
  refine store_own ef hy st2 (f := [x, dx, u, r]) (.ent (us := []) (rs := []) (du := []) (dr := []) ea h6 h2 h3 h4 h5 h1 pu .nil pr .nil) (fun b hb => ?_) (fun z dz e hz b hb hm => ?_) fun s3 st3 kp => ?_
  · exact ⟨List.mem_append_left _ hb, fun h => notX b hb (st.base.x0x _ h), fun h => notX b hb (st.fx _ h)⟩
  · exact notX b hb (st.own z dz e _ hm).1
  · refine q _ _ _ _ ⟨rfl, st3, ⟨fun b o hb e => ?_, fun b hb => ?_, n1.gens.trans kp.gens⟩⟩
    · have hbn : b ∉ [x, dx, u, r] := fun h => by rw [hfr b h] at e; cases e
      refine kp.keep b o ?_ (n1.heap b o e)
      rcases hb with hb | hb
      · exact .inl fun h => (List.mem_append.mp h).elim hbn hb
      · exact .inr hb
    · rcases List.mem_append.mp hb with h | h
      · exact .inr (hfr b h)
      · exact .inl h
theorem own_ua {env : Env} {A : Around} {E : Value → Shared → Prop} {s : Shared} {y : Str} {yp ap : Pos} {a dx u r : Addr} {od : Obj} {Q : Value → Shared → Prop} (ef : EnvFor ns env) (hn : nameOk y = true) (b : Ext c.h0 s.heap) (l : Look s.heap env y (.ref a)) (e : EntAt s.heap a dx u r od)
    (h : Q (.ref u) { s with toks := s.toks + 1 }) : wpAny (model c.prog c.w) A (eval (.Attribute (.Name y yp) (Str.ofString "useragents") ap) env) Q E s := by
  simp only [nameOk, Bool.and_eq_true, Bool.not_eq_true'] at hn
  exact Attribute_name (name_look ef.kind l hn.1 hn.2 (ent_get b e c.cls.ua (ent_ua e) rfl h))
theorem own_rl {env : Env} {A : Around} {E : Value → Shared → Prop} {s : Shared} {y : Str} {yp ap : Pos} {a dx u r : Addr} {od : Obj} {Q : Value → Shared → Prop} (ef : EnvFor ns env) (hn : nameOk y = true) (b : Ext c.h0 s.heap) (l : Look s.heap env y (.ref a)) (e : EntAt s.heap a dx u r od)
    (h : Q (.ref r) { s with toks := s.toks + 1 }) : wpAny (model c.prog c.w) A (eval (.Attribute (.Name y yp) (Str.ofString "rulelines") ap) env) Q E s := by
  simp only [nameOk, Bool.and_eq_true, Bool.not_eq_true'] at hn
  exact Attribute_name (name_look ef.kind l hn.1 hn.2 (ent_get b e c.cls.rl (ent_rl e) rfl h))
theorem own_grow {env : Env} {he : Heap} {X0 X : List Addr} {F : Str → List Addr} {s : Shared} {h' : Heap} {tk : Nat} {y : Str} {a dx u r : Addr} {od : Obj} {us rs ws : List Value} {du dr dw : List D} (st : St c he X0 X env σ F s) (hs : σ.lookup y = some (true, .ent du dr)) (hF : F y = [a, dx, u, r]) (l : Look s.heap env y (.ref a))
    (ea : EntAt s.heap a dx u r od) (a1 : u ≠ r) (a2 : a ≠ u) (a3 : a ≠ r) (a4 : dx ≠ u) (a5 : dx ≠ r) (a6 : a ≠ dx) (p : s.heap.PlainList u us.toArray) (ru : RepL X s.heap us du) (p2 : s.heap.PlainList r rs.toArray) (rr : RepL X s.heap rs dr) (rw' : RepL X s.heap ws dw)
    (sb : Keep [u] s.heap h') (p' : h'.PlainList u (us ++ ws).toArray) : St c he X0 X env ((y, true, .ent (du ++ dw) dr) :: σ) F { s with heap := h', toks := tk } ∧ Kp X0 X s X { s with heap := h', toks := tk } := by
  have kX : Keep X s.heap h' := sb.sub fun b hb => by simp at hb; subst hb; exact (st.own y _ hs b (by rw [hF]; simp)).1
  refine st.ownTouch (s' := { s with heap := h', toks := tk }) hs l (Mo := [u]) (fun b hb => by simp at hb; subst hb; rw [hF]; simp) sb (fun b hb => by simp at hb; subst hb; obtain ⟨n, e⟩ := p'; exact ⟨_, e⟩) ?_ rfl (.refl _)
  rw [hF]
  exact .ent (ea.keep (fun o e => sb _ o (by simpa using a2) e) fun o e => sb _ o (by simpa using a4) e) a1 a2 a3 a4 a5 a6 p' ((ru.append rw').keep kX) (p2.at fun o e => sb _ o (by simpa using a1.symm) e) (rr.keep kX)
theorem own_grow2 {env : Env} {he : Heap} {X0 X : List Addr} {F : Str → List Addr} {s : Shared} {h' : Heap} {tk : Nat} {y : Str} {a dx u r : Addr} {od : Obj} {us rs ws : List Value} {du dr dw : List D} (st : St c he X0 X env σ F s) (hs : σ.lookup y = some (true, .ent du dr)) (hF : F y = [a, dx, u, r]) (l : Look s.heap env y (.ref a))
    (ea : EntAt s.heap a dx u r od) (a1 : u ≠ r) (a2 : a ≠ u) (a3 : a ≠ r) (a4 : dx ≠ u) (a5 : dx ≠ r) (a6 : a ≠ dx) (p : s.heap.PlainList u us.toArray) (ru : RepL X s.heap us du) (p2 : s.heap.PlainList r rs.toArray) (rr : RepL X s.heap rs dr) (rw' : RepL X s.heap ws dw)
    (sb : Keep [r] s.heap h') (p' : h'.PlainList r (rs ++ ws).toArray) : St c he X0 X env ((y, true, .ent du (dr ++ dw)) :: σ) F { s with heap := h', toks := tk } ∧ Kp X0 X s X { s with heap := h', toks := tk } := by
  have kX : Keep X s.heap h' := sb.sub fun b hb => by simp at hb; subst hb; exact (st.own y _ hs b (by rw [hF]; simp)).1
  refine st.ownTouch (s' := { s with heap := h', toks := tk }) hs l (Mo := [r]) (fun b hb => by simp at hb; subst hb; rw [hF]; simp) sb (fun b hb => by simp at hb; subst hb; obtain ⟨n, e⟩ := p'; exact ⟨_, e⟩) ?_ rfl (.refl _)
  rw [hF]
  exact .ent (ea.keep (fun o e => sb _ o (by simpa using a3) e) fun o e => sb _ o (by simpa using a5) e) a1 a2 a3 a4 a5 a6 (p.at fun o e => sb _ o (by simpa using a1) e) (ru.keep kX) p' ((rr.append rw').keep kX)
theorem ex_uaAppend {y : Str} {yp ap apos pos spos : Pos} {e : Expr} {du dr : List D} {d : D} (hs : σ.lookup y = some (true, .ent du dr)) (hv : isVar (ns.lookup y) = true) (hn : nameOk y = true) (he : ∀ env, starEach [e] env = [(false, eval e env)]) (hp : (apos.endLine == pos.line) = true)
    (hb : ∀ env, attributeBase (.Attribute (.Name y yp) (Str.ofString "useragents") ap) (Str.ofString "append") env (eval (.Attribute (.Name y yp) (Str.ofString "useragents") ap) env) = eval (.Attribute (.Name y yp) (Str.ofString "useragents") ap) env) (h : EV c k ns σ e d) (hl : du.length + 1 ≤ sizeLine) :
    EX c k ns σ (.Expr (.Call (.Attribute (.Attribute (.Name y yp) (Str.ofString "useragents") ap) (Str.ofString "append") apos) [e] [] pos) spos) (.next ((y, true, .ent (du ++ [d]) dr) :: σ)) := by
  intro env ef A ao he' X0 X F s Q E st q
  obtain ⟨v, l, r⟩ := st.vis y true _ hs (isVar_of ef hv)
  simp only [if_true] at r
  generalize hF : F y = fy at r
  cases r with
  | ent ea a1 a2 a3 a4 a5 a6 p ru p2 rr =>
    rename_i a dx u r od us rs
    refine wpAny_Expr_any (wpAny_Call_append (hb env) (by rw [he]; rfl) hp (by rw [he]; rfl) (own_ua ef hn st.base.top l ea ⟨u, us.toArray, rfl, ?_, ?_⟩)) (by unfold interactive; rw [ef.kind]; rfl)
    · obtain ⟨n, e⟩ := p; exact ⟨_, n, e, rfl, rfl, rfl⟩
    · refine h env ef A ao he' X0 X F _ _ E (st.nxt .tok) fun v s1 n1 rv => ?_
      have n1' : Nxt s s1 := Nxt.trans .tok n1
      refine wpAny_list_append_plain (hsz := by simp [ru.length]; omega) (p.at fun o e => n1'.heap _ o e) fun h' hl' hs' => ?_
      obtain ⟨st2, kp⟩ := own_grow (h' := h') (tk := s1.toks) (ws := [v]) (dw := [d]) (st.nxt n1') hs hF (l.ext n1'.heap) (ea.keep (n1'.heap _) (n1'.heap _)) a1 a2 a3 a4 a5 a6 (p.at fun o e => n1'.heap _ o e) (ru.ext n1'.heap) (p2.at fun o e => n1'.heap _ o e) (rr.ext n1'.heap) (.cons rv .nil) (keep_sameBut hs') (by simpa using hl')
      exact q _ X F _ ⟨rfl, st2, (Kp.of_nxt n1').trans kp⟩
theorem ex_rlAppendMove {y z : Str} {yp ap zp apos pos spos : Pos} {du dr : List D} {dz : D} (hs : σ.lookup y = some (true, .ent du dr)) (hz : σ.lookup z = some (true, dz)) (hne : y ≠ z) (hv : isVar (ns.lookup y) = true) (hvz : isVar (ns.lookup z) = true) (hn : nameOk y = true) (hnz : nameOk z = true) (hp : (apos.endLine == pos.line) = true)
    (hb : ∀ env, attributeBase (.Attribute (.Name y yp) (Str.ofString "rulelines") ap) (Str.ofString "append") env (eval (.Attribute (.Name y yp) (Str.ofString "rulelines") ap) env) = eval (.Attribute (.Name y yp) (Str.ofString "rulelines") ap) env) (hl : dr.length + 1 ≤ sizeLine) :
    EX c k ns σ (.Expr (.Call (.Attribute (.Attribute (.Name y yp) (Str.ofString "rulelines") ap) (Str.ofString "append") apos) [.Name z zp] [] pos) spos) (.next ((y, true, .ent du (dr ++ [dz])) :: (z, false, dz) :: σ)) := by
  intro env ef A ao he' X0 X F s Q E st q
  obtain ⟨st1, hrep⟩ := st.free hz
  have hs1 : ((z, false, dz) :: σ).lookup y = some (true, .ent du dr) := by rw [List.lookup_cons, beq_false_of_ne hne]; exact hs
  obtain ⟨v, l, r⟩ := st1.vis y true _ hs1 (isVar_of ef hv)
  obtain ⟨w, lw, rw1⟩ := st.vis z true _ hz (isVar_of ef hvz)
  simp only [if_true] at r
  generalize hF : F y = fy at r
  simp only [nameOk, Bool.and_eq_true, Bool.not_eq_true'] at hnz
  cases r with
  | ent ea a1 a2 a3 a4 a5 a6 p ru p2 rr =>
    rename_i a dx u r od us rs
    refine wpAny_Expr_any (wpAny_Call_append (hb env) rfl hp rfl (own_rl ef hn st1.base.top l ea ⟨r, rs.toArray, rfl, ?_, ?_⟩)) (by unfold interactive; rw [ef.kind]; rfl)
    · obtain ⟨n, e⟩ := p2; exact ⟨_, n, e, rfl, rfl, rfl⟩
    · refine name_look ef.kind (lw.ext (Nxt.tok (s := s) (tk := s.toks + 1)).heap) hnz.1 hnz.2 ?_
      refine wpAny_list_append_plain (hsz := by simp [rr.length]; omega) p2 fun h' hl' hs' => ?_
      obtain ⟨st2, kp⟩ := own_grow2 (h' := h') (tk := s.toks + 1) (ws := [w]) (dw := [dz]) st1 hs1 hF l ea a1 a2 a3 a4 a5 a6 p ru p2 rr (.cons (hrep w rw1) .nil) (keep_sameBut hs') (by simpa using hl')
      refine q _ _ F _ ⟨rfl, st2, ⟨fun b o hb' e => kp.keep b o ?_ e, fun b hb' => ?_, kp.gens⟩⟩
      · exact hb'.imp (fun h hm => h (List.mem_filter.mp hm).1) id
      · exact .inl (List.mem_filter.mp hb').1
theorem ex_uaExtend {y : Str} {yp ap apos pos spos : Pos} {e : Expr} {du dr dw : List D} (hs : σ.lookup y = some (true, .ent du dr)) (hv : isVar (ns.lookup y) = true) (hn : nameOk y = true) (he : ∀ env, backTo pos (starEach [e] env) = [(false, eval e env)])
    (hm : Meth (.Attribute (.Name y yp) (Str.ofString "useragents") ap) (Str.ofString "extend") apos pos [e]) (h : EV c k ns σ e (.list dw)) (hl : du.length + dw.length ≤ sizeLine) :
    EX c k ns σ (.Expr (.Call (.Attribute (.Attribute (.Name y yp) (Str.ofString "useragents") ap) (Str.ofString "extend") apos) [e] [] pos) spos) (.next ((y, true, .ent (du ++ dw) dr) :: σ)) := by
  intro env ef A ao he' X0 X F s Q E st q
  obtain ⟨v, l, r⟩ := st.vis y true _ hs (isVar_of ef hv)
  simp only [if_true] at r
  generalize hF : F y = fy at r
  cases r with
  | ent ea a1 a2 a3 a4 a5 a6 p ru p2 rr =>
    rename_i a dx u r od us rs
    obtain ⟨pl, hpl⟩ := hm env
    refine wpAny_Expr_any (MethodCall_ (he := hpl) (own_ua ef hn st.base.top l ea ?_)) (by unfold interactive; rw [ef.kind]; rfl)
    obtain ⟨n0, e0⟩ := p
    have p : s.heap.PlainList u us.toArray := ⟨n0, e0⟩
    refine getMethod_builtin (T := "list") (id := "list.extend") ⟨_, e0, rfl⟩ PySem.F.plainAttrs_list PySem.F.slot_list_extend PySem.F.type_list_extend (fun b hb => by cases hb; exact ⟨_, e0, rfl⟩) ?_
    · rw [he]
      refine P.extend_list ?_
      refine h env ef A ao he' X0 X F _ _ E (st.nxt .tok) fun v s1 n1 rv => ?_
      have n1' : Nxt s s1 := Nxt.trans .tok n1
      cases rv with
      | list nb pw rw' =>
        rename_i b ws
        have p' := p.at fun o e => n1'.heap _ o e
        have p1 := p'
        obtain ⟨n1u, e1⟩ := p'
        obtain ⟨n2u, e2⟩ := pw
        refine ⟨b, us.toArray, ws.toArray, n1u, n2u, ?_, ?_, ?_, rfl, e1, e2, ?_⟩
        · simp [ru.length]; omega
        · simp [ru.length, rw'.length]; omega
        · exact extend_door (by simp [ru.length, rw'.length]; omega)
        · have sb : Keep [u] s1.heap (s1.heap.update u (Obj.mapSeq fun xs => xs ++ ws.toArray)) := keep_sameBut (.update _ _ _)
          obtain ⟨st2, kp⟩ := own_grow (h' := s1.heap.update u (Obj.mapSeq fun xs => xs ++ ws.toArray)) (tk := s1.toks) (ws := ws) (dw := dw) (st.nxt n1') hs hF (l.ext n1'.heap) (ea.keep (n1'.heap _) (n1'.heap _)) a1 a2 a3 a4 a5 a6 p1 (ru.ext n1'.heap) (p2.at fun o e => n1'.heap _ o e) (rr.ext n1'.heap) rw' sb (by
            have := IsL.update e1 (fun xs => xs ++ ws.toArray)
            exact ⟨_, by simpa using this⟩)
          exact q _ X F _ ⟨rfl, st2, (Kp.of_nxt n1').trans kp⟩
end
end Mine
end
section
open PySem PySem.W PyProof.Rows PySem.Calls
set_option linter.unusedSimpArgs false
set_option linter.unusedVariables false
namespace Mine
/-! a set of texts, its bound __contains__ -/
section
variable {prog : Program} {w : World} {A : Around} {R : Result → Shared → Prop} {I : Addr} {fp wr : List Addr} {G : Array GenState → Array GenState → Prop} {n : Nat} {P : Nat → Value → Prop} {St : Nat → Shared → Prop}
noncomputable def metS (val : Nat → Str) (i : Nat) (k : Str) : Bool := (List.range i).any fun j => decide (k = val j)
theorem set_loop (W : WalksS prog w A.in1 I fp wr G n P St) (S : Addr) (hSf : S ∉ fp) (val : Nat → Str) (hval : ∀ i v, P i v → ∃ t, v = .str (val i) t) (hb : n + 1 < scanBound) :
    ∀ (k i : Nat) (s : Shared) (m : Nat), n - i = k → i ≤ n → St i s → m ≤ i → s.heap.SetOf (strKind prog w) S (metS val i) m →
      (∀ s' m', Moved (S :: wr) G s s' → s'.heap.SetOf (strKind prog w) S (metS val n) m' → R (.ok (.ret .none)) s') →
      codeAny (model prog w) A (.builtin "set.update.loop" ⟨[.ref S, .ref I], []⟩) R s := by
  have hSw : S ∉ wr := fun h => hSf (W.sub _ h)
  have hsub : ∀ b ∈ wr, b ∈ S :: wr := fun b hb => List.mem_cons_of_mem _ hb
  intro k
  induction k with
  | zero =>
    intro i s m hk hi hst hm hS hR
    have hin : i = n := by omega
    subst hin
    refine codeAny_builtin PyProof.Rows.F.entry_set_update_loop ?_
    rw [Around.under_plainId PyProof.Rows.F.plain_set_update_loop _]
    show wpAny _ A.in1 (pyNext (.ref I) >>= _) _ _ s
    refine wpAny_bind (W.done s _ _ hst fun s' hm => ?_)
    show wpAny _ A.in1 (ret Value.none) _ _ s'
    exact wpAny_pure (hR s' m (hm.mono hsub) (by
      obtain ⟨o, es, ep, t, ho, rest⟩ := hS
      exact ⟨o, es, ep, t, hm.heap S _ hSw ho, rest⟩))
  | succ k ih =>
    intro i s m hk hi hst hmi hS hR
    have hlt : i < n := by omega
    refine codeAny_builtin PyProof.Rows.F.entry_set_update_loop ?_
    rw [Around.under_plainId PyProof.Rows.F.plain_set_update_loop _]
    show wpAny _ A.in1 (pyNext (.ref I) >>= _) _ _ s
    refine wpAny_bind (W.item i s _ _ hlt hst fun v s' hP hst' hm => ?_)
    obtain ⟨t, rfl⟩ := hval i v hP
    have hS' : s'.heap.SetOf (strKind prog w) S (metS val i) m := by
      obtain ⟨o, es, ep, tb, ho, rest⟩ := hS
      exact ⟨o, es, ep, tb, hm.heap S _ hSw ho, rest⟩
    show wpAny _ A.in1 (holding [Value.str (val i) t] (setAdd S (.str (val i) t)) >>= _) _ _ s'
    refine wpAny_bind (wpAny_holding ?_)
    unfold setAdd
    refine wpAny_holding ?_
    refine wpAny_bind ((strKind prog w).pyHash (k := val i) (strKind_is _ _ _ _) ?_)
    refine wpAny_setAddHashed_of (knd := strKind prog w) (s := { s' with toks := s'.toks + 1 }) (strKind_is _ _ _ _) rfl hS' (by omega) fun h' hsb hS2 => ?_
    have e : (fun k' => metS val i k' || decide (k' = val i)) = metS val (i + 1) := by
      funext k'
      unfold metS
      rw [List.range_succ, List.any_append]
      simp
    rw [e] at hS2
    refine wpAny_pure ⟨plainId_quiet PyProof.Rows.F.plain_set_update_loop _, ih (i + 1) _ _ (by omega) hlt (W.frame _ s' _ _ hst' (Nat.le_succ _) fun b hb o e => ?_) ?_ hS2 fun s'' m' hm'' hS'' => ?_⟩
    · rw [hsb.2 b (fun h : b = S => hSf (by rw [← h]; exact hb))]; exact e
    · split <;> omega
    · refine hR s'' m' (Moved.trans W.gtrans ((hm.mono hsub).then_heap (Nat.le_succ _) fun b o hb e => ?_) hm'') hS''
      rw [hsb.2 b (fun h : b = S => hb (by rw [h]; exact List.mem_cons_self))]; exact e
end
section
variable {prog : Program} {w : World} {A : Around} {E : Value → Shared → Prop} {s : Shared}
set_option maxHeartbeats 3200000 in
theorem call_set_strs {l : Addr} {items : Array Value} {val : Nat → Str} {Q : Value → Shared → Prop}
    (hh : A.handled = none) (hl : s.heap.IsList l items) (hval : ∀ (i : Nat) (v : Value), items[i]? = some v → ∃ t, v = .str (val i) t) (hb : items.size + 1 < scanBound)
    (h : ∀ (h' : Heap) (tk m : Nat), h'.SetOf (strKind prog w) s.heap.objs.size (metS val items.size) m →
      (∀ b o, b < s.heap.objs.size → s.heap.get? b = some o → h'.get? b = some o) → Q (.ref s.heap.objs.size) { s with heap := h', toks := tk }) :
    wpAny (model prog w) A (call (.type "set") [.ref l]) Q E s := by
  obtain ⟨c, tl, hmro⟩ := F.called_set.mro
  have hmade := F.called_set.made
  have hsub := F.called_set.sub
  refine wpAny_call (codeAny_of_tree ?_)
  show wpAny _ _ (callAny (.type "set") _) _ _ _
  refine wpAny_pure ⟨Code.quiet_builtin _ (by decide +kernel), codeAny_builtin F.entry_type_call ?_⟩
  rw [Around.under_plain (weight_type_call_type "set" [.ref l] []) rfl]
  have h1 := F.called_set.notType
  have h2 := F.called_set.canCreate
  have hct := F.typeCall_set_1 (.ref l)
  repeat (any_goals (first | assumption | wp_step))
  refine codeAny_mono (code_set_new_1 (.ref l) (E := E) (Q₁ := fun obj s₁ => ∃ led : Bool, obj = .ref s.heap.objs.size ∧ s₁ = { s with heap := s.heap.push { cls := .type "set", dict := none, data := .set #[] 0 (.fresh 0 0 led) } }) fun led => ⟨led, rfl, rfl⟩) fun r s₁ hr => ?_
  cases r with
  | error e => exact hr
  | ok fl =>
    cases fl with
    | ret obj =>
      obtain ⟨led, rfl, rfl⟩ := hr
      have hS : (s.heap.push { cls := .type "set", dict := none, data := .set #[] 0 (.fresh 0 0 led) }).get? s.heap.objs.size = some { cls := .type "set", dict := none, data := .set #[] 0 (.fresh 0 0 led) } := Heap.get?_push_size _ rfl
      have hT : Shared.TypeIs { s with heap := s.heap.push { cls := .type "set", dict := none, data := .set #[] 0 (.fresh 0 0 led) } } (.ref s.heap.objs.size) "set" := ⟨_, hS, rfl⟩
      have hli := F.called_set.init.lookup
      have hbi := F.called_set.init.bind (.ref s.heap.objs.size)
      repeat (any_goals (first | assumption | wp_step))
      refine codeAny_mono (codeAny_call_builtin (R := wants (fun r s₂ => r = .none ∧ ∃ h' tk m, s₂ = { s with heap := h', toks := tk } ∧
          h'.SetOf (strKind prog w) s.heap.objs.size (metS val items.size) m ∧
          (∀ b o, b < s.heap.objs.size → s.heap.get? b = some o → h'.get? b = some o)) E) F.called_set.init.plain F.entry_set_init (check_set_init_1 hT ?_)) fun r₂ s₂ hr₂ => ?_
      · obtain ⟨ol, hol, hcl, nl, hdl⟩ := hl
        obtain ⟨ocls, odict, odata, oslots⟩ := ol
        simp only at hcl hdl
        subst hcl; subst hdl
        have hol' : (s.heap.push { cls := .type "set", dict := none, data := .set #[] 0 (.fresh 0 0 led) }).get? l = some { cls := .type "list", dict := odict, data := .seq items nl, slots := oslots } := Heap.get?_push_of_some _ hol
        have hsls := F.sub_list_set
        have hslf := F.sub_list_frozenset
        have hne : (Value.type "list" == Value.type "dict") = false := by decide
        have hl1 : (s.heap.push { cls := .type "set", dict := none, data := .set #[] 0 (.fresh 0 0 led) }).IsList l items := ⟨_, hol', rfl, nl, rfl⟩
        unfold Builtin.«set.__init__» noKeywords Builtin.Frozenset.updateFrom
        generalize hPI : pyIter = PI
        wp_walk
        subst hPI
        refine wpAny_pyIter_list hl1 ?_
        refine wpAny_bind (wpAny_runValue ?_)
        have hlS : l < s.heap.objs.size := Heap.lt_size hol
        have hh3 : A.in1.in1.in1.handled = none := by simp [hh]
        have hneI : l ≠ (s.heap.push { cls := .type "set", dict := none, data := .set #[] 0 (.fresh 0 0 led) }).objs.size := by
          rw [Heap.size_push]; exact Nat.ne_of_lt (Nat.lt_succ_of_lt hlS)
        have hSf : s.heap.objs.size ∉ [(s.heap.push { cls := .type "set", dict := none, data := .set #[] 0 (.fresh 0 0 led) }).objs.size, l] := by
          rw [Heap.size_push]; simp only [List.mem_cons, List.mem_singleton, List.not_mem_nil, or_false, not_or]
          exact ⟨Nat.ne_of_lt (Nat.lt_succ_self _), Nat.ne_of_gt hlS⟩
        refine set_loop ((Walks.list hh3 _ l hneI items).toS) s.heap.objs.size
          hSf val hval hb (items.size - 0) 0 _ 0 (by omega) (Nat.zero_le _)
          ⟨⟨_, Heap.get?_push_size _ rfl, rfl, rfl⟩, (hl1.push _)⟩ (Nat.le_refl _) ?hS0 ?hR
        case hS0 =>
          have hget : ((s.heap.push { cls := .type "set", dict := none, data := .set #[] 0 (.fresh 0 0 led) }).push { cls := .type "list_iterator", data := .fields #[.ref l, .int 0 0] }).get? s.heap.objs.size
              = some { cls := .type "set", dict := none, data := .set #[] 0 (.fresh 0 0 led) } := Heap.get?_push_of_some _ hS
          exact PyProof.Rows.SetOf_congr ((PyProof.Rows.setObjOf_fresh (knd := strKind prog w) led).setOf hget (by unfold scanBound; omega)) (fun _ => rfl) rfl
        case hR =>
          intro s' m' hm hS'
          obtain ⟨h', g', d', tk', os'⟩ := s'
          have eg : g' = s.gens := hm.gens
          have ed : d' = s.drawn := hm.drawn
          have eo : os' = s.os := hm.os
          subst eg; subst ed; subst eo
          show wpAny _ _ _ _ _ _
          refine wpAny_pure ?_
          show wpAny _ _ (ret Value.none) _ _ _
          refine wpAny_pure ⟨rfl, h', tk', m', rfl, hS', fun b o hb e => ?_⟩
          have hb1 : b ≠ s.heap.objs.size := Nat.ne_of_lt hb
          have hb2 : b ≠ (s.heap.push { cls := .type "set", dict := none, data := .set #[] 0 (.fresh 0 0 led) }).objs.size := by
            rw [Heap.size_push]; exact Nat.ne_of_lt (Nat.lt_succ_of_lt hb)
          exact hm.heap b o (by simp only [List.mem_cons, List.mem_singleton, List.not_mem_nil, or_false, not_or]; exact ⟨hb1, hb2⟩) (Heap.get?_push_of_some _ (Heap.get?_push_of_some _ e))
      · cases r₂ with
        | error e => exact hr₂
        | ok fl₂ =>
          cases fl₂ with
          | ret r =>
            obtain ⟨rfl, h', tk, m', rfl, hS', hk'⟩ := hr₂
            repeat (any_goals (first | assumption | wp_step))
            exact h _ _ _ hS' hk'
          | _ => exact hr₂.elim
    | _ => exact hr.elim
end
end Mine
end
section
open PySem PySem.W PyProof.Rows PySem.Calls
set_option linter.unusedSimpArgs false
set_option linter.unusedVariables false
namespace Mine
noncomputable abbrev bObj (a : Addr) : Obj := { cls := .type "builtin_function_or_method", data := .fields #[.builtin "set.__contains__", .ref a] }
theorem md_get : Slot "method_descriptor" "__get__" "method_descriptor.__get__" :=
  .of (owner := "method_descriptor") (n := "__get__") (by rw [typeLookup_type, builtinLookup_eq_fast]; kernel_rfl) (by decide +kernel) (by decide +kernel) (by decide +kernel)
    (by first | exact .inl (by decide +kernel) | exact .inr (by decide +kernel)) (by rw [isSubtype_type]; kernel_rfl)
theorem md_entry : entryFor table "method_descriptor.__get__" = some Builtin.«method_descriptor.__get__» := entryFor_of_tree (by kernel_rfl)
theorem md_args (a b c : Value) : argsOk "method_descriptor.__get__" ⟨[a, b, c], []⟩ := by unfold argsOk; kernel_rfl
theorem md_noset : typeLookup (.type "method_descriptor") "__set__" = pure none := by rw [typeLookup_type, builtinLookup_eq_fast]; kernel_rfl
theorem md_nodel : typeLookup (.type "method_descriptor") "__delete__" = pure none := by rw [typeLookup_type, builtinLookup_eq_fast]; kernel_rfl
theorem told : Manifest.toldItsClass.contains "set.__contains__" = false := by decide +kernel
section
variable {prog : Program} {w : World} {A : Around} {E : Value → Shared → Prop} {h : Heap} {g : Array GenState} {d : Drawn} {t : Nat} {os : OsState} {a : Addr} {o : Obj}
theorem md_run {Q : Fin → Shared → Prop} (hx : h.get? a = some o) (hc : o.cls = .type "set") (hq : Q (.done (.ret (.ref h.objs.size))) ⟨h.push (bObj a), g, d, t, os⟩) :
    wpAny (model prog w) A (Builtin.«method_descriptor.__get__» ⟨[.builtin "set.__contains__", .ref a, .type "set"], []⟩) Q E ⟨h, g, d, t, os⟩ := by
  have hT : (⟨h, g, d, t, os⟩ : Shared).TypeIs (.ref a) "set" := ⟨_, hx, hc⟩
  have hsub := sub_set_self
  unfold Builtin.«method_descriptor.__get__»
  refine wpAny_bind (wpAny_of_eq (a := (.builtin "set.__contains__", some (.ref a), some (.type "set"))) (by first | rfl | kernel_rfl) ?_)
  dsimp only
  rw [told, if_neg (by decide)]
  refine wpAny_bind ?_
  refine wpAny_bind (wpAny_of_eq (a := (Str.ofString "__contains__", Value.type "set")) (by first | rfl | kernel_rfl) ?_)
  dsimp only
  refine wpAny_bind (wpAny_isInstance hT hsub ?_)
  simp only [Bool.not_true, Bool.false_eq_true, if_false]
  refine wpAny_pure ?_
  exact wpAny_bind (wpAny_newObj_type (wpAny_pure hq))
theorem guard_off {tk : Tok} : Builtin.ObjectAttr.copiedAttributeGuard (Str.ofString "__contains__") (.ref a) = pure () := by
  unfold Builtin.ObjectAttr.copiedAttributeGuard
  dsimp only
  rw [if_neg (by decide +kernel)]
theorem ga_run {tk : Tok} {es : Array (Int × Value)} {ep : Nat} {tb : SetTable} {Q : Fin → Shared → Prop} (hx : h.get? a = some { cls := .type "set", data := .set es ep tb }) (hq : Q (.done (.ret (.ref h.objs.size))) ⟨h.push (bObj a), g, d, t, os⟩) :
    wpAny (model prog w) A (Builtin.«object.__getattribute__» ⟨[.ref a, .str "__contains__" tk], []⟩) Q E ⟨h, g, d, t, os⟩ := by
  have hT : (⟨h, g, d, t, os⟩ : Shared).TypeIs (.ref a) "set" := ⟨_, hx, rfl⟩
  have hT5 : (⟨h, g, d, t, os⟩ : Shared).TypeIs (.builtin "set.__contains__") "method_descriptor" := PySem.F.type_set_contains
  have f4 := PySem.F.slot_set_contains.lookup
  have f5 := PySem.F.type_set_contains
  have f6 := md_get.lookup
  have f7 := md_noset
  have f8 := md_nodel
  repeat (any_goals (first | assumption | wp_step))
  refine codeAny_call_builtin md_get.plain md_entry (md_get.check _ _ _ _ _ _ _ _ hT5 (md_args _ _ _) (md_run hx rfl ?_))
  exact wpAny_pure hq
theorem get_contains {es : Array (Int × Value)} {ep : Nat} {tb : SetTable} {ex : Bool} {Q : Value → Shared → Prop} (hx : h.get? a = some { cls := .type "set", data := .set es ep tb }) (hq : Q (.ref h.objs.size) ⟨h.push (bObj a), g, d, t + 1, os⟩) :
    wpAny (model prog w) A (getAttr (.ref a) (Str.ofString "__contains__") ex) Q E ⟨h, g, d, t, os⟩ := by
  have hT : ∀ t', (⟨h, g, d, t', os⟩ : Shared).TypeIs (.ref a) "set" := fun _ => ⟨_, hx, rfl⟩
  unfold getAttr getAttrBy
  refine wpAny_bind (wpAny_mkText (wpAny_holding (wpAny_bind (wpAny_typeOf (hT _) (wpAny_bind (wpAny_of_eq PySem.F.slot_set_getattribute.lookup ?_))))))
  show wpAny _ _ (getAttrByItsOwn (.ref a) (.str (Str.ofString "__contains__") t) (.type "set") (.builtin "set.__getattribute__") true ex) _ _ _
  unfold getAttrByItsOwn hookBefore callGetattribute boundAndCalled
  refine wpAny_bind (wpAny_of_eq (show (if onTheHeap (.type "set") then typeLookup (.type "set") "__getattr__" else pure none) = pure none from rfl) ?_)
  refine wpAny_bind (wpAny_attempt (wpAny_holding ?_))
  rw [show (ex && onTheHeap (Value.builtin "set.__getattribute__")) = false from Bool.and_false _, if_neg (by decide)]
  refine wpAny_bind (wpAny_of_eq (PySem.F.slot_set_getattribute.bind _) ?_)
  refine wpAny_mono (Q := fun v s' => v = .ref h.objs.size ∧ s' = ⟨h.push (bObj a), g, d, t + 1, os⟩) (E := fun _ _ => False)
    (wpAny_call_entry PySem.F.slot_set_getattribute (hT _) PySem.F.entry_set_ga (ga_run hx ⟨_, rfl, rfl, rfl⟩) (PySem.F.args_set_getattribute_2 _ _)) (fun v s' hv => ?_) fun _ _ z => z.elim
  obtain ⟨rfl, rfl⟩ := hv
  exact wpAny_pure hq
end
section
variable {prog : Program} {w : World} {A : Around} {E : Value → Shared → Prop} {s : Shared} {a b : Addr}
theorem sig_sc : Manifest.signature? "set.__contains__" = some ⟨.oneArg, "set.__contains__", "__contains__", .self, [⟨"object", .posOnly, true⟩]⟩ := by
  rw [signature?_of (id := "set.__contains__") (n := ['_', '_', 's', 'n', 'i', 'a', 't', 'n', 'o', 'c', '_', '_']) (o := ['t', 'e', 's']) (by kernel_rfl) PySem.F.owner_set]; kernel_rfl
theorem kind_sc : builtinKind "set.__contains__" = some .method := by kernel_rfl
theorem last_sc : Bind.lastOf "set.__contains__" = "__contains__" := by kernel_rfl
theorem last_set : Bind.lastOf "set" = "set" := by kernel_rfl
theorem vm_sc : Manifest.varargsMethods.contains "set.__contains__" = false := by decide +kernel
theorem sub_set_module : isSubtype (.type "set") (.type "module") = pure false := by rw [isSubtype_type]; kernel_rfl
theorem bound_ok {M : Model} {es : Array (Int × Value)} {ep : Nat} {tb : SetTable} (v : Value) {Q : Unit → Shared → Prop} (hx : s.heap.get? a = some { cls := .type "set", data := .set es ep tb }) (h : Q () s) :
    wpAny M A (checkBoundCall "set.__contains__" ⟨[.ref a, v], []⟩) Q E s := by
  have hT : s.TypeIs (.ref a) "set" := ⟨_, hx, rfl⟩
  unfold checkBoundCall
  simp only [sig_sc, kind_sc]
  rw [if_neg (by decide)]
  refine wpAny_bind (wpAny_isInstance hT sub_set_module ?_)
  rw [vm_sc, if_neg (by decide)]
  refine wpAny_bind (wpAny_bind (m := isType (.ref a)) (wpAny_bind (wpAny_loadPart hx (wpAny_pure ?_))))
  refine wpAny_pure ?_
  rw [if_neg (show ¬ (false = true) by decide)]
  refine wpAny_bind (wpAny_typeOf hT ?_)
  dsimp only
  exact wpAny_of_eq (a := ()) (by kernel_rfl) h
theorem quiet_sc {as : Args} : (Code.builtin "set.__contains__" as).quiet = true := Code.quiet_builtin _ (by decide +kernel)
theorem setObj_at {S : Str → Bool} {n : Nat} (hS : s.heap.SetOf (strKind prog w) a S n) : ∃ es ep tb, s.heap.get? a = some { cls := .type "set", data := .set es ep tb } := by
  obtain ⟨⟨oc, od, oda, osl⟩, es, ep, tb, ho, ⟨h1, h2, h3⟩, h4, _⟩ := hS
  dsimp only at h1 h2 h3 h4
  subst h1 h2 h3 h4
  exact ⟨es, ep, tb, ho⟩
theorem call_contains {S : Str → Bool} {n : Nat} {x : Str} {t : Tok} {Q : Value → Shared → Prop} (hb : s.heap.get? b = some (bObj a)) (hS : s.heap.SetOf (strKind prog w) a S n)
    (h : Q (.bool (S x)) { s with toks := s.toks + 1 }) : wpAny (model prog w) A (call (.ref b) [.str x t]) Q E s := by
  refine wpAny_call (codeAny_of_tree ?_)
  show wpAny _ A.in1 (callAny (.ref b) ⟨[.str x t], []⟩) _ _ s
  simp only [callAny]
  refine wpAny_bind (wpAny_load hb ?_)
  simp only [show (Value.type "builtin_function_or_method" == Value.type "method" || Value.type "builtin_function_or_method" == Value.type "builtin_function_or_method" || Value.type "builtin_function_or_method" == Value.type "method-wrapper") = true by decide, if_true]
  obtain ⟨es, ep, tb, hx⟩ := setObj_at hS
  show wpAny (model prog w) A.in1 (if (Value.type "builtin_function_or_method" != Value.type "method") = true then _ else _) _ _ _
  rw [if_pos (by decide)]
  refine wpAny_bind (bound_ok _ hx ?_)
  refine wpAny_bind (wpAny_pure (wpAny_pure ?_))
  refine ⟨quiet_sc, codeAny_builtin entry_set_contains ?_⟩
  unfold Builtin.«frozenset.__contains__» Builtin.Frozenset.oneOther
  simp only [List.isEmpty_nil, bind_assoc]
  unfold Builtin.Frozenset.addrOf Builtin.Frozenset.withSetAsKey setContains
  refine wpAny_bind (wpAny_pure ?_)
  try dsimp only
  refine wpAny_bind (wpAny_pure ?_)
  try dsimp only
  refine wpAny_bind (wpAny_tryCatch ?_)
  refine wpAny_holding ?_
  refine wpAny_bind ((strKind prog w).pyHash (strKind_is _ _ _ _) ?_)
  refine wpAny_bind (wpAny_setFind_of (knd := strKind prog w) (s := { s with toks := s.toks + 1 }) (strKind_is _ _ _ _) rfl hS fun r hr => ?_)
  refine wpAny_pure ?_
  show wpAny _ _ (ret (Value.bool r.isSome)) _ _ _
  rw [hr]
  exact wpAny_pure h
end
end Mine
end
section
open PySem PySem.W PyProof.Rows PySem.Calls
set_option linter.unusedSimpArgs false
set_option linter.unusedVariables false
namespace Mine
theorem mro_filter : mroOf (.type "filter") = pure [.type "filter", .type "object"] := by rw [mroOf_type]; kernel_rfl
theorem lookup_filter_new : typeLookup (.type "filter") "__new__" = pure (some (.builtin "filter.__new__")) := by rw [typeLookup_type, builtinLookup_eq_fast]; kernel_rfl
theorem slot_filter_init : Slot "filter" "__init__" "object.__init__" :=
  .of (owner := "object") (n := "__init__") (by rw [typeLookup_type, builtinLookup_eq_fast]; kernel_rfl) (by decide +kernel) (by decide +kernel) (by decide +kernel)
    (by first | exact .inl (by decide +kernel) | exact .inr (by decide +kernel)) (by rw [isSubtype_type]; kernel_rfl)
theorem slot_filter_next : Slot "filter" "__next__" "filter.__next__" :=
  .of (owner := "filter") (n := "__next__") (by rw [typeLookup_type, builtinLookup_eq_fast]; kernel_rfl) (by decide +kernel) (by decide +kernel) (by decide +kernel)
    (by first | exact .inl (by decide +kernel) | exact .inr (by decide +kernel)) (by rw [isSubtype_type]; kernel_rfl)
theorem slot_filter_iter : Slot "filter" "__iter__" "filter.__iter__" :=
  .of (owner := "filter") (n := "__iter__") (by rw [typeLookup_type, builtinLookup_eq_fast]; kernel_rfl) (by decide +kernel) (by decide +kernel) (by decide +kernel)
    (by first | exact .inl (by decide +kernel) | exact .inr (by decide +kernel)) (by rw [isSubtype_type]; kernel_rfl)
theorem called_filter : PySem.TypeCalled "filter" "filter.__new__" "object.__init__" :=
  ⟨by decide +kernel, by decide +kernel, ⟨_, _, mro_filter⟩, PySem.madeBy_type mro_filter lookup_filter_new (by decide +kernel), by decide +kernel, by rw [isSubtype_type]; kernel_rfl, slot_filter_init⟩
theorem typeCall_filter (a b : Value) : checkTypeCall "filter" ⟨[a, b], []⟩ = pure () := by kernel_rfl
theorem newCall_filter (a b : Value) : checkBuiltinCall "filter.__new__" ⟨[.type "filter", a, b], []⟩ = pure () := by kernel_rfl
theorem entry_filter_new : entryFor table "filter.__new__" = some Builtin.«filter.__new__» := entryFor_of_tree (by kernel_rfl)
theorem entry_filter_next : entryFor table "filter.__next__" = some Builtin.«filter.__next__» := entryFor_of_tree (by kernel_rfl)
theorem plain_filter_next : plainId "filter.__next__" = true := by decide +kernel
theorem args_oi3 (a b c : Value) : argsOk "object.__init__" ⟨[a, b, c], []⟩ := by unfold argsOk; kernel_rfl
theorem args_filter_next (a : Value) : argsOk "filter.__next__" ⟨[a], []⟩ := by unfold argsOk; kernel_rfl
theorem args_filter_iter (a : Value) : argsOk "filter.__iter__" ⟨[a], []⟩ := by unfold argsOk; kernel_rfl
theorem sub_filter : isSubtype (.type "filter") (.type "filter") = pure true := by rw [isSubtype_type]; kernel_rfl
theorem filter_no_len : typeLookup (.type "filter") "__len__" = pure none := by rw [typeLookup_type, builtinLookup_eq_fast]; kernel_rfl
theorem filter_no_hint : typeLookup (.type "filter") "__length_hint__" = pure none := by rw [typeLookup_type, builtinLookup_eq_fast]; kernel_rfl
noncomputable abbrev fObj (b it : Addr) : Obj := { cls := .type "filter", data := .fields #[.ref b, .ref it] }
theorem meets_filter_new (b l : Addr) (items : Array Value) (n : Nat) (dct : Option Addr) (sl : Array (Option Value)) :
    Meets (Builtin.«filter.__new__» ⟨[.type "filter", .ref b, .ref l], []⟩) (fun _ R s => s.heap.get? l = some { cls := .type "list", dict := dct, data := .seq items n, slots := sl } ∧
      R (.ok (.ret (.ref (s.heap.push { cls := .type "list_iterator", data := .fields #[.ref l, .int 0 0] }).objs.size)))
        { s with heap := (s.heap.push { cls := .type "list_iterator", data := .fields #[.ref l, .int 0 0] }).push (fObj b s.heap.objs.size) }) :=
  .of_wp fun prog w A R s h => by
    obtain ⟨hp, g, d, tk, os⟩ := s; obtain ⟨hl, h⟩ := h
    have hsub := sub_filter
    have hL : Heap.IsList (Shared.heap ⟨hp, g, d, tk, os⟩) l items := ⟨_, hl, rfl, n, rfl⟩
    wp_walk using PySem.AutoSeq1.wpAny_loadPart' hl, wpAny_pyIter_list hL
    all_goals exact ⟨_, rfl, h⟩
end Mine
end
section
open PySem PySem.W PyProof.Rows PySem.Calls
set_option linter.unusedSimpArgs false
set_option linter.unusedVariables false
namespace Mine
theorem entry_filter_iter : entryFor table "filter.__iter__" = some Builtin.«dict_keyiterator.__iter__» :=
  entryFor_alias (id' := "dict_keyiterator.__iter__") (by kernel_rfl) (by first | rfl | decide +kernel | (unfold String.splitOn; simp +decide [String.splitOnAux])) (by decide +kernel) (by kernel_rfl)
section
variable {prog : Program} {w : World} {A : Around} {E : Value → Shared → Prop} {s : Shared}
theorem call_filter {b l : Addr} {items : Array Value} {Q : Value → Shared → Prop} (hL : s.heap.IsList l items)
    (h : ∀ h', h'.get? (s.heap.objs.size + 1) = some (fObj b s.heap.objs.size) → h'.IsListIter s.heap.objs.size l 0 →
      (∀ c o, s.heap.get? c = some o → h'.get? c = some o) → Q (.ref (s.heap.objs.size + 1)) { s with heap := h' }) :
    wpAny (model prog w) A (call (.type "filter") [.ref b, .ref l]) Q E s := by
  obtain ⟨⟨c, dct, dt, sl⟩, hl, hc, n, hd⟩ := hL
  replace hc : c = .type "list" := hc
  replace hd : dt = .seq items n := hd
  subst hc hd
  refine callType_new called_filter (by decide) (typeCall_filter _ _) (newCall_filter _ _) (fun obj => args_oi3 obj _ _) entry_filter_new
    (meets_filter_new b l items n dct sl) ⟨hl, ?_⟩
  have hz : (s.heap.push { cls := .type "list_iterator", data := .fields #[.ref l, .int 0 0] }).objs.size = s.heap.objs.size + 1 := Heap.size_push ..
  show _ ∧ _
  rw [hz]
  have he : ((s.heap.push { cls := .type "list_iterator", data := .fields #[.ref l, .int 0 0] }).push (fObj b s.heap.objs.size)).get? (s.heap.objs.size + 1) = some (fObj b s.heap.objs.size) := by
    have := Heap.get?_push_size (s.heap.push { cls := .type "list_iterator", data := .fields #[.ref l, .int 0 0] }) (o := fObj b s.heap.objs.size) rfl
    rw [hz] at this; exact this
  exact ⟨⟨_, he, rfl⟩, h _ he ⟨_, Heap.get?_push_of_some _ (Heap.get?_push_size _ rfl), rfl, rfl⟩ fun b o x => Heap.get?_push_of_some _ (Heap.get?_push_of_some _ x)⟩
theorem pyIter_filter {f : Addr} {b it : Addr} {Q : Value → Shared → Prop} (he : s.heap.get? f = some (fObj b it)) (h : Q (.ref f) s) : wpAny (model prog w) A (pyIter (.ref f)) Q E s := by
  have hT : s.TypeIs (.ref f) "filter" := ⟨_, he, rfl⟩
  refine wpAny_pyIter_slot hT slot_filter_iter (wpAny_call_entry slot_filter_iter hT entry_filter_iter ?_ (args_filter_iter _))
  show wpAny _ _ (ret (.ref f)) _ _ s
  exact wpAny_pure ⟨_, rfl, "filter", _, hT, slot_filter_next.lookup, h⟩
structure FlAt (prog : Program) (w : World) (h : Heap) (f b it l sa : Addr) (ss : List Str) (S : Str → Bool) (i : Nat) : Prop where
  fo : h.get? f = some (fObj b it)
  bo : h.get? b = some (bObj sa)
  so : ∃ n, h.SetOf (strKind prog w) sa S n
  io : h.IsListIter it l i
  lo : ∃ vs : List Value, h.IsList l vs.toArray ∧ StrsAre vs ss
  ap : f ≠ it ∧ b ≠ it ∧ sa ≠ it ∧ l ≠ it
theorem SetOf_keep {h h' : Heap} {a : Addr} {S : Str → Bool} {n : Nat} (x : h.SetOf (strKind prog w) a S n) (k : ∀ o, h.get? a = some o → h'.get? a = some o) : h'.SetOf (strKind prog w) a S n := by
  obtain ⟨o, es, ep, t, ho, r⟩ := x
  exact ⟨o, es, ep, t, k _ ho, r⟩
theorem FlAt.step {h h' : Heap} {f b it l sa : Addr} {ss : List Str} {S : Str → Bool} {i j : Nat} (x : FlAt prog w h f b it l sa ss S i) (k : ∀ c o, c ≠ it → h.get? c = some o → h'.get? c = some o) (hi : h'.IsListIter it l j) : FlAt prog w h' f b it l sa ss S j where
  fo := k _ _ x.ap.1 x.fo
  bo := k _ _ x.ap.2.1 x.bo
  so := x.so.imp fun _ y => SetOf_keep y fun o e => k _ o x.ap.2.2.1 e
  io := hi
  lo := by
    obtain ⟨vs, ⟨o, ho, hr⟩, hs⟩ := x.lo
    exact ⟨vs, ⟨o, k _ _ x.ap.2.2.2 ho, hr⟩, hs⟩
  ap := x.ap
theorem sp_item {it l : Addr} {i : Nat} {items} {x : Value} {Q : Option Value → Shared → Prop} (hit : s.heap.IsListIter it l i) (hl : s.heap.IsList l items) (hx : items[i]? = some x)
    (hQ : ∀ h', h'.IsListIter it l (i + 1) → Heap.SameBut it s.heap h' → Q (some x) { s with heap := h' }) :
    wpAny (model prog w) A (callSpecial? (.ref it) (Str.ofString "__next__")) Q E s := by
  obtain ⟨o, ho, hc, hd⟩ := id hit
  obtain ⟨ol, hol, _, nl, hdl⟩ := hl
  refine (wpAny_callSpecial?_slot (name := Str.ofString "__next__") hit.typeIs slot_listiter_next
    (wpAny_call_entry slot_listiter_next hit.typeIs entry_listiter_next ?_ (args_listiter_next _)))
  show wpAny _ _ (field (.ref it) 0 >>= _) _ _ s
  refine wpAny_bind (wpAny_field ho hd (x := .ref l) rfl ?_)
  show wpAny _ _ (if (Value.ref l == Value.none) = true then _ else _) _ _ s
  rw [if_neg (show ¬ ((Value.ref l == Value.none) = true) from Bool.false_ne_true)]
  show wpAny _ _ (field (.ref it) 1 >>= _) _ _ s
  refine wpAny_bind (wpAny_field ho hd (x := .int i 0) rfl ?_)
  show wpAny _ _ (seqItems? (.ref l) >>= _) _ _ s
  refine wpAny_bind (wpAny_seqItems hol hdl ?_)
  simp only [Int.toNat_natCast, hx]
  refine wpAny_bind (wpAny_setField ho hd (by simp) (wpAny_pure ⟨x, rfl, hQ _ ?_ (Heap.SameBut.update ..)⟩))
  exact ⟨_, Heap.get?_update_self _ ho (Obj.isFreed_of_fields (Obj.data_mapFields hd _)), (Obj.cls_mapFields ..).trans hc, by
    rw [Obj.data_mapFields hd]; simp [rawInt]⟩
theorem sp_end {it l : Addr} {i : Nat} {items} {Q : Option Value → Shared → Prop} (hh : A.handled = none)
    (hit : s.heap.IsListIter it l i) (hl : s.heap.IsList l items) (hx : items[i]? = none)
    (hE : ∀ h' e, Heap.ExtBut it s.heap h' → (∃ o, h'.get? e = some o ∧ o.cls = .type "StopIteration") → E (.ref e) { s with heap := h' }) :
    wpAny (model prog w) A (callSpecial? (.ref it) (Str.ofString "__next__")) Q E s := by
  obtain ⟨o, ho, hc, hd⟩ := id hit
  obtain ⟨ol, hol, _, nl, hdl⟩ := hl
  refine (wpAny_callSpecial?_slot (name := Str.ofString "__next__") hit.typeIs slot_listiter_next
    (wpAny_call_entry slot_listiter_next hit.typeIs entry_listiter_next ?_ (args_listiter_next _)))
  show wpAny _ _ (field (.ref it) 0 >>= _) _ _ s
  refine wpAny_bind (wpAny_field ho hd (x := .ref l) rfl ?_)
  show wpAny _ _ (if (Value.ref l == Value.none) = true then _ else _) _ _ s
  rw [if_neg (show ¬ ((Value.ref l == Value.none) = true) from Bool.false_ne_true)]
  show wpAny _ _ (field (.ref it) 1 >>= _) _ _ s
  refine wpAny_bind (wpAny_field ho hd (x := .int i 0) rfl ?_)
  show wpAny _ _ (seqItems? (.ref l) >>= _) _ _ s
  refine wpAny_bind (wpAny_seqItems hol hdl ?_)
  simp only [Int.toNat_natCast, hx]
  refine wpAny_bind (wpAny_rule (wpAny_bind (wpAny_setField ho hd (by simp) ?_)))
  show wpAny _ _ (newExc (.type "StopIteration") [] >>= _) _ _ _
  refine wpAny_bind ?_
  simp only [newExc, newTuple]
  refine wpAny_bind (wpAny_newObj_type ?_ (by size_fits))
  refine wpAny_bind (m := firstArgMember _ _) (wpAny_of_eq (a := Value.none) (by first | rfl | (simp only [firstArgMember]; rfl)) ?_)
  refine wpAny_newObj_type ?_ (by size_fits)
  simp only [raiseNew]
  refine wpAny_bind (wpAny_handled ?_)
  first | rw [show A.in1.handled = none from hh] | rw [hh]
  refine wpAny_bind (wpAny_pure (wpAny_throw ?_))
  exact hE _ _ (((Heap.SameBut.update ..).extBut.push _).push _) ⟨_, Heap.get?_push_size _ rfl, rfl⟩
theorem next_loop (hh : A.handled = none) {f b it l sa : Addr} {ss : List Str} {S : Str → Bool} {R : Result → Shared → Prop} : ∀ (k i : Nat) (s : Shared), ss.length - i = k → i ≤ ss.length → FlAt prog w s.heap f b it l sa ss S i →
    (∀ i' x h' tk t, s.toks ≤ tk → i ≤ i' → ss[i']? = some x → S x = true → ((ss.drop i).take (i' - i)).filter S = [] → (∀ c o, c ≠ it → s.heap.get? c = some o → h'.get? c = some o) → FlAt prog w h' f b it l sa ss S (i' + 1) → R (.ok (.ret (.str x t))) { s with heap := h', toks := tk }) →
    ((ss.drop i).filter S = [] → ∀ h' tk e, s.toks ≤ tk → (∀ c o, c ≠ it → s.heap.get? c = some o → h'.get? c = some o) → (∃ o, h'.get? e = some o ∧ o.cls = .type "StopIteration") → R (.error (.ref e)) { s with heap := h', toks := tk }) →
    codeAny (model prog w) A (.builtin "filter.__next__" ⟨[.ref f], []⟩) R s := by
  have pre : ∀ {i : Nat} {s : Shared} {P : PySem.Fin → Shared → Prop} {E : Value → Shared → Prop}, FlAt prog w s.heap f b it l sa ss S i →
      wpAny (model prog w) A.in1 (callSpecial? (.ref it) (Str.ofString "__next__")) (fun x s' => ∃ item, x = some item ∧ wpAny (model prog w) A.in1 (call (.ref b) [item]) (fun good s2 => ∃ keep, good = .bool keep ∧
        (if keep = true then P (.done (.ret item)) s2 else P (.again (.builtin "filter.__next__" ⟨[.ref f], []⟩)) s2)) E s') E s → wpAny (model prog w) A.in1 (Builtin.«filter.__next__» ⟨[.ref f], []⟩) P E s := by
    intro i s P E x h
    unfold Builtin.«filter.__next__»
    refine wpAny_bind (wpAny_of_eq (a := (Value.ref f, [])) (by rfl) ?_)
    refine wpAny_bind (wpAny_field x.fo rfl (x := .ref b) rfl ?_)
    refine wpAny_bind (wpAny_field x.fo rfl (x := .ref it) rfl ?_)
    refine wpAny_bind (wpAny_mono h (fun v s' h' => ?_) fun _ _ e => e)
    obtain ⟨item, rfl, h'⟩ := h'
    refine wpAny_bind (wpAny_holding ?_)
    rw [if_neg (show ¬ ((Value.ref b == Value.none || Value.ref b == Value.type "bool") = true) from by rw [show (Value.ref b == Value.none) = false from rfl, show (Value.ref b == Value.type "bool") = false from rfl]; decide)]
    refine wpAny_bind (wpAny_mono h' (fun good s2 h2 => ?_) fun _ _ e => e)
    obtain ⟨keep, rfl, h2⟩ := h2
    refine wpAny_holding (wpAny_truthy_bool ?_)
    cases keep with
    | true => exact wpAny_pure h2
    | false => exact wpAny_pure h2
  intro k
  induction k with
  | zero =>
    intro i s hk hi x hR hE
    have hin : i = ss.length := by omega
    obtain ⟨vs, hl, hs⟩ := x.lo
    refine codeAny_builtin entry_filter_next ?_
    rw [Around.under_plainId plain_filter_next _]
    refine pre x (sp_end (by exact hh) x.io hl (by simp [hs.length, hin]) fun h' e k1 k2 => ?_)
    exact hE (by rw [hin]; simp) h' s.toks e (Nat.le_refl _) (fun c o hc e => k1 c o hc e) k2
  | succ k ih =>
    intro i s hk hi x hR hE
    have hlt : i < ss.length := by omega
    obtain ⟨vs, hl, hs⟩ := x.lo
    obtain ⟨t, ht⟩ := hs.at (show ss[i]? = some ss[i] from List.getElem?_eq_getElem hlt)
    refine codeAny_builtin entry_filter_next ?_
    rw [Around.under_plainId plain_filter_next _]
    refine pre x (sp_item x.io hl (x := .str ss[i] t) (by simpa using ht) fun h' hi' hsb => ⟨_, rfl, ?_⟩)
    have kp : ∀ c o, c ≠ it → s.heap.get? c = some o → h'.get? c = some o := fun c o hc e => (hsb.2 c hc).trans e
    have x' := x.step kp hi'
    obtain ⟨n, hS⟩ := x'.so
    refine call_contains x'.bo hS ⟨_, rfl, ?_⟩
    have hdrop : ss.drop i = ss[i] :: ss.drop (i + 1) := List.drop_eq_getElem_cons hlt
    cases hk' : S ss[i] with
    | true =>
      rw [if_pos rfl]
      exact hR i ss[i] h' (s.toks + 1) t (Nat.le_succ _) (Nat.le_refl _) (List.getElem?_eq_getElem hlt) hk' (by simp) kp x'
    | false =>
      rw [if_neg (by decide)]
      refine ⟨plainId_quiet plain_filter_next _, ih (i + 1) _ (by omega) hlt x' (fun i' y h2 tk t' htk hle hy hSy hf k2 x2 => ?_) (fun hf h2 tk e htk k2 k3 => ?_)⟩
      · refine hR i' y h2 tk t' (Nat.le_trans (Nat.le_succ _) htk) (by omega) hy hSy ?_ (fun c o hc e => k2 c o hc (kp c o hc e)) x2
        rw [hdrop, show i' - i = (i' - (i + 1)) + 1 by omega, List.take_succ_cons, List.filter_cons, hk', if_neg (by decide)]
        exact hf
      · refine hE ?_ h2 tk e (Nat.le_trans (Nat.le_succ _) htk) (fun c o hc e => k2 c o hc (kp c o hc e)) k3
        rw [hdrop, List.filter_cons, hk', if_neg (by decide)]
        exact hf
theorem flt_walks (hh : A.handled = none) {f b it l sa : Addr} {ss : List Str} {S : Str → Bool} :
    WalksS prog w A f [f, b, it, l, sa] [it] (fun x y => y = x) (ss.filter S).length (fun j v => ∃ x t, (ss.filter S)[j]? = some x ∧ v = .str x t)
      (fun j s => ∃ i, i ≤ ss.length ∧ ((ss.take i).filter S).length = j ∧ FlAt prog w s.heap f b it l sa ss S i) where
  sub := fun b hb => by simp at hb; subst hb; simp
  grefl := fun _ => rfl
  gtrans := fun _ _ _ x y => y.trans x
  frame := fun j s h' tk ⟨i, hi, hj, x⟩ _ k => by
    refine ⟨i, hi, hj, ⟨k _ (by simp) _ x.fo, k _ (by simp) _ x.bo, x.so.imp fun _ y => SetOf_keep y fun o e => k _ (by simp) o e, ?_, ?_, x.ap⟩⟩
    · obtain ⟨o, ho, r⟩ := x.io; exact ⟨o, k _ (by simp) _ ho, r⟩
    · obtain ⟨vs, ⟨o, ho, r⟩, q⟩ := x.lo; exact ⟨vs, ⟨o, k _ (by simp) _ ho, r⟩, q⟩
  item := fun j s Q E hj ⟨i, hi, hij, x⟩ hQ => by
    have hT : s.TypeIs (.ref f) "filter" := ⟨_, x.fo, rfl⟩
    have e0 : ss.filter S = (ss.take i).filter S ++ (ss.drop i).filter S := by rw [← List.filter_append, List.take_append_drop]
    unfold pyNext
    refine wpAny_bind (wpAny_attempt (wpAny_callSpecial?_slot (name := Str.ofString "__next__") hT slot_filter_next (wpAny_call
      (codeAny_call_builtin_code (Code.quiet_builtin _ (by decide +kernel)) (slot_filter_next.check _ _ _ _ _ _ _ _ hT (args_filter_next _)
        (next_loop (A := A) hh (ss.length - i) i s rfl hi x (fun i' y h' tk t htk hle hy hSy hf kp x' => ?_) (fun hf h' tk e htk kp hs => ?_)))))))
    · refine wpAny_pure (hQ _ _ ⟨y, t, ?_, rfl⟩ ⟨i' + 1, ?_, ?_, x'⟩ ⟨fun c o hc e => kp c o (by simpa using hc) e, rfl, rfl, rfl, htk⟩)
      · have hlt : i' < ss.length := by
          rcases Nat.lt_or_ge i' ss.length with h | h
          · exact h
          · rw [List.getElem?_eq_none h] at hy; cases hy
        have e2 : (ss.drop i).filter S = y :: (ss.drop (i' + 1)).filter S := by
          rw [← List.take_append_drop (i' - i) (ss.drop i), List.filter_append, hf, List.nil_append, List.drop_drop, show i + (i' - i) = i' by omega]
          have hy' : ss[i'] = y := Option.some.inj ((List.getElem?_eq_getElem hlt).symm.trans hy)
          rw [List.drop_eq_getElem_cons hlt, List.filter_cons, hy', hSy, if_pos rfl]
        rw [e0, e2, ← hij]; simp
      · rcases Nat.lt_or_ge i' ss.length with h | h
        · exact h
        · rw [List.getElem?_eq_none h] at hy; cases hy
      · have e3 : ss.take (i' + 1) = ss.take i ++ ((ss.drop i).take (i' - i) ++ [y]) := by
          rw [List.take_add_one, hy, show i' = i + (i' - i) by omega, List.take_add]
          simp
        rw [e3, List.filter_append, List.filter_append, hf, List.length_append, hij]
        simp [hSy]
    · rw [hf, List.append_nil] at e0
      rw [e0, hij] at hj
      exact absurd hj (Nat.lt_irrefl _)
  done := fun s Q E ⟨i, hi, hij, x⟩ hQ => by
    have hT : s.TypeIs (.ref f) "filter" := ⟨_, x.fo, rfl⟩
    have e0 : ss.filter S = (ss.take i).filter S ++ (ss.drop i).filter S := by rw [← List.filter_append, List.take_append_drop]
    have e1 : (ss.drop i).filter S = [] := by
      have := congrArg List.length e0
      rw [List.length_append, hij] at this
      exact List.length_eq_zero_iff.mp (by omega)
    unfold pyNext
    refine wpAny_bind (wpAny_attempt (wpAny_callSpecial?_slot (name := Str.ofString "__next__") hT slot_filter_next (wpAny_call
      (codeAny_call_builtin_code (Code.quiet_builtin _ (by decide +kernel)) (slot_filter_next.check _ _ _ _ _ _ _ _ hT (args_filter_next _)
        (next_loop (A := A) hh (ss.length - i) i s rfl hi x (fun i' y h' tk t htk hle hy hSy hf kp x' => ?_) (fun hf h' tk e htk kp hs => ?_)))))))
    · have : y ∈ (ss.drop i).filter S := List.mem_filter.mpr ⟨by rw [List.mem_iff_getElem?]; exact ⟨i' - i, by rw [List.getElem?_drop, show i + (i' - i) = i' by omega]; exact hy⟩, hSy⟩
      rw [e1] at this; cases this
    · obtain ⟨o, ho, hc⟩ := hs
      refine wpAny_bind (wpAny_isInstance (T := "StopIteration") (b := true) ⟨o, ho, hc⟩ isSubtype_stop ?_)
      refine wpAny_pure (hQ _ ⟨fun c o hc e => kp c o (by simpa using hc) e, rfl, rfl, rfl, htk⟩)
  self := fun j s Q E ⟨i, hi, hij, x⟩ hQ => pyIter_filter x.fo hQ
end
end Mine
end
section
open PySem PySem.W PyProof.Rows PySem.Calls
set_option linter.unusedSimpArgs false
set_option linter.unusedVariables false
namespace Mine
section
variable {prog : Program} {w : World} {A : Around} {s : Shared} {R : Result → Shared → Prop}
variable {I : Addr} {fp wr : List Addr} {G : Array GenState → Array GenState → Prop} {n : Nat} {P : Nat → Value → Prop} {St : Nat → Shared → Prop}
theorem extend_filter (W : WalksS prog w A.in1 I fp wr G n P St) (hT : ∀ i s, St i s → s.TypeIs (.ref I) "filter") (S : Addr) (res : Value) (c₀ : Nat) (hst : St 0 s) (hSf : S ∉ fp) (hI : I ∈ fp)
    (hS : s.heap.get? S = some { cls := .type "list", data := .seq #[] c₀ })
    (hR : ∀ s' acc' c', Moved (S :: wr) G s s' → s'.heap.get? S = some { cls := .type "list", dict := none, data := .seq acc' c', slots := #[] } → ItemsOf P acc' n → R (.ok (.ret res)) s') (hn : n ≤ sizeLine) :
    wpAny (model prog w) A.in1 (Builtin.List.listExtendWith (.ref S) (.ref I) res)
      (fun fin s' => match fin with | .done f => R (.ok f) s' | .again c' => c'.quiet = true ∧ codeAny (model prog w) A c' R s') (fun e s' => R (.error e) s') s := by
  have hSI : S ≠ I := fun e => hSf (e ▸ hI)
  unfold Builtin.List.listExtendWith
  refine wpAny_bind (wpAny_typeOf (hT 0 _ hst) ?_)
  have h1 : Builtin.List.listSameRef (.ref S) (.ref I) = false := by simp [Builtin.List.listSameRef, hSI]
  have h2 : (Value.type "filter" == Value.type "list") = false := by decide
  have h3 : (Value.type "filter" == Value.type "tuple") = false := by decide
  simp only [h1, h2, h3, Bool.or_false, Bool.false_eq_true, if_false]
  refine wpAny_bind (W.self 0 _ _ _ hst ?_)
  refine wpAny_bind (wpAny_holding ?_)
  unfold Builtin.List.listLengthHint
  refine wpAny_bind (wpAny_specialOf (hT 0 _ hst) filter_no_len ?_)
  show wpAny _ A.in1 (specialOf (Value.ref I) (Str.ofString "__length_hint__") >>= _) _ _ _
  refine wpAny_bind (wpAny_specialOf (hT 0 _ hst) filter_no_hint ?_)
  refine wpAny_pure ?_
  show wpAny _ A.in1 (rule "list.extend.makes-room" >>= fun _ => Builtin.List.listTouch (.ref S) >>= fun _ =>
    again (.builtin "list.extend.loop" ⟨[.ref S, .ref I, res], []⟩)) _ _ _
  refine wpAny_bind (wpAny_rule ?_)
  refine wpAny_bind ?_
  show wpAny _ A.in1 (updateSeq S (·.push .none) >>= fun _ => updateSeq S (·.pop)) _ _ _
  refine wpAny_bind (wpAny_updateSeq hS rfl ?_)
  have hS₂ := Heap.get?_update_self (Obj.mapSeq (·.push Value.none)) hS rfl
  refine wpAny_updateSeq (hz := by seq_fits) hS₂ rfl ?_
  have hS₃ := Heap.get?_update_self (Obj.mapSeq (·.pop)) hS₂ rfl
  have oth : ∀ b o, b ≠ S → s.heap.get? b = some o → ((s.heap.update S (Obj.mapSeq (·.push Value.none))).update S (Obj.mapSeq (·.pop))).get? b = some o :=
    fun b o hb e => (Heap.get?_update_other _ _ (Ne.symm hb)).trans ((Heap.get?_update_other _ _ (Ne.symm hb)).trans e)
  refine wpAny_pure ⟨plainId_quiet PySem.F.plain_extend_loop _, codeAny_extend_loopS W hn _ hSf _ n 0 _ _ _ rfl (Nat.zero_le _)
    (W.frame 0 s _ s.toks hst (Nat.le_refl _) fun b hb o e => oth b o (fun h => hSf (h ▸ hb)) e) hS₃ (ItemsOf.nil P) fun s' acc' c' hm hS' hacc => ?_⟩
  exact hR s' acc' c' (Moved.trans W.gtrans ((Moved.refl W.grefl).then_heap (Nat.le_refl _) fun b o hb e => oth b o (fun h => hb (h ▸ List.mem_cons_self)) e) hm) hS' hacc
theorem list_init_filter (W : WalksS prog w A.in1 I fp wr G n P St) (hT : ∀ i s, St i s → s.TypeIs (.ref I) "filter") (S : Addr) (hst : St 0 s) (hSf : S ∉ fp) (hI : I ∈ fp)
    (hS : s.heap.get? S = some { cls := .type "list", data := .seq #[] })
    (hR : ∀ s' acc' c', Moved (S :: wr) G s s' → s'.heap.get? S = some { cls := .type "list", dict := none, data := .seq acc' c', slots := #[] } → ItemsOf P acc' n → R (.ok (.ret .none)) s') (hn : n ≤ sizeLine) :
    wpAny (model prog w) A.in1 (Builtin.«list.__init__» ⟨[.ref S, .ref I], []⟩)
      (fun fin s' => match fin with | .done f => R (.ok f) s' | .again c' => c'.quiet = true ∧ codeAny (model prog w) A c' R s') (fun e s' => R (.error e) s') s := by
  show wpAny _ A.in1 (do let old ← Builtin.List.listItems (.ref S); Builtin.List.listUpdate (.ref S) (fun _ => #[]); letGo old.toList.reverse; Builtin.List.listExtendWith (.ref S) (.ref I) .none) _ _ s
  refine wpAny_bind ?_
  unfold Builtin.List.listItems
  refine wpAny_bind (wpAny_seqItems hS rfl (wpAny_pure ?_))
  show wpAny _ A.in1 (updateSeq S (fun _ => #[]) >>= fun _ => letGo (#[] : Array Value).toList.reverse >>= fun _ => Builtin.List.listExtendWith (.ref S) (.ref I) .none) _ _ s
  refine wpAny_bind (wpAny_updateSeq hS rfl ?_)
  have hS₂ := Heap.get?_update_self (Obj.mapSeq (fun _ => (#[] : Array Value))) hS rfl
  have oth : ∀ b o, b ≠ S → s.heap.get? b = some o → (s.heap.update S (Obj.mapSeq (fun _ => (#[] : Array Value)))).get? b = some o :=
    fun b o hb e => (Heap.get?_update_other _ _ (Ne.symm hb)).trans e
  refine wpAny_bind (wpAny_letGo ?_)
  refine extend_filter (hn := hn) W hT S .none _ (W.frame 0 s _ s.toks hst (Nat.le_refl _) fun b hb o e => oth b o (fun h => hSf (h ▸ hb)) e) hSf hI hS₂ fun s' acc' c' hm hS' hacc => ?_
  exact hR s' acc' c' (Moved.trans W.gtrans ((Moved.refl W.grefl).then_heap (Nat.le_refl _) fun b o hb e => oth b o (fun h => hb (h ▸ List.mem_cons_self)) e) hm) hS' hacc
end
section
variable {prog : Program} {w : World} {A : Around} {E : Value → Shared → Prop} {s : Shared}
variable {I : Addr} {fp wr : List Addr} {G : Array GenState → Array GenState → Prop} {n : Nat} {P : Nat → Value → Prop} {St : Nat → Shared → Prop}
theorem call_list_filter {Q : Value → Shared → Prop} (W : WalksS prog w A.in1.in1 I fp wr G n P St) (hT : ∀ i s, St i s → s.TypeIs (.ref I) "filter") (hst : St 0 s) (hfp : ∀ b ∈ fp, b < s.heap.objs.size) (hI : I ∈ fp)
    (hQ : ∀ s' acc' c', Moved (s.heap.objs.size :: wr) G { s with heap := s.heap.push { cls := .type "list", data := .seq #[] } } s' →
      s'.heap.get? s.heap.objs.size = some { cls := .type "list", dict := none, data := .seq acc' c', slots := #[] } → ItemsOf P acc' n → Q (.ref s.heap.objs.size) s') (hn : n ≤ sizeLine) :
    wpAny (model prog w) A (call (.type "list") [.ref I]) Q E s := by
  have hSf : s.heap.objs.size ∉ fp := fun hm => Nat.lt_irrefl _ (hfp _ hm)
  refine callType_codes (Q₁ := fun obj s₁ => obj = .ref s.heap.objs.size ∧ s₁ = { s with heap := s.heap.push { cls := .type "list", data := .seq #[] } }) PySem.F.called_list (PySem.F.typeCall_list_1 _) PySem.F.entry_list_init
    (code_list_new _ ⟨rfl, rfl⟩) fun obj s₁ h₁ => ?_
  obtain ⟨rfl, rfl⟩ := h₁
  have hS : (s.heap.push { cls := .type "list", data := .seq #[] }).get? s.heap.objs.size = some { cls := .type "list", data := .seq #[] } := Heap.get?_push_size _ rfl
  refine ⟨⟨_, hS, rfl⟩, PySem.F.args_list_init_2 _ _, list_init_filter (hn := hn) W hT _ (W.frame 0 s _ s.toks hst (Nat.le_refl _) fun b _ o e => Heap.get?_push_of_some _ e) hSf hI hS fun s' acc' c' hm hS' hacc => ?_⟩
  exact ⟨rfl, hQ s' acc' c' hm hS' hacc⟩
end
section
variable {c : Cx} {k : Nat} {ns : Names} {σ : Sig}
noncomputable abbrev ofL (x : List Nat) : Str := ⟨x.toArray⟩
theorem strs_are {X : List Addr} {h : Heap} : ∀ {vs : List Value} {l : List (List Nat)}, RepL X h vs (l.map .str) → StrsAre vs (l.map ofL)
  | [], [], .nil => .nil
  | _ :: _, x :: l, .cons r rs => by
    cases r with | str _ t => exact .cons _ t (strs_are rs)
theorem filter_calls {A : Around} {E : Value → Shared → Prop} {s : Shared} {X : List Addr} {b sa l : Addr} {vs : List Value} {ys : List (List Nat)} {S : Str → Bool} {n : Nat} {Q : Value → Shared → Prop} (hh : A.handled = none)
    (hX : Live X s.heap) (hb : s.heap.get? b = some (bObj sa)) (hS : s.heap.SetOf (strKind c.prog c.w) sa S n) (hl : s.heap.PlainList l vs.toArray) (r : RepL X s.heap vs (ys.map .str)) (hn : ys.length ≤ sizeLine)
    (q : ∀ v s', Nxt s s' → Rep X s'.heap v (.list ((ys.filter fun y => S (ofL y)).map .str)) → Q v s') :
    wpAny (model c.prog c.w) A (call (.type "filter") [.ref b, .ref l]) (fun v s1 => Nxt s s1 ∧ wpAny (model c.prog c.w) A (call (.type "list") [v]) Q E s1) E s := by
  have hIs : s.heap.IsList l vs.toArray := by obtain ⟨m, e⟩ := hl; exact ⟨_, e, rfl, m, rfl⟩
  refine call_filter hIs fun h' hf hi k1 => ?_
  obtain ⟨o, es, ep, tb, hso, hsr⟩ := hS
  obtain ⟨m, hl'⟩ := hl
  have ne : ∀ {a : Addr} {o : Obj}, s.heap.get? a = some o → a ≠ s.heap.objs.size := fun e => Nat.ne_of_lt (Heap.lt_size e)
  have hfl : (ys.map ofL).length = ys.length := List.length_map _
  have x : FlAt c.prog c.w h' (s.heap.objs.size + 1) b s.heap.objs.size l sa (ys.map ofL) S 0 :=
    ⟨hf, k1 _ _ hb, ⟨n, o, es, ep, tb, k1 _ _ hso, hsr⟩, hi, ⟨vs, ⟨_, k1 _ _ hl', rfl, m, rfl⟩, strs_are r⟩, ⟨Nat.succ_ne_self _, ne hb, ne hso, ne hl'⟩⟩
  have hlen : ((ys.map ofL).filter S).length ≤ sizeLine := Nat.le_trans (List.length_filter_le _ _) (by rw [hfl]; exact hn)
  refine ⟨⟨fun a o e => k1 a o e, rfl, .refl _⟩, ?_⟩
  refine call_list_filter (flt_walks (A := A.in1.in1) (by exact hh) (f := s.heap.objs.size + 1) (b := b) (it := s.heap.objs.size) (l := l) (sa := sa) (ss := ys.map ofL) (S := S))
    (fun i s2 ⟨j, _, _, y⟩ => ⟨_, y.fo, rfl⟩) ⟨0, Nat.zero_le _, by simp, x⟩ (fun a ha => ?_) (by simp) (fun s' acc cc mv hs' hit => ?_) hlen
  · simp at ha
    rcases ha with rfl | rfl | rfl | rfl | rfl
    · exact Heap.lt_size x.fo
    · exact Heap.lt_size x.bo
    · obtain ⟨o, ho, _⟩ := x.io; exact Heap.lt_size ho
    · exact Heap.lt_size (k1 _ _ hl')
    · exact Heap.lt_size (k1 _ _ hso)
  · have hlt : ∀ {a : Addr} {o : Obj}, s.heap.get? a = some o → a < s.heap.objs.size := fun e => Heap.lt_size e
    have hsz : s.heap.objs.size < h'.objs.size := by obtain ⟨o, ho, _⟩ := x.io; exact Heap.lt_size ho
    have hS0 : s.heap.get? h'.objs.size = none := get_ge (Nat.le_of_lt hsz)
    refine q _ s' ⟨fun a o e => mv.heap a o ?_ (Heap.get?_push_of_some _ (k1 a o e)), mv.os, ?_⟩ ?_
    · simp only [List.mem_cons, List.not_mem_nil, or_false, not_or]
      exact ⟨(fun z => by rw [z, hS0] at e; cases e), ne e⟩
    · rw [show s'.gens = s.gens from mv.gens]; exact .refl _
    · have ha : h'.objs.size ∉ X := fun z => by obtain ⟨o, e⟩ := hX _ z; rw [hS0] at e; cases e
      have e1 : acc.toList = (acc.toList : List Value) := rfl
      refine .list (vs := acc.toList) ha ⟨cc, by simpa using hs'⟩ ?_
      have key : ∀ (m : List Str) (ws : List Value), ws.length = m.length → (∀ (j : Nat) (v : Value), ws[j]? = some v → ∃ (x : Str) (t : Tok), m[j]? = some x ∧ v = Value.str x t) → RepL X s'.heap ws (m.map fun x => D.str x.cps.toList) := by
        intro m
        induction m with
        | nil => intro ws hw _; cases ws with | nil => exact .nil | cons _ _ => cases hw
        | cons x m ih =>
          intro ws hw h
          cases ws with
          | nil => cases hw
          | cons v ws =>
            obtain ⟨y, t, hy, rfl⟩ := h 0 v rfl
            cases hy
            exact .cons (by obtain ⟨⟨cs⟩⟩ := x; exact .str cs t) (ih ws (by simpa using hw) fun j v hj => h (j + 1) v hj)
      have := key ((ys.map ofL).filter S) acc.toList (by rw [Array.length_toList]; exact hit.1) fun j v hj => hit.2 j v (by rw [← Array.getElem?_toList]; exact hj)
      have e2 : ((ys.map ofL).filter S).map (fun x => D.str x.cps.toList) = (ys.filter fun y => S (ofL y)).map .str := by
        rw [List.filter_map, List.map_map]; rfl
      rw [e2] at this
      exact this
end
end Mine
end
section
open PySem PySem.W PyProof.Rows PySem.Calls
set_option linter.unusedSimpArgs false
set_option linter.unusedVariables false
namespace Mine
section
variable {c : Cx} {k : Nat} {ns : Names} {σ : Sig}
theorem ofL_inj {x y : List Nat} : ofL x = ofL y ↔ x = y := by constructor <;> intro h <;> simpa [ofL] using h
theorem metS_contains (xs : List (List Nat)) (y : List Nat) : metS (fun i => ofL (xs.getD i [])) xs.length (ofL y) = xs.contains y := by
  unfold metS
  rw [Bool.eq_iff_iff]
  simp only [List.any_eq_true, List.mem_range, decide_eq_true_eq, ofL_inj, List.contains_iff_mem]
  constructor
  · rintro ⟨i, hi, rfl⟩
    rw [List.getD_eq_getElem?_getD, List.getElem?_eq_getElem hi]; exact List.getElem_mem hi
  · intro h
    obtain ⟨i, hi, rfl⟩ := List.mem_iff_getElem.mp h
    exact ⟨i, hi, by rw [List.getD_eq_getElem?_getD, List.getElem?_eq_getElem hi]; rfl⟩
noncomputable def AttrP (value : Expr) (attr : Str) (pos : Pos) : Prop := ∀ env, eval (.Attribute value attr pos) env = (do
      let o ← eval value env
      standAt pos.atName
      let r ← holding [o] (getAttr o attr true)
      letTemporaryGo value o r
      pure r)
theorem evalArgs1 {M : Model} {A : Around} {E : Value → Shared → Prop} {s : Shared} {f : Value} {x : Sem Value} {Q : Args → Shared → Prop} (h : wpAny M A x (fun v s' => Q ⟨[v], []⟩ s') E s) : wpAny M A (evalArgs f true [(false, x)] []) Q E s :=
  evalArgs_plain (spliced_cons (wpAny_mono h (fun _ _ z => spliced_nil z) fun _ _ z => z))
theorem ev_commons {nl nf nt : Str} {pl pf pt p1 p2 p3 ap : Pos} {ex ey : Expr} {xs ys : List (List Nat)} (gl : EG c ns (.Name nl pl) (.type "list")) (gf : EG c ns (.Name nf pf) (.type "filter")) (gt : EG c ns (.Name nt pt) (.type "set"))
    (hx : EV c k ns σ ex (.list (xs.map .str))) (hy : EV c k ns σ ey (.list (ys.map .str))) (hlx : xs.length + 1 < scanBound) (hly : ys.length ≤ sizeLine)
    (s1 : ∀ env, backTo p1 (starEach [ex] env) = [(false, eval ex env)])
    (s2 : ∀ env, backTo p2 (starEach [.Attribute (.Call (.Name nt pt) [ex] [] p1) (Str.ofString "__contains__") ap, ey] env) = [(false, eval (.Attribute (.Call (.Name nt pt) [ex] [] p1) (Str.ofString "__contains__") ap) env), (false, eval ey env)])
    (s3 : ∀ env, backTo p3 (starEach [.Call (.Name nf pf) [.Attribute (.Call (.Name nt pt) [ex] [] p1) (Str.ofString "__contains__") ap, ey] [] p2] env) = [(false, eval (.Call (.Name nf pf) [.Attribute (.Call (.Name nt pt) [ex] [] p1) (Str.ofString "__contains__") ap, ey] [] p2) env)])
    (ha : AttrP (.Call (.Name nt pt) [ex] [] p1) (Str.ofString "__contains__") ap) :
    EV c k ns σ (.Call (.Name nl pl) [.Call (.Name nf pf) [.Attribute (.Call (.Name nt pt) [ex] [] p1) (Str.ofString "__contains__") ap, ey] [] p2] [] p3) (.list ((ys.filter fun y => xs.contains y).map .str)) := by
  intro env ef A a he X0 X F s Q E st q
  refine wpAny_Call_ofName (gl env ef A s _ E st.base.top ?_)
  rw [s3]
  refine callWith_of (P := Ext c.h0) rfl (fun h hh => keep_type _ h hh) (evalArgs1 ?_)
  refine wpAny_Call_ofName (gf env ef A s _ E st.base.top ?_)
  rw [s2]
  refine callWith_of (P := Ext c.h0) rfl (fun h hh => keep_type _ h hh) (evalArgs_plain (spliced_cons ?_))
  refine Attribute_any_ (he := ha env) ?_
  refine wpAny_Call_ofName (gt env ef A s _ E st.base.top ?_)
  rw [s1]
  refine callWith_of (P := Ext c.h0) rfl (fun h hh => keep_type _ h hh) (evalArgs1 ?_)
  refine hx env ef A a he X0 X F s _ E st fun v s1' n1 r1 => ⟨(st.base.nxt n1).top, ?_⟩
  have st1 := st.nxt n1
  cases r1 with
  | list nx px rx =>
    rename_i lx vx
    have hIs : s1'.heap.IsList lx vx.toArray := by obtain ⟨m, e⟩ := px; exact ⟨_, e, rfl, m, rfl⟩
    have hlen : vx.length = xs.length := by rw [rx.length, List.length_map]
    refine call_set_strs (val := fun i => ofL (xs.getD i [])) a.h hIs (fun i v hv => ?_) (by rw [List.size_toArray, hlen]; exact hlx) fun h2 tk m hS k2 => ?_
    · obtain ⟨d, hd, rd⟩ := rx.at' (show vx[i]? = some v by simpa using hv)
      rw [List.getElem?_map] at hd
      obtain ⟨y, hy', rfl⟩ := Option.map_eq_some_iff.mp hd
      cases rd with
      | str _ t => exact ⟨t, by rw [List.getD_eq_getElem?_getD, hy']; rfl⟩
    · have n2 : Nxt s1' { s1' with heap := h2, toks := tk } := .mk' fun b o e => k2 b o (Heap.lt_size e) e
      obtain ⟨es, ep, tb, hso⟩ := setObj_at (s := { s1' with heap := h2, toks := tk }) hS
      refine get_contains hso ?_
      have n3 : Nxt { s1' with heap := h2, toks := tk } { s1' with heap := h2.push (bObj s1'.heap.objs.size), toks := tk + 1 } := .push'
      have st3 := (st1.nxt n2).nxt n3
      refine spliced_cons ?_
      refine hy env ef A a he X0 X F _ _ E st3 fun v4 s4 n4 r4 => spliced_nil ⟨(st3.nxt n4).base.top, ?_⟩
      cases r4 with
      | list ny py ry =>
        have hb4 : s4.heap.get? h2.objs.size = some (bObj s1'.heap.objs.size) := n4.heap _ _ (Heap.get?_push_size _ rfl)
        obtain ⟨o, es', ep', tb', hso', hsr⟩ := hS
        have hS4 : s4.heap.SetOf (strKind c.prog c.w) s1'.heap.objs.size (metS (fun i => ofL (xs.getD i [])) vx.toArray.size) m := ⟨o, es', ep', tb', n4.heap _ _ (Heap.get?_push_of_some _ hso'), hsr⟩
        have key := filter_calls (A := A) (E := E) (Q := Q) a.h (st3.nxt n4).base.live hb4 hS4 py ry hly fun v s' n r => q v s' ((((n1.trans n2).trans n3).trans n4).trans n) (by
          have e : (fun y => metS (fun i => ofL (xs.getD i [])) vx.toArray.size (ofL y)) = fun y => xs.contains y := by
            funext y; rw [List.size_toArray, hlen]; exact metS_contains xs y
          rw [e] at r; exact r)
        refine wpAny_mono key (fun v s' hv => ⟨((st3.nxt n4).nxt hv.1).base.top, hv.2⟩) fun _ _ e => e
end
end Mine
end
section
open PySem PySem.W PyProof.Rows PySem.Calls
set_option linter.unusedSimpArgs false
set_option linter.unusedVariables false
namespace Mine
section
variable {c : Cx} {k : Nat} {ns : Names} {σ : Sig}
structure MI (c : Cx) (he : Heap) (X0 X : List Addr) (env : Env) (σ : Sig) (F : Str → List Addr) (y : Str) (a dx : Addr) (H : Nat → Int) (T : Nat → Tok) (u r : Value) (s : Shared) : Prop where
  st : St c he X0 X env σ F s
  l : Look s.heap env y (.ref a)
  inst : s.heap.get? a = some (instObj cE dx)
  dict : ∃ n, s.heap.get? dx = some (dictOf (entL H T u r) n)
theorem mi_step {env : Env} {A : Around} {he : Heap} {X0 X : List Addr} {F : Str → List Addr} {s : Shared} {y name : Str} {a dx : Addr} {H : Nat → Int} {T : Nat → Tok} {u r : Value} {e : Expr} {d : D} {p pa ps : Pos} {fu fr : Value → Value} {Q : Flow → Shared → Prop} {E : Value → Shared → Prop}
    (ef : EnvFor ns env) (ao : AOk k A) (i : MI c he X0 X env σ F y a dx H T u r s) (hdx : dx ∈ X ∧ dx ∉ X0 ∧ dx ∉ fa env) (hne : a ≠ dx) (hown : ∀ x d, σ.lookup x = some (true, d) → dx ∉ F x) (hn : nameOk y = true) (hf : findIn c.K (.ref cE) name = some none)
    (hl : (getL name (entL H T u r)).isSome = true) (hp : ∀ H' t v, (d = .none → v = .none) → putL name H' (.str name t) v (entL H T u r) = entL H T (fu v) (fr v)) (h : EV c k ns σ e d) (hs : ∀ env, swapsWith e (some (.Attribute (.Name y p) name pa)) ps.line env = pure false)
    (q : ∀ v s', Rep X s'.heap v d → MI c he X0 X env σ F y a dx H T (fu v) (fr v) s' → Kp X0 X s X s' → (∀ v0 d0, Rep X s.heap v0 d0 → Rep X s'.heap v0 d0) → Q .next s') :
    wpAny (model c.prog c.w) A (exec (.Assign [.Attribute (.Name y p) name pa] e ps) env) Q E s := by
  simp only [nameOk, Bool.and_eq_true, Bool.not_eq_true'] at hn
  refine plainObj_wpAny_Assign_Attribute (h env ef A ao he X0 X F s _ E i.st fun v s1 n1 rv => ?_) (hs env)
  refine name_look ef.kind (i.l.ext n1.heap) hn.1 hn.2 ?_
  obtain ⟨n, hd⟩ := i.dict
  have hd1 := n1.heap _ _ hd
  have hi1 := n1.heap _ _ i.inst
  have st1 := i.st.nxt n1
  have hvn : d = .none → v = .none := fun e => by subst e; cases rv; rfl
  refine set_at (dx := dx) (c.kin.keeps st1.base.top) ⟨hi1, rfl, rfl, hd1⟩ rfl c.cls.sa c.cls.po (taker_of hf) c.cls.hd hl (by rw [hp _ _ _ hvn]; exact (show (4 : Nat) ≤ 1000 by decide)) ?_
  have kp : Keep [dx] s1.heap (s1.heap.update dx (Obj.putName name (PyData.keyHash c.w.params name) (.str name (s1.toks + 1)) v)) := fun b o hb e => by
    rw [Heap.get?_update_other _ _ (by simpa [eq_comm] using hb)]; exact e
  have D' : (s1.heap.update dx (Obj.putName name (PyData.keyHash c.w.params name) (.str name (s1.toks + 1)) v)).get? dx = some (dictOf (entL H T (fu v) (fr v)) (putN name (entL H T u r) n)) := by
    rw [Heap.get?_update_self _ hd1 (by rw [putName_dict]; rfl), putName_dict, hp _ _ _ hvn]
  have kX : Keep X s1.heap (s1.heap.update dx (Obj.putName name (PyData.keyHash c.w.params name) (.str name (s1.toks + 1)) v)) := kp.sub fun b hb => by simp at hb; subst hb; exact hdx.1
  refine q v _ (rv.keep kX) ⟨?_, ?_, kp _ _ (by simpa using hne) hi1, _, D'⟩ ?_ fun v0 d0 r0 => (r0.ext n1.heap).keep kX
  · exact st1.touch' (s' := { s1 with heap := s1.heap.update dx (Obj.putName name (PyData.keyHash c.w.params name) (.str name (s1.toks + 1)) v), toks := s1.toks + 2 }) [dx] kp
      (fun b hb => by simp at hb; subst hb; exact ⟨hdx.1, i.st.base.new _ hdx.1 hdx.2.1, hdx.2.2, ⟨_, D'⟩, hown⟩) rfl id
  · exact (i.l.ext n1.heap).keep fun b hb o e => kp b o (by simp; rintro rfl; exact hdx.2.2 hb) e
  · exact (Kp.of_nxt n1).trans ⟨fun b o hb e => kp b o (by
      simp; rintro rfl
      rcases hb with hb | hb
      · exact hb hdx.1
      · exact hdx.2.1 hb) e, fun b hb => .inl hb, .refl _⟩
theorem exs_merge {fd : FuncData} {self : Str} {ib : List Stmt} {y : Str} {e1 e2 e3 e4 : Expr} {dw dr : List D} {st1 : Stmt} {p2 a2 q2 p3 a3 q3 p4 a4 q4 p5 a5 q5 p6 q6 : Pos}
    (hσ : ∀ x d, σ.lookup x ≠ some (true, d)) (hyσ : σ.lookup y = none) (h1 : EX c k ns σ st1 (.next ((y, true, .ent [] []) :: σ))) (hy : isVar (ns.lookup y) = true) (hn : nameOk y = true)
    (v1 : EV c k ns σ e1 (.list dw)) (v2 : EV c k ns σ e2 (.list dr)) (v3 : EV c k ns σ e3 .none) (v4 : EV c k ns σ e4 .none)
    (w1 : ∀ env, swapsWith e1 (some (.Attribute (.Name y p2) (Str.ofString "useragents") a2)) q2.line env = pure false) (w2 : ∀ env, swapsWith e2 (some (.Attribute (.Name y p3) (Str.ofString "rulelines") a3)) q3.line env = pure false)
    (w3 : ∀ env, swapsWith e3 (some (.Attribute (.Name y p4) (Str.ofString "delay") a4)) q4.line env = pure false) (w4 : ∀ env, swapsWith e4 (some (.Attribute (.Name y p5) (Str.ofString "req_rate") a5)) q5.line env = pure false) :
    EXs c k ns σ [st1, .Assign [.Attribute (.Name y p2) (Str.ofString "useragents") a2] e1 q2, .Assign [.Attribute (.Name y p3) (Str.ofString "rulelines") a3] e2 q3,
      .Assign [.Attribute (.Name y p4) (Str.ofString "delay") a4] e3 q4, .Assign [.Attribute (.Name y p5) (Str.ofString "req_rate") a5] e4 q5, .Return (some (.Name y p6)) q6] (.ret (.ent dw dr)) := by
  intro env ef A ao he X0 X F s Q E st q
  refine wpAny_execs_cons (h1 env ef A ao he X0 X F s _ E st fun fl X1 F1 s1 en => ?_)
  obtain ⟨rfl, stb, kp1⟩ := en
  obtain ⟨v, l, r⟩ := stb.vis y true (.ent [] []) (by rw [List.lookup_cons, beq_self_eq_true]) (isVar_of ef hy)
  simp only [if_true] at r
  have ownF := stb.own y (.ent [] []) (by rw [List.lookup_cons, beq_self_eq_true])
  generalize hF : F1 y = fy at r
  cases r with
  | ent ea b1 b2 b3 b4 b5 b6 p ru p2' rr =>
    rename_i a dx u r od us rs
    obtain ⟨H, T, n, rfl⟩ := ea.is
    have sta : St c he X0 X1 env σ F1 s1 := stb.weak fun x z e => by
      have : x ≠ y := fun h => by rw [h, hyσ] at e; cases e
      rw [List.lookup_cons, beq_false_of_ne this]; exact e
    have hdx := ownF dx (by rw [hF]; simp)
    have ha := ownF a (by rw [hF]; simp)
    have i1 : MI c he X0 X1 env σ F1 y a dx H T (.ref u) (.ref r) s1 := ⟨sta, l, ea.inst, n, ea.dict⟩
    have ho : ∀ x d, σ.lookup x = some (true, d) → dx ∉ F1 x := fun x d e => absurd e (hσ x d)
    refine wpAny_execs_cons (mi_step (fu := fun v => v) (fr := fun _ => .ref r) ef ao i1 hdx b6 ho hn c.cls.ua rfl (fun _ _ _ _ => rfl) v1 w1 fun u2 s2 r2 i2 k2 c2 => ?_)
    refine wpAny_execs_cons (mi_step (fu := fun _ => u2) (fr := fun v => v) ef ao i2 hdx b6 ho hn c.cls.rl rfl (fun _ _ _ _ => rfl) v2 w2 fun u3 s3 r3 i3 k3 c3 => ?_)
    refine wpAny_execs_cons (mi_step (fu := fun _ => u2) (fr := fun v => u3) ef ao i3 hdx b6 ho hn c.cls.dl rfl (fun _ _ v h => by rw [h rfl]; rfl) v3 w3 fun u4 s4 r4 i4 k4 c4 => ?_)
    refine wpAny_execs_cons (mi_step (fu := fun _ => u2) (fr := fun v => u3) ef ao i4 hdx b6 ho hn c.cls.rr rfl (fun _ _ v h => by rw [h rfl]; rfl) v4 w4 fun u5 s5 r5 i5 k5 c5 => ?_)
    simp only [nameOk, Bool.and_eq_true, Bool.not_eq_true'] at hn
    refine wpAny_execs_cons (wpAny_Return_some (name_look ef.kind i5.l hn.1 hn.2 (q _ X F _ ⟨_, rfl, ⟨i5.st.base.keep, ?_, i5.st.base.os, i5.st.base.gens⟩, (((kp1.gens.trans k2.gens).trans k3.gens).trans k4.gens).trans k5.gens⟩)))
    have ru5 := c5 _ _ (c4 _ _ (c3 _ _ r2))
    have rr5 := c5 _ _ (c4 _ _ r3)
    have sub : ∀ b, b ∉ X1 → b ∉ X0 := fun b h m => h (i5.st.base.x0x b m)
    obtain ⟨n5, d5⟩ := i5.dict
    cases ru5 with
    | list nu pu ru' => cases rr5 with
      | list nr pr rr' =>
        exact .ent ha.2.1 hdx.2.1 (sub _ nu) (sub _ nr) ⟨i5.inst, d5, H, T, n5, rfl⟩ pu (RepL.sub ru' fun b h => i5.st.base.x0x b h) pr (RepL.sub rr' fun b h => i5.st.base.x0x b h)
end
end Mine
end
section
open PySem PySem.W PyProof.Rows PySem.Calls
set_option linter.unusedSimpArgs false
set_option linter.unusedVariables false
namespace Mine
/-! a generator's code, stretch by stretch -/
section
variable {prog : Program} {w : World} {A : Around} {R : GenEnd} {Y : Protocol} {n : Nat} {s₀ : Shared} {c : Code} {fs : List Frame} {s : Shared} {env : Env}
  {K : Flow → Sem PySem.Fin} {H : Value → Sem PySem.Fin} {gd : Bool → Bool} {lv : List Value → List Value}
theorem sg_If {t : Expr} {body orelse : List Stmt} {pos : Pos}
    (h : wpAny (model prog w) (A.over c fs) (isTrue t env (eval t env)) (fun b s' => Seg (model prog w) A R Y n s₀ c ((if b = true then execs body env else execs orelse env).wrap K H gd lv) fs s') (fun x s' => Seg (model prog w) A R Y n s₀ c (H x) fs s') s) :
    Seg (model prog w) A R Y n s₀ c ((exec (.If t body orelse pos) env).wrap K H gd lv) fs s := by
  rw [arm_exec_If]
  refine seg_bind_wrap (wpAny_standAt ?_)
  exact seg_bind_wrap (wpAny_mono h (fun b s' hb => by cases b <;> exact hb) fun _ _ x => x)
noncomputable abbrev ownK (env : Env) (K : Flow → Sem PySem.Fin) (H : Value → Sem PySem.Fin) (gd : Bool → Bool) (lv : List Value → List Value) : Result → Sem PySem.Fin := fun r =>
  ((match r with | .ok f => (.pure f : Sem Flow) | .error e => .raise e).onRaise fun (x : Value) => do
        if (← field x 1) == Value.none then unsupported "frame.own-activation:exception-without-traceback"
        setFlight x env.frame).wrap K H gd lv
theorem sg_For {target iter : Expr} {body : List Stmt} {pos : Pos} (hs : ∀ x, foldedSetIterable iter env x = pure x)
    (h : wpAny (model prog w) (A.over c fs) (eval iter env) (fun v s1 => wpAny (model prog w) (A.over c fs) (pyIter v) (fun it s2 => ∀ p, Seg (model prog w) A R Y n s₀ (.forLoop target it body [] env) ((model prog w).den (.forLoop target it body [] env))
      (.ret (ownK env K H gd lv) none (gd false) (lv []) c p [] :: fs) s2) (fun x s' => Seg (model prog w) A R Y n s₀ c (H x) fs s') s1) (fun x s' => Seg (model prog w) A R Y n s₀ c (H x) fs s') s) :
    Seg (model prog w) A R Y n s₀ c ((exec (.For target iter body [] pos) env).wrap K H gd lv) fs s := by
  rw [arm_exec_For]
  refine seg_bind_wrap (wpAny_standAt ?_)
  refine seg_bind_wrap (wpAny_mono h (fun v s1 h1 => ?_) fun _ _ x => x)
  refine seg_bind_wrap (wpAny_of_eq (hs v) ?_)
  refine seg_bind_wrap (wpAny_standAt ?_)
  refine seg_bind_wrap (wpAny_holding (wpAny_mono h1 (fun it s2 h2 => ?_) fun _ _ x => x))
  exact seg_call h2
noncomputable abbrev lpH (env : Env) : Value → Sem PySem.Fin := fun e => (do noteFrame e env; theTreesLotGoes e : Sem Unit).wrap (fun _ => .raise e) .raise id id
noncomputable abbrev lpK (again : Code) : Flow → Sem PySem.Fin := fun f => match f with
  | .next | .cont => .pure (.again again)
  | .brk => .pure (.done .next)
  | .ret v => .pure (.done (.ret v))
theorem sg_forLoop {x : Str} {px : Pos} {it : Value} {body : List Stmt}
    (h : wpAny (model prog w) (A.over (.forLoop (.Name x px) it body [] env) fs) (pyNext it) (fun r s1 => match r with
      | none => Seg (model prog w) A R Y n s₀ (.block [] env) (.pure (.done .next)) fs s1
      | some v => wpAny (model prog w) (A.over (.forLoop (.Name x px) it body [] env) fs) (assign (.Name x px) env v) (fun _ s2 =>
          Seg (model prog w) A R Y n s₀ (.forLoop (.Name x px) it body [] env) ((execs body env).wrap (lpK (.forLoop (.Name x px) it body [] env)) (lpH env) id id) fs s2) (fun _ _ => False) s1) (fun _ _ => False) s) :
    Seg (model prog w) A R Y n s₀ (.forLoop (.Name x px) it body [] env) ((model prog w).den (.forLoop (.Name x px) it body [] env)) fs s := by
  show Seg _ A R Y n s₀ _ ((forTurn (.Name x px) it body [] env).onRaise (fun x => do noteFrame x env; theTreesLotGoes x)) fs s
  unfold forTurn
  rw [Sem.onRaise_eq_wrap]
  refine seg_bind_wrap (wpAny_standAt ?_)
  refine seg_bind_wrap (wpAny_onRaise (wpAny_mono h (fun r s1 h1 => ?_) fun _ _ x => x.elim))
  cases r with
  | none =>
    refine seg_again rfl ?_
    exact h1
  | some v =>
    dsimp only at h1 ⊢
    refine seg_bind_wrap (wpAny_of_eq (rfl : letOwnedTupleGo (.Name x px) it v = pure ()) ?_)
    refine seg_bind_wrap (wpAny_mono h1 (fun _ s2 h2 => ?_) fun _ _ x => x.elim)
    rw [Sem.bind_eq_wrap', Sem.wrap_wrap]
    rw [Sem.wrap_congr (execs body env) _ _ (K' := lpK (.forLoop (.Name x px) it body [] env)) (H' := lpH env)
        (fun f => by cases f <;> rfl)
        (fun e => by first | exact Sem.bind_eq_wrap _ _ | (show (do noteFrame e env; theTreesLotGoes e : Sem Unit).bind (fun _ => .raise e) = _; rw [Sem.bind_eq_wrap]))]
    exact h2
theorem sg_plain {st : Stmt} (h : wpAny (model prog w) (A.over c fs) (exec st env) (fun fl s' => Seg (model prog w) A R Y n s₀ c (K fl) fs s') (fun x s' => Seg (model prog w) A R Y n s₀ c (H x) fs s') s) :
    Seg (model prog w) A R Y n s₀ c ((exec st env).wrap K H gd lv) fs s := seg_wrap h
end
section
variable {c : Cx} {k : Nat} {ns : Names} {σ : Sig}
noncomputable def Flat : Bool → D → Prop
  | false, .none => True
  | false, .int _ => True
  | true, .list ds => ∀ d ∈ ds, ∃ i, d = .int i
  | _, _ => False
theorem repL_ints {X Y : List Addr} {h h' : Heap} : ∀ {vs : List Value} {ds : List D}, (∀ d ∈ ds, ∃ i, d = D.int i) → RepL X h vs ds → RepL Y h' vs ds
  | [], [], _, .nil => .nil
  | _ :: _, _ :: _, hd, .cons r rs => by
    obtain ⟨i, rfl⟩ := hd _ (List.mem_cons_self ..)
    cases r with
    | int _ t => exact .cons (.int i t) (repL_ints (fun d m => hd d (List.mem_cons_of_mem _ m)) rs)
theorem St.wake {he : Heap} {X0 X : List Addr} {env : Env} {F : Str → List Addr} {s s' : Shared} (st : St c he X0 X env σ F s) (kx : ∀ a ∈ X, ∀ o, s.heap.get? a = some o → s'.heap.get? a = some o) (ke : Ext he s'.heap)
    (ho : s'.os = c.os0) (hg : AllBare s'.gens) (hσ : ∀ x o d, σ.lookup x = some (o, d) → Flat o d) : St c he X0 X env σ F s' where
  base := ⟨st.base.old, ke, st.base.x0, st.base.x0x, st.base.new, fun a ha => by obtain ⟨o, e⟩ := st.base.live a ha; exact ⟨o, kx a ha o e⟩, ho, hg⟩
  fw := st.fw.keep fun a ha o e => kx a (st.fx a ha) o e
  fx := st.fx
  f0 := st.f0
  vis := fun x o d e hv => by
    obtain ⟨v, l, r⟩ := st.vis x o d e hv
    have hf := hσ x o d e
    refine ⟨v, l.keep fun a ha o e => kx a (st.fx a ha) o e, ?_⟩
    cases o with
    | false =>
      cases d with
      | none => cases r; exact .none
      | int i => cases r with | int _ t => exact .int i t
      | _ => exact hf.elim
    | true =>
      have ow := st.own x d e
      generalize F x = f at ow r ⊢
      simp only [if_true] at r ⊢
      cases r with
      | list p rs => exact .list (p.at fun o e => kx _ (ow _ (List.mem_cons_self ..)).1 o e) (repL_ints hf rs)
      | ent => exact hf.elim
  own := st.own
  apart := st.apart
end
end Mine
end
section
open PySem PySem.W PyProof.Rows PySem.Calls
set_option linter.unusedSimpArgs false
set_option linter.unusedVariables false
namespace Mine
noncomputable def gi : Option Int → List Int → Nat → List Int
  | _, _, 0 => []
  | _, [], _ + 1 => []
  | last, x :: r, n + 1 => if x = 127 then [] else if x = 0 then List.replicate (n + 1) (last.getD 0) else x :: gi (some x) r n
noncomputable def optD : Option Int → D
  | none => .none
  | some i => .int i
noncomputable def gσ (x lst : Str) (i : Int) (last : Option Int) : Sig := [(x, false, .int i), (lst, false, optD last)]
structure GenP (c : Cx) (k : Nat) (ns : Names) (x lst : Str) (t1 t2 t3 tt el ex : Expr) (asg : Stmt) : Prop where
  hx : ns.lookup x = some .local
  ne : x ≠ lst
  e1 : ∀ i last, ET c k ns (gσ x lst i last) t1 (decide (i = 127))
  e2 : ∀ i last, ET c k ns (gσ x lst i last) t2 (decide (i = 0))
  e3 : ∀ i last, ET c k ns (gσ x lst i last) t3 last.isNone
  e4 : ∀ σ, ET c k ns σ tt true
  e5 : ∀ i l, EV c k ns (gσ x lst i (some l)) el (.int l)
  e6 : ∀ i last, EV c k ns (gσ x lst i last) ex (.int i)
  e7 : ∀ i last, EX c k ns (gσ x lst i last) asg (.next ((lst, false, .int i) :: gσ x lst i last))
section
theorem aok_func {k : Nat} {A : Around} (a : AOk (k + 1) A) {body : List Stmt} {env : Env} : AOk k (A.over (.func body env) []) := by
  have hw : (Code.func body env).weight = 1 := rfl
  have hu : (Code.func body env).cUnits = 3 := rfl
  refine ⟨a.h, ?_, ?_⟩
  · have := a.d
    show A.depth + frameCount [] + (Code.func body env).weight + k < _
    rw [hw]; show A.depth + 0 + 1 + k < _; omega
  · have := a.u
    show A.units + unitsOf [] + (Code.func body env).cUnits + 10 * k < _
    rw [hu]; show A.units + 0 + 3 + 10 * k < _; omega
theorem aok_for {k : Nat} {A : Around} (a : AOk (k + 1) A) {body b2 : List Stmt} {env e2 : Env} {t : Expr} {it : Value} {K : Result → Sem PySem.Fin} {g : Bool} {l : List Value} {p : Pos} : AOk k (A.over (.forLoop t it b2 [] e2) [.ret K none g l (.func body env) p []]) := by
  have hw : (Code.func body env).weight = 1 := rfl
  have hu : (Code.func body env).cUnits = 3 := rfl
  have hw2 : (Code.forLoop t it b2 [] e2).weight = 0 := rfl
  have hu2 : (Code.forLoop t it b2 [] e2).cUnits = 0 := rfl
  refine ⟨a.h, ?_, ?_⟩
  · have := a.d
    show A.depth + frameCount [(.func body env, p)] + (Code.forLoop t it b2 [] e2).weight + k < _
    rw [hw2, frameCount_cons, hw]; show A.depth + (1 + 0) + 0 + k < _; omega
  · have := a.u
    show A.units + unitsOf [(.func body env, p)] + (Code.forLoop t it b2 [] e2).cUnits + 10 * k < _
    rw [hu2, unitsOf_cons, hu]; show A.units + (3 + 0) + 0 + 10 * k < _; omega
theorem aok_while {k : Nat} {A : Around} (a : AOk (k + 1) A) {body b2 b3 : List Stmt} {env e2 e3 : Env} {t t3 : Expr} {it : Value} {K K2 : Result → Sem PySem.Fin} {g g2 : Bool} {l l2 : List Value} {p p2 : Pos} :
    AOk k (A.over (.whileLoop t3 b3 [] e3) [.ret K2 none g2 l2 (.forLoop t it b2 [] e2) p2 [], .ret K none g l (.func body env) p []]) := by
  have hw : (Code.func body env).weight = 1 := rfl
  have hu : (Code.func body env).cUnits = 3 := rfl
  have hw2 : (Code.forLoop t it b2 [] e2).weight = 0 := rfl
  have hu2 : (Code.forLoop t it b2 [] e2).cUnits = 0 := rfl
  have hw3 : (Code.whileLoop t3 b3 [] e3).weight = 0 := rfl
  have hu3 : (Code.whileLoop t3 b3 [] e3).cUnits = 0 := rfl
  refine ⟨a.h, ?_, ?_⟩
  · have := a.d
    show A.depth + frameCount [(.forLoop t it b2 [] e2, p2), (.func body env, p)] + (Code.whileLoop t3 b3 [] e3).weight + k < _
    rw [hw3, frameCount_cons, frameCount_cons, hw, hw2]; show A.depth + (0 + (1 + 0)) + 0 + k < _; omega
  · have := a.u
    show A.units + unitsOf [(.forLoop t it b2 [] e2, p2), (.func body env, p)] + (Code.whileLoop t3 b3 [] e3).cUnits + 10 * k < _
    rw [hu3, unitsOf_cons, unitsOf_cons, hu, hu2]; show A.units + (0 + (3 + 0)) + 0 + 10 * k < _; omega
end
end Mine
end
section
open PySem PySem.W PyProof.Rows PySem.Calls
set_option linter.unusedSimpArgs false
set_option linter.unusedVariables false
namespace Mine
noncomputable def Sin (hc : Addr → Prop) (s0 s : Shared) : Prop := (∀ b o, hc b → s0.heap.get? b = some o → s.heap.get? b = some o) ∧ GKeep s0.gens s.gens
theorem Sin.refl (hc : Addr → Prop) (s : Shared) : Sin hc s s := ⟨fun _ _ _ e => e, .refl _⟩
theorem Sin.trans {hc : Addr → Prop} {s0 s1 s2 : Shared} (x : Sin hc s0 s1) (y : Sin hc s1 s2) : Sin hc s0 s2 := ⟨fun b o h e => y.1 b o h (x.1 b o h e), x.2.trans y.2⟩
theorem Sin.nxt {hc : Addr → Prop} {s0 s : Shared} (n : Nxt s0 s) : Sin hc s0 s := ⟨fun b o _ e => n.heap b o e, n.gens⟩
noncomputable def gY (c : Cx) (S : List Int) (N : Nat) (hc : Addr → Prop) (Xc : List Addr) : Protocol := fun m s0 v s kap =>
  (∃ i t, S[N - 1 - m]? = some i ∧ v = .int i t) ∧ Sin hc s0 s ∧ Ext c.h0 s.heap ∧ s.os = c.os0 ∧
  (0 < m → ∀ s2, (∀ b o, b ∉ Xc → s.heap.get? b = some o → s2.heap.get? b = some o) → Live Xc s2.heap → s2.os = c.os0 → AllBare s2.gens → kap (.send .none) s2)
noncomputable def gP (c : Cx) (S : List Int) (N : Nat) (hc : Addr → Prop) : Nat → Shared → Shared → Prop := fun n s0 s => S.length = N - n ∧ Sin hc s0 s ∧ Ext c.h0 s.heap ∧ s.os = c.os0
noncomputable abbrev gR (c : Cx) (S : List Int) (N : Nat) (hc : Addr → Prop) : GenEnd := fun n s0 r s => r = .ok (.ret .none) ∧ gP c S N hc n s0 s
structure GS (c : Cx) (hc : Addr → Prop) (env : Env) (I l : Addr) (vs : List Value) (σ : Sig) (i : Nat) (s : Shared) : Prop where
  st : ∃ X F, St c c.h0 [I] X env σ F s ∧ (∀ a ∈ X, ¬ hc a) ∧ l ∉ X
  it : s.heap.IsListIter I l i
  ls : s.heap.IsList l vs.toArray
  lv : ∀ b, hc b → ∃ o, s.heap.get? b = some o
  li : l ≠ I
section
variable {c : Cx} {hc : Addr → Prop} {env : Env} {I l : Addr} {vs : List Value} {σ σ' : Sig} {i : Nat} {s s' : Shared}
theorem iter_keep {h h' : Heap} {i : Nat} (x : h.IsListIter I l i) (k : ∀ o, h.get? I = some o → h'.get? I = some o) : h'.IsListIter I l i := by obtain ⟨o, ho, r⟩ := x; exact ⟨o, k _ ho, r⟩
theorem list_keep {h h' : Heap} {a : Array Value} (x : h.IsList l a) (k : ∀ o, h.get? l = some o → h'.get? l = some o) : h'.IsList l a := by obtain ⟨o, ho, r⟩ := x; exact ⟨o, k _ ho, r⟩
theorem GS.nxt (g : GS c hc env I l vs σ i s) (n : Nxt s s') : GS c hc env I l vs σ i s' where
  st := by obtain ⟨X, F, st, h⟩ := g.st; exact ⟨X, F, st.nxt n, h⟩
  it := iter_keep g.it fun o e => n.heap _ o e
  ls := list_keep g.ls fun o e => n.heap _ o e
  lv := fun b e => by obtain ⟨o, e⟩ := g.lv b e; exact ⟨o, n.heap _ _ e⟩
  li := g.li
theorem GS.weak (g : GS c hc env I l vs σ i s) (w : ∀ x y, σ'.lookup x = some y → σ.lookup x = some y) : GS c hc env I l vs σ' i s where
  st := by obtain ⟨X, F, st, h⟩ := g.st; exact ⟨X, F, st.weak w, h⟩
  it := g.it
  ls := g.ls
  lv := g.lv
  li := g.li
theorem GS.kp {X X' : List Addr} {F' : Str → List Addr} (g : GS c hc env I l vs σ i s) (st' : St c c.h0 [I] X' env σ' F' s') (k : Kp [I] X s X' s') (hX : ∀ a ∈ X, ¬ hc a) (hl : l ∉ X) : GS c hc env I l vs σ' i s' ∧ Sin hc s s' := by
  have kh : ∀ b o, hc b → s.heap.get? b = some o → s'.heap.get? b = some o := fun b o e' e => k.keep b o (.inl fun m => hX b m e') e
  have hIl : ∀ o, s.heap.get? l = some o → s'.heap.get? l = some o := fun o e => k.keep l o (.inl hl) e
  obtain ⟨ol, hol, _⟩ := g.ls
  refine ⟨⟨⟨X', F', st', fun a ha => ?_, fun m => ?_⟩, iter_keep g.it fun o e => k.keep _ o (.inr (List.mem_cons_self ..)) e, list_keep g.ls hIl, fun b e => ?_, g.li⟩, ⟨kh, k.gens⟩⟩
  · rcases k.sub a ha with h | h
    · exact hX a h
    · intro e; obtain ⟨o, e2⟩ := g.lv a e; rw [h] at e2; cases e2
  · rcases k.sub l m with h | h
    · exact hl h
    · rw [h] at hol; cases hol
  · obtain ⟨o, e2⟩ := g.lv b e; exact ⟨o, kh b o e e2⟩
theorem GS.wake {Xc : List Addr} (g : GS c hc env I l vs σ i s) (hXc : ∀ a ∈ Xc, hc a) (hX0 : ∀ a ∈ Xc, c.h0.get? a = none) (hl : l ∉ Xc) (hS : Live Xc s'.heap)
    (k : ∀ b o, b ∉ Xc → s.heap.get? b = some o → s'.heap.get? b = some o) (ho : s'.os = c.os0) (hg : AllBare s'.gens) (hσ : ∀ x o d, σ.lookup x = some (o, d) → Flat o d) : GS c hc env I l vs σ i s' := by
  obtain ⟨X, F, st, hX, hlX⟩ := g.st
  have off : ∀ a ∈ X, a ∉ Xc := fun a ha m => hX a ha (hXc a m)
  exact ⟨⟨X, F, st.wake (fun a ha o e => k a o (off a ha) e) (fun b o e => k b o (fun m => by rw [hX0 b m] at e; cases e) (st.base.top b o e)) ho hg hσ, hX, hlX⟩,
    iter_keep g.it fun o e => k _ o (off _ (st.base.x0x _ (List.mem_cons_self ..))) e, list_keep g.ls fun o e => k _ o hl e, (fun b e => by
    by_cases hb : b ∈ Xc
    · exact hS b hb
    · obtain ⟨o, e2⟩ := g.lv b e; exact ⟨o, k b o hb e2⟩), g.li⟩
end
end Mine
end
section
open PySem PySem.W PyProof.Rows PySem.Calls
set_option linter.unusedSimpArgs false
set_option linter.unusedVariables false
namespace Mine
section
variable {c : Cx} {k : Nat} {ns : Names} {x lst : Str} {t1 t2 t3 tt el ex : Expr} {asg : Stmt} {A : Around} {env : Env} {hc : Addr → Prop} {Xc : List Addr} {I l : Addr} {vs : List Value} {S : List Int} {N : Nat}
theorem flat_gσ {i : Int} {last : Option Int} : ∀ y o d, (gσ x lst i last).lookup y = some (o, d) → Flat o d := by
  intro y o d e
  unfold gσ at e
  rw [List.lookup_cons] at e
  split at e
  · cases e; trivial
  · rw [List.lookup_cons] at e
    split at e
    · cases e; cases last <;> trivial
    · cases e
structure Ask (c : Cx) (hc : Addr → Prop) (Xc : List Addr) (l : Addr) : Prop where
  lv : ∀ a ∈ Xc, hc a
  x0 : ∀ a ∈ Xc, c.h0.get? a = none
  l : l ∉ Xc
theorem getElem_drop {S : List Int} {j : Nat} {a : Int} {r : List Int} (h : S.drop j = a :: r) : S[j]? = some a := by
  have := congrArg (fun z => z[0]?) h
  simpa using this
theorem gen_while (G : GenP c k ns x lst t1 t2 t3 tt el ex asg) (ef : EnvFor ns env) (hco : env.scope.isCoroutine = false) (hint : interactive env = false) (ask : Ask c hc Xc l) {fs : List Frame} {y1 y2 : Pos}
    (aok : AOk k (A.over (.whileLoop tt [.Expr (.Yield (some el) y1) y2] [] env) fs)) (hfs : splitAtGen fs = none) (hfg : fs.any Frame.guarded = false) {iv lval : Int} :
    ∀ (n : Nat) (i : Nat) (s0 s : Shared), n + 1 ≤ N → S.drop (N - (n + 1)) = List.replicate (n + 1) lval → GS c hc env I l vs (gσ x lst iv (some lval)) i s → Sin hc s0 s →
      Seg (model c.prog c.w) A (gR c S N hc) (gY c S N hc Xc) (n + 1) s0 (.whileLoop tt [.Expr (.Yield (some el) y1) y2] [] env) ((model c.prog c.w).den (.whileLoop tt [.Expr (.Yield (some el) y1) y2] [] env)) fs s := by
  intro n
  induction n with
  | zero =>
    intro i s0 s hN hS g hs
    obtain ⟨X, F, st, hX, hlX⟩ := g.st
    refine seg_whileLoop (G.e4 _ env ef _ aok _ _ _ _ _ _ _ st fun s1 n1 => ?_)
    rw [if_pos rfl]
    refine seg_execs_cons (seg_Expr_Yield hfs rfl hfg ?_ hco hint)
    refine G.e5 iv lval env ef _ aok _ _ _ _ _ _ _ (st.nxt n1) fun v s2 n2 r2 => ?_
    intro kap hk
    have n12 := n1.trans n2
    cases r2 with
    | int _ t =>
      exact ⟨⟨lval, t, getElem_drop hS, rfl⟩, hs.trans (.nxt n12), (st.nxt n12).base.top, (st.nxt n12).base.os, fun h => absurd h (Nat.lt_irrefl 0)⟩
  | succ n ih =>
    intro i s0 s hN hS g hs
    obtain ⟨X, F, st, hX, hlX⟩ := g.st
    refine seg_whileLoop (G.e4 _ env ef _ aok _ _ _ _ _ _ _ st fun s1 n1 => ?_)
    rw [if_pos rfl]
    refine seg_execs_cons (seg_Expr_Yield hfs rfl hfg ?_ hco hint)
    refine G.e5 iv lval env ef _ aok _ _ _ _ _ _ _ (st.nxt n1) fun v s2 n2 r2 => ?_
    intro kap hk
    have n12 := n1.trans n2
    cases r2 with
    | int _ t =>
      refine ⟨⟨lval, t, (by rw [show N - 1 - (n + 1) = N - (n + 1 + 1) by omega]; exact getElem_drop hS), rfl⟩, hs.trans (.nxt n12), (st.nxt n12).base.top, (st.nxt n12).base.os, fun _ s3 kp lv ho hg => hk _ _ ?_⟩
      have g3 := (g.nxt n12).wake ask.lv ask.x0 ask.l lv kp ho hg flat_gσ
      refine seg_execs_nil (seg_again rfl (ih i s3 s3 (by omega) ?_ g3 (.refl _ _)))
      have e : N - (n + 1) = N - (n + 1 + 1) + 1 := by omega
      rw [e, ← List.drop_drop, hS]
      rfl
end
end Mine
end
section
open PySem PySem.W PyProof.Rows PySem.Calls
set_option linter.unusedSimpArgs false
set_option linter.unusedVariables false
namespace Mine
section
variable {c : Cx} {k : Nat} {ns : Names} {x lst : Str} {t1 t2 t3 tt el ex : Expr} {asg : Stmt} {A : Around} {env : Env} {hc : Addr → Prop} {Xc : List Addr} {I l : Addr} {vs : List Value} {S : List Int} {N : Nat}
theorem GS.next {σ : Sig} {i : Nat} {s : Shared} {h' : Heap} (g : GS c hc env I l vs σ i s) (hit : h'.IsListIter I l (i + 1)) (hs : Heap.SameBut I s.heap h') : GS c hc env I l vs σ (i + 1) { s with heap := h' } ∧ Sin hc s { s with heap := h' } := by
  obtain ⟨X, F, st, hX, hlX⟩ := g.st
  have hI : I ∈ X := st.base.x0x _ (List.mem_cons_self ..)
  have kp : ∀ b o, b ∉ [I] → s.heap.get? b = some o → h'.get? b = some o := fun b o hb e => (hs.2 b (by simpa using hb)).trans e
  have hcI : ∀ b, hc b → b ∉ [I] := fun b e' m => by simp at m; subst m; exact hX _ hI e'
  have al : ∃ o, h'.get? I = some o := by obtain ⟨oI, hoI, _⟩ := hit; exact ⟨oI, hoI⟩
  refine ⟨⟨⟨X, F, st.touch' (s' := { s with heap := h' }) [I] kp (fun b hb => ?_) rfl id, hX, hlX⟩, hit, list_keep g.ls fun o e => kp l o (by simpa using g.li) e, fun b e => ?_, g.li⟩, fun b o hb e => kp b o (hcI b hb) e, .refl _⟩
  · simp at hb; subst hb
    exact ⟨hI, st.base.x0 _ (List.mem_cons_self ..), fun h => st.f0 _ h (List.mem_cons_self ..), al, fun y d e h => (st.own y d e _ h).2.1 (List.mem_cons_self ..)⟩
  · obtain ⟨o, e2⟩ := g.lv b e; exact ⟨o, kp b o (hcI b e) e2⟩
theorem GS.top {σ : Sig} {i : Nat} {s : Shared} (g : GS c hc env I l vs σ i s) : Ext c.h0 s.heap ∧ s.os = c.os0 := by obtain ⟨X, F, st, hX, hlX⟩ := g.st; exact ⟨st.base.top, st.base.os⟩
noncomputable abbrev gBody (t1 t2 t3 tt el ex : Expr) (rs : List Stmt) (asg : Stmt) (pr p5 p6 p7 p8 y1 y2 y3 y4 : Pos) : List Stmt :=
  [.If t1 [.Return none pr] [] p5, .If t2 [.If t3 rs [] p6, .While tt [.Expr (.Yield (some el) y1) y2] [] p7] [] p8, .Expr (.Yield (some ex) y3) y4, asg]
noncomputable def LoopOk (c : Cx) (A : Around) (env : Env) (hc : Addr → Prop) (Xc : List Addr) (I l : Addr) (vs : List Value) (S : List Int) (N : Nat) (row : List Int) (x lst : Str) (px : Pos) (gb body : List Stmt) (Kf : Result → Sem PySem.Fin) (p : Pos) (n : Nat) : Prop :=
  ∀ (i : Nat) (last : Option Int) (s0 s : Shared), n + 1 ≤ N → N - (n + 1) ≤ S.length → S.drop (N - (n + 1)) = gi last (row.drop i) (n + 1) → (last = none → (row.drop i).head? ≠ some 0) →
      GS c hc env I l vs [(lst, false, optD last)] i s → Sin hc s0 s →
      Seg (model c.prog c.w) A (gR c S N hc) (gY c S N hc Xc) (n + 1) s0 (.forLoop (.Name x px) (.ref I) gb [] env) ((model c.prog c.w).den (.forLoop (.Name x px) (.ref I) gb [] env)) [.ret Kf none false [] (.func body env) p []] s
theorem gen_turn (G : GenP c k ns x lst t1 t2 t3 tt el ex asg) (ef : EnvFor ns env) (hco : env.scope.isCoroutine = false) (hint : interactive env = false) (ask : Ask c hc Xc l) {body rs : List Stmt} {Kf : Result → Sem PySem.Fin} {px pr p p5 p6 p7 p8 y1 y2 y3 y4 : Pos} {row : List Int}
    (a : AOk (k + 1) A) (hK1 : Kf (.ok .next) = .pure (.done (.ret .none))) (hK2 : Kf (.ok (.ret .none)) = .pure (.done (.ret .none))) (hv : IntsAre vs row) (n : Nat)
    (cont : ∀ m, n = m + 1 → LoopOk c A env hc Xc I l vs S N row x lst px (gBody t1 t2 t3 tt el ex rs asg pr p5 p6 p7 p8 y1 y2 y3 y4) body Kf p m) :
    LoopOk c A env hc Xc I l vs S N row x lst px (gBody t1 t2 t3 tt el ex rs asg pr p5 p6 p7 p8 y1 y2 y3 y4) body Kf p n := by
  have aok := aok_for (k := k) a (body := body) (b2 := gBody t1 t2 t3 tt el ex rs asg pr p5 p6 p7 p8 y1 y2 y3 y4) (env := env) (e2 := env) (t := .Name x px) (it := .ref I) (K := Kf) (g := false) (l := []) (p := p)
  intro i last s0 s hN hlen hS h0 g hs
  refine sg_forLoop ?_
  have fin : ∀ {s' : Shared} {f : Flow}, (f = .next ∨ f = .ret .none) → S.length = N - (n + 1) → Sin hc s0 s' → Ext c.h0 s'.heap → s'.os = c.os0 → ∀ cd, Seg (model c.prog c.w) A (gR c S N hc) (gY c S N hc Xc) (n + 1) s0 cd (.pure (.done f)) [.ret Kf none false [] (.func body env) p []] s' := by
    intro s' f hf hl hs' hx ho cd
    refine seg_leaf (.ok f) ?_
    have : Kf (.ok f) = leafOf (.ok (.ret .none)) := by rcases hf with rfl | rfl; exact hK1; exact hK2
    rw [this]
    exact seg_end _ ⟨rfl, hl, hs', hx, ho⟩
  have hvl : vs.length = row.length := hv.length
  by_cases hi : i < vs.length
  · have hiv : vs[i]? = some vs[i] := List.getElem?_eq_getElem hi
    obtain ⟨y, t, hy, hrow⟩ := IntsAre.at hv i vs[i] hiv
    have hdrop : row.drop i = y :: row.drop (i + 1) := by
      have hir : i < row.length := by omega
      rw [List.getElem?_eq_getElem hir] at hrow
      rw [List.drop_eq_getElem_cons hir, Option.some.inj hrow]
    refine wpAny_pyNext_list_item g.it g.ls (x := .int y t) (by rw [← hy]; simpa using hiv) fun h1 hit1 hs1 => ?_
    obtain ⟨g1, k1⟩ := g.next hit1 hs1
    obtain ⟨X, F, st1, hX, hlX⟩ := g1.st
    refine wpAny_assign_Name (store_st ef (.inl G.hx) st1 (.int y t) fun s2 st2 kp2 => ?_)
    obtain ⟨g2', k2⟩ := g1.kp st2 kp2 hX hlX
    have g2 : GS c hc env I l vs (gσ x lst y last) (i + 1) s2 := g2'.weak fun z w e => e
    have hs2 := (hs.trans k1).trans k2
    have st2' : St c c.h0 [I] X env (gσ x lst y last) F s2 := st2.weak fun z w e => e
    rw [hdrop] at hS h0
    refine seg_execs_cons (sg_If (G.e1 y last env ef _ aok _ _ _ _ _ _ _ st2' fun s3 n3 => ?_))
    by_cases h127 : y = 127
    · rw [decide_eq_true h127, if_pos rfl]
      refine seg_execs_cons (sg_plain (wpAny_Return_none ?_))
      have hS' : S.drop (N - (n + 1)) = [] := by rw [hS]; unfold gi; rw [if_pos h127]
      have hl' : S.length = N - (n + 1) := by
        have := congrArg List.length hS'
        rw [List.length_drop] at this
        simp at this; omega
      exact fin (.inr rfl) hl' (hs2.trans (.nxt n3)) ((g2.nxt n3).top).1 ((g2.nxt n3).top).2 _
    · rw [decide_eq_false h127, if_neg (by decide)]
      refine seg_execs_nil ?_
      have g3 := g2.nxt n3
      have hs3 := hs2.trans (.nxt n3)
      refine seg_execs_cons (sg_If (G.e2 y last env ef _ aok _ _ _ _ _ _ _ (st2'.nxt n3) fun s4 n4 => ?_))
      have g4 := g3.nxt n4
      have hs4 := hs3.trans (.nxt n4)
      by_cases hz : y = 0
      · rw [decide_eq_true hz, if_pos rfl]
        cases last with
        | none => exact absurd (by rw [hz]; rfl) (h0 rfl)
        | some lv =>
          refine seg_execs_cons (sg_If (G.e3 y (some lv) env ef _ aok _ _ _ _ _ _ _ ((st2'.nxt n3).nxt n4) fun s5 n5 => ?_))
          rw [show (some lv).isNone = false from rfl, if_neg (by decide)]
          refine seg_execs_nil ?_
          refine seg_execs_cons (seg_While fun p' => ?_)
          have hS' : S.drop (N - (n + 1)) = List.replicate (n + 1) lv := by rw [hS]; unfold gi; rw [if_neg h127, if_pos hz]; rfl
          exact gen_while G ef hco hint ask (aok_while a) rfl rfl n (i + 1) s0 s5 hN hS' (g4.nxt n5) (hs4.trans (.nxt n5))
      · rw [decide_eq_false hz, if_neg (by decide)]
        refine seg_execs_nil ?_
        refine seg_execs_cons (seg_Expr_Yield rfl rfl rfl ?_ hco hint)
        refine G.e6 y last env ef _ aok _ _ _ _ _ _ _ ((st2'.nxt n3).nxt n4) fun v s5 n5 r5 => ?_
        intro kap hk
        have hS' : S.drop (N - (n + 1)) = y :: gi (some y) (row.drop (i + 1)) n := by rw [hS]; show (if y = 127 then [] else if y = 0 then _ else y :: gi (some y) (row.drop (i + 1)) n) = _; rw [if_neg h127, if_neg hz]
        cases r5 with
        | int _ t5 =>
          refine ⟨⟨y, t5, (by rw [show N - 1 - n = N - (n + 1) by omega]; exact getElem_drop hS'), rfl⟩, hs4.trans (.nxt n5), ((g4.nxt n5).top).1, ((g4.nxt n5).top).2, fun hn s6 kp lv ho hg => hk _ _ ?_⟩
          have g6 := (g4.nxt n5).wake ask.lv ask.x0 ask.l lv kp ho hg flat_gσ
          obtain ⟨X6, F6, st6, hX6, hlX6⟩ := g6.st
          obtain ⟨m, rfl⟩ : ∃ m, n = m + 1 := ⟨n - 1, by omega⟩
          refine seg_execs_cons (sg_plain (G.e7 y last env ef _ aok _ _ _ _ _ _ _ st6 fun fl X7 F7 s7 en => ?_))
          obtain ⟨rfl, st7, kp7⟩ := en
          obtain ⟨g7, k7⟩ := g6.kp st7 kp7 hX6 hlX6
          refine seg_execs_nil (seg_again rfl (cont m rfl (i + 1) (some y) s6 s7 (by omega) ?_ ?_ (fun h => nomatch h) (g7.weak fun z w e => ?_) k7))
          · have := congrArg List.length hS'
            rw [List.length_drop, List.length_cons] at this
            omega
          · rw [show N - (m + 1) = N - (m + 1 + 1) + 1 by omega, ← List.drop_drop, hS']; rfl
          · rw [List.lookup_cons] at e
            split at e
            · rename_i hb
              rw [List.lookup_cons, hb]; exact e
            · cases e
  · refine wpAny_pyNext_list_end (by exact aok.h) g.it g.ls (by simp; omega) fun h' hx => ?_
    have hS' : S.drop (N - (n + 1)) = [] := by
      rw [hS, List.drop_eq_nil_of_le (by omega)]; rfl
    have hl' : S.length = N - (n + 1) := by
      have := congrArg List.length hS'
      rw [List.length_drop] at this
      simp at this; omega
    obtain ⟨X, F, st, hX, hlX⟩ := g.st
    have hI : I ∈ X := st.base.x0x _ (List.mem_cons_self ..)
    refine fin (s' := { s with heap := h' }) (.inl rfl) hl' (hs.trans ⟨fun b o e' e => hx b o (fun h => ?_) e, .refl _⟩) (fun b o e => hx b o (fun h => ?_) (st.base.top b o e)) g.top.2 _
    · subst h; exact hX _ hI e'
    · subst h; rw [st.base.x0 _ (List.mem_cons_self ..)] at e; cases e
theorem gen_loop (G : GenP c k ns x lst t1 t2 t3 tt el ex asg) (ef : EnvFor ns env) (hco : env.scope.isCoroutine = false) (hint : interactive env = false) (ask : Ask c hc Xc l) {body rs : List Stmt} {Kf : Result → Sem PySem.Fin} {px pr p p5 p6 p7 p8 y1 y2 y3 y4 : Pos} {row : List Int}
    (a : AOk (k + 1) A) (hK1 : Kf (.ok .next) = .pure (.done (.ret .none))) (hK2 : Kf (.ok (.ret .none)) = .pure (.done (.ret .none))) (hv : IntsAre vs row) :
    ∀ n, LoopOk c A env hc Xc I l vs S N row x lst px (gBody t1 t2 t3 tt el ex rs asg pr p5 p6 p7 p8 y1 y2 y3 y4) body Kf p n
  | 0 => gen_turn G ef hco hint ask a hK1 hK2 hv 0 fun m h => by cases h
  | n + 1 => gen_turn G ef hco hint ask a hK1 hK2 hv (n + 1) fun m h => by cases h; exact gen_loop G ef hco hint ask a hK1 hK2 hv n
end
end Mine
end
section
open PySem PySem.W PyProof.Rows PySem.Calls
set_option linter.unusedSimpArgs false
set_option linter.unusedVariables false
namespace Mine
section
variable {c : Cx}
variable {k : Nat} {ns : Names} {x lst gn : Str} {t1 t2 t3 tt el ex it : Expr} {asg asg0 : Stmt} {A : Around} {env : Env} {hc : Addr → Prop} {h : Heap} {Xc : List Addr} {l : Addr} {vs : List Value} {N : Nat}
structure Kept (c : Cx) (Xc : List Addr) (h : Heap) (s2 : Shared) : Prop where
  keep : ∀ b o, b ∉ Xc → h.get? b = some o → s2.heap.get? b = some o
  live : Live Xc s2.heap
  os : s2.os = c.os0
  gens : AllBare s2.gens
theorem ints_rep {X : List Addr} {h : Heap} {vs : List Value} {row : List Int} (hv : IntsAre vs row) : RepL X h vs (row.map .int) := by
  induction hv with
  | nil => exact .nil
  | cons _ _ _ ih => exact .cons (.int _ _) ih
theorem rep_ints {X : List Addr} {h : Heap} : ∀ {vs : List Value} {row : List Int}, RepL X h vs (row.map .int) → IntsAre vs row
  | [], [], .nil => .nil
  | _ :: _, _ :: _, .cons r rs => by cases r with | int _ _ => exact .cons _ _ (rep_ints rs)
theorem gen_goes (G : GenP c k ns x lst t1 t2 t3 tt el ex asg) (ef : EnvFor ns env) (hco : env.scope.isCoroutine = false) (hint : interactive env = false) (ask : Ask c hc Xc l) {rs : List Stmt} {pl1 pc1 pa1 pg px pf pr p5 p6 p7 p8 y1 y2 y3 y4 : Pos} {kd : Nat} {row : List Int}
    (hlst : ns.lookup lst = some .local) (hgn : nameOk gn = true) (hlg : gn ≠ lst) (hsw : swapsWith (.Constant .none kd pc1) (some (.Name lst pl1)) pa1.line env = pure false)
    (a : AOk (k + 1) A) (fw : FrW env h) (hfa : ∀ b ∈ fa env, ¬ hc b) (hch : ∀ b o, c.h0.get? b = some o → hc b) (lk : Look h env gn (.ref l)) (hp : h.PlainList l vs.toArray) (hlfa : l ∉ fa env)
    (hv : IntsAre vs row) (hx0 : Ext c.h0 h) (hlc : ∀ b, hc b → ∃ o, h.get? b = some o) (fal : ∀ b ∈ fa env, ∃ o, h.get? b = some o) (hrow : row.head? ≠ some 0) (n : Nat) :
    ∀ s2, Kept c Xc h s2 → Seg (model c.prog c.w) A (gR c (gi none row (n + 1)) (n + 1) hc) (gY c (gi none row (n + 1)) (n + 1) hc Xc) (n + 1) s2
      (.func [.Assign [.Name lst pl1] (.Constant .none kd pc1) pa1, .For (.Name x px) (.Name gn pg) (gBody t1 t2 t3 tt el ex rs asg pr p5 p6 p7 p8 y1 y2 y3 y4) [] pf] env)
      ((model c.prog c.w).den (.func [.Assign [.Name lst pl1] (.Constant .none kd pc1) pa1, .For (.Name x px) (.Name gn pg) (gBody t1 t2 t3 tt el ex rs asg pr p5 p6 p7 p8 y1 y2 y3 y4) [] pf] env)) [] s2 := by
  intro s2 kp
  have off : ∀ b ∈ fa env, b ∉ Xc := fun b hb m => hfa b hb (ask.lv b m)
  have hx2 : Ext c.h0 s2.heap := fun b o e => kp.keep b o (fun m => by rw [ask.x0 b m] at e; cases e) (hx0 b o e)
  have hh0 : ∀ b ∈ fa env, c.h0.get? b = none := fun b hb => by
    cases e : c.h0.get? b with
    | none => rfl
    | some o => exact absurd (hch b o e) (hfa b hb)
  simp only [nameOk, Bool.and_eq_true, Bool.not_eq_true'] at hgn
  have lk2 : Look s2.heap env gn (.ref l) := lk.keep fun b hb o e => kp.keep b o (off b hb) e
  refine seg_func ?_
  refine seg_execs_cons (sg_plain (wpAny_Assign_Name (wpAny_Constant_none ?_) hsw))
  refine store_at ef.toEnvOk (fw.keep fun b hb o e => kp.keep b o (off b hb) e) (.inl (ef.loc _ hlst)) fun h3 tk t hat fw3 l3 ls3 kt al => ?_
  have htf : t ∈ fa env := by
    rcases hat with ⟨_, rfl⟩ | ⟨_, hcc⟩
    · exact List.mem_cons_self ..
    · exact fa_cell hcc
  have lk3 : Look h3 env gn (.ref l) := ls3 gn _ hlg lk2
  have hne : ∀ b, b ∉ fa env → b ∉ [t] := fun b hb m => by simp at m; subst m; exact hb htf
  have hp3 : h3.PlainList l vs.toArray := (hp.at fun o e => kp.keep l o ask.l e).at fun o e => kt l o (hne l hlfa) e
  have hhc : ∀ b o, hc b → s2.heap.get? b = some o → h3.get? b = some o := fun b o e' e => kt b o (fun m => by simp at m; subst m; exact hfa _ htf e') e
  refine seg_execs_cons (sg_For (fun x => rfl) ?_)
  refine name_look ef.kind lk3 hgn.1 hgn.2 ?_
  have hIs : h3.IsList l vs.toArray := by obtain ⟨m, e⟩ := hp3; exact ⟨_, e, rfl, m, rfl⟩
  refine wpAny_pyIter_list (s := { s2 with heap := h3, toks := tk }) hIs fun p => ?_
  have hlive2 : ∀ b, hc b → ∃ o, s2.heap.get? b = some o := fun b e => by
    by_cases hb : b ∈ Xc
    · exact kp.live b hb
    · obtain ⟨o, e2⟩ := hlc b e; exact ⟨o, kp.keep b o hb e2⟩
  have hIn : h3.get? h3.objs.size = none := get_size h3
  have hIc : ¬ hc h3.objs.size := fun e => by
    obtain ⟨o, e2⟩ := hlive2 _ e; have := hhc _ _ e e2; rw [hIn] at this; cases this
  have hI0 : c.h0.get? h3.objs.size = none := by
    cases e : c.h0.get? h3.objs.size with
    | none => rfl
    | some o => exact absurd (hch _ o e) hIc
  have al3 : ∀ b ∈ fa env, ∃ o, h3.get? b = some o := fun b hb => by
    by_cases e : b = t
    · subst e; exact al
    · obtain ⟨o, e2⟩ := fal b hb; exact ⟨o, kt b o (by simpa using e) (kp.keep b o (off b hb) e2)⟩
  have hIf : h3.objs.size ∉ fa env := fun m => by obtain ⟨o, e⟩ := al3 _ m; rw [hIn] at e; cases e
  have up : ∀ b o, h3.get? b = some o → (h3.push { cls := .type "list_iterator", data := .fields #[.ref l, .int 0 0] }).get? b = some o := fun b o e => Heap.get?_push_of_some _ e
  have hx3 : Ext c.h0 h3 := fun b o e => hhc b o (hch b o e) (hx2 b o e)
  have st5 : St c c.h0 [h3.objs.size] (h3.objs.size :: fa env) env [(lst, false, .none)] (fun _ => []) { s2 with heap := h3.push { cls := .type "list_iterator", data := .fields #[.ref l, .int 0 0] }, toks := tk } := by
    refine ⟨⟨.refl _, fun b o e => up b o (hx3 b o e), fun b hb => ?_, fun b hb => ?_, fun b hb hn => ?_, fun b hb => ?_, kp.os, kp.gens⟩, fw3.keep fun b hb o e => up b o e, fun b hb => List.mem_cons_of_mem _ hb, fun b hb m => ?_, fun y o d e hv' => ?_, fun y d e => ?_, fun y d z d' e => ?_⟩
    · simp at hb; subst hb; exact hI0
    · simp at hb; subst hb; exact List.mem_cons_self ..
    · rcases List.mem_cons.mp hb with rfl | m
      · exact absurd (List.mem_cons_self ..) hn
      · exact hh0 b m
    · rcases List.mem_cons.mp hb with rfl | m
      · exact ⟨_, Heap.get?_push_size _ rfl⟩
      · obtain ⟨o, e⟩ := al3 b m; exact ⟨o, up b o e⟩
    · simp at m; subst m; exact hIf hb
    · rw [List.lookup_cons] at e
      split at e
      · rename_i hb
        cases e
        have : y = lst := by simpa using hb
        subst this
        exact ⟨.none, l3.ext fun b o e => up b o e, .none⟩
      · cases e
    · rw [List.lookup_cons] at e
      split at e <;> cases e
    · rw [List.lookup_cons] at e
      split at e <;> cases e
  obtain ⟨m, hm⟩ := hp3
  have hlI : l ≠ h3.objs.size := Nat.ne_of_lt (Heap.lt_size hm)
  have g5 : GS c hc env h3.objs.size l vs [(lst, false, optD none)] 0 { s2 with heap := h3.push { cls := .type "list_iterator", data := .fields #[.ref l, .int 0 0] }, toks := tk } := by
    refine ⟨⟨_, _, st5, fun b hb => ?_, fun m => ?_⟩, ⟨_, Heap.get?_push_size _ rfl, rfl, rfl⟩, ⟨_, up _ _ hm, rfl, m, rfl⟩, fun b e => ?_, hlI⟩
    · rcases List.mem_cons.mp hb with rfl | m
      · exact hIc
      · exact hfa b m
    · rcases List.mem_cons.mp m with e | m
      · exact hlI e
      · exact hlfa m
    · obtain ⟨o, e2⟩ := hlive2 b e; exact ⟨o, up b o (hhc b o e e2)⟩
  exact gen_loop G ef hco hint ask a rfl rfl hv n 0 none s2 _ (Nat.le_refl _) (by omega) (by simp) (fun _ => by simpa using hrow) g5 ⟨fun b o hb e => up b o (hhc b o hb e), .refl _⟩
end
end Mine
end
section
open PySem PySem.W PyProof.Rows PySem.Calls
set_option linter.unusedSimpArgs false
set_option linter.unusedVariables false
namespace Mine
structure GenAtF (c : Cx) (f : Addr) (fd : FuncData) (body : List Stmt) (gn : Str) : Prop where
  obj : ∃ o, c.h0.get? f = some o ∧ o.data = .func fd
  body : fd.body = .stmts body
  clo : fd.closure = []
  code : c.h0.CodeRec fd.code fd.qualname
  glob : fd.globals = mainGlobals
  bi : fd.builtins = builtinsNs
  kind : fd.scope.kind = .function
  co : fd.scope.isCoroutine = false
  gen : fd.scope.isGenerator = true
  bind : ∀ v : Value, bindArgs fd ⟨[v], []⟩ = pure [(gn, v)]
  kindg : fd.scope.names.lookup gn = some .local
  nofree : ∀ n, fd.scope.names.lookup n ≠ some .free
  snodup : (fd.scope.names.map (·.1)).Nodup
section
variable {c : Cx} {k : Nat}
theorem call_gen {f : Addr} {fd : FuncData} {body : List Stmt} {gn : Str} {A : Around} {he : Heap} {X0 X : List Addr} {s : Shared} {v : Value} {Q : Value → Shared → Prop} {E : Value → Shared → Prop} (fa' : GenAtF c f fd body gn) (a : AOk (k + 1) A) (b : Base c he X0 X s)
    (q : ∀ env ga s3, EnvFor fd.scope.names env → env.frame = some env.locals → env.scope.isCoroutine = false → Nxt s s3 → s.heap.get? ga = none → s3.heap.IsGen ga s.gens.size → s3.gens[s.gens.size]? = some (.fresh (.func body env)) →
      (∀ b ∈ fa env, s.heap.get? b = none ∧ b ≠ ga ∧ ∃ o, s3.heap.get? b = some o) → FrW env s3.heap → Look s3.heap env gn v → Q (.ref ga) s3) :
    wpAny (model c.prog c.w) A (call (.ref f) [v]) Q E s := by
  obtain ⟨o, ho, hd⟩ := fa'.obj
  have hof := b.top f o ho
  have ok := cellsFrom_ok fd.scope.names (s.heap.push { cls := .type "frame", data := .dict #[] }) (s.heap.objs.size + 1) [] ⟨fun _ _ hm => (nomatch hm), List.Pairwise.nil⟩ (by rw [Heap.size_push]; exact Nat.le_refl _)
  refine wpAny_call (codeAny_call_generator a.room hof hd fa'.co fa'.gen fa'.body (fa'.code.keeps b.top) ?_)
  rw [fa'.bind, fa'.clo]
  refine wpAny_pure (wpAny_newFunctionEnv_cells fa'.kind (fun x hx => ?_) fun env he' s1 ic => ?_)
  · simp at hx; subst hx; exact .inl fa'.kindg
  · have hL : env.locals = s.heap.objs.size := by rw [he']; rfl
    have hcells : env.cells = cellsFrom (s.heap.objs.size + 1) fd.scope.names [] := by rw [he']; rfl
    have hkind : ∀ x, env.kindOf x = fd.scope.names.lookup x := fun x => by rw [he']; rfl
    have ef : EnvFor fd.scope.names env := by
      refine { kind := by rw [he']; exact fa'.kind, glob := by rw [he']; exact fa'.glob, bi := by rw [he']; exact fa'.bi, all := fun n h => ?_, loc := fun x h => (hkind x).trans h, cel := fun x h => (hkind x).trans h, fre := fun x h => .inr ((hkind x).trans h), glo := fun x h => (hkind x).trans h, none := fun x h => (hkind x).trans h }
      rcases h with h | h
      · obtain ⟨c1, h1⟩ := cellsFrom_has fd.scope.names (s.heap.objs.size + 1) n (mem_of_lookup ((hkind n).symm.trans h))
        rw [hcells]; exact lookup_isSome_of_mem h1
      · exact absurd ((hkind n).symm.trans h) (fa'.nofree n)
    obtain ⟨h1, tk1, hs1⟩ := ic.toInCall.same
    have hgs : s1.gens = s.gens := by rw [hs1]
    have keep1 := ic.toInCall.keep
    have fresh : ∀ a ∈ fa env, s.heap.get? a = none := fun a ha => by
      rcases List.mem_cons.mp ha with rfl | ha
      · rw [hL]; exact get_size _
      · obtain ⟨x, hx, rfl⟩ := List.mem_map.mp ha
        exact get_ge (Nat.le_of_lt (by rw [← hL]; exact ic.above x.1 x.2 hx))
    have live1 : ∀ a ∈ fa env, ∃ o, s1.heap.get? a = some o := fun a ha => by
      rcases List.mem_cons.mp ha with rfl | ha
      · obtain ⟨o, _, _, e, _⟩ := ic.toInCall.ns; exact ⟨o, e⟩
      · obtain ⟨x, hx, rfl⟩ := List.mem_map.mp ha
        have hm : (x.1, x.2) ∈ cellsFrom (s.heap.objs.size + 1) fd.scope.names [] := hcells ▸ hx
        have hlk := lookup_of_nodup (cellsFrom_nodup fd.scope.names (s.heap.objs.size + 1) fa'.snodup) hm
        obtain ⟨o, e, _⟩ := ic.cell x.1 x.2 (by rw [hcells]; exact hlk)
        exact ⟨o, e⟩
    have hfw : FrW env s1.heap := ⟨⟨_, ic.toInCall.ns⟩, fun n cc hc => ⟨_, ic.cell n cc hc⟩, ic.apart, fun n cc hm => Nat.ne_of_lt (ic.above n cc hm)⟩
    have lk : Look s1.heap env gn v := by
      have hk : env.kindOf gn = some .local := (hkind gn).trans fa'.kindg
      refine .inl ⟨hk, _, ic.toInCall.ns, ?_⟩
      unfold bindL; rw [if_pos hk]; unfold bindL; simp
    have up : ∀ b o, s1.heap.get? b = some o → (s1.heap.push { cls := .type "generator", data := .fields #[.int s1.gens.size 0, .str fd.name s1.toks, .str fd.qualname (s1.toks + 1)] }).get? b = some o := fun b o e => Heap.get?_push_of_some _ e
    refine ⟨c.lim.keeps fun b' o' e => keep1 _ _ (b.top _ _ e), ?_⟩
    refine q env s1.heap.objs.size _ ef (by rw [he']; rfl) (by rw [he']; exact fa'.co) ⟨fun b o e => up b o (keep1 b o e), by rw [hs1], ?_⟩ ?_ ?_ ?_ (fun b hb => ⟨fresh b hb, ?_, ?_⟩) (hfw.keep fun b _ o e => up b o e) (lk.ext fun b o e => up b o e)
    · show GKeep s.gens (s1.gens.push _)
      rw [hgs]
      refine ⟨fun h => h.push rfl, fun i x e => ?_⟩
      have hlt : i < s.gens.size := by
        rcases Nat.lt_or_ge i s.gens.size with h | h
        · exact h
        · rw [Array.getElem?_eq_none h] at e; cases e
      rw [Array.getElem?_push_lt hlt, ← e, Array.getElem?_eq_getElem hlt]
    · cases e : s.heap.get? s1.heap.objs.size with
      | none => rfl
      | some o => have := keep1 _ o e; rw [get_size] at this; cases this
    · exact ⟨_, _, _, Heap.get?_push_size _ rfl, rfl, by rw [hgs], rfl⟩
    · show (s1.gens.push _)[s.gens.size]? = _
      rw [hgs]; exact Array.getElem?_push_size ..
    · rintro rfl; obtain ⟨o, e⟩ := live1 _ hb; rw [get_size] at e; cases e
    · obtain ⟨o, e⟩ := live1 b hb; exact ⟨o, up b o e⟩
theorem next_gen {prog : Program} {w : World} {A : Around} {E : Value → Shared → Prop} {s : Shared} {a : Addr} {g n : Nat} {gs : GenState} {P : Nat → Shared → Shared → Prop} {Y : Protocol} {Q : Option Value → Shared → Prop} (hh : A.handled = none)
    (hl : s.heap.NoLimit) (hroom : A.depth < recursionLimit) (hg : s.heap.IsGen a g) (hgs : s.gens[g]? = some gs)
    (hgo : gs.Goes (model prog w) A.in1 (fun n s₀ r s₁ => r = .ok (.ret .none) ∧ P n s₀ s₁) Y n (.send .none) (s.setGen g .running))
    (hY : ∀ v s₁ gs', gs'.bare = true → Y (n - 1) (s.setGen g .running) v s₁ (fun r' s'' => match n with
        | 0 => False
        | m + 1 => gs'.Goes (model prog w) A.in1 (fun n s₀ r s₁ => r = .ok (.ret .none) ∧ P n s₀ s₁) Y m r' s'') → Q (some v) (s₁.setGen g gs'))
    (hP : ∀ s₁, P n (s.setGen g .running) s₁ → ∀ h', (∀ b o, s₁.heap.get? b = some o → h'.get? b = some o) → Q none { s₁.setGen g .finished with heap := h' }) :
    wpAny (model prog w) A (pyNext (.ref a)) Q E s := by
  unfold pyNext
  refine wpAny_bind (wpAny_attempt (wpAny_callSpecial?_slot (name := Str.ofString "__next__") hg.typeIs slot_gen_next
    (wpAny_call_entry slot_gen_next hg.typeIs entry_gen_next ?_ (args_gen_next _))))
  show wpAny _ A.in1 (Builtin.Generator.genWake (.ref a) (.send .none)) _ _ s
  unfold Builtin.Generator.genWake
  refine wpAny_bind (wpAny_holding (wpAny_genNumber hg (wpAny_bind (wpAny_genState hgs ?_))))
  cases gs with
  | running => exact hgo.elim
  | finished => exact hgo.elim
  | _ =>
    refine wpAny_bind (wpAny_roomToWake hl hroom ?_)
    show wpAny _ A.in1 (.resume g (.send .none) [] _) _ _ s
    refine wpAny_resumeQ hgs hgo (fun x s₁ hx => ?_) (fun v s₁ gs' hb hv => ?_)
    · obtain ⟨rfl, hp⟩ := hx
      show wpAny _ A.in1 (newExc (.type "StopIteration") [] >>= _) _ _ _
      refine wpAny_bind ?_
      simp only [newExc, newTuple]
      refine wpAny_bind (wpAny_newObj_type ?_ (by size_fits))
      refine wpAny_bind (m := firstArgMember _ _) (wpAny_of_eq (a := Value.none) (by first | rfl | (simp only [firstArgMember]; rfl)) ?_)
      refine wpAny_newObj_type ?_ (by size_fits)
      simp only [raiseNew]
      refine wpAny_bind (wpAny_bind (wpAny_handled ?_))
      first | rw [show A.in1.handled = none from hh] | rw [hh]
      refine wpAny_throw ?_
      refine wpAny_bind (wpAny_isInstance (T := "StopIteration") (b := true) ⟨_, Heap.get?_push_size _ rfl, rfl⟩ isSubtype_stop ?_)
      exact wpAny_pure (hP s₁ hp _ fun b o hb => Heap.get?_push_of_some _ (Heap.get?_push_of_some _ hb))
    · exact wpAny_pure ⟨v, rfl, wpAny_pure (hY v s₁ gs' hb hv)⟩
end
end Mine
end
section
open PySem PySem.W PyProof.Rows PySem.Calls
set_option linter.unusedSimpArgs false
set_option linter.unusedVariables false
namespace Mine
section
variable {c : Cx} {k : Nat}
noncomputable def GF (c : Cx) (k : Nat) (f : Value) (row : List Int) : Prop := ∀ A, AOk k A → ∀ he X0 X s (Q : Value → Shared → Prop) E v, Base c he X0 X s → Rep X s.heap v (.list (row.map .int)) →
  (∀ ga s3, Nxt s s3 → s.heap.get? ga = none → s3.heap.IsGen ga s.gens.size → (∃ gs, s3.gens[s.gens.size]? = some gs ∧ ∀ n s2, Kept c X s3.heap s2 →
    gs.Goes (model c.prog c.w) A.in1 (gR c (gi none row (n + 1)) (n + 1) (fun b => (∃ o, s.heap.get? b = some o) ∨ b = ga)) (gY c (gi none row (n + 1)) (n + 1) (fun b => (∃ o, s.heap.get? b = some o) ∨ b = ga) X) (n + 1) (.send .none) s2) → Q (.ref ga) s3) →
  wpAny (model c.prog c.w) A (call f [v]) Q E s
theorem gf_of {f : Addr} {fd : FuncData} {x lst gn : Str} {t1 t2 t3 tt el ex : Expr} {asg : Stmt} {rs : List Stmt} {pl1 pc1 pa1 pg px pf pr p5 p6 p7 p8 y1 y2 y3 y4 : Pos} {kd : Nat} {row : List Int}
    (fa' : GenAtF c f fd [.Assign [.Name lst pl1] (.Constant .none kd pc1) pa1, .For (.Name x px) (.Name gn pg) (gBody t1 t2 t3 tt el ex rs asg pr p5 p6 p7 p8 y1 y2 y3 y4) [] pf] gn)
    (G : GenP c k fd.scope.names x lst t1 t2 t3 tt el ex asg) (hint : ∀ env, EnvFor fd.scope.names env → interactive env = false)
    (hlst : fd.scope.names.lookup lst = some .local) (hgn : nameOk gn = true) (hlg : gn ≠ lst) (hsw : ∀ env, EnvFor fd.scope.names env → swapsWith (.Constant .none kd pc1) (some (.Name lst pl1)) pa1.line env = pure false) (hrow : row.head? ≠ some 0) : GF c (k + 2) (.ref f) row := by
  intro A a he X0 X s Q E v b r q
  cases r with
  | list nl pl rl =>
    rename_i l vs
    refine call_gen fa' a b fun env ga s3 ef _ hco n3 hga hig hgs hfr fw lk => ?_
    obtain ⟨m, hl⟩ := pl
    have llf : l ∉ fa env := fun m => by have := (hfr l m).1; rw [hl] at this; cases this
    refine q ga s3 n3 hga hig ⟨_, hgs, fun n s2 kp => ⟨rfl, ?_⟩⟩
    refine gen_goes (h := s3.heap) G ef hco (hint env ef) ⟨fun a ha => .inl (b.live a ha), fun a ha => b.off ha, nl⟩ hlst hgn hlg (hsw env ef) (AOk.in1 a) fw (fun x hx h => ?_) (fun x o e => .inl ⟨o, b.top x o e⟩) lk ⟨m, n3.heap _ _ hl⟩ llf (rep_ints rl)
      (b.nxt n3).top (fun x h => ?_) (fun x hx => (hfr x hx).2.2) hrow n s2 kp
    · rcases h with ⟨o, e⟩ | rfl
      · rw [(hfr x hx).1] at e; cases e
      · exact (hfr _ hx).2.1 rfl
    · rcases h with ⟨o, e⟩ | rfl
      · exact ⟨o, n3.heap _ _ e⟩
      · obtain ⟨o, nm, qn, ho, _⟩ := hig; exact ⟨o, ho⟩
end
section
variable {c : Cx} {k : Nat} {ns : Names} {σ : Sig}
noncomputable def toldD (S : List Int) (j : Nat) : List D := (S.take j).map fun i => .int (i - 1)
noncomputable def toldσ (y ln : Str) (L : Int) (S : List Int) (j : Nat) : Sig := [(y, true, .list (toldD S j)), (ln, false, .int L)]
theorem allBare_set {s : Shared} {g : Nat} {x : GenState} (h : AllBare s.gens) (hx : x.bare = true) : AllBare (s.setGen g x).gens := by
  intro y hy
  obtain ⟨i, hi, rfl⟩ := Array.mem_iff_getElem.mp hy
  have ho := (GenOnly.setGen s g x).2 i
  by_cases e : i = g
  · subst e
    have hlt : i < s.gens.size := by rw [← (GenOnly.setGen s i x).1]; exact hi
    have := setGen_self (x := x) (Array.getElem?_eq_getElem hlt)
    rw [Array.getElem?_eq_getElem hi] at this
    rw [Option.some.inj this]; exact hx
  · have h1 := ho e
    rw [Array.getElem?_eq_getElem hi] at h1
    obtain ⟨hi', e'⟩ := Array.getElem?_eq_some_iff.mp h1.symm
    exact e' ▸ h _ (Array.getElem_mem hi')
theorem isGen_keep {h h' : Heap} {a : Addr} {g : Nat} (x : h.IsGen a g) (k : ∀ o, h.get? a = some o → h'.get? a = some o) : h'.IsGen a g := by obtain ⟨o, nm, qn, ho, r⟩ := x; exact ⟨o, nm, qn, k _ ho, r⟩
theorem toldσ_flat {y ln : Str} {L : Int} {S : List Int} {j : Nat} : ∀ z o d, (toldσ y ln L S j).lookup z = some (o, d) → Flat o d := by
  intro z o d e
  unfold toldσ at e
  rw [List.lookup_cons] at e
  split at e
  · cases e
    intro d hd
    obtain ⟨i, _, rfl⟩ := List.mem_map.mp hd
    exact ⟨_, rfl⟩
  · rw [List.lookup_cons] at e
    split at e <;> cases e
    trivial
theorem toldD_next {S : List Int} {j : Nat} {i : Int} (h : S[j]? = some i) : toldD S (j + 1) = toldD S j ++ [.int (i - 1)] := by
  unfold toldD
  rw [List.take_add_one, h, List.map_append]; rfl
theorem gi_len : ∀ (n : Nat) (last : Option Int) (row : List Int), (gi last row n).length ≤ n
  | 0, _, _ => by simp [gi]
  | n + 1, _, [] => by simp [gi]
  | n + 1, last, x :: r => by
    unfold gi
    split
    · simp
    · split
      · simp
      · have := gi_len n (some x) r; simp; omega
theorem ex_told {x y ln nf : Str} {px pf pcl pos yp ap cp sp bp ip : Pos} {ea e t : Expr} {row : List Int} {n : Nat} {f : Value} (S : List Int) (hSdef : S = gi none row (n + 1)) (hx : ns.lookup x = some .local) (hxy : x ≠ y) (hxl : x ≠ ln) (hyl : y ≠ ln)
    (hσ : ∀ z v, (toldσ y ln ((n + 1 : Nat) : Int) S 0).lookup z = some v → σ.lookup z = some v) (hg : EG c ns (.Name nf pf) f) (hk : Keep1 c f) (ha : EVs c k ns σ [ea] [.list (row.map .int)]) (hf : GF c k f row)
    (hv : isVar (ns.lookup y) = true) (hn : nameOk y = true) (he : ∀ env, starEach [e] env = [(false, eval e env)]) (hp : (ap.endLine == cp.line) = true)
    (hb : ∀ env, attributeBase (.Name y yp) (Str.ofString "append") env (eval (.Name y yp) env) = eval (.Name y yp) env)
    (h1 : ∀ j i, EV c k ns ((x, false, .int i) :: toldσ y ln ((n + 1 : Nat) : Int) S j) e (.int (i - 1)))
    (h2 : ∀ j i, j < S.length → ET c k ns ((y, true, .list (toldD S j ++ [.int (i - 1)])) :: (x, false, .int i) :: toldσ y ln ((n + 1 : Nat) : Int) S j) t (decide (j = n))) (hsz : n + 1 ≤ sizeLine)
    (hs : ∀ env x, foldedSetIterable (.Call (.Name nf pf) [ea] [] pcl) env x = pure x) :
    EX c k ns σ (.For (.Name x px) (.Call (.Name nf pf) [ea] [] pcl) [.Expr (.Call (.Attribute (.Name y yp) (Str.ofString "append") ap) [e] [] cp) sp, .If t [.Break bp] [] ip] [] pos) (.next (toldσ y ln ((n + 1 : Nat) : Int) S S.length)) := by
  intro env ef A a he0 X0 X F s Q E st q
  have hstar : starEach [ea] env = (false, eval ea env) :: starEach [] env := by cases ha with | cons h _ _ => exact h env
  refine wpAny_For ?_ (hs env)
  refine wpAny_Call_ofName (hg env ef A s _ E st.base.top ?_)
  refine callWith_of (P := Ext c.h0) (by
    show ((backTo pcl (starEach [ea] env)).any (·.1) || false) = false
    rw [evs_plain ha]; rfl) (fun h hh => hk _ h hh) ?_
  have key := ha.spl env ef A a he0 X0 X F s (fun vs s' => Ext c.h0 s'.heap ∧ wpAny (model c.prog c.w) A (call f ([] ++ vs) []) (fun v s1 => wpAny (model c.prog c.w) A (pyIter v) (fun it s2 => codeAny (model c.prog c.w) A (.forLoop (.Name x px) it [.Expr (.Call (.Attribute (.Name y yp) (Str.ofString "append") ap) [e] [] cp) sp, .If t [.Break bp] [] ip] [] env) (fun r s' => match r with | .ok f => Q f s' | .error e => cameBackBy (model c.prog c.w) A env E e s') s2) E s1) E s') E pcl st fun vs s₁ n₁ r₁ => ?_
  · rw [hstar] at key ⊢
    exact Calls.evalArgs_plain key
  · refine ⟨(st.base.nxt n₁).top, ?_⟩
    cases r₁ with
    | cons rv rs =>
      cases rs
      have st1 := st.nxt n₁
      refine hf A a he0 X0 X s₁ _ E _ st1.base rv fun ga s3 n3 hga hig ⟨gs, hgs, hgo⟩ => ?_
      replace hgo := hgo n
      rw [← hSdef] at hgo
      have hSl : S.length ≤ n + 1 := by rw [hSdef]; exact gi_len _ _ _
      have hgX : ga ∉ X := fun m => by obtain ⟨o, e⟩ := st1.base.live ga m; rw [hga] at e; cases e
      refine wpAny_pyIter_gen hig ?_
      refine codeAny_forLoop (fun m s' => ∃ j F', m = n + 1 - j ∧ j ≤ n ∧ j ≤ S.length ∧ St c he0 X0 X env (toldσ y ln ((n + 1 : Nat) : Int) S j) F' s' ∧ Kp X0 X s₁ X s' ∧ s'.heap.IsGen ga s₁.gens.size ∧
        (∀ b, (∃ o, s₁.heap.get? b = some o) ∨ b = ga → ∃ o, s'.heap.get? b = some o) ∧
        ∃ gs, s'.gens[s₁.gens.size]? = some gs ∧ ∀ s2, Kept c X s'.heap s2 →
          gs.Goes (model c.prog c.w) A.in1 (gR c S (n + 1) (fun b => (∃ o, s₁.heap.get? b = some o) ∨ b = ga)) (gY c S (n + 1) (fun b => (∃ o, s₁.heap.get? b = some o) ∨ b = ga) X) (n + 1 - j) (.send .none) s2) ?_ (n + 1 - 0)
        ⟨0, F, rfl, Nat.zero_le _, Nat.zero_le _, (st1.nxt n3).weak hσ, .of_nxt n3, hig, fun b hb => ?_, gs, hgs, hgo⟩
      rotate_left
      · rcases hb with ⟨o, e⟩ | rfl
        · exact ⟨o, n3.heap _ _ e⟩
        · obtain ⟨o, nm, qn, ho, _⟩ := hig; exact ⟨o, ho⟩
      rintro m s' ⟨j, F', rfl, hjn, hjS, st', kp', hig', hlv, gs', hgs', hgo'⟩
      have hq : n + 1 - j = (n - j) + 1 := by omega
      rw [hq] at hgo'
      have after : ∀ (s1 : Shared) (gx : GenState) (h' : Heap), Sin (fun b => (∃ o, s₁.heap.get? b = some o) ∨ b = ga) (s'.setGen s₁.gens.size .running) s1 → (∀ b o, s1.heap.get? b = some o → h'.get? b = some o) → s1.os = c.os0 → gx.bare = true →
          St c he0 X0 X env (toldσ y ln ((n + 1 : Nat) : Int) S j) F' { s1.setGen s₁.gens.size gx with heap := h' } ∧ Kp X0 X s₁ X { s1.setGen s₁.gens.size gx with heap := h' } ∧ h'.IsGen ga s₁.gens.size ∧ (s1.setGen s₁.gens.size gx).gens[s₁.gens.size]? = some gx ∧
            ∀ b, (∃ o, s₁.heap.get? b = some o) ∨ b = ga → ∃ o, h'.get? b = some o := by
        intro s1 gx h' hsin hup hos hbare
        have hk : ∀ b o, (∃ o, s₁.heap.get? b = some o) ∨ b = ga → s'.heap.get? b = some o → h'.get? b = some o := fun b o hb e => hup b o (hsin.1 b o hb e)
        have hrun : (s'.setGen s₁.gens.size .running).gens[s₁.gens.size]? = some .running := setGen_self hgs'
        have hrun1 := hsin.2.keep _ _ hrun
        have hb1 : AllBare s1.gens := hsin.2.bare (allBare_set st'.base.gens rfl)
        refine ⟨st'.wake (fun b hb o e => hk b o (.inl (st1.base.live b hb)) e) (fun b o e => hk b o (.inl ⟨o, st1.base.keep b o e⟩) (st'.base.keep b o e)) hos (allBare_set hb1 hbare) toldσ_flat, ⟨fun b o hb e => hk b o (.inl ⟨o, e⟩) (kp'.keep b o hb e), fun b hb => .inl hb, fun _ => allBare_set hb1 hbare, fun i z e => ?_⟩, isGen_keep hig' fun o e => hk _ o (.inr rfl) e, setGen_self hrun1, fun b hb => ?_⟩
        · have hlt : i < s₁.gens.size := by
            rcases Nat.lt_or_ge i s₁.gens.size with h | h
            · exact h
            · rw [Array.getElem?_eq_none h] at e; cases e
          have hne : i ≠ s₁.gens.size := Nat.ne_of_lt hlt
          show (s1.setGen s₁.gens.size gx).gens[i]? = some z
          rw [(GenOnly.setGen s1 _ gx).2 i hne]
          refine hsin.2.keep i z ?_
          rw [(GenOnly.setGen s' _ .running).2 i hne]
          exact kp'.gens.keep i z e
        · obtain ⟨o, e⟩ := hlv b hb; exact ⟨o, hk b o hb e⟩
      refine next_gen (n := (n - j) + 1) (P := gP c S (n + 1) _) (Y := gY c S (n + 1) _ X) a.h (c.lim.keeps st'.base.top) a.room hig' hgs' (hgo' _ ⟨fun b o _ e => e, st'.base.live, st'.base.os, allBare_set st'.base.gens rfl⟩) (fun v s1 gx hbare hy => ?_) (fun s1 hp1 h' hup => ?_)
      · obtain ⟨⟨i, t0, hSj, rfl⟩, hsin, hext, hos, hkap⟩ := hy
        have hSj' : S[j]? = some i := by rw [show n + 1 - 1 - (n - j + 1 - 1) = j by omega] at hSj; exact hSj
        obtain ⟨st2, kp2, hig2, hgs2, hlv2⟩ := after s1 gx s1.heap hsin (fun _ _ e => e) hos hbare
        have hjlt : j < S.length := by
          rcases Nat.lt_or_ge j S.length with h | h
          · exact h
          · rw [List.getElem?_eq_none h] at hSj'; cases hSj'
        refine wpAny_assign_Name (store_st ef (.inl hx) st2 (.int i t0) fun s4 st4 kp4 => ?_)
        have hy4 : ((x, false, D.int i) :: toldσ y ln ((n + 1 : Nat) : Int) S j).lookup y = some (true, .list (toldD S j)) := by
          rw [List.lookup_cons, beq_false_of_ne hxy.symm]
          unfold toldσ
          rw [List.lookup_cons, beq_self_eq_true]
        obtain ⟨vy, ly, ry⟩ := st4.vis y true _ hy4 (isVar_of ef hv)
        simp only [if_true] at ry
        generalize hF : F' y = fy at ry
        cases ry with
        | list py rly =>
          rename_i ay vsy
          refine wpAny_execs_cons (wpAny_Expr_any (append_call ef hn (he env) hp (hb env) ly py (h1 j i env ef A a _ _ _ _ _ _ _ st4 fun v5 s5 n5 rv5 => ?_)) (by unfold interactive; rw [ef.kind]; rfl))
          have hlen5 : (toldD S j).length + 1 ≤ sizeLine := by
            unfold toldD; rw [List.length_map, List.length_take]; omega
          refine own_append ef (st4.nxt n5) hy4 hF (ly.ext n5.heap) (py.at fun o e => n5.heap _ o e) (rly.ext n5.heap) rv5 hlen5 fun s6 st6 kp6 => ?_
          refine wpAny_execs_cons (wpAny_If (h2 j i hjlt env ef A a _ _ _ _ _ _ _ st6 fun s7 n7 => ?_))
          have kp7 : Kp X0 X s₁ X s7 := (((kp2.trans kp4).trans (.of_nxt n5)).trans kp6).trans (.of_nxt n7)
          have st7 : St c he0 X0 X env (toldσ y ln ((n + 1 : Nat) : Int) S (j + 1)) F' s7 := (st6.nxt n7).weak fun z w e => by
            unfold toldσ at e
            rw [List.lookup_cons] at e
            by_cases hzy : z = y
            · subst hzy
              rw [beq_self_eq_true] at e
              rw [List.lookup_cons, beq_self_eq_true, ← toldD_next hSj']; exact e
            · rw [beq_false_of_ne hzy] at e
              rw [List.lookup_cons, beq_false_of_ne hzy]
              by_cases hzx : z = x
              · subst hzx
                rw [List.lookup_cons, beq_false_of_ne hxl] at e; cases e
              · rw [List.lookup_cons, beq_false_of_ne hzx]
                unfold toldσ
                rw [List.lookup_cons, beq_false_of_ne hzy]; exact e
          by_cases hjn' : j = n
          · rw [decide_eq_true hjn', if_pos rfl]
            refine wpAny_execs_cons (wpAny_Break ?_)
            have hl : S.length = j + 1 := by omega
            refine q .next X F' s7 ⟨rfl, by rw [hl]; exact st7, (Kp.of_nxt n₁).trans kp7⟩
          · rw [decide_eq_false hjn', if_neg (by decide)]
            refine wpAny_execs_nil (wpAny_execs_nil ⟨n + 1 - (j + 1), by omega, j + 1, F', rfl, by omega, by omega, st7, kp7, ?_, ?_, gx, ?_, fun s2 kpt => ?_⟩)
            · exact isGen_keep hig2 fun o e => ((((kp4.trans (.of_nxt n5)).trans kp6).trans (.of_nxt n7) : Kp X0 X _ X s7)).keep _ o (.inl hgX) e
            · intro b hb
              by_cases hbX : b ∈ X
              · exact st7.base.live b hbX
              · obtain ⟨o, e⟩ := hlv2 b hb
                exact ⟨o, ((((kp4.trans (.of_nxt n5)).trans kp6).trans (.of_nxt n7) : Kp X0 X _ X s7)).keep _ o (.inl hbX) e⟩
            · exact ((((kp4.trans (.of_nxt n5)).trans kp6).trans (.of_nxt n7) : Kp X0 X _ X s7)).gens.keep _ _ hgs2
            · have hk := hkap (by omega) s2 (fun b o hb e => kpt.keep b o hb (((((kp4.trans (.of_nxt n5)).trans kp6).trans (.of_nxt n7) : Kp X0 X _ X s7)).keep b o (.inl hb) e)) kpt.live kpt.os kpt.gens
              rw [show n + 1 - (j + 1) = n - j by omega]
              exact hk
      · obtain ⟨hl1, hsin, hext, hos⟩ := hp1
        obtain ⟨st2, kp2, hig2, hgs2, hlv2⟩ := after s1 .finished h' hsin hup hos rfl
        have hl : S.length = j := by omega
        refine wpAny_execs_nil (q .next X F' _ ⟨rfl, by rw [hl]; exact st2, (Kp.of_nxt n₁).trans kp2⟩)
end
end Mine
end
section
open PySem PySem.W PyProof.Rows PySem.Calls
set_option linter.unusedSimpArgs false
set_option linter.unusedVariables false
namespace Mine
/-! an exception on its way -/
section
variable {M : Model} {A : Around} {E : Value → Shared → Prop} {s : Shared} {base h : Heap} {env : Env} {outer : List Env} {L e : Addr} {cls : Value} {args : List Value} {Q : Unit → Shared → Prop}
theorem note_first (hfr : A.frames = some (env :: outer)) (hf : env.frame = some L) (hkb : base.StaysIn h) (hl : h.FunFrames base (env :: outer)) (hx : Heap.MadeExcOf h s.heap e cls args)
    (hQ : ∀ h' t, Heap.HeldW base (env :: outer) e cls (.ref t) L h' → h'.TupAt t args → base.get? t = none → s.heap.UpToSlots h' → Q () { s with heap := h' }) : wpAny M A (noteFrame (.ref e) env) Q E s := by
  obtain ⟨t, he, htn, ht⟩ := hx.there
  have fresh : ∀ b, h.get? b = none → base.get? b = none := fun b hb => by
    cases hq : base.get? b with
    | none => rfl
    | some o' => have := hkb b o' hq; rw [hb] at this; cases this
  unfold noteFrame
  simp only [hf]
  refine wpAny_bind (wpAny_field he rfl (x := .none) rfl ?_)
  rw [if_neg (by decide)]
  refine wpAny_entryW (a0 := .ref t) hfr (hl.of_keeps fun b o hb _ => ⟨o, hx.keeps b o hb, rfl⟩) hf he (fun b o hb => hx.keeps b o (hkb b o hb)) (fresh e hx.new) rfl (show (1 : Nat) < 6 by decide) rfl fun h' hN => ?_
  obtain ⟨k1, k2, k3, k4⟩ := hN
  refine hQ h' t ⟨k1, fresh e hx.new, k2, k3⟩ ?_ (fresh t htn) k4
  obtain ⟨sl, hs⟩ := k4 t _ ht (fun vs q => by cases q)
  exact ⟨_, _, hs, rfl, rfl⟩
theorem flight_same {a0 : Value} (hh : Heap.HeldW base (env :: outer) e cls a0 L s.heap) (hf : env.frame = some L) (hQ : ∀ h', Heap.HeldW base (env :: outer) e cls a0 L h' → s.heap.UpToSlots h' → Q () { s with heap := h' }) :
    wpAny M A (setFlight (.ref e) env.frame) Q E s := by
  obtain ⟨f1, f2, f3, oe, vs, T, oT, ts, he, hcls, hd, h1, hnT, hTe, hT, hdT, h3⟩ := hh
  have hsz3 : 3 < ts.size := (Array.getElem?_eq_some_iff.mp h3).1
  have other : ∀ b, b ≠ T → (s.heap.update T (Obj.mapFields (·.setIfInBounds 3 (rawInt L)))).get? b = s.heap.get? b := fun b hb => Heap.get?_update_other _ _ (Ne.symm hb)
  have noRecord : ∀ b o, s.heap.get? b = some o → (∀ vs, o.data ≠ .fields vs) → b ≠ T := fun b o hb hnf q => by
    rw [q, hT] at hb; injection hb with hb; subst hb; exact hnf ts hdT
  unfold setFlight
  refine wpAny_bind (wpAny_field he hd h1 ?_)
  rw [if_pos (show (Value.ref T != Value.none) = true from by simp), hf]
  refine wpAny_setField hT hdT hsz3 (hQ _ ⟨fun b o hb => ?_, f2, f3.of_keeps fun b o hb hnf => ⟨o, ?_, rfl⟩, ?_⟩ fun b o hb hnf => ⟨o.slots, ?_⟩)
  · exact (other b (fun q => by rw [q, hnT] at hb; cases hb)).trans (f1 b o hb)
  · exact (other b (noRecord b o hb hnf)).trans hb
  · have hdT' := Obj.data_mapFields hdT (·.setIfInBounds 3 (rawInt L))
    exact ⟨oe, vs, T, _, _, (other e hTe.symm).trans he, hcls, hd, h1, hnT, hTe, Heap.get?_update_self _ hT (Obj.isFreed_of_fields hdT'), hdT', by simp [hsz3]⟩
  · exact (other b (noRecord b o hb hnf)).trans hb
theorem came_back {a0 : Value} {E' : Value → Shared → Prop} (hh : Heap.HeldW base (env :: outer) e cls a0 L s.heap) (hf : env.frame = some L) (hQ : ∀ h', Heap.HeldW base (env :: outer) e cls a0 L h' → s.heap.UpToSlots h' → E' (.ref e) { s with heap := h' }) :
    cameBackBy M A env E' (.ref e) s := by
  have hh' := hh
  obtain ⟨f1, f2, f3, oe, vs, T, oT, ts, he, hcls, hd, h1, _⟩ := hh
  unfold cameBackBy
  refine wpAny_bind (wpAny_field he hd h1 ?_)
  rw [if_neg (by simp)]
  exact flight_same hh' hf hQ
theorem leaves_held {a0 : Value} (hf : env.frame = some L) (hh : Heap.HeldW base (env :: outer) e cls a0 L s.heap) (hQ : ∀ h', Heap.FlyingW base outer e cls a0 h' → s.heap.UpToSlots h' → Q () { s with heap := h' }) : wpAny M A (leaving env (.ref e)) Q E s := by
  unfold leaving
  refine wpAny_bind (wpAny_noteFrame_againW hf hh.2.2.2 ?_)
  refine wpAny_landsW hh fun h' hfl hu => ?_
  obtain ⟨k1, k2, ⟨_, _, k3⟩, k4⟩ := hfl
  exact hQ h' ⟨k1, k2, k3, k4⟩ hu
end
end Mine
end
section
open PySem PySem.W PyProof.Rows PySem.Calls
set_option linter.unusedSimpArgs false
set_option linter.unusedVariables false
namespace Mine
noncomputable def UpTo (N : List Addr) (h h' : Heap) : Prop := ∀ b o, b ∉ N → h.get? b = some o → (∀ vs, o.data ≠ .fields vs) → ∃ sl, h'.get? b = some { o with slots := sl }
theorem UpTo.of_keep {N : List Addr} {h h' : Heap} (k : Keep N h h') : UpTo N h h' := fun b o hb e _ => ⟨o.slots, k b o hb e⟩
theorem UpTo.of_slots {N : List Addr} {h h' : Heap} (k : h.UpToSlots h') : UpTo N h h' := fun b o _ e hn => k b o e hn
theorem UpTo.trans {N : List Addr} {h h' h'' : Heap} (x : UpTo N h h') (y : UpTo N h' h'') : UpTo N h h'' := fun b o hb e hn => by
  obtain ⟨sl, e1⟩ := x b o hb e hn
  obtain ⟨sl2, e2⟩ := y b _ hb e1 hn
  exact ⟨sl2, e2⟩
noncomputable def gX (base : Heap) (fr : List Env) (msg : Str) (N : List Addr) : GenEnd := fun n s0 r s =>
  ∃ e t tk, r = .error (.ref e) ∧ Heap.FlyingW base fr e (.type "ValueError") (.ref t) s.heap ∧ s.heap.TupAt t [.str msg tk] ∧ base.get? t = none ∧ UpTo N s0.heap s.heap ∧ s.os = s0.os ∧ GKeep s0.gens s.gens
section
variable {c : Cx} {k : Nat} {ns : Names} {x lst gn vn : Str} {t1 t2 t3 tt el ex me : Expr} {asg : Stmt} {A : Around} {env : Env} {base : Heap} {fr : List Env} {l : Addr} {vs : List Value} {msg : List Nat} {Y : Protocol}
theorem came_back' {M : Model} {s : Shared} {E : Value → Shared → Prop} {outer : List Env} {L e : Addr} {cls a0 : Value} {Q : Unit → Shared → Prop} (hh : Heap.HeldW base (env :: outer) e cls a0 L s.heap) (hf : env.frame = some L) (hQ : ∀ h', Heap.HeldW base (env :: outer) e cls a0 L h' → s.heap.UpToSlots h' → Q () { s with heap := h' }) :
    wpAny M A (do
        if (← field (.ref e) 1) == Value.none then unsupported "frame.own-activation:exception-without-traceback"
        setFlight (.ref e) env.frame) Q E s := by
  have hh' := hh
  obtain ⟨f1, f2, f3, oe, vs, T, oT, ts, he, hcls, hd, h1, _⟩ := hh
  refine wpAny_bind (wpAny_field he hd h1 ?_)
  rw [if_neg (by simp)]
  exact flight_same hh' hf hQ
abbrev fK : Flow → Sem PySem.Fin := fun f => .pure (.done (.ret (match f with | .ret v => v | _ => .none)))
noncomputable abbrev fH (env : Env) : Value → Sem PySem.Fin := fun e => (leaving env e).wrap (fun _ => .raise e) .raise id id
noncomputable abbrev fK1 (env : Env) : Flow → Sem PySem.Fin := fun f => match f with | .next => (execs [] env).wrap fK (fH env) id id | f => fK f
theorem gen_enter {hc : Addr → Prop} {h : Heap} {Xc : List Addr} {kd m : Nat} {gb : List Stmt} {pl1 pc1 pa1 pg px pf : Pos} {row : List Int} {R : GenEnd} {s0 s2 : Shared} (ef : EnvFor ns env) (ask : Ask c hc Xc l)
    (hlst : ns.lookup lst = some .local) (hgn : nameOk gn = true) (hlg : gn ≠ lst) (hsw : swapsWith (.Constant .none kd pc1) (some (.Name lst pl1)) pa1.line env = pure false)
    (fw : FrW env h) (hfa : ∀ b ∈ fa env, ¬ hc b) (hch : ∀ b o, c.h0.get? b = some o → hc b) (lk : Look h env gn (.ref l)) (hp : h.PlainList l vs.toArray) (hlfa : l ∉ fa env)
    (hv : IntsAre vs row) (hx0 : Ext c.h0 h) (hlc : ∀ b, hc b → ∃ o, h.get? b = some o) (fal : ∀ b ∈ fa env, ∃ o, h.get? b = some o) (kp : Kept c Xc h s2)
    (cont : ∀ I s5 p, GS c hc env I l vs [(lst, false, .none)] 0 s5 → St c c.h0 [I] (I :: fa env) env [(lst, false, .none)] (fun _ => []) s5 → s2.heap.get? I = none → GKeep s2.gens s5.gens → Sin hc s2 s5 → Keep (fa env) s2.heap s5.heap → s5.os = s2.os →
      Seg (model c.prog c.w) A R Y m s0 (.forLoop (.Name x px) (.ref I) gb [] env) ((model c.prog c.w).den (.forLoop (.Name x px) (.ref I) gb [] env))
        [.ret (ownK env (fK1 env) (fH env) id id) none false [] (.func [.Assign [.Name lst pl1] (.Constant .none kd pc1) pa1, .For (.Name x px) (.Name gn pg) gb [] pf] env) p []] s5) :
    Seg (model c.prog c.w) A R Y m s0 (.func [.Assign [.Name lst pl1] (.Constant .none kd pc1) pa1, .For (.Name x px) (.Name gn pg) gb [] pf] env)
      ((model c.prog c.w).den (.func [.Assign [.Name lst pl1] (.Constant .none kd pc1) pa1, .For (.Name x px) (.Name gn pg) gb [] pf] env)) [] s2 := by
  have off : ∀ b ∈ fa env, b ∉ Xc := fun b hb m => hfa b hb (ask.lv b m)
  have hx2 : Ext c.h0 s2.heap := fun b o e => kp.keep b o (fun m => by rw [ask.x0 b m] at e; cases e) (hx0 b o e)
  have hh0 : ∀ b ∈ fa env, c.h0.get? b = none := fun b hb => by
    cases e : c.h0.get? b with
    | none => rfl
    | some o => exact absurd (hch b o e) (hfa b hb)
  simp only [nameOk, Bool.and_eq_true, Bool.not_eq_true'] at hgn
  have lk2 : Look s2.heap env gn (.ref l) := lk.keep fun b hb o e => kp.keep b o (off b hb) e
  refine seg_func ?_
  refine seg_execs_cons (sg_plain (wpAny_Assign_Name (wpAny_Constant_none ?_) hsw))
  refine store_at ef.toEnvOk (fw.keep fun b hb o e => kp.keep b o (off b hb) e) (.inl (ef.loc _ hlst)) fun h3 tk t hat fw3 l3 ls3 kt al => ?_
  have htf : t ∈ fa env := by
    rcases hat with ⟨_, rfl⟩ | ⟨_, hcc⟩
    · exact List.mem_cons_self ..
    · exact fa_cell hcc
  have lk3 : Look h3 env gn (.ref l) := ls3 gn _ hlg lk2
  have hne : ∀ b, b ∉ fa env → b ∉ [t] := fun b hb m => by simp at m; subst m; exact hb htf
  have hp3 : h3.PlainList l vs.toArray := (hp.at fun o e => kp.keep l o ask.l e).at fun o e => kt l o (hne l hlfa) e
  have hhc : ∀ b o, hc b → s2.heap.get? b = some o → h3.get? b = some o := fun b o e' e => kt b o (fun m => by simp at m; subst m; exact hfa _ htf e') e
  refine seg_execs_cons (sg_For (fun x => rfl) ?_)
  refine name_look ef.kind lk3 hgn.1 hgn.2 ?_
  have hIs : h3.IsList l vs.toArray := by obtain ⟨m, e⟩ := hp3; exact ⟨_, e, rfl, m, rfl⟩
  refine wpAny_pyIter_list (s := { s2 with heap := h3, toks := tk }) hIs fun p => ?_
  have hlive2 : ∀ b, hc b → ∃ o, s2.heap.get? b = some o := fun b e => by
    by_cases hb : b ∈ Xc
    · exact kp.live b hb
    · obtain ⟨o, e2⟩ := hlc b e; exact ⟨o, kp.keep b o hb e2⟩
  have hIn : h3.get? h3.objs.size = none := get_size h3
  have hIc : ¬ hc h3.objs.size := fun e => by
    obtain ⟨o, e2⟩ := hlive2 _ e; have := hhc _ _ e e2; rw [hIn] at this; cases this
  have hI2 : s2.heap.get? h3.objs.size = none := by
    cases e : s2.heap.get? h3.objs.size with
    | none => rfl
    | some o =>
      by_cases hb : h3.objs.size ∈ [t]
      · simp at hb; obtain ⟨o', e'⟩ := al; rw [← hb, hIn] at e'; cases e'
      · have := kt _ o hb e; rw [hIn] at this; cases this
  have hI0 : c.h0.get? h3.objs.size = none := by
    cases e : c.h0.get? h3.objs.size with
    | none => rfl
    | some o => exact absurd (hch _ o e) hIc
  have al3 : ∀ b ∈ fa env, ∃ o, h3.get? b = some o := fun b hb => by
    by_cases e : b = t
    · subst e; exact al
    · obtain ⟨o, e2⟩ := fal b hb; exact ⟨o, kt b o (by simpa using e) (kp.keep b o (off b hb) e2)⟩
  have hIf : h3.objs.size ∉ fa env := fun m => by obtain ⟨o, e⟩ := al3 _ m; rw [hIn] at e; cases e
  have up : ∀ b o, h3.get? b = some o → (h3.push { cls := .type "list_iterator", data := .fields #[.ref l, .int 0 0] }).get? b = some o := fun b o e => Heap.get?_push_of_some _ e
  have hx3 : Ext c.h0 h3 := fun b o e => hhc b o (hch b o e) (hx2 b o e)
  have st5 : St c c.h0 [h3.objs.size] (h3.objs.size :: fa env) env [(lst, false, .none)] (fun _ => []) { s2 with heap := h3.push { cls := .type "list_iterator", data := .fields #[.ref l, .int 0 0] }, toks := tk } := by
    refine ⟨⟨.refl _, fun b o e => up b o (hx3 b o e), fun b hb => ?_, fun b hb => ?_, fun b hb hn => ?_, fun b hb => ?_, kp.os, kp.gens⟩, fw3.keep fun b hb o e => up b o e, fun b hb => List.mem_cons_of_mem _ hb, fun b hb m => ?_, fun y o d e hv' => ?_, fun y d e => ?_, fun y d z d' e => ?_⟩
    · simp at hb; subst hb; exact hI0
    · simp at hb; subst hb; exact List.mem_cons_self ..
    · rcases List.mem_cons.mp hb with rfl | m
      · exact absurd (List.mem_cons_self ..) hn
      · exact hh0 b m
    · rcases List.mem_cons.mp hb with rfl | m
      · exact ⟨_, Heap.get?_push_size _ rfl⟩
      · obtain ⟨o, e⟩ := al3 b m; exact ⟨o, up b o e⟩
    · simp at m; subst m; exact hIf hb
    · rw [List.lookup_cons] at e
      split at e
      · rename_i hb
        cases e
        have : y = lst := by simpa using hb
        subst this
        exact ⟨.none, l3.ext fun b o e => up b o e, .none⟩
      · cases e
    · rw [List.lookup_cons] at e
      split at e <;> cases e
    · rw [List.lookup_cons] at e
      split at e <;> cases e
  obtain ⟨m, hm⟩ := hp3
  have hlI : l ≠ h3.objs.size := Nat.ne_of_lt (Heap.lt_size hm)
  have g5 : GS c hc env h3.objs.size l vs [(lst, false, optD none)] 0 { s2 with heap := h3.push { cls := .type "list_iterator", data := .fields #[.ref l, .int 0 0] }, toks := tk } := by
    refine ⟨⟨_, _, st5, fun b hb => ?_, fun m => ?_⟩, ⟨_, Heap.get?_push_size _ rfl, rfl, rfl⟩, ⟨_, up _ _ hm, rfl, m, rfl⟩, fun b e => ?_, hlI⟩
    · rcases List.mem_cons.mp hb with rfl | m
      · exact hIc
      · exact hfa b m
    · rcases List.mem_cons.mp m with e | m
      · exact hlI e
      · exact hlfa m
    · obtain ⟨o, e2⟩ := hlive2 b e; exact ⟨o, up b o (hhc b o e e2)⟩
  exact cont h3.objs.size _ p g5 st5 hI2 (.refl _) ⟨fun b o hb e => up b o (hhc b o hb e), .refl _⟩ (fun b o hb e => up b o (kt b o (hne b hb) e)) rfl
theorem St.nextI {I : Addr} {X : List Addr} {σ : Sig} {F : Str → List Addr} {s : Shared} {h' : Heap} (st : St c c.h0 [I] X env σ F s) (hs : Heap.SameBut I s.heap h') (al : ∃ o, h'.get? I = some o) : St c c.h0 [I] X env σ F { s with heap := h' } :=
  st.touch' (s' := { s with heap := h' }) [I] (fun b o hb e => (hs.2 b (by simpa using hb)).trans e) (fun b hb => by
    simp at hb; subst hb
    exact ⟨st.base.x0x _ (List.mem_cons_self ..), st.base.x0 _ (List.mem_cons_self ..), fun h => st.f0 _ h (List.mem_cons_self ..), al, fun y d e h => (st.own y d e _ h).2.1 (List.mem_cons_self ..)⟩) rfl id
theorem funFrames_mono {h h' base : Heap} : ∀ {fr : List Env}, (∀ b ∈ fr.filterMap (·.frame), ∀ o, h.get? b = some o → ∃ o', h'.get? b = some o' ∧ o'.data = o.data) → h.FunFrames base fr → h'.FunFrames base fr
  | [], _, _ => trivial
  | env :: r, k, ⟨h1, ⟨L, o, hf, hb, ho, hn⟩, h2⟩ => by
    obtain ⟨o', ho', hd⟩ := k L (List.mem_filterMap.mpr ⟨env, List.mem_cons_self .., hf⟩) o ho
    exact ⟨h1, ⟨L, o', hf, hb, ho', fun vs q => hn vs (hd.symm.trans q)⟩, funFrames_mono (fun b hb => k b (by
      obtain ⟨e', he', hf'⟩ := List.mem_filterMap.mp hb
      exact List.mem_filterMap.mpr ⟨e', List.mem_cons_of_mem _ he', hf'⟩)) h2⟩
theorem gen_refuses {hc : Addr → Prop} {I : Addr} {body : List Stmt} {s2 s5 : Shared} {n : Nat} {vp mp rp px pr p p5 p6 p7 p8 y1 y2 y3 y4 : Pos} {row : List Int} {fr : List Env}
    (G : GenP c k ns x lst t1 t2 t3 tt el ex asg) (ef : EnvFor ns env) (hframe : env.frame = some env.locals) (gv : EG c ns (.Name vn vp) (.type "ValueError")) (hm : ∀ σ, EV c k ns σ me (.str msg)) (hme : ∀ env, starEach [me] env = [(false, eval me env)])
    (a : AOk (k + 1) A) (hA : A.frames = some fr) (hv : IntsAre vs (0 :: row)) (g : GS c hc env I l vs [(lst, false, .none)] 0 s5) (st5 : St c c.h0 [I] (I :: fa env) env [(lst, false, .none)] (fun _ => []) s5) (hI2 : s2.heap.get? I = none) (hk5 : Keep (fa env) s2.heap s5.heap) (hos : s5.os = s2.os) (hgk : GKeep s2.gens s5.gens)
    (hbase : base.StaysIn s2.heap) (hbf : ∀ b ∈ I :: fa env, base.get? b = none) (hff : s2.heap.FunFrames base fr) (hdis : ∀ b ∈ fr.filterMap (·.frame), b ∉ fa env) :
    Seg (model c.prog c.w) A (gX base fr (ofL msg) (fa env)) Y (n + 1) s2
        (.forLoop (.Name x px) (.ref I) (gBody t1 t2 t3 tt el ex [.Raise (some (.Call (.Name vn vp) [me] [] mp)) none rp] asg pr p5 p6 p7 p8 y1 y2 y3 y4) [] env)
        ((model c.prog c.w).den (.forLoop (.Name x px) (.ref I) (gBody t1 t2 t3 tt el ex [.Raise (some (.Call (.Name vn vp) [me] [] mp)) none rp] asg pr p5 p6 p7 p8 y1 y2 y3 y4) [] env))
        [.ret (ownK env (fK1 env) (fH env) id id) none false [] (.func body env) p []] s5 := by
  have aok := aok_for (k := k) a (body := body) (b2 := gBody t1 t2 t3 tt el ex [.Raise (some (.Call (.Name vn vp) [me] [] mp)) none rp] asg pr p5 p6 p7 p8 y1 y2 y3 y4) (env := env) (e2 := env) (t := .Name x px) (it := .ref I) (K := ownK env (fK1 env) (fH env) id id) (g := false) (l := []) (p := p)
  have hAf : (A.over (.forLoop (.Name x px) (.ref I) (gBody t1 t2 t3 tt el ex [.Raise (some (.Call (.Name vn vp) [me] [] mp)) none rp] asg pr p5 p6 p7 p8 y1 y2 y3 y4) [] env) [.ret (ownK env (fK1 env) (fH env) id id) none false [] (.func body env) p []]).frames = some (env :: fr) := by
    unfold Around.over
    dsimp only
    rw [hA]; rfl
  obtain ⟨t0, vs', rfl, hv'⟩ := hv.cons_inv
  refine sg_forLoop ?_
  refine wpAny_pyNext_list_item g.it g.ls (x := .int 0 t0) (by simp) fun h1 hit1 hs1 => ?_
  obtain ⟨g1, k1⟩ := g.next hit1 hs1
  have st1 := st5.nextI hs1 (by obtain ⟨o, ho, _⟩ := hit1; exact ⟨o, ho⟩)
  refine wpAny_assign_Name (store_st ef (.inl G.hx) st1 (.int 0 t0) fun s6 st6 kp6 => ?_)
  have st6' : St c c.h0 [I] (I :: fa env) env (gσ x lst 0 none) (fun _ => []) s6 := st6.weak fun z w e => e
  refine seg_execs_cons (sg_If (G.e1 0 none env ef _ aok _ _ _ _ _ _ _ st6' fun s7 n7 => ?_))
  rw [show decide ((0 : Int) = 127) = false from rfl, if_neg (by decide)]
  refine seg_execs_nil ?_
  refine seg_execs_cons (sg_If (G.e2 0 none env ef _ aok _ _ _ _ _ _ _ (st6'.nxt n7) fun s8 n8 => ?_))
  rw [show decide ((0 : Int) = 0) = true from rfl, if_pos rfl]
  refine seg_execs_cons (sg_If (G.e3 0 none env ef _ aok _ _ _ _ _ _ _ ((st6'.nxt n7).nxt n8) fun s9 n9 => ?_))
  rw [show (none : Option Int).isNone = true from rfl, if_pos rfl]
  have st9 := ((st6'.nxt n7).nxt n8).nxt n9
  have n69 := (n7.trans n8).trans n9
  refine seg_execs_cons (sg_plain (Raise_madeB PySem.F.excCall_ValueError PySem.F.excRaise_ValueError aok.h (gv env ef _ _ _ _ st9.base.top ⟨rfl, ?_⟩) (by rw [hme]; rfl) rfl))
  rw [hme]
  refine spliced_cons (hm _ env ef _ aok _ _ _ _ _ _ _ st9 fun v sA nA rA => spliced_nil ⟨by rw [sizeLine_eq]; simp, fun h' e hx => ?_⟩)
  have nB : Nxt s6 sA := n69.trans nA
  cases rA with
  | str _ tkm =>
  have hSub : Keep (I :: fa env) s2.heap sA.heap := fun b o hb e => nB.heap b o (kp6.keep b o (.inl hb) ((hs1.2 b (fun h => hb (h ▸ List.mem_cons_self ..))).trans (hk5 b o (fun h => hb (List.mem_cons_of_mem _ h)) e)))
  have hL : ∃ o, sA.heap.get? env.locals = some o ∧ ∀ vs, o.data ≠ .fields vs := by
    obtain ⟨m, o, es, ep, ho, hd, _⟩ := (st9.nxt nA).fw.ns
    exact ⟨o, ho, fun vs q => by rw [hd] at q; cases q⟩
  have hfaf : ∀ b ∈ I :: fa env, ∀ b', base.get? b' ≠ none → b' ≠ b := fun b hb b' h e => h (e ▸ hbf b hb)
  have hb : base.StaysIn sA.heap := fun b o e => hSub b o (fun m => by rw [hbf b m] at e; cases e) (hbase b o e)
  have hffA : sA.heap.FunFrames base (env :: fr) := by
    refine ⟨by rw [ef.kind]; decide, ⟨env.locals, ?_⟩, ?_⟩
    · obtain ⟨o, ho, hn⟩ := hL
      exact ⟨o, hframe, hbf _ (List.mem_cons_of_mem _ (List.mem_cons_self ..)), ho, hn⟩
    · exact funFrames_mono (fun b hb o e => ⟨o, hSub b o (fun m => by
        rcases List.mem_cons.mp m with rfl | m
        · rw [hI2] at e; cases e
        · exact hdis b hb m) e, rfl⟩) hff
  show Seg _ _ _ _ _ _ _ (lpH env (.ref e)) _ _
  refine seg_wrap (wpAny_bind (note_first hAf hframe hb hffA hx.of fun h1' t hheld htup htn hu => wpAny_theTreesLotGoes ?_))
  refine seg_leaf (.error (.ref e)) ?_
  show Seg _ _ _ _ _ _ _ (ownK env (fK1 env) (fH env) id id (.error (.ref e))) _ _
  unfold ownK
  rw [Sem.onRaise_raise, Sem.bind_eq_wrap, Sem.wrap_wrap]
  refine seg_wrap (came_back' hheld hframe fun h2' hheld2 hu2 => ?_)
  show Seg _ _ _ _ _ _ _ (fH env (.ref e)) _ _
  refine seg_wrap (leaves_held hframe hheld2 fun h3' hfly hu3 => ?_)
  refine seg_end (.error (.ref e)) ⟨e, t, tkm, rfl, hfly, (htup.of_slots hu2).of_slots hu3, htn, ?_, ?_, ?_⟩
  · have up : ∀ b o, sA.heap.get? b = some o → h'.get? b = some o := hx.keeps
    refine (UpTo.of_keep fun b o hb e => ?_).trans (((UpTo.of_slots hu).trans (.of_slots hu2)).trans (.of_slots hu3))
    refine up b o (hSub b o (fun m => ?_) e)
    rcases List.mem_cons.mp m with rfl | m
    · rw [hI2] at e; cases e
    · exact hb m
  · have hs6 : s6.os = c.os0 := st6.base.os
    show sA.os = s2.os
    rw [nB.os, hs6, ← hos, st5.base.os]
  · show GKeep s2.gens sA.gens
    exact (hgk.trans kp6.gens).trans nB.gens
end
end Mine
end
section
open PySem PySem.W PyProof.Rows PySem.Calls
set_option linter.unusedSimpArgs false
set_option linter.unusedVariables false
namespace Mine
theorem sub_ve_stop : isSubtype (.type "ValueError") (.type "StopIteration") = pure false := by rw [isSubtype_type]; kernel_rfl
section
variable {prog : Program} {w : World} {A : Around} {E : Value → Shared → Prop} {s : Shared} {base : Heap} {fr : List Env} {msg : Str} {N : List Addr}
theorem next_refuses {a : Addr} {g n : Nat} {gs : GenState} {Q : Option Value → Shared → Prop} (hl : s.heap.NoLimit) (hroom : A.depth < recursionLimit) (hg : s.heap.IsGen a g) (hgs : s.gens[g]? = some gs)
    (hba : ∀ o, s.heap.get? a = some o → base.get? a = some o)
    (hgo : gs.Goes (model prog w) A.in1 (gX base fr msg N) (fun _ _ _ _ _ => False) (n + 1) (.send .none) (s.setGen g .running))
    (hE : ∀ (e t : Addr) (tk : Tok) (s₁ : Shared), Heap.FlyingW base fr e (.type "ValueError") (.ref t) s₁.heap → s₁.heap.TupAt t [.str msg tk] → base.get? t = none → UpTo N s.heap s₁.heap → s₁.os = s.os → GKeep (s.setGen g .running).gens s₁.gens → E (.ref e) (s₁.setGen g .finished)) :
    wpAny (model prog w) A (pyNext (.ref a)) Q E s := by
  unfold pyNext
  refine wpAny_bind (wpAny_attempt (wpAny_callSpecial?_slot (name := Str.ofString "__next__") hg.typeIs slot_gen_next
    (wpAny_call_entry slot_gen_next hg.typeIs entry_gen_next ?_ (args_gen_next _))))
  show wpAny _ A.in1 (Builtin.Generator.genWake (.ref a) (.send .none)) _ _ s
  unfold Builtin.Generator.genWake
  refine wpAny_bind (wpAny_holding (wpAny_genNumber hg (wpAny_bind (wpAny_genState hgs ?_))))
  cases gs with
  | running => exact hgo.elim
  | finished => exact hgo.elim
  | _ =>
    refine wpAny_bind (wpAny_roomToWake hl hroom ?_)
    show wpAny _ A.in1 (.resume g (.send .none) [] _) _ _ s
    refine wpAny_resumeQ hgs hgo (fun x s₁ hx => ?_) (fun v s₁ gs' hb hv => hv.elim)
    obtain ⟨e, t, tk, rfl, hfly, htup, htn, hup, hos, hgk⟩ := hx
    obtain ⟨o, nm, qn, ho, hcls, hdat, hsl⟩ := hg
    have ho1 : s₁.heap.get? a = some o := hfly.1 _ _ (hba o ho)
    obtain ⟨oe, hoe, hoec⟩ := hfly.there
    have hTe : (s₁.setGen g .finished).TypeIs (.ref e) "ValueError" := ⟨oe, hoe, hoec⟩
    show wpAny _ A.in1 (Builtin.Generator.genLeft (.ref a) (.ref e)) _ _ _
    unfold Builtin.Generator.genLeft Builtin.Generator.madeByALambda
    refine wpAny_bind (wpAny_bind (wpAny_load (s := s₁.setGen g .finished) ho1 (wpAny_pure ?_)))
    refine wpAny_bind (wpAny_isInstance hTe sub_ve_stop ?_)
    rw [Bool.and_false, if_neg (by decide)]
    unfold Builtin.Generator.genEscaped
    refine wpAny_bind (wpAny_isInstance hTe sub_ve_stop ?_)
    rw [if_pos (by decide)]
    refine wpAny_throw ?_
    refine wpAny_bind (wpAny_isInstance hTe sub_ve_stop ?_)
    rw [if_neg (by decide)]
    exact wpAny_throw (hE e t tk s₁ hfly htup htn hup hos hgk)
end
end Mine
end
section
open PySem PySem.W PyProof.Rows PySem.Calls
set_option linter.unusedSimpArgs false
set_option linter.unusedVariables false
namespace Mine
structure AftX (fl : List Addr) (s s' : Shared) : Prop where
  keep : ∀ b o, b ∉ fl → s.heap.get? b = some o → s'.heap.get? b = some o
  up : ∀ b o, b ∈ fl → s.heap.get? b = some o → (∀ vs, o.data ≠ .fields vs) → ∃ sl, s'.heap.get? b = some { o with slots := sl }
  os : s'.os = s.os
  gens : GKeep s.gens s'.gens
section
variable {c : Cx} {k : Nat}
theorem callWith_evs {ns : Names} {σ : Sig} {env : Env} {A : Around} {he : Heap} {X0 X : List Addr} {F : Str → List Addr} {s : Shared} {Q : Value → Shared → Prop} {E : Value → Shared → Prop} {e : Expr} {es : List Expr} {f : Value} {ds : List D} {pos : Pos}
    (ef : EnvFor ns env) (a : AOk k A) (st : St c he X0 X env σ F s) (hk : Keep1 c f) (ha : EVs c k ns σ (e :: es) ds) (q : ∀ vs s', Nxt s s' → RepL X s'.heap vs ds → wpAny (model c.prog c.w) A (call f vs) Q E s') :
    wpAny (model c.prog c.w) A (callWith pos f [] (backTo pos (starEach (e :: es) env)) []) Q E s := by
  have hs : starEach (e :: es) env = (false, eval e env) :: starEach es env := by cases ha with | cons h _ _ => exact h env
  refine callWith_of (P := Ext c.h0) (by
    show ((backTo pos (starEach (e :: es) env)).any (·.1) || false) = false
    rw [evs_plain ha]; rfl) (fun h hh => hk _ h hh) ?_
  have key := ha.spl env ef A a he X0 X F s (fun vs s' => Ext c.h0 s'.heap ∧ wpAny (model c.prog c.w) A (call f ([] ++ vs) []) Q E s') E pos st fun vs s₁ n₁ r₁ =>
    ⟨(st.base.nxt n₁).top, q vs s₁ n₁ r₁⟩
  rw [hs] at key ⊢
  exact Calls.evalArgs_plain key
theorem refused_call {f2 f3 : Addr} {fd2 fd3 : FuncData} {x lst gn vn vn3 rw0 rn sz gf sn : Str} {t1 t2 t3 tt el ex me ea : Expr} {asg rst last : Stmt} {pl1 pc1 pa1 pg px pf pr p5 p6 p7 p8 y1 y2 y3 y4 vp3 mp rp ps pgf pc pfor np sp rp2 scp prr ph pt : Pos} {kd : Nat} {row : List Int} {msg : List Nat}
    (fa2 : FnAt c f2 fd2 [.Try [.For (.Name sz ps) (.Call (.Name gf pgf) [ea] [] pc) [rst] [] pfor] [.ExceptHandler (some (.Name vn np)) (some rn) [.Return (some (.Call (.Name sn sp) [.Name rn rp2] [] scp)) prr] ph] [] [] pt, last] [rw0])
    (fa3 : GenAtF c f3 fd3 [.Assign [.Name lst pl1] (.Constant .none kd pc1) pa1, .For (.Name x px) (.Name gn pg) (gBody t1 t2 t3 tt el ex [.Raise (some (.Call (.Name vn3 vp3) [me] [] mp)) none rp] asg pr p5 p6 p7 p8 y1 y2 y3 y4) [] pf] gn)
    (G : GenP c k fd3.scope.names x lst t1 t2 t3 tt el ex asg) (gv3 : EG c fd3.scope.names (.Name vn3 vp3) (.type "ValueError")) (hm : ∀ σ, EV c k fd3.scope.names σ me (.str msg)) (hme : ∀ env, starEach [me] env = [(false, eval me env)])
    (hlst : fd3.scope.names.lookup lst = some .local) (hgn : nameOk gn = true) (hlg : gn ≠ lst) (hsw : ∀ env, EnvFor fd3.scope.names env → swapsWith (.Constant .none kd pc1) (some (.Name lst pl1)) pa1.line env = pure false)
    (gg : EG c fd2.scope.names (.Name gf pgf) (.ref f3)) (kg : Keep1 c (.ref f3)) (ha : EVs c k fd2.scope.names [(rw0, false, .list (row.map .int))] [ea] [.list ((0 :: row).map .int)]) (hfs : ∀ env x, foldedSetIterable (.Call (.Name gf pgf) [ea] [] pc) env x = pure x)
    (gv2 : EG c fd2.scope.names (.Name vn np) (.type "ValueError")) (gs : EG c fd2.scope.names (.Name sn sp) (.type "str")) (hrn : fd2.scope.names.lookup rn = some .local) (hrnOk : nameOk rn = true) (hst : ∀ env, backTo scp (starEach [.Name rn rp2] env) = [(false, eval (.Name rn rp2) env)])
    {A : Around} {he : Heap} {X0 X : List Addr} {s : Shared} {v : Value} {fr : List Env} {Q : Value → Shared → Prop} {E : Value → Shared → Prop} (a : AOk (k + 4) A) (b : Base c he X0 X s) (rv : Rep X s.heap v (.list (row.map .int)))
    (hA : A.frames = some fr) (hfr : ∀ env ∈ fr, env.scope.kind ≠ .module ∧ ∃ L o, env.frame = some L ∧ s.heap.get? L = some o ∧ ∀ vs, o.data ≠ .fields vs) (hfr0 : ∀ b ∈ fr.filterMap (·.frame), c.h0.get? b = none)
    (q : ∀ tk s', AftX (fr.filterMap (·.frame)) s s' → Q (.str (ofL msg) tk) s') : wpAny (model c.prog c.w) A (call (.ref f2) [v]) Q E s := by
  refine wpAny_call (enter_def fa2 (show AOk ((k + 3) + 1) A from a) b (by rfl) fun env2 s1 ef2 hfm2 a2 n1 st1 fresh2 lk2 => ?_)
  have hA2 : (A.deeper env2).frames = some (env2 :: fr) := by show A.frames.map _ = _; rw [hA]; rfl
  have frl : ∀ L ∈ fr.filterMap (·.frame), ∃ o, s.heap.get? L = some o ∧ ∀ vs, o.data ≠ .fields vs := fun L hL => by
    obtain ⟨e, he', hf⟩ := List.mem_filterMap.mp hL
    obtain ⟨_, L', o, hf', ho, hn⟩ := hfr e he'
    rw [hf] at hf'; cases hf'; exact ⟨o, ho, hn⟩
  have hL2 : env2.locals ∈ fa env2 := List.mem_cons_self ..
  have reX : ∀ a ∈ fa env2 ++ X, a ∈ X ∨ s.heap.get? a = none := fun a ha => (List.mem_append.mp ha).elim (fun m => .inr (fresh2 a m)) .inl
  have st1' : St c s.heap X (fa env2 ++ X) env2 [(rw0, false, .list (row.map .int))] (fun _ => []) s1 := by
    refine ⟨st1.base, st1.fw, st1.fx, st1.f0, fun y o d e hv' => ?_, fun y d e => ?_, fun y d z d' e => ?_⟩
    · rw [List.lookup_cons] at e
      split at e
      · rename_i hb
        cases e
        have : y = rw0 := by simpa using hb
        subst this
        exact ⟨v, lk2 _ v (by simp), (rv.re reX).ext n1.heap⟩
      · cases e
    · rw [List.lookup_cons] at e
      split at e <;> cases e
    · rw [List.lookup_cons] at e
      split at e <;> cases e
  refine wpAny_execs_cons ?_
  rw [arm_exec_Try]
  refine wpAny_bind (wpAny_standAt ?_)
  refine wpAny_tryStmt_except ?_
  refine wpAny_execs_cons (wpAny_For ?_ (hfs env2))
  refine wpAny_Call_ofName (gg env2 ef2 _ s1 _ _ st1.base.top ?_)
  refine callWith_evs ef2 (a2.down.down.down) st1' kg ha fun vs s2 n2 r2 => ?_
  cases r2 with
  | cons r2 rs2 =>
  cases rs2
  rename_i v2
  have b2 := st1.base.nxt n2
  refine call_gen fa3 (show AOk ((k + 2) + 1) (A.deeper env2) from a2) b2 fun env3 ga s3 ef3 hfm3 hco3 n3 hga hig hgs hfr3 fw3 lk3 => ?_
  refine wpAny_pyIter_gen hig ?_
  cases r2 with
  | list nl pl rl =>
  rename_i l vs
  obtain ⟨ml, hl2⟩ := pl
  have L2live : ∃ o, s2.heap.get? env2.locals = some o ∧ ∀ vs, o.data ≠ .fields vs := by
    obtain ⟨m, o, es, ep, ho, hd, _⟩ := (st1'.nxt n2).fw.ns
    exact ⟨o, ho, fun vs q => by rw [hd] at q; cases q⟩
  have ff2 : ∀ b ∈ fa env2, ∃ o, s2.heap.get? b = some o := fun b hb => (st1'.nxt n2).base.live b (List.mem_append_left _ hb)
  obtain ⟨H, hH⟩ : ∃ H, H = fa env3 ++ env2.locals :: fr.filterMap (·.frame) := ⟨_, rfl⟩
  have hsub : (hideAll s3.heap H).StaysIn s3.heap := fun b o e => of_hideAll _ e
  have hnone : ∀ b ∈ H, (hideAll s3.heap H).get? b = none := fun b hb => hideAll_none _ hb
  have n13 : Nxt s s3 := (n1.trans n2).trans n3
  have frs : ∀ L ∈ fr.filterMap (·.frame), L ∉ fa env3 ∧ L ∉ fa env2 ∧ L ≠ ga := fun L hL => by
    obtain ⟨o, e, _⟩ := frl L hL
    have e2 := (n1.trans n2).heap L o e
    exact ⟨(fun m => by rw [(hfr3 L m).1] at e2; cases e2), (fun m => by rw [fresh2 L m] at e; cases e), (fun h => by rw [h, hga] at e2; cases e2)⟩
  have L2s : env2.locals ∉ fa env3 ∧ env2.locals ≠ ga := by
    obtain ⟨o, e, _⟩ := L2live
    exact ⟨(fun m => by rw [(hfr3 _ m).1] at e; cases e), (fun h => by rw [h, hga] at e; cases e)⟩
  have hgaH : ga ∉ H := by
    rw [hH]
    intro m
    rcases List.mem_append.mp m with m | m
    · exact (hfr3 ga m).2.1 rfl
    · rcases List.mem_cons.mp m with h | m
      · exact L2s.2 h.symm
      · exact (frs ga m).2.2 rfl
  have h0H : ∀ b o, c.h0.get? b = some o → (hideAll s3.heap H).get? b = some o := fun b o e => hideAll_get _ ((b2.nxt n3).top b o e) fun m => by
    rw [hH] at m
    rcases List.mem_append.mp m with m | m
    · have := (hfr3 b m).1; rw [b2.top b o e] at this; cases this
    · rcases List.mem_cons.mp m with h | m
      · subst h; have := fresh2 _ hL2; rw [b.top _ o e] at this; cases this
      · rw [hfr0 b m] at e; cases e
  have hff3 : s3.heap.FunFrames (hideAll s3.heap H) (env2 :: fr) := by
    refine ⟨by rw [ef2.kind]; decide, ?_, ?_⟩
    · obtain ⟨o, ho, hn⟩ := L2live
      exact ⟨env2.locals, o, hfm2, hnone _ (by rw [hH]; simp), n3.heap _ _ ho, hn⟩
    · have : ∀ (l : List Env), (∀ e ∈ l, e ∈ fr) → s3.heap.FunFrames (hideAll s3.heap H) l := by
        intro l
        induction l with
        | nil => intro _; trivial
        | cons e r ih =>
          intro hs
          obtain ⟨h1, L, o, hf, ho, hn⟩ := hfr e (hs e (List.mem_cons_self ..))
          exact ⟨h1, ⟨L, o, hf, hnone _ (by rw [hH]; exact List.mem_append_right _ (List.mem_cons_of_mem _ (List.mem_filterMap.mpr ⟨e, hs e (List.mem_cons_self ..), hf⟩))), n13.heap _ _ ho, hn⟩, ih fun e he => hs e (List.mem_cons_of_mem _ he)⟩
      exact this fr fun e he => he
  refine codeAny_forLoop (fun m s' => s' = s3) ?_ 0 rfl
  rintro m s' rfl
  refine next_refuses (base := hideAll s'.heap H) (fr := env2 :: fr) (msg := ofL msg) (N := fa env3) (n := 0) (c.lim.keeps (b2.nxt n3).top) a2.room hig hgs (fun o e => hideAll_get _ e hgaH) ⟨rfl, ?_⟩ fun e t tk s4 hfly htup htn hup hos hgk => ?_
  · refine gen_enter (h := s'.heap) (hc := fun b => ∃ o, c.h0.get? b = some o) (Xc := []) ef3 ⟨fun a h => (nomatch h), fun a h => (nomatch h), fun h => nomatch h⟩ hlst hgn hlg (hsw env3 ef3) fw3 (fun x hx h => ?_) (fun x o e => ⟨o, e⟩) lk3 ⟨ml, n3.heap _ _ hl2⟩ ?_ (rep_ints rl) (b2.nxt n3).top
      (fun x ⟨o, e⟩ => ⟨o, (b2.nxt n3).top x o e⟩) (fun x hx => (hfr3 x hx).2.2) ⟨fun x o _ e => e, fun a h => (nomatch h), (b2.nxt n3).os, allBare_set (b2.nxt n3).gens rfl⟩ fun I s5 p g5 st5 hI2 hgk5 hs5 hk5 hos5 => ?_
    · obtain ⟨o, e⟩ := h
      have := (hfr3 x hx).1; rw [b2.top x o e] at this; cases this
    · intro m; have := (hfr3 l m).1; rw [hl2] at this; cases this
    · refine gen_refuses (n := 0) G ef3 hfm3 gv3 hm hme (AOk.in1 a2.down) hA2 (rep_ints rl) g5 st5 hI2 hk5 hos5 hgk5 hsub (fun x hx => ?_) hff3 fun x hx m => ?_
      · rcases List.mem_cons.mp hx with rfl | hx
        · cases e : (hideAll s'.heap H).get? x with
          | none => rfl
          | some o => have := hsub _ o e; rw [show s'.heap.get? x = none from hI2] at this; cases this
        · exact hnone x (by rw [hH]; exact List.mem_append_left _ hx)
      · obtain ⟨e, he', hf⟩ := List.mem_filterMap.mp hx
        rcases List.mem_cons.mp he' with rfl | he'
        · rw [hfm2] at hf; cases hf; exact L2s.1 m
        · exact (frs x (List.mem_filterMap.mpr ⟨e, he', hf⟩)).1 m
  · -- on through the caller's loop
    have hl4 : Heap.FlyingW (hideAll s'.heap H) (env2 :: fr) e (.type "ValueError") (.ref t) s4.heap := hfly
    show notedBy _ _ _ _ _ _
    refine wpAny_looks_onW (s := s4.setGen s2.gens.size .finished) hA2 hfm2 hl4 fun h5 hheld5 hu5 => ?_
    refine came_back hheld5 hfm2 fun h6 hheld6 hu6 => ?_
    refine wpAny_noteFrame_againW hfm2 hheld6.2.2.2 (wpAny_landsW hheld6 fun h7 hfly7 hu7 => ?_)
    have top7 : Ext c.h0 h7 := fun b o e => hfly7.1 b o (h0H b o e)
    obtain ⟨oe7, hoe7, hoec7⟩ := hfly7.there
    refine wpAny_handleBy_builtin_as (X := "ValueError") (T := "ValueError") (b := true) PySem.F.isExc_ValueError PySem.F.notTuple_ValueError (by rw [isSubtype_type]; kernel_rfl) (gv2 env2 ef2 _ _ _ _ top7 ⟨rfl, ⟨oe7, hoe7, hoec7⟩, ?_⟩)
    rw [if_pos rfl]
    refine lands_againW hfly7 fun h8 hfly8 hu8 => ?_
    have htup8 := (((htup.of_slots hu5).of_slots hu6).of_slots hu7).of_slots hu8
    have up8 : UpTo (fa env3) s'.heap h8 := (((hup.trans (.of_slots hu5)).trans (.of_slots hu6)).trans (.of_slots hu7)).trans (.of_slots hu8)
    have fw3' : FrW env2 s'.heap := ((st1'.nxt n2).nxt n3).fw
    have fw8 : FrW env2 h8 := by
      refine ⟨?_, fun n cc hcc => ?_, fw3'.apart, fw3'.off⟩
      · obtain ⟨m, o, es, ep, ho, hd, r⟩ := fw3'.ns
        obtain ⟨sl, hs⟩ := up8 _ o L2s.1 ho fun vs q => by rw [hd] at q; cases q
        exact ⟨m, _, es, ep, hs, hd, r⟩
      · obtain ⟨v, o, ho, hr⟩ := fw3'.cell n cc hcc
        refine ⟨v, o, hfly8.1 _ _ (hideAll_get _ ho fun m => ?_), hr⟩
        have hcf : cc ∈ fa env2 := fa_cell hcc
        rw [hH] at m
        rcases List.mem_append.mp m with m | m
        · obtain ⟨o', e'⟩ := ff2 cc hcf; rw [(hfr3 cc m).1] at e'; cases e'
        · rcases List.mem_cons.mp m with h | m
          · exact fw3'.off n cc (mem_of_lookup hcc) h.symm
          · exact (frs cc m).2.1 hcf
    refine store_at ef2.toEnvOk fw8 (.inl (ef2.loc _ hrn)) fun h9 tk9 t9 hat9 fw9 l9 ls9 kt9 al9 => ?_
    have ht9 : t9 = env2.locals := by
      rcases hat9 with ⟨_, h⟩ | ⟨h, _⟩
      · exact h
      · rw [ef2.loc _ hrn] at h; cases h
    subst ht9
    obtain ⟨oe, ws, hoe, hoec, hoed, hoe0⟩ := hfly8.first
    obtain ⟨mL, oL, esL, epL, hoL, hdL, _⟩ := fw8.ns
    have neE : e ≠ env2.locals := fun h => by rw [h, hoL] at hoe; cases hoe; rw [hdL] at hoed; cases hoed
    obtain ⟨ot, nt, hot, hotc, hotd⟩ := htup8
    have neT : t ≠ env2.locals := fun h => by rw [h, hoL] at hot; cases hot; rw [hdL] at hotd; cases hotd
    have exc9 : Heap.ExcAt h9 e "ValueError" (.ref t) := ⟨oe, ws, kt9 e oe (by simpa using neE) hoe, hoec, hoed, hoe0⟩
    have tup9 : h9.TupAt t [.str (ofL msg) tk] := ⟨ot, nt, kt9 t ot (by simpa using neT) hot, hotc, hotd⟩
    have top9 : Ext c.h0 h9 := fun b o e => kt9 b o (by
      simp; rintro rfl
      have := hnone _ (show env2.locals ∈ H by rw [hH]; simp)
      rw [h0H _ o e] at this; cases this) (hfly8.1 b o (h0H b o e))
    simp only [nameOk, Bool.and_eq_true, Bool.not_eq_true'] at hrnOk
    refine wpAny_execs_cons (wpAny_Return_some (wpAny_Call_ofName (gs env2 ef2 _ _ _ _ top9 ?_)))
    rw [hst]
    refine callWith_of (P := Ext c.h0) rfl (fun h hh => keep_type _ h hh) (evalArgs1 (name_look ef2.kind l9 hrnOk.1 hrnOk.2 ⟨top9, ?_⟩))
    refine P.str_of_exc_one PySem.F.excStr_ValueError (by rw [Around.mark_units]; have := a2.u; omega) exc9 tup9 ?_
    obtain ⟨m9, hns9⟩ := fw9.ns
    refine wpAny_nameGoes_keeps (ef2.loc _ hrn) hns9 (by rw [ef2.kind]; rfl) fun h10 v10 hn10 hs10 => ?_
    have k9 : ∀ b o, b ≠ env2.locals → h8.get? b = some o → h10.get? b = some o := fun b o hb e => (hs10.2 b hb).trans (kt9 b o (by simpa using hb) e)
    refine q tk _ ⟨fun b o hb e => ?_, fun b o hb e hn => ?_, ?_, ?_⟩
    · have e2 := (n1.trans n2).heap b o e
      have hbL : b ≠ env2.locals := fun h => by rw [h, fresh2 _ hL2] at e; cases e
      refine k9 b o hbL (hfly8.1 b o (hideAll_get _ (n3.heap b o e2) fun m => ?_))
      rw [hH] at m
      rcases List.mem_append.mp m with m | m
      · rw [(hfr3 b m).1] at e2; cases e2
      · rcases List.mem_cons.mp m with h | m
        · exact hbL h
        · exact hb m
    · have hbL : b ≠ env2.locals := fun h => by rw [h, fresh2 _ hL2] at e; cases e
      obtain ⟨sl, hs⟩ := up8 b o (frs b hb).1 (n13.heap b o e) hn
      exact ⟨sl, k9 b _ hbL hs⟩
    · show s4.os = s.os
      rw [hos]; exact n13.os
    · show GKeep s.gens (s4.setGen s2.gens.size .finished).gens
      refine ⟨fun h => allBare_set (hgk.bare (allBare_set (n13.gens.bare h) rfl)) rfl, fun i z e => ?_⟩
      have e2 := (n1.trans n2).gens.keep i z e
      have hlt : i < s2.gens.size := by
        rcases Nat.lt_or_ge i s2.gens.size with h | h
        · exact h
        · rw [Array.getElem?_eq_none h] at e2; cases e2
      have hne : i ≠ s2.gens.size := Nat.ne_of_lt hlt
      rw [(GenOnly.setGen s4 _ .finished).2 i hne]
      refine hgk.keep i z ?_
      rw [(GenOnly.setGen s' _ .running).2 i hne]
      exact n3.gens.keep i z e2
end
end Mine
end
section
open PySem PySem.W PyProof.Rows PySem.Calls
set_option linter.unusedSimpArgs false
set_option linter.unusedVariables false
namespace Mine
section
variable {c : Cx} {k : Nat} {ns : Names} {σ : Sig}
theorem FD.fn1 {f : Value} {x : List Nat} {r : D} (h : FD c k f [.str x] r) : FN c k f [.str x] r := by
  intro A a he X0 X s Q E vs b w q
  refine h A a he X0 X s Q E vs b ?_ q
  cases w with
  | cons w1 w2 => cases w2; exact .cons w1 .nil
theorem ev_sorted {sn fk : Str} {sp kp pos kpos : Pos} {e : Expr} {q : Addr} {ss : List (List Nat)} (gs : EG c ns (.Name sn sp) (.builtin "sorted")) (gk : EG c ns (.Name fk kp) (.ref q)) (he : EV c (k + 2) ns σ e (.list (ss.map .str))) (hfit : Fit ss)
    (turn : ∀ x ∈ ss, FD c k (.ref q) [.str x] (.str x)) (hst : ∀ env, starEach [e] env = (false, eval e env) :: starEach [] env) :
    EV c (k + 2) ns σ (.Call (.Name sn sp) [e] [⟨some (Str.ofString "key"), .Name fk kp, kpos⟩] pos) (.list ((sortS ss).map .str)) := by
  intro env ef A a he' X0 X F s Q E st qq
  refine wpAny_Call_ofName (gs env ef A s _ E st.base.top ?_)
  refine callWith_of (P := Ext c.h0) (by rw [hst]; rfl) (fun h hh => keep_builtin _ h hh) ?_
  refine evalArgs_kw2 (by rfl) ?_ (hst env)
  rw [hst]
  refine spliced_cons (he env ef A a he' X0 X F s _ E st fun v s1 n1 r1 => spliced_nil ?_)
  refine kwAll_cons ?_
  refine gk env ef A s1 _ E (st.base.nxt n1).top ?_
  refine kwAll_nil ?_
  cases r1 with
  | list nl pl rl =>
    refine ⟨(st.base.nxt n1).top, ?_⟩
    exact fn_sorted_key a (st.base.nxt n1) pl rl hfit (fun x hx => (turn x hx).fn1) fun v s2 n2 r2 => qq v s2 (n1.trans n2) r2
end
theorem fits_of {i : Int} (h1 : -1000000 ≤ i) (h2 : i ≤ 1000000) : Builtin.Range.rangeFitsLong i = true := by
  unfold Builtin.Range.rangeFitsLong
  simp
  omega
theorem small_of {lo hi : Int} (h1 : 0 ≤ lo) (h2 : lo ≤ 1000000) (h3 : 0 ≤ hi) (h4 : hi ≤ 1000000) : Builtin.Range.small lo hi 1 = true := by
  have e : Builtin.Range.rangeSize lo hi 1 ≤ 1000000 ∧ -1000000 ≤ Builtin.Range.rangeSize lo hi 1 := by
    unfold Builtin.Range.rangeSize
    simp
    omega
  unfold Builtin.Range.small
  simp only [fits_of (show -1000000 ≤ lo by omega) h2, fits_of (show -1000000 ≤ hi by omega) h4, fits_of (show (-1000000 : Int) ≤ 1 by omega) (by omega), fits_of e.2 e.1]
  simp
  exact .inr (fits_of (by omega) h4)
end Mine
end
section
open PySem PySem.W PyProof.Rows
namespace Mine
noncomputable def fdAt (K : Frag) (a : Addr) : Option FuncData := match K.lookup a with
  | some ⟨_, _, .func fd, _⟩ => some fd
  | _ => none
noncomputable def fdOf (K : Frag) (a : Addr) : FuncData := (fdAt K a).getD default
noncomputable def bodyOf (K : Frag) (a : Addr) : List Stmt := match (fdOf K a).body with
  | .stmts b => b
  | _ => []
noncomputable abbrev nsOf (K : Frag) (a : Addr) : Names := (fdOf K a).scope.names
noncomputable def gK (K : Frag) (x : Str) : Option Value := match nsIn K mainGlobals x with
  | some (some v) => some v
  | some none => bootBuiltins x
  | none => none
noncomputable abbrev K39 (P : Params) : Frag := heapX P
structure C39 (c : Cx) : Prop where
  K : c.K = K39 c.w.params
  G : c.G = gK (K39 c.w.params)
  fI : c.fI = 35
  fA : c.fA = 49
theorem fnAt_of {c : Cx} (h : C39 c) (f : Addr) (ps : List Str) (hf : (fdAt (K39 c.w.params) f).isSome = true) (hb : (fdOf (K39 c.w.params) f).body = .stmts (bodyOf (K39 c.w.params) f)) (hc : (fdOf (K39 c.w.params) f).closure = [])
    (hcd : codeIn (K39 c.w.params) (fdOf (K39 c.w.params) f).code (fdOf (K39 c.w.params) f).qualname = true) (hg : (fdOf (K39 c.w.params) f).globals = mainGlobals) (hbi : (fdOf (K39 c.w.params) f).builtins = builtinsNs)
    (hk : (fdOf (K39 c.w.params) f).scope.kind = .function) (hco : (fdOf (K39 c.w.params) f).scope.isCoroutine = false) (hgen : (fdOf (K39 c.w.params) f).scope.isGenerator = false)
    (hbind : ∀ vals : List Value, vals.length = ps.length → bindArgs (fdOf (K39 c.w.params) f) ⟨vals, []⟩ = pure (ps.zip vals))
    (hks : (ps.all fun p => (nsOf (K39 c.w.params) f).lookup p == some .local || (nsOf (K39 c.w.params) f).lookup p == some .cell) = true) (hnd : decide ps.Nodup = true)
    (hnf : ((nsOf (K39 c.w.params) f).all fun e => e.2 != .free) = true) (hsn : decide (((nsOf (K39 c.w.params) f).map (·.1)).Nodup) = true) : FnAt c f (fdOf (K39 c.w.params) f) (bodyOf (K39 c.w.params) f) ps where
  obj := by
    unfold fdAt at hf
    split at hf
    · rename_i oc od fd osl e
      refine ⟨_, c.kin f _ (by rw [h.K]; exact e), ?_⟩
      show Data.func fd = .func (fdOf (K39 c.w.params) f)
      unfold fdOf fdAt
      rw [e]; rfl
    · cases hf
  body := hb
  clo := hc
  code := codeRec_of (h.K ▸ c.kin) hcd
  glob := hg
  bi := hbi
  kind := hk
  co := hco
  gen := hgen
  bind := hbind
  kinds := fun p hp => by
    have := List.all_eq_true.mp hks p hp
    rcases Bool.or_eq_true_iff.mp this with q | q
    · exact .inl (by simpa using q)
    · exact .inr (by simpa using q)
  nodup := of_decide_eq_true hnd
  nofree := fun n e => by
    have := List.all_eq_true.mp hnf _ (mem_of_lookup e)
    simp at this
  snodup := of_decide_eq_true hsn
theorem eg_of {c : Cx} (h : C39 c) {ns : Names} {x : Str} {p : Pos} {v : Value} (hg : gK (K39 c.w.params) x = some v) (hv : ns.lookup x = some .globalImplicit) (hn : nameOk x = true) : EG c ns (.Name x p) v := eg_name (by rw [h.G]; exact hg) hv hn
theorem look_skip {n x : Str} {v y : Bool × D} {σ : Sig} (hn : σ.lookup n = none) (e : σ.lookup x = some y) : ((n, v) :: σ).lookup x = some y := by
  rw [List.lookup_cons]
  by_cases hx : x = n
  · subst hx; rw [hn] at e; cases e
  · rw [beq_false_of_ne hx]; exact e
theorem look_ne {n x : Str} {v y : Bool × D} {σ : Sig} (hx : x ≠ n) (e : σ.lookup x = some y) : ((n, v) :: σ).lookup x = some y := by rw [List.lookup_cons, beq_false_of_ne hx]; exact e
theorem look_skip2 {n x : Str} {v w y : Bool × D} {σ : Sig} (hn : σ.lookup n = none) (e : σ.lookup x = some y) : ((n, v) :: (n, w) :: σ).lookup x = some y := by
  have hx : x ≠ n := fun h => by rw [h, hn] at e; cases e
  exact look_ne hx (look_ne hx e)
theorem look_pre {a b : Sig} {x : Str} {y : Bool × D} (e : a.lookup x = some y) : (a ++ b).lookup x = some y := by rw [lookup_append, e]; rfl
section
variable {c : Cx} {k : Nat} (h : C39 c)
include h
theorem fn_strxfrm : FnAt c 84 (fdOf (K39 c.w.params) 84) (bodyOf (K39 c.w.params) 84) ["s"] :=
  fnAt_of h 84 ["s"] (by kernel_rfl) (by kernel_rfl) (by kernel_rfl) (by kernel_rfl) (by kernel_rfl) (by kernel_rfl) (by kernel_rfl) (by kernel_rfl) (by kernel_rfl) (fun vals hv => by match vals, hv with | [a], _ => kernel_rfl) (by kernel_rfl) (by kernel_rfl) (by kernel_rfl) (by kernel_rfl)
theorem fd_strxfrm (x : List Nat) : FD c (k + 1) (.ref 84) [.str x] (.str x) :=
  fd_def (fn_strxfrm h) rfl (exs_ret (ex_return (ev_name rfl rfl rfl)))
theorem fn_strcoll : FnAt c 77 (fdOf (K39 c.w.params) 77) (bodyOf (K39 c.w.params) 77) ["a", "b"] :=
  fnAt_of h 77 ["a", "b"] (by kernel_rfl) (by kernel_rfl) (by kernel_rfl) (by kernel_rfl) (by kernel_rfl) (by kernel_rfl) (by kernel_rfl) (by kernel_rfl) (by kernel_rfl) (fun vals hv => by match vals, hv with | [a, b], _ => kernel_rfl) (by kernel_rfl) (by kernel_rfl) (by kernel_rfl) (by kernel_rfl)
noncomputable def coll (x y : List Nat) : Int := b2i (decide (y < x)) - b2i (decide (x < y))
theorem fd_strcoll (x y : List Nat) : FD c (k + 1) (.ref 77) [.str x, .str y] (.int (coll x y)) :=
  fd_def (fn_strcoll h) rfl (exs_ret (ex_return (ev_bin op_sub_bool (ev_cmp op_gt_str (ev_name rfl rfl rfl).w (ev_name rfl rfl rfl).w rfl).w (ev_cmp op_lt_str (ev_name rfl rfl rfl).w (ev_name rfl rfl rfl).w rfl).w)))
end
end Mine
end
section
open PySem PySem.W PyProof.Rows
namespace Mine
section
variable {c : Cx} {k : Nat} (h : C39 c)
include h
theorem fn_applies : FnAt c 49 (fdOf (K39 c.w.params) 49) (bodyOf (K39 c.w.params) 49) ["self", "useragent"] :=
  fnAt_of h 49 ["self", "useragent"] (by kernel_rfl) (by kernel_rfl) (by kernel_rfl) (by kernel_rfl) (by kernel_rfl) (by kernel_rfl) (by kernel_rfl) (by kernel_rfl) (by kernel_rfl) (fun vals hv => by match vals, hv with | [a, b], _ => kernel_rfl) (by kernel_rfl) (by kernel_rfl) (by kernel_rfl) (by kernel_rfl)
theorem fd_applies_none (ua : List (List Nat)) (rl : List D) : FD c (k + 2) (.ref 49) [.ent (ua.map .str) rl, .none] (.bool (ua.contains [42])) := by
  refine fd_def (fn_applies h) rfl ?_
  refine exs_ret (ex_if (b := true) (et_cmp op_is_none (ev_name rfl rfl rfl).w ev_none.w rfl) (fun _ => ?_) (fun e => nomatch e))
  refine exs_ret (ex_return (ev_cmp op_in_strs (ev_str rfl).w (ev_ua (ev_name rfl rfl rfl).w).w rfl))
noncomputable def star : List Nat := [42]
noncomputable def hit (g y : List Nat) : Bool := g != star && inStr (g.map lo1) y
noncomputable def appl (ua : List (List Nat)) (x : List Nat) : Bool := ua.any fun g => hit g ((ahead 47 x).map lo1)
theorem fd_applies_str (ua : List (List Nat)) (rl : List D) (x : List Nat) (hx : x.length ≤ 1000) (hxa : ∀ ch ∈ x, ch < 128) (hu : ∀ g ∈ ua, g.length ≤ 1000 ∧ ∀ ch ∈ g, ch < 128) (hul : ua.length ≤ 1000) :
    FD c (k + 2) (.ref 49) [.ent (ua.map .str) rl, .str x] (.bool (appl ua x)) := by
  refine fd_def (fn_applies h) rfl ?_
  refine exs_cons (ex_if (b := false) (out := .next _) (et_cmp op_is_none (ev_name rfl rfl rfl).w ev_none.w rfl) (fun e => nomatch e) (fun _ => exs_nil)) ?_
  have hsub : ∀ ch ∈ ahead 47 x, ch ∈ x := fun ch hc => (List.takeWhile_sublist _).subset hc
  have hlen : (ahead 47 x).length ≤ x.length := (List.takeWhile_sublist _).length_le
  refine exs_cons (ex_assign (ev_lower (fun _ => rfl) rfl (ev_splitFirst (hs := by rfl) (fun _ => rfl) rfl (ev_name rfl rfl rfl).w (by rw [sizeLine_eq]; omega)).w (by omega) (fun ch hc => hxa ch (hsub ch hc))) (.inl rfl) (fun _ _ => rfl)) ?_
  generalize hy : (ahead 47 x).map lo1 = y
  have hua : appl ua x = ua.any fun g => hit g y := by unfold appl; rw [hy]
  rw [hua]
  obtain ⟨σ1, hσ⟩ : ∃ σ1 : Sig, σ1 = [(Str.ofString "useragent", false, .str y), (Str.ofString "self", false, .ent (ua.map .str) rl)] := ⟨_, rfl⟩
  refine exs_weak (σ' := σ1) (fun _ _ e => look_pre (b := [(Str.ofString "useragent", false, .str x)]) (a := [(Str.ofString "useragent", false, .str y), (Str.ofString "self", false, .ent (ua.map .str) rl)]) (hσ ▸ e)) ?_
  have l1 : σ1.lookup (Str.ofString "useragent") = some (false, .str y) := by rw [hσ]; rfl
  have l2 : σ1.lookup (Str.ofString "self") = some (false, .ent (ua.map .str) rl) := by rw [hσ]; rfl
  have l3 : σ1.lookup (Str.ofString "agent") = none := by rw [hσ]; rfl
  have at_ : ∀ (i : Nat) (d : D), (ua.map D.str)[i]? = some d → ∃ g, ua[i]? = some g ∧ d = .str g := fun i d e => by
    rw [List.getElem?_map] at e
    obtain ⟨g, hg, rfl⟩ := Option.map_eq_some_iff.mp e
    exact ⟨g, hg, rfl⟩
  cases ha : ua.any fun g => hit g y with
  | false =>
    refine exs_cons (ex_for (fun _ => σ1) ua.length (out := .next σ1) (ei_list (ev_ua (ev_name l2 rfl rfl).w)) (.inl rfl) (fun _ _ e => e) (by simp) (fun i d _ hd => ?_) (.inl ⟨by simp, rfl⟩) (fun _ _ => rfl)) (exs_ret (ex_return ev_bool))
    obtain ⟨g, hg, rfl⟩ := at_ i d hd
    have hgm := List.mem_of_getElem? hg
    have hng : hit g y = false := by
      have := List.any_eq_false.mp ha g hgm
      simpa using this
    obtain ⟨hgl, hga⟩ := hu g hgm
    refine exs_cons (σ1 := σ1) (ex_if (b := !deq (.str g) (.str star)) (et_cmp (op_ne .str trivial trivial) (ev_name rfl rfl rfl).w (ev_str rfl).w rfl) (fun hb => ?_) (fun hb => exs_weakOut (fun _ _ e => look_skip l3 e) exs_nil)) exs_nil
    have hgs : (g != star) = true := by simpa [deq] using hb
    have hin : inStr (g.map lo1) y = false := by unfold hit at hng; rw [hgs] at hng; simpa using hng
    refine exs_weakOut (σ1 := (Str.ofString "agent", false, .str (g.map lo1)) :: (Str.ofString "agent", false, .str g) :: σ1) (fun x' y' e => look_skip2 l3 e) (exs_cons (ex_assign (ev_lower (fun _ => rfl) rfl (ev_name rfl rfl rfl).w (by omega) hga) (.inl rfl) (fun _ _ => rfl))
      (exs_cons (ex_if (b := inStr (g.map lo1) y) (et_cmp op_in_str (ev_name rfl rfl rfl).w (ev_name (look_skip2 l3 l1) rfl rfl).w rfl) (fun e => by rw [hin] at e; cases e) (fun _ => exs_nil)) exs_nil))
  | true =>
    have hj : ua.findIdx (fun g => hit g y) < ua.length := List.findIdx_lt_length_of_exists (by simpa using ha)
    refine exs_ret (ex_for (fun _ => σ1) (ua.findIdx fun g => hit g y) (out := .ret (.bool true)) (ei_list (ev_ua (ev_name l2 rfl rfl).w)) (.inl rfl) (fun _ _ e => e) (by simp; omega) (fun i d hi hd => ?_) (.inr ⟨.str (ua[ua.findIdx fun g => hit g y]), by simp [hj], .inl ⟨_, ?_, rfl⟩⟩) (fun _ _ => rfl))
    · obtain ⟨g, hg, rfl⟩ := at_ i d hd
      have hgm := List.mem_of_getElem? hg
      have hng : hit g y = false := by
        have hil : i < ua.length := by omega
        have := List.not_of_lt_findIdx hi
        rw [List.getElem?_eq_getElem hil] at hg
        cases hg
        simpa using this
      obtain ⟨hgl, hga⟩ := hu g hgm
      refine exs_cons (σ1 := σ1) (ex_if (b := !deq (.str g) (.str star)) (et_cmp (op_ne .str trivial trivial) (ev_name rfl rfl rfl).w (ev_str rfl).w rfl) (fun hb => ?_) (fun hb => exs_weakOut (fun _ _ e => look_skip l3 e) exs_nil)) exs_nil
      have hgs : (g != star) = true := by simpa [deq] using hb
      have hin : inStr (g.map lo1) y = false := by unfold hit at hng; rw [hgs] at hng; simpa using hng
      refine exs_weakOut (σ1 := (Str.ofString "agent", false, .str (g.map lo1)) :: (Str.ofString "agent", false, .str g) :: σ1) (fun x' y' e => look_skip2 l3 e) (exs_cons (ex_assign (ev_lower (fun _ => rfl) rfl (ev_name rfl rfl rfl).w (by omega) hga) (.inl rfl) (fun _ _ => rfl))
        (exs_cons (ex_if (b := inStr (g.map lo1) y) (et_cmp op_in_str (ev_name rfl rfl rfl).w (ev_name (look_skip2 l3 l1) rfl rfl).w rfl) (fun e => by rw [hin] at e; cases e) (fun _ => exs_nil)) exs_nil))
    · obtain ⟨g, hg⟩ : ∃ g, g = ua[ua.findIdx fun g => hit g y] := ⟨_, rfl⟩
      have hh : hit g y = true := by rw [hg]; exact List.findIdx_getElem (p := fun g => hit g y) (w := hj)
      rw [← hg]
      have hgm : g ∈ ua := hg ▸ List.getElem_mem hj
      obtain ⟨hgl, hga⟩ := hu g hgm
      unfold hit at hh
      obtain ⟨hgs, hin⟩ := Bool.and_eq_true_iff.mp hh
      refine exs_ret (ex_if (b := !deq (.str g) (.str star)) (et_cmp (op_ne .str trivial trivial) (ev_name rfl rfl rfl).w (ev_str rfl).w rfl) (fun _ => ?_) (fun hb => ?_))
      · refine exs_cons (ex_assign (ev_lower (fun _ => rfl) rfl (ev_name rfl rfl rfl).w (by omega) hga) (.inl rfl) (fun _ _ => rfl)) ?_
        exact exs_ret (ex_if (b := inStr (g.map lo1) y) (et_cmp op_in_str (ev_name rfl rfl rfl).w (ev_name (look_skip2 l3 l1) rfl rfl).w rfl) (fun _ => exs_ret (ex_return ev_bool)) (fun e => by rw [hin] at e; cases e))
      · have : (g != star) = false := by simpa [deq] using hb
        rw [this] at hgs; cases hgs
end
end Mine
end
section
open PySem PySem.W PyProof.Rows
namespace Mine
theorem swaps_true {ns : Names} {env : Env} {elt : Expr} {gens : List Comprehension} {scope : Scope} {p tp : Pos} {t : Str} {line : Nat} (ef : EnvFor ns env) (ht : ns.lookup t = some .local)
    (hl : (tp.line == p.line) = true) (hn : (scope.names.any fun (n, k) => n == t && (k == .local || k == .cell)) = false) : swapsWith (.ListComp elt gens scope p) (some (.Name t tp)) line env = pure true := by
  have hk := ef.loc t ht
  have hb : env.blockKind = .function := by unfold Env.blockKind; rw [ef.kind]; rfl
  show pure (env.blockKind == .function && env.kindOf t == some .local && tp.line == p.line && !(scope.names.any fun (n, k) => n == t && (k == .local || k == .cell))) = (pure true : Sem Bool)
  rw [hb, hk, hl, hn]; rfl
theorem swaps_cell {ns : Names} {env : Env} {elt : Expr} {gens : List Comprehension} {scope : Scope} {p tp : Pos} {t : Str} {line : Nat} (ef : EnvFor ns env) (ht : ns.lookup t = some .cell) :
    swapsWith (.ListComp elt gens scope p) (some (.Name t tp)) line env = pure false := by
  have hk := ef.cel t ht
  show pure (env.blockKind == .function && env.kindOf t == some .local && tp.line == p.line && !(scope.names.any fun (n, k) => n == t && (k == .local || k == .cell))) = (pure false : Sem Bool)
  rw [hk, show (some NameKind.cell == some NameKind.local) = false from rfl]
  simp
end Mine
namespace Mine
noncomputable def compOkB (ns : Names) (σ : Sig) (names : Names) (x : Str) : Bool :=
  decide ((names.map (·.1)).Nodup) && names.all (fun e => e.2 != .free || (ns.lookup e.1 == some .cell || ns.lookup e.1 == some .free)) && sigOk σ names x &&
    (names.lookup x == some .local || names.lookup x == some .cell) && names.all (fun y => y.2 != .local || names.lookup y.1 == some .local)
theorem compOk_of {ns : Names} {σ : Sig} {scope : Scope} {x : Str} (hk : scope.kind = .function) (hb : compOkB ns σ scope.names x = true) : CompOk ns σ scope x := by
  unfold compOkB at hb
  simp only [Bool.and_eq_true] at hb
  obtain ⟨⟨⟨⟨h1, h2⟩, h3⟩, h4⟩, h5⟩ := hb
  refine ⟨⟨hk, of_decide_eq_true h1, fun n hn => ?_⟩, h3, ?_, fun y hy hl => ?_⟩
  · have := List.all_eq_true.mp h2 _ hn
    simp at this
    exact this
  · rcases Bool.or_eq_true_iff.mp h4 with q | q
    · exact .inl (by simpa using q)
    · exact .inr (by simpa using q)
  · have := List.all_eq_true.mp h5 y hy
    simp [hl] at this
    exact this
theorem rngD_mem {n : Nat} {d : D} (hd : d ∈ rngD 0 (n : Int)) : ∃ i : Nat, i < n ∧ d = .int (i : Int) := by
  unfold rngD at hd
  obtain ⟨i, hi, rfl⟩ := List.mem_map.mp hd
  simp at hi
  exact ⟨i, hi, by simp⟩
theorem rngD_len (n : Nat) : (rngD 0 (n : Int)).length = n := by unfold rngD; simp
theorem rngD_nat (n : Nat) : rngD 0 (n : Int) = (List.range n).map fun i : Nat => D.int (i : Int) := by unfold rngD; simp
end Mine
end
section
open PySem PySem.W PyProof.Rows
namespace Mine
noncomputable def AgreeOn (σ1 σ2 : Sig) : List Str → Prop
  | [] => True
  | n :: r => σ1.lookup n = σ2.lookup n ∧ AgreeOn σ1 σ2 r
theorem look_w {σ1 σ2 : Sig} (h : AgreeOn σ1 σ2 (σ2.map (·.1))) : ∀ x y, σ2.lookup x = some y → σ1.lookup x = some y := by
  have key : ∀ (l : List Str), AgreeOn σ1 σ2 l → ∀ x ∈ l, σ1.lookup x = σ2.lookup x := by
    intro l
    induction l with
    | nil => intro _ x hx; cases hx
    | cons n r ih =>
      intro ha x hx
      rcases List.mem_cons.mp hx with rfl | hx
      · exact ha.1
      · exact ih ha.2 x hx
  intro x y e
  rw [key _ h x (List.mem_map.mpr ⟨(x, y), mem_of_lookup e, rfl⟩), e]
theorem deqL_ints : ∀ (l m : List Int), deqL (l.map .int) (m.map .int) = (l == m)
  | [], [] => rfl
  | [], _ :: _ => rfl
  | _ :: _, [] => rfl
  | a :: l, b :: m => by
    show (a == b && deqL (l.map .int) (m.map .int)) = (a == b && l == m)
    rw [deqL_ints l m]
theorem deqL_strs : ∀ (l m : List (List Nat)), deqL (l.map .str) (m.map .str) = (l == m)
  | [], [] => rfl
  | [], _ :: _ => rfl
  | _ :: _, [] => rfl
  | a :: l, b :: m => by
    show (a == b && deqL (l.map .str) (m.map .str)) = (a == b && l == m)
    rw [deqL_strs l m]
theorem deqL_bools : ∀ (l m : List Bool), deqL (l.map .bool) (m.map .bool) = (l == m)
  | [], [] => rfl
  | [], _ :: _ => rfl
  | _ :: _, [] => rfl
  | a :: l, b :: m => by
    show (a == b && deqL (l.map .bool) (m.map .bool)) = (a == b && l == m)
    rw [deqL_bools l m]
noncomputable def Dii (l : List (List Int)) : D := .list (l.map fun r => .list (r.map .int))
noncomputable def Dss (l : List (List (List Nat))) : D := .list (l.map fun r => .list (r.map .str))
theorem deqL_intss : ∀ (l m : List (List Int)), deqL (l.map fun r => .list (r.map .int)) (m.map fun r => .list (r.map .int)) = (l == m)
  | [], [] => rfl
  | [], _ :: _ => rfl
  | _ :: _, [] => rfl
  | a :: l, b :: m => by
    show (deqL (a.map .int) (b.map .int) && deqL (l.map fun r => .list (r.map .int)) (m.map fun r => .list (r.map .int))) = (a == b && l == m)
    rw [deqL_intss l m, deqL_ints]
theorem deqL_strss : ∀ (l m : List (List (List Nat))), deqL (l.map fun r => .list (r.map .str)) (m.map fun r => .list (r.map .str)) = (l == m)
  | [], [] => rfl
  | [], _ :: _ => rfl
  | _ :: _, [] => rfl
  | a :: l, b :: m => by
    show (deqL (a.map .str) (b.map .str) && deqL (l.map fun r => .list (r.map .str)) (m.map fun r => .list (r.map .str))) = (a == b && l == m)
    rw [deqL_strss l m, deqL_strs]
section
variable {c : Cx} {k : Nat}
theorem has_ints (l : List Int) : (Ty.list .int).has (.list (l.map .int)) := fun d hd => by obtain ⟨i, _, rfl⟩ := List.mem_map.mp hd; trivial
theorem has_strs (l : List (List Nat)) : (Ty.list .str).has (.list (l.map .str)) := fun d hd => by obtain ⟨i, _, rfl⟩ := List.mem_map.mp hd; trivial
theorem has_bools (l : List Bool) : (Ty.list .bool).has (.list (l.map .bool)) := fun d hd => by obtain ⟨i, _, rfl⟩ := List.mem_map.mp hd; trivial
theorem has_intss (l : List (List Int)) : (Ty.list (.list .int)).has (Dii l) := fun d hd => by obtain ⟨i, _, rfl⟩ := List.mem_map.mp hd; exact has_ints i
theorem has_strss (l : List (List (List Nat))) : (Ty.list (.list .str)).has (Dss l) := fun d hd => by obtain ⟨i, _, rfl⟩ := List.mem_map.mp hd; exact has_strs i
theorem op_eqI {a b : Int} : Op2 c k (compareOp .Eq) (.int a) (.int b) (.bool (a == b)) := op_eq (k := k) .int trivial trivial
theorem op_neI {a b : Int} : Op2 c k (compareOp .NotEq) (.int a) (.int b) (.bool (!(a == b))) := op_ne (k := k) .int trivial trivial
theorem op_eqLI {l m : List Int} : Op2 c (k + 1) (compareOp .Eq) (.list (l.map .int)) (.list (m.map .int)) (.bool (l == m)) := deqL_ints l m ▸ op_eq (k := k) (.list .int) (has_ints l) (has_ints m)
theorem op_neLI {l m : List Int} : Op2 c (k + 1) (compareOp .NotEq) (.list (l.map .int)) (.list (m.map .int)) (.bool (!(l == m))) := deqL_ints l m ▸ op_ne (k := k) (.list .int) (has_ints l) (has_ints m)
theorem op_eqLB {l m : List Bool} : Op2 c (k + 1) (compareOp .Eq) (.list (l.map .bool)) (.list (m.map .bool)) (.bool (l == m)) := deqL_bools l m ▸ op_eq (k := k) (.list .bool) (has_bools l) (has_bools m)
theorem op_neLB {l m : List Bool} : Op2 c (k + 1) (compareOp .NotEq) (.list (l.map .bool)) (.list (m.map .bool)) (.bool (!(l == m))) := deqL_bools l m ▸ op_ne (k := k) (.list .bool) (has_bools l) (has_bools m)
theorem op_neLS {l m : List (List Nat)} : Op2 c (k + 1) (compareOp .NotEq) (.list (l.map .str)) (.list (m.map .str)) (.bool (!(l == m))) := deqL_strs l m ▸ op_ne (k := k) (.list .str) (has_strs l) (has_strs m)
theorem op_neLLI {l m : List (List Int)} : Op2 c (k + 2) (compareOp .NotEq) (Dii l) (Dii m) (.bool (!(l == m))) := deqL_intss l m ▸ op_ne (k := k) (.list (.list .int)) (has_intss l) (has_intss m)
theorem op_neLLS {l m : List (List (List Nat))} : Op2 c (k + 2) (compareOp .NotEq) (Dss l) (Dss m) (.bool (!(l == m))) := deqL_strss l m ▸ op_ne (k := k) (.list (.list .str)) (has_strss l) (has_strss m)
end
theorem ints_get {l : List Int} {i : Nat} (h : i < l.length) : (l.map D.int)[((i : Int)).toNat]? = some (.int (l.getD i 0)) := by
  rw [List.getElem?_map, show ((i : Int)).toNat = i from rfl, List.getElem?_eq_getElem h, List.getD_eq_getElem?_getD, List.getElem?_eq_getElem h]; rfl
theorem strs_get {l : List (List Nat)} {i : Nat} (h : i < l.length) : (l.map D.str)[((i : Int)).toNat]? = some (.str (l.getD i [])) := by
  rw [List.getElem?_map, show ((i : Int)).toNat = i from rfl, List.getElem?_eq_getElem h, List.getD_eq_getElem?_getD, List.getElem?_eq_getElem h]; rfl
theorem rngD_map {α : Type} (n : Nat) (f : Nat → α) (g : D → α) (hg : ∀ i < n, g (.int (i : Int)) = f i) : (rngD 0 (n : Int)).map g = (List.range n).map f := by
  rw [rngD_nat, List.map_map]
  exact List.map_congr_left (fun i hi => hg i (List.mem_range.mp hi))
noncomputable def intOf : D → Int
  | .int i => i
  | _ => 0
noncomputable def strOf : D → List Nat
  | .str x => x
  | _ => []
noncomputable def intsOf : D → List Int
  | .list l => l.map intOf
  | _ => []
noncomputable def strsOf : D → List (List Nat)
  | .list l => l.map strOf
  | _ => []
theorem intsOf_eq (l : List Int) : intsOf (.list (l.map .int)) = l := by show (l.map D.int).map intOf = l; rw [List.map_map]; exact List.map_id'' (fun _ => rfl) l
theorem strsOf_eq (l : List (List Nat)) : strsOf (.list (l.map .str)) = l := by show (l.map D.str).map strOf = l; rw [List.map_map]; exact List.map_id'' (fun _ => rfl) l
theorem compx {α : Type} {xs : List α} {a b : α → D} {q : α → Bool} {f : D → D} {p : D → Bool} (hf : ∀ y ∈ xs, f (a y) = b y) (hp : ∀ y ∈ xs, p (a y) = q y) : ((xs.map a).filter p).map f = (xs.filter q).map b := by
  induction xs with
  | nil => rfl
  | cons x r ih =>
    have ih' := ih (fun y hy => hf y (List.mem_cons_of_mem _ hy)) (fun y hy => hp y (List.mem_cons_of_mem _ hy))
    have h1 := hp x List.mem_cons_self
    have h2 := hf x List.mem_cons_self
    rw [List.map_cons]
    cases hq : q x with
    | true => rw [List.filter_cons_of_pos (by rw [h1, hq]), List.filter_cons_of_pos hq, List.map_cons, List.map_cons, ih', h2]
    | false => rw [List.filter_cons_of_neg (by rw [h1, hq]; simp), List.filter_cons_of_neg (by rw [hq]; simp), ih']
section
variable {c : Cx} {k : Nat} {ns : Names} {σ : Sig}
theorem ev_cmpx {α : Type} {elt iter : Expr} {x : Str} {px : Pos} {ifs : List Expr} {scope : Scope} {pos : Pos} {xs : List α} {a b : α → D} {q : α → Bool} (f : D → D) (p : D → Bool) (hf : ∀ y ∈ xs, f (a y) = b y) (hp : ∀ y ∈ xs, p (a y) = q y) (co : CompOk ns σ scope x) (hi : EI c k ns σ iter (xs.map a))
    (htest : ∀ y ∈ xs, ETs c k scope.names ((x, false, a y) :: σ) ifs (q y)) (helt : ∀ y ∈ xs, q y = true → EV c k scope.names ((x, false, a y) :: σ) elt (b y)) (hlen : xs.length ≤ sizeLine)
    (hs : ∀ env x, foldedSetIterable iter env x = pure x) :
    EV c k ns σ (.ListComp elt [⟨.Name x px, iter, ifs, 0⟩] scope pos) (.list ((xs.filter q).map b)) := by
  rw [← compx hf hp]
  refine ev_comp co hi (fun d hd => ?_) (fun d hd hpd => ?_) (by rw [List.length_map]; exact hlen) hs
  · obtain ⟨y, hy, rfl⟩ := List.mem_map.mp hd
    rw [hp y hy]; exact htest y hy
  · obtain ⟨y, hy, rfl⟩ := List.mem_map.mp hd
    rw [hp y hy] at hpd
    rw [hf y hy]; exact helt y hy hpd
theorem ev_mapx {α : Type} {elt iter : Expr} {x : Str} {px : Pos} {scope : Scope} {pos : Pos} {xs : List α} {a b : α → D} (f : D → D) (hf : ∀ y ∈ xs, f (a y) = b y) (co : CompOk ns σ scope x) (hi : EI c k ns σ iter (xs.map a))
    (helt : ∀ y ∈ xs, EV c k scope.names ((x, false, a y) :: σ) elt (b y)) (hlen : xs.length ≤ sizeLine)
    (hs : ∀ env x, foldedSetIterable iter env x = pure x) :
    EV c k ns σ (.ListComp elt [⟨.Name x px, iter, [], 0⟩] scope pos) (.list (xs.map b)) := by
  have e := ev_cmpx (c := c) (k := k) (elt := elt) (px := px) (ifs := []) (pos := pos) (q := fun _ => true) f (fun _ => true) hf (fun _ _ => rfl) co hi (fun _ _ => ets_nil) (fun y hy _ => helt y hy) hlen hs
  rw [List.filter_eq_self.mpr (fun _ _ => rfl)] at e
  exact e
theorem ex_assignCmpx {α : Type} {y : Str} {py spos : Pos} {elt iter : Expr} {x : Str} {px : Pos} {ifs : List Expr} {scope : Scope} {pos : Pos} {xs : List α} {a b : α → D} {q : α → Bool} (f : D → D) (p : D → Bool) (hf : ∀ y ∈ xs, f (a y) = b y) (hp : ∀ y ∈ xs, p (a y) = q y) (co : CompOk ns σ scope x) (hi : EI c k ns σ iter (xs.map a))
    (htest : ∀ y ∈ xs, ETs c k scope.names ((x, false, a y) :: σ) ifs (q y)) (helt : ∀ y ∈ xs, q y = true → EV c k scope.names ((x, false, a y) :: σ) elt (b y)) (hlen : xs.length ≤ sizeLine)
    (hs : ∀ env x, foldedSetIterable iter env x = pure x) (hy : ns.lookup y = some .local)
    (hsw : ∀ env, EnvFor ns env → swapsWith (.ListComp elt [⟨.Name x px, iter, ifs, 0⟩] scope pos) (some (.Name y py)) spos.line env = pure true) :
    EX c k ns σ (.Assign [.Name y py] (.ListComp elt [⟨.Name x px, iter, ifs, 0⟩] scope pos) spos) (.next ((y, false, .list ((xs.filter q).map b)) :: σ)) := by
  rw [← compx hf hp]
  refine ex_assignComp co hi (fun d hd => ?_) (fun d hd hpd => ?_) (by rw [List.length_map]; exact hlen) hs hy hsw
  · obtain ⟨y, hy, rfl⟩ := List.mem_map.mp hd
    rw [hp y hy]; exact htest y hy
  · obtain ⟨y, hy, rfl⟩ := List.mem_map.mp hd
    rw [hp y hy] at hpd
    rw [hf y hy]; exact helt y hy hpd
theorem ex_assignMapx {α : Type} {y : Str} {py spos : Pos} {elt iter : Expr} {x : Str} {px : Pos} {scope : Scope} {pos : Pos} {xs : List α} {a b : α → D} (f : D → D) (hf : ∀ y ∈ xs, f (a y) = b y) (co : CompOk ns σ scope x) (hi : EI c k ns σ iter (xs.map a))
    (helt : ∀ y ∈ xs, EV c k scope.names ((x, false, a y) :: σ) elt (b y)) (hlen : xs.length ≤ sizeLine)
    (hs : ∀ env x, foldedSetIterable iter env x = pure x) (hy : ns.lookup y = some .local)
    (hsw : ∀ env, EnvFor ns env → swapsWith (.ListComp elt [⟨.Name x px, iter, [], 0⟩] scope pos) (some (.Name y py)) spos.line env = pure true) :
    EX c k ns σ (.Assign [.Name y py] (.ListComp elt [⟨.Name x px, iter, [], 0⟩] scope pos) spos) (.next ((y, false, .list (xs.map b)) :: σ)) := by
  have e := ex_assignCmpx (c := c) (k := k) (elt := elt) (px := px) (py := py) (spos := spos) (ifs := []) (pos := pos) (q := fun _ => true) f (fun _ => true) hf (fun _ _ => rfl) co hi (fun _ _ => ets_nil) (fun y hy _ => helt y hy) hlen hs hy hsw
  rw [List.filter_eq_self.mpr (fun _ _ => rfl)] at e
  exact e
theorem ei_rangeN {e : Expr} {n : Nat} (h : EV c k ns σ e (.rng 0 (n : Int))) (hn : n ≤ 1000000) : EI c k ns σ e ((List.range n).map fun i : Nat => D.int (i : Int)) := by
  rw [← rngD_nat]
  exact ei_range h (small_of (by omega) (by omega) (by omega) (by omega))
end
end Mine
end
section
open PySem PySem.W PyProof.Rows
namespace Mine
noncomputable def isStop (row : List Int) (i : Int) : Bool := row.getD i.toNat 0 == 0 || row.getD i.toNat 0 == 127
noncomputable def stopsOf (row : List Int) : List Int := ((List.range row.length).map fun i : Nat => (i : Int)).filter (isStop row)
noncomputable def bodyOfRow (row : List Int) (L : Nat) : List Int := match stopsOf row with
  | [] => row
  | s :: _ => if row.getD s.toNat 0 = 0 then row.take s.toNat ++ List.replicate L ((row.take s.toNat).getLastD 0) else row.take s.toNat
noncomputable def plainOf (row : List Int) (L : Nat) : List Int := ((bodyOfRow row L).take L).map (· - 1)
section
variable {c : Cx} {k : Nat} (h : C39 c)
include h
theorem fn_plain : FnAt c 101 (fdOf (K39 c.w.params) 101) (bodyOf (K39 c.w.params) 101) ["row", "length"] :=
  fnAt_of h 101 ["row", "length"] (by kernel_rfl) (by kernel_rfl) (by kernel_rfl) (by kernel_rfl) (by kernel_rfl) (by kernel_rfl) (by kernel_rfl) (by kernel_rfl) (by kernel_rfl) (fun vals hv => by match vals, hv with | [a, b], _ => kernel_rfl) (by kernel_rfl) (by kernel_rfl) (by kernel_rfl) (by kernel_rfl)
theorem fd_plain (row : List Int) (L : Nat) (hr : row.length ≤ 1000) (hL : L ≤ 1000) (h0 : row.head? ≠ some 0) : FD c (k + 4) (.ref 101) [.list (row.map .int), .int L] (.list ((plainOf row L).map .int)) := by
  refine fd_def (fn_plain h) rfl ?_
  have hln : (row.map D.int).length = row.length := List.length_map _
  have hS : (row.map D.int).length ≤ sizeLine := by rw [hln, sizeLine_eq]; omega
  refine exs_cons (ex_assignComp (p := fun d => isStop row (intOf d)) (f := fun d => d) (compOk_of rfl (by kernel_rfl)) (ei_range (ev_call (eg_of h (by kernel_rfl) rfl rfl) keep_type (.cons (fun _ => rfl) (ev_call (eg_of h (by kernel_rfl) rfl rfl) keep_builtin (.cons (fun _ => rfl) (ev_name rfl rfl rfl).w .nil) (fn_len_list hS)).w .nil) fn_range1) (small_of (by omega) (by omega) (by omega) (by rw [hln]; omega))) ?_ ?_ ?_ (fun _ _ => rfl) rfl (fun env ef => swaps_true ef rfl rfl rfl)) ?_
  · intro d hd
    rw [hln] at hd
    obtain ⟨i, hi, rfl⟩ := rngD_mem hd
    exact ets_one (et_or2 (et_cmp op_eqI (ev_item (ev_name rfl rfl rfl).w (ev_name rfl rfl rfl).w (by omega) (ints_get hi) hS).w ev_int.w rfl) (fun _ => et_cmp op_eqI (ev_item (ev_name rfl rfl rfl).w (ev_name rfl rfl rfl).w (by omega) (ints_get hi) hS).w ev_int.w rfl))
  · intro d hd _
    exact ev_name rfl rfl rfl
  · rw [hln, rngD_len, sizeLine_eq]; omega
  rw [show (List.map (fun d => d) (List.filter (fun d => isStop row (intOf d)) (rngD 0 ↑(List.map D.int row).length))) = (stopsOf row).map D.int by
    rw [hln, rngD_nat, List.map_id']; unfold stopsOf
    rw [show ((List.range row.length).map fun i : Nat => D.int (i : Int)) = (((List.range row.length).map fun i : Nat => (i : Int)).map D.int) by rw [List.map_map]; rfl, List.filter_map]
    rfl]
  have hst : ∀ s ∈ stopsOf row, ∃ n : Nat, n < row.length ∧ s = (n : Int) := fun s hs => by
    have := (List.mem_filter.mp hs).1
    obtain ⟨n, hn, rfl⟩ := List.mem_map.mp this
    exact ⟨n, List.mem_range.mp hn, rfl⟩
  have hst0 : (stopsOf row).length ≤ row.length := by
    unfold stopsOf
    exact Nat.le_trans (List.length_filter_le _ _) (by simp)
  refine exs_cons (ex_assign (ev_name rfl rfl rfl) (.inl rfl) (fun _ _ => rfl)) ?_
  obtain ⟨σ1, hσ⟩ : ∃ σ1 : Sig, σ1 = [(Str.ofString "body", false, .list ((bodyOfRow row L).map .int)), (Str.ofString "row", false, .list (row.map .int)), (Str.ofString "length", false, .int L)] := ⟨_, rfl⟩
  refine exs_cons (σ1 := σ1) (ex_if (b := !(stopsOf row == [])) (et_cmp (op_neLI (m := [])) (ev_name rfl rfl rfl).w (ev_list .nil (by simp)).w rfl) (fun hb => ?_) (fun hb => ?_)) ?_
  · have hne : stopsOf row ≠ [] := by simpa using hb
    cases hse : stopsOf row with
    | nil => exact absurd hse hne
    | cons s0 r0 =>
    obtain ⟨n, hn, rfl⟩ := hst s0 (by rw [hse]; exact List.mem_cons_self)
    rw [hse] at hst0
    have hz : (List.map D.int ((n : Int) :: r0)).length ≤ sizeLine := by rw [List.length_map, sizeLine_eq]; omega
    have hbr : bodyOfRow row L = if row.getD n 0 = 0 then row.take n ++ List.replicate L ((row.take n).getLastD 0) else row.take n := by unfold bodyOfRow; rw [hse]; rfl
    refine exs_cons (ex_assign (d := .list ((row.take n).map .int)) ?_ (.inl rfl) (fun _ _ => rfl)) ?_
    · rw [List.map_take, ← pick_to]
      exact ev_slice (ev_name rfl rfl rfl).w ep_none (ep_some (ev_item (ev_name rfl rfl rfl).w ev_int.w (by omega) rfl hz).w) ep_none (by simp) hS
    refine exs_cons (σ1 := σ1) (ex_if (b := row.getD n 0 == 0) (et_cmp op_eqI (ev_item (ev_name rfl rfl rfl).w (ev_item (ev_name rfl rfl rfl).w ev_int.w (by omega) rfl hz).w (by omega) (ints_get hn) hS).w ev_int.w rfl) (fun hb2 => ?_) (fun hb2 => ?_)) exs_nil
    · have h2 : row.getD n 0 = 0 := by simpa using hb2
      have hn0 : 0 < n := by
        rcases Nat.eq_zero_or_pos n with rfl | hp
        · exfalso
          apply h0
          cases row with
          | nil => simp at hn
          | cons a r => simp at h2; rw [h2]; rfl
        · exact hp
      have htl : (row.take n).length = n := by simp; omega
      have hls : (row.take n)[n - 1]? = some ((row.take n).getLastD 0) := by
        rw [List.getLastD_eq_getLast?, List.getLast?_eq_getElem?, htl, List.getElem?_eq_getElem (by omega)]; rfl
      refine exs_weakOut (look_w ?_) (exs_cons (ex_assign (d := .list ((bodyOfRow row L).map .int)) ?_ (.inl rfl) (fun _ _ => rfl)) exs_nil)
      · rw [hσ]; exact ⟨rfl, rfl, rfl, trivial⟩
      · rw [hbr, if_pos h2, List.map_append, List.map_replicate]
        refine ev_bin (op_add_list ?_) (ev_name rfl rfl rfl).w (ev_bin (op_mul_list (by rw [sizeLine_eq]; omega)) (ev_list (.cons (fun _ => rfl) (ev_itemNeg (n := -1) (ev_name rfl rfl rfl).w (ev_neg ev_int).w (by omega) ?_ ?_ ?_) .nil) (by simp [sizeLine_eq])).w (ev_name rfl rfl rfl).w).w
        · rw [List.length_map, htl, List.length_replicate, sizeLine_eq]; omega
        · rw [List.length_map, htl]; omega
        · rw [List.length_map, htl, show ((-1 : Int) + (n : Int)).toNat = n - 1 by omega, List.getElem?_map, hls]; rfl
        · rw [List.length_map, htl, sizeLine_eq]; omega
    · have h2 : row.getD n 0 ≠ 0 := by simpa using hb2
      refine exs_weakOut (look_w ?_) exs_nil
      rw [hσ, hbr, if_neg h2]; exact ⟨rfl, rfl, rfl, trivial⟩
  · have hse : stopsOf row = [] := by simpa using hb
    refine exs_weakOut (look_w ?_) exs_nil
    rw [hσ]; unfold bodyOfRow; rw [hse]
    exact ⟨rfl, rfl, rfl, trivial⟩
  subst hσ
  have hbl : (bodyOfRow row L).length ≤ 2000 := by
    unfold bodyOfRow
    split
    · omega
    · split
      · simp; omega
      · simp; omega
  have hbS : ((bodyOfRow row L).map D.int).length ≤ sizeLine := by rw [List.length_map, sizeLine_eq]; omega
  refine exs_ret (ex_return ?_)
  rw [show (plainOf row L).map D.int = (((bodyOfRow row L).take L).map fun i => D.int (i - 1)) by unfold plainOf; rw [List.map_map]; rfl]
  refine ev_mapx (a := D.int) (fun d => .int (intOf d - 1)) (fun _ _ => rfl) (compOk_of rfl (by kernel_rfl)) (ei_list ?_) (fun i _ => ?_) ?_ (fun _ _ => rfl)
  · rw [List.map_take, ← pick_to]
    exact ev_slice (ev_name rfl rfl rfl).w ep_none (ep_some (ev_name rfl rfl rfl).w) ep_none (by simp) hbS
  · exact ev_bin op_sub_int (ev_name rfl rfl rfl).w ev_int.w
  · rw [sizeLine_eq, List.length_take]; omega
end
end Mine
end
section
open PySem PySem.W PyProof.Rows
namespace Mine
theorem genAt_of {c : Cx} (h : C39 c) (f : Addr) (gn : Str) (hf : (fdAt (K39 c.w.params) f).isSome = true) (hb : (fdOf (K39 c.w.params) f).body = .stmts (bodyOf (K39 c.w.params) f)) (hc : (fdOf (K39 c.w.params) f).closure = [])
    (hcd : codeIn (K39 c.w.params) (fdOf (K39 c.w.params) f).code (fdOf (K39 c.w.params) f).qualname = true) (hg : (fdOf (K39 c.w.params) f).globals = mainGlobals) (hbi : (fdOf (K39 c.w.params) f).builtins = builtinsNs)
    (hk : (fdOf (K39 c.w.params) f).scope.kind = .function) (hco : (fdOf (K39 c.w.params) f).scope.isCoroutine = false) (hgen : (fdOf (K39 c.w.params) f).scope.isGenerator = true)
    (hbind : ∀ v : Value, bindArgs (fdOf (K39 c.w.params) f) ⟨[v], []⟩ = pure [(gn, v)])
    (hks : (nsOf (K39 c.w.params) f).lookup gn = some .local)
    (hnf : ((nsOf (K39 c.w.params) f).all fun e => e.2 != .free) = true) (hsn : decide (((nsOf (K39 c.w.params) f).map (·.1)).Nodup) = true) : GenAtF c f (fdOf (K39 c.w.params) f) (bodyOf (K39 c.w.params) f) gn where
  obj := by
    unfold fdAt at hf
    split at hf
    · rename_i oc od fd osl e
      refine ⟨_, c.kin f _ (by rw [h.K]; exact e), ?_⟩
      show Data.func fd = .func (fdOf (K39 c.w.params) f)
      unfold fdOf fdAt
      rw [e]; rfl
    · cases hf
  body := hb
  clo := hc
  code := codeRec_of (h.K ▸ c.kin) hcd
  glob := hg
  bi := hbi
  kind := hk
  co := hco
  gen := hgen
  bind := hbind
  kindg := hks
  nofree := fun n e => by
    have := List.all_eq_true.mp hnf _ (mem_of_lookup e)
    simp at this
  snodup := of_decide_eq_true hsn
section
variable {c : Cx} {k : Nat} {ns : Names} {σ : Sig}
theorem ev_glob {e : Expr} {v : Value} {d : D} (hg : EG c ns e v) (hr : ∀ X h, Rep X h v d) : EV c k ns σ e d := by
  intro env ef A a he X0 X F s Q E st q
  exact hg env ef A s Q E st.base.top (q v s (.refl s) (hr X s.heap))
theorem et_true {kd : Nat} {pos : Pos} : ET c k ns σ (.Constant (.bool true) kd pos) true := by
  intro env ef A a he X0 X F s Q E st q
  refine wpAny_isTrue_value ?_
  refine ev_bool env ef A a he X0 X F s _ E st fun v s' n r => ?_
  cases r
  exact wpAny_truthy_bool (q s' n)
end
section
variable {c : Cx} {k : Nat} (h : C39 c)
include h
theorem gen_at : GenAtF c 91 (fdOf (K39 c.w.params) 91) (bodyOf (K39 c.w.params) 91) "grouping" :=
  genAt_of h 91 "grouping" (by kernel_rfl) (by kernel_rfl) (by kernel_rfl) (by kernel_rfl) (by kernel_rfl) (by kernel_rfl) (by kernel_rfl) (by kernel_rfl) (by kernel_rfl) (fun v => by kernel_rfl) (by kernel_rfl) (by kernel_rfl) (by kernel_rfl)
theorem ev_charmax {ns : Names} {σ : Sig} {p : Pos} (hv : ns.lookup (Str.ofString "CHAR_MAX") = some .globalImplicit) : EV c k ns σ (.Name "CHAR_MAX" p) (.int 127) := by
  have e : (match gK (K39 c.w.params) "CHAR_MAX" with | some (.int i _) => i == 127 | _ => false) = true := by kernel_rfl
  have e2 : ∃ t, gK (K39 c.w.params) "CHAR_MAX" = some (.int 127 t) := by
    generalize gK (K39 c.w.params) "CHAR_MAX" = o at e
    split at e
    · rename_i i t
      exact ⟨t, by rw [eq_of_beq e]⟩
    · cases e
  obtain ⟨t, e2⟩ := e2
  exact ev_glob (eg_of h e2 hv rfl) (fun X h => .int _ _)
theorem gf_91 (row : List Int) (h0 : row.head? ≠ some 0) : GF c (k + 2) (.ref 91) row := by
  refine gf_of (x := "interval") (lst := "last_interval") (gen_at h) ?_ ?_ ?_ ?_ ?_ ?_ h0
  · refine ⟨rfl, by decide, fun i last => ?_, fun i last => ?_, fun i last => ?_, fun σ => et_true, fun i l => ev_name rfl rfl rfl, fun i last => ev_name rfl rfl rfl, fun i last => ex_assign (ev_name rfl rfl rfl) (.inl rfl) (fun _ _ => rfl)⟩
    · rw [show decide (i = 127) = (i == 127) from rfl]
      exact et_cmp op_eqI (ev_name rfl rfl rfl).w (ev_charmax h rfl).w rfl
    · rw [show decide (i = 0) = (i == 0) from rfl]
      exact et_cmp op_eqI (ev_name rfl rfl rfl).w ev_int.w rfl
    · rw [show last.isNone = isNone (optD last) by cases last <;> rfl]
      exact et_cmp op_is_none (ev_name rfl rfl rfl).w ev_none.w rfl
  · intro env ef; unfold interactive; rw [ef.kind]; rfl
  · rfl
  · rfl
  · decide
  · exact fun _ _ => rfl
noncomputable def toldOf (row : List Int) (L : Nat) : List Int := (gi none row L).map (· - 1)
theorem fn_told : FnAt c 108 (fdOf (K39 c.w.params) 108) (bodyOf (K39 c.w.params) 108) ["row", "length"] :=
  fnAt_of h 108 ["row", "length"] (by kernel_rfl) (by kernel_rfl) (by kernel_rfl) (by kernel_rfl) (by kernel_rfl) (by kernel_rfl) (by kernel_rfl) (by kernel_rfl) (by kernel_rfl) (fun vals hv => by match vals, hv with | [a, b], _ => kernel_rfl) (by kernel_rfl) (by kernel_rfl) (by kernel_rfl) (by kernel_rfl)
theorem fd_told (row : List Int) (n : Nat) (hn : n ≤ 1000) (h0 : row.head? ≠ some 0) : FD c (k + 3) (.ref 108) [.list (row.map .int), .int ((n + 1 : Nat) : Int)] (.list ((toldOf row (n + 1)).map .int)) := by
  refine fd_def (fn_told h) rfl ?_
  refine exs_cons (ex_ownList .nil (by simp) (.inl rfl)) ?_
  refine exs_cons (ex_told (n := n) (ln := "length") (gi none row (n + 1)) rfl rfl (by decide) (by decide) (by decide) (look_w ⟨rfl, rfl, trivial⟩) (eg_of h (by kernel_rfl) rfl rfl) (keep_fn (by rw [h.K]; kernel_rfl)) (.cons (fun _ => rfl) (ev_name rfl rfl rfl) .nil) (gf_91 h row h0) rfl rfl (fun _ => rfl) rfl (fun _ => rfl) ?_ ?_ ?_ (fun _ _ => rfl)) ?_
  · exact fun j i => ev_bin op_sub_int (ev_name rfl rfl rfl).w ev_int.w
  · intro j i hj
    have hS := gi_len (n + 1) none row
    have hl : (toldD (gi none row (n + 1)) j ++ [D.int (i - 1)]).length = j + 1 := by
      unfold toldD; rw [List.length_append, List.length_map, List.length_take]; simp; omega
    have hc : decide (j = n) = (((j + 1 : Nat) : Int) == ((n + 1 : Nat) : Int)) := by
      rw [Bool.eq_iff_iff]; simp; omega
    rw [hc]
    refine et_cmp op_eqI (ev_call (eg_of h (by kernel_rfl) rfl rfl) keep_builtin (.cons (fun _ => rfl) (ew_own rfl rfl rfl) .nil) (hl ▸ fn_len_list ?_)).w (ev_name rfl rfl rfl).w rfl
    rw [hl, sizeLine_eq]; omega
  · rw [sizeLine_eq]; omega
  · refine exs_ret ?_
    rw [show (D.list ((toldOf row (n + 1)).map .int)) = .list (toldD (gi none row (n + 1)) (gi none row (n + 1)).length) by
      unfold toldOf toldD; rw [List.take_length, List.map_map]; rfl]
    exact ex_returnOwn rfl rfl rfl
end
end Mine
end
section
open PySem PySem.W PyProof.Rows
namespace Mine
noncomputable def cellOf (s : List Int) (k : Nat) : Int := [0, 0, 1, 5, 58].getD k 0 + (pick s (some (k : Int)) none (some 5)).sum
noncomputable def cellsL (s : List Int) : List Int := (List.range 5).map (cellOf s)
noncomputable def entriesL : List Int := [1, 2, 3, 1, 2, 0, 127]
noncomputable def rowOf (cs : List Int) : List Int := (2 + (cs.getD 0 0).fmod 2) :: ((cs.drop 1).take 3).map fun x => entriesL.getD (x.fmod 7).toNat 0
noncomputable def spotOf (cs : List Int) : Int := (cs.getD 4 0).fmod 4
noncomputable def freshOf (cs : List Int) : Int := if spotOf cs = 0 then 2 + ((cs.getD 4 0).fdiv 4).fmod 2 else entriesL.getD (((cs.getD 4 0).fdiv 4).fmod 7).toNat 0
noncomputable def otherOf (cs : List Int) : List Int := (rowOf cs).take (spotOf cs).toNat ++ [freshOf cs] ++ (rowOf cs).drop ((spotOf cs).toNat + 1)
noncomputable def sizeOf' (cs : List Int) : Nat := (2 + ((cs.getD 4 0).fdiv 28).fmod 3).toNat
noncomputable def kindOf' (cs : List Int) : Int := ((cs.getD 0 0).fdiv 2).fmod 4
theorem fmod_bd (a : Int) {b : Int} (hb : 0 < b) : 0 ≤ a.fmod b ∧ a.fmod b < b := ⟨Int.fmod_nonneg_of_pos a hb, Int.fmod_lt_of_pos a hb⟩
theorem pick_map' {α β : Type} (f : α → β) (l : List α) (a b d : Option Int) : pick (l.map f) a b d = (pick l a b d).map f := by
  unfold pick
  rw [List.length_map, List.map_filterMap]
  congr 1
  funext i
  simp
section
variable {c : Cx} {k : Nat} (h : C39 c)
include h
theorem fn_rows : FnAt c 96 (fdOf (K39 c.w.params) 96) (bodyOf (K39 c.w.params) 96) ["script"] :=
  fnAt_of h 96 ["script"] (by kernel_rfl) (by kernel_rfl) (by kernel_rfl) (by kernel_rfl) (by kernel_rfl) (by kernel_rfl) (by kernel_rfl) (by kernel_rfl) (by kernel_rfl) (fun vals hv => by match vals, hv with | [a], _ => kernel_rfl) (by kernel_rfl) (by kernel_rfl) (by kernel_rfl) (by kernel_rfl)
set_option maxHeartbeats 4000000 in
theorem fd_rows (s : List Int) (hs : s.length ≤ 1000) : FD c (k + 4) (.ref 96) [.list (s.map .int)] (.tup [.list (((rowOf (cellsL s)).take (sizeOf' (cellsL s))).map .int), .list (((otherOf (cellsL s)).take (sizeOf' (cellsL s))).map .int), .int (kindOf' (cellsL s))]) := by
  refine fd_def (fn_rows h) rfl ?_
  have hS : (s.map D.int).length ≤ sizeLine := by rw [List.length_map, sizeLine_eq]; omega
  refine exs_cons (ex_assignMapx (xs := List.range 5) (a := fun i : Nat => D.int (i : Int)) (b := fun i : Nat => .int (cellOf s i)) (fun d => .int (cellOf s (intOf d).toNat)) (fun _ _ => rfl) (compOk_of rfl (by kernel_rfl)) (ei_rangeN (n := 5) (ev_call (eg_of h (by kernel_rfl) rfl rfl) keep_type (.cons (fun _ => rfl) ev_int.w .nil) fn_range1) (by omega)) (fun i hi => ?_) (by simp [sizeLine_eq]) (fun _ _ => rfl) rfl (fun env ef => swaps_true ef rfl rfl rfl)) ?_
  · have hi5 : i < 5 := List.mem_range.mp hi
    refine ev_bin op_add_int (ev_item (ds := [0, 0, 1, 5, 58].map D.int) (ev_list (.cons (fun _ => rfl) ev_int (.cons (fun _ => rfl) ev_int (.cons (fun _ => rfl) ev_int (.cons (fun _ => rfl) ev_int (.cons (fun _ => rfl) ev_int .nil))))) (by simp [sizeLine_eq])).w (ev_name rfl rfl rfl).w (by omega) (ints_get hi5) (by simp [sizeLine_eq])).w
      (ev_call (eg_of h (by kernel_rfl) rfl rfl) keep_builtin (.cons (fun _ => rfl) (pick_map' D.int s (some (i : Int)) none (some 5) ▸ (ev_slice (ev_name rfl rfl rfl).w (ep_some (ev_name rfl rfl rfl).w) ep_none (ep_some ev_int.w) (by simp) hS)).w .nil) fn_sum).w
  rw [show (List.range 5).map (fun i : Nat => D.int (cellOf s i)) = (cellsL s).map .int by unfold cellsL; rw [List.map_map]; rfl]
  have hcl : (cellsL s).length = 5 := by unfold cellsL; simp
  generalize cellsL s = cs at hcl
  have hcS : (cs.map D.int).length ≤ sizeLine := by rw [List.length_map, sizeLine_eq]; omega
  have heS : (entriesL.map D.int).length ≤ sizeLine := by rw [sizeLine_eq]; decide
  refine exs_cons (ex_assign (d := .list (entriesL.map .int)) (ev_list (.cons (fun _ => rfl) ev_int (.cons (fun _ => rfl) ev_int (.cons (fun _ => rfl) ev_int (.cons (fun _ => rfl) ev_int (.cons (fun _ => rfl) ev_int (.cons (fun _ => rfl) ev_int (.cons (fun _ => rfl) ev_int .nil))))))) heS) (.inr rfl) (fun _ _ => rfl)) ?_
  have hp14 : pick cs (some 1) (some 4) none = (cs.drop 1).take 3 := by rw [pick_plain, hcl]; rfl
  have h14 : ((cs.drop 1).take 3).length = 3 := by simp [hcl]
  have ent_at : ∀ x : Int, (entriesL.map D.int)[(x.fmod 7).toNat]? = some (.int (entriesL.getD (x.fmod 7).toNat 0)) := fun x => by
    have hb := fmod_bd x (b := 7) (by omega)
    have := ints_get (l := entriesL) (i := (x.fmod 7).toNat) (by show _ < 7; omega)
    rw [Int.toNat_of_nonneg hb.1] at this
    exact this
  refine exs_cons (ex_assign (d := .list ((rowOf cs).map .int)) ?_ (.inl rfl) (fun _ _ => rfl)) ?_
  · rw [show (rowOf cs).map D.int = [D.int (2 + (cs.getD 0 0).fmod 2)] ++ ((cs.drop 1).take 3).map fun x => D.int (entriesL.getD (x.fmod 7).toNat 0) by
      unfold rowOf; rw [List.map_cons, List.map_map]; rfl]
    refine ev_bin (op_add_list ?_) (ev_list (.cons (fun _ => rfl) (ev_bin op_add_int ev_int.w (ev_bin (op_mod_int (by omega)) (ev_item (ev_name rfl rfl rfl).w ev_int.w (by omega) (ints_get (i := 0) (by omega)) hcS).w ev_int.w).w) .nil) (by simp [sizeLine_eq])).w
      (ev_mapx (a := D.int) (fun d => .int (entriesL.getD ((intOf d).fmod 7).toNat 0)) (fun _ _ => rfl) (compOk_of rfl (by kernel_rfl)) (ei_list ?_) (fun x _ => ?_) ?_ (fun _ _ => rfl)).w
    · rw [List.length_map, h14, sizeLine_eq]; simp
    · rw [← hp14, ← pick_map']
      exact ev_slice (ev_name rfl rfl rfl).w (ep_some ev_int.w) (ep_some ev_int.w) ep_none (by simp) hcS
    · exact ev_item (ev_name rfl rfl rfl).w (ev_bin (op_mod_int (by omega)) (ev_name rfl rfl rfl).w ev_int.w).w (fmod_bd x (by omega)).1 (ent_at x) heS
    · rw [h14, sizeLine_eq]; omega
  have hrl : (rowOf cs).length = 4 := by unfold rowOf; rw [List.length_cons, List.length_map, h14]
  have hrS : ((rowOf cs).map D.int).length ≤ sizeLine := by rw [List.length_map, hrl, sizeLine_eq]; omega
  have c4 : (cs.map D.int)[(4 : Int).toNat]? = some (.int (cs.getD 4 0)) := ints_get (i := 4) (by omega)
  have c0 : (cs.map D.int)[(0 : Int).toNat]? = some (.int (cs.getD 0 0)) := ints_get (i := 0) (by omega)
  refine exs_cons (ex_assign (d := .int (spotOf cs)) (ev_bin (op_mod_int (by omega)) (ev_item (ev_name rfl rfl rfl).w ev_int.w (by omega) c4 hcS).w ev_int.w) (.inl rfl) (fun _ _ => rfl)) ?_
  have d4 : ∀ {σ : Sig} {p1 p2 p3 p4 p5 : Pos} {kd kd' : Nat} , σ.lookup (Str.ofString "cells") = some (false, .list (cs.map .int)) → EV c (k + 3) (fdOf (K39 c.w.params) 96).scope.names σ (.BinOp (.Subscript (.Name (Str.ofString "cells") p1) (.Constant (.int 4) kd p2) p3) .FloorDiv (.Constant (.int 4) kd' p4) p5) (.int ((cs.getD 4 0).fdiv 4)) := fun hl =>
    ev_bin (op_div_int (by omega) (pylong_small (by decide))) (ev_item (ev_name hl rfl rfl).w ev_int.w (by omega) c4 hcS).w ev_int.w
  refine exs_cons (ex_assign (ev_item (ev_name rfl rfl rfl).w (ev_bin (op_mod_int (by omega)) (d4 rfl).w ev_int.w).w (fmod_bd _ (by omega)).1 (ent_at _) heS) (.inl rfl) (fun _ _ => rfl)) ?_
  obtain ⟨σ1, hσ⟩ : ∃ σ1 : Sig, σ1 = [(Str.ofString "fresh", false, .int (freshOf cs)), (Str.ofString "spot", false, .int (spotOf cs)), (Str.ofString "row", false, .list ((rowOf cs).map .int)), (Str.ofString "cells", false, .list (cs.map .int))] := ⟨_, rfl⟩
  refine exs_cons (σ1 := σ1) (ex_if (b := spotOf cs == 0) (et_cmp op_eqI (ev_name rfl rfl rfl).w ev_int.w rfl) (fun hb => ?_) (fun hb => ?_)) ?_
  · have hb' : spotOf cs = 0 := by simpa using hb
    refine exs_weakOut (look_w ?_) (exs_cons (ex_assign (ev_bin op_add_int ev_int.w (ev_bin (op_mod_int (by omega)) (d4 rfl).w ev_int.w).w) (.inl rfl) (fun _ _ => rfl)) exs_nil)
    rw [hσ]; unfold freshOf; rw [if_pos hb']
    exact ⟨rfl, rfl, rfl, rfl, trivial⟩
  · have hb' : spotOf cs ≠ 0 := by simpa using hb
    refine exs_weakOut (look_w ?_) exs_nil
    rw [hσ]; unfold freshOf; rw [if_neg hb']
    exact ⟨rfl, rfl, rfl, rfl, trivial⟩
  subst hσ
  have hspb := fmod_bd (cs.getD 4 0) (b := 4) (by omega)
  obtain ⟨n, hn⟩ : ∃ n : Nat, spotOf cs = n := ⟨(spotOf cs).toNat, (Int.toNat_of_nonneg hspb.1).symm⟩
  have hszb := fmod_bd ((cs.getD 4 0).fdiv 28) (b := 3) (by omega)
  obtain ⟨m, hm⟩ : ∃ m : Nat, 2 + ((cs.getD 4 0).fdiv 28).fmod 3 = m := ⟨(2 + ((cs.getD 4 0).fdiv 28).fmod 3).toNat, (Int.toNat_of_nonneg (by omega)).symm⟩
  have hm2 : sizeOf' cs = m := by unfold sizeOf'; rw [hm]; rfl
  have hol : (otherOf cs).length ≤ 5 := by unfold otherOf; simp [hrl]; omega
  have hoS : ((otherOf cs).map D.int).length ≤ sizeLine := by rw [List.length_map, sizeLine_eq]; omega
  refine exs_cons (ex_assign (d := .list ((otherOf cs).map .int)) ?_ (.inl rfl) (fun _ _ => rfl)) ?_
  · rw [show (otherOf cs).map D.int = (((rowOf cs).take n).map D.int ++ [D.int (freshOf cs)]) ++ ((rowOf cs).drop (n + 1)).map D.int by
      unfold otherOf; rw [hn, List.map_append, List.map_append]; rfl]
    refine ev_bin (op_add_list ?_) (ev_bin (op_add_list ?_) ?_ (ev_list (.cons (fun _ => rfl) (ev_name rfl rfl rfl) .nil) (by simp [sizeLine_eq])).w).w ?_
    · simp [hrl, sizeLine_eq]; omega
    · simp [hrl, sizeLine_eq]; omega
    · rw [← pick_to, ← pick_map', ← hn]
      exact (ev_slice (ev_name rfl rfl rfl).w ep_none (ep_some (ev_name rfl rfl rfl).w) ep_none (by simp) hrS).w
    · rw [← pick_from, ← pick_map', show ((n + 1 : Nat) : Int) = spotOf cs + 1 by rw [hn]; rfl]
      exact (ev_slice (ev_name rfl rfl rfl).w (ep_some (ev_bin op_add_int (ev_name rfl rfl rfl).w ev_int.w).w) ep_none ep_none (by simp) hrS).w
  refine exs_cons (ex_assign (d := .int (m : Int)) (hm ▸ ev_bin op_add_int ev_int.w (ev_bin (op_mod_int (by omega)) (ev_bin (op_div_int (by omega) (pylong_small (by decide))) (ev_item (ev_name rfl rfl rfl).w ev_int.w (by omega) c4 hcS).w ev_int.w).w ev_int.w).w) (.inl rfl) (fun _ _ => rfl)) ?_
  refine exs_ret (ex_return ?_)
  rw [hm2, ← pick_to, ← pick_to, ← pick_map', ← pick_map']
  refine ev_tuple (.cons (fun _ => rfl) ?_ (.cons (fun _ => rfl) ?_ (.cons (fun _ => rfl) ?_ .nil))) (by simp [sizeLine_eq])
  · exact ev_slice (ev_name rfl rfl rfl).w ep_none (ep_some (ev_name rfl rfl rfl).w) ep_none (by simp) hrS
  · exact ev_slice (ev_name rfl rfl rfl).w ep_none (ep_some (ev_name rfl rfl rfl).w) ep_none (by simp) hoS
  · exact ev_bin (op_mod_int (by omega)) (ev_bin (op_div_int (by omega) (pylong_small (by decide))) (ev_item (ev_name rfl rfl rfl).w ev_int.w (by omega) c0 hcS).w ev_int.w).w ev_int.w
end
end Mine
end
section
open PySem PySem.W PyProof.Rows
namespace Mine
section
variable {c : Cx} {k : Nat} (h : C39 c)
include h
theorem fn_init : FnAt c 35 (fdOf (K39 c.w.params) 35) (bodyOf (K39 c.w.params) 35) ["self"] :=
  fnAt_of h 35 ["self"] (by kernel_rfl) (by kernel_rfl) (by kernel_rfl) (by kernel_rfl) (by kernel_rfl) (by kernel_rfl) (by kernel_rfl) (by kernel_rfl) (by kernel_rfl) (fun vals hv => by match vals, hv with | [a], _ => kernel_rfl) (by kernel_rfl) (by kernel_rfl) (by kernel_rfl) (by kernel_rfl)
theorem init_at : InitAt c (fdOf (K39 c.w.params) 35) "self" (bodyOf (K39 c.w.params) 35) where
  fn := h.fI ▸ fn_init h
  ok := rfl
  bd := ⟨_, _, _, _, _, _, _, _, _, _, _, _, _, _, _, _, _, _, rfl, fun _ => rfl, fun _ => rfl, fun _ => rfl, fun _ => rfl⟩
theorem eg_Entry {ns : Names} {p : Pos} (hv : ns.lookup (Str.ofString "Entry") = some .globalImplicit) : EG c ns (.Name (Str.ofString "Entry") p) (.ref cE) := eg_of h (by kernel_rfl) hv rfl
theorem fn_merge : FnAt c 70 (fdOf (K39 c.w.params) 70) (bodyOf (K39 c.w.params) 70) ["e1", "e2"] :=
  fnAt_of h 70 ["e1", "e2"] (by kernel_rfl) (by kernel_rfl) (by kernel_rfl) (by kernel_rfl) (by kernel_rfl) (by kernel_rfl) (by kernel_rfl) (by kernel_rfl) (by kernel_rfl) (fun vals hv => by match vals, hv with | [a, b], _ => kernel_rfl) (by kernel_rfl) (by kernel_rfl) (by kernel_rfl) (by kernel_rfl)
theorem fd_merge (u1 u2 : List (List Nat)) (r1 r2 : List D) (h1 : u1.length ≤ 1000) (h2 : u2.length ≤ 1000) (h3 : r1.length ≤ 1000) (h4 : r2.length ≤ 1000) :
    FD c (k + 3) (.ref 70) [.ent (u1.map .str) r1, .ent (u2.map .str) r2] (.ent ((u1.filter fun y => u2.contains y).map .str) (r1 ++ r2)) := by
  refine fd_def (fn_merge h) rfl ?_
  refine exs_merge (fd := default) (self := "self") (ib := []) (fun x d e => ?_) rfl (ex_newEntry (init_at h) (eg_Entry h rfl) (.inl rfl) (fun _ _ => rfl)) rfl rfl (ev_commons (eg_of h (by kernel_rfl) rfl rfl) (eg_of h (by kernel_rfl) rfl rfl) (eg_of h (by kernel_rfl) rfl rfl) (ev_ua (ev_name rfl rfl rfl).w) (ev_ua (ev_name rfl rfl rfl).w) ?_ ?_ (fun _ => rfl) (fun _ => rfl) (fun _ => rfl) (fun _ => rfl))
    (ev_bin (op_add_list ?_) (ev_rl (ev_name rfl rfl rfl).w).w (ev_rl (ev_name rfl rfl rfl).w).w) (ev_if (x := true) (et_cmp op_is_none (ev_dl (ev_name rfl rfl rfl).w).w ev_none.w rfl) (fun _ => ev_dl (ev_name rfl rfl rfl).w) (fun e => nomatch e))
    (ev_if (x := true) (et_cmp op_is_none (ev_rr (ev_name rfl rfl rfl).w).w ev_none.w rfl) (fun _ => ev_rr (ev_name rfl rfl rfl).w) (fun e => nomatch e)) (fun _ => rfl) (fun _ => rfl) (fun _ => rfl) (fun _ => rfl)
  · have := mem_of_lookup e
    unfold sig0 at this
    simp at this
  · rw [show scanBound = 4096 from rfl]; omega
  · rw [sizeLine_eq]; omega
  · rw [sizeLine_eq]; omega
end
end Mine
end
section
open PySem PySem.W PyProof.Rows
namespace Mine
noncomputable def wordOf (sg : List Nat) (fs : List Int) : List Nat := fs.map fun f => sg.getD f.toNat 0
noncomputable def recTurn (dr : List Nat) (fs : List Int) (i : Nat) : List (List Nat) := (List.range (3 - (fs.getD i 0 + 1)).toNat).map fun j : Nat => wordOf dr (fs.take i) ++ [dr.getD (fs.getD i 0 + 1 + (j : Int)).toNat 0]
noncomputable def recUpTo (dr : List Nat) (fs : List Int) (n : Nat) : List (List Nat) := [42] :: ((List.range n).map (recTurn dr fs)).flatten
noncomputable def frontsOf (sg : List Nat) (fs : List Int) (st : Int) : List (List Nat) := pick ((List.range fs.length).map fun k => wordOf sg (fs.take (k + 1))) none none (some st)
noncomputable def bookOf (sg dr : List Nat) (fs : List Int) (st : Int) : D := .ent ((frontsOf sg fs st).map .str) [.ent ((recUpTo dr fs fs.length).map .str) []]
noncomputable def Figs (fs : List Int) : Prop := ∀ f ∈ fs, 0 ≤ f ∧ f < 3
theorem sgn_get {sg : List Nat} (hs : sg.length = 3) {f : Int} (hf : 0 ≤ f ∧ f < 3) : sg[f.toNat]? = some (sg.getD f.toNat 0) := by
  have h3 : f.toNat < sg.length := by omega
  rw [List.getD_eq_getElem?_getD, List.getElem?_eq_getElem h3]; rfl
theorem flat1 (l : List Nat) : (l.map fun x => [x]).flatten = l := by
  induction l with
  | nil => rfl
  | cons a r ih => rw [List.map_cons, List.flatten_cons, ih]; rfl
theorem recTurn_len {dr : List Nat} {fs : List Int} {i : Nat} (hf : Figs fs) : (recTurn dr fs i).length ≤ 3 := by
  unfold recTurn
  rw [List.length_map, List.length_range]
  rcases Nat.lt_or_ge i fs.length with hi | hi
  · have := hf fs[i] (List.getElem_mem hi)
    have e : fs.getD i 0 = fs[i] := by rw [List.getD_eq_getElem?_getD, List.getElem?_eq_getElem hi]; rfl
    rw [e]; omega
  · have e : fs.getD i 0 = 0 := by rw [List.getD_eq_getElem?_getD, List.getElem?_eq_none hi]; rfl
    rw [e]; omega
theorem recUpTo_succ {dr : List Nat} {fs : List Int} {i : Nat} : recUpTo dr fs (i + 1) = recUpTo dr fs i ++ recTurn dr fs i := by
  unfold recUpTo
  rw [List.range_succ, List.map_append, List.flatten_append]
  simp
theorem recUpTo_len {dr : List Nat} {fs : List Int} (hf : Figs fs) : ∀ i, (recUpTo dr fs i).length ≤ 1 + 3 * i
  | 0 => by simp [recUpTo]
  | i + 1 => by
    rw [recUpTo_succ, List.length_append]
    have := recUpTo_len (dr := dr) hf i
    have := recTurn_len (dr := dr) (i := i) hf
    omega
theorem wordOf_len (sg : List Nat) (fs : List Int) : (wordOf sg fs).length = fs.length := List.length_map _
theorem Figs.take {fs : List Int} (hf : Figs fs) (n : Nat) : Figs (fs.take n) := fun f hm => hf f (List.mem_of_mem_take hm)
section
variable {c : Cx} {k : Nat} {ns : Names} {σ : Sig}
theorem ev_word {elt iter : Expr} {x : Str} {px : Pos} {scope : Scope} {pos cp ap jp : Pos} {kd : Nat} {fs : List Int} {sg : List Nat} (co : CompOk ns σ scope x) (hi : EV c k ns σ iter (.list (fs.map .int)))
    (helt : ∀ f ∈ fs, EV c k scope.names ((x, false, .int f) :: σ) elt (.str [sg.getD f.toNat 0])) (hlen : fs.length ≤ sizeLine) (hp : (ap.endLine == jp.line) = true)
    (hs : ∀ env x, foldedSetIterable iter env x = pure x) :
    EV c k ns σ (.Call (.Attribute (.Constant (.str (Str.ofString "")) kd cp) (Str.ofString "join") ap) [.ListComp elt [⟨.Name x px, iter, [], 0⟩] scope pos] [] jp) (.str (wordOf sg fs)) := by
  have e : (fs.map fun f => [sg.getD f.toNat 0]).flatten = wordOf sg fs := by
    unfold wordOf
    rw [← flat1 (fs.map fun f => sg.getD f.toNat 0), List.map_map]; rfl
  rw [← e]
  refine ev_join (by rfl) (fun _ => rfl) hp (EV.w ?_) ?_
  · rw [List.map_map]
    exact ev_mapx (a := D.int) (fun d => .str [sg.getD (intOf d).toNat 0]) (fun _ _ => rfl) co (ei_list hi) helt hlen hs
  · rw [List.map_map, show (List.length ∘ fun f : Int => [sg.getD f.toNat 0]) = fun _ => 1 from rfl]
    have e1 : ∀ l : List Int, (l.map fun _ => 1).sum = l.length := fun l => by
      induction l with
      | nil => rfl
      | cons a r ih => rw [List.map_cons, List.sum_cons, ih, List.length_cons]; omega
    rw [e1]; exact hlen
end
section
variable {c : Cx} {k : Nat} (h : C39 c)
include h
theorem fn_book : FnAt c 120 (fdOf (K39 c.w.params) 120) (bodyOf (K39 c.w.params) 120) ["figures", "signs", "dress", "step"] :=
  fnAt_of h 120 ["figures", "signs", "dress", "step"] (by kernel_rfl) (by kernel_rfl) (by kernel_rfl) (by kernel_rfl) (by kernel_rfl) (by kernel_rfl) (by kernel_rfl) (by kernel_rfl) (by kernel_rfl) (fun vals hv => by match vals, hv with | [a, b, d, e], _ => kernel_rfl) (by kernel_rfl) (by kernel_rfl) (by kernel_rfl) (by kernel_rfl)
theorem fd_book (fs : List Int) (sg dr : List Nat) (st : Int) (hf : Figs fs) (hl : fs.length ≤ 100) (hsg : sg.length = 3) (hdr : dr.length = 3) (hst : st ≠ 0) (hfl : (frontsOf sg fs st).length ≤ 1000) :
    FD c (k + 3) (.ref 120) [.list (fs.map .int), .str sg, .str dr, .int st] (bookOf sg dr fs st) := by
  refine fd_def (fn_book h) rfl ?_
  have hfS : (fs.map D.int).length ≤ sizeLine := by rw [List.length_map, sizeLine_eq]; omega
  refine exs_cons (ex_newEntry (init_at h) (eg_Entry h rfl) (.inl rfl) (fun _ _ => rfl)) ?_
  refine exs_cons (ex_uaAppend rfl rfl rfl (fun _ => rfl) rfl (fun _ => rfl) (ev_str (cs := [42]) rfl) (by simp [sizeLine_eq])) ?_
  let τ : Nat → Sig := fun i => [(Str.ofString "record", true, .ent ((recUpTo dr fs i).map .str) []), (Str.ofString "figures", false, .list (fs.map .int)), (Str.ofString "signs", false, .str sg), (Str.ofString "dress", false, .str dr), (Str.ofString "step", false, .int st)]
  refine exs_cons (ex_for τ fs.length (out := .next (τ fs.length)) (ei_rangeN (n := fs.length) (ev_call (eg_of h (by kernel_rfl) rfl rfl) keep_type (.cons (fun _ => rfl) (List.length_map (as := fs) D.int ▸ ev_call (eg_of h (by kernel_rfl) rfl rfl) keep_builtin (.cons (fun _ => rfl) (ev_name rfl rfl rfl).w .nil) (fn_len_list hfS)).w .nil) fn_range1) (by omega)) (.inl rfl) (look_w ⟨rfl, rfl, rfl, rfl, rfl, trivial⟩) (by simp) (fun i d hi hd => ?_) (.inl ⟨by simp, rfl⟩) (fun _ _ => rfl)) ?_
  · rw [List.getElem?_map, List.getElem?_range hi] at hd
    cases hd
    have hfi : (0 : Int) ≤ fs.getD i 0 ∧ fs.getD i 0 < 3 := by
      have e : fs.getD i 0 = fs[i] := by rw [List.getD_eq_getElem?_getD, List.getElem?_eq_getElem hi]; rfl
      rw [e]; exact hf _ (List.getElem_mem hi)
    have hti : (fs.take i).length ≤ 100 := by rw [List.length_take]; omega
    refine exs_cons (ex_assign (ev_word (sg := dr) (fs := fs.take i) (compOk_of rfl (by kernel_rfl)) ?_ (fun f hm => ev_sitem (ev_name rfl rfl rfl).w (ev_name rfl rfl rfl).w (hf.take i f hm).1 (sgn_get hdr (hf.take i f hm)) (by rw [hdr, sizeLine_eq]; omega)) (by rw [sizeLine_eq]; omega) rfl (fun _ _ => rfl)) (.inl rfl) (fun _ _ => rfl)) ?_
    · rw [List.map_take, ← pick_to]
      exact ev_slice (ev_name rfl rfl rfl).w ep_none (ep_some (ev_name rfl rfl rfl).w) ep_none (by simp) hfS
    let τ2 : Nat → Sig := fun j => [(Str.ofString "record", true, .ent ((recUpTo dr fs i ++ (recTurn dr fs i).take j).map .str) []), (Str.ofString "front", false, .str (wordOf dr (fs.take i))), (Str.ofString "figures", false, .list (fs.map .int)), (Str.ofString "signs", false, .str sg), (Str.ofString "dress", false, .str dr), (Str.ofString "step", false, .int st)]
    have hrl : (rngD (fs.getD i 0 + 1) 3).length = (3 - (fs.getD i 0 + 1)).toNat := by unfold rngD; simp
    have hrt : (recTurn dr fs i).length = (3 - (fs.getD i 0 + 1)).toNat := by unfold recTurn; simp
    refine exs_cons (ex_for τ2 (rngD (fs.getD i 0 + 1) 3).length (out := .next (τ2 (rngD (fs.getD i 0 + 1) 3).length)) (ei_range (lo := fs.getD i 0 + 1) (hi := 3) (ev_call (eg_of h (by kernel_rfl) rfl rfl) keep_type (.cons (fun _ => rfl) (ev_bin op_add_int (ev_item (ev_name rfl rfl rfl).w (ev_name rfl rfl rfl).w (by omega) (ints_get hi) hfS).w ev_int.w).w (.cons (fun _ => rfl) ev_int.w .nil)) fn_range2) (small_of (by omega) (by omega) (by omega) (by omega))) (.inl rfl) (look_w ?_) (Nat.le_refl _) (fun j d hj hd => ?_) (.inl ⟨rfl, rfl⟩) (fun _ _ => rfl)) ?_
    · refine ⟨?_, rfl, rfl, rfl, rfl, rfl, trivial⟩
      show some (true, D.ent ((recUpTo dr fs i).map .str) []) = some (true, D.ent ((recUpTo dr fs i ++ (recTurn dr fs i).take 0).map .str) [])
      rw [List.take_zero, List.append_nil]
    · rw [hrl] at hj
      have hd' : d = .int (fs.getD i 0 + 1 + (j : Int)) := by
        unfold rngD at hd
        rw [List.getElem?_map, List.getElem?_range hj] at hd
        cases hd; rfl
      subst hd'
      have hfj : (0 : Int) ≤ fs.getD i 0 + 1 + (j : Int) ∧ fs.getD i 0 + 1 + (j : Int) < 3 := by omega
      have hnew : recUpTo dr fs i ++ (recTurn dr fs i).take (j + 1) = (recUpTo dr fs i ++ (recTurn dr fs i).take j) ++ [wordOf dr (fs.take i) ++ [dr.getD (fs.getD i 0 + 1 + (j : Int)).toNat 0]] := by
        rw [List.take_succ_eq_append_getElem (by omega), List.append_assoc]
        congr 2
        unfold recTurn
        simp
      have hll : ((recUpTo dr fs i ++ (recTurn dr fs i).take j).map D.str).length ≤ 400 := by
        rw [List.length_map, List.length_append, List.length_take]
        have := recUpTo_len (dr := dr) hf i
        have := recTurn_len (dr := dr) (i := i) hf
        omega
      refine exs_weakOut (look_w (σ1 := (Str.ofString "record", true, .ent (((recUpTo dr fs i ++ (recTurn dr fs i).take j).map .str) ++ [.str (wordOf dr (fs.take i) ++ [dr.getD (fs.getD i 0 + 1 + (j : Int)).toNat 0])]) []) :: (Str.ofString "figure", false, .int (fs.getD i 0 + 1 + (j : Int))) :: τ2 j) ?_) (exs_cons (ex_uaAppend rfl rfl rfl (fun _ => rfl) rfl (fun _ => rfl) (ev_bin (op_add_str ?_) (ev_name rfl rfl rfl).w (ev_sitem (ev_name rfl rfl rfl).w (ev_name rfl rfl rfl).w hfj.1 (sgn_get hdr hfj) (by rw [hdr, sizeLine_eq]; omega)).w) ?_) exs_nil)
      · refine ⟨?_, rfl, rfl, rfl, rfl, rfl, trivial⟩
        show some (true, D.ent (((recUpTo dr fs i ++ (recTurn dr fs i).take j).map .str) ++ [.str (wordOf dr (fs.take i) ++ [dr.getD (fs.getD i 0 + 1 + (j : Int)).toNat 0])]) []) = some (true, D.ent ((recUpTo dr fs i ++ (recTurn dr fs i).take (j + 1)).map .str) [])
        rw [hnew, List.map_append (l₁ := recUpTo dr fs i ++ (recTurn dr fs i).take j)]; rfl
      · rw [wordOf_len, sizeLine_eq]; simp; omega
      · rw [sizeLine_eq]; omega
    · refine exs_weakOut (look_w ?_) exs_nil
      refine ⟨?_, rfl, rfl, rfl, rfl, trivial⟩
      show some (true, D.ent ((recUpTo dr fs i ++ (recTurn dr fs i).take (rngD (fs.getD i 0 + 1) 3).length).map .str) []) = some (true, D.ent ((recUpTo dr fs (i + 1)).map .str) [])
      rw [hrl, ← hrt, List.take_length, recUpTo_succ]
  refine exs_cons (ex_assignMapx (xs := List.range fs.length) (a := fun i : Nat => D.int (i : Int)) (b := fun i : Nat => .str (wordOf sg (fs.take (i + 1)))) (fun d => .str (wordOf sg (fs.take ((intOf d).toNat + 1)))) (fun _ _ => rfl) (compOk_of rfl (by kernel_rfl))
    (ei_rangeN (n := fs.length) (ev_call (eg_of h (by kernel_rfl) rfl rfl) keep_type (.cons (fun _ => rfl) (List.length_map (as := fs) D.int ▸ ev_call (eg_of h (by kernel_rfl) rfl rfl) keep_builtin (.cons (fun _ => rfl) (ev_name rfl rfl rfl).w .nil) (fn_len_list hfS)).w .nil) fn_range1) (by omega)) (fun i hi => ?_) (by rw [List.length_range, sizeLine_eq]; omega) (fun _ _ => rfl) rfl (fun env ef => swaps_true ef rfl rfl rfl)) ?_
  · have hi' : i < fs.length := List.mem_range.mp hi
    have hti : (fs.take (i + 1)).length ≤ 100 := by rw [List.length_take]; omega
    refine ev_word (sg := sg) (fs := fs.take (i + 1)) (compOk_of rfl (by kernel_rfl)) ?_ (fun f hm => ev_sitem (ev_name rfl rfl rfl).w (ev_name rfl rfl rfl).w (hf.take (i + 1) f hm).1 (sgn_get hsg (hf.take (i + 1) f hm)) (by rw [hsg, sizeLine_eq]; omega)) (by rw [sizeLine_eq]; omega) rfl (fun _ _ => rfl)
    rw [List.map_take, ← pick_to, show ((i + 1 : Nat) : Int) = (i : Int) + 1 from rfl]
    exact ev_slice (ev_name rfl rfl rfl).w ep_none (ep_some (ev_bin op_add_int (ev_name rfl rfl rfl).w ev_int.w).w) ep_none (by simp) hfS
  refine exs_cons (ex_newEntry (init_at h) (eg_Entry h rfl) (.inl rfl) (fun _ _ => rfl)) ?_
  refine exs_cons (ex_uaExtend (dw := (frontsOf sg fs st).map .str) rfl rfl rfl (fun _ => rfl) (fun env => ⟨_, rfl⟩) ?_ (by rw [List.length_map, sizeLine_eq]; simp; omega)) ?_
  · unfold frontsOf
    rw [← pick_map', List.map_map]
    exact ev_slice (ev_name rfl rfl rfl).w ep_none ep_none (ep_some (ev_name rfl rfl rfl).w) (fun e => hst (by injection e)) (by rw [List.length_map, List.length_range, sizeLine_eq]; omega)
  refine exs_cons (ex_rlAppendMove rfl rfl (by decide) rfl rfl rfl rfl rfl (fun _ => rfl) (by simp [sizeLine_eq])) ?_
  exact exs_ret (ex_returnOwn rfl rfl rfl)
end
end Mine
end
section
open PySem PySem.W PyProof.Rows
namespace Mine
noncomputable def okName (recs : List (List (List Nat))) (sg name : List Nat) : List Bool := recs.map fun ua => appl ua (name ++ [47] ++ List.replicate 4 (sg.getD 2 0))
noncomputable def three (sg w : List Nat) : List (List Nat) := [w ++ [sg.getD 2 0], w ++ [sg.getD 1 0], w ++ [sg.getD 0 0]]
noncomputable def isFree (recs : List (List (List Nat))) (sg name : List Nat) : Bool := okName recs sg name == [false, false]
noncomputable def pageAt (recs : List (List (List Nat))) (sg : List Nat) : Nat → List (List Nat)
  | 0 => [[]]
  | n + 1 => ((pageAt recs sg n).map fun w => (three sg w).filter (isFree recs sg)).flatten
noncomputable def topOf (name : List Nat) (n : Nat) : List Nat := (sortS ((List.range (n + 1)).map fun i => name.drop i)).getD n []
noncomputable def dueOf (rulers : List (List Nat)) (name : List Nat) (n : Nat) : List Bool := rulers.map fun r => coll ((topOf name n).take r.length) (r.take ((topOf name n).take r.length).length) == 1
noncomputable def uaOf : D → List (List Nat)
  | .ent du _ => du.map strOf
  | _ => []
theorem uaOf_eq (l : List (List Nat)) (r : List D) : uaOf (.ent (l.map .str) r) = l := by show (l.map D.str).map strOf = l; rw [List.map_map]; exact List.map_id'' (fun _ => rfl) l
theorem rep4 (x : Nat) : (List.replicate 4 [x]).flatten = List.replicate 4 x := rfl
theorem pageAt_ok (recs : List (List (List Nat))) (sg : List Nat) : ∀ n, (pageAt recs sg n).length ≤ 3 ^ n ∧ ∀ w ∈ pageAt recs sg n, w.length = n ∧ ∀ ch ∈ w, ch = sg.getD 0 0 ∨ ch = sg.getD 1 0 ∨ ch = sg.getD 2 0
  | 0 => ⟨by simp [pageAt], fun w hw => by
      have : w = [] := by simpa [pageAt] using hw
      subst this; exact ⟨rfl, fun ch hc => by cases hc⟩⟩
  | n + 1 => by
    obtain ⟨h1, h2⟩ := pageAt_ok recs sg n
    refine ⟨?_, fun w hw => ?_⟩
    · unfold pageAt
      have key : ∀ l : List (List Nat), ((l.map fun w => (three sg w).filter (isFree recs sg)).flatten).length ≤ 3 * l.length := fun l => by
        induction l with
        | nil => simp
        | cons a r ih =>
          rw [List.map_cons, List.flatten_cons, List.length_append, List.length_cons]
          have : ((three sg a).filter (isFree recs sg)).length ≤ 3 := List.length_filter_le _ _
          omega
      have := key (pageAt recs sg n)
      rw [Nat.pow_succ]; omega
    · unfold pageAt at hw
      obtain ⟨l, hl, hwl⟩ := List.mem_flatten.mp hw
      obtain ⟨v, hv, rfl⟩ := List.mem_map.mp hl
      have hw3 := (List.mem_filter.mp hwl).1
      obtain ⟨g1, g2⟩ := h2 v hv
      have fin : ∀ z, (z = sg.getD 0 0 ∨ z = sg.getD 1 0 ∨ z = sg.getD 2 0) → w = v ++ [z] → w.length = n + 1 ∧ ∀ ch ∈ w, ch = sg.getD 0 0 ∨ ch = sg.getD 1 0 ∨ ch = sg.getD 2 0 := fun z hz e => by
        subst e
        refine ⟨by rw [List.length_append, g1]; rfl, fun ch hc => ?_⟩
        rcases List.mem_append.mp hc with q | q
        · exact g2 ch q
        · rw [List.mem_singleton.mp q]; exact hz
      unfold three at hw3
      simp only [List.mem_cons, List.not_mem_nil, or_false] at hw3
      rcases hw3 with e | e | e
      · exact fin _ (.inr (.inr rfl)) e
      · exact fin _ (.inr (.inl rfl)) e
      · exact fin _ (.inl rfl) e
section
variable {c : Cx} {k : Nat} (h : C39 c)
include h
theorem fn_pages : FnAt c 125 (fdOf (K39 c.w.params) 125) (bodyOf (K39 c.w.params) 125) ["book", "signs", "rulers", "length"] :=
  fnAt_of h 125 ["book", "signs", "rulers", "length"] (by kernel_rfl) (by kernel_rfl) (by kernel_rfl) (by kernel_rfl) (by kernel_rfl) (by kernel_rfl) (by kernel_rfl) (by kernel_rfl) (by kernel_rfl) (fun vals hv => by match vals, hv with | [a, b, d, e], _ => kernel_rfl) (by kernel_rfl) (by kernel_rfl) (by kernel_rfl) (by kernel_rfl)
noncomputable abbrev PagesPre (recs : List (List (List Nat))) (sg : List Nat) (rulers : List (List Nat)) (L : Nat) : Prop :=
  L ≤ 10 ∧ sg.length = 3 ∧ (∀ ch ∈ sg, ch < 128) ∧ (∀ ua ∈ recs, ua.length ≤ 1000 ∧ ∀ g ∈ ua, g.length ≤ 1000 ∧ ∀ ch ∈ g, ch < 128) ∧ recs.length ≤ 1000 ∧ (∀ r ∈ rulers, r.length ≤ 1000) ∧ rulers.length ≤ 1000 ∧
  ∀ n < L, ∀ w ∈ pageAt recs sg n, ∀ name ∈ three sg w, okName recs sg name = dueOf rulers name n
set_option maxHeartbeats 4000000 in
theorem fd_pages (us : List D) (recs : List (List (List Nat))) (sg : List Nat) (rulers : List (List Nat)) (L : Nat) (hp : PagesPre recs sg rulers L) :
    FD c (k + 5) (.ref 125) [.ent us (recs.map fun ua => .ent (ua.map .str) []), .str sg, .list (rulers.map .str), .int (L : Int)] (Dss ((List.range (L + 1)).map (pageAt recs sg))) := by
  obtain ⟨hL, hsl, hsa, hrec, hrl, hru, hrul, good⟩ := hp
  refine fd_def (fn_pages h) rfl ?_
  let base : Sig := [(Str.ofString "book", false, .ent us (recs.map fun ua => .ent (ua.map .str) [])), (Str.ofString "signs", false, .str sg), (Str.ofString "rulers", false, .list (rulers.map .str)), (Str.ofString "length", false, .int (L : Int))]
  refine exs_cons (ex_ownList (.cons (fun _ => rfl) (ev_list (.cons (fun _ => rfl) (ev_str (cs := []) rfl) .nil) (by simp [sizeLine_eq])) .nil) (by simp [sizeLine_eq]) (.inl rfl)) ?_
  let τ : Nat → Sig := fun n => (Str.ofString "pages", true, Dss ((List.range (n + 1)).map (pageAt recs sg))) :: base
  refine exs_cons (ex_for τ L (out := .next (τ L)) (ei_rangeN (n := L) (ev_call (eg_of h (by kernel_rfl) rfl rfl) keep_type (.cons (fun _ => rfl) (ev_name rfl rfl rfl).w .nil) fn_range1) (by omega)) (.inl rfl) (look_w ⟨rfl, rfl, rfl, rfl, rfl, trivial⟩) (by simp) (fun n d hn hd => ?_) (.inl ⟨by simp, rfl⟩) (fun _ _ => rfl)) (exs_ret (ex_returnOwn rfl rfl rfl))
  rw [List.getElem?_map, List.getElem?_range hn] at hd
  cases hd
  obtain ⟨hpl, hpw⟩ := pageAt_ok recs sg n
  have hpn : 3 ^ n ≤ 59049 := Nat.le_trans (Nat.pow_le_pow_right (by omega) (by omega : n ≤ 10)) (by decide)
  let pg : Nat → List (List Nat) := fun j => (((pageAt recs sg n).take j).map fun w => (three sg w).filter (isFree recs sg)).flatten
  have hpgl : ∀ j, (pg j).length ≤ 3 * j := fun j => by
    have key : ∀ l : List (List Nat), ((l.map fun w => (three sg w).filter (isFree recs sg)).flatten).length ≤ 3 * l.length := fun l => by
      induction l with
      | nil => simp
      | cons a r ih =>
        rw [List.map_cons, List.flatten_cons, List.length_append, List.length_cons]
        have : ((three sg a).filter (isFree recs sg)).length ≤ 3 := List.length_filter_le _ _
        omega
    have := key ((pageAt recs sg n).take j)
    rw [List.length_take] at this
    exact Nat.le_trans this (by omega)
  have hpgs : ∀ j w, (pageAt recs sg n)[j]? = some w → pg (j + 1) = pg j ++ (three sg w).filter (isFree recs sg) := fun j w e => by
    show (((pageAt recs sg n).take (j + 1)).map fun w => (three sg w).filter (isFree recs sg)).flatten = _
    rw [List.take_add_one, e]
    simp [pg]
  refine exs_cons (ex_ownList .nil (by simp) (.inl rfl)) ?_
  let rest : Sig := (Str.ofString "n", false, .int (n : Int)) :: τ n
  let τ2 : Nat → Sig := fun j => (Str.ofString "page", true, .list ((pg j).map .str)) :: rest
  have hitem : (((List.range (n + 1)).map (pageAt recs sg)).map fun r => D.list (r.map .str))[((n : Int)).toNat]? = some (.list ((pageAt recs sg n).map .str)) := by
    rw [List.getElem?_map, List.getElem?_map, show ((n : Int)).toNat = n from rfl, List.getElem?_range (by omega)]; rfl
  refine exs_cons (ex_for τ2 (pageAt recs sg n).length (out := .next (τ2 (pageAt recs sg n).length)) (ei_list (ev_item (ew_own rfl rfl rfl) (ev_name rfl rfl rfl).w (by omega) hitem (by rw [List.length_map, List.length_map, List.length_range, sizeLine_eq]; omega))) (.inl rfl) (look_w ⟨rfl, rfl, rfl, rfl, rfl, rfl, rfl, trivial⟩) (by simp) (fun j d hj hd => ?_) (.inl ⟨by simp, rfl⟩) (fun _ _ => rfl)) ?_
  · rw [List.getElem?_map, List.getElem?_eq_getElem hj] at hd
    cases hd
    obtain ⟨w, hw⟩ : ∃ w, (pageAt recs sg n)[j] = w := ⟨_, rfl⟩
    have hwm : w ∈ pageAt recs sg n := hw ▸ List.getElem_mem hj
    rw [hw]
    have hw' : (pageAt recs sg n)[j]? = some w := by rw [List.getElem?_eq_getElem hj, hw]
    obtain ⟨hwl, hwc⟩ := hpw w hwm
    let sgs : List Nat := [sg.getD 2 0, sg.getD 1 0, sg.getD 0 0]
    let τ3 : Nat → Sig := fun i => (Str.ofString "page", true, .list ((pg j ++ ((three sg w).take i).filter (isFree recs sg)).map .str)) :: (Str.ofString "word", false, .str w) :: rest
    have hg2 : sg[(2 : Int).toNat]? = some (sg.getD 2 0) := sgn_get hsl (f := 2) (by omega)
    have hg1 : sg[(1 : Int).toNat]? = some (sg.getD 1 0) := sgn_get hsl (f := 1) (by omega)
    have hg0 : sg[(0 : Int).toNat]? = some (sg.getD 0 0) := sgn_get hsl (f := 0) (by omega)
    have hslS : sg.length ≤ sizeLine := by rw [hsl, sizeLine_eq]; omega
    have hsga : ∀ z, (z = sg.getD 0 0 ∨ z = sg.getD 1 0 ∨ z = sg.getD 2 0) → z < 128 := fun z hz => by
      rcases hz with e | e | e
      · rw [e]; exact hsa _ (List.mem_of_getElem? hg0)
      · rw [e]; exact hsa _ (List.mem_of_getElem? hg1)
      · rw [e]; exact hsa _ (List.mem_of_getElem? hg2)
    refine exs_weakOut (σ1 := τ3 3) (look_w ?_) (exs_cons (ex_for τ3 3 (ds := sgs.map fun z => D.str [z]) (out := .next (τ3 3)) (ei_list (ev_list (.cons (fun _ => rfl) (ev_sitem (ev_name rfl rfl rfl).w ev_int.w (by omega) hg2 hslS) (.cons (fun _ => rfl) (ev_sitem (ev_name rfl rfl rfl).w ev_int.w (by omega) hg1 hslS) (.cons (fun _ => rfl) (ev_sitem (ev_name rfl rfl rfl).w ev_int.w (by omega) hg0 hslS) .nil))) (show 3 ≤ sizeLine by rw [sizeLine_eq]; omega))) (.inl rfl) (look_w ?_) (Nat.le_refl 3) (fun i d hi hd => ?_) (.inl ⟨rfl, rfl⟩) (fun _ _ => rfl)) exs_nil)
    · refine ⟨?_, rfl, rfl, rfl, rfl, rfl, rfl, trivial⟩
      show some (true, D.list ((pg j ++ ((three sg w).take 3).filter (isFree recs sg)).map .str)) = some (true, D.list ((pg (j + 1)).map .str))
      rw [hpgs j w hw']; rfl
    · refine ⟨?_, rfl, rfl, rfl, rfl, rfl, rfl, rfl, trivial⟩
      show some (true, D.list ((pg j).map .str)) = some (true, D.list ((pg j ++ ((three sg w).take 0).filter (isFree recs sg)).map .str))
      rw [List.take_zero, List.filter_nil, List.append_nil]
    rw [List.getElem?_map] at hd
    obtain ⟨z, hz, rfl⟩ := Option.map_eq_some_iff.mp hd
    have hzm : z ∈ sgs := List.mem_of_getElem? hz
    have hz3 : z = sg.getD 0 0 ∨ z = sg.getD 1 0 ∨ z = sg.getD 2 0 := by
      simp only [sgs, List.mem_cons, List.not_mem_nil, or_false] at hzm
      rcases hzm with e | e | e
      · exact .inr (.inr e)
      · exact .inr (.inl e)
      · exact .inl e
    have h3 : three sg w = sgs.map fun z => w ++ [z] := rfl
    obtain ⟨name, hname⟩ : ∃ name, w ++ [z] = name := ⟨_, rfl⟩
    have hnm : name ∈ three sg w := by rw [h3, ← hname]; exact List.mem_map.mpr ⟨z, hzm, rfl⟩
    have hgood := good n hn w hwm name hnm
    have htk : (three sg w).take (i + 1) = (three sg w).take i ++ [name] := by
      rw [List.take_add_one, h3, List.getElem?_map, hz, ← hname]; rfl
    have hnl : name.length = n + 1 := by rw [← hname, List.length_append, hwl]; rfl
    have hnS : name.length ≤ sizeLine := by rw [hnl, sizeLine_eq]; omega
    have hna : ∀ ch ∈ name, ch < 128 := fun ch hc => by
      rw [← hname] at hc
      rcases List.mem_append.mp hc with q | q
      · exact hsga ch (hwc ch q)
      · rw [List.mem_singleton.mp q]; exact hsga z hz3
    refine exs_cons (ex_assign (d := .str name) (hname ▸ ev_bin (op_add_str (by rw [hwl, sizeLine_eq]; simp; omega)) (ev_name rfl rfl rfl).w (ev_name rfl rfl rfl).w) (.inr rfl) (fun _ _ => rfl)) ?_
    have hssl : ((List.range (n + 1)).map fun i => name.drop i).length = n + 1 := by rw [List.length_map, List.length_range]
    have hsol : (sortS ((List.range (n + 1)).map fun i => name.drop i)).length = n + 1 := by rw [(sortS_perm _).length_eq, hssl]
    have hn1 : ((n + 1 : Nat) : Int) = (n : Int) + 1 := rfl
    refine exs_cons (ex_assign (d := .str (topOf name n)) (ev_item (ds := (sortS ((List.range (n + 1)).map fun i => name.drop i)).map .str) (ev_sorted (k := k + 2) (eg_of h (by kernel_rfl) rfl rfl) (eg_of h (by kernel_rfl) rfl rfl) ?_ (.inl (by rw [hssl]; omega)) (fun x _ => fd_strxfrm h x) (fun _ => rfl)).w (ev_name rfl rfl rfl).w (by omega) (strs_get (i := n) (by rw [hsol]; omega)) (by rw [List.length_map, hsol, sizeLine_eq]; omega)) (.inl rfl) (fun _ _ => rfl)) ?_
    · rw [List.map_map]
      refine ev_mapx (xs := List.range (n + 1)) (a := fun i : Nat => D.int (i : Int)) (fun d => .str (name.drop (intOf d).toNat)) (fun _ _ => rfl) (compOk_of rfl (by kernel_rfl)) (ei_rangeN (n := n + 1) (hn1 ▸ ev_call (eg_of h (by kernel_rfl) rfl rfl) keep_type (.cons (fun _ => rfl) (ev_bin op_add_int (ev_name rfl rfl rfl).w ev_int.w).w .nil) fn_range1) (by omega)) (fun i _ => ?_) (by rw [List.length_range, sizeLine_eq]; omega) (fun _ _ => rfl)
      show EV _ _ _ _ _ (.str (name.drop i))
      rw [← pick_from]
      exact ev_sslice (ev_name rfl rfl rfl).w (ep_some (ev_name rfl rfl rfl).w) ep_none hnS
    have htl : (topOf name n).length ≤ 11 := by
      have hm : topOf name n ∈ sortS ((List.range (n + 1)).map fun i => name.drop i) := by
        unfold topOf
        rw [List.getD_eq_getElem?_getD, List.getElem?_eq_getElem (by rw [hsol]; omega)]
        exact List.getElem_mem _
      obtain ⟨q, _, hq⟩ := List.mem_map.mp ((sortS_perm _).mem_iff.mp hm)
      rw [← hq, List.length_drop, hnl]; omega
    generalize htop : topOf name n = top at htl
    refine exs_cons (ex_ownList .nil (by simp) (.inl rfl)) ?_
    let gD : List Nat → Bool := fun r => coll (top.take r.length) (r.take (top.take r.length).length) == 1
    let σr : Sig := (Str.ofString "top", false, .str top) :: (Str.ofString "name", false, .str name) :: τ3 i
    let τ4 : Nat → Sig := fun m => (Str.ofString "due", true, .list (((rulers.take m).map gD).map .bool)) :: σr
    refine exs_cons (ex_for τ4 rulers.length (out := .next (τ4 rulers.length)) (ei_list (ev_name rfl rfl rfl)) (.inl rfl) (look_w ⟨rfl, rfl, rfl, rfl, rfl, rfl, rfl, rfl, rfl, rfl, rfl, trivial⟩) (by simp) (fun m d hm hd => ?_) (.inl ⟨by simp, rfl⟩) (fun _ _ => rfl)) ?_
    · rw [List.getElem?_map, List.getElem?_eq_getElem hm] at hd
      cases hd
      generalize hr : rulers[m] = r
      have hrm : r ∈ rulers := hr ▸ List.getElem_mem hm
      have hrS : r.length ≤ sizeLine := by have := hru r hrm; rw [sizeLine_eq]; omega
      refine exs_cons (ex_assign (d := .str (top.take r.length)) ?_ (.inl rfl) (fun _ _ => rfl)) ?_
      · rw [← pick_to]
        exact ev_sslice (ev_name rfl rfl rfl).w ep_none (ep_some (ev_call (eg_of h (by kernel_rfl) rfl rfl) keep_builtin (.cons (fun _ => rfl) (ev_name rfl rfl rfl).w .nil) (fn_len_str hrS)).w) (by rw [sizeLine_eq]; omega)
      have hpS : (top.take r.length).length ≤ sizeLine := by rw [List.length_take, sizeLine_eq]; omega
      refine exs_weakOut (look_w (σ1 := (Str.ofString "due", true, .list ((((rulers.take m).map gD).map .bool) ++ [.bool (gD r)])) :: (Str.ofString "part", false, .str (top.take r.length)) :: (Str.ofString "ruler", false, .str r) :: τ4 m) ?_) (exs_cons (ex_append rfl rfl rfl (fun _ => rfl) rfl (fun _ => rfl) (ev_cmp op_eqI (ev_callD (eg_of h (by kernel_rfl) rfl rfl) (keep_fn (by rw [h.K]; kernel_rfl)) (.cons (fun _ => rfl) (ev_name rfl rfl rfl) (.cons (fun _ => rfl) ?_ .nil)) (fd_strcoll h _ _)).w ev_int.w rfl) ?_) exs_nil)
      · refine ⟨?_, rfl, rfl, rfl, rfl, rfl, rfl, rfl, rfl, rfl, rfl, trivial⟩
        show some (true, D.list ((((rulers.take m).map gD).map .bool) ++ [.bool (gD r)])) = some (true, D.list (((rulers.take (m + 1)).map gD).map .bool))
        rw [List.take_add_one, List.getElem?_eq_getElem hm, hr, List.map_append, List.map_append]; rfl
      · rw [← pick_to r]
        exact ev_sslice (ev_name rfl rfl rfl).w ep_none (ep_some (ev_call (eg_of h (by kernel_rfl) rfl rfl) keep_builtin (.cons (fun _ => rfl) (ev_name rfl rfl rfl).w .nil) (fn_len_str hpS)).w) hrS
      · rw [List.length_map, List.length_map, List.length_take, sizeLine_eq]; omega
    obtain ⟨x, hx⟩ : ∃ x, name ++ [47] ++ List.replicate 4 (sg.getD 2 0) = x := ⟨_, rfl⟩
    have hxl : x.length ≤ 100 := by rw [← hx]; simp [hnl]; omega
    have hxa : ∀ ch ∈ x, ch < 128 := fun ch hc => by
      rw [← hx] at hc
      rcases List.mem_append.mp hc with q | q
      · rcases List.mem_append.mp q with q | q
        · exact hna ch q
        · rw [List.mem_singleton.mp q]; omega
      · rw [(List.mem_replicate.mp q).2]; exact hsga _ (.inr (.inr rfl))
    refine exs_cons (ex_assignMapx (xs := recs) (a := fun ua => D.ent (ua.map .str) []) (b := fun ua => .bool (appl ua x)) (fun d => .bool (appl (uaOf d) x)) (fun ua _ => by rw [uaOf_eq]) (compOk_of rfl (by kernel_rfl)) (ei_list (ev_rl (ev_name rfl rfl rfl).w)) (fun ua hua => ev_applies (d := .str x) (ev_name rfl rfl rfl).w (.cons (fun _ => rfl) ?_ .nil) (h.fA ▸ fd_applies_str h ua [] x (by omega) hxa (hrec ua hua).2 (hrec ua hua).1) (fun env => ⟨_, rfl⟩)) (by rw [sizeLine_eq]; omega) (fun _ _ => rfl) rfl (fun env ef => swaps_true ef rfl rfl rfl)) ?_
    · rw [← hx]
      exact ev_bin (op_add_str (by simp [hnl, sizeLine_eq]; omega)) (ev_bin (op_add_str (by simp [hnl, sizeLine_eq]; omega)) (ev_name rfl rfl rfl).w (ev_str (cs := [47]) rfl).w).w (ev_bin (op_mul_str (x := [sg.getD 2 0]) (n := 4) (by simp [sizeLine_eq]) (by simp)) (ev_sitem (ev_name rfl rfl rfl).w ev_int.w (by omega) hg2 hslS).w ev_int.w).w
    have hok : (recs.map fun ua => D.bool (appl ua x)) = (okName recs sg name).map .bool := by unfold okName; rw [hx, List.map_map]; rfl
    rw [hok]
    have hdue : okName recs sg name = (rulers.take rulers.length).map gD := by rw [hgood]; unfold dueOf; rw [htop, List.take_length]
    refine exs_cons (ex_if (out := .next _) (et_cmp op_neLB (ev_name rfl rfl rfl).w (ew_own rfl rfl rfl) rfl) (fun e => ?_) (fun _ => exs_nil)) ?_
    · rw [hdue] at e; simp at e
    refine exs_cons (σ1 := τ3 (i + 1)) (ex_if (et_cmp (op_eqLB (m := [false, false])) (ev_name rfl rfl rfl).w (ev_list (.cons (fun _ => rfl) ev_bool (.cons (fun _ => rfl) ev_bool .nil)) (by simp [sizeLine_eq])).w rfl) (fun e => ?_) (fun e => ?_)) exs_nil
    · have e' : isFree recs sg name = true := e
      refine exs_weakOut (look_w (σ1 := (Str.ofString "page", true, .list (((pg j ++ ((three sg w).take i).filter (isFree recs sg)).map .str) ++ [.str name])) :: (Str.ofString "told", false, .list ((okName recs sg name).map .bool)) :: τ4 rulers.length) ?_) (exs_cons (ex_append rfl rfl rfl (fun _ => rfl) rfl (fun _ => rfl) (ev_name rfl rfl rfl) ?_) exs_nil)
      · refine ⟨?_, rfl, rfl, rfl, rfl, rfl, rfl, rfl, trivial⟩
        show some (true, D.list (((pg j ++ ((three sg w).take i).filter (isFree recs sg)).map .str) ++ [.str name])) = some (true, D.list ((pg j ++ ((three sg w).take (i + 1)).filter (isFree recs sg)).map .str))
        rw [htk, List.filter_append, List.filter_cons_of_pos e', List.filter_nil, ← List.append_assoc, List.map_append (l₁ := pg j ++ ((three sg w).take i).filter (isFree recs sg))]; rfl
      · have h1 := hpgl j
        have h2 : (((three sg w).take i).filter (isFree recs sg)).length ≤ 3 := Nat.le_trans (List.length_filter_le _ _) (by rw [List.length_take]; exact Nat.min_le_right _ _)
        have h3 : j < 59049 := by omega
        rw [List.length_map, List.length_append, sizeLine_eq]; omega
    · have e' : ¬ isFree recs sg name = true := by
        have e2 : isFree recs sg name = false := e
        rw [e2]; simp
      refine exs_weakOut (look_w ?_) exs_nil
      refine ⟨?_, rfl, rfl, rfl, rfl, rfl, rfl, rfl, trivial⟩
      show some (true, D.list ((pg j ++ ((three sg w).take i).filter (isFree recs sg)).map .str)) = some (true, D.list ((pg j ++ ((three sg w).take (i + 1)).filter (isFree recs sg)).map .str))
      rw [htk, List.filter_append, List.filter_cons_of_neg e', List.filter_nil, List.append_nil]
  · refine exs_weakOut (look_w (σ1 := (Str.ofString "pages", true, .list ((((List.range (n + 1)).map (pageAt recs sg)).map fun r => D.list (r.map .str)) ++ [.list ((pg (pageAt recs sg n).length).map .str)])) :: (Str.ofString "page", false, .list ((pg (pageAt recs sg n).length).map .str)) :: τ2 (pageAt recs sg n).length) ?_) (exs_cons (ex_appendMove rfl rfl (by decide) rfl rfl rfl rfl rfl (fun _ => rfl) ?_) exs_nil)
    · refine ⟨?_, rfl, rfl, rfl, rfl, trivial⟩
      show some (true, D.list ((((List.range (n + 1)).map (pageAt recs sg)).map fun r => D.list (r.map .str)) ++ [.list ((pg (pageAt recs sg n).length).map .str)])) = some (true, D.list (((List.range (n + 1 + 1)).map (pageAt recs sg)).map fun r => D.list (r.map .str)))
      rw [List.range_succ (n := n + 1), List.map_append, List.map_append]
      show _ = some (true, D.list (_ ++ [.list ((pageAt recs sg (n + 1)).map .str)]))
      rw [show pg (pageAt recs sg n).length = pageAt recs sg (n + 1) by
        show (((pageAt recs sg n).take (pageAt recs sg n).length).map fun w => (three sg w).filter (isFree recs sg)).flatten = _
        rw [List.take_length]; rfl]
    · rw [List.length_map, List.length_map, List.length_range, sizeLine_eq]; omega
end
end Mine
end
section
open PySem PySem.W PyProof.Rows
namespace Mine
noncomputable def behindOf (lesser tops : List Int) (n : Nat) : List Nat := ((List.range (n + 1)).filter fun i => tops.drop i == lesser.take (n - i)).map fun i => n - i
noncomputable def candOf (lesser tops : List Int) (n : Nat) : List Int := ((behindOf lesser tops n).filter fun i => decide (i < lesser.length)).map fun i => lesser.getD i 0
noncomputable def topsAt (lesser : List Int) : Nat → List Int
  | 0 => []
  | n + 1 => topsAt lesser n ++ [minI (candOf lesser (topsAt lesser n) n)]
noncomputable def weightsAt (lesser : List Int) : Nat → List Int
  | 0 => [1]
  | n + 1 => weightsAt lesser n ++ [1 + ((List.range (n + 1)).map fun i => (topsAt lesser (n + 1)).getD i 0 * (weightsAt lesser n).getD (n - i) 0).sum]
noncomputable def digits (ws : List Int) (n : Nat) (number : Int) : Nat → List Int × Int
  | 0 => ([], number)
  | i + 1 => let p := digits ws n number i; (p.1 ++ [p.2.fdiv (ws.getD (n - i) 0)], p.2.fmod (ws.getD (n - i) 0))
noncomputable def writeOf (sg : List Nat) (ws : List Int) (n : Nat) (number : Int) : List Nat := wordOf sg (digits ws n number (n + 1)).1
noncomputable def writPage (lesser : List Int) (sg : List Nat) : Nat → List (List Nat)
  | 0 => [[]]
  | n + 1 => (List.range ((weightsAt lesser (n + 1)).getD (n + 1) 0).toNat).map fun i : Nat => writeOf sg (weightsAt lesser (n + 1)) n (i : Int)
theorem digits_mem {ws : List Int} {n : Nat} {x f : Int} {i : Nat} (hf : f ∈ (digits ws n x i).1) : ∀ {m : Nat}, i ≤ m → f ∈ (digits ws n x m).1 := by
  intro m hm
  induction m with
  | zero => have : i = 0 := by omega
            subst this; exact hf
  | succ m ih =>
    rcases Nat.lt_or_ge m i with hlt | hge
    · have : i = m + 1 := by omega
      subst this; exact hf
    · exact List.mem_append_left _ (ih hge)
theorem digits_len (ws : List Int) (n : Nat) (x : Int) : ∀ i, (digits ws n x i).1.length = i
  | 0 => rfl
  | i + 1 => by show (_ ++ [_]).length = _; rw [List.length_append, digits_len ws n x i]; rfl
noncomputable def WPre (lesser : List Int) (L : Nat) : Prop :=
  L ≤ 10 ∧ lesser.length ≤ 100 ∧ ∀ n < L, candOf lesser (topsAt lesser n) n ≠ [] ∧ (∀ i ≤ n + 1, 1 ≤ (weightsAt lesser (n + 1)).getD i 0 ∧ (weightsAt lesser (n + 1)).getD i 0 ≤ 1000) ∧ (∀ t ∈ topsAt lesser (n + 1), 0 ≤ t ∧ t ≤ 1000) ∧
    ∀ i : Nat, i < ((weightsAt lesser (n + 1)).getD (n + 1) 0).toNat → ∀ f ∈ (digits (weightsAt lesser (n + 1)) n (i : Int) (n + 1)).1, 0 ≤ f ∧ f < 3
theorem topsAt_len (lesser : List Int) : ∀ n, (topsAt lesser n).length = n
  | 0 => rfl
  | n + 1 => by unfold topsAt; rw [List.length_append, topsAt_len lesser n]; rfl
theorem weightsAt_len (lesser : List Int) : ∀ n, (weightsAt lesser n).length = n + 1
  | 0 => rfl
  | n + 1 => by unfold weightsAt; rw [List.length_append, weightsAt_len lesser n]; rfl
end Mine
end
section
open PySem PySem.W PyProof.Rows
namespace Mine
section
variable {c : Cx} {k : Nat}
theorem op_lt_int {a b : Int} : Op2 c k (compareOp .Lt) (.int a) (.int b) (.bool (decide (a < b))) := by
  intro A ha he X0 X s Q E v1 v2 st r1 r2 q
  obtain ⟨t, rfl⟩ := W_int r1; obtain ⟨u, rfl⟩ := W_int r2
  exact PyProof.Rows.lt_int (q _ _ (.refl s) (.bool _))
end
section
variable {c : Cx} {k : Nat} (h : C39 c)
include h
theorem fn_writings : FnAt c 130 (fdOf (K39 c.w.params) 130) (bodyOf (K39 c.w.params) 130) ["lesser", "length", "signs"] :=
  fnAt_of h 130 ["lesser", "length", "signs"] (by kernel_rfl) (by kernel_rfl) (by kernel_rfl) (by kernel_rfl) (by kernel_rfl) (by kernel_rfl) (by kernel_rfl) (by kernel_rfl) (by kernel_rfl) (fun vals hv => by match vals, hv with | [a, b, d], _ => kernel_rfl) (by kernel_rfl) (by kernel_rfl) (by kernel_rfl) (by kernel_rfl)
set_option maxHeartbeats 4000000 in
theorem fd_writings (lesser : List Int) (sg : List Nat) (L : Nat) (hp : WPre lesser L) (hsl : sg.length = 3) :
    FD c (k + 5) (.ref 130) [.list (lesser.map .int), .int (L : Int), .str sg] (Dss ((List.range (L + 1)).map (writPage lesser sg))) := by
  obtain ⟨hL, hll, hgood⟩ := hp
  refine fd_def (fn_writings h) rfl ?_
  have hlS : (lesser.map D.int).length ≤ sizeLine := by rw [List.length_map, sizeLine_eq]; omega
  let base : Sig := [(Str.ofString "lesser", false, .list (lesser.map .int)), (Str.ofString "length", false, .int (L : Int)), (Str.ofString "signs", false, .str sg)]
  refine exs_cons (ex_ownList .nil (by simp) (.inr rfl)) ?_
  refine exs_cons (ex_ownList (.cons (fun _ => rfl) ev_int .nil) (by simp [sizeLine_eq]) (.inr rfl)) ?_
  refine exs_cons (ex_ownList (.cons (fun _ => rfl) (ev_list (.cons (fun _ => rfl) (ev_str (cs := []) rfl) .nil) (by simp [sizeLine_eq])) .nil) (by simp [sizeLine_eq]) (.inl rfl)) ?_
  let τ : Nat → Sig := fun n => (Str.ofString "tops", true, .list ((topsAt lesser n).map .int)) :: (Str.ofString "weights", true, .list ((weightsAt lesser n).map .int)) :: (Str.ofString "pages", true, Dss ((List.range (n + 1)).map (writPage lesser sg))) :: base
  refine exs_cons (ex_for τ L (out := .next (τ L)) (ei_rangeN (n := L) (ev_call (eg_of h (by kernel_rfl) rfl rfl) keep_type (.cons (fun _ => rfl) (ev_name rfl rfl rfl).w .nil) fn_range1) (by omega)) (.inr rfl) (look_w ⟨rfl, rfl, rfl, rfl, rfl, rfl, trivial⟩) (by simp) (fun n d hn hd => ?_) (.inl ⟨by simp, rfl⟩) (fun _ _ => rfl)) (exs_ret (ex_returnOwn rfl rfl rfl))
  rw [List.getElem?_map, List.getElem?_range hn] at hd
  cases hd
  obtain ⟨hcand, hws, htops, hdig⟩ := hgood n hn
  obtain ⟨ts, hts⟩ : ∃ ts, topsAt lesser n = ts := ⟨_, rfl⟩
  have htl : ts.length = n := hts ▸ topsAt_len lesser n
  have htS : (ts.map D.int).length ≤ sizeLine := by rw [List.length_map, htl, sizeLine_eq]; omega
  have hn1 : ((n + 1 : Nat) : Int) = (n : Int) + 1 := rfl
  refine exs_cons (ex_assignCmpx (xs := List.range (n + 1)) (a := fun i : Nat => D.int (i : Int)) (b := fun i : Nat => .int ((n - i : Nat) : Int)) (q := fun i => ts.drop i == lesser.take (n - i)) (fun d => .int ((n - (intOf d).toNat : Nat) : Int)) (fun d => ts.drop (intOf d).toNat == lesser.take (n - (intOf d).toNat)) (fun _ _ => rfl) (fun _ _ => rfl) (compOk_of rfl (by kernel_rfl))
    (ei_rangeN (n := n + 1) (hn1 ▸ ev_call (eg_of h (by kernel_rfl) rfl rfl) keep_type (.cons (fun _ => rfl) (ev_bin op_add_int (ev_name rfl rfl rfl).w ev_int.w).w .nil) fn_range1) (by omega)) (fun i hi => ?_) (fun i hi _ => ?_) (by rw [List.length_range, sizeLine_eq]; omega) (fun _ _ => rfl) rfl (fun env ef => swaps_true ef rfl rfl rfl)) ?_
  · have hi' : i < n + 1 := List.mem_range.mp hi
    have hsub : ((n - i : Nat) : Int) = (n : Int) - (i : Int) := by omega
    refine ets_one (et_cmp op_eqLI ?_ ?_ rfl)
    · rw [List.map_drop, ← pick_from]
      exact (ev_slice (ew_own (ds := ts.map .int) (by rw [← hts]; rfl) rfl rfl) (ep_some (ev_name rfl rfl rfl).w) ep_none ep_none (by simp) htS).w
    · rw [List.map_take, ← pick_to, hsub]
      exact (ev_slice (ev_name rfl rfl rfl).w ep_none (ep_some (ev_bin op_sub_int (ev_name rfl rfl rfl).w (ev_name rfl rfl rfl).w).w) ep_none (by simp) hlS).w
  · have hi' : i < n + 1 := List.mem_range.mp hi
    have hsub : ((n - i : Nat) : Int) = (n : Int) - (i : Int) := by omega
    rw [hsub]
    exact ev_bin op_sub_int (ev_name rfl rfl rfl).w (ev_name rfl rfl rfl).w
  rw [show ((List.range (n + 1)).filter fun i => ts.drop i == lesser.take (n - i)).map (fun i => D.int ((n - i : Nat) : Int)) = (behindOf lesser ts n).map fun i : Nat => D.int (i : Int) by unfold behindOf; rw [List.map_map]; rfl]
  have hbl : (behindOf lesser ts n).length ≤ n + 1 := by
    unfold behindOf
    rw [List.length_map]
    exact Nat.le_trans (List.length_filter_le _ _) (by rw [List.length_range]; exact Nat.le_refl _)
  rw [hts] at hcand
  refine exs_cons (ex_append (ds := ts.map .int) (by rw [← hts]; rfl) rfl rfl (fun _ => rfl) rfl (fun _ => rfl) (ev_call (eg_of h (by kernel_rfl) rfl rfl) keep_builtin (.cons (fun _ => rfl) (EV.w ?_) .nil) (fn_min_ints (k := k + 3) hcand)) (by rw [List.length_map, htl, sizeLine_eq]; omega)) ?_
  · unfold candOf
    rw [List.map_map]
    refine ev_cmpx (xs := behindOf lesser ts n) (a := fun i : Nat => D.int (i : Int)) (q := fun i => decide (i < lesser.length)) (fun d => .int (lesser.getD (intOf d).toNat 0)) (fun d => decide ((intOf d).toNat < lesser.length)) (fun _ _ => rfl) (fun _ _ => rfl) (compOk_of rfl (by kernel_rfl)) (ei_list (ev_name rfl rfl rfl)) (fun i hi => ?_) (fun i hi hq => ?_) (by rw [sizeLine_eq]; omega) (fun _ _ => rfl)
    · rw [show decide (i < lesser.length) = decide ((i : Int) < ((lesser.map D.int).length : Int)) by rw [List.length_map]; simp]
      exact ets_one (et_cmp op_lt_int (ev_name rfl rfl rfl).w (ev_call (eg_of h (by kernel_rfl) rfl rfl) keep_builtin (.cons (fun _ => rfl) (ev_name rfl rfl rfl).w .nil) (fn_len_list hlS)).w rfl)
    · exact ev_item (ev_name rfl rfl rfl).w (ev_name rfl rfl rfl).w (by omega) (ints_get (of_decide_eq_true hq)) hlS
  obtain ⟨t1, ht1⟩ : ∃ t1, topsAt lesser (n + 1) = t1 := ⟨_, rfl⟩
  have ht1' : t1 = ts ++ [minI (candOf lesser ts n)] := by rw [← ht1, ← hts]; rfl
  have ht1l : t1.length = n + 1 := ht1 ▸ topsAt_len lesser (n + 1)
  obtain ⟨w0, hw0⟩ : ∃ w0, weightsAt lesser n = w0 := ⟨_, rfl⟩
  have hw0l : w0.length = n + 1 := hw0 ▸ weightsAt_len lesser n
  obtain ⟨w1, hw1⟩ : ∃ w1, weightsAt lesser (n + 1) = w1 := ⟨_, rfl⟩
  have hw1' : w1 = w0 ++ [1 + ((List.range (n + 1)).map fun i => t1.getD i 0 * w0.getD (n - i) 0).sum] := by rw [← hw1, ← hw0, ← ht1]; rfl
  have hw1l : w1.length = n + 2 := hw1 ▸ weightsAt_len lesser (n + 1)
  rw [hw1] at hws hdig
  rw [ht1] at htops
  have hsub : ∀ i, i < n + 1 → ((n - i : Nat) : Int) = (n : Int) - (i : Int) := fun i hi => by omega
  rw [show ts.map D.int ++ [D.int (minI (candOf lesser ts n))] = t1.map .int by rw [ht1', List.map_append]; rfl]
  refine exs_cons (ex_append (ds := w0.map .int) (by rw [← hw0]; rfl) rfl rfl (fun _ => rfl) rfl (fun _ => rfl) (ev_bin op_add_int ev_int.w (ev_call (eg_of h (by kernel_rfl) rfl rfl) keep_builtin (.cons (fun _ => rfl) (EV.w ?_) .nil) (fn_sum (k := k + 3) (xs := (List.range (n + 1)).map fun i => t1.getD i 0 * w0.getD (n - i) 0))).w) (by rw [List.length_map, hw0l, sizeLine_eq]; omega)) ?_
  · rw [List.map_map]
    refine ev_mapx (xs := List.range (n + 1)) (a := fun i : Nat => D.int (i : Int)) (fun d => .int (t1.getD (intOf d).toNat 0 * w0.getD (n - (intOf d).toNat) 0)) (fun _ _ => rfl) (compOk_of rfl (by kernel_rfl)) (ei_rangeN (n := n + 1) (hn1 ▸ ev_call (eg_of h (by kernel_rfl) rfl rfl) keep_type (.cons (fun _ => rfl) (ev_bin op_add_int (ev_name rfl rfl rfl).w ev_int.w).w .nil) fn_range1) (by omega)) (fun i hi => ?_) (by rw [List.length_range, sizeLine_eq]; omega) (fun _ _ => rfl)
    have hi' : i < n + 1 := List.mem_range.mp hi
    have hti : t1.getD i 0 ∈ t1 := by rw [List.getD_eq_getElem?_getD, List.getElem?_eq_getElem (by omega)]; exact List.getElem_mem _
    have hb := htops _ hti
    refine ev_bin (op_mul_int (by omega)) (ev_item (ew_own rfl rfl rfl) (ev_name rfl rfl rfl).w (by omega) (ints_get (by omega)) (by rw [List.length_map, ht1l, sizeLine_eq]; omega)).w
      (ev_item (n := ((n - i : Nat) : Int)) (ew_own (ds := w0.map .int) (by rw [← hw0]; rfl) rfl rfl) (hsub i hi' ▸ ev_bin op_sub_int (ev_name rfl rfl rfl).w (ev_name rfl rfl rfl).w).w (by omega) (ints_get (by omega)) (by rw [List.length_map, hw0l, sizeLine_eq]; omega)).w
  rw [show w0.map D.int ++ [D.int (1 + ((List.range (n + 1)).map fun i => t1.getD i 0 * w0.getD (n - i) 0).sum)] = w1.map .int by rw [hw1', List.map_append]; rfl]
  refine exs_cons (ex_ownList .nil (by simp) (.inl rfl)) ?_
  have hwn := hws (n + 1) (by omega)
  obtain ⟨W, hW⟩ : ∃ W : Nat, w1.getD (n + 1) 0 = W := ⟨(w1.getD (n + 1) 0).toNat, (Int.toNat_of_nonneg (by omega)).symm⟩
  rw [hW] at hdig
  have hw1S : (w1.map D.int).length ≤ sizeLine := by rw [List.length_map, hw1l, sizeLine_eq]; omega
  have hWl : W ≤ 1000 := by omega
  let words : List (List Nat) := (List.range W).map fun i : Nat => writeOf sg w1 n (i : Int)
  have hwl : words.length = W := by simp [words]
  let rest1 : Sig := (Str.ofString "weights", true, .list (w1.map .int)) :: (Str.ofString "tops", true, .list (t1.map .int)) :: (Str.ofString "n", false, .int (n : Int)) :: (Str.ofString "pages", true, Dss ((List.range (n + 1)).map (writPage lesser sg))) :: base
  let τ2 : Nat → Sig := fun j => (Str.ofString "page", true, .list ((words.take j).map .str)) :: rest1
  refine exs_cons (ex_for τ2 W (out := .next (τ2 W)) (ei_rangeN (n := W) (hW ▸ ev_call (eg_of h (by kernel_rfl) rfl rfl) keep_type (.cons (fun _ => rfl) (ev_item (ew_own rfl rfl rfl) (ev_bin op_add_int (ev_name rfl rfl rfl).w ev_int.w).w (by omega) (ints_get (i := n + 1) (by omega)) hw1S).w .nil) fn_range1) (by omega)) (.inl rfl) (look_w ⟨rfl, rfl, rfl, rfl, rfl, rfl, rfl, rfl, trivial⟩) (by simp) (fun j d hj hd => ?_) (.inl ⟨by simp, rfl⟩) (fun _ _ => rfl)) ?_
  · rw [List.getElem?_map, List.getElem?_range hj] at hd
    cases hd
    let τ3 : Nat → Sig := fun i => (Str.ofString "word", false, .str (wordOf sg (digits w1 n (j : Int) i).1)) :: (Str.ofString "rest", false, .int (digits w1 n (j : Int) i).2) :: τ2 j
    refine exs_cons (ex_assign (ev_str (cs := []) rfl) (.inl rfl) (fun _ _ => rfl)) ?_
    refine exs_cons (ex_assign (ev_name rfl rfl rfl) (.inl rfl) (fun _ _ => rfl)) ?_
    refine exs_cons (ex_for τ3 (n + 1) (out := .next (τ3 (n + 1))) (ei_rangeN (n := n + 1) (hn1 ▸ ev_call (eg_of h (by kernel_rfl) rfl rfl) keep_type (.cons (fun _ => rfl) (ev_bin op_add_int (ev_name rfl rfl rfl).w ev_int.w).w .nil) fn_range1) (by omega)) (.inl rfl) (look_w ⟨rfl, rfl, rfl, rfl, rfl, rfl, rfl, rfl, rfl, rfl, trivial⟩) (by simp) (fun i d hi hd => ?_) (.inl ⟨by simp, rfl⟩) (fun _ _ => rfl)) ?_
    · rw [List.getElem?_map, List.getElem?_range hi] at hd
      cases hd
      have hi' : i < n + 1 := hi
      obtain ⟨p, hp⟩ : ∃ p, digits w1 n (j : Int) i = p := ⟨_, rfl⟩
      have hwi := hws (n - i) (by omega)
      have hdm : p.2.fdiv (w1.getD (n - i) 0) ∈ (digits w1 n (j : Int) (n + 1)).1 := digits_mem (i := i + 1) (by show _ ∈ (_ ++ [_]); rw [hp]; simp) (by omega)
      have hf := hdig j (by simpa using hj) _ hdm
      have hpl : p.1.length = i := by rw [← hp]; exact digits_len w1 n (j : Int) i
      have hd1 : digits w1 n (j : Int) (i + 1) = (p.1 ++ [p.2.fdiv (w1.getD (n - i) 0)], p.2.fmod (w1.getD (n - i) 0)) := by rw [← hp]; rfl
      have ewt : ∀ {σ : Sig} {p1 p2 p3 p4 p5 : Pos}, σ.lookup (Str.ofString "weights") = some (true, .list (w1.map .int)) → σ.lookup (Str.ofString "n") = some (false, .int (n : Int)) → σ.lookup (Str.ofString "k") = some (false, .int (i : Int)) →
          EV c (k + 4) (fdOf (K39 c.w.params) 130).scope.names σ (.Subscript (.Name (Str.ofString "weights") p1) (.BinOp (.Name (Str.ofString "n") p2) .Sub (.Name (Str.ofString "k") p3) p4) p5) (.int (w1.getD (n - i) 0)) := fun l1 l2 l3 =>
        ev_item (n := ((n - i : Nat) : Int)) (ew_own l1 rfl rfl) (hsub i hi' ▸ ev_bin op_sub_int (ev_name l2 rfl rfl).w (ev_name l3 rfl rfl).w).w (by omega) (ints_get (by omega)) hw1S
      have hw0' : w1.getD (n - i) 0 ≠ 0 := by omega
      have hwb : (w1.getD (n - i) 0).natAbs < 2 ^ 64 := by omega
      refine exs_cons (ex_augStr (a := wordOf sg p.1) (b := [sg.getD (p.2.fdiv (w1.getD (n - i) 0)).toNat 0]) (by rw [← hp]; rfl) (.inl rfl) rfl (ev_sitem (ev_name rfl rfl rfl).w (ev_bin (op_div_int hw0' (pylong_small hwb)) (ev_name (d := .int p.2) (by rw [← hp]; rfl) rfl rfl).w (ewt rfl rfl rfl).w).w hf.1 (sgn_get hsl hf) (by rw [hsl, sizeLine_eq]; omega)) (by rw [wordOf_len, hpl, sizeLine_eq]; simp; omega)) ?_
      refine exs_weakOut (look_w ?_) (exs_cons (ex_assign (ev_bin (op_mod_int hw0') (ev_name (d := .int p.2) (by rw [← hp]; rfl) rfl rfl).w (ewt rfl rfl rfl).w) (.inl rfl) (fun _ _ => rfl)) exs_nil)
      refine ⟨?_, ?_, rfl, rfl, rfl, rfl, rfl, rfl, rfl, rfl, trivial⟩
      · show some (false, D.str (wordOf sg p.1 ++ [sg.getD (p.2.fdiv (w1.getD (n - i) 0)).toNat 0])) = some (false, D.str (wordOf sg (digits w1 n (j : Int) (i + 1)).1))
        rw [hd1]; unfold wordOf; rw [List.map_append]; rfl
      · show some (false, D.int (p.2.fmod (w1.getD (n - i) 0))) = some (false, D.int (digits w1 n (j : Int) (i + 1)).2)
        rw [hd1]
    · refine exs_weakOut (look_w (σ1 := (Str.ofString "page", true, .list ((words.take j).map .str ++ [.str (wordOf sg (digits w1 n (j : Int) (n + 1)).1)])) :: τ3 (n + 1)) ?_) (exs_cons (ex_append rfl rfl rfl (fun _ => rfl) rfl (fun _ => rfl) (ev_name rfl rfl rfl) (by rw [List.length_map, List.length_take, hwl, sizeLine_eq]; omega)) exs_nil)
      refine ⟨?_, rfl, rfl, rfl, rfl, rfl, rfl, rfl, trivial⟩
      show some (true, D.list ((words.take j).map .str ++ [.str (wordOf sg (digits w1 n (j : Int) (n + 1)).1)])) = some (true, D.list ((words.take (j + 1)).map .str))
      rw [List.take_add_one, show words[j]? = some (writeOf sg w1 n (j : Int)) by show ((List.range W).map fun i : Nat => writeOf sg w1 n (i : Int))[j]? = _; rw [List.getElem?_map, List.getElem?_range (by simpa using hj)]; rfl, List.map_append]; rfl
  · refine exs_weakOut (look_w (σ1 := (Str.ofString "pages", true, .list ((((List.range (n + 1)).map (writPage lesser sg)).map fun r => D.list (r.map .str)) ++ [.list ((words.take W).map .str)])) :: (Str.ofString "page", false, .list ((words.take W).map .str)) :: τ2 W) ?_) (exs_cons (ex_appendMove rfl rfl (by decide) rfl rfl rfl rfl rfl (fun _ => rfl) ?_) exs_nil)
    · refine ⟨?_, ?_, ?_, rfl, rfl, rfl, trivial⟩
      · show some (true, D.list (t1.map .int)) = some (true, D.list ((topsAt lesser (n + 1)).map .int))
        rw [ht1]
      · show some (true, D.list (w1.map .int)) = some (true, D.list ((weightsAt lesser (n + 1)).map .int))
        rw [hw1]
      · show some (true, D.list ((((List.range (n + 1)).map (writPage lesser sg)).map fun r => D.list (r.map .str)) ++ [.list ((words.take W).map .str)])) = some (true, D.list (((List.range (n + 1 + 1)).map (writPage lesser sg)).map fun r => D.list (r.map .str)))
        rw [List.range_succ (n := n + 1), List.map_append, List.map_append]
        have e : words.take W = writPage lesser sg (n + 1) := by
          rw [← hwl, List.take_length]
          show _ = (List.range ((weightsAt lesser (n + 1)).getD (n + 1) 0).toNat).map fun i : Nat => writeOf sg (weightsAt lesser (n + 1)) n (i : Int)
          rw [hw1, hW]; rfl
        rw [e]; rfl
    · rw [List.length_map, List.length_map, List.length_range, sizeLine_eq]; omega
end
end Mine
end
section
open PySem PySem.W PyProof.Rows
namespace Mine
/-! the plain law: figures instead of signs -/
noncomputable def beats : List Int → List Int → Bool
  | a :: r, b :: s => decide (a < b) || (a == b && beats r s)
  | _, _ => false
noncomputable def anyBeats (r fs : List Int) : Bool := (List.range (fs.length + 1)).any fun i => beats r (fs.drop i)
theorem beats_nil (r : List Int) : beats r [] = false := by cases r <;> rfl
theorem Figs.tail {b : Int} {s : List Int} (h : Figs (b :: s)) : Figs s := fun f hf => h f (List.mem_cons_of_mem _ hf)
theorem Figs.drop {s : List Int} (h : Figs s) (n : Nat) : Figs (s.drop n) := fun f hf => h f (List.mem_of_mem_drop hf)
theorem Figs.snoc {s : List Int} (h : Figs s) {f : Int} (h0 : 0 ≤ f) (h3 : f < 3) : Figs (s ++ [f]) := fun g hg => by
  rcases List.mem_append.mp hg with m | m
  · exact h g m
  · rw [List.mem_singleton.mp m]; exact ⟨h0, h3⟩
theorem beats_iff : ∀ (r s : List Int), Figs s → (beats r s = true ↔ ∃ (i : Nat) (f : Int), i < r.length ∧ r.getD i 0 < f ∧ f < 3 ∧ s.take (i + 1) = r.take i ++ [f])
  | [], s, _ => by simp [beats]
  | a :: r, [], _ => by simp [beats]
  | a :: r, b :: s, hf => by
    have ih := beats_iff r s hf.tail
    have hb := hf b List.mem_cons_self
    unfold beats
    simp only [Bool.or_eq_true, Bool.and_eq_true, decide_eq_true_eq, beq_iff_eq, ih]
    constructor
    · rintro (h | ⟨rfl, i, f, h1, h2, h3, h4⟩)
      · exact ⟨0, b, by simp, by simpa using h, hb.2, by simp⟩
      · exact ⟨i + 1, f, by simpa using h1, by simpa using h2, h3, by simp [h4]⟩
    · rintro ⟨i, f, h1, h2, h3, h4⟩
      cases i with
      | zero =>
        left
        simp at h2 h4
        omega
      | succ i =>
        right
        simp at h1 h2 h4
        exact ⟨h4.1.symm, i, f, h1, by simpa using h2, h3, h4.2⟩
theorem ltI_asymm : ∀ (a b : List Int), ltI a b = true → ltI b a = false
  | [], [], h => by cases h
  | [], _ :: _, _ => rfl
  | _ :: _, [], h => by cases h
  | a :: l, b :: m, h => by
    unfold ltI at h ⊢
    by_cases e : a = b
    · subst e
      rw [if_pos rfl] at h ⊢
      exact ltI_asymm l m h
    · rw [if_neg e] at h
      rw [if_neg (Ne.symm e)]
      have := of_decide_eq_true h
      exact decide_eq_false (by omega)
theorem beats_mono : ∀ (r1 r2 s : List Int), Figs r1 → Figs r2 → ltI (r2 ++ [9]) (r1 ++ [9]) = false → beats r2 s = true → beats r1 s = true
  | _, [], s, _, _, _, h => by simp [beats] at h
  | [], c :: r2, s, _, f2, hl, _ => by
    have := f2 c List.mem_cons_self
    simp only [List.nil_append, List.cons_append, ltI] at hl
    rw [if_neg (by omega)] at hl
    have := of_decide_eq_false hl
    omega
  | a :: r1, c :: r2, [], _, _, _, h => by simp [beats] at h
  | a :: r1, c :: r2, b :: s, f1, f2, hl, h => by
    unfold beats at h ⊢
    simp only [List.cons_append, ltI] at hl
    simp only [Bool.or_eq_true, Bool.and_eq_true, decide_eq_true_eq, beq_iff_eq] at h ⊢
    by_cases e : c = a
    · subst e
      rw [if_pos rfl] at hl
      rcases h with h | ⟨h1, h2⟩
      · exact .inl h
      · exact .inr ⟨h1, beats_mono r1 r2 s f1.tail f2.tail hl h2⟩
    · rw [if_neg e] at hl
      have := of_decide_eq_false hl
      rcases h with h | ⟨h1, h2⟩
      · exact .inl (by omega)
      · exact .inl (by omega)
theorem beats_up : ∀ (r s t : List Int), ltI t s = false → beats r s = true → beats r t = true
  | [], s, t, _, h => by simp [beats] at h
  | a :: r, [], t, _, h => by simp [beats] at h
  | a :: r, b :: s, [], hl, _ => by cases hl
  | a :: r, b :: s, d :: t, hl, h => by
    unfold ltI at hl
    unfold beats at h ⊢
    simp only [Bool.or_eq_true, Bool.and_eq_true, decide_eq_true_eq, beq_iff_eq] at h ⊢
    by_cases e : d = b
    · subst e
      rw [if_pos rfl] at hl
      rcases h with h | ⟨h1, h2⟩
      · exact .inl h
      · exact .inr ⟨h1, beats_up r s t hl h2⟩
    · rw [if_neg e] at hl
      have := of_decide_eq_false hl
      rcases h with h | ⟨h1, h2⟩
      · exact .inl (by omega)
      · exact .inl (by omega)
theorem beats_take : ∀ (r t : List Int), ltI (r.take (t.take r.length).length) (t.take r.length) = beats r t
  | [], t => by simp [ltI, beats]
  | a :: r, [] => by simp [ltI, beats]
  | a :: r, b :: t => by
    have ih := beats_take r t
    simp only [List.length_cons, List.take_succ_cons]
    unfold ltI beats
    by_cases e : a = b
    · subst e
      rw [if_pos rfl, ih]
      simp
    · rw [if_neg e]
      simp [e]
theorem anyBeats_iff (r fs : List Int) : anyBeats r fs = true ↔ ∃ i, i ≤ fs.length ∧ beats r (fs.drop i) = true := by
  unfold anyBeats
  rw [List.any_eq_true]
  constructor
  · rintro ⟨i, hi, h⟩; exact ⟨i, by have := List.mem_range.mp hi; omega, h⟩
  · rintro ⟨i, hi, h⟩; exact ⟨i, List.mem_range.mpr (by omega), h⟩
noncomputable def lesserOf (p1 p2 : List Int) : List Int := if ltI (p2 ++ [9]) (p1 ++ [9]) then p2 else p1
theorem anyBeats_mono {r1 r2 fs : List Int} (f1 : Figs r1) (f2 : Figs r2) (hl : ltI (r2 ++ [9]) (r1 ++ [9]) = false) (h : anyBeats r2 fs = true) : anyBeats r1 fs = true := by
  obtain ⟨i, hi, hb⟩ := (anyBeats_iff _ _).mp h
  exact (anyBeats_iff _ _).mpr ⟨i, hi, beats_mono r1 r2 _ f1 f2 hl hb⟩
theorem free_lesser {p1 p2 : List Int} (f1 : Figs p1) (f2 : Figs p2) (fs : List Int) : (!anyBeats p1 fs && !anyBeats p2 fs) = !anyBeats (lesserOf p1 p2) fs := by
  unfold lesserOf
  cases hl : ltI (p2 ++ [9]) (p1 ++ [9]) with
  | true =>
    rw [if_pos rfl]
    have := anyBeats_mono (fs := fs) f2 f1 (ltI_asymm _ _ hl)
    cases h1 : anyBeats p1 fs with
    | false => simp
    | true => rw [this h1]; rfl
  | false =>
    rw [if_neg (by simp)]
    have := anyBeats_mono (fs := fs) f1 f2 hl
    cases h2 : anyBeats p2 fs with
    | false => simp
    | true => rw [this h2]; rfl
/-! signs -/
structure SgOk (sg dr : List Nat) : Prop where
  s3 : sg.length = 3
  d3 : dr.length = 3
  low : ∀ f, f < 3 → lo1 (dr.getD f 0) = lo1 (sg.getD f 0)
  inj : ∀ f, f < 3 → ∀ g, g < 3 → lo1 (sg.getD f 0) = lo1 (sg.getD g 0) → f = g
  mono : ∀ f, f < 3 → ∀ g, g < 3 → f < g → sg.getD f 0 < sg.getD g 0
  top : ∀ f, f < 3 → sg.getD f 0 < 126 ∧ sg.getD f 0 ≠ 47 ∧ dr.getD f 0 < 128
  asc : ∀ x ∈ sg, x < 128
  st : ∀ f, f < 3 → 1 ≤ f → dr.getD f 0 ≠ 42 ∧ sg.getD f 0 ≠ 42
noncomputable def signsL : List (List Nat × List Nat) := [([65, 66, 67], [97, 98, 99]), ([97, 98, 99], [65, 66, 67]), ([42, 43, 45], [42, 43, 45]), ([45, 66, 97], [45, 98, 65])]
theorem sgOk_all : ∀ p ∈ signsL, SgOk p.1 p.2 := by
  intro p hp
  simp only [signsL, List.mem_cons, List.not_mem_nil, or_false] at hp
  rcases hp with rfl | rfl | rfl | rfl <;> exact ⟨rfl, rfl, by decide, by decide, by decide, by decide, by decide, by decide⟩
section
variable {sg dr : List Nat} (o : SgOk sg dr)
include o
theorem fig3 {f : Int} (h : 0 ≤ f ∧ f < 3) : f.toNat < 3 := by omega
theorem low_word {fs : List Int} (hf : Figs fs) : (wordOf dr fs).map lo1 = (wordOf sg fs).map lo1 := by
  unfold wordOf
  rw [List.map_map, List.map_map]
  exact List.map_congr_left fun f hm => o.low _ (fig3 o (hf f hm))
theorem lw_inj : ∀ {a b : List Int}, Figs a → Figs b → (wordOf sg a).map lo1 = (wordOf sg b).map lo1 → a = b
  | [], [], _, _, _ => rfl
  | [], _ :: _, _, _, h => by cases h
  | _ :: _, [], _, _, h => by cases h
  | x :: a, y :: b, fa, fb, h => by
    have h1 : lo1 (sg.getD x.toNat 0) = lo1 (sg.getD y.toNat 0) := (List.cons.inj h).1
    have h2 : (wordOf sg a).map lo1 = (wordOf sg b).map lo1 := (List.cons.inj h).2
    have hx := fa x List.mem_cons_self
    have hy := fb y List.mem_cons_self
    have := o.inj _ (fig3 o hx) _ (fig3 o hy) h1
    rw [lw_inj fa.tail fb.tail h2, show x = y by omega]
theorem inStr_word {g fs : List Int} (hg : Figs g) (hf : Figs fs) : inStr ((wordOf sg g).map lo1) ((wordOf sg fs).map lo1) = (List.range (fs.length + 1)).any fun i => (fs.drop i).take g.length == g := by
  unfold inStr
  rw [List.length_map, List.length_map, wordOf_len, wordOf_len]
  congr 1
  funext i
  have e : (((wordOf sg fs).map lo1).drop i).take g.length = (wordOf sg ((fs.drop i).take g.length)).map lo1 := by
    unfold wordOf
    rw [List.map_take, List.map_drop, List.map_take, List.map_drop]
  rw [e, Bool.eq_iff_iff, beq_iff_eq, beq_iff_eq]
  constructor
  · exact fun h => lw_inj o ((hf.drop i).take _) hg h
  · exact fun h => by rw [h]
theorem word_no47 {fs : List Int} (hf : Figs fs) : 47 ∉ wordOf sg fs := by
  intro h
  obtain ⟨f, hm, e⟩ := List.mem_map.mp h
  exact (o.top _ (fig3 o (hf f hm))).2.1 e
theorem appl_rec {r fs : List Int} (hr : Figs r) (hf : Figs fs) (x : Nat) : appl (recUpTo dr r r.length) (wordOf sg fs ++ [47] ++ List.replicate 4 x) = anyBeats r fs := by
  have hah : ahead 47 (wordOf sg fs ++ [47] ++ List.replicate 4 x) = wordOf sg fs := by
    rw [List.append_assoc]
    exact ahead_of (word_no47 o hf)
  have rfig : ∀ i, i < r.length → 0 ≤ r.getD i 0 ∧ r.getD i 0 < 3 := fun i hi => by
    rw [List.getD_eq_getElem?_getD, List.getElem?_eq_getElem hi]; exact hr _ (List.getElem_mem hi)
  unfold appl
  rw [hah, Bool.eq_iff_iff, List.any_eq_true, anyBeats_iff]
  constructor
  · rintro ⟨g, hg, hh⟩
    unfold hit at hh
    obtain ⟨h1, h2⟩ := Bool.and_eq_true_iff.mp hh
    unfold recUpTo at hg
    rcases List.mem_cons.mp hg with rfl | hg
    · simp [star] at h1
    · obtain ⟨l, hl, hgl⟩ := List.mem_flatten.mp hg
      obtain ⟨i, hi, rfl⟩ := List.mem_map.mp hl
      obtain ⟨j, hj, rfl⟩ := List.mem_map.mp hgl
      have hi' := List.mem_range.mp hi
      have hj' := List.mem_range.mp hj
      have hri := rfig i hi'
      have hgf : Figs (r.take i ++ [r.getD i 0 + 1 + (j : Int)]) := (hr.take i).snoc (by omega) (by omega)
      have e : (wordOf dr (r.take i) ++ [dr.getD (r.getD i 0 + 1 + (j : Int)).toNat 0]).map lo1 = (wordOf sg (r.take i ++ [r.getD i 0 + 1 + (j : Int)])).map lo1 := by
        rw [← low_word o hgf]; unfold wordOf; simp
      rw [e, inStr_word o hgf hf, List.any_eq_true] at h2
      obtain ⟨q, hq, hqe⟩ := h2
      have hq' := List.mem_range.mp hq
      refine ⟨q, by omega, (beats_iff _ _ (hf.drop q)).mpr ⟨i, r.getD i 0 + 1 + (j : Int), hi', by omega, by omega, ?_⟩⟩
      have hlen : (r.take i ++ [r.getD i 0 + 1 + (j : Int)]).length = i + 1 := by simp; omega
      rw [hlen] at hqe
      exact eq_of_beq hqe
  · rintro ⟨q, hq, hb⟩
    obtain ⟨i, f, hi, h1, h2, h3⟩ := (beats_iff _ _ (hf.drop q)).mp hb
    have hri := rfig i hi
    have hgf : Figs (r.take i ++ [f]) := (hr.take i).snoc (by omega) h2
    have hj : r.getD i 0 + 1 + ((f - r.getD i 0 - 1).toNat : Int) = f := by omega
    refine ⟨wordOf dr (r.take i) ++ [dr.getD f.toNat 0], ?_, ?_⟩
    · unfold recUpTo
      refine List.mem_cons_of_mem _ (List.mem_flatten.mpr ⟨recTurn dr r i, List.mem_map.mpr ⟨i, List.mem_range.mpr hi, rfl⟩, ?_⟩)
      unfold recTurn
      exact List.mem_map.mpr ⟨(f - r.getD i 0 - 1).toNat, List.mem_range.mpr (by omega), by rw [hj]⟩
    · unfold hit
      rw [Bool.and_eq_true_iff]
      constructor
      · rw [bne_iff_ne]
        intro e
        have := congrArg List.getLast? e
        simp [star] at this
        exact (o.st f.toNat (by omega) (by omega)).1 (by simpa using this)
      · have e : (wordOf dr (r.take i) ++ [dr.getD f.toNat 0]).map lo1 = (wordOf sg (r.take i ++ [f])).map lo1 := by
          rw [← low_word o hgf]; unfold wordOf; simp
        rw [e, inStr_word o hgf hf, List.any_eq_true]
        have hlen : (r.take i ++ [f]).length = i + 1 := by simp; omega
        exact ⟨q, List.mem_range.mpr (by omega), by rw [hlen, h3]; exact beq_self_eq_true _⟩
end
end Mine
end
section
open PySem PySem.W PyProof.Rows
namespace Mine
/-! pages of figures -/
noncomputable def figNext (r w : List Int) : List (List Int) := [w ++ [2], w ++ [1], w ++ [0]].filter fun x => !anyBeats r x
noncomputable def figPage (r : List Int) : Nat → List (List Int)
  | 0 => [[]]
  | n + 1 => ((figPage r n).map (figNext r)).flatten
theorem figPage_figs (r : List Int) : ∀ n, ∀ w ∈ figPage r n, Figs w ∧ w.length = n
  | 0, w, hw => by
    have : w = [] := by simpa [figPage] using hw
    subst this
    exact ⟨nofun, rfl⟩
  | n + 1, w, hw => by
    unfold figPage at hw
    obtain ⟨l, hl, hwl⟩ := List.mem_flatten.mp hw
    obtain ⟨v, hv, rfl⟩ := List.mem_map.mp hl
    obtain ⟨h1, h2⟩ := figPage_figs r n v hv
    have h3 := (List.mem_filter.mp hwl).1
    simp only [List.mem_cons, List.not_mem_nil, or_false] at h3
    rcases h3 with rfl | rfl | rfl
    · exact ⟨h1.snoc (by omega) (by omega), by simp [h2]⟩
    · exact ⟨h1.snoc (by omega) (by omega), by simp [h2]⟩
    · exact ⟨h1.snoc (by omega) (by omega), by simp [h2]⟩
noncomputable def recAll (dr : List Nat) (fs : List Int) : List (List Nat) := recUpTo dr fs fs.length
section
variable {sg dr : List Nat} (o : SgOk sg dr)
include o
theorem okName_word {p1 p2 fs : List Int} (f1 : Figs p1) (f2 : Figs p2) (hf : Figs fs) : okName [recAll dr p1, recAll dr p2] sg (wordOf sg fs) = [anyBeats p1 fs, anyBeats p2 fs] := by
  unfold okName recAll
  rw [List.map_cons, List.map_cons, List.map_nil, appl_rec o f1 hf, appl_rec o f2 hf]
theorem isFree_word {p1 p2 fs : List Int} (f1 : Figs p1) (f2 : Figs p2) (hf : Figs fs) : isFree [recAll dr p1, recAll dr p2] sg (wordOf sg fs) = !anyBeats (lesserOf p1 p2) fs := by
  unfold isFree
  rw [okName_word o f1 f2 hf, ← free_lesser f1 f2]
  cases anyBeats p1 fs <;> cases anyBeats p2 fs <;> rfl
theorem three_word (w : List Int) : three sg (wordOf sg w) = [w ++ [2], w ++ [1], w ++ [0]].map (wordOf sg) := by
  unfold three wordOf
  simp
theorem page_fig {p1 p2 : List Int} (f1 : Figs p1) (f2 : Figs p2) : ∀ n, pageAt [recAll dr p1, recAll dr p2] sg n = (figPage (lesserOf p1 p2) n).map (wordOf sg)
  | 0 => rfl
  | n + 1 => by
    unfold pageAt figPage
    rw [page_fig f1 f2 n, List.map_map, List.map_flatten, List.map_map]
    congr 1
    refine List.map_congr_left fun w hw => ?_
    obtain ⟨h1, h2⟩ := figPage_figs _ n w hw
    show (three sg (wordOf sg w)).filter _ = (figNext _ w).map (wordOf sg)
    rw [three_word o, List.filter_map]
    unfold figNext
    congr 1
    refine List.filter_congr fun x hx => ?_
    have hx' : Figs x := by
      simp only [List.mem_cons, List.not_mem_nil, or_false] at hx
      rcases hx with rfl | rfl | rfl <;> exact h1.snoc (by omega) (by omega)
    exact isFree_word o f1 f2 hx'
theorem lt_word : ∀ (a b : List Int), Figs a → Figs b → ltS (wordOf sg a) (wordOf sg b) = ltI a b
  | [], [], _, _ => rfl
  | [], _ :: _, _, _ => rfl
  | _ :: _, [], _, _ => rfl
  | x :: a, y :: b, fa, fb => by
    have hx := fa x List.mem_cons_self
    have hy := fb y List.mem_cons_self
    show (if sg.getD x.toNat 0 = sg.getD y.toNat 0 then ltS (wordOf sg a) (wordOf sg b) else decide (sg.getD x.toNat 0 < sg.getD y.toNat 0)) = if x = y then ltI a b else decide (x < y)
    have hm := o.mono x.toNat (by omega) y.toNat (by omega)
    have hm2 := o.mono y.toNat (by omega) x.toNat (by omega)
    by_cases e : x = y
    · subst e
      rw [if_pos rfl, if_pos rfl, lt_word a b fa.tail fb.tail]
    · rw [if_neg e]
      rcases Int.lt_or_gt_of_ne e with l | l
      · have := hm (by omega)
        rw [if_neg (by omega), decide_eq_true l, decide_eq_true this]
      · have := hm2 (by omega)
        rw [if_neg (by omega), decide_eq_false (by omega), decide_eq_false (by omega)]
theorem ltw {a b : List Int} (fa : Figs a) (fb : Figs b) : wordOf sg a < wordOf sg b ↔ ltI a b = true := by
  rw [← lt_word o a b fa fb, ltS_eq, decide_eq_true_iff]
omit o in
theorem ltS_asymm : ∀ (a b : List Nat), ltS a b = true → ltS b a = false
  | [], [], h => by cases h
  | [], _ :: _, _ => rfl
  | _ :: _, [], h => by cases h
  | a :: l, b :: m, h => by
    unfold ltS at h ⊢
    by_cases e : a = b
    · subst e
      rw [if_pos rfl] at h ⊢
      exact ltS_asymm l m h
    · rw [if_neg e] at h
      rw [if_neg (Ne.symm e)]
      have := of_decide_eq_true h
      exact decide_eq_false (by omega)
omit o in
theorem coll_eq (x y : List Nat) : coll x y = b2i (ltS y x) - b2i (ltS x y) := by unfold coll; rw [ltS_eq, ltS_eq]
omit o in
theorem coll_one (x y : List Nat) : (coll x y == 1) = ltS y x := by
  rw [coll_eq]
  cases h : ltS y x with
  | true => rw [ltS_asymm _ _ h]; rfl
  | false => cases ltS x y <;> rfl
omit o in
theorem ltS_conn : ∀ (a b : List Nat), ltS a b = false → ltS b a = false → a = b
  | [], [], _, _ => rfl
  | [], _ :: _, h, _ => by cases h
  | _ :: _, [], _, h => by cases h
  | a :: l, b :: m, h, g => by
    unfold ltS at h g
    by_cases e : a = b
    · subst e
      rw [if_pos rfl] at h g
      rw [ltS_conn l m h g]
    · rw [if_neg e] at h
      rw [if_neg (Ne.symm e)] at g
      have := of_decide_eq_false h
      have := of_decide_eq_false g
      omega
omit o in
theorem ltS_irrefl : ∀ a : List Nat, ltS a a = false
  | [] => rfl
  | a :: l => by unfold ltS; rw [if_pos rfl]; exact ltS_irrefl l
omit o in
theorem coll_zero (x y : List Nat) : (coll x y == 0) = (x == y) := by
  rw [coll_eq, Bool.eq_iff_iff, beq_iff_eq, beq_iff_eq]
  constructor
  · intro h
    cases h1 : ltS y x with
    | true => rw [h1, ltS_asymm _ _ h1] at h; cases h
    | false =>
      cases h2 : ltS x y with
      | true => rw [h1, h2] at h; cases h
      | false => exact ltS_conn x y h2 h1
  · rintro rfl
    rw [ltS_irrefl]; rfl
omit o in
theorem coll_less {x y : List Nat} (h : ltS x y = true) : coll x y = -1 := by rw [coll_eq, h, ltS_asymm _ _ h]; rfl
theorem top_word {fs : List Int} (hf : Figs fs) {n : Nat} (hn : fs.length = n + 1) : ∃ i, i ≤ n ∧ topOf (wordOf sg fs) n = wordOf sg (fs.drop i) ∧ ∀ j, j ≤ n → ltI (fs.drop i) (fs.drop j) = false := by
  obtain ⟨l, hl⟩ : ∃ l, (List.range (n + 1)).map (fun i => (wordOf sg fs).drop i) = l := ⟨_, rfl⟩
  have hll : (sortS l).length = n + 1 := by rw [(sortS_perm l).length_eq, ← hl]; simp
  have ht : topOf (wordOf sg fs) n = (sortS l)[n]'(by omega) := by
    unfold topOf
    rw [hl, List.getD_eq_getElem?_getD, List.getElem?_eq_getElem (by omega)]; rfl
  have hdw : ∀ i, (wordOf sg fs).drop i = wordOf sg (fs.drop i) := fun i => by unfold wordOf; rw [List.map_drop]
  have hm : (sortS l)[n]'(by omega) ∈ l := (sortS_perm l).mem_iff.mp (List.getElem_mem _)
  have hmem : ∀ z, z ∈ l ↔ ∃ i ∈ List.range (n + 1), (wordOf sg fs).drop i = z := fun z => by rw [← hl]; exact List.mem_map
  obtain ⟨i, hi, he⟩ := (hmem _).mp hm
  refine ⟨i, by have := List.mem_range.mp hi; omega, by rw [ht, ← he, hdw], fun j hj => ?_⟩
  have hmj : (wordOf sg fs).drop j ∈ sortS l := (sortS_perm l).mem_iff.mpr ((hmem _).mpr ⟨j, List.mem_range.mpr (by omega), rfl⟩)
  obtain ⟨q, hq, hqe⟩ := List.mem_iff_getElem.mp hmj
  have hle : LeS ((sortS l)[q]'hq) ((sortS l)[n]'(by omega)) := by
    rcases Nat.lt_or_ge q n with hlt | hge
    · exact List.pairwise_iff_getElem.mp (sortS_sorted l) q n hq (by omega) hlt
    · have : q = n := by omega
      subst this
      intro h
      have := ltS_irrefl ((sortS l)[q]'hq)
      rw [ltS_eq] at this
      exact of_decide_eq_false this h
  rw [hqe, ← he, hdw, hdw] at hle
  cases hc : ltI (fs.drop i) (fs.drop j) with
  | false => rfl
  | true => exact absurd ((ltw o (hf.drop i) (hf.drop j)).mpr hc) hle
theorem due_one {fs r : List Int} (hf : Figs fs) (hr : Figs r) {n : Nat} (hn : fs.length = n + 1) :
    (coll ((topOf (wordOf sg fs) n).take (wordOf sg r).length) ((wordOf sg r).take ((topOf (wordOf sg fs) n).take (wordOf sg r).length).length) == 1) = anyBeats r fs := by
  obtain ⟨i, hi, ht, hmax⟩ := top_word o hf hn
  have htk : ∀ (a : List Int) m, (wordOf sg a).take m = wordOf sg (a.take m) := fun a m => by unfold wordOf; rw [List.map_take]
  rw [coll_one, ht, wordOf_len, htk, htk, wordOf_len, lt_word o _ _ (hr.take _) ((hf.drop i).take _), beats_take, Bool.eq_iff_iff, anyBeats_iff]
  constructor
  · exact fun h => ⟨i, by omega, h⟩
  · rintro ⟨j, hj, hb⟩
    rcases Nat.lt_or_ge n j with hlt | hge
    · rw [List.drop_eq_nil_of_le (by omega), beats_nil] at hb; cases hb
    · exact beats_up r _ _ (hmax j hge) hb
theorem due_word {p1 p2 fs : List Int} (f1 : Figs p1) (f2 : Figs p2) (hf : Figs fs) {n : Nat} (hn : fs.length = n + 1) : dueOf [wordOf sg p1, wordOf sg p2] (wordOf sg fs) n = [anyBeats p1 fs, anyBeats p2 fs] := by
  unfold dueOf
  rw [List.map_cons, List.map_cons, List.map_nil, due_one o hf f1 hn, due_one o hf f2 hn]
end
end Mine
end
section
open PySem PySem.W PyProof.Rows
namespace Mine
/-! the finite look: 80 rulers -/
noncomputable def writF (r : List Int) : Nat → List (List Int)
  | 0 => [[]]
  | n + 1 => (List.range ((weightsAt r (n + 1)).getD (n + 1) 0).toNat).map fun i : Nat => (digits (weightsAt r (n + 1)) n (i : Int) (n + 1)).1
noncomputable def wordsF : Nat → List (List Int)
  | 0 => [[]]
  | n + 1 => ([0, 1, 2] : List Int).flatMap fun f => (wordsF n).map (f :: ·)
noncomputable def rulersF : List (List Int) := ([1, 2] : List Int).flatMap fun a => ([0, 1, 2, 3] : List Nat).flatMap fun n => (wordsF n).map (a :: ·)
noncomputable def chkW (r : List Int) (n : Nat) : Bool :=
  !(candOf r (topsAt r n) n).isEmpty && ((List.range (n + 2)).all fun i => decide (1 ≤ (weightsAt r (n + 1)).getD i 0) && decide ((weightsAt r (n + 1)).getD i 0 ≤ 1000)) && (topsAt r (n + 1)).all fun t => decide (0 ≤ t) && decide (t ≤ 1000)
noncomputable def stepsUp : List (List Int) → Bool
  | a :: b :: l => ltI a b && stepsUp (b :: l)
  | _ => true
noncomputable def chkP (r : List Int) (n : Nat) : Bool := (figPage r n).reverse == writF r n && stepsUp (writF r n) && decide (1 ≤ (writF r n).length) && decide ((writF r n).length ≤ 100)
theorem chkW_all : (rulersF.all fun r => ([0, 1, 2, 3] : List Nat).all fun n => chkW r n) = true := by decide +kernel
theorem chkQ0 : ∀ a ∈ ([1, 2] : List Int), ∀ n ∈ ([0, 1, 2, 3, 4] : List Nat), chkP [a] n = true := by
  intro a ha n hn
  simp only [List.mem_cons, List.not_mem_nil, or_false] at ha hn
  rcases ha with rfl | rfl <;> rcases hn with rfl | rfl | rfl | rfl | rfl <;> as_aux_lemma => kernel_rfl
set_option maxHeartbeats 8000000 in
theorem chkQ : ∀ a ∈ ([1, 2] : List Int), ∀ f ∈ ([0, 1, 2] : List Int), ∀ m ∈ ([0, 1, 2] : List Nat), ∀ n ∈ ([0, 1, 2, 3, 4] : List Nat), ((wordsF m).all fun t => chkP (a :: f :: t) n) = true := by
  intro a ha f hf m hm n hn
  simp only [List.mem_cons, List.not_mem_nil, or_false] at ha hf hm hn
  rcases ha with rfl | rfl <;> rcases hf with rfl | rfl | rfl <;> rcases hm with rfl | rfl | rfl <;> rcases hn with rfl | rfl | rfl | rfl | rfl <;> as_aux_lemma => kernel_rfl
end Mine
end
section
open PySem PySem.W PyProof.Rows
namespace Mine
noncomputable def mergedUa (sg : List Nat) (p1 p2 : List Int) : List (List Nat) := (frontsOf sg p1 1).filter fun y => (frontsOf sg p2 (-1)).contains y
structure LawOk (p1 p2 : List Int) (sg dr : List Nat) (L : Nat) : Prop where
  L1 : 1 ≤ L ∧ L ≤ 10
  f1 : Figs p1 ∧ p1.length ≤ 100
  f2 : Figs p2 ∧ p2.length ≤ 100
  s : sg.length = 3
  d : dr.length = 3
  n1 : (frontsOf sg p1 1).length ≤ 1000
  n2 : (frontsOf sg p2 (-1)).length ≤ 1000
  ua : mergedUa sg p1 p2 = ((List.range (min p1.length p2.length)).filter fun i => coll ((wordOf sg p1).take (i + 1)) ((wordOf sg p2).take (i + 1)) == 0).map fun i => (wordOf sg p1).take (i + 1)
  star : (mergedUa sg p1 p2).contains [42] = false
  cmp : coll (wordOf sg p1 ++ [126]) (wordOf sg p2 ++ [126]) = b2i (ltI (p2 ++ [9]) (p1 ++ [9])) - b2i (ltI (p1 ++ [9]) (p2 ++ [9]))
  pg : PagesPre [recAll dr p1, recAll dr p2] sg [wordOf sg p1, wordOf sg p2] L
  wr : WPre (lesserOf p1 p2) L
  same : ∀ n ≤ L, sortS (pageAt [recAll dr p1, recAll dr p2] sg n) = writPage (lesserOf p1 p2) sg n
  fit : ∀ n ≤ L, Fit (pageAt [recAll dr p1, recAll dr p2] sg n)
  big : 1 ≤ (writPage (lesserOf p1 p2) sg L).length ∧ (writPage (lesserOf p1 p2) sg L).length ≤ 1000
  inc : ∀ i, i + 1 < (writPage (lesserOf p1 p2) sg L).length → coll ((writPage (lesserOf p1 p2) sg L).getD i []) ((writPage (lesserOf p1 p2) sg L).getD (i + 1) []) = -1
end Mine
end
section
open PySem PySem.W PyProof.Rows
namespace Mine
/-! from a ruler's figures to what law asks -/
noncomputable def isRul (fs : List Int) : Bool := match fs with
  | a :: t => (a == 1 || a == 2) && (t.all fun f => decide (0 ≤ f) && decide (f < 3)) && decide (t.length ≤ 3)
  | [] => false
theorem mem_wordsF : ∀ t : List Int, Figs t → t ∈ wordsF t.length
  | [], _ => by simp [wordsF]
  | f :: t, h => by
    have hf := h f List.mem_cons_self
    have ih := mem_wordsF t h.tail
    show f :: t ∈ ([0, 1, 2] : List Int).flatMap fun f => (wordsF t.length).map (f :: ·)
    refine List.mem_flatMap.mpr ⟨f, ?_, List.mem_map.mpr ⟨t, ih, rfl⟩⟩
    have : f = 0 ∨ f = 1 ∨ f = 2 := by omega
    rcases this with rfl | rfl | rfl <;> simp
theorem isRul_inv {fs : List Int} (h : isRul fs = true) : ∃ a t, fs = a :: t ∧ (a = 1 ∨ a = 2) ∧ Figs t ∧ t.length ≤ 3 := by
  cases fs with
  | nil => cases h
  | cons a t =>
    unfold isRul at h
    simp only [Bool.and_eq_true, Bool.or_eq_true, beq_iff_eq, decide_eq_true_eq, List.all_eq_true] at h
    exact ⟨a, t, rfl, h.1.1, fun f hf => h.1.2 f hf, h.2⟩
theorem isRul_figs {fs : List Int} (h : isRul fs = true) : Figs fs ∧ 1 ≤ fs.length ∧ fs.length ≤ 4 := by
  obtain ⟨a, t, rfl, ha, ht, hl⟩ := isRul_inv h
  refine ⟨fun f hf => ?_, by simp, by simp; omega⟩
  rcases List.mem_cons.mp hf with rfl | hf
  · omega
  · exact ht f hf
theorem isRul_mem {fs : List Int} (h : isRul fs = true) : fs ∈ rulersF := by
  obtain ⟨a, t, rfl, ha, ht, hl⟩ := isRul_inv h
  refine List.mem_flatMap.mpr ⟨a, by rcases ha with rfl | rfl <;> simp, List.mem_flatMap.mpr ⟨t.length, ?_, List.mem_map.mpr ⟨t, mem_wordsF t ht, rfl⟩⟩⟩
  have : t.length = 0 ∨ t.length = 1 ∨ t.length = 2 ∨ t.length = 3 := by omega
  rcases this with e | e | e | e <;> rw [e] <;> simp
theorem chkW_of {r : List Int} (h : isRul r = true) {n : Nat} (hn : n < 4) : chkW r n = true := by
  have := List.all_eq_true.mp (List.all_eq_true.mp chkW_all r (isRul_mem h)) n
  exact this (by have : n = 0 ∨ n = 1 ∨ n = 2 ∨ n = 3 := by omega
                 rcases this with rfl | rfl | rfl | rfl <;> simp)
theorem chkP_of {r : List Int} (h : isRul r = true) {n : Nat} (hn : n ≤ 4) : chkP r n = true := by
  obtain ⟨a, t, rfl, ha, ht, hl⟩ := isRul_inv h
  have ha' : a ∈ ([1, 2] : List Int) := by rcases ha with rfl | rfl <;> simp
  have hn' : n ∈ ([0, 1, 2, 3, 4] : List Nat) := by
    have : n = 0 ∨ n = 1 ∨ n = 2 ∨ n = 3 ∨ n = 4 := by omega
    rcases this with rfl | rfl | rfl | rfl | rfl <;> simp
  cases t with
  | nil => exact chkQ0 a ha' n hn'
  | cons f t =>
    have hf := ht f List.mem_cons_self
    have hf' : f ∈ ([0, 1, 2] : List Int) := by
      have : f = 0 ∨ f = 1 ∨ f = 2 := by omega
      rcases this with rfl | rfl | rfl <;> simp
    have hm : t.length ∈ ([0, 1, 2] : List Nat) := by
      have : t.length = 0 ∨ t.length = 1 ∨ t.length = 2 := by rw [List.length_cons] at hl; omega
      rcases this with e | e | e <;> rw [e] <;> simp
    exact List.all_eq_true.mp (chkQ a ha' f hf' t.length hm n hn') t (mem_wordsF t ht.tail)
theorem chkP_inv {r : List Int} (h : isRul r = true) {n : Nat} (hn : n ≤ 4) : (figPage r n).reverse = writF r n ∧ stepsUp (writF r n) = true ∧ 1 ≤ (writF r n).length ∧ (writF r n).length ≤ 100 := by
  have := chkP_of h hn
  unfold chkP at this
  simp only [Bool.and_eq_true, beq_iff_eq, decide_eq_true_eq] at this
  exact ⟨this.1.1.1, this.1.1.2, this.1.2, this.2⟩
theorem writPage_fig (r : List Int) (sg : List Nat) : ∀ n, writPage r sg n = (writF r n).map (wordOf sg)
  | 0 => rfl
  | n + 1 => by
    unfold writPage writF
    rw [List.map_map]
    rfl
theorem wpre_of {r : List Int} (h : isRul r = true) {L : Nat} (hL : L ≤ 4) : WPre r L := by
  obtain ⟨hf, _, hl⟩ := isRul_figs h
  refine ⟨by omega, by omega, fun n hn => ?_⟩
  have hw := chkW_of h (n := n) (by omega)
  unfold chkW at hw
  simp only [Bool.and_eq_true, Bool.not_eq_true', List.all_eq_true, decide_eq_true_eq] at hw
  obtain ⟨⟨h1, h2⟩, h3⟩ := hw
  refine ⟨fun e => (by rw [e] at h1; cases h1), fun i hi => h2 i (List.mem_range.mpr (by omega)), h3, fun i hi f hm => ?_⟩
  have hmem : (digits (weightsAt r (n + 1)) n (i : Int) (n + 1)).1 ∈ writF r (n + 1) := List.mem_map.mpr ⟨i, List.mem_range.mpr hi, rfl⟩
  rw [← (chkP_inv h (n := n + 1) (by omega)).1, List.mem_reverse] at hmem
  exact (figPage_figs r (n + 1) _ hmem).1 f hm
theorem stepsUp_at : ∀ (l : List (List Int)), stepsUp l = true → ∀ i, i + 1 < l.length → ltI (l.getD i []) (l.getD (i + 1) []) = true
  | [], _, i, hi => by simp at hi
  | [_], _, i, hi => by simp at hi
  | a :: b :: l, h, i, hi => by
    unfold stepsUp at h
    obtain ⟨h1, h2⟩ := Bool.and_eq_true_iff.mp h
    cases i with
    | zero => simpa using h1
    | succ i => simpa using stepsUp_at (b :: l) h2 i (by simpa using hi)
theorem ltI_trans : ∀ (a b d : List Int), ltI a b = true → ltI b d = true → ltI a d = true
  | [], [], _, h, _ => by cases h
  | _ :: _, [], _, h, _ => by cases h
  | _, _ :: _, [], _, h => by cases h
  | [], _ :: _, _ :: _, _, _ => rfl
  | x :: a, y :: b, z :: d, h, g => by
    unfold ltI at h g ⊢
    by_cases e1 : x = y
    · subst e1
      rw [if_pos rfl] at h
      by_cases e2 : x = z
      · subst e2
        rw [if_pos rfl] at g ⊢
        exact ltI_trans a b d h g
      · rw [if_neg e2] at g ⊢
        exact g
    · rw [if_neg e1] at h
      have := of_decide_eq_true h
      by_cases e2 : y = z
      · subst e2
        rw [if_neg e1]
        exact h
      · rw [if_neg e2] at g
        have := of_decide_eq_true g
        rw [if_neg (by omega)]
        exact decide_eq_true (by omega)
theorem stepsUp_pair : ∀ (l : List (List Int)), stepsUp l = true → l.Pairwise fun a b => ltI a b = true
  | [], _ => .nil
  | [a], _ => List.pairwise_singleton _ _
  | a :: b :: l, h => by
    unfold stepsUp at h
    obtain ⟨h1, h2⟩ := Bool.and_eq_true_iff.mp h
    have ih := stepsUp_pair (b :: l) h2
    refine .cons (fun x hx => ?_) ih
    rcases List.mem_cons.mp hx with rfl | hx
    · exact h1
    · exact ltI_trans a b x h1 (List.rel_of_pairwise_cons ih hx)
section
variable {sg dr : List Nat} (o : SgOk sg dr) {p1 p2 : List Int} (h1 : isRul p1 = true) (h2 : isRul p2 = true)
theorem lesser_rul {p1 p2 : List Int} (h1 : isRul p1 = true) (h2 : isRul p2 = true) : isRul (lesserOf p1 p2) = true := by unfold lesserOf; split <;> assumption
include o h1 h2
theorem page_rev {n : Nat} (hn : n ≤ 4) : pageAt [recAll dr p1, recAll dr p2] sg n = (writPage (lesserOf p1 p2) sg n).reverse := by
  have hl := lesser_rul h1 h2
  rw [page_fig o (isRul_figs h1).1 (isRul_figs h2).1, writPage_fig, ← (chkP_inv hl hn).1, List.map_reverse, List.reverse_reverse]
omit h1 h2 in
theorem writF_figs {r : List Int} (h : isRul r = true) {n : Nat} (hn : n ≤ 4) : ∀ w ∈ writF r n, Figs w := fun w hw => by
  rw [← (chkP_inv h hn).1, List.mem_reverse] at hw
  exact (figPage_figs r n w hw).1
theorem writ_up {n : Nat} (hn : n ≤ 4) {i : Nat} (hi : i + 1 < (writPage (lesserOf p1 p2) sg n).length) : ltS ((writPage (lesserOf p1 p2) sg n).getD i []) ((writPage (lesserOf p1 p2) sg n).getD (i + 1) []) = true := by
  have hl := lesser_rul h1 h2
  rw [writPage_fig] at hi ⊢
  rw [List.length_map] at hi
  have hf := writF_figs o hl hn
  have gd : ∀ j, j < (writF (lesserOf p1 p2) n).length → ((writF (lesserOf p1 p2) n).map (wordOf sg)).getD j [] = wordOf sg ((writF (lesserOf p1 p2) n).getD j []) ∧ Figs ((writF (lesserOf p1 p2) n).getD j []) := fun j hj => by
    rw [List.getD_eq_getElem?_getD, List.getD_eq_getElem?_getD, List.getElem?_map, List.getElem?_eq_getElem hj]
    exact ⟨rfl, hf _ (List.getElem_mem hj)⟩
  rw [(gd i (by omega)).1, (gd (i + 1) hi).1, lt_word o _ _ (gd i (by omega)).2 (gd (i + 1) hi).2]
  exact stepsUp_at _ (chkP_inv hl hn).2.1 i hi
theorem writ_sorted {n : Nat} (hn : n ≤ 4) : (writPage (lesserOf p1 p2) sg n).Pairwise LeS := by
  have hl := lesser_rul h1 h2
  rw [writPage_fig, List.pairwise_map]
  refine List.Pairwise.imp_of_mem (fun {a b} ha hb hab => ?_) (stepsUp_pair _ (chkP_inv hl hn).2.1)
  have hf := writF_figs o hl hn
  intro hlt
  have := (ltw o (hf b hb) (hf a ha)).mp hlt
  rw [ltI_asymm _ _ hab] at this
  cases this
theorem writ_len {n : Nat} (hn : n ≤ 4) : 1 ≤ (writPage (lesserOf p1 p2) sg n).length ∧ (writPage (lesserOf p1 p2) sg n).length ≤ 100 := by
  rw [writPage_fig, List.length_map]
  exact (chkP_inv (lesser_rul h1 h2) hn).2.2
theorem page_sorts {n : Nat} (hn : n ≤ 4) : sortS (pageAt [recAll dr p1, recAll dr p2] sg n) = writPage (lesserOf p1 p2) sg n := by
  rw [page_rev o h1 h2 hn]
  exact sorted_unique ((sortS_perm _).trans (List.reverse_perm _)) (sortS_sorted _) (writ_sorted o h1 h2 hn)
theorem page_fit {n : Nat} (hn : n ≤ 4) : Fit (pageAt [recAll dr p1, recAll dr p2] sg n) := by
  rw [page_rev o h1 h2 hn]
  have hl := (writ_len o h1 h2 hn).2
  refine .inr ⟨by rw [List.length_reverse]; omega, fun i h1i hi => ?_⟩
  rw [List.length_reverse] at hi
  obtain ⟨W, hW⟩ : ∃ W, writPage (lesserOf p1 p2) sg n = W := ⟨_, rfl⟩
  have up := fun {i} hi => writ_up o h1 h2 hn (i := i) hi
  rw [hW] at hi up ⊢
  have e : ∀ j, j < W.length → W.reverse.getD j [] = W.getD (W.length - 1 - j) [] := fun j hj => by
    rw [List.getD_eq_getElem?_getD, List.getD_eq_getElem?_getD, List.getElem?_reverse hj]
  have u := up (i := W.length - 1 - i) (by omega)
  rw [e i hi, e (i - 1) (by omega), show W.length - 1 - (i - 1) = W.length - 1 - i + 1 by omega]
  rw [ltS_eq] at u
  exact of_decide_eq_true u
end
end Mine
end
section
open PySem PySem.W PyProof.Rows
namespace Mine
theorem pick_of {α : Type} (l : List α) (st : Int) (n : Nat) (h : l.length = n) (r : List Nat) (q : sliceRange (sliceBounds none none (some st) n).1 (sliceBounds none none (some st) n).2.1 (sliceBounds none none (some st) n).2.2 = r) : pick l none none (some st) = r.filterMap (l[·]?) := by
  unfold pick; rw [h, q]
theorem pick_one {α : Type} : ∀ (l : List α), l.length ≤ 4 → pick l none none (some 1) = l
  | [], _ => pick_of _ 1 0 rfl [] (by decide)
  | [a], _ => pick_of [a] 1 1 rfl [0] (by decide)
  | [a, b], _ => pick_of [a, b] 1 2 rfl [0, 1] (by decide)
  | [a, b, d], _ => pick_of [a, b, d] 1 3 rfl [0, 1, 2] (by decide)
  | [a, b, d, e], _ => pick_of [a, b, d, e] 1 4 rfl [0, 1, 2, 3] (by decide)
  | _ :: _ :: _ :: _ :: _ :: _, h => by simp at h
theorem pick_rev {α : Type} : ∀ (l : List α), l.length ≤ 4 → pick l none none (some (-1)) = l.reverse
  | [], _ => pick_of _ (-1) 0 rfl [] (by decide)
  | [a], _ => pick_of [a] (-1) 1 rfl [0] (by decide)
  | [a, b], _ => pick_of [a, b] (-1) 2 rfl [1, 0] (by decide)
  | [a, b, d], _ => pick_of [a, b, d] (-1) 3 rfl [2, 1, 0] (by decide)
  | [a, b, d, e], _ => pick_of [a, b, d, e] (-1) 4 rfl [3, 2, 1, 0] (by decide)
  | _ :: _ :: _ :: _ :: _ :: _, h => by simp at h
theorem filter_range (q : Nat → Bool) (m2 : Nat) : ∀ m1, (List.range m1).filter (fun k => decide (k < m2) && q k) = (List.range (min m1 m2)).filter q
  | 0 => by simp
  | m1 + 1 => by
    rw [List.range_succ, List.filter_append, filter_range q m2 m1]
    by_cases h : m1 < m2
    · rw [show min (m1 + 1) m2 = m1 + 1 by omega, show min m1 m2 = m1 by omega, List.range_succ, List.filter_append, show List.filter (fun k => decide (k < m2) && q k) [m1] = List.filter q [m1] by simp [List.filter_cons, h]]
    · rw [show min (m1 + 1) m2 = min m1 m2 by omega]
      simp [h]
section
variable {sg dr : List Nat} (o : SgOk sg dr) {p1 p2 : List Int}
theorem fronts_eq (sg : List Nat) (fs : List Int) : ((List.range fs.length).map fun k => wordOf sg (fs.take (k + 1))) = (List.range fs.length).map fun k => (wordOf sg fs).take (k + 1) := by
  refine List.map_congr_left fun k _ => ?_
  unfold wordOf; rw [List.map_take]
theorem merged_eq (h1 : p1.length ≤ 4) (h2 : p2.length ≤ 4) : mergedUa sg p1 p2 = ((List.range (min p1.length p2.length)).filter fun i => coll ((wordOf sg p1).take (i + 1)) ((wordOf sg p2).take (i + 1)) == 0).map fun i => (wordOf sg p1).take (i + 1) := by
  unfold mergedUa frontsOf
  rw [pick_one _ (by simpa using h1), pick_rev _ (by simpa using h2), fronts_eq, fronts_eq, List.filter_map]
  congr 1
  rw [← filter_range]
  refine List.filter_congr fun k hk => ?_
  have hk' := List.mem_range.mp hk
  rw [coll_zero, Bool.eq_iff_iff]
  simp only [Function.comp_apply, List.contains_iff_mem, List.mem_reverse, List.mem_map, List.mem_range, Bool.and_eq_true, decide_eq_true_eq, beq_iff_eq]
  constructor
  · rintro ⟨j, hj, e⟩
    have hl := congrArg List.length e
    rw [List.length_take, List.length_take, wordOf_len, wordOf_len] at hl
    have : j = k := by omega
    subst this
    exact ⟨hj, e.symm⟩
  · rintro ⟨hj, e⟩
    exact ⟨k, hj, e.symm⟩
include o
theorem merged_star (h1 : isRul p1 = true) : (mergedUa sg p1 p2).contains [42] = false := by
  obtain ⟨a, t, rfl, ha, ht, hl⟩ := isRul_inv h1
  rw [Bool.eq_false_iff]
  intro hc
  rw [List.contains_iff_mem] at hc
  unfold mergedUa frontsOf at hc
  rw [pick_one _ (by simp; omega)] at hc
  obtain ⟨k, hk, e⟩ := List.mem_map.mp (List.mem_filter.mp hc).1
  rw [List.take_succ_cons] at e
  have e1 : sg.getD a.toNat 0 = 42 := (List.cons.inj e).1
  exact (o.st a.toNat (by omega) (by omega)).2 e1
theorem lt_end : ∀ (a b : List Int), Figs a → Figs b → ltS (wordOf sg a ++ [126]) (wordOf sg b ++ [126]) = ltI (a ++ [9]) (b ++ [9])
  | [], [], _, _ => rfl
  | [], y :: b, _, fb => by
    have hy := fb y List.mem_cons_self
    have ht := (o.top y.toNat (by omega)).1
    show (if 126 = sg.getD y.toNat 0 then ltS [] (wordOf sg b ++ [126]) else decide (126 < sg.getD y.toNat 0)) = if (9 : Int) = y then ltI [] (b ++ [9]) else decide (9 < y)
    rw [if_neg (by omega), if_neg (by omega), decide_eq_false (by omega), decide_eq_false (by omega)]
  | x :: a, [], fa, _ => by
    have hx := fa x List.mem_cons_self
    have ht := (o.top x.toNat (by omega)).1
    show (if sg.getD x.toNat 0 = 126 then ltS (wordOf sg a ++ [126]) [] else decide (sg.getD x.toNat 0 < 126)) = if x = (9 : Int) then ltI (a ++ [9]) [] else decide (x < 9)
    rw [if_neg (by omega), if_neg (by omega), decide_eq_true ht, decide_eq_true (by omega)]
  | x :: a, y :: b, fa, fb => by
    have hx := fa x List.mem_cons_self
    have hy := fb y List.mem_cons_self
    show (if sg.getD x.toNat 0 = sg.getD y.toNat 0 then ltS (wordOf sg a ++ [126]) (wordOf sg b ++ [126]) else decide (sg.getD x.toNat 0 < sg.getD y.toNat 0)) = if x = y then ltI (a ++ [9]) (b ++ [9]) else decide (x < y)
    have hm := o.mono x.toNat (by omega) y.toNat (by omega)
    have hm2 := o.mono y.toNat (by omega) x.toNat (by omega)
    by_cases e : x = y
    · subst e
      rw [if_pos rfl, if_pos rfl, lt_end a b fa.tail fb.tail]
    · rw [if_neg e]
      rcases Int.lt_or_gt_of_ne e with l | l
      · have := hm (by omega)
        rw [if_neg (by omega), decide_eq_true l, decide_eq_true this]
      · have := hm2 (by omega)
        rw [if_neg (by omega), decide_eq_false (by omega), decide_eq_false (by omega)]
theorem rec_ok {r : List Int} (h : isRul r = true) : (recAll dr r).length ≤ 1000 ∧ ∀ g ∈ recAll dr r, g.length ≤ 1000 ∧ ∀ ch ∈ g, ch < 128 := by
  obtain ⟨hf, _, hl⟩ := isRul_figs h
  have hlen := recUpTo_len (dr := dr) hf r.length
  have asc : ∀ f, dr.getD f 0 < 128 := fun f => by
    rcases Nat.lt_or_ge f 3 with h3 | h3
    · exact (o.top f h3).2.2
    · rw [List.getD_eq_getElem?_getD, List.getElem?_eq_none (by rw [o.d3]; exact h3)]; decide
  refine ⟨by unfold recAll; omega, fun g hg => ?_⟩
  unfold recAll recUpTo at hg
  rcases List.mem_cons.mp hg with rfl | hg
  · exact ⟨by simp, fun ch hc => by rw [List.mem_singleton.mp hc]; omega⟩
  · obtain ⟨l, hl', hgl⟩ := List.mem_flatten.mp hg
    obtain ⟨i, hi, rfl⟩ := List.mem_map.mp hl'
    obtain ⟨j, hj, rfl⟩ := List.mem_map.mp hgl
    refine ⟨by rw [List.length_append, wordOf_len, List.length_take]; simp; omega, fun ch hc => ?_⟩
    rcases List.mem_append.mp hc with m | m
    · obtain ⟨f, _, rfl⟩ := List.mem_map.mp m
      exact asc _
    · rw [List.mem_singleton.mp m]; exact asc _
theorem pages_pre {L : Nat} (hL : L ≤ 4) (h1 : isRul p1 = true) (h2 : isRul p2 = true) : PagesPre [recAll dr p1, recAll dr p2] sg [wordOf sg p1, wordOf sg p2] L := by
  obtain ⟨f1, _, l1⟩ := isRul_figs h1
  obtain ⟨f2, _, l2⟩ := isRul_figs h2
  refine ⟨by omega, o.s3, o.asc, fun ua hua => ?_, by simp, fun r hr => ?_, by simp, fun n hn w hw name hnm => ?_⟩
  · simp only [List.mem_cons, List.not_mem_nil, or_false] at hua
    rcases hua with rfl | rfl
    · exact rec_ok o h1
    · exact rec_ok o h2
  · simp only [List.mem_cons, List.not_mem_nil, or_false] at hr
    rcases hr with rfl | rfl <;> rw [wordOf_len] <;> omega
  · rw [page_fig o f1 f2] at hw
    obtain ⟨v, hv, rfl⟩ := List.mem_map.mp hw
    obtain ⟨g1, g2⟩ := figPage_figs _ n v hv
    rw [three_word o] at hnm
    obtain ⟨x, hx, rfl⟩ := List.mem_map.mp hnm
    have hx' : Figs x ∧ x.length = n + 1 := by
      simp only [List.mem_cons, List.not_mem_nil, or_false] at hx
      rcases hx with rfl | rfl | rfl <;> exact ⟨g1.snoc (by omega) (by omega), by simp [g2]⟩
    rw [okName_word o f1 f2 hx'.1, due_word o f1 f2 hx'.1 hx'.2]
theorem law_ok {L : Nat} (hL1 : 1 ≤ L) (hL : L ≤ 4) (h1 : isRul p1 = true) (h2 : isRul p2 = true) : LawOk p1 p2 sg dr L where
  L1 := ⟨hL1, by omega⟩
  f1 := ⟨(isRul_figs h1).1, by have := (isRul_figs h1).2.2; omega⟩
  f2 := ⟨(isRul_figs h2).1, by have := (isRul_figs h2).2.2; omega⟩
  s := o.s3
  d := o.d3
  n1 := by have := (isRul_figs h1).2.2; unfold frontsOf; rw [pick_one _ (by simpa using this)]; simp; omega
  n2 := by have := (isRul_figs h2).2.2; unfold frontsOf; rw [pick_rev _ (by simpa using this)]; simp; omega
  ua := merged_eq (isRul_figs h1).2.2 (isRul_figs h2).2.2
  star := merged_star o h1
  cmp := by rw [coll_eq, lt_end o _ _ (isRul_figs h2).1 (isRul_figs h1).1, lt_end o _ _ (isRul_figs h1).1 (isRul_figs h2).1]
  pg := pages_pre o hL h1 h2
  wr := wpre_of (lesser_rul h1 h2) hL
  same := fun n hn => page_sorts o h1 h2 (by omega)
  fit := fun n hn => page_fit o h1 h2 (by omega)
  big := by have := writ_len o h1 h2 hL; exact ⟨this.1, by omega⟩
  inc := fun i hi => coll_less (writ_up o h1 h2 hL hi)
end
end Mine
end
section
open PySem PySem.W PyProof.Rows
namespace Mine
noncomputable def sigMid (p1 p2 : List Int) (sg dr : List Nat) (L : Nat) : Sig :=
  [(Str.ofString "length", false, .int (L : Int)), (Str.ofString "signs", false, .str sg), (Str.ofString "dress", false, .str dr), (Str.ofString "plain", false, Dii [p1, p2]), (Str.ofString "figures", false, Dii [p1, p2])]
theorem EV.to {c : Cx} {k : Nat} {ns : Names} {σ : Sig} {e : Expr} {d d' : D} (q : d = d') (h : EV c k ns σ e d) : EV c k ns σ e d' := q ▸ h
theorem EI.to {c : Cx} {k : Nat} {ns : Names} {σ : Sig} {e : Expr} {d d' : List D} (q : d = d') (h : EI c k ns σ e d) : EI c k ns σ e d' := q ▸ h
theorem recAll_star (dr : List Nat) (fs : List Int) : (recAll dr fs).contains [42] = true := by unfold recAll recUpTo; simp
section
variable {c : Cx} {k : Nat} (h : C39 c)
include h
set_option maxHeartbeats 8000000 in
theorem law_rest {p1 p2 : List Int} {sg dr : List Nat} {L : Nat} (ok : LawOk p1 p2 sg dr L) :
    EXs c (k + 6) (fdOf (K39 c.w.params) 135).scope.names (sigMid p1 p2 sg dr L) ((bodyOf (K39 c.w.params) 135).drop 6) (.ret (.bool true)) := by
  obtain ⟨⟨hL1, hL⟩, ⟨hf1, hl1⟩, ⟨hf2, hl2⟩, hsg, hdr, hn1, hn2, hua, hstar, hcmp, hpg, hwr, hsame, hfit, hbig, hinc⟩ := ok
  have hp12 : (([p1, p2] : List (List Int)).map fun r => D.list (r.map .int)).length ≤ sizeLine := by simp [sizeLine_eq]
  let recs : List (List (List Nat)) := [recAll dr p1, recAll dr p2]
  let mg : D := .ent ((mergedUa sg p1 p2).map .str) (recs.map fun ua => .ent (ua.map .str) [])
  have hw1 : (wordOf sg p1).length ≤ 100 := by rw [wordOf_len]; exact hl1
  have hw2 : (wordOf sg p2).length ≤ 100 := by rw [wordOf_len]; exact hl2
  refine exs_cons (ex_assign (d := mg) (ev_callD (eg_of h (by kernel_rfl) rfl rfl) (keep_fn (by rw [h.K]; kernel_rfl))
    (.cons (fun _ => rfl) (ev_callD (eg_of h (by kernel_rfl) rfl rfl) (keep_fn (by rw [h.K]; kernel_rfl)) (.cons (fun _ => rfl) (ev_item (ds := [p1, p2].map fun r => D.list (r.map .int)) (n := 0) (ev_name rfl rfl rfl).w ev_int.w (by omega) rfl hp12) (.cons (fun _ => rfl) (ev_name rfl rfl rfl) (.cons (fun _ => rfl) (ev_name rfl rfl rfl) (.cons (fun _ => rfl) ev_int .nil)))) (fd_book h p1 sg dr 1 hf1 hl1 hsg hdr (by decide) hn1))
    (.cons (fun _ => rfl) (ev_callD (eg_of h (by kernel_rfl) rfl rfl) (keep_fn (by rw [h.K]; kernel_rfl)) (.cons (fun _ => rfl) (ev_item (ds := [p1, p2].map fun r => D.list (r.map .int)) (n := 1) (ev_name rfl rfl rfl).w ev_int.w (by omega) rfl hp12) (.cons (fun _ => rfl) (ev_name rfl rfl rfl) (.cons (fun _ => rfl) (ev_name rfl rfl rfl) (.cons (fun _ => rfl) (ev_neg ev_int) .nil)))) (fd_book h p2 sg dr (-1) hf2 hl2 hsg hdr (by decide) hn2)) .nil))
    (fd_merge h (frontsOf sg p1 1) (frontsOf sg p2 (-1)) [.ent ((recAll dr p1).map .str) []] [.ent ((recAll dr p2).map .str) []] hn1 hn2 (by simp) (by simp))) (.inl rfl) (fun _ _ => rfl)) ?_
  have hfr : ∀ r ∈ [p1, p2], Figs r ∧ r.length ≤ 100 := fun r hr => by
    simp only [List.mem_cons, List.not_mem_nil, or_false] at hr
    rcases hr with rfl | rfl
    · exact ⟨hf1, hl1⟩
    · exact ⟨hf2, hl2⟩
  have hslS : sg.length ≤ sizeLine := by rw [hsg, sizeLine_eq]; omega
  have hw1S : (wordOf sg p1).length ≤ sizeLine := by rw [sizeLine_eq]; omega
  have hw2S : (wordOf sg p2).length ≤ sizeLine := by rw [sizeLine_eq]; omega
  let rus : List (List Nat) := [wordOf sg p1, wordOf sg p2]
  have hrusS : (rus.map D.str).length ≤ sizeLine := by simp [rus, sizeLine_eq]
  refine exs_cons (ex_assign (d := .list (rus.map .str)) (ev_mapx (xs := [p1, p2]) (a := fun r => D.list (r.map .int)) (b := fun r => .str (wordOf sg r)) (fun d => .str (wordOf sg (intsOf d))) (fun r _ => by rw [intsOf_eq]) (compOk_of rfl (by kernel_rfl)) (ei_list (ev_name rfl rfl rfl))
    (fun r hr => ev_word (sg := sg) (fs := r) (compOk_of rfl (by kernel_rfl)) (ev_name rfl rfl rfl) (fun f hm => ev_sitem (ev_name rfl rfl rfl).w (ev_name rfl rfl rfl).w ((hfr r hr).1 f hm).1 (sgn_get hsg ((hfr r hr).1 f hm)) hslS) (by have := (hfr r hr).2; rw [sizeLine_eq]; omega) rfl (fun _ _ => rfl)) (by simp [sizeLine_eq]) (fun _ _ => rfl)) (.inr rfl) (fun env ef => swaps_cell ef rfl)) ?_
  obtain ⟨m, hm⟩ : ∃ m, min p1.length p2.length = m := ⟨_, rfl⟩
  rw [hm] at hua
  have hm1 : m ≤ 100 := by omega
  have hmin : (if ((wordOf sg p2).length : Int) < ((wordOf sg p1).length : Int) then ((wordOf sg p2).length : Int) else ((wordOf sg p1).length : Int)) = (m : Int) := by
    rw [wordOf_len, wordOf_len]; split <;> omega
  refine exs_cons (ex_assign (d := .rng 1 ((m : Int) + 1)) (ev_call (eg_of h (by kernel_rfl) rfl rfl) keep_type (.cons (fun _ => rfl) ev_int.w (.cons (fun _ => rfl) (ev_bin op_add_int (EV.to (by rw [hmin]) (ev_call (eg_of h (by kernel_rfl) rfl rfl) keep_builtin
    (.cons (fun _ => rfl) (ev_call (eg_of h (by kernel_rfl) rfl rfl) keep_builtin (.cons (fun _ => rfl) (ev_item (ds := rus.map .str) (n := 0) (ev_name rfl rfl rfl).w ev_int.w (by omega) rfl hrusS).w .nil) (fn_len_str hw1S)).w
    (.cons (fun _ => rfl) (ev_call (eg_of h (by kernel_rfl) rfl rfl) keep_builtin (.cons (fun _ => rfl) (ev_item (ds := rus.map .str) (n := 1) (ev_name rfl rfl rfl).w ev_int.w (by omega) rfl hrusS).w .nil) (fn_len_str hw2S)).w .nil)) fn_min2)).w ev_int.w).w .nil)) fn_range2) (.inl rfl) (fun _ _ => rfl)) ?_
  have hrng : rngD 1 ((m : Int) + 1) = (List.range m).map fun i : Nat => D.int (1 + (i : Int)) := by unfold rngD; rw [show ((m : Int) + 1 - 1).toNat = m by omega]
  have hcast : ∀ i : Nat, 1 + (i : Int) = ((i + 1 : Nat) : Int) := fun i => by omega
  have hto : ∀ i : Nat, (1 + (i : Int)).toNat = i + 1 := fun i => by omega
  refine exs_cons (ex_if (out := .next _) (et_cmp (op_neLS (l := mergedUa sg p1 p2)) (ev_ua (ev_name rfl rfl rfl).w).w (EV.to (d' := .list ((((List.range m).filter fun i => coll ((wordOf sg p1).take (i + 1)) ((wordOf sg p2).take (i + 1)) == 0).map fun i => (wordOf sg p1).take (i + 1)).map .str)) (by rw [List.map_map]; rfl)
    (ev_cmpx (xs := List.range m) (a := fun i : Nat => D.int (1 + (i : Int))) (b := fun i => .str ((wordOf sg p1).take (i + 1))) (q := fun i => coll ((wordOf sg p1).take (i + 1)) ((wordOf sg p2).take (i + 1)) == 0)
      (fun d => .str ((wordOf sg p1).take (intOf d).toNat)) (fun d => coll ((wordOf sg p1).take (intOf d).toNat) ((wordOf sg p2).take (intOf d).toNat) == 0) (fun i _ => by show D.str ((wordOf sg p1).take (1 + (i : Int)).toNat) = _; rw [hto]) (fun i _ => by show (coll ((wordOf sg p1).take (1 + (i : Int)).toNat) ((wordOf sg p2).take (1 + (i : Int)).toNat) == 0) = _; rw [hto])
      (compOk_of rfl (by kernel_rfl)) (EI.to hrng (ei_range (ev_name rfl rfl rfl) (small_of (by omega) (by omega) (by omega) (by omega)))) (fun i hi => ets_one (et_cmp op_eqI (ev_callD (eg_of h (by kernel_rfl) rfl rfl) (keep_fn (by rw [h.K]; kernel_rfl)) (.cons (fun _ => rfl) ?_ (.cons (fun _ => rfl) ?_ .nil)) (fd_strcoll h _ _)).w ev_int.w rfl)) (fun i hi _ => ?_) (by rw [List.length_range, sizeLine_eq]; omega) (fun _ _ => rfl))).w rfl) (fun e => ?_) (fun _ => exs_nil)) ?_
  · rw [← pick_to, ← hcast]
    exact ev_sslice (ev_item (ds := rus.map .str) (n := 0) (ev_name rfl rfl rfl).w ev_int.w (by omega) rfl hrusS).w ep_none (ep_some (ev_name rfl rfl rfl).w) hw1S
  · rw [← pick_to, ← hcast]
    exact ev_sslice (ev_item (ds := rus.map .str) (n := 1) (ev_name rfl rfl rfl).w ev_int.w (by omega) rfl hrusS).w ep_none (ep_some (ev_name rfl rfl rfl).w) hw2S
  · rw [← pick_to, ← hcast]
    exact ev_sslice (ev_item (ds := rus.map .str) (n := 0) (ev_name rfl rfl rfl).w ev_int.w (by omega) rfl hrusS).w ep_none (ep_some (ev_name rfl rfl rfl).w) hw1S
  · rw [hua, beq_self_eq_true] at e; cases e
  let tri : List (List (List Nat) × List D) := [(recAll dr p1, []), (recAll dr p2, []), (mergedUa sg p1 p2, recs.map fun ua => .ent (ua.map .str) [])]
  refine exs_cons (ex_if (out := .next _) (et_cmp (op_neLB (l := tri.map fun x => x.1.contains [42]) (m := [true, true, false])) (EV.to (by rw [List.map_map]; rfl) (ev_mapx (xs := tri) (a := fun x => .ent (x.1.map .str) x.2) (b := fun x => .bool (x.1.contains [42])) (fun d => .bool ((uaOf d).contains [42])) (fun x _ => by rw [uaOf_eq]) (compOk_of rfl (by kernel_rfl))
    (ei_list (EV.to rfl (ev_bin (op_add_list (a := recs.map fun ua => .ent (ua.map .str) []) (b := [mg]) (by simp [recs, sizeLine_eq])) (ev_rl (ev_name rfl rfl rfl).w).w (ev_list (.cons (fun _ => rfl) (ev_name rfl rfl rfl) .nil) (by simp [sizeLine_eq])).w)))
    (fun x _ => ev_applies (d := .none) (ev_name rfl rfl rfl).w (.cons (fun _ => rfl) ev_none .nil) (h.fA ▸ fd_applies_none h x.1 x.2) (fun env => ⟨_, rfl⟩)) (by simp [tri, sizeLine_eq]) (fun _ _ => rfl))).w
    (ev_list (.cons (fun _ => rfl) ev_bool (.cons (fun _ => rfl) ev_bool (.cons (fun _ => rfl) ev_bool .nil))) (by simp [sizeLine_eq])).w rfl) (fun e => ?_) (fun _ => exs_nil)) ?_
  · simp only [tri, List.map_cons, List.map_nil, recAll_star, hstar, beq_self_eq_true, Bool.not_true] at e
    cases e
  refine exs_cons (ex_assignMapx (xs := [p1, p2]) (a := fun r => D.list (r.map .int)) (b := fun r => .list ((r ++ [9]).map .int)) (fun d => .list ((intsOf d ++ [9]).map .int)) (fun r _ => by rw [intsOf_eq]) (compOk_of rfl (by kernel_rfl)) (ei_list (ev_name rfl rfl rfl))
    (fun r hr => EV.to (by rw [List.map_append]; rfl) (ev_bin (op_add_list (a := r.map .int) (b := [.int 9]) (by have := (hfr r hr).2; rw [List.length_map, sizeLine_eq]; simp; omega)) (ev_name rfl rfl rfl).w (ev_list (.cons (fun _ => rfl) ev_int .nil) (by simp [sizeLine_eq])).w)) (by simp [sizeLine_eq]) (fun _ _ => rfl) rfl (fun env ef => swaps_true ef rfl rfl rfl)) ?_
  let ens : List D := [p1, p2].map fun r => .list ((r ++ [9]).map .int)
  have hensS : ens.length ≤ sizeLine := by simp [ens, sizeLine_eq]
  refine exs_cons (ex_if (out := .next _) (et_cmp op_neI (ev_callD (eg_of h (by kernel_rfl) rfl rfl) (keep_fn (by rw [h.K]; kernel_rfl))
    (.cons (fun _ => rfl) (ev_bin (op_add_str (a := wordOf sg p1) (b := [126]) (by rw [sizeLine_eq]; simp; omega)) (ev_item (ds := rus.map .str) (n := 0) (ev_name rfl rfl rfl).w ev_int.w (by omega) rfl hrusS).w (ev_str rfl).w)
    (.cons (fun _ => rfl) (ev_bin (op_add_str (a := wordOf sg p2) (b := [126]) (by rw [sizeLine_eq]; simp; omega)) (ev_item (ds := rus.map .str) (n := 1) (ev_name rfl rfl rfl).w ev_int.w (by omega) rfl hrusS).w (ev_str rfl).w) .nil)) (fd_strcoll h _ _)).w
    (ev_bin op_sub_bool (ev_cmp (op_gt_ints (xs := p1 ++ [9]) (ys := p2 ++ [9])) (ev_item (ds := ens) (n := 0) (ev_name rfl rfl rfl).w ev_int.w (by omega) rfl hensS).w (ev_item (ds := ens) (n := 1) (ev_name rfl rfl rfl).w ev_int.w (by omega) rfl hensS).w rfl).w
      (ev_cmp (op_lt_ints (xs := p1 ++ [9]) (ys := p2 ++ [9])) (ev_item (ds := ens) (n := 0) (ev_name rfl rfl rfl).w ev_int.w (by omega) rfl hensS).w (ev_item (ds := ens) (n := 1) (ev_name rfl rfl rfl).w ev_int.w (by omega) rfl hensS).w rfl).w).w rfl) (fun e => ?_) (fun _ => exs_nil)) ?_
  · rw [hcmp, beq_self_eq_true] at e; cases e
  refine exs_cons (ex_assign (ev_callD (eg_of h (by kernel_rfl) rfl rfl) (keep_fn (by rw [h.K]; kernel_rfl)) (.cons (fun _ => rfl) (ev_name rfl rfl rfl) (.cons (fun _ => rfl) (ev_name rfl rfl rfl) (.cons (fun _ => rfl) (ev_name rfl rfl rfl) (.cons (fun _ => rfl) (ev_name rfl rfl rfl) .nil))))
    (fd_pages h ((mergedUa sg p1 p2).map .str) recs sg rus L hpg)) (.inl rfl) (fun _ _ => rfl)) ?_
  have hles : ∀ l : List D, l = (if ltI (p2 ++ [9]) (p1 ++ [9]) then p2 ++ [9] else p1 ++ [9]).map .int → pick l none (some (-1)) none = (lesserOf p1 p2).map .int := fun l e => by
    rw [e, pick_butLast]
    unfold lesserOf
    split <;> simp
  refine exs_cons (ex_assign (ev_callD (eg_of h (by kernel_rfl) rfl rfl) (keep_fn (by rw [h.K]; kernel_rfl)) (.cons (fun _ => rfl) (EV.to (by rw [hles _ rfl]) (ev_slice (i := none) (j := some (-1)) (n := none) (ev_call (eg_of h (by kernel_rfl) rfl rfl) keep_builtin (.cons (fun _ => rfl) (ev_name (d := .list ens) rfl rfl rfl).w .nil) (fn_min_lists (xs := p1 ++ [9]) (ys := p2 ++ [9]))).w ep_none (ep_some (ev_neg ev_int).w) ep_none (by simp) (by
      rw [List.length_map, sizeLine_eq]; split <;> simp <;> omega))) (.cons (fun _ => rfl) (ev_name rfl rfl rfl) (.cons (fun _ => rfl) (ev_name rfl rfl rfl) .nil)))
    (fd_writings h (lesserOf p1 p2) sg L hwr hsg)) (.inl rfl) (fun _ _ => rfl)) ?_
  refine exs_cons (ex_if (out := .next _) (et_cmp (op_neLLS (l := (List.range (L + 1)).map fun n => sortS (pageAt recs sg n)) (m := (List.range (L + 1)).map (writPage (lesserOf p1 p2) sg)))
    (EV.to (by unfold Dss; rw [List.map_map]; rfl) (ev_mapx (xs := List.range (L + 1)) (a := fun n => .list ((pageAt recs sg n).map .str)) (b := fun n => .list ((sortS (pageAt recs sg n)).map .str)) (fun d => .list ((sortS (strsOf d)).map .str)) (fun n _ => by rw [strsOf_eq]) (compOk_of rfl (by kernel_rfl))
      (EI.to (d := ((List.range (L + 1)).map (pageAt recs sg)).map fun r => .list (r.map .str)) (by rw [List.map_map]; rfl) (ei_list (ev_name rfl rfl rfl))) (fun n hn => ev_sorted (k := k + 4) (eg_of h (by kernel_rfl) rfl rfl) (eg_of h (by kernel_rfl) rfl rfl) (ev_name rfl rfl rfl) (hfit n (by have := List.mem_range.mp hn; omega)) (fun x _ => fd_strxfrm h x) (fun _ => rfl))
      (by rw [List.length_range, sizeLine_eq]; omega) (fun _ _ => rfl))).w (ev_name rfl rfl rfl).w rfl) (fun e => ?_) (fun _ => exs_nil)) ?_
  · rw [show ((List.range (L + 1)).map fun n => sortS (pageAt recs sg n)) = (List.range (L + 1)).map (writPage (lesserOf p1 p2) sg) from List.map_congr_left fun n hn => hsame n (by have := List.mem_range.mp hn; omega), beq_self_eq_true] at e
    cases e
  obtain ⟨rows, hrows⟩ : ∃ rows, writPage (lesserOf p1 p2) sg L = rows := ⟨_, rfl⟩
  rw [hrows] at hbig hinc
  refine exs_cons (ex_assign (d := .list (rows.map .str)) (ev_item (ds := ((List.range (L + 1)).map (writPage (lesserOf p1 p2) sg)).map fun r => .list (r.map .str)) (n := (L : Int)) (ev_name rfl rfl rfl).w (ev_name rfl rfl rfl).w (by omega) (by
      rw [List.getElem?_map, List.getElem?_map, show ((L : Int)).toNat = L from rfl, List.getElem?_range (by omega), ← hrows]; rfl) (by rw [List.length_map, List.length_map, List.length_range, sizeLine_eq]; omega)) (.inr rfl) (fun _ _ => rfl)) ?_
  have hrS : (rows.map D.str).length ≤ sizeLine := by rw [List.length_map, sizeLine_eq]; omega
  have hW1 : ((rows.map D.str).length : Int) - 1 = ((rows.length - 1 : Nat) : Int) := by rw [List.length_map]; omega
  have hall : ((List.range (rows.length - 1)).map fun i => coll (rows.getD i []) (rows.getD (i + 1) [])) = List.replicate (rows.length - 1) (-1) := by
    rw [List.eq_replicate_iff]
    refine ⟨by simp, fun b hb => ?_⟩
    obtain ⟨i, hi, rfl⟩ := List.mem_map.mp hb
    exact hinc i (by have := List.mem_range.mp hi; omega)
  refine exs_ret (ex_return (EV.to (by rw [hall, beq_self_eq_true]) (ev_cmp (op_eqLI (l := (List.range (rows.length - 1)).map fun i => coll (rows.getD i []) (rows.getD (i + 1) [])) (m := List.replicate (rows.length - 1) (-1)))
    (EV.to (by rw [List.map_map]; rfl) (ev_mapx (xs := List.range (rows.length - 1)) (a := fun i : Nat => D.int (i : Int)) (b := fun i => .int (coll (rows.getD i []) (rows.getD (i + 1) []))) (fun d => .int (coll (rows.getD (intOf d).toNat []) (rows.getD ((intOf d).toNat + 1) []))) (fun _ _ => rfl) (compOk_of rfl (by kernel_rfl))
      (ei_rangeN (EV.to (by rw [hW1]) (ev_call (eg_of h (by kernel_rfl) rfl rfl) keep_type (.cons (fun _ => rfl) (ev_bin op_sub_int (ev_call (eg_of h (by kernel_rfl) rfl rfl) keep_builtin (.cons (fun _ => rfl) (ev_name rfl rfl rfl).w .nil) (fn_len_list hrS)).w ev_int.w).w .nil) fn_range1)) (by omega))
      (fun i hi => ev_callD (eg_of h (by kernel_rfl) rfl rfl) (keep_fn (by rw [h.K]; kernel_rfl)) (.cons (fun _ => rfl) (ev_item (ev_name rfl rfl rfl).w (ev_name rfl rfl rfl).w (by omega) (strs_get (by have := List.mem_range.mp hi; omega)) hrS) (.cons (fun _ => rfl) (ev_item (n := ((i + 1 : Nat) : Int)) (ev_name rfl rfl rfl).w (EV.to (d := .int ((i : Int) + 1)) rfl (ev_bin op_add_int (ev_name rfl rfl rfl).w ev_int.w)).w (by omega) (strs_get (by have := List.mem_range.mp hi; omega)) hrS) .nil)) (fd_strcoll h _ _))
      (by rw [List.length_range, sizeLine_eq]; omega) (fun _ _ => rfl))).w
    (EV.to (by rw [List.map_replicate]) (ev_bin (op_mul_list (x := .int (-1)) (n := rows.length - 1) (by rw [sizeLine_eq]; omega)) (ev_list (.cons (fun _ => rfl) (ev_neg ev_int) .nil) (by simp [sizeLine_eq])).w (EV.to (by rw [hW1]) (ev_bin op_sub_int (ev_call (eg_of h (by kernel_rfl) rfl rfl) keep_builtin (.cons (fun _ => rfl) (ev_name rfl rfl rfl).w .nil) (fn_len_list hrS)).w ev_int.w)).w)).w rfl)))
end
end Mine
end
section
open PySem PySem.W PyProof.Rows
namespace Mine
noncomputable def refusalL : List Nat := [105, 110, 118, 97, 108, 105, 100, 32, 103, 114, 111, 117, 112, 105, 110, 103]
section
variable {c : Cx} {k : Nat} (h : C39 c)
include h
theorem fn_refused : FnAt c 115 (fdOf (K39 c.w.params) 115) (bodyOf (K39 c.w.params) 115) ["row"] :=
  fnAt_of h 115 ["row"] (by kernel_rfl) (by kernel_rfl) (by kernel_rfl) (by kernel_rfl) (by kernel_rfl) (by kernel_rfl) (by kernel_rfl) (by kernel_rfl) (by kernel_rfl) (fun vals hv => by match vals, hv with | [a], _ => kernel_rfl) (by kernel_rfl) (by kernel_rfl) (by kernel_rfl) (by kernel_rfl)
theorem fn_law : FnAt c 135 (fdOf (K39 c.w.params) 135) (bodyOf (K39 c.w.params) 135) ["script"] :=
  fnAt_of h 135 ["script"] (by kernel_rfl) (by kernel_rfl) (by kernel_rfl) (by kernel_rfl) (by kernel_rfl) (by kernel_rfl) (by kernel_rfl) (by kernel_rfl) (by kernel_rfl) (fun vals hv => by match vals, hv with | [a], _ => kernel_rfl) (by kernel_rfl) (by kernel_rfl) (by kernel_rfl) (by kernel_rfl)
set_option maxHeartbeats 4000000 in
theorem call_refused {A : Around} {he : Heap} {X0 X : List Addr} {s : Shared} {v : Value} {fr : List Env} {Q : Value → Shared → Prop} {E : Value → Shared → Prop} {row : List Int} (hrl : row.length ≤ 1000) (a : AOk (k + 5) A) (b : Base c he X0 X s) (rv : Rep X s.heap v (.list (row.map .int)))
    (hA : A.frames = some fr) (hfr : ∀ env ∈ fr, env.scope.kind ≠ .module ∧ ∃ L o, env.frame = some L ∧ s.heap.get? L = some o ∧ ∀ vs, o.data ≠ .fields vs) (hfr0 : ∀ b ∈ fr.filterMap (·.frame), c.h0.get? b = none)
    (q : ∀ tk s', AftX (fr.filterMap (·.frame)) s s' → Q (.str (ofL refusalL) tk) s') : wpAny (model c.prog c.w) A (call (.ref 115) [v]) Q E s := by
  refine refused_call (k := k + 1) (x := "interval") (lst := "last_interval") (msg := refusalL) (row := row) (fn_refused h) (gen_at h) ?_ (eg_of h (by kernel_rfl) rfl rfl) (fun σ => ev_str rfl) (fun _ => rfl) rfl rfl (by decide) (fun _ _ => rfl)
    (eg_of h (by kernel_rfl) rfl rfl) (keep_fn (by rw [h.K]; kernel_rfl)) (.cons (fun _ => rfl) ?_ .nil) (fun _ _ => rfl) (eg_of h (by kernel_rfl) rfl rfl) (eg_of h (by kernel_rfl) rfl rfl) rfl rfl (fun _ => rfl) a b rv hA hfr hfr0 q
  · refine ⟨rfl, by decide, fun i last => ?_, fun i last => ?_, fun i last => ?_, fun σ => et_true, fun i l => ev_name rfl rfl rfl, fun i last => ev_name rfl rfl rfl, fun i last => ex_assign (ev_name rfl rfl rfl) (.inl rfl) (fun _ _ => rfl)⟩
    · rw [show decide (i = 127) = (i == 127) from rfl]
      exact et_cmp op_eqI (ev_name rfl rfl rfl).w (ev_charmax h rfl).w rfl
    · rw [show decide (i = 0) = (i == 0) from rfl]
      exact et_cmp op_eqI (ev_name rfl rfl rfl).w ev_int.w rfl
    · rw [show last.isNone = isNone (optD last) by cases last <;> rfl]
      exact et_cmp op_is_none (ev_name rfl rfl rfl).w ev_none.w rfl
  · exact EV.to (d := .list ([.int 0] ++ row.map .int)) rfl (ev_bin (op_add_list (by rw [List.length_map, sizeLine_eq]; simp; omega)) (ev_list (.cons (fun _ => rfl) ev_int .nil) (by simp [sizeLine_eq])).w (ev_name rfl rfl rfl).w)
end
end Mine
end
section
open PySem PySem.W PyProof.Rows
namespace Mine
abbrev signsEs : List (Str × Pos) := [(Str.ofString "signs", ⟨154, 4, 154, 9⟩), (Str.ofString "dress", ⟨154, 11, 154, 16⟩)]
abbrev signsD : List D := [.tup [.str [65, 66, 67], .str [97, 98, 99]], .tup [.str [97, 98, 99], .str [65, 66, 67]], .tup [.str [42, 43, 45], .str [42, 43, 45]], .tup [.str [45, 66, 97], .str [45, 98, 65]]]
abbrev signsE : Expr := .List [.Tuple [.Constant (.str (Str.ofString "ABC")) 0 ⟨154, 21, 154, 26⟩, .Constant (.str (Str.ofString "abc")) 0 ⟨154, 28, 154, 33⟩] 0 ⟨154, 20, 154, 34⟩,
    .Tuple [.Constant (.str (Str.ofString "abc")) 0 ⟨154, 37, 154, 42⟩, .Constant (.str (Str.ofString "ABC")) 0 ⟨154, 44, 154, 49⟩] 0 ⟨154, 36, 154, 50⟩,
    .Tuple [.Constant (.str (Str.ofString "*+-")) 0 ⟨154, 53, 154, 58⟩, .Constant (.str (Str.ofString "*+-")) 0 ⟨154, 60, 154, 65⟩] 0 ⟨154, 52, 154, 66⟩,
    .Tuple [.Constant (.str (Str.ofString "-Ba")) 0 ⟨154, 69, 154, 74⟩, .Constant (.str (Str.ofString "-bA")) 0 ⟨154, 76, 154, 81⟩] 0 ⟨154, 68, 154, 82⟩] ⟨154, 19, 154, 83⟩
abbrev signsV : Expr := .Subscript signsE (.Name (Str.ofString "kind") ⟨154, 84, 154, 88⟩) ⟨154, 19, 154, 89⟩
section
variable {c : Cx} {k : Nat} {ns : Names} {σ : Sig}
theorem star_tup {es rest : List Expr} {kd : Nat} {p : Pos} : ∀ env, starEach (.Tuple es kd p :: rest) env = (false, eval (.Tuple es kd p) env) :: starEach rest env := fun _ => rfl
theorem ev_two {a b : Str} {x y : List Nat} {p q r : Pos} (ha : a.cps = x.toArray) (hb : b.cps = y.toArray) : EV c k ns σ (.Tuple [.Constant (.str a) 0 p, .Constant (.str b) 0 q] 0 r) (.tup [.str x, .str y]) :=
  ev_tuple (.cons (fun _ => rfl) (ev_str ha) (.cons (fun _ => rfl) (ev_str hb) .nil)) (by simp [sizeLine_eq])
theorem evs_two {a b : Str} {x y : List Nat} {p q r : Pos} {es : List Expr} {ds : List D} (ha : a.cps = x.toArray) (hb : b.cps = y.toArray) (h : EVs c k ns σ es ds) : EVs c k ns σ (.Tuple [.Constant (.str a) 0 p, .Constant (.str b) 0 q] 0 r :: es) (.tup [.str x, .str y] :: ds) :=
  .cons star_tup (ev_two ha hb) h
theorem c1 : (Str.ofString "ABC").cps = [65, 66, 67].toArray := rfl
theorem c2 : (Str.ofString "abc").cps = [97, 98, 99].toArray := rfl
theorem c3 : (Str.ofString "*+-").cps = [42, 43, 45].toArray := rfl
theorem c4 : (Str.ofString "-Ba").cps = [45, 66, 97].toArray := rfl
theorem c5 : (Str.ofString "-bA").cps = [45, 98, 65].toArray := rfl
theorem signsS : signsD.length ≤ sizeLine := by simp [sizeLine_eq]
theorem ev_signsE : EV c k ns σ signsE (.list signsD) :=
  @ev_list c k ns σ _ _ _ (evs_two c1 c2 (evs_two c2 c1 (evs_two c3 c3 (evs_two c4 c5 .nil)))) signsS
theorem ev_signs {kd : Int} {sg dr : List Nat} (hk0 : 0 ≤ kd) (hget : signsD[kd.toNat]? = some (.tup [.str sg, .str dr])) (hl : σ.lookup (Str.ofString "kind") = some (false, .int kd)) (hv : isVar (ns.lookup (Str.ofString "kind")) = true) : EV c k ns σ signsV (.tup [.str sg, .str dr]) :=
  @ev_item c k ns σ _ _ _ signsD kd _ (@EV.w _ _ _ _ _ _ ev_signsE) (ev_name hl hv rfl).w hk0 hget signsS
end
section
variable {c : Cx} {k : Nat} {σ : Sig}
theorem ex_signs {kd : Int} {sg dr : List Nat} (hk0 : 0 ≤ kd) (hget : signsD[kd.toNat]? = some (.tup [.str sg, .str dr])) (hl : σ.lookup (Str.ofString "kind") = some (false, .int kd)) :
    EX c k (fdOf (K39 c.w.params) 135).scope.names σ (.Assign [.Tuple (tgs signsEs) 0 ⟨154, 4, 154, 16⟩] signsV ⟨154, 4, 154, 89⟩) (.next ((Str.ofString "dress", false, .str dr) :: (Str.ofString "signs", false, .str sg) :: σ)) :=
  @ex_unpack c k _ σ signsEs 0 ⟨154, 4, 154, 16⟩ ⟨154, 4, 154, 89⟩ signsV [.str sg, .str dr] (@ev_signs c k _ σ kd sg dr hk0 hget hl rfl) rfl
    (fun e he => by simp only [List.mem_cons, List.not_mem_nil, or_false] at he; rcases he with rfl | rfl; exact .inr rfl; exact .inl rfl) (fun _ _ => rfl) (fun _ _ => rfl)
end
end Mine
end
section
open PySem PySem.W PyProof.Rows
namespace Mine
section
variable {c : Cx} {k : Nat}
theorem St.aftX {env : Env} {he : Heap} {X0 X : List Addr} {σ : Sig} {F : Str → List Addr} {s s' : Shared} (st : St c he X0 X env σ F s) (x : AftX [env.locals] s s') : St c he X0 X env σ F s' := by
  have hLX : env.locals ∈ X := st.fx _ (List.mem_cons_self ..)
  have hL0 : env.locals ∉ X0 := st.f0 _ (List.mem_cons_self ..)
  have hLh : he.get? env.locals = none := st.base.new _ hLX hL0
  have kp : ∀ b o, b ≠ env.locals → s.heap.get? b = some o → s'.heap.get? b = some o := fun b o hb e => x.keep b o (by simpa using hb) e
  have ns : ∀ m, s.heap.Ns env.locals m → s'.heap.Ns env.locals m := fun m hn => by
    obtain ⟨o, es, ep, ho, hd, r⟩ := hn
    obtain ⟨sl, hs⟩ := x.up _ o (by simp) ho fun vs q => by rw [hd] at q; cases q
    exact ⟨_, es, ep, hs, hd, r⟩
  have kx : Keep X s.heap s'.heap := fun b o hb e => kp b o (fun h => hb (h ▸ hLX)) e
  refine ⟨⟨st.base.old, fun b o e => kp b o (fun h => by rw [h, hLh] at e; cases e) (st.base.keep b o e), st.base.x0, st.base.x0x, st.base.new, fun b hb => ?_, x.os.trans st.base.os, x.gens.bare st.base.gens⟩,
    ⟨let ⟨m, hn⟩ := st.fw.ns; ⟨m, ns m hn⟩, fun n cc hcc => ?_, st.fw.apart, st.fw.off⟩, st.fx, st.f0, fun y o d e hv => ?_, st.own, st.apart⟩
  · by_cases q : b = env.locals
    · subst q
      obtain ⟨m, hn⟩ := st.fw.ns
      obtain ⟨o, _, _, ho, _⟩ := ns m hn
      exact ⟨o, ho⟩
    · obtain ⟨o, e⟩ := st.base.live b hb
      exact ⟨o, kp b o q e⟩
  · obtain ⟨v, o, ho, hd⟩ := st.fw.cell n cc hcc
    exact ⟨v, o, kp cc o (st.fw.off n cc (mem_of_lookup hcc)).symm ho, hd⟩
  · obtain ⟨v, l, r⟩ := st.vis y o d e hv
    refine ⟨v, ?_, ?_⟩
    · rcases l with ⟨hk, m, hn, hm⟩ | ⟨hk, cc, hcc, oo, ho, hd⟩
      · exact .inl ⟨hk, m, ns m hn, hm⟩
      · exact .inr ⟨hk, cc, hcc, oo, kp cc oo (st.fw.off y cc (mem_of_lookup hcc)).symm ho, hd⟩
    · cases o with
      | true => exact OwnAt.keep r kx fun a ha o e' => kp a o (fun h => (st.own y d e a ha).2.2 (h ▸ List.mem_cons_self ..)) e'
      | false => exact Rep.keep kx r
theorem raw_cons {ns : Names} {env : Env} {A : Around} {he : Heap} {X0 X : List Addr} {σ σ1 : Sig} {F : Str → List Addr} {s : Shared} {Q : Flow → Shared → Prop} {E : Value → Shared → Prop} {st : Stmt} {rest : List Stmt} (ef : EnvFor ns env) (a : AOk k A) (t : St c he X0 X env σ F s)
    (h1 : EX c k ns σ st (.next σ1)) (q : ∀ X1 F1 s1, St c he X0 X1 env σ1 F1 s1 → wpAny (model c.prog c.w) A (execs rest env) Q E s1) : wpAny (model c.prog c.w) A (execs (st :: rest) env) Q E s := by
  refine wpAny_execs_cons (h1 env ef A a he X0 X F s _ E t fun fl X1 F1 s1 en => ?_)
  obtain ⟨rfl, st1, _⟩ := en
  exact q X1 F1 s1 st1
end
section
variable {c : Cx} {k : Nat} (h : C39 c)
include h
noncomputable def rowA (scr : List Int) : List Int := (rowOf (cellsL scr)).take (sizeOf' (cellsL scr))
noncomputable def rowB (scr : List Int) : List Int := (otherOf (cellsL scr)).take (sizeOf' (cellsL scr))
structure ScrOk (scr : List Int) (sg dr : List Nat) (n : Nat) : Prop where
  kd : 0 ≤ kindOf' (cellsL scr) ∧ signsL[(kindOf' (cellsL scr)).toNat]? = some (sg, dr)
  hn : n ≤ 9
  a1 : 1 ≤ (rowA scr).length ∧ (rowA scr).length ≤ 10 ∧ (rowA scr).head? ≠ some 0
  b1 : 1 ≤ (rowB scr).length ∧ (rowB scr).length ≤ 10 ∧ (rowB scr).head? ≠ some 0
  len : 6 - (if (rowB scr).getD 0 0 < (rowA scr).getD 0 0 then (rowB scr).getD 0 0 else (rowA scr).getD 0 0) = ((n + 1 : Nat) : Int)
  ta : toldOf (rowA scr) (n + 1) = plainOf (rowA scr) (n + 1)
  tb : toldOf (rowB scr) (n + 1) = plainOf (rowB scr) (n + 1)
  law : LawOk (plainOf (rowA scr) (n + 1)) (plainOf (rowB scr) (n + 1)) sg dr (n + 1)
set_option maxHeartbeats 8000000 in
theorem law_call {scr : List Int} {sg dr : List Nat} {n : Nat} (ok : ScrOk scr sg dr n) (hs : scr.length ≤ 1000) {A : Around} {he : Heap} {X0 X : List Addr} {s : Shared} {v : Value} {Q : Value → Shared → Prop} {E : Value → Shared → Prop} (a : AOk (k + 7) A) (hA : A.frames = some []) (b : Base c he X0 X s)
    (rv : Rep X s.heap v (.list (scr.map .int))) (q : ∀ s', Ext s.heap s'.heap → s'.os = s.os → AllBare s'.gens → Q (.bool true) s') : wpAny (model c.prog c.w) A (call (.ref 135) [v]) Q E s := by
  obtain ⟨⟨hk0, hkd⟩, hn, ⟨ha1, ha2, ha3⟩, ⟨hb1, hb2, hb3⟩, hlen, hta, htb, hlaw⟩ := ok
  refine wpAny_call (enter_def (fn_law h) (show AOk ((k + 6) + 1) A from a) b (by rfl) fun env s1 ef hfm a1 n1 st1 fresh lk => ?_)
  have hA1 : (A.deeper env).frames = some [env] := by show A.frames.map _ = _; rw [hA]; rfl
  have reX : ∀ a ∈ fa env ++ X, a ∈ X ∨ s.heap.get? a = none := fun a ha => (List.mem_append.mp ha).elim (fun m => .inr (fresh a m)) .inl
  have st1' : St c s.heap X (fa env ++ X) env [(Str.ofString "script", false, .list (scr.map .int))] (fun _ => []) s1 := by
    refine ⟨st1.base, st1.fw, st1.fx, st1.f0, fun y o d e hv' => ?_, fun y d e => ?_, fun y d z d' e => ?_⟩
    · rw [List.lookup_cons] at e
      split at e
      · rename_i hb
        cases e
        have : y = Str.ofString "script" := by simpa using hb
        subst this
        exact ⟨v, lk _ v (by simp), (rv.re reX).ext n1.heap⟩
      · cases e
    · rw [List.lookup_cons] at e
      split at e <;> cases e
    · rw [List.lookup_cons] at e
      split at e <;> cases e
  generalize hRA : rowA scr = R1 at *
  generalize hRB : rowB scr = R2 at *
  have hR1S : (R1.map D.int).length ≤ sizeLine := by rw [List.length_map, sizeLine_eq]; omega
  have hR2S : (R2.map D.int).length ≤ sizeLine := by rw [List.length_map, sizeLine_eq]; omega
  refine raw_cons ef a1 st1' (ex_unpack (es := [(Str.ofString "first", ⟨152, 4, 152, 9⟩), (Str.ofString "second", ⟨152, 11, 152, 17⟩), (Str.ofString "kind", ⟨152, 19, 152, 23⟩)]) (ds := [.list (R1.map .int), .list (R2.map .int), .int (kindOf' (cellsL scr))]) (EV.to (by rw [← hRA, ← hRB]; rfl) (ev_callD (eg_of h (by kernel_rfl) rfl rfl) (keep_fn (by rw [h.K]; kernel_rfl)) (.cons (fun _ => rfl) (ev_name rfl rfl rfl) .nil) (fd_rows h scr hs))) rfl
    (fun e he => by simp only [List.mem_cons, List.not_mem_nil, or_false] at he; rcases he with rfl | rfl | rfl <;> exact .inl rfl) (fun _ _ => rfl) (fun _ _ => rfl)) fun X2 F2 s2 st2 => ?_
  refine raw_cons ef a1 st2 (ex_assign (d := .int ((n + 1 : Nat) : Int)) (EV.to (by rw [hlen]) (ev_bin op_sub_int ev_int.w (ev_call (eg_of h (by kernel_rfl) rfl rfl) keep_builtin (.cons (fun _ => rfl) (ev_item (ds := R1.map .int) (n := 0) (ev_name rfl rfl rfl).w ev_int.w (by omega) (ints_get (i := 0) (by omega)) hR1S).w (.cons (fun _ => rfl) (ev_item (ds := R2.map .int) (n := 0) (ev_name rfl rfl rfl).w ev_int.w (by omega) (ints_get (i := 0) (by omega)) hR2S).w .nil)) fn_min2).w)) (.inr rfl) (fun _ _ => rfl)) fun X3 F3 s3 st3 => ?_
  have hget : signsD[(kindOf' (cellsL scr)).toNat]? = some (.tup [.str sg, .str dr]) := by
    have e : signsD = signsL.map fun p => D.tup [.str p.1, .str p.2] := rfl
    rw [e, List.getElem?_map, hkd]; rfl
  refine @raw_cons c (k + 6) _ env _ _ _ _ _ _ _ _ _ _ _ _ ef a1 st3 (@ex_signs c (k + 6) _ _ sg dr hk0 hget rfl) (fun X4 F4 s4 st4 => ?_)
  have hR : ∀ r ∈ [R1, R2], r.length ≤ 10 ∧ r.head? ≠ some 0 ∧ toldOf r (n + 1) = plainOf r (n + 1) := fun r hr => by
    simp only [List.mem_cons, List.not_mem_nil, or_false] at hr
    rcases hr with rfl | rfl
    · exact ⟨ha2, ha3, hta⟩
    · exact ⟨hb2, hb3, htb⟩
  refine raw_cons ef a1 st4 (ex_assignMapx (xs := [R1, R2]) (a := fun r => D.list (r.map .int)) (b := fun r => .list ((plainOf r (n + 1)).map .int)) (fun d => .list ((plainOf (intsOf d) (n + 1)).map .int)) (fun r _ => by rw [intsOf_eq]) (compOk_of rfl (by kernel_rfl))
    (ei_list (ev_list (.cons (fun _ => rfl) (ev_name rfl rfl rfl) (.cons (fun _ => rfl) (ev_name rfl rfl rfl) .nil)) (by simp [sizeLine_eq]))) (fun r hr => ev_callD (eg_of h (by kernel_rfl) rfl rfl) (keep_fn (by rw [h.K]; kernel_rfl)) (.cons (fun _ => rfl) (ev_name rfl rfl rfl) (.cons (fun _ => rfl) (ev_name rfl rfl rfl) .nil)) (fd_plain h r (n + 1) (by have := (hR r hr).1; omega) (by omega) (hR r hr).2.1))
    (by simp [sizeLine_eq]) (fun _ _ => rfl) rfl (fun env ef => swaps_true ef rfl rfl rfl)) fun X5 F5 s5 st5 => ?_
  refine raw_cons ef a1 st5 (ex_assignMapx (xs := [R1, R2]) (a := fun r => D.list (r.map .int)) (b := fun r => .list ((toldOf r (n + 1)).map .int)) (fun d => .list ((toldOf (intsOf d) (n + 1)).map .int)) (fun r _ => by rw [intsOf_eq]) (compOk_of rfl (by kernel_rfl))
    (ei_list (ev_list (.cons (fun _ => rfl) (ev_name rfl rfl rfl) (.cons (fun _ => rfl) (ev_name rfl rfl rfl) .nil)) (by simp [sizeLine_eq]))) (fun r hr => ev_callD (eg_of h (by kernel_rfl) rfl rfl) (keep_fn (by rw [h.K]; kernel_rfl)) (.cons (fun _ => rfl) (ev_name rfl rfl rfl) (.cons (fun _ => rfl) (ev_name rfl rfl rfl) .nil)) (fd_told h r n (by omega) (hR r hr).2.1))
    (by simp [sizeLine_eq]) (fun _ _ => rfl) rfl (fun env ef => swaps_true ef rfl rfl rfl)) fun X6 F6 s6 st6 => ?_
  have hfig : (([R1, R2] : List (List Int)).map fun r => D.list ((toldOf r (n + 1)).map .int)) = [R1, R2].map fun r => D.list ((plainOf r (n + 1)).map .int) := List.map_congr_left fun r hr => by rw [(hR r hr).2.2]
  rw [hfig] at st6
  generalize hp1 : plainOf R1 (n + 1) = p1 at *
  generalize hp2 : plainOf R2 (n + 1) = p2 at *
  have st6' : St c s.heap X X6 env ((Str.ofString "first", false, .list (R1.map .int)) :: sigMid p1 p2 sg dr (n + 1)) F6 s6 := st6.weak (look_w ⟨rfl, rfl, rfl, rfl, by rw [← hp1, ← hp2]; rfl, by rw [← hp1, ← hp2]; rfl, trivial⟩)
  refine wpAny_execs_cons (wpAny_If (wpAny_isTrue_BoolOp (wpAny_allTrue_Or_cons ?_)))
  have et1 : ∀ {p q r : Pos}, ET c (k + 6) (fdOf (K39 c.w.params) 135).scope.names ((Str.ofString "first", false, .list (R1.map .int)) :: sigMid p1 p2 sg dr (n + 1)) (.Compare (.Name (Str.ofString "figures") p) [.NotEq] [.Name (Str.ofString "plain") q] r) false := fun {p q r} => by
    have e := et_cmp (pos := r) (op_neLLI (c := c) (k := k + 4) (l := [p1, p2]) (m := [p1, p2])) (ev_name (σ := (Str.ofString "first", false, .list (R1.map .int)) :: sigMid p1 p2 sg dr (n + 1)) (ns := (fdOf (K39 c.w.params) 135).scope.names) (x := Str.ofString "figures") (pos := p) rfl rfl rfl).w (ev_name (x := Str.ofString "plain") (pos := q) rfl rfl rfl).w rfl
    rw [beq_self_eq_true] at e
    exact e
  refine et1 env ef _ a1 _ _ _ _ _ _ _ st6' fun s7 n7 => ?_
  rw [if_neg (by decide)]
  have st7 := st6'.nxt n7
  refine wpAny_allTrue_Or_cons (wpAny_isTrue_Compare1 (wpAny_Call_ofName (eg_of h (v := .ref 115) (by kernel_rfl) rfl rfl env ef _ _ _ _ st7.base.top ?_)) rfl)
  refine callWith_evs ef a1 st7 (keep_fn (by rw [h.K]; kernel_rfl)) (.cons (fun _ => rfl) (ev_name (d := .list (R1.map .int)) rfl rfl rfl) .nil) fun vs s8 n8 r8 => ?_
  cases r8 with
  | cons rv8 rs8 =>
  cases rs8
  have st8 := st7.nxt n8
  have hfl : [env].filterMap (·.frame) = [env.locals] := by simp [hfm]
  refine call_refused (k := k + 1) h (row := R1) (by omega) a1 st8.base rv8 hA1 (fun e he => ?_) (fun b hb => ?_) fun tk s9 aft => ?_
  · rw [List.mem_singleton.mp he]
    obtain ⟨m, o, es, ep, ho, hd, _⟩ := st8.fw.ns
    exact ⟨by rw [ef.kind]; decide, env.locals, o, hfm, ho, fun vs q => by rw [hd] at q; cases q⟩
  · rw [hfl, List.mem_singleton] at hb
    subst hb
    exact st8.base.off (st8.fx _ (List.mem_cons_self ..))
  rw [hfl] at aft
  have st9 := st8.aftX aft
  refine ev_str (cs := refusalL) rfl env ef _ a1 _ _ _ _ _ _ _ st9 fun v10 s10 n10 r10 => ?_
  have st10 := st9.nxt n10
  refine op_ne (k := k + 6) (d1 := .str refusalL) (d2 := .str refusalL) .str trivial trivial _ a1 _ _ _ _ _ _ _ _ st10.base (Rep.str refusalL tk).w r10.w fun v11 s11 n11 r11 => ?_
  have st11 := st10.nxt n11
  have hv11 : v11 = .bool false := by
    have e : (!deq (.str refusalL) (.str refusalL)) = false := by decide
    rw [e] at r11
    cases r11; rfl
  subst hv11
  refine wpAny_truthy_bool ?_
  rw [if_neg (by decide)]
  refine wpAny_allTrue_Or_nil ?_
  rw [if_neg (by decide)]
  refine wpAny_execs_nil ?_
  refine law_rest h hlaw env ef _ a1 _ _ _ _ _ _ _ (st11.weak (look_w ⟨rfl, rfl, rfl, rfl, rfl, trivial⟩)) fun fl X' F' s' en => ?_
  obtain ⟨v, rfl, fin, gk⟩ := en
  have hvb : v = .bool true := by
    have r := fin.rep
    cases r; rfl
  subst hvb
  exact q s' fin.keep (fin.os.trans b.os.symm) fin.gens
end
end Mine
end
section
open PySem PySem.W PyProof.Rows
namespace Mine
theorem cls39 (P : Params) : ClsOk (K39 P) 35 49 :=
  ⟨by kernel_rfl, by kernel_rfl, by kernel_rfl, by kernel_rfl, by kernel_rfl, by kernel_rfl, by kernel_rfl, by kernel_rfl, by kernel_rfl, by kernel_rfl, by kernel_rfl, by kernel_rfl, by kernel_rfl, by kernel_rfl, by kernel_rfl, by kernel_rfl⟩
theorem law135 (P : Params) : nsIn (K39 P) mainGlobals (Str.ofString "law") = some (some (.ref 135)) := by kernel_rfl
theorem noName (P : Params) : nsIn (K39 P) mainGlobals (Str.ofString "__name__") ≠ some none := by
  have e : (match nsIn (K39 P) mainGlobals (Str.ofString "__name__") with | some none => false | _ => true) = true := by kernel_rfl
  intro h; rw [h] at e; cases e
theorem glob39 {P : Params} {mg mb : Str → Option Value} {h0 : Heap} (KX : (K39 P).In h0) (hg : h0.Ns mainGlobals mg) (hb : h0.Ns builtinsNs mb) (hbi : ∀ x : Str, x ≠ "__name__" → mb x = bootBuiltins x)
    (M : Model) (A : Around) (E : Value → Shared → Prop) (s : Shared) (env : Env) (x : Str) (v : Value) (Q : Value → Shared → Prop) (ok : EnvOk env) (hk : env.kindOf x = some .globalImplicit) (hx : Ext h0 s.heap) (hv : gK (K39 P) x = some v) (q : Q v s) : wpAny M A (loadName env x) Q E s := by
  unfold loadName
  simp only [Env.blockKind, ok.kind, hk, ScopeKind.isAnnotationScope, Bool.false_and, Bool.false_eq_true, if_false]
  have hg' : s.heap.Ns env.globals mg := by rw [ok.glob]; exact hg.keeps hx
  have hb' : s.heap.Ns env.builtins mb := by rw [ok.bi]; exact hb.keeps hx
  unfold gK at hv
  split at hv
  · rename_i w e
    cases hv
    exact PySem.Calls.loadGlobal_global hg' (mg_of KX hg e) q
  · rename_i e
    have hn : x ≠ "__name__" := fun h => noName P (by rw [← h]; exact e)
    exact PySem.Calls.loadGlobal_builtin hg' (mg_none_of KX hg e) hb' ((hbi x hn).trans hv) q
  · cases hv
theorem rep_args {P : Params} {h : Heap} {X : List Addr} : ∀ {vs : List Value} {xs : List Int}, WellAll P h vs ((xs.map PyData.int).map ofPy) → RepL X h vs (xs.map .int)
  | _, [], w => by cases w; exact .nil
  | _, x :: xs, w => by
    cases w with
    | cons w1 w2 =>
      refine .cons ?_ (rep_args w2)
      cases w1
      exact .int _ _
end Mine
end
section
open PySem PySem.W PyProof.Rows
namespace Mine
/-! the rows of sizes -/
noncomputable def entR : List Int := [1, 2, 3, 0, 127]
noncomputable def tailsR : Nat → List (List Int)
  | 0 => [[]]
  | n + 1 => entR.flatMap fun e => (tailsR n).map (e :: ·)
noncomputable def rowsR : List (List Int) := ([2, 3] : List Int).flatMap fun a => ([1, 2, 3] : List Nat).flatMap fun n => (tailsR n).map (a :: ·)
noncomputable def chkR (R : List Int) (L : Nat) : Bool := toldOf R L == plainOf R L && isRul (plainOf R L)
theorem chkR_all : (rowsR.all fun R => ([3, 4] : List Nat).all fun L => chkR R L) = true := by decide +kernel
theorem mem_tailsR : ∀ t : List Int, (∀ e ∈ t, e ∈ entR) → t ∈ tailsR t.length
  | [], _ => by simp [tailsR]
  | e :: t, h => List.mem_flatMap.mpr ⟨e, h e List.mem_cons_self, List.mem_map.mpr ⟨t, mem_tailsR t (fun x hx => h x (List.mem_cons_of_mem _ hx)), rfl⟩⟩
noncomputable def IsRow (R : List Int) : Prop := ∃ a l, R = a :: l ∧ (a = 2 ∨ a = 3) ∧ l.length = 3 ∧ ∀ e ∈ l, e ∈ entR
theorem row_take {R : List Int} (h : IsRow R) {z : Nat} (h2 : 2 ≤ z) (h4 : z ≤ 4) : R.take z ∈ rowsR ∧ (R.take z).length = z ∧ (R.take z).head? = R.head? ∧ (R.take z).getD 0 0 = R.getD 0 0 ∧ (R.getD 0 0 = 2 ∨ R.getD 0 0 = 3) ∧ (R.take z).head? ≠ some 0 := by
  obtain ⟨a, l, rfl, ha, hl, he⟩ := h
  obtain ⟨y, rfl⟩ : ∃ y, z = y + 1 := ⟨z - 1, by omega⟩
  rw [List.take_succ_cons]
  have hy : (l.take y).length = y := by rw [List.length_take]; omega
  refine ⟨List.mem_flatMap.mpr ⟨a, by rcases ha with rfl | rfl <;> simp, List.mem_flatMap.mpr ⟨(l.take y).length, ?_, List.mem_map.mpr ⟨l.take y, mem_tailsR _ fun e hm => he e (List.mem_of_mem_take hm), rfl⟩⟩⟩, by simp [hy], rfl, rfl, ha, ?_⟩
  · rw [hy]
    have : y = 1 ∨ y = 2 ∨ y = 3 := by omega
    rcases this with rfl | rfl | rfl <;> simp
  · intro e
    have : a = 0 := Option.some.inj e
    omega
theorem chkR_of {R : List Int} (h : R ∈ rowsR) {L : Nat} (hL : L = 3 ∨ L = 4) : toldOf R L = plainOf R L ∧ isRul (plainOf R L) = true := by
  have := List.all_eq_true.mp (List.all_eq_true.mp chkR_all R h) L (by rcases hL with rfl | rfl <;> simp)
  unfold chkR at this
  simpa using this
theorem ent_mem (x : Int) : entriesL.getD (x.fmod 7).toNat 0 ∈ entR := by
  have hb := fmod_bd x (b := 7) (by omega)
  have h : ∀ i, i < 7 → entriesL.getD i 0 ∈ entR := by decide
  exact h _ (by omega)
theorem two_three (x : Int) : 2 + x.fmod 2 = 2 ∨ 2 + x.fmod 2 = 3 := by
  have hb := fmod_bd x (b := 2) (by omega)
  omega
theorem row_isRow {cs : List Int} (hc : cs.length = 5) : IsRow (rowOf cs) := by
  refine ⟨_, _, rfl, two_three _, by simp [hc], fun e he => ?_⟩
  obtain ⟨x, _, rfl⟩ := List.mem_map.mp he
  exact ent_mem x
theorem other_isRow {cs : List Int} (hc : cs.length = 5) : IsRow (otherOf cs) := by
  obtain ⟨a, l, hr, ha, hl, he⟩ := row_isRow hc
  have hb := fmod_bd (cs.getD 4 0) (b := 4) (by omega)
  unfold otherOf
  rw [hr]
  by_cases h0 : spotOf cs = 0
  · refine ⟨freshOf cs, l, by rw [h0]; simp, ?_, hl, he⟩
    unfold freshOf
    rw [if_pos h0]
    exact two_three _
  · have hs : 0 ≤ spotOf cs ∧ spotOf cs < 4 := hb
    obtain ⟨s, hs'⟩ : ∃ s : Nat, (spotOf cs).toNat = s + 1 := ⟨(spotOf cs).toNat - 1, by omega⟩
    have hs3 : s < 3 := by omega
    refine ⟨a, l.take s ++ [freshOf cs] ++ l.drop (s + 1), by rw [hs']; simp, ha, by simp [hl]; omega, fun e hm => ?_⟩
    rcases List.mem_append.mp hm with m | m
    · rcases List.mem_append.mp m with m | m
      · exact he e (List.mem_of_mem_take m)
      · rw [List.mem_singleton.mp m]
        unfold freshOf
        rw [if_neg h0]
        exact ent_mem _
    · exact he e (List.mem_of_mem_drop m)
theorem scr_ok (scr : List Int) : ∃ sg dr n, ScrOk scr sg dr n := by
  have hc : (cellsL scr).length = 5 := by unfold cellsL; simp
  have hz := fmod_bd ((((cellsL scr).getD 4 0)).fdiv 28) (b := 3) (by omega)
  have hz2 : 2 ≤ sizeOf' (cellsL scr) ∧ sizeOf' (cellsL scr) ≤ 4 := by unfold sizeOf'; omega
  obtain ⟨a1, a2, _, a3, a4, a5⟩ := row_take (row_isRow hc) hz2.1 hz2.2
  obtain ⟨b1, b2, _, b3, b4, b5⟩ := row_take (other_isRow hc) hz2.1 hz2.2
  have hk := fmod_bd (((cellsL scr).getD 0 0).fdiv 2) (b := 4) (by omega)
  have hk2 : 0 ≤ kindOf' (cellsL scr) ∧ kindOf' (cellsL scr) < 4 := hk
  have hkl : (kindOf' (cellsL scr)).toNat < signsL.length := by show _ < 4; omega
  obtain ⟨p, hp⟩ : ∃ p, signsL[(kindOf' (cellsL scr)).toNat]? = some p := ⟨_, List.getElem?_eq_getElem hkl⟩
  have o := sgOk_all p (List.mem_of_getElem? hp)
  show ∃ sg dr n, ScrOk scr sg dr n
  have main : ∀ n, (n + 1 = 3 ∨ n + 1 = 4) → 6 - (if (rowB scr).getD 0 0 < (rowA scr).getD 0 0 then (rowB scr).getD 0 0 else (rowA scr).getD 0 0) = ((n + 1 : Nat) : Int) → ScrOk scr p.1 p.2 n := fun n hn hlen => by
    have ca := chkR_of a1 hn
    have cb := chkR_of b1 hn
    exact ⟨⟨hk2.1, hp⟩, by omega, ⟨by show 1 ≤ (List.take _ _).length; omega, by show (List.take _ _).length ≤ 10; omega, a5⟩, ⟨by show 1 ≤ (List.take _ _).length; omega, by show (List.take _ _).length ≤ 10; omega, b5⟩, hlen, ca.1, cb.1, law_ok o (by omega) (by omega) ca.2 cb.2⟩
  have ea : (rowA scr).getD 0 0 = 2 ∨ (rowA scr).getD 0 0 = 3 := by show (List.take _ _).getD 0 0 = 2 ∨ (List.take _ _).getD 0 0 = 3; rw [a3]; exact a4
  have eb : (rowB scr).getD 0 0 = 2 ∨ (rowB scr).getD 0 0 = 3 := by show (List.take _ _).getD 0 0 = 2 ∨ (List.take _ _).getD 0 0 = 3; rw [b3]; exact b4
  by_cases h3 : (rowA scr).getD 0 0 = 3 ∧ (rowB scr).getD 0 0 = 3
  · exact ⟨_, _, 2, main 2 (.inl rfl) (by rw [h3.1, h3.2]; rfl)⟩
  · refine ⟨_, _, 3, main 3 (.inr rfl) ?_⟩
    rcases ea with e | e <;> rcases eb with g | g
    · rw [e, g]; rfl
    · rw [e, g]; rfl
    · rw [e, g]; rfl
    · exact absurd ⟨e, g⟩ h3
end Mine
end
section
open PySem PySem.W PyProof.Rows
namespace Mine
theorem args_plain {w : World} {h : Heap} {l : Addr} {scr : List Int} (W : Well w.params h (.ref l) (ofPy (.list (scr.map PyData.int)))) : Rep [] h (.ref l) (.list (scr.map .int)) := by
  unfold ofPy at W
  rw [ofPys_eq] at W
  cases W with
  | list hl ws => exact .list (by simp) ⟨0, hl⟩ (rep_args ws)
theorem saidA : PySem.Challenge.rw_sc0028_01.row.wellSaid = true := by kernel_rfl
set_option maxHeartbeats 8000000 in
theorem saidX : PySem.Challenge.rw_sc0028_01.wellSaid = true := by
  unfold OpenLaw.wellSaid
  repeat' (with_reducible refine look_both ?_ ?_)
  exact saidA
  all_goals kernel_rfl
set_option maxHeartbeats 8000000 in
theorem final : PySem.Challenge.rw_sc0028_01.Holds := by
  w_on
  refine holds_law saidX fun said => ?_
  refine holds_open (q := viewX) (loose := []) (Xt := fun s => xlAt viewX [] s && recOk (RowW.records PySem.Challenge.rw_sc0028_01.row.toRowW) s) (XP := XL viewX []) (Yf := hookX.obs) (Ya := hookX.val) (YP := hookX.says) (N := 1582) leftX hookX.of hookX.keeps (fun s e => xl_of s (Bool.and_eq_true_iff.mp e).1) XL.keeps (by rfl) (by rfl) (by rfl)
    (fun s e => recFacts_of (Bool.and_eq_true_iff.mp e).2) rfl said (by decide +kernel) ⟨rfl, rfl, rfl, rfl, rfl, by decide +kernel⟩ ?hw ?hc
  case hw => w_witness2
  case hc =>
    intro w s₀ s₁ mg mb G Y fa o pm cd doc dV kV ho hd hcd hD hmg hg args vals as hpre hlay hrd hwl hlo
    have KX := kIn_of Y
    clear ho hd hcd hD Y
    refine Ground.open G ?_
    intro T B D TE TW
    have hfa : Value.ref fa = .ref 135 := Option.some.inj (hmg.symm.trans (mg_of KX T.g (law135 w.params)))
    clear hmg
    wrow_args hpre hlay hrd hwl hlo
    rename_i scr hs hlay0 hL1 hr1 hl2 a4 a3 l vs a0 hL ra w1 r0 hI hrr hc1 hc2
    obtain ⟨sg, dr, n, ok⟩ := scr_ok scr
    have hlen : scr.length ≤ 1000 := by omega
    have rv := args_plain w1
    rw [hfa]
    let c : Cx := { prog := PySem.Challenge.rw_sc0028_01.row.prog, w := w, h0 := s₁.heap, os0 := s₁.os, G := gK (K39 w.params), lim := T.nolimit, K := K39 w.params, kin := KX, fI := 35, fA := 49, cls := cls39 w.params, glob := glob39 KX T.g T.b T.builtins }
    have h39 : C39 c := ⟨rfl, rfl, rfl, rfl⟩
    have ha : AOk (0 + 7) callerA := ⟨rfl, by decide, by decide⟩
    have hb : Base c s₁.heap [] [] s₁ := ⟨.refl _, .refl _, nofun, nofun, nofun, nofun, rfl, .of_eq hg⟩
    exact @law_call c 0 h39 scr sg dr n ok hlen callerA s₁.heap [] [] s₁ (.ref l) _ _ ha rfl hb rv fun s' hext hos hbare =>
      ⟨.inl ⟨.bool true, .bool true, [], rfl, fun _ => rfl, ReadsW.bool true, by wrow_post, fun _ => ⟨List.nodup_nil, nofun⟩⟩, .of_keep hext, hos, hbare⟩
end Mine
end
theorem PySem.Challenge.cw_sc0028_01_holds : PySem.Challenge.rw_sc0028_01.Holds :=
  Mine.final
