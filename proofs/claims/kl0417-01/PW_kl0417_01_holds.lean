import PyProof.Rows.All
import Wide.All
import OpenK.AllK
import Wide.FinOn
import Lean
import PySem.Challenge.RW_kl0417_01
open PySem PySem.W PyProof.Rows
open PySem.Calls
set_option Elab.async false
set_option linter.all false
set_option maxRecDepth 100000
set_option maxHeartbeats 8000000
namespace Mine
local macro_rules | `(tactic| omega) => `(tactic| first | assumption | exact Nat.le_refl _ | exact Nat.zero_le _ | exact Nat.le_of_lt_succ (by assumption) | exact Nat.le_of_lt (by assumption) | exact Nat.succ_le_of_lt (by assumption) | exact Nat.lt_succ_of_le (by assumption) | exact Nat.le_succ_of_le (by assumption) | exact Nat.lt_succ_self _ | exact Nat.le_add_right _ _ | exact Nat.le_add_left _ _ | exact Nat.ne_of_gt (by assumption) | exact Nat.ne_of_lt (by assumption) | exact Nat.le_trans (by assumption) (by decide) | lia)
noncomputable abbrev pw : Program := PySem.Challenge.pw_kl0417_01
noncomputable def nthD {α : Type} (d : α) : List α → Nat → α
  | [], _ => d
  | a :: _, 0 => a
  | _ :: l, n + 1 => nthD d l n
noncomputable def stmAt (i : Nat) : Stmt := nthD (.Pass ⟨0, 0, 0, 0⟩) pw.main.body i
noncomputable def clsAt (j : Nat) : Stmt := match stmAt 9 with | .ClassDef _ _ _ b _ _ _ _ _ _ _ => nthD (.Pass ⟨0, 0, 0, 0⟩) b j | s => s
noncomputable def fPrm : Stmt → Arguments | .FunctionDef _ a _ _ _ _ _ _ _ _ => a | _ => { posonlyargs := [], args := [], vararg := none, kwonlyargs := [], kw_defaults := [], kwarg := none, defaults := [] }
noncomputable def fBdy : Stmt → List Stmt | .FunctionDef _ _ b _ _ _ _ _ _ _ => b | _ => []
noncomputable def fScp : Stmt → Scope | .FunctionDef _ _ _ _ _ _ s _ _ _ => s | _ => { kind := .function, names := [], isGenerator := false, isCoroutine := false }
noncomputable abbrev sv (x : String) (t : Tok) : Value := .str (Str.ofString x) t
noncomputable abbrev en (P : Params) (x : String) (t : Tok) (v : Value) : DictEntry := { hash := PyData.keyHash P (Str.ofString x), key := .str (Str.ofString x) t, val := v }
noncomputable def heapK (P : Params) : Frag := [
  (2, { cls := Value.none, data := Data.dict #[] }),
  (3, { cls := Value.type "dict", data := Data.dict #[(en P "__name__" 165 ((sv "law_kl0417_01" 355))), (en P "__doc__" 166 (Value.none)), (en P "__package__" 167 (Value.none)), (en P "__loader__" 168 (Value.builtin "__main__.__loader__#opaque")), (en P "__spec__" 169 (Value.none)), (en P "__annotations__" 170 (Value.ref 6)), (en P "__builtins__" 171 (Value.ref 4)), (en P "__file__" 173 ((sv "/claim/cut.py" 172))), (en P "__cached__" 174 (Value.none)), (en P "_wall" 193 (Value.ref 21)), (en P "sep" 197 ((sv "/" 196))), (en P "_kind" 206 (Value.ref 28)), (en P "_fspath" 215 (Value.ref 35)), (en P "split" 226 (Value.ref 42)), (en P "_ancestry" 236 (Value.ref 49)), (en P "filterfalse" 288 (Value.ref 82)), (en P "_difference" 298 (Value.ref 93)), (en P "insort_right" 313 (Value.ref 102)), (en P "bisect_right" 327 (Value.ref 111)), (en P "insort_left" 340 (Value.ref 120)), (en P "bisect_left" 354 (Value.ref 129)), (en P "_law_names" 367 (Value.ref 136)), (en P "_law_keys" 373 (Value.ref 141)), (en P "_law_row" 385 (Value.ref 148)), (en P "_law_climb" 391 (Value.ref 153)), (en P "_law_below" 403 (Value.ref 160)), (en P "law" 409 (Value.ref 165))] 27 }),
  (15, { cls := Value.type "tuple", data := Data.seq #[] }),
  (17, { cls := Value.type "tuple", data := Data.seq #[(sv "k" 190)] }),
  (18, { cls := Value.type "tuple", data := Data.seq #[] }),
  (20, { cls := Value.type "code", data := Data.fields #[(sv "_wall" 187), (sv "_wall" 188), (sv "/claim/cut.py" 189), Value.int 1 0, Value.int 1 0, Value.int 0 0, Value.int 0 0, Value.int 3 0, Value.ref 15, Value.bool true, Value.int 181 0, Value.ref 16, Value.none, Value.ref 17, Value.ref 18, Value.ref 19, Value.int 191 0, Value.int 1 0, (sv "/claim/cut.py" 192)] }),
  (21, { cls := Value.type "function", data := Data.func { name := Str.ofString "_wall", qualname := Str.ofString "_wall", params := fPrm (stmAt 0), body := .stmts (fBdy (stmAt 0)), scope := fScp (stmAt 0), globals := 3, closure := [], defaults := Value.none, kwdefaults := Value.none, pyModule := (sv "__main__" 164), code := Value.ref 20 } }),
  (22, { cls := Value.type "tuple", data := Data.seq #[] }),
  (24, { cls := Value.type "tuple", data := Data.seq #[(sv "name" 201), (sv "x" 202), (sv "t" 203)] }),
  (25, { cls := Value.type "tuple", data := Data.seq #[] }),
  (27, { cls := Value.type "code", data := Data.fields #[(sv "_kind" 198), (sv "_kind" 199), (sv "/claim/cut.py" 200), Value.int 6 0, Value.int 2 0, Value.int 0 0, Value.int 0 0, Value.int 3 0, Value.ref 22, Value.bool true, Value.int 181 0, Value.ref 23, Value.none, Value.ref 24, Value.ref 25, Value.ref 26, Value.int 204 0, Value.int 6 0, (sv "/claim/cut.py" 205)] }),
  (28, { cls := Value.type "function", data := Data.func { name := Str.ofString "_kind", qualname := Str.ofString "_kind", params := fPrm (stmAt 3), body := .stmts (fBdy (stmAt 3)), scope := fScp (stmAt 3), globals := 3, closure := [], defaults := Value.none, kwdefaults := Value.none, pyModule := (sv "posixpath" 194), code := Value.ref 27 } }),
  (29, { cls := Value.type "tuple", data := Data.seq #[] }),
  (31, { cls := Value.type "tuple", data := Data.seq #[(sv "name" 210), (sv "x" 211), (sv "k" 212)] }),
  (32, { cls := Value.type "tuple", data := Data.seq #[] }),
  (34, { cls := Value.type "code", data := Data.fields #[(sv "_fspath" 207), (sv "_fspath" 208), (sv "/claim/cut.py" 209), Value.int 27 0, Value.int 2 0, Value.int 0 0, Value.int 0 0, Value.int 3 0, Value.ref 29, Value.bool true, Value.int 181 0, Value.ref 30, Value.none, Value.ref 31, Value.ref 32, Value.ref 33, Value.int 213 0, Value.int 27 0, (sv "/claim/cut.py" 214)] }),
  (35, { cls := Value.type "function", data := Data.func { name := Str.ofString "_fspath", qualname := Str.ofString "_fspath", params := fPrm (stmAt 4), body := .stmts (fBdy (stmAt 4)), scope := fScp (stmAt 4), globals := 3, closure := [], defaults := Value.none, kwdefaults := Value.none, pyModule := (sv "posixpath" 194), code := Value.ref 34 } }),
  (36, { cls := Value.type "tuple", data := Data.seq #[] }),
  (38, { cls := Value.type "tuple", data := Data.seq #[(sv "p" 219), (sv "sep" 220), (sv "i" 221), (sv "head" 222), (sv "tail" 223)] }),
  (39, { cls := Value.type "tuple", data := Data.seq #[] }),
  (41, { cls := Value.type "code", data := Data.fields #[(sv "split" 216), (sv "split" 217), (sv "/claim/cut.py" 218), Value.int 32 0, Value.int 1 0, Value.int 0 0, Value.int 0 0, Value.int 3 0, Value.ref 36, Value.bool true, Value.int 181 0, Value.ref 37, Value.none, Value.ref 38, Value.ref 39, Value.ref 40, Value.int 224 0, Value.int 32 0, (sv "/claim/cut.py" 225)] }),
  (42, { cls := Value.type "function", data := Data.func { name := Str.ofString "split", qualname := Str.ofString "split", params := fPrm (stmAt 5), body := .stmts (fBdy (stmAt 5)), scope := fScp (stmAt 5), globals := 3, closure := [], defaults := Value.none, kwdefaults := Value.none, pyModule := (sv "posixpath" 194), code := Value.ref 41 } }),
  (43, { cls := Value.type "tuple", data := Data.seq #[] }),
  (45, { cls := Value.type "tuple", data := Data.seq #[(sv "path" 232), (sv "tail" 233)] }),
  (46, { cls := Value.type "tuple", data := Data.seq #[] }),
  (48, { cls := Value.type "code", data := Data.fields #[(sv "_ancestry" 229), (sv "_ancestry" 230), (sv "/claim/cut.py" 231), Value.int 41 0, Value.int 1 0, Value.int 0 0, Value.int 0 0, Value.int 35 0, Value.ref 43, Value.bool true, Value.int 181 0, Value.ref 44, Value.none, Value.ref 45, Value.ref 46, Value.ref 47, Value.int 234 0, Value.int 41 0, (sv "/claim/cut.py" 235)] }),
  (49, { cls := Value.type "function", data := Data.func { name := Str.ofString "_ancestry", qualname := Str.ofString "_ancestry", params := fPrm (stmAt 7), body := .stmts (fBdy (stmAt 7)), scope := fScp (stmAt 7), globals := 3, closure := [], defaults := Value.none, kwdefaults := Value.none, pyModule := (sv "cpy313.zipfile._path" 227), code := Value.ref 48 } }),
  (57, { cls := Value.type "tuple", data := Data.seq #[(sv "_it" 251), (sv "_func" 252)] }),
  (58, { cls := Value.type "tuple", data := Data.seq #[] }),
  (60, { cls := Value.type "tuple", data := Data.seq #[(sv "self" 257), (sv "function" 258), (sv "iterable" 259)] }),
  (61, { cls := Value.type "tuple", data := Data.seq #[] }),
  (63, { cls := Value.type "code", data := Data.fields #[(sv "__init__" 254), (sv "filterfalse.__init__" 255), (sv "/claim/cut.py" 256), Value.int 50 0, Value.int 3 0, Value.int 3 0, Value.int 0 0, Value.int 3 0, Value.ref 58, Value.bool true, Value.int 181 0, Value.ref 59, Value.none, Value.ref 60, Value.ref 61, Value.ref 62, Value.int 260 0, Value.int 50 0, (sv "/claim/cut.py" 261)] }),
  (64, { cls := Value.type "function", data := Data.func { name := Str.ofString "__init__", qualname := Str.ofString "filterfalse.__init__", params := fPrm (clsAt 1), body := .stmts (fBdy (clsAt 1)), scope := fScp (clsAt 1), globals := 3, closure := [], defaults := Value.none, kwdefaults := Value.none, pyModule := (sv "itertools" 237), code := Value.ref 63 } }),
  (65, { cls := Value.type "tuple", data := Data.seq #[] }),
  (67, { cls := Value.type "tuple", data := Data.seq #[(sv "self" 266)] }),
  (68, { cls := Value.type "tuple", data := Data.seq #[] }),
  (70, { cls := Value.type "code", data := Data.fields #[(sv "__iter__" 263), (sv "filterfalse.__iter__" 264), (sv "/claim/cut.py" 265), Value.int 54 0, Value.int 1 0, Value.int 0 0, Value.int 0 0, Value.int 3 0, Value.ref 65, Value.bool true, Value.int 181 0, Value.ref 66, Value.none, Value.ref 67, Value.ref 68, Value.ref 69, Value.int 267 0, Value.int 54 0, (sv "/claim/cut.py" 268)] }),
  (71, { cls := Value.type "function", data := Data.func { name := Str.ofString "__iter__", qualname := Str.ofString "filterfalse.__iter__", params := fPrm (clsAt 2), body := .stmts (fBdy (clsAt 2)), scope := fScp (clsAt 2), globals := 3, closure := [], defaults := Value.none, kwdefaults := Value.none, pyModule := (sv "itertools" 237), code := Value.ref 70 } }),
  (72, { cls := Value.type "tuple", data := Data.seq #[] }),
  (74, { cls := Value.type "tuple", data := Data.seq #[(sv "self" 273), (sv "func" 274), (sv "item" 275)] }),
  (75, { cls := Value.type "tuple", data := Data.seq #[] }),
  (77, { cls := Value.type "code", data := Data.fields #[(sv "__next__" 270), (sv "filterfalse.__next__" 271), (sv "/claim/cut.py" 272), Value.int 57 0, Value.int 1 0, Value.int 0 0, Value.int 0 0, Value.int 3 0, Value.ref 72, Value.bool true, Value.int 181 0, Value.ref 73, Value.none, Value.ref 74, Value.ref 75, Value.ref 76, Value.int 276 0, Value.int 57 0, (sv "/claim/cut.py" 277)] }),
  (78, { cls := Value.type "function", data := Data.func { name := Str.ofString "__next__", qualname := Str.ofString "filterfalse.__next__", params := fPrm (clsAt 3), body := .stmts (fBdy (clsAt 3)), scope := fScp (clsAt 3), globals := 3, closure := [], defaults := Value.none, kwdefaults := Value.none, pyModule := (sv "itertools" 237), code := Value.ref 77 } }),
  (79, { cls := Value.type "tuple", data := Data.seq #[(sv "_func" 279), (sv "_it" 280)] }),
  (81, { cls := Value.type "dict", data := Data.dict #[(en P "__module__" 246 ((sv "itertools" 237))), (en P "__firstlineno__" 250 (Value.int 47 249)), (en P "__slots__" 253 (Value.ref 57)), (en P "__init__" 262 (Value.ref 64)), (en P "__iter__" 269 (Value.ref 71)), (en P "__next__" 278 (Value.ref 78)), (en P "__static_attributes__" 281 (Value.ref 79)), (en P "_func" 283 (Value.ref 83)), (en P "_it" 285 (Value.ref 84)), (en P "__doc__" 286 (Value.none))] 4 }),
  (82, { cls := Value.type "type", data := Data.cls { name := Str.ofString "filterfalse", bases := [Value.type "object"], mro := [Value.ref 82, Value.type "object"], ns := 81, qualname := Str.ofString "filterfalse", hasDict := false, slotNames := [Str.ofString "_func", Str.ofString "_it"] }, slots := #[none, none, some ((sv "filterfalse" 239)), some ((sv "filterfalse" 247)), some (Value.builtin "object.__new__"), some (Value.bool false)] }),
  (83, { cls := Value.type "member_descriptor", data := Data.fields #[(sv "_func" 282), Value.ref 82, Value.builtin "proto.slot", Value.builtin "proto.slot#set", Value.int 1 0] }),
  (84, { cls := Value.type "member_descriptor", data := Data.fields #[(sv "_it" 284), Value.ref 82, Value.builtin "proto.slot", Value.builtin "proto.slot#set", Value.int 0 0] }),
  (87, { cls := Value.type "tuple", data := Data.seq #[] }),
  (89, { cls := Value.type "tuple", data := Data.seq #[(sv "minuend" 294), (sv "subtrahend" 295)] }),
  (90, { cls := Value.type "tuple", data := Data.seq #[] }),
  (92, { cls := Value.type "code", data := Data.fields #[(sv "_difference" 291), (sv "_difference" 292), (sv "/claim/cut.py" 293), Value.int 67 0, Value.int 2 0, Value.int 0 0, Value.int 0 0, Value.int 3 0, Value.ref 87, Value.bool true, Value.int 181 0, Value.ref 88, Value.none, Value.ref 89, Value.ref 90, Value.ref 91, Value.int 296 0, Value.int 67 0, (sv "/claim/cut.py" 297)] }),
  (93, { cls := Value.type "function", data := Data.func { name := Str.ofString "_difference", qualname := Str.ofString "_difference", params := fPrm (stmAt 11), body := .stmts (fBdy (stmAt 11)), scope := fScp (stmAt 11), globals := 3, closure := [], defaults := Value.none, kwdefaults := Value.none, pyModule := (sv "cpy313.zipfile._path" 289), code := Value.ref 92 } }),
  (94, { cls := Value.type "tuple", data := Data.seq #[Value.int 0 301, Value.none] }),
  (95, { cls := Value.type "dict", data := Data.dict #[(en P "key" 302 (Value.none))] 1 }),
  (96, { cls := Value.type "tuple", data := Data.seq #[] }),
  (98, { cls := Value.type "tuple", data := Data.seq #[(sv "a" 306), (sv "x" 307), (sv "lo" 308), (sv "hi" 309), (sv "key" 310)] }),
  (99, { cls := Value.type "tuple", data := Data.seq #[] }),
  (101, { cls := Value.type "code", data := Data.fields #[(sv "insort_right" 303), (sv "insort_right" 304), (sv "/claim/cut.py" 305), Value.int 70 0, Value.int 4 0, Value.int 0 0, Value.int 1 0, Value.int 3 0, Value.ref 96, Value.bool true, Value.int 181 0, Value.ref 97, Value.none, Value.ref 98, Value.ref 99, Value.ref 100, Value.int 311 0, Value.int 70 0, (sv "/claim/cut.py" 312)] }),
  (102, { cls := Value.type "function", data := Data.func { name := Str.ofString "insort_right", qualname := Str.ofString "insort_right", params := fPrm (stmAt 13), body := .stmts (fBdy (stmAt 13)), scope := fScp (stmAt 13), globals := 3, closure := [], defaults := Value.ref 94, kwdefaults := Value.ref 95, pyModule := (sv "cpy313.bisect" 299), code := Value.ref 101 } }),
  (103, { cls := Value.type "tuple", data := Data.seq #[Value.int 0 314, Value.none] }),
  (104, { cls := Value.type "dict", data := Data.dict #[(en P "key" 315 (Value.none))] 1 }),
  (105, { cls := Value.type "tuple", data := Data.seq #[] }),
  (107, { cls := Value.type "tuple", data := Data.seq #[(sv "a" 319), (sv "x" 320), (sv "lo" 321), (sv "hi" 322), (sv "key" 323), (sv "mid" 324)] }),
  (108, { cls := Value.type "tuple", data := Data.seq #[] }),
  (110, { cls := Value.type "code", data := Data.fields #[(sv "bisect_right" 316), (sv "bisect_right" 317), (sv "/claim/cut.py" 318), Value.int 76 0, Value.int 4 0, Value.int 0 0, Value.int 1 0, Value.int 3 0, Value.ref 105, Value.bool true, Value.int 181 0, Value.ref 106, Value.none, Value.ref 107, Value.ref 108, Value.ref 109, Value.int 325 0, Value.int 76 0, (sv "/claim/cut.py" 326)] }),
  (111, { cls := Value.type "function", data := Data.func { name := Str.ofString "bisect_right", qualname := Str.ofString "bisect_right", params := fPrm (stmAt 14), body := .stmts (fBdy (stmAt 14)), scope := fScp (stmAt 14), globals := 3, closure := [], defaults := Value.ref 103, kwdefaults := Value.ref 104, pyModule := (sv "cpy313.bisect" 299), code := Value.ref 110 } }),
  (112, { cls := Value.type "tuple", data := Data.seq #[Value.int 0 328, Value.none] }),
  (113, { cls := Value.type "dict", data := Data.dict #[(en P "key" 329 (Value.none))] 1 }),
  (114, { cls := Value.type "tuple", data := Data.seq #[] }),
  (116, { cls := Value.type "tuple", data := Data.seq #[(sv "a" 333), (sv "x" 334), (sv "lo" 335), (sv "hi" 336), (sv "key" 337)] }),
  (117, { cls := Value.type "tuple", data := Data.seq #[] }),
  (119, { cls := Value.type "code", data := Data.fields #[(sv "insort_left" 330), (sv "insort_left" 331), (sv "/claim/cut.py" 332), Value.int 96 0, Value.int 4 0, Value.int 0 0, Value.int 1 0, Value.int 3 0, Value.ref 114, Value.bool true, Value.int 181 0, Value.ref 115, Value.none, Value.ref 116, Value.ref 117, Value.ref 118, Value.int 338 0, Value.int 96 0, (sv "/claim/cut.py" 339)] }),
  (120, { cls := Value.type "function", data := Data.func { name := Str.ofString "insort_left", qualname := Str.ofString "insort_left", params := fPrm (stmAt 15), body := .stmts (fBdy (stmAt 15)), scope := fScp (stmAt 15), globals := 3, closure := [], defaults := Value.ref 112, kwdefaults := Value.ref 113, pyModule := (sv "cpy313.bisect" 299), code := Value.ref 119 } }),
  (121, { cls := Value.type "tuple", data := Data.seq #[Value.int 0 341, Value.none] }),
  (122, { cls := Value.type "dict", data := Data.dict #[(en P "key" 342 (Value.none))] 1 }),
  (123, { cls := Value.type "tuple", data := Data.seq #[] }),
  (125, { cls := Value.type "tuple", data := Data.seq #[(sv "a" 346), (sv "x" 347), (sv "lo" 348), (sv "hi" 349), (sv "key" 350), (sv "mid" 351)] }),
  (126, { cls := Value.type "tuple", data := Data.seq #[] }),
  (128, { cls := Value.type "code", data := Data.fields #[(sv "bisect_left" 343), (sv "bisect_left" 344), (sv "/claim/cut.py" 345), Value.int 102 0, Value.int 4 0, Value.int 0 0, Value.int 1 0, Value.int 3 0, Value.ref 123, Value.bool true, Value.int 181 0, Value.ref 124, Value.none, Value.ref 125, Value.ref 126, Value.ref 127, Value.int 352 0, Value.int 102 0, (sv "/claim/cut.py" 353)] }),
  (129, { cls := Value.type "function", data := Data.func { name := Str.ofString "bisect_left", qualname := Str.ofString "bisect_left", params := fPrm (stmAt 16), body := .stmts (fBdy (stmAt 16)), scope := fScp (stmAt 16), globals := 3, closure := [], defaults := Value.ref 121, kwdefaults := Value.ref 122, pyModule := (sv "cpy313.bisect" 299), code := Value.ref 128 } }),
  (130, { cls := Value.type "tuple", data := Data.seq #[] }),
  (132, { cls := Value.type "tuple", data := Data.seq #[(sv "numbers" 360), (sv "folders" 361), (sv "names" 362), (sv "k" 363), (sv "slashes" 364)] }),
  (133, { cls := Value.type "tuple", data := Data.seq #[] }),
  (135, { cls := Value.type "code", data := Data.fields #[(sv "_law_names" 357), (sv "_law_names" 358), (sv "/claim/cut.py" 359), Value.int 123 0, Value.int 2 0, Value.int 0 0, Value.int 0 0, Value.int 3 0, Value.ref 130, Value.bool true, Value.int 181 0, Value.ref 131, Value.none, Value.ref 132, Value.ref 133, Value.ref 134, Value.int 365 0, Value.int 123 0, (sv "/claim/cut.py" 366)] }),
  (136, { cls := Value.type "function", data := Data.func { name := Str.ofString "_law_names", qualname := Str.ofString "_law_names", params := fPrm (stmAt 18), body := .stmts (fBdy (stmAt 18)), scope := fScp (stmAt 18), globals := 3, closure := [], defaults := Value.none, kwdefaults := Value.none, pyModule := (sv "law_kl0417_01" 355), code := Value.ref 135 } }),
  (137, { cls := Value.type "tuple", data := Data.seq #[] }),
  (140, { cls := Value.type "code", data := Data.fields #[(sv "_law_keys" 368), (sv "_law_keys" 369), (sv "/claim/cut.py" 370), Value.int 129 0, Value.int 2 0, Value.int 0 0, Value.int 0 0, Value.int 3 0, Value.ref 137, Value.bool true, Value.int 181 0, Value.ref 138, Value.none, Value.none, Value.none, Value.ref 139, Value.int 371 0, Value.int 129 0, (sv "/claim/cut.py" 372)] }),
  (141, { cls := Value.type "function", data := Data.func { name := Str.ofString "_law_keys", qualname := Str.ofString "_law_keys", params := fPrm (stmAt 19), body := .stmts (fBdy (stmAt 19)), scope := fScp (stmAt 19), globals := 3, closure := [], defaults := Value.none, kwdefaults := Value.none, pyModule := (sv "law_kl0417_01" 355), code := Value.ref 140 } }),
  (142, { cls := Value.type "tuple", data := Data.seq #[] }),
  (144, { cls := Value.type "tuple", data := Data.seq #[(sv "keys" 377), (sv "turn" 378), (sv "row" 379), (sv "k" 380), (sv "place" 381)] }),
  (145, { cls := Value.type "tuple", data := Data.seq #[(sv "keys" 382)] }),
  (147, { cls := Value.type "code", data := Data.fields #[(sv "_law_row" 374), (sv "_law_row" 375), (sv "/claim/cut.py" 376), Value.int 132 0, Value.int 2 0, Value.int 0 0, Value.int 0 0, Value.int 3 0, Value.ref 142, Value.bool true, Value.int 181 0, Value.ref 143, Value.none, Value.ref 144, Value.ref 145, Value.ref 146, Value.int 383 0, Value.int 132 0, (sv "/claim/cut.py" 384)] }),
  (148, { cls := Value.type "function", data := Data.func { name := Str.ofString "_law_row", qualname := Str.ofString "_law_row", params := fPrm (stmAt 20), body := .stmts (fBdy (stmAt 20)), scope := fScp (stmAt 20), globals := 3, closure := [], defaults := Value.none, kwdefaults := Value.none, pyModule := (sv "law_kl0417_01" 355), code := Value.ref 147 } }),
  (149, { cls := Value.type "tuple", data := Data.seq #[] }),
  (152, { cls := Value.type "code", data := Data.fields #[(sv "_law_climb" 386), (sv "_law_climb" 387), (sv "/claim/cut.py" 388), Value.int 141 0, Value.int 5 0, Value.int 0 0, Value.int 0 0, Value.int 3 0, Value.ref 149, Value.bool true, Value.int 181 0, Value.ref 150, Value.none, Value.none, Value.none, Value.ref 151, Value.int 389 0, Value.int 141 0, (sv "/claim/cut.py" 390)] }),
  (153, { cls := Value.type "function", data := Data.func { name := Str.ofString "_law_climb", qualname := Str.ofString "_law_climb", params := fPrm (stmAt 21), body := .stmts (fBdy (stmAt 21)), scope := fScp (stmAt 21), globals := 3, closure := [], defaults := Value.none, kwdefaults := Value.none, pyModule := (sv "law_kl0417_01" 355), code := Value.ref 152 } }),
  (154, { cls := Value.type "tuple", data := Data.seq #[] }),
  (156, { cls := Value.type "tuple", data := Data.seq #[(sv "row" 395), (sv "keys" 396), (sv "place" 397), (sv "left" 398), (sv "right" 399)] }),
  (157, { cls := Value.type "tuple", data := Data.seq #[(sv "keys" 400)] }),
  (159, { cls := Value.type "code", data := Data.fields #[(sv "_law_below" 392), (sv "_law_below" 393), (sv "/claim/cut.py" 394), Value.int 156 0, Value.int 3 0, Value.int 0 0, Value.int 0 0, Value.int 3 0, Value.ref 154, Value.bool true, Value.int 181 0, Value.ref 155, Value.none, Value.ref 156, Value.ref 157, Value.ref 158, Value.int 401 0, Value.int 156 0, (sv "/claim/cut.py" 402)] }),
  (160, { cls := Value.type "function", data := Data.func { name := Str.ofString "_law_below", qualname := Str.ofString "_law_below", params := fPrm (stmAt 22), body := .stmts (fBdy (stmAt 22)), scope := fScp (stmAt 22), globals := 3, closure := [], defaults := Value.none, kwdefaults := Value.none, pyModule := (sv "law_kl0417_01" 355), code := Value.ref 159 } }),
  (161, { cls := Value.type "tuple", data := Data.seq #[] }),
  (164, { cls := Value.type "code", data := Data.fields #[(sv "law" 404), (sv "law" 405), (sv "/claim/cut.py" 406), Value.int 160 0, Value.int 1 0, Value.int 0 0, Value.int 0 0, Value.int 3 0, Value.ref 161, Value.bool true, Value.int 181 0, Value.ref 162, Value.none, Value.none, Value.none, Value.ref 163, Value.int 407 0, Value.int 160 0, (sv "/claim/cut.py" 408)] }),
  (165, { cls := Value.type "function", data := Data.func { name := Str.ofString "law", qualname := Str.ofString "law", params := fPrm (stmAt 23), body := .stmts (fBdy (stmAt 23)), scope := fScp (stmAt 23), globals := 3, closure := [], defaults := Value.none, kwdefaults := Value.none, pyModule := (sv "law_kl0417_01" 355), code := Value.ref 164 } })]
noncomputable abbrev asK : List Addr := [2, 3, 15, 17, 18, 20, 21, 22, 24, 25, 27, 28, 29, 31, 32, 34, 35, 36, 38, 39, 41, 42, 43, 45, 46, 48, 49, 57, 58, 60, 61, 63, 64, 65, 67, 68, 70, 71, 72, 74, 75, 77, 78, 79, 81, 82, 83, 84, 87, 89, 90, 92, 93, 94, 95, 96, 98, 99, 101, 102, 103, 104, 105, 107, 108, 110, 111, 112, 113, 114, 116, 117, 119, 120, 121, 122, 123, 125, 126, 128, 129, 130, 132, 133, 135, 136, 137, 140, 141, 142, 144, 145, 147, 148, 149, 152, 153, 154, 156, 157, 159, 160, 161, 164, 165]
noncomputable abbrev hookK : Hook := kmHook heapK asK (fun _ => rfl) [155, 143]
noncomputable def q0 : Program := view pw [23]
noncomputable def loose0 : List Str := ["_wall", "sep", "_kind", "_fspath", "split", "_ancestry", "filterfalse", "_difference", "insort_right", "bisect_right", "insort_left", "bisect_left", "_law_names", "_law_keys", "_law_row", "_law_climb", "_law_below"].map Str.ofString
theorem left0 : LeftO pw q0 loose0 (fun s => xlAt q0 [] s && recOk [] s) hookK.obs hookK.val 2000 := by
  intro w
  kernel_rfl
theorem hd {d : DefRec} {kwd : List (Str × PySem.Expr)} (hdef : defOf q0 PySem.Challenge.rw_kl0417_01.row.name = some (d, kwd)) (hp : PySem.Challenge.rw_kl0417_01.row.prog.theDef PySem.Challenge.rw_kl0417_01.row.name = some (d.params, d.body, d.scope)) (hk : kwWritten? d.params.kwonlyargs d.params.kw_defaults = some kwd)
    (call : WalkO q0 loose0 (XL q0 []) hookK.says PySem.Challenge.rw_kl0417_01.row.toRowW d kwd fun f vs => PySem.call f vs) : PySem.Challenge.rw_kl0417_01.Holds :=
  holds_law (by kernel_rfl) fun said => holds_open (q := q0) (loose := loose0) (Xt := fun s => xlAt q0 [] s && recOk [] s) (XP := XL q0 []) (Yf := hookK.obs) (Ya := hookK.val) (YP := hookK.says) (N := 2000) left0 hookK.of hookK.keeps (fun s e => xl_of s (Bool.and_eq_true_iff.mp e).1) XL.keeps
    hdef hp hk (fun s e => recFacts_of (Bool.and_eq_true_iff.mp e).2) (by rfl) said (by decide +kernel) ⟨rfl, rfl, rfl, rfl, rfl, by decide +kernel⟩ (by exact ⟨[.list [.int 3, .int 1]], by decide +kernel, by decide +kernel⟩) call
noncomputable def strAt (vs : Array Value) : Bool := match (vs[1]? : Option Value) with | some (Value.str _ _) => true | _ => false
noncomputable def tabLike (o : Obj) : Bool := match o.cls, o.data with | .none, .fields vs => !strAt vs | _, _ => false
noncomputable def scratch (o : Obj) : Bool := match o.data with | .dict _ _ => true | .cell _ => true | _ => false
structure Ext (h h' : Heap) : Prop where
  live : ∀ {b o}, h.get? b = some o → ∃ o', h'.get? b = some o'
  keep : ∀ {b o}, h.get? b = some o → tabLike o = false → h'.get? b = some o
theorem Ext.refl (h : Heap) : Ext h h := ⟨fun e => ⟨_, e⟩, fun e _ => e⟩
theorem Ext.trans {a b c : Heap} (x : Ext a b) (y : Ext b c) : Ext a c :=
  ⟨fun e => let ⟨_, e'⟩ := x.live e; y.live e', fun e t => y.keep (x.keep e t) t⟩
theorem Ext.of {h h' : Heap} (k : ∀ b o, h.get? b = some o → h'.get? b = some o) : Ext h h' := ⟨fun e => ⟨_, k _ _ e⟩, fun e _ => k _ _ e⟩
theorem Ext.push (h : Heap) (o : Obj) : Ext h (h.push o) := .of fun _ _ e => Heap.get?_push_of_some o e
theorem Ext.push' {b h : Heap} (x : Ext b h) (o : Obj) : Ext b (h.push o) := x.trans (.push h o)
theorem Ext.none {h h' : Heap} {a : Addr} (x : Ext h h') (e : h'.get? a = none) : h.get? a = none := by
  cases q : h.get? a with
  | none => rfl
  | some o => obtain ⟨_, e'⟩ := x.live q; rw [e] at e'; cases e'
theorem Ext.ne {h h' : Heap} {a b : Addr} {o : Obj} (x : Ext h h') (e : h'.get? a = Option.none) (q : h.get? b = some o) : b ≠ a := by
  rintro rfl; rw [x.none e] at q; cases q
theorem oldOn {B h h' : Heap} (K : OldK B h) (hk : ∀ b o, (∃ q, B.get? b = some q) → h.get? b = some o → h'.get? b = some o) : OldK B h' :=
  ⟨fun b o e => by
    rcases K.old b o e with x | ⟨t, hc, vs, more, hv, x⟩ | ⟨rfl, hc, ⟨o', es, n, ho', r⟩, z⟩
    · exact .inl (hk _ _ ⟨_, e⟩ x)
    · exact .inr (.inl ⟨t, hc, vs, more, hv, hk _ _ ⟨_, e⟩ x⟩)
    · exact .inr (.inr ⟨rfl, hc, ⟨o', es, n, hk _ _ ⟨_, e⟩ ho', r⟩, fun key => by rw [OldK.staticOf_congr ((hk _ _ ⟨_, e⟩ ho').trans ho'.symm) key]; exact z key⟩),
   fun b o e => let ⟨o', ho'⟩ := K.there b o e; ⟨o', hk _ _ ⟨_, e⟩ ho'⟩⟩
theorem get?_size (h : Heap) : h.get? h.objs.size = none := by
  cases q : h.get? h.objs.size with
  | none => rfl
  | some o => exact absurd (Heap.lt_size q) (Nat.lt_irrefl _)
theorem Ext.but {b h h' : Heap} {a : Addr} (x : Ext b h) (f : b.get? a = Option.none) (k : Heap.ExtBut a h h') : Ext b h' :=
  ⟨fun {c o} e => by
      obtain ⟨o', e'⟩ := x.live e
      exact ⟨o', k c o' (fun q => by rw [q, f] at e; cases e) e'⟩,
   fun {c o} e t => k c o (fun q => by rw [q, f] at e; cases e) (x.keep e t)⟩
theorem Ext.same {b h h' : Heap} {a : Addr} (x : Ext b h) (f : b.get? a = Option.none) (k : Heap.SameBut a h h') : Ext b h' := x.but f k.extBut
theorem tab_data {o : Obj} (h : ∀ vs, o.data ≠ .fields vs) : tabLike o = false := by
  unfold tabLike
  split
  · rename_i vs _ e; exact absurd e (h vs)
  · rfl
theorem tab_cls {o : Obj} (h : o.cls ≠ .none) : tabLike o = false := by
  unfold tabLike
  split
  · rename_i e _; exact absurd e h
  · rfl
theorem tab_str {o : Obj} {vs : Array Value} {q : Str} {t : Tok} (hd : o.data = .fields vs) (h : vs[1]? = some (.str q t)) : tabLike o = false := by
  unfold tabLike
  split
  · rename_i vs' _ e
    rw [hd] at e
    cases e
    unfold strAt
    rw [h]; rfl
  · rfl
theorem tab_type {o : Obj} {t : String} (h : o.cls = .type t) : tabLike o = false := tab_cls (by rw [h]; exact nofun)
theorem Ext.list {h h' : Heap} {a : Addr} {its : Array Value} (x : Ext h h') (l : h.IsList a its) : h'.IsList a its :=
  let ⟨o, ho, hc, r⟩ := l; ⟨o, x.keep ho (tab_type hc), hc, r⟩
theorem Ext.tup {h h' : Heap} {a : Addr} {its : Array Value} (x : Ext h h') (l : IsTup h a its) : IsTup h' a its :=
  let ⟨o, ho, hc, r⟩ := l; ⟨o, x.keep ho (tab_type hc), hc, r⟩
theorem Ext.ns {h h' : Heap} {a : Addr} {m : Str → Option Value} (x : Ext h h') (l : h.Ns a m) : h'.Ns a m :=
  let ⟨o, es, ep, ho, hd, r⟩ := l; ⟨o, es, ep, x.keep ho (tab_data fun vs e => by rw [hd] at e; cases e), hd, r⟩
theorem Ext.cell {h h' : Heap} {a : Addr} {v : Option Value} (x : Ext h h') (l : h.IsCell a v) : h'.IsCell a v :=
  let ⟨o, ho, hd⟩ := l; ⟨o, x.keep ho (tab_data fun vs e => by rw [hd] at e; cases e), hd⟩
theorem Ext.nolimit {h h' : Heap} (x : Ext h h') (l : h.NoLimit) : h'.NoLimit := let ⟨mc, a, b⟩ := l; ⟨mc, x.ns a, b⟩
inductive D where
  | none
  | bool (b : Bool)
  | int (i : Int)
  | str (s : Str)
  | list (l : List D)
  | tup (l : List D)
noncomputable abbrev LObj (vs : List Value) (n : Nat) : Obj := { cls := .type "list", dict := none, data := .seq vs.toArray n, slots := #[] }
noncomputable abbrev TObj (vs : List Value) (n : Nat) : Obj := { cls := .type "tuple", dict := none, data := .seq vs.toArray n, slots := #[] }
noncomputable def IsL (h : Heap) (a : Addr) (vs : List Value) : Prop := ∃ n, h.get? a = some (LObj vs n)
noncomputable def IsT (h : Heap) (a : Addr) (vs : List Value) : Prop := ∃ n, h.get? a = some (TObj vs n)
theorem IsL.isList {h : Heap} {a : Addr} {vs : List Value} (x : IsL h a vs) : h.IsList a vs.toArray := let ⟨n, e⟩ := x; ⟨_, e, rfl, n, rfl⟩
theorem IsT.isTup {h : Heap} {a : Addr} {vs : List Value} (x : IsT h a vs) : IsTup h a vs.toArray := let ⟨n, e⟩ := x; ⟨_, e, rfl, n, rfl⟩
theorem IsL.new (h : Heap) (vs : List Value) : IsL (h.push (LObj vs 0)) h.objs.size vs := ⟨0, Heap.get?_push_size _ rfl⟩
theorem IsT.new (h : Heap) (vs : List Value) : IsT (h.push (TObj vs 0)) h.objs.size vs := ⟨0, Heap.get?_push_size _ rfl⟩
theorem Ext.isL {h h' : Heap} {a : Addr} {vs : List Value} (x : Ext h h') (l : IsL h a vs) : IsL h' a vs := let ⟨n, e⟩ := l; ⟨n, x.keep e rfl⟩
theorem Ext.isT {h h' : Heap} {a : Addr} {vs : List Value} (x : Ext h h') (l : IsT h a vs) : IsT h' a vs := let ⟨n, e⟩ := l; ⟨n, x.keep e rfl⟩
noncomputable abbrev Al := Addr → Prop
structure Vw where
  h : Heap
  Y : Al
noncomputable def Ok (Y : Al) (h : Heap) : Prop := ∀ a, h.get? a = none → Y a
theorem Ok.ext {Y : Al} {h h' : Heap} (x : Ok Y h) (k : Ext h h') : Ok Y h' := fun a e => x a (k.none e)
theorem Ok.size {Y : Al} {h : Heap} (x : Ok Y h) : Y h.objs.size := x _ (get?_size h)
mutual
noncomputable def Rep (k : Vw) : D → Value → Prop
  | .none, v => v = .none
  | .bool b, v => v = .bool b
  | .int i, v => ∃ t, v = .int i t
  | .str s, v => ∃ t, v = .str s t
  | .list ds, v => ∃ a vs, v = .ref a ∧ k.Y a ∧ IsL k.h a vs ∧ Reps k ds vs
  | .tup ds, v => ∃ a vs, v = .ref a ∧ k.Y a ∧ IsT k.h a vs ∧ Reps k ds vs
noncomputable def Reps (k : Vw) : List D → List Value → Prop
  | [], vs => vs = []
  | d :: ds, vs => ∃ v r, vs = v :: r ∧ Rep k d v ∧ Reps k ds r
end
section
variable {k : Vw}
theorem Reps.nil : Reps k [] [] := by simp [Reps]
theorem Reps.cons {d ds v vs} (x : Rep k d v) (y : Reps k ds vs) : Reps k (d :: ds) (v :: vs) := by
  rw [Reps]; exact ⟨v, vs, rfl, x, y⟩
theorem Reps.length : ∀ {ds vs}, Reps k ds vs → vs.length = ds.length
  | [], vs, x => by rw [Reps] at x; rw [x]; rfl
  | d :: ds, vs, x => by
    rw [Reps] at x
    obtain ⟨v, r, rfl, _, y⟩ := x
    simp [Reps.length y]
theorem Reps.append : ∀ {ds vs es ws}, Reps k ds vs → Reps k es ws → Reps k (ds ++ es) (vs ++ ws)
  | [], vs, es, ws, x, y => by rw [Reps] at x; rw [x]; exact y
  | d :: ds, vs, es, ws, x, y => by
    rw [Reps] at x
    obtain ⟨v, r, rfl, a, b⟩ := x
    exact .cons a (.append b y)
theorem Reps.get : ∀ {ds vs}, Reps k ds vs → ∀ {i : Nat} {d : D}, ds[i]? = some d → ∃ v, vs[i]? = some v ∧ Rep k d v
  | [], vs, x, i, d, e => by cases i <;> cases e
  | d' :: ds, vs, x, i, d, e => by
    rw [Reps] at x
    obtain ⟨v, r, rfl, a, b⟩ := x
    cases i with
    | zero => simp at e; subst e; exact ⟨v, rfl, a⟩
    | succ i => simp at e; obtain ⟨u, p, q⟩ := Reps.get b e; exact ⟨u, by simpa using p, q⟩
theorem Reps.drop : ∀ {ds vs}, Reps k ds vs → ∀ i, Reps k (ds.drop i) (vs.drop i)
  | ds, vs, x, 0 => x
  | [], vs, x, i + 1 => by rw [Reps] at x; subst x; exact .nil
  | d :: ds, vs, x, i + 1 => by
    rw [Reps] at x
    obtain ⟨v, r, rfl, a, b⟩ := x
    exact Reps.drop b i
theorem Reps.take : ∀ {ds vs}, Reps k ds vs → ∀ i, Reps k (ds.take i) (vs.take i)
  | ds, vs, x, 0 => by simpa using Reps.nil
  | [], vs, x, i + 1 => by rw [Reps] at x; subst x; exact .nil
  | d :: ds, vs, x, i + 1 => by
    rw [Reps] at x
    obtain ⟨v, r, rfl, a, b⟩ := x
    exact .cons a (Reps.take b i)
theorem Reps.reverse : ∀ {ds vs}, Reps k ds vs → Reps k ds.reverse vs.reverse
  | [], vs, x => by rw [Reps] at x; subst x; exact .nil
  | d :: ds, vs, x => by
    rw [Reps] at x
    obtain ⟨v, r, rfl, a, b⟩ := x
    rw [List.reverse_cons, List.reverse_cons]
    exact (Reps.reverse b).append (.cons a .nil)
end
noncomputable def Keepers (k k' : Vw) : Prop := ∀ b o, k.h.get? b = some o → k.Y b → (∃ its n, o.data = .seq its n) → k'.h.get? b = some o ∧ k'.Y b
mutual
theorem Rep.keepers {h h' : Vw} (x : Keepers h h') : ∀ {d v}, Rep h d v → Rep h' d v
  | .none, v, r => by rw [Rep] at r ⊢; exact r
  | .bool b, v, r => by rw [Rep] at r ⊢; exact r
  | .int b, v, r => by rw [Rep] at r ⊢; exact r
  | .str b, v, r => by rw [Rep] at r ⊢; exact r
  | .list ds, v, r => by
    rw [Rep] at r ⊢
    obtain ⟨a, vs, e, y, ⟨n, l⟩, q⟩ := r
    have z := x _ _ l y ⟨_, _, rfl⟩
    exact ⟨a, vs, e, z.2, ⟨n, z.1⟩, Reps.keepers x q⟩
  | .tup ds, v, r => by
    rw [Rep] at r ⊢
    obtain ⟨a, vs, e, y, ⟨n, l⟩, q⟩ := r
    have z := x _ _ l y ⟨_, _, rfl⟩
    exact ⟨a, vs, e, z.2, ⟨n, z.1⟩, Reps.keepers x q⟩
theorem Reps.keepers {h h' : Vw} (x : Keepers h h') : ∀ {d v}, Reps h d v → Reps h' d v
  | [], v, r => by rw [Reps] at r ⊢; exact r
  | d :: ds, vs, r => by
    rw [Reps] at r ⊢
    obtain ⟨v, r, e, a, b⟩ := r
    exact ⟨v, r, e, Rep.keepers x a, Reps.keepers x b⟩
end
theorem Ext.keepers {h h' : Heap} (x : Ext h h') (Y : Al) : Keepers ⟨h, Y⟩ ⟨h', Y⟩ := fun b o e y ⟨its, n, hd⟩ => ⟨x.keep e (tab_data fun vs q => by rw [hd] at q; cases q), y⟩
theorem scratch_keepers {h h' : Heap} {Y : Al} {a : Addr} {o : Obj} (e : h.get? a = some o) (hs : scratch o = true) (k : Heap.SameBut a h h') : Keepers ⟨h, Y⟩ ⟨h', Y⟩ := fun b p q y ⟨its, n, hd⟩ =>
  ⟨(k.2 b (by
    have q' : h.get? b = some p := q
    rintro rfl; rw [e] at q'; cases q'; unfold scratch at hs; rw [hd] at hs; simp at hs)).trans q, y⟩
theorem soft_keepers {h h' : Heap} {Y : Al} {a : Addr} {o : Obj} (e : h.get? a = some o) (hs : ∀ its n, o.data ≠ .seq its n) (k : Heap.ExtBut a h h') : Keepers ⟨h, Y⟩ ⟨h', Y⟩ := fun b p q y ⟨its, n, hd⟩ =>
  ⟨k b _ (by
    have q' : h.get? b = some p := q
    rintro rfl; rw [e] at q'; cases q'; exact hs _ _ hd) q, y⟩
theorem but_keepers {h h' : Heap} {Y : Al} {a : Addr} (hy : ¬ Y a) (k : Heap.ExtBut a h h') : Keepers ⟨h, Y⟩ ⟨h', Y⟩ := fun b p q y _ => ⟨k b _ (by rintro rfl; exact hy y) q, y⟩
theorem ref_keepers {h : Heap} {Y Y' : Al} (r : ∀ a o, h.get? a = some o → Y a → Y' a) : Keepers ⟨h, Y⟩ ⟨h, Y'⟩ := fun b p q y _ => ⟨q, r _ _ q y⟩
structure VP where
  p : Vw → Value → Prop
  ext : ∀ {h h' Y v}, Ext h h' → p ⟨h, Y⟩ v → p ⟨h', Y⟩ v
  ref : ∀ {h Y Y' v}, (∀ a o, h.get? a = some o → Y a → Y' a) → p ⟨h, Y⟩ v → p ⟨h, Y'⟩ v
structure VP.Stab (R : VP) : Prop where
  st : ∀ {h h' : Heap} {Y : Al} {v : Value} {a : Addr} {o o' : Obj}, h.get? a = some o → (∀ its n, o.data ≠ .seq its n) → h'.get? a = some o' → Heap.SameBut a h h' → R.p ⟨h, Y⟩ v → R.p ⟨h', Y⟩ v
noncomputable def dat (d : D) : VP := ⟨fun k v => Rep k d v, fun x r => r.keepers (x.keepers _), fun x r => r.keepers (ref_keepers x)⟩
theorem dat_stab (d : D) : (dat d).Stab := ⟨fun e hs _ k r => Rep.keepers (soft_keepers e hs k.extBut) r⟩
theorem scratch_noseq {o : Obj} (h : scratch o = true) : ∀ its n, o.data ≠ .seq its n := fun its n hd => by unfold scratch at h; rw [hd] at h; simp at h
noncomputable def VP.at (b : Heap) (R : VP) : VP := ⟨fun k v => (∀ {a o}, b.get? a = some o → ∃ o', k.h.get? a = some o') ∧ R.p ⟨b, k.Y⟩ v,
  fun x r => ⟨fun e => let ⟨_, e'⟩ := r.1 e; x.live e', r.2⟩, fun x r => ⟨r.1, R.ref (fun a o e y => let ⟨_, e'⟩ := r.1 e; x a _ e' y) r.2⟩⟩
theorem at_stab (b : Heap) (R : VP) : (VP.at b R).Stab := ⟨fun {h h' Y v a o o'} e hs e' k r => ⟨fun {c q} z => by
    obtain ⟨u, hu⟩ := r.1 z
    by_cases hc : c = a
    · subst hc; exact ⟨_, e'⟩
    · exact ⟨u, (k.2 c hc).trans hu⟩, r.2⟩⟩
noncomputable def isV (u : Value) : VP := ⟨fun _ v => v = u, fun _ r => r, fun _ r => r⟩
theorem isV_stab (u : Value) : (isV u).Stab := ⟨fun _ _ _ _ r => r⟩
structure HP where
  p : Vw → Prop
  ext : ∀ {h h' Y}, Ext h h' → p ⟨h, Y⟩ → p ⟨h', Y⟩
noncomputable def HP.top : HP := ⟨fun _ => True, fun _ _ => trivial⟩
structure HP.Stab (b : Heap) (F : HP) : Prop where
  st : ∀ {h h' : Heap} {Y : Al} {a : Addr} {o o' : Obj}, b.get? a = none → h.get? a = some o → scratch o = true → h'.get? a = some o' → Heap.SameBut a h h' → F.p ⟨h, Y⟩ → F.p ⟨h', Y⟩
theorem top_stab {b : Heap} : HP.top.Stab b := ⟨fun _ _ _ _ _ _ => trivial⟩
structure Cx where
  prog : Program
  w : World
  B : Heap
  os : OsState
  mg : Str → Option Value
  fz : Bool
  gens : Array GenState
  drawn : Drawn
noncomputable abbrev Cx.M (C : Cx) : Model := model C.prog C.w
noncomputable def TabOk (h : Heap) (P : Addr) (q : Str) : Prop :=
  ∃ ps, h.get? P = some (tabObj ps) ∧ TriplesOk ps.toList ∧ ∀ pos cv, codeAmong pos ps.toList = some cv → h.CodeRec cv q
noncomputable def tabsOf : List (Addr × Str) := [(155, Str.ofString "_law_below.<locals>.<lambda>"), (143, Str.ofString "_law_row.<locals>.<lambda>")]
structure St (C : Cx) (s : Shared) : Prop where
  ext : Ext C.B s.heap
  os : s.os = C.os
  bare : AllBare s.gens
  tabs : ∀ q ∈ tabsOf, TabOk s.heap q.1 q.2
  fr : C.fz = true → s.gens = C.gens ∧ s.drawn = C.drawn ∧ ∀ b o, C.B.get? b = some o → s.heap.get? b = some o
  old : OldK C.B s.heap
structure Room (n : Nat) (A : Around) : Prop where
  hh : A.handled = none
  depth : A.depth + n ≤ 690
  units : A.units + 10 * n ≤ 9000
  frames : ∃ fs, A.frames = some fs
theorem Room.le {n m : Nat} {A : Around} (r : Room n A) (h : m ≤ n := by omega) : Room m A := ⟨r.hh, by have := r.depth; omega, by have := r.units; omega, r.frames⟩
theorem Room.deeper {n : Nat} {A : Around} (r : Room (n + 1) A) (env : Env) : Room n (A.deeper env) :=
  ⟨r.hh, by have := r.depth; simp only [Around.deeper]; omega, by have := r.units; simp only [Around.deeper]; omega, let ⟨fs, e⟩ := r.frames; ⟨env :: fs, by simp [Around.deeper, e]⟩⟩
theorem Room.in1 {n : Nat} {A : Around} (r : Room (n + 1) A) : Room n A.in1 :=
  ⟨r.hh, by have := r.depth; simp only [Around.in1_depth]; omega, by have := r.units; simp only [Around.in1_units]; omega, r.frames⟩
theorem Room.cline {n : Nat} {A : Around} (r : Room n A) : A.units < cLine := by have := r.units; unfold cLine; omega
theorem Room.cline1 {n : Nat} {A : Around} (r : Room n A) : A.in1.units < cLine := by have := r.units; simp only [Around.in1_units]; unfold cLine; omega
theorem Room.reclim {n : Nat} {A : Around} (r : Room n A) : A.depth < recursionLimit := by have := r.depth; unfold recursionLimit; omega
theorem Room.mark {n : Nat} {A : Around} (r : Room n A) : Room n (A.mark none) := r
noncomputable def Does (C : Cx) (n : Nat) (P : Vw → Prop) {α : Type} (t : Sem α) (R : Vw → α → Prop) : Prop :=
  ∀ A s E Y, Room n A → St C s → Ok Y s.heap → P ⟨s.heap, Y⟩ → wpAny C.M A t (fun v s' => St C s' ∧ Ext s.heap s'.heap ∧ R ⟨s'.heap, Y⟩ v) E s
section
variable {C : Cx} {n : Nat} {α β : Type} {P P' : Vw → Prop}
theorem CodeRec.ext {h h' : Heap} {cd : Value} {q : Str} (x : h.CodeRec cd q) (hk : Ext h h') : h'.CodeRec cd q :=
  let ⟨c, o, vs, t, e, g, d, r⟩ := x; ⟨c, o, vs, t, e, hk.keep g (tab_str d r), d, r⟩
theorem tab_tab {ps : Array Value} (h : TriplesOk ps.toList) : tabLike (tabObj ps) = true := by
  have := triples_no_str h
  show (!strAt ps) = true
  unfold strAt
  split
  · rename_i q t e
    exact absurd (by simpa using e) (this q t)
  · rfl
theorem St.push {s : Shared} (x : St C s) (o : Obj) : St C { s with heap := s.heap.push o } :=
  ⟨x.ext.push' o, x.os, x.bare, fun q hq => let ⟨ps, a, b, c⟩ := x.tabs q hq; ⟨ps, Heap.get?_push_of_some o a, b, fun pos cv e => (c pos cv e).push o⟩, fun z => let ⟨a, b, c⟩ := x.fr z; ⟨a, b, fun q r e => Heap.get?_push_of_some o (c q r e)⟩, oldOn x.old fun _ _ _ e => Heap.get?_push_of_some o e⟩
theorem St.tok {s : Shared} (x : St C s) (k : Tok) : St C { s with toks := k } := ⟨x.ext, x.os, x.bare, x.tabs, x.fr, x.old⟩
noncomputable def soft (o : Obj) : Bool := !tabLike o && match o.data with
  | .fields vs => (match (vs[1]? : Option Value) with | some (Value.str _ _) => false | _ => true)
  | _ => true
theorem St.but {s : Shared} (x : St C s) {a : Addr} {o : Obj} {h' : Heap} (e : s.heap.get? a = some o) (hs : soft o = true) (f : C.B.get? a = none) (k : Heap.ExtBut a s.heap h') (tk : Tok) :
    St C { s with heap := h', toks := tk } := by
  refine ⟨x.ext.but f k, x.os, x.bare, fun q hq => ?_, fun z => let ⟨a, b, c⟩ := x.fr z; ⟨a, b, fun q r e => k _ _ (fun h => by rw [h, f] at e; cases e) (c q r e)⟩, oldOn x.old fun b o ⟨q, hq⟩ e => k _ _ (fun h => by rw [h, f] at hq; cases hq) e⟩
  obtain ⟨ps, h1, h2, h3⟩ := x.tabs q hq
  refine ⟨ps, k _ _ (fun e2 => ?_) h1, h2, fun pos cv e2 => ?_⟩
  · rw [e2, e] at h1
    cases h1
    unfold soft at hs
    rw [tab_tab h2] at hs
    simp at hs
  · obtain ⟨c, oc, vs, t, rfl, g, d, r⟩ := h3 pos cv e2
    refine ⟨c, oc, vs, t, rfl, k _ _ (fun e3 => ?_) g, d, r⟩
    rw [e3, e] at g
    cases g
    unfold soft at hs
    rw [d] at hs
    simp [r] at hs
theorem St.same {s : Shared} (x : St C s) {a : Addr} {o : Obj} {h' : Heap} (e : s.heap.get? a = some o) (hs : soft o = true) (f : C.B.get? a = none) (k : Heap.SameBut a s.heap h') (tk : Tok) :
    St C { s with heap := h', toks := tk } := x.but e hs f k.extBut tk
theorem soft_data {o : Obj} (h : ∀ vs, o.data ≠ .fields vs) : soft o = true := by
  unfold soft
  rw [tab_data h]
  split
  · rename_i vs e; exact absurd e (h vs)
  · rfl
theorem soft_ns {h : Heap} {a : Addr} {m : Str → Option Value} (x : h.Ns a m) : ∃ o, h.get? a = some o ∧ soft o = true :=
  let ⟨o, es, ep, e, d, _⟩ := x; ⟨o, e, soft_data fun vs q => by rw [d] at q; cases q⟩
theorem soft_cell {h : Heap} {a : Addr} {v : Option Value} (x : h.IsCell a v) : ∃ o, h.get? a = some o ∧ soft o = true :=
  let ⟨o, e, d⟩ := x; ⟨o, e, soft_data fun vs q => by rw [d] at q; cases q⟩
theorem soft_list {h : Heap} {a : Addr} {its : Array Value} (x : h.IsList a its) : ∃ o, h.get? a = some o ∧ soft o = true :=
  let ⟨o, e, _, n, d⟩ := x; ⟨o, e, soft_data fun vs q => by rw [d] at q; cases q⟩
theorem Does.pre {t : Sem α} {R : Vw → α → Prop} (ht : Does C n P t R) (hP : ∀ h, P' h → P h) : Does C n P' t R := fun A s E Y hA hs hY hp => ht A s E Y hA hs hY (hP _ hp)
theorem Does.post {t : Sem α} {R R' : Vw → α → Prop} (ht : Does C n P t R) (hR : ∀ h a, R h a → R' h a) : Does C n P t R' := fun A s E Y hA hs hY hp =>
  wpAny_mono (ht A s E Y hA hs hY hp) (fun _ _ ⟨a, b, c⟩ => ⟨a, b, hR _ _ c⟩) fun _ _ e => e
theorem Does.room {m : Nat} {t : Sem α} {R : Vw → α → Prop} (ht : Does C n P t R) (h : n ≤ m := by omega) : Does C m P t R := fun A s E Y hA hs hY hp => ht A s E Y (hA.le h) hs hY hp
noncomputable def Slot (env : Env) (h : Heap) (x : Str) (v : Value) : Prop :=
  (env.kindOf x = some .local ∧ ∃ m, h.Ns env.locals m ∧ m x = some v) ∨
    ((env.kindOf x = some .cell ∨ (env.kindOf x = some .free ∧ (x == ("__classdict__" : Str)) = false)) ∧ ∃ c, env.cells.lookup x = some c ∧ h.IsCell c (some v))
theorem Slot.ext {env : Env} {h h' : Heap} {x : Str} {v : Value} (s : Slot env h x v) (k : Ext h h') : Slot env h' x v := by
  rcases s with ⟨a, m, b, c⟩ | ⟨a, c, d, e⟩
  · exact .inl ⟨a, m, k.ns b, c⟩
  · exact .inr ⟨a, c, d, k.cell e⟩
structure FS where
  b : Heap
  env : Env
  sc : Scope
  ρ : List (Str × VP)
  F : HP
structure FS.H (f : FS) (k : Vw) : Prop where
  ext : Ext f.b k.h
  sc : f.env.scope = f.sc
  kind : f.sc.kind = .function
  glob : f.env.globals = mainGlobals
  bi : f.env.builtins = builtinsNs
  vars : ∀ x R, f.ρ.lookup x = some R → ∃ v, Slot f.env k.h x v ∧ R.p k v
  more : f.F.p k
theorem FS.H.up {f : FS} {h h' : Heap} {Y : Al} (x : f.H ⟨h, Y⟩) (k : Ext h h') : f.H ⟨h', Y⟩ :=
  ⟨x.ext.trans k, x.sc, x.kind, x.glob, x.bi, fun y R e => let ⟨v, a, b⟩ := x.vars y R e; ⟨v, a.ext k, R.ext k b⟩, f.F.ext k x.more⟩
noncomputable def Ev (C : Cx) (n : Nat) (f : FS) (e : Expr) (R : VP) : Prop := Does C n f.H (eval e f.env) R.p
noncomputable def Ts (C : Cx) (n : Nat) (f : FS) (e : Expr) (b : Bool) : Prop := Does C n f.H (isTrue e f.env (eval e f.env)) (fun _ c => c = b)
theorem Ev.room {m : Nat} {f : FS} {e : Expr} {R : VP} (x : Ev C n f e R) (h : n ≤ m := by omega) : Ev C m f e R := Does.room x h
theorem Ev.conv {f : FS} {e : Expr} {R R' : VP} (x : Ev C n f e R) (h : ∀ k v, R.p k v → R'.p k v) : Ev C n f e R' := Does.post x h
theorem loadSlot {f : FS} {x : Str} {v : Value} {A : Around} {s : Shared} {E : Value → Shared → Prop} {Q : Value → Shared → Prop} (hk : f.env.scope.kind = .function) (h : Slot f.env s.heap x v) (hQ : Q v s) : wpAny C.M A (loadName f.env x) Q E s := by
  rcases h with ⟨a, m, b, c⟩ | ⟨a, c, d, e⟩
  · exact wpAny_loadName_local hk a b c hQ
  · rcases a with a | ⟨a, a'⟩
    · exact wpAny_loadName_cell hk a d e hQ
    · exact wpAny_loadName_free hk a d e hQ a'
theorem Ev.name {f : FS} {x : Str} {pos : Pos} {R : VP} (hx : f.ρ.lookup x = some R) (hd : (x == ("__debug__" : Str)) = false) : Ev C n f (.Name x pos) R := fun A s E Y hA hs hY hp => by
  obtain ⟨v, hv, hr⟩ := hp.vars x R hx
  exact wpAny_Name (loadSlot (by rw [hp.sc]; exact hp.kind) hv ⟨hs, .refl _, hr⟩) hd
end
section
variable {C : Cx} {n : Nat} {f : FS}
noncomputable def All2 (h : Vw) : List VP → List Value → Prop
  | [], vs => vs = []
  | R :: Rs, vs => ∃ v r, vs = v :: r ∧ R.p h v ∧ All2 h Rs r
theorem All2.ext {h h' : Heap} {Y : Al} (x : Ext h h') : ∀ {Rs vs}, All2 ⟨h, Y⟩ Rs vs → All2 ⟨h', Y⟩ Rs vs
  | [], _, e => e
  | R :: _, _, ⟨v, r, e, a, b⟩ => ⟨v, r, e, R.ext x a, All2.ext x b⟩
theorem All2.reps {h : Vw} : ∀ {ds : List D} {vs}, All2 h (ds.map dat) vs → Reps h ds vs
  | [], vs, e => by rw [Reps]; exact e
  | d :: ds, vs, ⟨v, r, e, a, b⟩ => by rw [Reps]; exact ⟨v, r, e, a, All2.reps b⟩
theorem Ev.int {i : Int} {k : Nat} {pos : Pos} : Ev C n f (.Constant (.int i) k pos) (dat (.int i)) := fun A s E Y hA hs hY hp =>
  wpAny_Constant_int ⟨hs.tok _, .refl _, by simp [dat, Rep]⟩
theorem Ev.str {x : Str} {k : Nat} {pos : Pos} : Ev C n f (.Constant (.str x) k pos) (dat (.str x)) := fun A s E Y hA hs hY hp =>
  wpAny_Constant_str ⟨hs.tok _, .refl _, by simp [dat, Rep]⟩
theorem Ev.noneC {k : Nat} {pos : Pos} : Ev C n f (.Constant .none k pos) (dat .none) := fun A s E Y hA hs hY hp =>
  wpAny_Constant_none ⟨hs, .refl _, by simp [dat, Rep]⟩
theorem Ev.bool {b : Bool} {k : Nat} {pos : Pos} : Ev C n f (.Constant (.bool b) k pos) (dat (.bool b)) := fun A s E Y hA hs hY hp =>
  wpAny_Constant_bool ⟨hs, .refl _, by simp [dat, Rep]⟩
theorem Ev.bin {l r : Expr} {op : Operator} {pos : Pos} {R1 R2 R3 : VP} (hl : Ev C n f l R1) (hr : Ev C n f r R2)
    (hop : ∀ a b, Does C n (fun h => R1.p h a ∧ R2.p h b) (binaryOp op a b) R3.p) : Ev C n f (.BinOp l op r pos) R3 := fun A s E Y hA hs hY hp =>
  wpAny_BinOp (wpAny_mono (hl A s E Y hA hs hY hp) (fun a s1 ⟨h1, h2, h3⟩ => wpAny_mono (hr A s1 E Y hA h1 (hY.ext h2) (hp.up h2)) (fun b s2 ⟨g1, g2, g3⟩ =>
    wpAny_mono (hop a b A s2 E Y hA g1 (hY.ext (h2.trans g2)) ⟨R1.ext g2 h3, g3⟩) (fun _ _ ⟨k1, k2, k3⟩ => ⟨k1, (h2.trans g2).trans k2, k3⟩) fun _ _ e => e) fun _ _ e => e) fun _ _ e => e)
theorem Ev.cmp {l r : Expr} {op : CmpOp} {pos : Pos} {R1 R2 R3 : VP} (hl : Ev C n f l R1) (hr : Ev C n f r R2)
    (hop : ∀ a b, Does C n (fun h => R1.p h a ∧ R2.p h b) (compareOp op a b) R3.p) (hm : behindInMarks op r = false) : Ev C n f (.Compare l [op] [r] pos) R3 := fun A s E Y hA hs hY hp =>
  wpAny_Compare1 (wpAny_mono (hl A s E Y hA hs hY hp) (fun a s1 ⟨h1, h2, h3⟩ => wpAny_mono (hr A s1 E Y hA h1 (hY.ext h2) (hp.up h2)) (fun b s2 ⟨g1, g2, g3⟩ =>
    wpAny_mono (hop a b A s2 E Y hA g1 (hY.ext (h2.trans g2)) ⟨R1.ext g2 h3, g3⟩) (fun _ _ ⟨k1, k2, k3⟩ => ⟨k1, (h2.trans g2).trans k2, k3⟩) fun _ _ e => e) fun _ _ e => e) fun _ _ e => e) hm
theorem Ts.cmp {l r : Expr} {op : CmpOp} {pos : Pos} {R1 R2 : VP} {b : Bool} (hl : Ev C n f l R1) (hr : Ev C n f r R2)
    (hop : ∀ a c, Does C n (fun h => R1.p h a ∧ R2.p h c) (compareOp op a c) (dat (.bool b)).p) (hm : behindInMarks op r = false) : Ts C n f (.Compare l [op] [r] pos) b := fun A s E Y hA hs hY hp =>
  wpAny_isTrue_Compare1 (wpAny_mono (hl A s E Y hA hs hY hp) (fun a s1 ⟨h1, h2, h3⟩ => wpAny_mono (hr A s1 E Y hA h1 (hY.ext h2) (hp.up h2)) (fun c s2 ⟨g1, g2, g3⟩ =>
    wpAny_mono (hop a c A s2 E Y hA g1 (hY.ext (h2.trans g2)) ⟨R1.ext g2 h3, g3⟩) (fun v s3 ⟨k1, k2, k3⟩ => by
      simp only [dat, Rep] at k3
      subst k3
      exact wpAny_truthy_bool ⟨k1, (h2.trans g2).trans k2, rfl⟩) fun _ _ e => e) fun _ _ e => e) fun _ _ e => e) hm
theorem Ts.not {x : Expr} {pos : Pos} {b : Bool} (hx : Ts C n f x b) : Ts C n f (.UnaryOp .Not x pos) (!b) := fun A s E Y hA hs hY hp =>
  wpAny_isTrue_Not (wpAny_mono (hx A s E Y hA hs hY hp) (fun c s1 ⟨h1, h2, h3⟩ => ⟨h1, h2, by rw [h3]⟩) fun _ _ e => e)
theorem Ts.or {x y : Expr} {pos : Pos} {b c : Bool} (hx : Ts C n f x b) (hy : b = false → Ts C n f y c) : Ts C n f (.BoolOp .Or [x, y] pos) (b || c) := fun A s E Y hA hs hY hp => by
  refine wpAny_isTrue_BoolOp (wpAny_allTrue_Or_cons (wpAny_mono (hx A s E Y hA hs hY hp) (fun c' s1 ⟨h1, h2, h3⟩ => ?_) fun _ _ e => e))
  subst h3
  cases c' with
  | true => exact ⟨h1, h2, rfl⟩
  | false =>
    refine wpAny_allTrue_Or_cons (wpAny_mono (hy rfl A s1 E Y hA h1 (hY.ext h2) (hp.up h2)) (fun c'' s2 ⟨g1, g2, g3⟩ => ?_) fun _ _ e => e)
    subst g3
    cases c'' with
    | true => exact ⟨g1, h2.trans g2, rfl⟩
    | false => exact wpAny_allTrue_Or_nil ⟨g1, h2.trans g2, rfl⟩
theorem Ts.and {x y : Expr} {pos : Pos} {b c : Bool} (hx : Ts C n f x b) (hy : b = true → Ts C n f y c) : Ts C n f (.BoolOp .And [x, y] pos) (b && c) := fun A s E Y hA hs hY hp => by
  refine wpAny_isTrue_BoolOp (wpAny_allTrue_And_cons (wpAny_mono (hx A s E Y hA hs hY hp) (fun c' s1 ⟨h1, h2, h3⟩ => ?_) fun _ _ e => e))
  subst h3
  cases c' with
  | false => exact ⟨h1, h2, rfl⟩
  | true =>
    refine wpAny_allTrue_And_cons (wpAny_mono (hy rfl A s1 E Y hA h1 (hY.ext h2) (hp.up h2)) (fun c'' s2 ⟨g1, g2, g3⟩ => ?_) fun _ _ e => e)
    subst g3
    cases c'' with
    | false => exact ⟨g1, h2.trans g2, rfl⟩
    | true => exact wpAny_allTrue_And_nil ⟨g1, h2.trans g2, rfl⟩
theorem Ev.ifexp {t x y : Expr} {pos : Pos} {b : Bool} {R : VP} (ht : Ts C n f t b) (hx : b = true → Ev C n f x R) (hy : b = false → Ev C n f y R) : Ev C n f (.IfExp t x y pos) R := fun A s E Y hA hs hY hp => by
  refine wpAny_IfExp (wpAny_mono (ht A s E Y hA hs hY hp) (fun c s1 ⟨h1, h2, h3⟩ => ?_) fun _ _ e => e)
  subst h3
  cases c with
  | true => exact wpAny_mono (hx rfl A s1 E Y hA h1 (hY.ext h2) (hp.up h2)) (fun _ _ ⟨g1, g2, g3⟩ => ⟨g1, h2.trans g2, g3⟩) fun _ _ e => e
  | false => exact wpAny_mono (hy rfl A s1 E Y hA h1 (hY.ext h2) (hp.up h2)) (fun _ _ ⟨g1, g2, g3⟩ => ⟨g1, h2.trans g2, g3⟩) fun _ _ e => e
noncomputable def Evl (C : Cx) (n : Nat) (f : FS) (pos : Pos) (es : List Expr) (Rs : List VP) : Prop := Does C n f.H (spliced (backTo pos (starEach es f.env))) (fun h vs => All2 h Rs vs)
theorem Evl.nil {pos : Pos} : Evl C n f pos [] [] := fun A s E Y hA hs hY hp => wpAny_items_nil ⟨hs, .refl _, rfl⟩
theorem Evl.cons {pos : Pos} {e : Expr} {es : List Expr} {R : VP} {Rs : List VP} (he : Ev C n f e R) (hr : Evl C n f pos es Rs)
    (hst : ∀ env, starEach (e :: es) env = (false, eval e env) :: starEach es env := by intro _; rfl) : Evl C n f pos (e :: es) (R :: Rs) := fun A s E Y hA hs hY hp =>
  wpAny_items_cons (wpAny_mono (he A s E Y hA hs hY hp) (fun v s1 ⟨h1, h2, h3⟩ => wpAny_mono (hr A s1 E Y hA h1 (hY.ext h2) (hp.up h2)) (fun vs s2 ⟨g1, g2, g3⟩ => ⟨g1, h2.trans g2, v, vs, rfl, R.ext g2 h3, g3⟩) fun _ _ e => e) fun _ _ e => e) (hst _)
theorem All2.length {h : Vw} : ∀ {Rs vs}, All2 h Rs vs → vs.length = Rs.length
  | [], _, e => by rw [e]; rfl
  | _ :: _, _, ⟨_, _, e, _, b⟩ => by rw [e]; simp [All2.length b]
theorem newListDoes {ds : List D} {vs : List Value} (hl : ds.length ≤ 1000000) : Does C n (fun h => Reps h ds vs) (newList vs) (dat (.list ds)).p := fun A s E Y hA hs hY hp => by
  refine wpAny_newList ⟨hs.push _, .push _ _, ?_⟩ (by rw [hp.length]; unfold sizeLine; omega)
  simp only [dat, Rep]
  exact ⟨_, vs, rfl, hY.size, ⟨0, Heap.get?_push_size _ rfl⟩, hp.keepers ((Ext.push _ _).keepers _)⟩
theorem Ev.list {es : List Expr} {pos : Pos} {ds : List D} (h : Evl C n f pos es (ds.map dat)) (hl : ds.length ≤ 1000000 := by decide) : Ev C n f (.List es pos) (dat (.list ds)) := fun A s E Y hA hs hY hp => by
  refine wpAny_List (wpAny_mono (h A s E Y hA hs hY hp) (fun vs s1 ⟨h1, h2, h3⟩ => ?_) fun _ _ e => e)
  have hr := All2.reps h3
  refine ⟨by rw [hr.length]; unfold sizeLine; omega, h1.push _, h2.push' _, ?_⟩
  simp only [dat, Rep]
  exact ⟨_, vs, rfl, (hY.ext h2).size, ⟨0, Heap.get?_push_size _ rfl⟩, hr.keepers ((Ext.push _ _).keepers _)⟩
theorem Ev.tuple {es : List Expr} {k : Nat} {pos : Pos} {ds : List D} (h : Evl C n f pos es (ds.map dat)) (hl : ds.length ≤ 1000000 := by decide) : Ev C n f (.Tuple es k pos) (dat (.tup ds)) := fun A s E Y hA hs hY hp => by
  refine wpAny_Tuple (wpAny_mono (h A s E Y hA hs hY hp) (fun vs s1 ⟨h1, h2, h3⟩ => ?_) fun _ _ e => e)
  have hr := All2.reps h3
  refine ⟨by rw [hr.length]; unfold sizeLine; omega, h1.push _, h2.push' _, ?_⟩
  simp only [dat, Rep]
  exact ⟨_, vs, rfl, (hY.ext h2).size, ⟨0, Heap.get?_push_size _ rfl⟩, hr.keepers ((Ext.push _ _).keepers _)⟩
theorem rep_int {h : Vw} {i : Int} {v : Value} (x : (dat (.int i)).p h v) : ∃ t, v = .int i t := by simpa only [dat, Rep] using x
theorem rep_str {h : Vw} {i : Str} {v : Value} (x : (dat (.str i)).p h v) : ∃ t, v = .str i t := by simpa only [dat, Rep] using x
theorem rep_bool {h : Vw} {i : Bool} {v : Value} (x : (dat (.bool i)).p h v) : v = .bool i := by simpa only [dat, Rep] using x
theorem rep_none {h : Vw} {v : Value} (x : (dat .none).p h v) : v = .none := by simpa only [dat, Rep] using x
theorem rep_list {h : Vw} {ds : List D} {v : Value} (x : (dat (.list ds)).p h v) : ∃ a vs, v = .ref a ∧ h.Y a ∧ IsL h.h a vs ∧ Reps h ds vs := by simpa only [dat, Rep] using x
theorem mk_int {h : Vw} {i : Int} {t : Tok} : (dat (.int i)).p h (.int i t) := by simp [dat, Rep]
theorem mk_bool {h : Vw} {i : Bool} : (dat (.bool i)).p h (.bool i) := by simp [dat, Rep]
theorem mk_str {h : Vw} {i : Str} {t : Tok} : (dat (.str i)).p h (.str i t) := by simp [dat, Rep]
theorem mk_list {h : Vw} {ds : List D} {a : Addr} {vs : List Value} (z : h.Y a) (x : IsL h.h a vs) (y : Reps h ds vs) : (dat (.list ds)).p h (.ref a) := by simp only [dat, Rep]; exact ⟨a, vs, rfl, z, x, y⟩
theorem op_add {x y : Int} (a b : Value) : Does C n (fun h => (dat (.int x)).p h a ∧ (dat (.int y)).p h b) (binaryOp .Add a b) (dat (.int (x + y))).p := fun A s E Y hA hs hY ⟨ha, hb⟩ => by
  obtain ⟨t, rfl⟩ := rep_int ha; obtain ⟨u, rfl⟩ := rep_int hb
  exact PyProof.Rows.add_int ⟨hs.tok _, .refl _, mk_int⟩
theorem op_sub {x y : Int} (a b : Value) : Does C n (fun h => (dat (.int x)).p h a ∧ (dat (.int y)).p h b) (binaryOp .Sub a b) (dat (.int (x - y))).p := fun A s E Y hA hs hY ⟨ha, hb⟩ => by
  obtain ⟨t, rfl⟩ := rep_int ha; obtain ⟨u, rfl⟩ := rep_int hb
  exact PyProof.Rows.sub_int ⟨hs.tok _, .refl _, mk_int⟩
theorem op_mod {x y : Int} (hy : y ≠ 0) (a b : Value) : Does C n (fun h => (dat (.int x)).p h a ∧ (dat (.int y)).p h b) (binaryOp .Mod a b) (dat (.int (x.fmod y))).p := fun A s E Y hA hs hY ⟨ha, hb⟩ => by
  obtain ⟨t, rfl⟩ := rep_int ha; obtain ⟨u, rfl⟩ := rep_int hb
  exact PyProof.Rows.mod_int' hy ⟨hs.tok _, .refl _, mk_int⟩
theorem cmp_lt {x y : Int} (a b : Value) : Does C n (fun h => (dat (.int x)).p h a ∧ (dat (.int y)).p h b) (compareOp .Lt a b) (dat (.bool (decide (x < y)))).p := fun A s E Y hA hs hY ⟨ha, hb⟩ => by
  obtain ⟨t, rfl⟩ := rep_int ha; obtain ⟨u, rfl⟩ := rep_int hb
  exact PyProof.Rows.lt_int ⟨hs, .refl _, mk_bool⟩
theorem cmp_gt {x y : Int} (a b : Value) : Does C n (fun h => (dat (.int x)).p h a ∧ (dat (.int y)).p h b) (compareOp .Gt a b) (dat (.bool (decide (y < x)))).p := fun A s E Y hA hs hY ⟨ha, hb⟩ => by
  obtain ⟨t, rfl⟩ := rep_int ha; obtain ⟨u, rfl⟩ := rep_int hb
  exact PyProof.Rows.gt_int ⟨hs, .refl _, mk_bool⟩
theorem cmp_eq {x y : Int} (a b : Value) : Does C n (fun h => (dat (.int x)).p h a ∧ (dat (.int y)).p h b) (compareOp .Eq a b) (dat (.bool (x == y))).p := fun A s E Y hA hs hY ⟨ha, hb⟩ => by
  obtain ⟨t, rfl⟩ := rep_int ha; obtain ⟨u, rfl⟩ := rep_int hb
  exact PyProof.Rows.eq_int ⟨hs, .refl _, mk_bool⟩
theorem cmp_ne {x y : Int} (a b : Value) : Does C n (fun h => (dat (.int x)).p h a ∧ (dat (.int y)).p h b) (compareOp .NotEq a b) (dat (.bool (x != y))).p := fun A s E Y hA hs hY ⟨ha, hb⟩ => by
  obtain ⟨t, rfl⟩ := rep_int ha; obtain ⟨u, rfl⟩ := rep_int hb
  exact PyProof.Rows.ne_int ⟨hs, .refl _, mk_bool⟩
end
theorem and3 {a b c P : Prop} (h : a ∧ b ∧ c) (k : a → b → c → P) : P := k h.1 h.2.1 h.2.2
structure Bg (C : Cx) : Prop where
  g : C.B.Ns mainGlobals C.mg
  b : ∃ mb, C.B.Ns builtinsNs mb ∧ ∀ x : Str, x ≠ "__name__" → mb x = bootBuiltins x
  lim : C.B.NoLimit
section
variable {C : Cx} {n : Nat} {f : FS}
theorem Ev.builtin (G : Bg C) {x : Str} {pos : Pos} {v : Value} (hx : f.sc.names.lookup x = some .globalImplicit) (hm : C.mg x = none) (hb : bootBuiltins x = some v) (hn : x ≠ "__name__") (hd : (x == ("__debug__" : Str)) = false) :
    Ev C n f (.Name x pos) (isV v) := fun A s E Y hA hs hY hp => by
  obtain ⟨mb, h1, h2⟩ := G.b
  refine wpAny_Name (ks_loadName_global (by rw [hp.sc]; exact hp.kind) (by show f.env.scope.names.lookup x = _; rw [hp.sc]; exact hx) ?_) hd
  refine loadGlobal_builtin (by rw [hp.glob]; exact hs.ext.ns G.g) hm (by rw [hp.bi]; exact hs.ext.ns h1) ((h2 x hn).trans hb) ⟨hs, .refl _, rfl⟩
theorem loadGlobal_here {M : Model} {A : Around} {E : Value → Shared → Prop} {s : Shared} {env : Env} {x : Str} {mg : Str → Option Value} {v : Value} {Q : Value → Shared → Prop} (hg : s.heap.Ns env.globals mg) (hv : mg x = some v) (h : Q v s) : wpAny M A (loadGlobal env x) Q E s := by
  unfold loadGlobal
  refine wpAny_bind (wpAny_nsGet hg ?_)
  rw [hv]
  exact wpAny_pure h
theorem Ev.global (G : Bg C) {x : Str} {pos : Pos} {v : Value} (hx : f.sc.names.lookup x = some .globalImplicit) (hm : C.mg x = some v) (hd : (x == ("__debug__" : Str)) = false) :
    Ev C n f (.Name x pos) (isV v) := fun A s E Y hA hs hY hp => by
  refine wpAny_Name (ks_loadName_global (by rw [hp.sc]; exact hp.kind) (by show f.env.scope.names.lookup x = _; rw [hp.sc]; exact hx) ?_) hd
  exact loadGlobal_here (by rw [hp.glob]; exact hs.ext.ns G.g) hm ⟨hs, .refl _, rfl⟩
theorem Ev.callB {func : Expr} {e : Expr} {es : List Expr} {pos : Pos} {id : String} {Rs : List VP} {R : VP} (hf : Ev C n f func (isV (.builtin id))) (ha : Evl C n f pos (e :: es) Rs)
    (hc : ∀ vs, Does C n (fun h => All2 h Rs vs) (call (.builtin id) vs) R.p)
    (he : ∀ env, eval (.Call func (e :: es) [] pos) env = (do callWith pos (← eval func env) [] (backTo pos (starEach (e :: es) env)) (backToKw pos (keywordEach [] env))) := by intro _; rfl)
    (hst : ∀ env, starEach (e :: es) env = (false, eval e env) :: starEach es env := by intro _; rfl)
    (hpl : ∀ env, (backTo pos (starEach es env)).any (·.1) = false := by intro _; rfl) : Ev C n f (.Call func (e :: es) [] pos) R := fun A s E Y hA hs hY hp => by
  refine Call_ (wpAny_mono (hf A s E Y hA hs hY hp) (fun v s1 ⟨h1, h2, h3⟩ => ?_) fun _ _ e => e) (he _)
  have h3' : v = .builtin id := h3
  subst h3'
  refine PyProof.Rows.callWith_builtin1 (wpAny_mono (ha A s1 E Y hA h1 (hY.ext h2) (hp.up h2)) (fun vs s2 ⟨g1, g2, g3⟩ => wpAny_mono (hc vs A s2 E Y hA g1 (hY.ext (h2.trans g2)) g3) (fun _ _ ⟨k1, k2, k3⟩ => ⟨k1, (h2.trans g2).trans k2, k3⟩) fun _ _ e => e) fun _ _ e => e) (hst _) (hpl _)
theorem Ev.callT {func : Expr} {e : Expr} {es : List Expr} {pos : Pos} {id : String} {Rs : List VP} {R : VP} (hf : Ev C n f func (isV (.type id))) (ha : Evl C n f pos (e :: es) Rs)
    (hc : ∀ vs, Does C n (fun h => All2 h Rs vs) (call (.type id) vs) R.p)
    (he : ∀ env, eval (.Call func (e :: es) [] pos) env = (do callWith pos (← eval func env) [] (backTo pos (starEach (e :: es) env)) (backToKw pos (keywordEach [] env))) := by intro _; rfl)
    (hst : ∀ env, starEach (e :: es) env = (false, eval e env) :: starEach es env := by intro _; rfl)
    (hpl : ∀ env, (backTo pos (starEach es env)).any (·.1) = false := by intro _; rfl) : Ev C n f (.Call func (e :: es) [] pos) R := fun A s E Y hA hs hY hp => by
  refine Call_ (wpAny_mono (hf A s E Y hA hs hY hp) (fun v s1 ⟨h1, h2, h3⟩ => ?_) fun _ _ e => e) (he _)
  have h3' : v = .type id := h3
  subst h3'
  refine PyProof.Rows.callWith_type1 (wpAny_mono (ha A s1 E Y hA h1 (hY.ext h2) (hp.up h2)) (fun vs s2 ⟨g1, g2, g3⟩ => wpAny_mono (hc vs A s2 E Y hA g1 (hY.ext (h2.trans g2)) g3) (fun _ _ ⟨k1, k2, k3⟩ => ⟨k1, (h2.trans g2).trans k2, k3⟩) fun _ _ e => e) fun _ _ e => e) (hst _) (hpl _)
theorem All2.one {h : Vw} {R : VP} {vs : List Value} (x : All2 h [R] vs) : ∃ v, vs = [v] ∧ R.p h v := by
  obtain ⟨v, r, e, a, b⟩ := x
  exact ⟨v, by rw [e, show r = [] from b], a⟩
theorem call1 {t : Value} {R R' : VP} (h : ∀ v, Does C n (fun h => R.p h v) (call t [v]) R'.p) (vs : List Value) : Does C n (fun h => All2 h [R] vs) (call t vs) R'.p := fun A s E Y hA hs hY hp => by
  obtain ⟨v, rfl, hv⟩ := hp.one
  exact h v A s E Y hA hs hY hv
theorem do_len {ds : List D} (hl : ds.length ≤ 1000000) (v : Value) : Does C n (fun h => (dat (.list ds)).p h v) (call (.builtin "len") [v]) (dat (.int ds.length)).p := fun A s E Y hA hs hY hp => by
  obtain ⟨a, vs, rfl, ya, l, r⟩ := rep_list hp
  have hz : vs.length = ds.length := r.length
  refine PyProof.Rows.len_list l.isList (by simp; omega) ⟨hs.tok _, .refl _, ?_⟩
  have : ((vs.toArray.size : Nat) : Int) = ds.length := by simp [hz]
  rw [this]; exact mk_int
theorem op_addl {xs ys : List D} (hl : xs.length + ys.length ≤ 1000000) (a b : Value) : Does C n (fun h => (dat (.list xs)).p h a ∧ (dat (.list ys)).p h b) (binaryOp .Add a b) (dat (.list (xs ++ ys))).p := fun A s E Y hA hs hY ⟨ha, hb⟩ => by
  obtain ⟨a, vs, rfl, ya, ⟨n1, ho⟩, r⟩ := rep_list ha
  obtain ⟨b, ws, rfl, yb, ⟨n2, ho2⟩, r2⟩ := rep_list hb
  have e : vs.toArray ++ ws.toArray = (vs ++ ws).toArray := by simp
  refine concat_meets ⟨_, ho, rfl⟩ ⟨_, ho2, rfl⟩ noFill_list_add seq_list_add PySem.F.slot_list_add PySem.F.entry_list_add (PySem.F.args_list_add_2 _ _) (list_addW a b vs.toArray ws.toArray n1 n2 _ _ _ _ (by simp [r.length, r2.length]; unfold sizeLine; omega)) ⟨ho, ho2, ?_⟩
  rw [e]
  exact ⟨hs.push _, .push _ _, mk_list hY.size (IsL.new _ _) ((r.append r2).keepers ((Ext.push _ _).keepers _))⟩
theorem Ev.item {v i : Expr} {pos : Pos} {ds : List D} {k : Int} {d : D} (hv : Ev C n f v (dat (.list ds))) (hi : Ev C n f i (dat (.int k))) (h0 : 0 ≤ k) (hk : ds[k.toNat]? = some d) (hl : ds.length ≤ 1000000)
    (hsub : ∀ a u, subscripted i false (.ref a) (.int k u) = operate [.ref a, .int k u] (getItem (.ref a) (.int k u)) := by intro _ _; with_unfolding_all rfl)
    (hgo : ∀ a r, letTemporaryGo v (.ref a) r = pure () := by intro _ _; with_unfolding_all rfl) : Ev C n f (.Subscript v i pos) (dat d) := fun A s E Y hA hs hY hp => by
  refine Subscript_ (wpAny_mono (hv A s E Y hA hs hY hp) (fun a s1 ⟨h1, h2, h3⟩ => wpAny_mono (hi A s1 E Y hA h1 (hY.ext h2) (hp.up h2)) (fun b s2 ⟨g1, g2, g3⟩ => ?_) fun _ _ e => e) fun _ _ e => e)
  obtain ⟨a, vs, rfl, ya, l, r⟩ := rep_list ((dat _).ext g2 h3)
  obtain ⟨u, rfl⟩ := rep_int g3
  obtain ⟨x, hx, rx⟩ := r.get hk
  have hlt : k.toNat < ds.length := (List.getElem?_eq_some_iff.mp hk).1
  refine subscriptTail_builtin l.isList.typeIs list_getitem_lookup (wpAny_getItem_list l.isList h0 (by omega) (by simpa using hx) ⟨g1, h2.trans g2, rx⟩) (hsub _ _) (hgo _)
end
noncomputable def It (Y : Al) (b h : Heap) (I : Addr) (ds : List D) (i : Nat) : Prop :=
  (∃ a vs, IsL b a vs ∧ True ∧ Reps ⟨b, Y⟩ ds vs ∧ h.IsListIter I a i) ∨
    (∃ lo : Int, ds = (List.range ds.length).map (fun (j : Nat) => D.int (lo + j)) ∧ IsRangeIter h I (lo + i) ((ds.length : Int) - i) 1)
theorem It.at {Y : Al} {b h h' : Heap} {I : Addr} {ds : List D} {i : Nat} (x : It Y b h I ds i) (e : ∀ o, h.get? I = some o → h'.get? I = some o) : It Y b h' I ds i := by
  rcases x with ⟨a, vs, h1, h2, h3, h4⟩ | ⟨lo, h1, h2⟩
  · exact .inl ⟨a, vs, h1, h2, h3, h4.at e⟩
  · exact .inr ⟨lo, h1, e _ h2⟩
theorem It.obj {Y : Al} {b h : Heap} {I : Addr} {ds : List D} {i : Nat} (x : It Y b h I ds i) : ∃ o, h.get? I = some o ∧ soft o = true ∧ (∀ its n, o.data ≠ .seq its n) ∧ tabLike o = false ∧ (∀ es n, o.data ≠ .dict es n) ∧ (∀ v, o.data ≠ .cell v) := by
  rcases x with ⟨a, vs, h1, h2, h3, o, h4, h5, h6⟩ | ⟨lo, h1, h2⟩
  · refine ⟨o, h4, ?_, ?_, tab_type h5, ?_, ?_⟩
    · unfold soft; rw [tab_type h5, h6]; rfl
    · rw [h6]; exact nofun
    · rw [h6]; exact nofun
    · rw [h6]; exact nofun
  · exact ⟨_, h2, rfl, nofun, rfl, nofun, nofun⟩
section
variable {C : Cx} {n : Nat}
theorem It.next {A : Around} {s : Shared} {E : Value → Shared → Prop} {Y : Al} {b : Heap} {I : Addr} {ds : List D} {i : Nat} {d : D} {Q : Option Value → Shared → Prop} (x : It Y b s.heap I ds i) (hx : Ext b s.heap) (hI : b.get? I = none) (hd : ds[i]? = some d)
    (hQ : ∀ v h' tk, Rep ⟨b, Y⟩ d v → It Y b h' I ds (i + 1) → Heap.SameBut I s.heap h' → Q (some v) { s with heap := h', toks := tk }) : wpAny C.M A (pyNext (.ref I)) Q E s := by
  have hlt : i < ds.length := (List.getElem?_eq_some_iff.mp hd).1
  rcases x with ⟨a, vs, h1, h2, h3, h4⟩ | ⟨lo, h1, h2⟩
  · obtain ⟨v, hv, hr⟩ := h3.get hd
    exact wpAny_pyNext_list_item h4 (hx.isL h1).isList (by simpa using hv) fun h' hi hs => hQ v h' s.toks hr (.inl ⟨a, vs, h1, h2, h3, hi⟩) hs
  · refine wpAny_pyNext_range_item h2 (by omega) fun h' hi hs => hQ _ h' _ ?_ (.inr ⟨lo, h1, ?_⟩) hs
    · rw [h1] at hd
      simp only [List.getElem?_map, List.getElem?_range hlt, Option.map_some, Option.some.injEq] at hd
      subst hd
      simp [Rep]
    · have e1 : lo + ((i + 1 : Nat) : Int) = lo + i + 1 := by omega
      have e2 : (ds.length : Int) - ((i + 1 : Nat) : Int) = ds.length - i - 1 := by omega
      rw [e1, e2]; exact hi
theorem It.end {A : Around} {s : Shared} {E : Value → Shared → Prop} {Y : Al} {b : Heap} {I : Addr} {ds : List D} {Q : Option Value → Shared → Prop} (hh : A.handled = none) (x : It Y b s.heap I ds ds.length) (hx : Ext b s.heap)
    (hQ : ∀ h', Heap.ExtBut I s.heap h' → Q none { s with heap := h' }) : wpAny C.M A (pyNext (.ref I)) Q E s := by
  rcases x with ⟨a, vs, h1, h2, h3, h4⟩ | ⟨lo, h1, h2⟩
  · have := h3.length
    exact wpAny_pyNext_list_end hh h4 (hx.isL h1).isList (by simp; omega) hQ
  · exact wpAny_pyNext_range_end hh h2 (by omega) hQ
theorem It.again {A : Around} {s : Shared} {E : Value → Shared → Prop} {Y : Al} {b : Heap} {I : Addr} {ds : List D} {i : Nat} {Q : Value → Shared → Prop} (x : It Y b s.heap I ds i) (hQ : Q (.ref I) s) : wpAny C.M A (pyIter (.ref I)) Q E s := by
  rcases x with ⟨a, vs, h1, h2, h3, h4⟩ | ⟨lo, h1, h2⟩
  · exact wpAny_pyIter_listiter h4 hQ
  · exact wpAny_pyIter_rangeiter h2 hQ
noncomputable def Src (C : Cx) (n : Nat) (f : FS) (iter : Expr) (ds : List D) : Prop :=
  ∀ A s E Y (Q : Value → Shared → Prop), Room n A → St C s → Ok Y s.heap → f.H ⟨s.heap, Y⟩ →
    (∀ s1 s2 I, St C s1 → Ext s.heap s1.heap → St C s2 → Ext s1.heap s2.heap → s1.heap.get? I = none → It Y s1.heap s2.heap I ds 0 → (∃ o, s2.heap.get? I = some o) → Q (.ref I) s2) →
    wpAny C.M A (eval iter f.env) (fun x s1 => wpAny C.M A (pyIter x) Q E s1) E s
theorem Src.list {f : FS} {iter : Expr} {ds : List D} (h : Ev C n f iter (dat (.list ds))) : Src C n f iter ds := fun A s E Y Q hA hs hY hp hQ => by
  refine wpAny_mono (h A s E Y hA hs hY hp) (fun x s1 ⟨h1, h2, h3⟩ => ?_) fun _ _ e => e
  obtain ⟨a, vs, rfl, ya, l, r⟩ := rep_list h3
  refine wpAny_pyIter_list l.isList (hQ s1 _ _ h1 h2 (h1.push _) (.push _ _) (get?_size _) (.inl ⟨a, vs, l, trivial, r, ?_⟩) ⟨_, Heap.get?_push_size _ rfl⟩)
  exact ⟨_, Heap.get?_push_size _ rfl, rfl, rfl⟩
noncomputable def rangeV (k : Nat) : VP := ⟨fun q v => ∃ r t u w, v = .ref r ∧ IsRange q.h r 0 k 1 t u w, fun x ⟨r, t, u, w, e, h⟩ => ⟨r, t, u, w, e, x.keep h rfl⟩, fun _ r => r⟩
theorem do_range {k : Nat} (v : Value) : Does C n (fun h => (dat (.int k)).p h v) (call (.type "range") [v]) (rangeV k).p := fun A s E Y hA hs hY hp => by
  obtain ⟨t, rfl⟩ := rep_int hp
  exact call_range_1 ⟨(hs.push _).tok _, .push _ _, _, _, _, _, rfl, IsRange.new ..⟩
theorem Src.range {f : FS} {func e : Expr} {pos : Pos} {k : Nat} (hf : Ev C n f func (isV (.type "range"))) (he : Ev C n f e (dat (.int k))) (hk : k ≤ 1000000)
    (h1 : ∀ env, eval (.Call func [e] [] pos) env = (do callWith pos (← eval func env) [] (backTo pos (starEach [e] env)) (backToKw pos (keywordEach [] env))) := by intro _; rfl)
    (h2 : ∀ env, starEach [e] env = (false, eval e env) :: starEach [] env := by intro _; rfl) : Src C n f (.Call func [e] [] pos) ((List.range k).map fun (j : Nat) => D.int j) := fun A s E Y Q hA hs hY hp hQ => by
  have hev : Ev C n f (.Call func [e] [] pos) (rangeV k) := Ev.callT hf (Evl.cons he .nil h2) (call1 do_range) h1 h2 (fun _ => rfl)
  refine wpAny_mono (hev A s E Y hA hs hY hp) (fun x s1 ⟨g1, g2, g3⟩ => ?_) fun _ _ e => e
  obtain ⟨r, t, u, w, rfl, hr⟩ := g3
  refine wpAny_pyIter_range hr (small_one (by decide) (by decide) (by omega) (by omega)) (hQ s1 _ _ g1 g2 (g1.push _) (.push _ _) (get?_size _) (.inr ⟨0, by simp, ?_⟩) ⟨_, Heap.get?_push_size _ rfl⟩)
  have e1 : Builtin.Range.rangeSize 0 k 1 = (k : Int) := by rw [rangeSize_nat]; omega
  have := Heap.get?_push_size s1.heap (o := { cls := .type "range_iterator", data := .fields #[rawInt 0, rawInt (Builtin.Range.rangeSize 0 k 1), rawInt 1] }) rfl
  rw [e1] at this ⊢
  simpa [IsRangeIter] using this
end
noncomputable def clos (env : Env) : List (Str × NameKind) → List (Str × Addr) → List (Str × Addr)
  | [], acc => acc
  | (x, k) :: r, acc => if k == .free then clos env r ((x, (env.cells.lookup x).getD 0) :: acc) else clos env r acc
theorem closureFor_clos {scope : Scope} {env : Env} (h : ∀ q ∈ scope.names, q.2 = .free → (env.cells.lookup q.1).isSome = true) : closureFor scope env = pure (clos env scope.names []) := by
  unfold closureFor
  have key : ∀ (l : List (Str × NameKind)) (acc : List (Str × Addr)), (∀ q ∈ l, q.2 = .free → (env.cells.lookup q.1).isSome = true) →
      (forIn l acc (fun (x : Str × NameKind) (r : List (Str × Addr)) => match x with
        | (name, kind) => if (kind == .free) = true then (do let c ← cellOf env name; pure (ForInStep.yield ((name, c) :: r))) else pure (ForInStep.yield r)) : Sem (List (Str × Addr))) = pure (clos env l acc) := by
    intro l
    induction l with
    | nil => intro acc _; rfl
    | cons q r ih =>
      intro acc hq
      obtain ⟨x, k⟩ := q
      rw [List.forIn_cons]
      have hr := fun q' hq' => hq q' (List.mem_cons_of_mem _ hq')
      by_cases hk : k = .free
      · subst hk
        obtain ⟨c, hc⟩ := Option.isSome_iff_exists.mp (hq (x, .free) List.mem_cons_self rfl)
        simp only [cellOf, hc, beq_self_eq_true, if_true, pure_bind, clos, Option.getD_some]
        exact ih _ hr
      · have hb : (k == NameKind.free) = false := by simpa using hk
        simp only [hb, Bool.false_eq_true, if_false, pure_bind, clos]
        exact ih _ hr
  have := key scope.names [] h
  first
    | exact this
    | (show (do let cs ← (forIn scope.names [] _ : Sem (List (Str × Addr))); pure cs) = _; rw [bind_pure]; exact this)
    | (simp only [bind_pure]; exact this)
theorem clos_lookup {env : Env} {y : Str} : ∀ (l : List (Str × NameKind)) (acc : List (Str × Addr)), (y, NameKind.free) ∈ l ∨ acc.lookup y = some ((env.cells.lookup y).getD 0) →
    (∀ q ∈ acc, q.1 = y → acc.lookup y = some ((env.cells.lookup y).getD 0)) → (clos env l acc).lookup y = some ((env.cells.lookup y).getD 0)
  | [], acc, h, _ => by
    rcases h with h | h
    · cases h
    · exact h
  | (x, k) :: r, acc, h, ha => by
    unfold clos
    by_cases hk : k = .free
    · subst hk
      rw [if_pos (by rfl)]
      by_cases hx : y = x
      · subst hx
        exact clos_lookup r _ (.inr (by simp)) fun q _ _ => by simp
      · have hb : (y == x) = false := by simpa using hx
        have e1 : ∀ v, List.lookup y ((x, v) :: acc) = acc.lookup y := fun v => by rw [List.lookup_cons]; simp only [hb]
        refine clos_lookup r _ ?_ ?_
        · rcases h with h | h
          · rcases List.mem_cons.mp h with h | h
            · cases h; exact absurd rfl hx
            · exact .inl h
          · exact .inr ((e1 _).trans h)
        · intro q hq hy
          rcases List.mem_cons.mp hq with rfl | hq
          · exact absurd hy (Ne.symm hx)
          · exact (e1 _).trans (ha q hq hy)
    · rw [if_neg (by simpa using hk)]
      refine clos_lookup r acc ?_ ha
      rcases h with h | h
      · rcases List.mem_cons.mp h with h | h
        · cases h; exact absurd rfl hk
        · exact .inl h
      · exact .inr h
theorem clos_mem {env : Env} : ∀ (l : List (Str × NameKind)) (acc : List (Str × Addr)) {q : Str × Addr}, q ∈ clos env l acc → q ∈ acc ∨ (q.1, NameKind.free) ∈ l
  | [], acc, q, h => .inl h
  | (x, k) :: r, acc, q, h => by
    unfold clos at h
    by_cases hk : k = .free
    · subst hk
      rw [if_pos (by rfl)] at h
      rcases clos_mem r _ h with h | h
      · rcases List.mem_cons.mp h with rfl | h
        · exact .inr List.mem_cons_self
        · exact .inl h
      · exact .inr (List.mem_cons_of_mem _ h)
    · rw [if_neg (by simpa using hk)] at h
      rcases clos_mem r _ h with h | h
      · exact .inl h
      · exact .inr (List.mem_cons_of_mem _ h)
theorem cellsFrom_mem : ∀ (l : List (Str × NameKind)) (h : Heap) (acc : List (Str × Addr)) {q : Str × Addr}, q ∈ cellsFrom h.objs.size l acc →
    q ∈ acc ∨ ((q.1, NameKind.cell) ∈ l ∧ h.get? q.2 = none ∧ (pushCells h l).IsCell q.2 none)
  | [], h, acc, q, hq => .inl hq
  | (x, k) :: r, h, acc, q, hq => by
    unfold cellsFrom at hq
    unfold pushCells
    by_cases hk : k = .cell
    · subst hk
      rw [if_pos (by rfl)] at hq ⊢
      have e : h.objs.size + 1 = (h.push { cls := .type "cell", data := .cell none }).objs.size := (Heap.size_push ..).symm
      rw [e] at hq
      rcases cellsFrom_mem r _ _ hq with hq | ⟨h1, h2, h3⟩
      · rcases List.mem_cons.mp hq with rfl | hq
        · refine .inr ⟨List.mem_cons_self, get?_size _, ⟨_, pushCells_keeps r _ _ _ (Heap.get?_push_size _ rfl), rfl⟩⟩
        · exact .inl hq
      · exact .inr ⟨List.mem_cons_of_mem _ h1, (Ext.push h _).none h2, h3⟩
    · rw [if_neg (by simpa using hk)] at hq ⊢
      rcases cellsFrom_mem r _ _ hq with hq | ⟨h1, h2⟩
      · exact .inl hq
      · exact .inr ⟨List.mem_cons_of_mem _ h1, h2⟩
theorem cellsFrom_other {y : Str} : ∀ (l : List (Str × NameKind)) (m : Nat) (acc : List (Str × Addr)), (y, NameKind.cell) ∉ l → (cellsFrom m l acc).lookup y = acc.lookup y
  | [], m, acc, _ => rfl
  | (x, k) :: r, m, acc, h => by
    unfold cellsFrom
    have hr : (y, NameKind.cell) ∉ r := fun q => h (List.mem_cons_of_mem _ q)
    by_cases hk : k = .cell
    · subst hk
      rw [if_pos (by rfl), cellsFrom_other r _ _ hr, List.lookup_cons]
      have hb : (y == x) = false := by
        simp only [beq_eq_false_iff_ne]
        rintro rfl
        exact h List.mem_cons_self
      simp only [hb]
    · rw [if_neg (by simpa using hk)]
      exact cellsFrom_other r _ _ hr
theorem cellsFrom_own {y : Str} : ∀ (l : List (Str × NameKind)) (m : Nat) (acc : List (Str × Addr)), (y, NameKind.cell) ∈ l ∨ (acc.lookup y).isSome = true → ((cellsFrom m l acc).lookup y).isSome = true
  | [], m, acc, h => by
    rcases h with h | h
    · cases h
    · exact h
  | (x, k) :: r, m, acc, h => by
    unfold cellsFrom
    by_cases hk : k = .cell
    · subst hk
      rw [if_pos (by rfl)]
      refine cellsFrom_own r _ _ ?_
      by_cases hy : y = x
      · subst hy; exact .inr (by simp)
      · have hb : (y == x) = false := by simpa using hy
        rcases h with h | h
        · rcases List.mem_cons.mp h with h | h
          · cases h; exact absurd rfl hy
          · exact .inl h
        · exact .inr (by rw [List.lookup_cons]; simpa only [hb] using h)
    · rw [if_neg (by simpa using hk)]
      refine cellsFrom_own r _ _ ?_
      rcases h with h | h
      · rcases List.mem_cons.mp h with h | h
        · cases h; exact absurd rfl hk
        · exact .inl h
      · exact .inr h
theorem lookup_of_mem {κ : Type} {y : Str} {k : κ} : ∀ {l : List (Str × κ)}, (l.map (·.1)).Nodup → (y, k) ∈ l → l.lookup y = some k
  | (x, k') :: r, hn, h => by
    rw [List.map_cons, List.nodup_cons] at hn
    rcases List.mem_cons.mp h with h1 | h1
    · cases h1; simp
    · have : (y == x) = false := by
        simp only [beq_eq_false_iff_ne]
        intro e
        exact hn.1 (List.mem_map.mpr ⟨_, h1, e⟩)
      rw [List.lookup_cons]; simp only [this]
      exact lookup_of_mem hn.2 h1
section
variable {C : Cx} {n : Nat}
noncomputable abbrev compE (scope : Scope) (cl : List (Str × Addr)) (L : Nat) (env : Env) : Env :=
  { scope, locals := L, globals := env.globals, cells := cellsFrom (L + 1) scope.names cl, qual := env.qual, func := none, code := env.code, frame := env.frame, builtins := env.builtins }
theorem newCompEnv {M : Model} {A : Around} {E : Value → Shared → Prop} {s : Shared} {scope : Scope} {cl : List (Str × Addr)} {env : Env} {Q : Env → Shared → Prop}
    (hQ : Q (compE scope cl s.heap.objs.size env) { s with heap := pushCells (s.heap.push { cls := .type "dict", data := .dict #[] }) scope.names }) :
    wpAny M A (newFunctionEnv scope env.globals cl [] env.qual none .none (some env)) Q E s := by
  simp only [newFunctionEnv, Option.isSome_some, if_true]
  refine wpAny_bind (wpAny_alloc ?_)
  refine wpAny_bind (wpAny_layCells _ (fun name kind cells => by cases hkc : kind == NameKind.cell <;> simp [hkc]) _ _ _ _ ?_)
  rw [show ({ s with heap := s.heap.push { cls := .type "dict", data := .dict #[] } } : Shared).heap.objs.size = s.heap.objs.size + 1 from Heap.size_push ..]
  refine wpAny_bind ?_
  rw [List.forIn_nil]
  exact wpAny_pure (wpAny_pure hQ)
noncomputable def relabelS (scope sc : Scope) : Scope :=
  { scope with names := scope.names.map fun (n, k) => if (k == .free && sc.kind == .function && sc.names.lookup n == some .cell) then (n, .cell) else (n, k) }
theorem relabel_eq {scope : Scope} {env : Env} : relabel scope env = relabelS scope env.scope := rfl
end
structure CF (C : Cx) (b : Heap) (scope : Scope) (cenv : Env) (h : Heap) : Prop where
  root : Ext C.B b
  ext : Ext b h
  ns : ∃ m, h.Ns cenv.locals m
  low : b.get? cenv.locals = none
  cell : ∀ y c, scope.names.lookup y = some .cell → cenv.cells.lookup y = some c → (∃ v, h.IsCell c v) ∧ b.get? c = none
noncomputable def Touch (h h' : Heap) : Prop := ∀ a o, h.get? a = some o → (∀ es n, o.data ≠ .dict es n) → (∀ v, o.data ≠ .cell v) → h'.get? a = some o
theorem Touch.trans {a b c : Heap} (x : Touch a b) (y : Touch b c) : Touch a c := fun q o e h1 h2 => y q o (x q o e h1 h2) h1 h2
theorem Touch.keepers {h h' : Heap} (x : Touch h h') (Y : Al) : Keepers ⟨h, Y⟩ ⟨h', Y⟩ := fun b o e y ⟨its, n, hd⟩ => ⟨x b o e (by rw [hd]; exact nofun) (by rw [hd]; exact nofun), y⟩
theorem Touch.isL {h h' : Heap} {a : Addr} {vs : List Value} (x : Touch h h') (l : IsL h a vs) : IsL h' a vs := let ⟨n, e⟩ := l; ⟨n, x _ _ e nofun nofun⟩
theorem Touch.sameNs {h h' : Heap} {a : Addr} {m : Str → Option Value} (x : h.Ns a m) (k : Heap.SameBut a h h') : Touch h h' := fun q o e h1 _ => (k.2 q (by
  rintro rfl
  obtain ⟨o', es, ep, e', d, _⟩ := x
  rw [e'] at e; cases e
  exact h1 _ _ d)).trans e
theorem Touch.sameCell {h h' : Heap} {a : Addr} {v : Option Value} (x : h.IsCell a v) (k : Heap.SameBut a h h') : Touch h h' := fun q o e _ h2 => (k.2 q (by
  rintro rfl
  obtain ⟨o', e', d⟩ := x
  rw [e'] at e; cases e
  exact h2 _ d)).trans e
noncomputable def caps (b : Heap) (sc : Scope) (ρ : List (Str × VP)) : List (Str × VP) := (ρ.filter fun q => sc.names.lookup q.1 == some .free).map fun q => (q.1, VP.at b q.2)
theorem caps_lookup {b : Heap} {sc : Scope} {y : Str} {R' : VP} : ∀ {ρ : List (Str × VP)}, (caps b sc ρ).lookup y = some R' → ∃ R, ρ.lookup y = some R ∧ R' = VP.at b R ∧ sc.names.lookup y = some .free
  | [], h => by cases h
  | (x, R) :: r, h => by
    unfold caps at h
    rw [List.filter_cons] at h
    split at h
    · rename_i hx
      rw [List.map_cons, List.lookup_cons] at h
      by_cases hy : y = x
      · subst hy
        simp only [beq_self_eq_true] at h
        exact ⟨R, by simp, (Option.some.inj h).symm, by simpa using hx⟩
      · have hb : (y == x) = false := by simpa using hy
        simp only [hb] at h
        obtain ⟨R₁, h1, h2⟩ := caps_lookup (ρ := r) h
        exact ⟨R₁, by rw [List.lookup_cons]; simpa only [hb] using h1, h2⟩
    · rename_i hx
      obtain ⟨R₁, h1, h2, h3⟩ := caps_lookup (ρ := r) h
      refine ⟨R₁, ?_, h2, h3⟩
      have hb : (y == x) = false := by
        simp only [beq_eq_false_iff_ne]
        rintro rfl
        exact hx (by simpa using h3)
      rw [List.lookup_cons]; simpa only [hb] using h1
noncomputable abbrev cfs (b : Heap) (scope : Scope) (cenv : Env) (f : FS) (tv : List (Str × VP)) : FS := ⟨b, cenv, relabelS scope f.sc, tv ++ caps b scope f.ρ, .top⟩
theorem lookup_relabel {scope sc : Scope} {y : Str} : (relabelS scope sc).names.lookup y = (scope.names.lookup y).map fun k => if (k == .free && sc.kind == .function && sc.names.lookup y == some .cell) then .cell else k := by
  unfold relabelS
  dsimp only
  generalize scope.names = l
  induction l with
  | nil => rfl
  | cons q r ih =>
    obtain ⟨x, k⟩ := q
    show List.lookup y ((if (k == .free && sc.kind == .function && sc.names.lookup x == some .cell) = true then (x, NameKind.cell) else (x, k)) :: _) = _
    cases hy : y == x with
    | true =>
      have hyx : y = x := by simpa using hy
      subst hyx
      have e : List.lookup y ((y, k) :: r) = some k := by simp
      rw [e, Option.map_some]
      by_cases hc : (k == .free && sc.kind == .function && sc.names.lookup y == some .cell) = true
      · rw [if_pos hc, if_pos hc]; simp
      · rw [if_neg hc, if_neg hc]; simp
    | false =>
      have e : List.lookup y ((x, k) :: r) = r.lookup y := by rw [List.lookup_cons]; simp only [hy]
      rw [e, ← ih]
      by_cases hc : (k == .free && sc.kind == .function && sc.names.lookup x == some .cell) = true
      · rw [if_pos hc, List.lookup_cons]; simp only [hy]
      · rw [if_neg hc, List.lookup_cons]; simp only [hy]
theorem lookup_append_or {y : Str} {R : VP} : ∀ {a b : List (Str × VP)}, (a ++ b).lookup y = some R → a.lookup y = some R ∨ (a.lookup y = none ∧ b.lookup y = some R)
  | [], b, h => .inr ⟨rfl, h⟩
  | (x, R') :: r, b, h => by
    rw [List.cons_append, List.lookup_cons] at h
    rw [List.lookup_cons]
    split at h
    · exact .inl h
    · exact lookup_append_or h
noncomputable def compOk (scope sc : Scope) (dom : List Str) : Bool :=
  (scope.kind == .function) && (sc.kind == .function) && decide (scope.names.map (·.1)).Nodup && scope.names.all fun q => q.2 != .free || (dom.contains q.1 && (sc.names.lookup q.1 == some .cell || sc.names.lookup q.1 == some .free) && !(q.1 == ("__classdict__" : Str)))
theorem lookup_of_dom {y : Str} : ∀ {ρ : List (Str × VP)}, (ρ.map (·.1)).contains y = true → ∃ R, ρ.lookup y = some R
  | [], h => by simp at h
  | (x, R) :: r, h => by
    rw [List.lookup_cons]
    cases hy : y == x with
    | true => exact ⟨R, rfl⟩
    | false =>
      refine lookup_of_dom (ρ := r) ?_
      simp only [List.map_cons, List.contains_cons, hy, Bool.false_or] at h
      exact h
section
variable {C : Cx} {n : Nat} {f : FS} {scope : Scope} {b : Heap} {Y : Al}
structure CompOk (f : FS) (scope : Scope) : Prop where
  kind : scope.kind = .function
  nodup : (scope.names.map (·.1)).Nodup
  free : ∀ y, scope.names.lookup y = some .free → (∃ R, f.ρ.lookup y = some R) ∧ (f.sc.names.lookup y = some .cell ∨ f.sc.names.lookup y = some .free) ∧ (y == ("__classdict__" : Str)) = false
  free' : ∀ q ∈ scope.names, q.2 = .free → scope.names.lookup q.1 = some .free
theorem compOk_of (h : compOk scope f.sc (f.ρ.map (·.1)) = true) : CompOk f scope := by
  unfold compOk at h
  simp only [Bool.and_eq_true, beq_iff_eq, decide_eq_true_eq, List.all_eq_true, Bool.or_eq_true, bne_iff_ne, ne_eq, Bool.not_eq_true'] at h
  obtain ⟨⟨⟨h1, h1'⟩, h2⟩, h3⟩ := h
  refine ⟨h1, h2, fun y hy => ?_, fun q hq hk => ?_⟩
  · have hm := mem_of_lookup hy
    rcases h3 _ hm with h4 | ⟨⟨h4, h5⟩, h6⟩
    · exact absurd rfl h4
    · exact ⟨lookup_of_dom h4, h5, h6⟩
  · obtain ⟨x, k⟩ := q
    have hk' : k = .free := hk
    subst hk'
    exact lookup_of_mem h2 hq
theorem slot_cell {x : Str} {v : Value} (hp : f.H ⟨b, Y⟩) (hk : f.sc.names.lookup x = some .cell ∨ f.sc.names.lookup x = some .free) (s : Slot f.env b x v) : ∃ c, f.env.cells.lookup x = some c ∧ b.IsCell c (some v) := by
  rcases s with ⟨a, _⟩ | ⟨_, h⟩
  · exfalso
    have a' : f.env.scope.names.lookup x = some .local := a
    rw [hp.sc] at a'
    rcases hk with hk | hk <;> rw [hk] at a' <;> cases a'
  · exact h
noncomputable abbrev cenvOf (f : FS) (scope : Scope) (L : Nat) : Env := { compE scope (clos f.env scope.names []) L f.env with scope := relabelS scope f.sc }
theorem cfs_H {L : Nat} {h : Heap} {Y' : Al} {tv : List (Str × VP)} (ok : CompOk f scope) (hp : f.H ⟨b, Y⟩) (x : Ext b h) (hY : ∀ a o, b.get? a = some o → Y a → Y' a)
    (ht : ∀ x R, tv.lookup x = some R → ∃ u, Slot (cenvOf f scope L) h x u ∧ R.p ⟨h, Y'⟩ u) : (cfs b scope (cenvOf f scope L) f tv).H ⟨h, Y'⟩ where
  ext := x
  sc := rfl
  kind := ok.kind
  glob := hp.glob
  bi := hp.bi
  more := trivial
  vars := fun y R' e => by
    rcases lookup_append_or e with e | ⟨_, e⟩
    · exact ht y R' e
    · obtain ⟨R, h1, rfl, h3⟩ := caps_lookup e
      obtain ⟨v, hv, hr⟩ := hp.vars y R h1
      obtain ⟨_, h4, h5⟩ := ok.free y h3
      obtain ⟨c, hc, hcell⟩ := slot_cell hp h4 hv
      refine ⟨v, .inr ⟨?_, c, ?_, x.cell hcell⟩, fun e => x.live e, R.ref hY hr⟩
      · show (relabelS scope f.sc).names.lookup y = _ ∨ (relabelS scope f.sc).names.lookup y = _ ∧ _
        rw [lookup_relabel, h3, Option.map_some]
        by_cases hq : (NameKind.free == NameKind.free && f.sc.kind == .function && f.sc.names.lookup y == some .cell) = true
        · rw [if_pos hq]; exact .inl rfl
        · rw [if_neg hq]; exact .inr ⟨rfl, h5⟩
      · show (cellsFrom (L + 1) scope.names (clos f.env scope.names [])).lookup y = some c
        rw [cellsFrom_other, clos_lookup scope.names [] (.inl (mem_of_lookup h3)) (fun q hq => by cases hq), hc]
        · rfl
        · intro hm
          rw [lookup_of_mem ok.nodup hm] at h3
          cases h3
noncomputable def Tgt (C : Cx) (n : Nat) (b : Heap) (scope : Scope) (cenv : Env) (target : Expr) (d : D) (tv : List (Str × VP)) : Prop := ∀ A s E Y v (Q : Unit → Shared → Prop), Room n A → St C s → CF C b scope cenv s.heap → Rep ⟨b, Y⟩ d v →
  (∀ s', St C s' → CF C b scope cenv s'.heap → Touch s.heap s'.heap →
    (∀ x R, tv.lookup x = some R → ∃ u, Slot cenv s'.heap x u ∧ ∀ Y', (∀ a o, b.get? a = some o → Y a → Y' a) → R.p ⟨s'.heap, Y'⟩ u) → Q () s') → wpAny C.M A (assign target cenv v) Q E s
theorem CF.same {h h' : Heap} {cenv : Env} {a : Addr} (x : CF C b scope cenv h) (fr : b.get? a = none) (k : Heap.SameBut a h h') (hn : a = cenv.locals → ∃ m, h'.Ns cenv.locals m) (hc : ∀ y c, scope.names.lookup y = some .cell → cenv.cells.lookup y = some c → a = c → ∃ v, h'.IsCell c v) : CF C b scope cenv h' where
  root := x.root
  ext := x.ext.same fr k
  ns := by
    by_cases e : a = cenv.locals
    · exact hn e
    · obtain ⟨m, hm⟩ := x.ns
      exact ⟨m, hm.sameBut k (Ne.symm e)⟩
  low := x.low
  cell := fun y c h1 h2 => by
    refine ⟨?_, (x.cell y c h1 h2).2⟩
    by_cases e : a = c
    · exact hc y c h1 h2 e
    · obtain ⟨v, hv⟩ := (x.cell y c h1 h2).1
      exact ⟨v, hv.sameBut k (Ne.symm e)⟩
theorem CF.cellNe {h : Heap} {cenv : Env} (x : CF C b scope cenv h) {y : Str} {c : Addr} (h1 : scope.names.lookup y = some .cell) (h2 : cenv.cells.lookup y = some c) : cenv.locals ≠ c := fun e => by
  obtain ⟨m, o2, es, ep, e3, e4, _⟩ := x.ns
  obtain ⟨v', o', e1, e2⟩ := (x.cell y c h1 h2).1
  rw [e, e1] at e3; cases e3
  rw [e2] at e4; cases e4
theorem at_dat {h : Heap} {d : D} {u : Value} {Y' : Al} (x : Ext b h) (r : Rep ⟨b, Y⟩ d u) (hY : ∀ a o, b.get? a = some o → Y a → Y' a) : (VP.at b (dat d)).p ⟨h, Y'⟩ u := ⟨fun e => x.live e, (dat d).ref hY r⟩
theorem lookup_one {x y : Str} {R R' : VP} (h : [(x, R)].lookup y = some R') : y = x ∧ R' = R := by
  rw [List.lookup_cons] at h
  cases hy : y == x with
  | true => simp only [hy] at h; exact ⟨by simpa using hy, (Option.some.inj h).symm⟩
  | false => simp only [hy] at h; cases h
theorem Tgt.local {cenv : Env} {x : Str} {pos : Pos} {d : D} (hk : cenv.scope.kind = .function) (hx : cenv.scope.names.lookup x = some .local) : Tgt C n b scope cenv (.Name x pos) d [(x, VP.at b (dat d))] := fun A s E Y v Q hA hs hc hr hQ => by
  obtain ⟨m, hm⟩ := hc.ns
  obtain ⟨o, ho, hso⟩ := soft_ns hm
  refine wpAny_assign_Name (wpAny_storeName_local hx hm (fun h' hn' hs' => ?_) (by rw [hk]; rfl))
  have hc' : CF C b scope cenv h' := hc.same hc.low hs' (fun _ => ⟨_, hn'⟩) fun y c h1 h2 e => absurd e (hc.cellNe h1 h2)
  refine hQ _ (hs.same ho hso (hc.root.none hc.low) hs' _) hc' (Touch.sameNs hm hs') fun y R e => ?_
  obtain ⟨rfl, rfl⟩ := lookup_one e
  exact ⟨v, .inl ⟨hx, _, hn', by simp⟩, fun Y' hY => at_dat hc'.ext hr hY⟩
theorem Tgt.cell {cenv : Env} {x : Str} {pos : Pos} {d : D} (hk : cenv.scope.kind = .function) (hx : cenv.scope.names.lookup x = some .cell) (hx' : scope.names.lookup x = some .cell) {c : Addr} (hc : cenv.cells.lookup x = some c)
    (ha : ∀ y, scope.names.lookup y = some .cell → cenv.cells.lookup y = some c → y = x) : Tgt C n b scope cenv (.Name x pos) d [(x, VP.at b (dat d))] := fun A s E Y v Q hA hs hcf hr hQ => by
  obtain ⟨⟨v₀, hv₀⟩, hlow⟩ := hcf.cell x c hx' hc
  obtain ⟨o, ho, hso⟩ := soft_cell hv₀
  refine wpAny_assign_Name (wpAny_storeName_cell hk hx hc hv₀ fun h' hn' hs' => ?_)
  have hc' : CF C b scope cenv h' := hcf.same hlow hs' (fun e => absurd e.symm (hcf.cellNe hx' hc)) fun y c' h1 h2 e => by subst e; exact ⟨_, hn'⟩
  refine hQ _ (hs.same ho hso (hcf.root.none hlow) hs' s.toks) hc' (Touch.sameCell hv₀ hs') fun y R e => ?_
  obtain ⟨rfl, rfl⟩ := lookup_one e
  exact ⟨v, .inr ⟨.inl hx, _, hc, hn'⟩, fun Y' hY => at_dat hc'.ext hr hY⟩
end
section
variable {C : Cx} {n : Nat} {f : FS} {scope : Scope} {b : Heap} {Y : Al}
theorem St.cells {names : List (Str × NameKind)} : ∀ {s : Shared}, St C s → St C { s with heap := pushCells s.heap names } := by
  induction names with
  | nil => intro s x; exact x
  | cons q r ih =>
    intro s x
    obtain ⟨y, k⟩ := q
    unfold pushCells
    split
    · exact ih (x.push _)
    · exact ih x
theorem CF.up {h h' : Heap} {cenv : Env} (x : CF C b scope cenv h) (k : Ext h h') : CF C b scope cenv h' where
  root := x.root
  ext := x.ext.trans k
  ns := let ⟨m, hm⟩ := x.ns; ⟨m, k.ns hm⟩
  low := x.low
  cell := fun y c h1 h2 => ⟨let ⟨v, hv⟩ := (x.cell y c h1 h2).1; ⟨v, k.cell hv⟩, (x.cell y c h1 h2).2⟩
theorem CF.other {h h' : Heap} {cenv : Env} {a : Addr} {o : Obj} (x : CF C b scope cenv h) (fr : b.get? a = none) (e : h.get? a = some o) (h1 : ∀ es n, o.data ≠ .dict es n) (h2 : ∀ v, o.data ≠ .cell v) (k : Heap.ExtBut a h h') : CF C b scope cenv h' where
  root := x.root
  ext := x.ext.but fr k
  ns := by
    obtain ⟨m, hm⟩ := x.ns
    refine ⟨m, hm.extBut k fun q => ?_⟩
    obtain ⟨o', es, ep, e', d, _⟩ := hm
    rw [q, e] at e'; cases e'
    exact h1 _ _ d
  low := x.low
  cell := fun y c k1 k2 => by
    obtain ⟨v, o', e', d⟩ := (x.cell y c k1 k2).1
    refine ⟨⟨v, o', k c o' (fun q => ?_) e', d⟩, (x.cell y c k1 k2).2⟩
    rw [q, e] at e'; cases e'
    exact h2 _ d
theorem do_append {A : Around} {E : Value → Shared → Prop} {s : Shared} {a : Addr} {vs : List Value} {x : Value} {Q : Value → Shared → Prop} (l : IsL s.heap a vs) (hz : vs.length ≤ 1000000)
    (hQ : ∀ h', IsL h' a (vs ++ [x]) → Heap.SameBut a s.heap h' → Q .none { s with heap := h' }) : wpAny C.M A (call (.builtin "list.append") [.ref a, x]) Q E s := by
  obtain ⟨m, e⟩ := l
  refine call_meets PySem.F.slot_list_append ⟨_, e, rfl⟩ PySem.F.entry_list_append (PySem.F.args_list_append_2 _ _) (PySem.list_append a vs.toArray m x (by simp; unfold sizeLine; omega)) ⟨e, hQ _ ?_ (Heap.SameBut.update ..)⟩
  refine ⟨m + 1, (Heap.get?_update_self _ e rfl).trans ?_⟩
  simp [Obj.mapSeq, LObj]
theorem It.ext {h h' : Heap} {I : Addr} {ds : List D} {i : Nat} (x : It Y b h I ds i) (k : Ext h h') : It Y b h' I ds i := x.at fun o e => by
  obtain ⟨o', e', _, _, t, _⟩ := x.obj
  rw [e] at e'; cases e'
  exact k.keep e t
theorem It.touch {h h' : Heap} {I : Addr} {ds : List D} {i : Nat} (x : It Y b h I ds i) (k : Touch h h') : It Y b h' I ds i := x.at fun o e => by
  obtain ⟨o', e', _, _, _, t1, t2⟩ := x.obj
  rw [e] at e'; cases e'
  exact k _ _ e t1 t2
theorem filter_succ (p : Nat → Bool) (g : Nat → D) (i : Nat) : ((List.range (i + 1)).filter p).map g = ((List.range i).filter p).map g ++ (if p i then [g i] else []) := by
  rw [List.range_succ, List.filter_append, List.map_append]
  congr 1
  cases h : p i <;> simp [h]
end
theorem Ns.uniq {h : Heap} {a : Addr} {m m' : Str → Option Value} (x : h.Ns a m) (y : h.Ns a m') : m = m' := by
  obtain ⟨o, es, ep, e, d, _, k⟩ := x
  obtain ⟨o', es', ep', e', d', _, k'⟩ := y
  rw [e] at e'; cases e'
  rw [d] at d'; cases d'
  funext n
  rw [← k, ← k']
theorem ns_scratch {h : Heap} {a : Addr} {m : Str → Option Value} (x : h.Ns a m) : ∃ o, h.get? a = some o ∧ scratch o = true := let ⟨o, _, _, e, d, _⟩ := x; ⟨o, e, by unfold scratch; rw [d]⟩
theorem cell_scratch {h : Heap} {a : Addr} {v : Option Value} (x : h.IsCell a v) : ∃ o, h.get? a = some o ∧ scratch o = true := let ⟨o, e, d⟩ := x; ⟨o, e, by unfold scratch; rw [d]⟩
theorem ns_ne_cell {h : Heap} {a c : Addr} {m : Str → Option Value} {v : Option Value} (x : h.Ns a m) (y : h.IsCell c v) : a ≠ c := by
  rintro rfl
  obtain ⟨o, es, ep, e, d, _⟩ := x
  obtain ⟨o', e', d'⟩ := y
  rw [e] at e'; cases e'
  rw [d] at d'; cases d'
noncomputable def FS.put (f : FS) (x : Str) (R : VP) : FS := { f with ρ := (x, R) :: f.ρ }
structure FS.W (C : Cx) (f : FS) (k : Vw) : Prop where
  toH : f.H k
  root : Ext C.B f.b
  ns : ∃ m, k.h.Ns f.env.locals m
  low : f.b.get? f.env.locals = none
  cell : ∀ x c, f.sc.names.lookup x = some .cell → f.env.cells.lookup x = some c → (∃ v, k.h.IsCell c v) ∧ f.b.get? c = none
  has : ∀ x, f.sc.names.lookup x = some .cell → ∃ c, f.env.cells.lookup x = some c
  apart : ∀ x y c, f.env.cells.lookup x = some c → f.env.cells.lookup y = some c → x = y
  stab : ∀ x R, f.ρ.lookup x = some R → R.Stab
  fstab : f.F.Stab f.b
section
variable {C : Cx} {n : Nat} {f : FS}
theorem FS.W.up {h h' : Heap} {Y : Al} (x : f.W C ⟨h, Y⟩) (k : Ext h h') : f.W C ⟨h', Y⟩ where
  toH := x.toH.up k
  root := x.root
  ns := let ⟨m, hm⟩ := x.ns; ⟨m, k.ns hm⟩
  low := x.low
  cell := fun y c h1 h2 => ⟨let ⟨v, hv⟩ := (x.cell y c h1 h2).1; ⟨v, k.cell hv⟩, (x.cell y c h1 h2).2⟩
  has := x.has
  apart := x.apart
  stab := x.stab
  fstab := x.fstab
theorem Ok.same {Y : Al} {h h' : Heap} {a : Addr} {o' : Obj} (x : Ok Y h) (k : Heap.SameBut a h h') (e : h'.get? a = some o') : Ok Y h' := fun b q => x b (by
  by_cases hb : b = a
  · subst hb; rw [e] at q; cases q
  · exact (k.2 b hb) ▸ q)
theorem FS.W.stored {h h' : Heap} {Y : Al} {x : Str} {v : Value} {R : VP} {a : Addr} {o' : Obj} (w : f.W C ⟨h, Y⟩) (hR : R.p ⟨h, Y⟩ v) (hst : R.Stab) (k : Heap.SameBut a h h') (ha : f.b.get? a = none) (e' : h'.get? a = some o')
    (hsc : ∃ o, h.get? a = some o ∧ scratch o = true) (hx : Slot f.env h' x v) (hns : ∃ m, h'.Ns f.env.locals m) (hcell : ∀ y c, f.sc.names.lookup y = some .cell → f.env.cells.lookup y = some c → ∃ v, h'.IsCell c v)
    (hoth : ∀ y u, y ≠ x → Slot f.env h y u → Slot f.env h' y u) : (f.put x R).W C ⟨h', Y⟩ where
  toH := by
    obtain ⟨o, eo, so⟩ := hsc
    refine ⟨w.toH.ext.same ha k, w.toH.sc, w.toH.kind, w.toH.glob, w.toH.bi, fun y R' hy => ?_, w.fstab.st ha eo so e' k w.toH.more⟩
    have hy' : ((x, R) :: f.ρ).lookup y = some R' := hy
    rw [List.lookup_cons] at hy'
    cases hyx : y == x with
    | true =>
      simp only [hyx] at hy'
      cases hy'
      have : y = x := by simpa using hyx
      subst this
      exact ⟨v, hx, hst.st eo (scratch_noseq so) e' k hR⟩
    | false =>
      simp only [hyx] at hy'
      obtain ⟨u, h1, h2⟩ := w.toH.vars y R' hy'
      exact ⟨u, hoth y u (by simpa using hyx) h1, (w.stab y R' hy').st eo (scratch_noseq so) e' k h2⟩
  root := w.root
  ns := hns
  low := w.low
  cell := fun y c h1 h2 => ⟨hcell y c h1 h2, (w.cell y c h1 h2).2⟩
  has := w.has
  apart := w.apart
  stab := fun y R' hy => by
    have hy' : ((x, R) :: f.ρ).lookup y = some R' := hy
    rw [List.lookup_cons] at hy'
    cases hyx : y == x with
    | true => simp only [hyx] at hy'; cases hy'; exact hst
    | false => simp only [hyx] at hy'; exact w.stab y R' hy'
  fstab := w.fstab
theorem FS.W.store {A : Around} {s : Shared} {E : Value → Shared → Prop} {Y : Al} {x : Str} {v : Value} {R : VP} {Q : Unit → Shared → Prop} (w : f.W C ⟨s.heap, Y⟩) (hs : St C s) (hY : Ok Y s.heap)
    (hx : f.sc.names.lookup x = some .local ∨ f.sc.names.lookup x = some .cell) (hR : R.p ⟨s.heap, Y⟩ v) (hst : R.Stab)
    (hQ : ∀ s', St C s' → Ok Y s'.heap → (f.put x R).W C ⟨s'.heap, Y⟩ → Touch s.heap s'.heap → Q () s') : wpAny C.M A (storeName f.env x v) Q E s := by
  obtain ⟨m, hm⟩ := w.ns
  have hk : f.env.scope.kind = .function := by rw [w.toH.sc]; exact w.toH.kind
  rcases hx with hx | hx
  · have hx' : f.env.kindOf x = some .local := by show f.env.scope.names.lookup x = _; rw [w.toH.sc]; exact hx
    obtain ⟨o, ho, hso⟩ := soft_ns hm
    refine wpAny_storeName_local hx' hm (fun h' hn' hs' => ?_) (by rw [hk]; rfl)
    obtain ⟨o', ho', _⟩ := soft_ns hn'
    refine hQ _ (hs.same ho hso (w.root.none w.low) hs' _) (hY.same hs' ho') ?_ (Touch.sameNs hm hs')
    refine w.stored hR hst hs' w.low ho' (ns_scratch hm) (.inl ⟨hx', _, hn', by simp⟩) ⟨_, hn'⟩ (fun y c h1 h2 => ?_) fun y u hy hsl => ?_
    · obtain ⟨v', hv'⟩ := (w.cell y c h1 h2).1
      exact ⟨v', hv'.sameBut hs' (Ne.symm (ns_ne_cell hm hv'))⟩
    · rcases hsl with ⟨a, m2, b, c⟩ | ⟨a, c, d, e⟩
      · rw [Ns.uniq b hm] at c
        exact .inl ⟨a, _, hn', by simpa [hy] using c⟩
      · exact .inr ⟨a, c, d, e.sameBut hs' (Ne.symm (ns_ne_cell hm e))⟩
  · have hx' : f.env.kindOf x = some .cell := by show f.env.scope.names.lookup x = _; rw [w.toH.sc]; exact hx
    obtain ⟨c, hc⟩ := w.has x hx
    obtain ⟨⟨v₀, hv₀⟩, hlow⟩ := w.cell x c hx hc
    obtain ⟨o, ho, hso⟩ := soft_cell hv₀
    refine wpAny_storeName_cell hk hx' hc hv₀ fun h' hn' hs' => ?_
    obtain ⟨o', ho', _⟩ := soft_cell hn'
    refine hQ _ (hs.same ho hso (w.root.none hlow) hs' s.toks) (hY.same hs' ho') ?_ (Touch.sameCell hv₀ hs')
    refine w.stored hR hst hs' hlow ho' (cell_scratch hv₀) (.inr ⟨.inl hx', c, hc, hn'⟩) ⟨m, hm.sameBut hs' (ns_ne_cell hm hv₀)⟩ (fun y c' h1 h2 => ?_) fun y u hy hsl => ?_
    · obtain ⟨v', hv'⟩ := (w.cell y c' h1 h2).1
      by_cases hcc : c' = c
      · subst hcc; exact ⟨_, hn'⟩
      · exact ⟨v', hv'.sameBut hs' hcc⟩
    · rcases hsl with ⟨a, m2, b, c2⟩ | ⟨a, c2, d, e⟩
      · exact .inl ⟨a, m2, b.sameBut hs' (ns_ne_cell b hv₀), c2⟩
      · refine .inr ⟨a, c2, d, e.sameBut hs' fun q => hy ?_⟩
        subst q
        exact w.apart y x _ d hc
noncomputable def Tr (C : Cx) (n : Nat) (P : Vw → Prop) (t : Sem Flow) (Q : Flow → Vw → Prop) : Prop := ∀ A s E Y, Room n A → St C s → Ok Y s.heap → P ⟨s.heap, Y⟩ →
  wpAny C.M A t (fun fl s' => St C s' ∧ Ok Y s'.heap ∧ Q fl ⟨s'.heap, Y⟩) E s
theorem Tr.pre {P P' : Vw → Prop} {t : Sem Flow} {Q : Flow → Vw → Prop} (h : Tr C n P t Q) (hp : ∀ k, P' k → P k) : Tr C n P' t Q := fun A s E Y hA hs hY p => h A s E Y hA hs hY (hp _ p)
theorem Tr.post {P : Vw → Prop} {t : Sem Flow} {Q Q' : Flow → Vw → Prop} (h : Tr C n P t Q) (hq : ∀ fl k, Q fl k → Q' fl k) : Tr C n P t Q' := fun A s E Y hA hs hY p =>
  wpAny_mono (h A s E Y hA hs hY p) (fun _ _ ⟨a, b, c⟩ => ⟨a, b, hq _ _ c⟩) fun _ _ e => e
theorem Tr.room {m : Nat} {P : Vw → Prop} {t : Sem Flow} {Q : Flow → Vw → Prop} (h : Tr C n P t Q) (hm : n ≤ m := by omega) : Tr C m P t Q := fun A s E Y hA hs hY p => h A s E Y (hA.le hm) hs hY p
theorem Tr.nil {P : Vw → Prop} {env : Env} {Q : Flow → Vw → Prop} (h : ∀ k, P k → Q .next k) : Tr C n P (execs [] env) Q := fun A s E Y hA hs hY p => wpAny_execs_nil ⟨hs, hY, h _ p⟩
theorem Tr.cons {P P' : Vw → Prop} {env : Env} {st : Stmt} {rest : List Stmt} {Q : Flow → Vw → Prop} (h1 : Tr C n P (exec st env) (fun fl k => match fl with | .next => P' k | fl => Q fl k)) (h2 : Tr C n P' (execs rest env) Q) :
    Tr C n P (execs (st :: rest) env) Q := fun A s E Y hA hs hY p =>
  wpAny_execs_cons (wpAny_mono (h1 A s E Y hA hs hY p) (fun fl s' ⟨a, b, c⟩ => by
    cases fl with
    | next => exact h2 A s' E Y hA a b c
    | brk => exact ⟨a, b, c⟩
    | cont => exact ⟨a, b, c⟩
    | ret v => exact ⟨a, b, c⟩) fun _ _ e => e)
theorem Tr.assign {x : Str} {p1 p2 : Pos} {e : Expr} {R : VP} {Q : Flow → Vw → Prop} (he : Ev C n f e R) (hx : f.sc.names.lookup x = some .local ∨ f.sc.names.lookup x = some .cell) (hst : R.Stab)
    (hQ : ∀ k, (f.put x R).W C k → Q .next k)
    (hsw : swapsWith e (some (.Name x p1)) p2.line f.env = pure false) : Tr C n (f.W C) (exec (.Assign [.Name x p1] e p2) f.env) Q := fun A s E Y hA hs hY p => by
  refine wpAny_Assign_Name (wpAny_mono (he A s E Y hA hs hY p.toH) (fun v s1 ⟨a, b, c⟩ => ?_) fun _ _ e => e) hsw
  exact (p.up b).store a (hY.ext b) hx c hst fun s' h1 h2 h3 _ => ⟨h1, h2, hQ _ h3⟩
theorem Tr.ret {e : Expr} {p : Pos} {R : VP} {Q : Flow → Vw → Prop} (he : Ev C n f e R) (hQ : ∀ k v, f.H k → R.p k v → Q (.ret v) k) : Tr C n (f.W C) (exec (.Return (some e) p) f.env) Q := fun A s E Y hA hs hY p =>
  wpAny_Return_some (wpAny_mono (he A s E Y hA hs hY p.toH) (fun v s1 ⟨a, b, c⟩ => ⟨a, hY.ext b, hQ _ _ (p.toH.up b) c⟩) fun _ _ e => e)
theorem Tr.retH {e : Expr} {p : Pos} {R : VP} {Q : Flow → Vw → Prop} (he : Ev C n f e R) (hQ : ∀ k v, f.H k → R.p k v → Q (.ret v) k) : Tr C n f.H (exec (.Return (some e) p) f.env) Q := fun A s E Y hA hs hY p =>
  wpAny_Return_some (wpAny_mono (he A s E Y hA hs hY p) (fun v s1 ⟨a, b, c⟩ => ⟨a, hY.ext b, hQ _ _ (p.up b) c⟩) fun _ _ e => e)
theorem Tr.ite {t : Expr} {x y : List Stmt} {p : Pos} {c : Bool} {Q : Flow → Vw → Prop} (ht : Ts C n f t c) (hx : c = true → Tr C n (f.W C) (execs x f.env) Q) (hy : c = false → Tr C n (f.W C) (execs y f.env) Q) : Tr C n (f.W C) (exec (.If t x y p) f.env) Q := fun A s E Y hA hs hY p =>
  wpAny_If (wpAny_mono (ht A s E Y hA hs hY p.toH) (fun c' s1 ⟨a, b, e⟩ => by
    subst e
    cases c' with
    | true => exact hx rfl A s1 E Y hA a (hY.ext b) (p.up b)
    | false => exact hy rfl A s1 E Y hA a (hY.ext b) (p.up b)) fun _ _ e => e)
theorem FS.W.weaken {k : Vw} {ρ' : List (Str × VP)} (w : f.W C k) (h : ∀ x R, ρ'.lookup x = some R → f.ρ.lookup x = some R) : ({ f with ρ := ρ' } : FS).W C k :=
  ⟨⟨w.toH.ext, w.toH.sc, w.toH.kind, w.toH.glob, w.toH.bi, fun x R e => w.toH.vars x R (h x R e), w.toH.more⟩, w.root, w.ns, w.low, w.cell, w.has, w.apart, fun x R e => w.stab x R (h x R e), w.fstab⟩
end
section
variable {C : Cx} {n : Nat}
theorem St.keep {s : Shared} (x : St C s) {h' : Heap} (k : ∀ b o, s.heap.get? b = some o → h'.get? b = some o) (tk : Tok) : St C { s with heap := h', toks := tk } :=
  ⟨x.ext.trans (.of k), x.os, x.bare, fun q hq => let ⟨ps, a, b, c⟩ := x.tabs q hq; ⟨ps, k _ _ a, b, fun pos cv e => (c pos cv e).keeps k⟩, fun z => let ⟨a, b, c⟩ := x.fr z; ⟨a, b, fun q r e => k _ _ (c q r e)⟩, x.old.step_keeps k⟩
theorem bindL_other {kindOf : Str → Option NameKind} {x : Str} : ∀ {binds : List (Str × Value)} {m : Str → Option Value}, x ∉ binds.map (·.1) → bindL kindOf binds m x = m x
  | [], m, _ => rfl
  | (y, v) :: r, m, h => by
    rw [List.map_cons, List.mem_cons, not_or] at h
    unfold bindL
    rw [bindL_other h.2]
    split
    · simp only [if_neg h.1]
    · rfl
theorem bindC_other {kindOf : Str → Option NameKind} {x : Str} : ∀ {binds : List (Str × Value)} {m : Str → Option Value}, x ∉ binds.map (·.1) → bindC kindOf binds m x = m x
  | [], m, _ => rfl
  | (y, v) :: r, m, h => by
    rw [List.map_cons, List.mem_cons, not_or] at h
    unfold bindC
    rw [bindC_other h.2]
    split
    · rfl
    · simp only [if_neg h.1]
theorem bindL_here {kindOf : Str → Option NameKind} {x : Str} {v : Value} (hk : kindOf x = some .local) : ∀ {binds : List (Str × Value)} {m : Str → Option Value}, (binds.map (·.1)).Nodup → binds.lookup x = some v → bindL kindOf binds m x = some v
  | (y, u) :: r, m, hn, h => by
    rw [List.map_cons, List.nodup_cons] at hn
    unfold bindL
    rw [List.lookup_cons] at h
    cases hy : x == y with
    | true =>
      simp only [hy] at h
      cases h
      have e : x = y := by simpa using hy
      subst e
      rw [bindL_other hn.1, if_pos hk]
      simp
    | false =>
      simp only [hy] at h
      exact bindL_here hk hn.2 h
theorem bindC_here {kindOf : Str → Option NameKind} {x : Str} {v : Value} (hk : kindOf x = some .cell) : ∀ {binds : List (Str × Value)} {m : Str → Option Value}, (binds.map (·.1)).Nodup → binds.lookup x = some v → bindC kindOf binds m x = some v
  | (y, u) :: r, m, hn, h => by
    rw [List.map_cons, List.nodup_cons] at hn
    unfold bindC
    rw [List.lookup_cons] at h
    cases hy : x == y with
    | true =>
      simp only [hy] at h
      cases h
      have e : x = y := by simpa using hy
      subst e
      rw [bindC_other hn.1, if_neg (by rw [hk]; decide)]
      simp
    | false =>
      simp only [hy] at h
      exact bindC_here hk hn.2 h
theorem none_of_size {h : Heap} {a : Addr} (e : h.objs.size ≤ a) : h.get? a = none := by
  cases q : h.get? a with
  | none => rfl
  | some o => exact absurd (Heap.lt_size q) (Nat.not_lt.mpr e)
noncomputable def CodeAt (h : Heap) (cd : Value) (q : Str) : Prop := ∃ c oc vs t, cd = .ref c ∧ h.get? c = some oc ∧ oc.cls = .type "code" ∧ oc.data = .fields vs ∧ vs[1]? = some (.str q t)
theorem CodeAt.rec {h h' : Heap} {cd : Value} {q : Str} (x : CodeAt h cd q) (k : Ext h h') : h'.CodeRec cd q := let ⟨c, oc, vs, t, e, g, cl, d, r⟩ := x; ⟨c, oc, vs, t, e, k.keep g (tab_type cl), d, r⟩
structure Fn (C : Cx) (fa : Addr) (fd : FuncData) (body : List Stmt) : Prop where
  obj : ∃ o, C.B.get? fa = some o ∧ o.data = .func fd
  body : fd.body = .stmts body
  co : fd.scope.isCoroutine = false
  kind : fd.scope.kind = .function
  code : CodeAt C.B fd.code fd.qualname
  clo : fd.closure = []
  glob : fd.globals = mainGlobals
  bi : fd.builtins = builtinsNs
noncomputable abbrev fenv (fd : FuncData) (fa L : Addr) : Env := newEnv fd.scope L fd.globals (cellsFrom (L + 1) fd.scope.names []) (fd.qualname ++ ".<locals>.") (some fa) fd.code none fd.builtins
noncomputable abbrev ats (b : Heap) (ρ : List (Str × VP)) : List (Str × VP) := ρ.map fun q => (q.1, VP.at b q.2)
theorem ats_lookup {b : Heap} {x : Str} {R' : VP} : ∀ {ρ : List (Str × VP)}, (ats b ρ).lookup x = some R' → ∃ R, ρ.lookup x = some R ∧ R' = VP.at b R
  | [], h => by cases h
  | (y, R) :: r, h => by
    have h' : ((y, VP.at b R) :: ats b r).lookup x = some R' := h
    rw [List.lookup_cons] at h' ⊢
    cases hy : x == y with
    | true => simp only [hy] at h'; exact ⟨R, rfl, (Option.some.inj h').symm⟩
    | false => simp only [hy] at h'; exact ats_lookup h'
theorem inCallC_W {s s' : Shared} {fd : FuncData} {fa L : Addr} {body : List Stmt} {binds : List (Str × Value)} {ρ : List (Str × VP)} {F : HP} {Y : Al} (hF : Fn C fa fd body) (hs : St C s)
    (x : InCallC s (fenv fd fa L).locals (bindL (fenv fd fa L).kindOf binds fun _ => none) (fenv fd fa L).cells (bindC (fenv fd fa L).kindOf binds fun _ => none) s')
    (hkind : ∀ y ∈ binds, fd.scope.names.lookup y.1 = some .local ∨ fd.scope.names.lookup y.1 = some .cell) (hnd : (binds.map (·.1)).Nodup)
    (hρ : ∀ x R, ρ.lookup x = some R → ∃ v, binds.lookup x = some v ∧ R.p ⟨s.heap, Y⟩ v) (hFp : F.p ⟨s'.heap, Y⟩) (hFs : F.Stab s.heap) :
    FS.W C ⟨s.heap, fenv fd fa L, fd.scope, ats s.heap ρ, F⟩ ⟨s'.heap, Y⟩ := by
  have ex : Ext s.heap s'.heap := .of x.toInCall.keep
  have hmem : ∀ y v, binds.lookup y = some v → (y, v) ∈ binds := fun y v e => mem_of_lookup e
  refine ⟨⟨ex, rfl, hF.kind, hF.glob, hF.bi, fun y R' e => ?_, hFp⟩, hs.ext, ⟨_, x.toInCall.ns⟩, none_of_size x.toInCall.fresh, fun y c h1 h2 => ?_, fun y h1 => ?_, fun y z c h1 h2 => ?_, fun y R' e => ?_, hFs⟩
  · obtain ⟨R, h1, rfl⟩ := ats_lookup e
    obtain ⟨v, h2, h3⟩ := hρ y R h1
    refine ⟨v, ?_, fun e => ex.live e, h3⟩
    rcases hkind _ (hmem y v h2) with hk | hk
    · exact .inl ⟨hk, _, x.toInCall.ns, bindL_here hk hnd h2⟩
    · have hin := cellsFrom_own fd.scope.names (L + 1) [] (.inl (mem_of_lookup hk))
      obtain ⟨c, hc⟩ := Option.isSome_iff_exists.mp hin
      refine .inr ⟨.inl hk, c, hc, ?_⟩
      have := x.cell y c hc
      rwa [bindC_here hk hnd h2] at this
  · exact ⟨⟨_, x.cell y c h2⟩, none_of_size (Nat.le_trans x.toInCall.fresh (Nat.le_of_lt (x.above y c (mem_of_lookup h2))))⟩
  · exact Option.isSome_iff_exists.mp (cellsFrom_own fd.scope.names (L + 1) [] (.inl (mem_of_lookup h1)))
  · exact name_of_addr x.apart (mem_of_lookup h1) (mem_of_lookup h2)
  · obtain ⟨R, _, rfl⟩ := ats_lookup e
    exact at_stab _ _
structure Bd (s : Shared) (fd : FuncData) (args : Args) (binds : List (Str × Value)) : Prop where
  b : BindsTo s fd args binds
theorem callFn' (G : Bg C) {A : Around} {s : Shared} {E : Value → Shared → Prop} {Y : Al} {Q : Value → Shared → Prop} {fa : Addr} {fd : FuncData} {body : List Stmt} {pos : List Value} {kw : List (Str × Value)} {binds : List (Str × Value)} {ρ : List (Str × VP)} {F : HP}
    {q : Heap → Flow → Vw → Prop} (hF : Fn C fa fd body) (hA : Room (n + 1) A) (hs : St C s) (hY : Ok Y s.heap) (hgen : fd.scope.isGenerator = false)
    (hbind : Bd s fd ⟨pos, kw⟩ binds) (hkind : ∀ y ∈ binds, fd.scope.names.lookup y.1 = some .local ∨ fd.scope.names.lookup y.1 = some .cell) (hnd : (binds.map (·.1)).Nodup)
    (hρ : ∀ x R, ρ.lookup x = some R → ∃ v, binds.lookup x = some v ∧ R.p ⟨s.heap, Y⟩ v) (hFp : ∀ h', Ext s.heap h' → F.p ⟨h', Y⟩) (hFs : F.Stab s.heap)
    (hb : ∀ L, Tr C n (FS.W C ⟨s.heap, fenv fd fa L, fd.scope, ats s.heap ρ, F⟩) (execs body (fenv fd fa L)) (q s.heap))
    (hQ : ∀ fl s', St C s' → Ok Y s'.heap → q s.heap fl ⟨s'.heap, Y⟩ → Q (match fl with | .ret v => v | _ => .none) s') : wpAny C.M A (call (.ref fa) pos kw) Q E s := by
  obtain ⟨o, ho, hd⟩ := hF.obj
  have ht : tabLike o = false := tab_data fun vs e => by rw [hd] at e; cases e
  refine wpAny_call (codeAny_call_function hA.reclim (hs.ext.keep ho ht) hd hF.co hgen hF.body (hF.code.rec hs.ext) (hbind.b _ _ _ _ ?_))
  rw [hF.clo]
  refine wpAny_newFunctionEnv_cells hF.kind (fun y hy => ?_) fun env he s' x => ?_
  · rcases hkind y hy with h | h
    · exact .inl h
    · exact .inr ⟨h, cellsFrom_own _ _ _ (.inl (mem_of_lookup h))⟩
  · subst he
    have w := inCallC_W (ρ := ρ) (F := F) (Y := Y) hF hs x hkind hnd hρ (hFp _ (.of x.toInCall.keep)) hFs
    obtain ⟨h', tk, e⟩ := x.toInCall.same
    have st' : St C s' := by
      subst e
      exact hs.keep x.toInCall.keep tk
    have hY' : Ok Y s'.heap := hY.ext w.toH.ext
    refine ⟨st'.ext.nolimit G.lim, codeAny_func ?_⟩
    refine wpAny_mono (hb _ (A.deeper _) s' _ Y (hA.deeper _) st' hY' w) (fun fl s2 ⟨a, b, c⟩ => ?_) fun _ _ e => e
    exact hQ fl s2 a b c
end
noncomputable abbrev Kf := heapK
noncomputable def fdOf (P : Params) (a : Addr) : FuncData := match (Kf P).lookup a with | some ⟨_, _, .func fd, _⟩ => fd | _ => default
noncomputable def bodyOf (P : Params) (a : Addr) : List Stmt := match (fdOf P a).body with | .stmts b => b | _ => []
structure Kx (C : Cx) : Prop extends Bg C where
  K' : ∀ b o, (Kf C.w.params).lookup b = some o → tabLike o = false → C.B.get? b = some o
  mgK : ∀ x v, nsIn (Kf C.w.params) mainGlobals x = some v → C.mg x = v
  hT9 : ∀ q ∈ [((159 : Addr), (155 : Addr)), (147, 143)], CodeHd C.B q.1 q.2
  bat : ∀ P ∈ [155, 143], C.B.BuiltinsAt C.mg P
section
variable {C : Cx}
theorem Kx.K (k : Kx C) (b : Addr) (o : Obj) (e : (Kf C.w.params).lookup b = some o) (ht : tabLike o = false := by rfl) : C.B.get? b = some o := k.K' b o e ht
theorem fn_kind (k : Kx C) : Fn C 28 (fdOf C.w.params 28) (bodyOf C.w.params 28) := ⟨⟨_, k.K 28 _ rfl, rfl⟩, rfl, rfl, rfl, ⟨27, _, _, _, rfl, k.K 27 _ rfl, rfl, rfl, rfl⟩, rfl, rfl, rfl⟩
theorem fn_fspath (k : Kx C) : Fn C 35 (fdOf C.w.params 35) (bodyOf C.w.params 35) := ⟨⟨_, k.K 35 _ rfl, rfl⟩, rfl, rfl, rfl, ⟨34, _, _, _, rfl, k.K 34 _ rfl, rfl, rfl, rfl⟩, rfl, rfl, rfl⟩
theorem fn_split (k : Kx C) : Fn C 42 (fdOf C.w.params 42) (bodyOf C.w.params 42) := ⟨⟨_, k.K 42 _ rfl, rfl⟩, rfl, rfl, rfl, ⟨41, _, _, _, rfl, k.K 41 _ rfl, rfl, rfl, rfl⟩, rfl, rfl, rfl⟩
theorem fn_ancestry (k : Kx C) : Fn C 49 (fdOf C.w.params 49) (bodyOf C.w.params 49) := ⟨⟨_, k.K 49 _ rfl, rfl⟩, rfl, rfl, rfl, ⟨48, _, _, _, rfl, k.K 48 _ rfl, rfl, rfl, rfl⟩, rfl, rfl, rfl⟩
theorem fn_ff_init (k : Kx C) : Fn C 64 (fdOf C.w.params 64) (bodyOf C.w.params 64) := ⟨⟨_, k.K 64 _ rfl, rfl⟩, rfl, rfl, rfl, ⟨63, _, _, _, rfl, k.K 63 _ rfl, rfl, rfl, rfl⟩, rfl, rfl, rfl⟩
theorem fn_ff_iter (k : Kx C) : Fn C 71 (fdOf C.w.params 71) (bodyOf C.w.params 71) := ⟨⟨_, k.K 71 _ rfl, rfl⟩, rfl, rfl, rfl, ⟨70, _, _, _, rfl, k.K 70 _ rfl, rfl, rfl, rfl⟩, rfl, rfl, rfl⟩
theorem fn_ff_next (k : Kx C) : Fn C 78 (fdOf C.w.params 78) (bodyOf C.w.params 78) := ⟨⟨_, k.K 78 _ rfl, rfl⟩, rfl, rfl, rfl, ⟨77, _, _, _, rfl, k.K 77 _ rfl, rfl, rfl, rfl⟩, rfl, rfl, rfl⟩
theorem fn_difference (k : Kx C) : Fn C 93 (fdOf C.w.params 93) (bodyOf C.w.params 93) := ⟨⟨_, k.K 93 _ rfl, rfl⟩, rfl, rfl, rfl, ⟨92, _, _, _, rfl, k.K 92 _ rfl, rfl, rfl, rfl⟩, rfl, rfl, rfl⟩
theorem fn_insort_right (k : Kx C) : Fn C 102 (fdOf C.w.params 102) (bodyOf C.w.params 102) := ⟨⟨_, k.K 102 _ rfl, rfl⟩, rfl, rfl, rfl, ⟨101, _, _, _, rfl, k.K 101 _ rfl, rfl, rfl, rfl⟩, rfl, rfl, rfl⟩
theorem fn_bisect_right (k : Kx C) : Fn C 111 (fdOf C.w.params 111) (bodyOf C.w.params 111) := ⟨⟨_, k.K 111 _ rfl, rfl⟩, rfl, rfl, rfl, ⟨110, _, _, _, rfl, k.K 110 _ rfl, rfl, rfl, rfl⟩, rfl, rfl, rfl⟩
theorem fn_insort_left (k : Kx C) : Fn C 120 (fdOf C.w.params 120) (bodyOf C.w.params 120) := ⟨⟨_, k.K 120 _ rfl, rfl⟩, rfl, rfl, rfl, ⟨119, _, _, _, rfl, k.K 119 _ rfl, rfl, rfl, rfl⟩, rfl, rfl, rfl⟩
theorem fn_bisect_left (k : Kx C) : Fn C 129 (fdOf C.w.params 129) (bodyOf C.w.params 129) := ⟨⟨_, k.K 129 _ rfl, rfl⟩, rfl, rfl, rfl, ⟨128, _, _, _, rfl, k.K 128 _ rfl, rfl, rfl, rfl⟩, rfl, rfl, rfl⟩
theorem fn_names (k : Kx C) : Fn C 136 (fdOf C.w.params 136) (bodyOf C.w.params 136) := ⟨⟨_, k.K 136 _ rfl, rfl⟩, rfl, rfl, rfl, ⟨135, _, _, _, rfl, k.K 135 _ rfl, rfl, rfl, rfl⟩, rfl, rfl, rfl⟩
theorem fn_keys (k : Kx C) : Fn C 141 (fdOf C.w.params 141) (bodyOf C.w.params 141) := ⟨⟨_, k.K 141 _ rfl, rfl⟩, rfl, rfl, rfl, ⟨140, _, _, _, rfl, k.K 140 _ rfl, rfl, rfl, rfl⟩, rfl, rfl, rfl⟩
theorem fn_row (k : Kx C) : Fn C 148 (fdOf C.w.params 148) (bodyOf C.w.params 148) := ⟨⟨_, k.K 148 _ rfl, rfl⟩, rfl, rfl, rfl, ⟨147, _, _, _, rfl, k.K 147 _ rfl, rfl, rfl, rfl⟩, rfl, rfl, rfl⟩
theorem fn_climb (k : Kx C) : Fn C 153 (fdOf C.w.params 153) (bodyOf C.w.params 153) := ⟨⟨_, k.K 153 _ rfl, rfl⟩, rfl, rfl, rfl, ⟨152, _, _, _, rfl, k.K 152 _ rfl, rfl, rfl, rfl⟩, rfl, rfl, rfl⟩
theorem fn_below (k : Kx C) : Fn C 160 (fdOf C.w.params 160) (bodyOf C.w.params 160) := ⟨⟨_, k.K 160 _ rfl, rfl⟩, rfl, rfl, rfl, ⟨159, _, _, _, rfl, k.K 159 _ rfl, rfl, rfl, rfl⟩, rfl, rfl, rfl⟩
theorem fn_law (k : Kx C) : Fn C 165 (fdOf C.w.params 165) (bodyOf C.w.params 165) := ⟨⟨_, k.K 165 _ rfl, rfl⟩, rfl, rfl, rfl, ⟨164, _, _, _, rfl, k.K 164 _ rfl, rfl, rfl, rfl⟩, rfl, rfl, rfl⟩
theorem mg_none (k : Kx C) {x : Str} (e : nsIn (Kf C.w.params) mainGlobals x = some none) : C.mg x = none := k.mgK _ _ e
theorem mg_some (k : Kx C) {x : Str} {v : Value} (e : nsIn (Kf C.w.params) mainGlobals x = some (some v)) : C.mg x = some v := k.mgK _ _ e
example (k : Kx C) : C.mg (Str.ofString "len") = none := mg_none k (by rfl)
example (k : Kx C) : C.mg (Str.ofString "split") = some (.ref 42) := mg_some k (by rfl)
end
section
open PySem.AutoSeq1 (wpAny_loadPart')
open PySem.MeetsSeq PySem.MeetsSeq2 PySem.MeetsSeq3 PySem.SeqRoads2 PySem.SeqAt
inductive SeqLt (A : Around) (s : Shared) : List Value → List Value → Bool → Prop
  | nil {xs ys : List Value} (h : xs = [] ∨ ys = []) : SeqLt A s xs ys (decide (xs.length < ys.length))
  | eq {x y : Value} {xs ys : List Value} {b : Bool} (h : EqAt A.in1 s x y true) (r : SeqLt A s xs ys b) : SeqLt A s (x :: xs) (y :: ys) b
  | ne {x y : Value} {xs ys : List Value} {b : Bool} (h : EqAt A.in1 s x y false) (r : ∀ (prog : Program) (w : World) (E : Value → Shared → Prop) (Q : Value → Shared → Prop), Q (.bool b) s → wpAny (model prog w) A.in1 (richCompare .Lt x y) Q E s) : SeqLt A s (x :: xs) (y :: ys) b
theorem lt_loopAt (l c : Addr) (items items2 : Array Value) (n n2 : Nat) (dd dd2 : Option Addr) (sl sl2 : Array (Option Value)) {A : Around} {s : Shared} {xs ys : List Value} {b : Bool} (x : SeqLt A s xs ys b) :
    ∀ i : Nat, i ≤ items.size → i ≤ items2.size → items.toList.drop i = xs → items2.toList.drop i = ys → ∀ (prog : Program) (w : World) (R : Result → Shared → Prop),
      (s.heap.get? l = some { cls := .type "list", dict := dd, data := .seq items n, slots := sl } ∧ s.heap.get? c = some { cls := .type "list", dict := dd2, data := .seq items2 n2, slots := sl2 } ∧
        R (.ok (.ret (.bool b))) s) → wpAny (model prog w) A.in1 (Builtin.«list.__eq__.loop» ⟨[.ref l, .ref c, rawInt i, rawInt 0], []⟩) (fun fin s' => match fin with | .done f => R (.ok f) s' | .again c' => c'.quiet = true ∧ codeAny (model prog w) A c' R s') (fun e s' => R (.error e) s') s := by
  have num : ∀ i : Nat, (((i : Nat) : Int)).toNat = i := fun i => by simp
  induction x with
  | @nil xs ys h =>
    intro i z1 z2 hx hy prog w R hh
    obtain ⟨hp, g, d, tk, os⟩ := s; obtain ⟨hl, hb, h'⟩ := hh
    wp_walk using wpAny_loadPart' hl, wpAny_loadPart' hb
    have hsz : ∀ (a : Array Value) (zs : List Value), a.toList.drop i = zs → zs.length = a.size - i := fun a zs e => by rw [← e]; simp
    have e1 := hsz _ _ hx
    have e2 := hsz _ _ hy
    rw [num]
    have hbe : decide (xs.length < ys.length) = decide (items.size < items2.size) := by apply decide_eq_decide.mpr; omega
    rw [hbe] at h'
    have hcase : (items[i]? = none) ∨ (items2[i]? = none) := by
      rcases h with h | h
      · have e3 : xs.length = 0 := by rw [h]; rfl
        exact .inl (by simp; omega)
      · have e3 : ys.length = 0 := by rw [h]; rfl
        exact .inr (by simp; omega)
    cases q1 : items[i]? with
    | none =>
      wp_walk using wpAny_loadPart' hl, wpAny_loadPart' hb
      exact h'
    | some u =>
      cases q2 : items2[i]? with
      | none =>
        wp_walk using wpAny_loadPart' hl, wpAny_loadPart' hb
        exact h'
      | some u2 => rcases hcase with q | q <;> simp_all
  | @eq x y xs ys b h r ih =>
    intro i z1 z2 hx hy prog w R hh
    have h1 : items[i]? = some x := by
      have := congrArg (fun z : List Value => z[0]?) hx
      simpa using this
    have h2 : items2[i]? = some y := by
      have := congrArg (fun z : List Value => z[0]?) hy
      simpa using this
    have hx' : items.toList.drop (i + 1) = xs := by rw [← List.drop_drop, hx]; rfl
    have hy' : items2.toList.drop (i + 1) = ys := by rw [← List.drop_drop, hy]; rfl
    obtain ⟨hp, g, d, tk, os⟩ := s; obtain ⟨hl, hb, h'⟩ := hh
    wp_walk using wpAny_loadPart' hl, wpAny_loadPart' hb
    rw [num, h1, h2]
    refine wpAny_bind (h prog w _ _ ?_)
    have hc : ((i : Int) + 1) = ((i + 1 : Nat) : Int) := by push_cast; rfl
    wp_walk
    rw [hc]
    exact ⟨plainId_quiet plain_eq_loop _, codeAny_builtin entry_eq_loop (by
      rw [Around.under_plainId plain_eq_loop _]
      exact ih (i + 1) (by have := (Array.getElem?_eq_some_iff.mp h1).1; omega) (by have := (Array.getElem?_eq_some_iff.mp h2).1; omega) hx' hy' prog w R ⟨hl, hb, h'⟩)⟩
  | @ne x y xs ys b h r =>
    intro i z1 z2 hx hy prog w R hh
    have h1 : items[i]? = some x := by
      have := congrArg (fun z : List Value => z[0]?) hx
      simpa using this
    have h2 : items2[i]? = some y := by
      have := congrArg (fun z : List Value => z[0]?) hy
      simpa using this
    obtain ⟨hp, g, d, tk, os⟩ := s; obtain ⟨hl, hb, h'⟩ := hh
    wp_walk using wpAny_loadPart' hl, wpAny_loadPart' hb
    rw [num, h1, h2]
    refine wpAny_bind (h prog w _ _ ?_)
    wp_walk using wpAny_loadPart' hl, wpAny_loadPart' hb
    rw [h1, h2]
    refine wpAny_bind (r prog w _ _ ?_)
    wp_walk
    exact h'
theorem list_ltAt (l c : Addr) (items items2 : Array Value) (n n2 : Nat) (dd dd2 : Option Addr) (sl sl2 : Array (Option Value)) (b : Bool) :
    Meets (Builtin.«list.__lt__» ⟨[.ref l, .ref c], []⟩)
      (fun A R s => s.heap.get? l = some { cls := .type "list", dict := dd, data := .seq items n, slots := sl } ∧ s.heap.get? c = some { cls := .type "list", dict := dd2, data := .seq items2 n2, slots := sl2 } ∧
        SeqLt A s items.toList items2.toList b ∧ R (.ok (.ret (.bool b))) s) := by
  intro prog w A R s h
  obtain ⟨hp, g, d, tk, os⟩ := s; obtain ⟨hl, hb, he, h⟩ := h
  have f3 := AutoSeq1.sub_list_list
  wp_walk using wpAny_loadPart' hl, wpAny_loadPart' hb
  exact ⟨plainId_quiet plain_eq_loop _, codeAny_builtin entry_eq_loop (by
    rw [Around.under_plainId plain_eq_loop _]
    exact lt_loopAt l c items items2 n n2 dd dd2 sl sl2 he 0 (Nat.zero_le _) (Nat.zero_le _) rfl rfl prog w R ⟨hl, hb, h⟩)⟩
noncomputable def klt : List D → List D → Option Bool
  | [], ys => some (decide (0 < ys.length))
  | _ :: _, [] => some false
  | .int a :: xs, .int b :: ys => if a = b then klt xs ys else some (decide (a < b))
  | .str a :: xs, .str b :: ys => if a = b then klt xs ys else some (decide (a.cps.toList < b.cps.toList))
  | _, _ => none
theorem klt_seq {A : Around} {s : Shared} {Y : Al} {b : Bool} : ∀ {xs ys : List D} {vs ws : List Value}, Reps ⟨s.heap, Y⟩ xs vs → Reps ⟨s.heap, Y⟩ ys ws → klt xs ys = some b → SeqLt A s vs ws b
  | [], ys, vs, ws, h1, h2, h => by
    rw [Reps] at h1; subst h1
    rw [klt] at h
    cases h
    rw [← h2.length]
    exact .nil (.inl rfl)
  | x :: xs, [], vs, ws, h1, h2, h => by
    rw [Reps] at h2; subst h2
    rw [klt] at h
    cases h
    have e := h1.length
    have : (false : Bool) = decide (vs.length < ([] : List Value).length) := by simp
    rw [this]
    exact .nil (.inr rfl)
  | x :: xs, y :: ys, vs, ws, h1, h2, h => by
    rw [Reps] at h1 h2
    obtain ⟨v, vs, rfl, r1, r2⟩ := h1
    obtain ⟨w, ws, rfl, q1, q2⟩ := h2
    unfold klt at h
    split at h
    · cases ‹_ :: _ = []›
    · cases ‹_ :: _ = []›
    · rename_i a xs' c ys' e1 e2
      cases e1; cases e2
      obtain ⟨t, rfl⟩ := rep_int (h := ⟨s.heap, Y⟩) r1
      obtain ⟨u, rfl⟩ := rep_int (h := ⟨s.heap, Y⟩) q1
      by_cases hab : a = c
      · rw [if_pos hab] at h
        refine .eq ?_ (klt_seq r2 q2 h)
        have := EqAt.int_int (A := A.in1) (s := s) a t c u
        rwa [show (a == c) = true by simpa using hab] at this
      · rw [if_neg hab] at h
        cases h
        refine .ne ?_ fun prog w E Q hq => PyProof.Rows.lt_int hq
        have := EqAt.int_int (A := A.in1) (s := s) a t c u
        rwa [show (a == c) = false by simpa using hab] at this
    · rename_i a xs' c ys' e1 e2
      cases e1; cases e2
      obtain ⟨t, rfl⟩ := rep_str (h := ⟨s.heap, Y⟩) r1
      obtain ⟨u, rfl⟩ := rep_str (h := ⟨s.heap, Y⟩) q1
      by_cases hab : a = c
      · rw [if_pos hab] at h
        refine .eq ?_ (klt_seq r2 q2 h)
        have := EqAt.str_str (A := A.in1) (s := s) a t c u
        rwa [show (a == c) = true by simpa using hab] at this
      · rw [if_neg hab] at h
        cases h
        refine .ne ?_ fun prog w E Q hq => PyProof.Rows.lt_str hq
        have := EqAt.str_str (A := A.in1) (s := s) a t c u
        rwa [show (a == c) = false by simpa using hab] at this
    · cases h
section
variable {C : Cx} {n : Nat} {f : FS}
theorem cmp_ltl {xs ys : List D} {r : Bool} (h : klt xs ys = some r) (a b : Value) : Does C n (fun k => (dat (.list xs)).p k a ∧ (dat (.list ys)).p k b) (compareOp .Lt a b) (dat (.bool r)).p := fun A s E Y hA hs hY ⟨ha, hb⟩ => by
  obtain ⟨a, vs, rfl, ya, ⟨n1, ho⟩, r1⟩ := rep_list ha
  obtain ⟨b, ws, rfl, yb, ⟨n2, ho2⟩, r2⟩ := rep_list hb
  refine cmp_ofLt (richCompare_meets_room (op := .Lt) ⟨_, ho, rfl⟩ ⟨_, ho2, rfl⟩ PySem.F.slot_list_lt PySem.F.entry_list_lt (PySem.F.args_list_lt_2 _ _) (list_ltAt a b vs.toArray ws.toArray n1 n2 _ _ _ _ r)
    ⟨ho, ho2, klt_seq r1 r2 h, show Value.bool r ≠ Value.notImplemented ∧ _ from ⟨(fun x => nomatch x), hs, .refl _, mk_bool⟩⟩ hA.cline)
mutual
noncomputable def dep : D → Nat
  | .list l => deps l + 1
  | .tup l => deps l + 1
  | _ => 0
noncomputable def deps : List D → Nat
  | [] => 0
  | d :: ds => max (dep d) (deps ds)
end
theorem in1_lt {A : Around} {m : Nat} (h : A.units + (m + 1) < cLine) : A.in1.units + m < cLine := by simp only [Around.in1_units]; omega
mutual
theorem eqAt_same {A : Around} {s : Shared} {Y : Al} : ∀ {d : D} {v w : Value}, A.units + dep d < cLine → Rep ⟨s.heap, Y⟩ d v → Rep ⟨s.heap, Y⟩ d w → EqAt A s v w true
  | .none, v, w, _, h1, h2 => by rw [Rep] at h1 h2; subst h1 h2; exact EqAt.same _
  | .bool b, v, w, _, h1, h2 => by rw [Rep] at h1 h2; subst h1 h2; exact EqAt.same _
  | .int i, v, w, _, h1, h2 => by
    rw [Rep] at h1 h2
    obtain ⟨t, rfl⟩ := h1; obtain ⟨u, rfl⟩ := h2
    simpa using EqAt.int_int (A := A) (s := s) i t i u
  | .str i, v, w, _, h1, h2 => by
    rw [Rep] at h1 h2
    obtain ⟨t, rfl⟩ := h1; obtain ⟨u, rfl⟩ := h2
    simpa using EqAt.str_str (A := A) (s := s) i t i u
  | .list ds, v, w, hu, h1, h2 => by
    rw [Rep] at h1 h2
    obtain ⟨a, vs, rfl, _, l1, r1⟩ := h1
    obtain ⟨b, ws, rfl, _, l2, r2⟩ := h2
    by_cases hab : a = b
    · subst hab; exact EqAt.same _
    · refine EqAt.of_refs hab ?_
      have hz : vs.length = ws.length := by rw [r1.length, r2.length]
      have hu' : A.units < cLine := by omega
      have := RcAt.lists (A := A) (e := fun _ => true) l1.isList l2.isList (by simp [hz]) hu' (fun j h1 h2 => by
        have k1 : vs.toArray[j]? = some vs.toArray[j] := Array.getElem?_eq_getElem h1
        have k2 : ws.toArray[j]? = some ws.toArray[j] := Array.getElem?_eq_getElem h2
        exact eqsAt_same (A := A.in1) (in1_lt (by rw [dep] at hu; exact hu)) r1 r2 j (by simpa using k1) (by simpa using k2))
      have e1 : ((List.range vs.toArray.size).all fun _ => true) = true := by simp
      rwa [e1] at this
  | .tup ds, v, w, hu, h1, h2 => by
    rw [Rep] at h1 h2
    obtain ⟨a, vs, rfl, _, l1, r1⟩ := h1
    obtain ⟨b, ws, rfl, _, l2, r2⟩ := h2
    by_cases hab : a = b
    · subst hab; exact EqAt.same _
    · refine EqAt.of_refs hab ?_
      have hz : vs.length = ws.length := by rw [r1.length, r2.length]
      have hu' : A.units < cLine := by omega
      have := RcAt.tuples (A := A) (e := fun _ => true) l1.isTup l2.isTup hu' (fun j h1 h2 => by
        have k1 : vs.toArray[j]? = some vs.toArray[j] := Array.getElem?_eq_getElem h1
        have k2 : ws.toArray[j]? = some ws.toArray[j] := Array.getElem?_eq_getElem h2
        exact eqsAt_same (A := A.in1) (in1_lt (by rw [dep] at hu; exact hu)) r1 r2 j (by simpa using k1) (by simpa using k2))
      have e1 : ((List.range (min vs.toArray.size ws.toArray.size)).all fun _ => true) = true := by simp
      have e2 : (vs.toArray.size == ws.toArray.size) = true := by simp [hz]
      rw [e1, e2] at this
      exact this
theorem eqsAt_same {A : Around} {s : Shared} {Y : Al} : ∀ {ds : List D} {vs ws : List Value}, A.units + deps ds < cLine → Reps ⟨s.heap, Y⟩ ds vs → Reps ⟨s.heap, Y⟩ ds ws → ∀ (j : Nat) {x y : Value}, vs[j]? = some x → ws[j]? = some y → EqAt A s x y true
  | [], vs, ws, _, h1, h2, j, x, y, e1, e2 => by rw [Reps] at h1; subst h1; simp at e1
  | d :: ds, vs, ws, hu, h1, h2, j, x, y, e1, e2 => by
    rw [Reps] at h1 h2
    obtain ⟨v, vs, rfl, r1, q1⟩ := h1
    obtain ⟨w, ws, rfl, r2, q2⟩ := h2
    rw [deps] at hu
    cases j with
    | zero =>
      simp at e1 e2
      subst e1 e2
      exact eqAt_same (by omega) r1 r2
    | succ j => exact eqsAt_same (by omega) q1 q2 j (by simpa using e1) (by simpa using e2)
end
theorem cmp_eq_same {ds : List D} (hd : deps ds ≤ 20) (a b : Value) : Does C n (fun k => (dat (.list ds)).p k a ∧ (dat (.list ds)).p k b) (compareOp .Eq a b) (dat (.bool true)).p := fun A s E Y hA hs hY ⟨ha, hb⟩ => by
  obtain ⟨a, vs, rfl, ya, l1, r1⟩ := rep_list ha
  obtain ⟨b, ws, rfl, yb, l2, r2⟩ := rep_list hb
  have hz : vs.length = ws.length := by rw [r1.length, r2.length]
  have hu := hA.units
  refine eq_listAt (e := fun _ => true) l1.isList l2.isList (by simp [hz]) hA.cline (fun j h1 h2 => ?_) ⟨hs, .refl _, ?_⟩
  · have k1 : vs.toArray[j]? = some vs.toArray[j] := Array.getElem?_eq_getElem h1
    have k2 : ws.toArray[j]? = some ws.toArray[j] := Array.getElem?_eq_getElem h2
    exact eqsAt_same (A := A.in1) (by simp only [Around.in1_units]; unfold cLine; omega) r1 r2 j (by simpa using k1) (by simpa using k2)
  · have : ((List.range vs.toArray.size).all fun _ => true) = true := by simp
    rw [this]; exact mk_bool
theorem cmp_ne_same {ds : List D} (hd : deps ds ≤ 20) (a b : Value) : Does C n (fun k => (dat (.list ds)).p k a ∧ (dat (.list ds)).p k b) (compareOp .NotEq a b) (dat (.bool false)).p := fun A s E Y hA hs hY ⟨ha, hb⟩ => by
  obtain ⟨a, vs, rfl, ya, l1, r1⟩ := rep_list ha
  obtain ⟨b, ws, rfl, yb, l2, r2⟩ := rep_list hb
  have hz : vs.length = ws.length := by rw [r1.length, r2.length]
  have hu := hA.units
  refine cmp_ofNotEq (RcNeAt.lists (e := fun _ => true) l1.isList l2.isList (by simp [hz]) hA.cline (fun j h1 h2 => ?_) _ _ _ _ ⟨hs, .refl _, ?_⟩)
  · have k1 : vs.toArray[j]? = some vs.toArray[j] := Array.getElem?_eq_getElem h1
    have k2 : ws.toArray[j]? = some ws.toArray[j] := Array.getElem?_eq_getElem h2
    exact eqsAt_same (A := A.in1) (by simp only [Around.in1_units]; unfold cLine; omega) r1 r2 j (by simpa using k1) (by simpa using k2)
  · have : (!((List.range vs.toArray.size).all fun _ => true)) = false := by simp
    rw [this]; exact mk_bool
noncomputable def strV (y : Value) (x : Str) : Bool := match y with | .str z _ => z == x | _ => false
theorem op_in {x : Str} {l : List Str} (a b : Value) : Does C n (fun k => (dat (.str x)).p k a ∧ (dat (.list (l.map .str))).p k b) (compareOp .In a b) (dat (.bool (l.contains x))).p := fun A s E Y hA hs hY ⟨ha, hb⟩ => by
  obtain ⟨t, rfl⟩ := rep_str ha
  obtain ⟨b, ws, rfl, yb, l2, r2⟩ := rep_list hb
  have key : ∀ (l : List Str) (ws : List Value), Reps ⟨s.heap, Y⟩ (l.map .str) ws → (∀ y, y ∈ ws → EqAt A.in1 s y (.str x t) (strV y x)) ∧ ws.any (strV · x) = l.contains x := by
    intro l
    induction l with
    | nil => intro ws r; rw [List.map_nil, Reps] at r; subst r; exact ⟨fun _ h => (by cases h), rfl⟩
    | cons z l ih =>
      intro ws r
      rw [List.map_cons, Reps] at r
      obtain ⟨v, ws, rfl, r1, r2⟩ := r
      obtain ⟨u, rfl⟩ := rep_str (h := ⟨s.heap, Y⟩) r1
      obtain ⟨h1, h2⟩ := ih ws r2
      refine ⟨fun y hy => ?_, ?_⟩
      · rcases List.mem_cons.mp hy with rfl | hy
        · exact EqAt.str_str z u x t
        · exact h1 y hy
      · rw [List.any_cons, h2, List.contains_cons]
        congr 1
        show (z == x) = (x == z)
        exact Bool.eq_iff_iff.mpr ⟨fun h => by simpa using (eq_of_beq h).symm, fun h => by simpa using (eq_of_beq h).symm⟩
  obtain ⟨h1, h2⟩ := key l ws r2
  refine in_listAt (strV · x) l2.isList (fun y hy => h1 y (by simpa using hy)) ⟨hs, .refl _, ?_⟩
  have : ws.toArray.any (strV · x) = l.contains x := by rw [← h2]; simp
  rw [this]; exact mk_bool
end
end
section
variable {C : Cx} {n : Nat} {f : FS}
theorem op_mul {x y : Int} (hx : 0 ≤ x ∧ x ≤ 1000000) (hy : 0 ≤ y ∧ y ≤ 1000000) (a b : Value) : Does C n (fun h => (dat (.int x)).p h a ∧ (dat (.int y)).p h b) (binaryOp .Mult a b) (dat (.int (x * y))).p := fun A s E Y hA hs hY ⟨ha, hb⟩ => by
  obtain ⟨t, rfl⟩ := rep_int ha; obtain ⟨u, rfl⟩ := rep_int hb
  exact PyProof.Rows.mul_int ⟨hs.tok _, .refl _, mk_int⟩ (by mul_fits)
theorem op_div {x y : Int} (hy : 0 < y ∧ y < 1000000) (a b : Value) : Does C n (fun h => (dat (.int x)).p h a ∧ (dat (.int y)).p h b) (binaryOp .FloorDiv a b) (dat (.int (x.fdiv y))).p := fun A s E Y hA hs hY ⟨ha, hb⟩ => by
  obtain ⟨t, rfl⟩ := rep_int ha; obtain ⟨u, rfl⟩ := rep_int hb
  exact PyProof.Rows.floordiv_int (by omega) ⟨hs.tok _, .refl _, mk_int⟩ (.inl (PyProof.noPylong_small (by omega)))
theorem op_pow2 {x : Int} (hx : 0 ≤ x ∧ x ≤ 1000) (a b : Value) : Does C n (fun h => (dat (.int 2)).p h a ∧ (dat (.int x)).p h b) (binaryOp .Pow a b) (dat (.int (2 ^ x.toNat))).p := fun A s E Y hA hs hY ⟨ha, hb⟩ => by
  obtain ⟨t, rfl⟩ := rep_int ha; obtain ⟨u, rfl⟩ := rep_int hb
  refine PyProof.Rows.pow_int hx.1 ?_ ⟨hs.tok _, .refl _, mk_int⟩
  have : (Builtin.Int.intBits 2 : Int) = 2 := by decide +kernel
  rw [this]; omega
theorem Ev.neg {e : Expr} {pos : Pos} {x : Int} (he : Ev C n f e (dat (.int x))) : Ev C n f (.UnaryOp .USub e pos) (dat (.int (-x))) := fun A s E Y hA hs hY hp => by
  refine wpAny_UnaryOp (wpAny_mono (he A s E Y hA hs hY hp) (fun v s1 ⟨h1, h2, h3⟩ => ?_) fun _ _ e => e)
  obtain ⟨t, rfl⟩ := rep_int h3
  exact PyProof.Rows.neg_int ⟨h1.tok _, h2, mk_int⟩
theorem Ev.here {e : Expr} {R : VP} (he : Ev C n f e (VP.at f.b R)) : Ev C n f e R := fun A s E Y hA hs hY hp =>
  wpAny_mono (he A s E Y hA hs hY hp) (fun v s1 ⟨h1, h2, h3⟩ => ⟨h1, h2, R.ext (hp.ext.trans h2) h3.2⟩) fun _ _ e => e
theorem Ts.isNone {e : Expr} {p p2 : Pos} {k : Nat} {R : VP} {c : Bool} (he : Ev C n f e R) (hc : ∀ k v, R.p k v → (v == Value.none) = c) : Ts C n f (.Compare e [.Is] [.Constant .none k p] p2) c := fun A s E Y hA hs hY hp =>
  wpAny_isTrue_Compare1 (wpAny_mono (he A s E Y hA hs hY hp) (fun a s1 ⟨h1, h2, h3⟩ => wpAny_Constant_none (is_none (wpAny_truthy_bool ⟨h1, h2, hc _ _ h3⟩))) fun _ _ e => e) rfl
theorem Tr.while {ι : Type} {test : Expr} {body : List Stmt} {p : Pos} {Q : Flow → Vw → Prop} (μ : ι → Nat) (ρ : ι → List (Str × VP)) (c : ι → Bool)
    (ht : ∀ i, Ts C n { f with ρ := ρ i } test (c i))
    (hb : ∀ i, c i = true → Tr C n (({ f with ρ := ρ i } : FS).W C) (execs body f.env) (fun fl k => fl = .next ∧ ∃ j, μ j < μ i ∧ ({ f with ρ := ρ j } : FS).W C k))
    (hQ : ∀ i k, c i = false → ({ f with ρ := ρ i } : FS).W C k → Q .next k) (i₀ : ι) : Tr C n (({ f with ρ := ρ i₀ } : FS).W C) (exec (.While test body [] p) f.env) Q := fun A s E Y hA hs hY hp => by
  refine wpAny_While (codeAny_whileLoop (fun m s' => ∃ i, μ i = m ∧ St C s' ∧ Ok Y s'.heap ∧ ({ f with ρ := ρ i } : FS).W C ⟨s'.heap, Y⟩) ?_ (μ i₀) ⟨i₀, rfl, hs, hY, hp⟩)
  rintro m s' ⟨i, rfl, h1, h2, h3⟩
  refine wpAny_mono (ht i A s' _ Y hA h1 h2 h3.toH) (fun b s2 ⟨g1, g2, g3⟩ => ?_) fun _ _ e => e
  subst g3
  cases hc : c i with
  | true =>
    rw [if_pos rfl]
    refine wpAny_mono (hb i hc A s2 _ Y hA g1 (h2.ext g2) (h3.up g2)) (fun fl s3 ⟨k1, k2, k3, j, k4, k5⟩ => ?_) fun _ _ e => e
    subst k3
    exact ⟨μ j, k4, j, rfl, k1, k2, k5⟩
  | false =>
    rw [if_neg Bool.false_ne_true]
    exact wpAny_execs_nil ⟨g1, h2.ext g2, hQ i _ hc (h3.up g2)⟩
noncomputable def keyV (C : Cx) (m : Nat) (ks : List D) : VP where
  p := fun k v => ∃ fa kvs o fd, v = .ref fa ∧ k.h.get? fa = some o ∧ o.data = .func fd ∧ Reps k ks kvs ∧ ∀ A s E (i : Nat) t, Room m A → St C s → Ext k.h s.heap → i < ks.length →
    wpAny C.M A (call (.ref fa) [.int i t]) (fun r s' => St C s' ∧ Ext s.heap s'.heap ∧ kvs[i]? = some r) E s
  ext := fun x ⟨fa, kvs, o, fd, e, h1, h2, h3, h4⟩ => ⟨fa, kvs, o, fd, e, x.keep h1 (tab_data fun vs q => by rw [h2] at q; cases q), h2, h3.keepers (x.keepers _), fun A s E i t hA hs hx hi => h4 A s E i t hA hs (x.trans hx) hi⟩
  ref := fun x ⟨fa, kvs, o, fd, e, h1, h2, h3, h4⟩ => ⟨fa, kvs, o, fd, e, h1, h2, h3.keepers (ref_keepers x), h4⟩
theorem Ev.callKey {kn : Str} {p pos : Pos} {e : Expr} {m : Nat} {ks : List D} {i : Nat} {d : D} (hk : Ev C n f (.Name kn p) (keyV C m ks)) (he : Ev C n f e (dat (.int i))) (hm : m ≤ n) (hi : ks[i]? = some d)
    (hst : ∀ env, starEach [e] env = (false, eval e env) :: starEach [] env := by intro _; rfl) : Ev C n f (.Call (.Name kn p) [e] [] pos) (dat d) := fun A s E Y hA hs hY hp => by
  refine Call_ (wpAny_mono (hk A s E Y hA hs hY hp) (fun v s1 ⟨h1, h2, h3⟩ => ?_) fun _ _ e => e)
  obtain ⟨fa, kvs, o, fd, rfl, g1, g2, g3, g4⟩ := h3
  refine callWith_def g2 (wpAny_items_cons (wpAny_mono (he A s1 E Y hA h1 (hY.ext h2) (hp.up h2)) (fun v s2 ⟨k1, k2, k3⟩ => wpAny_items_nil ⟨?_, ?_⟩) fun _ _ e => e) (hst _)) (hst _)
  · exact k2.keep g1 (tab_data fun vs q => by rw [g2] at q; cases q)
  · obtain ⟨t, rfl⟩ := rep_int k3
    have hlt : i < ks.length := (List.getElem?_eq_some_iff.mp hi).1
    refine wpAny_mono (g4 A s2 E i t (hA.le hm) k1 k2 hlt) (fun r s3 ⟨q1, q2, q3⟩ => ⟨q1, (h2.trans k2).trans q2, ?_⟩) fun _ _ e => e
    obtain ⟨v, hv, hr⟩ := (g3.keepers ((k2.trans q2).keepers _)).get hi
    rw [hv] at q3
    cases q3
    exact hr
noncomputable def bis (p : Nat → Bool) (lo hi : Nat) : Nat :=
  if h : lo < hi then (if p ((lo + hi) / 2) then bis p ((lo + hi) / 2 + 1) hi else bis p lo ((lo + hi) / 2)) else lo
termination_by hi - lo
theorem fdiv2 (lo hi : Nat) : ((lo : Int) + hi).fdiv 2 = (((lo + hi) / 2 : Nat) : Int) := by
  rw [Int.fdiv_eq_ediv_of_nonneg _ (by decide)]
  omega
theorem Ev.eq {e : Expr} {d d' : D} (he : Ev C n f e (dat d)) (h : d = d') : Ev C n f e (dat d') := h ▸ he
theorem Ts.eq {e : Expr} {c c' : Bool} (he : Ts C n f e c) (h : c = c') : Ts C n f e c' := h ▸ he
theorem Tr.skipIf {t : Expr} {x rest : List Stmt} {p : Pos} {Q : Flow → Vw → Prop} (ht : Ts C n f t false) (h : Tr C n (f.W C) (execs rest f.env) Q) : Tr C n (f.W C) (execs (.If t x [] p :: rest) f.env) Q :=
  Tr.cons (P' := f.W C) (Tr.ite ht (fun e => by cases e) fun _ => Tr.nil fun _ h => h) h
theorem Tr.ifS {t : Expr} {x y rest : List Stmt} {p : Pos} {Q : Flow → Vw → Prop} {c : Bool} (P' : Vw → Prop) (ht : Ts C n f t c) (h1 : c = true → Tr C n (f.W C) (execs x f.env) (fun fl k => match fl with | .next => P' k | fl => Q fl k))
    (h2 : c = false → Tr C n (f.W C) (execs y f.env) (fun fl k => match fl with | .next => P' k | fl => Q fl k)) (h : Tr C n P' (execs rest f.env) Q) : Tr C n (f.W C) (execs (.If t x y p :: rest) f.env) Q :=
  Tr.cons (P' := P') (Tr.ite ht h1 h2) h
theorem Tr.assignS {x : Str} {p1 p2 : Pos} {e : Expr} {rest : List Stmt} {R : VP} {Q : Flow → Vw → Prop} (he : Ev C n f e R) (hx : f.sc.names.lookup x = some .local ∨ f.sc.names.lookup x = some .cell) (hst : R.Stab)
    (hsw : swapsWith e (some (.Name x p1)) p2.line f.env = pure false) (h : Tr C n ((f.put x R).W C) (execs rest f.env) Q) : Tr C n (f.W C) (execs (.Assign [.Name x p1] e p2 :: rest) f.env) Q :=
  Tr.cons (P' := (f.put x R).W C) (Tr.assign he hx hst (fun _ h => h) hsw) h
theorem Tr.retS {e : Expr} {p : Pos} {rest : List Stmt} {R : VP} {Q : Flow → Vw → Prop} (he : Ev C n f e R) (hQ : ∀ k v, f.H k → R.p k v → Q (.ret v) k) : Tr C n (f.W C) (execs (.Return (some e) p :: rest) f.env) Q :=
  Tr.cons (P' := fun _ => False) (Tr.ret he hQ) fun A s E Y hA hs hY p => p.elim
theorem Tr.exprEnd {Q : Flow → Vw → Prop} {P : Vw → Prop} {st : Stmt} (h : Tr C n P (exec st f.env) Q) : Tr C n P (execs [st] f.env) Q := fun A s E Y hA hs hY p =>
  wpAny_execs_cons (wpAny_mono (h A s E Y hA hs hY p) (fun fl s' ⟨a, b, c⟩ => by
    cases fl with
    | next => exact wpAny_execs_nil ⟨a, b, c⟩
    | brk => exact ⟨a, b, c⟩
    | cont => exact ⟨a, b, c⟩
    | ret v => exact ⟨a, b, c⟩) fun _ _ e => e)
theorem FS.W.sub {k : Vw} {ρ' : List (Str × VP)} (w : f.W C k) (h : ∀ q ∈ ρ', f.ρ.lookup q.1 = some q.2 ∨ (f.ρ.lookup q.1 = some (VP.at f.b q.2) ∧ q.2.Stab)) : ({ f with ρ := ρ' } : FS).W C k := by
  have h' : ∀ x R, ρ'.lookup x = some R → f.ρ.lookup x = some R ∨ (f.ρ.lookup x = some (VP.at f.b R) ∧ R.Stab) := fun x R e => h (x, R) (by
    clear h
    induction ρ' with
    | nil => cases e
    | cons q r ih =>
      obtain ⟨y, R'⟩ := q
      rw [List.lookup_cons] at e
      cases hy : x == y with
      | true => simp only [hy] at e; cases e; rw [show x = y by simpa using hy]; exact List.mem_cons_self
      | false => simp only [hy] at e; exact List.mem_cons_of_mem _ (ih e))
  refine ⟨⟨w.toH.ext, w.toH.sc, w.toH.kind, w.toH.glob, w.toH.bi, fun x R e => ?_, w.toH.more⟩, w.root, w.ns, w.low, w.cell, w.has, w.apart, fun x R e => ?_, w.fstab⟩
  · rcases h' x R e with h1 | ⟨h1, _⟩
    · exact w.toH.vars x R h1
    · obtain ⟨v, a, b⟩ := w.toH.vars x _ h1
      exact ⟨v, a, R.ext w.toH.ext b.2⟩
  · rcases h' x R e with h1 | ⟨_, h1⟩
    · exact w.stab x R h1
    · exact h1
theorem Ev.itemN {v i : Expr} {pos : Pos} {ds : List D} {k : Nat} {d : D} (hv : Ev C n f v (dat (.list ds))) (hi : Ev C n f i (dat (.int k))) (hk : ds[k]? = some d) (hl : ds.length ≤ 1000000)
    (hsub : ∀ a u, subscripted i false (.ref a) (.int k u) = operate [.ref a, .int k u] (getItem (.ref a) (.int k u)) := by intro _ _; with_unfolding_all rfl)
    (hgo : ∀ a r, letTemporaryGo v (.ref a) r = pure () := by intro _ _; with_unfolding_all rfl) : Ev C n f (.Subscript v i pos) (dat d) :=
  Ev.item hv hi (by omega) (by simpa using hk) hl hsub hgo
noncomputable abbrev nats (as : List Nat) : D := .list (as.map fun (i : Nat) => D.int i)
theorem nats_get {as : List Nat} {i a : Nat} (h : as[i]? = some a) : (as.map fun (i : Nat) => D.int i)[i]? = some (D.int a) := by simp [h]
end
local macro_rules | `(tactic| walk_at "nm") => `(tactic| exact Ev.name (by rfl) (by rfl))
local macro_rules | `(tactic| walk_at "sub") => `(tactic| (repeat' (first | exact List.forall_mem_nil _ | refine List.forall_mem_cons.mpr ⟨?_, ?_⟩)) <;> (first | exact .inl rfl | exact .inr ⟨rfl, dat_stab _⟩))
theorem bn_len : bootBuiltins (Str.ofString "len") = some (.builtin "len") := by kernel_rfl
theorem bn_range : bootBuiltins (Str.ofString "range") = some (.type "range") := by kernel_rfl
theorem bn_sum : bootBuiltins (Str.ofString "sum") = some (.builtin "sum") := by kernel_rfl
theorem bn_list : bootBuiltins (Str.ofString "list") = some (.type "list") := by kernel_rfl
theorem bn_chr : bootBuiltins (Str.ofString "chr") = some (.builtin "chr") := by kernel_rfl
theorem bn_type : bootBuiltins (Str.ofString "type") = some (.type "type") := by kernel_rfl
theorem bn_str : bootBuiltins (Str.ofString "str") = some (.type "str") := by kernel_rfl
theorem bn_min : bootBuiltins (Str.ofString "min") = some (.builtin "min") := by kernel_rfl
theorem bn_set : bootBuiltins (Str.ofString "set") = some (.type "set") := by kernel_rfl
theorem bn_iter : bootBuiltins (Str.ofString "iter") = some (.builtin "iter") := by kernel_rfl
theorem bn_next : bootBuiltins (Str.ofString "next") = some (.builtin "next") := by kernel_rfl
theorem bn_bool : bootBuiltins (Str.ofString "bool") = some (.type "bool") := by kernel_rfl
section
variable {C : Cx} {n : Nat}
theorem Ev.bi {f : FS} (k : Kx C) {x : Str} {pos : Pos} {v : Value} (hb : bootBuiltins x = some v) (hx : f.sc.names.lookup x = some .globalImplicit) (hm : nsIn (Kf C.w.params) mainGlobals x = some none) (hn : x ≠ "__name__") (hd : (x == ("__debug__" : Str)) = false) : Ev C n f (.Name x pos) (isV v) :=
  Ev.builtin k.toBg hx (mg_none k hm) hb hn hd
theorem Ev.gl {f : FS} (k : Kx C) {x : Str} {pos : Pos} {v : Value} (hx : f.sc.names.lookup x = some .globalImplicit) (hm : nsIn (Kf C.w.params) mainGlobals x = some (some v)) (hd : (x == ("__debug__" : Str)) = false) : Ev C n f (.Name x pos) (isV v) :=
  Ev.global k.toBg hx (mg_some k hm) hd
noncomputable abbrev ff (C : Cx) (fa : Addr) (b : Heap) (L : Nat) (ρ : List (Str × VP)) (F : HP) : FS := ⟨b, fenv (fdOf C.w.params fa) fa L, (fdOf C.w.params fa).scope, ρ, F⟩
theorem br_key (k : Kx C) {b : Heap} {L : Nat} {F : HP} {as : List Nat} {ks : List D} {X : List D} (p : Nat → Bool) {m : Nat} (hm : m ≤ n)
    (hp : ∀ i a, as[i]? = some a → ∃ kd, ks[a]? = some (.list kd) ∧ klt X kd = some (!(p i))) (hl : as.length ≤ 1000) (lo : Nat) (hlo : lo ≤ as.length) :
    Tr C n ((ff C 111 b L [(Str.ofString "a", VP.at b (dat (nats as))), (Str.ofString "x", VP.at b (dat (.list X))), (Str.ofString "lo", VP.at b (dat (.int lo))), (Str.ofString "hi", VP.at b (dat .none)), (Str.ofString "key", VP.at b (keyV C m ks))] F).W C)
      (execs (bodyOf C.w.params 111) (fenv (fdOf C.w.params 111) 111 L)) (fun fl k => Ext b k.h ∧ ∃ v, fl = .ret v ∧ (dat (.int (bis p lo as.length))).p k v) := by
  conv in (bodyOf _ _) => whnf
  refine Tr.skipIf (f := ff C 111 b L _ F) ?_ ?_
  · exact (Ts.cmp (Ev.here (by walk_at "nm")) Ev.int cmp_lt rfl).eq (by simp)
  refine Tr.ifS (f := ff C 111 b L _ F) (c := true) (fun k => (ff C 111 b L [(Str.ofString "a", VP.at b (dat (nats as))), (Str.ofString "x", VP.at b (dat (.list X))), (Str.ofString "lo", dat (.int lo)), (Str.ofString "hi", dat (.int as.length)), (Str.ofString "key", VP.at b (keyV C m ks))] F).W C k) ?_ ?_ ?_ ?_
  · exact Ts.isNone (Ev.here (R := dat .none) (by walk_at "nm")) fun k v e => by rw [rep_none e]; rfl
  · intro _
    refine Tr.exprEnd (Tr.assign (f := ff C 111 b L _ F) (R := dat (.int as.length)) ?_ (.inl rfl) (dat_stab _) (fun k w => w.sub (by walk_at "sub")) rfl)
    refine (Ev.callB (Ev.bi k bn_len rfl rfl (by decide) rfl) (Evl.cons (R := dat (nats as)) (Ev.here (by walk_at "nm")) .nil) (call1 (do_len (by simp; omega)))).eq (by simp)
  · intro e; cases e
  refine Tr.ifS (f := ff C 111 b L _ F) (c := false) (fun k => ∃ r : Nat, r = bis p lo as.length ∧ (ff C 111 b L [(Str.ofString "lo", dat (.int r))] F).W C k) ?_ ?_ ?_ ?_
  · exact Ts.isNone (Ev.here (R := keyV C m ks) (by walk_at "nm")) fun k v e => by obtain ⟨fa, _, _, _, rfl, _⟩ := e; rfl
  · intro e; cases e
  · intro _
    refine Tr.exprEnd ?_
    refine Tr.pre (Tr.while (f := ff C 111 b L [] F) (ι := { q : Nat × Nat // q.1 ≤ q.2 ∧ q.2 ≤ as.length ∧ bis p q.1 q.2 = bis p lo as.length }) (fun q => q.1.2 - q.1.1)
      (fun q => [(Str.ofString "a", VP.at b (dat (nats as))), (Str.ofString "x", VP.at b (dat (.list X))), (Str.ofString "lo", dat (.int q.1.1)), (Str.ofString "hi", dat (.int q.1.2)), (Str.ofString "key", VP.at b (keyV C m ks))]) (fun q => decide (q.1.1 < q.1.2)) ?_ ?_ ?_ ⟨(lo, as.length), hlo, Nat.le_refl _, rfl⟩) ?_
    · rintro ⟨⟨lo, hi⟩, h1, h2, h3⟩
      exact (Ts.cmp (by walk_at "nm") (by walk_at "nm") cmp_lt rfl).eq (by simp)
    · rintro ⟨⟨lo', hi'⟩, h1, h2, h3⟩ hc
      have hc' : lo' < hi' := by simpa using hc
      dsimp only at h1 h2 h3
      have hmid : (lo' + hi') / 2 < as.length := by omega
      obtain ⟨kd, hk1, hk2⟩ := hp ((lo' + hi') / 2) as[(lo' + hi') / 2] (List.getElem?_eq_getElem hmid)
      refine Tr.assignS (f := ff C 111 b L _ F) (R := dat (.int (((lo' + hi') / 2 : Nat) : Int))) ?_ (.inl rfl) (dat_stab _) rfl ?_
      · exact (Ev.bin (Ev.bin (by walk_at "nm") (by walk_at "nm") op_add) Ev.int (op_div (by decide))).eq (by rw [fdiv2])
      refine Tr.exprEnd (Tr.ite (f := ff C 111 b L _ F) (c := !(p ((lo' + hi') / 2))) ?_ ?_ ?_)
      · exact Ts.cmp (R2 := dat (.list kd)) (Ev.here (by walk_at "nm")) (Ev.callKey (ks := ks) (m := m) (i := as[(lo' + hi') / 2]) (Ev.here (by walk_at "nm")) (Ev.itemN (ds := as.map fun (i : Nat) => D.int i) (Ev.here (by walk_at "nm")) (by walk_at "nm") (nats_get (List.getElem?_eq_getElem hmid)) (by simp; omega)) hm hk1) (cmp_ltl hk2) rfl
      · intro hb
        refine Tr.exprEnd (Tr.assign (f := ff C 111 b L _ F) (by walk_at "nm") (.inl rfl) (dat_stab _) (fun k w => ⟨rfl, ⟨(lo', (lo' + hi') / 2), by dsimp only; omega, by dsimp only; omega, ?_⟩, ?_, w.sub (by walk_at "sub")⟩) rfl)
        · rw [← h3]
          conv => rhs; unfold bis
          rw [dif_pos hc', if_neg (by simpa using hb)]
        · dsimp only; omega
      · intro hb
        refine Tr.exprEnd (Tr.assign (f := ff C 111 b L _ F) (R := dat (.int (((lo' + hi') / 2 + 1 : Nat) : Int))) ((Ev.bin (by walk_at "nm") Ev.int op_add).eq (by simp)) (.inl rfl) (dat_stab _) (fun k w => ⟨rfl, ⟨((lo' + hi') / 2 + 1, hi'), by dsimp only; omega, by dsimp only; omega, ?_⟩, ?_, w.sub (by walk_at "sub")⟩) rfl)
        · rw [← h3]
          conv => rhs; unfold bis
          rw [dif_pos hc', if_pos (by simpa using hb)]
        · dsimp only; omega
    · rintro ⟨⟨lo', hi'⟩, h1, h2, h3⟩ k hc w
      refine ⟨lo', ?_, w.sub (by walk_at "sub")⟩
      rw [← h3]
      unfold bis
      rw [dif_neg (by simpa using hc)]
    · intro k w
      exact w.sub (by walk_at "sub")
  · refine Tr.pre (P := fun k => (ff C 111 b L [(Str.ofString "lo", dat (.int (bis p lo as.length : Nat)))] F).W C k) ?_ (fun k ⟨r, e, w⟩ => e ▸ w)
    exact Tr.retS (f := ff C 111 b L _ F) (by walk_at "nm") fun k v h1 h2 => ⟨h1.ext, v, rfl, h2⟩
theorem bl_key (k : Kx C) {b : Heap} {L : Nat} {F : HP} {as : List Nat} {ks : List D} {X : List D} (p : Nat → Bool) {m : Nat} (hm : m ≤ n)
    (hp : ∀ i a, as[i]? = some a → ∃ kd, ks[a]? = some (.list kd) ∧ klt kd X = some (p i)) (hl : as.length ≤ 1000) (lo : Nat) (hlo : lo ≤ as.length) :
    Tr C n ((ff C 129 b L [(Str.ofString "a", VP.at b (dat (nats as))), (Str.ofString "x", VP.at b (dat (.list X))), (Str.ofString "lo", VP.at b (dat (.int lo))), (Str.ofString "hi", VP.at b (dat .none)), (Str.ofString "key", VP.at b (keyV C m ks))] F).W C)
      (execs (bodyOf C.w.params 129) (fenv (fdOf C.w.params 129) 129 L)) (fun fl k => Ext b k.h ∧ ∃ v, fl = .ret v ∧ (dat (.int (bis p lo as.length))).p k v) := by
  conv in (bodyOf _ _) => whnf
  refine Tr.skipIf (f := ff C 129 b L _ F) ?_ ?_
  · exact (Ts.cmp (Ev.here (by walk_at "nm")) Ev.int cmp_lt rfl).eq (by simp)
  refine Tr.ifS (f := ff C 129 b L _ F) (c := true) (fun k => (ff C 129 b L [(Str.ofString "a", VP.at b (dat (nats as))), (Str.ofString "x", VP.at b (dat (.list X))), (Str.ofString "lo", dat (.int lo)), (Str.ofString "hi", dat (.int as.length)), (Str.ofString "key", VP.at b (keyV C m ks))] F).W C k) ?_ ?_ ?_ ?_
  · exact Ts.isNone (Ev.here (R := dat .none) (by walk_at "nm")) fun k v e => by rw [rep_none e]; rfl
  · intro _
    refine Tr.exprEnd (Tr.assign (f := ff C 129 b L _ F) (R := dat (.int as.length)) ?_ (.inl rfl) (dat_stab _) (fun k w => w.sub (by walk_at "sub")) rfl)
    refine (Ev.callB (Ev.bi k bn_len rfl rfl (by decide) rfl) (Evl.cons (R := dat (nats as)) (Ev.here (by walk_at "nm")) .nil) (call1 (do_len (by simp; omega)))).eq (by simp)
  · intro e; cases e
  refine Tr.ifS (f := ff C 129 b L _ F) (c := false) (fun k => ∃ r : Nat, r = bis p lo as.length ∧ (ff C 129 b L [(Str.ofString "lo", dat (.int r))] F).W C k) ?_ ?_ ?_ ?_
  · exact Ts.isNone (Ev.here (R := keyV C m ks) (by walk_at "nm")) fun k v e => by obtain ⟨fa, _, _, _, rfl, _⟩ := e; rfl
  · intro e; cases e
  · intro _
    refine Tr.exprEnd ?_
    refine Tr.pre (Tr.while (f := ff C 129 b L [] F) (ι := { q : Nat × Nat // q.1 ≤ q.2 ∧ q.2 ≤ as.length ∧ bis p q.1 q.2 = bis p lo as.length }) (fun q => q.1.2 - q.1.1)
      (fun q => [(Str.ofString "a", VP.at b (dat (nats as))), (Str.ofString "x", VP.at b (dat (.list X))), (Str.ofString "lo", dat (.int q.1.1)), (Str.ofString "hi", dat (.int q.1.2)), (Str.ofString "key", VP.at b (keyV C m ks))]) (fun q => decide (q.1.1 < q.1.2)) ?_ ?_ ?_ ⟨(lo, as.length), hlo, Nat.le_refl _, rfl⟩) ?_
    · rintro ⟨⟨lo, hi⟩, h1, h2, h3⟩
      exact (Ts.cmp (by walk_at "nm") (by walk_at "nm") cmp_lt rfl).eq (by simp)
    · rintro ⟨⟨lo', hi'⟩, h1, h2, h3⟩ hc
      have hc' : lo' < hi' := by simpa using hc
      dsimp only at h1 h2 h3
      have hmid : (lo' + hi') / 2 < as.length := by omega
      obtain ⟨kd, hk1, hk2⟩ := hp ((lo' + hi') / 2) as[(lo' + hi') / 2] (List.getElem?_eq_getElem hmid)
      refine Tr.assignS (f := ff C 129 b L _ F) (R := dat (.int (((lo' + hi') / 2 : Nat) : Int))) ?_ (.inl rfl) (dat_stab _) rfl ?_
      · exact (Ev.bin (Ev.bin (by walk_at "nm") (by walk_at "nm") op_add) Ev.int (op_div (by decide))).eq (by rw [fdiv2])
      refine Tr.exprEnd (Tr.ite (f := ff C 129 b L _ F) (c := p ((lo' + hi') / 2)) ?_ ?_ ?_)
      · exact Ts.cmp (R1 := dat (.list kd)) (Ev.callKey (ks := ks) (m := m) (i := as[(lo' + hi') / 2]) (Ev.here (by walk_at "nm")) (Ev.itemN (ds := as.map fun (i : Nat) => D.int i) (Ev.here (by walk_at "nm")) (by walk_at "nm") (nats_get (List.getElem?_eq_getElem hmid)) (by simp; omega)) hm hk1) (Ev.here (by walk_at "nm")) (cmp_ltl hk2) rfl
      · intro hb
        refine Tr.exprEnd (Tr.assign (f := ff C 129 b L _ F) (R := dat (.int (((lo' + hi') / 2 + 1 : Nat) : Int))) ((Ev.bin (by walk_at "nm") Ev.int op_add).eq (by simp)) (.inl rfl) (dat_stab _) (fun k w => ⟨rfl, ⟨((lo' + hi') / 2 + 1, hi'), by dsimp only; omega, by dsimp only; omega, ?_⟩, ?_, w.sub (by walk_at "sub")⟩) rfl)
        · rw [← h3]
          conv => rhs; unfold bis
          rw [dif_pos hc', if_pos (by simpa using hb)]
        · dsimp only; omega
      · intro hb
        refine Tr.exprEnd (Tr.assign (f := ff C 129 b L _ F) (by walk_at "nm") (.inl rfl) (dat_stab _) (fun k w => ⟨rfl, ⟨(lo', (lo' + hi') / 2), by dsimp only; omega, by dsimp only; omega, ?_⟩, ?_, w.sub (by walk_at "sub")⟩) rfl)
        · rw [← h3]
          conv => rhs; unfold bis
          rw [dif_pos hc', if_neg (by simpa using hb)]
        · dsimp only; omega
    · rintro ⟨⟨lo', hi'⟩, h1, h2, h3⟩ k hc w
      refine ⟨lo', ?_, w.sub (by walk_at "sub")⟩
      rw [← h3]
      unfold bis
      rw [dif_neg (by simpa using hc)]
    · intro k w
      exact w.sub (by walk_at "sub")
  · refine Tr.pre (P := fun k => (ff C 129 b L [(Str.ofString "lo", dat (.int (bis p lo as.length : Nat)))] F).W C k) ?_ (fun k ⟨r, e, w⟩ => e ▸ w)
    exact Tr.retS (f := ff C 129 b L _ F) (by walk_at "nm") fun k v h1 h2 => ⟨h1.ext, v, rfl, h2⟩
theorem br_none (k : Kx C) {b : Heap} {L : Nat} {F : HP} {as : List Nat} {X : Int} (p : Nat → Bool) 
    (hp : ∀ (i a : Nat), as[i]? = some a → decide (X < (a : Int)) = !(p i)) (hl : as.length ≤ 1000) (lo : Nat) (hlo : lo ≤ as.length) :
    Tr C n ((ff C 111 b L [(Str.ofString "a", VP.at b (dat (nats as))), (Str.ofString "x", VP.at b (dat (.int X))), (Str.ofString "lo", VP.at b (dat (.int lo))), (Str.ofString "hi", VP.at b (dat .none)), (Str.ofString "key", VP.at b (dat .none))] F).W C)
      (execs (bodyOf C.w.params 111) (fenv (fdOf C.w.params 111) 111 L)) (fun fl k => Ext b k.h ∧ ∃ v, fl = .ret v ∧ (dat (.int (bis p lo as.length))).p k v) := by
  conv in (bodyOf _ _) => whnf
  refine Tr.skipIf (f := ff C 111 b L _ F) ?_ ?_
  · exact (Ts.cmp (Ev.here (by walk_at "nm")) Ev.int cmp_lt rfl).eq (by simp)
  refine Tr.ifS (f := ff C 111 b L _ F) (c := true) (fun k => (ff C 111 b L [(Str.ofString "a", VP.at b (dat (nats as))), (Str.ofString "x", VP.at b (dat (.int X))), (Str.ofString "lo", dat (.int lo)), (Str.ofString "hi", dat (.int as.length)), (Str.ofString "key", VP.at b (dat .none))] F).W C k) ?_ ?_ ?_ ?_
  · exact Ts.isNone (Ev.here (R := dat .none) (by walk_at "nm")) fun k v e => by rw [rep_none e]; rfl
  · intro _
    refine Tr.exprEnd (Tr.assign (f := ff C 111 b L _ F) (R := dat (.int as.length)) ?_ (.inl rfl) (dat_stab _) (fun k w => w.sub (by walk_at "sub")) rfl)
    refine (Ev.callB (Ev.bi k bn_len rfl rfl (by decide) rfl) (Evl.cons (R := dat (nats as)) (Ev.here (by walk_at "nm")) .nil) (call1 (do_len (by simp; omega)))).eq (by simp)
  · intro e; cases e
  refine Tr.ifS (f := ff C 111 b L _ F) (c := true) (fun k => ∃ r : Nat, r = bis p lo as.length ∧ (ff C 111 b L [(Str.ofString "lo", dat (.int r))] F).W C k) ?_ ?_ ?_ ?_
  · exact Ts.isNone (Ev.here (R := dat .none) (by walk_at "nm")) fun k v e => by rw [rep_none e]; rfl
  rotate_left
  · intro e; cases e
  rotate_right
  · intro _
    refine Tr.exprEnd ?_
    refine Tr.pre (Tr.while (f := ff C 111 b L [] F) (ι := { q : Nat × Nat // q.1 ≤ q.2 ∧ q.2 ≤ as.length ∧ bis p q.1 q.2 = bis p lo as.length }) (fun q => q.1.2 - q.1.1)
      (fun q => [(Str.ofString "a", VP.at b (dat (nats as))), (Str.ofString "x", VP.at b (dat (.int X))), (Str.ofString "lo", dat (.int q.1.1)), (Str.ofString "hi", dat (.int q.1.2)), (Str.ofString "key", VP.at b (dat .none))]) (fun q => decide (q.1.1 < q.1.2)) ?_ ?_ ?_ ⟨(lo, as.length), hlo, Nat.le_refl _, rfl⟩) ?_
    · rintro ⟨⟨lo, hi⟩, h1, h2, h3⟩
      exact (Ts.cmp (by walk_at "nm") (by walk_at "nm") cmp_lt rfl).eq (by simp)
    · rintro ⟨⟨lo', hi'⟩, h1, h2, h3⟩ hc
      have hc' : lo' < hi' := by simpa using hc
      dsimp only at h1 h2 h3
      have hmid : (lo' + hi') / 2 < as.length := by omega
      have hk2 := hp ((lo' + hi') / 2) as[(lo' + hi') / 2] (List.getElem?_eq_getElem hmid)
      refine Tr.assignS (f := ff C 111 b L _ F) (R := dat (.int (((lo' + hi') / 2 : Nat) : Int))) ?_ (.inl rfl) (dat_stab _) rfl ?_
      · exact (Ev.bin (Ev.bin (by walk_at "nm") (by walk_at "nm") op_add) Ev.int (op_div (by decide))).eq (by rw [fdiv2])
      refine Tr.exprEnd (Tr.ite (f := ff C 111 b L _ F) (c := !(p ((lo' + hi') / 2))) ?_ ?_ ?_)
      · exact (Ts.cmp (Ev.here (by walk_at "nm")) (Ev.itemN (ds := as.map fun (i : Nat) => D.int i) (Ev.here (by walk_at "nm")) (by walk_at "nm") (nats_get (List.getElem?_eq_getElem hmid)) (by simp; omega)) cmp_lt rfl).eq hk2
      · intro hb
        refine Tr.exprEnd (Tr.assign (f := ff C 111 b L _ F) (by walk_at "nm") (.inl rfl) (dat_stab _) (fun k w => ⟨rfl, ⟨(lo', (lo' + hi') / 2), by dsimp only; omega, by dsimp only; omega, ?_⟩, ?_, w.sub (by walk_at "sub")⟩) rfl)
        · rw [← h3]
          conv => rhs; unfold bis
          rw [dif_pos hc', if_neg (by simpa using hb)]
        · dsimp only; omega
      · intro hb
        refine Tr.exprEnd (Tr.assign (f := ff C 111 b L _ F) (R := dat (.int (((lo' + hi') / 2 + 1 : Nat) : Int))) ((Ev.bin (by walk_at "nm") Ev.int op_add).eq (by simp)) (.inl rfl) (dat_stab _) (fun k w => ⟨rfl, ⟨((lo' + hi') / 2 + 1, hi'), by dsimp only; omega, by dsimp only; omega, ?_⟩, ?_, w.sub (by walk_at "sub")⟩) rfl)
        · rw [← h3]
          conv => rhs; unfold bis
          rw [dif_pos hc', if_pos (by simpa using hb)]
        · dsimp only; omega
    · rintro ⟨⟨lo', hi'⟩, h1, h2, h3⟩ k hc w
      refine ⟨lo', ?_, w.sub (by walk_at "sub")⟩
      rw [← h3]
      unfold bis
      rw [dif_neg (by simpa using hc)]
    · intro k w
      exact w.sub (by walk_at "sub")
  · refine Tr.pre (P := fun k => (ff C 111 b L [(Str.ofString "lo", dat (.int (bis p lo as.length : Nat)))] F).W C k) ?_ (fun k ⟨r, e, w⟩ => e ▸ w)
    exact Tr.retS (f := ff C 111 b L _ F) (by walk_at "nm") fun k v h1 h2 => ⟨h1.ext, v, rfl, h2⟩
end
theorem bindsTo_dk {s : Shared} {fd : FuncData} {args : Args} {binds : List (Str × Value)} {T dk : Addr} {o o2 : Obj} {items : Array Value} {n : Nat} {part : Option Value}
    {k : Option (Array Value) → Sem (List (Str × Value))} {k2 : Obj → Sem (List (Str × Value))} (hd : fd.defaults = .ref T) (ho : s.heap.get? T = some o) (hs : o.data = .seq items n)
    (ho2 : s.heap.get? dk = some o2)
    (h₁ : bindArgs fd args = seqItems? fd.defaults >>= k) (h₂ : k (some items) = .load dk part k2) (h₃ : k2 o2 = pure binds) : BindsTo s fd args binds :=
  fun _ _ _ _ hq => by
    rw [h₁, hd]
    refine wpAny_bind (wpAny_seqItems ho hs (h₂ ▸ ?_))
    intro Γ p hΓ
    rw [Sem.wp_load]
    refine ⟨o2, ho2, ?_⟩
    rw [h₃]
    exact hq
section
variable {C : Cx} {n : Nat}
theorem bd_br2 (k : Kx C) (s : Shared) (hs : St C s) (a x : Value) : ∃ t : Tok, Bd s (fdOf C.w.params 111) ⟨[a, x], []⟩ [(Str.ofString "a", a), (Str.ofString "x", x), (Str.ofString "lo", (.int 0 t)), (Str.ofString "hi", .none), (Str.ofString "key", .none)] := by
  have e : fdOf C.w.params 111 = fdOf C.w.params 111 := rfl
  conv at e => rhs; whnf
  have e2 := k.K 103 _ rfl
  have e3 := k.K 104 _ rfl
  rw [e]
  refine' ⟨_, ⟨bindsTo_dk (T := 103) (dk := 104) rfl (hs.ext.keep e2 rfl) rfl (hs.ext.keep e3 rfl) ?h1 ?h2 ?h3⟩⟩
  case h1 => exact rfl
  case h2 => exact rfl
  case h3 => exact rfl
theorem bd_br3k (k : Kx C) (s : Shared) (hs : St C s) (a x lo key : Value) : ∃ t : Tok, Bd s (fdOf C.w.params 111) ⟨[a, x, lo], [(Str.ofString "key", key)]⟩ [(Str.ofString "a", a), (Str.ofString "x", x), (Str.ofString "lo", lo), (Str.ofString "hi", .none), (Str.ofString "key", key)] := by
  have e : fdOf C.w.params 111 = fdOf C.w.params 111 := rfl
  conv at e => rhs; whnf
  have e2 := k.K 103 _ rfl
  rw [e]
  exact ⟨0, ⟨BindsTo.of_defaults (T := 103) rfl (hs.ext.keep e2 rfl) rfl rfl rfl⟩⟩
theorem bd_br4k (k : Kx C) (s : Shared) (hs : St C s) (a x lo hi key : Value) : ∃ t : Tok, Bd s (fdOf C.w.params 111) ⟨[a, x, lo, hi], [(Str.ofString "key", key)]⟩ [(Str.ofString "a", a), (Str.ofString "x", x), (Str.ofString "lo", lo), (Str.ofString "hi", hi), (Str.ofString "key", key)] := by
  have e : fdOf C.w.params 111 = fdOf C.w.params 111 := rfl
  conv at e => rhs; whnf
  have e2 := k.K 103 _ rfl
  rw [e]
  exact ⟨0, ⟨BindsTo.of_defaults (T := 103) rfl (hs.ext.keep e2 rfl) rfl rfl rfl⟩⟩
theorem bd_bl2k (k : Kx C) (s : Shared) (hs : St C s) (a x key : Value) : ∃ t : Tok, Bd s (fdOf C.w.params 129) ⟨[a, x], [(Str.ofString "key", key)]⟩ [(Str.ofString "a", a), (Str.ofString "x", x), (Str.ofString "lo", (.int 0 t)), (Str.ofString "hi", .none), (Str.ofString "key", key)] := by
  have e : fdOf C.w.params 129 = fdOf C.w.params 129 := rfl
  conv at e => rhs; whnf
  have e2 := k.K 121 _ rfl
  rw [e]
  exact ⟨_, ⟨BindsTo.of_defaults (T := 121) rfl (hs.ext.keep e2 rfl) rfl rfl rfl⟩⟩
theorem bd_bl4k (k : Kx C) (s : Shared) (hs : St C s) (a x lo hi key : Value) : ∃ t : Tok, Bd s (fdOf C.w.params 129) ⟨[a, x, lo, hi], [(Str.ofString "key", key)]⟩ [(Str.ofString "a", a), (Str.ofString "x", x), (Str.ofString "lo", lo), (Str.ofString "hi", hi), (Str.ofString "key", key)] := by
  have e : fdOf C.w.params 129 = fdOf C.w.params 129 := rfl
  conv at e => rhs; whnf
  have e2 := k.K 121 _ rfl
  rw [e]
  exact ⟨0, ⟨BindsTo.of_defaults (T := 121) rfl (hs.ext.keep e2 rfl) rfl rfl rfl⟩⟩
theorem bd_il2k (k : Kx C) (s : Shared) (hs : St C s) (a x key : Value) : ∃ t : Tok, Bd s (fdOf C.w.params 120) ⟨[a, x], [(Str.ofString "key", key)]⟩ [(Str.ofString "a", a), (Str.ofString "x", x), (Str.ofString "lo", (.int 0 t)), (Str.ofString "hi", .none), (Str.ofString "key", key)] := by
  have e : fdOf C.w.params 120 = fdOf C.w.params 120 := rfl
  conv at e => rhs; whnf
  have e2 := k.K 112 _ rfl
  rw [e]
  exact ⟨_, ⟨BindsTo.of_defaults (T := 112) rfl (hs.ext.keep e2 rfl) rfl rfl rfl⟩⟩
theorem bd_ir2k (k : Kx C) (s : Shared) (hs : St C s) (a x key : Value) : ∃ t : Tok, Bd s (fdOf C.w.params 102) ⟨[a, x], [(Str.ofString "key", key)]⟩ [(Str.ofString "a", a), (Str.ofString "x", x), (Str.ofString "lo", (.int 0 t)), (Str.ofString "hi", .none), (Str.ofString "key", key)] := by
  have e : fdOf C.w.params 102 = fdOf C.w.params 102 := rfl
  conv at e => rhs; whnf
  have e2 := k.K 94 _ rfl
  rw [e]
  exact ⟨_, ⟨BindsTo.of_defaults (T := 94) rfl (hs.ext.keep e2 rfl) rfl rfl rfl⟩⟩
end
theorem mk_none {h : Vw} : (dat .none).p h .none := by simp [dat, Rep]
local macro_rules | `(tactic| walk_at "kinds") => `(tactic| (repeat' (first | exact List.forall_mem_nil _ | refine List.forall_mem_cons.mpr ⟨?_, ?_⟩)) <;> (first | exact .inl rfl | exact .inr rfl))
local macro_rules | `(tactic| walk_at "nd") => `(tactic| (simp only [List.map_cons, List.map_nil]; decide))
local macro_rules | `(tactic| walk_at "args") => `(tactic| (repeat' (first | exact List.forall_mem_nil _ | refine List.forall_mem_cons.mpr ⟨?_, ?_⟩)) <;> (refine ⟨_, rfl, ?_⟩; first | assumption | exact mk_int | exact mk_none))
section
variable {C : Cx} {n : Nat}
theorem callFn (k : Kx C) {A : Around} {s : Shared} {E : Value → Shared → Prop} {Y : Al} {Q : Value → Shared → Prop} {fa : Addr} {fd : FuncData} {body : List Stmt} {pos : List Value} {kw : List (Str × Value)} {binds : List (Str × Value)} {ρ : List (Str × VP)} {F : HP}
    {q : Heap → Flow → Vw → Prop} (hF : Fn C fa fd body) (hA : Room (n + 1) A) (hs : St C s) (hY : Ok Y s.heap) (hgen : fd.scope.isGenerator = false)
    (hbind : Bd s fd ⟨pos, kw⟩ binds) (hkind : ∀ y ∈ binds, fd.scope.names.lookup y.1 = some .local ∨ fd.scope.names.lookup y.1 = some .cell) (hnd : (binds.map (·.1)).Nodup)
    (hρ : ∀ q ∈ ρ, ∃ v, binds.lookup q.1 = some v ∧ q.2.p ⟨s.heap, Y⟩ v) (hFp : ∀ h', Ext s.heap h' → F.p ⟨h', Y⟩) (hFs : F.Stab s.heap)
    (hb : ∀ L, Tr C n (FS.W C ⟨s.heap, fenv fd fa L, fd.scope, ats s.heap ρ, F⟩) (execs body (fenv fd fa L)) (q s.heap))
    (hQ : ∀ fl s', St C s' → Ok Y s'.heap → q s.heap fl ⟨s'.heap, Y⟩ → Q (match fl with | .ret v => v | _ => .none) s') : wpAny C.M A (call (.ref fa) pos kw) Q E s := by
  refine callFn' k.toBg hF hA hs hY hgen hbind hkind hnd (fun x R e => ?_) hFp hFs hb hQ
  have hmem : (x, R) ∈ ρ := by
    clear hρ hb
    induction ρ with
    | nil => cases e
    | cons q r ih =>
      obtain ⟨y, R'⟩ := q
      rw [List.lookup_cons] at e
      cases hy : x == y with
      | true => simp only [hy] at e; cases e; rw [show x = y by simpa using hy]; exact List.mem_cons_self
      | false => simp only [hy] at e; exact List.mem_cons_of_mem _ (ih e)
  exact hρ (x, R) hmem
noncomputable abbrev givesQ (R : VP) : Heap → Flow → Vw → Prop := fun b fl k => Ext b k.h ∧ ∃ v, fl = .ret v ∧ R.p k v
theorem do_br4k (k : Kx C) {as : List Nat} {ks X : List D} (p : Nat → Bool) {m : Nat} (hm : m ≤ n) (hp : ∀ i a, as[i]? = some a → ∃ kd, ks[a]? = some (.list kd) ∧ klt X kd = some (!(p i))) (hl : as.length ≤ 1000) (lo : Nat) (hlo : lo ≤ as.length) (a x l h kf : Value) :
    Does C (n + 1) (fun q => (dat (nats as)).p q a ∧ (dat (.list X)).p q x ∧ (dat (.int lo)).p q l ∧ (dat .none).p q h ∧ (keyV C m ks).p q kf) (call (.ref 111) [a, x, l, h] [(Str.ofString "key", kf)]) (dat (.int (bis p lo as.length))).p := fun A s E Y hA hs hY ⟨h0, h1, h2, h3, h4⟩ => by
  obtain ⟨t, hb⟩ := bd_br4k k s hs a x l h kf
  refine callFn k (ρ := [(Str.ofString "a", (dat (nats as))), (Str.ofString "x", (dat (.list X))), (Str.ofString "lo", (dat (.int lo))), (Str.ofString "hi", (dat .none)), (Str.ofString "key", (keyV C m ks))]) (F := .top) (q := givesQ (dat (.int (bis p lo as.length)))) (fn_bisect_right k) hA hs hY rfl hb (by walk_at "kinds") (by walk_at "nd") (List.forall_mem_cons.mpr ⟨⟨_, rfl, h0⟩, List.forall_mem_cons.mpr ⟨⟨_, rfl, h1⟩, List.forall_mem_cons.mpr ⟨⟨_, rfl, h2⟩, List.forall_mem_cons.mpr ⟨⟨_, rfl, h3⟩, List.forall_mem_cons.mpr ⟨⟨_, rfl, h4⟩, List.forall_mem_nil _⟩⟩⟩⟩⟩) (fun _ _ => trivial) top_stab
    (fun L => br_key k p hm hp hl lo hlo) fun fl s' q1 q2 ⟨q3, v, e, q4⟩ => ?_
  subst e
  exact ⟨q1, q3, q4⟩
theorem do_br3k (k : Kx C) {as : List Nat} {ks X : List D} (p : Nat → Bool) {m : Nat} (hm : m ≤ n) (hp : ∀ i a, as[i]? = some a → ∃ kd, ks[a]? = some (.list kd) ∧ klt X kd = some (!(p i))) (hl : as.length ≤ 1000) (lo : Nat) (hlo : lo ≤ as.length) (a x l kf : Value) :
    Does C (n + 1) (fun q => (dat (nats as)).p q a ∧ (dat (.list X)).p q x ∧ (dat (.int lo)).p q l ∧ (keyV C m ks).p q kf) (call (.ref 111) [a, x, l] [(Str.ofString "key", kf)]) (dat (.int (bis p lo as.length))).p := fun A s E Y hA hs hY ⟨h0, h1, h2, h3⟩ => by
  obtain ⟨t, hb⟩ := bd_br3k k s hs a x l kf
  refine callFn k (ρ := [(Str.ofString "a", (dat (nats as))), (Str.ofString "x", (dat (.list X))), (Str.ofString "lo", (dat (.int lo))), (Str.ofString "hi", (dat .none)), (Str.ofString "key", (keyV C m ks))]) (F := .top) (q := givesQ (dat (.int (bis p lo as.length)))) (fn_bisect_right k) hA hs hY rfl hb (by walk_at "kinds") (by walk_at "nd") (List.forall_mem_cons.mpr ⟨⟨_, rfl, h0⟩, List.forall_mem_cons.mpr ⟨⟨_, rfl, h1⟩, List.forall_mem_cons.mpr ⟨⟨_, rfl, h2⟩, List.forall_mem_cons.mpr ⟨⟨_, rfl, mk_none⟩, List.forall_mem_cons.mpr ⟨⟨_, rfl, h3⟩, List.forall_mem_nil _⟩⟩⟩⟩⟩) (fun _ _ => trivial) top_stab
    (fun L => br_key k p hm hp hl lo hlo) fun fl s' q1 q2 ⟨q3, v, e, q4⟩ => ?_
  subst e
  exact ⟨q1, q3, q4⟩
theorem do_bl4k (k : Kx C) {as : List Nat} {ks X : List D} (p : Nat → Bool) {m : Nat} (hm : m ≤ n) (hp : ∀ i a, as[i]? = some a → ∃ kd, ks[a]? = some (.list kd) ∧ klt kd X = some (p i)) (hl : as.length ≤ 1000) (lo : Nat) (hlo : lo ≤ as.length) (a x l h kf : Value) :
    Does C (n + 1) (fun q => (dat (nats as)).p q a ∧ (dat (.list X)).p q x ∧ (dat (.int lo)).p q l ∧ (dat .none).p q h ∧ (keyV C m ks).p q kf) (call (.ref 129) [a, x, l, h] [(Str.ofString "key", kf)]) (dat (.int (bis p lo as.length))).p := fun A s E Y hA hs hY ⟨h0, h1, h2, h3, h4⟩ => by
  obtain ⟨t, hb⟩ := bd_bl4k k s hs a x l h kf
  refine callFn k (ρ := [(Str.ofString "a", (dat (nats as))), (Str.ofString "x", (dat (.list X))), (Str.ofString "lo", (dat (.int lo))), (Str.ofString "hi", (dat .none)), (Str.ofString "key", (keyV C m ks))]) (F := .top) (q := givesQ (dat (.int (bis p lo as.length)))) (fn_bisect_left k) hA hs hY rfl hb (by walk_at "kinds") (by walk_at "nd") (List.forall_mem_cons.mpr ⟨⟨_, rfl, h0⟩, List.forall_mem_cons.mpr ⟨⟨_, rfl, h1⟩, List.forall_mem_cons.mpr ⟨⟨_, rfl, h2⟩, List.forall_mem_cons.mpr ⟨⟨_, rfl, h3⟩, List.forall_mem_cons.mpr ⟨⟨_, rfl, h4⟩, List.forall_mem_nil _⟩⟩⟩⟩⟩) (fun _ _ => trivial) top_stab
    (fun L => bl_key k p hm hp hl lo hlo) fun fl s' q1 q2 ⟨q3, v, e, q4⟩ => ?_
  subst e
  exact ⟨q1, q3, q4⟩
theorem do_bl2k (k : Kx C) {as : List Nat} {ks X : List D} (p : Nat → Bool) {m : Nat} (hm : m ≤ n) (hp : ∀ i a, as[i]? = some a → ∃ kd, ks[a]? = some (.list kd) ∧ klt kd X = some (p i)) (hl : as.length ≤ 1000)  (a x kf : Value) :
    Does C (n + 1) (fun q => (dat (nats as)).p q a ∧ (dat (.list X)).p q x ∧ (keyV C m ks).p q kf) (call (.ref 129) [a, x] [(Str.ofString "key", kf)]) (dat (.int (bis p 0 as.length))).p := fun A s E Y hA hs hY ⟨h0, h1, h2⟩ => by
  obtain ⟨t, hb⟩ := bd_bl2k k s hs a x kf
  refine callFn k (ρ := [(Str.ofString "a", (dat (nats as))), (Str.ofString "x", (dat (.list X))), (Str.ofString "lo", (dat (.int 0))), (Str.ofString "hi", (dat .none)), (Str.ofString "key", (keyV C m ks))]) (F := .top) (q := givesQ (dat (.int (bis p 0 as.length)))) (fn_bisect_left k) hA hs hY rfl hb (by walk_at "kinds") (by walk_at "nd") (List.forall_mem_cons.mpr ⟨⟨_, rfl, h0⟩, List.forall_mem_cons.mpr ⟨⟨_, rfl, h1⟩, List.forall_mem_cons.mpr ⟨⟨_, rfl, mk_int⟩, List.forall_mem_cons.mpr ⟨⟨_, rfl, mk_none⟩, List.forall_mem_cons.mpr ⟨⟨_, rfl, h2⟩, List.forall_mem_nil _⟩⟩⟩⟩⟩) (fun _ _ => trivial) top_stab
    (fun L => bl_key k p hm hp hl 0 (Nat.zero_le _)) fun fl s' q1 q2 ⟨q3, v, e, q4⟩ => ?_
  subst e
  exact ⟨q1, q3, q4⟩
theorem do_br2 (k : Kx C) {as : List Nat} {X : Int} (p : Nat → Bool) (hp : ∀ (i a : Nat), as[i]? = some a → decide (X < (a : Int)) = !(p i)) (hl : as.length ≤ 1000)  (a x : Value) :
    Does C (n + 1) (fun q => (dat (nats as)).p q a ∧ (dat (.int X)).p q x) (call (.ref 111) [a, x] []) (dat (.int (bis p 0 as.length))).p := fun A s E Y hA hs hY ⟨h0, h1⟩ => by
  obtain ⟨t, hb⟩ := bd_br2 k s hs a x
  refine callFn k (ρ := [(Str.ofString "a", (dat (nats as))), (Str.ofString "x", (dat (.int X))), (Str.ofString "lo", (dat (.int 0))), (Str.ofString "hi", (dat .none)), (Str.ofString "key", (dat .none))]) (F := .top) (q := givesQ (dat (.int (bis p 0 as.length)))) (fn_bisect_right k) hA hs hY rfl hb (by walk_at "kinds") (by walk_at "nd") (List.forall_mem_cons.mpr ⟨⟨_, rfl, h0⟩, List.forall_mem_cons.mpr ⟨⟨_, rfl, h1⟩, List.forall_mem_cons.mpr ⟨⟨_, rfl, mk_int⟩, List.forall_mem_cons.mpr ⟨⟨_, rfl, mk_none⟩, List.forall_mem_cons.mpr ⟨⟨_, rfl, mk_none⟩, List.forall_mem_nil _⟩⟩⟩⟩⟩) (fun _ _ => trivial) top_stab
    (fun L => br_none k p hp hl 0 (Nat.zero_le _)) fun fl s' q1 q2 ⟨q3, v, e, q4⟩ => ?_
  subst e
  exact ⟨q1, q3, q4⟩
end
section
variable {C : Cx} {n : Nat} {f : FS}
structure MethOf (T : String) (name : Str) (id : String) : Prop where
  slot : PySem.Slot T name id
  plain : PlainAttrs T
  ty : typeOf (.builtin id) = pure (.type "method_descriptor")
noncomputable def OfType (T : String) (R : VP) : Prop := ∀ (s : Shared) Y v, R.p ⟨s.heap, Y⟩ v → s.TypeIs v T ∧ ∀ a, v = .ref a → ∃ o, s.heap.get? a = some o ∧ o.dict = none
theorem ofType_str {x : Str} : OfType "str" (dat (.str x)) := fun s Y v h => by
  obtain ⟨t, rfl⟩ := rep_str h
  exact ⟨rfl, fun a e => by cases e⟩
theorem ofType_list {ds : List D} : OfType "list" (dat (.list ds)) := fun s Y v h => by
  obtain ⟨a, vs, rfl, ya, ⟨m, e⟩, r⟩ := rep_list h
  exact ⟨⟨_, e, rfl⟩, fun b e' => by cases e'; exact ⟨_, e, rfl⟩⟩
noncomputable def listV (a : Addr) (vs : List Value) : VP := ⟨fun k v => v = .ref a ∧ IsL k.h a vs, fun x ⟨e, l⟩ => ⟨e, x.isL l⟩, fun _ r => r⟩
theorem Ev.meth {o : Expr} {name : Str} {apos pos : Pos} {e : Expr} {es : List Expr} {pl : Env → Sem Bool} {T id : String} {R1 R : VP} {Rs : List VP} (hm : MethOf T name id) (hT : OfType T R1) (ho : Ev C n f o R1) (ha : Evl C n f pos (e :: es) Rs)
    (hc : ∀ v vs, Does C n (fun k => R1.p k v ∧ All2 k Rs vs) (call (.builtin id) (v :: vs)) R.p)
    (he : ∀ env, eval (.Call (.Attribute o name apos) (e :: es) [] pos) env = (do
      let ov ← eval o env
      standAt apos.atName
      let (f, first) ← holding [ov] (getMethod ov name (pl env))
      callWith pos f first (backTo pos (starEach (e :: es) env)) []) := by intro _; rfl)
    (hst : ∀ env, starEach (e :: es) env = (false, eval e env) :: starEach es env := by intro _; rfl)
    (hpl : ∀ env, (backTo pos (starEach es env)).any (·.1) = false := by intro _; rfl) : Ev C n f (.Call (.Attribute o name apos) (e :: es) [] pos) R := fun A s E Y hA hs hY hp => by
  refine MethodCall_ (wpAny_mono (ho A s E Y hA hs hY hp) (fun v s1 ⟨h1, h2, h3⟩ => ?_) fun _ _ e => e) (he _)
  obtain ⟨t1, t2⟩ := hT s1 Y v h3
  refine getMethod_builtin t1 hm.plain hm.slot hm.ty t2 ?_
  refine callWith_method1 (wpAny_mono (ha A s1 E Y hA h1 (hY.ext h2) (hp.up h2)) (fun vs s2 ⟨g1, g2, g3⟩ => ?_) fun _ _ e => e) (hst _) (hpl _)
  exact wpAny_mono (hc v vs A s2 E Y hA g1 (hY.ext (h2.trans g2)) ⟨R1.ext g2 h3, g3⟩) (fun _ _ ⟨k1, k2, k3⟩ => ⟨k1, (h2.trans g2).trans k2, k3⟩) fun _ _ e => e
theorem m_index : MethOf "list" (Str.ofString "index") "list.index" := ⟨PySem.F.slot_list_index, PySem.F.plainAttrs_list, PySem.F.type_list_index⟩
theorem m_append : MethOf "list" (Str.ofString "append") "list.append" := ⟨PySem.F.slot_list_append, PySem.F.plainAttrs_list, PySem.F.type_list_append⟩
theorem m_insert : MethOf "list" (Str.ofString "insert") "list.insert" := ⟨PySem.F.slot_list_insert, PySem.F.plainAttrs_list, PySem.F.type_list_insert⟩
theorem m_rstrip : MethOf "str" (Str.ofString "rstrip") "str.rstrip" := ⟨PySem.F.slot_str_rstrip, PySem.F.plainAttrs_str, PySem.F.type_str_rstrip⟩
theorem m_rfind : MethOf "str" (Str.ofString "rfind") "str.rfind" := ⟨PySem.F.slot_str_rfind, PySem.F.plainAttrs_str, PySem.F.type_str_rfind⟩
structure ExtX (X : Addr) (h h' : Heap) : Prop where
  live : ∀ {b o}, h.get? b = some o → ∃ o', h'.get? b = some o'
  keep : ∀ {b o}, b ≠ X → h.get? b = some o → tabLike o = false → h'.get? b = some o
theorem Ext.x {h h' : Heap} (x : Ext h h') (X : Addr) : ExtX X h h' := ⟨x.live, fun _ e t => x.keep e t⟩
theorem ExtX.ext {X : Addr} {a b c : Heap} (x : ExtX X a b) (y : Ext b c) : ExtX X a c := ⟨fun e => let ⟨_, e'⟩ := x.live e; y.live e', fun h e t => y.keep (x.keep h e t) t⟩
theorem Ext.extX {X : Addr} {a b c : Heap} (x : Ext a b) (y : ExtX X b c) : ExtX X a c := ⟨fun e => let ⟨_, e'⟩ := x.live e; y.live e', fun h e t => y.keep h (x.keep e t) t⟩
theorem ExtX.fresh {X : Addr} {a b c : Heap} (x : Ext a b) (y : ExtX X b c) (h : a.get? X = none) : Ext a c := ⟨fun e => let ⟨_, e'⟩ := x.live e; y.live e', fun e t => y.keep (fun q => by rw [q, h] at e; cases e) (x.keep e t) t⟩
theorem ExtX.same {X : Addr} {h h' : Heap} {o : Obj} (k : Heap.SameBut X h h') (e : h'.get? X = some o) : ExtX X h h' :=
  ⟨fun {b o'} q => by
    by_cases hb : b = X
    · subst hb; exact ⟨_, e⟩
    · exact ⟨_, (k.2 b hb).trans q⟩, fun hb q _ => (k.2 _ hb).trans q⟩
theorem wp_turn {A : Around} {s : Shared} {E : Value → Shared → Prop} {Y : Al} {o : Expr} {name : Str} {apos pos p : Pos} {e : Expr} {es : List Expr} {pl : Env → Sem Bool} {id : String} {R1 : VP} {Rs : List VP} {Q : Flow → Shared → Prop} (hm : MethOf "list" name id) (hT : OfType "list" R1) (ho : Ev C n f o R1) (ha : Evl C n f pos (e :: es) Rs)
    (hA : Room n A) (hs : St C s) (hY : Ok Y s.heap) (hp : f.H ⟨s.heap, Y⟩)
    (hQ : ∀ v vs s2, St C s2 → Ext s.heap s2.heap → R1.p ⟨s2.heap, Y⟩ v → All2 ⟨s2.heap, Y⟩ Rs vs → wpAny C.M A (call (.builtin id) (v :: vs)) (fun r s3 => r = .none ∧ Q .next s3) E s2)
    (he : ∀ env, eval (.Call (.Attribute o name apos) (e :: es) [] pos) env = (do
      let ov ← eval o env
      standAt apos.atName
      let (f, first) ← holding [ov] (getMethod ov name (pl env))
      callWith pos f first (backTo pos (starEach (e :: es) env)) []) := by intro _; rfl)
    (hst : ∀ env, starEach (e :: es) env = (false, eval e env) :: starEach es env := by intro _; rfl)
    (hpl : ∀ env, (backTo pos (starEach es env)).any (·.1) = false := by intro _; rfl)
    (hi : interactive f.env = false) (hsw : ∀ env, swapsWith (.Call (.Attribute o name apos) (e :: es) [] pos) none p.line env = pure false := by intro _; rfl) :
    wpAny C.M A (exec (.Expr (.Call (.Attribute o name apos) (e :: es) [] pos) p) f.env) Q E s := by
  refine wpAny_Expr ?_ hi (hsw _)
  refine MethodCall_ (wpAny_mono (ho A s E Y hA hs hY hp) (fun v s1 ⟨h1, h2, h3⟩ => ?_) fun _ _ e => e) (he _)
  obtain ⟨t1, t2⟩ := hT s1 Y v h3
  refine getMethod_builtin t1 hm.plain hm.slot hm.ty t2 ?_
  refine callWith_method1 (wpAny_mono (ha A s1 E Y hA h1 (hY.ext h2) (hp.up h2)) (fun vs s2 ⟨g1, g2, g3⟩ => ?_) fun _ _ e => e) (hst _) (hpl _)
  exact wpAny_mono (hQ v vs s2 g1 (h2.trans g2) (R1.ext g2 h3) g3) (fun r s3 ⟨q1, q2⟩ => by subst q1; exact q2) fun _ _ e => e
theorem do_insertX {A : Around} {E : Value → Shared → Prop} {s : Shared} {a : Addr} {vs : List Value} {i : Nat} {x : Int} {t : Tok} {y : Value} {Q : Value → Shared → Prop} (l : IsL s.heap a vs) (hz : vs.length ≤ 1000000) (hx : x = (i : Int)) (hi : i ≤ vs.length)
    (hQ : ∀ h', IsL h' a (vs.take i ++ y :: vs.drop i) → Heap.SameBut a s.heap h' → Q .none { s with heap := h' }) : wpAny C.M A (call (.builtin "list.insert") [.ref a, .int x t, y]) Q E s := by
  obtain ⟨m, e⟩ := l
  have hfit : ¬(!Builtin.List.listFitsIndex x) = true := by
    have : Builtin.List.listFitsIndex x = true := by
      unfold Builtin.List.listFitsIndex
      simp; omega
    simp [this]
  have hz' : vs.toArray.size ≤ sizeLine := by rw [List.size_toArray]; unfold sizeLine; omega
  have mt := PySem.AutoSeq1.list_insert_list_int_val_1 a vs.toArray m x t y hfit hz'
  have ar := PySem.F.args_list_insert_3 (.ref a) (.int x t) y
  refine call_meets PySem.F.slot_list_insert ⟨_, e, rfl⟩ PySem.F.entry_list_insert ar mt ⟨e, hQ _ ?_ (Heap.SameBut.update ..)⟩
  refine ⟨m + 1, (Heap.get?_update_self _ e rfl).trans ?_⟩
  have h1 : ¬ (x < 0) := by omega
  have h2 : min x.toNat vs.length = i := by omega
  simp only [Obj.mapSeq, LObj, h1, if_false, List.size_toArray, h2]
  have h3 : (vs.toArray.extract 0 i).push y ++ vs.toArray.extract i vs.length = (vs.take i ++ y :: vs.drop i).toArray := by
    apply Array.ext'
    simp
    exact List.take_of_length_le (by simp)
  simp only [h3]
  have h4 : ((vs.take i ++ y :: vs.drop i).toArray.size == vs.length) = false := by simp; omega
  simp only [h4, Bool.false_eq_true, if_false]
theorem do_insert {A : Around} {E : Value → Shared → Prop} {s : Shared} {a : Addr} {vs : List Value} {i : Nat} {t : Tok} {y : Value} {Q : Value → Shared → Prop} (l : IsL s.heap a vs) (hz : vs.length ≤ 1000000) (hi : i ≤ vs.length)
    (hQ : ∀ h', IsL h' a (vs.take i ++ y :: vs.drop i) → Heap.SameBut a s.heap h' → Q .none { s with heap := h' }) : wpAny C.M A (call (.builtin "list.insert") [.ref a, .int i t, y]) Q E s := do_insertX l hz rfl hi hQ
theorem Ev.callF {func : Expr} {e : Expr} {es : List Expr} {pos : Pos} {fa : Addr} {fd : FuncData} {body : List Stmt} {Rs : List VP} {R : VP} (hF : Fn C fa fd body) (hf : Ev C n f func (isV (.ref fa))) (ha : Evl C n f pos (e :: es) Rs)
    (hc : ∀ vs, Does C n (fun k => All2 k Rs vs) (call (.ref fa) vs) R.p)
    (he : ∀ env, eval (.Call func (e :: es) [] pos) env = (do callWith pos (← eval func env) [] (backTo pos (starEach (e :: es) env)) (backToKw pos (keywordEach [] env))) := by intro _; rfl)
    (hst : ∀ env, starEach (e :: es) env = (false, eval e env) :: starEach es env := by intro _; rfl) : Ev C n f (.Call func (e :: es) [] pos) R := fun A s E Y hA hs hY hp => by
  refine Call_ (wpAny_mono (hf A s E Y hA hs hY hp) (fun v s1 ⟨h1, h2, h3⟩ => ?_) fun _ _ e => e) (he _)
  have h3' : v = .ref fa := h3
  subst h3'
  obtain ⟨o, ho, hd⟩ := hF.obj
  refine callWith_def hd (wpAny_mono (ha A s1 E Y hA h1 (hY.ext h2) (hp.up h2)) (fun vs s2 ⟨g1, g2, g3⟩ => ⟨g1.ext.keep ho (tab_data fun vs e => by rw [hd] at e; cases e), ?_⟩) fun _ _ e => e) (hst _)
  exact wpAny_mono (hc vs A s2 E Y hA g1 (hY.ext (h2.trans g2)) g3) (fun _ _ ⟨k1, k2, k3⟩ => ⟨k1, (h2.trans g2).trans k2, k3⟩) fun _ _ e => e
theorem Ev.callK {func : Expr} {e ke : Expr} {es : List Expr} {pos kp : Pos} {kn : Str} {fa : Addr} {fd : FuncData} {body : List Stmt} {Rs : List VP} {R RK : VP} (hF : Fn C fa fd body) (hf : Ev C n f func (isV (.ref fa))) (ha : Evl C n f pos (e :: es) Rs) (hk : Ev C n f ke RK)
    (hc : ∀ vs kv, Does C n (fun k => All2 k Rs vs ∧ RK.p k kv) (call (.ref fa) vs [(kn, kv)]) R.p)
    (he : ∀ env, eval (.Call func (e :: es) [⟨some kn, ke, kp⟩] pos) env = (do callWith pos (← eval func env) [] (backTo pos (starEach (e :: es) env)) (backToKw pos (keywordEach [⟨some kn, ke, kp⟩] env))) := by intro _; rfl)
    (hst : ∀ env, starEach (e :: es) env = (false, eval e env) :: starEach es env := by intro _; rfl) : Ev C n f (.Call func (e :: es) [⟨some kn, ke, kp⟩] pos) R := fun A s E Y hA hs hY hp => by
  rw [he]
  refine wpAny_bind (wpAny_mono (hf A s E Y hA hs hY hp) (fun v s1 ⟨h1, h2, h3⟩ => ?_) fun _ _ e => e)
  have h3' : v = .ref fa := h3
  subst h3'
  obtain ⟨o, ho, hd⟩ := hF.obj
  refine callWith_def_kw hd ?_
  have hb : backTo pos (starEach (e :: es) f.env) = (false, eval e f.env) :: backTo pos (starEach es f.env) := by rw [hst]; rfl
  have ha' := ha A s1 E Y hA h1 (hY.ext h2) (hp.up h2)
  rw [hb] at ha' ⊢
  refine evalArgs_kw rfl (wpAny_mono ha' (fun vs s2 ⟨g1, g2, g3⟩ => ?_) fun _ _ e => e)
  show wpAny C.M A (evalAll [(do let v ← eval ke f.env; standAt pos; pure v)]) _ E s2
  refine wpAny_evalAll_cons (wpAny_bind (wpAny_mono (hk A s2 E Y hA g1 (hY.ext (h2.trans g2)) (hp.up (h2.trans g2))) (fun kv s3 ⟨k1, k2, k3⟩ => wpAny_bind (wpAny_standAt (wpAny_pure (wpAny_evalAll_nil ⟨k1.ext.keep ho (tab_data fun vs e => by rw [hd] at e; cases e), ?_⟩)))) fun _ _ e => e))
  exact wpAny_mono (hc vs kv A s3 E Y hA k1 (hY.ext ((h2.trans g2).trans k2)) ⟨g3.ext k2, k3⟩) (fun _ _ ⟨q1, q2, q3⟩ => ⟨q1, ((h2.trans g2).trans k2).trans q2, q3⟩) fun _ _ e => e
noncomputable def VP.and (R S : VP) : VP := ⟨fun k v => R.p k v ∧ S.p k v, fun x h => ⟨R.ext x h.1, S.ext x h.2⟩, fun x h => ⟨R.ref x h.1, S.ref x h.2⟩⟩
theorem Ev.and1 {e : Expr} {R S : VP} (h : Ev C n f e (R.and S)) : Ev C n f e R := h.conv fun _ _ x => x.1
theorem Ev.and2 {e : Expr} {R S : VP} (h : Ev C n f e (R.and S)) : Ev C n f e S := h.conv fun _ _ x => x.2
end
section
variable {C : Cx} {n : Nat}
theorem ofType_and {T : String} {R S : VP} (h : OfType T S) : OfType T (R.and S) := fun s Y v x => h s Y v x.2
noncomputable def ins (as : List Nat) (i x : Nat) : List Nat := as.take i ++ x :: as.drop i
theorem two {R S : VP} {k : Vw} {vs : List Value} (h : All2 k [R, S] vs) : ∃ a b, vs = [a, b] ∧ R.p k a ∧ S.p k b := by
  obtain ⟨a, r, rfl, h1, h2⟩ := h
  obtain ⟨b, r, rfl, h3, h4⟩ := h2
  exact ⟨a, b, by rw [show r = [] from h4], h1, h3⟩
theorem four {R S T U : VP} {k : Vw} {vs : List Value} (h : All2 k [R, S, T, U] vs) : ∃ a b c d, vs = [a, b, c, d] ∧ R.p k a ∧ S.p k b ∧ T.p k c ∧ U.p k d := by
  obtain ⟨a, r, rfl, h1, h2⟩ := h
  obtain ⟨b, r, rfl, h3, h2⟩ := h2
  obtain ⟨c, r, rfl, h4, h2⟩ := h2
  obtain ⟨d, r, rfl, h5, h2⟩ := h2
  exact ⟨a, b, c, d, by rw [show r = [] from h2], h1, h3, h4, h5⟩
theorem three {R S T : VP} {k : Vw} {vs : List Value} (h : All2 k [R, S, T] vs) : ∃ a b c, vs = [a, b, c] ∧ R.p k a ∧ S.p k b ∧ T.p k c := by
  obtain ⟨a, r, rfl, h1, h2⟩ := h
  obtain ⟨b, r, rfl, h3, h2⟩ := h2
  obtain ⟨c, r, rfl, h4, h2⟩ := h2
  exact ⟨a, b, c, by rw [show r = [] from h2], h1, h3, h4⟩
theorem bis_le (p : Nat → Bool) (lo hi : Nat) (h : lo ≤ hi) : bis p lo hi ≤ hi := by
  induction lo, hi using bis.induct p with
  | case1 lo hi h1 h2 ih => unfold bis; rw [dif_pos h1, if_pos h2]; exact ih (by omega)
  | case2 lo hi h1 h2 ih => unfold bis; rw [dif_pos h1, if_neg h2]; exact Nat.le_trans (ih (by omega)) (by omega)
  | case3 lo hi h1 => unfold bis; rw [dif_neg h1]; exact h
theorem ints_reps {Y : Al} : ∀ {as : List Nat} {ws : List Value} {h1 h2 : Heap}, Reps ⟨h1, Y⟩ (as.map fun (i : Nat) => D.int i) ws → Reps ⟨h2, Y⟩ (as.map fun (i : Nat) => D.int i) ws
  | [], ws, h1, h2, r => by rw [List.map_nil, Reps] at r ⊢; exact r
  | a :: as, ws, h1, h2, r => by
    rw [List.map_cons, Reps] at r ⊢
    obtain ⟨v, r', rfl, q1, q2⟩ := r
    obtain ⟨t, rfl⟩ := rep_int (h := ⟨h1, Y⟩) q1
    exact ⟨_, _, rfl, mk_int (h := ⟨h2, Y⟩), ints_reps q2⟩
theorem ins_right (k : Kx C) {b : Heap} {L : Nat} {as : List Nat} {ks X : List D} {x : Nat} (p : Nat → Bool) {m : Nat} {ad : Addr} (hm : m ≤ n) (hx : ks[x]? = some (.list X))
    (hp : ∀ i a, as[i]? = some a → ∃ kd, ks[a]? = some (.list kd) ∧ klt X kd = some (!(p i))) (hl : as.length ≤ 1000) (had : C.B.get? ad = none) :
    Tr C (n + 1) ((ff C 102 b L [(Str.ofString "a", VP.at b ((isV (.ref ad)).and (dat (nats as)))), (Str.ofString "x", VP.at b (dat (.int x))), (Str.ofString "lo", VP.at b (dat (.int 0))), (Str.ofString "hi", VP.at b (dat .none)), (Str.ofString "key", VP.at b (keyV C m ks))] .top).W C)
      (execs (bodyOf C.w.params 102) (fenv (fdOf C.w.params 102) 102 L)) (fun fl k => fl = .next ∧ ExtX ad b k.h ∧ (dat (nats (ins as (bis p 0 as.length) x))).p k (.ref ad)) := by
  conv in (bodyOf _ _) => whnf
  refine Tr.ifS (f := ff C 102 b L _ .top) (c := false) (fun k => (ff C 102 b L [(Str.ofString "a", VP.at b ((isV (.ref ad)).and (dat (nats as)))), (Str.ofString "x", VP.at b (dat (.int x))), (Str.ofString "lo", dat (.int (bis p 0 as.length : Nat)))] .top).W C k) ?_ ?_ ?_ ?_
  · exact Ts.isNone (Ev.here (R := keyV C m ks) (by walk_at "nm")) fun k v e => by obtain ⟨fa, _, _, _, rfl, _⟩ := e; rfl
  · intro e; cases e
  · intro _
    refine Tr.exprEnd (Tr.assign (f := ff C 102 b L _ .top) (R := dat (.int (bis p 0 as.length : Nat))) ?_ (.inl rfl) (dat_stab _) (fun k w => w.sub (by walk_at "sub")) rfl)
    refine Ev.callK (fa := 111) (Rs := [dat (nats as), dat (.list X), dat (.int (0 : Nat)), dat .none]) (RK := keyV C m ks) (fn_bisect_right k) (Ev.gl k rfl rfl rfl) ?_ (Ev.here (by walk_at "nm")) fun vs kv => ?_
    · refine Evl.cons (Ev.and2 (R := isV (.ref ad)) (Ev.here (by walk_at "nm"))) (Evl.cons ?_ (Evl.cons (Ev.here (by walk_at "nm")) (Evl.cons (Ev.here (by walk_at "nm")) .nil)))
      exact Ev.callKey (ks := ks) (m := m) (i := x) (Ev.here (by walk_at "nm")) (Ev.here (by walk_at "nm")) (by omega) hx
    · intro A s E Y hA hs hY ⟨h1, h2⟩
      obtain ⟨a, x', l, h, rfl, q1, q2, q3, q4⟩ := four h1
      exact do_br4k k p hm hp hl 0 (Nat.zero_le _) a x' l h kv A s E Y hA hs hY ⟨q1, q2, q3, q4, h2⟩
  · refine Tr.exprEnd fun A s E Y hA hs hY w => ?_
    refine wp_turn (f := ff C 102 b L [(Str.ofString "a", VP.at b ((isV (.ref ad)).and (dat (nats as)))), (Str.ofString "x", VP.at b (dat (.int x))), (Str.ofString "lo", dat (.int (bis p 0 as.length : Nat)))] .top) (R1 := (isV (.ref ad)).and (dat (nats as))) (Rs := [dat (.int (bis p 0 as.length : Nat)), dat (.int x)]) m_insert (ofType_and ofType_list) (Ev.here (by walk_at "nm")) (Evl.cons (by walk_at "nm") (Evl.cons (Ev.here (by walk_at "nm")) .nil)) hA hs hY w.toH (fun v vs s2 g1 g2 g3 g4 => ?_) (hi := rfl)
    obtain ⟨hv, hd⟩ := g3
    have hv' : v = .ref ad := hv
    subst hv'
    obtain ⟨a', ws, e, ya, l, r⟩ := rep_list hd
    cases e
    obtain ⟨i', x', rfl, z1, z2⟩ := two g4
    obtain ⟨t, rfl⟩ := rep_int z1
    obtain ⟨u, rfl⟩ := rep_int z2
    have hz : ws.length = as.length := by rw [r.length, List.length_map]
    have hbis : bis p 0 as.length ≤ as.length := bis_le p 0 as.length (Nat.zero_le _)
    refine do_insert l (by omega) (by omega) fun h' l' s' => ⟨rfl, ?_⟩
    obtain ⟨o, ho, hso⟩ := soft_list l.isList
    obtain ⟨m', e'⟩ := l'
    refine ⟨g1.same ho hso had s' s2.toks, (hY.ext g2).same s' e', rfl, (w.toH.ext.trans g2).extX (ExtX.same s' e'), ?_⟩
    refine mk_list (h := ⟨h', Y⟩) ya ⟨m', e'⟩ ?_
    have hints : ∀ {as : List Nat} {ws : List Value} {h1 h2 : Heap}, Reps ⟨h1, Y⟩ (as.map fun (i : Nat) => D.int i) ws → Reps ⟨h2, Y⟩ (as.map fun (i : Nat) => D.int i) ws := ints_reps
    unfold ins
    rw [List.map_append, List.map_cons, List.map_take, List.map_drop]
    refine Reps.append ?_ (Reps.cons (mk_int (h := ⟨h', Y⟩)) ?_)
    · have := r.take (bis p 0 as.length)
      rw [← List.map_take] at this ⊢
      exact hints this
    · have := r.drop (bis p 0 as.length)
      rw [← List.map_drop] at this ⊢
      exact hints this
theorem ins_left (k : Kx C) {b : Heap} {L : Nat} {as : List Nat} {ks X : List D} {x : Nat} (p : Nat → Bool) {m : Nat} {ad : Addr} (hm : m ≤ n) (hx : ks[x]? = some (.list X))
    (hp : ∀ i a, as[i]? = some a → ∃ kd, ks[a]? = some (.list kd) ∧ klt kd X = some (p i)) (hl : as.length ≤ 1000) (had : C.B.get? ad = none) :
    Tr C (n + 1) ((ff C 120 b L [(Str.ofString "a", VP.at b ((isV (.ref ad)).and (dat (nats as)))), (Str.ofString "x", VP.at b (dat (.int x))), (Str.ofString "lo", VP.at b (dat (.int 0))), (Str.ofString "hi", VP.at b (dat .none)), (Str.ofString "key", VP.at b (keyV C m ks))] .top).W C)
      (execs (bodyOf C.w.params 120) (fenv (fdOf C.w.params 120) 120 L)) (fun fl k => fl = .next ∧ ExtX ad b k.h ∧ (dat (nats (ins as (bis p 0 as.length) x))).p k (.ref ad)) := by
  conv in (bodyOf _ _) => whnf
  refine Tr.ifS (f := ff C 120 b L _ .top) (c := false) (fun k => (ff C 120 b L [(Str.ofString "a", VP.at b ((isV (.ref ad)).and (dat (nats as)))), (Str.ofString "x", VP.at b (dat (.int x))), (Str.ofString "lo", dat (.int (bis p 0 as.length : Nat)))] .top).W C k) ?_ ?_ ?_ ?_
  · exact Ts.isNone (Ev.here (R := keyV C m ks) (by walk_at "nm")) fun k v e => by obtain ⟨fa, _, _, _, rfl, _⟩ := e; rfl
  · intro e; cases e
  · intro _
    refine Tr.exprEnd (Tr.assign (f := ff C 120 b L _ .top) (R := dat (.int (bis p 0 as.length : Nat))) ?_ (.inl rfl) (dat_stab _) (fun k w => w.sub (by walk_at "sub")) rfl)
    refine Ev.callK (fa := 129) (Rs := [dat (nats as), dat (.list X), dat (.int (0 : Nat)), dat .none]) (RK := keyV C m ks) (fn_bisect_left k) (Ev.gl k rfl rfl rfl) ?_ (Ev.here (by walk_at "nm")) fun vs kv => ?_
    · refine Evl.cons (Ev.and2 (R := isV (.ref ad)) (Ev.here (by walk_at "nm"))) (Evl.cons ?_ (Evl.cons (Ev.here (by walk_at "nm")) (Evl.cons (Ev.here (by walk_at "nm")) .nil)))
      exact Ev.callKey (ks := ks) (m := m) (i := x) (Ev.here (by walk_at "nm")) (Ev.here (by walk_at "nm")) (by omega) hx
    · intro A s E Y hA hs hY ⟨h1, h2⟩
      obtain ⟨a, x', l, h, rfl, q1, q2, q3, q4⟩ := four h1
      exact do_bl4k k p hm hp hl 0 (Nat.zero_le _) a x' l h kv A s E Y hA hs hY ⟨q1, q2, q3, q4, h2⟩
  · refine Tr.exprEnd fun A s E Y hA hs hY w => ?_
    refine wp_turn (f := ff C 120 b L [(Str.ofString "a", VP.at b ((isV (.ref ad)).and (dat (nats as)))), (Str.ofString "x", VP.at b (dat (.int x))), (Str.ofString "lo", dat (.int (bis p 0 as.length : Nat)))] .top) (R1 := (isV (.ref ad)).and (dat (nats as))) (Rs := [dat (.int (bis p 0 as.length : Nat)), dat (.int x)]) m_insert (ofType_and ofType_list) (Ev.here (by walk_at "nm")) (Evl.cons (by walk_at "nm") (Evl.cons (Ev.here (by walk_at "nm")) .nil)) hA hs hY w.toH (fun v vs s2 g1 g2 g3 g4 => ?_) (hi := rfl)
    obtain ⟨hv, hd⟩ := g3
    have hv' : v = .ref ad := hv
    subst hv'
    obtain ⟨a', ws, e, ya, l, r⟩ := rep_list hd
    cases e
    obtain ⟨i', x', rfl, z1, z2⟩ := two g4
    obtain ⟨t, rfl⟩ := rep_int z1
    obtain ⟨u, rfl⟩ := rep_int z2
    have hz : ws.length = as.length := by rw [r.length, List.length_map]
    have hbis : bis p 0 as.length ≤ as.length := bis_le p 0 as.length (Nat.zero_le _)
    refine do_insert l (by omega) (by omega) fun h' l' s' => ⟨rfl, ?_⟩
    obtain ⟨o, ho, hso⟩ := soft_list l.isList
    obtain ⟨m', e'⟩ := l'
    refine ⟨g1.same ho hso had s' s2.toks, (hY.ext g2).same s' e', rfl, (w.toH.ext.trans g2).extX (ExtX.same s' e'), ?_⟩
    refine mk_list (h := ⟨h', Y⟩) ya ⟨m', e'⟩ ?_
    have hints : ∀ {as : List Nat} {ws : List Value} {h1 h2 : Heap}, Reps ⟨h1, Y⟩ (as.map fun (i : Nat) => D.int i) ws → Reps ⟨h2, Y⟩ (as.map fun (i : Nat) => D.int i) ws := ints_reps
    unfold ins
    rw [List.map_append, List.map_cons, List.map_take, List.map_drop]
    refine Reps.append ?_ (Reps.cons (mk_int (h := ⟨h', Y⟩)) ?_)
    · have := r.take (bis p 0 as.length)
      rw [← List.map_take] at this ⊢
      exact hints this
    · have := r.drop (bis p 0 as.length)
      rw [← List.map_drop] at this ⊢
      exact hints this
end
section
variable {C : Cx} {n : Nat} {f : FS}
theorem Ext.tab {h h' : Heap} {P : Addr} {ps : Array Value} {o' : Obj} (e : h.get? P = some (tabObj ps)) (ht : TriplesOk ps.toList) (k : Heap.ExtBut P h h') (e' : h'.get? P = some o') : Ext h h' :=
  ⟨fun {b o} q => by
    by_cases hb : b = P
    · subst hb; exact ⟨_, e'⟩
    · exact ⟨o, k b o hb q⟩,
   fun {b o} q t => k b o (fun hb => by
    subst hb
    rw [e] at q
    cases q
    rw [tab_tab ht] at t
    cases t) q⟩
theorem codeAmong_snoc_inv {pos : Pos} {a b : Int} {c cv : Value} : ∀ {l : List Value}, TriplesOk l → codeAmong pos (l ++ [rawInt a, rawInt b, c]) = some cv → codeAmong pos l = some cv ∨ cv = c
  | [], _, h => by
    simp only [List.nil_append, codeAmong, rawInt] at h
    split at h
    · right; exact (Option.some.inj h).symm
    · cases h
  | .int x t :: .int y u :: z :: rest, ht, h => by
    simp only [List.cons_append, codeAmong] at h ⊢
    split at h
    · left
      rename_i hc
      rw [if_pos hc]; exact h
    · rename_i hc
      rw [if_neg hc]
      exact codeAmong_snoc_inv (l := rest) ht h
theorem oldTab {B h h' : Heap} {P : Addr} {ps more : Array Value} (K : OldK B h) (e : h.get? P = some (tabObj ps)) (e' : h'.get? P = some (tabObj (ps ++ more))) (k : Heap.ExtBut P h h') (hct : isCodeTable B P) : OldK B h' :=
  ⟨fun b o hb => by
    by_cases hP : b = P
    · subst hP
      rcases K.old b o hb with x | ⟨t, hc, vs, m2, hv, x⟩ | ⟨_, hc, ⟨o', es, n, ho', h1, h2, r⟩, z⟩
      · rw [e] at x
        cases x
        exact .inr (.inl ⟨hct, rfl, ps, more, rfl, e'⟩)
      · rw [e] at x
        have hx := Option.some.inj x
        cases o with
        | mk cl di da sl =>
          simp only [tabObj, Obj.mk.injEq, Data.fields.injEq] at hx
          obtain ⟨q1, q2, q3, q4⟩ := hx
          refine .inr (.inl ⟨hct, hc, vs, m2 ++ more, hv, ?_⟩)
          rw [e', ← q1, ← q2, ← q4, q3, Array.append_assoc]
      · rw [e] at ho'
        cases ho'
        cases h2
    · rcases K.old b o hb with x | ⟨t, hc, vs, m2, hv, x⟩ | ⟨rfl, hc, ⟨o', es, n, ho', r⟩, z⟩
      · exact .inl (k _ _ hP x)
      · exact .inr (.inl ⟨t, hc, vs, m2, hv, k _ _ hP x⟩)
      · exact .inr (.inr ⟨rfl, hc, ⟨o', es, n, k _ _ hP ho', r⟩, fun key => by rw [OldK.staticOf_congr ((k _ _ hP ho').trans ho'.symm) key]; exact z key⟩),
   fun b o hb => let ⟨o', ho'⟩ := K.there b o hb; by
    by_cases hP : b = P
    · subst hP; exact ⟨_, e'⟩
    · exact ⟨o', k _ _ hP ho'⟩⟩
theorem St.tab {s : Shared} (hfz : C.fz = false) (x : St C s) {P : Addr} {q : Str} {ps : Array Value} {h' : Heap} {tk : Tok} {pos : Pos} {c' : Addr} (hq : (P, q) ∈ tabsOf) (e : s.heap.get? P = some (tabObj ps)) (ht : TriplesOk ps.toList) (k : Heap.ExtBut P s.heap h')
    (e' : h'.get? P = some (tabObj (ps ++ #[rawInt pos.line, rawInt pos.col, .ref c']))) (hc : h'.CodeRec (.ref c') q) (hct : isCodeTable C.B P) : St C { s with heap := h', toks := tk } := by
  have ex := Ext.tab e ht k e'
  refine ⟨x.ext.trans ex, x.os, x.bare, fun r hr => ?_, fun z => (by rw [hfz] at z; cases z), oldTab x.old e e' k hct⟩
  obtain ⟨ps2, h1, h2, h3⟩ := x.tabs r hr
  by_cases hP : r.1 = P
  · have hr2 : r.2 = q := by
      unfold tabsOf at hq hr
      simp only [List.mem_cons, List.not_mem_nil, or_false] at hq hr
      rcases hq with hq | hq <;> rcases hr with hr | hr <;> (obtain ⟨q1, q2⟩ := Prod.mk.inj hq; subst hr; first | exact q2.symm | (rw [q1] at hP; exact absurd hP (by decide)))
    rw [hP] at h1 ⊢
    rw [hr2] at h3 ⊢
    rw [e] at h1
    cases h1
    refine ⟨_, e', ?_, fun pos' cv hcv => ?_⟩
    · simpa using TriplesOk_snoc _ _ _ _ h2
    · have hcv' : codeAmong pos' (ps.toList ++ [rawInt pos.line, rawInt pos.col, .ref c']) = some cv := by simpa using hcv
      rcases codeAmong_snoc_inv h2 hcv' with hcv' | rfl
      · exact CodeRec.ext (h3 _ _ hcv') ex
      · exact hc
  · exact ⟨ps2, k _ _ hP h1, h2, fun pos' cv hcv => CodeRec.ext (h3 _ _ hcv) ex⟩
noncomputable abbrev lamSc : Scope := { kind := .function, names := [(Str.ofString "one", NameKind.local), (Str.ofString "keys", NameKind.free)], isGenerator := false, isCoroutine := false }
noncomputable abbrev lamPs (p : Pos) : Arguments := { posonlyargs := [], args := [{ arg := Str.ofString "one", annotation := none, pos := p }], vararg := none, kwonlyargs := [], kw_defaults := [], kwarg := none, defaults := [] }
noncomputable abbrev lamB (p1 p2 p3 : Pos) : Expr := .Subscript (.Name (Str.ofString "keys") p1) (.Name (Str.ofString "one") p2) p3
noncomputable abbrev lamFd (q : Str) (p0 p1 p2 p3 : Pos) (c : Addr) (pm cv ct : Value) : FuncData := kla_fn "<lambda>" q (lamPs p0) (lamB p1 p2 p3) lamSc [(Str.ofString "keys", c)] pm cv ct
theorem lam_key (k : Kx C) {h : Heap} {Y : Al} {fa a c : Addr} {o : Obj} {kvs : List Value} {ks : List D} {q : Str} {p0 p1 p2 p3 : Pos} {pm cv ct : Value} (ho : h.get? fa = some o) (hd : o.data = .func (lamFd q p0 p1 p2 p3 c pm cv ct)) (hcv : h.CodeRec cv q)
    (hc : h.IsCell c (some (.ref a))) (hl : IsL h a kvs) (hr : Reps ⟨h, Y⟩ ks kvs) (hz : ks.length ≤ 1000) : (keyV C 2 ks).p ⟨h, Y⟩ (.ref fa) := by
  refine ⟨fa, kvs, o, _, rfl, ho, hd, hr, fun A s E i t hA hs hx hi => ?_⟩
  have ht : tabLike o = false := tab_data fun vs e => by rw [hd] at e; cases e
  refine wpAny_call (kla_callFunE hA.reclim (hx.keep ho ht) hd rfl rfl rfl (CodeRec.ext hcv hx) ?_)
  show wpAny C.M A.in1 (pure [(Str.ofString "one", Value.int i t)]) _ _ s
  refine wpAny_pure (wpAny_newFunctionEnv (show ∀ x ∈ lamSc.names, x.2 ≠ .cell by decide) (by simp [lamSc]) (fun h' hn hsb => ?_) rfl)
  have ex : Ext s.heap h' := .of fun b o e => hsb.extBut b o (Nat.ne_of_lt (Heap.lt_size e)) (Heap.get?_push_of_some _ e)
  have st' : St C { s with heap := h', toks := s.toks + 1 } := hs.keep (fun b o e => hsb.extBut b o (Nat.ne_of_lt (Heap.lt_size e)) (Heap.get?_push_of_some _ e)) _
  refine ⟨st'.ext.nolimit k.lim, kla_codeExpr ?_⟩
  refine Subscript_ (wpAny_Name (wpAny_loadName_free (c := c) rfl rfl rfl ((hx.trans ex).cell hc) ?_) rfl)
  refine wpAny_Name (wpAny_loadName_local (v := .int i t) rfl rfl hn rfl ?_) rfl
  have l' := (hx.trans ex).isL hl
  have hlt : i < kvs.length := by rw [hr.length]; exact hi
  exact subscriptTail_builtin l'.isList.typeIs list_getitem_lookup (wpAny_getItem_list l'.isList (by omega) (by omega) (x := kvs[i]) (by simp [hlt]) ⟨st', ex, List.getElem?_eq_getElem hlt⟩)
theorem Ev.lam (k : Kx C) (hfz : C.fz = false) {p0 p1 p2 p3 pos : Pos} {c P : Addr} {q : Str} {ks : List D} (hcode : f.env.code = .ref c) (hcP : (c, P) ∈ [((159 : Addr), (155 : Addr)), (147, 143)]) (hqual : f.env.qual ++ "<lambda>" = q) (hq : (P, q) ∈ tabsOf)
    (hk : f.ρ.lookup (Str.ofString "keys") = some (VP.at f.b (dat (.list ks)))) (hkind : f.sc.names.lookup (Str.ofString "keys") = some .cell) (hz : ks.length ≤ 1000) :
    Ev C n f (.Lambda (lamPs p0) (lamB p1 p2 p3) lamSc pos) (keyV C 2 ks) := fun A s E Y hA hs hY hp => by
  obtain ⟨v, hv, hr⟩ := hp.vars _ _ hk
  have hr' := (dat (.list ks)).ext hp.ext hr.2
  obtain ⟨a, vs, rfl, ya, l, r⟩ := rep_list hr'
  obtain ⟨cc, hcc, hcell⟩ : ∃ cc, f.env.cells.lookup (Str.ofString "keys") = some cc ∧ s.heap.IsCell cc (some (.ref a)) := by
    rcases hv with ⟨h1, _⟩ | ⟨_, cc, h1, h2⟩
    · have h1' : f.env.scope.names.lookup (Str.ofString "keys") = some .local := h1
      rw [hp.sc, hkind] at h1'; cases h1'
    · exact ⟨cc, h1, h2⟩
  have hcl : closureFor lamSc f.env = pure [(Str.ofString "keys", cc)] := by
    have e := closureFor_clos (scope := lamSc) (env := f.env) (by
      intro q hq hf
      simp only [lamSc, List.mem_cons, List.not_mem_nil, or_false] at hq
      rcases hq with rfl | rfl
      · cases hf
      · rw [hcc]; rfl)
    rw [e]
    have : clos f.env lamSc.names [] = [(Str.ofString "keys", cc)] := by
      show [(Str.ofString "keys", (f.env.cells.lookup (Str.ofString "keys")).getD 0)] = _
      rw [hcc]; rfl
    rw [this]
  obtain ⟨ps, t1, t2, t3⟩ := hs.tabs _ hq
  have hcd : CodeHd s.heap c P := by
    obtain ⟨o, vs, file, tf, flags, tg, inF, text, tt, e, e2, r⟩ := k.hT9 _ hcP
    exact ⟨o, vs, file, tf, flags, tg, inF, text, tt, hs.ext.keep e (tab_type e2), e2, r⟩
  have hct : isCodeTable C.B P := by
    obtain ⟨o, vs, file, tf, flags, tg, inF, text, tt, e, e2, e3, e4, r⟩ := k.hT9 _ hcP
    exact ⟨c, o, vs, e, e2, e3, e4⟩
  have hb : s.heap.BuiltinsAt C.mg P := by
    have hP : P ∈ [(155 : Addr), 143] := by
      simp only [List.mem_cons, List.not_mem_nil, or_false, Prod.mk.injEq] at hcP ⊢
      rcases hcP with h | h
      · exact .inl h.2
      · exact .inr h.2
    obtain ⟨bm, o, h1, h2, h3, h4, h5, h6, h7⟩ := k.bat P hP
    exact ⟨bm, o, h1, h2, h3, h4, hs.ext.keep h5 (tab_type h6), h6, h7⟩
  refine kla_eval rfl ?_
  rw [hqual]
  have hg := hs.ext.ns k.g
  cases hca : codeAmong pos ps.toList with
  | none =>
    refine kla_makeFunction hcl hp.glob hg hcode hcd t1 t2 hca (by
      simp only [List.mem_cons, List.not_mem_nil, or_false, Prod.mk.injEq] at hcP
      rcases hcP with h | h <;> (rw [h.2]; decide)) hb fun c' ctv h' tk q1 q2 q3 q4 q5 => ?_
    have st' : St C { s with heap := h', toks := tk } := St.tab hfz hs hq t1 t2 q1 q5 q4 hct
    have ex : Ext s.heap h' := Ext.tab t1 t2 q1 q5
    have ex' := ex.push' (kla_obj "<lambda>" q (lamPs p0) (lamB p1 p2 p3) lamSc [(Str.ofString "keys", cc)] ((C.mg "__name__").getD .none) c' ctv)
    refine ⟨st'.push _, ex', ?_⟩
    exact lam_key k (Heap.get?_push_size _ rfl) rfl (CodeRec.ext q4 (.push _ _)) (ex'.cell hcell) (ex'.isL l) (r.keepers (ex'.keepers _)) hz
  | some cv =>
    refine kla_makeFunctionHit hcl hp.glob hg hcode hcd t1 t2 hca hb fun ctv h' tk q1 q2 => ?_
    have st' : St C { s with heap := h', toks := tk } := hs.keep q1 tk
    have ex : Ext s.heap h' := .of q1
    have ex' := ex.push' (Obj.mk (.type "function") none (.func (lamFd q p0 p1 p2 p3 cc ((C.mg "__name__").getD .none) cv ctv)) #[])
    refine ⟨st'.push _, ex', ?_⟩
    exact lam_key k (Heap.get?_push_size _ rfl) rfl (CodeRec.ext (t3 _ _ hca) ex') (ex'.cell hcell) (ex'.isL l) (r.keepers (ex'.keepers _)) hz
end
section
variable {C : Cx} {n : Nat} {f : FS}
noncomputable def VP.Soft (b : Heap) (R : VP) : Prop := ∀ {h h' : Heap} {Y : Al} {v : Value} {I : Addr} {o : Obj}, b.get? I = none → h.get? I = some o → (∀ its n, o.data ≠ .seq its n) → Heap.ExtBut I h h' → R.p ⟨h, Y⟩ v → R.p ⟨h', Y⟩ v
theorem dat_softV {b : Heap} {d : D} : (dat d).Soft b := fun _ e hs k r => Rep.keepers (soft_keepers e hs k) r
theorem isV_softV {b : Heap} {u : Value} : (isV u).Soft b := fun _ _ _ _ r => r
theorem and_softV {b : Heap} {R S : VP} (x : R.Soft b) (y : S.Soft b) : (R.and S).Soft b := fun a e hs k r => ⟨x a e hs k r.1, y a e hs k r.2⟩
theorem at_softV {b : Heap} {R : VP} : (VP.at b R).Soft b := fun {h h' Y v I o} a e hs k r => ⟨fun {c q} z => let ⟨u, hu⟩ := r.1 z; ⟨u, k _ _ (fun hc => by rw [hc, a] at z; cases z) hu⟩, r.2⟩
theorem and_stab {R S : VP} (x : R.Stab) (y : S.Stab) : (R.and S).Stab := ⟨fun a b c d r => ⟨x.st a b c d r.1, y.st a b c d r.2⟩⟩
theorem FS.W.soft {h h' : Heap} {Y : Al} {I : Addr} {o : Obj} {F' : HP} (w : f.W C ⟨h, Y⟩) (k : Heap.ExtBut I h h') (e : h.get? I = some o) (h1 : ∀ its n, o.data ≠ .seq its n) (h2 : ∀ es n, o.data ≠ .dict es n) (h3 : ∀ v, o.data ≠ .cell v) (hb : f.b.get? I = none)
    (hρ : ∀ x R, f.ρ.lookup x = some R → R.Soft f.b) (hF : F'.p ⟨h', Y⟩) (hFs : F'.Stab f.b) : ({ f with F := F' } : FS).W C ⟨h', Y⟩ := by
  have ens : ∀ {m}, h.Ns f.env.locals m → h'.Ns f.env.locals m := fun {m} hm => hm.extBut k fun q => by
    obtain ⟨o', es, ep, e', d, _⟩ := hm
    rw [q, e] at e'; cases e'
    exact h2 _ _ d
  have ecell : ∀ {c v}, h.IsCell c v → h'.IsCell c v := fun {c v} hv => by
    obtain ⟨o', e', d⟩ := hv
    exact ⟨o', k _ _ (fun q => by rw [q, e] at e'; cases e'; exact h3 _ d) e', d⟩
  refine ⟨⟨w.toH.ext.but hb k, w.toH.sc, w.toH.kind, w.toH.glob, w.toH.bi, fun y R hy => ?_, hF⟩, w.root, ?_, w.low, fun y c k1 k2 => ?_, w.has, w.apart, w.stab, hFs⟩
  · obtain ⟨v, hv, hr⟩ := w.toH.vars y R hy
    refine ⟨v, ?_, hρ y R hy hb e h1 k hr⟩
    rcases hv with ⟨a, m, b', c⟩ | ⟨a, c, d, e'⟩
    · exact .inl ⟨a, m, ens b', c⟩
    · exact .inr ⟨a, c, d, ecell e'⟩
  · obtain ⟨m, hm⟩ := w.ns; exact ⟨m, ens hm⟩
  · obtain ⟨⟨v, hv⟩, q⟩ := w.cell y c k1 k2
    exact ⟨⟨v, ecell hv⟩, q⟩
theorem FS.W.turn {h h' : Heap} {Y : Al} {X : Addr} {vs : List Value} {ρ' : List (Str × VP)} (w : f.W C ⟨h, Y⟩) (k : ExtX X h h') (l : IsL h X vs) (hb : f.b.get? X = none)
    (hρ : ∀ q ∈ ρ', ∃ R, f.ρ.lookup q.1 = some R ∧ q.2.Stab ∧ ∀ v, R.p ⟨h, Y⟩ v → q.2.p ⟨h', Y⟩ v) (hF : f.F.p ⟨h', Y⟩) : ({ f with ρ := ρ' } : FS).W C ⟨h', Y⟩ := by
  obtain ⟨nX, eX⟩ := l
  have hρ' : ∀ x R, ρ'.lookup x = some R → ∃ R₀, f.ρ.lookup x = some R₀ ∧ R.Stab ∧ ∀ v, R₀.p ⟨h, Y⟩ v → R.p ⟨h', Y⟩ v := fun x R e => hρ (x, R) (mem_of_lookup e)
  have ens : ∀ {m}, h.Ns f.env.locals m → h'.Ns f.env.locals m := fun {m} hm => by
    obtain ⟨o', es, ep, e', d, r⟩ := hm
    exact ⟨o', es, ep, k.keep (fun q => by rw [q, eX] at e'; cases e'; cases d) e' (tab_data fun vs e => by rw [d] at e; cases e), d, r⟩
  have ecell : ∀ {c v}, h.IsCell c v → h'.IsCell c v := fun {c v} hv => by
    obtain ⟨o', e', d⟩ := hv
    exact ⟨o', k.keep (fun q => by rw [q, eX] at e'; cases e'; cases d) e' (tab_data fun vs e => by rw [d] at e; cases e), d⟩
  refine ⟨⟨ExtX.fresh w.toH.ext k hb, w.toH.sc, w.toH.kind, w.toH.glob, w.toH.bi, fun y R hy => ?_, hF⟩, w.root, ?_, w.low, fun y c k1 k2 => ?_, w.has, w.apart, fun y R hy => let ⟨_, _, a, _⟩ := hρ' y R hy; a, w.fstab⟩
  · obtain ⟨R₀, e₀, _, hc⟩ := hρ' y R hy
    obtain ⟨v, hv, hr⟩ := w.toH.vars y R₀ e₀
    refine ⟨v, ?_, hc v hr⟩
    rcases hv with ⟨a, m, b', c⟩ | ⟨a, c, d, e'⟩
    · exact .inl ⟨a, m, ens b', c⟩
    · exact .inr ⟨a, c, d, ecell e'⟩
  · obtain ⟨m, hm⟩ := w.ns; exact ⟨m, ens hm⟩
  · obtain ⟨⟨v, hv⟩, q⟩ := w.cell y c k1 k2
    exact ⟨⟨v, ecell hv⟩, q⟩
theorem at_turn {b h h' : Heap} {Y : Al} {X : Addr} {R : VP} {v : Value} (k : ExtX X h h') (r : (VP.at b R).p ⟨h, Y⟩ v) : (VP.at b R).p ⟨h', Y⟩ v := ⟨fun e => let ⟨_, e'⟩ := r.1 e; k.live e', r.2⟩
theorem int_turn {i : Int} {h h' : Vw} {v : Value} (r : (dat (.int i)).p h v) : (dat (.int i)).p h' v := by obtain ⟨t, rfl⟩ := rep_int r; exact mk_int
noncomputable def rgF (I : Addr) (m i : Nat) : HP := ⟨fun k => IsRangeIter k.h I i ((m : Int) - i) 1, fun x e => x.keep e rfl⟩
theorem rgF_stab {b : Heap} {I : Addr} {m i : Nat} : (rgF I m i).Stab b := ⟨fun {h h' Y a o o'} _ e hs e' k r => (k.2 I (by
  have r' : h.get? I = some _ := r
  rintro rfl; rw [e] at r'; cases r'; cases hs)).trans r⟩
theorem rgF_turn {I X : Addr} {m i : Nat} {h h' : Heap} {Y : Al} {vs : List Value} (k : ExtX X h h') (l : IsL h X vs) (r : (rgF I m i).p ⟨h, Y⟩) : (rgF I m i).p ⟨h', Y⟩ := by
  have r' : h.get? I = some _ := r
  obtain ⟨nX, eX⟩ := l
  exact k.keep (fun q => by rw [q, eX] at r'; simp [LObj] at r') r' rfl
theorem Tr.for {func e : Expr} {pos : Pos} {m : Nat} {x : Str} {px p : Pos} {body : List Stmt} {Q : Flow → Vw → Prop} (ρ : Nat → List (Str × VP)) (hfu : Ev C n { f with ρ := ρ 0, F := .top } func (isV (.type "range"))) (he : Ev C n { f with ρ := ρ 0, F := .top } e (dat (.int m))) (hm : m ≤ 1000000)
    (hx : f.sc.names.lookup x = some .local) (hsoft : ∀ i, ∀ q ∈ ρ i, q.2.Soft f.b)
    (hb : ∀ I i, i < m → Tr C n (({ f with ρ := (x, dat (.int i)) :: ρ i, F := rgF I m (i + 1) } : FS).W C) (execs body f.env)
      (fun fl k => match fl with | .next => ({ f with ρ := ρ (i + 1), F := rgF I m (i + 1) } : FS).W C k | .cont => False | .brk => Q .next k | .ret v => Q (.ret v) k))
    (hQ : ∀ k, ({ f with ρ := ρ m, F := .top } : FS).W C k → Q .next k)
    (h1 : ∀ env, eval (.Call func [e] [] pos) env = (do callWith pos (← eval func env) [] (backTo pos (starEach [e] env)) (backToKw pos (keywordEach [] env))) := by intro _; rfl)
    (h2 : ∀ env, starEach [e] env = (false, eval e env) :: starEach [] env := by intro _; rfl)
    (h3 : ∀ env v, foldedSetIterable (.Call func [e] [] pos) env v = pure v := by intro _ _; rfl)
    (h4 : ∀ it v, letOwnedTupleGo (.Name x px) it v = pure () := by intro _ _; rfl) :
    Tr C n (({ f with ρ := ρ 0, F := .top } : FS).W C) (exec (.For (.Name x px) (.Call func [e] [] pos) body [] p) f.env) Q := fun A s E Y hA hs hY w => by
  have hev : Ev C n { f with ρ := ρ 0, F := .top } (.Call func [e] [] pos) (rangeV m) := Ev.callT hfu (Evl.cons he .nil h2) (call1 do_range) h1 h2 (fun _ => rfl)
  refine wpAny_For (wpAny_mono (hev A s E Y hA hs hY w.toH) (fun v s1 ⟨g1, g2, g3⟩ => ?_) fun _ _ e => e) (h3 _)
  obtain ⟨r, t, u, z, rfl, hr⟩ := g3
  have w1 := w.up g2
  have hY1 := hY.ext g2
  refine wpAny_pyIter_range hr (small_one (by decide) (by decide) (by omega) (by omega)) ?_
  have eI : Builtin.Range.rangeSize 0 m 1 = (m : Int) := by rw [rangeSize_nat]; omega
  rw [eI]
  have hIn := get?_size s1.heap
  have hI2 : IsRangeIter (s1.heap.push { cls := .type "range_iterator", data := .fields #[rawInt 0, rawInt m, rawInt 1] }) s1.heap.objs.size ((0 : Nat) : Int) ((m : Int) - ((0 : Nat) : Int)) 1 := by
    have := Heap.get?_push_size s1.heap (o := { cls := .type "range_iterator", data := .fields #[rawInt 0, rawInt m, rawInt 1] }) rfl
    simpa [IsRangeIter] using this
  have st2 := g1.push { cls := .type "range_iterator", data := .fields #[rawInt 0, rawInt m, rawInt 1] }
  have w2 := w1.up (Ext.push s1.heap { cls := .type "range_iterator", data := .fields #[rawInt 0, rawInt m, rawInt 1] })
  have hY2 := hY1.ext (Ext.push s1.heap { cls := .type "range_iterator", data := .fields #[rawInt 0, rawInt m, rawInt 1] })
  have hbI : f.b.get? s1.heap.objs.size = none := w1.toH.ext.none hIn
  have hYI : Y s1.heap.objs.size := hY1.size
  generalize s1.heap.objs.size = I at hIn hI2 hbI hYI
  generalize hhp : s1.heap.push { cls := .type "range_iterator", data := .fields #[rawInt 0, rawInt m, rawInt 1] } = hp at hI2 st2 w2 hY2
  have w2' : ({ f with ρ := ρ 0, F := rgF I m 0 } : FS).W C ⟨hp, Y⟩ := ⟨⟨w2.toH.ext, w2.toH.sc, w2.toH.kind, w2.toH.glob, w2.toH.bi, w2.toH.vars, hI2⟩, w2.root, w2.ns, w2.low, w2.cell, w2.has, w2.apart, w2.stab, rgF_stab⟩
  have hCI : C.B.get? I = none := w.root.none hbI
  refine codeAny_forLoop (fun j s' => ∃ i, j = m - i ∧ i ≤ m ∧ St C s' ∧ Ok Y s'.heap ∧ ({ f with ρ := ρ i, F := rgF I m i } : FS).W C ⟨s'.heap, Y⟩) ?_ m ⟨0, rfl, Nat.zero_le _, st2, hY2, w2'⟩ (h4 _)
  rintro j s' ⟨i, rfl, hi, q1, q2, q3⟩
  have hIi : IsRangeIter s'.heap I i ((m : Int) - i) 1 := q3.toH.more
  have hsoft' : ∀ y R, (ρ i).lookup y = some R → R.Soft f.b := fun y R e => hsoft i (y, R) (mem_of_lookup e)
  by_cases hlt : i < m
  · refine wpAny_pyNext_range_item hIi (by omega) fun h' z1 z2 => ?_
    have z1' : IsRangeIter h' I ((i + 1 : Nat) : Int) ((m : Int) - ((i + 1 : Nat) : Int)) 1 := by
      have e1 : (((i + 1 : Nat) : Int)) = i + 1 := by omega
      have e2 : (m : Int) - ((i + 1 : Nat) : Int) = m - i - 1 := by omega
      rw [e2, e1]; exact z1
    have st3 : St C { s' with heap := h', toks := s'.toks + 1 } := q1.same hIi rfl hCI z2 _
    have w3 := q3.soft (F' := rgF I m (i + 1)) z2.extBut hIi nofun nofun nofun hbI hsoft' z1' rgF_stab
    refine wpAny_assign_Name (FS.W.store (f := { f with ρ := ρ i, F := rgF I m (i + 1) }) (R := dat (.int i)) w3 st3 (q2.same z2 z1) (.inl hx) mk_int (dat_stab _) fun s4 st4 hY4 w4 _ => ?_)
    refine wpAny_mono (hb I i hlt A s4 _ Y hA st4 hY4 w4) (fun fl s5 ⟨k1, k2, k3⟩ => ?_) fun _ _ e => e
    cases fl with
    | next => exact ⟨m - (i + 1), by omega, i + 1, rfl, hlt, k1, k2, k3⟩
    | cont => exact k3.elim
    | brk => exact ⟨k1, k2, k3⟩
    | ret v => exact ⟨k1, k2, k3⟩
  · have him : i = m := by omega
    subst him
    refine wpAny_pyNext_range_end hA.hh hIi (by omega) fun h' z => wpAny_execs_nil ?_
    have st3 : St C { s' with heap := h' } := q1.but hIi rfl hCI z s'.toks
    have w3 := q3.soft (F' := HP.top) z hIi nofun nofun nofun hbI hsoft' trivial top_stab
    refine ⟨st3, fun a e => ?_, hQ _ w3⟩
    by_cases ha : a = I
    · rw [ha]; exact hYI
    · refine q2 a ?_
      cases q : s'.heap.get? a with
      | none => rfl
      | some o => rw [z a o ha q] at e; cases e
theorem Tr.forS {func e : Expr} {pos : Pos} {x : Str} {px p : Pos} {body rest : List Stmt} {Q : Flow → Vw → Prop} (P' : Vw → Prop) (h : Tr C n (f.W C) (exec (.For (.Name x px) (.Call func [e] [] pos) body [] p) f.env) (fun fl k => match fl with | .next => P' k | fl => Q fl k)) (hr : Tr C n P' (execs rest f.env) Q) :
    Tr C n (f.W C) (execs (.For (.Name x px) (.Call func [e] [] pos) body [] p :: rest) f.env) Q := Tr.cons h hr
theorem Tr.ex {ι : Type} {P : ι → Vw → Prop} {t : Sem Flow} {Q : Flow → Vw → Prop} (h : ∀ i, Tr C n (P i) t Q) : Tr C n (fun k => ∃ i, P i k) t Q := fun A s E Y hA hs hY ⟨i, p⟩ => h i A s E Y hA hs hY p
theorem Tr.andl {p : Prop} {P : Vw → Prop} {t : Sem Flow} {Q : Flow → Vw → Prop} (h : p → Tr C n P t Q) : Tr C n (fun k => p ∧ P k) t Q := fun A s E Y hA hs hY ⟨i, p⟩ => h i A s E Y hA hs hY p
end
local macro_rules | `(tactic| walk_at "soft") => `(tactic| (repeat' (first | exact List.forall_mem_nil _ | refine List.forall_mem_cons.mpr ⟨?_, ?_⟩)) <;> (first | exact at_softV | exact dat_softV | exact and_softV isV_softV dat_softV | exact isV_softV))
section
variable {C : Cx} {n : Nat} {f : FS}
noncomputable def newL (b : Heap) (ds : List D) : VP := ⟨fun k v => (∃ a, v = .ref a ∧ b.get? a = none) ∧ (dat (.list ds)).p k v, fun x r => ⟨r.1, (dat _).ext x r.2⟩, fun x r => ⟨r.1, (dat _).ref x r.2⟩⟩
theorem newL_stab {b : Heap} {ds : List D} : (newL b ds).Stab := ⟨fun a b c d r => ⟨r.1, (dat_stab _).st a b c d r.2⟩⟩
theorem Ev.listNew {es : List Expr} {pos : Pos} {ds : List D} (h : Evl C n f pos es (ds.map dat)) (hl : ds.length ≤ 1000000 := by decide) : Ev C n f (.List es pos) (newL f.b ds) := fun A s E Y hA hs hY hp => by
  refine wpAny_List (wpAny_mono (h A s E Y hA hs hY hp) (fun vs s1 ⟨h1, h2, h3⟩ => ?_) fun _ _ e => e)
  have hr := All2.reps h3
  refine ⟨by rw [hr.length]; unfold sizeLine; omega, h1.push _, h2.push' _, ⟨_, rfl, (hp.ext.trans h2).none (get?_size _)⟩, ?_⟩
  simp only [dat, Rep]
  exact ⟨_, vs, rfl, (hY.ext h2).size, ⟨0, Heap.get?_push_size _ rfl⟩, hr.keepers ((Ext.push _ _).keepers _)⟩
theorem FS.W.newL {x : Str} {ds : List D} {k : Vw} {b : Heap} (w : (f.put x (newL b ds)).W C k) : ∃ a, b.get? a = none ∧ (f.put x ((isV (.ref a)).and (dat (.list ds)))).W C k := by
  obtain ⟨v, hv, ⟨a, rfl, ha⟩, hr⟩ := w.toH.vars x (Mine.newL b ds) (by show List.lookup x ((x, _) :: _) = _; simp)
  have hl : ∀ {R : VP} {y}, ((x, R) :: f.ρ).lookup y = if y = x then some R else f.ρ.lookup y := fun {R y} => by
    rw [List.lookup_cons]
    by_cases hy : y = x
    · subst hy; simp
    · have : (y == x) = false := by simpa using hy
      simp only [this, if_neg hy]
  refine ⟨a, ha, ⟨w.toH.ext, w.toH.sc, w.toH.kind, w.toH.glob, w.toH.bi, fun y R e => ?_, w.toH.more⟩, w.root, w.ns, w.low, w.cell, w.has, w.apart, fun y R e => ?_, w.fstab⟩
  · have e' : ((x, _) :: f.ρ).lookup y = some R := e
    rw [hl] at e'
    by_cases hy : y = x
    · subst hy
      rw [if_pos rfl] at e'
      cases e'
      exact ⟨_, hv, rfl, hr⟩
    · rw [if_neg hy] at e'
      exact w.toH.vars y R (by show List.lookup y ((x, _) :: f.ρ) = _; rw [hl, if_neg hy]; exact e')
  · have e' : ((x, _) :: f.ρ).lookup y = some R := e
    rw [hl] at e'
    by_cases hy : y = x
    · subst hy
      rw [if_pos rfl] at e'
      cases e'
      exact and_stab (isV_stab _) (dat_stab _)
    · rw [if_neg hy] at e'
      exact w.stab y R (by show List.lookup y ((x, _) :: f.ρ) = _; rw [hl, if_neg hy]; exact e')
theorem wp_callK {A : Around} {s : Shared} {E : Value → Shared → Prop} {Y : Al} {Q : Value → Shared → Prop} {func : Expr} {e ke : Expr} {es : List Expr} {pos kp : Pos} {kn : Str} {fa : Addr} {fd : FuncData} {body : List Stmt} {Rs : List VP} {RK : VP} (hF : Fn C fa fd body) (hf : Ev C n f func (isV (.ref fa))) (ha : Evl C n f pos (e :: es) Rs) (hk : Ev C n f ke RK)
    (hA : Room n A) (hs : St C s) (hY : Ok Y s.heap) (hp : f.H ⟨s.heap, Y⟩)
    (hc : ∀ vs kv s2, St C s2 → Ok Y s2.heap → Ext s.heap s2.heap → All2 ⟨s2.heap, Y⟩ Rs vs → RK.p ⟨s2.heap, Y⟩ kv → wpAny C.M A (call (.ref fa) vs [(kn, kv)]) Q E s2)
    (he : ∀ env, eval (.Call func (e :: es) [⟨some kn, ke, kp⟩] pos) env = (do callWith pos (← eval func env) [] (backTo pos (starEach (e :: es) env)) (backToKw pos (keywordEach [⟨some kn, ke, kp⟩] env))) := by intro _; rfl)
    (hst : ∀ env, starEach (e :: es) env = (false, eval e env) :: starEach es env := by intro _; rfl) : wpAny C.M A (eval (.Call func (e :: es) [⟨some kn, ke, kp⟩] pos) f.env) Q E s := by
  rw [he]
  refine wpAny_bind (wpAny_mono (hf A s E Y hA hs hY hp) (fun v s1 ⟨h1, h2, h3⟩ => ?_) fun _ _ e => e)
  have h3' : v = .ref fa := h3
  subst h3'
  obtain ⟨o, ho, hd⟩ := hF.obj
  refine callWith_def_kw hd ?_
  have hb : backTo pos (starEach (e :: es) f.env) = (false, eval e f.env) :: backTo pos (starEach es f.env) := by rw [hst]; rfl
  have ha' := ha A s1 E Y hA h1 (hY.ext h2) (hp.up h2)
  rw [hb] at ha' ⊢
  refine evalArgs_kw rfl (wpAny_mono ha' (fun vs s2 ⟨g1, g2, g3⟩ => ?_) fun _ _ e => e)
  show wpAny C.M A (evalAll [(do let v ← eval ke f.env; standAt pos; pure v)]) _ E s2
  refine wpAny_evalAll_cons (wpAny_bind (wpAny_mono (hk A s2 E Y hA g1 (hY.ext (h2.trans g2)) (hp.up (h2.trans g2))) (fun kv s3 ⟨k1, k2, k3⟩ => wpAny_bind (wpAny_standAt (wpAny_pure (wpAny_evalAll_nil ⟨k1.ext.keep ho (tab_data fun vs e => by rw [hd] at e; cases e), ?_⟩)))) fun _ _ e => e))
  exact hc vs kv s3 k1 (hY.ext ((h2.trans g2).trans k2)) ((h2.trans g2).trans k2) (g3.ext k2) k3
noncomputable abbrev turnQ (ad : Addr) (d : D) : Heap → Flow → Vw → Prop := fun b fl k => fl = .next ∧ ExtX ad b k.h ∧ (dat d).p k (.ref ad)
theorem do_ir2k (k : Kx C) {A : Around} {s : Shared} {E : Value → Shared → Prop} {Y : Al} {as : List Nat} {ks X : List D} {x : Nat} (p : Nat → Bool) {m : Nat} {ad : Addr} (hm : m ≤ n) (hx : ks[x]? = some (.list X))
    (hp : ∀ i a, as[i]? = some a → ∃ kd, ks[a]? = some (.list kd) ∧ klt X kd = some (!(p i))) (hl : as.length ≤ 1000) (had : C.B.get? ad = none) (hA : Room (n + 2) A) (hs : St C s) (hY : Ok Y s.heap) (xv kf : Value)
    (h1 : ((isV (.ref ad)).and (dat (nats as))).p ⟨s.heap, Y⟩ (.ref ad)) (h2 : (dat (.int x)).p ⟨s.heap, Y⟩ xv) (h3 : (keyV C m ks).p ⟨s.heap, Y⟩ kf) :
    wpAny C.M A (call (.ref 102) [.ref ad, xv] [(Str.ofString "key", kf)]) (fun v s' => v = .none ∧ St C s' ∧ Ok Y s'.heap ∧ ExtX ad s.heap s'.heap ∧ (dat (nats (ins as (bis p 0 as.length) x))).p ⟨s'.heap, Y⟩ (.ref ad)) E s := by
  obtain ⟨t, hb⟩ := bd_ir2k k s hs (.ref ad) xv kf
  refine callFn k (ρ := [(Str.ofString "a", (isV (.ref ad)).and (dat (nats as))), (Str.ofString "x", (dat (.int x))), (Str.ofString "lo", (dat (.int 0))), (Str.ofString "hi", (dat .none)), (Str.ofString "key", (keyV C m ks))]) (F := .top) (q := turnQ ad (nats (ins as (bis p 0 as.length) x))) (fn_insort_right k) hA hs hY rfl hb (by walk_at "kinds") (by walk_at "nd") (List.forall_mem_cons.mpr ⟨⟨_, rfl, h1⟩, List.forall_mem_cons.mpr ⟨⟨_, rfl, h2⟩, List.forall_mem_cons.mpr ⟨⟨_, rfl, mk_int⟩, List.forall_mem_cons.mpr ⟨⟨_, rfl, mk_none⟩, List.forall_mem_cons.mpr ⟨⟨_, rfl, h3⟩, List.forall_mem_nil _⟩⟩⟩⟩⟩) (fun _ _ => trivial) top_stab
    (fun L => ins_right k p hm hx hp hl had) fun fl s' q1 q2 ⟨q3, q4, q5⟩ => ?_
  subst q3
  exact ⟨rfl, q1, q2, q4, q5⟩
theorem do_il2k (k : Kx C) {A : Around} {s : Shared} {E : Value → Shared → Prop} {Y : Al} {as : List Nat} {ks X : List D} {x : Nat} (p : Nat → Bool) {m : Nat} {ad : Addr} (hm : m ≤ n) (hx : ks[x]? = some (.list X))
    (hp : ∀ i a, as[i]? = some a → ∃ kd, ks[a]? = some (.list kd) ∧ klt kd X = some (p i)) (hl : as.length ≤ 1000) (had : C.B.get? ad = none) (hA : Room (n + 2) A) (hs : St C s) (hY : Ok Y s.heap) (xv kf : Value)
    (h1 : ((isV (.ref ad)).and (dat (nats as))).p ⟨s.heap, Y⟩ (.ref ad)) (h2 : (dat (.int x)).p ⟨s.heap, Y⟩ xv) (h3 : (keyV C m ks).p ⟨s.heap, Y⟩ kf) :
    wpAny C.M A (call (.ref 120) [.ref ad, xv] [(Str.ofString "key", kf)]) (fun v s' => v = .none ∧ St C s' ∧ Ok Y s'.heap ∧ ExtX ad s.heap s'.heap ∧ (dat (nats (ins as (bis p 0 as.length) x))).p ⟨s'.heap, Y⟩ (.ref ad)) E s := by
  obtain ⟨t, hb⟩ := bd_il2k k s hs (.ref ad) xv kf
  refine callFn k (ρ := [(Str.ofString "a", (isV (.ref ad)).and (dat (nats as))), (Str.ofString "x", (dat (.int x))), (Str.ofString "lo", (dat (.int 0))), (Str.ofString "hi", (dat .none)), (Str.ofString "key", (keyV C m ks))]) (F := .top) (q := turnQ ad (nats (ins as (bis p 0 as.length) x))) (fn_insort_left k) hA hs hY rfl hb (by walk_at "kinds") (by walk_at "nd") (List.forall_mem_cons.mpr ⟨⟨_, rfl, h1⟩, List.forall_mem_cons.mpr ⟨⟨_, rfl, h2⟩, List.forall_mem_cons.mpr ⟨⟨_, rfl, mk_int⟩, List.forall_mem_cons.mpr ⟨⟨_, rfl, mk_none⟩, List.forall_mem_cons.mpr ⟨⟨_, rfl, h3⟩, List.forall_mem_nil _⟩⟩⟩⟩⟩) (fun _ _ => trivial) top_stab
    (fun L => ins_left k p hm hx hp hl had) fun fl s' q1 q2 ⟨q3, q4, q5⟩ => ?_
  subst q3
  exact ⟨rfl, q1, q2, q4, q5⟩
noncomputable def insK (lt : Nat → Nat → Bool) (as : List Nat) (even : Bool) (x : Nat) : List Nat :=
  ins as (bis (fun j => if even then lt (as.getD j 0) x else !(lt x (as.getD j 0))) 0 as.length) x
noncomputable def rowUp (lt : Nat → Nat → Bool) (N : Nat) (turn : Int) : Nat → List Nat
  | 0 => []
  | i + 1 => insK lt (rowUp lt N turn i) (i % 2 == 0) ((i + turn).fmod N).toNat
noncomputable def KeysOk (lt : Nat → Nat → Bool) (ks : List D) : Prop := ∀ a b, a < ks.length → b < ks.length → ∃ x y, ks[a]? = some (.list x) ∧ ks[b]? = some (.list y) ∧ klt x y = some (lt a b)
theorem fmod_lt {x : Int} {N : Nat} (h : 0 < N) : (x.fmod N).toNat < N ∧ ((x.fmod N).toNat : Int) = x.fmod N := by
  have h1 := Int.fmod_nonneg_of_pos x (show (0 : Int) < N by omega)
  have h2 := Int.fmod_lt_of_pos x (show (0 : Int) < N by omega)
  omega
theorem rowUp_len (lt N turn) : ∀ i, (rowUp lt N turn i).length = i
  | 0 => rfl
  | i + 1 => by
    have ih := rowUp_len lt N turn i
    have := bis_le (fun j => if (i % 2 == 0) = true then lt ((rowUp lt N turn i).getD j 0) ((i + turn).fmod N).toNat else !(lt ((i + turn).fmod N).toNat ((rowUp lt N turn i).getD j 0))) 0 _ (Nat.zero_le (rowUp lt N turn i).length)
    simp only [rowUp, insK, ins, List.length_append, List.length_take, List.length_cons, List.length_drop]
    omega
theorem rowUp_lt (lt) {N : Nat} (turn) (h : 0 < N) : ∀ i, ∀ a ∈ rowUp lt N turn i, a < N
  | 0, a, ha => by cases ha
  | i + 1, a, ha => by
    simp only [rowUp, insK, ins, List.mem_append, List.mem_cons] at ha
    rcases ha with ha | ha | ha
    · exact rowUp_lt lt turn h i a (List.mem_of_mem_take ha)
    · rw [ha]; exact (fmod_lt h).1
    · exact rowUp_lt lt turn h i a (List.mem_of_mem_drop ha)
end
section
variable {C : Cx} {n : Nat} {f : FS}
theorem row_step (k : Kx C) {s : Shared} {Y : Al} {b : Heap} {L : Nat} {ks : List D} {turn : Int} {lt : Nat → Nat → Bool} (hks : KeysOk lt ks) (hN : 0 < ks.length) (hz : ks.length ≤ 1000) {ad : Addr} {I : Addr} {i : Nat}
    {h' : Heap} (w : (ff C 148 b L [(Str.ofString "place", dat (.int ((i + turn).fmod ks.length).toNat)), (Str.ofString "k", dat (.int i)), (Str.ofString "keys", VP.at b (dat (.list ks))), (Str.ofString "turn", VP.at b (dat (.int turn))), (Str.ofString "row", (isV (.ref ad)).and (dat (nats (rowUp lt ks.length turn i))))] (rgF I ks.length (i + 1))).W C ⟨s.heap, Y⟩)
    (hb : b.get? ad = none) (hx : ExtX ad s.heap h') (hr : (dat (nats (rowUp lt ks.length turn (i + 1)))).p ⟨h', Y⟩ (.ref ad)) :
    (ff C 148 b L [(Str.ofString "keys", VP.at b (dat (.list ks))), (Str.ofString "turn", VP.at b (dat (.int turn))), (Str.ofString "row", (isV (.ref ad)).and (dat (nats (rowUp lt ks.length turn (i + 1)))))] (rgF I ks.length (i + 1))).W C ⟨h', Y⟩ := by
  obtain ⟨v, hv, hv2⟩ := w.toH.vars (Str.ofString "row") ((isV (.ref ad)).and (dat (nats (rowUp lt ks.length turn i)))) rfl
  have e : v = .ref ad := hv2.1
  subst e
  obtain ⟨a, vs, e, ya, l, r⟩ := rep_list hv2.2
  cases e
  refine FS.W.turn (f := ff C 148 b L _ _) w hx l hb ?_ (rgF_turn hx l w.toH.more)
  refine List.forall_mem_cons.mpr ⟨⟨_, rfl, at_stab _ _, fun v r => at_turn hx r⟩, List.forall_mem_cons.mpr ⟨⟨_, rfl, at_stab _ _, fun v r => at_turn hx r⟩, List.forall_mem_cons.mpr ⟨⟨_, rfl, and_stab (isV_stab _) (dat_stab _), fun v r => ?_⟩, List.forall_mem_nil _⟩⟩⟩
  have e : v = .ref ad := r.1
  subst e
  exact ⟨rfl, hr⟩
theorem body_row (k : Kx C) (hfz : C.fz = false) {b : Heap} {L : Nat} {ks : List D} {turn : Int} {lt : Nat → Nat → Bool} (hks : KeysOk lt ks) (hN : 0 < ks.length) (hz : ks.length ≤ 1000) :
    Tr C (n + 4) ((ff C 148 b L [(Str.ofString "keys", VP.at b (dat (.list ks))), (Str.ofString "turn", VP.at b (dat (.int turn)))] .top).W C)
      (execs (bodyOf C.w.params 148) (fenv (fdOf C.w.params 148) 148 L)) (givesQ (dat (nats (rowUp lt ks.length turn ks.length))) b) := by
  conv in (bodyOf _ _) => whnf
  refine Tr.assignS (f := ff C 148 b L _ .top) (R := newL b []) (Ev.listNew (f := ff C 148 b L _ .top) (ds := []) .nil) (.inl rfl) newL_stab rfl ?_
  refine Tr.pre (P := fun k => ∃ ad, b.get? ad = none ∧ (ff C 148 b L [(Str.ofString "keys", VP.at b (dat (.list ks))), (Str.ofString "turn", VP.at b (dat (.int turn))), (Str.ofString "row", (isV (.ref ad)).and (dat (nats [])))] .top).W C k) ?_ (fun k w => ?_)
  · refine Tr.ex fun ad => Tr.andl fun had => ?_
    refine Tr.forS (f := ff C 148 b L _ .top) (fun k => (ff C 148 b L [(Str.ofString "keys", VP.at b (dat (.list ks))), (Str.ofString "turn", VP.at b (dat (.int turn))), (Str.ofString "row", (isV (.ref ad)).and (dat (nats (rowUp lt ks.length turn ks.length))))] .top).W C k) ?_ ?_
    · refine Tr.for (f := ff C 148 b L [] .top) (m := ks.length) (fun i => [(Str.ofString "keys", VP.at b (dat (.list ks))), (Str.ofString "turn", VP.at b (dat (.int turn))), (Str.ofString "row", (isV (.ref ad)).and (dat (nats (rowUp lt ks.length turn i))))])
        (Ev.bi k bn_range rfl rfl (by decide) rfl) ?_ (by omega) rfl (fun i => by walk_at "soft") (fun I i hi => ?_) (fun k w => w)
      · exact Ev.callB (Ev.bi k bn_len rfl rfl (by decide) rfl) (Evl.cons (R := dat (.list ks)) (Ev.here (by walk_at "nm")) .nil) (call1 (do_len (by omega)))
      · obtain ⟨hlt, hcast⟩ := fmod_lt (x := (i : Int) + turn) hN
        refine Tr.assignS (f := ff C 148 b L _ (rgF I ks.length (i + 1))) (R := dat (.int ((i + turn).fmod ks.length).toNat)) ?_ (.inl rfl) (dat_stab _) rfl ?_
        · rw [hcast]
          exact Ev.bin (Ev.bin (by walk_at "nm") (Ev.here (by walk_at "nm")) op_add) (Ev.callB (Ev.bi k bn_len rfl rfl (by decide) rfl) (Evl.cons (R := dat (.list ks)) (Ev.here (by walk_at "nm")) .nil) (call1 (do_len (by omega)))) (op_mod (by omega))
        refine Tr.exprEnd (Tr.ite (f := ff C 148 b L _ (rgF I ks.length (i + 1))) (c := i % 2 == 0) ?_ (fun hc => ?_) (fun hc => ?_))
        · refine (Ts.cmp (Ev.bin (by walk_at "nm") Ev.int (op_mod (by decide))) Ev.int cmp_eq rfl).eq ?_
          rw [Int.fmod_eq_emod_of_nonneg _ (by decide)]
          rw [Bool.eq_iff_iff]
          simp only [beq_iff_eq]
          omega
        · refine Tr.exprEnd fun A s E Y hA hs hY w => wpAny_Expr ?_ rfl rfl
          obtain ⟨X, X', hX, _, _⟩ := hks ((i + turn).fmod ks.length).toNat ((i + turn).fmod ks.length).toNat hlt hlt
          refine wp_callK (f := ff C 148 b L [(Str.ofString "place", dat (.int ((i + turn).fmod ks.length).toNat)), (Str.ofString "k", dat (.int i)), (Str.ofString "keys", VP.at b (dat (.list ks))), (Str.ofString "turn", VP.at b (dat (.int turn))), (Str.ofString "row", (isV (.ref ad)).and (dat (nats (rowUp lt ks.length turn i))))] (rgF I ks.length (i + 1)))
            (Rs := [(isV (.ref ad)).and (dat (nats (rowUp lt ks.length turn i))), dat (.int ((i + turn).fmod ks.length).toNat)]) (RK := keyV C 2 ks) (fn_insort_left k) (Ev.gl k rfl rfl rfl) (Evl.cons (by walk_at "nm") (Evl.cons (by walk_at "nm") .nil))
            (Ev.lam k hfz (c := 147) (P := 143) (q := Str.ofString "_law_row.<locals>.<lambda>") rfl (by decide) (by kernel_rfl) (by unfold tabsOf; exact .tail _ (.head _)) rfl rfl hz) hA hs hY w.toH fun vs kv s2 g1 g2 g3 g4 g5 => ?_
          obtain ⟨a, x', rfl, z1, z2⟩ := two g4
          have e : a = .ref ad := z1.1
          subst e
          refine wpAny_mono (do_il2k k (fun j => lt ((rowUp lt ks.length turn i).getD j 0) ((i + turn).fmod ks.length).toNat) (n := n + 2) (m := 2) (by omega) hX (fun j a ha => ?_) (by rw [rowUp_len]; omega) (w.root.none had) hA g1 g2 x' kv z1 z2 g5) (fun v s3 ⟨q0, q1, q2, q3, q4⟩ => ?_) fun _ _ e => e
          · obtain ⟨x, y, e1, e2, e3⟩ := hks a _ (rowUp_lt lt turn hN i a (List.mem_of_getElem? ha)) hlt
            rw [hX] at e2; cases e2
            refine ⟨x, e1, ?_⟩
            rw [e3, List.getD_eq_getElem?_getD, ha]; rfl
          · subst q0
            refine ⟨q1, q2, ?_⟩
            refine row_step k hks hN hz w had (g3.extX q3) ?_
            have e : rowUp lt ks.length turn (i + 1) = ins (rowUp lt ks.length turn i) (bis (fun j => lt ((rowUp lt ks.length turn i).getD j 0) ((i + turn).fmod ks.length).toNat) 0 (rowUp lt ks.length turn i).length) ((i + turn).fmod ks.length).toNat := by
              simp only [rowUp, insK]; rw [hc]; rfl
            rw [e]; exact q4
        · refine Tr.exprEnd fun A s E Y hA hs hY w => wpAny_Expr ?_ rfl rfl
          obtain ⟨X, X', hX, _, _⟩ := hks ((i + turn).fmod ks.length).toNat ((i + turn).fmod ks.length).toNat hlt hlt
          refine wp_callK (f := ff C 148 b L [(Str.ofString "place", dat (.int ((i + turn).fmod ks.length).toNat)), (Str.ofString "k", dat (.int i)), (Str.ofString "keys", VP.at b (dat (.list ks))), (Str.ofString "turn", VP.at b (dat (.int turn))), (Str.ofString "row", (isV (.ref ad)).and (dat (nats (rowUp lt ks.length turn i))))] (rgF I ks.length (i + 1)))
            (Rs := [(isV (.ref ad)).and (dat (nats (rowUp lt ks.length turn i))), dat (.int ((i + turn).fmod ks.length).toNat)]) (RK := keyV C 2 ks) (fn_insort_right k) (Ev.gl k rfl rfl rfl) (Evl.cons (by walk_at "nm") (Evl.cons (by walk_at "nm") .nil))
            (Ev.lam k hfz (c := 147) (P := 143) (q := Str.ofString "_law_row.<locals>.<lambda>") rfl (by decide) (by kernel_rfl) (by unfold tabsOf; exact .tail _ (.head _)) rfl rfl hz) hA hs hY w.toH fun vs kv s2 g1 g2 g3 g4 g5 => ?_
          obtain ⟨a, x', rfl, z1, z2⟩ := two g4
          have e : a = .ref ad := z1.1
          subst e
          refine wpAny_mono (do_ir2k k (fun j => !(lt ((i + turn).fmod ks.length).toNat ((rowUp lt ks.length turn i).getD j 0))) (n := n + 2) (m := 2) (by omega) hX (fun j a ha => ?_) (by rw [rowUp_len]; omega) (w.root.none had) hA g1 g2 x' kv z1 z2 g5) (fun v s3 ⟨q0, q1, q2, q3, q4⟩ => ?_) fun _ _ e => e
          · obtain ⟨x, y, e1, e2, e3⟩ := hks _ a hlt (rowUp_lt lt turn hN i a (List.mem_of_getElem? ha))
            rw [hX] at e1; cases e1
            refine ⟨y, e2, ?_⟩
            rw [e3, List.getD_eq_getElem?_getD, ha]; simp
          · subst q0
            refine ⟨q1, q2, ?_⟩
            refine row_step k hks hN hz w had (g3.extX q3) ?_
            have e : rowUp lt ks.length turn (i + 1) = ins (rowUp lt ks.length turn i) (bis (fun j => !(lt ((i + turn).fmod ks.length).toNat ((rowUp lt ks.length turn i).getD j 0))) 0 (rowUp lt ks.length turn i).length) ((i + turn).fmod ks.length).toNat := by
              simp only [rowUp, insK]; rw [hc]; rfl
            rw [e]; exact q4
    · exact Tr.retS (f := ff C 148 b L _ .top) (R := (isV (.ref ad)).and (dat (nats (rowUp lt ks.length turn ks.length)))) (by walk_at "nm") fun k v h1 h2 => ⟨h1.ext, v, rfl, h2.2⟩
  · obtain ⟨a, ha, w'⟩ := FS.W.newL (f := ff C 148 b L [(Str.ofString "keys", VP.at b (dat (.list ks))), (Str.ofString "turn", VP.at b (dat (.int turn)))] .top) w
    exact ⟨a, ha, w'.weaken (by
      intro x R e
      have e' := mem_of_lookup e
      simp only [List.mem_cons, List.not_mem_nil, or_false, Prod.mk.injEq] at e'
      rcases e' with ⟨rfl, rfl⟩ | ⟨rfl, rfl⟩ | ⟨rfl, rfl⟩ <;> rfl)⟩
theorem do_row (k : Kx C) (hfz : C.fz = false) {ks : List D} {turn : Int} {lt : Nat → Nat → Bool} (hks : KeysOk lt ks) (hN : 0 < ks.length) (hz : ks.length ≤ 1000) (a t : Value) :
    Does C (n + 5) (fun q => (dat (.list ks)).p q a ∧ (dat (.int turn)).p q t) (call (.ref 148) [a, t]) (dat (nats (rowUp lt ks.length turn ks.length))).p := fun A s E Y hA hs hY ⟨h0, h1⟩ => by
  have hb : Bd s (fdOf C.w.params 148) ⟨[a, t], []⟩ [(Str.ofString "keys", a), (Str.ofString "turn", t)] := by
    have e : fdOf C.w.params 148 = fdOf C.w.params 148 := rfl
    conv at e => rhs; whnf
    rw [e]
    exact ⟨.of_eq rfl⟩
  refine callFn k (ρ := [(Str.ofString "keys", dat (.list ks)), (Str.ofString "turn", dat (.int turn))]) (F := .top) (q := givesQ (dat (nats (rowUp lt ks.length turn ks.length)))) (fn_row k) hA hs hY rfl hb (by walk_at "kinds") (by walk_at "nd") (List.forall_mem_cons.mpr ⟨⟨_, rfl, h0⟩, List.forall_mem_cons.mpr ⟨⟨_, rfl, h1⟩, List.forall_mem_nil _⟩⟩) (fun _ _ => trivial) top_stab
    (fun L => body_row k hfz hks hN hz) fun fl s' q1 q2 ⟨q3, v, e, q4⟩ => ?_
  subst e
  exact ⟨q1, q3, q4⟩
end
section
variable {C : Cx} {n : Nat} {f : FS}
theorem slice_ret {l : Addr} {vs : List Value} {lo hi st : Option Int} {vl vu vt : Value} {A : Around} {s : Shared} {E : Value → Shared → Prop} {Y : Al} {ds ds' : List D} (hs : St C s) (hY : Ok Y s.heap) (hl : IsL s.heap l vs) (hr : Reps ⟨s.heap, Y⟩ ds vs) (hz : ds.length ≤ 1000000)
    (pl : IsPart vl lo) (pu : IsPart vu hi) (ps : IsPart vt st) (h0 : st ≠ some 0) (he : ∀ h, Reps ⟨h, Y⟩ ds vs → Reps ⟨h, Y⟩ ds' (slicePick vs.toArray lo hi st).toList) {s₀ : Shared} (hx : Ext s₀.heap s.heap) :
    wpAny C.M A (getItem (.ref l) (.ref s.heap.objs.size)) (fun v s' => St C s' ∧ Ext s₀.heap s'.heap ∧ (dat (.list ds')).p ⟨s'.heap, Y⟩ v) E { s with heap := s.heap.push { cls := .type "slice", data := .fields #[vl, vu, vt] } } := by
  have x1 := Ext.push s.heap { cls := .type "slice", data := .fields #[vl, vu, vt] }
  refine wpAny_getItem_list_slice (x1.isL hl).isList (Heap.IsSliceOf.new _ _ _ _) pl pu ps h0 ?_ (by rw [List.size_toArray, hr.length]; unfold sizeLine; omega)
  refine ⟨(hs.push _).push _, (hx.trans x1).push' _, ?_⟩
  refine mk_list (h := ⟨_, Y⟩) ((hY.ext x1).size) (vs := (slicePick vs.toArray lo hi st).toList) ⟨0, ?_⟩ ((he s.heap hr).keepers ((x1.push' _).keepers Y))
  rw [Heap.get?_push_size _ rfl]
theorem Ev.slice {v a b : Expr} {p pos : Pos} {ds : List D} {i j : Nat} (hv : Ev C n f v (dat (.list ds))) (ha : Ev C n f a (dat (.int i))) (hb : Ev C n f b (dat (.int j))) (hij : i ≤ j) (hj : j ≤ ds.length) (hz : ds.length ≤ 1000000)
    (ht : ∀ o r, letTemporaryGo v o r = pure () := by intro _ _; rfl) : Ev C n f (.Subscript v (.Slice (some a) (some b) none p) pos) (dat (.list ((ds.drop i).take (j - i)))) := fun A s E Y hA hs hY hp => by
  refine wpAny_Subscript_Slice list_getitem_lookup (wpAny_mono (hv A s E Y hA hs hY hp) (fun o s1 ⟨h1, h2, h3⟩ => wpAny_Slice ?_) fun _ _ e => e) ht
  rw [evalPart_some, evalPart_some, evalPart_none]
  refine wpAny_mono (ha A s1 E Y hA h1 (hY.ext h2) (hp.up h2)) (fun x s2 ⟨g1, g2, g3⟩ => ?_) fun _ _ e => e
  refine wpAny_mono (hb A s2 E Y hA g1 (hY.ext (h2.trans g2)) (hp.up (h2.trans g2))) (fun y s3 ⟨k1, k2, k3⟩ => ?_) fun _ _ e => e
  refine wpAny_pure ?_
  obtain ⟨l, vs, rfl, ya, hl, hr⟩ := rep_list ((dat _).ext (g2.trans k2) h3)
  obtain ⟨t, rfl⟩ := rep_int g3
  obtain ⟨u, rfl⟩ := rep_int k3
  have hx := (h2.trans g2).trans k2
  refine ⟨((Ext.push s3.heap _).isL hl).isList.typeIs, slice_ret k1 (hY.ext hx) hl hr hz (.int _ _) (.int _ _) .none (by decide) (fun h r => ?_) hx⟩
  rw [slicePick_run _ i j (by rw [List.size_toArray, hr.length]; exact hj) hij]
  exact (r.drop i).take (j - i)
theorem Ev.rev {v e1 : Expr} {p pos : Pos} {ds : List D} (hv : Ev C n f v (dat (.list ds))) (he : Ev C n f e1 (dat (.int (-1)))) (hz : ds.length ≤ 1000000)
    (ht : ∀ o r, letTemporaryGo v o r = pure () := by intro _ _; rfl) : Ev C n f (.Subscript v (.Slice none none (some e1) p) pos) (dat (.list ds.reverse)) := fun A s E Y hA hs hY hp => by
  refine wpAny_Subscript_Slice_step list_getitem_lookup (wpAny_mono (hv A s E Y hA hs hY hp) (fun o s1 ⟨h1, h2, h3⟩ => wpAny_Slice ?_) fun _ _ e => e) ht
  rw [evalPart_none, evalPart_some]
  refine wpAny_pure ?_
  refine wpAny_pure ?_
  refine wpAny_mono (he A s1 E Y hA h1 (hY.ext h2) (hp.up h2)) (fun x s2 ⟨g1, g2, g3⟩ => ?_) fun _ _ e => e
  obtain ⟨l, vs, rfl, ya, hl, hr⟩ := rep_list ((dat _).ext g2 h3)
  obtain ⟨t, rfl⟩ := rep_int g3
  have hx := h2.trans g2
  refine ⟨((Ext.push s2.heap _).isL hl).isList.typeIs, slice_ret g1 (hY.ext hx) hl hr hz .none .none (.int _ _) (by decide) (fun h r => ?_) hx⟩
  rw [krv_pick]
  exact r.reverse
noncomputable def scrV (ns : List Int) : VP := ⟨fun k v => ∃ (a : Addr) (vs : List Value), v = .ref a ∧ k.h.IsList a vs.toArray ∧ IntsAre vs ns, fun {h h' Y v} x r => by obtain ⟨a, vs, e, l, i⟩ := r; exact ⟨a, vs, e, Ext.list (h := h) (h' := h') x l, i⟩, fun _ r => r⟩
theorem ints_reps_of {k : Vw} : ∀ {vs : List Value} {ns : List Int}, IntsAre vs ns → Reps k (ns.map .int) vs
  | _, _, .nil => by simp [Reps]
  | _, _, .cons i t r => by rw [List.map_cons]; exact .cons (mk_int (h := k)) (ints_reps_of r)
theorem IntsAre.take' : ∀ {vs : List Value} {ns : List Int}, IntsAre vs ns → ∀ j, IntsAre (vs.take j) (ns.take j)
  | _, _, r, 0 => by simpa using IntsAre.nil
  | _, _, .nil, _ + 1 => by simpa using IntsAre.nil
  | _, _, .cons i t r, j + 1 => by simpa using IntsAre.cons i t (IntsAre.take' r j)
theorem Ev.upto {v b : Expr} {p pos : Pos} {ns : List Int} {j : Nat} (hv : Ev C n f v (scrV ns)) (hb : Ev C n f b (dat (.int j))) (hz : ns.length ≤ 1000000)
    (ht : ∀ o r, letTemporaryGo v o r = pure () := by intro _ _; rfl) : Ev C n f (.Subscript v (.Slice none (some b) none p) pos) (dat (.list ((ns.take j).map .int))) := fun A s E Y hA hs hY hp => by
  refine wpAny_Subscript_Slice list_getitem_lookup (wpAny_mono (hv A s E Y hA hs hY hp) (fun o s1 ⟨h1, h2, h3⟩ => wpAny_Slice ?_) fun _ _ e => e) ht
  rw [evalPart_none, evalPart_some]
  refine wpAny_pure ?_
  refine wpAny_mono (hb A s1 E Y hA h1 (hY.ext h2) (hp.up h2)) (fun y s3 ⟨k1, k2, k3⟩ => ?_) fun _ _ e => e
  refine wpAny_pure ?_
  obtain ⟨l, vs, rfl, hl, hi⟩ := (scrV ns).ext k2 h3
  obtain ⟨u, rfl⟩ := rep_int k3
  have hx := h2.trans k2
  have x1 := Ext.push s3.heap { cls := .type "slice", data := .fields #[.none, .int j u, .none] }
  refine ⟨(x1.list hl).typeIs, wpAny_getItem_list_slice (x1.list hl) (Heap.IsSliceOf.new _ _ _ _) .none (.int _ _) .none (by decide) ?_ (by rw [List.size_toArray, hi.length]; unfold sizeLine; omega)⟩
  refine ⟨(k1.push _).push _, (hx.trans x1).push' _, ?_⟩
  refine mk_list (h := ⟨_, Y⟩) ((hY.ext (hx.trans x1)).size) (vs := (slicePick vs.toArray none (some j) none).toList) ⟨0, ?_⟩ ?_
  · rw [Heap.get?_push_size _ rfl]
  · rw [slicePick_upto']
    exact ints_reps_of (IntsAre.take' hi j)
theorem reps_ints {k : Vw} : ∀ {ns : List Int} {vs : List Value}, Reps k (ns.map .int) vs → IntsAre vs ns
  | [], vs, r => by rw [List.map_nil, Reps] at r; subst r; exact .nil
  | i :: ns, vs, r => by
    rw [List.map_cons, Reps] at r
    obtain ⟨v, r', rfl, q1, q2⟩ := r
    obtain ⟨t, rfl⟩ := rep_int (h := k) q1
    exact .cons i t (reps_ints q2)
theorem do_sum {ns : List Int} (v : Value) : Does C n (fun k => (dat (.list (ns.map .int))).p k v) (call (.builtin "sum") [v]) (dat (.int ns.sum)).p := fun A s E Y hA hs hY hp => by
  obtain ⟨l, vs, rfl, ya, hl, hr⟩ := rep_list hp
  have hi := reps_ints hr
  obtain ⟨xs, hx⟩ := hi.allInts.items
  have hn : numsOf vs.toArray.toList = ns := by rw [show vs.toArray.toList = vs from rfl, hi.numsOf]
  have hl' := hl.isList
  rw [hx] at hl' hn
  rw [nums_intItems] at hn
  have hsz : (intItems xs).size = xs.size := by simp [intItems]
  refine call_sum_walkAnyS (iter_intList hl' fun s₂ e st hfp hlI => ?_)
  subst e
  have W := (Walks.list (prog := C.prog) (w := C.w) (A := A.in1) hA.hh s.heap.objs.size l hlI (intItems xs)).toS
  rw [hsz] at W
  refine ⟨s.heap.objs.size, _, _, _, _, _, _, numAt xs, rfl, W, st, hfp, fun i v hP => intItems_at hP, fun s' t' hm => ?_⟩
  obtain ⟨h', g', d', tk', os'⟩ := s'
  have e1 : g' = s.gens := hm.gens
  have e2 : d' = s.drawn := hm.drawn
  have e3 : os' = s.os := hm.os
  subst e1 e2 e3
  have hk : ∀ b o, s.heap.get? b = some o → h'.get? b = some o := fun b o e => hm.heap b o (fun hb => absurd (Heap.lt_size e) ((List.mem_singleton.mp hb) ▸ Nat.lt_irrefl _)) (Heap.get?_push_of_some _ e)
  rw [preSum_eq, List.take_of_length_le (by simp), hn]
  exact ⟨hs.keep hk tk', .of hk, mk_int⟩
theorem do_min2 {a b : Int} (v : Value) : Does C n (fun k => (dat (.list [.int a, .int b])).p k v) (call (.builtin "min") [v]) (dat (.int (if b < a then b else a))).p := fun A s E Y hA hs hY hp => by
  obtain ⟨l, vs, rfl, ya, hl, hr⟩ := rep_list hp
  rw [Reps] at hr
  obtain ⟨va, r, rfl, q1, q2⟩ := hr
  rw [Reps] at q2
  obtain ⟨vb, r, rfl, q2, q3⟩ := q2
  rw [Reps] at q3
  subst q3
  obtain ⟨t, rfl⟩ := rep_int (h := ⟨s.heap, Y⟩) q1
  obtain ⟨u, rfl⟩ := rep_int (h := ⟨s.heap, Y⟩) q2
  have hl' : s.heap.IsList l (intItems #[(a, t), (b, u)]) := by simpa [intItems] using hl.isList
  refine min_intList hA.hh hl' (by simp) fun v h' tk hv hk => ⟨hs.keep hk tk, .of hk, ?_⟩
  have e : argBest (fun i j => decide (numAt #[(a, t), (b, u)] i < numAt #[(a, t), (b, u)] j)) (#[(a, t), (b, u)].size - 1) = if b < a then 1 else 0 := by
    simp [argBest, numAt]
  rw [e] at hv
  by_cases hba : b < a
  · rw [if_pos hba] at hv ⊢
    simp [intItems] at hv
    rw [← hv]; exact mk_int
  · rw [if_neg hba] at hv ⊢
    simp [intItems] at hv
    rw [← hv]; exact mk_int
theorem do_index {as : List Nat} {x : Nat} (hx : x ∈ as) (hz : as.length ≤ 1000000) (v u : Value) : Does C n (fun k => (dat (nats as)).p k v ∧ (dat (.int x)).p k u) (call (.builtin "list.index") [v, u]) (dat (.int (as.idxOf x))).p := fun A s E Y hA hs hY ⟨hp, hu⟩ => by
  obtain ⟨l, vs, rfl, ya, hl, hr⟩ := rep_list hp
  obtain ⟨t, rfl⟩ := rep_int hu
  obtain ⟨m, ho⟩ := hl
  have hr' : Reps ⟨s.heap, Y⟩ ((as.map fun (i : Nat) => (i : Int)).map .int) vs := by rw [List.map_map]; exact hr
  have hi := reps_ints hr'
  have hlen := hi.length
  have hj : as.idxOf x < as.length := List.idxOf_lt_length_iff.mpr hx
  have hlen' : vs.length = as.length := by rw [hr.length, List.length_map]
  have at' : ∀ j (h1 : j < vs.toArray.size), isInt x vs.toArray[j] = ((as[j]'(by simp at h1; omega)) == x) := fun j h1 => by
    have h1' : j < vs.length := by simpa using h1
    show isInt x vs[j] = _
    rw [isInt_at (x : Int) hi j h1' (by simp; omega)]
    rw [List.getElem_map, Bool.eq_iff_iff]
    simp only [beq_iff_eq]
    omega
  refine call_meets PySem.F.slot_list_index ⟨_, ho, rfl⟩ PySem.F.entry_list_index (PySem.F.args_list_index_2 _ _)
    (PySem.SeqAt.list_indexAt l vs.toArray m none #[] (.int x t) (isInt x) (as.idxOf x) (by simp; omega) (by omega) ?_ ?_) ⟨ho, fun y hy => (eq_isInt (x : Int) t hi y (by simpa using hy)).at _ _, hs.tok _, .refl _, mk_int⟩
  · rw [at']; simpa using List.getElem_idxOf hj
  · intro j hjs hlt
    rw [at']
    have := List.not_of_lt_findIdx (p := (· == x)) (xs := as) (i := j) (by simpa [List.idxOf] using hlt)
    simpa using this
theorem do_chr {c : Nat} (hc : c ≤ 1000) (v : Value) : Does C n (fun k => (dat (.int c)).p k v) (call (.builtin "chr") [v]) (dat (.str ⟨#[c]⟩)).p := fun A s E Y hA hs hY hp => by
  obtain ⟨t, rfl⟩ := rep_int hp
  exact chr_of_range (by omega) (by omega) ⟨hs.tok _, .refl _, mk_str⟩
end
section
variable {C : Cx} {n : Nat} {f : FS}
noncomputable abbrev S (l : List Nat) : Str := ⟨l.toArray⟩
theorem S_len (l : List Nat) : (S l).length = l.length := by simp [Str.length]
theorem S_app (a b : List Nat) : S a ++ S b = S (a ++ b) := Str.ext' (by simp [Str.cps_append])
theorem S_inj {a b : List Nat} (h : S a = S b) : a = b := by
  have := congrArg (fun x : Str => x.cps.toList) h
  simpa using this
noncomputable def rst (a : List Nat) : List Nat := (a.reverse.dropWhile (· == 47)).reverse
theorem take_rev {p : Nat → Bool} (l : List Nat) : l.take (l.length - (l.reverse.takeWhile p).length) = (l.reverse.dropWhile p).reverse := by
  have h := List.takeWhile_append_dropWhile (p := p) (l := l.reverse)
  have e : l = (l.reverse.dropWhile p).reverse ++ (l.reverse.takeWhile p).reverse := by
    rw [← List.reverse_append, h, List.reverse_reverse]
  have hl : l.length = (l.reverse.dropWhile p).length + (l.reverse.takeWhile p).length := by
    have := congrArg List.length e
    simpa using this
  have h2 : l.length - (l.reverse.takeWhile p).length = ((l.reverse.dropWhile p).reverse).length := by rw [List.length_reverse]; omega
  rw [h2]
  conv => lhs; arg 2; rw [e]
  exact List.take_left
theorem rstrip_S (a : List Nat) : Txt.rstripChars (S a) (S [47]) = S (rst a) := by
  unfold Txt.rstripChars
  rw [PyProof.Rows.stripBy_eq, strSub_mk]
  have e1 : stripLo (S [47]).cps.contains false (S a) = 0 := rfl
  rw [e1]
  unfold rst
  rw [← take_rev]
  have e2 : stripHi (S [47]).cps.contains true (S a) 0 = a.length - (a.reverse.takeWhile (· == 47)).length := by
    unfold stripHi
    rw [if_pos rfl, S_len]
    have e3 : (S [47]).cps.contains = (fun c => c == 47) := by
      funext c
      simp [Array.contains]
    rw [e3]
    simp
  rw [e2]
  simp
theorem rst_end {a : List Nat} (c : Nat) (hc : c ≠ 47) (s : Nat) : rst (a ++ c :: List.replicate s 47) = a ++ [c] := by
  unfold rst
  have hb : (c == 47) = false := by simpa using hc
  have e : (a ++ c :: List.replicate s 47).reverse = List.replicate s 47 ++ c :: a.reverse := by simp [List.reverse_append, List.reverse_cons]
  rw [e]
  have d : ∀ s, (List.replicate s 47 ++ c :: a.reverse).dropWhile (· == 47) = c :: a.reverse := by
    intro s
    induction s with
    | zero => simp [List.dropWhile_cons, hb]
    | succ s ih => rw [List.replicate_succ, List.cons_append, List.dropWhile_cons]; simpa using ih
  rw [d]
  simp
theorem rst_all (s : Nat) : rst (List.replicate s 47) = [] := by
  unfold rst
  rw [List.reverse_replicate]
  have : ∀ s, (List.replicate s 47).dropWhile (· == 47) = [] := by
    intro s
    induction s with
    | zero => rfl
    | succ s ih => rw [List.replicate_succ, List.dropWhile_cons]; simpa using ih
  rw [this]; rfl
theorem rfind_S (a : List Nat) (c : Nat) (hc : c ≠ 47) : Txt.rfind (S (a ++ [47, c])) (S [47]) = (a.length : Int) := by
  have at' : ∀ i, StrLaws.At (S (a ++ [47, c])) (S [47]) (S (a ++ [47, c])).length i ↔ (a ++ [47, c])[i]? = some 47 := by
    intro i
    unfold StrLaws.At
    rw [StrLaws.subAt_eq, S_len, S_len]
    constructor
    · rintro ⟨h1, h2⟩
      have h2' : ((a ++ [47, c]).drop i).take 1 = [47] := by simpa [S_len] using h2
      have := congrArg (fun l : List Nat => l[0]?) h2'
      simpa using this
    · intro h
      have hlt := (List.getElem?_eq_some_iff.mp h).1
      refine ⟨by have h1 := hlt; simp at h1 ⊢; omega, ?_⟩
      have e : ((a ++ [47, c]).drop i).take 1 = [47] := by
        rw [List.take_one, List.head?_drop, h]; rfl
      show ((a ++ [47, c]).drop i).take (S [47]).length == [47]
      rw [S_len]
      show (((a ++ [47, c]).drop i).take 1 == [47]) = true
      rw [e]; rfl
  have hit : (a ++ [47, c])[a.length]? = some 47 := by rw [List.getElem?_append_right (Nat.le_refl _)]; simp
  rcases rfind_whole (S (a ++ [47, c])) (S [47]) with ⟨_, hn⟩ | ⟨i, h1, h2, h3⟩
  · exact absurd ((at' _).mpr hit) (hn _)
  · rw [h1]
    have h2' := (at' i).mp h2
    have hlt : i < a.length + 2 := by simpa using (List.getElem?_eq_some_iff.mp h2').1
    rcases Nat.lt_trichotomy i a.length with hl | hl | hl
    · exact absurd ((at' _).mpr hit) (h3 _ hl)
    · rw [hl]
    · have e : i = a.length + 1 := by omega
      subst e
      rw [List.getElem?_append_right (by omega)] at h2'
      simp at h2'
      exact absurd h2' hc
theorem op_adds {a b : List Nat} (hl : a.length + b.length ≤ 1000000) (u v : Value) : Does C n (fun k => (dat (.str (S a))).p k u ∧ (dat (.str (S b))).p k v) (binaryOp .Add u v) (dat (.str (S (a ++ b)))).p := fun A s E Y hA hs hY ⟨h1, h2⟩ => by
  obtain ⟨t, rfl⟩ := rep_str h1; obtain ⟨t', rfl⟩ := rep_str h2
  exact SB.add (fun t' k => ⟨hs.tok _, .refl _, by rw [S_app]; exact mk_str⟩) (by rw [S_len, S_len]; unfold sizeLine; omega)
theorem foldl_rep (x : Array Nat) : ∀ (m : Nat) (acc : Array Nat), ((List.replicate m x).foldl (· ++ ·) acc).toList = acc.toList ++ (List.replicate m x.toList).flatten
  | 0, acc => by simp
  | m + 1, acc => by
    rw [List.replicate_succ, List.foldl_cons, foldl_rep x m, List.replicate_succ, List.flatten_cons]
    simp
theorem flat_rep (c : Nat) : ∀ m, (List.replicate m [c]).flatten = List.replicate m c
  | 0 => rfl
  | m + 1 => by rw [List.replicate_succ, List.flatten_cons, flat_rep c m, List.replicate_succ]; rfl
theorem op_muls {c m : Nat} (hm : m ≤ 1000) (u v : Value) : Does C n (fun k => (dat (.str (S [c]))).p k u ∧ (dat (.int m)).p k v) (binaryOp .Mult u v) (dat (.str (S (List.replicate m c)))).p := fun A s E Y hA hs hY ⟨h1, h2⟩ => by
  obtain ⟨t, rfl⟩ := rep_str h1; obtain ⟨t', rfl⟩ := rep_int h2
  have z1 : (S [c]).length = 1 := rfl
  refine PySem.P.mul_str ?_ (fun h1 _ => ?_) (fun _ _ => ?_) ?_
  · have a : ¬ ((m : Int) < -(2 ^ 63 : Int)) := by omega
    have b : ¬ ((m : Int) ≥ 2 ^ 63) := by omega
    rw [decide_eq_false a, decide_eq_false b]; rfl
  · rw [z1]
    have h0 : (0 : Int) < m := by omega
    have : (m : Int) ≤ 2 ^ 63 - 1 := by omega
    have := Int.le_ediv_of_mul_le h0 (a := 1) (b := 2 ^ 63 - 1) (by omega)
    omega
  · rw [z1]
    have : 1 * (m : Int).toNat = m := by omega
    rw [this]
    have hh : m ≤ sizeLine := by unfold sizeLine; omega
    unfold PySem.Builtin.Str.tooLong
    simpa using hh
  · by_cases c0 : (m : Int) < 1
    · rw [if_pos c0]
      have e : m = 0 := by omega
      subst e
      exact ⟨by decide, hs.tok _, .refl _, mk_str⟩
    · rw [if_neg c0]
      by_cases c1 : m = 1
      · subst c1
        exact ⟨hs.tok s.toks, .refl _, mk_str⟩
      · rw [if_neg (by simp [z1]; omega)]
        have e : (⟨(List.replicate (m : Int).toNat (S [c]).cps).foldl (· ++ ·) #[]⟩ : Str) = S (List.replicate m c) := by
          apply Str.ext'
          apply Array.toList_inj.mp
          rw [foldl_rep]
          have : (m : Int).toNat = m := by omega
          rw [this]
          show [] ++ (List.replicate m [c]).flatten = List.replicate m c
          rw [List.nil_append]
          exact flat_rep c m
        rw [e]
        exact ⟨by rw [S_len, List.length_replicate]; unfold sizeLine; omega, hs.tok _, .refl _, mk_str⟩
theorem cmp_eqs {a b : List Nat} (u v : Value) : Does C n (fun k => (dat (.str (S a))).p k u ∧ (dat (.str (S b))).p k v) (compareOp .Eq u v) (dat (.bool (a == b))).p := fun A s E Y hA hs hY ⟨h1, h2⟩ => by
  obtain ⟨t, rfl⟩ := rep_str h1; obtain ⟨t', rfl⟩ := rep_str h2
  exact PySem.P.eq_str ⟨hs, .refl _, mk_bool⟩
theorem cmp_nes {a b : List Nat} (u v : Value) : Does C n (fun k => (dat (.str (S a))).p k u ∧ (dat (.str (S b))).p k v) (compareOp .NotEq u v) (dat (.bool (a != b))).p := fun A s E Y hA hs hY ⟨h1, h2⟩ => by
  obtain ⟨t, rfl⟩ := rep_str h1; obtain ⟨t', rfl⟩ := rep_str h2
  exact PySem.P.ne_str ⟨hs, .refl _, mk_bool⟩
theorem do_rstrip {a : List Nat} (hl : a.length ≤ 1000000) (u v : Value) : Does C n (fun k => (dat (.str (S a))).p k u ∧ (dat (.str (S [47]))).p k v) (call (.builtin "str.rstrip") [u, v]) (dat (.str (S (rst a)))).p := fun A s E Y hA hs hY ⟨h1, h2⟩ => by
  obtain ⟨t, rfl⟩ := rep_str h1; obtain ⟨t', rfl⟩ := rep_str h2
  exact SC.rstripChars (fun t' k => ⟨hs.tok _, .refl _, by rw [rstrip_S]; exact mk_str⟩) (by rw [S_len]; unfold sizeLine; omega)
theorem do_rfind {a : List Nat} {c : Nat} (hc : c ≠ 47) (u v : Value) : Does C n (fun k => (dat (.str (S (a ++ [47, c])))).p k u ∧ (dat (.str (S [47]))).p k v) (call (.builtin "str.rfind") [u, v]) (dat (.int a.length)).p := fun A s E Y hA hs hY ⟨h1, h2⟩ => by
  obtain ⟨t, rfl⟩ := rep_str h1; obtain ⟨t', rfl⟩ := rep_str h2
  exact SC.rfind ⟨hs.tok _, .refl _, by rw [rfind_S a c hc]; exact mk_int⟩
theorem do_lens {a : List Nat} (hl : a.length ≤ 1000000) (u : Value) : Does C n (fun k => (dat (.str (S a))).p k u) (call (.builtin "len") [u]) (dat (.int a.length)).p := fun A s E Y hA hs hY h1 => by
  obtain ⟨t, rfl⟩ := rep_str h1
  exact PySem.P.len_str (by rw [S_len]; omega) ⟨hs.tok _, .refl _, by rw [S_len]; exact mk_int⟩
theorem Ts.str {e : Expr} {a : List Nat} (he : Ev C n f e (dat (.str (S a)))) (hl : a.length ≤ 1000000) (h : ∀ env w, isTrue e env w = (do let v ← w; standAt e.pos; holding [v] (truthy v)) := by intro _ _; rfl) : Ts C n f e (!a.isEmpty) := fun A s E Y hA hs hY hp => by
  refine wpAny_isTrue_value (wpAny_mono (he A s E Y hA hs hY hp) (fun v s1 ⟨h1, h2, h3⟩ => ?_) fun _ _ e => e) (h _ _)
  obtain ⟨t, rfl⟩ := rep_str h3
  refine PySem.P.truthy_str (by rw [S_len]; omega) ⟨h1.tok _, h2, ?_⟩
  rw [S_len]
  cases a with
  | nil => rfl
  | cons c r => simp; omega
theorem keptSt {s₀ s : Shared} (hs : St C s) (hx : Ext s₀.heap s.heap) : KeptH (fun h => St C { s with heap := h } ∧ Ext s₀.heap h) := fun h ob ⟨a, b⟩ => ⟨a.push ob, b.push' ob⟩
theorem slice_take (a : List Nat) {j : Nat} (hj : j ≤ a.length) : Txt.slice (S a) none (some (j : Int)) = S (a.take j) := by
  show StrLaws.sliceText (S a) none (some (j : Int)) = _
  unfold StrLaws.sliceText
  rw [StrLaws.sliceIdx_none_lo]
  have := StrLaws.sliceText_nat (S a) (a := 0) (b := j) (Nat.zero_le _) (by rw [S_len]; exact hj)
  unfold StrLaws.sliceText at this
  simpa using this
theorem slice_drop (a : List Nat) {i : Nat} (hi : i ≤ a.length) : Txt.slice (S a) (some (i : Int)) none = S (a.drop i) := by
  show StrLaws.sliceText (S a) (some (i : Int)) none = _
  unfold StrLaws.sliceText
  rw [StrLaws.sliceIdx_none_hi]
  have := StrLaws.sliceText_nat (S a) (a := i) (b := (S a).length) (by rw [S_len]; exact hi) (Nat.le_refl _)
  unfold StrLaws.sliceText at this
  rw [this]
  rw [S_len, List.take_of_length_le (by simp)]
theorem Ev.headS {v b : Expr} {p pos : Pos} {a : List Nat} {j : Nat} (hv : Ev C n f v (dat (.str (S a)))) (hb : Ev C n f b (dat (.int j))) (hj : j ≤ a.length) (hz : a.length ≤ 1000000)
    (ht : ∀ o r, letTemporaryGo v o r = pure () := by intro _ _; rfl) : Ev C n f (.Subscript v (.Slice none (some b) none p) pos) (dat (.str (S (a.take j)))) := fun A s E Y hA hs hY hp => by
  refine Subscript_Slice (wpAny_mono (hv A s E Y hA hs hY hp) (fun o s1 ⟨h1, h2, h3⟩ => wpAny_Slice ?_) fun _ _ e => e) ht
  rw [evalPart_none, evalPart_some]
  refine wpAny_pure ?_
  refine wpAny_mono (hb A s1 E Y hA h1 (hY.ext h2) (hp.up h2)) (fun y s3 ⟨k1, k2, k3⟩ => ?_) fun _ _ e => e
  refine wpAny_pure ?_
  obtain ⟨t, rfl⟩ := rep_str h3
  obtain ⟨u, rfl⟩ := rep_int k3
  exact SBH.sliceItem_ns (P := fun h => St C { s3 with heap := h } ∧ Ext s.heap h) (keptSt k1 (h2.trans k2)) ⟨k1, h2.trans k2⟩ (fun h' t' k ⟨q1, q2⟩ => ⟨q1.tok k, q2, by rw [slice_take a hj]; exact mk_str⟩) (by rw [S_len]; unfold sizeLine; omega)
theorem Ev.tailS {v b : Expr} {p pos : Pos} {a : List Nat} {i : Nat} (hv : Ev C n f v (dat (.str (S a)))) (hb : Ev C n f b (dat (.int i))) (hi : i ≤ a.length) (hz : a.length ≤ 1000000)
    (ht : ∀ o r, letTemporaryGo v o r = pure () := by intro _ _; rfl) : Ev C n f (.Subscript v (.Slice (some b) none none p) pos) (dat (.str (S (a.drop i)))) := fun A s E Y hA hs hY hp => by
  refine Subscript_Slice (wpAny_mono (hv A s E Y hA hs hY hp) (fun o s1 ⟨h1, h2, h3⟩ => wpAny_Slice ?_) fun _ _ e => e) ht
  rw [evalPart_none, evalPart_some]
  refine wpAny_mono (hb A s1 E Y hA h1 (hY.ext h2) (hp.up h2)) (fun y s3 ⟨k1, k2, k3⟩ => ?_) fun _ _ e => e
  refine wpAny_pure ?_
  refine wpAny_pure ?_
  obtain ⟨t, rfl⟩ := rep_str h3
  obtain ⟨u, rfl⟩ := rep_int k3
  exact SBH.sliceItem_sn (P := fun h => St C { s3 with heap := h } ∧ Ext s.heap h) (keptSt k1 (h2.trans k2)) ⟨k1, h2.trans k2⟩ (fun h' t' k ⟨q1, q2⟩ => ⟨q1.tok k, q2, by rw [slice_drop a hi]; exact mk_str⟩) (by rw [S_len]; unfold sizeLine; omega)
end
section
variable {C : Cx} {n : Nat} {f : FS}
theorem put2 {f : FS} {x y : Str} {R S : VP} : ((f.put x R).put y S).env = f.env := rfl
theorem tupExt {s : Shared} {h' : Heap} (k : Heap.ExtBut s.heap.objs.size s.heap h') : ∀ b o, s.heap.get? b = some o → h'.get? b = some o := fun b o e => k b o (Nat.ne_of_lt (Heap.lt_size e)) e
theorem rep_tup {h : Vw} {ds : List D} {v : Value} (x : (dat (.tup ds)).p h v) : ∃ a vs, v = .ref a ∧ h.Y a ∧ IsT h.h a vs ∧ Reps h ds vs := by simpa only [dat, Rep] using x
theorem reps2 {k : Vw} {d1 d2 : D} {vs : List Value} (r : Reps k [d1, d2] vs) : ∃ a b, vs = [a, b] ∧ Rep k d1 a ∧ Rep k d2 b := by
  rw [Reps] at r
  obtain ⟨a, r', rfl, q1, q2⟩ := r
  rw [Reps] at q2
  obtain ⟨b, r'', rfl, q2, q3⟩ := q2
  rw [Reps] at q3
  subst q3
  exact ⟨a, b, rfl, q1, q2⟩
theorem Tr.swap2 {x y : Str} {px py pt pv p : Pos} {k1 k2 : Nat} {e1 e2 : Expr} {d1 d2 : D} {rest : List Stmt} {Q : Flow → Vw → Prop} (he : Ev C n f (.Tuple [e1, e2] k2 pv) (dat (.tup [d1, d2])))
    (hx : f.sc.names.lookup x = some .local) (hy : f.sc.names.lookup y = some .local)
    (hs : swapsWithSole [Expr.Tuple [Expr.Name x px, Expr.Name y py] k1 pt] (.Tuple [e1, e2] k2 pv) p.line f.env = pure false)
    (hw : swappedStores [Expr.Tuple [Expr.Name x px, Expr.Name y py] k1 pt] (.Tuple [e1, e2] k2 pv) f.env = pure (some [x, y]))
    (h : Tr C n (((f.put y (dat d2)).put x (dat d1)).W C) (execs rest f.env) Q) :
    Tr C n (f.W C) (execs (.Assign [Expr.Tuple [Expr.Name x px, Expr.Name y py] k1 pt] (.Tuple [e1, e2] k2 pv) p :: rest) f.env) Q :=
  Tr.cons (P' := ((f.put y (dat d2)).put x (dat d1)).W C) (fun A s E Y hA hs' hY w => by
    refine Assign_Tuple_swapped (wpAny_mono (he A s E Y hA hs' hY w.toH) (fun v s1 ⟨h1, h2, h3⟩ => ?_) fun _ _ e => e) hs hw
    obtain ⟨t, vs, rfl, yt, ht, hr⟩ := rep_tup h3
    obtain ⟨a, b, rfl, r1, r2⟩ := reps2 hr
    refine unpackItems_tuple (items := [a, b].toArray) hA.hh ht.isTup fun h' k => ?_
    have hk := tupExt k
    have ex : Ext s1.heap h' := .of hk
    have st1 : St C { s1 with heap := h' } := h1.keep hk s1.toks
    have w1 := (w.up h2).up ex
    have hY1 := (hY.ext h2).ext ex
    show wpAny C.M A (assignInOrder [fun v => bindName f.env y v, fun v => bindName f.env x v] [b, a]) _ E _
    refine assignInOrder_cons (bindName_ (FS.W.store (f := f) (R := dat d2) w1 st1 hY1 (.inl hy) (Rep.keepers (ex.keepers _) r2) (dat_stab _) fun s2 g1 g2 g3 g4 => ?_))
    refine assignInOrder_cons (bindName_ (FS.W.store (f := f.put y (dat d2)) (R := dat d1) g3 g1 g2 (.inl hx) ?_ (dat_stab _) fun s3 k1 k2 k3 k4 => assignInOrder_nil ⟨k1, k2, k3⟩))
    exact Rep.keepers (g4.keepers _) (Rep.keepers (ex.keepers _) r1)) h
theorem Tr.unpack2e {x y : Str} {px py pt p : Pos} {k1 : Nat} {e : Expr} {d1 d2 : D} (he : Ev C n f e (dat (.tup [d1, d2])))
    (hx : f.sc.names.lookup x = some .local) (hy : f.sc.names.lookup y = some .local)
    (hs : swapsWithSole [.Tuple [Expr.Name x px, Expr.Name y py] k1 pt] e p.line f.env = pure false)
    (hw : swappedStores [.Tuple [Expr.Name x px, Expr.Name y py] k1 pt] e f.env = pure none) :
    Tr C n (f.W C) (exec (.Assign [.Tuple [Expr.Name x px, Expr.Name y py] k1 pt] e p) f.env) (fun fl k => fl = .next ∧ ((f.put x (dat d1)).put y (dat d2)).W C k) := fun A s E Y hA hs' hY w => by
  refine Assign_Tuple (wpAny_mono (he A s E Y hA hs' hY w.toH) (fun v s1 ⟨h1, h2, h3⟩ => ?_) fun _ _ e => e) hs hw
  obtain ⟨t, vs, rfl, yt, ht, hr⟩ := rep_tup h3
  obtain ⟨a, b, rfl, r1, r2⟩ := reps2 hr
  refine assign_Tuple_tuple (items := [a, b].toArray) hA.hh ht.isTup rfl rfl fun h' k => ?_
  have hk := tupExt k
  have ex : Ext s1.heap h' := .of hk
  have st1 : St C { s1 with heap := h' } := h1.keep hk s1.toks
  have w1 := (w.up h2).up ex
  have hY1 := (hY.ext h2).ext ex
  show wpAny C.M A (assignInOrder [PySem.assign (Expr.Name x px) f.env, PySem.assign (Expr.Name y py) f.env] [a, b]) _ E _
  refine assignInOrder_cons (PyProof.Rows.assign_Name (FS.W.store (f := f) (R := dat d1) w1 st1 hY1 (.inl hx) (Rep.keepers (ex.keepers _) r1) (dat_stab _) fun s2 g1 g2 g3 g4 => ?_))
  refine assignInOrder_cons (PyProof.Rows.assign_Name (FS.W.store (f := f.put x (dat d1)) (R := dat d2) g3 g1 g2 (.inl hy) ?_ (dat_stab _) fun s3 k1 k2 k3 k4 => assignInOrder_nil ⟨k1, k2, rfl, k3⟩))
  exact Rep.keepers (g4.keepers _) (Rep.keepers (ex.keepers _) r2)
theorem do_type {a : Str} (v : Value) : Does C n (fun k => (dat (.str a)).p k v) (call (.type "type") [v]) (isV (.type "str")).p := fun A s E Y hA hs hY hp => by
  obtain ⟨t, rfl⟩ := rep_str hp
  exact call_type_of (Tx := "str") rfl (by decide) ⟨hs, .refl _, rfl⟩
theorem Ts.isSame {e e2 : Expr} {p : Pos} {u : Value} (h1 : Ev C n f e (isV u)) (h2 : Ev C n f e2 (isV u)) (hu : plainIs u u = true) (hb : behindInMarks .Is e2 = false := by rfl) : Ts C n f (.Compare e [.Is] [e2] p) true := fun A s E Y hA hs hY hp =>
  wpAny_isTrue_Compare1 (wpAny_mono (h1 A s E Y hA hs hY hp) (fun a s1 ⟨g1, g2, g3⟩ => wpAny_mono (h2 A s1 E Y hA g1 (hY.ext g2) (hp.up g2)) (fun b s2 ⟨k1, k2, k3⟩ => by
    have e1 : a = u := g3
    have e2 : b = u := k3
    subst e1
    subst e2
    exact wpAny_is_self hu (wpAny_truthy_bool ⟨k1, g2.trans k2, rfl⟩)) fun _ _ e => e) fun _ _ e => e) hb
theorem body_kind (k : Kx C) {b : Heap} {L : Nat} {x : Str} :
    Tr C n ((ff C 28 b L [(Str.ofString "x", VP.at b (dat (.str x)))] .top).W C) (execs (bodyOf C.w.params 28) (fenv (fdOf C.w.params 28) 28 L)) (givesQ (dat (.str (S []))) b) := by
  conv in (bodyOf _ _) => whnf
  refine Tr.assignS (f := ff C 28 b L _ .top) (R := isV (.type "str")) (Ev.callT (Ev.bi k bn_type rfl rfl (by decide) rfl) (Evl.cons (R := dat (.str x)) (Ev.here (by walk_at "nm")) .nil) (call1 do_type)) (.inl rfl) (isV_stab _) rfl ?_
  refine Tr.ifS (f := ff C 28 b L _ .top) (c := true) (fun _ => False) (Ts.isSame (by walk_at "nm") (Ev.bi k bn_str rfl rfl (by decide) rfl) rfl) (fun _ => ?_) (fun e => by cases e) (fun A s E Y hA hs hY p => p.elim)
  exact Tr.retS (f := ff C 28 b L _ .top) (Ev.str.eq (by rfl)) fun k v h1 h2 => ⟨h1.ext, v, rfl, h2⟩
theorem do_kind (k : Kx C) {x : Str} (a b : Value) : Does C (n + 1) (fun q => (dat (.str x)).p q b) (call (.ref 28) [a, b]) (dat (.str (S []))).p := fun A s E Y hA hs hY h0 => by
  have hb : Bd s (fdOf C.w.params 28) ⟨[a, b], []⟩ [(Str.ofString "name", a), (Str.ofString "x", b)] := by
    have e : fdOf C.w.params 28 = fdOf C.w.params 28 := rfl
    conv at e => rhs; whnf
    rw [e]
    exact ⟨.of_eq rfl⟩
  refine callFn k (ρ := [(Str.ofString "x", dat (.str x))]) (F := .top) (q := givesQ (dat (.str (S [])))) (fn_kind k) hA hs hY rfl hb (by walk_at "kinds") (by walk_at "nd") (List.forall_mem_cons.mpr ⟨⟨_, rfl, h0⟩, List.forall_mem_nil _⟩) (fun _ _ => trivial) top_stab
    (fun L => body_kind k) fun fl s' q1 q2 ⟨q3, v, e, q4⟩ => ?_
  subst e
  exact ⟨q1, q3, q4⟩
theorem body_fspath (k : Kx C) {b : Heap} {L : Nat} {nm x : Str} :
    Tr C (n + 1) ((ff C 35 b L [(Str.ofString "name", VP.at b (dat (.str nm))), (Str.ofString "x", VP.at b (dat (.str x)))] .top).W C) (execs (bodyOf C.w.params 35) (fenv (fdOf C.w.params 35) 35 L)) (givesQ (dat (.str x)) b) := by
  conv in (bodyOf _ _) => whnf
  refine Tr.assignS (f := ff C 35 b L _ .top) (R := dat (.str (S []))) (Ev.callF (fn_kind k) (Rs := [dat (.str nm), dat (.str x)]) (Ev.gl k rfl rfl rfl) (Evl.cons (Ev.here (by walk_at "nm")) (Evl.cons (Ev.here (by walk_at "nm")) .nil)) fun vs A s E Y hA hs hY h => ?_) (.inl rfl) (dat_stab _) rfl ?_
  · obtain ⟨u, v, rfl, z1, z2⟩ := two h
    exact do_kind k u v A s E Y hA hs hY z2
  refine Tr.skipIf (f := ff C 35 b L _ .top) ((Ts.str (a := []) (by walk_at "nm") (by decide)).eq rfl) ?_
  exact Tr.retS (f := ff C 35 b L _ .top) (R := dat (.str x)) (Ev.here (by walk_at "nm")) fun k v h1 h2 => ⟨h1.ext, v, rfl, h2⟩
theorem do_fspath (k : Kx C) {nm x : Str} (a b : Value) : Does C (n + 2) (fun q => (dat (.str nm)).p q a ∧ (dat (.str x)).p q b) (call (.ref 35) [a, b]) (dat (.str x)).p := fun A s E Y hA hs hY ⟨h0, h1⟩ => by
  have hb : Bd s (fdOf C.w.params 35) ⟨[a, b], []⟩ [(Str.ofString "name", a), (Str.ofString "x", b)] := by
    have e : fdOf C.w.params 35 = fdOf C.w.params 35 := rfl
    conv at e => rhs; whnf
    rw [e]
    exact ⟨.of_eq rfl⟩
  refine callFn k (ρ := [(Str.ofString "name", dat (.str nm)), (Str.ofString "x", dat (.str x))]) (F := .top) (q := givesQ (dat (.str x))) (fn_fspath k) hA hs hY rfl hb (by walk_at "kinds") (by walk_at "nd") (List.forall_mem_cons.mpr ⟨⟨_, rfl, h0⟩, List.forall_mem_cons.mpr ⟨⟨_, rfl, h1⟩, List.forall_mem_nil _⟩⟩) (fun _ _ => trivial) top_stab
    (fun L => body_fspath k) fun fl s' q1 q2 ⟨q3, v, e, q4⟩ => ?_
  subst e
  exact ⟨q1, q3, q4⟩
noncomputable def spl (a : List Nat) : List Nat := if (a ++ [47] != List.replicate (a.length + 1) 47) = true then rst (a ++ [47]) else a ++ [47]
theorem rst_len (a : List Nat) : (rst a).length ≤ a.length := by
  unfold rst
  rw [List.length_reverse]
  have : ∀ l : List Nat, (l.dropWhile (· == 47)).length ≤ l.length := by
    intro l
    induction l with
    | nil => exact Nat.le_refl _
    | cons c r ih =>
      rw [List.dropWhile_cons]
      split
      · simp only [List.length_cons]; omega
      · exact Nat.le_refl _
  have := this a.reverse
  simpa using this
theorem body_split (k : Kx C) {b : Heap} {L : Nat} {a : List Nat} {c : Nat} (hc : c ≠ 47) (hl : a.length ≤ 900) :
    Tr C (n + 2) ((ff C 42 b L [(Str.ofString "p", VP.at b (dat (.str (S (a ++ [47, c])))))] .top).W C) (execs (bodyOf C.w.params 42) (fenv (fdOf C.w.params 42) 42 L)) (givesQ (dat (.tup [.str (S (spl a)), .str (S [c])])) b) := by
  conv in (bodyOf _ _) => whnf
  refine Tr.assignS (f := ff C 42 b L _ .top) (R := dat (.str (S (a ++ [47, c])))) (Ev.callF (fn_fspath k) (Rs := [dat (.str (Str.ofString "split")), dat (.str (S (a ++ [47, c])))]) (Ev.gl k rfl rfl rfl) (Evl.cons Ev.str (Evl.cons (Ev.here (by walk_at "nm")) .nil)) fun vs A s E Y hA hs hY h => ?_) (.inl rfl) (dat_stab _) rfl ?_
  · obtain ⟨u, v, rfl, z1, z2⟩ := two h
    exact do_fspath k u v A s E Y hA hs hY ⟨z1, z2⟩
  refine Tr.assignS (f := ff C 42 b L _ .top) (R := dat (.str (S [47]))) (Ev.str.eq (by rfl)) (.inl rfl) (dat_stab _) rfl ?_
  refine Tr.assignS (f := ff C 42 b L _ .top) (R := dat (.int ((a.length + 1 : Nat) : Int))) ?_ (.inl rfl) (dat_stab _) rfl ?_
  · refine (Ev.bin (R1 := dat (.int a.length)) (Ev.meth (R1 := dat (.str (S (a ++ [47, c])))) m_rfind ofType_str (by walk_at "nm") (Evl.cons (R := dat (.str (S [47]))) (by walk_at "nm") .nil) fun v vs A s E Y hA hs hY ⟨z1, z2⟩ => ?_) Ev.int op_add).eq (by simp)
    obtain ⟨u, rfl, z3⟩ := z2.one
    exact do_rfind hc v u A s E Y hA hs hY ⟨z1, z3⟩
  refine Tr.swap2 (f := ff C 42 b L _ .top) (d1 := .str (S (a ++ [47]))) (d2 := .str (S [c])) (Ev.tuple (ds := [.str (S (a ++ [47])), .str (S [c])]) (Evl.cons ?_ (Evl.cons ?_ .nil)) (by simp)) rfl rfl rfl rfl ?_
  · refine (Ev.headS (a := a ++ [47, c]) (j := a.length + 1) (by walk_at "nm") (by walk_at "nm") (by simp) (by simp; omega)).eq ?_
    have e : (a ++ [47, c]).take (a.length + 1) = a ++ [47] := by rw [List.take_append, List.take_of_length_le (by omega)]; simp
    rw [e]
  · refine (Ev.tailS (a := a ++ [47, c]) (i := a.length + 1) (by walk_at "nm") (by walk_at "nm") (by simp) (by simp; omega)).eq ?_
    have e : (a ++ [47, c]).drop (a.length + 1) = [c] := by rw [List.drop_append, List.drop_of_length_le (by omega)]; simp
    rw [e]
  refine Tr.ifS (f := ff C 42 b L _ .top) (c := (a ++ [47] != List.replicate (a.length + 1) 47)) (fun k => (ff C 42 b L [(Str.ofString "head", dat (.str (S (spl a)))), (Str.ofString "tail", dat (.str (S [c])))] .top).W C k) ?_ (fun hc => ?_) (fun hc => ?_) ?_
  · refine (Ts.and (b := true) (c := (a ++ [47] != List.replicate (a.length + 1) 47)) ((Ts.str (a := a ++ [47]) (by walk_at "nm") (by simp; omega)).eq (by cases a <;> rfl)) fun _ => ?_).eq (by simp)
    refine Ts.cmp (by walk_at "nm") (Ev.bin (by walk_at "nm") (R2 := dat (.int ((a.length + 1 : Nat) : Int))) ?_ (op_muls (by omega))) cmp_nes rfl
    exact (Ev.callB (Ev.bi k bn_len rfl rfl (by decide) rfl) (Evl.cons (R := dat (.str (S (a ++ [47])))) (by walk_at "nm") .nil) (call1 (do_lens (by simp; omega)))).eq (by simp)
  · refine Tr.exprEnd (Tr.assign (f := ff C 42 b L _ .top) (R := dat (.str (S (spl a)))) ?_ (.inl rfl) (dat_stab _) (fun k w => w.sub (by walk_at "sub")) rfl)
    refine (Ev.meth (R1 := dat (.str (S (a ++ [47])))) m_rstrip ofType_str (by walk_at "nm") (Evl.cons (R := dat (.str (S [47]))) (by walk_at "nm") .nil) (R := dat (.str (S (rst (a ++ [47]))))) fun v vs A s E Y hA hs hY ⟨z1, z2⟩ => ?_).eq (by unfold spl; rw [if_pos hc])
    obtain ⟨u, rfl, z3⟩ := z2.one
    exact do_rstrip (by simp; omega) v u A s E Y hA hs hY ⟨z1, z3⟩
  · refine Tr.nil fun k w => ?_
    have e : S (a ++ [47]) = S (spl a) := by unfold spl; rw [if_neg (by rw [hc]; decide)]
    rw [e] at w
    exact w.sub (by walk_at "sub")
  · exact Tr.retS (f := ff C 42 b L _ .top) (R := dat (.tup [.str (S (spl a)), .str (S [c])])) (Ev.tuple (ds := [.str (S (spl a)), .str (S [c])]) (Evl.cons (by walk_at "nm") (Evl.cons (by walk_at "nm") .nil)) (by simp)) fun k v h1 h2 => ⟨h1.ext, v, rfl, h2⟩
theorem do_split (k : Kx C) {a : List Nat} {c : Nat} (hc : c ≠ 47) (hl : a.length ≤ 900) (v : Value) : Does C (n + 3) (fun q => (dat (.str (S (a ++ [47, c])))).p q v) (call (.ref 42) [v]) (dat (.tup [.str (S (spl a)), .str (S [c])])).p := fun A s E Y hA hs hY h0 => by
  have hb : Bd s (fdOf C.w.params 42) ⟨[v], []⟩ [(Str.ofString "p", v)] := by
    have e : fdOf C.w.params 42 = fdOf C.w.params 42 := rfl
    conv at e => rhs; whnf
    rw [e]
    exact ⟨.of_eq rfl⟩
  refine callFn k (ρ := [(Str.ofString "p", dat (.str (S (a ++ [47, c]))))]) (F := .top) (q := givesQ (dat (.tup [.str (S (spl a)), .str (S [c])]))) (fn_split k) hA hs hY rfl hb (by walk_at "kinds") (by walk_at "nd") (List.forall_mem_cons.mpr ⟨⟨_, rfl, h0⟩, List.forall_mem_nil _⟩) (fun _ _ => trivial) top_stab
    (fun L => body_split k hc hl) fun fl s' q1 q2 ⟨q3, v, e, q4⟩ => ?_
  subst e
  exact ⟨q1, q3, q4⟩
end
section
variable {C : Cx} {n : Nat} {f : FS}
theorem room_func {A : Around} {body : List Stmt} {env : Env} (r : Room (n + 2) A) : Room n (A.over (.func body env) []) := by
  obtain ⟨fs, hf⟩ := r.frames
  refine ⟨r.hh, ?_, ?_, ⟨env :: fs, ?_⟩⟩
  · have := r.depth
    show A.depth + 0 + 1 + n ≤ 690
    omega
  · have := r.units
    show A.units + 0 + 3 + 10 * n ≤ 9000
    omega
  · show pushEnvs [env] (pushEnvs [] A.frames) = _
    rw [hf]; rfl
theorem room_while {A : Around} {t : Expr} {b o : List Stmt} {body : List Stmt} {env : Env} {k : Result → Sem Fin} {l : List Value} {p : Pos} (r : Room (n + 3) A) :
    Room n (A.over (.whileLoop t b o env) [.ret k none false l (.func body env) p []]) := by
  obtain ⟨fs, hf⟩ := r.frames
  refine ⟨r.hh, ?_, ?_, ⟨env :: fs, ?_⟩⟩
  · have := r.depth
    show A.depth + 1 + 0 + n ≤ 690
    omega
  · have := r.units
    show A.units + 3 + 0 + 10 * n ≤ 9000
    omega
  · show pushEnvs [] (pushEnvs [env] A.frames) = _
    rw [hf]; rfl
example {env : Env} {body : List Stmt} {k : Result → Sem Fin} {l : List Value} {p : Pos} : splitAtGen [.ret k none false l (.func body env) p []] = none := rfl
example {env : Env} {body : List Stmt} {k : Result → Sem Fin} {l : List Value} {p : Pos} : ([.ret k none false l (.func body env) p []] : List Frame).any Frame.guarded = false := rfl
theorem Kx.move {C C' : Cx} (k : Kx C) (x : Ext C.B C'.B) (h1 : C'.w = C.w) (h2 : C'.mg = C.mg) : Kx C' where
  g := by rw [h2]; exact x.ns k.g
  b := let ⟨mb, a, b⟩ := k.b; ⟨mb, x.ns a, b⟩
  lim := x.nolimit k.lim
  K' := fun b o e t => x.keep (k.K' b o (by rw [← h1]; exact e) t) t
  mgK := fun y v e => by rw [h2]; exact k.mgK y v (by rw [← h1]; exact e)
  hT9 := fun q hq => let ⟨o, vs, file, tf, flags, tg, inF, text, tt, e, e2, r⟩ := k.hT9 q hq; ⟨o, vs, file, tf, flags, tg, inF, text, tt, x.keep e (tab_type e2), e2, r⟩
  bat := fun P hP => let ⟨bm, o, a1, a2, a3, a4, a5, a6, a7⟩ := k.bat P hP; ⟨bm, o, by rw [h2]; exact a1, a2, a3, a4, x.keep a5 (tab_type a6), a6, a7⟩
theorem TabOk.move {h₀ h : Heap} {P L : Addr} {q : Str} {m : Str → Option Value} (x : TabOk h₀ P q) (hL : h₀.Ns L m) (hk : ∀ b o, b ≠ L → h₀.get? b = some o → h.get? b = some o) : TabOk h P q := by
  obtain ⟨ps, a, b, c⟩ := x
  obtain ⟨o', es, ep, e', d', _⟩ := hL
  refine ⟨ps, hk _ _ (fun e => by rw [e, e'] at a; cases a; cases d') a, b, fun pos cv e => ?_⟩
  obtain ⟨c', o, vs, t, rfl, g, d, r⟩ := c pos cv e
  exact ⟨c', o, vs, t, rfl, hk _ _ (fun e => by rw [e, e'] at g; cases g; rw [d] at d'; cases d') g, d, r⟩
noncomputable def GI (h₀ : Heap) (L : Addr) (x : List Nat) (h : Heap) : Prop := (∀ b o, b ≠ L → h₀.get? b = some o → h.get? b = some o) ∧ ∃ m t, h.Ns L m ∧ m (Str.ofString "path") = some (.str (S x) t)
noncomputable def gC (C : Cx) (L : Addr) (s : Shared) : Cx := { C with B := hideAll s.heap [L], fz := true, gens := s.gens, drawn := s.drawn }
noncomputable def Since (L : Addr) (s₀ s : Shared) : Prop := s.gens = s₀.gens ∧ s.drawn = s₀.drawn ∧ s.os = s₀.os ∧ ∀ b o, b ≠ L → s₀.heap.get? b = some o → s.heap.get? b = some o
theorem Since.refl {L : Addr} {s : Shared} : Since L s s := ⟨rfl, rfl, rfl, fun _ _ _ e => e⟩
theorem Since.trans {L : Addr} {a b c : Shared} (x : Since L a b) (y : Since L b c) : Since L a c := ⟨y.1.trans x.1, y.2.1.trans x.2.1, y.2.2.1.trans x.2.2.1, fun b o h e => y.2.2.2 b o h (x.2.2.2 b o h e)⟩
theorem Since.of {L : Addr} {s s' : Shared} (hos : s.os = C.os) (x : St (gC C L s) s') : Since L s s' :=
  have ⟨a, b, c⟩ := x.fr rfl
  ⟨a, b, x.os.trans hos.symm, fun d o h e => c d o (hideAll_get [L] e (by simpa using h))⟩
theorem GI.move {h₀ h h' : Heap} {L : Addr} {x : List Nat} (g : GI h₀ L x h) (k : ∀ b o, b ≠ L → h.get? b = some o → h'.get? b = some o) {y : List Nat} (w : ∃ m t, h'.Ns L m ∧ m (Str.ofString "path") = some (.str (S y) t)) : GI h₀ L y h' :=
  ⟨fun b o hb e => k b o hb (g.1 b o hb e), w⟩
structure Born (C : Cx) (h₀ : Heap) (L : Addr) : Prop where
  k : Kx C
  ext : Ext C.B h₀
  low : C.B.get? L = none
  tabs : ∀ q ∈ tabsOf, TabOk h₀ q.1 q.2
  ns : ∃ m, h₀.Ns L m
noncomputable abbrev gF (C : Cx) (L : Addr) (s : Shared) (ρ : List (Str × VP)) : FS := ff C 49 (hideAll s.heap [L]) L ρ .top
theorem gctx {h₀ : Heap} {L : Addr} (B : Born C h₀ L) {s : Shared} {x : List Nat} (g : GI h₀ L x s.heap) (hos : s.os = C.os) (hb : AllBare s.gens) :
    Kx (gC C L s) ∧ St (gC C L s) s ∧ (gF (gC C L s) L s [(Str.ofString "path", dat (.str (S x)))]).W (gC C L s) ⟨s.heap, fun _ => True⟩ := by
  have hx : Ext (hideAll s.heap [L]) s.heap := .of fun b o e => of_hideAll [L] e
  have hx2 : Ext C.B (hideAll s.heap [L]) := by
    have key : ∀ b o, h₀.get? b = some o → b ≠ L → (hideAll s.heap [L]).get? b = some o := fun b o e hb => hideAll_get [L] (g.1 b o hb e) (by simpa using hb)
    have ne : ∀ {b o}, C.B.get? b = some o → b ≠ L := fun {b o} e q => by rw [q, B.low] at e; cases e
    exact ⟨fun {b o} e => let ⟨o', e'⟩ := B.ext.live e; ⟨o', key b o' e' (ne e)⟩, fun {b o} e t => key b o (B.ext.keep e t) (ne e)⟩
  obtain ⟨m₀, hm₀⟩ := B.ns
  have k' : Kx (gC C L s) := B.k.move (C' := gC C L s) hx2 rfl rfl
  have st : St (gC C L s) s := ⟨hx, hos, hb, fun q hq => (B.tabs q hq).move hm₀ g.1, fun _ => ⟨rfl, rfl, fun b o e => of_hideAll [L] e⟩, .of_keep fun b o e => of_hideAll [L] e⟩
  obtain ⟨m, t, hn, hp⟩ := g.2
  have nocell : ∀ {y : Str}, (fdOf C.w.params 49).scope.names.lookup y = some .cell → False := fun {y} e => by
    have h1 := mem_of_lookup e
    have h2 : ∀ q ∈ (fdOf C.w.params 49).scope.names, q.2 ≠ .cell := by
      conv in (fdOf _ _).scope => whnf
      decide
    exact h2 _ h1 rfl
  refine ⟨k', st, ⟨hx, rfl, rfl, rfl, rfl, fun y R e => ?_, trivial⟩, .refl _, ⟨m, hn⟩, hideAll_none [L] (List.mem_singleton.mpr rfl), fun y c h1 h2 => (nocell h1).elim, fun y h1 => (nocell h1).elim, fun y z c h1 h2 => ?_, fun y R e => ?_, top_stab⟩
  · obtain ⟨rfl, rfl⟩ := lookup_one e
    exact ⟨_, .inl ⟨rfl, m, hn, hp⟩, mk_str⟩
  · have h1' : ([] : List (Str × Addr)).lookup y = some c := h1
    cases h1'
  · obtain ⟨rfl, rfl⟩ := lookup_one e
    exact dat_stab _
theorem path_of {L : Addr} {C' : Cx} {b : Heap} {ρ : List (Str × VP)} {F : HP} {x : List Nat} {k : Vw} (w : (ff C' 49 b L ρ F).W C' k) (hl : ρ.lookup (Str.ofString "path") = some (dat (.str (S x)))) : ∃ m t, k.h.Ns L m ∧ m (Str.ofString "path") = some (.str (S x) t) := by
  obtain ⟨v, hv, hr⟩ := w.toH.vars _ _ hl
  obtain ⟨t, rfl⟩ := rep_str hr
  rcases hv with ⟨_, m, h1, h2⟩ | ⟨h1, _⟩
  · exact ⟨m, t, h1, h2⟩
  · rcases h1 with h1 | ⟨h1, _⟩
    · have e : (ff C' 49 b L ρ F).env.kindOf (Str.ofString "path") = some .local := rfl
      rw [e] at h1; cases h1
    · have e : (ff C' 49 b L ρ F).env.kindOf (Str.ofString "path") = some .local := rfl
      rw [e] at h1; cases h1
end
section
variable {C : Cx} {n : Nat} {f : FS}
structure Chain (m : Nat) (ps : Nat → List Nat) : Prop where
  step : ∀ i, i < m → ∃ a c, c ≠ 47 ∧ a.length ≤ 900 ∧ ps i = a ++ [47, c] ∧ spl a = ps (i + 1)
  last : rst (ps m) = []
  len : ∀ i, i ≤ m → (ps i).length ≤ 1000
theorem Chain.more {m : Nat} {ps : Nat → List Nat} (x : Chain m ps) {i : Nat} (h : i < m) : rst (ps i) = ps i ∧ ps i ≠ [] := by
  obtain ⟨a, c, hc, _, e, _⟩ := x.step i h
  have := rst_end (a := a ++ [47]) c hc 0
  rw [e]
  have e2 : a ++ [47] ++ c :: List.replicate 0 47 = a ++ [47, c] := by simp
  rw [e2] at this
  rw [this]
  simp
noncomputable abbrev gR (L : Addr) : GenEnd := fun n s₀ r s₁ => r = .ok (.ret .none) ∧ n = 0 ∧ Since L s₀ s₁
noncomputable def gY (C : Cx) (L : Addr) (N : Nat) (m : Nat) (ps : Nat → List Nat) : Protocol := fun n s₀ v s kap =>
  (∃ t, v = .str (S (ps (m - 1 - n))) t) ∧ Since L s₀ s ∧ ∀ s'' : Shared, s''.os = C.os → AllBare s''.gens → (∀ b, b < N → ∀ o, s.heap.get? b = some o → s''.heap.get? b = some o) → kap (.send .none) s''
theorem anc_test (k : Kx C) {b : Heap} {L : Addr} {ρ : List (Str × VP)} {F : HP} {x : List Nat} (hl : x.length ≤ 1000) (hx : ρ.lookup (Str.ofString "path") = some (dat (.str (S x)))) {p1 p2 p3 p4 : Pos}
    (he : ∃ pl : Env → Sem Bool, ∀ env, eval (.Call (.Attribute (.Name (Str.ofString "path") p1) (Str.ofString "rstrip") p2) [.Name (Str.ofString "sep") p3] [] p4) env = (do
      let ov ← eval (.Name (Str.ofString "path") p1) env
      standAt p2.atName
      let (f, first) ← holding [ov] (getMethod ov (Str.ofString "rstrip") (pl env))
      callWith p4 f first (backTo p4 (starEach [.Name (Str.ofString "sep") p3] env)) [])) :
    Ev C n (ff C 49 b L ρ F) (.Call (.Attribute (.Name (Str.ofString "path") p1) (Str.ofString "rstrip") p2) [.Name (Str.ofString "sep") p3] [] p4) (dat (.str (S (rst x)))) := by
  have hs : Ev C n (ff C 49 b L ρ F) (.Name (Str.ofString "sep") p3) (dat (.str (S [47]))) := by
    refine (Ev.gl k rfl rfl rfl).conv fun q v h => ?_
    have h' : v = _ := h
    rw [h']
    exact mk_str
  obtain ⟨pl, he⟩ := he
  refine Ev.meth (R1 := dat (.str (S x))) m_rstrip ofType_str (Ev.name hx rfl) (Evl.cons hs .nil) (fun v vs A s E Y hA hs hY ⟨z1, z2⟩ => ?_) he
  obtain ⟨u, rfl, z3⟩ := z2.one
  exact do_rstrip (by omega) v u A s E Y hA hs hY ⟨z1, z3⟩
section
variable {h₀ : Heap} {L N m : Nat} {ps : Nat → List Nat} {A : Around}
theorem seg_anc (B : Born C h₀ L) (hN : h₀.objs.size = N) (hLN : L < N) (ch : Chain m ps) (hA : Room 12 A) {env : Env} (henv : env = fenv (fdOf C.w.params 49) 49 L) {body : List Stmt} {k : Result → Sem Fin} {l : List Value} {p : Pos} {t : Expr} {w1 : List Stmt}
    (hbody : ∃ p₁ p₂, bodyOf C.w.params 49 = [p₁, .While t w1 [] p₂])
    (hk : ∀ s₀ s₁, Since L s₀ s₁ → Seg C.M A (gR L) (gY C L N m ps) 0 s₀ (.func body env) (k (.ok .next)) [] s₁) :
    ∀ j i s₀ s, m - i = j → i ≤ m → GI h₀ L (ps i) s.heap → s.os = C.os → AllBare s.gens → Since L s₀ s →
      Seg C.M A (gR L) (gY C L N m ps) j s₀ (.whileLoop t w1 [] env) (C.M.den (.whileLoop t w1 [] env)) [.ret k none false l (.func body env) p []] s := by
  obtain ⟨p₁, p₂, hbody⟩ := hbody
  conv at hbody => lhs; whnf
  injection hbody with hb1 hb2
  injection hb2 with hb2 _
  injection hb2 with ht hw _ _
  subst ht hw
  have hroom : ∀ {t' w' o'}, Room 9 (A.over (.whileLoop t' w' o' env) [.ret k none false l (.func body env) p []]) := fun {t' w' o'} => room_while hA
  intro j
  induction j with
  | zero =>
    intro i s₀ s hj hi hg hos hb hsin
    have him : i = m := by omega
    subst him
    refine seg_whileLoop ?_
    obtain ⟨k', st, w⟩ := gctx B hg hos hb
    subst henv
    refine wpAny_mono (Ts.str (anc_test (n := 9) (ρ := [(Str.ofString "path", dat (.str (S (ps i))))]) k' (ch.len i (Nat.le_refl _)) rfl ⟨_, fun _ => rfl⟩) (by have := rst_len (ps i); have := ch.len i (Nat.le_refl _); omega) (fun _ _ => rfl) _ s _ (fun _ => True) hroom st (fun _ _ => trivial) w.toH) (fun c s' ⟨g1, g2, g3⟩ => ?_) fun _ _ e => e
    rw [ch.last] at g3
    subst g3
    rw [if_neg (by decide)]
    exact seg_execs_nil (seg_leaf (.ok .next) (hk s₀ s' (hsin.trans (Since.of hos g1))))
  | succ j ih =>
    intro i s₀ s hj hi hg hos hb hsin
    have hlt : i < m := by omega
    obtain ⟨hr1, hr2⟩ := ch.more hlt
    refine seg_whileLoop ?_
    obtain ⟨k', st, w⟩ := gctx B hg hos hb
    subst henv
    refine wpAny_mono (Ts.str (anc_test (n := 9) (ρ := [(Str.ofString "path", dat (.str (S (ps i))))]) k' (ch.len i hi) rfl ⟨_, fun _ => rfl⟩) (by have := rst_len (ps i); have := ch.len i hi; omega) (fun _ _ => rfl) _ s _ (fun _ => True) hroom st (fun _ _ => trivial) w.toH) (fun c s' ⟨g1, g2, g3⟩ => ?_) fun _ _ e => e
    rw [hr1] at g3
    have hc : c = true := by rw [g3]; cases h : ps i with | nil => exact absurd h hr2 | cons => rfl
    subst hc
    rw [if_pos rfl]
    refine seg_execs_cons (seg_Expr_Yield rfl rfl rfl ?_)
    refine wpAny_mono (Ev.name (C := gC C L s) (n := 9) (f := gF (gC C L s) L s [(Str.ofString "path", dat (.str (S (ps i))))]) (R := dat (.str (S (ps i)))) rfl rfl _ s' _ (fun _ => True) hroom g1 (fun _ _ => trivial) (w.up g2).toH) (fun v s2 ⟨q1, q2, q3⟩ => ?_) fun _ _ e => e
    intro kap hkap
    have hidx : m - 1 - j = i := by omega
    obtain ⟨tt, rfl⟩ := rep_str q3
    have sin2 := Since.of hos q1
    refine ⟨⟨tt, by rw [hidx]⟩, hsin.trans sin2, fun s'' z1 z2 z3 => hkap .none s'' ?_⟩
    -- behind the yield
    have hp2 := path_of ((w.up g2).up q2) (x := ps i) rfl
    have hg2 : GI h₀ L (ps i) s2.heap := hg.move sin2.2.2.2 hp2
    have hg3 : GI h₀ L (ps i) s''.heap := by
      refine ⟨fun b o hbL e => z3 b (hN ▸ Heap.lt_size e) o (hg2.1 b o hbL e), ?_⟩
      obtain ⟨mm, t', a1, a2⟩ := hg2.2
      exact ⟨mm, t', a1.at' fun o e => z3 L hLN o e, a2⟩
    obtain ⟨k2, st2, w2⟩ := gctx B hg3 z1 z2
    obtain ⟨a, c, hc, hal, e1, e2⟩ := ch.step i hlt
    refine seg_execs_cons (seg_wrap ?_)
    refine wpAny_mono (Tr.unpack2e (C := gC C L s'') (n := 9) (f := gF (gC C L s'') L s'' [(Str.ofString "path", dat (.str (S (ps i))))]) (d1 := .str (S (spl a))) (d2 := .str (S [c])) ?_ rfl rfl rfl rfl _ s'' _ (fun _ => True) hroom st2 (fun _ _ => trivial) w2) (fun fl s3 ⟨r1, r2, r3, r4⟩ => ?_) fun _ _ e => e
    · refine Ev.callF (fn_split k2) (Rs := [dat (.str (S (a ++ [47, c])))]) (Ev.gl k2 rfl rfl rfl) (Evl.cons (by rw [e1]; exact Ev.name rfl rfl) .nil) (call1 fun v => (do_split (n := 6) k2 hc hal v))
    · subst r3
      have sin3 := Since.of z1 r1
      have hp3 := path_of r4 (x := spl a) rfl
      rw [e2] at hp3
      exact seg_execs_nil (seg_again rfl (ih (i + 1) s'' s3 (by omega) hlt (hg3.move sin3.2.2.2 hp3) r1.os r1.bare sin3))
end
end
section
variable {C : Cx} {n : Nat} {f : FS}
section
variable {h₀ : Heap} {L N m : Nat} {ps : Nat → List Nat} {A : Around}
theorem seg_start (B : Born C h₀ L) (hN : h₀.objs.size = N) (hLN : L < N) (ch : Chain m ps) (hA : Room 12 A) {x : List Nat} (hx : x.length ≤ 1000) (hx0 : rst x = ps 0) {s : Shared} (hg : GI h₀ L x s.heap) (hos : s.os = C.os) (hb : AllBare s.gens) :
    Seg C.M A (gR L) (gY C L N m ps) m s (.func (bodyOf C.w.params 49) (fenv (fdOf C.w.params 49) 49 L)) (C.M.den (.func (bodyOf C.w.params 49) (fenv (fdOf C.w.params 49) 49 L))) [] s := by
  have main : ∀ body p₁ t w1 p₂, body = bodyOf C.w.params 49 → bodyOf C.w.params 49 = [p₁, .While t w1 [] p₂] → Seg C.M A (gR L) (gY C L N m ps) m s (.func body (fenv (fdOf C.w.params 49) 49 L)) (C.M.den (.func body (fenv (fdOf C.w.params 49) 49 L))) [] s := by
    intro body p₁ t w1 p₂ hbody0 hbody
    have hbody' := hbody
    refine seg_func ?_
    rw [show (execs body (fenv (fdOf C.w.params 49) 49 L)) = execs [p₁, .While t w1 [] p₂] (fenv (fdOf C.w.params 49) 49 L) from by rw [hbody0, hbody]]
    refine seg_execs_cons (seg_wrap ?_)
    obtain ⟨k', st, w⟩ := gctx B hg hos hb
    conv at hbody' => lhs; whnf
    injection hbody' with hb1 hb2
    subst hb1
    refine wpAny_mono (Tr.assign (C := gC C L s) (n := 10) (f := gF (gC C L s) L s [(Str.ofString "path", dat (.str (S x)))]) (R := dat (.str (S (rst x)))) (Q := fun fl k => fl = .next ∧ (FS.put (gF (gC C L s) L s [(Str.ofString "path", dat (.str (S x)))]) (Str.ofString "path") (dat (.str (S (rst x))))).W (gC C L s) k)
      (anc_test (n := 10) (ρ := [(Str.ofString "path", dat (.str (S x)))]) k' hx rfl ⟨_, fun _ => rfl⟩) (.inl rfl) (dat_stab _) (fun k w => ⟨rfl, w⟩) rfl _ s _ (fun _ => True) (room_func hA) st (fun _ _ => trivial) w) (fun fl s2 ⟨q1, q2, q3, q4⟩ => ?_) fun _ _ e => e
    subst q3
    have hp := path_of q4 (x := rst x) rfl
    rw [hx0] at hp
    have sin := Since.of hos q1
    refine seg_execs_cons (seg_While fun p => ?_)
    refine seg_anc B hN hLN ch hA rfl ⟨_, _, hbody⟩ (fun s₀ s₁ hsin => ?_) m 0 s s2 (by omega) (Nat.zero_le _) (hg.move sin.2.2.2 hp) q1.os q1.bare sin
    exact seg_execs_nil (env := fenv (fdOf C.w.params 49) 49 L) (seg_end (.ok (.ret .none)) ⟨rfl, rfl, hsin⟩)
  have e := main (bodyOf C.w.params 49)
  conv at e in (bodyOf C.w.params 49 = _ :: _) => lhs; whnf
  exact e _ _ _ _ rfl rfl
theorem anc_next {E : Value → Shared → Prop} {s : Shared} {a : Addr} {g n : Nat} {gs : GenState} {P : Nat → Shared → Shared → Prop} {Y : Protocol} {Q : Option Value → Shared → Prop} (hh : A.handled = none)
    (hl : s.heap.NoLimit) (hroom : A.depth < recursionLimit) (hg : s.heap.IsGen a g) (hgs : s.gens[g]? = some gs)
    (hgo : gs.Goes C.M A.in1 (fun n s₀ r s₁ => r = .ok (.ret .none) ∧ P n s₀ s₁) Y n (.send .none) (s.setGen g .running))
    (hY : ∀ v s₁ gs', gs'.bare = true → Y (n - 1) (s.setGen g .running) v s₁ (fun r' s'' => match n with
        | 0 => False
        | m + 1 => gs'.Goes C.M A.in1 (fun n s₀ r s₁ => r = .ok (.ret .none) ∧ P n s₀ s₁) Y m r' s'') → Q (some v) (s₁.setGen g gs'))
    (hP : ∀ s₁, P n (s.setGen g .running) s₁ → ∀ h', (∀ b o, s₁.heap.get? b = some o → h'.get? b = some o) → Q none { s₁.setGen g .finished with heap := h' }) :
    wpAny C.M A (pyNext (.ref a)) Q E s := by
  unfold pyNext
  refine wpAny_bind (wpAny_attempt (wpAny_callSpecial?_slot (name := Str.ofString "__next__") hg.typeIs slot_gen_next (wpAny_call_entry slot_gen_next hg.typeIs entry_gen_next ?_ (args_gen_next _))))
  show wpAny _ A.in1 (Builtin.Generator.genWake (.ref a) (.send .none)) _ _ s
  unfold Builtin.Generator.genWake
  refine wpAny_bind (wpAny_holding (wpAny_genNumber hg (wpAny_bind (wpAny_genState hgs ?_))))
  cases gs with
  | running => exact hgo.elim
  | finished => exact hgo.elim
  | _ =>
    refine wpAny_bind (wpAny_roomToWake hl hroom ?_)
    show wpAny _ A.in1 (.resume g (.send .none) [] _) _ _ s
    refine wpAny_resumeQ hgs hgo (fun x s₁ hx => ?_) (fun v s₁ gs' hb hv => wpAny_pure ⟨v, rfl, wpAny_pure (hY v s₁ gs' hb hv)⟩)
    obtain ⟨rfl, hp⟩ := hx
    show wpAny _ A.in1 (newExc (.type "StopIteration") [] >>= _) _ _ _
    refine wpAny_bind ?_
    simp only [newExc, newTuple]
    refine wpAny_bind (wpAny_newObj_type ?_ (by size_fits))
    refine wpAny_bind (m := firstArgMember _ _) (wpAny_of_eq (a := Value.none) (by first | rfl | (simp only [firstArgMember]; rfl)) ?_)
    refine wpAny_newObj_type ?_ (by size_fits)
    simp only [raiseNew]
    refine wpAny_bind (wpAny_bind (wpAny_handled ?_))
    first | rw [show A.in1.handled = none from hh] | rw [hh]
    refine wpAny_throw ?_
    refine wpAny_bind (wpAny_isInstance (T := "StopIteration") (b := true) ⟨_, Heap.get?_push_size _ rfl, rfl⟩ isSubtype_stop ?_)
    exact wpAny_pure (hP s₁ hp _ fun b o hb => Heap.get?_push_of_some _ (Heap.get?_push_of_some _ hb))
noncomputable def ancSt (C : Cx) (A : Around) (a : Addr) (g L N m : Nat) (ps : Nat → List Nat) (j : Nat) (s : Shared) : Prop :=
  s.heap.IsGen a g ∧ s.heap.NoLimit ∧ s.os = C.os ∧ AllBare s.gens ∧ ∃ gs, s.gens[g]? = some gs ∧
    ∀ s'' : Shared, s''.os = C.os → AllBare s''.gens → (∀ b, b < N → ∀ o, s.heap.get? b = some o → s''.heap.get? b = some o) → gs.Goes C.M A.in1 (gR L) (gY C L N m ps) (m - j) (.send .none) s''
theorem setBare {s : Shared} {g : Nat} {x : GenState} (h : AllBare s.gens) (hx : x.bare = true) : AllBare (s.setGen g x).gens := by
  intro y hy
  obtain ⟨i, hi, rfl⟩ := Array.mem_iff_getElem.mp hy
  by_cases e : i = g
  · subst e
    simp [Shared.setGen, hx]
  · have hi' : i < s.gens.size := by simpa [Shared.setGen] using hi
    have h1 := (GenOnly.setGen s g x).2 i e
    rw [Array.getElem?_eq_getElem hi, Array.getElem?_eq_getElem hi'] at h1
    have : (s.setGen g x).gens[i] = s.gens[i] := Option.some.inj h1
    rw [this]
    exact h _ (Array.getElem_mem hi')
theorem anc_walks (hh : A.handled = none) {a : Addr} {g : Nat} (haL : a ≠ L) (haN : N ≤ a) (hLN : L < N) (hroom : A.depth < recursionLimit) (hcs : cStatics < N) (hcL : cStatics ≠ L) :
    WalksS C.prog C.w A a (a :: List.range N) [L] (fun x y => AllBare x → AllBare y) m (fun j v => ∃ t, v = .str (S (ps j)) t) (ancSt C A a g L N m ps) where
  sub := fun b hb => by rw [List.mem_singleton.mp hb]; exact List.mem_cons_of_mem _ (List.mem_range.mpr hLN)
  grefl := fun _ h => h
  gtrans := fun _ _ _ x y h => y (x h)
  frame := fun j s h' tk st _ hk =>
    ⟨let ⟨o, nm, qn, ho, r⟩ := st.1; ⟨o, nm, qn, hk a List.mem_cons_self o ho, r⟩, st.2.1.at fun o e => hk cStatics (List.mem_cons_of_mem _ (List.mem_range.mpr hcs)) o e, st.2.2.1, st.2.2.2.1,
     let ⟨gs, hgs, hgo⟩ := st.2.2.2.2; ⟨gs, hgs, fun s'' h1 h2 hal => hgo s'' h1 h2 fun b hb o e => hal b hb o (hk b (List.mem_cons_of_mem _ (List.mem_range.mpr hb)) o e)⟩⟩
  item := fun j s Q E hj st hQ => by
    obtain ⟨hg, hl, hos, hb, gs, hgs, hgo⟩ := st
    obtain ⟨n', hn'⟩ : ∃ n', m - j = n' + 1 := ⟨m - j - 1, by omega⟩
    rw [hn'] at hgo
    refine wpAny_with_toks (Nat.le_refl s.toks) ?_
    refine anc_next (P := fun n s₀ s₁ => n = 0 ∧ Since L s₀ s₁) hh hl hroom hg hgs (hgo _ hos (setBare hb rfl) fun _ _ _ e => e) (fun v s₁ gs' hb' hv => ?_) (fun s₁ hp h' hk => absurd hp.1 (Nat.succ_ne_zero n'))
    obtain ⟨⟨t, hi⟩, hsin, hkap⟩ := hv
    have hidx : m - 1 - (n' + 1 - 1) = j := by omega
    rw [hidx] at hi
    have hb1 : AllBare (s₁.setGen g gs').gens := setBare (by rw [hsin.1]; exact setBare hb rfl) hb'
    intro htk
    refine hQ v _ ⟨t, hi⟩ ⟨?_, ?_, hsin.2.2.1.trans hos, hb1, gs', ?_, fun s'' h1 h2 hal => ?_⟩ ⟨fun b o hbw e => hsin.2.2.2 b o (fun h => hbw (h ▸ List.mem_cons_self)) e, fun _ => hb1, hsin.2.1, hsin.2.2.1, htk⟩
    · obtain ⟨o, nm, qn, ho, r⟩ := hg
      exact ⟨o, nm, qn, hsin.2.2.2 a o haL ho, r⟩
    · exact hl.at fun o e => hsin.2.2.2 _ o hcL e
    · have h1 : (s.setGen g .running).gens[g]? = some .running := setGen_self hgs
      rw [← hsin.1] at h1
      exact setGen_self h1
    · have e : m - (j + 1) = n' := by omega
      rw [e]
      exact hkap s'' h1 h2 hal
  done := fun s Q E st hQ => by
    obtain ⟨hg, hl, hos, hb, gs, hgs, hgo⟩ := st
    rw [Nat.sub_self] at hgo
    refine wpAny_with_toks (Nat.le_refl s.toks) ?_
    refine anc_next (P := fun n s₀ s₁ => n = 0 ∧ Since L s₀ s₁) hh hl hroom hg hgs (hgo _ hos (setBare hb rfl) fun _ _ _ e => e) (fun v s₁ gs' hb' hv => ?_) (fun s₁ hp h' hk => ?_)
    · obtain ⟨_, hsin, hkap⟩ := hv
      exact False.elim (hkap s₁ (hsin.2.2.1.trans hos) (by rw [hsin.1]; exact setBare hb rfl) fun _ _ _ e => e)
    · obtain ⟨_, hsin⟩ := hp
      intro htk
      exact hQ _ ⟨fun b o hbw e => hk b o (hsin.2.2.2 b o (fun h => hbw (h ▸ List.mem_cons_self)) e), fun _ => setBare (by rw [hsin.1]; exact setBare hb rfl) rfl, hsin.2.1, hsin.2.2.1, htk⟩
  self := fun _ _ _ _ st hQ => wpAny_pyIter_gen st.1 hQ
end
end
section
variable {C : Cx} {n : Nat} {f : FS}
theorem reps_acc {k : Vw} {ps : Nat → List Nat} : ∀ (m : Nat) (j : Nat) {vs : List Value}, vs.length = m → (∀ (i : Nat) (v : Value), vs[i]? = some v → ∃ t, v = .str (S (ps (j + i))) t) → Reps k ((List.range m).map fun i => D.str (S (ps (j + i)))) vs
  | 0, j, vs, hl, h => by
    have : vs = [] := List.length_eq_zero_iff.mp hl
    subst this
    simpa using Reps.nil
  | m + 1, j, vs, hl, h => by
    cases vs with
    | nil => simp at hl
    | cons v r =>
      rw [List.range_succ_eq_map, List.map_cons, List.map_map]
      obtain ⟨t, rfl⟩ := h 0 v rfl
      refine .cons (mk_str (h := k)) ?_
      have := reps_acc (k := k) (ps := ps) m (j + 1) (vs := r) (by simpa using hl) (fun i v e => by
        have := h (i + 1) v (by simpa using e)
        rw [show j + 1 + i = j + (i + 1) by omega]; exact this)
      have e : ((List.range m).map ((fun i => D.str (S (ps (j + i)))) ∘ Nat.succ)) = (List.range m).map fun i => D.str (S (ps (j + 1 + i))) := by
        apply List.map_congr_left
        intro i _
        show D.str (S (ps (j + (i + 1)))) = _
        rw [show j + (i + 1) = j + 1 + i by omega]
      rw [e]
      exact this
theorem TabOk.keeps {h h' : Heap} {P : Addr} {q : Str} (x : TabOk h P q) (hk : ∀ b o, h.get? b = some o → h'.get? b = some o) : TabOk h' P q :=
  let ⟨ps, a, b, c⟩ := x; ⟨ps, hk _ _ a, b, fun pos cv e => (c pos cv e).keeps hk⟩
theorem Ev.ancestry (k : Kx C) (hfz : C.fz = false) {le ae e : Expr} {p1 p2 : Pos} {x : List Nat} {m : Nat} {ps : Nat → List Nat} (hle : Ev C (n + 16) f le (isV (.type "list"))) (hae : Ev C (n + 16) f ae (isV (.ref 49))) (he : Ev C (n + 16) f e (dat (.str (S x))))
    (ch : Chain m ps) (hx : x.length ≤ 1000) (hx0 : rst x = ps 0) (hm : m ≤ 1000)
    (he1 : ∀ env, eval (.Call le [.Call ae [e] [] p1] [] p2) env = (do callWith p2 (← eval le env) [] (backTo p2 (starEach [.Call ae [e] [] p1] env)) (backToKw p2 (keywordEach [] env))) := by intro _; rfl)
    (hst1 : ∀ env, starEach [.Call ae [e] [] p1] env = (false, eval (.Call ae [e] [] p1) env) :: starEach [] env := by intro _; rfl)
    (he2 : ∀ env, eval (.Call ae [e] [] p1) env = (do callWith p1 (← eval ae env) [] (backTo p1 (starEach [e] env)) (backToKw p1 (keywordEach [] env))) := by intro _; rfl)
    (hst2 : ∀ env, starEach [e] env = (false, eval e env) :: starEach [] env := by intro _; rfl) :
    Ev C (n + 16) f (.Call le [.Call ae [e] [] p1] [] p2) (dat (.list ((List.range m).map fun i => D.str (S (ps i))))) := fun A s E Y hA hs hY hp => by
  refine Call_ (wpAny_mono (hle A s E Y hA hs hY hp) (fun v s1 ⟨h1, h2, h3⟩ => ?_) fun _ _ e => e) (he1 _)
  have h3' : v = .type "list" := h3
  subst h3'
  refine PyProof.Rows.callWith_type1 (wpAny_items_cons ?_ (hst1 _)) (hst1 _) rfl
  refine Call_ (wpAny_mono (hae A s1 E Y hA h1 (hY.ext h2) (hp.up h2)) (fun v s2 ⟨g1, g2, g3⟩ => ?_) fun _ _ e => e) (he2 _)
  have g3' : v = .ref 49 := g3
  subst g3'
  have hx2 := h2.trans g2
  have hF := fn_ancestry k
  obtain ⟨o, ho, hd⟩ := hF.obj
  have hto : tabLike o = false := tab_data fun vs e => by rw [hd] at e; cases e
  refine callWith_def hd (wpAny_items_cons (wpAny_mono (he A s2 E Y hA g1 (hY.ext hx2) (hp.up hx2)) (fun v s3 ⟨k1, k2, k3⟩ => wpAny_items_nil ⟨k1.ext.keep ho hto, ?_⟩) fun _ _ e => e) (hst2 _)) (hst2 _)
  obtain ⟨t, rfl⟩ := rep_str k3
  have hx3 := hx2.trans k2
  -- the call
  have hbind : Bd s3 (fdOf C.w.params 49) ⟨[.str (S x) t], []⟩ [(Str.ofString "path", .str (S x) t)] := by
    have e : fdOf C.w.params 49 = fdOf C.w.params 49 := rfl
    conv at e => rhs; whnf
    rw [e]
    exact ⟨.of_eq rfl⟩
  refine wpAny_call (codeAny_call_generator hA.reclim (k1.ext.keep ho hto) hd hF.co rfl hF.body (hF.code.rec k1.ext) (hbind.b _ _ _ _ ?_))
  rw [hF.clo]
  refine wpAny_newFunctionEnv_cells hF.kind (fun y hy => ?_) fun env henv s4 ic => ?_
  · rw [List.mem_singleton.mp hy]; exact .inl rfl
  subst henv
  obtain ⟨h4, tk4, e4⟩ := ic.toInCall.same
  have st4 : St C s4 := by subst e4; exact k1.keep ic.toInCall.keep tk4
  have ic1 := ic.toInCall.keep
  have ic2 := ic.toInCall.ns
  have ic3 : s3.heap.objs.size ≤ (fenv (fdOf C.w.params 49) 49 s3.heap.objs.size).locals := ic.toInCall.fresh
  have hnloc : (fenv (fdOf C.w.params 49) 49 s3.heap.objs.size).locals = s3.heap.objs.size := rfl
  have hpath : (bindL (fenv (fdOf C.w.params 49) 49 s3.heap.objs.size).kindOf [(Str.ofString "path", .str (S x) t)] fun _ => none) (Str.ofString "path") = some (.str (S x) t) := bindL_here rfl (by simp only [List.map_cons, List.map_nil]; decide) rfl
  have ic2' : s4.heap.Ns s3.heap.objs.size (bindL (fenv (fdOf C.w.params 49) 49 s3.heap.objs.size).kindOf [(Str.ofString "path", .str (S x) t)] fun _ => none) := ic2
  clear ic2 ic
  generalize hL : s3.heap.objs.size = L at *
  refine ⟨st4.ext.nolimit k.lim, ?_⟩
  have hLlt : L < s4.heap.objs.size := ic2'.lt
  have hL3 : s3.heap.get? L = none := hL ▸ get?_size _
  have B : Born C s4.heap L := ⟨k, st4.ext, k1.ext.none hL3, st4.tabs, ⟨_, ic2'⟩⟩
  have lim4 := st4.ext.nolimit k.lim
  obtain ⟨mc, hns, hnn⟩ := id lim4
  have hcs : cStatics < s4.heap.objs.size := hns.lt
  have hcL : cStatics ≠ L := by
    rintro e
    obtain ⟨mc', hns', _⟩ := k.lim
    obtain ⟨o', _, _, e', _⟩ := hns'
    rw [e, B.low] at e'; cases e'
  have hGI : ∀ s'' : Shared, (∀ b, b < s4.heap.objs.size → ∀ o, s4.heap.get? b = some o → s''.heap.get? b = some o) → GI s4.heap L x s''.heap := fun s'' hal =>
    ⟨fun b o _ e => hal b (Heap.lt_size e) o e, _, t, ic2'.at' fun o e => hal L hLlt o e, hpath⟩
  have hrm : Room 12 A.in1.in1.in1 := (Room.in1 (Room.in1 (Room.in1 (hA.le (m := 15) (by omega)))))
  refine wpAny_items_nil ?_
  -- the generator stands
  generalize hN : s4.heap.objs.size = N at *
  have hN4 := hN
  let s5 : Shared := { s4 with gens := s4.gens.push (.fresh (.func (bodyOf C.w.params 49) (fenv (fdOf C.w.params 49) 49 L))), toks := s4.toks + 1 + 1, heap := s4.heap.push { cls := .type "generator", data := .fields #[.int s4.gens.size 0, .str (fdOf C.w.params 49).name s4.toks, .str (fdOf C.w.params 49).qualname (s4.toks + 1)] } }
  have hk45 : ∀ b o, s4.heap.get? b = some o → s5.heap.get? b = some o := fun b o e => Heap.get?_push_of_some _ e
  have hsz5 : s5.heap.objs.size = N + 1 := by show (s4.heap.push _).objs.size = _; rw [Heap.size_push, hN]
  have st0 : ancSt C A.in1.in1 N s4.gens.size L N m ps 0 s5 := by
    refine ⟨⟨_, _, _, by rw [← hN]; exact Heap.get?_push_size _ rfl, rfl, rfl, rfl⟩, lim4.keeps hk45, st4.os, st4.bare.push rfl, _, Array.getElem?_push_size .., fun s'' z1 z2 z3 => ⟨rfl, ?_⟩⟩
    exact seg_start B hN4 hLlt ch hrm hx hx0 (hGI s'' fun b hb o e => z3 b hb o (hk45 b o e)) z1 z2
  have W := anc_walks (C := C) (A := A.in1.in1) (m := m) (ps := ps) (L := L) (N := N) (a := N) (g := s4.gens.size) hA.hh (Nat.ne_of_gt hLlt) (Nat.le_refl _) hLlt (by have := hA.reclim; exact this) hcs hcL
  show wpAny C.M A (call (.type "list") [.ref N]) _ E s5
  refine call_list_gen (hn := by unfold sizeLine; omega) W (fun i s st => st.1.typeIs) st0 (fun b hb => ?_) List.mem_cons_self fun s' acc c' hm1 hS hacc => ?_
  · rw [hsz5]
    rcases List.mem_cons.mp hb with rfl | hb
    · exact Nat.lt_succ_self _
    · exact Nat.lt_succ_of_lt (List.mem_range.mp hb)
  · rw [hsz5] at hm1 hS ⊢
    have hk : ∀ b o, s3.heap.get? b = some o → s'.heap.get? b = some o := fun b o e => by
      have hb : b < L := hL ▸ Heap.lt_size e
      refine hm1.heap b o (fun q => ?_) (Heap.get?_push_of_some _ (hk45 b o (ic1 b o e)))
      rcases List.mem_cons.mp q with q | q
      · exact absurd q (Nat.ne_of_lt (Nat.lt_succ_of_lt (Nat.lt_trans hb hLlt)))
      · exact absurd (List.mem_singleton.mp q) (Nat.ne_of_lt hb)
    have ex : Ext s3.heap s'.heap := .of hk
    have st' : St C s' := ⟨k1.ext.trans ex, hm1.os.trans st4.os, hm1.gens (st4.bare.push rfl), fun q hq => (k1.tabs q hq).keeps hk, fun z => (by rw [hfz] at z; cases z), k1.old.step_keeps hk⟩
    refine ⟨st', hx3.trans ex, mk_list (h := ⟨s'.heap, Y⟩) (vs := acc.toList) (hY.ext hx3 _ (none_of_size (by rw [hL]; exact Nat.le_succ_of_le (Nat.le_of_lt hLlt)))) ⟨c', hS⟩ ?_⟩
    have := reps_acc (k := ⟨s'.heap, Y⟩) (ps := ps) m 0 (vs := acc.toList) (by rw [Array.length_toList]; exact hacc.1) (fun i v e => by
      rw [Nat.zero_add]; exact hacc.2 i v (by simpa using e))
    simpa using this
end
section
variable {C : Cx} {n : Nat} {f : FS}
theorem setOf_at {h h' : Heap} {a : Addr} {S₁ : Str → Bool} {c : Nat} (hS : h.SetOf (strKind C.prog C.w) a S₁ c) (e : ∀ o, h.get? a = some o → h'.get? a = some o) : h'.SetOf (strKind C.prog C.w) a S₁ c :=
  let ⟨o, es, ep, t, ho, rest⟩ := hS; ⟨o, es, ep, t, e _ ho, rest⟩
theorem setOf_congr {h : Heap} {a : Addr} {S₁ S₂ : Str → Bool} {c : Nat} (hS : h.SetOf (strKind C.prog C.w) a S₁ c) (e : ∀ k, S₁ k = S₂ k) : h.SetOf (strKind C.prog C.w) a S₂ c := by
  have : S₁ = S₂ := funext e
  subst this; exact hS
theorem take_has {ss : List Str} {i : Nat} {x : Str} (hi : ss[i]? = some x) (k' : Str) : (ss.take (i + 1)).contains k' = ((ss.take i).contains k' || decide (k' = x)) := by
  rw [List.take_add_one, hi, Option.toList_some]
  rw [Bool.eq_iff_iff]
  simp only [List.contains_iff_mem, Bool.or_eq_true, decide_eq_true_eq, List.mem_append, List.mem_singleton]
theorem set_loop {A : Around} {R : Result → Shared → Prop} {I : Addr} {fp wr : List Addr} {G : Array GenState → Array GenState → Prop} {P : Nat → Value → Prop} {Sj : Nat → Shared → Prop} {ss : List Str} (W : WalksS C.prog C.w A.in1 I fp wr G ss.length P Sj) (X : Addr) (hXf : X ∉ fp)
    (hval : ∀ i v, P i v → ∃ x t, ss[i]? = some x ∧ v = .str x t) (hb : ss.length + 1 < scanBound) :
    ∀ (k i : Nat) (s : Shared), ss.length - i = k → i ≤ ss.length → Sj i s → (∃ c, c ≤ i ∧ s.heap.SetOf (strKind C.prog C.w) X (fun k' => (ss.take i).contains k') c) →
      (∀ s', Moved (X :: wr) G s s' → (∃ c, c ≤ ss.length ∧ s'.heap.SetOf (strKind C.prog C.w) X (fun k' => ss.contains k') c) → R (.ok (.ret .none)) s') →
      codeAny C.M A (.builtin "set.update.loop" ⟨[.ref X, .ref I], []⟩) R s := by
  have hXw : X ∉ wr := fun h => hXf (W.sub _ h)
  have hsub : ∀ b ∈ wr, b ∈ X :: wr := fun b hb => List.mem_cons_of_mem _ hb
  intro k
  induction k with
  | zero =>
    intro i s hk hi hst ⟨c, hc, hS⟩ hR
    have hin : i = ss.length := by omega
    subst hin
    refine codeAny_builtin PyProof.Rows.F.entry_set_update_loop ?_
    rw [Around.under_plainId PyProof.Rows.F.plain_set_update_loop _]
    show wpAny _ A.in1 (pyNext (.ref I) >>= _) _ _ s
    refine wpAny_bind (W.done s _ _ hst fun s' hm => ?_)
    show wpAny _ A.in1 (ret Value.none) _ _ s'
    refine wpAny_pure (hR s' (hm.mono hsub) ⟨c, hc, setOf_congr (setOf_at hS (hm.heap X · hXw)) fun k => by rw [List.take_length]⟩)
  | succ k ih =>
    intro i s hk hi hst ⟨c, hc, hS⟩ hR
    have hlt : i < ss.length := by omega
    refine codeAny_builtin PyProof.Rows.F.entry_set_update_loop ?_
    rw [Around.under_plainId PyProof.Rows.F.plain_set_update_loop _]
    show wpAny _ A.in1 (pyNext (.ref I) >>= _) _ _ s
    refine wpAny_bind (W.item i s _ _ hlt hst fun v s' hP hst' hm => ?_)
    obtain ⟨x, t, hx, rfl⟩ := hval i v hP
    have hS' := setOf_at hS (hm.heap X · hXw)
    show wpAny _ A.in1 (holding [Value.str x t] (setAdd X (.str x t)) >>= _) _ _ s'
    refine wpAny_bind (wpAny_holding ?_)
    unfold setAdd
    refine wpAny_holding ?_
    have hkey : (strKind C.prog C.w).is x (.str x t) = true := by show Value.isStrOf x (.str x t) = true; unfold Value.isStrOf; simp
    refine wpAny_bind ((strKind C.prog C.w).pyHash (k := x) hkey ?_)
    refine wpAny_setAddHashed_of (knd := strKind C.prog C.w) (s := { s' with toks := s'.toks + 1 }) hkey rfl hS' (by omega) fun h' hsb hS2 => ?_
    have hSi := setOf_congr hS2 fun k' => (take_has hx k').symm
    refine wpAny_pure ⟨plainId_quiet PyProof.Rows.F.plain_set_update_loop _, ih (i + 1) _ (by omega) hlt (W.frame _ s' _ _ hst' (Nat.le_succ _) fun b hb o e => ?_) ⟨_, ?_, hSi⟩ fun s'' hm'' hS'' => ?_⟩
    · rw [hsb.2 b (fun h : b = X => hXf (by rw [← h]; exact hb))]; exact e
    · split <;> omega
    · refine hR s'' (Moved.trans W.gtrans ((hm.mono hsub).then_heap (Nat.le_succ _) fun b o hb e => ?_) hm'') hS''
      rw [hsb.2 b (fun h : b = X => hb (by rw [h]; exact List.mem_cons_self))]; exact e
end
section
variable {C : Cx} {n : Nat} {f : FS}
theorem call_set_strs {A : Around} {E : Value → Shared → Prop} {s : Shared} {l : Addr} {items : Array Value} {ss : List Str} {Q : Value → Shared → Prop}
    (hh : A.handled = none) (hl : s.heap.IsList l items) (hsz : items.size = ss.length) (hi : ∀ (i : Nat) (v : Value), items[i]? = some v → ∃ x t, ss[i]? = some x ∧ v = .str x t) (hb : ss.length + 1 < scanBound)
    (h : ∀ (h' : Heap) (tk : Nat), (∃ c, c ≤ ss.length ∧ h'.SetOf (strKind C.prog C.w) s.heap.objs.size (fun k' => ss.contains k') c) →
      (∀ b o, b < s.heap.objs.size → s.heap.get? b = some o → h'.get? b = some o) → Q (.ref s.heap.objs.size) { s with heap := h', toks := tk }) :
    wpAny C.M A (call (.type "set") [.ref l]) Q E s := by
  obtain ⟨c, tl, hmro⟩ := PySem.F.called_set.mro
  have hmade := PySem.F.called_set.made
  have hsub := PySem.F.called_set.sub
  refine wpAny_call (codeAny_of_tree ?_)
  show wpAny _ _ (callAny (.type "set") _) _ _ _
  refine wpAny_pure ⟨Code.quiet_builtin _ (by decide +kernel), codeAny_builtin PySem.F.entry_type_call ?_⟩
  rw [Around.under_plain (weight_type_call_type "set" [.ref l] []) rfl]
  have h1 := PySem.F.called_set.notType
  have h2 := PySem.F.called_set.canCreate
  have hct := PySem.F.typeCall_set_1 (.ref l)
  repeat (any_goals (first | assumption | wp_step))
  refine codeAny_mono (code_set_new_1 (.ref l) (E := E) (Q₁ := fun obj s₁ => ∃ led : Bool, obj = .ref s.heap.objs.size ∧ s₁ = { s with heap := s.heap.push { cls := .type "set", dict := none, data := .set #[] 0 (.fresh 0 0 led) } }) fun led => ⟨led, rfl, rfl⟩) fun r s₁ hr => ?_
  cases r with
  | error e => exact hr
  | ok fl =>
    cases fl with
    | ret obj =>
      obtain ⟨led, rfl, rfl⟩ := hr
      have hS : (s.heap.push { cls := .type "set", dict := none, data := .set #[] 0 (.fresh 0 0 led) }).get? s.heap.objs.size = some { cls := .type "set", dict := none, data := .set #[] 0 (.fresh 0 0 led) } := Heap.get?_push_size _ rfl
      have hT : Shared.TypeIs { s with heap := s.heap.push { cls := .type "set", dict := none, data := .set #[] 0 (.fresh 0 0 led) } } (.ref s.heap.objs.size) "set" := ⟨_, hS, rfl⟩
      have hli := PySem.F.called_set.init.lookup
      have hbi := PySem.F.called_set.init.bind (.ref s.heap.objs.size)
      repeat (any_goals (first | assumption | wp_step))
      refine codeAny_mono (codeAny_call_builtin (R := wants (fun r s₂ => r = .none ∧ ∃ h' tk, s₂ = { s with heap := h', toks := tk } ∧
          (∃ c, c ≤ ss.length ∧ h'.SetOf (strKind C.prog C.w) s.heap.objs.size (fun k' => ss.contains k') c) ∧
          (∀ b o, b < s.heap.objs.size → s.heap.get? b = some o → h'.get? b = some o)) E) PySem.F.called_set.init.plain PySem.F.entry_set_init (check_set_init_1 hT ?_)) fun r₂ s₂ hr₂ => ?_
      · obtain ⟨ol, hol, hcl, nl, hdl⟩ := hl
        obtain ⟨ocls, odict, odata, oslots⟩ := ol
        simp only at hcl hdl
        subst hcl; subst hdl
        have hol' : (s.heap.push { cls := .type "set", dict := none, data := .set #[] 0 (.fresh 0 0 led) }).get? l = some { cls := .type "list", dict := odict, data := .seq items nl, slots := oslots } := Heap.get?_push_of_some _ hol
        have hsls := PySem.F.sub_list_set
        have hslf := PySem.F.sub_list_frozenset
        have hne : (Value.type "list" == Value.type "dict") = false := by decide
        have hl1 : (s.heap.push { cls := .type "set", dict := none, data := .set #[] 0 (.fresh 0 0 led) }).IsList l items := ⟨_, hol', rfl, nl, rfl⟩
        unfold Builtin.«set.__init__» noKeywords Builtin.Frozenset.updateFrom
        generalize hPI : pyIter = PI
        wp_walk
        subst hPI
        refine wpAny_pyIter_list hl1 ?_
        refine wpAny_bind (wpAny_runValue ?_)
        have hlS : l < s.heap.objs.size := Heap.lt_size hol
        have hh3 : A.in1.in1.in1.handled = none := by simp [hh]
        have hneI : l ≠ (s.heap.push { cls := .type "set", dict := none, data := .set #[] 0 (.fresh 0 0 led) }).objs.size := by
          rw [Heap.size_push]; exact Nat.ne_of_lt (Nat.lt_succ_of_lt hlS)
        have hSf : s.heap.objs.size ∉ [(s.heap.push { cls := .type "set", dict := none, data := .set #[] 0 (.fresh 0 0 led) }).objs.size, l] := by
          rw [Heap.size_push]; simp only [List.mem_cons, List.mem_singleton, List.not_mem_nil, or_false, not_or]
          exact ⟨Nat.ne_of_lt (Nat.lt_succ_self _), Nat.ne_of_gt hlS⟩
        have W := (Walks.list (prog := C.prog) (w := C.w) hh3 _ l hneI items).toS
        rw [hsz] at W
        refine set_loop W s.heap.objs.size hSf (fun i v hv => hi i v hv) hb (ss.length - 0) 0 _ rfl (Nat.zero_le _)
          ⟨⟨_, Heap.get?_push_size _ rfl, rfl, rfl⟩, (hl1.push _)⟩ ?hS0 ?hR
        case hS0 =>
          have hget : ((s.heap.push { cls := .type "set", dict := none, data := .set #[] 0 (.fresh 0 0 led) }).push { cls := .type "list_iterator", data := .fields #[.ref l, .int 0 0] }).get? s.heap.objs.size
              = some { cls := .type "set", dict := none, data := .set #[] 0 (.fresh 0 0 led) } := Heap.get?_push_of_some _ hS
          exact ⟨_, Nat.le_refl _, setOf_congr ((PyProof.Rows.setObjOf_fresh (knd := strKind C.prog C.w) led).setOf hget (by unfold scanBound; omega)) (fun _ => rfl)⟩
        case hR =>
          intro s' hm hS'
          obtain ⟨h', g', d', tk', os'⟩ := s'
          have eg : g' = s.gens := hm.gens
          have ed : d' = s.drawn := hm.drawn
          have eo : os' = s.os := hm.os
          subst eg; subst ed; subst eo
          show wpAny _ _ _ _ _ _
          refine wpAny_pure ?_
          show wpAny _ _ (ret Value.none) _ _ _
          refine wpAny_pure ⟨rfl, h', tk', rfl, hS', fun b o hb e => ?_⟩
          have hb1 : b ≠ s.heap.objs.size := Nat.ne_of_lt hb
          have hb2 : b ≠ (s.heap.push { cls := .type "set", dict := none, data := .set #[] 0 (.fresh 0 0 led) }).objs.size := by
            rw [Heap.size_push]; exact Nat.ne_of_lt (Nat.lt_succ_of_lt hb)
          exact hm.heap b o (by simp only [List.mem_cons, List.mem_singleton, List.not_mem_nil, or_false, not_or]; exact ⟨hb1, hb2⟩) (Heap.get?_push_of_some _ (Heap.get?_push_of_some _ e))
      · cases r₂ with
        | error e => exact hr₂
        | ok fl₂ =>
          cases fl₂ with
          | ret r =>
            obtain ⟨rfl, h', tk, rfl, hS', hk'⟩ := hr₂
            repeat (any_goals (first | assumption | wp_step))
            exact h _ _ hS' hk'
          | _ => exact hr₂.elim
    | _ => exact hr.elim
noncomputable def setV (C : Cx) (ss : List Str) : VP := ⟨fun k v => ∃ a c, v = .ref a ∧ c ≤ ss.length ∧ k.h.SetOf (strKind C.prog C.w) a (fun k' => ss.contains k') c,
  fun x ⟨a, c, e, hc, o, es, ep, t, ho, hx, hd, r⟩ => ⟨a, c, e, hc, o, es, ep, t, x.keep ho (tab_data fun vs q => by rw [hd] at q; cases q), hx, hd, r⟩, fun _ r => r⟩
theorem reps_strs {k : Vw} : ∀ {ss : List Str} {vs : List Value}, Reps k (ss.map .str) vs → vs.length = ss.length ∧ ∀ (i : Nat) (v : Value), vs[i]? = some v → ∃ x t, ss[i]? = some x ∧ v = .str x t
  | [], vs, r => by rw [List.map_nil, Reps] at r; subst r; exact ⟨rfl, fun i v e => by simp at e⟩
  | x :: ss, vs, r => by
    rw [List.map_cons, Reps] at r
    obtain ⟨v, r', rfl, q1, q2⟩ := r
    obtain ⟨t, rfl⟩ := rep_str (h := k) q1
    obtain ⟨h1, h2⟩ := reps_strs q2
    refine ⟨by simp [h1], fun i v e => ?_⟩
    cases i with
    | zero => simp at e; exact ⟨x, t, rfl, e.symm⟩
    | succ i => simp at e; obtain ⟨y, u, a, b⟩ := h2 i v e; exact ⟨y, u, by simpa using a, b⟩
theorem do_set {ss : List Str} (hl : ss.length ≤ 1000) (v : Value) : Does C n (fun k => (dat (.list (ss.map .str))).p k v) (call (.type "set") [v]) (setV C ss).p := fun A s E Y hA hs hY hp => by
  obtain ⟨l, vs, rfl, ya, l1, r1⟩ := rep_list hp
  obtain ⟨e1, e2⟩ := reps_strs r1
  refine call_set_strs (ss := ss) hA.hh l1.isList (by simpa using e1) (fun i v e => e2 i v (by simpa using e)) (by unfold scanBound; omega) fun h' tk hS hk => ?_
  have hk' : ∀ b o, s.heap.get? b = some o → h'.get? b = some o := fun b o e => hk b o (Heap.lt_size e) e
  obtain ⟨c, hc, hS⟩ := hS
  exact ⟨hs.keep hk' tk, .of hk', _, c, rfl, hc, hS⟩
end
section
variable {C : Cx} {n : Nat} {f : FS}
theorem entry_set_ga : entryFor table "set.__getattribute__" = some Builtin.«object.__getattribute__» := entryFor_alias (id' := "object.__getattribute__") (by kernel_rfl) rfl (by decide +kernel) (by kernel_rfl)
theorem md_get : _root_.PySem.Slot "method_descriptor" "__get__" "method_descriptor.__get__" :=
  .of (owner := "method_descriptor") (n := "__get__") (by rw [typeLookup_type, builtinLookup_eq_fast]; kernel_rfl) (by decide +kernel) (by decide +kernel) (by decide +kernel)
    (by first | exact .inl (by decide +kernel) | exact .inr (by decide +kernel)) (by rw [isSubtype_type]; kernel_rfl)
theorem entry_md_get : entryFor table "method_descriptor.__get__" = some Builtin.«method_descriptor.__get__» := entryFor_of_tree (by kernel_rfl)
theorem args_md_get (a b c : Value) : argsOk "method_descriptor.__get__" ⟨[a, b, c], []⟩ := by unfold argsOk; kernel_rfl
theorem md_noset : typeLookup (.type "method_descriptor") "__set__" = pure none := by rw [typeLookup_type, builtinLookup_eq_fast]; kernel_rfl
theorem md_nodel : typeLookup (.type "method_descriptor") "__delete__" = pure none := by rw [typeLookup_type, builtinLookup_eq_fast]; kernel_rfl
theorem set_noga : typeLookup (.type "set") "__getattr__" = pure none := by rw [typeLookup_type, builtinLookup_eq_fast]; kernel_rfl
theorem sub_set : isSubtype (.type "set") (.type "set") = pure true := by rw [isSubtype_type]; kernel_rfl
noncomputable abbrev boundO (a : Addr) : Obj := { cls := .type "builtin_function_or_method", data := .fields #[.builtin "set.__contains__", .ref a] }
theorem md_get_run {A : Around} {E : Value → Shared → Prop} {s : Shared} {a : Addr} {P : Fin → Shared → Prop} (hT : s.TypeIs (.ref a) "set") (h : P (.done (.ret (.ref s.heap.objs.size))) { s with heap := s.heap.push (boundO a) }) :
    wpAny C.M A (Builtin.«method_descriptor.__get__» ⟨[.builtin "set.__contains__", .ref a, .type "set"], []⟩) P E s := by
  unfold Builtin.«method_descriptor.__get__»
  refine wpAny_bind (wpAny_of_eq (a := (.builtin "set.__contains__", some (.ref a), some (.type "set"))) (by first | rfl | kernel_rfl) ?_)
  refine wpAny_bind ?_
  refine wpAny_bind ?_
  refine wpAny_of_eq (a := ((Str.ofString "__contains__"), Value.type "set")) (by first | rfl | kernel_rfl) ?_
  refine wpAny_bind (wpAny_isInstance hT sub_set ?_)
  rw [if_neg (by decide)]
  refine wpAny_pure ?_
  unfold newFields
  exact wpAny_bind (wpAny_newObj_type (wpAny_pure h))
theorem get_contains {A : Around} {E : Value → Shared → Prop} {s : Shared} {a : Addr} {Q : Value → Shared → Prop} {es : Array (Int × Value)} {ep : Nat} {t : SetTable} (ho : s.heap.get? a = some { cls := .type "set", dict := none, data := .set es ep t, slots := #[] })
    (h : Q (.ref s.heap.objs.size) { s with heap := s.heap.push (boundO a), toks := s.toks + 1 }) : wpAny C.M A (getAttr (.ref a) (Str.ofString "__contains__") true) Q E s := by
  have hT : s.TypeIs (.ref a) "set" := ⟨_, ho, rfl⟩
  have hT' : ({ s with toks := s.toks + 1 } : Shared).TypeIs (.ref a) "set" := ⟨_, ho, rfl⟩
  unfold getAttr getAttrBy
  refine wpAny_bind (wpAny_mkText (wpAny_holding (wpAny_bind (wpAny_typeOf hT' (wpAny_bind ?_)))))
  refine wpAny_of_eq PySem.F.slot_set_getattribute.lookup ?_
  show wpAny _ _ (getAttrByItsOwn _ _ _ _ _ _) _ _ _
  unfold getAttrByItsOwn hookBefore callGetattribute boundAndCalled
  refine wpAny_bind (wpAny_pure (wpAny_bind (wpAny_attempt (wpAny_holding ?_))))
  show wpAny _ _ (bindSpecial (.builtin "set.__getattribute__") (.ref a) >>= _) _ _ _
  rw [PySem.F.slot_set_getattribute.bind]
  refine wpAny_bind (wpAny_pure ?_)
  refine wpAny_call_entry PySem.F.slot_set_getattribute hT' entry_set_ga ?_ (PySem.F.args_set_getattribute_2 _ _)
  unfold Builtin.«object.__getattribute__»
  refine wpAny_bind (wpAny_of_eq (a := (Value.ref a, [Value.str (Str.ofString "__contains__") s.toks])) (by first | rfl | kernel_rfl) ?_)
  refine wpAny_bind (wpAny_of_eq (a := Str.ofString "__contains__") (by first | rfl | kernel_rfl) ?_)
  refine wpAny_bind (wpAny_typeOf hT' (wpAny_bind ?_))
  unfold PySem.Builtin.ObjectAttr.find
  refine wpAny_bind (wpAny_of_eq PySem.F.slot_set_contains.lookup ?_)
  unfold PySem.Builtin.ObjectAttr.getOf
  have hM : ∀ s' : Shared, s'.TypeIs (.builtin "set.__contains__") "method_descriptor" := fun s' => PySem.F.type_set_contains
  refine wpAny_bind (wpAny_specialOf (hM _) md_get.lookup ?_)
  unfold PySem.Builtin.ObjectAttr.dataDescriptor?
  refine wpAny_bind ?_
  dsimp only
  unfold Builtin.ObjectAttr.takesStores
  refine wpAny_bind (wpAny_bind (wpAny_specialOf (hM _) md_noset ?_))
  rw [if_neg (by decide)]
  refine wpAny_bind (wpAny_specialOf (hM _) md_nodel ?_)
  refine wpAny_pure ?_
  rw [if_neg (by decide)]
  refine wpAny_pure ?_
  unfold PySem.Builtin.ObjectAttr.ownThenClass
  refine wpAny_bind ?_
  unfold PySem.Builtin.ObjectAttr.inOwnDict PySem.Builtin.ObjectAttr.ownDict
  dsimp only
  refine wpAny_bind (wpAny_bind (wpAny_loadPart ho ?_))
  dsimp only
  unfold instanceDict
  refine wpAny_bind (wpAny_loadPart ho ?_)
  dsimp only
  refine wpAny_pure ?_
  refine wpAny_pure ?_
  dsimp only
  refine wpAny_bind (wpAny_of_eq (a := ()) (by first | rfl | kernel_rfl) ?_)
  unfold PySem.Builtin.ObjectAttr.byTheClass
  refine wpAny_bind (wpAny_rule (wpAny_pure ?_))
  dsimp only
  unfold PySem.Builtin.ObjectAttr.bindTo
  dsimp only
  refine wpAny_bind (wpAny_holding ?_)
  refine wpAny_call_entry md_get (hM _) entry_md_get (md_get_run hT' ?_) (args_md_get _ _ _)
  refine ⟨_, rfl, wpAny_pure ⟨_, rfl, ?_⟩⟩
  exact wpAny_pure h
end
section
variable {C : Cx} {n : Nat} {f : FS}
theorem md_plain : plainId "set.__contains__" = true := PySem.F.slot_set_contains.plain
theorem sub_set_module : isSubtype (.type "set") (.type "module") = pure false := by rw [isSubtype_type]; kernel_rfl
theorem sub_set_type : isSubtype (.type "set") (.type "type") = pure false := by rw [isSubtype_type]; kernel_rfl
theorem bound_check {A : Around} {E : Value → Shared → Prop} {s : Shared} {a : Addr} {x : Str} {t : Tok} {Q : Unit → Shared → Prop} {o : Obj} {es : Array (Int × Value)} {ep : Nat} {tb : SetTable} (ho : s.heap.get? a = some o) (hc : o.cls = .type "set") (hd : o.data = .set es ep tb) (h : Q () s) :
    wpAny C.M A (checkBoundCall "set.__contains__" ⟨[.ref a, .str x t], []⟩) Q E s := by
  have hT : s.TypeIs (.ref a) "set" := ⟨o, ho, hc⟩
  have hsig : Manifest.signature? "set.__contains__" = some ⟨.oneArg, "set.__contains__", "__contains__", .self, [⟨"object", .posOnly, true⟩]⟩ := by
    rw [signature?_of (id := "set.__contains__") (n := ['_', '_', 's', 'n', 'i', 'a', 't', 'n', 'o', 'c', '_', '_']) (o := ['t', 'e', 's']) (by kernel_rfl) PySem.F.owner_set]; kernel_rfl
  have hkind : builtinKind "set.__contains__" = some .method := by kernel_rfl
  have hva : Manifest.varargsMethods.contains "set.__contains__" = false := by decide +kernel
  unfold checkBoundCall
  simp only [hsig, hkind]
  rw [if_neg (by decide)]
  refine wpAny_bind (wpAny_isInstance hT sub_set_module ?_)
  rw [hva, if_neg (by decide)]
  unfold isType
  refine wpAny_bind (wpAny_bind (wpAny_loadPart ho (wpAny_pure ?_)))
  rw [hd]
  dsimp only
  rw [if_neg (by decide)]
  refine wpAny_bind (wpAny_typeOf hT ?_)
  exact wpAny_of_eq (a := ()) (by kernel_rfl) h
theorem call_bound {A : Around} {E : Value → Shared → Prop} {s : Shared} {a b : Addr} {x : Str} {t : Tok} {Sf : Str → Bool} {c : Nat} {Q : Value → Shared → Prop} (hb : s.heap.get? b = some (boundO a)) (hS : s.heap.SetOf (strKind C.prog C.w) a Sf c)
    (h : Q (.bool (Sf x)) { s with toks := s.toks + 1 }) : wpAny C.M A (call (.ref b) [.str x t]) Q E s := by
  have hkey : (strKind C.prog C.w).is x (.str x t) = true := by show Value.isStrOf x (.str x t) = true; unfold Value.isStrOf; simp
  refine wpAny_call (codeAny_of_tree ?_)
  show wpAny _ A.in1 (callAny (.ref b) ⟨[.str x t], []⟩) _ _ s
  simp only [callAny]
  refine wpAny_bind (wpAny_load hb ?_)
  simp only [boundO, show (Value.type "builtin_function_or_method" == Value.type "method" || Value.type "builtin_function_or_method" == Value.type "builtin_function_or_method" || Value.type "builtin_function_or_method" == Value.type "method-wrapper") = true by decide, if_true]
  refine (show ∀ {α : Type} {c : Bool} {a b : Sem α} {Q : α → Shared → Prop} {E : Value → Shared → Prop} {M : Model} {A : Around}, c = true → wpAny M A a Q E s → wpAny M A (if c = true then a else b) Q E s from fun hc h => by subst hc; exact h) (by decide) ?_
  have hS' := hS
  obtain ⟨o, es, ep, tb, ho, hx, hd, _⟩ := hS'
  refine wpAny_bind (bound_check ho hx.1 hd ?_)
  refine wpAny_bind (wpAny_pure (wpAny_pure ?_))
  refine ⟨plainId_quiet md_plain _, codeAny_builtin entry_set_contains ?_⟩
  rw [Around.under_plainId md_plain _]
  unfold Builtin.«frozenset.__contains__» Builtin.Frozenset.oneOther
  simp only [List.isEmpty_nil, bind_assoc]
  unfold Builtin.Frozenset.addrOf Builtin.Frozenset.withSetAsKey setContains
  refine wpAny_bind (wpAny_pure ?_)
  try dsimp only
  refine wpAny_bind (wpAny_pure ?_)
  try dsimp only
  refine wpAny_bind (wpAny_tryCatch ?_)
  refine wpAny_holding ?_
  refine wpAny_bind ((strKind C.prog C.w).pyHash hkey ?_)
  refine wpAny_bind (wpAny_setFind_of (s := { s with toks := s.toks + 1 }) hkey rfl hS fun r hr => ?_)
  refine wpAny_pure ?_
  show wpAny _ _ (ret (Value.bool r.isSome)) _ _ _
  rw [hr]
  exact wpAny_pure h
end
section
variable {C : Cx} {n : Nat} {f : FS}
noncomputable def ndB : List Addr → Bool
  | [] => true
  | a :: r => !r.contains a && ndB r
theorem lookup_filter {p : Obj → Bool} : ∀ {l : List (Addr × Obj)} {a : Addr} {o : Obj}, ndB (l.map (·.1)) = true → (l.filter fun q => p q.2).lookup a = some o → l.lookup a = some o ∧ p o = true
  | [], a, o, _, h => by cases h
  | (b, q) :: r, a, o, hn, h => by
    have hn' : (!(r.map (·.1)).contains b && ndB (r.map (·.1))) = true := hn
    simp only [Bool.and_eq_true, Bool.not_eq_true'] at hn'
    by_cases hp : p q = true
    · rw [List.filter_cons_of_pos (by exact hp), List.lookup_cons] at h
      rw [List.lookup_cons]
      cases hab : a == b with
      | true => simp only [hab] at h ⊢; cases h; exact ⟨rfl, hp⟩
      | false => simp only [hab] at h ⊢; exact lookup_filter hn'.2 h
    · rw [List.filter_cons_of_neg (by simpa using hp)] at h
      obtain ⟨h1, h2⟩ := lookup_filter hn'.2 h
      refine ⟨?_, h2⟩
      rw [List.lookup_cons]
      cases hab : a == b with
      | true =>
        have e : a = b := by simpa using hab
        subst e
        have : a ∈ r.map (·.1) := List.mem_map.mpr ⟨(a, o), mem_of_lookupK h1, rfl⟩
        have h3 := hn'.1
        rw [List.contains_eq_mem] at h3
        simp [this] at h3
      | false => simp only [hab]; exact h1
noncomputable abbrev Kn (P : Params) : Frag := (Kf P).filter fun q => !tabLike q.2
theorem kf_nd (P : Params) : ndB ((Kf P).map (·.1)) = true := by kernel_rfl
theorem Kx.frag (k : Kx C) {s : Shared} (hs : St C s) : (Kn C.w.params).In s.heap := fun a o e => by
  obtain ⟨h1, h2⟩ := lookup_filter (p := fun o => !tabLike o) (kf_nd C.w.params) e
  have h2' : tabLike o = false := by simpa using h2
  exact hs.ext.keep (k.K' a o h1 h2') h2'
example (P : Params) : findIn (Kn P) (.ref 82) "__init__" = some (some (.ref 64)) := rfl
example (P : Params) : makesIn (Kn P) 82 = true := rfl
example (P : Params) : typeIn (Kn P) (.ref 64) = some (.type "function") := rfl
example (P : Params) : findIn (Kn P) (.ref 82) "__iter__" = some (some (.ref 71)) := rfl
example (P : Params) : findIn (Kn P) (.ref 82) "__next__" = some (some (.ref 78)) := rfl
example (P : Params) : findIn (Kn P) (.ref 82) "__len__" = some none := rfl
example (P : Params) : findIn (Kn P) (.ref 82) "__length_hint__" = some none := rfl
example (P : Params) : findIn (Kn P) (.ref 82) "_it" = some (some (.ref 84)) := rfl
example (P : Params) : findIn (Kn P) (.ref 82) "_func" = some (some (.ref 83)) := rfl
example (P : Params) : slotIn (Kn P) 83 82 = some 0 := rfl
example (P : Params) : slotIn (Kn P) 84 82 = some 1 := rfl
example (P : Params) : plainOver (Kn P) 82 = true := rfl
example (P : Params) : takerIn (Kn P) 82 "_it" = some (some (.ref 84)) := rfl
example (P : Params) : typeIn (Kn P) (.ref 84) = some (.type "member_descriptor") := rfl
example (P : Params) : findObj (Kn P) 82 (some emptyDict) "_it" = some (.bind (.builtin "member_descriptor.__get__") (.ref 84)) := rfl
end
section
variable {C : Cx} {n : Nat} {f : FS}
theorem callFnC (G : Bg C) {A : Around} {s : Shared} {Y : Al} {R : Result → Shared → Prop} {fa : Addr} {fd : FuncData} {body : List Stmt} {pos : List Value} {kw : List (Str × Value)} {binds : List (Str × Value)} {ρ : List (Str × VP)} {F : HP}
    {q : Heap → Flow → Vw → Prop} (hF : Fn C fa fd body) (hA : Room (n + 1) A) (hs : St C s) (hY : Ok Y s.heap) (hgen : fd.scope.isGenerator = false)
    (hbind : Bd s fd ⟨pos, kw⟩ binds) (hkind : ∀ y ∈ binds, fd.scope.names.lookup y.1 = some .local ∨ fd.scope.names.lookup y.1 = some .cell) (hnd : (binds.map (·.1)).Nodup)
    (hρ : ∀ x R, ρ.lookup x = some R → ∃ v, binds.lookup x = some v ∧ R.p ⟨s.heap, Y⟩ v) (hFp : ∀ h', Ext s.heap h' → F.p ⟨h', Y⟩) (hFs : F.Stab s.heap)
    (hb : ∀ L, Tr C n (FS.W C ⟨s.heap, fenv fd fa L, fd.scope, ats s.heap ρ, F⟩) (execs body (fenv fd fa L)) (q s.heap))
    (hQ : ∀ fl s', St C s' → Ok Y s'.heap → q s.heap fl ⟨s'.heap, Y⟩ → R (.ok (.ret (match fl with | .ret v => v | _ => .none))) s') : codeAny C.M A (.call (.ref fa) ⟨pos, kw⟩) R s := by
  obtain ⟨o, ho, hd⟩ := hF.obj
  have ht : tabLike o = false := tab_data fun vs e => by rw [hd] at e; cases e
  refine codeAny_call_function hA.reclim (hs.ext.keep ho ht) hd hF.co hgen hF.body (hF.code.rec hs.ext) (hbind.b _ _ _ _ ?_)
  rw [hF.clo]
  refine wpAny_newFunctionEnv_cells hF.kind (fun y hy => ?_) fun env he s' x => ?_
  · rcases hkind y hy with h | h
    · exact .inl h
    · exact .inr ⟨h, cellsFrom_own _ _ _ (.inl (mem_of_lookup h))⟩
  · subst he
    have w := inCallC_W (ρ := ρ) (F := F) (Y := Y) hF hs x hkind hnd hρ (hFp _ (.of x.toInCall.keep)) hFs
    obtain ⟨h', tk, e⟩ := x.toInCall.same
    have st' : St C s' := by
      subst e
      exact hs.keep x.toInCall.keep tk
    have hY' : Ok Y s'.heap := hY.ext w.toH.ext
    refine ⟨st'.ext.nolimit G.lim, codeAny_func ?_⟩
    refine wpAny_mono (hb _ (A.deeper _) s' _ Y (hA.deeper _) st' hY' w) (fun fl s2 ⟨a, b, c⟩ => ?_) fun _ _ e => e
    exact hQ fl s2 a b c
theorem room_make {A : Around} {c : Addr} {vals : List Value} {kw : List (Str × Value)} (r : Room (n + 2) A) : Room n (A.under (.builtin "type.__call__" ⟨.ref c :: vals, kw⟩)) := by
  obtain ⟨fs, hf⟩ := r.frames
  refine ⟨r.hh, ?_, ?_, ⟨fs, ?_⟩⟩
  · have := r.depth
    show A.depth + 1 + n ≤ 690
    omega
  · have := r.units
    show A.units + 1 + 10 * n ≤ 9000
    omega
  · show pushEnvs [] A.frames = _
    rw [hf]; rfl
noncomputable abbrev iObj (dx : Addr) (sl : Array (Option Value)) : Obj := { cls := .ref 82, dict := some dx, data := .plain, slots := sl }
structure Inst (h : Heap) (x dx : Addr) (sl : Array (Option Value)) : Prop where
  i : h.get? x = some (iObj dx sl)
  d : h.get? dx = some emptyDict
theorem Inst.at {h : Heap} {x dx : Addr} {sl : Array (Option Value)} (i : Inst h x dx sl) : InstAt h x (iObj dx sl) 82 (some emptyDict) := ⟨i.i, rfl, rfl, i.d⟩
theorem Inst.ext {h h' : Heap} {x dx : Addr} {sl : Array (Option Value)} (i : Inst h x dx sl) (k : Ext h h') : Inst h' x dx sl := ⟨k.keep i.i rfl, k.keep i.d rfl⟩
theorem get_slot' (k : Kx C) {A : Around} {E : Value → Shared → Prop} {s : Shared} {Q : Value → Shared → Prop} {x dx : Addr} {sl : Array (Option Value)} {name : Str} {p : Addr} {i : Nat} {v : Value} (hs : St C s) (hi : Inst s.heap x dx sl)
    (hga : findIn (Kn C.w.params) (.ref 82) "__getattribute__" = some (some (.builtin "object.__getattribute__"))) (hfo : findObj (Kn C.w.params) 82 (some emptyDict) name = some (.bind (.builtin "member_descriptor.__get__") (.ref p)))
    (hk : findIn (Kn C.w.params) (.ref 82) "__getattr__" = some none) (hp : slotIn (Kn C.w.params) p 82 = some i) (hv : (sl[i]?).join = some v) (hh : handedIn v = true) {expr : Bool} (h : Q v { s with toks := s.toks + 1 }) : wpAny C.M A (getAttr (.ref x) name expr) Q E s :=
  get_bind (k.frag hs) hi.at hga hfo hk (wpAny_call (slot_get (s := { s with toks := s.toks + 1 }) (k.frag (hs.tok (s.toks + 1))) hi.at hp hv (handed_on hh h)))
open Builtin Builtin.ObjectAttr Builtin.Getset_descriptor in
theorem slot_put (k : Kx C) {A : Around} {R : Result → Shared → Prop} {s : Shared} {x dx : Addr} {sl : Array (Option Value)} {p i : Nat} {v : Value} (hs : St C s) (hin : Inst s.heap x dx sl)
    (hp : slotIn (Kn C.w.params) p 82 = some i) (hi : i < 1000)
    (h : ∀ h', Heap.SameBut x s.heap h' → h'.get? x = some (iObj dx ((sl ++ Array.replicate (i + 1 - sl.size) none).setIfInBounds i (some v))) → R (.ok (.ret .none)) { s with heap := h' }) :
    codeAny C.M A (.call (.builtin "member_descriptor.__set__") ⟨[.ref p, .ref x, v], []⟩) R s := by
  have X := k.frag hs
  have I := hin.at
  obtain ⟨n, tn, owner, behind, tb, d, sl', cd, ho, hc, hm, hb, rfl⟩ := slot_of X hp
  obtain ⟨hh, g, dr, t, os⟩ := s
  have L0 := I.type (M := C.M)
  have L1 := looks_mroIn (M := C.M) X hm
  have L2 : Looks C.M hh (Builtin.Slots.slotNamesOf (.ref 82)) cd.slotNames := (looks_clsIn X hc).andThen .now
  have hx := I.at_
  dsimp only at ho hx L0 L1
  have f0 := looks_field (M := C.M) ho 0 (v := .str n tn) rfl
  have f1 := looks_field (M := C.M) ho 1 (v := owner) rfl
  have f3 := looks_field (M := C.M) ho 3 (v := .builtin "proto.slot#set") rfl
  have f4 := looks_field (M := C.M) ho 4 (v := .int behind tb) rfl
  refine codeAny_call_builtin KF.slot_mset.plain KF.entry_mset (KF.slot_mset.check _ _ _ _ _ _ _ _ ⟨_, ho, rfl⟩ (KF.args_mset _ _ _) ?_)
  unfold Builtin.«member_descriptor.__set__» descrSet descrStoreThrough descrCheckInstance descrNameAndClass isInstance
  have f5 : Looks C.M hh (descrItself (.ref p)) [.ref p] := ((Looks.ld (part := none) ho).andThen .now).andThen (Looks.of_pure (by kernel_rfl))
  repeat lk
  refine ⟨Code.quiet_builtin _ (by decide +kernel), codeAny_builtin KF.entry_slotset ?_⟩
  unfold Builtin.«proto.slot#set» Builtin.Slots.target
  repeat lk
  rw [if_neg hb]
  refine wpAny_pure (wpAny_bind ?_)
  unfold setSlotAt
  dsimp only
  rw [if_neg (by rw [sizeLine_eq]; omega)]
  refine wpAny_updatePart hx (wpAny_pure (h _ (Heap.SameBut.update ..) ?_))
  rw [Heap.get?_update_self _ hx rfl]
theorem set_slot' (k : Kx C) {A : Around} {E : Value → Shared → Prop} {s : Shared} {Q : Unit → Shared → Prop} {x dx : Addr} {sl : Array (Option Value)} {name : Str} {p i : Nat} {v : Value} (hs : St C s) (hin : Inst s.heap x dx sl)
    (hsa : findIn (Kn C.w.params) (.ref 82) "__setattr__" = some (some (.builtin "object.__setattr__"))) (hpo : plainOver (Kn C.w.params) 82 = true) (ht : takerIn (Kn C.w.params) 82 name = some (some (.ref p))) (hT : typeIn (Kn C.w.params) (.ref p) = some (.type "member_descriptor"))
    (hp : slotIn (Kn C.w.params) p 82 = some i) (hi : i < 1000)
    (h : ∀ h', Heap.SameBut x s.heap h' → h'.get? x = some (iObj dx ((sl ++ Array.replicate (i + 1 - sl.size) none).setIfInBounds i (some v))) → Q () { s with heap := h', toks := s.toks + 1 }) : wpAny C.M A (setAttr (.ref x) name v) Q E s :=
  set_plain (k.frag hs) hin.at hsa (osa_descr (s := { s with toks := s.toks + 1 }) KF.slot_mset (k.frag (hs.tok (s.toks + 1))) hin.at hpo ht hT (slot_put (s := { s with toks := s.toks + 1 }) k (hs.tok _) hin hp hi fun h' h1 h2 => h h' h1 h2))
end
section
variable {C : Cx} {n : Nat} {f : FS}
noncomputable def iterV (b : Heap) (ds : List D) : VP := ⟨fun k v => ∃ I a vs, v = .ref I ∧ b.get? I = none ∧ k.h.IsListIter I a 0 ∧ k.Y a ∧ IsL k.h a vs ∧ Reps k ds vs,
  fun x ⟨I, a, vs, e, f, ⟨o, h1, h2, h3⟩, y, l, r⟩ => ⟨I, a, vs, e, f, ⟨o, x.keep h1 (tab_type h2), h2, h3⟩, y, x.isL l, r.keepers (x.keepers _)⟩,
  fun x ⟨I, a, vs, e, f, i, y, l, r⟩ => ⟨I, a, vs, e, f, i, x a _ l.choose_spec y, l, r.keepers (ref_keepers x)⟩⟩
noncomputable def extP (b : Heap) : VP := ⟨fun k _ => Ext b k.h, fun x r => Ext.trans r x, fun _ r => r⟩
theorem Ev.andExt {e : Expr} {R : VP} (h : Ev C n f e R) : Ev C n f e (R.and (extP f.b)) := fun A s E Y hA hs hY hp =>
  wpAny_mono (h A s E Y hA hs hY hp) (fun v s1 ⟨a, b, c⟩ => ⟨a, b, c, hp.ext.trans b⟩) fun _ _ e => e
theorem do_iter {b : Heap} {ds : List D} (v : Value) : Does C n (fun k => ((dat (.list ds)).and (extP b)).p k v) (call (.builtin "iter") [v]) (iterV b ds).p := fun A s E Y hA hs hY ⟨hp, hb⟩ => by
  obtain ⟨a, vs, rfl, ya, l, r⟩ := rep_list hp
  refine call_function_entry (by decide +kernel) (by decide +kernel) kdk_entry_iter (kdk_args_iter _) ?_
  unfold Builtin.«iter»
  refine wpAny_bind (m := someArgs "iter" 1 2 _) (wpAny_of_eq (a := [Value.ref a]) (by first | rfl | kernel_rfl) ?_)
  show wpAny _ _ (pyIter (.ref a) >>= _) _ _ _
  refine wpAny_bind (wpAny_pyIter_list l.isList ?_)
  have ex := Ext.push s.heap { cls := .type "list_iterator", data := .fields #[.ref a, .int 0 0] }
  have hb' : Ext b s.heap := hb
  exact wpAny_pure ⟨_, rfl, hs.push _, ex, _, a, vs, rfl, hb'.none (get?_size _), ⟨_, Heap.get?_push_size _ rfl, rfl, rfl⟩, ya, ex.isL l, r.keepers (ex.keepers _)⟩
theorem next_item {A : Around} {E : Value → Shared → Prop} {s : Shared} {it l : Addr} {i : Nat} {items : Array Value} {x : Value} {Q : Value → Shared → Prop} (hit : s.heap.IsListIter it l i) (hl : s.heap.IsList l items) (hx : items[i]? = some x)
    (hQ : ∀ h', h'.IsListIter it l (i + 1) → Heap.SameBut it s.heap h' → Q x { s with heap := h' }) : wpAny C.M A (call (.builtin "next") [.ref it]) Q E s := by
  obtain ⟨o, ho, hc, hd⟩ := id hit
  obtain ⟨ol, hol, _, nl, hdl⟩ := hl
  refine call_function_entry (by decide +kernel) (by decide +kernel) kdk_entry_next (kdk_args_next _) ?_
  unfold Builtin.«next»
  refine wpAny_bind (m := someArgs "next" 1 2 _) (wpAny_of_eq (a := [Value.ref it]) (by first | rfl | kernel_rfl) ?_)
  dsimp only
  refine wpAny_bind (wpAny_specialOf (name := Str.ofString "__next__") hit.typeIs slot_listiter_next.lookup ?_)
  refine wpAny_ite_split (fun hab => absurd hab (by decide)) (fun _ => ?_)
  refine wpAny_bind (wpAny_callSpecial?_slot (name := Str.ofString "__next__") hit.typeIs slot_listiter_next (wpAny_call_entry slot_listiter_next hit.typeIs entry_listiter_next ?_ (args_listiter_next _)))
  show wpAny _ _ (field (.ref it) 0 >>= _) _ _ s
  refine wpAny_bind (wpAny_field ho hd (x := .ref l) rfl ?_)
  show wpAny _ _ (if (Value.ref l == Value.none) = true then _ else _) _ _ s
  rw [if_neg (show ¬ ((Value.ref l == Value.none) = true) from Bool.false_ne_true)]
  show wpAny _ _ (field (.ref it) 1 >>= _) _ _ s
  refine wpAny_bind (wpAny_field ho hd (x := .int i 0) rfl ?_)
  show wpAny _ _ (seqItems? (.ref l) >>= _) _ _ s
  refine wpAny_bind (wpAny_seqItems hol hdl ?_)
  simp only [Int.toNat_natCast, hx]
  refine wpAny_bind (wpAny_setField ho hd (by simp) (wpAny_pure ⟨x, rfl, wpAny_pure ⟨_, rfl, hQ _ ?_ (Heap.SameBut.update ..)⟩⟩))
  exact ⟨_, Heap.get?_update_self _ ho (Obj.isFreed_of_fields (Obj.data_mapFields hd _)), (Obj.cls_mapFields ..).trans hc, by rw [Obj.data_mapFields hd]; simp [rawInt]⟩
noncomputable abbrev stopObj (t : Addr) : Obj := { cls := .type "StopIteration", data := .fields #[.ref t, .none, .none, .none, .bool false, .none] }
theorem next_stop {A : Around} {E : Value → Shared → Prop} {s : Shared} {it l : Addr} {i : Nat} {items : Array Value} {Q : Value → Shared → Prop} (hh : A.handled = none) (hit : s.heap.IsListIter it l i) (hl : s.heap.IsList l items) (hx : items[i]? = none)
    (hE : ∀ h' e t, Heap.ExtBut it s.heap h' → (∃ o, h'.get? it = some o) → s.heap.get? e = none → h'.get? e = some (stopObj t) → E (.ref e) { s with heap := h' }) : wpAny C.M A (call (.builtin "next") [.ref it]) Q E s := by
  obtain ⟨o, ho, hc, hd⟩ := id hit
  obtain ⟨ol, hol, _, nl, hdl⟩ := hl
  refine call_function_entry (by decide +kernel) (by decide +kernel) kdk_entry_next (kdk_args_next _) ?_
  unfold Builtin.«next»
  refine wpAny_bind (m := someArgs "next" 1 2 _) (wpAny_of_eq (a := [Value.ref it]) (by first | rfl | kernel_rfl) ?_)
  dsimp only
  refine wpAny_bind (wpAny_specialOf (name := Str.ofString "__next__") hit.typeIs slot_listiter_next.lookup ?_)
  refine wpAny_ite_split (fun hab => absurd hab (by decide)) (fun _ => ?_)
  refine wpAny_bind (wpAny_callSpecial?_slot (name := Str.ofString "__next__") hit.typeIs slot_listiter_next (wpAny_call_entry slot_listiter_next hit.typeIs entry_listiter_next ?_ (args_listiter_next _)))
  show wpAny _ _ (field (.ref it) 0 >>= _) _ _ s
  refine wpAny_bind (wpAny_field ho hd (x := .ref l) rfl ?_)
  show wpAny _ _ (if (Value.ref l == Value.none) = true then _ else _) _ _ s
  rw [if_neg (show ¬ ((Value.ref l == Value.none) = true) from Bool.false_ne_true)]
  show wpAny _ _ (field (.ref it) 1 >>= _) _ _ s
  refine wpAny_bind (wpAny_field ho hd (x := .int i 0) rfl ?_)
  show wpAny _ _ (seqItems? (.ref l) >>= _) _ _ s
  refine wpAny_bind (wpAny_seqItems hol hdl ?_)
  simp only [Int.toNat_natCast, hx]
  refine wpAny_bind (wpAny_rule (wpAny_bind (wpAny_setField ho hd (by simp) ?_)))
  show wpAny _ _ (newExc (.type "StopIteration") [] >>= _) _ _ _
  refine wpAny_bind ?_
  simp only [newExc, newTuple]
  refine wpAny_bind (wpAny_newObj_type ?_ (by size_fits))
  refine wpAny_bind (m := firstArgMember _ _) (wpAny_of_eq (a := Value.none) (by first | rfl | (simp only [firstArgMember]; rfl)) ?_)
  refine wpAny_newObj_type ?_ (by size_fits)
  simp only [raiseNew]
  refine wpAny_bind (wpAny_handled ?_)
  first | rw [show A.in1.in1.handled = none from hh] | rw [show A.in1.handled = none from hh]
  refine wpAny_bind (wpAny_pure (wpAny_throw ?_))
  refine hE _ _ _ (((Heap.SameBut.update ..).extBut.push _).push _) ⟨_, Heap.get?_push_of_some _ (Heap.get?_push_of_some _ (Heap.get?_update_self _ ho (Obj.isFreed_of_fields (Obj.data_mapFields hd _))))⟩ ?_ (Heap.get?_push_size _ rfl)
  exact none_of_size (by rw [Heap.size_push, Heap.size_after_update]; omega)
end
section
variable {C : Cx} {n : Nat} {f : FS}
theorem inCallB_W {s s' : Shared} {fd : FuncData} {fa L : Addr} {body : List Stmt} {binds : List (Str × Value)} {ρ : List (Str × VP)} {F : HP} {Y : Al} {b₀ : Heap} (hF : Fn C fa fd body) (hb₀ : Ext b₀ s.heap) (hC : Ext C.B b₀)
    (x : InCallC s (fenv fd fa L).locals (bindL (fenv fd fa L).kindOf binds fun _ => none) (fenv fd fa L).cells (bindC (fenv fd fa L).kindOf binds fun _ => none) s')
    (hkind : ∀ y ∈ binds, fd.scope.names.lookup y.1 = some .local ∨ fd.scope.names.lookup y.1 = some .cell) (hnd : (binds.map (·.1)).Nodup)
    (hρ : ∀ x R, ρ.lookup x = some R → ∃ v, binds.lookup x = some v ∧ R.p ⟨b₀, Y⟩ v) (hFp : F.p ⟨s'.heap, Y⟩) (hFs : F.Stab b₀) :
    FS.W C ⟨b₀, fenv fd fa L, fd.scope, ats b₀ ρ, F⟩ ⟨s'.heap, Y⟩ := by
  have ex : Ext s.heap s'.heap := .of x.toInCall.keep
  have hmem : ∀ y v, binds.lookup y = some v → (y, v) ∈ binds := fun y v e => mem_of_lookup e
  refine ⟨⟨hb₀.trans ex, rfl, hF.kind, hF.glob, hF.bi, fun y R' e => ?_, hFp⟩, hC, ⟨_, x.toInCall.ns⟩, hb₀.none (none_of_size x.toInCall.fresh), fun y c h1 h2 => ?_, fun y h1 => ?_, fun y z c h1 h2 => ?_, fun y R' e => ?_, hFs⟩
  · obtain ⟨R, h1, rfl⟩ := ats_lookup e
    obtain ⟨v, h2, h3⟩ := hρ y R h1
    refine ⟨v, ?_, fun e => (hb₀.trans ex).live e, h3⟩
    rcases hkind _ (hmem y v h2) with hk | hk
    · exact .inl ⟨hk, _, x.toInCall.ns, bindL_here hk hnd h2⟩
    · have hin := cellsFrom_own fd.scope.names (L + 1) [] (.inl (mem_of_lookup hk))
      obtain ⟨c, hc⟩ := Option.isSome_iff_exists.mp hin
      refine .inr ⟨.inl hk, c, hc, ?_⟩
      have := x.cell y c hc
      rwa [bindC_here hk hnd h2] at this
  · exact ⟨⟨_, x.cell y c h2⟩, hb₀.none (none_of_size (Nat.le_trans x.toInCall.fresh (Nat.le_of_lt (x.above y c (mem_of_lookup h2)))))⟩
  · exact Option.isSome_iff_exists.mp (cellsFrom_own fd.scope.names (L + 1) [] (.inl (mem_of_lookup h1)))
  · exact name_of_addr x.apart (mem_of_lookup h1) (mem_of_lookup h2)
  · obtain ⟨R, _, rfl⟩ := ats_lookup e
    exact at_stab _ _
theorem callFnB (G : Bg C) {A : Around} {s : Shared} {Y : Al} {R : Result → Shared → Prop} {fa : Addr} {fd : FuncData} {body : List Stmt} {pos : List Value} {kw : List (Str × Value)} {binds : List (Str × Value)} {ρ : List (Str × VP)} {F : HP} {b₀ : Heap}
    (hF : Fn C fa fd body) (hA : Room (n + 1) A) (hs : St C s) (hY : Ok Y s.heap) (hgen : fd.scope.isGenerator = false) (hb₀ : Ext b₀ s.heap) (hC : Ext C.B b₀)
    (hbind : Bd s fd ⟨pos, kw⟩ binds) (hkind : ∀ y ∈ binds, fd.scope.names.lookup y.1 = some .local ∨ fd.scope.names.lookup y.1 = some .cell) (hnd : (binds.map (·.1)).Nodup)
    (hρ : ∀ q ∈ ρ, ∃ v, binds.lookup q.1 = some v ∧ q.2.p ⟨b₀, Y⟩ v) (hFp : ∀ h', (∀ b o, s.heap.get? b = some o → h'.get? b = some o) → F.p ⟨h', Y⟩) (hFs : F.Stab b₀)
    (hb : ∀ L s', St C s' → Ok Y s'.heap → s.heap.get? L = none → (∀ b o, s.heap.get? b = some o → s'.heap.get? b = some o) → (∃ h' tk, s' = { s with heap := h', toks := tk }) → FS.W C ⟨b₀, fenv fd fa L, fd.scope, ats b₀ ρ, F⟩ ⟨s'.heap, Y⟩ → Room n (A.deeper (fenv fd fa L)) →
      wpAny C.M (A.deeper (fenv fd fa L)) (execs body (fenv fd fa L)) (fun f s'' => R (.ok (.ret (match f with | .ret v => v | _ => .none))) s'')
        (fun e s'' => wpAny C.M (A.deeper (fenv fd fa L)) (leaving (fenv fd fa L) e) (fun _ s3 => R (.error e) s3) (fun e' s3 => R (.error e') s3) s'') s') : codeAny C.M A (.call (.ref fa) ⟨pos, kw⟩) R s := by
  obtain ⟨o, ho, hd⟩ := hF.obj
  have ht : tabLike o = false := tab_data fun vs e => by rw [hd] at e; cases e
  refine codeAny_call_function hA.reclim (hs.ext.keep ho ht) hd hF.co hgen hF.body (hF.code.rec hs.ext) (hbind.b _ _ _ _ ?_)
  rw [hF.clo]
  refine wpAny_newFunctionEnv_cells hF.kind (fun y hy => ?_) fun env he s' x => ?_
  · rcases hkind y hy with h | h
    · exact .inl h
    · exact .inr ⟨h, cellsFrom_own _ _ _ (.inl (mem_of_lookup h))⟩
  · subst he
    have hρ' : ∀ x R, ρ.lookup x = some R → ∃ v, binds.lookup x = some v ∧ R.p ⟨b₀, Y⟩ v := fun x R e => hρ (x, R) (mem_of_lookup e)
    have w := inCallB_W (ρ := ρ) (F := F) (Y := Y) hF hb₀ hC x hkind hnd hρ' (hFp _ x.toInCall.keep) hFs
    obtain ⟨h', tk, e⟩ := x.toInCall.same
    have st' : St C s' := by
      subst e
      exact hs.keep x.toInCall.keep tk
    have hY' : Ok Y s'.heap := hY.ext (.of x.toInCall.keep)
    exact ⟨st'.ext.nolimit G.lim, codeAny_func (hb _ s' st' hY' (none_of_size x.toInCall.fresh) x.toInCall.keep ⟨h', tk, e⟩ w (hA.deeper _))⟩
noncomputable def instF (x dx : Addr) (sl : Array (Option Value)) : HP := ⟨fun k => Inst k.h x dx sl, fun x r => r.ext x⟩
theorem instF_stab {b : Heap} {x dx : Addr} {sl : Array (Option Value)} {o : Obj} (hd : b.get? dx = some o) : (instF x dx sl).Stab b := ⟨fun {h h' Y a o₁ o'} hb e hs e' k r => by
  have r' : Inst h x dx sl := r
  refine ⟨(k.2 x ?_).trans r'.i, (k.2 dx ?_).trans r'.d⟩
  · rintro rfl
    have := r'.i
    rw [e] at this
    cases this
    cases hs
  · rintro rfl
    rw [hd] at hb; cases hb⟩
end
section
variable {C : Cx} {n : Nat} {f : FS}
theorem Ev.run {e : Expr} {R : VP} {A : Around} {s : Shared} {E : Value → Shared → Prop} {Y : Al} {Q : Value → Shared → Prop} (hA : Room n A) (hs : St C s) (hY : Ok Y s.heap) (hp : f.H ⟨s.heap, Y⟩) (he : Ev C n f e R)
    (hQ : ∀ v s1, St C s1 → Ext s.heap s1.heap → R.p ⟨s1.heap, Y⟩ v → Q v s1) : wpAny C.M A (eval e f.env) Q E s := wpAny_mono (he A s E Y hA hs hY hp) (fun v s1 ⟨a, b, c⟩ => hQ v s1 a b c) fun _ _ e => e
structure FF (C : Cx) (k : Vw) (ss : List Str) (ds : List D) (x dx bnd sa I a : Addr) (vs : List Value) (i : Nat) : Prop where
  inst : Inst k.h x dx #[some (.ref bnd), some (.ref I)]
  bnd : k.h.get? bnd = some (boundO sa)
  set : ∃ c, k.h.SetOf (strKind C.prog C.w) sa (fun k' => ss.contains k') c
  it : k.h.IsListIter I a i
  y : k.Y a
  l : IsL k.h a vs
  r : Reps k ds vs
theorem do_ff (k : Kx C) {A : Around} {s : Shared} {E : Value → Shared → Prop} {Y : Al} {ss : List Str} {ds : List D} {bnd sa : Addr} {lv : Value} {Q : Value → Shared → Prop} (hA : Room (n + 4) A) (hs : St C s) (hY : Ok Y s.heap)
    (hb : s.heap.get? bnd = some (boundO sa)) (hS : ∃ c, s.heap.SetOf (strKind C.prog C.w) sa (fun k' => ss.contains k') c) (hl : (dat (.list ds)).p ⟨s.heap, Y⟩ lv)
    (hQ : ∀ s' x dx I a vs, St C s' → Ext s.heap s'.heap → FF C ⟨s'.heap, Y⟩ ss ds x dx bnd sa I a vs 0 → s.heap.get? x = none → s.heap.get? I = none → s.heap.get? dx = none → Q (.ref x) s') : wpAny C.M A (call (.ref 82) [.ref bnd, lv]) Q E s := by
  obtain ⟨h, g, d, t, os⟩ := s
  have X : (Kn C.w.params).In h := k.frag hs
  refine wpAny_call (make_core (A := A) (makes_of X rfl) (looks_findIn X (t := .ref 82) (name := "__init__") (r := some (.ref 64)) rfl) (fun self => bind_fn X self rfl) (.inl rfl) ?_)
  have ex1 : Ext h (h.push emptyDict) := .push _ _
  have ex2 : Ext h ((h.push emptyDict).push (instObj 82 h.objs.size)) := ex1.push' _
  have hs2 : St C ⟨(h.push emptyDict).push (instObj 82 h.objs.size), g, d, t, os⟩ := (hs.push emptyDict).push (instObj 82 h.objs.size)
  have hinst : Inst ((h.push emptyDict).push (instObj 82 h.objs.size)) (h.objs.size + 1) h.objs.size #[] := ⟨by heap_get, by heap_get⟩
  have hdxn : h.get? h.objs.size = none := get?_size _
  have hxn : h.get? (h.objs.size + 1) = none := none_of_size (by omega)
  have hxn1 : (h.push emptyDict).get? (h.objs.size + 1) = none := none_of_size (by rw [Heap.size_push]; exact Nat.le_refl _)
  have hdx1 : (h.push emptyDict).get? h.objs.size = some emptyDict := Heap.get?_push_size _ rfl
  have ex12 : Ext (h.push emptyDict) ((h.push emptyDict).push (instObj 82 h.objs.size)) := .push _ _
  generalize hh1 : h.push emptyDict = h1 at *
  generalize hh2 : h1.push (instObj 82 h.objs.size) = h2 at *
  generalize hx : h.objs.size + 1 = x at *
  generalize hdx : h.objs.size = dx at *
  have hbind : Bd ⟨h2, g, d, t, os⟩ (fdOf C.w.params 64) ⟨[.ref x, .ref bnd, lv], []⟩ [(Str.ofString "self", .ref x), (Str.ofString "function", .ref bnd), (Str.ofString "iterable", lv)] := by
    have e : fdOf C.w.params 64 = fdOf C.w.params 64 := rfl
    conv at e => rhs; whnf
    rw [e]
    exact ⟨.of_eq rfl⟩
  have hY2 : Ok Y h2 := Ok.ext hY ex2
  refine callFnB (n := n + 1) k.toBg (b₀ := h1) (ρ := [(Str.ofString "self", isV (.ref x)), (Str.ofString "function", isV (.ref bnd)), (Str.ofString "iterable", dat (.list ds))]) (F := instF x dx #[]) (fn_ff_init k) (room_make (n := n + 2) hA) hs2 hY2 rfl ex12 (hs.ext.trans ex1) hbind (by walk_at "kinds") (by walk_at "nd") ?_ (fun h' hk => hinst.ext (.of hk)) (instF_stab hdx1)
    (fun L s' st' hY' hL hkeep _ w hA' => ?_)
  · refine List.forall_mem_cons.mpr ⟨⟨_, rfl, rfl⟩, List.forall_mem_cons.mpr ⟨⟨_, rfl, rfl⟩, List.forall_mem_cons.mpr ⟨⟨_, rfl, (dat _).ext ex1 hl⟩, List.forall_mem_nil _⟩⟩⟩
  have ex3 : Ext h s'.heap := ex2.trans (.of hkeep)
  conv in (bodyOf _ _) => whnf
  let f1 : FS := ff C 64 h1 L (ats h1 [(Str.ofString "self", isV (.ref x)), (Str.ofString "function", isV (.ref bnd)), (Str.ofString "iterable", dat (.list ds))]) (instF x dx #[])
  have w1 : f1.W C ⟨s'.heap, Y⟩ := w
  refine wpAny_execs_cons (plainObj_wpAny_Assign_Attribute ?_ rfl)
  refine Ev.run (f := f1) (n := n) (R := iterV h1 ds) (hA'.le (by omega)) st' hY' w1.toH (Ev.callB (Ev.bi k bn_iter rfl rfl (by decide) rfl) (Evl.cons (R := (dat (.list ds)).and (extP h1)) (Ev.andExt (f := f1) (Ev.here (f := f1) (by walk_at "nm"))) .nil) (call1 do_iter)) fun iv s3 g1 g2 g3 => ?_
  obtain ⟨I, a, vs, rfl, hIn, it, ya, la, ra⟩ := g3
  refine Ev.run (f := f1) (n := n) (R := isV (.ref x)) (hA'.le (by omega)) g1 (hY'.ext g2) (w1.up g2).toH (Ev.here (f := f1) (by walk_at "nm")) fun sv s4 p1 p2 p3 => ?_
  have p3' : sv = .ref x := p3
  subst p3'
  have w4 := (w1.up g2).up p2
  have hI4 : Inst s4.heap x dx #[] := w4.toH.more
  refine set_slot' k p1 hI4 (name := Str.ofString "_it") (p := 84) (i := 1) rfl rfl rfl rfl rfl (by decide) fun h5 q1 q2 => ?_
  generalize hsl : (((#[] : Array (Option Value)) ++ Array.replicate (1 + 1 - (#[] : Array (Option Value)).size) none).setIfInBounds 1 (some (Value.ref I))) = sl1 at q2
  have hCx : C.B.get? x = none := hs.ext.none hxn
  have hdxx : dx ≠ x := by omega
  have st5 : St C { s4 with heap := h5, toks := s4.toks + 1 } := p1.same hI4.i rfl hCx q1 _
  have hI5 : Inst h5 x dx sl1 := ⟨q2, (q1.2 dx hdxx).trans hI4.d⟩
  have w5 := FS.W.soft (f := f1) (F' := instF x dx sl1) w4 q1.extBut hI4.i nofun nofun nofun hxn1 (fun y R e => by obtain ⟨R', _, rfl⟩ := ats_lookup e; exact at_softV) hI5 (instF_stab hdx1)
  have hY5 : Ok Y h5 := ((hY'.ext g2).ext p2).same q1 q2
  let f2 : FS := { f1 with F := instF x dx sl1 }
  have w5' : f2.W C ⟨h5, Y⟩ := w5
  refine wpAny_execs_cons (plainObj_wpAny_Assign_Attribute ?_ rfl)
  refine Ev.run (f := f2) (n := n) (R := isV (.ref bnd)) (hA'.le (by omega)) st5 hY5 w5'.toH (Ev.here (f := f2) (by walk_at "nm")) fun bv s6 a1 a2 a3 => ?_
  have a3' : bv = .ref bnd := a3
  subst a3'
  refine Ev.run (f := f2) (n := n) (R := isV (.ref x)) (hA'.le (by omega)) a1 (Ok.ext hY5 a2) (w5'.up a2).toH (Ev.here (f := f2) (by walk_at "nm")) fun sv s7 b1 b2 b3 => ?_
  have b3' : sv = .ref x := b3
  subst b3'
  have hI7 : Inst s7.heap x dx _ := ((w5'.up a2).up b2).toH.more
  refine set_slot' k b1 hI7 (name := Str.ofString "_func") (p := 83) (i := 0) rfl rfl rfl rfl rfl (by decide) fun h8 c1 c2 => ?_
  refine wpAny_execs_nil ⟨rfl, ?_⟩
  have ex57 : Ext h5 s7.heap := a2.trans b2
  have hh4 : Ext h s4.heap := (ex3.trans g2).trans p2
  have hh5 : Ext h h5 := hh4.same hxn q1
  have hh8 : Ext h h8 := (hh5.trans ex57).same hxn c1
  have hIx : I ≠ x := by
    obtain ⟨o, e1, e2, e3⟩ := it
    rintro rfl
    have := p2.keep e1 (tab_type e2)
    rw [hI4.i] at this
    cases this
    cases e2
  have hax : a ≠ x := by
    obtain ⟨n', e1⟩ := la
    rintro rfl
    have := p2.keep e1 rfl
    rw [hI4.i] at this
    simp [LObj] at this
  have keep : ∀ b o, b ≠ x → s4.heap.get? b = some o → tabLike o = false → h8.get? b = some o := fun b o hb e t => (c1.2 b hb).trans (ex57.keep ((q1.2 b hb).trans e) t)
  have bx : ∀ {b o}, h.get? b = some o → b ≠ x := fun {b o} e q => by rw [q, hxn] at e; cases e
  have hsl2 : (sl1 ++ Array.replicate (0 + 1 - sl1.size) none).setIfInBounds 0 (some (.ref bnd)) = #[some (.ref bnd), some (.ref I)] := by subst hsl; rfl
  rw [hsl2] at c2
  refine hQ _ x dx I a vs (b1.same hI7.i rfl hCx c1 _) hh8 ⟨⟨c2, (c1.2 dx hdxx).trans hI7.d⟩, hh8.keep hb rfl, ?_, ?_, ya, ?_, ?_⟩ hxn ?_ ?_
  · obtain ⟨c, hSc⟩ := hS
    exact ⟨c, setOf_at hSc fun o e => by
      obtain ⟨o', es, ep, tb, ho, hx', hd', _⟩ := hSc
      have e' : h.get? sa = some o := e
      have ho' : h.get? sa = some o' := ho
      rw [e'] at ho'
      cases ho'
      exact hh8.keep e' (tab_data fun vs q => by rw [hd'] at q; cases q)⟩
  · obtain ⟨o, e1, e2, e3⟩ := it
    exact ⟨o, keep I o hIx (p2.keep e1 (tab_type e2)) (tab_type e2), e2, e3⟩
  · obtain ⟨n', e1⟩ := la
    exact ⟨n', keep a _ hax (p2.keep e1 rfl) rfl⟩
  · have r4 := ra.keepers (p2.keepers Y)
    have r5 := r4.keepers (soft_keepers (Y := Y) hI4.i nofun q1.extBut)
    have r7 := r5.keepers (ex57.keepers Y)
    exact r7.keepers (soft_keepers (Y := Y) hI7.i nofun c1.extBut)
  · exact ex1.none hIn
  · exact hdxn
end
section
variable {C : Cx} {n : Nat} {f : FS}
noncomputable def bndV (C : Cx) (ss : List Str) : VP := ⟨fun k v => ∃ b sa c, v = .ref b ∧ k.h.get? b = some (boundO sa) ∧ k.h.SetOf (strKind C.prog C.w) sa (fun k' => ss.contains k') c,
  fun x ⟨b, sa, c, e, hb, o, es, ep, t, ho, hx, hd, r⟩ => ⟨b, sa, c, e, x.keep hb rfl, o, es, ep, t, x.keep ho (tab_data fun vs q => by rw [hd] at q; cases q), hx, hd, r⟩, fun _ r => r⟩
theorem Ev.contains {e : Expr} {pos : Pos} {ss : List Str} (he : Ev C n f e (setV C ss))
    (hb : ∀ env, eval (.Attribute e (Str.ofString "__contains__") pos) env = (do
      let o ← eval e env
      standAt pos.atName
      let r ← holding [o] (getAttr o (Str.ofString "__contains__") true)
      letTemporaryGo e o r
      pure r) := by intro _; with_unfolding_all rfl) : Ev C n f (.Attribute e (Str.ofString "__contains__") pos) (bndV C ss) := fun A s E Y hA hs hY hp => by
  refine Attribute_any_ (wpAny_mono (he A s E Y hA hs hY hp) (fun v s1 ⟨h1, h2, h3⟩ => ?_) fun _ _ e => e) (hb _)
  obtain ⟨a, c, rfl, hc, hS⟩ := h3
  obtain ⟨o, es, ep, t, ho, hx, hd, r⟩ := id hS
  obtain ⟨c1, c2, c3⟩ := hx
  obtain ⟨ocls, odict, odata, osl⟩ := o
  simp only at c1 c2 c3 hd
  subst c1 c2 c3 hd
  have ex := Ext.push s1.heap (boundO a)
  refine get_contains ho ⟨(h1.push _).tok _, h2.trans ex, s1.heap.objs.size, a, c, rfl, Heap.get?_push_size _ rfl, setOf_at hS fun o e => Heap.get?_push_of_some _ e⟩
theorem FF.up {h h' : Heap} {Y : Al} {ss : List Str} {ds : List D} {x dx bnd sa I a : Addr} {vs : List Value} {i : Nat} (w : FF C ⟨h, Y⟩ ss ds x dx bnd sa I a vs i) (k : Ext h h') : FF C ⟨h', Y⟩ ss ds x dx bnd sa I a vs i :=
  ⟨w.inst.ext k, k.keep w.bnd rfl, let ⟨c, o, es, ep, t, ho, hx, hd, r⟩ := w.set; ⟨c, o, es, ep, t, k.keep ho (tab_data fun vs q => by rw [hd] at q; cases q), hx, hd, r⟩, let ⟨o, h1, h2, h3⟩ := w.it; ⟨o, k.keep h1 (tab_type h2), h2, h3⟩, w.y, k.isL w.l, w.r.keepers (k.keepers Y)⟩
noncomputable def ffV (C : Cx) (b : Heap) (ss : List Str) (ds : List D) : VP := ⟨fun k v => ∃ x dx bnd sa I a vs, v = .ref x ∧ b.get? x = none ∧ b.get? I = none ∧ b.get? dx = none ∧ FF C k ss ds x dx bnd sa I a vs 0,
  fun x ⟨x', dx, bnd, sa, I, a, vs, e, f1, f2, f3, w⟩ => ⟨x', dx, bnd, sa, I, a, vs, e, f1, f2, f3, w.up x⟩,
  fun x ⟨x', dx, bnd, sa, I, a, vs, e, f1, f2, f3, w⟩ => ⟨x', dx, bnd, sa, I, a, vs, e, f1, f2, f3, w.inst, w.bnd, w.set, w.it, x a _ w.l.choose_spec w.y, w.l, w.r.keepers (ref_keepers x)⟩⟩
theorem do_ffD (k : Kx C) {b : Heap} {ss : List Str} {ds : List D} (vs : List Value) : Does C (n + 4) (fun q => All2 q [(bndV C ss).and (extP b), dat (.list ds)] vs) (call (.ref 82) vs) (ffV C b ss ds).p := fun A s E Y hA hs hY hp => by
  obtain ⟨u, v, rfl, ⟨⟨bd, sa, c, rfl, h1, h2⟩, hb⟩, h3⟩ := two hp
  have hb' : Ext b s.heap := hb
  exact do_ff k hA hs hY h1 ⟨c, h2⟩ h3 fun s' x dx I a vs g1 g2 g3 g4 g5 g6 => ⟨g1, g2, x, dx, bd, sa, I, a, vs, rfl, hb'.none g4, hb'.none g5, hb'.none g6, g3⟩
theorem Ev.callC (k : Kx C) {func : Expr} {e : Expr} {es : List Expr} {pos : Pos} {fa : Addr} {Rs : List VP} {R : VP} (hkeep : keepIn (Kn C.w.params) (.ref fa) = true) (hf : Ev C n f func (isV (.ref fa))) (ha : Evl C n f pos (e :: es) Rs)
    (hc : ∀ vs, Does C n (fun k => All2 k Rs vs) (call (.ref fa) vs) R.p)
    (he : ∀ env, eval (.Call func (e :: es) [] pos) env = (do callWith pos (← eval func env) [] (backTo pos (starEach (e :: es) env)) (backToKw pos (keywordEach [] env))) := by intro _; rfl)
    (hst : ∀ env, starEach (e :: es) env = (false, eval e env) :: starEach es env := by intro _; rfl)
    (hpl : ∀ env, (backTo pos (starEach es env)).any (·.1) = false := by intro _; rfl) : Ev C n f (.Call func (e :: es) [] pos) R := fun A s E Y hA hs hY hp => by
  refine Call_ (wpAny_mono (hf A s E Y hA hs hY hp) (fun v s1 ⟨h1, h2, h3⟩ => ?_) fun _ _ e => e) (he _)
  have h3' : v = .ref fa := h3
  subst h3'
  refine callWith_K (k.frag h1) hkeep (wpAny_mono (ha A s1 E Y hA h1 (hY.ext h2) (hp.up h2)) (fun vs s2 ⟨g1, g2, g3⟩ => ⟨k.frag g1, ?_⟩) fun _ _ e => e) (hst _) (hpl _)
  exact wpAny_mono (hc vs A s2 E Y hA g1 (hY.ext (h2.trans g2)) g3) (fun _ _ ⟨k1, k2, k3⟩ => ⟨k1, (h2.trans g2).trans k2, k3⟩) fun _ _ e => e
theorem do_difference (k : Kx C) {b : Heap} {ss : List Str} {ds : List D} (hl : ss.length ≤ 1000) (vs : List Value) : Does C (n + 5) (fun q => All2 q [(dat (.list ds)).and (extP b), dat (.list (ss.map .str))] vs) (call (.ref 93) vs) (ffV C b ss ds).p := fun A s E Y hA hs hY hp => by
  obtain ⟨u, v, rfl, ⟨h0, hb⟩, h1⟩ := two hp
  have hb' : Ext b s.heap := hb
  have hbind : Bd s (fdOf C.w.params 93) ⟨[u, v], []⟩ [(Str.ofString "minuend", u), (Str.ofString "subtrahend", v)] := by
    have e : fdOf C.w.params 93 = fdOf C.w.params 93 := rfl
    conv at e => rhs; whnf
    rw [e]
    exact ⟨.of_eq rfl⟩
  refine callFn k (n := n + 4) (ρ := [(Str.ofString "minuend", dat (.list ds)), (Str.ofString "subtrahend", dat (.list (ss.map .str)))]) (F := .top) (q := fun b => givesQ (ffV C b ss ds) b) (fn_difference k) hA hs hY rfl hbind (by walk_at "kinds") (by walk_at "nd") (by walk_at "args") (fun _ _ => trivial) top_stab
    (fun L => ?_) fun fl s' q1 q2 ⟨q3, v, e, q4⟩ => ?_
  · conv in (bodyOf _ _) => whnf
    refine Tr.retS (f := ff C 93 s.heap L [(Str.ofString "minuend", VP.at s.heap (dat (.list ds))), (Str.ofString "subtrahend", VP.at s.heap (dat (.list (ss.map .str))))] .top) (R := ffV C s.heap ss ds) (Ev.callC k rfl (Ev.gl k rfl rfl rfl) (Evl.cons (R := (bndV C ss).and (extP s.heap)) (Ev.andExt (f := ff C 93 s.heap L _ .top) (Ev.contains (Ev.callT (Ev.bi k bn_set rfl rfl (by decide) rfl) (Evl.cons (R := dat (.list (ss.map .str))) (Ev.here (by walk_at "nm")) .nil) (call1 (do_set hl))))) (Evl.cons (R := dat (.list ds)) (Ev.here (by walk_at "nm")) .nil)) (do_ffD k)) fun q v h1 h2 => ⟨h1.ext, v, rfl, h2⟩
  · subst e
    obtain ⟨x, dx, bnd, sa, I, a, vs, e, f1, f2, f3, w⟩ := q4
    exact ⟨q1, q3, x, dx, bnd, sa, I, a, vs, e, hb'.none f1, hb'.none f2, hb'.none f3, w⟩
end
section
variable {C : Cx} {n : Nat} {f : FS}
theorem Ev.slot (k : Kx C) {self name : Str} {p1 p2 : Pos} {x dx p : Addr} {sl : Array (Option Value)} {i : Nat} {v : Value} (hx : Ev C n f (.Name self p1) (isV (.ref x))) (hI : Inst f.b x dx sl)
    (hga : findIn (Kn C.w.params) (.ref 82) "__getattribute__" = some (some (.builtin "object.__getattribute__"))) (hfo : findObj (Kn C.w.params) 82 (some emptyDict) name = some (.bind (.builtin "member_descriptor.__get__") (.ref p)))
    (hk : findIn (Kn C.w.params) (.ref 82) "__getattr__" = some none) (hp : slotIn (Kn C.w.params) p 82 = some i) (hv : (sl[i]?).join = some v) (hh : handedIn v = true)
    (hb : ∀ env, eval (.Attribute (.Name self p1) name p2) env = (do
      let o ← eval (.Name self p1) env
      standAt p2.atName
      let r ← holding [o] (getAttr o name true)
      letTemporaryGo (.Name self p1) o r
      pure r) := by intro _; with_unfolding_all rfl) : Ev C n f (.Attribute (.Name self p1) name p2) (isV v) := fun A s E Y hA hs hY hpp => by
  refine Attribute_any_ (wpAny_mono (hx A s E Y hA hs hY hpp) (fun u s1 ⟨h1, h2, h3⟩ => ?_) fun _ _ e => e) (hb _)
  have h3' : u = .ref x := h3
  subst h3'
  exact get_slot' k h1 (hI.ext (hpp.ext.trans h2)) hga hfo hk hp hv hh ⟨h1.tok _, h2, rfl⟩
theorem Ts.isNot {e e2 : Expr} {p : Pos} {u w : Value} (h1 : Ev C n f e (isV u)) (h2 : Ev C n f e2 (isV w)) (hu : plainIs u w = true) (hne : u ≠ w) (hb : behindInMarks .Is e2 = false := by rfl) : Ts C n f (.Compare e [.Is] [e2] p) false := fun A s E Y hA hs hY hp =>
  wpAny_isTrue_Compare1 (wpAny_mono (h1 A s E Y hA hs hY hp) (fun a s1 ⟨g1, g2, g3⟩ => wpAny_mono (h2 A s1 E Y hA g1 (hY.ext g2) (hp.up g2)) (fun b s2 ⟨k1, k2, k3⟩ => by
    have e1 : a = u := g3
    have e2 : b = w := k3
    subst e1
    subst e2
    exact wpAny_is_other hu hne (wpAny_truthy_bool ⟨k1, g2.trans k2, rfl⟩)) fun _ _ e => e) fun _ _ e => e) hb
theorem keeps_bound {M : Model} {b sa : Addr} (h : Heap) (hb : h.get? b = some (boundO sa)) : ∃ k, (k = Keeper.frame ∨ k = Keeper.machine ∨ k = Keeper.boundFrame) ∧ Looks M h (keeperOf (.ref b)) k :=
  ⟨.machine, .inr (.inl rfl), (Looks.ld (part := none) hb).andThen .now⟩
theorem Ev.callBd {func : Expr} {e : Expr} {pos : Pos} {b sa : Addr} {c : Nat} {Sf : Str → Bool} {x : Str} (hf : Ev C n f func (isV (.ref b))) (ha : Ev C n f e (dat (.str x))) (hb : f.b.get? b = some (boundO sa)) (hS : f.b.SetOf (strKind C.prog C.w) sa Sf c)
    (he : ∀ env, eval (.Call func [e] [] pos) env = (do callWith pos (← eval func env) [] (backTo pos (starEach [e] env)) (backToKw pos (keywordEach [] env))) := by intro _; rfl)
    (hst : ∀ env, starEach [e] env = (false, eval e env) :: starEach [] env := by intro _; rfl) : Ev C n f (.Call func [e] [] pos) (dat (.bool (Sf x))) := fun A s E Y hA hs hY hp => by
  refine Call_ (wpAny_mono (hf A s E Y hA hs hY hp) (fun v s1 ⟨h1, h2, h3⟩ => ?_) fun _ _ e => e) (he _)
  have h3' : v = .ref b := h3
  subst h3'
  have hh := ha A s1 E Y hA h1 (hY.ext h2) (hp.up h2)
  show wpAny C.M A (callWith pos (.ref b) [] (backTo pos (starEach [e] f.env)) []) _ E s1
  have hsp : backTo pos (starEach [e] f.env) = (false, eval e f.env) :: backTo pos (starEach [] f.env) := by rw [hst]; rfl
  rw [hst]
  refine callWith_of (P := fun h => h.get? b = some (boundO sa)) rfl (fun h => keeps_bound h) (evalArgs_plain ?_)
  have hitems : wpAny C.M A (spliced (backTo pos (starEach [e] f.env))) (fun vs s2 => ∃ v, vs = [v] ∧ St C s2 ∧ Ext s1.heap s2.heap ∧ (dat (.str x)).p ⟨s2.heap, Y⟩ v) E s1 :=
    wpAny_items_cons (wpAny_mono hh (fun v s2 ⟨g1, g2, g3⟩ => wpAny_items_nil ⟨v, rfl, g1, g2, g3⟩) fun _ _ e => e) (hst _)
  rw [hst] at hitems
  refine wpAny_mono hitems (fun vs s2 ⟨v, e, g1, g2, g3⟩ => ?_) fun _ _ e => e
  subst e
  obtain ⟨t, rfl⟩ := rep_str g3
  have ex := (hp.ext.trans h2).trans g2
  refine ⟨ex.keep hb rfl, call_bound (C := C) (ex.keep hb rfl) (setOf_at hS fun o e => ?_) ⟨g1.tok _, h2.trans g2, mk_bool⟩⟩
  obtain ⟨o', es, ep, tb, ho, hx, hd, r⟩ := hS
  rw [e] at ho
  cases ho
  exact ex.keep e (tab_data fun vs q => by rw [hd] at q; cases q)
theorem Ts.boolE {e : Expr} {c : Bool} (he : Ev C n f e (dat (.bool c))) (h : ∀ env w, isTrue e env w = (do let v ← w; standAt e.pos; holding [v] (truthy v)) := by intro _ _; rfl) : Ts C n f e c := fun A s E Y hA hs hY hp => by
  refine wpAny_isTrue_value (wpAny_mono (he A s E Y hA hs hY hp) (fun v s1 ⟨h1, h2, h3⟩ => ?_) fun _ _ e => e) (h _ _)
  rw [rep_bool h3]
  exact wpAny_truthy_bool ⟨h1, h2, rfl⟩
noncomputable def itH (I a : Addr) (i : Nat) : HP := ⟨fun k => k.h.IsListIter I a i, fun x ⟨o, h1, h2, h3⟩ => ⟨o, x.keep h1 (tab_type h2), h2, h3⟩⟩
theorem itH_stab {b : Heap} {I a : Addr} {i : Nat} : (itH I a i).Stab b := ⟨fun {h h' Y c o o'} _ e hs e' k r => by
  obtain ⟨q, h1, h2, h3⟩ := r
  refine ⟨q, (k.2 I ?_).trans h1, h2, h3⟩
  rintro rfl
  have h1' : h.get? I = some q := h1
  rw [e] at h1'
  cases h1'
  unfold scratch at hs
  rw [h3] at hs
  cases hs⟩
end
section
variable {C : Cx} {n : Nat} {f : FS}
structure Nx (C : Cx) (b : Heap) (ss ms : List Str) (x dx bnd sa I a : Addr) (vs : List Value) : Prop where
  root : Ext C.B b
  inst : Inst b x dx #[some (.ref bnd), some (.ref I)]
  bnd : b.get? bnd = some (boundO sa)
  set : ∃ c, b.SetOf (strKind C.prog C.w) sa (fun k' => ss.contains k') c
  l : IsL b a vs
  len : vs.length = ms.length
  vals : ∀ (i : Nat) (v : Value), vs[i]? = some v → ∃ x t, ms[i]? = some x ∧ v = .str x t
  out : b.get? I = none
noncomputable abbrev nxρ (b : Heap) (x bnd : Addr) : List (Str × VP) := [(Str.ofString "func", isV (.ref bnd)), (Str.ofString "self", VP.at b (isV (.ref x)))]
theorem ff_while (k : Kx C) {b : Heap} {ss ms : List Str} {x dx bnd sa I a : Addr} {vs : List Value} (N : Nx C b ss ms x dx bnd sa I a vs) (hml : ms.length ≤ 1000) {A : Around} {Y : Al} {L : Nat} (hA : Room n A) {R : Result → Shared → Prop} {t : Expr} {w1 : List Stmt}
    (hbody : ∃ p₁ p₂, bodyOf C.w.params 78 = [p₁, .While t w1 [] p₂]) (i₀ : Nat)
    (hret : ∀ i y u s', ms[i]? = some y → i₀ ≤ i → (∀ q, i₀ ≤ q → q < i → ∃ z, ms[q]? = some z ∧ ss.contains z = true) → ss.contains y = false → St C s' → Ok Y s'.heap → s'.heap.IsListIter I a (i + 1) → R (.ok (.ret (.str y u))) s')
    (herr : ∀ s1 h' e t₁ m, (∀ q, i₀ ≤ q → q < ms.length → ∃ z, ms[q]? = some z ∧ ss.contains z = true) → St C s1 → Ok Y s1.heap → s1.heap.Ns L m → Heap.ExtBut I s1.heap h' → (∃ o, h'.get? I = some o) → s1.heap.get? e = none → h'.get? e = some (stopObj t₁) →
      notedBy C.M A (fenv (fdOf C.w.params 78) 78 L) (fun e s' => R (.error e) s') (.ref e) { s1 with heap := h' }) :
    ∀ s, i₀ ≤ ms.length → St C s → Ok Y s.heap → (ff C 78 b L (nxρ b x bnd) (itH I a i₀)).W C ⟨s.heap, Y⟩ → codeAny C.M A (.whileLoop t w1 [] (fenv (fdOf C.w.params 78) 78 L)) R s := by
  obtain ⟨p₁, p₂, hbody⟩ := hbody
  conv at hbody => lhs; whnf
  injection hbody with hb1 hb2
  injection hb2 with hb2 _
  injection hb2 with ht hw _ _
  subst ht hw
  intro s hi0 hs hY w
  obtain ⟨c, hS⟩ := N.set
  refine codeAny_whileLoop (fun j s' => ∃ i, j = ms.length - i ∧ i₀ ≤ i ∧ i ≤ ms.length ∧ (∀ q, i₀ ≤ q → q < i → ∃ z, ms[q]? = some z ∧ ss.contains z = true) ∧ St C s' ∧ Ok Y s'.heap ∧ (ff C 78 b L (nxρ b x bnd) (itH I a i)).W C ⟨s'.heap, Y⟩) ?_ (ms.length - i₀) ⟨i₀, rfl, Nat.le_refl _, hi0, fun q h1 h2 => by omega, hs, hY, w⟩
  rintro j s' ⟨i, rfl, hi1, hi2, hin, st, hY', w'⟩
  refine wpAny_isTrue_value (wpAny_Constant_bool (wpAny_truthy_bool ?_)) rfl
  rw [if_pos rfl]
  -- the item
  refine wpAny_execs_cons (wpAny_Assign_Name ?_ rfl)
  refine Call_ ?_ rfl
  refine Ev.run (f := ff C 78 b L (nxρ b x bnd) (itH I a i)) (n := n) (R := isV (.builtin "next")) hA st hY' w'.toH (Ev.bi k bn_next rfl rfl (by decide) rfl) fun nv s1 a1 a2 a3 => ?_
  have a3' : nv = .builtin "next" := a3
  subst a3'
  refine PyProof.Rows.callWith_builtin1 (wpAny_items_cons ?_ rfl) rfl rfl
  refine Ev.run (f := ff C 78 b L (nxρ b x bnd) (itH I a i)) (n := n) (R := isV (.ref I)) hA a1 (hY'.ext a2) (w'.up a2).toH (Ev.slot k (p := 84) (i := 1) (Ev.here (f := ff C 78 b L (nxρ b x bnd) (itH I a i)) (by walk_at "nm")) N.inst rfl rfl rfl rfl rfl rfl) fun iv s2 b1 b2 b3 => ?_
  have b3' : iv = .ref I := b3
  subst b3'
  refine wpAny_items_nil ?_
  have w2 := (w'.up a2).up b2
  have hY2 := (hY'.ext a2).ext b2
  have hit : s2.heap.IsListIter I a i := w2.toH.more
  have hl2 : s2.heap.IsList a vs.toArray := (w2.toH.ext.isL N.l).isList
  obtain ⟨oI, hI1, hI2, hI3⟩ := id hit
  have hsoftI : soft oI = true := by unfold soft; rw [tab_type hI2, hI3]; rfl
  have hnd : ∀ es m, oI.data ≠ .dict es m := fun es m e => by rw [hI3] at e; cases e
  have hnc : ∀ v, oI.data ≠ .cell v := fun v e => by rw [hI3] at e; cases e
  have hns : ∀ its m, oI.data ≠ .seq its m := fun es m e => by rw [hI3] at e; cases e
  have hCI : C.B.get? I = none := N.root.none N.out
  have hρs : ∀ y R, (nxρ b x bnd).lookup y = some R → R.Soft b := fun y R e => by
    have := mem_of_lookup e
    simp only [nxρ, List.mem_cons, List.not_mem_nil, or_false, Prod.mk.injEq] at this
    rcases this with ⟨_, rfl⟩ | ⟨_, rfl⟩
    · exact @isV_softV b _
    · exact @at_softV b _
  by_cases hlt : i < ms.length
  · have hvl : i < vs.length := by rw [N.len]; exact hlt
    have hv : vs[i]? = some vs[i] := List.getElem?_eq_getElem hvl
    obtain ⟨y, u, hy, hyv⟩ := N.vals i _ hv
    refine next_item (C := C) hit hl2 (x := vs[i]) (by simp [hvl]) fun h3 hit3 hsb => ?_
    obtain ⟨o3, e3, _⟩ := id hit3
    have st3 : St C { s2 with heap := h3 } := b1.same hI1 hsoftI hCI hsb s2.toks
    have hY3 : Ok Y h3 := hY2.same hsb e3
    have w3 := FS.W.soft (f := ff C 78 b L (nxρ b x bnd) (itH I a i)) (F' := itH I a (i + 1)) w2 hsb.extBut hI1 hns hnd hnc N.out hρs hit3 itH_stab
    rw [hyv]
    refine FS.W.store (f := ff C 78 b L (nxρ b x bnd) (itH I a (i + 1))) (R := dat (.str y)) w3 st3 hY3 (.inl rfl) mk_str (dat_stab _) fun s4 d1 d2 d3 _ => ?_
    -- the test
    refine wpAny_mono ((?fin : Tr C n ((FS.put (ff C 78 b L (nxρ b x bnd) (itH I a (i + 1))) (Str.ofString "item") (dat (.str y))).W C) (execs _ (fenv (fdOf C.w.params 78) 78 L))
        (fun fl q => if ss.contains y = true then fl = .next ∧ (ff C 78 b L (nxρ b x bnd) (itH I a (i + 1))).W C q else ∃ u, fl = .ret (.str y u) ∧ q.h.IsListIter I a (i + 1))) A s4 _ Y hA d1 d2 d3) (fun fl s5 ⟨f1, f2, f3⟩ => ?_) fun _ _ e => e
    case fin =>
      refine Tr.exprEnd (Tr.ite (f := ff C 78 b L _ (itH I a (i + 1))) (c := false) ?_ (fun e => by cases e) (fun _ => ?_))
      · refine (Ts.or (b := false) (c := false) (Ts.isNone (R := isV (.ref bnd)) (by walk_at "nm") fun q v e => by rw [show v = .ref bnd from e]; rfl) fun _ => Ts.isNot (u := .ref bnd) (w := .type "bool") (by walk_at "nm") (Ev.bi k bn_bool rfl rfl (by decide) rfl) rfl nofun).eq rfl
      · refine Tr.exprEnd (Tr.ite (f := ff C 78 b L _ (itH I a (i + 1))) (c := !(ss.contains y)) (Ts.not (Ts.boolE (Ev.callBd (b := bnd) (Sf := fun k' => ss.contains k') (by walk_at "nm") (by walk_at "nm") N.bnd hS))) (fun e => ?_) (fun e => ?_))
        · have e' : ss.contains y = false := by simpa using e
          refine Tr.retS (f := ff C 78 b L _ (itH I a (i + 1))) (R := dat (.str y)) (by walk_at "nm") fun q v h1 h2 => ?_
          obtain ⟨u', rfl⟩ := rep_str h2
          rw [e', if_neg (by decide)]
          exact ⟨u', rfl, h1.more⟩
        · have e' : ss.contains y = true := by simpa using e
          refine Tr.nil fun q wq => ?_
          rw [e', if_pos rfl]
          exact ⟨rfl, wq.sub (List.forall_mem_cons.mpr ⟨.inl rfl, List.forall_mem_cons.mpr ⟨.inl rfl, List.forall_mem_nil _⟩⟩)⟩
    by_cases hc : ss.contains y = true
    · dsimp only at f3
      rw [if_pos hc] at f3
      obtain ⟨rfl, w5⟩ := f3
      refine ⟨ms.length - (i + 1), by omega, i + 1, rfl, by omega, hlt, fun q h1 h2 => ?_, f1, f2, w5⟩
      by_cases hqi : q = i
      · subst hqi; exact ⟨y, hy, hc⟩
      · exact hin q h1 (by omega)
    · dsimp only at f3
      rw [if_neg hc] at f3
      obtain ⟨u', rfl, hit5⟩ := f3
      exact hret i y u' s5 hy hi1 hin (by simpa using hc) f1 f2 hit5
  · have him : i = ms.length := by omega
    subst him
    obtain ⟨m, hm⟩ := w2.ns
    refine next_stop (C := C) hA.hh hit hl2 (by simp [N.len]) fun h3 e t₁ x1 x2 x3 x4 => ?_
    exact herr s2 h3 e t₁ m hin b1 hY2 hm x1 x2 x3 x4
end
section
variable {C : Cx} {n : Nat} {f : FS}
theorem own_next (k : Kx C) {A : Around} {E : Value → Shared → Prop} {s : Shared} {Q : Option Value → Shared → Prop} {x dx : Addr} {sl : Array (Option Value)} (hs : St C s) (hi : Inst s.heap x dx sl)
    (h : wpAny C.M A (call (.ref 78) [.ref x]) (fun v s' => Q (some v) s') (OwitStop C.M A Q E) s) : wpAny C.M A (pyNext (.ref x)) Q E s := by
  unfold pyNext
  refine wpAny_bind (wpAny_attempt (special_fn (name := "__next__") (args := []) (k.frag hs) hi.at (f := 78) rfl rfl (wpAny_mono h (fun v s' hq => ?_) (fun e s' he => ?_))))
  · exact wpAny_pure hq
  · refine wpAny_bind (wpAny_mono he (fun b s₂ hb => ?_) fun _ _ z => z)
    cases b with
    | true => exact wpAny_pure hb
    | false => exact wpAny_throw hb
noncomputable def hC (C : Cx) (l : List Addr) (s : Shared) : Cx := { C with B := hideAll s.heap l, fz := true, gens := s.gens, drawn := s.drawn }
theorem hctx (k : Kx C) {l : List Addr} {s : Shared} (hlow : ∀ a ∈ l, C.B.get? a = none) (hx : Ext C.B s.heap) (hos : s.os = C.os) (hb : AllBare s.gens) (ht : ∀ q ∈ tabsOf, TabOk s.heap q.1 q.2) : Kx (hC C l s) ∧ St (hC C l s) s ∧ Ext C.B (hideAll s.heap l) := by
  have hx1 : Ext (hideAll s.heap l) s.heap := .of fun b o e => of_hideAll l e
  have hx2 : Ext C.B (hideAll s.heap l) := by
    have ne : ∀ {b o}, C.B.get? b = some o → b ∉ l := fun {b o} e q => by rw [hlow b q] at e; cases e
    exact ⟨fun {b o} e => let ⟨o', e'⟩ := hx.live e; ⟨o', hideAll_get l e' (ne e)⟩, fun {b o} e t => hideAll_get l (hx.keep e t) (ne e)⟩
  exact ⟨k.move (C' := hC C l s) hx2 rfl rfl, ⟨hx1, hos, hb, ht, fun _ => ⟨rfl, rfl, fun b o e => of_hideAll l e⟩, .of_keep fun b o e => of_hideAll l e⟩, hx2⟩
theorem setFlight_some {base : Heap} {l : List Env} {M : Model} {A : Around} {E : Value → Shared → Prop} {s : Shared} {e L : Addr} {cls a0 fl : Value} {Q : Unit → Shared → Prop}
    (hkb : base.StaysIn s.heap) (hl : s.heap.FunFrames base l) (ht : s.heap.TracedAtW base e cls a0 fl)
    (h : ∀ h', base.StaysIn h' → h'.FunFrames base l → h'.TracedAtW base e cls a0 (rawInt L) → (∀ b o, s.heap.get? b = some o → (∀ vs, o.data ≠ .fields vs) → h'.get? b = some o) → Q () { s with heap := h' }) :
    wpAny M A (do if (← field (.ref e) 1) == .none then unsupported "frame.own-activation:exception-without-traceback"
                  setFlight (.ref e) (some L)) Q E s := by
  obtain ⟨oe, vs, T, oT, ts, he, hcls, hd, h1, hnT, hTe, hT, hdT, h3⟩ := ht
  have hsz3 : 3 < ts.size := (Array.getElem?_eq_some_iff.mp h3).1
  have other : ∀ b, b ≠ T → (s.heap.update T (Obj.mapFields (·.setIfInBounds 3 ((some L : Option Addr).elim Value.none fun f => rawInt f)))).get? b = s.heap.get? b :=
    fun b hb => Heap.get?_update_other _ _ (Ne.symm hb)
  have noRecord : ∀ b o, s.heap.get? b = some o → (∀ vs, o.data ≠ .fields vs) → b ≠ T := fun b o hb hnf q => by
    rw [q, hT] at hb; injection hb with hb; subst hb; exact hnf ts hdT
  refine wpAny_bind (wpAny_field he hd h1 ?_)
  rw [if_neg (show ¬ ((Value.ref T == Value.none) = true) from by simp)]
  unfold setFlight
  refine wpAny_bind (wpAny_field he hd h1 ?_)
  rw [if_pos (show (Value.ref T != Value.none) = true from by simp)]
  refine wpAny_setField hT hdT hsz3 (h _ (fun b o hbo => (other b fun q => by rw [q, hnT] at hbo; cases hbo).trans (hkb b o hbo))
    (hl.of_keeps fun b o hb hnf => ⟨o, (other b (noRecord b o hb hnf)).trans hb, rfl⟩) ?_ fun b o hb hnf => (other b (noRecord b o hb hnf)).trans hb)
  exact ⟨oe, vs, T, _, _, (other e (Ne.symm hTe)).trans he, hcls, hd, h1, hnT, hTe, Heap.get?_update_self _ hT (Obj.isFreed_of_fields (Obj.data_mapFields hdT _)), Obj.data_mapFields hdT _, by simp [hsz3]⟩
end
section
variable {C : Cx} {n : Nat} {f : FS}
theorem stop_isa : isSubtype (.type "StopIteration") (.type "StopIteration") = pure true := isSubtype_stop
theorem ff_next (k : Kx C) {A : Around} {E : Value → Shared → Prop} {s : Shared} {Q : Option Value → Shared → Prop} {Y : Al} {ss ms : List Str} {x dx bnd sa I a Ll : Addr} {vs : List Value} {i : Nat} {envL : Env} {oL : Obj} {es : Array DictEntry} {em : Nat}
    (hA : Room 12 A) (hfr : A.frames = some [envL]) (hfL : envL.frame = some Ll) (hkL : envL.scope.kind ≠ .module) (hL : s.heap.get? Ll = some oL) (hLd : oL.data = .dict es em) (hlowL : C.B.get? Ll = none) (hlow : C.B.get? I = none)
    (hx : Ext C.B s.heap) (hos : s.os = C.os) (hbare : AllBare s.gens) (ht : ∀ q ∈ tabsOf, TabOk s.heap q.1 q.2) (hF : FF C ⟨s.heap, Y⟩ ss (ms.map .str) x dx bnd sa I a vs i) (hi : i ≤ ms.length) (hml : ms.length ≤ 1000)
    (hret : ∀ p y u s', ms[p]? = some y → i ≤ p → (∀ q, i ≤ q → q < p → ∃ z, ms[q]? = some z ∧ ss.contains z = true) → ss.contains y = false → (∀ b o, b ≠ I → s.heap.get? b = some o → s'.heap.get? b = some o) → s'.heap.IsListIter I a (p + 1) → s'.os = s.os → s'.gens = s.gens → s'.drawn = s.drawn → Q (some (.str y u)) s')
    (hend : ∀ s', (∀ q, i ≤ q → q < ms.length → ∃ z, ms[q]? = some z ∧ ss.contains z = true) → (∀ b o, b ≠ I → b ≠ Ll → s.heap.get? b = some o → s'.heap.get? b = some o) → (∃ sl, s'.heap.get? Ll = some { oL with slots := sl }) → s'.os = s.os → s'.gens = s.gens → s'.drawn = s.drawn → Q none s') :
    wpAny C.M A (pyNext (.ref x)) Q E s := by
  obtain ⟨k', st', hxB⟩ := hctx k (l := [I]) (by simpa using hlow) hx hos hbare ht
  obtain ⟨oI, hI1, hI2, hI3⟩ := id hF.it
  have hI1' : s.heap.get? I = some oI := hI1
  have neI : ∀ {b : Addr} {o : Obj}, s.heap.get? b = some o → o.cls ≠ .type "list_iterator" → b ≠ I := fun {b o} e hc q => by rw [q, hI1'] at e; cases e; exact hc hI2
  have keepB : ∀ {b : Addr} {o : Obj}, s.heap.get? b = some o → o.cls ≠ .type "list_iterator" → (hideAll s.heap [I]).get? b = some o := fun {b o} e hc => hideAll_get [I] e (by simpa using neI e hc)
  have hLI : Ll ≠ I := fun q => by rw [q, hI1'] at hL; cases hL; rw [hI3] at hLd; cases hLd
  obtain ⟨na, la⟩ := hF.l
  obtain ⟨r1, r2⟩ := reps_strs hF.r
  obtain ⟨c, oS, esS, epS, tS, hS1, hS2, hS3, hS4⟩ := hF.set
  have N : Nx (hC C [I] s) (hideAll s.heap [I]) ss ms x dx bnd sa I a vs :=
    ⟨.refl _, ⟨keepB hF.inst.i nofun, keepB hF.inst.d (by decide)⟩, keepB hF.bnd (by show Value.type "builtin_function_or_method" ≠ Value.type "list_iterator"; decide), ⟨c, oS, esS, epS, tS, keepB hS1 (by rw [hS2.1]; decide), hS2, hS3, hS4⟩, ⟨na, keepB la (by show Value.type "list" ≠ Value.type "list_iterator"; decide)⟩, r1, r2, hideAll_none [I] (List.mem_singleton.mpr rfl)⟩
  have hx1 : Ext (hideAll s.heap [I]) s.heap := .of fun b o e => of_hideAll [I] e
  refine own_next (C := hC C [I] s) k' st' hF.inst ?_
  have hbind : Bd s (fdOf C.w.params 78) ⟨[.ref x], []⟩ [(Str.ofString "self", .ref x)] := by
    have e : fdOf C.w.params 78 = fdOf C.w.params 78 := rfl
    conv at e => rhs; whnf
    rw [e]
    exact ⟨.of_eq rfl⟩
  refine wpAny_call (callFnB (C := hC C [I] s) (n := 10) (Y := fun _ => True) k'.toBg (b₀ := hideAll s.heap [I]) (ρ := [(Str.ofString "self", isV (.ref x))]) (F := itH I a i) (fn_ff_next k') (hA.le (by omega)) st' (fun _ _ => trivial) rfl hx1 (.refl _) hbind (by walk_at "kinds") (by walk_at "nd")
    (List.forall_mem_cons.mpr ⟨⟨_, rfl, rfl⟩, List.forall_mem_nil _⟩) (fun h' hk => ⟨oI, hk _ _ hI1, hI2, hI3⟩) itH_stab (fun L s2 st2 hY2 hLn hkeep hsame w hA2 => ?_))
  have main : ∀ p₁ t w1 p₂, bodyOf C.w.params 78 = [p₁, .While t w1 [] p₂] → wpAny C.M (A.deeper (fenv (fdOf C.w.params 78) 78 L)) (execs [p₁, .While t w1 [] p₂] (fenv (fdOf C.w.params 78) 78 L)) (fun f s'' => wants (fun v s' => Q (some v) s') (OwitStop (hC C [I] s).M A Q E) (.ok (.ret (match f with | .ret v => v | _ => .none))) s'')
        (fun e s'' => wpAny C.M (A.deeper (fenv (fdOf C.w.params 78) 78 L)) (leaving (fenv (fdOf C.w.params 78) 78 L) e) (fun _ s3 => wants (fun v s' => Q (some v) s') (OwitStop (hC C [I] s).M A Q E) (.error e) s3) (fun e' s3 => wants (fun v s' => Q (some v) s') (OwitStop (hC C [I] s).M A Q E) (.error e') s3) s'') s2 := by
    intro p₁ t w1 p₂ hbody
    have hbody' := hbody
    conv at hbody' => lhs; whnf
    injection hbody' with hb1 hb2
    subst hb1
    let f1 : FS := ff (hC C [I] s) 78 (hideAll s.heap [I]) L (ats (hideAll s.heap [I]) [(Str.ofString "self", isV (.ref x))]) (itH I a i)
    have w1' : f1.W (hC C [I] s) ⟨s2.heap, fun _ => True⟩ := w
    refine wpAny_execs_cons (wpAny_mono (Tr.assign (C := hC C [I] s) (n := 10) (f := f1) (R := isV (.ref bnd)) (Q := fun fl q => fl = .next ∧ (f1.put (Str.ofString "func") (isV (.ref bnd))).W (hC C [I] s) q) (Ev.slot k' (p := 83) (i := 0) (Ev.here (f := f1) (by walk_at "nm")) N.inst rfl rfl rfl rfl rfl rfl) (.inl rfl) (isV_stab _) (fun q w => ⟨rfl, w⟩) rfl _ s2 _ (fun _ => True) hA2 st2 hY2 w1') (fun fl s3 ⟨a1, a2, a3, a4⟩ => ?_) fun _ _ e => e)
    subst a3
    refine wpAny_execs_cons (wpAny_While ?_)
    refine ff_while (C := hC C [I] s) (n := 10) k' N hml hA2 (Y := fun _ => True) ⟨_, _, hbody⟩ i (fun p y u s' z1 z2 z3 z4 z5 _ z6 => ?_) (fun s1 h' e t₁ m z1 z2 _ z3 z4 z5 z6 z7 => ?_) s3 hi a1 (fun _ _ => trivial) a4
    · -- found
      obtain ⟨g1, g2, g3⟩ := z5.fr rfl
      exact hret p y u s' z1 z2 z3 z4 (fun b o hb e => g3 b o (hideAll_get [I] e (by simpa using hb))) z6 (z5.os.trans hos.symm) g1 g2
    · -- the end
      obtain ⟨g1, g2, g3⟩ := z2.fr rfl
      have base0 : (hideAll s.heap [I, Ll]).StaysIn h' := fun b o e => by
        have e1 := of_hideAll [I, Ll] e
        have hb : b ∉ [I, Ll] := fun hm => by rw [hideAll_none [I, Ll] hm] at e; cases e
        have hbI : b ≠ I := fun q => hb (by simp [q])
        exact z4 b o hbI (g3 b o (hideAll_get [I] e1 (by simpa using hbI)))
      have hLs : s1.heap.get? Ll = some oL := g3 Ll oL (hideAll_get [I] hL (by simpa using hLI))
      have hLh : h'.get? Ll = some oL := z4 Ll oL hLI hLs
      obtain ⟨oF, esF, epF, hF1, hF2, _⟩ := z3
      have hnI : L ≠ I := fun q => by rw [q, hI1'] at hLn; cases hLn
      have hFh : h'.get? L = some oF := z4 L oF hnI hF1
      have frames : h'.FunFrames (hideAll s.heap [I, Ll]) [fenv (fdOf C.w.params 78) 78 L, envL] := by
        refine ⟨nofun, ⟨L, oF, rfl, ?_, hFh, fun vs e => by rw [hF2] at e; cases e⟩, hkL, ⟨Ll, oL, hfL, hideAll_none [I, Ll] (by simp), hLh, fun vs e => by rw [hLd] at e; cases e⟩, trivial⟩
        cases q : (hideAll s.heap [I, Ll]).get? L with
        | none => rfl
        | some o => have := of_hideAll [I, Ll] q; rw [hLn] at this; cases this
      have hen : (hideAll s.heap [I, Ll]).get? e = none := by
        cases q : (hideAll s.heap [I, Ll]).get? e with
        | none => rfl
        | some o =>
          have e1 := of_hideAll [I, Ll] q
          have hb : e ∉ [I, Ll] := fun hm => by rw [hideAll_none [I, Ll] hm] at q; cases q
          have hbI : e ≠ I := fun q => hb (by simp [q])
          rw [g3 e o (hideAll_get [I] e1 (by simpa using hbI))] at z6; cases z6
      have hfr2 : (A.deeper (fenv (fdOf C.w.params 78) 78 L)).frames = some [fenv (fdOf C.w.params 78) 78 L, envL] := Around.frames_deeper hfr
      unfold notedBy noteFrame
      show wpAny C.M _ (do let head ← field (.ref e) 1; _) _ _ _
      refine wpAny_bind (wpAny_field z7 rfl (x := .none) rfl ?_)
      rw [if_neg (by decide)]
      refine wpAny_entryW hfr2 frames rfl z7 base0 hen rfl (by show 1 < 6; decide) rfl fun h2 ⟨n1, n2, n3, n4⟩ => ?_
      refine setFlight_some (L := L) n1 n2 n3 fun h3 p1 p2 p3 p4 => ?_
      unfold leaving
      refine wpAny_bind (wpAny_noteFrame_againW rfl p3 ?_)
      refine wpAny_setFlight_noneW p1 p2 p3 fun h4 q1 q2 q3 q4 => ?_
      obtain ⟨ob, hob, hobc⟩ := q3.at.there
      show OwitStop (hC C [I] s).M A Q E (.ref e) _
      unfold OwitStop
      refine wpAny_isInstance (T := "StopIteration") (b := true) ⟨ob, hob, hobc⟩ stop_isa ?_
      rw [if_pos rfl]
      refine hend _ z1 (fun b o hbI hbL e' => q1 b o (hideAll_get [I, Ll] e' (by simp [hbI, hbL]))) ?_ (z2.os.trans hos.symm) g1 g2
      have nf : ∀ vs, oL.data ≠ .fields vs := fun vs e => by rw [hLd] at e; cases e
      obtain ⟨sl2, e2⟩ := n4 Ll oL hLh nf
      exact ⟨sl2, q4 Ll _ (p4 Ll _ e2 nf) nf⟩
  have e := main
  conv at e in (bodyOf C.w.params 78 = _ :: _) => lhs; whnf
  conv in (bodyOf _ _) => whnf
  exact e _ _ _ _ rfl
end
section
variable {C : Cx} {n : Nat} {f : FS}
theorem own_iter (k : Kx C) {A : Around} {E : Value → Shared → Prop} {s : Shared} {Q : Value → Shared → Prop} {x dx : Addr} {sl : Array (Option Value)} (hA : Room (n + 2) A) (hs : St C s) (hi : Inst s.heap x dx sl)
    (h : ∀ s', (∀ b o, s.heap.get? b = some o → s'.heap.get? b = some o) → (∃ h' tk, s' = { s with heap := h', toks := tk }) → Q (.ref x) s') : wpAny C.M A (pyIter (.ref x)) Q E s := by
  have X := k.frag hs
  have I := hi.at
  have hbind : Bd s (fdOf C.w.params 71) ⟨[.ref x], []⟩ [(Str.ofString "self", .ref x)] := by
    have e : fdOf C.w.params 71 = fdOf C.w.params 71 := rfl
    conv at e => rhs; whnf
    rw [e]
    exact ⟨.of_eq rfl⟩
  have hcall : ∀ {A' : Around} {E' : Value → Shared → Prop}, Room (n + 2) A' → wpAny C.M A' (call (.ref 71) [.ref x]) (fun v s' => v = .ref x ∧ (∀ b o, s.heap.get? b = some o → s'.heap.get? b = some o) ∧ (∃ h' tk, s' = { s with heap := h', toks := tk })) E' s := fun {A' E'} hA' => by
    refine wpAny_call (callFnB (C := C) (n := n + 1) (Y := fun _ => True) k.toBg (b₀ := s.heap) (ρ := [(Str.ofString "self", isV (.ref x))]) (F := .top) (fn_ff_iter k) hA' hs (fun _ _ => trivial) rfl (.refl _) hs.ext hbind (by walk_at "kinds") (by walk_at "nd")
      (List.forall_mem_cons.mpr ⟨⟨_, rfl, rfl⟩, List.forall_mem_nil _⟩) (fun h' hk => trivial) top_stab (fun L s2 st2 hY2 hLn hkeep hsame w hA2 => ?_))
    conv in (bodyOf _ _) => whnf
    let f1 : FS := ff C 71 s.heap L (ats s.heap [(Str.ofString "self", isV (.ref x))]) .top
    have w1 : f1.W C ⟨s2.heap, fun _ => True⟩ := w
    obtain ⟨v, hv, hr⟩ := w1.toH.vars (Str.ofString "self") (VP.at s.heap (isV (.ref x))) rfl
    have e : v = .ref x := hr.2
    subst e
    refine wpAny_execs_cons (wpAny_Return_some (wpAny_Name (loadSlot (f := f1) w1.toH.kind hv ?_) rfl))
    exact ⟨rfl, hkeep, hsame⟩
  have fin : wpAny C.M A (call (.ref 71) [.ref x] >>= fun v => pure (some v)) (fun r s' => ∃ v, r = some v ∧ OwitIt C.M A Q E v s') E s :=
    wpAny_bind (wpAny_mono (hcall hA) (fun v s' ⟨e, h1, h2⟩ => wpAny_pure ⟨v, rfl, by
      subst e
      obtain ⟨h', tk, e'⟩ := h2
      have st' : St C s' := by subst e'; exact hs.keep h1 tk
      unfold OwitIt
      have hi' : Inst s'.heap x dx sl := ⟨h1 _ _ hi.i, h1 _ _ hi.d⟩
      exact wpAny_bind (hi'.at.type.here ((looks_findIn (k.frag st') (t := .ref 82) (name := "__next__") (r := some (.ref 78)) rfl).here (h s' h1 ⟨h', tk, e'⟩)))⟩) fun _ _ z => z)
  have one : ∀ refuse : Sem Value, wpAny C.M A (callSpecialIfBoundUnlessNone? (.ref x) "__iter__" refuse) (fun r s' => ∃ v, r = some v ∧ OwitIt C.M A Q E v s') E s := by
    intro refuse
    simp only [callSpecialIfBoundUnlessNone?, bindSpecialIfBound?]
    refine wpAny_holding (wpAny_bind (wpAny_bind (wpAny_bind (I.type.here ((looks_findIn X (t := .ref 82) (name := "__iter__") (r := some (.ref 71)) rfl).here ?_)))))
    refine wpAny_bind (wpAny_askSetting (wpAny_ite ?_))
    have fin2 : wpAny C.M A (if (Value.ref 71 == Value.none) = true then (refuse >>= fun v => pure (some v)) else (call (.ref 71) [.ref x] >>= fun v => pure (some v))) (fun r s' => ∃ v, r = some v ∧ OwitIt C.M A Q E v s') E s := by
      rw [if_neg (show ¬ ((Value.ref 71 == Value.none) = true) from Bool.false_ne_true)]
      exact fin
    split
    · exact wpAny_bind ((bind_fn X (f := 71) _ rfl).here (wpAny_pure (by exact fin2)))
    · exact wpAny_tryCatch (wpAny_bind ((bind_fn X (f := 71) _ rfl).here (wpAny_pure (by exact fin2))))
  unfold pyIter
  refine wpAny_bind (wpAny_bind (I.type.here ((looks_findIn X (t := .ref 82) (name := "__iter__") (r := some (.ref 71)) rfl).here ?_)))
  show wpAny C.M A (callSpecialIfBoundUnlessNone? (.ref x) "__iter__" _ >>= _) Q E s
  refine wpAny_bind (wpAny_mono (one _) (fun r s' hr => ?_) fun _ _ z => z)
  obtain ⟨v, rfl, hv⟩ := hr
  refine wpAny_bind (wpAny_mono hv (fun r s₂ hr => ?_) fun _ _ z => z)
  cases r with
  | none => exact hr.elim
  | some g => exact wpAny_pure hr
noncomputable def rest (ss ms : List Str) (i : Nat) : List Str := (ms.drop i).filter fun y => !ss.contains y
theorem rest_skip {ss ms : List Str} {i : Nat} : ∀ (j p : Nat), p - i = j → i ≤ p → p ≤ ms.length → (∀ q, i ≤ q → q < p → ∃ z, ms[q]? = some z ∧ ss.contains z = true) → rest ss ms i = rest ss ms p
  | 0, p, hj, hip, hp, h => by rw [show p = i by omega]
  | j + 1, p, hj, hip, hp, h => by
    obtain ⟨z, hz, hc⟩ := h (p - 1) (by omega) (by omega)
    rw [rest_skip j (p - 1) (by omega) (by omega) (by omega) fun q h1 h2 => h q h1 (by omega)]
    unfold rest
    have e : ms.drop (p - 1) = z :: ms.drop p := by
      have hlt : p - 1 < ms.length := by omega
      rw [List.drop_eq_getElem_cons hlt]
      rw [List.getElem?_eq_getElem hlt] at hz
      rw [Option.some.inj hz, show p - 1 + 1 = p by omega]
    rw [e, List.filter_cons_of_neg (by simpa using hc)]
theorem rest_hit {ss ms : List Str} {p : Nat} {y : Str} (hy : ms[p]? = some y) (hc : ss.contains y = false) : rest ss ms p = y :: rest ss ms (p + 1) := by
  unfold rest
  have hlt : p < ms.length := (List.getElem?_eq_some_iff.mp hy).1
  rw [List.drop_eq_getElem_cons hlt]
  rw [List.getElem?_eq_getElem hlt] at hy
  rw [Option.some.inj hy, List.filter_cons_of_pos (by simp only [hc]; rfl)]
theorem rest_end {ss ms : List Str} : rest ss ms ms.length = [] := by unfold rest; rw [List.drop_length]; rfl
theorem TabOk.but {h₀ h : Heap} {P : Addr} {q : Str} {l : List Addr} (x : TabOk h₀ P q) (hl : ∀ a ∈ l, ∃ o, h₀.get? a = some o ∧ o.cls ≠ .none ∧ (∀ vs, o.data = .fields vs → strAt vs = false)) (hk : ∀ b o, b ∉ l → h₀.get? b = some o → h.get? b = some o) : TabOk h P q := by
  obtain ⟨ps, a, b, c⟩ := x
  refine ⟨ps, hk _ _ (fun hm => ?_) a, b, fun pos cv e => ?_⟩
  · obtain ⟨o, e1, e2, _⟩ := hl _ hm
    rw [a] at e1; cases e1
    exact e2 rfl
  · obtain ⟨c', o, vs, t, rfl, g, d, r⟩ := c pos cv e
    refine ⟨c', o, vs, t, rfl, hk _ _ (fun hm => ?_) g, d, r⟩
    obtain ⟨o', e1, _, e3⟩ := hl _ hm
    rw [g] at e1; cases e1
    have := e3 vs d
    unfold strAt at this
    rw [r] at this
    cases this
end
section
variable {C : Cx} {n : Nat} {f : FS}
structure Fb (C : Cx) (s : Shared) (Y : Al) (ss ms : List Str) (x dx bnd sa I a Ll X : Addr) (vs : List Value) (oL : Obj) : Prop where
  ext : Ext C.B s.heap
  os : s.os = C.os
  bare : AllBare s.gens
  tabs : ∀ q ∈ tabsOf, TabOk s.heap q.1 q.2
  ff : FF C ⟨s.heap, Y⟩ ss (ms.map .str) x dx bnd sa I a vs 0
  hL : s.heap.get? Ll = some oL
  hLd : ∃ es em, oL.data = .dict es em
  lowL : C.B.get? Ll = none
  low : C.B.get? I = none
  lowX : C.B.get? X = none
  hX : ∃ its c, s.heap.get? X = some { cls := .type "list", dict := none, data := .seq its c, slots := #[] }
  aX : a ≠ X
  len : ms.length ≤ 1000
noncomputable abbrev listO (acc : Array Value) (c : Nat) : Obj := { cls := .type "list", dict := none, data := .seq acc c, slots := #[] }
theorem fb_neI {s : Shared} {Y : Al} {ss ms : List Str} {x dx bnd sa I a Ll X : Addr} {vs : List Value} {oL : Obj} (B : Fb C s Y ss ms x dx bnd sa I a Ll X vs oL) : ∀ {b : Addr} {o : Obj}, s.heap.get? b = some o → o.cls ≠ .type "list_iterator" → b ≠ I := fun {b o} e hc q => by
  obtain ⟨oI, h1, h2, h3⟩ := B.ff.it
  have h1' : s.heap.get? I = some oI := h1
  rw [q, h1'] at e; cases e; exact hc h2
theorem fb_neX {s : Shared} {Y : Al} {ss ms : List Str} {x dx bnd sa I a Ll X : Addr} {vs : List Value} {oL : Obj} (B : Fb C s Y ss ms x dx bnd sa I a Ll X vs oL) : ∀ {b : Addr} {o : Obj}, s.heap.get? b = some o → (∀ its c, o.data ≠ .seq its c) → b ≠ X := fun {b o} e hc q => by
  obtain ⟨its, c, h1⟩ := B.hX
  rw [q, h1] at e; cases e; exact hc _ _ rfl
theorem strs_reps {k k' : Vw} : ∀ {ss : List Str} {vs : List Value}, Reps k (ss.map .str) vs → Reps k' (ss.map .str) vs
  | [], vs, r => by rw [List.map_nil, Reps] at r ⊢; exact r
  | x :: ss, vs, r => by
    rw [List.map_cons, Reps] at r ⊢
    obtain ⟨v, r', rfl, q1, q2⟩ := r
    obtain ⟨t, rfl⟩ := rep_str (h := k) q1
    exact ⟨_, _, rfl, mk_str (h := k'), strs_reps q2⟩
theorem ff_extend (k : Kx C) {A : Around} {s₀ : Shared} {Y : Al} {ss ms : List Str} {x dx bnd sa I a Ll X : Addr} {vs : List Value} {oL : Obj} {envL : Env} {res : Value} {R : Result → Shared → Prop} (B : Fb C s₀ Y ss ms x dx bnd sa I a Ll X vs oL)
    (hA : Room 14 A) (hfr : A.frames = some [envL]) (hfL : envL.frame = some Ll) (hkL : envL.scope.kind ≠ .module)
    (hR : ∀ s' acc c, (∀ b o, b ≠ I → b ≠ X → b ≠ Ll → s₀.heap.get? b = some o → s'.heap.get? b = some o) → (∃ sl, s'.heap.get? Ll = some { oL with slots := sl }) → s'.heap.get? X = some (listO acc c) → (∀ q, Reps q ((rest ss ms 0).map .str) acc.toList) → s'.os = s₀.os → s'.gens = s₀.gens → s'.drawn = s₀.drawn → R (.ok (.ret res)) s') :
    ∀ (j i : Nat) (s : Shared) (acc : Array Value) (c : Nat) (dn : List Str), (rest ss ms i).length = j → i ≤ ms.length → (∀ b o, b ≠ I → b ≠ X → s₀.heap.get? b = some o → s.heap.get? b = some o) → s.heap.IsListIter I a i → s.heap.get? X = some (listO acc c) → (∀ q, Reps q (dn.map .str) acc.toList) → dn ++ rest ss ms i = rest ss ms 0 →
      s.os = s₀.os → s.gens = s₀.gens → s.drawn = s₀.drawn → codeAny C.M A (.builtin "list.extend.loop" ⟨[.ref X, .ref x, res], []⟩) R s := by
  obtain ⟨esL, emL, hLd⟩ := B.hLd
  obtain ⟨oI, hI1, hI2, hI3⟩ := id B.ff.it
  have hI1' : s₀.heap.get? I = some oI := hI1
  obtain ⟨itsX, cX, hX⟩ := B.hX
  have hIX : I ≠ X := fb_neX B hI1' fun its c e => by rw [hI3] at e; cases e
  have hLI : Ll ≠ I := fun q => by have := B.hL; rw [q, hI1'] at this; cases this; rw [hI3] at hLd; cases hLd
  have hLX : Ll ≠ X := fb_neX B B.hL fun its c e => by rw [hLd] at e; cases e
  have hxI : x ≠ I := fb_neI B B.ff.inst.i nofun
  have hxX : x ≠ X := fb_neX B B.ff.inst.i nofun
  have hdI : dx ≠ I := fb_neI B B.ff.inst.d (by decide)
  have hdX : dx ≠ X := fb_neX B B.ff.inst.d nofun
  have hbI : bnd ≠ I := fb_neI B B.ff.bnd (by show Value.type "builtin_function_or_method" ≠ Value.type "list_iterator"; decide)
  have hbX : bnd ≠ X := fb_neX B B.ff.bnd nofun
  obtain ⟨cS, oS, esS, epS, tS, hS1, hS2, hS3, hS4⟩ := B.ff.set
  have hsI : sa ≠ I := fb_neI B hS1 (by rw [hS2.1]; decide)
  have hsX : sa ≠ X := fb_neX B hS1 fun its c e => by rw [hS3] at e; cases e
  obtain ⟨na, la⟩ := B.ff.l
  have haI : a ≠ I := fb_neI B la (by show Value.type "list" ≠ Value.type "list_iterator"; decide)
  have hA1 : Room 12 A.in1 := (hA.le (m := 13) (by omega)).in1
  have facts : ∀ (i : Nat) (s : Shared), (∀ b o, b ≠ I → b ≠ X → s₀.heap.get? b = some o → s.heap.get? b = some o) → s.heap.IsListIter I a i →
      Ext C.B s.heap ∧ (∀ q ∈ tabsOf, TabOk s.heap q.1 q.2) ∧ FF C ⟨s.heap, Y⟩ ss (ms.map .str) x dx bnd sa I a vs i := by
    intro i s hk hit
    refine ⟨⟨fun {b o} e => ?_, fun {b o} e t => hk b o (fun q => by rw [q, B.low] at e; cases e) (fun q => by rw [q, B.lowX] at e; cases e) (B.ext.keep e t)⟩, fun q hq => (B.tabs q hq).but (l := [I, X]) (fun b hb => ?_) fun b o hb e => hk b o (fun q => hb (by simp [q])) (fun q => hb (by simp [q])) e,
      ⟨hk _ _ hxI hxX B.ff.inst.i, hk _ _ hdI hdX B.ff.inst.d⟩, hk _ _ hbI hbX B.ff.bnd, ⟨cS, oS, esS, epS, tS, hk _ _ hsI hsX hS1, hS2, hS3, hS4⟩, hit, B.ff.y, ⟨na, hk _ _ haI B.aX la⟩, strs_reps B.ff.r⟩
    · obtain ⟨o', e'⟩ := B.ext.live e
      exact ⟨o', hk b o' (fun q => by rw [q, B.low] at e; cases e) (fun q => by rw [q, B.lowX] at e; cases e) e'⟩
    · rcases List.mem_cons.mp hb with rfl | hb
      · exact ⟨oI, hI1', by rw [hI2]; nofun, fun vs e => by rw [hI3] at e; cases e; rfl⟩
      · rw [List.mem_singleton.mp hb]; exact ⟨_, hX, nofun, nofun⟩
  intro j
  induction j with
  | zero =>
    intro i s acc c dn hj hi hk hit hXo hacc hdn hos hg hd
    have hnil : rest ss ms i = [] := List.length_eq_zero_iff.mp hj
    obtain ⟨hx, htab, hF⟩ := facts i s hk hit
    refine codeAny_builtin PySem.F.entry_extend_loop ?_
    rw [Around.under_plainId PySem.F.plain_extend_loop _]
    show wpAny _ A.in1 (pyNext (.ref x) >>= _) _ _ s
    refine wpAny_bind (ff_next k hA1 hfr hfL hkL (hk _ _ hLI hLX B.hL) hLd B.lowL B.low hx (hos.trans B.os) (hg ▸ B.bare) htab hF hi B.len (fun p y u s' z1 z2 z3 z4 _ _ _ _ _ => ?_) (fun s' z1 z2 z3 z4 z5 z6 => ?_))
    · have := rest_skip (p - i) p rfl z2 (Nat.le_of_lt (List.getElem?_eq_some_iff.mp z1).1) z3
      rw [rest_hit z1 z4, hnil] at this
      cases this
    · refine wpAny_pure (hR s' acc c (fun b o h1 h2 h3 e => z2 b o h1 h3 (hk b o h1 h2 e)) z3 (z2 X _ (Ne.symm hIX) (Ne.symm hLX) hXo) ?_ (z4.trans hos) (z5.trans hg) (z6.trans hd))
      rw [hnil, List.append_nil] at hdn
      rw [← hdn]
      exact hacc
  | succ j ih =>
    intro i s acc c dn hj hi hk hit hXo hacc hdn hos hg hd
    obtain ⟨hx, htab, hF⟩ := facts i s hk hit
    refine codeAny_builtin PySem.F.entry_extend_loop ?_
    rw [Around.under_plainId PySem.F.plain_extend_loop _]
    show wpAny _ A.in1 (pyNext (.ref x) >>= _) _ _ s
    refine wpAny_bind (ff_next k hA1 hfr hfL hkL (hk _ _ hLI hLX B.hL) hLd B.lowL B.low hx (hos.trans B.os) (hg ▸ B.bare) htab hF hi B.len (fun p y u s' z1 z2 z3 z4 z5 z6 z7 z8 z9 => ?_) (fun s' z1 z2 z3 z4 z5 z6 => ?_))
    · have e := rest_skip (p - i) p rfl z2 (Nat.le_of_lt (List.getElem?_eq_some_iff.mp z1).1) z3
      rw [rest_hit z1 z4] at e
      have hXs : s'.heap.get? X = some (listO acc c) := z5 X _ (Ne.symm hIX) hXo
      have hsz : acc.size ≤ 1000 := by
        have h1 := (hacc ⟨s.heap, Y⟩).length
        have h2 : dn.length ≤ ms.length := by
          have h3 := congrArg List.length hdn
          rw [List.length_append] at h3
          have h4 : (rest ss ms 0).length ≤ ms.length := by unfold rest; rw [List.drop_zero]; exact List.length_filter_le _ _
          omega
        rw [List.length_map, Array.length_toList] at h1
        have := B.len
        omega
      show wpAny _ A.in1 (updateSeq X (·.push (.str y u)) >>= _) _ _ _
      refine wpAny_bind ?_
      refine wpAny_updateSeq hXs rfl (wpAny_pure ⟨plainId_quiet PySem.F.plain_extend_loop _, ih (p + 1) _ (acc.push (.str y u)) _ (dn ++ [y]) ?_ (List.getElem?_eq_some_iff.mp z1).1 (fun b o h1 h2 e' => ?_) ?_ (Heap.get?_update_self _ hXs rfl) (fun q => ?_) ?_ (z7.trans hos) (z8.trans hg) (z9.trans hd)⟩) (by unfold sizeLine; omega) (by show (acc.push (.str y u)).size ≤ sizeLine + 1; rw [Array.size_push]; unfold sizeLine; omega)
      · rw [e] at hj; simpa using hj
      · exact (Heap.get?_update_other _ _ (Ne.symm h2)).trans (z5 b o h1 (hk b o h1 h2 e'))
      · obtain ⟨o', e1, e2, e3⟩ := z6
        exact ⟨o', (Heap.get?_update_other _ _ (Ne.symm hIX)).trans e1, e2, e3⟩
      · rw [List.map_append, Array.toList_push]
        exact (hacc q).append (.cons (mk_str (h := q)) .nil)
      · rw [← hdn, e]; simp
    · exfalso
      have := rest_skip (ms.length - i) ms.length rfl hi (Nat.le_refl _) z1
      rw [rest_end] at this
      rw [this] at hj
      cases hj
end
section
variable {C : Cx} {n : Nat} {f : FS}
theorem ff_list (k : Kx C) {A : Around} {E : Value → Shared → Prop} {s : Shared} {Y : Al} {ss ms : List Str} {x dx bnd sa I a Ll : Addr} {vs : List Value} {oL : Obj} {envL : Env} {Q : Value → Shared → Prop}
    (hs : St C s) (hF : FF C ⟨s.heap, Y⟩ ss (ms.map .str) x dx bnd sa I a vs 0) (hL : s.heap.get? Ll = some oL) (hLd : ∃ es em, oL.data = .dict es em) (lowL : C.B.get? Ll = none) (low : C.B.get? I = none) (hml : ms.length ≤ 1000)
    (hA : Room 16 A) (hfr : A.frames = some [envL]) (hfL : envL.frame = some Ll) (hkL : envL.scope.kind ≠ .module)
    (hQ : ∀ s' acc c, (∀ b o, b ≠ I → b ≠ Ll → s.heap.get? b = some o → s'.heap.get? b = some o) → (∃ sl, s'.heap.get? Ll = some { oL with slots := sl }) → s'.heap.get? s.heap.objs.size = some (listO acc c) → (∀ q, Reps q ((rest ss ms 0).map .str) acc.toList) → s'.os = s.os → s'.gens = s.gens → s'.drawn = s.drawn → Q (.ref s.heap.objs.size) s') :
    wpAny C.M A (call (.type "list") [.ref x]) Q E s := by
  refine callType_codes (Q₁ := fun obj s₁ => obj = .ref s.heap.objs.size ∧ s₁ = { s with heap := s.heap.push { cls := .type "list", data := .seq #[] } }) PySem.F.called_list (PySem.F.typeCall_list_1 _) PySem.F.entry_list_init
    (code_list_new _ ⟨rfl, rfl⟩) fun obj s₁ h₁ => ?_
  obtain ⟨rfl, rfl⟩ := h₁
  have hS : (s.heap.push { cls := .type "list", data := .seq #[] }).get? s.heap.objs.size = some { cls := .type "list", data := .seq #[] } := Heap.get?_push_size _ rfl
  have keep0 : ∀ b o, s.heap.get? b = some o → (s.heap.push { cls := .type "list", data := .seq #[] }).get? b = some o := fun b o e => Heap.get?_push_of_some _ e
  have fresh : ∀ {b : Addr} {o : Obj}, s.heap.get? b = some o → b ≠ s.heap.objs.size := fun {b o} e => Nat.ne_of_lt (Heap.lt_size e)
  have lowX : C.B.get? s.heap.objs.size = none := hs.ext.none (get?_size _)
  refine ⟨⟨_, hS, rfl⟩, PySem.F.args_list_init_2 _ _, ?_⟩
  generalize hX : s.heap.objs.size = X at *
  have hxX : x ≠ X := fresh hF.inst.i
  have hA1 : Room 15 A.in1 := (hA.le (m := 16) (Nat.le_refl _)).in1
  show wpAny _ A.in1.in1 (do let old ← Builtin.List.listItems (.ref X); Builtin.List.listUpdate (.ref X) (fun _ => #[]); letGo old.toList.reverse; Builtin.List.listExtendWith (.ref X) (.ref x) .none) _ _ _
  refine wpAny_bind ?_
  unfold Builtin.List.listItems
  refine wpAny_bind (wpAny_seqItems hS rfl (wpAny_pure ?_))
  show wpAny _ A.in1.in1 (updateSeq X (fun _ => #[]) >>= fun _ => letGo (#[] : Array Value).toList.reverse >>= fun _ => Builtin.List.listExtendWith (.ref X) (.ref x) .none) _ _ _
  refine wpAny_bind (wpAny_updateSeq hS rfl ?_)
  have hS₂ := Heap.get?_update_self (Obj.mapSeq (fun _ => (#[] : Array Value))) hS rfl
  have keep1 : ∀ b o, s.heap.get? b = some o → ((s.heap.push { cls := .type "list", data := .seq #[] }).update X (Obj.mapSeq (fun _ => (#[] : Array Value)))).get? b = some o := fun b o e => (Heap.get?_update_other _ _ (Ne.symm (fresh e))).trans (keep0 b o e)
  refine wpAny_bind (wpAny_letGo ?_)
  generalize hh1 : (s.heap.push { cls := .type "list", data := .seq #[] }).update X (Obj.mapSeq (fun _ => (#[] : Array Value))) = h1 at *
  have hS₂' : h1.get? X = some { cls := .type "list", dict := none, data := .seq #[] 1, slots := #[] } ∨ ∃ c, h1.get? X = some (listO #[] c) := .inr ⟨_, hS₂⟩
  obtain ⟨c1, hS1⟩ : ∃ c, h1.get? X = some (listO #[] c) := ⟨_, hS₂⟩
  have st1 : St C { s with heap := h1 } := hs.keep keep1 s.toks
  have inst1 : Inst h1 x dx #[some (.ref bnd), some (.ref I)] := ⟨keep1 _ _ hF.inst.i, keep1 _ _ hF.inst.d⟩
  unfold Builtin.List.listExtendWith
  have X1 := k.frag st1
  refine wpAny_bind (inst1.at.type.here ?_)
  have e1 : Builtin.List.listSameRef (.ref X) (.ref x) = false := by simp [Builtin.List.listSameRef, Ne.symm hxX]
  have e2 : (Value.ref 82 == Value.type "list") = false := rfl
  have e3 : (Value.ref 82 == Value.type "tuple") = false := rfl
  simp only [e1, e2, e3, Bool.or_false, Bool.false_eq_true, if_false]
  refine wpAny_bind (own_iter (n := 10) k ((hA1.le (m := 13) (by omega)).in1) st1 inst1 fun s2 keep2 hs2 => ?_)
  obtain ⟨h2, tk2, rfl⟩ := hs2
  have st2 : St C { s with heap := h2, toks := tk2 } := st1.keep keep2 tk2
  have inst2 : Inst h2 x dx #[some (.ref bnd), some (.ref I)] := ⟨keep2 _ _ inst1.i, keep2 _ _ inst1.d⟩
  have hS3 : h2.get? X = some (listO #[] c1) := keep2 _ _ hS1
  refine wpAny_bind (wpAny_holding ?_)
  unfold Builtin.List.listLengthHint
  have X2 := k.frag st2
  refine wpAny_bind (wpAny_bind (inst2.at.type.here ((looks_findIn X2 (t := .ref 82) (name := "__len__") (r := none) rfl).here ?_)))
  dsimp only
  show wpAny _ A.in1.in1 (specialOf (Value.ref x) (Str.ofString "__length_hint__") >>= _) _ _ _
  refine wpAny_bind (wpAny_bind (inst2.at.type.here ((looks_findIn X2 (t := .ref 82) (name := "__length_hint__") (r := none) rfl).here ?_)))
  refine wpAny_pure ?_
  show wpAny _ A.in1.in1 (rule "list.extend.makes-room" >>= fun _ => Builtin.List.listTouch (.ref X) >>= fun _ => again (.builtin "list.extend.loop" ⟨[.ref X, .ref x, .none], []⟩)) _ _ _
  refine wpAny_bind (wpAny_rule ?_)
  refine wpAny_bind ?_
  show wpAny _ A.in1.in1 (updateSeq X (·.push .none) >>= fun _ => updateSeq X (·.pop)) _ _ _
  refine wpAny_bind (wpAny_updateSeq hS3 rfl ?_)
  have hS4 := Heap.get?_update_self (Obj.mapSeq (·.push Value.none)) hS3 rfl
  refine wpAny_updateSeq (hz := by seq_fits) hS4 rfl ?_
  have hS5 := Heap.get?_update_self (Obj.mapSeq (·.pop)) hS4 rfl
  have keep3 : ∀ b o, s.heap.get? b = some o → ((h2.update X (Obj.mapSeq (·.push Value.none))).update X (Obj.mapSeq (·.pop))).get? b = some o :=
    fun b o e => (Heap.get?_update_other _ _ (Ne.symm (fresh e))).trans ((Heap.get?_update_other _ _ (Ne.symm (fresh e))).trans (keep2 b o (keep1 b o e)))
  generalize hh3 : (h2.update X (Obj.mapSeq (·.push Value.none))).update X (Obj.mapSeq (·.pop)) = h3 at *
  have st3 : St C { s with heap := h3, toks := tk2 } := hs.keep keep3 tk2
  obtain ⟨oI, i1, i2, i3⟩ := hF.it
  obtain ⟨cS, oS, esS, epS, tS, z1, z2⟩ := hF.set
  obtain ⟨na, la⟩ := hF.l
  have B : Fb C { s with heap := h3, toks := tk2 } Y ss ms x dx bnd sa I a Ll X vs oL :=
    ⟨st3.ext, st3.os, st3.bare, st3.tabs, ⟨⟨keep3 _ _ hF.inst.i, keep3 _ _ hF.inst.d⟩, keep3 _ _ hF.bnd, ⟨cS, oS, esS, epS, tS, keep3 _ _ z1, z2⟩, ⟨oI, keep3 _ _ i1, i2, i3⟩, hF.y, ⟨na, keep3 _ _ la⟩, strs_reps hF.r⟩,
      keep3 _ _ hL, hLd, lowL, low, lowX, ⟨_, _, hS5⟩, fresh la, hml⟩
  refine wpAny_pure ⟨plainId_quiet PySem.F.plain_extend_loop _, ff_extend k B (hA1.le (by omega)) hfr hfL hkL (fun s' acc c y1 y2 y3 y4 y5 y6 y7 => ?_) (rest ss ms 0).length 0 _ #[] _ [] rfl (Nat.zero_le _) (fun b o _ _ e => e) B.ff.it hS5 (fun q => .nil) rfl rfl rfl rfl⟩
  exact ⟨rfl, hQ s' acc c (fun b o h1 h2 e => y1 b o h1 (fresh e) h2 (keep3 b o e)) y2 y3 y4 y5 y6 y7⟩
end
section
variable {C : Cx} {n : Nat} {f : FS}
structure Wk (L : Addr) (h h' : Heap) : Prop where
  live : ∀ {b o}, h.get? b = some o → ∃ o', h'.get? b = some o'
  keep : ∀ {b o}, b ≠ L → h.get? b = some o → tabLike o = false → h'.get? b = some o
  own : ∀ {o}, h.get? L = some o → tabLike o = false → ∃ sl, h'.get? L = some { o with slots := sl }
theorem Ext.wk {h h' : Heap} (x : Ext h h') (L : Addr) : Wk L h h' := ⟨x.live, fun _ e t => x.keep e t, fun {o} e t => ⟨o.slots, x.keep e t⟩⟩
theorem Wk.trans {L : Addr} {a b c : Heap} (x : Wk L a b) (y : Wk L b c) : Wk L a c := ⟨fun e => let ⟨_, e'⟩ := x.live e; y.live e', fun h e t => y.keep h (x.keep h e t) t, fun {o} e t => by
  obtain ⟨sl, e1⟩ := x.own e t
  obtain ⟨sl2, e2⟩ := y.own e1 t
  exact ⟨sl2, e2⟩⟩
theorem Wk.none {L : Addr} {h h' : Heap} {a : Addr} (x : Wk L h h') (e : h'.get? a = none) : h.get? a = none := by
  cases q : h.get? a with
  | none => rfl
  | some o => obtain ⟨_, e'⟩ := x.live q; rw [e] at e'; cases e'
theorem Wk.ok {L : Addr} {h h' : Heap} {Y : Al} (x : Wk L h h') (k : Ok Y h) : Ok Y h' := fun a e => k a (x.none e)
structure LF (C : Cx) (envL : Env) (Ll : Addr) (h : Heap) : Prop where
  fr : envL.frame = some Ll
  kind : envL.scope.kind ≠ .module
  low : C.B.get? Ll = none
  there : ∃ o es em, h.get? Ll = some o ∧ o.data = .dict es em
theorem LF.wk {envL : Env} {Ll : Addr} {h h' : Heap} (x : LF C envL Ll h) (k : Wk Ll h h') : LF C envL Ll h' := ⟨x.fr, x.kind, x.low, by
  obtain ⟨o, es, em, e, d⟩ := x.there
  obtain ⟨sl, e'⟩ := k.own e (tab_data fun vs q => by rw [d] at q; cases q)
  exact ⟨_, es, em, e', d⟩⟩
theorem TabOk.but' {h₀ h : Heap} {P : Addr} {q : Str} {l : List Addr} (x : TabOk h₀ P q) (hl : ∀ a ∈ l, ∃ o, h₀.get? a = some o ∧ (∀ ps, o ≠ tabObj ps) ∧ (∀ vs, o.data = .fields vs → strAt vs = false)) (hk : ∀ b o, b ∉ l → h₀.get? b = some o → h.get? b = some o) : TabOk h P q := by
  obtain ⟨ps, a, b, c⟩ := x
  refine ⟨ps, hk _ _ (fun hm => ?_) a, b, fun pos cv e => ?_⟩
  · obtain ⟨o, e1, e2, _⟩ := hl _ hm
    rw [a] at e1; cases e1
    exact e2 _ rfl
  · obtain ⟨c', o, vs, t, rfl, g, d, r⟩ := c pos cv e
    refine ⟨c', o, vs, t, rfl, hk _ _ (fun hm => ?_) g, d, r⟩
    obtain ⟨o', e1, _, e3⟩ := hl _ hm
    rw [g] at e1; cases e1
    have := e3 vs d
    unfold strAt at this
    rw [r] at this
    cases this
theorem dat_wk {L : Addr} {h h' : Heap} {Y : Al} {d : D} {v : Value} {o : Obj} {es : Array DictEntry} {em : Nat} (x : Wk L h h') (e : h.get? L = some o) (hd : o.data = .dict es em) (r : (dat d).p ⟨h, Y⟩ v) : (dat d).p ⟨h', Y⟩ v :=
  Rep.keepers (h := ⟨h, Y⟩) (h' := ⟨h', Y⟩) (fun b p q y ⟨its, n, hs⟩ => ⟨x.keep (fun z => by
    have q' : h.get? b = some p := q
    rw [z, e] at q'; cases q'; rw [hd] at hs; cases hs) q (tab_data fun vs z => by rw [hs] at z; cases z), y⟩) r
noncomputable def EvT (C : Cx) (n : Nat) (f : FS) (envL : Env) (Ll : Addr) (e : Expr) (R : VP) : Prop := ∀ A s E Y, Room n A → A.frames = some [envL] → LF C envL Ll s.heap → St C s → Ok Y s.heap → f.H ⟨s.heap, Y⟩ →
  wpAny C.M A (eval e f.env) (fun v s' => St C s' ∧ Wk Ll s.heap s'.heap ∧ R.p ⟨s'.heap, Y⟩ v) E s
theorem Ev.diff (k : Kx C) (hfz : C.fz = false) {envL : Env} {Ll : Addr} {le de e1 e2 : Expr} {p1 p2 : Pos} {ms ss : List Str} (hle : Ev C (n + 16) f le (isV (.type "list"))) (hde : Ev C (n + 16) f de (isV (.ref 93))) (h1 : Ev C (n + 16) f e1 (dat (.list (ms.map .str)))) (h2 : Ev C (n + 16) f e2 (dat (.list (ss.map .str))))
    (hml : ms.length ≤ 1000) (hsl : ss.length ≤ 1000)
    (he1 : ∀ env, eval (.Call le [.Call de [e1, e2] [] p1] [] p2) env = (do callWith p2 (← eval le env) [] (backTo p2 (starEach [.Call de [e1, e2] [] p1] env)) (backToKw p2 (keywordEach [] env))) := by intro _; rfl)
    (hst1 : ∀ env, starEach [.Call de [e1, e2] [] p1] env = (false, eval (.Call de [e1, e2] [] p1) env) :: starEach [] env := by intro _; rfl)
    (he2 : ∀ env, eval (.Call de [e1, e2] [] p1) env = (do callWith p1 (← eval de env) [] (backTo p1 (starEach [e1, e2] env)) (backToKw p1 (keywordEach [] env))) := by intro _; rfl)
    (hst2 : ∀ env, starEach [e1, e2] env = (false, eval e1 env) :: starEach [e2] env := by intro _; rfl)
    (hst3 : ∀ env, starEach [e2] env = (false, eval e2 env) :: starEach [] env := by intro _; rfl) :
    EvT C (n + 16) f envL Ll (.Call le [.Call de [e1, e2] [] p1] [] p2) (dat (.list ((rest ss ms 0).map .str))) := fun A s E Y hA hfr hLF hs hY hp => by
  refine Call_ (wpAny_mono (hle A s E Y hA hs hY hp) (fun v s1 ⟨a1, a2, a3⟩ => ?_) fun _ _ e => e) (he1 _)
  have a3' : v = .type "list" := a3
  subst a3'
  refine PyProof.Rows.callWith_type1 (wpAny_items_cons ?_ (hst1 _)) (hst1 _) rfl
  refine Call_ (wpAny_mono (hde A s1 E Y hA a1 (hY.ext a2) (hp.up a2)) (fun v s2 ⟨b1, b2, b3⟩ => ?_) fun _ _ e => e) (he2 _)
  have b3' : v = .ref 93 := b3
  subst b3'
  have hx2 := a2.trans b2
  have hF := fn_difference k
  obtain ⟨o, ho, hd⟩ := hF.obj
  have hto : tabLike o = false := tab_data fun vs e => by rw [hd] at e; cases e
  have hev : Evl C (n + 16) f p1 [e1, e2] [dat (.list (ms.map .str)), dat (.list (ss.map .str))] := Evl.cons h1 (Evl.cons h2 .nil hst3) hst2
  refine callWith_def hd (wpAny_mono (hev A s2 E Y hA b1 (hY.ext hx2) (hp.up hx2)) (fun vs s3 ⟨c1, c2, c3⟩ => ⟨c1.ext.keep ho hto, ?_⟩) fun _ _ e => e) (hst2 _)
  have hx3 := hx2.trans c2
  obtain ⟨u, v, rfl, d1, d2⟩ := two c3
  refine wpAny_mono (do_difference (n := n + 11) k (b := s.heap) hsl [u, v] A s3 E Y hA c1 (hY.ext hx3) ⟨u, [v], rfl, ⟨d1, hx3⟩, v, [], rfl, d2, rfl⟩) (fun w s4 ⟨g1, g2, g3⟩ => ?_) fun _ _ e => e
  obtain ⟨x, dx, bnd, sa, I, a, vs, rfl, f1, f2, f3, fF⟩ := g3
  have hx4 := hx3.trans g2
  refine wpAny_items_nil ?_
  obtain ⟨oL, es, em, hL, hLd⟩ := hLF.there
  have htL : tabLike oL = false := tab_data fun vs q => by rw [hLd] at q; cases q
  have hL4 : s4.heap.get? Ll = some oL := hx4.keep hL htL
  have hlow : C.B.get? I = none := hs.ext.none f2
  have ltd : ∀ {b o}, s.heap.get? b = some o → b ≠ I := fun {b o} e q => by rw [q, f2] at e; cases e
  refine ff_list k g1 fF hL4 ⟨es, em, hLd⟩ hLF.low hlow hml (hA.le (by omega)) hfr hLF.fr hLF.kind fun s5 acc c q1 q2 q3 q4 q5 q6 q7 => ?_
  obtain ⟨oI, i1, i2, i3⟩ := fF.it
  have hnI : I ≠ Ll := fun q => by
    have i1' : s4.heap.get? I = some oI := i1
    rw [q, hL4] at i1'; cases i1'; rw [i3] at hLd; cases hLd
  have wk : Wk Ll s.heap s5.heap := ⟨fun {b o} e => by
      obtain ⟨o', e'⟩ := hx4.live e
      by_cases hb : b = Ll
      · obtain ⟨sl, e2⟩ := q2; subst hb; exact ⟨_, e2⟩
      · exact ⟨o', q1 b o' (ltd e) hb e'⟩,
    fun {b o} hb e t => q1 b o (ltd e) hb (hx4.keep e t), fun {o'} e t => by
      rw [hL] at e; cases e
      exact q2⟩
  have ex5 : Ext C.B s5.heap := by
    have hxB := hs.ext
    have nb : ∀ {b o}, C.B.get? b = some o → b ≠ Ll := fun {b o} e q => by rw [q, hLF.low] at e; cases e
    exact ⟨fun {b o} e => let ⟨_, e'⟩ := hxB.live e; wk.live e', fun {b o} e t => wk.keep (nb e) (hxB.keep e t) t⟩
  refine ⟨⟨ex5, q5.trans g1.os, by rw [q6]; exact g1.bare, fun q hq => (g1.tabs q hq).but' (l := [I, Ll]) (fun b hb => ?_) fun b o hb e => q1 b o (fun z => hb (by simp [z])) (fun z => hb (by simp [z])) e, fun z => (by rw [hfz] at z; cases z), oldOn g1.old fun b o ⟨q, hq⟩ e => q1 b o (fun z => by rw [z, hlow] at hq; cases hq) (fun z => by rw [z, hLF.low] at hq; cases hq) e⟩, wk,
    mk_list (h := ⟨s5.heap, Y⟩) (vs := acc.toList) (hY.ext hx4 _ (get?_size _)) ⟨c, q3⟩ (q4 _)⟩
  rcases List.mem_cons.mp hb with rfl | hb
  · exact ⟨oI, i1, fun (ps : Array Value) (z : oI = tabObj ps) => (by rw [z] at i2; cases i2), fun vs e => by rw [i3] at e; cases e; rfl⟩
  · rw [List.mem_singleton.mp hb]
    exact ⟨oL, hL4, fun (ps : Array Value) (z : oL = tabObj ps) => (by rw [z] at hLd; cases hLd), fun vs e => by rw [hLd] at e; cases e⟩
end
noncomputable abbrev Frm := Option (Env × Addr)
noncomputable def WkO : Frm → Heap → Heap → Prop
  | none, h, h' => Ext h h'
  | some (_, L), h, h' => Wk L h h'
noncomputable def Pre (C : Cx) : Frm → Around → Heap → Prop
  | none, _, _ => True
  | some (e, L), A, h => A.frames = some [e] ∧ LF C e L h
noncomputable def maskObj : Obj := { cls := .none, data := .fields #[] }
noncomputable def maskO : Frm → Heap → Heap
  | none, h => h
  | some (_, L), h => h.update L fun _ => maskObj
noncomputable def VP.Kp (R : VP) : Prop := ∀ {h h' : Heap} {Y : Al} {v : Value}, (∀ {b o}, h.get? b = some o → ∃ o', h'.get? b = some o') → Keepers ⟨h, Y⟩ ⟨h', Y⟩ → R.p ⟨h, Y⟩ v → R.p ⟨h', Y⟩ v
theorem dat_kp {d : D} : (dat d).Kp := fun _ k r => Rep.keepers k r
theorem at_kp {b : Heap} {R : VP} : (VP.at b R).Kp := fun l _ r => ⟨fun e => let ⟨_, e'⟩ := r.1 e; l e', r.2⟩
theorem isV_kp {u : Value} : (isV u).Kp := fun _ _ r => r
section
variable {m : Frm} {h h' h'' b : Heap} {C : Cx} {n : Nat} {A : Around} {f : FS}
theorem Ext.wko (x : Ext h h') : WkO m h h' := by
  cases m with
  | none => exact x
  | some q => exact x.wk _
theorem WkO.refl : WkO m h h := (Ext.refl h).wko
theorem WkO.trans (x : WkO m h h') (y : WkO m h' h'') : WkO m h h'' := by
  cases m with
  | none => exact Ext.trans x y
  | some q => exact Wk.trans x y
theorem WkO.live (x : WkO m h h') : ∀ {b o}, h.get? b = some o → ∃ o', h'.get? b = some o' := by
  cases m with
  | none => exact Ext.live x
  | some q => exact Wk.live x
theorem WkO.none (x : WkO m h h') {a : Addr} (e : h'.get? a = none) : h.get? a = none := by
  cases q : h.get? a with
  | none => rfl
  | some o => obtain ⟨_, e'⟩ := x.live q; rw [e] at e'; cases e'
theorem WkO.ok {Y : Al} (x : WkO m h h') (k : Ok Y h) : Ok Y h' := fun a e => k a (x.none e)
theorem WkO.keep (x : WkO m h h') (p : Pre C m A h) {a : Addr} {o : Obj} (e : h.get? a = some o) (t : tabLike o = false) (hd : ∀ es n, o.data ≠ .dict es n) : h'.get? a = some o := by
  cases m with
  | none => exact Ext.keep x e t
  | some q =>
    obtain ⟨_, z⟩ := p
    obtain ⟨o', es, em, e', d⟩ := z.there
    exact Wk.keep x (fun z => by rw [z, e'] at e; cases e; exact hd _ _ d) e t
theorem WkO.pre (x : WkO m h h') (p : Pre C m A h) : Pre C m A h' := by
  cases m with
  | none => trivial
  | some q => exact ⟨p.1, p.2.wk x⟩
theorem WkO.ns (x : WkO m h h') {a : Addr} {g : Str → Option Value} (l : h.Ns a g) : h'.Ns a g := by
  cases m with
  | none => exact Ext.ns x l
  | some q =>
    obtain ⟨o, es, ep, e, d, r⟩ := l
    have t : tabLike o = false := tab_data fun vs z => by rw [d] at z; cases z
    by_cases ha : a = q.2
    · subst ha
      obtain ⟨sl, e'⟩ := Wk.own x e t
      exact ⟨_, es, ep, e', d, r⟩
    · exact ⟨o, es, ep, Wk.keep x ha e t, d, r⟩
theorem WkO.cell (x : WkO m h h') (p : Pre C m A h) {a : Addr} {v : Option Value} (l : h.IsCell a v) : h'.IsCell a v := by
  obtain ⟨o, e, d⟩ := l
  exact ⟨o, x.keep p e (tab_data fun vs z => by rw [d] at z; cases z) (fun es n z => by rw [d] at z; cases z), d⟩
theorem WkO.isL (x : WkO m h h') (p : Pre C m A h) {a : Addr} {vs : List Value} (l : IsL h a vs) : IsL h' a vs := let ⟨n, e⟩ := l; ⟨n, x.keep p e rfl nofun⟩
theorem WkO.keepers (x : WkO m h h') (p : Pre C m A h) (Y : Al) : Keepers ⟨h, Y⟩ ⟨h', Y⟩ := fun b o e y ⟨its, n, hd⟩ => ⟨x.keep p e (tab_data fun vs q => by rw [hd] at q; cases q) (fun es n z => by rw [hd] at z; cases z), y⟩
theorem WkO.slot (x : WkO m h h') (p : Pre C m A h) {env : Env} {y : Str} {v : Value} (s : Slot env h y v) : Slot env h' y v := by
  rcases s with ⟨a, g, b, c⟩ | ⟨a, c, d, e⟩
  · exact .inl ⟨a, g, x.ns b, c⟩
  · exact .inr ⟨a, c, d, x.cell p e⟩
theorem WkO.but {a : Addr} (x : WkO m h h') (f : h.get? a = Option.none) (k : Heap.ExtBut a h' h'') : WkO m h h'' := by
  have ne : ∀ {c o}, h.get? c = some o → c ≠ a := fun e q => by rw [q, f] at e; cases e
  cases m with
  | none => exact Ext.but x f k
  | some q => exact ⟨fun {c o} e => let ⟨o', e'⟩ := Wk.live x e; ⟨o', k c o' (ne e) e'⟩, fun hb e t => k _ _ (ne e) (Wk.keep x hb e t), fun e t => let ⟨sl, e'⟩ := Wk.own x e t; ⟨sl, k _ _ (ne e) e'⟩⟩
noncomputable def Msk : Frm → Heap → Prop
  | none, _ => True
  | some (_, L), b => ∀ o, b.get? L = some o → tabLike o = true
theorem WkO.on (x : Ext b h) (k : Msk m b) (y : WkO m h h') : Ext b h' := by
  cases m with
  | none => exact Ext.trans x y
  | some q => exact ⟨fun e => let ⟨_, e'⟩ := x.live e; y.live e', fun {c o} e t => by
      have hne : c ≠ q.2 := fun z => by rw [z] at e; rw [k o e] at t; cases t
      exact Wk.keep y hne (x.keep e t) t⟩
theorem mask_get {L a : Addr} (hne : a ≠ L) : (h.update L fun _ => maskObj).get? a = h.get? a := Heap.get?_update_other _ _ (Ne.symm hne)
theorem mask_self {L : Addr} {o : Obj} (e : h.get? L = some o) : (h.update L fun _ => maskObj).get? L = some maskObj := Heap.get?_update_self _ e rfl
theorem mask_msk (p : Pre C m A h) : Msk m (maskO m h) := by
  cases m with
  | none => trivial
  | some q =>
    obtain ⟨_, z⟩ := p
    obtain ⟨o', es, em, e', d⟩ := z.there
    intro o e
    have e2 : (h.update q.2 fun _ => maskObj).get? q.2 = some o := e
    rw [mask_self e'] at e2; cases e2; rfl
theorem mask_ext (p : Pre C m A h) : Ext (maskO m h) h := by
  cases m with
  | none => exact .refl _
  | some q =>
    obtain ⟨_, z⟩ := p
    obtain ⟨o', es, em, e', d⟩ := z.there
    refine ⟨fun {c o} e => ?_, fun {c o} e t => ?_⟩
    · have e2 : (h.update q.2 fun _ => maskObj).get? c = some o := e
      by_cases hc : c = q.2
      · subst hc; exact ⟨_, e'⟩
      · rw [mask_get hc] at e2; exact ⟨_, e2⟩
    · have e2 : (h.update q.2 fun _ => maskObj).get? c = some o := e
      by_cases hc : c = q.2
      · subst hc; rw [mask_self e'] at e2; cases e2; cases t
      · rw [mask_get hc] at e2; exact e2
theorem mask_keep (p : Pre C m A h) {a : Addr} {o : Obj} (e : h.get? a = some o) (hd : ∀ es n, o.data ≠ .dict es n) : (maskO m h).get? a = some o := by
  cases m with
  | none => exact e
  | some q =>
    obtain ⟨_, z⟩ := p
    obtain ⟨o', es, em, e', d⟩ := z.there
    exact (mask_get fun z => by rw [z, e'] at e; cases e; exact hd _ _ d).trans e
theorem mask_live (p : Pre C m A h) {a : Addr} {o : Obj} (e : h.get? a = some o) : ∃ o', (maskO m h).get? a = some o' := by
  cases m with
  | none => exact ⟨_, e⟩
  | some q =>
    by_cases ha : a = q.2
    · subst ha; exact ⟨_, mask_self e⟩
    · exact ⟨_, (mask_get ha).trans e⟩
theorem mask_none (p : Pre C m A h) {a : Addr} (e : h.get? a = none) : (maskO m h).get? a = none := (mask_ext p).none e
theorem mask_root (p : Pre C m A h) (x : Ext C.B h) : Ext C.B (maskO m h) := by
  cases m with
  | none => exact x
  | some q =>
    obtain ⟨_, z⟩ := p
    have ne : ∀ {c o}, C.B.get? c = some o → c ≠ q.2 := fun e y => by rw [y, z.low] at e; cases e
    exact ⟨fun e => let ⟨_, e'⟩ := x.live e; ⟨_, (mask_get (ne e)).trans e'⟩, fun e t => (mask_get (ne e)).trans (x.keep e t)⟩
theorem mask_keepers (p : Pre C m A h) (Y : Al) : Keepers ⟨h, Y⟩ ⟨maskO m h, Y⟩ := fun b o e y ⟨its, n, hd⟩ => ⟨mask_keep p e (fun es n z => by rw [hd] at z; cases z), y⟩
theorem It.mask {Y : Al} {g : Heap} {I : Addr} {ds : List D} {i : Nat} (p : Pre C m A h) (x : It Y h g I ds i) : It Y (maskO m h) g I ds i := by
  rcases x with ⟨a, vs, ⟨n1, h1⟩, h2, h3, h4⟩ | x
  · exact .inl ⟨a, vs, ⟨n1, mask_keep p h1 nofun⟩, h2, h3.keepers (mask_keepers p Y), h4⟩
  · exact .inr x
theorem FS.H.wk {Y : Al} (x : f.H ⟨h, Y⟩) (p : Pre C m A h) (k : Msk m f.b) (y : WkO m h h') (hρ : m ≠ none → ∀ q ∈ f.ρ, q.2.Kp) (hF : m ≠ none → f.F = .top) : f.H ⟨h', Y⟩ := by
  cases m with
  | none => exact x.up y
  | some q =>
    refine ⟨y.on x.ext k, x.sc, x.kind, x.glob, x.bi, fun z R e => ?_, by rw [hF (by simp)]; trivial⟩
    obtain ⟨v, hv, hr⟩ := x.vars z R e
    exact ⟨v, y.slot p hv, hρ (by simp) _ (mem_of_lookup e) y.live (y.keepers p Y) hr⟩
theorem FS.W.wk {Y : Al} (x : f.W C ⟨h, Y⟩) (p : Pre C m A h) (k : Msk m f.b) (y : WkO m h h') (hρ : m ≠ none → ∀ q ∈ f.ρ, q.2.Kp) (hF : m ≠ none → f.F = .top) : f.W C ⟨h', Y⟩ where
  toH := x.toH.wk p k y hρ hF
  root := x.root
  ns := let ⟨g, hg⟩ := x.ns; ⟨g, y.ns hg⟩
  low := x.low
  cell := fun z c h1 h2 => ⟨let ⟨v, hv⟩ := (x.cell z c h1 h2).1; ⟨v, y.cell p hv⟩, (x.cell z c h1 h2).2⟩
  has := x.has
  apart := x.apart
  stab := x.stab
  fstab := x.fstab
theorem CF.wk {scope : Scope} {cenv : Env} (x : CF C b scope cenv h) (p : Pre C m A h) (k : Msk m b) (y : WkO m h h') : CF C b scope cenv h' where
  root := x.root
  ext := y.on x.ext k
  ns := let ⟨g, hg⟩ := x.ns; ⟨g, y.ns hg⟩
  low := x.low
  cell := fun z c h1 h2 => ⟨let ⟨v, hv⟩ := (x.cell z c h1 h2).1; ⟨v, y.cell p hv⟩, (x.cell z c h1 h2).2⟩
theorem It.wk {Y : Al} {I : Addr} {ds : List D} {i : Nat} (x : It Y b h I ds i) (p : Pre C m A h) (k : WkO m h h') : It Y b h' I ds i := x.at fun o e => by
  obtain ⟨o', e', _, _, t, t2, _⟩ := x.obj
  rw [e] at e'; cases e'
  exact k.keep p e t t2
noncomputable def EvG (C : Cx) (n : Nat) (f : FS) (m : Frm) (e : Expr) (R : VP) : Prop := ∀ A s E Y, Room n A → Pre C m A s.heap → St C s → Ok Y s.heap → f.H ⟨s.heap, Y⟩ →
  wpAny C.M A (eval e f.env) (fun v s' => St C s' ∧ WkO m s.heap s'.heap ∧ R.p ⟨s'.heap, Y⟩ v) E s
theorem Ev.gen {e : Expr} {R : VP} (h : Ev C n f e R) : EvG C n f m e R := fun A s E Y hA _ hs hY hp => wpAny_mono (h A s E Y hA hs hY hp) (fun _ _ ⟨a, b, c⟩ => ⟨a, b.wko, c⟩) fun _ _ e => e
theorem EvT.gen {env : Env} {L : Addr} {e : Expr} {R : VP} (h : EvT C n f env L e R) : EvG C n f (some (env, L)) e R := fun A s E Y hA hp hs hY hf => h A s E Y hA hp.1 hp.2 hs hY hf
end
noncomputable def Tgt2 (C : Cx) (n : Nat) (b : Heap) (scope : Scope) (cenv : Env) (target : Expr) (d : D) (tv : List (Str × VP)) : Prop := ∀ A s E Y v (Q : Unit → Shared → Prop), Room n A → St C s → CF C b scope cenv s.heap → Rep ⟨b, Y⟩ d v →
  (∀ s', St C s' → CF C b scope cenv s'.heap → Touch s.heap s'.heap → (∀ a o, (∃ q, b.get? a = some q) → s.heap.get? a = some o → s'.heap.get? a = some o) →
    (∀ x R, tv.lookup x = some R → ∃ u, Slot cenv s'.heap x u ∧ ∀ Y', (∀ a o, b.get? a = some o → Y a → Y' a) → R.p ⟨s'.heap, Y'⟩ u) → Q () s') → wpAny C.M A (assign target cenv v) Q E s
section
variable {C : Cx} {n : Nat} {f : FS} {scope : Scope} {b : Heap} {Y : Al}
theorem Tgt2.local {cenv : Env} {x : Str} {pos : Pos} {d : D} (hk : cenv.scope.kind = .function) (hx : cenv.scope.names.lookup x = some .local) : Tgt2 C n b scope cenv (.Name x pos) d [(x, VP.at b (dat d))] := fun A s E Y v Q hA hs hc hr hQ => by
  obtain ⟨m, hm⟩ := hc.ns
  obtain ⟨o, ho, hso⟩ := soft_ns hm
  refine wpAny_assign_Name (wpAny_storeName_local hx hm (fun h' hn' hs' => ?_) (by rw [hk]; rfl))
  have hc' : CF C b scope cenv h' := hc.same hc.low hs' (fun _ => ⟨_, hn'⟩) fun y c h1 h2 e => absurd e (hc.cellNe h1 h2)
  refine hQ _ (hs.same ho hso (hc.root.none hc.low) hs' _) hc' (Touch.sameNs hm hs') (fun a o ⟨q, e⟩ e' => (hs'.2 a (fun z => by rw [z, hc.low] at e; cases e)).trans e') fun y R e => ?_
  obtain ⟨rfl, rfl⟩ := lookup_one e
  exact ⟨v, .inl ⟨hx, _, hn', by simp⟩, fun Y' hY => at_dat hc'.ext hr hY⟩
theorem Tgt2.cell {cenv : Env} {x : Str} {pos : Pos} {d : D} (hk : cenv.scope.kind = .function) (hx : cenv.scope.names.lookup x = some .cell) (hx' : scope.names.lookup x = some .cell) {c : Addr} (hc : cenv.cells.lookup x = some c) : Tgt2 C n b scope cenv (.Name x pos) d [(x, VP.at b (dat d))] := fun A s E Y v Q hA hs hcf hr hQ => by
  obtain ⟨⟨v₀, hv₀⟩, hlow⟩ := hcf.cell x c hx' hc
  obtain ⟨o, ho, hso⟩ := soft_cell hv₀
  refine wpAny_assign_Name (wpAny_storeName_cell hk hx hc hv₀ fun h' hn' hs' => ?_)
  have hc' : CF C b scope cenv h' := hcf.same hlow hs' (fun e => absurd e.symm (hcf.cellNe hx' hc)) fun y c' h1 h2 e => by subst e; exact ⟨_, hn'⟩
  refine hQ _ (hs.same ho hso (hcf.root.none hlow) hs' s.toks) hc' (Touch.sameCell hv₀ hs') (fun a o ⟨q, e⟩ e' => (hs'.2 a (fun z => by rw [z, hlow] at e; cases e)).trans e') fun y R e => ?_
  obtain ⟨rfl, rfl⟩ := lookup_one e
  exact ⟨v, .inr ⟨.inl hx, _, hc, hn'⟩, fun Y' hY => at_dat hc'.ext hr hY⟩
theorem Tgt2.pair {cenv : Env} {x y : Str} {px py pt : Pos} {k : Nat} {d1 d2 : D} (hk : cenv.scope.kind = .function) (hx : cenv.scope.names.lookup x = some .local) (hy : cenv.scope.names.lookup y = some .local) (hxy : x ≠ y) :
    Tgt2 C n b scope cenv (.Tuple [Expr.Name x px, Expr.Name y py] k pt) (.tup [d1, d2]) [(y, VP.at b (dat d2)), (x, VP.at b (dat d1))] := fun A s E Y v Q hA hs hcf hr hQ => by
  obtain ⟨t, vs, rfl, yt, ht, hr⟩ := rep_tup (h := ⟨b, Y⟩) hr
  obtain ⟨u1, u2, rfl, r1, r2⟩ := reps2 hr
  have ht' : IsT s.heap t [u1, u2] := hcf.ext.isT ht
  refine assign_Tuple_tuple (items := [u1, u2].toArray) hA.hh ht'.isTup rfl rfl fun h' k => ?_
  have hk' := tupExt k
  have ex : Ext s.heap h' := .of hk'
  have st1 : St C { s with heap := h' } := hs.keep hk' s.toks
  have cf1 := hcf.up ex
  show wpAny C.M A (assignInOrder [PySem.assign (Expr.Name x px) cenv, PySem.assign (Expr.Name y py) cenv] [u1, u2]) _ E _
  obtain ⟨m, hm⟩ := cf1.ns
  obtain ⟨o, ho, hso⟩ := soft_ns hm
  refine assignInOrder_cons (PyProof.Rows.assign_Name (wpAny_storeName_local hx hm (fun h2 hn2 hs2 => ?_) (by rw [hk]; rfl)))
  have cf2 : CF C b scope cenv h2 := cf1.same cf1.low hs2 (fun _ => ⟨_, hn2⟩) fun y c h1 h2 e => absurd e (cf1.cellNe h1 h2)
  have st2 := st1.same ho hso (cf1.root.none cf1.low) hs2 s.toks
  obtain ⟨o2, ho2, hso2⟩ := soft_ns hn2
  refine assignInOrder_cons (PyProof.Rows.assign_Name (wpAny_storeName_local hy hn2 (fun h3 hn3 hs3 => assignInOrder_nil ?_) (by rw [hk]; rfl)))
  have cf3 : CF C b scope cenv h3 := cf2.same cf2.low hs3 (fun _ => ⟨_, hn3⟩) fun y c h1 h2 e => absurd e (cf2.cellNe h1 h2)
  refine hQ _ (st2.same ho2 hso2 (cf1.root.none cf1.low) hs3 _) cf3 (fun a o e h1 h2 => (Touch.sameNs hn2 hs3) a o ((Touch.sameNs hm hs2) a o (hk' _ _ e) h1 h2) h1 h2)
    (fun a o ⟨q, e⟩ e' => (hs3.2 a (fun z => by rw [z, cf1.low] at e; cases e)).trans ((hs2.2 a (fun z => by rw [z, cf1.low] at e; cases e)).trans (hk' _ _ e'))) fun z R e => ?_
  rw [List.lookup_cons] at e
  cases hz : z == y with
  | true =>
    simp only [hz] at e
    cases e
    have : z = y := by simpa using hz
    subst this
    exact ⟨u2, .inl ⟨hy, _, hn3, by simp⟩, fun Y' hY => at_dat cf3.ext r2 hY⟩
  | false =>
    simp only [hz] at e
    obtain ⟨rfl, rfl⟩ := lookup_one e
    exact ⟨u1, .inl ⟨hx, _, hn3, by simp [hxy]⟩, fun Y' hY => at_dat cf3.ext r1 hY⟩
end
section
variable {C : Cx} {n : Nat} {f : FS} {scope : Scope} {Y : Al}
theorem WkO.kept {m : Frm} {h h' h'' : Heap} (x : WkO m h h') (k : ∀ a o, (∃ q, h.get? a = some q) → h'.get? a = some o → h''.get? a = some o) : WkO m h h'' := by
  cases m with
  | none => exact ⟨fun {b o} e => let ⟨o', e'⟩ := Ext.live x e; ⟨o', k _ _ ⟨_, e⟩ e'⟩, fun e t => k _ _ ⟨_, e⟩ (Ext.keep x e t)⟩
  | some q => exact ⟨fun {b o} e => let ⟨o', e'⟩ := Wk.live x e; ⟨o', k _ _ ⟨_, e⟩ e'⟩, fun hb e t => k _ _ ⟨_, e⟩ (Wk.keep x hb e t), fun e t => let ⟨sl, e'⟩ := Wk.own x e t; ⟨sl, k _ _ ⟨_, e⟩ e'⟩⟩
theorem cfs_H2 {m : Frm} {A : Around} {h1 : Heap} {L : Nat} {h : Heap} {Y' : Al} {tv : List (Str × VP)} (ok : CompOk f scope) (hp : f.H ⟨h1, Y⟩) (p : Pre C m A h1) (hkp : m ≠ none → ∀ q ∈ f.ρ, q.2.Kp) (x : Ext (maskO m h1) h) (hY : ∀ a o, (maskO m h1).get? a = some o → Y a → Y' a)
    (ht : ∀ x R, tv.lookup x = some R → ∃ u, Slot (cenvOf f scope L) h x u ∧ R.p ⟨h, Y'⟩ u) : (cfs (maskO m h1) scope (cenvOf f scope L) f tv).H ⟨h, Y'⟩ where
  ext := x
  sc := rfl
  kind := ok.kind
  glob := hp.glob
  bi := hp.bi
  more := trivial
  vars := fun y R' e => by
    rcases lookup_append_or e with e | ⟨_, e⟩
    · exact ht y R' e
    · obtain ⟨R, h1', rfl, h3⟩ := caps_lookup e
      obtain ⟨v, hv, hr⟩ := hp.vars y R h1'
      obtain ⟨_, h4, h5⟩ := ok.free y h3
      obtain ⟨c, hc, oc, hcell, hcd⟩ := slot_cell hp h4 hv
      have hcell' : (maskO m h1).IsCell c (some v) := ⟨oc, mask_keep p hcell (fun es n z => by rw [hcd] at z; cases z), hcd⟩
      have hr' : R.p ⟨maskO m h1, Y⟩ v := by
        cases m with
        | none => exact hr
        | some q => exact hkp (by simp) _ (mem_of_lookup h1') (fun e => mask_live p e) (mask_keepers p Y) hr
      refine ⟨v, .inr ⟨?_, c, ?_, x.cell hcell'⟩, fun e => x.live e, R.ref hY hr'⟩
      · show (relabelS scope f.sc).names.lookup y = _ ∨ (relabelS scope f.sc).names.lookup y = _ ∧ _
        rw [lookup_relabel, h3, Option.map_some]
        by_cases hq : (NameKind.free == NameKind.free && f.sc.kind == .function && f.sc.names.lookup y == some .cell) = true
        · rw [if_pos hq]; exact .inl rfl
        · rw [if_neg hq]; exact .inr ⟨rfl, h5⟩
      · show (cellsFrom (L + 1) scope.names (clos f.env scope.names [])).lookup y = some c
        rw [cellsFrom_other, clos_lookup scope.names [] (.inl (mem_of_lookup h3)) (fun q hq => by cases hq), hc]
        · rfl
        · intro hm
          rw [lookup_of_mem ok.nodup hm] at h3
          cases h3
noncomputable def Owned (target : Expr) : Prop := ∀ {M : Model} {A : Around} {E : Value → Shared → Prop} {s : Shared} {I : Addr} {v : Value} {Q : Unit → Shared → Prop},
  (∃ o t, s.heap.get? I = some o ∧ o.cls = .type t ∧ (t = "list_iterator" ∨ t = "range_iterator")) → Q () s → wpAny M A (letOwnedTupleGo target (.ref I) v) Q E s
theorem Owned.name {x : Str} {p : Pos} : Owned (.Name x p) := fun _ h => wpAny_pure h
theorem Owned.tuple {elts : List Expr} {k : Nat} {p : Pos} : Owned (.Tuple elts k p) := fun {M A E s I v Q} ho h => by
  obtain ⟨o, t, e, hc, ht⟩ := ho
  unfold letOwnedTupleGo
  cases v with
  | ref a =>
    refine wpAny_bind (wpAny_load e ?_)
    rw [hc]
    cases hd : o.data with
    | fields vs =>
      rcases ht with rfl | rfl
      · exact wpAny_pure h
      · exact wpAny_pure h
    | _ => exact wpAny_pure h
  | _ => exact wpAny_pure h
theorem It.own {Y : Al} {b h : Heap} {I : Addr} {ds : List D} {i : Nat} (x : It Y b h I ds i) : ∃ o t, h.get? I = some o ∧ o.cls = .type t ∧ (t = "list_iterator" ∨ t = "range_iterator") := by
  rcases x with ⟨a, vs, h1, h2, h3, o, h4, h5, h6⟩ | ⟨lo, h1, h2⟩
  · exact ⟨o, _, h4, h5, .inl rfl⟩
  · exact ⟨_, _, h2, rfl, .inr rfl⟩
noncomputable abbrev turnT (C : Cx) (A : Around) (elt target : Expr) (ifs : List Expr) (I Dd : Addr) (env : Env) (J N : Shared → Prop) (E2 E3 E4 E5 E6 : Value → Shared → Prop) (r : Option Value) (s₁ : Shared) : Prop := match r with
  | none => N s₁
  | some v => wpAny C.M A (letOwnedTupleGo target (.ref I) v) (fun _ s₀ => wpAny C.M A (assign target env v) (fun _ s₂ =>
      wpAny C.M A (forIn ifs true fun c r => if r = true then do let ok ← isTrue c env (eval c env); pure (ForInStep.yield ok) else pure (ForInStep.yield r)) (fun ok s₃ =>
        if ok = true then wpAny C.M A (eval elt env) (fun x s₄ => wpAny C.M A (call (.builtin "list.append") [.ref Dd, x]) (fun _ s₅ => J s₅) E6 s₄) E5 s₃ else J s₃) E4 s₂) E3 s₀) E2 s₁
theorem loopT {A : Around} {s : Shared} {R : Result → Shared → Prop} {elt target iter : Expr} {ifs : List Expr} {pos : Pos} {I Dd : Addr} {env : Env} (K : Nat → Shared → Prop)
    (turn : ∀ k s (J N : Shared → Prop) E1 E2 E3 E4 E5 E6, (∀ i s', i < k → K i s' → J s') → (∀ s', R (.ok .next) s' → N s') → K k s → wpAny C.M A (pyNext (.ref I)) (turnT C A elt target ifs I Dd env J N E2 E3 E4 E5 E6) E1 s)
    (k : Nat) (h : K k s) : codeAny C.M A (.compLoop (.ListComp elt [⟨target, iter, ifs, 0⟩] scope pos) 0 (.ref I) (.ref Dd) env) R s := by
  refine codeAny_loop rfl K (fun k s hI => ?_) k h
  show wpAny _ A ((compTurn (.ListComp elt [⟨target, iter, ifs, 0⟩] scope pos) 0 (.ref I) (.ref Dd) env).onRaise (fun x => do noteFrame x env; theTreesLotGoes x)) _ _ s
  refine wpAny_noted ?_
  rw [compTurn_list]
  refine wpAny_bind (wpAny_standAt (wpAny_bind (wpAny_mono (turn k s (fun s' => ∃ m, m < k ∧ K m s') (R (.ok .next)) (notedBy C.M A env fun e s' => R (.error e) s') (notedBy C.M A env fun e s' => R (.error e) s') (notedBy C.M A env fun e s' => R (.error e) s') (notedBy C.M A env fun e s' => R (.error e) s') (notedBy C.M A env fun e s' => R (.error e) s') (notedBy C.M A env fun e s' => R (.error e) s') (fun i s' a b => ⟨i, a, b⟩) (fun _ h => h) hI) (fun r s₁ h₁ => ?_) fun _ _ h' => h')))
  cases r with
  | none => exact wpAny_pure h₁
  | some v =>
    refine wpAny_bind (wpAny_mono h₁ (fun _ s₀ h₀ => ?_) fun _ _ h' => h')
    refine wpAny_bind (wpAny_mono h₀ (fun _ s₂ h₂ => wpAny_bind (wpAny_mono h₂ (fun ok s₃ h₃ => ?_) fun _ _ h' => h')) fun _ _ h' => h')
    cases ok with
    | false => exact wpAny_pure ⟨rfl, h₃⟩
    | true =>
      exact wpAny_bind (wpAny_bind (wpAny_mono h₃ (fun x s₄ h₄ => wpAny_bind (wpAny_mono h₄ (fun _ s₅ h₅ => wpAny_pure (wpAny_pure ⟨rfl, h₅⟩)) fun _ _ h' => h')) fun _ _ h' => h'))
end
section
variable {C : Cx} {n : Nat} {f : FS} {scope : Scope} {m : Frm} {A : Around} {Y : Al} {b h1 : Heap} {I Dd : Addr} {L : Nat} {ds : List D}
theorem none_ne {h : Heap} {a c : Addr} {o : Obj} (e : h.get? a = some o) (q : h.get? c = none) : a ≠ c := fun z => by rw [z, q] at e; cases e
theorem seq_ne {h : Heap} {a c : Addr} {o : Obj} {vs : List Value} {k : Nat} (e : h.get? a = some (LObj vs k)) (q : h.get? c = some o) (hs : ∀ its n, o.data ≠ .seq its n) : a ≠ c := fun z => by rw [z, q] at e; cases e; exact hs _ _ rfl
structure LS (C : Cx) (f : FS) (scope : Scope) (m : Frm) (h1 b : Heap) (Y : Al) (I Dd : Addr) (L : Nat) (ds : List D) (rs : List D) (i : Nat) (s : Shared) : Prop where
  st : St C s
  cf : CF C b scope (cenvOf f scope L) s.heap
  it : It Y b s.heap I ds i
  wk : WkO m h1 s.heap
  acc : ∃ vs, IsL s.heap Dd vs ∧ Reps ⟨s.heap, fun a => Y a ∧ a ≠ Dd⟩ rs vs
structure LC (C : Cx) (n : Nat) (f : FS) (scope : Scope) (m : Frm) (A : Around) (h1 b : Heap) (Y : Al) (I Dd : Addr) : Prop where
  hA : Room n A
  P : Pre C m A h1
  M : Msk m b
  bm : maskO m h1 = b
  Y1 : Ok Y h1
  H : f.H ⟨h1, Y⟩
  kp : m ≠ none → ∀ q ∈ f.ρ, q.2.Kp
  ok : CompOk f scope
  I1 : h1.get? I = none
  D1 : h1.get? Dd = none
  root : Ext C.B h1
theorem LC.bN (c : LC C n f scope m A h1 b Y I Dd) {a : Addr} (e : h1.get? a = none) : b.get? a = none := c.bm ▸ mask_none c.P e
theorem LC.YD (c : LC C n f scope m A h1 b Y I Dd) (a : Addr) (o : Obj) (e : b.get? a = some o) (y : Y a) : Y a ∧ a ≠ Dd := ⟨y, none_ne e (c.bN c.D1)⟩
theorem LS.item (c : LC C n f scope m A h1 b Y I Dd) {rs : List D} {i : Nat} {s : Shared} (S : LS C f scope m h1 b Y I Dd L ds rs i s) {d : D} (hd : ds[i]? = some d) {target : Expr} {tv : List (Str × VP)} (htg : Tgt2 C n b scope (cenvOf f scope L) target d tv) (hown : Owned target)
    {E1 E2 E3 : Value → Shared → Prop} {N : Shared → Prop} {Q : Shared → Prop} (hQ : ∀ s3, LS C f scope m h1 b Y I Dd L ds rs (i + 1) s3 → Ok (fun a => Y a ∧ a ≠ Dd) s3.heap → (cfs b scope (cenvOf f scope L) f tv).H ⟨s3.heap, fun a => Y a ∧ a ≠ Dd⟩ → Q s3) :
    wpAny C.M A (pyNext (.ref I)) (fun r s₁ => match r with | none => N s₁ | some v => wpAny C.M A (letOwnedTupleGo target (.ref I) v) (fun _ s₀ => wpAny C.M A (assign target (cenvOf f scope L) v) (fun _ s₂ => Q s₂) E3 s₀) E2 s₁) E1 s := by
  have bI := c.bN c.I1
  obtain ⟨oI, e1, e2, e3, e4, e5, e6⟩ := S.it.obj
  refine S.it.next S.cf.ext bI hd fun v h' tk r1 r2 r3 => ?_
  have st1 : St C { s with heap := h', toks := tk } := S.st.but e1 e2 (c.root.none c.I1) r3.extBut tk
  have cf1 := S.cf.other bI e1 e5 e6 r3.extBut
  have wk1 : WkO m h1 h' := S.wk.but c.I1 r3.extBut
  refine hown (show ∃ o t, h'.get? I = some o ∧ _ from r2.own) ?_
  refine htg A _ _ Y v _ c.hA st1 cf1 r1 fun s3 st3 cf3 t3 kk3 hv3 => ?_
  obtain ⟨vs, ⟨nD, eD⟩, rp⟩ := S.acc
  have l3 : IsL s3.heap Dd vs := t3.isL ⟨nD, r3.extBut _ _ (seq_ne eD e1 e3) eD⟩
  have wk3 : WkO m h1 s3.heap := wk1.kept fun a o ⟨q, e⟩ e' => kk3 a o (c.bm ▸ mask_live c.P e) e'
  have cf : Ext b s3.heap := cf3.ext
  refine hQ s3 ⟨st3, cf3, r2.touch t3, wk3, vs, l3, (rp.keepers (soft_keepers (Y := fun a => Y a ∧ a ≠ Dd) e1 e3 r3.extBut)).keepers (t3.keepers _)⟩ (fun a e => ⟨c.Y1 a (wk3.none e), fun q => ?_⟩) ?_
  · obtain ⟨k, e'⟩ := l3
    rw [q, e'] at e; cases e
  · obtain ⟨hA, P, M, bm, Y1, H, kp, ok, I1, D1, root⟩ := c
    subst bm
    exact cfs_H2 ok H P kp cf3.ext (LC.YD ⟨hA, P, M, rfl, Y1, H, kp, ok, I1, D1, root⟩) fun x R e => let ⟨u, a, q⟩ := hv3 x R e; ⟨u, a, q _ (LC.YD ⟨hA, P, M, rfl, Y1, H, kp, ok, I1, D1, root⟩)⟩
theorem LS.up {rs : List D} {i : Nat} {s s' : Shared} (S : LS C f scope m h1 b Y I Dd L ds rs i s) (st : St C s') (x : Ext s.heap s'.heap) : LS C f scope m h1 b Y I Dd L ds rs i s' :=
  ⟨st, S.cf.up x, S.it.ext x, S.wk.trans (x.wko (m := m)), let ⟨vs, l, r⟩ := S.acc; ⟨vs, x.isL l, r.keepers (x.keepers _)⟩⟩
theorem LS.app (c : LC C n f scope m A h1 b Y I Dd) {rs : List D} {i : Nat} {s s5 : Shared} (S : LS C f scope m h1 b Y I Dd L ds rs i s) (hz : rs.length ≤ 1000000) (st5 : St C s5) (x : WkO m s.heap s5.heap) {d : D} {v : Value} (r : (dat d).p ⟨s5.heap, fun a => Y a ∧ a ≠ Dd⟩ v)
    {E : Value → Shared → Prop} {J : Shared → Prop} (hJ : ∀ s6, LS C f scope m h1 b Y I Dd L ds (rs ++ [d]) i s6 → J s6) : wpAny C.M A (call (.builtin "list.append") [.ref Dd, v]) (fun _ s' => J s') E s5 := by
  obtain ⟨vs, l, rp⟩ := S.acc
  have hP := S.wk.pre c.P
  have l5 := x.isL hP l
  have it5 := S.it.wk hP x
  obtain ⟨nD, eD⟩ := id l5
  obtain ⟨oD, eD1, sD⟩ := soft_list l5.isList
  refine do_append l5 (by rw [rp.length]; exact hz) fun h6 l6 s6 => hJ _ ⟨st5.same eD1 sD (c.root.none c.D1) s6 s5.toks, (S.cf.wk hP c.M x).other (c.bN c.D1) eD nofun nofun s6.extBut, ?_, (S.wk.trans x).but c.D1 s6.extBut, vs ++ [v], l6, ?_⟩
  · obtain ⟨oI5, d1, d2, d3, _⟩ := it5.obj
    exact it5.at fun o e => s6.extBut _ _ (fun q => seq_ne eD d1 d3 q.symm) e
  · exact ((rp.keepers (x.keepers hP _)).append (Reps.cons (show Rep ⟨s5.heap, fun a => Y a ∧ a ≠ Dd⟩ d v from r) Reps.nil)).keepers (but_keepers (fun q => q.2 rfl) s6.extBut)
theorem filter_len (p : Nat → Bool) (g : Nat → D) (i : Nat) : (((List.range i).filter p).map g).length ≤ i := by
  rw [List.length_map]
  exact Nat.le_trans (List.length_filter_le p _) (Nat.le_of_eq List.length_range)
theorem comp_turn (c : LC C n f scope m A h1 b Y I Dd) (p : Nat → Bool) (g : Nat → D) {elt target : Expr} {ifs : List Expr} {tv : List (Str × VP)} {i : Nat} {s : Shared} (S : LS C f scope m h1 b Y I Dd L ds (((List.range i).filter p).map g) i s) {d : D} (hd : ds[i]? = some d) (hlen : ds.length ≤ 1000000)
    (htg : Tgt2 C n b scope (cenvOf f scope L) target d tv) (htest : (ifs = [] ∧ p i = true) ∨ ∃ c, ifs = [c] ∧ Ts C n (cfs b scope (cenvOf f scope L) f tv) c (p i)) (helt : p i = true → EvG C n (cfs b scope (cenvOf f scope L) f tv) m elt (dat (g i))) (hown : Owned target)
    {J N : Shared → Prop} {E1 E2 E3 E4 E5 E6 : Value → Shared → Prop} (hJ : ∀ s', LS C f scope m h1 b Y I Dd L ds (((List.range (i + 1)).filter p).map g) (i + 1) s' → J s') :
    wpAny C.M A (pyNext (.ref I)) (turnT C A elt target ifs I Dd (cenvOf f scope L) J N E2 E3 E4 E5 E6) E1 s := by
  refine S.item c hd htg hown fun s3 S3 Y3 H3 => ?_
  have hz : (((List.range i).filter p).map g).length ≤ 1000000 := Nat.le_trans (filter_len p g i) (Nat.le_trans (Nat.le_of_lt (List.getElem?_eq_some_iff.mp hd).1) hlen)
  rw [filter_succ] at hJ
  have behind : ∀ (c' : Bool) (s4 : Shared), St C s4 → Ext s3.heap s4.heap → c' = p i → (if c' = true then wpAny C.M A (eval elt (cenvOf f scope L)) (fun x s₄ => wpAny C.M A (call (.builtin "list.append") [.ref Dd, x]) (fun _ s₅ => J s₅) E6 s₄) E5 s4 else J s4) := by
    intro c' s4 st4 x4 hc
    have S4 := S3.up st4 x4
    subst hc
    cases hpi : p i with
    | false =>
      rw [hpi, if_neg Bool.false_ne_true, List.append_nil] at hJ
      rw [if_neg Bool.false_ne_true]
      exact hJ _ S4
    | true =>
      rw [hpi, if_pos rfl] at hJ
      rw [if_pos rfl]
      exact wpAny_mono (helt hpi A s4 _ _ c.hA (S4.wk.pre c.P) st4 (Y3.ext x4) (H3.up x4)) (fun x s5 hh => and3 hh fun st5 x5 r5 => S4.app c hz st5 x5 r5 hJ) fun _ _ e => e
  rcases htest with ⟨rfl, hpi⟩ | ⟨t, rfl, hts⟩
  · exact wpAny_tests_nil (behind true s3 S3.st (.refl _) hpi.symm)
  · exact wpAny_tests_one (wpAny_mono (hts A s3 _ _ c.hA S3.st Y3 H3) (fun c' s4 hh => and3 hh fun a1 a2 a3 => behind c' s4 a1 a2 a3) fun _ _ e => e)
theorem LS.done (c : LC C n f scope m A h1 b Y I Dd) {rs : List D} {s : Shared} (S : LS C f scope m h1 b Y I Dd L ds rs ds.length s) {E : Value → Shared → Prop} {F : Option Value → Shared → Prop} {N : Shared → Prop} (hF : ∀ s', N s' → F none s')
    (hN : ∀ s', St C s' → WkO m h1 s'.heap → (∃ vs, IsL s'.heap Dd vs ∧ Reps ⟨s'.heap, Y⟩ rs vs) → (∃ g, s'.heap.Ns L g) → N s') : wpAny C.M A (pyNext (.ref I)) F E s := by
  refine S.it.end c.hA.hh S.cf.ext fun h' q6 => hF _ (hN _ ?_ (S.wk.but c.I1 q6) ?_ ?_)
  · obtain ⟨oI, e1, e2, e3, e4, e5, e6⟩ := S.it.obj
    exact S.st.but e1 e2 (c.root.none c.I1) q6 s.toks
  · obtain ⟨oI, e1, e2, e3, e4, e5, e6⟩ := S.it.obj
    obtain ⟨vs, ⟨nD, eD⟩, rp⟩ := S.acc
    exact ⟨vs, ⟨nD, q6 _ _ (seq_ne eD e1 e3) eD⟩, (rp.keepers (soft_keepers (Y := fun a => Y a ∧ a ≠ Dd) e1 e3 q6)).keepers (ref_keepers fun a o _ y => y.1)⟩
  · obtain ⟨oI, e1, e2, e3, e4, e5, e6⟩ := S.it.obj
    exact (S.cf.other (c.bN c.I1) e1 e5 e6 q6).ns
structure LB (C : Cx) (f : FS) (scope : Scope) (Y : Al) (b h1 h5 : Heap) (s2 : Shared) (I Dd : Addr) (L : Nat) (ds : List D) : Prop where
  st : St C { s2 with heap := h5 }
  cf : CF C b scope (cenvOf f scope L) h5
  it : It Y b h5 I ds 0
  x : Ext h1 h5
  D1 : h1.get? Dd = none
  L1 : h1.get? L = none
  ne : Dd ≠ L
  l : IsL h5 Dd []
theorem LB.begin {s2 : Shared} (st : St C s2) (nd : (scope.names.map (·.1)).Nodup) (x : Ext h1 s2.heap) (mx : Ext b h1) (root : Ext C.B b) (it : It Y b s2.heap I ds 0) :
    LB C f scope Y b h1 (pushCells ((s2.heap.push { cls := .type "list", data := .seq ([] : List Value).toArray }).push { cls := .type "dict", data := .dict #[] }) scope.names) s2 I s2.heap.objs.size (s2.heap.push { cls := .type "list", data := .seq ([] : List Value).toArray }).objs.size ds := by
  have hDl : IsL (s2.heap.push { cls := .type "list", data := .seq ([] : List Value).toArray }) s2.heap.objs.size [] := IsL.new _ _
  have e23 : Ext s2.heap (s2.heap.push { cls := .type "list", data := .seq ([] : List Value).toArray }) := Ext.push _ _
  have st3 := st.push { cls := .type "list", data := .seq ([] : List Value).toArray }
  have hDn := get?_size s2.heap
  generalize s2.heap.push { cls := .type "list", data := .seq ([] : List Value).toArray } = h3 at hDl e23 st3
  generalize s2.heap.objs.size = D0 at hDl hDn
  have hLn := get?_size h3
  have e34 : Ext h3 (h3.push { cls := .type "dict", data := .dict #[] }) := Ext.push _ _
  have hns4 : (h3.push { cls := .type "dict", data := .dict #[] }).Ns h3.objs.size fun _ => none := Heap.Ns.new _ _
  have st4 : St C { s2 with heap := h3.push { cls := .type "dict", data := .dict #[] } } := st3.push _
  have hL4 : h3.objs.size + 1 = (h3.push { cls := .type "dict", data := .dict #[] }).objs.size := (Heap.size_push ..).symm
  generalize h3.push { cls := .type "dict", data := .dict #[] } = h4 at e34 hns4 st4 hL4
  generalize h3.objs.size = L at hLn hns4 hL4
  have e45 : Ext h4 (pushCells h4 scope.names) := .of (pushCells_keeps _ _)
  have xx := ((x.trans e23).trans e34).trans e45
  refine ⟨st4.cells, ⟨root, mx.trans xx, ⟨_, e45.ns hns4⟩, mx.none ((x.trans e23).none hLn), fun y c h1 h2 => ?_⟩, ((it.ext e23).ext e34).ext e45, xx, x.none hDn, (x.trans e23).none hLn, fun z => ?_, e45.isL (e34.isL hDl)⟩
  · have h2' : (cellsFrom (L + 1) scope.names (clos f.env scope.names [])).lookup y = some c := h2
    rw [hL4] at h2'
    rcases cellsFrom_mem _ _ _ (mem_of_lookup h2') with hm | ⟨_, hm2, hm3⟩
    · rcases clos_mem _ _ hm with hm | hm
      · cases hm
      · rw [lookup_of_mem nd hm] at h1; cases h1
    · exact ⟨⟨_, hm3⟩, mx.none (((x.trans e23).trans e34).none hm2)⟩
  · obtain ⟨_, eD⟩ := hDl
    rw [z, hLn] at eD; cases eD
theorem CompOk.locals (ok : CompOk f scope) {x : Str × NameKind} (hx : x ∈ scope.names) (hl : x.2 = .local) : scope.names.lookup x.1 = some .local := by
  obtain ⟨x, k⟩ := x
  have hl' : k = .local := hl
  subst hl'
  exact lookup_of_mem ok.nodup hx
theorem CompOk.closed (ok : CompOk f scope) {h : Heap} (hp : f.H ⟨h, Y⟩) {q : Str × NameKind} (hq : q ∈ scope.names) (hk : q.2 = .free) : (f.env.cells.lookup q.1).isSome = true := by
  have h1 := ok.free' q hq hk
  obtain ⟨⟨R, hR⟩, h2, _⟩ := ok.free _ h1
  obtain ⟨v, hv, _⟩ := hp.vars _ _ hR
  obtain ⟨c, hc, _⟩ := slot_cell hp h2 hv
  rw [hc]; rfl
theorem comp_core {s : Shared} {E : Value → Shared → Prop} {use : Option (Value → Sem Unit)} {Q : Value → Shared → Prop} {elt target iter : Expr} {ifs : List Expr} {pos pos' : Pos} (p : Nat → Bool) (g : Nat → D) (tv : Heap → D → List (Str × VP))
    (hA : Room n A) (hP : Pre C m A s.heap) (hs : St C s) (hY : Ok Y s.heap) (hp : f.H ⟨s.heap, Y⟩) (hkp : m ≠ none → ∀ q ∈ f.ρ, q.2.Kp)
    (hsrc : Src C n f iter ds) (hok : compOk scope f.sc (f.ρ.map (·.1)) = true) (hlen : ds.length ≤ 1000000)
    (htg : ∀ b L d, d ∈ ds → Tgt2 C n b scope (cenvOf f scope L) target d (tv b d))
    (htest : ∀ b L i d, ds[i]? = some d → (ifs = [] ∧ p i = true) ∨ ∃ c, ifs = [c] ∧ Ts C n (cfs b scope (cenvOf f scope L) f (tv b d)) c (p i))
    (helt : ∀ b L i d, Msk m b → ds[i]? = some d → p i = true → EvG C n (cfs b scope (cenvOf f scope L) f (tv b d)) m elt (dat (g i)))
    (hset : ∀ env x, foldedSetIterable iter env x = pure x) (hown : Owned target)
    (fin : ∀ s' Dd L, St C s' → WkO m s.heap s'.heap → (dat (.list (((List.range ds.length).filter p).map g))).p ⟨s'.heap, Y⟩ (.ref Dd) → Dd ≠ L → (∃ g, s'.heap.Ns L g) → s.heap.get? L = none → compPost C.M A E use Q (.ref Dd) L (.ok .next) s') :
    wpAny C.M A (comprehension (.ListComp elt [⟨target, iter, ifs, 0⟩] scope pos) scope f.env pos' (newList []) false (eval iter f.env) use) Q E s := by
  have ok := compOk_of hok
  refine wpAny_comprehension_free (cl := clos f.env scope.names []) rfl (hset f.env) (closureFor_clos fun q hq hk => ok.closed hp hq hk) ok.kind (fun x hx hl => ok.locals hx hl) ?_
  refine hsrc A s _ Y _ hA hs hY hp fun s1 s2 I g1 g2 k1 k2 hI hit hoI => ?_
  refine wpAny_newList ?_ (by decide)
  refine newCompEnv ?_
  have hP1 : Pre C m A s1.heap := (g2.wko (m := m)).pre hP
  have B : LB C f scope Y (maskO m s1.heap) s1.heap _ s2 I _ _ ds := LB.begin k1 ok.nodup k2 (mask_ext hP1) (mask_root hP1 g1.ext) (hit.mask hP1)
  have hDY : Y s2.heap.objs.size := (hY.ext (g2.trans k2)).size
  rw [show relabel scope f.env = relabelS scope f.sc by rw [relabel_eq, hp.sc]]
  show codeAny C.M A (.compStart _ 0 (.ref I) (.ref s2.heap.objs.size) (cenvOf f scope _)) _ { s2 with heap := _ }
  generalize pushCells _ _ = h5 at B ⊢
  generalize (s2.heap.push { cls := .type "list", data := .seq ([] : List Value).toArray }).objs.size = L at B ⊢
  generalize s2.heap.objs.size = Dd at B hDY ⊢
  have c : LC C n f scope m A s1.heap (maskO m s1.heap) Y I Dd := ⟨hA, hP1, mask_msk hP1, rfl, hY.ext g2, hp.up g2, hkp, ok, hI, B.D1, g1.ext⟩
  have loop : codeAny C.M A (.compLoop (.ListComp elt [⟨target, iter, ifs, 0⟩] scope pos) 0 (.ref I) (.ref Dd) (cenvOf f scope L)) (compPost C.M A E use Q (.ref Dd) L) { s2 with heap := h5 } := by
    refine loopT (fun k s' => ∃ i, k = ds.length + 1 - i ∧ i ≤ ds.length ∧ LS C f scope m s1.heap (maskO m s1.heap) Y I Dd L ds (((List.range i).filter p).map g) i s') ?_ (ds.length + 1) ⟨0, rfl, Nat.zero_le _, B.st, B.cf, B.it, B.x.wko, [], B.l, Reps.nil⟩
    intro k s' J N E1 E2 E3 E4 E5 E6 hJ hN ⟨i, hk, hi, S⟩
    by_cases hlt : i < ds.length
    · have hd : ds[i]? = some ds[i] := List.getElem?_eq_getElem hlt
      exact comp_turn c p g S hd hlen (htg _ L _ (List.getElem_mem hlt)) (htest _ L i _ hd) (fun z => helt _ L i _ c.M hd z) hown fun s5 S5 => hJ _ s5 (by rw [hk]; omega) ⟨i + 1, rfl, hlt, S5⟩
    · have hin : i = ds.length := Nat.le_antisymm hi (Nat.not_lt.mp hlt)
      subst hin
      exact S.done c (fun _ h => h) fun s5 q1 q2 ⟨vs, q3, q4⟩ q5 => hN _ (fin s5 Dd L q1 ((g2.wko (m := m)).trans q2) (mk_list (h := ⟨s5.heap, Y⟩) hDY q3 q4) B.ne q5 (g2.none B.L1))
  exact codeAny_compStart_list loop (B.it.again loop)
end
structure Nd (h h' : Heap) : Prop where
  live : ∀ {b o}, h.get? b = some o → ∃ o', h'.get? b = some o'
  keep : ∀ {b o}, h.get? b = some o → tabLike o = false → (∀ es n, o.data ≠ .dict es n) → h'.get? b = some o
theorem Nd.keepers {h h' : Heap} (x : Nd h h') (Y : Al) : Keepers ⟨h, Y⟩ ⟨h', Y⟩ := fun b o e y ⟨its, n, hd⟩ => ⟨x.keep e (tab_data fun vs q => by rw [hd] at q; cases q) (fun es n z => by rw [hd] at z; cases z), y⟩
noncomputable def HP.Kq (F : HP) : Prop := ∀ {h h' : Heap} {Y : Al}, Nd h h' → F.p ⟨h, Y⟩ → F.p ⟨h', Y⟩
theorem top_kq : HP.top.Kq := fun _ _ => trivial
theorem rgF_kq {I : Addr} {m i : Nat} : (rgF I m i).Kq := fun x r => x.keep r rfl nofun
section
variable {C : Cx} {n : Nat} {f : FS} {scope : Scope}
theorem Ev.comp2 {elt target iter : Expr} {ifs : List Expr} {pos : Pos} {ds : List D} (p : Nat → Bool) (g : Nat → D) (tv : Heap → D → List (Str × VP))
    (hsrc : Src C n f iter ds) (hok : compOk scope f.sc (f.ρ.map (·.1)) = true) (hlen : ds.length ≤ 1000000)
    (htg : ∀ b L d, d ∈ ds → Tgt2 C n b scope (cenvOf f scope L) target d (tv b d))
    (htest : ∀ b L i d, ds[i]? = some d → (ifs = [] ∧ p i = true) ∨ ∃ c, ifs = [c] ∧ Ts C n (cfs b scope (cenvOf f scope L) f (tv b d)) c (p i))
    (helt : ∀ b L i d, ds[i]? = some d → p i = true → Ev C n (cfs b scope (cenvOf f scope L) f (tv b d)) elt (dat (g i)))
    (hown : Owned target) (hset : ∀ env x, foldedSetIterable iter env x = pure x := by intro _ _; rfl) :
    Ev C n f (.ListComp elt [⟨target, iter, ifs, 0⟩] scope pos) (dat (.list (((List.range ds.length).filter p).map g))) := fun A s E Y hA hs hY hp => by
  rw [eval_ListComp]
  refine comp_core (m := none) p g tv hA trivial hs hY hp (fun z => absurd rfl z) hsrc hok hlen htg htest (fun b L i d _ h1 h2 => (helt b L i d h1 h2).gen) hset hown fun s' Dd L st wk r hDL ⟨gm, hg⟩ hL => ?_
  refine ⟨gm, hg, fun h' k => ?_⟩
  obtain ⟨o, ho, hso⟩ := soft_ns hg
  have ex : Ext s.heap s'.heap := wk
  refine ⟨st.same ho hso (hs.ext.none hL) k s'.toks, ex.same hL k, ?_⟩
  exact Rep.keepers (soft_keepers ho (fun its n z => by
    obtain ⟨o', es, ep, e, d, _⟩ := hg
    rw [e] at ho; cases ho; rw [d] at z; cases z) k.extBut) r
noncomputable def TrL (C : Cx) (n : Nat) (env : Env) (P : Vw → Prop) (t : Sem Flow) (Q : Flow → Vw → Prop) : Prop := ∀ A s E Y, Room n A → A.frames = some [env] → St C s → Ok Y s.heap → P ⟨s.heap, Y⟩ →
  wpAny C.M A t (fun fl s' => St C s' ∧ Ok Y s'.heap ∧ Q fl ⟨s'.heap, Y⟩) E s
theorem Tr.toL {env : Env} {P : Vw → Prop} {t : Sem Flow} {Q : Flow → Vw → Prop} (h : Tr C n P t Q) : TrL C n env P t Q := fun A s E Y hA _ hs hY p => h A s E Y hA hs hY p
theorem TrL.cons {e : Env} {P P' : Vw → Prop} {env : Env} {st : Stmt} {rest : List Stmt} {Q : Flow → Vw → Prop} (h1 : TrL C n e P (exec st env) (fun fl k => match fl with | .next => P' k | fl => Q fl k)) (h2 : TrL C n e P' (execs rest env) Q) :
    TrL C n e P (execs (st :: rest) env) Q := fun A s E Y hA hf hs hY p =>
  wpAny_execs_cons (wpAny_mono (h1 A s E Y hA hf hs hY p) (fun fl s' ⟨a, b, c⟩ => by
    cases fl with
    | next => exact h2 A s' E Y hA hf a b c
    | brk => exact ⟨a, b, c⟩
    | cont => exact ⟨a, b, c⟩
    | ret v => exact ⟨a, b, c⟩) fun _ _ e => e)
noncomputable def VP.Kn (R : VP) : Prop := ∀ {h h' : Heap} {Y : Al} {v : Value}, Nd h h' → R.p ⟨h, Y⟩ v → R.p ⟨h', Y⟩ v
theorem VP.Kp.kn {R : VP} (x : R.Kp) : R.Kn := fun n r => x (fun e => n.live e) (n.keepers _) r
theorem wp_assignComp {m : Frm} {A : Around} {s : Shared} {E : Value → Shared → Prop} {Y : Al} {Q : Flow → Shared → Prop} {y : Str} {py spos : Pos} {elt target iter : Expr} {ifs : List Expr} {pos : Pos} {ds : List D} (p : Nat → Bool) (g : Nat → D) (tv : Heap → D → List (Str × VP))
    (hA : Room n A) (hP : Pre C m A s.heap) (hs : St C s) (hY : Ok Y s.heap) (w : f.W C ⟨s.heap, Y⟩) (hkp : m ≠ none → ∀ q ∈ f.ρ, q.2.Kp) (hkn : ∀ q ∈ f.ρ, q.2.Kn) (hkq : f.F.Kq) (hM : Msk m f.b)
    (hsw : swapsWith (.ListComp elt [⟨target, iter, ifs, 0⟩] scope pos) (some (.Name y py)) spos.line f.env = pure true) (hy : f.sc.names.lookup y = some .local)
    (hsrc : Src C n f iter ds) (hok : compOk scope f.sc (f.ρ.map (·.1)) = true) (hlen : ds.length ≤ 1000000)
    (htg : ∀ b L d, d ∈ ds → Tgt2 C n b scope (cenvOf f scope L) target d (tv b d))
    (htest : ∀ b L i d, ds[i]? = some d → (ifs = [] ∧ p i = true) ∨ ∃ c, ifs = [c] ∧ Ts C n (cfs b scope (cenvOf f scope L) f (tv b d)) c (p i))
    (helt : ∀ b L i d, Msk m b → ds[i]? = some d → p i = true → EvG C n (cfs b scope (cenvOf f scope L) f (tv b d)) m elt (dat (g i)))
    (hset : ∀ env x, foldedSetIterable iter env x = pure x) (hown : Owned target)
    (hQ : ∀ s', St C s' → Ok Y s'.heap → (f.put y (dat (.list (((List.range ds.length).filter p).map g)))).W C ⟨s'.heap, Y⟩ → Q .next s') :
    wpAny C.M A (exec (.Assign [.Name y py] (.ListComp elt [⟨target, iter, ifs, 0⟩] scope pos) spos) f.env) Q E s := by
  rw [exec_Assign_Name_used _ _ _ _ hsw]
  refine wpAny_bind (wpAny_standAt (wpAny_bind ?_))
  show wpAny _ A (do let _ ← comprehension (.ListComp elt [⟨target, iter, ifs, 0⟩] scope pos) scope f.env _ (newList []) false (eval iter f.env) (some (assign (.Name y py) f.env))) _ _ s
  refine wpAny_bind (wpAny_mono (comp_core (m := m) (Q := fun _ s' => Q .next s') p g tv hA hP hs hY w.toH hkp hsrc hok hlen htg htest helt hset hown fun s' Dd L st wk r hDL ⟨gm, hg⟩ hL => ?_) (fun _ s' hq => wpAny_pure (wpAny_pure hq)) fun _ _ e => e)
  have hk : f.env.scope.kind = .function := by rw [w.toH.sc]; exact w.toH.kind
  have hy' : f.env.kindOf y = some .local := by show f.env.scope.names.lookup y = _; rw [w.toH.sc]; exact hy
  obtain ⟨m0, hm0⟩ := w.ns
  have hm := wk.ns hm0
  have hLl : L ≠ f.env.locals := by
    obtain ⟨o, es, ep, e, _⟩ := hm0
    rintro rfl; rw [hL] at e; cases e
  have fbL : f.b.get? L = none := w.toH.ext.none hL
  show wpAny C.M A (PySem.assign (.Name y py) f.env (.ref Dd)) _ E s'
  refine wpAny_assign_Name (wpAny_storeName_local hy' hm (fun h1 hn1 hs1 => ?_) (by rw [hk]; rfl))
  have hg1 : h1.Ns L gm := hg.sameBut hs1 hLl
  refine ⟨gm, hg1, fun h2 hs2 => ?_⟩
  have hns2 : h2.Ns f.env.locals (fun x => if x = y then some (.ref Dd) else m0 x) := hn1.sameBut hs2 (Ne.symm hLl)
  obtain ⟨o0, ho0, hso0⟩ := soft_ns hm
  obtain ⟨oL, hoL, hsoL⟩ := soft_ns hg1
  obtain ⟨oN, hoN, _⟩ := soft_ns hns2
  have st1 : St C { s' with heap := h1, toks := s'.toks + 1 } := st.same ho0 hso0 (w.root.none w.low) hs1 _
  have st2 : St C { s' with heap := h2, toks := s'.toks + 1 } := st1.same hoL hsoL (hs.ext.none hL) hs2 _
  have lv : ∀ {b o}, s.heap.get? b = some o → ∃ o', h2.get? b = some o' := fun {b o} e => by
    obtain ⟨o', e'⟩ := wk.live e
    have hbL : b ≠ L := by rintro rfl; rw [hL] at e; cases e
    by_cases hb : b = f.env.locals
    · subst hb; exact ⟨_, hoN⟩
    · exact ⟨o', (hs2.2 b hbL).trans ((hs1.2 b hb).trans e')⟩
  have nd : Nd s.heap h2 := ⟨lv, fun {b o} e t hd => by
    have e' := wk.keep hP e t hd
    have hbL : b ≠ L := by rintro rfl; rw [hL] at e; cases e
    have hb : b ≠ f.env.locals := by
      rintro rfl
      obtain ⟨o', es, ep, e2, d, _⟩ := hm0
      rw [e2] at e; cases e; exact hd _ _ d
    exact (hs2.2 b hbL).trans ((hs1.2 b hb).trans e')⟩
  have hcell : ∀ {c v}, s.heap.IsCell c v → h2.IsCell c v := fun {c v} ⟨o, e, d⟩ => ⟨o, nd.keep e (tab_data fun vs z => by rw [d] at z; cases z) (fun es n z => by rw [d] at z; cases z), d⟩
  refine hQ _ st2 (fun a e => ?_) ?_
  · cases q : s.heap.get? a with
    | none => exact hY a q
    | some o => obtain ⟨o', e'⟩ := lv q; rw [e] at e'; cases e'
  · refine ⟨⟨((wk.on w.toH.ext hM).same w.low hs1).same fbL hs2, w.toH.sc, w.toH.kind, w.toH.glob, w.toH.bi, fun z R e => ?_, hkq nd w.toH.more⟩, w.root, ⟨_, hns2⟩, w.low, fun z c e1 e2 => ?_, w.has, w.apart, fun z R e => ?_, w.fstab⟩
    · have e' : ((y, dat (.list (((List.range ds.length).filter p).map g))) :: f.ρ).lookup z = some R := e
      rw [List.lookup_cons] at e'
      cases hz : z == y with
      | true =>
        simp only [hz] at e'
        cases e'
        have : z = y := by simpa using hz
        subst this
        refine ⟨.ref Dd, .inl ⟨hy', _, hns2, by simp⟩, ?_⟩
        refine Rep.keepers (h := ⟨h1, Y⟩) (h' := ⟨h2, Y⟩) (soft_keepers hoL (fun its n z => ?_) hs2.extBut) (Rep.keepers (h := ⟨s'.heap, Y⟩) (h' := ⟨h1, Y⟩) (soft_keepers ho0 (fun its n z => ?_) hs1.extBut) r)
        · obtain ⟨o', es, ep, e, d, _⟩ := hg1
          rw [e] at hoL; cases hoL; rw [d] at z; cases z
        · obtain ⟨o', es, ep, e, d, _⟩ := hm
          rw [e] at ho0; cases ho0; rw [d] at z; cases z
      | false =>
        simp only [hz] at e'
        obtain ⟨v, hv, hr⟩ := w.toH.vars z R e'
        refine ⟨v, ?_, hkn _ (mem_of_lookup e') nd hr⟩
        rcases hv with ⟨a, m1, b, c⟩ | ⟨a, c, d, e2⟩
        · refine .inl ⟨a, _, hns2, ?_⟩
          have : z ≠ y := by simpa using hz
          rw [Ns.uniq b hm0] at c
          simpa [this] using c
        · exact .inr ⟨a, c, d, hcell e2⟩
    · obtain ⟨⟨v, hv⟩, q⟩ := w.cell z c e1 e2
      exact ⟨⟨v, hcell hv⟩, q⟩
    · have e' : ((y, dat (.list (((List.range ds.length).filter p).map g))) :: f.ρ).lookup z = some R := e
      rw [List.lookup_cons] at e'
      cases hz : z == y with
      | true => simp only [hz] at e'; cases e'; exact dat_stab _
      | false => simp only [hz] at e'; exact w.stab z R e'
theorem Tr.assignComp {Q : Flow → Vw → Prop} {y : Str} {py spos : Pos} {elt target iter : Expr} {ifs : List Expr} {pos : Pos} {ds : List D} (p : Nat → Bool) (g : Nat → D) (tv : Heap → D → List (Str × VP))
    (hkn : ∀ q ∈ f.ρ, q.2.Kn) (hkq : f.F.Kq)
    (hsw : swapsWith (.ListComp elt [⟨target, iter, ifs, 0⟩] scope pos) (some (.Name y py)) spos.line f.env = pure true) (hy : f.sc.names.lookup y = some .local)
    (hsrc : Src C n f iter ds) (hok : compOk scope f.sc (f.ρ.map (·.1)) = true) (hlen : ds.length ≤ 1000000)
    (htg : ∀ b L d, d ∈ ds → Tgt2 C n b scope (cenvOf f scope L) target d (tv b d))
    (htest : ∀ b L i d, ds[i]? = some d → (ifs = [] ∧ p i = true) ∨ ∃ c, ifs = [c] ∧ Ts C n (cfs b scope (cenvOf f scope L) f (tv b d)) c (p i))
    (helt : ∀ b L i d, ds[i]? = some d → p i = true → Ev C n (cfs b scope (cenvOf f scope L) f (tv b d)) elt (dat (g i)))
    (hown : Owned target) (hQ : ∀ k, (f.put y (dat (.list (((List.range ds.length).filter p).map g)))).W C k → Q .next k)
    (hset : ∀ env x, foldedSetIterable iter env x = pure x := by intro _ _; rfl) :
    Tr C n (f.W C) (exec (.Assign [.Name y py] (.ListComp elt [⟨target, iter, ifs, 0⟩] scope pos) spos) f.env) Q := fun A s E Y hA hs hY w =>
  wp_assignComp (m := none) p g tv hA trivial hs hY w (fun z => absurd rfl z) hkn hkq trivial hsw hy hsrc hok hlen htg htest (fun b L i d _ h1 h2 => (helt b L i d h1 h2).gen) hset hown fun s' a b c => ⟨a, b, hQ _ c⟩
theorem FS.W.lf {h : Heap} {Y : Al} (w : f.W C ⟨h, Y⟩) (hfr : f.env.frame = some f.env.locals) : LF C f.env f.env.locals h := ⟨hfr, by rw [w.toH.sc, w.toH.kind]; decide, w.root.none w.low, by
  obtain ⟨m, o, es, ep, e, d, _⟩ := w.ns
  exact ⟨o, es, ep, e, d⟩⟩
theorem TrL.assignComp {Q : Flow → Vw → Prop} {y : Str} {py spos : Pos} {elt target iter : Expr} {ifs : List Expr} {pos : Pos} {ds : List D} (p : Nat → Bool) (g : Nat → D) (tv : Heap → D → List (Str × VP))
    (hfr : f.env.frame = some f.env.locals) (hkp : ∀ q ∈ f.ρ, q.2.Kp) (hkq : f.F.Kq)
    (hsw : swapsWith (.ListComp elt [⟨target, iter, ifs, 0⟩] scope pos) (some (.Name y py)) spos.line f.env = pure true) (hy : f.sc.names.lookup y = some .local)
    (hsrc : Src C n f iter ds) (hok : compOk scope f.sc (f.ρ.map (·.1)) = true) (hlen : ds.length ≤ 1000000)
    (htg : ∀ b L d, d ∈ ds → Tgt2 C n b scope (cenvOf f scope L) target d (tv b d))
    (htest : ∀ b L i d, ds[i]? = some d → (ifs = [] ∧ p i = true) ∨ ∃ c, ifs = [c] ∧ Ts C n (cfs b scope (cenvOf f scope L) f (tv b d)) c (p i))
    (helt : ∀ b L i d, Msk (some (f.env, f.env.locals)) b → ds[i]? = some d → p i = true → EvG C n (cfs b scope (cenvOf f scope L) f (tv b d)) (some (f.env, f.env.locals)) elt (dat (g i)))
    (hown : Owned target) (hQ : ∀ k, (f.put y (dat (.list (((List.range ds.length).filter p).map g)))).W C k → Q .next k)
    (hset : ∀ env x, foldedSetIterable iter env x = pure x := by intro _ _; rfl) :
    TrL C n f.env (f.W C) (exec (.Assign [.Name y py] (.ListComp elt [⟨target, iter, ifs, 0⟩] scope pos) spos) f.env) Q := fun A s E Y hA hf hs hY w =>
  wp_assignComp (m := some (f.env, f.env.locals)) p g tv hA ⟨hf, w.lf hfr⟩ hs hY w (fun _ => hkp) (fun q hq => VP.Kp.kn (hkp q hq)) hkq (fun o e => by rw [w.low] at e; cases e) hsw hy hsrc hok hlen htg htest helt hset hown fun s' a b c => ⟨a, b, hQ _ c⟩
theorem EvG.two {m : Frm} {e1 e2 : Expr} {pos : Pos} {d1 d2 : D} (h1 : EvG C n f m e1 (dat d1)) (h2 : EvG C n f m e2 (dat d2)) (hM : Msk m f.b) (hkp : m ≠ none → ∀ q ∈ f.ρ, q.2.Kp) (hF : m ≠ none → f.F = .top)
    (hst1 : ∀ env, starEach [e1, e2] env = (false, eval e1 env) :: starEach [e2] env := by intro _; rfl)
    (hst2 : ∀ env, starEach [e2] env = (false, eval e2 env) :: starEach [] env := by intro _; rfl) : EvG C n f m (.List [e1, e2] pos) (dat (.list [d1, d2])) := fun A s E Y hA hP hs hY hp => by
  refine wpAny_List (wpAny_items_cons (wpAny_mono (h1 A s E Y hA hP hs hY hp) (fun v s1 ⟨a1, a2, a3⟩ => ?_) fun _ _ e => e) (hst1 _))
  have hP1 := a2.pre hP
  refine wpAny_items_cons (wpAny_mono (h2 A s1 E Y hA hP1 a1 (a2.ok hY) (hp.wk hP hM a2 hkp hF)) (fun u s2 ⟨b1, b2, b3⟩ => ?_) fun _ _ e => e) (hst2 _)
  refine wpAny_items_nil ?_
  have a3' : Rep ⟨s2.heap, Y⟩ d1 v := Rep.keepers (b2.keepers hP1 Y) a3
  have hr : Reps ⟨s2.heap, Y⟩ [d1, d2] [v, u] := .cons a3' (.cons b3 .nil)
  refine ⟨by simp [sizeLine], b1.push _, (a2.trans b2).trans (Ext.push _ _).wko, ?_⟩
  exact mk_list (h := ⟨_, Y⟩) ((a2.trans b2).ok hY).size (IsL.new _ _) (hr.keepers ((Ext.push _ _).keepers _))
end
noncomputable abbrev strsD (l : List (List Nat)) : D := .list ((l.map S).map D.str)
noncomputable def fold (N : List Int) : Nat → Nat
  | 0 => 0
  | j + 1 => ((N.getD j 0).fmod ((j + 1 : Nat) : Int)).toNat
noncomputable def slc (N : List Int) (i : Nat) : Nat := (1 + ((N.getD i 0).fdiv ((i + 1 : Nat) : Int)).fmod 2).toNat
noncomputable def lst (i : Nat) : Nat := 97 + 7 * (i + 1) % 26
noncomputable def nmU (N : List Int) : Nat → List (List Nat)
  | 0 => [[47, 97]]
  | i + 1 => nmU N i ++ [(nmU N i).getD (fold N (i + 1)) [] ++ List.replicate (slc N i) 47 ++ [lst i]]
theorem nmU_len (N : List Int) : ∀ i, (nmU N i).length = i + 1
  | 0 => rfl
  | i + 1 => by simp [nmU, nmU_len N i]
theorem fold_lt (N : List Int) (j : Nat) : fold N (j + 1) < j + 1 := by
  show ((N.getD j 0).fmod ((j + 1 : Nat) : Int)).toNat < j + 1
  rw [Int.fmod_eq_emod_of_nonneg _ (by omega)]
  have := Int.emod_lt_of_pos (N.getD j 0) (show (0 : Int) < ((j + 1 : Nat) : Int) by omega)
  have := Int.emod_nonneg (N.getD j 0) (show ((j + 1 : Nat) : Int) ≠ 0 by omega)
  omega
theorem slc_le (N : List Int) (i : Nat) : 1 ≤ slc N i ∧ slc N i ≤ 2 := by
  unfold slc
  rw [Int.fmod_eq_emod_of_nonneg _ (by omega)]
  omega
theorem nmU_short (N : List Int) : ∀ i (l : List Nat), l ∈ nmU N i → l.length ≤ 2 + 3 * i
  | 0, l, h => by simp [nmU] at h; subst h; simp
  | i + 1, l, h => by
    unfold nmU at h
    rw [List.mem_append] at h
    rcases h with h | h
    · have := nmU_short N i l h; omega
    · rw [List.mem_singleton] at h
      subst h
      have hg : ((nmU N i).getD (fold N (i + 1)) []).length ≤ 2 + 3 * i := by
        rw [List.getD_eq_getElem?_getD]
        cases e : (nmU N i)[fold N (i + 1)]? with
        | none => simp
        | some x => exact nmU_short N i x (List.mem_of_getElem? e)
      have := slc_le N i
      simp only [List.length_append, List.length_replicate, List.length_singleton]
      omega
noncomputable def folds (N : List Int) : List Nat := (List.range (N.length + 1)).map (fold N)
section
variable {C : Cx} {n : Nat} {f : FS}
theorem Ev.snd {e : Expr} {R S : VP} (h : Ev C n f e (R.and S)) : Ev C n f e S := fun A s E Y hA hs hY hp => wpAny_mono (h A s E Y hA hs hY hp) (fun _ _ ⟨a, b, c⟩ => ⟨a, b, c.2⟩) fun _ _ e => e
theorem and_ofType {T : String} {R S : VP} (h : OfType T S) : OfType T (R.and S) := fun s Y v r => h s Y v r.2
theorem names_step (k : Kx C) {s : Shared} {Y : Al} {b : Heap} {L : Nat} {N : List Int} {ad : Addr} {I : Addr} {i m : Nat} {sl : D} {ls ls' : List (List Nat)}
    {h' : Heap} (w : (ff C 136 b L [(Str.ofString "slashes", dat sl), (Str.ofString "k", dat (.int i)), (Str.ofString "numbers", VP.at b (dat (.list (N.map .int)))), (Str.ofString "folders", VP.at b (dat (nats (folds N)))), (Str.ofString "names", (isV (.ref ad)).and (dat (strsD ls)))] (rgF I m (i + 1))).W C ⟨s.heap, Y⟩)
    (hb : b.get? ad = none) (hx : ExtX ad s.heap h') (hr : (dat (strsD ls')).p ⟨h', Y⟩ (.ref ad)) :
    (ff C 136 b L [(Str.ofString "numbers", VP.at b (dat (.list (N.map .int)))), (Str.ofString "folders", VP.at b (dat (nats (folds N)))), (Str.ofString "names", (isV (.ref ad)).and (dat (strsD ls')))] (rgF I m (i + 1))).W C ⟨h', Y⟩ := by
  obtain ⟨v, hv, hv2⟩ := w.toH.vars (Str.ofString "names") ((isV (.ref ad)).and (dat (strsD ls))) rfl
  have e : v = .ref ad := hv2.1
  subst e
  obtain ⟨a, vs, e, ya, l, r⟩ := rep_list hv2.2
  cases e
  refine FS.W.turn (f := ff C 136 b L _ _) w hx l hb ?_ (rgF_turn hx l w.toH.more)
  refine List.forall_mem_cons.mpr ⟨⟨_, rfl, at_stab _ _, fun v r => at_turn hx r⟩, List.forall_mem_cons.mpr ⟨⟨_, rfl, at_stab _ _, fun v r => at_turn hx r⟩, List.forall_mem_cons.mpr ⟨⟨_, rfl, and_stab (isV_stab _) (dat_stab _), fun v r => ?_⟩, List.forall_mem_nil _⟩⟩⟩
  have e : v = .ref ad := r.1
  subst e
  exact ⟨rfl, hr⟩
theorem body_names (k : Kx C) {b : Heap} {L : Nat} {N : List Int} (hz : N.length ≤ 100) :
    Tr C (n + 4) ((ff C 136 b L [(Str.ofString "numbers", VP.at b (dat (.list (N.map .int)))), (Str.ofString "folders", VP.at b (dat (nats (folds N))))] .top).W C)
      (execs (bodyOf C.w.params 136) (fenv (fdOf C.w.params 136) 136 L)) (givesQ (dat (strsD (nmU N N.length))) b) := by
  conv in (bodyOf _ _) => whnf
  refine Tr.assignS (f := ff C 136 b L _ .top) (R := newL b [.str (S [47, 97])]) (Ev.listNew (f := ff C 136 b L _ .top) (ds := [.str (S [47, 97])]) (Evl.cons Ev.str .nil)) (.inl rfl) newL_stab rfl ?_
  refine Tr.pre (P := fun k => ∃ ad, b.get? ad = none ∧ (ff C 136 b L [(Str.ofString "numbers", VP.at b (dat (.list (N.map .int)))), (Str.ofString "folders", VP.at b (dat (nats (folds N)))), (Str.ofString "names", (isV (.ref ad)).and (dat (strsD (nmU N 0))))] .top).W C k) ?_ (fun k w => ?_)
  · refine Tr.ex fun ad => Tr.andl fun had => ?_
    refine Tr.forS (f := ff C 136 b L _ .top) (fun k => (ff C 136 b L [(Str.ofString "numbers", VP.at b (dat (.list (N.map .int)))), (Str.ofString "folders", VP.at b (dat (nats (folds N)))), (Str.ofString "names", (isV (.ref ad)).and (dat (strsD (nmU N N.length))))] .top).W C k) ?_ ?_
    · refine Tr.for (f := ff C 136 b L [] .top) (m := N.length) (fun i => [(Str.ofString "numbers", VP.at b (dat (.list (N.map .int)))), (Str.ofString "folders", VP.at b (dat (nats (folds N)))), (Str.ofString "names", (isV (.ref ad)).and (dat (strsD (nmU N i))))])
        (Ev.bi k bn_range rfl rfl (by decide) rfl) ?_ (by omega) rfl (fun i => by walk_at "soft") (fun I i hi => ?_) (fun k w => w)
      · exact (Ev.callB (Ev.bi k bn_len rfl rfl (by decide) rfl) (Evl.cons (R := dat (.list (N.map .int))) (Ev.here (by walk_at "nm")) .nil) (call1 (do_len (by simp; omega)))).eq (by simp)
      · have hi1 : N.getD i 0 = N[i] := by rw [List.getD_eq_getElem?_getD, List.getElem?_eq_getElem hi]; rfl
        have hs12 := slc_le N i
        refine Tr.assignS (f := ff C 136 b L _ (rgF I N.length (i + 1))) (R := dat (.str (S (List.replicate (slc N i) 47)))) ?_ (.inl rfl) (dat_stab _) rfl ?_
        · refine Ev.bin (R1 := dat (.str (S [47]))) (R2 := dat (.int (slc N i))) Ev.str ?_ (op_muls (by omega))
          have e : ((slc N i : Nat) : Int) = 1 + (N[i].fdiv ((i : Int) + 1)).fmod 2 := by
            unfold slc
            rw [hi1]
            simp only [Int.fmod_eq_emod_of_nonneg _ (show (0 : Int) ≤ 2 by omega)]
            have e1 : (((i + 1 : Nat)) : Int) = (i : Int) + 1 := by omega
            rw [e1]; omega
          rw [e]
          refine Ev.bin Ev.int (Ev.bin (Ev.bin (R1 := dat (.int N[i])) (Ev.itemN (ds := N.map .int) (Ev.here (by walk_at "nm")) (by walk_at "nm") (by simp [hi]) (by simp; omega)) (Ev.bin (by walk_at "nm") Ev.int op_add) (op_div (by omega))) Ev.int (op_mod (by decide))) op_add
        refine Tr.exprEnd fun A s E Y hA hs hY w => ?_
        refine wp_turn (f := ff C 136 b L [(Str.ofString "slashes", dat (.str (S (List.replicate (slc N i) 47)))), (Str.ofString "k", dat (.int i)), (Str.ofString "numbers", VP.at b (dat (.list (N.map .int)))), (Str.ofString "folders", VP.at b (dat (nats (folds N)))), (Str.ofString "names", (isV (.ref ad)).and (dat (strsD (nmU N i))))] (rgF I N.length (i + 1)))
          (R1 := (isV (.ref ad)).and (dat (strsD (nmU N i)))) (Rs := [dat (.str (S ((nmU N i).getD (fold N (i + 1)) [] ++ List.replicate (slc N i) 47 ++ [lst i])))]) m_append (and_ofType ofType_list) (by walk_at "nm") (Evl.cons ?_ .nil) hA hs hY w.toH (fun v vs s2 g1 g2 g3 g4 => ?_) (hi := rfl)
        · have hF := fold_lt N i
          have hl := nmU_len N i
          have hge : (nmU N i)[fold N (i + 1)]? = some ((nmU N i).getD (fold N (i + 1)) []) := by
            rw [List.getD_eq_getElem?_getD, List.getElem?_eq_getElem (by omega)]; rfl
          have hsh := nmU_short N i _ (List.mem_of_getElem? hge)
          generalize (nmU N i).getD (fold N (i + 1)) [] = nx at hge hsh
          refine Ev.bin (R1 := dat (.str (S (nx ++ List.replicate (slc N i) 47)))) (R2 := dat (.str (S [lst i]))) (Ev.bin (R1 := dat (.str (S nx))) (R2 := dat (.str (S (List.replicate (slc N i) 47)))) ?_ (by walk_at "nm") (op_adds (by simp; omega))) ?_ (op_adds (by simp; omega))
          · refine Ev.itemN (ds := ((nmU N i).map S).map D.str) (k := fold N (i + 1)) (Ev.snd (R := isV (.ref ad)) (by walk_at "nm")) ?_ (by simp [hge]) (by simp [hl]; omega)
            refine Ev.itemN (ds := (folds N).map fun (i : Nat) => D.int i) (k := i + 1) (Ev.here (by walk_at "nm")) ?_ ?_ (by simp [folds]; omega)
            · exact (Ev.bin (by walk_at "nm") Ev.int op_add).eq (by simp)
            · simp [folds, List.getElem?_range, hi]
          · refine Ev.callB (Rs := [dat (.int (lst i))]) (Ev.bi k bn_chr rfl rfl (by decide) rfl) (Evl.cons ?_ .nil) (call1 (do_chr (by unfold lst; omega)))
            have e : ((lst i : Nat) : Int) = 97 + (7 * ((i : Int) + 1)).fmod 26 := by
              unfold lst
              rw [Int.fmod_eq_emod_of_nonneg _ (by omega)]
              omega
            rw [e]
            exact Ev.bin Ev.int (Ev.bin (Ev.bin Ev.int (Ev.bin (by walk_at "nm") Ev.int op_add) (op_mul (by omega) (by omega))) Ev.int (op_mod (by decide))) op_add
        · obtain ⟨x, rfl, hx⟩ := g4.one
          have e : v = .ref ad := g3.1
          subst e
          obtain ⟨a, vs, e, ya, l, r⟩ := rep_list g3.2
          cases e
          refine do_append l (by rw [r.length]; simp [nmU_len]; omega) fun h6 l6 s6 => ⟨rfl, ?_⟩
          obtain ⟨oD, eD, sD⟩ := soft_list l.isList
          obtain ⟨o6, e6, _⟩ := soft_list l6.isList
          refine ⟨g1.same eD sD (w.root.none had) s6 s2.toks, Ok.same (hY.ext g2) s6 e6, ?_⟩
          refine names_step k w had (g2.extX (.same s6 e6)) ?_
          refine mk_list (h := ⟨h6, Y⟩) ya l6 ?_
          have e : ((nmU N (i + 1)).map S).map D.str = ((nmU N i).map S).map D.str ++ [D.str (S ((nmU N i).getD (fold N (i + 1)) [] ++ List.replicate (slc N i) 47 ++ [lst i]))] := by simp [nmU]
          rw [e]
          exact (strs_reps r).append (strs_reps (k := ⟨s2.heap, Y⟩) (ss := [_]) (.cons hx .nil))
    · exact Tr.retS (f := ff C 136 b L _ .top) (R := (isV (.ref ad)).and (dat (strsD (nmU N N.length)))) (by walk_at "nm") fun k v h1 h2 => ⟨h1.ext, v, rfl, h2.2⟩
  · obtain ⟨a, ha, w'⟩ := FS.W.newL (f := ff C 136 b L [(Str.ofString "numbers", VP.at b (dat (.list (N.map .int)))), (Str.ofString "folders", VP.at b (dat (nats (folds N))))] .top) w
    exact ⟨a, ha, w'.weaken (by
      intro x R e
      have e' := mem_of_lookup e
      simp only [List.mem_cons, List.not_mem_nil, or_false, Prod.mk.injEq] at e'
      rcases e' with ⟨rfl, rfl⟩ | ⟨rfl, rfl⟩ | ⟨rfl, rfl⟩ <;> rfl)⟩
theorem do_names (k : Kx C) {N : List Int} (hz : N.length ≤ 100) (a t : Value) :
    Does C (n + 5) (fun q => (dat (.list (N.map .int))).p q a ∧ (dat (nats (folds N))).p q t) (call (.ref 136) [a, t]) (dat (strsD (nmU N N.length))).p := fun A s E Y hA hs hY ⟨h0, h1⟩ => by
  have hb : Bd s (fdOf C.w.params 136) ⟨[a, t], []⟩ [(Str.ofString "numbers", a), (Str.ofString "folders", t)] := by
    have e : fdOf C.w.params 136 = fdOf C.w.params 136 := rfl
    conv at e => rhs; whnf
    rw [e]
    exact ⟨.of_eq rfl⟩
  refine callFn k (ρ := [(Str.ofString "numbers", dat (.list (N.map .int))), (Str.ofString "folders", dat (nats (folds N)))]) (F := .top) (q := givesQ (dat (strsD (nmU N N.length)))) (fn_names k) hA hs hY rfl hb (by walk_at "kinds") (by walk_at "nd") (List.forall_mem_cons.mpr ⟨⟨_, rfl, h0⟩, List.forall_mem_cons.mpr ⟨⟨_, rfl, h1⟩, List.forall_mem_nil _⟩⟩) (fun _ _ => trivial) top_stab
    (fun L => body_names k hz) fun fl s' q1 q2 ⟨q3, v, e, q4⟩ => ?_
  subst e
  exact ⟨q1, q3, q4⟩
end
noncomputable def Keys1 (lt1 : Nat → Nat → Bool) (ks : List D) : Prop := ∀ a b, a < ks.length → b < ks.length → ∃ x y, ks[a]? = some (.list x) ∧ ks[b]? = some (.list y) ∧ klt (x ++ [.int 1]) y = some (lt1 a b)
theorem bis_ge (p : Nat → Bool) (lo hi : Nat) (h : lo ≤ hi) : lo ≤ bis p lo hi ∧ bis p lo hi ≤ hi := by
  unfold bis
  by_cases hlt : lo < hi
  · rw [dif_pos hlt]
    cases p ((lo + hi) / 2) with
    | true =>
      rw [if_pos rfl]
      have := bis_ge p ((lo + hi) / 2 + 1) hi (by omega)
      omega
    | false =>
      rw [if_neg Bool.false_ne_true]
      have := bis_ge p lo ((lo + hi) / 2) (by omega)
      omega
  · rw [dif_neg hlt]; omega
termination_by hi - lo
noncomputable def belL (lt : Nat → Nat → Bool) (row : List Nat) (a : Nat) : Nat := bis (fun j => lt (row.getD j 0) a) 0 row.length
noncomputable def belR (lt lt1 : Nat → Nat → Bool) (row : List Nat) (a : Nat) : Nat := bis (fun j => !(lt1 a (row.getD j 0))) (belL lt row a) row.length
noncomputable def bel (lt lt1 : Nat → Nat → Bool) (row : List Nat) (a : Nat) : List Nat := (row.drop (belL lt row a)).take (belR lt lt1 row a - belL lt row a)
theorem belL_le (lt : Nat → Nat → Bool) (row : List Nat) (a : Nat) : belL lt row a ≤ row.length := (bis_ge _ 0 row.length (Nat.zero_le _)).2
theorem belR_le (lt lt1 : Nat → Nat → Bool) (row : List Nat) (a : Nat) : belL lt row a ≤ belR lt lt1 row a ∧ belR lt lt1 row a ≤ row.length := bis_ge _ _ _ (belL_le lt row a)
section
variable {C : Cx} {n : Nat} {f : FS}
theorem three3 {k : Vw} {R1 R2 R3 : VP} {vs : List Value} (h : All2 k [R1, R2, R3] vs) : ∃ a b c, vs = [a, b, c] ∧ R1.p k a ∧ R2.p k b ∧ R3.p k c := by
  obtain ⟨a, r, rfl, h1, b, r2, rfl, h2, c, r3, rfl, h3, h4⟩ := h
  exact ⟨a, b, c, by rw [show r3 = [] from h4], h1, h2, h3⟩
theorem body_below (k : Kx C) (hfz : C.fz = false) {b : Heap} {L : Nat} {ks : List D} {row : List Nat} {a : Nat} {lt lt1 : Nat → Nat → Bool} (hks : KeysOk lt ks) (hk1 : Keys1 lt1 ks) (hkl : ∀ (a : Nat) (X : List D), ks[a]? = some (.list X) → X.length ≤ 1000) (hz : ks.length ≤ 1000) (hr : ∀ x ∈ row, x < ks.length) (hl : row.length ≤ 1000) (ha : a < ks.length) :
    Tr C (n + 4) ((ff C 160 b L [(Str.ofString "row", VP.at b (dat (nats row))), (Str.ofString "keys", VP.at b (dat (.list ks))), (Str.ofString "place", VP.at b (dat (.int a)))] .top).W C)
      (execs (bodyOf C.w.params 160) (fenv (fdOf C.w.params 160) 160 L)) (givesQ (dat (nats (bel lt lt1 row a))) b) := by
  conv in (bodyOf _ _) => whnf
  obtain ⟨X, X', hX, _, _⟩ := hks a a ha ha
  obtain ⟨b1, b2⟩ := belR_le lt lt1 row a
  have b3 := belL_le lt row a
  have hg : ∀ (j x : Nat), row[j]? = some x → row.getD j 0 = x := fun j x e => by rw [List.getD_eq_getElem?_getD, e]; rfl
  refine Tr.assignS (f := ff C 160 b L _ .top) (R := dat (.int (belL lt row a))) ?_ (.inl rfl) (dat_stab _) rfl ?_
  · refine Ev.callK (f := ff C 160 b L _ .top) (Rs := [dat (nats row), dat (.list X)]) (RK := keyV C 2 ks) (fn_bisect_left k) (Ev.gl k rfl rfl rfl) (Evl.cons (Ev.here (by walk_at "nm")) (Evl.cons (Ev.itemN (ds := ks) (k := a) (Ev.here (by walk_at "nm")) (Ev.here (by walk_at "nm")) hX (by omega)) .nil))
      (Ev.lam k hfz (c := 159) (P := 155) (q := Str.ofString "_law_below.<locals>.<lambda>") rfl (by decide) (by kernel_rfl) (by unfold tabsOf; exact .head _) rfl rfl hz) fun vs kv A s E Y hA hs hY ⟨z1, z2⟩ => ?_
    obtain ⟨u, x, rfl, z3, z4⟩ := two z1
    exact do_bl2k k (fun j => lt (row.getD j 0) a) (n := n + 3) (m := 2) (by omega) (fun j x e => by
      obtain ⟨p, q, e1, e2, e3⟩ := hks x a (hr x (List.mem_of_getElem? e)) ha
      rw [hX] at e2; cases e2
      exact ⟨p, e1, by rw [e3, hg j x e]⟩) hl u x kv A s E Y hA hs hY ⟨z3, z4, z2⟩
  refine Tr.assignS (f := ff C 160 b L _ .top) (R := dat (.int (belR lt lt1 row a))) ?_ (.inl rfl) (dat_stab _) rfl ?_
  · refine Ev.callK (f := ff C 160 b L _ .top) (Rs := [dat (nats row), dat (.list (X ++ [.int 1])), dat (.int (belL lt row a))]) (RK := keyV C 2 ks) (fn_bisect_right k) (Ev.gl k rfl rfl rfl) (Evl.cons (Ev.here (by walk_at "nm")) (Evl.cons (Ev.bin (R1 := dat (.list X)) (R2 := dat (.list [.int 1])) (Ev.itemN (ds := ks) (k := a) (Ev.here (by walk_at "nm")) (Ev.here (by walk_at "nm")) hX (by omega)) (Ev.list (ds := [.int 1]) (Evl.cons Ev.int .nil)) (op_addl ?_)) (Evl.cons (by walk_at "nm") .nil)))
      (Ev.lam k hfz (c := 159) (P := 155) (q := Str.ofString "_law_below.<locals>.<lambda>") rfl (by decide) (by kernel_rfl) (by unfold tabsOf; exact .head _) rfl rfl hz) fun vs kv A s E Y hA hs hY ⟨z1, z2⟩ => ?_
    · have := hkl a X hX; simp; omega
    obtain ⟨u, x, l, rfl, z3, z4, z5⟩ := three3 z1
    exact do_br3k k (fun j => !(lt1 a (row.getD j 0))) (n := n + 3) (m := 2) (by omega) (fun j x e => by
      obtain ⟨p, q, e1, e2, e3⟩ := hk1 a x ha (hr x (List.mem_of_getElem? e))
      rw [hX] at e1; cases e1
      exact ⟨q, e2, by rw [e3, hg j x e]; simp⟩) hl (belL lt row a) b3 u x l kv A s E Y hA hs hY ⟨z3, z4, z5, z2⟩
  refine (Tr.retS (f := ff C 160 b L _ .top) (R := dat (.list (((row.map fun (i : Nat) => D.int i).drop (belL lt row a)).take (belR lt lt1 row a - belL lt row a)))) (Ev.slice (Ev.here (by walk_at "nm")) (by walk_at "nm") (by walk_at "nm") b1 (by simpa using b2) (by simp; omega)) fun k v h1 h2 => ⟨h1.ext, v, rfl, ?_⟩)
  have e : nats (bel lt lt1 row a) = .list (((row.map fun (i : Nat) => D.int i).drop (belL lt row a)).take (belR lt lt1 row a - belL lt row a)) := by
    unfold bel; show D.list _ = _; rw [List.map_take, List.map_drop]
  rw [e]; exact h2
theorem do_below (k : Kx C) (hfz : C.fz = false) {ks : List D} {row : List Nat} {a : Nat} {lt lt1 : Nat → Nat → Bool} (hks : KeysOk lt ks) (hk1 : Keys1 lt1 ks) (hkl : ∀ (a : Nat) (X : List D), ks[a]? = some (.list X) → X.length ≤ 1000) (hz : ks.length ≤ 1000) (hr : ∀ x ∈ row, x < ks.length) (hl : row.length ≤ 1000) (ha : a < ks.length) (u v t : Value) :
    Does C (n + 5) (fun q => (dat (nats row)).p q u ∧ (dat (.list ks)).p q v ∧ (dat (.int a)).p q t) (call (.ref 160) [u, v, t]) (dat (nats (bel lt lt1 row a))).p := fun A s E Y hA hs hY ⟨h0, h1, h2⟩ => by
  have hb : Bd s (fdOf C.w.params 160) ⟨[u, v, t], []⟩ [(Str.ofString "row", u), (Str.ofString "keys", v), (Str.ofString "place", t)] := by
    have e : fdOf C.w.params 160 = fdOf C.w.params 160 := rfl
    conv at e => rhs; whnf
    rw [e]
    exact ⟨.of_eq rfl⟩
  refine callFn k (ρ := [(Str.ofString "row", dat (nats row)), (Str.ofString "keys", dat (.list ks)), (Str.ofString "place", dat (.int a))]) (F := .top) (q := givesQ (dat (nats (bel lt lt1 row a)))) (fn_below k) hA hs hY rfl hb (by walk_at "kinds") (by walk_at "nd") (List.forall_mem_cons.mpr ⟨⟨_, rfl, h0⟩, List.forall_mem_cons.mpr ⟨⟨_, rfl, h1⟩, List.forall_mem_cons.mpr ⟨⟨_, rfl, h2⟩, List.forall_mem_nil _⟩⟩⟩) (fun _ _ => trivial) top_stab
    (fun L => body_below k hfz hks hk1 hkl hz hr hl ha) fun fl s' q1 q2 ⟨q3, v, e, q4⟩ => ?_
  subst e
  exact ⟨q1, q3, q4⟩
end
theorem valueAt_stored (kvs : List (Str × Value)) (k x : Str) (v : Value) : valueAt (stored kvs k v) x = if x = k then some v else valueAt kvs x := by
  unfold stored
  by_cases hk : (kvs.any fun kv => decide (kv.1 = k)) = true
  · rw [if_pos hk]
    unfold valueAt
    induction kvs with
    | nil => simp at hk
    | cons p r ih =>
      obtain ⟨y, u⟩ := p
      by_cases hy : y = k
      · subst hy
        by_cases hx : x = y
        · subst hx; simp
        · have : ¬ (y = x) := fun h => hx h.symm
          simp only [List.map_cons, if_true, List.find?_cons, this, decide_false]
          rw [if_neg hx]
          by_cases hr : (r.any fun kv => decide (kv.1 = y)) = true
          · have := ih hr
            rw [if_neg hx] at this
            exact this
          · have e : (r.map fun kv => if kv.1 = y then (kv.1, v) else kv) = r := by
              rw [List.map_congr_left (g := id), List.map_id]
              intro q hq
              have : ¬ (q.1 = y) := fun h => hr (List.any_eq_true.mpr ⟨q, hq, by simpa using h⟩)
              rw [if_neg this]; rfl
            rw [e]
      · have hr : (r.any fun kv => decide (kv.1 = k)) = true := by simpa [hy] using hk
        have := ih hr
        by_cases hx : x = k
        · subst hx
          rw [List.map_cons, if_neg hy, List.find?_cons]
          simp only [hy, decide_false]
          rw [this, if_pos rfl, if_pos trivial]
        · by_cases hyx : y = x
          · subst hyx; simp [hy]
          · simp only [List.map_cons, if_neg hy, List.find?_cons, hyx, decide_false]
            exact this
  · rw [if_neg hk]
    unfold valueAt
    have hn : ∀ q ∈ kvs, ¬ (q.1 = k) := fun q hq h => hk (List.any_eq_true.mpr ⟨q, hq, by simpa using h⟩)
    by_cases hx : x = k
    · subst hx
      have : kvs.find? (fun kv => decide (kv.1 = x)) = none := by
        rw [List.find?_eq_none]
        intro q hq; simpa using hn q hq
      rw [List.find?_append, this]; simp
    · rw [List.find?_append]
      have : ¬ (k = x) := fun h => hx h.symm
      simp [this, hx]
noncomputable def mapV (C : Cx) (g : Str → Int) (l : List Str) : VP where
  p := fun k v => ∃ a kvs, v = .ref a ∧ (a == sysModules) = false ∧ k.h.DictOf (strKind C.prog C.w) a kvs ∧ ∀ x ∈ l, ∃ t, valueAt kvs x = some (.int (g x) t)
  ext := fun {h h' Y v} x ⟨a, kvs, e1, e2, hd, hv⟩ => ⟨a, kvs, e1, e2, hd.at fun o e => by
    obtain ⟨o', es, ep, e', _, d, _⟩ := hd
    have e2 : h.get? a = some o := e
    rw [e'] at e2; cases e2
    exact x.keep e' (tab_data fun vs z => by rw [d] at z; cases z), hv⟩
  ref := fun _ r => r
section
variable {C : Cx} {n : Nat} {f : FS}
theorem do_get {g : Str → Int} {l : List Str} {x : Str} (hx : x ∈ l) (v u z : Value) : Does C n (fun k => (mapV C g l).p k v ∧ (dat (.str x)).p k u ∧ (dat (.int 0)).p k z) (call (.builtin "dict.get") [v, u, z]) (dat (.int (g x))).p := fun A s E Y hA hs hY ⟨h1, h2, h3⟩ => by
  obtain ⟨a, kvs, rfl, e2, hd, hv⟩ := h1
  obtain ⟨t, rfl⟩ := rep_str h2
  obtain ⟨t2, hv⟩ := hv x hx
  refine call_meetsIn PySem.F.slot_dict_get hd.typeIs PySem.F.entry_dict_get (PySem.F.args_dict_get_3 _ _ _) (meets_dict_get_default (PySem.strKind C.prog C.w) a (strKind_is _ _ _ _) e2 z) ⟨_, hd.mapOf, ?_⟩
  rw [hv]
  exact ⟨hs.tok _, .refl _, mk_int⟩
theorem m_get : MethOf "dict" (Str.ofString "get") "dict.get" := ⟨PySem.F.slot_dict_get, PySem.F.plainAttrs_dict, PySem.F.type_dict_get⟩
theorem mapV_type {g : Str → Int} {l : List Str} : OfType "dict" (mapV C g l) := fun s Y v h => by
  obtain ⟨a, kvs, rfl, e2, hd, hv⟩ := h
  exact ⟨hd.typeIs, fun b e => by cases e; exact hd.mapOf.noDict _ rfl⟩
theorem FS.W.storeC {A : Around} {s : Shared} {E : Value → Shared → Prop} {Y : Al} {x : Str} {v : Value} {R : VP} {Q : Unit → Shared → Prop} (w : f.W C ⟨s.heap, Y⟩) (hs : St C s) (hY : Ok Y s.heap)
    (hx : f.sc.names.lookup x = some .cell) (hR : R.p ⟨s.heap, Y⟩ v) (hst : ∀ {h' c u}, s.heap.IsCell c u → Heap.SameBut c s.heap h' → R.p ⟨h', Y⟩ v)
    (hQ : ∀ s', St C s' → Ok Y s'.heap → (f.put x R).H ⟨s'.heap, Y⟩ → Q () s') : wpAny C.M A (storeName f.env x v) Q E s := by
  have hk : f.env.scope.kind = .function := by rw [w.toH.sc]; exact w.toH.kind
  have hx' : f.env.kindOf x = some .cell := by show f.env.scope.names.lookup x = _; rw [w.toH.sc]; exact hx
  obtain ⟨c, hc⟩ := w.has x hx
  obtain ⟨⟨v₀, hv₀⟩, hlow⟩ := w.cell x c hx hc
  obtain ⟨o, ho, hso⟩ := soft_cell hv₀
  obtain ⟨o2, ho2, hsc⟩ := cell_scratch hv₀
  refine wpAny_storeName_cell hk hx' hc hv₀ fun h' hn' hs' => ?_
  obtain ⟨o', ho', _⟩ := soft_cell hn'
  refine hQ _ (hs.same ho hso (w.root.none hlow) hs' s.toks) (hY.same hs' ho') ⟨w.toH.ext.same hlow hs', w.toH.sc, w.toH.kind, w.toH.glob, w.toH.bi, fun y R' hy => ?_, w.fstab.st hlow ho2 hsc ho' hs' w.toH.more⟩
  have hy' : ((x, R) :: f.ρ).lookup y = some R' := hy
  rw [List.lookup_cons] at hy'
  cases hyx : y == x with
  | true =>
    simp only [hyx] at hy'
    cases hy'
    have : y = x := by simpa using hyx
    subst this
    exact ⟨v, .inr ⟨.inl hx', c, hc, hn'⟩, hst hv₀ hs'⟩
  | false =>
    simp only [hyx] at hy'
    obtain ⟨u, h1, h2⟩ := w.toH.vars y R' hy'
    refine ⟨u, ?_, (w.stab y R' hy').st ho2 (scratch_noseq hsc) ho' hs' h2⟩
    rcases h1 with ⟨a, m2, b, c2⟩ | ⟨a, c2, d, e⟩
    · exact .inl ⟨a, m2, b.sameBut hs' (ns_ne_cell b hv₀), c2⟩
    · refine .inr ⟨a, c2, d, e.sameBut hs' fun q => (by simpa using hyx : ¬ y = x) ?_⟩
      subst q
      exact w.apart y x _ d hc
end
section
variable {C : Cx} {n : Nat} {f : FS} {scope : Scope}
theorem Ev.dictComp (kk : Kx C) {kx vx iter : Expr} {x : Str} {px pos : Pos} {ks : List Str} (g : Str → Int)
    (hsrc : Src C n f iter (ks.map .str)) (hok : compOk scope f.sc (f.ρ.map (·.1)) = true) (hlen : ks.length ≤ 1000)
    (hx : scope.names.lookup x = some .cell) (hx2 : (relabelS scope f.sc).names.lookup x = some .cell)
    (hkx : ∀ b L y, y ∈ ks → Ev C n (cfs b scope (cenvOf f scope L) f [(x, VP.at b (dat (.str y)))]) kx (dat (.str y)))
    (hvx : ∀ b L y, y ∈ ks → Ev C n (cfs b scope (cenvOf f scope L) f [(x, VP.at b (dat (.str y)))]) vx (dat (.int (g y))))
    (hset : ∀ env x, foldedSetIterable iter env x = pure x := by intro _ _; rfl)
    (hev : ∀ env, eval (.DictComp kx vx [⟨.Name x px, iter, [], 0⟩] scope pos) env = comprehension (.DictComp kx vx [⟨.Name x px, iter, [], 0⟩] scope pos) scope env (firstIterPos [⟨.Name x px, iter, [], 0⟩] pos) newDict false (eval iter env) none := by intro _; rfl) :
    Ev C n f (.DictComp kx vx [⟨.Name x px, iter, [], 0⟩] scope pos) (mapV C g ks) := fun A s E Y hA hs hY hp => by
  have ok := compOk_of hok
  rw [hev]
  refine wpAny_comprehension_free (cl := clos f.env scope.names []) rfl (hset f.env) (closureFor_clos ?cl) ok.kind ?names ?_
  case cl =>
    intro q hq hk
    have h1 := ok.free' q hq hk
    obtain ⟨⟨R, hR⟩, h2, _⟩ := ok.free _ h1
    obtain ⟨v, hv, _⟩ := hp.vars _ _ hR
    obtain ⟨c, hc, _⟩ := slot_cell hp h2 hv
    rw [hc]; rfl
  case names =>
    intro x hx hl
    obtain ⟨x, k⟩ := x
    have hl' : k = .local := hl
    subst hl'
    exact lookup_of_mem ok.nodup hx
  refine hsrc A s _ Y _ hA hs hY hp fun s1 s2 I g1 g2 k1 k2 hI hit hoI => ?_
  refine wpAny_newObj_type (newCompEnv ?_)
  have hp1 : f.H ⟨s1.heap, Y⟩ := hp.up g2
  have hY1 := hY.ext g2
  have hY2 := hY1.ext k2
  have hbig : (s2.heap.objs.size == sysModules) = false := by
    have h1 := kk.K 165 _ rfl
    have h2 := Heap.lt_size (k1.ext.keep h1 rfl)
    have h3 : sysModules = 1 := rfl
    rw [h3]
    simp only [beq_eq_false_iff_ne, ne_eq]
    intro h
    rw [h] at h2
    exact absurd h2 (by decide)
  generalize hD : s2.heap.objs.size = Dd at hbig
  have hDn : s2.heap.get? Dd = none := hD ▸ get?_size _
  have hD1 : s1.heap.get? Dd = none := k2.none hDn
  generalize hh3 : s2.heap.push { cls := .type "dict", dict := none, data := .dict #[] } = h3
  have e23 : Ext s2.heap h3 := hh3 ▸ Ext.push _ _
  have hDl : h3.DictOf (PySem.strKind C.prog C.w) Dd [] := by subst hh3 hD; exact Heap.DictOf.new _
  have st3 : St C { s2 with heap := h3 } := by subst hh3; exact k1.push _
  generalize hL : h3.objs.size = L
  have hLn : h3.get? L = none := hL ▸ get?_size _
  have hDL : Dd ≠ L := by
    obtain ⟨_, _, _, eD, _⟩ := hDl
    rintro rfl; rw [hLn] at eD; cases eD
  have hL1 : s1.heap.get? L = none := (k2.trans e23).none hLn
  generalize hh4 : h3.push { cls := .type "dict", data := .dict #[] } = h4
  have e34 : Ext h3 h4 := hh4 ▸ Ext.push _ _
  have hns4 : h4.Ns L fun _ => none := by subst hh4 hL; exact Heap.Ns.new _ _
  have st4 : St C { s2 with heap := h4 } := by subst hh4; exact st3.push _
  have hL4 : L + 1 = h4.objs.size := by subst hh4 hL; exact (Heap.size_push ..).symm
  have e45 : Ext h4 (pushCells h4 scope.names) := .of (pushCells_keeps _ _)
  have st5 : St C { s2 with heap := pushCells h4 scope.names } := st4.cells
  have dk : ∀ {h h' : Heap} {kvs}, Ext h h' → h.DictOf (PySem.strKind C.prog C.w) Dd kvs → h'.DictOf (PySem.strKind C.prog C.w) Dd kvs := fun {h h' kvs} e hd => hd.at fun o e1 => by
    obtain ⟨o', es, ep, e', _, d, _⟩ := hd
    rw [e'] at e1; cases e1
    exact e.keep e' (tab_data fun vs z => by rw [d] at z; cases z)
  have cf5 : CF C s1.heap scope (cenvOf f scope L) (pushCells h4 scope.names) := by
    refine ⟨g1.ext, ((k2.trans e23).trans e34).trans e45, ⟨_, e45.ns hns4⟩, hL1, fun y c h1 h2 => ?_⟩
    have h2' : (cellsFrom (L + 1) scope.names (clos f.env scope.names [])).lookup y = some c := h2
    rw [hL4] at h2'
    rcases cellsFrom_mem _ _ _ (mem_of_lookup h2') with hm | ⟨_, hm2, hm3⟩
    · rcases clos_mem _ _ hm with hm | hm
      · cases hm
      · rw [lookup_of_mem ok.nodup hm] at h1; cases h1
    · exact ⟨⟨_, hm3⟩, ((k2.trans e23).trans e34).none hm2⟩
  have hD5 := dk e45 (dk e34 hDl)
  have it5 : It Y s1.heap (pushCells h4 scope.names) I (ks.map .str) 0 := ((hit.ext e23).ext e34).ext e45
  obtain ⟨cx, hcx⟩ : ∃ c, (cenvOf f scope L).cells.lookup x = some c := Option.isSome_iff_exists.mp (cellsFrom_own scope.names (L + 1) _ (.inl (mem_of_lookup hx)))
  generalize pushCells h4 scope.names = h5 at st5 cf5 hD5 it5
  clear e45 st4 hns4 e34 st3 hDl e23 hL4 hLn hit hoI
  clear hh4 hh3 hL hD
  have lenD : (ks.map D.str).length = ks.length := List.length_map _
  have fin : ∀ s', St C s' → CF C s1.heap scope (cenvOf f scope L) s'.heap → It Y s1.heap s'.heap I (ks.map .str) ks.length → (∃ kvs, s'.heap.DictOf (PySem.strKind C.prog C.w) Dd kvs ∧ ∀ y ∈ ks, ∃ t, valueAt kvs y = some (.int (g y) t)) →
      ∀ h', Heap.ExtBut I s'.heap h' → compPost C.M A E none (fun v s' => St C s' ∧ Ext s.heap s'.heap ∧ (mapV C g ks).p ⟨s'.heap, Y⟩ v) (.ref Dd) L (.ok .next) { s' with heap := h' } := by
    intro s' q1 q2 q3 ⟨kvs, q4, q5⟩ h' q6
    obtain ⟨oI, e1, e2, e3, e4, e5, e6⟩ := q3.obj
    have cf' := q2.other hI e1 e5 e6 q6
    obtain ⟨m, hm⟩ := cf'.ns
    refine ⟨m, hm, fun h'' q7 => ?_⟩
    have st' : St C { s' with heap := h' } := q1.but e1 e2 (g1.ext.none hI) q6 s'.toks
    obtain ⟨o, ho, hso⟩ := soft_ns hm
    have st'' : St C { s' with heap := h'' } := st'.same ho hso (g1.ext.none cf'.low) q7 s'.toks
    refine ⟨st'', g2.trans (cf'.ext.same cf'.low q7), Dd, kvs, rfl, hbig, ?_, q5⟩
    have hDI : Dd ≠ I := fun z => by
      obtain ⟨o', es, ep, e', _, d, _⟩ := q4
      rw [z, e1] at e'; cases e'
      exact e5 _ _ d
    exact (q4.extBut q6 hDI).sameBut q7 hDL
  have loop : codeAny C.M A (.compLoop (.DictComp kx vx [⟨.Name x px, iter, [], 0⟩] scope pos) 0 (.ref I) (.ref Dd) (cenvOf f scope L)) (compPost C.M A E none (fun v s' => St C s' ∧ Ext s.heap s'.heap ∧ (mapV C g ks).p ⟨s'.heap, Y⟩ v) (.ref Dd) L) { s2 with heap := h5 } := by
    refine codeAny_compLoop_testsD (fun k s' => ∃ i, k = ks.length + 1 - i ∧ i ≤ ks.length ∧ St C s' ∧ CF C s1.heap scope (cenvOf f scope L) s'.heap ∧ It Y s1.heap s'.heap I (ks.map .str) i ∧
      ∃ kvs, s'.heap.DictOf (PySem.strKind C.prog C.w) Dd kvs ∧ kvs.length ≤ i ∧ ∀ y ∈ ks.take i, ∃ t, valueAt kvs y = some (.int (g y) t)) ?_ (ks.length + 1) ⟨0, rfl, Nat.zero_le _, st5, cf5, it5, [], hD5, Nat.le_refl _, by simp⟩
    rintro k s' ⟨i, rfl, hi, q1, q2, q3, kvs, q4, q4', q5⟩
    by_cases hlt : i < ks.length
    · have hd : (ks.map D.str)[i]? = some (.str ks[i]) := by simp [hlt]
      have hmem : ks[i] ∈ ks := List.getElem_mem hlt
      obtain ⟨oI, e1, e2, e3, e4, e5, e6⟩ := q3.obj
      have hDI : Dd ≠ I := fun z => by
        obtain ⟨o', es, ep, e', _, d, _⟩ := q4
        rw [z, e1] at e'; cases e'
        exact e5 _ _ d
      refine q3.next q2.ext hI hd fun v h' tk r1 r2 r3 => ?_
      have st1 : St C { s' with heap := h', toks := tk } := q1.but e1 e2 (g1.ext.none hI) r3.extBut tk
      have cf1 := q2.other hI e1 e5 e6 r3.extBut
      have d1 := q4.extBut r3.extBut hDI
      obtain ⟨⟨v₀, hv₀⟩, hlow⟩ := cf1.cell x cx hx hcx
      obtain ⟨o, ho, hso⟩ := soft_cell hv₀
      have hDc : Dd ≠ cx := fun z => by
        obtain ⟨o', es, ep, e', _, d, _⟩ := d1
        obtain ⟨o2, e2', d2⟩ := hv₀
        rw [z, e2'] at e'; cases e'; rw [d2] at d; cases d
      have hkf : (cenvOf f scope L).scope.kind = .function := ok.kind
      refine wpAny_assign_Name (wpAny_storeName_cell hkf hx2 hcx hv₀ fun h3 hn3 hs3 => ?_)
      have st3 := st1.same ho hso (g1.ext.none hlow) hs3 tk
      have cf3 : CF C s1.heap scope (cenvOf f scope L) h3 := cf1.same hlow hs3 (fun e => absurd e.symm (cf1.cellNe hx hcx)) fun y c' h1 h2 e => by subst e; exact ⟨_, hn3⟩
      have d3 := d1.sameBut hs3 hDc
      have it3 := r2.touch (Touch.sameCell hv₀ hs3)
      obtain ⟨tv, rfl⟩ : ∃ t, v = .str ks[i] t := by simpa [Rep] using r1
      have hY3 : Ok Y h3 := hY1.ext cf3.ext
      have H3 : (cfs s1.heap scope (cenvOf f scope L) f [(x, VP.at s1.heap (dat (.str ks[i])))]).H ⟨h3, Y⟩ := by
        refine cfs_H ok hp1 cf3.ext (fun _ _ _ y => y) fun y R e => ?_
        obtain ⟨rfl, rfl⟩ := lookup_one e
        exact ⟨_, .inr ⟨.inl hx2, cx, hcx, hn3⟩, at_dat cf3.ext r1 fun _ _ _ y => y⟩
      refine wpAny_tests_nil ?_
      rw [if_pos rfl]
      refine wpAny_mono (hkx s1.heap L ks[i] hmem A _ _ Y hA st3 hY3 H3) (fun key s4 ⟨st4, e4', r4⟩ => ?_) fun _ _ e => e
      refine wpAny_mono (hvx s1.heap L ks[i] hmem A s4 _ Y hA st4 (hY3.ext e4') (H3.up e4')) (fun val s5 ⟨st5, e5', r5⟩ => ?_) fun _ _ e => e
      obtain ⟨t4, rfl⟩ := rep_str r4
      obtain ⟨t5, rfl⟩ := rep_int r5
      have d5 := dk e5' (dk e4' d3)
      have cf5 := (cf3.up e4').up e5'
      have it5 := (it3.ext e4').ext e5'
      refine wpAny_dictSet_pairs (hsz := by unfold sizeLine; omega) (strKind_is _ _ _ _) d5 fun h6 d6 s6 => ?_
      obtain ⟨oD, es, ep, eD, _, dD, _⟩ := d5
      have sD : soft oD = true := soft_data fun vs z => by rw [dD] at z; cases z
      have st6 : St C { s5 with heap := h6, toks := s5.toks + 1 } := st5.same eD sD (g1.ext.none hD1) s6 _
      refine ⟨_, ?_, i + 1, rfl, hlt, st6, ?_, ?_, _, d6, ?_, ?_⟩
      · omega
      · refine cf5.same hD1 s6 (fun z => absurd z hDL) fun y c' h1 h2 z => ?_
        obtain ⟨⟨u, o2, e2', d2⟩, _⟩ := cf5.cell y c' h1 h2
        rw [← z, eD] at e2'; cases e2'; rw [dD] at d2; cases d2
      · obtain ⟨oI5, z1, z2, z3, _, z4, _⟩ := it5.obj
        refine it5.at fun o e => s6.extBut _ _ (fun q => ?_) e
        rw [q, eD] at z1; cases z1
        exact z4 _ _ dD
      · have := stored_length_le kvs ks[i] (.int (g ks[i]) t5); omega
      · intro y hy
        rw [valueAt_stored]
        by_cases hyk : y = ks[i]
        · subst hyk; rw [if_pos rfl]; exact ⟨_, rfl⟩
        · rw [if_neg hyk]
          refine q5 y ?_
          rw [List.take_succ_eq_append_getElem hlt, List.mem_append, List.mem_singleton] at hy
          exact hy.resolve_right hyk
    · have hin : i = ks.length := by omega
      subst hin
      refine (lenD ▸ q3 : It Y s1.heap s'.heap I (ks.map .str) (ks.map D.str).length).end hA.hh q2.ext fun h' e => fin s' q1 q2 q3 ⟨kvs, q4, fun y hy => q5 y (by rwa [List.take_length])⟩ h' e
  have hrel : relabel scope f.env = relabelS scope f.sc := by rw [relabel_eq, hp.sc]
  rw [hrel]
  exact codeAny_compStart_dict loop (it5.again loop)
end
section
variable {prog : Program} {w : World} {A : Around} {s : Shared} {R : Result → Shared → Prop} {elt t1 i1 t2 i2 : Expr} {scope : Scope} {pos : Pos} {it acc : Value} {env : Env}
theorem compTurn_two0 : compTurn (.ListComp elt [⟨t1, i1, [], 0⟩, ⟨t2, i2, [], 0⟩] scope pos) 0 it acc env = (standAt i1.pos >>= fun _ => pyNext it >>= fun r => match r with
    | none => pure (.done .next)
    | some v => letOwnedTupleGo t1 it v >>= fun _ => assign t1 env v >>= fun _ =>
      eval i2 env >>= fun x => standAt i2.pos >>= fun _ => foldedSetIterable i2 env x >>= fun x => holding [x] (pyIter x) >>= fun it2 => runOwn (.compStart (.ListComp elt [⟨t1, i1, [], 0⟩, ⟨t2, i2, [], 0⟩] scope pos) 1 it2 acc env) env >>= fun _ =>
        again (.compLoop (.ListComp elt [⟨t1, i1, [], 0⟩, ⟨t2, i2, [], 0⟩] scope pos) 0 it acc env)) := by rfl
theorem compTurn_two1 : compTurn (.ListComp elt [⟨t1, i1, [], 0⟩, ⟨t2, i2, [], 0⟩] scope pos) 1 it acc env = (standAt i2.pos >>= fun _ => pyNext it >>= fun r => match r with
    | none => pure (.done .next)
    | some v => letOwnedTupleGo t2 it v >>= fun _ => assign t2 env v >>= fun _ =>
      (eval elt env >>= fun x => call (.builtin "list.append") [acc, x] >>= fun _ => pure ()) >>= fun _ =>
        again (.compLoop (.ListComp elt [⟨t1, i1, [], 0⟩, ⟨t2, i2, [], 0⟩] scope pos) 1 it acc env)) := by rfl
theorem loop20 (I : Nat → Shared → Prop)
    (turn : ∀ n s, I n s → wpAny (model prog w) A (pyNext it) (fun r s₁ => match r with
      | none => R (.ok .next) s₁
      | some v => wpAny (model prog w) A (letOwnedTupleGo t1 it v) (fun _ s₀ => wpAny (model prog w) A (assign t1 env v) (fun _ s₂ =>
          wpAny (model prog w) A (eval i2 env) (fun x s₃ => wpAny (model prog w) A (pyIter x) (fun it2 s₄ =>
            wpAny (model prog w) A (runOwn (.compStart (.ListComp elt [⟨t1, i1, [], 0⟩, ⟨t2, i2, [], 0⟩] scope pos) 1 it2 acc env) env) (fun _ s₅ => ∃ m, m < n ∧ I m s₅)
              (notedBy (model prog w) A env fun e s' => R (.error e) s') s₄) (notedBy (model prog w) A env fun e s' => R (.error e) s') s₃) (notedBy (model prog w) A env fun e s' => R (.error e) s') s₂) (notedBy (model prog w) A env fun e s' => R (.error e) s') s₀) (notedBy (model prog w) A env fun e s' => R (.error e) s') s₁) (notedBy (model prog w) A env fun e s' => R (.error e) s') s)
    (hs : ∀ x, foldedSetIterable i2 env x = pure x) (n : Nat) (h : I n s) :
    codeAny (model prog w) A (.compLoop (.ListComp elt [⟨t1, i1, [], 0⟩, ⟨t2, i2, [], 0⟩] scope pos) 0 it acc env) R s := by
  refine codeAny_loop rfl I (fun n s hI => ?_) n h
  show wpAny _ A ((compTurn (.ListComp elt [⟨t1, i1, [], 0⟩, ⟨t2, i2, [], 0⟩] scope pos) 0 it acc env).onRaise (fun x => do noteFrame x env; theTreesLotGoes x)) _ _ s
  refine wpAny_noted ?_
  rw [compTurn_two0]
  refine wpAny_bind (wpAny_standAt (wpAny_bind (wpAny_mono (turn n s hI) (fun r s₁ h₁ => ?_) fun _ _ h' => h')))
  cases r with
  | none => exact wpAny_pure h₁
  | some v =>
    refine wpAny_bind (wpAny_mono h₁ (fun _ s₀ h₀ => ?_) fun _ _ h' => h')
    refine wpAny_bind (wpAny_mono h₀ (fun _ s₂ h₂ => ?_) fun _ _ h' => h')
    refine wpAny_bind (wpAny_mono h₂ (fun x s₃ h₃ => ?_) fun _ _ h' => h')
    refine wpAny_bind (wpAny_standAt (wpAny_bind (wpAny_of_eq (hs x) ?_)))
    refine wpAny_bind (wpAny_holding (wpAny_mono h₃ (fun it2 s₄ h₄ => ?_) fun _ _ h' => h'))
    exact wpAny_bind (wpAny_mono h₄ (fun _ s₅ h₅ => wpAny_pure ⟨rfl, h₅⟩) fun _ _ h' => h')
theorem loop21 (I : Nat → Shared → Prop)
    (turn : ∀ n s, I n s → wpAny (model prog w) A (pyNext it) (fun r s₁ => match r with
      | none => R (.ok .next) s₁
      | some v => wpAny (model prog w) A (letOwnedTupleGo t2 it v) (fun _ s₀ => wpAny (model prog w) A (assign t2 env v) (fun _ s₂ =>
          wpAny (model prog w) A (eval elt env) (fun x s₄ =>
              wpAny (model prog w) A (call (.builtin "list.append") [acc, x]) (fun _ s₅ => ∃ m, m < n ∧ I m s₅) (notedBy (model prog w) A env fun e s' => R (.error e) s') s₄) (notedBy (model prog w) A env fun e s' => R (.error e) s') s₂) (notedBy (model prog w) A env fun e s' => R (.error e) s') s₀) (notedBy (model prog w) A env fun e s' => R (.error e) s') s₁) (notedBy (model prog w) A env fun e s' => R (.error e) s') s)
    (n : Nat) (h : I n s) :
    codeAny (model prog w) A (.compLoop (.ListComp elt [⟨t1, i1, [], 0⟩, ⟨t2, i2, [], 0⟩] scope pos) 1 it acc env) R s := by
  refine codeAny_loop rfl I (fun n s hI => ?_) n h
  show wpAny _ A ((compTurn (.ListComp elt [⟨t1, i1, [], 0⟩, ⟨t2, i2, [], 0⟩] scope pos) 1 it acc env).onRaise (fun x => do noteFrame x env; theTreesLotGoes x)) _ _ s
  refine wpAny_noted ?_
  rw [compTurn_two1]
  refine wpAny_bind (wpAny_standAt (wpAny_bind (wpAny_mono (turn n s hI) (fun r s₁ h₁ => ?_) fun _ _ h' => h')))
  cases r with
  | none => exact wpAny_pure h₁
  | some v =>
    refine wpAny_bind (wpAny_mono h₁ (fun _ s₀ h₀ => ?_) fun _ _ h' => h')
    refine wpAny_bind (wpAny_mono h₀ (fun _ s₂ h₂ => ?_) fun _ _ h' => h')
    exact wpAny_bind (wpAny_bind (wpAny_mono h₂ (fun x s₄ h₄ => wpAny_bind (wpAny_mono h₄ (fun _ s₅ h₅ => wpAny_pure (wpAny_pure ⟨rfl, h₅⟩)) fun _ _ h' => h')) fun _ _ h' => h'))
theorem start21
    (h0 : codeAny (model prog w) A (.compLoop (.ListComp elt [⟨t1, i1, [], 0⟩, ⟨t2, i2, [], 0⟩] scope pos) 1 it acc env) R s)
    (h : wpAny (model prog w) A (pyIter it) (fun it' s' => codeAny (model prog w) A (.compLoop (.ListComp elt [⟨t1, i1, [], 0⟩, ⟨t2, i2, [], 0⟩] scope pos) 1 it' acc env) R s')
      (notedBy (model prog w) A env fun x s' => R (.error x) s') s) :
    codeAny (model prog w) A (.compStart (.ListComp elt [⟨t1, i1, [], 0⟩, ⟨t2, i2, [], 0⟩] scope pos) 1 it acc env) R s := by
  refine codeAny_of_tree ?_
  show wpAny _ _ ((compStart (.ListComp elt [⟨t1, i1, [], 0⟩, ⟨t2, i2, [], 0⟩] scope pos) 1 it acc env).onRaise (fun x => do noteFrame x env; standAt theWindowsPlace)) _ _ s
  refine wpAny_notedAt ?_
  unfold compStart
  show wpAny _ _ (ask >>= _) _ _ s
  refine wpAny_bind (wpAny_askSetting (wpAny_ite ?_))
  split
  · first
      | exact wpAny_bind (wpAny_pure (wpAny_pure (And.intro rfl h0)))
      | exact wpAny_pure (And.intro rfl h0)
  · first
      | exact wpAny_bind (wpAny_rule (wpAny_bind (wpAny_standAt (wpAny_bind (wpAny_mono h (fun it' s' h' => wpAny_pure (And.intro rfl h')) fun _ _ x => x)))))
      | (refine wpAny_bind (wpAny_rule ?_); show wpAny _ _ (standAt i2.pos >>= _) _ _ s; exact wpAny_bind (wpAny_standAt (wpAny_bind (wpAny_mono h (fun it' s' h' => wpAny_pure (And.intro rfl h')) fun _ _ x => x))))
end
noncomputable def Flat (d : D) : Prop := ∀ k k' v, Rep k d v → Rep k' d v
theorem flat_int {i : Int} : Flat (.int i) := fun k k' v r => by simpa only [Rep] using r
theorem flat_str {i : Str} : Flat (.str i) := fun k k' v r => by simpa only [Rep] using r
theorem flats {k k' : Vw} : ∀ {ds : List D} {vs : List Value}, (∀ d ∈ ds, Flat d) → Reps k ds vs → Reps k' ds vs
  | [], vs, _, r => by rw [Reps] at r ⊢; exact r
  | d :: ds, vs, h, r => by
    rw [Reps] at r ⊢
    obtain ⟨v, r', e, a, b⟩ := r
    exact ⟨v, r', e, h d List.mem_cons_self k k' v a, flats (fun q hq => h q (List.mem_cons_of_mem _ hq)) b⟩
section
variable {C : Cx} {n : Nat} {f : FS} {scope : Scope}
theorem Ev.comp22 {elt t1 i1 t2 i2 : Expr} {pos : Pos} {ds : List D} (g : Nat → List D) (tv tv2 : Heap → D → List (Str × VP))
    (hsrc : Src C n f i1 ds) (hok : compOk scope f.sc (f.ρ.map (·.1)) = true) (hlen : ds.length ≤ 1000) (hg : ∀ i, (g i).length ≤ 100)
    (htg : ∀ b L d, d ∈ ds → Tgt2 C n b scope (cenvOf f scope L) t1 d (tv b d))
    (htg2 : ∀ b L d, Tgt2 C n b scope (cenvOf f scope L) t2 d (tv2 b d))
    (hi2 : ∀ b L i d, ds[i]? = some d → Ev C n (cfs b scope (cenvOf f scope L) f (tv b d)) i2 (dat (.list (g i))))
    (helt : ∀ b L d, Ev C n (cfs b scope (cenvOf f scope L) f (tv2 b d)) elt (dat d)) (hflat : ∀ i, ∀ d ∈ g i, Flat d)
    (hown : Owned t1) (hown2 : Owned t2) (hset : ∀ env x, foldedSetIterable i1 env x = pure x := by intro _ _; rfl) (hset2 : ∀ env x, foldedSetIterable i2 env x = pure x := by intro _ _; rfl) :
    Ev C n f (.ListComp elt [⟨t1, i1, [], 0⟩, ⟨t2, i2, [], 0⟩] scope pos) (dat (.list ((List.range ds.length).flatMap g))) := fun A s E Y hA hs hY hp => by
  have ok := compOk_of hok
  rw [eval_ListComp]
  refine wpAny_comprehension_free (cl := clos f.env scope.names []) rfl (hset f.env) (closureFor_clos ?cl) ok.kind ?names ?_
  case cl =>
    intro q hq hk
    have h1 := ok.free' q hq hk
    obtain ⟨⟨R, hR⟩, h2, _⟩ := ok.free _ h1
    obtain ⟨v, hv, _⟩ := hp.vars _ _ hR
    obtain ⟨c, hc, _⟩ := slot_cell hp h2 hv
    rw [hc]; rfl
  case names =>
    intro x hx hl
    obtain ⟨x, k⟩ := x
    have hl' : k = .local := hl
    subst hl'
    exact lookup_of_mem ok.nodup hx
  refine hsrc A s _ Y _ hA hs hY hp fun s1 s2 I g1 g2 k1 k2 hI hit hoI => ?_
  refine wpAny_newList ?_ (by decide)
  refine newCompEnv ?_
  have hp1 : f.H ⟨s1.heap, Y⟩ := hp.up g2
  have hY1 := hY.ext g2
  have hY2 := hY1.ext k2
  generalize hD : s2.heap.objs.size = Dd
  have hDn : s2.heap.get? Dd = none := hD ▸ get?_size _
  have hD1 : s1.heap.get? Dd = none := k2.none hDn
  generalize hh3 : s2.heap.push { cls := .type "list", data := .seq ([] : List Value).toArray } = h3
  have e23 : Ext s2.heap h3 := hh3 ▸ Ext.push _ _
  have hDl : IsL h3 Dd [] := by subst hh3 hD; exact IsL.new _ _
  have st3 : St C { s2 with heap := h3 } := by subst hh3; exact k1.push _
  generalize hL : h3.objs.size = L
  have hLn : h3.get? L = none := hL ▸ get?_size _
  generalize hh4 : h3.push { cls := .type "dict", data := .dict #[] } = h4
  have e34 : Ext h3 h4 := hh4 ▸ Ext.push _ _
  have hns4 : h4.Ns L fun _ => none := by subst hh4 hL; exact Heap.Ns.new _ _
  have st4 : St C { s2 with heap := h4 } := by subst hh4; exact st3.push _
  have hL4 : L + 1 = h4.objs.size := by subst hh4 hL; exact (Heap.size_push ..).symm
  have e45 : Ext h4 (pushCells h4 scope.names) := .of (pushCells_keeps _ _)
  have st5 : St C { s2 with heap := pushCells h4 scope.names } := st4.cells
  have cf5 : CF C s1.heap scope (cenvOf f scope L) (pushCells h4 scope.names) := by
    refine ⟨g1.ext, ((k2.trans e23).trans e34).trans e45, ⟨_, e45.ns hns4⟩, (k2.trans e23).none hLn, fun y c h1 h2 => ?_⟩
    have h2' : (cellsFrom (L + 1) scope.names (clos f.env scope.names [])).lookup y = some c := h2
    rw [hL4] at h2'
    rcases cellsFrom_mem _ _ _ (mem_of_lookup h2') with hm | ⟨_, hm2, hm3⟩
    · rcases clos_mem _ _ hm with hm | hm
      · cases hm
      · rw [lookup_of_mem ok.nodup hm] at h1; cases h1
    · exact ⟨⟨_, hm3⟩, ((k2.trans e23).trans e34).none hm2⟩
  have hD5 : IsL (pushCells h4 scope.names) Dd [] := e45.isL (e34.isL hDl)
  have it5 : It Y s1.heap (pushCells h4 scope.names) I ds 0 := ((hit.ext e23).ext e34).ext e45
  have hDY : Y Dd := hY2 _ hDn
  generalize pushCells h4 scope.names = h5 at st5 cf5 hD5 it5
  clear e45 st4 hns4 e34 st3 hDl e23 hL4 hLn hit hoI
  clear hh4 hh3 hL hD
  have hYD : ∀ a o, s1.heap.get? a = some o → Y a → (Y a ∧ a ≠ Dd) := fun a o e y => ⟨y, fun q => by rw [q, hD1] at e; cases e⟩
  have glen : ∀ i, ((List.range i).flatMap g).length ≤ 100 * i := fun i => by
    induction i with
    | zero => simp
    | succ i ih =>
      rw [List.range_succ, List.flatMap_append, List.length_append]
      have : ([i].flatMap g).length = (g i).length := by simp
      rw [this]
      have := hg i
      omega
  have gsucc : ∀ i, (List.range (i + 1)).flatMap g = (List.range i).flatMap g ++ g i := fun i => by rw [List.range_succ, List.flatMap_append]; simp
  have gflat : ∀ i, ∀ d ∈ (List.range i).flatMap g, Flat d := fun i d hd => by
    obtain ⟨j, _, hj⟩ := List.mem_flatMap.mp hd
    exact hflat j d hj
  have fin : ∀ s', St C s' → CF C s1.heap scope (cenvOf f scope L) s'.heap → It Y s1.heap s'.heap I ds ds.length → (∃ vs, IsL s'.heap Dd vs ∧ Reps ⟨s'.heap, Y⟩ ((List.range ds.length).flatMap g) vs) →
      ∀ h', Heap.ExtBut I s'.heap h' → compPost C.M A E none (fun v s' => St C s' ∧ Ext s.heap s'.heap ∧ (dat (.list ((List.range ds.length).flatMap g))).p ⟨s'.heap, Y⟩ v) (.ref Dd) L (.ok .next) { s' with heap := h' } := by
    intro s' q1 q2 q3 ⟨vs, q4, q5⟩ h' q6
    obtain ⟨oI, e1, e2, e3, e4, e5, e6⟩ := q3.obj
    have cf' := q2.other hI e1 e5 e6 q6
    obtain ⟨m, hm⟩ := cf'.ns
    refine ⟨m, hm, fun h'' q7 => ?_⟩
    have st' : St C { s' with heap := h' } := q1.but e1 e2 (g1.ext.none hI) q6 s'.toks
    obtain ⟨o, ho, hso⟩ := soft_ns hm
    have st'' : St C { s' with heap := h'' } := st'.same ho hso (g1.ext.none cf'.low) q7 s'.toks
    refine ⟨st'', g2.trans (cf'.ext.same cf'.low q7), ?_⟩
    obtain ⟨nD, eD⟩ := q4
    have eD' : h'.get? Dd = some (LObj vs nD) := q6 _ _ (fun q => by rw [q, e1] at eD; cases eD; exact e3 _ _ rfl) eD
    have ne2 : Dd ≠ L := fun q => by
      obtain ⟨o', es, ep, e', d, _⟩ := hm
      have e'' : h'.get? L = some o' := e'
      rw [← q, eD'] at e''; cases e''; cases d
    have eD'' : h''.get? Dd = some (LObj vs nD) := (q7.2 _ ne2).trans eD'
    exact mk_list (h := ⟨h'', Y⟩) hDY ⟨nD, eD''⟩ (flats (gflat _) q5)
  have loop : codeAny C.M A (.compLoop (.ListComp elt [⟨t1, i1, [], 0⟩, ⟨t2, i2, [], 0⟩] scope pos) 0 (.ref I) (.ref Dd) (cenvOf f scope L)) (compPost C.M A E none (fun v s' => St C s' ∧ Ext s.heap s'.heap ∧ (dat (.list ((List.range ds.length).flatMap g))).p ⟨s'.heap, Y⟩ v) (.ref Dd) L) { s2 with heap := h5 } := by
    refine loop20 (fun k s' => ∃ i, k = ds.length + 1 - i ∧ i ≤ ds.length ∧ St C s' ∧ CF C s1.heap scope (cenvOf f scope L) s'.heap ∧ It Y s1.heap s'.heap I ds i ∧
      ∃ vs, IsL s'.heap Dd vs ∧ Reps ⟨s'.heap, Y⟩ ((List.range i).flatMap g) vs) ?_ (hset2 _) (ds.length + 1) ⟨0, rfl, Nat.zero_le _, st5, cf5, it5, [], hD5, by simpa using Reps.nil⟩
    rintro k s' ⟨i, rfl, hi, q1, q2, q3, vs, q4, q5⟩
    by_cases hlt : i < ds.length
    · have hd : ds[i]? = some ds[i] := List.getElem?_eq_getElem hlt
      obtain ⟨oI, e1, e2, e3, e4, e5, e6⟩ := q3.obj
      refine q3.next q2.ext hI hd fun v h' tk r1 r2 r3 => ?_
      have st1 : St C { s' with heap := h', toks := tk } := q1.but e1 e2 (g1.ext.none hI) r3.extBut tk
      have cf1 := q2.other hI e1 e5 e6 r3.extBut
      have l1 : IsL h' Dd vs := by
        obtain ⟨nD, eD⟩ := q4
        exact ⟨nD, r3.extBut _ _ (fun q => by rw [q, e1] at eD; cases eD; exact e3 _ _ rfl) eD⟩
      refine hown (show ∃ o t, h'.get? I = some o ∧ _ from r2.own) ?_
      refine htg s1.heap L ds[i] (List.getElem_mem hlt) A _ _ Y v _ hA st1 cf1 r1 fun s3 st3 cf3 t3 _ hv3 => ?_
      have l3 := t3.isL l1
      have it3 := r2.touch t3
      have hY3 : Ok (fun a => Y a ∧ a ≠ Dd) s3.heap := fun a e => ⟨(hY1.ext cf3.ext) a e, fun q => by
        obtain ⟨nD, eD⟩ := l3
        rw [q, eD] at e; cases e⟩
      have H3 : (cfs s1.heap scope (cenvOf f scope L) f (tv s1.heap ds[i])).H ⟨s3.heap, fun a => Y a ∧ a ≠ Dd⟩ :=
        cfs_H ok hp1 cf3.ext hYD fun x R e => let ⟨u, a, c⟩ := hv3 x R e; ⟨u, a, c _ hYD⟩
      refine wpAny_mono (hi2 s1.heap L i ds[i] hd A s3 _ _ hA st3 hY3 H3) (fun x s4 ⟨st4, e4', r4⟩ => ?_) fun _ _ e => e
      obtain ⟨a2, vs2, rfl, ⟨ya, hne⟩, l2, rp2⟩ := rep_list r4
      have lD4 := e4'.isL l3
      have cf4 := cf3.up e4'
      have it4 := it3.ext e4'
      refine wpAny_pyIter_list l2.isList ?_
      -- the inner walk's own iterator
      generalize hI2 : s4.heap.objs.size = I2
      have hI2n : s4.heap.get? I2 = none := hI2 ▸ get?_size _
      have bI2 : s1.heap.get? I2 = none := cf4.ext.none hI2n
      generalize hh6 : s4.heap.push { cls := .type "list_iterator", data := .fields #[.ref a2, .int 0 0] } = h6
      have e46 : Ext s4.heap h6 := hh6 ▸ Ext.push _ _
      have li6 : h6.IsListIter I2 a2 0 := by subst hh6 hI2; exact ⟨_, Heap.get?_push_size _ rfl, rfl, rfl⟩
      have st6 : St C { s4 with heap := h6 } := by subst hh6; exact st4.push _
      have hneI : I ≠ I2 := fun z => by
        obtain ⟨o, e, _⟩ := it4.obj
        rw [z, hI2n] at e; cases e
      have hneD : Dd ≠ I2 := fun z => by
        obtain ⟨m, e⟩ := lD4
        rw [z, hI2n] at e; cases e
      have hneA : a2 ≠ I2 := fun z => by
        obtain ⟨m, e⟩ := l2
        rw [z, hI2n] at e; cases e
      have rlen : vs2.length = (g i).length := rp2.length
      refine wpAny_runOwn ?_
      have inner : ∀ (RR : Result → Shared → Prop), (∀ s5, (∃ m, m < ds.length + 1 - i ∧ ∃ j, m = ds.length + 1 - j ∧ j ≤ ds.length ∧ St C s5 ∧ CF C s1.heap scope (cenvOf f scope L) s5.heap ∧ It Y s1.heap s5.heap I ds j ∧
          ∃ vs, IsL s5.heap Dd vs ∧ Reps ⟨s5.heap, Y⟩ ((List.range j).flatMap g) vs) → RR (.ok .next) s5) →
          codeAny C.M (A.mark none) (.compLoop (.ListComp elt [⟨t1, i1, [], 0⟩, ⟨t2, i2, [], 0⟩] scope pos) 1 (.ref I2) (.ref Dd) (cenvOf f scope L)) RR { s4 with heap := h6 } := by
        intro RR hRR
        refine loop21 (fun k s' => ∃ j, k = (g i).length + 1 - j ∧ j ≤ (g i).length ∧ St C s' ∧ CF C s1.heap scope (cenvOf f scope L) s'.heap ∧ It Y s1.heap s'.heap I ds (i + 1) ∧ s'.heap.IsListIter I2 a2 j ∧ IsL s'.heap a2 vs2 ∧
          ∃ vs, IsL s'.heap Dd vs ∧ Reps ⟨s'.heap, Y⟩ ((List.range i).flatMap g ++ (g i).take j) vs) ?_ ((g i).length + 1) ⟨0, rfl, Nat.zero_le _, st6, cf4.up e46, it4.ext e46, li6, e46.isL l2, vs, e46.isL lD4, by simpa using flats (gflat _) q5⟩
        rintro k s5 ⟨j, rfl, hj, p1, p2, p3, p4, p5, vs5, p6, p7⟩
        obtain ⟨oI5, z1, z2, z3, z4, z5, z6⟩ := p3.obj
        obtain ⟨oJ, y1, y2, y3⟩ := p4
        have p4' : s5.heap.IsListIter I2 a2 j := ⟨oJ, y1, y2, y3⟩
        have sJ : soft oJ = true := by
          unfold soft; rw [tab_type y2, y3]; rfl
        by_cases hjl : j < (g i).length
        · have hgd : (g i)[j]? = some (g i)[j] := List.getElem?_eq_getElem hjl
          obtain ⟨v2, hv2, hr2⟩ := rp2.get hgd
          have fl := hflat i (g i)[j] (List.getElem_mem hjl)
          refine wpAny_pyNext_list_item p4' p5.isList (by simpa using hv2) fun h7 li7 s7 => ?_
          have st7 : St C { s5 with heap := h7 } := p1.but y1 sJ (g1.ext.none bI2) s7.extBut s5.toks
          have cf7 := p2.other bI2 y1 (by rw [y3]; exact nofun) (by rw [y3]; exact nofun) s7.extBut
          have it7 : It Y s1.heap h7 I ds (i + 1) := p3.at fun o e => s7.extBut _ _ hneI e
          have lD7 : IsL h7 Dd vs5 := let ⟨m, e⟩ := p6; ⟨m, s7.extBut _ _ hneD e⟩
          have l27 : IsL h7 a2 vs2 := let ⟨m, e⟩ := p5; ⟨m, s7.extBut _ _ hneA e⟩
          refine hown2 (show ∃ o t, h7.get? I2 = some o ∧ _ from let ⟨o, w1, w2, _⟩ := li7; ⟨o, _, w1, w2, .inl rfl⟩) ?_
          refine htg2 s1.heap L (g i)[j] (A.mark none) _ _ (fun a => Y a ∧ a ≠ Dd) v2 _ hA.mark st7 cf7 (fl _ _ _ hr2) fun s8 st8 cf8 t8 _ hv8 => ?_
          have it8 := it7.touch t8
          have lD8 := t8.isL lD7
          have l28 := t8.isL l27
          have li8 : s8.heap.IsListIter I2 a2 (j + 1) := let ⟨o, w1, w2, w3⟩ := li7; ⟨o, t8 _ _ w1 (by rw [w3]; exact nofun) (by rw [w3]; exact nofun), w2, w3⟩
          have hY8 : Ok (fun a => Y a ∧ a ≠ Dd) s8.heap := fun a e => ⟨(hY1.ext cf8.ext) a e, fun q => by
            obtain ⟨nD, eD⟩ := lD8
            rw [q, eD] at e; cases e⟩
          have H8 : (cfs s1.heap scope (cenvOf f scope L) f (tv2 s1.heap (g i)[j])).H ⟨s8.heap, fun a => Y a ∧ a ≠ Dd⟩ :=
            cfs_H ok hp1 cf8.ext hYD fun x R e => let ⟨u, a, c⟩ := hv8 x R e; ⟨u, a, c _ fun _ _ _ y => y⟩
          refine wpAny_mono (helt s1.heap L (g i)[j] (A.mark none) s8 _ _ hA.mark st8 hY8 H8) (fun x s9 ⟨st9, e9', r9⟩ => ?_) fun _ _ e => e
          have lD9 := e9'.isL lD8
          have cf9 := cf8.up e9'
          have it9 := it8.ext e9'
          obtain ⟨oD, eD, sD⟩ := soft_list lD9.isList
          have hsz : vs5.length ≤ 1000000 := by
            have w1 := p7.length
            rw [List.length_append, List.length_take] at w1
            have w2 := glen i
            have w3 := hg i
            omega
          refine do_append lD9 hsz fun hA6 lA6 sA6 => ?_
          have stA : St C { s9 with heap := hA6 } := st9.same eD sD (g1.ext.none hD1) sA6 s9.toks
          obtain ⟨nD, eD'⟩ := lD9
          refine ⟨_, ?_, j + 1, rfl, hjl, stA, ?_, ?_, ?_, ?_, vs5 ++ [x], lA6, ?_⟩
          · omega
          · exact cf9.other hD1 eD' nofun nofun sA6.extBut
          · obtain ⟨oI9, d1, d2, d3, _⟩ := it9.obj
            refine it9.at fun o e => sA6.extBut _ _ (fun q => ?_) e
            rw [q, eD'] at d1; cases d1
            exact d3 _ _ rfl
          · obtain ⟨o, w1, w2, w3⟩ := li8
            exact ⟨o, sA6.extBut _ _ (Ne.symm hneD) (e9'.keep w1 (tab_type w2)), w2, w3⟩
          · obtain ⟨m, e⟩ := l28
            exact ⟨m, sA6.extBut _ _ hne (e9'.keep e rfl)⟩
          · rw [List.take_succ_eq_append_getElem hjl, ← List.append_assoc]
            exact Reps.append (flats (fun d hd => (List.mem_append.mp hd).elim (gflat i d) fun h => hflat i d (List.mem_of_mem_take h)) p7) (.cons (fl _ _ _ r9) .nil)
        · have hje : j = (g i).length := by omega
          subst hje
          refine wpAny_pyNext_list_end hA.hh p4' p5.isList (by simp; omega) fun h7 s7 => ?_
          have st7 : St C { s5 with heap := h7 } := p1.but y1 sJ (g1.ext.none bI2) s7 s5.toks
          refine hRR _ ⟨_, ?_, i + 1, rfl, hlt, st7, p2.other bI2 y1 (by rw [y3]; exact nofun) (by rw [y3]; exact nofun) s7, p3.at fun o e => s7 _ _ hneI e, vs5, let ⟨m, e⟩ := p6; ⟨m, s7 _ _ hneD e⟩, ?_⟩
          · omega
          · rw [gsucc]
            rw [List.take_length] at p7
            refine flats (fun d hd => (List.mem_append.mp hd).elim (gflat i d) fun h => hflat i d h) p7
      exact start21 (inner _ fun s5 h => h) (wpAny_pyIter_listiter li6 (inner _ fun s5 h => h))
    · have hin : i = ds.length := by omega
      subst hin
      exact q3.end hA.hh q2.ext fun h' e => fin s' q1 q2 q3 ⟨vs, q4, q5⟩ h' e
  have hrel : relabel scope f.env = relabelS scope f.sc := by rw [relabel_eq, hp.sc]
  rw [hrel]
  exact codeAny_compStart_list loop (it5.again loop)
end
noncomputable def szS (ways : List (List (List Nat))) (x : Str) : Int := ((ways.filter fun w => (w.map S).contains x).length : Nat)
noncomputable def keyOf (ways : List (List (List Nat))) (w : List (List Nat)) : List D := w.reverse.flatMap fun x => [.int (-(szS ways (S x))), .str (S x)]
noncomputable def keysOf (ways : List (List (List Nat))) : List D := ways.map fun w => .list (keyOf ways w)
noncomputable abbrev strss (ways : List (List (List Nat))) : D := .list (ways.map strsD)
theorem filter_range {α : Type} (l : List α) (q : α → Bool) (p : Nat → Bool) (h : ∀ i a, l[i]? = some a → p i = q a) : ((List.range l.length).filter p).length = (l.filter q).length := by
  induction l generalizing p with
  | nil => rfl
  | cons a l ih =>
    have h1 := ih (fun i => p (i + 1)) (fun i b e => h (i + 1) b (by simpa using e))
    have h2 : p 0 = q a := h 0 a rfl
    rw [List.length_cons, List.range_succ_eq_map, List.filter_cons, List.filter_map, List.filter_cons, h2]
    cases q a with
    | true => simp only [if_true, List.length_cons, List.length_map]; rw [← h1]; rfl
    | false => simp only [Bool.false_eq_true, if_false, List.length_map]; rw [← h1]; rfl
theorem range_flat {α : Type} (l : List α) (h : α → List D) : (List.range l.length).flatMap (fun j => ((l[j]?).map h).getD []) = l.flatMap h := by
  induction l with
  | nil => rfl
  | cons a l ih =>
    rw [List.length_cons, List.range_succ_eq_map, List.flatMap_cons, List.flatMap_cons, List.flatMap_map, ← ih]
    rfl
theorem range_map {α β : Type} (l : List α) (h : α → β) (d : α) : (List.range l.length).map (fun i => h (l.getD i d)) = l.map h := by
  induction l with
  | nil => rfl
  | cons a l ih =>
    rw [List.length_cons, List.range_succ_eq_map, List.map_cons, List.map_cons, List.map_map, ← ih]
    rfl
section
variable {C : Cx} {n : Nat} {f : FS}
theorem Tr.assignC {x : Str} {p1 p2 : Pos} {e : Expr} {rest : List Stmt} {R : VP} {Q : Flow → Vw → Prop} (he : Ev C n f e R) (hx : f.sc.names.lookup x = some .cell)
    (hst : ∀ {h h' : Heap} {Y c u v}, h.IsCell c u → Heap.SameBut c h h' → R.p ⟨h, Y⟩ v → R.p ⟨h', Y⟩ v)
    (hsw : swapsWith e (some (.Name x p1)) p2.line f.env = pure false) (h : Tr C n ((f.put x R).H) (execs rest f.env) Q) : Tr C n (f.W C) (execs (.Assign [.Name x p1] e p2 :: rest) f.env) Q :=
  Tr.cons (P' := (f.put x R).H) (fun A s E Y hA hs hY p => by
    refine wpAny_Assign_Name (wpAny_mono (he A s E Y hA hs hY p.toH) (fun v s1 ⟨a, b, c⟩ => ?_) fun _ _ e => e) hsw
    exact (p.up b).storeC a (hY.ext b) hx c (fun hc hs => hst hc hs c) fun s' h1 h2 h3 => ⟨h1, h2, h3⟩) h
theorem mapV_cell {g : Str → Int} {l : List Str} {h h' : Heap} {Y : Al} {c : Addr} {u : Option Value} {v : Value} (hc : h.IsCell c u) (hs : Heap.SameBut c h h') (r : (mapV C g l).p ⟨h, Y⟩ v) : (mapV C g l).p ⟨h', Y⟩ v := by
  obtain ⟨a, kvs, e1, e2, hd, hv⟩ := r
  refine ⟨a, kvs, e1, e2, hd.sameBut hs fun z => ?_, hv⟩
  obtain ⟨o', es, ep, e', _, d, _⟩ := hd
  obtain ⟨o2, e2', d2⟩ := hc
  rw [z] at e'
  have e3 : h.get? c = some o' := e'
  rw [e2'] at e3; cases e3; rw [d2] at d; cases d
theorem Tr.retHS {e : Expr} {p : Pos} {rest : List Stmt} {R : VP} {Q : Flow → Vw → Prop} (he : Ev C n f e R) (hQ : ∀ k v, f.H k → R.p k v → Q (.ret v) k) : Tr C n f.H (execs (.Return (some e) p :: rest) f.env) Q :=
  Tr.cons (P' := fun _ => False) (Tr.retH he hQ) fun A s E Y hA hs hY p => p.elim
theorem Ev.under {e : Expr} {R : VP} {ρ' : List (Str × VP)} (h : Ev C n { f with ρ := ρ' } e R) (hρ : ∀ q ∈ ρ', f.ρ.lookup q.1 = some (VP.at f.b q.2) ∨ f.ρ.lookup q.1 = some q.2) : Ev C n f e R := fun A s E Y hA hs hY hp =>
  h A s E Y hA hs hY ⟨hp.ext, hp.sc, hp.kind, hp.glob, hp.bi, fun x R e => by
    rcases hρ (x, R) (mem_of_lookup e) with h1 | h1
    · obtain ⟨v, hv, hr⟩ := hp.vars x _ h1
      exact ⟨v, hv, R.ext hp.ext hr.2⟩
    · exact hp.vars x _ h1, hp.more⟩
local macro_rules | `(tactic| walk_at "und") => `(tactic| (repeat' (first | exact List.forall_mem_nil _ | refine List.forall_mem_cons.mpr ⟨?_, ?_⟩)) <;> (first | exact .inl rfl | exact .inr rfl))
theorem body_keys (k : Kx C) {b : Heap} {L : Nat} {names : List (List Nat)} {ways : List (List (List Nat))} (hw : ∀ w ∈ ways, ∀ x ∈ w, x ∈ names) (hn : names.length ≤ 100) (hwl : ways.length ≤ 100) (hwl2 : ∀ w ∈ ways, w.length ≤ 100) :
    Tr C (n + 4) ((ff C 141 b L [(Str.ofString "names", VP.at b (dat (strsD names))), (Str.ofString "ways", VP.at b (dat (strss ways)))] .top).W C)
      (execs (bodyOf C.w.params 141) (fenv (fdOf C.w.params 141) 141 L)) (givesQ (dat (.list (keysOf ways))) b) := by
  conv in (bodyOf _ _) => whnf
  refine Tr.assignC (f := ff C 141 b L _ .top) (R := mapV C (szS ways) (names.map S)) ?_ rfl (fun a b c => mapV_cell a b c) rfl ?_
  · refine Ev.under (ρ' := [(Str.ofString "names", dat (strsD names)), (Str.ofString "ways", dat (strss ways))]) ?_ (by walk_at "und")
    refine Ev.dictComp k (f := ff C 141 b L _ .top) (szS ways) (Src.list (by walk_at "nm")) (by rfl) (by simpa using by omega) rfl rfl (fun b' L' y hy => ?_) (fun b' L' y hy => ?_)
    · exact Ev.here (by walk_at "nm")
    · refine Ev.under (ρ' := [(Str.ofString "name", dat (.str y)), (Str.ofString "ways", dat (strss ways))]) ?_ (by walk_at "und")
      refine (Ev.callB (R := dat (.int _)) (Ev.bi k bn_len rfl rfl (by decide) rfl) (Evl.cons (R := dat (.list _)) (Ev.comp2 (ds := ways.map strsD) (fun i => ((ways.getD i []).map S).contains y) (fun i => (ways.map strsD).getD i .none) (fun b d => [(Str.ofString "way", VP.at b (dat d))])
        (Src.list (by walk_at "nm")) (by rfl) (by simp; omega) (fun b L d hd => Tgt2.local rfl rfl) (fun b'' L'' i d hd => .inr ⟨_, rfl, ?_⟩) (fun b'' L'' i d hd hp => ?_) Owned.name) .nil) (call1 (do_len ?_))).eq ?_
      · obtain ⟨w, hw1, rfl⟩ : ∃ w, ways[i]? = some w ∧ strsD w = d := by simpa using hd
        have e : ways.getD i [] = w := by rw [List.getD_eq_getElem?_getD, hw1]; rfl
        rw [e]
        exact Ts.cmp (R1 := dat (.str y)) (R2 := dat (strsD w)) (Ev.here (by walk_at "nm")) (Ev.here (by walk_at "nm")) op_in rfl
      · have e : (ways.map strsD).getD i .none = d := by rw [List.getD_eq_getElem?_getD, hd]; rfl
        rw [e]
        exact Ev.here (by walk_at "nm")
      · rw [List.length_map]
        exact Nat.le_trans (List.length_filter_le _ _) (by simp; omega)
      · unfold szS
        rw [List.length_map, List.length_map, filter_range ways (fun w => (w.map S).contains y) _ fun i a e => by rw [List.getD_eq_getElem?_getD, e]; rfl]
  · refine Tr.retHS (f := ff C 141 b L _ .top) (R := dat (.list (keysOf ways))) ?_ fun k v h1 h2 => ⟨h1.ext, v, rfl, h2⟩
    refine Ev.under (ρ' := [(Str.ofString "sizes", mapV C (szS ways) (names.map S)), (Str.ofString "names", dat (strsD names)), (Str.ofString "ways", dat (strss ways))]) ?_ (by walk_at "und")
    refine (Ev.comp2 (f := ff C 141 b L _ .top) (ds := ways.map strsD) (fun _ => true) (fun i => .list (keyOf ways (ways.getD i []))) (fun b d => [(Str.ofString "way", VP.at b (dat d))])
        (Src.list (by walk_at "nm")) (by rfl) (by simp; omega) (fun b L d hd => Tgt2.local rfl rfl) (fun b'' L'' i d hd => .inl ⟨rfl, rfl⟩) (fun b'' L'' i d hd hp => ?_) Owned.name).eq ?_
    · obtain ⟨w, hw1, rfl⟩ : ∃ w, ways[i]? = some w ∧ strsD w = d := by simpa using hd
      have hwm : w ∈ ways := List.mem_of_getElem? hw1
      have e : ways.getD i [] = w := by rw [List.getD_eq_getElem?_getD, hw1]; rfl
      rw [e]
      refine Ev.under (ρ' := [(Str.ofString "way", dat (strsD w)), (Str.ofString "sizes", mapV C (szS ways) (names.map S))]) ?_ (by walk_at "und")
      refine (Ev.comp22 (ds := ((w.map S).map D.str).reverse) (fun j => ((w.reverse[j]?).map fun x => [D.int (-(szS ways (S x))), D.str (S x)]).getD []) (fun b d => [(Str.ofString "name", VP.at b (dat d))]) (fun b d => [(Str.ofString "part", VP.at b (dat d))])
        (Src.list (Ev.rev (by walk_at "nm") (Ev.neg Ev.int) (by simp; have := hwl2 w hwm; omega))) (by rfl) (by simp; have := hwl2 w hwm; omega) (fun j => by cases w.reverse[j]? <;> simp) (fun b L d hd => Tgt2.local rfl rfl) (fun b L d => Tgt2.local rfl rfl) (fun b3 L3 j d hd => ?_) (fun b3 L3 d => Ev.here (by walk_at "nm")) (fun j d hd => ?_) Owned.name Owned.name).eq ?_
      · obtain ⟨x, hx, rfl⟩ : ∃ x, w.reverse[j]? = some x ∧ D.str (S x) = d := by
          rw [List.map_map, ← List.map_reverse, List.getElem?_map] at hd
          simpa using hd
        have hxm : x ∈ names := hw w hwm x (List.mem_reverse.mp (List.mem_of_getElem? hx))
        simp only [hx]
        refine Ev.list (ds := [.int (-(szS ways (S x))), .str (S x)]) (Evl.cons (Ev.neg (Ev.meth (R1 := mapV C (szS ways) (names.map S)) (Rs := [dat (.str (S x)), dat (.int 0)]) m_get mapV_type (Ev.here (by walk_at "nm")) (Evl.cons (Ev.here (by walk_at "nm")) (Evl.cons Ev.int .nil)) fun v vs A s E Y hA hs hY ⟨z1, z2⟩ => ?_)) (Evl.cons (Ev.here (by walk_at "nm")) .nil)) (by simp)
        obtain ⟨u, z, rfl, z3, z4⟩ := two z2
        exact do_get (List.mem_map_of_mem hxm) v u z A s E Y hA hs hY ⟨z1, z3, z4⟩
      · cases hwj : w.reverse[j]? with
        | none => rw [hwj] at hd; cases hd
        | some x =>
          rw [hwj] at hd
          simp only [Option.map_some, Option.getD_some] at hd
          simp only [List.mem_cons, List.not_mem_nil, or_false] at hd
          rcases hd with rfl | rfl
          · exact flat_int
          · exact flat_str
      · have e1 : (((w.map S).map D.str).reverse).length = w.reverse.length := by simp
        rw [e1]
        have e2 := range_flat w.reverse fun x => [D.int (-(szS ways (S x))), D.str (S x)]
        unfold keyOf
        rw [e2]
    · have e1 : (ways.map strsD).length = ways.length := by simp
      rw [e1, List.filter_eq_self.mpr (fun _ _ => rfl)]
      exact congrArg D.list (range_map ways (fun w => D.list (keyOf ways w)) [])
theorem do_keys (k : Kx C) {names : List (List Nat)} {ways : List (List (List Nat))} (hw : ∀ w ∈ ways, ∀ x ∈ w, x ∈ names) (hn : names.length ≤ 100) (hwl : ways.length ≤ 100) (hwl2 : ∀ w ∈ ways, w.length ≤ 100) (a t : Value) :
    Does C (n + 5) (fun q => (dat (strsD names)).p q a ∧ (dat (strss ways)).p q t) (call (.ref 141) [a, t]) (dat (.list (keysOf ways))).p := fun A s E Y hA hs hY ⟨h0, h1⟩ => by
  have hb : Bd s (fdOf C.w.params 141) ⟨[a, t], []⟩ [(Str.ofString "names", a), (Str.ofString "ways", t)] := by
    have e : fdOf C.w.params 141 = fdOf C.w.params 141 := rfl
    conv at e => rhs; whnf
    rw [e]
    exact ⟨.of_eq rfl⟩
  refine callFn k (ρ := [(Str.ofString "names", dat (strsD names)), (Str.ofString "ways", dat (strss ways))]) (F := .top) (q := givesQ (dat (.list (keysOf ways)))) (fn_keys k) hA hs hY rfl hb (by walk_at "kinds") (by walk_at "nd") (List.forall_mem_cons.mpr ⟨⟨_, rfl, h0⟩, List.forall_mem_cons.mpr ⟨⟨_, rfl, h1⟩, List.forall_mem_nil _⟩⟩) (fun _ _ => trivial) top_stab
    (fun L => body_keys k hw hn hwl hwl2) fun fl s' q1 q2 ⟨q3, v, e, q4⟩ => ?_
  subst e
  exact ⟨q1, q3, q4⟩
end
noncomputable def own (a : Addr) (ds : List D) : VP := ⟨fun k v => v = .ref a ∧ ∃ vs, IsL k.h a vs ∧ Reps k ds vs,
  fun {h h' Y v} x r => by obtain ⟨e, vs, l, r⟩ := r; exact ⟨e, vs, Ext.isL (h := h) (h' := h') x l, r.keepers (x.keepers _)⟩,
  fun {h Y Y' v} x r => by obtain ⟨e, vs, l, r⟩ := r; exact ⟨e, vs, l, r.keepers (ref_keepers x)⟩⟩
theorem own_stab {a : Addr} {ds : List D} : (own a ds).Stab := ⟨fun {h h' Y v c o o'} e hs e' k r => by
  obtain ⟨q, vs, ⟨n, l⟩, r⟩ := r
  refine ⟨q, vs, ⟨n, (k.2 a (fun z => ?_)).trans l⟩, r.keepers (soft_keepers e hs k.extBut)⟩
  have l' : h.get? a = some (LObj vs n) := l
  rw [z, e] at l'; cases l'; exact hs _ _ rfl⟩
theorem own_softV {b : Heap} {a : Addr} {ds : List D} : (own a ds).Soft b := fun {h h' Y v I o} hb e hs k r => by
  obtain ⟨q, vs, ⟨n, l⟩, r⟩ := r
  refine ⟨q, vs, ⟨n, k a _ (fun z => ?_) l⟩, r.keepers (soft_keepers e hs k)⟩
  have l' : h.get? a = some (LObj vs n) := l
  rw [z, e] at l'; cases l'; exact hs _ _ rfl
theorem own_kn {a : Addr} {ds : List D} : (own a ds).Kn := fun {h h' Y v} n r => by
  obtain ⟨q, vs, ⟨m, l⟩, r⟩ := r
  exact ⟨q, vs, ⟨m, n.keep l rfl nofun⟩, r.keepers (n.keepers _)⟩
noncomputable def VP.Turns (a : Addr) (R : VP) : Prop := ∀ {h h' : Heap} {Y : Al} {v : Value}, ¬ Y a → ExtX a h h' → Heap.SameBut a h h' → R.p ⟨h, Y⟩ v → R.p ⟨h', Y⟩ v
theorem dat_turns {a : Addr} {d : D} : (dat d).Turns a := fun hy _ k r => Rep.keepers (but_keepers hy k.extBut) r
theorem at_turns {a : Addr} {b : Heap} {R : VP} : (VP.at b R).Turns a := fun _ x _ r => at_turn x r
theorem own_turns {a c : Addr} {ds : List D} (hne : c ≠ a) : (own c ds).Turns a := fun {h h' Y v} hy _ k r => by
  obtain ⟨q, vs, ⟨m, l⟩, r⟩ := r
  exact ⟨q, vs, ⟨m, (k.2 c hne).trans l⟩, r.keepers (but_keepers hy k.extBut)⟩
noncomputable def HP.vw (p : Al → Prop) : HP := ⟨fun k => p k.Y, fun _ h => h⟩
noncomputable def HP.and (F G : HP) : HP := ⟨fun k => F.p k ∧ G.p k, fun x h => ⟨F.ext x h.1, G.ext x h.2⟩⟩
theorem vw_stab {b : Heap} {p : Al → Prop} : (HP.vw p).Stab b := ⟨fun _ _ _ _ _ h => h⟩
theorem HP.Stab.and {b : Heap} {F G : HP} (x : F.Stab b) (y : G.Stab b) : (F.and G).Stab b := ⟨fun a b c d e h => ⟨x.st a b c d e h.1, y.st a b c d e h.2⟩⟩
theorem vw_kq {p : Al → Prop} : (HP.vw p).Kq := fun _ h => h
theorem HP.Kq.and {F G : HP} (x : F.Kq) (y : G.Kq) : (F.and G).Kq := fun n h => ⟨x n h.1, y n h.2⟩
noncomputable def HP.Turns (a : Addr) (F : HP) : Prop := ∀ {h h' : Heap} {Y : Al} {vs : List Value}, ExtX a h h' → IsL h a vs → F.p ⟨h, Y⟩ → F.p ⟨h', Y⟩
theorem vw_turns {a : Addr} {p : Al → Prop} : (HP.vw p).Turns a := fun _ _ h => h
theorem rgF_turns {a I : Addr} {m i : Nat} : (rgF I m i).Turns a := fun x l h => rgF_turn x l h
theorem HP.Turns.and {a : Addr} {F G : HP} (x : F.Turns a) (y : G.Turns a) : (F.and G).Turns a := fun e l h => ⟨x e l h.1, y e l h.2⟩
theorem Reps.setAt {k : Vw} {d : D} {v : Value} (hv : Rep k d v) : ∀ {ds : List D} {vs : List Value} {i : Nat}, Reps k ds vs → Reps k (ds.set i d) (vs.set i v)
  | [], vs, i, x => by rw [Reps] at x; subst x; simpa using Reps.nil
  | d' :: ds, vs, i, x => by
    rw [Reps] at x
    obtain ⟨u, r, rfl, a, b⟩ := x
    cases i with
    | zero => exact .cons hv b
    | succ i => exact .cons a (Reps.setAt hv b)
section
variable {C : Cx} {n : Nat} {f : FS}
theorem do_setitem {A : Around} {E : Value → Shared → Prop} {s : Shared} {a : Addr} {vs : List Value} {i : Nat} {t : Tok} {v : Value} {Q : Unit → Shared → Prop} (l : IsL s.heap a vs) (hi : i < vs.length) (hz : vs.length ≤ 1000000)
    (hQ : ∀ h', IsL h' a (vs.set i v) → Heap.SameBut a s.heap h' → Q () { s with heap := h' }) : wpAny C.M A (setItem (.ref a) (.int i t) v) Q E s := by
  obtain ⟨m, e⟩ := l
  refine ki_setAt (items := vs.toArray) (n := m) e (by omega) (by omega) (by simpa using hi) (hQ _ ?_ (Heap.SameBut.update ..))
  refine ⟨m, (Heap.get?_update_self _ e rfl).trans ?_⟩
  simp [Obj.mapSeq, LObj]
theorem Ev.itemO {v i : Expr} {pos : Pos} {ds : List D} {a : Addr} {k : Nat} {d : D} (hv : Ev C n f v (own a ds)) (hi : Ev C n f i (dat (.int k))) (hk : ds[k]? = some d) (hl : ds.length ≤ 1000000)
    (hsub : ∀ a u, subscripted i false (.ref a) (.int k u) = operate [.ref a, .int k u] (getItem (.ref a) (.int k u)) := by intro _ _; with_unfolding_all rfl)
    (hgo : ∀ a r, letTemporaryGo v (.ref a) r = pure () := by intro _ _; with_unfolding_all rfl) : Ev C n f (.Subscript v i pos) (dat d) := fun A s E Y hA hs hY hp => by
  refine Subscript_ (wpAny_mono (hv A s E Y hA hs hY hp) (fun a' s1 ⟨h1, h2, h3⟩ => wpAny_mono (hi A s1 E Y hA h1 (hY.ext h2) (hp.up h2)) (fun b s2 ⟨g1, g2, g3⟩ => ?_) fun _ _ e => e) fun _ _ e => e)
  obtain ⟨e, vs, l, r⟩ := (own a ds).ext g2 h3
  subst e
  obtain ⟨u, rfl⟩ := rep_int g3
  obtain ⟨x, hx, rx⟩ := r.get hk
  have hlt : k < ds.length := (List.getElem?_eq_some_iff.mp hk).1
  refine subscriptTail_builtin l.isList.typeIs list_getitem_lookup (wpAny_getItem_list l.isList (by omega) (by omega) (by simpa using hx) ⟨g1, h2.trans g2, rx⟩) (hsub _ _) (hgo _)
theorem Src.own {iter : Expr} {a : Addr} {ds : List D} (h : Ev C n f iter (own a ds)) : Src C n f iter ds := fun A s E Y Q hA hs hY hp hQ => by
  refine wpAny_mono (h A s E Y hA hs hY hp) (fun x s1 ⟨h1, h2, h3⟩ => ?_) fun _ _ e => e
  obtain ⟨e, vs, l, r⟩ := h3
  subst e
  refine wpAny_pyIter_list l.isList (hQ s1 _ _ h1 h2 (h1.push _) (.push _ _) (get?_size _) (.inl ⟨a, vs, l, trivial, r, ?_⟩) ⟨_, Heap.get?_push_size _ rfl⟩)
  exact ⟨_, Heap.get?_push_size _ rfl, rfl, rfl⟩
theorem own_wide {a : Addr} {ds : List D} {h : Heap} {Y : Al} {v : Value} (r : (own a ds).p ⟨h, Y⟩ v) : (dat (.list ds)).p ⟨h, fun _ => True⟩ v := by
  obtain ⟨e, vs, l, r⟩ := r
  subst e
  exact mk_list (h := ⟨h, fun _ => True⟩) trivial l (r.keepers (ref_keepers fun _ _ _ _ => trivial))
theorem do_min2o {x y : Int} {a : Addr} (v : Value) : Does C n (fun k => (own a [.int x, .int y]).p k v) (call (.builtin "min") [v]) (dat (.int (if y < x then y else x))).p := fun A s E Y hA hs hY hp =>
  wpAny_mono (do_min2 (a := x) (b := y) v A s E (fun _ => True) hA hs (fun _ _ => trivial) (own_wide hp)) (fun r s' ⟨h1, h2, h3⟩ => ⟨h1, h2, by obtain ⟨t, rfl⟩ := rep_int h3; exact mk_int⟩) fun _ _ e => e
theorem Tr.setItem {x : Str} {a : Addr} {ds : List D} {i : Nat} {d : D} {e ie : Expr} {p1 p2 p3 : Pos} {rest : List Stmt} {Q : Flow → Vw → Prop} (ρ' : List (Str × VP)) (he : Ev C n f e (dat d)) (hx : f.ρ.lookup x = some (own a ds)) (hd : (x == ("__debug__" : Str)) = false) (hi : Ev C n f ie (dat (.int i))) (hlt : i < ds.length) (hl : ds.length ≤ 1000)
    (hY : ∀ k, f.F.p k → ¬ k.Y a) (hb : f.b.get? a = none) (hF : f.F.Turns a)
    (hρ : ∀ q ∈ ρ', (q = (x, own a (ds.set i d))) ∨ (f.ρ.lookup q.1 = some q.2 ∧ q.2.Stab ∧ q.2.Turns a))
    (hsw : swapsWith e (some (.Subscript (.Name x p1) ie p2)) p3.line f.env = pure false)
    (h : Tr C n (({ f with ρ := ρ' } : FS).W C) (execs rest f.env) Q) : Tr C n (f.W C) (execs (.Assign [.Subscript (.Name x p1) ie p2] e p3 :: rest) f.env) Q :=
  Tr.cons (P' := ({ f with ρ := ρ' } : FS).W C) (fun A s E Y hA hs hYo w => by
    refine wpAny_Assign_Subscript (wpAny_mono (he A s E Y hA hs hYo w.toH) (fun v s1 ⟨a1, a2, a3⟩ => ?_) fun _ _ e => e) hsw
    have hx2 := a2
    refine wpAny_mono (Ev.name (f := f) hx hd A s1 E Y hA a1 (hYo.ext a2) (w.toH.up a2)) (fun o s2 ⟨b1, b2, b3⟩ => ?_) fun _ _ e => e
    refine wpAny_mono (hi A s2 E Y hA b1 (hYo.ext (a2.trans b2)) (w.toH.up (a2.trans b2))) (fun iv s3 ⟨c1, c2, c3⟩ => ?_) fun _ _ e => e
    have ex := (a2.trans b2).trans c2
    have w3 := w.up ex
    obtain ⟨e1, vs, l, r⟩ := (own a ds).ext c2 b3
    subst e1
    obtain ⟨t, rfl⟩ := rep_int c3
    have hnY : ¬ Y a := hY _ w3.toH.more
    have hlen : vs.length = ds.length := r.length
    refine do_setitem l (by omega) (by omega) fun h' l' sb => ?_
    obtain ⟨oD, eD, sD⟩ := soft_list l.isList
    obtain ⟨o6, e6, _⟩ := soft_list l'.isList
    have xx : ExtX a s3.heap h' := .same sb e6
    refine ⟨c1.same eD sD (w.root.none hb) sb s3.toks, (hYo.ext ex).same sb e6, ?_⟩
    refine FS.W.turn (f := f) (ρ' := ρ') w3 xx l hb (fun q hq => ?_) (hF xx l w3.toH.more)
    rcases hρ q hq with rfl | ⟨k1, k2, k3⟩
    · refine ⟨own a ds, hx, own_stab, fun u hu => ?_⟩
      obtain ⟨e1, vs', l1, r1⟩ := hu
      have ev : vs' = vs := by
        obtain ⟨n1, z1⟩ := l1
        obtain ⟨n2, z2⟩ := l
        have z1' : s3.heap.get? a = some (LObj vs' n1) := z1
        rw [z2] at z1'
        have := Option.some.inj z1'
        simp only [LObj, Obj.mk.injEq, Data.seq.injEq] at this
        have h2 := this.2.2.1.1
        simpa using h2.symm
      subst ev
      refine ⟨e1, _, l', ?_⟩
      have r2 : Reps ⟨h', Y⟩ ds vs' := r1.keepers (but_keepers hnY sb.extBut)
      have v2 : Rep ⟨h', Y⟩ d v := Rep.keepers (but_keepers hnY sb.extBut) ((dat d).ext (b2.trans c2) a3)
      exact r2.setAt v2
    · exact ⟨q.2, k1, k2, fun v hv => k3 hnY xx sb hv⟩) h
end
section
variable {C : Cx} {n : Nat} {f : FS}
theorem FS.W.weakF {k : Vw} {F' : HP} (w : f.W C k) (h : f.F.p k → F'.p k) (hs : F'.Stab f.b) : ({ f with F := F' } : FS).W C k :=
  ⟨⟨w.toH.ext, w.toH.sc, w.toH.kind, w.toH.glob, w.toH.bi, w.toH.vars, h w.toH.more⟩, w.root, w.ns, w.low, w.cell, w.has, w.apart, w.stab, hs⟩
theorem FS.W.view {h : Heap} {Y Y' : Al} {F' : HP} (w : f.W C ⟨h, Y⟩) (r : ∀ a o, h.get? a = some o → Y a → Y' a) (hF : F'.p ⟨h, Y'⟩) (hs : F'.Stab f.b) : ({ f with F := F' } : FS).W C ⟨h, Y'⟩ :=
  ⟨⟨w.toH.ext, w.toH.sc, w.toH.kind, w.toH.glob, w.toH.bi, fun x R e => let ⟨v, a, b⟩ := w.toH.vars x R e; ⟨v, a, R.ref r b⟩, hF⟩, w.root, w.ns, w.low, w.cell, w.has, w.apart, w.stab, hs⟩
theorem Tr.fact {φ : Prop} {P : Vw → Prop} {t : Sem Flow} {Q : Flow → Vw → Prop} (hf : ∀ k, P k → φ) (h : φ → Tr C n P t Q) : Tr C n P t Q := fun A s E Y hA hs hY p => h (hf _ p) A s E Y hA hs hY p
theorem Tr.newOwn {x : Str} {es : List Expr} {pos p1 p2 : Pos} {ds : List D} {rest : List Stmt} {Q : Flow → Vw → Prop} {p : Al → Prop} (p' : Addr → Al → Prop) (Qa : Addr → Flow → Vw → Prop) (hF : f.F = HP.vw p)
    (he : Evl C n f pos es (ds.map dat)) (hl : ds.length ≤ 1000000) (hx : f.sc.names.lookup x = some .local) (hsw : swapsWith (.List es pos) (some (.Name x p1)) p2.line f.env = pure false)
    (hp : ∀ a Y, p Y → Y a → p' a (fun c => Y c ∧ c ≠ a)) (hq : ∀ a fl h Y, Y a → Qa a fl ⟨h, fun c => Y c ∧ c ≠ a⟩ → Q fl ⟨h, Y⟩)
    (hr : ∀ a, f.b.get? a = none → Tr C n (({ f with ρ := (x, own a ds) :: f.ρ, F := HP.vw (p' a) } : FS).W C) (execs rest f.env) (Qa a)) :
    Tr C n (f.W C) (execs (.Assign [.Name x p1] (.List es pos) p2 :: rest) f.env) Q := fun A s E Y hA hs hY w => by
  refine wpAny_execs_cons (wpAny_Assign_Name (wpAny_List (wpAny_mono (he A s E Y hA hs hY w.toH) (fun vs s1 ⟨h1, h2, h3⟩ => ?_) fun _ _ e => e)) hsw)
  have hr3 := All2.reps h3
  have w1 := w.up h2
  have hY1 := hY.ext h2
  refine ⟨by rw [hr3.length]; unfold sizeLine; omega, ?_⟩
  have hn := get?_size s1.heap
  have hl4 : IsL (s1.heap.push (LObj vs 0)) s1.heap.objs.size vs := IsL.new _ _
  have hYa : Y s1.heap.objs.size := hY1.size
  have ex4 : Ext s1.heap (s1.heap.push (LObj vs 0)) := .push _ _
  have st4 := h1.push (LObj vs 0)
  generalize s1.heap.objs.size = a at hn hl4 hYa
  have fa : f.b.get? a = none := w1.toH.ext.none hn
  have rr : ∀ c o, s1.heap.get? c = some o → Y c → (Y c ∧ c ≠ a) := fun c o e y => ⟨y, fun z => by rw [z, hn] at e; cases e⟩
  have pY : p Y := by have := w1.toH.more; rw [hF] at this; exact this
  have w2 : ({ f with F := HP.vw (p' a) } : FS).W C ⟨s1.heap, fun c => Y c ∧ c ≠ a⟩ := w1.view rr (hp a Y pY hYa) vw_stab
  have w3 := w2.up ex4
  have hY3 : Ok (fun c => Y c ∧ c ≠ a) (s1.heap.push (LObj vs 0)) := fun c e => ⟨hY1 c (ex4.none e), fun z => by
    obtain ⟨m, e2⟩ := hl4
    rw [z, e2] at e; cases e⟩
  have ro : (own a ds).p ⟨s1.heap.push (LObj vs 0), fun c => Y c ∧ c ≠ a⟩ (.ref a) := ⟨rfl, vs, hl4, (hr3.keepers (ref_keepers rr)).keepers (ex4.keepers _)⟩
  refine w3.store (s := { s1 with heap := s1.heap.push (LObj vs 0) }) st4 hY3 (.inl hx) ro own_stab fun s' k1 k2 k3 _ => ?_
  exact wpAny_mono (hr a fa A s' E _ hA k1 k2 k3) (fun fl s2 ⟨q1, q2, q3⟩ => ⟨q1, fun c e => (q2 c e).1, hq a fl s2.heap Y hYa q3⟩) fun _ _ e => e
theorem Tr.forG {pv : Al → Prop} {func e : Expr} {pos : Pos} {m : Nat} {x : Str} {px p : Pos} {body : List Stmt} {Q : Flow → Vw → Prop} (ρ : Nat → List (Str × VP)) (hfu : Ev C n { f with ρ := ρ 0, F := .vw pv } func (isV (.type "range"))) (he : Ev C n { f with ρ := ρ 0, F := .vw pv } e (dat (.int m))) (hm : m ≤ 1000000)
    (hx : f.sc.names.lookup x = some .local) (hsoft : ∀ i, ∀ q ∈ ρ i, q.2.Soft f.b)
    (hb : ∀ I i, i < m → Tr C n (({ f with ρ := (x, dat (.int i)) :: ρ i, F := (HP.vw pv).and (rgF I m (i + 1)) } : FS).W C) (execs body f.env)
      (fun fl k => match fl with | .next => ({ f with ρ := ρ (i + 1), F := (HP.vw pv).and (rgF I m (i + 1)) } : FS).W C k | .cont => False | .brk => Q .next k | .ret v => Q (.ret v) k))
    (hQ : ∀ k, ({ f with ρ := ρ m, F := .vw pv } : FS).W C k → Q .next k)
    (h1 : ∀ env, eval (.Call func [e] [] pos) env = (do callWith pos (← eval func env) [] (backTo pos (starEach [e] env)) (backToKw pos (keywordEach [] env))) := by intro _; rfl)
    (h2 : ∀ env, starEach [e] env = (false, eval e env) :: starEach [] env := by intro _; rfl)
    (h3 : ∀ env v, foldedSetIterable (.Call func [e] [] pos) env v = pure v := by intro _ _; rfl)
    (h4 : ∀ it v, letOwnedTupleGo (.Name x px) it v = pure () := by intro _ _; rfl) :
    Tr C n (({ f with ρ := ρ 0, F := .vw pv } : FS).W C) (exec (.For (.Name x px) (.Call func [e] [] pos) body [] p) f.env) Q := fun A s E Y hA hs hY w => by
  have hev : Ev C n { f with ρ := ρ 0, F := .vw pv } (.Call func [e] [] pos) (rangeV m) := Ev.callT hfu (Evl.cons he .nil h2) (call1 do_range) h1 h2 (fun _ => rfl)
  refine wpAny_For (wpAny_mono (hev A s E Y hA hs hY w.toH) (fun v s1 ⟨g1, g2, g3⟩ => ?_) fun _ _ e => e) (h3 _)
  obtain ⟨r, t, u, z, rfl, hr⟩ := g3
  have w1 := w.up g2
  have hY1 := hY.ext g2
  refine wpAny_pyIter_range hr (small_one (by decide) (by decide) (by omega) (by omega)) ?_
  have eI : Builtin.Range.rangeSize 0 m 1 = (m : Int) := by rw [rangeSize_nat]; omega
  rw [eI]
  have hIn := get?_size s1.heap
  have hI2 : IsRangeIter (s1.heap.push { cls := .type "range_iterator", data := .fields #[rawInt 0, rawInt m, rawInt 1] }) s1.heap.objs.size ((0 : Nat) : Int) ((m : Int) - ((0 : Nat) : Int)) 1 := by
    have := Heap.get?_push_size s1.heap (o := { cls := .type "range_iterator", data := .fields #[rawInt 0, rawInt m, rawInt 1] }) rfl
    simpa [IsRangeIter] using this
  have st2 := g1.push { cls := .type "range_iterator", data := .fields #[rawInt 0, rawInt m, rawInt 1] }
  have w2 := w1.up (Ext.push s1.heap { cls := .type "range_iterator", data := .fields #[rawInt 0, rawInt m, rawInt 1] })
  have hY2 := hY1.ext (Ext.push s1.heap { cls := .type "range_iterator", data := .fields #[rawInt 0, rawInt m, rawInt 1] })
  have hbI : f.b.get? s1.heap.objs.size = none := w1.toH.ext.none hIn
  have hYI : Y s1.heap.objs.size := hY1.size
  generalize s1.heap.objs.size = I at hIn hI2 hbI hYI
  generalize hhp : s1.heap.push { cls := .type "range_iterator", data := .fields #[rawInt 0, rawInt m, rawInt 1] } = hp at hI2 st2 w2 hY2
  have hpv : pv Y := w2.toH.more
  have w2' : ({ f with ρ := ρ 0, F := (HP.vw pv).and (rgF I m 0) } : FS).W C ⟨hp, Y⟩ := FS.W.weakF (f := { f with ρ := ρ 0, F := .vw pv }) w2 (fun _ => ⟨hpv, hI2⟩) (vw_stab.and rgF_stab)
  have hCI : C.B.get? I = none := w.root.none hbI
  refine codeAny_forLoop (fun j s' => ∃ i, j = m - i ∧ i ≤ m ∧ St C s' ∧ Ok Y s'.heap ∧ ({ f with ρ := ρ i, F := (HP.vw pv).and (rgF I m i) } : FS).W C ⟨s'.heap, Y⟩) ?_ m ⟨0, rfl, Nat.zero_le _, st2, hY2, w2'⟩ (h4 _)
  rintro j s' ⟨i, rfl, hi, q1, q2, q3⟩
  have hIi : IsRangeIter s'.heap I i ((m : Int) - i) 1 := q3.toH.more.2
  have hsoft' : ∀ y R, (ρ i).lookup y = some R → R.Soft f.b := fun y R e => hsoft i (y, R) (mem_of_lookup e)
  by_cases hlt : i < m
  · refine wpAny_pyNext_range_item hIi (by omega) fun h' z1 z2 => ?_
    have z1' : IsRangeIter h' I ((i + 1 : Nat) : Int) ((m : Int) - ((i + 1 : Nat) : Int)) 1 := by
      have e1 : (((i + 1 : Nat) : Int)) = i + 1 := by omega
      have e2 : (m : Int) - ((i + 1 : Nat) : Int) = m - i - 1 := by omega
      rw [e2, e1]; exact z1
    have st3 : St C { s' with heap := h', toks := s'.toks + 1 } := q1.same hIi rfl hCI z2 _
    have w3 := q3.soft (F' := (HP.vw pv).and (rgF I m (i + 1))) z2.extBut hIi nofun nofun nofun hbI hsoft' ⟨hpv, z1'⟩ (vw_stab.and rgF_stab)
    refine wpAny_assign_Name (FS.W.store (f := { f with ρ := ρ i, F := (HP.vw pv).and (rgF I m (i + 1)) }) (R := dat (.int i)) w3 st3 (q2.same z2 z1) (.inl hx) mk_int (dat_stab _) fun s4 st4 hY4 w4 _ => ?_)
    refine wpAny_mono (hb I i hlt A s4 _ Y hA st4 hY4 w4) (fun fl s5 ⟨k1, k2, k3⟩ => ?_) fun _ _ e => e
    cases fl with
    | next => exact ⟨m - (i + 1), by omega, i + 1, rfl, hlt, k1, k2, k3⟩
    | cont => exact k3.elim
    | brk => exact ⟨k1, k2, k3⟩
    | ret v => exact ⟨k1, k2, k3⟩
  · have him : i = m := by omega
    subst him
    refine wpAny_pyNext_range_end hA.hh hIi (by omega) fun h' z => wpAny_execs_nil ?_
    have st3 : St C { s' with heap := h' } := q1.but hIi rfl hCI z s'.toks
    have w3 := q3.soft (F' := HP.vw pv) z hIi nofun nofun nofun hbI hsoft' hpv vw_stab
    refine ⟨st3, fun a e => ?_, hQ _ w3⟩
    by_cases ha : a = I
    · rw [ha]; exact hYI
    · refine q2 a ?_
      cases q : s'.heap.get? a with
      | none => rfl
      | some o => rw [z a o ha q] at e; cases e
noncomputable def pairV (a c : Addr) (ds es : List D) : VP := ⟨fun k v => ∃ t, v = .ref t ∧ k.Y t ∧ IsT k.h t [.ref a, .ref c] ∧ (own a ds).p k (.ref a) ∧ (own c es).p k (.ref c),
  fun {h h' Y v} x r => by obtain ⟨t, e, y, i, r1, r2⟩ := r; exact ⟨t, e, y, Ext.isT (h := h) (h' := h') x i, (own a ds).ext x r1, (own c es).ext x r2⟩,
  fun {h Y Y' v} x r => by obtain ⟨t, e, y, ⟨m, i⟩, r1, r2⟩ := r; exact ⟨t, e, x _ _ i y, ⟨m, i⟩, (own a ds).ref x r1, (own c es).ref x r2⟩⟩
theorem Ev.pair {e1 e2 : Expr} {k : Nat} {pos : Pos} {a c : Addr} {ds es : List D} (h : Evl C n f pos [e1, e2] [own a ds, own c es]) : Ev C n f (.Tuple [e1, e2] k pos) (pairV a c ds es) := fun A s E Y hA hs hY hp => by
  refine wpAny_Tuple (wpAny_mono (h A s E Y hA hs hY hp) (fun vs s1 ⟨h1, h2, h3⟩ => ?_) fun _ _ e => e)
  obtain ⟨u, v, rfl, r1, r2⟩ := two h3
  have e1 := r1.1
  have e2 := r2.1
  subst e1 e2
  refine ⟨by simp [sizeLine], h1.push _, h2.push' _, _, rfl, (hY.ext h2).size, ⟨0, Heap.get?_push_size _ rfl⟩, (own a ds).ext (Ext.push _ _) r1, (own c es).ext (Ext.push _ _) r2⟩
end
local macro_rules | `(tactic| walk_at "sfo") => `(tactic| (repeat' (first | exact List.forall_mem_nil _ | refine List.forall_mem_cons.mpr ⟨?_, ?_⟩)) <;> (first | exact own_softV | exact at_softV | exact dat_softV))
local macro_rules | `(tactic| walk_at "kns") => `(tactic| (repeat' (first | exact List.forall_mem_nil _ | refine List.forall_mem_cons.mpr ⟨?_, ?_⟩)) <;> (first | exact own_kn | exact at_kp.kn | exact dat_kp.kn))
noncomputable def tpx (heads : List Nat) (s : Nat) : Nat := heads.getD (bis (fun j => decide (heads.getD j 0 ≤ s)) 0 heads.length - 1) 0
structure CS where
  P : List (List Nat)
  J : List Nat
  S : List Nat
noncomputable def seg (row : List Nat) (t s : Nat) : List Nat := ((row.drop t).take (s + 1 - t)).reverse
noncomputable def sideOf (S : List Nat) : Nat := if S.getD 1 0 < S.getD 0 0 then 0 else 1
noncomputable def CS.step (row heads fo : List Nat) (x : CS) : CS :=
  { P := x.P.set (sideOf x.S) (x.P.getD (sideOf x.S) [] ++ seg row (tpx heads (x.S.getD (sideOf x.S) 0)) (x.S.getD (sideOf x.S) 0)),
    J := x.J.set (sideOf x.S) (x.J.getD (sideOf x.S) 0 + 1),
    S := x.S.set (sideOf x.S) (row.idxOf (fo.getD (row.getD (tpx heads (x.S.getD (sideOf x.S) 0)) 0) 0)) }
noncomputable def CS.done (heads : List Nat) (x : CS) : Bool := tpx heads (x.S.getD 0 0) == tpx heads (x.S.getD 1 0)
noncomputable def CS.it (row heads fo : List Nat) (x : CS) : Nat → CS
  | 0 => x
  | i + 1 => if (CS.it row heads fo x i).done heads then CS.it row heads fo x i else (CS.it row heads fo x i).step row heads fo
noncomputable def mnOf (S : List Nat) : Nat := if S.getD 1 0 < S.getD 0 0 then S.getD 1 0 else S.getD 0 0
noncomputable def CS.last (row : List Nat) (x : CS) : CS := { x with P := x.P.set (sideOf x.S) (x.P.getD (sideOf x.S) [] ++ seg row (mnOf x.S + 1) (x.S.getD (sideOf x.S) 0)) }
noncomputable def CS.start (row : List Nat) (one other : Nat) : CS := ⟨[[], []], [0, 0], [row.idxOf one, row.idxOf other]⟩
noncomputable def climb (row heads fo : List Nat) (one other : Nat) : CS := (CS.it row heads fo (CS.start row one other) (2 * row.length)).last row
structure ClOk (row heads fo : List Nat) : Prop where
  n : row.length ≤ 100
  has : ∀ a, a < row.length → a ∈ row
  lt : ∀ a ∈ row, a < row.length
  fl : fo.length = row.length
  fm : ∀ x ∈ fo, x < row.length
  hl : heads.length ≤ 100
  one : ∀ s, s < row.length → 1 ≤ bis (fun j => decide (heads.getD j 0 ≤ s)) 0 heads.length
  le : ∀ s, s < row.length → tpx heads s ≤ s
structure CInv (row : List Nat) (i : Nat) (x : CS) : Prop where
  P : x.P.length = 2
  J : x.J.length = 2
  S : x.S.length = 2
  s : ∀ s ∈ x.S, s < row.length
  p : ∀ p ∈ x.P, p.length ≤ i * 100
theorem sideOf_lt (S : List Nat) : sideOf S < 2 := by unfold sideOf; split <;> omega
theorem seg_len (row : List Nat) (t s : Nat) : (seg row t s).length ≤ row.length := by simp [seg]; omega
section
variable {row heads fo : List Nat}
theorem ClOk.bisle (h : ClOk row heads fo) (s : Nat) : bis (fun j => decide (heads.getD j 0 ≤ s)) 0 heads.length ≤ heads.length := (bis_ge _ 0 heads.length (Nat.zero_le _)).2
theorem ClOk.fold (h : ClOk row heads fo) {s : Nat} (hs : s < row.length) : fo.getD (row.getD s 0) 0 ∈ row := by
  have h1 : row.getD s 0 = row[s] := by rw [List.getD_eq_getElem?_getD, List.getElem?_eq_getElem hs]; rfl
  have h2 := h.lt _ (List.getElem_mem hs)
  rw [h1]
  have h3 : fo.getD row[s] 0 = fo[row[s]]'(by rw [h.fl]; exact h2) := by rw [List.getD_eq_getElem?_getD, List.getElem?_eq_getElem (by rw [h.fl]; exact h2)]; rfl
  rw [h3]
  exact h.has _ (h.fm _ (List.getElem_mem _))
theorem getD_mem2 {S : List Nat} {i : Nat} (h : i < S.length) : S.getD i 0 ∈ S := by
  rw [List.getD_eq_getElem?_getD, List.getElem?_eq_getElem h]; exact List.getElem_mem h
theorem CInv.step (h : ClOk row heads fo) {i : Nat} {x : CS} (c : CInv row i x) : CInv row (i + 1) (x.step row heads fo) := by
  have hsd := sideOf_lt x.S
  have hS : x.S.getD (sideOf x.S) 0 < row.length := c.s _ (getD_mem2 (by rw [c.S]; exact hsd))
  refine ⟨by simp [CS.step, c.P], by simp [CS.step, c.J], by simp [CS.step, c.S], fun s hs => ?_, fun p hp => ?_⟩
  · rcases List.mem_or_eq_of_mem_set hs with hs | hs
    · exact c.s s hs
    · rw [hs]
      have := h.le _ hS
      exact List.idxOf_lt_length_iff.mpr (h.fold (by omega))
  · rcases List.mem_or_eq_of_mem_set hp with hp | hp
    · have := c.p p hp; omega
    · rw [hp, List.length_append]
      have h1 := seg_len row (tpx heads (x.S.getD (sideOf x.S) 0)) (x.S.getD (sideOf x.S) 0)
      have h2 : (x.P.getD (sideOf x.S) []).length ≤ i * 100 := c.p _ (by
        rw [List.getD_eq_getElem?_getD, List.getElem?_eq_getElem (by rw [c.P]; exact hsd)]; exact List.getElem_mem _)
      have := h.n
      omega
theorem CInv.it (h : ClOk row heads fo) {x : CS} (c : CInv row 0 x) : ∀ i, CInv row i (CS.it row heads fo x i)
  | 0 => c
  | i + 1 => by
    have ih := CInv.it h c i
    unfold CS.it
    split
    · exact ⟨ih.P, ih.J, ih.S, ih.s, fun p hp => by have := ih.p p hp; omega⟩
    · exact ih.step h
theorem CInv.start {one other : Nat} (h1 : one ∈ row) (h2 : other ∈ row) : CInv row 0 (CS.start row one other) := ⟨rfl, rfl, rfl, fun s hs => by
    simp only [CS.start, List.mem_cons, List.not_mem_nil, or_false] at hs
    rcases hs with rfl | rfl
    · exact List.idxOf_lt_length_iff.mpr h1
    · exact List.idxOf_lt_length_iff.mpr h2, fun p hp => by simp only [CS.start, List.mem_cons, List.not_mem_nil, or_false] at hp; rcases hp with rfl | rfl <;> simp⟩
theorem it_stay {x : CS} {i : Nat} (h : (CS.it row heads fo x i).done heads = true) : ∀ k, CS.it row heads fo x (i + k) = CS.it row heads fo x i
  | 0 => rfl
  | k + 1 => by
    have ih := it_stay h k
    show (if (CS.it row heads fo x (i + k)).done heads then _ else _) = _
    rw [ih, if_pos h]
    exact ih
end
noncomputable abbrev natss (P : List (List Nat)) : List D := P.map nats
noncomputable abbrev intz (S : List Nat) : List D := S.map fun (i : Nat) => D.int i
theorem two_of {α : Type} {S : List α} (h : S.length = 2) : ∃ a b, S = [a, b] := by
  match S, h with
  | [a, b], _ => exact ⟨a, b, rfl⟩
theorem natss_set {P : List (List Nat)} {i : Nat} {l : List Nat} : natss (P.set i l) = (natss P).set i (nats l) := by simp [natss, List.map_set]
theorem intz_set {P : List Nat} {i : Nat} {l : Nat} : intz (P.set i l) = (intz P).set i (.int l) := by simp [intz, List.map_set]
theorem getq {α : Type} {l : List α} {i : Nat} (h : i < l.length) (d : α) : l[i]? = some (l.getD i d) := by
  rw [List.getD_eq_getElem?_getD, List.getElem?_eq_getElem h]; rfl
theorem intz_get {S : List Nat} {i : Nat} (h : i < S.length) : (intz S)[i]? = some (.int (S.getD i 0 : Nat)) := by simp only [intz, List.getElem?_map, getq h 0, Option.map_some]
theorem nats_seg {row p : List Nat} {t s : Nat} : D.list (p.map (fun (i : Nat) => D.int i) ++ (((row.map fun (i : Nat) => D.int i).drop t).take (s + 1 - t)).reverse) = nats (p ++ seg row t s) := by
  simp [nats, seg, List.map_reverse, List.map_take, List.map_drop]
section
variable {C : Cx} {n : Nat} {f : FS} {row heads fo : List Nat}
theorem Ev.revT {v e1 : Expr} {p pos : Pos} {ds : List D} (hv : Ev C n f v (dat (.list ds))) (he : Ev C n f e1 (dat (.int (-1)))) (hz : ds.length ≤ 1000000) : Ev C n f (.Subscript v (.Slice none none (some e1) p) pos) (dat (.list ds.reverse)) := fun A s E Y hA hs hY hp => by
  refine Subscript_ (wpAny_mono (hv A s E Y hA hs hY hp) (fun o s1 ⟨h1, h2, h3⟩ => wpAny_Slice ?_) fun _ _ e => e)
  rw [evalPart_none, evalPart_some]
  refine wpAny_pure ?_
  refine wpAny_pure ?_
  refine wpAny_mono (he A s1 E Y hA h1 (hY.ext h2) (hp.up h2)) (fun x s2 ⟨g1, g2, g3⟩ => ?_) fun _ _ e => e
  obtain ⟨l, vs, rfl, ya, hl, hr⟩ := rep_list ((dat _).ext g2 h3)
  obtain ⟨t, rfl⟩ := rep_int g3
  have hx := h2.trans g2
  refine kba_turn (value' := PySem.Expr.Name (PySem.Str.ofString "_") ⟨0, 0, 0, 0⟩) (fun _ => rfl) (subscriptTail_builtin ((Ext.push s2.heap _).isL hl).isList.typeIs list_getitem_lookup (slice_ret g1 (hY.ext hx) hl hr hz .none .none (.int _ _) (by decide) (fun h r => ?_) hx) rfl (fun _ => rfl))
  rw [krv_pick]
  exact r.reverse
theorem Ev.more {pe se re te ue : Expr} {q1 q2 q3 q4 q5 q6 q7 q8 : Pos} {k : Nat} {ap : Addr} {P : List (List Nat)} {sd t s : Nat} (hp : Ev C n f pe (own ap (natss P))) (hs : Ev C n f se (dat (.int sd))) (hr : Ev C n f re (dat (nats row))) (ht : Ev C n f te (dat (.int t))) (hu : Ev C n f ue (dat (.int ((s + 1 : Nat) : Int))))
    (hsd : sd < P.length) (hP : P.length ≤ 1000) (hrow : row.length ≤ 100) (hpl : (P.getD sd []).length ≤ 100000) (hts : t ≤ s + 1) (hsr : s < row.length)
    (hsub : ∀ a u, subscripted se false (.ref a) (.int sd u) = operate [.ref a, .int sd u] (getItem (.ref a) (.int sd u)))
    (hgo : ∀ a r, letTemporaryGo pe (.ref a) r = pure ())
    (h1 : ∀ o r, letTemporaryGo re o r = pure ()) :
    Ev C n f (.BinOp (.Subscript pe se q1) .Add (.Subscript (.Subscript re (.Slice (some te) (some ue) none q2) q3) (.Slice none none (some (.UnaryOp .USub (.Constant (.int 1) k q4) q5)) q6) q7) q8) (dat (nats (P.getD sd [] ++ seg row t s))) := by
  rw [← nats_seg]
  refine Ev.bin (R1 := dat (nats (P.getD sd []))) (R2 := dat (.list (((row.map fun (i : Nat) => D.int i).drop t).take (s + 1 - t)).reverse)) (Ev.itemO hp hs ?_ (by simp; omega) hsub hgo) (Ev.revT (Ev.slice hr ht hu hts (by simp; omega) (by simp; omega) h1) (Ev.neg Ev.int) (by simp; omega)) (op_addl ?_)
  · simp [natss, hsd]
  · rw [List.length_map, List.length_reverse, List.length_take, List.length_drop, List.length_map]; omega
end
section
variable {C : Cx} {n : Nat} {row heads fo : List Nat}
noncomputable abbrev clV (row heads fo : List Nat) (ap aj as_ : Addr) (x : CS) : List (Str × VP) :=
  [(Str.ofString "row", dat (nats row)), (Str.ofString "heads", dat (nats heads)), (Str.ofString "folders", dat (nats fo)),
    (Str.ofString "passed", own ap (natss x.P)), (Str.ofString "jumps", own aj (intz x.J)), (Str.ofString "spots", own as_ (intz x.S))]
noncomputable abbrev clY (ap aj as_ : Addr) : Al → Prop := fun Y => ¬ Y ap ∧ ¬ Y aj ∧ ¬ Y as_ ∧ aj ≠ ap ∧ as_ ≠ ap ∧ as_ ≠ aj
noncomputable abbrev clR (x : CS) : D := .tup [.list (natss x.P), .list (intz x.J)]
noncomputable abbrev pairQ (a c : Addr) (ds es : List D) : Heap → Flow → Vw → Prop := fun b fl k => Ext b k.h ∧ ∃ v, fl = .ret v ∧ (pairV a c ds es).p k v
theorem climb_tail (k : Kx C) {b : Heap} {L : Nat} (o : ClOk row heads fo) {ap aj as_ : Addr} (x : CS) (hx : CInv row 300 x) (hap : b.get? ap = none) (hY : clY ap aj as_ (fun _ => False)) :
    Tr C (n + 8) ((ff C 153 b L (clV row heads fo ap aj as_ x) (HP.vw (clY ap aj as_))).W C)
      (execs ((bodyOf C.w.params 153).drop 4) (fenv (fdOf C.w.params 153) 153 L)) (pairQ ap aj (natss (x.last row).P) (intz (x.last row).J) b) := by
  conv in (bodyOf _ _) => whnf
  show Tr _ _ _ (execs [_, _, _] _) _
  have hsd := sideOf_lt x.S
  have hS0 : (intz x.S)[0]? = some (.int (x.S.getD 0 0 : Nat)) := intz_get (show 0 < x.S.length by rw [hx.S]; omega)
  have hS1 : (intz x.S)[1]? = some (.int (x.S.getD 1 0 : Nat)) := intz_get (show 1 < x.S.length by rw [hx.S]; omega)
  have hSs : (intz x.S)[sideOf x.S]? = some (.int (x.S.getD (sideOf x.S) 0 : Nat)) := intz_get (show sideOf x.S < x.S.length by rw [hx.S]; omega)
  have hSl : (intz x.S).length = 2 := by simp [hx.S]
  have hPl : (natss x.P).length = 2 := by simp [hx.P]
  have hs0 := hx.s _ (getD_mem2 (show 0 < x.S.length by rw [hx.S]; omega))
  have hs1 := hx.s _ (getD_mem2 (show 1 < x.S.length by rw [hx.S]; omega))
  have hss := hx.s _ (getD_mem2 (show sideOf x.S < x.S.length by rw [hx.S]; omega))
  have hrn := o.n
  have hmn : mnOf x.S ≤ x.S.getD (sideOf x.S) 0 := by unfold mnOf sideOf; split <;> omega
  refine Tr.assignS (f := ff C 153 b L (clV row heads fo ap aj as_ x) (HP.vw (clY ap aj as_))) (R := dat (.int (sideOf x.S))) ?_ (.inl rfl) (dat_stab _) rfl ?_
  · refine Ev.ifexp (b := decide (((x.S.getD 1 0 : Nat) : Int) < (x.S.getD 0 0 : Nat))) (Ts.cmp (R1 := dat (.int (x.S.getD 0 0 : Nat))) (R2 := dat (.int (x.S.getD 1 0 : Nat))) (Ev.itemO (k := 0) (by walk_at "nm") Ev.int hS0 (by omega)) (Ev.itemO (k := 1) (by walk_at "nm") Ev.int hS1 (by omega)) cmp_gt rfl) (fun e => ?_) (fun e => ?_)
    · have : sideOf x.S = 0 := by unfold sideOf; rw [if_pos]; simpa using e
      rw [this]; exact Ev.int
    · have : sideOf x.S = 1 := by unfold sideOf; rw [if_neg]; simpa using e
      rw [this]; exact Ev.int
  refine Tr.setItem (f := ff C 153 b L ((Str.ofString "side", dat (.int (sideOf x.S))) :: clV row heads fo ap aj as_ x) (HP.vw (clY ap aj as_))) (a := ap) (ds := natss x.P) (i := sideOf x.S) (d := nats (x.P.getD (sideOf x.S) [] ++ seg row (mnOf x.S + 1) (x.S.getD (sideOf x.S) 0)))
    [(Str.ofString "passed", own ap (natss (x.last row).P)), (Str.ofString "jumps", own aj (intz x.J))] ?_ rfl rfl (by walk_at "nm") (by omega) (by omega) (fun k h => h.1) hap vw_turns ?_ rfl ?_
  · refine Ev.more (s := x.S.getD (sideOf x.S) 0) (by walk_at "nm") (by walk_at "nm") (by walk_at "nm") ?_ ?_ (by rw [hx.P]; exact hsd) (by rw [hx.P]; omega) hrn ?_ (by omega) hss (by intro _ _; with_unfolding_all rfl) (by intro _ _; with_unfolding_all rfl) (by intro _ _; rfl)
    · refine (Ev.bin (R1 := dat (.int (mnOf x.S))) (R2 := dat (.int 1)) ?_ Ev.int op_add).eq (by simp)
      have e : ((mnOf x.S : Nat) : Int) = (if ((x.S.getD 1 0 : Nat) : Int) < (x.S.getD 0 0 : Nat) then ((x.S.getD 1 0 : Nat) : Int) else (x.S.getD 0 0 : Nat)) := by
        unfold mnOf
        by_cases h : x.S.getD 1 0 < x.S.getD 0 0
        · rw [if_pos h, if_pos (by omega)]
        · rw [if_neg h, if_neg (by omega)]
      rw [e]
      refine Ev.callB (Rs := [own as_ [.int (x.S.getD 0 0 : Nat), .int (x.S.getD 1 0 : Nat)]]) (Ev.bi k bn_min rfl rfl (by decide) rfl) (Evl.cons ?_ .nil) (call1 do_min2o)
      have e2 : intz x.S = [.int (x.S.getD 0 0 : Nat), .int (x.S.getD 1 0 : Nat)] := by
        obtain ⟨u, v, hS⟩ := two_of hx.S
        rw [hS]; rfl
      rw [← e2]
      walk_at "nm"
    · exact (Ev.bin (R1 := dat (.int (x.S.getD (sideOf x.S) 0 : Nat))) (R2 := dat (.int 1)) (Ev.itemO (k := sideOf x.S) (by walk_at "nm") (by walk_at "nm") hSs (by omega)) Ev.int op_add).eq (by simp)
    · have : (x.P.getD (sideOf x.S) []).length ≤ 300 * 100 := hx.p _ (by rw [List.getD_eq_getElem?_getD, List.getElem?_eq_getElem (by rw [hx.P]; exact hsd)]; exact List.getElem_mem _)
      omega
  · refine List.forall_mem_cons.mpr ⟨.inl ?_, List.forall_mem_cons.mpr ⟨.inr ⟨rfl, own_stab, own_turns hY.2.2.2.1⟩, List.forall_mem_nil _⟩⟩
    show (_, own ap (natss (x.last row).P)) = (_, own ap _)
    rw [show natss (x.last row).P = (natss x.P).set (sideOf x.S) (nats (x.P.getD (sideOf x.S) [] ++ seg row (mnOf x.S + 1) (x.S.getD (sideOf x.S) 0))) from natss_set]
  exact Tr.retS (f := ff C 153 b L [(Str.ofString "passed", own ap (natss (x.last row).P)), (Str.ofString "jumps", own aj (intz x.J))] (HP.vw (clY ap aj as_))) (R := pairV ap aj (natss (x.last row).P) (intz x.J)) (Ev.pair (Evl.cons (by walk_at "nm") (Evl.cons (by walk_at "nm") .nil))) fun k v h1 h2 => ⟨h1.ext, v, rfl, h2⟩
end
local macro_rules | `(tactic| walk_at "und") => `(tactic| (repeat' (first | exact List.forall_mem_nil _ | refine List.forall_mem_cons.mpr ⟨?_, ?_⟩)) <;> (first | exact .inl rfl | exact .inr rfl))
section
variable {C : Cx} {n : Nat} {row heads fo : List Nat}
noncomputable abbrev clF (ap aj as_ I : Addr) (m i : Nat) : HP := (HP.vw (clY ap aj as_)).and (rgF I m i)
noncomputable abbrev clVT (row heads fo : List Nat) (ap aj as_ : Addr) (x : CS) (i : Nat) : List (Str × VP) := (Str.ofString "tops", dat (nats (x.S.map (tpx heads)))) :: (Str.ofString "step", dat (.int i)) :: clV row heads fo ap aj as_ x
theorem climb_turn (k : Kx C) {b : Heap} {L : Nat} (o : ClOk row heads fo) {ap aj as_ I : Addr} {m i ei j : Nat} (x : CS) (hx : CInv row j x) (hj : j ≤ 300) (hap : b.get? ap = none) (haj : b.get? aj = none) (has : b.get? as_ = none) (hY : clY ap aj as_ (fun _ => False)) {Q : Flow → Vw → Prop} {stm : List Stmt}
    (hstm : stm = (match (bodyOf C.w.params 153)[3]? with | some (PySem.Stmt.For _ _ bd _ _) => bd.drop 2 | _ => []))
    (hQ : ∀ k, (ff C 153 b L (clV row heads fo ap aj as_ (x.step row heads fo)) (clF ap aj as_ I m i)).W C k → Q .next k) :
    Tr C (n + 8) ((ff C 153 b L (clVT row heads fo ap aj as_ x ei) (clF ap aj as_ I m i)).W C) (execs stm (fenv (fdOf C.w.params 153) 153 L)) Q := by
  subst hstm
  conv in (bodyOf _ _) => whnf
  show Tr _ _ _ (execs [_, _, _, _] _) _
  have hsd := sideOf_lt x.S
  have hS0 : (intz x.S)[0]? = some (.int (x.S.getD 0 0 : Nat)) := intz_get (show 0 < x.S.length by rw [hx.S]; omega)
  have hS1 : (intz x.S)[1]? = some (.int (x.S.getD 1 0 : Nat)) := intz_get (show 1 < x.S.length by rw [hx.S]; omega)
  have hSs : (intz x.S)[sideOf x.S]? = some (.int (x.S.getD (sideOf x.S) 0 : Nat)) := intz_get (show sideOf x.S < x.S.length by rw [hx.S]; omega)
  have hJs : (intz x.J)[sideOf x.S]? = some (.int (x.J.getD (sideOf x.S) 0 : Nat)) := intz_get (show sideOf x.S < x.J.length by rw [hx.J]; omega)
  have hTs : ((x.S.map (tpx heads)).map fun (i : Nat) => D.int i)[sideOf x.S]? = some (.int (tpx heads (x.S.getD (sideOf x.S) 0) : Nat)) := by simp only [List.getElem?_map, getq (show sideOf x.S < x.S.length by rw [hx.S]; omega) 0, Option.map_some]
  have hSl : (intz x.S).length = 2 := by simp [hx.S]
  have hJl : (intz x.J).length = 2 := by simp [hx.J]
  have hPl : (natss x.P).length = 2 := by simp [hx.P]
  have hTl : ((x.S.map (tpx heads)).map fun (i : Nat) => D.int i).length = 2 := by simp [hx.S]
  have hss := hx.s _ (getD_mem2 (show sideOf x.S < x.S.length by rw [hx.S]; omega))
  have hrn := o.n
  have hle := o.le _ hss
  generalize hs : x.S.getD (sideOf x.S) 0 = s at hSs hTs hss hle
  generalize ht : tpx heads s = t at hTs hle
  have htl : t < row.length := by omega
  -- side
  refine Tr.assignS (f := ff C 153 b L (clVT row heads fo ap aj as_ x ei) (clF ap aj as_ I m i)) (R := dat (.int (sideOf x.S))) ?_ (.inl rfl) (dat_stab _) rfl ?_
  · refine Ev.ifexp (b := decide (((x.S.getD 1 0 : Nat) : Int) < (x.S.getD 0 0 : Nat))) (Ts.cmp (R1 := dat (.int (x.S.getD 0 0 : Nat))) (R2 := dat (.int (x.S.getD 1 0 : Nat))) (Ev.itemO (k := 0) (by walk_at "nm") Ev.int hS0 (by omega)) (Ev.itemO (k := 1) (by walk_at "nm") Ev.int hS1 (by omega)) cmp_gt rfl) (fun e => ?_) (fun e => ?_)
    · have : sideOf x.S = 0 := by unfold sideOf; rw [if_pos]; simpa using e
      rw [this]; exact Ev.int
    · have : sideOf x.S = 1 := by unfold sideOf; rw [if_neg]; simpa using e
      rw [this]; exact Ev.int
  -- passed
  refine Tr.setItem (f := ff C 153 b L ((Str.ofString "side", dat (.int (sideOf x.S))) :: clVT row heads fo ap aj as_ x ei) (clF ap aj as_ I m i)) (a := ap) (ds := natss x.P) (i := sideOf x.S) (d := nats (x.P.getD (sideOf x.S) [] ++ seg row t s))
    [(Str.ofString "side", dat (.int (sideOf x.S))), (Str.ofString "tops", dat (nats (x.S.map (tpx heads)))), (Str.ofString "row", dat (nats row)), (Str.ofString "heads", dat (nats heads)), (Str.ofString "folders", dat (nats fo)),
      (Str.ofString "passed", own ap (natss (x.step row heads fo).P)), (Str.ofString "jumps", own aj (intz x.J)), (Str.ofString "spots", own as_ (intz x.S))] ?_ rfl rfl (by walk_at "nm") (by omega) (by omega) (fun k h => h.1.1) hap (vw_turns.and rgF_turns) ?_ rfl ?_
  · refine Ev.more (s := s) (t := t) (by walk_at "nm") (by walk_at "nm") (by walk_at "nm") ?_ ?_ (by rw [hx.P]; exact hsd) (by rw [hx.P]; omega) hrn ?_ (by omega) hss (by intro _ _; with_unfolding_all rfl) (by intro _ _; with_unfolding_all rfl) (by intro _ _; rfl)
    · exact Ev.itemN (k := sideOf x.S) (by walk_at "nm") (by walk_at "nm") hTs (by omega)
    · exact (Ev.bin (R1 := dat (.int (s : Nat))) (R2 := dat (.int 1)) (Ev.itemO (k := sideOf x.S) (by walk_at "nm") (by walk_at "nm") hSs (by omega)) Ev.int op_add).eq (by simp)
    · have : (x.P.getD (sideOf x.S) []).length ≤ j * 100 := hx.p _ (by rw [List.getD_eq_getElem?_getD, List.getElem?_eq_getElem (by rw [hx.P]; exact hsd)]; exact List.getElem_mem _)
      omega
  · have e : own ap (natss (x.step row heads fo).P) = own ap ((natss x.P).set (sideOf x.S) (nats (x.P.getD (sideOf x.S) [] ++ seg row t s))) := by rw [← natss_set, ← hs, ← ht, ← hs]; rfl
    refine List.forall_mem_cons.mpr ⟨.inr ⟨rfl, dat_stab _, dat_turns⟩, List.forall_mem_cons.mpr ⟨.inr ⟨rfl, dat_stab _, dat_turns⟩, List.forall_mem_cons.mpr ⟨.inr ⟨rfl, dat_stab _, dat_turns⟩, List.forall_mem_cons.mpr ⟨.inr ⟨rfl, dat_stab _, dat_turns⟩, List.forall_mem_cons.mpr ⟨.inr ⟨rfl, dat_stab _, dat_turns⟩, List.forall_mem_cons.mpr ⟨.inl ?_, List.forall_mem_cons.mpr ⟨.inr ⟨rfl, own_stab, own_turns hY.2.2.2.1⟩, List.forall_mem_cons.mpr ⟨.inr ⟨rfl, own_stab, own_turns hY.2.2.2.2.1⟩, List.forall_mem_nil _⟩⟩⟩⟩⟩⟩⟩⟩
    rw [e]
  -- jumps
  refine Tr.setItem (f := ff C 153 b L [(Str.ofString "side", dat (.int (sideOf x.S))), (Str.ofString "tops", dat (nats (x.S.map (tpx heads)))), (Str.ofString "row", dat (nats row)), (Str.ofString "heads", dat (nats heads)), (Str.ofString "folders", dat (nats fo)),
      (Str.ofString "passed", own ap (natss (x.step row heads fo).P)), (Str.ofString "jumps", own aj (intz x.J)), (Str.ofString "spots", own as_ (intz x.S))] (clF ap aj as_ I m i)) (a := aj) (ds := intz x.J) (i := sideOf x.S) (d := .int ((x.J.getD (sideOf x.S) 0 + 1 : Nat) : Int))
    [(Str.ofString "side", dat (.int (sideOf x.S))), (Str.ofString "tops", dat (nats (x.S.map (tpx heads)))), (Str.ofString "row", dat (nats row)), (Str.ofString "heads", dat (nats heads)), (Str.ofString "folders", dat (nats fo)),
      (Str.ofString "passed", own ap (natss (x.step row heads fo).P)), (Str.ofString "jumps", own aj (intz (x.step row heads fo).J)), (Str.ofString "spots", own as_ (intz x.S))] ?_ rfl rfl (by walk_at "nm") (by omega) (by omega) (fun k h => h.1.2.1) haj (vw_turns.and rgF_turns) ?_ rfl ?_
  · exact (Ev.bin (R1 := dat (.int (x.J.getD (sideOf x.S) 0 : Nat))) (R2 := dat (.int 1)) (Ev.itemO (k := sideOf x.S) (by walk_at "nm") (by walk_at "nm") hJs (by omega)) Ev.int op_add).eq (by simp)
  · have e : own aj (intz (x.step row heads fo).J) = own aj ((intz x.J).set (sideOf x.S) (.int ((x.J.getD (sideOf x.S) 0 + 1 : Nat) : Int))) := by rw [← intz_set]; rfl
    refine List.forall_mem_cons.mpr ⟨.inr ⟨rfl, dat_stab _, dat_turns⟩, List.forall_mem_cons.mpr ⟨.inr ⟨rfl, dat_stab _, dat_turns⟩, List.forall_mem_cons.mpr ⟨.inr ⟨rfl, dat_stab _, dat_turns⟩, List.forall_mem_cons.mpr ⟨.inr ⟨rfl, dat_stab _, dat_turns⟩, List.forall_mem_cons.mpr ⟨.inr ⟨rfl, dat_stab _, dat_turns⟩, List.forall_mem_cons.mpr ⟨.inr ⟨rfl, own_stab, own_turns (Ne.symm hY.2.2.2.1)⟩, List.forall_mem_cons.mpr ⟨.inl ?_, List.forall_mem_cons.mpr ⟨.inr ⟨rfl, own_stab, own_turns hY.2.2.2.2.2⟩, List.forall_mem_nil _⟩⟩⟩⟩⟩⟩⟩⟩
    rw [e]
  -- spots
  refine Tr.setItem (f := ff C 153 b L [(Str.ofString "side", dat (.int (sideOf x.S))), (Str.ofString "tops", dat (nats (x.S.map (tpx heads)))), (Str.ofString "row", dat (nats row)), (Str.ofString "heads", dat (nats heads)), (Str.ofString "folders", dat (nats fo)),
      (Str.ofString "passed", own ap (natss (x.step row heads fo).P)), (Str.ofString "jumps", own aj (intz (x.step row heads fo).J)), (Str.ofString "spots", own as_ (intz x.S))] (clF ap aj as_ I m i)) (a := as_) (ds := intz x.S) (i := sideOf x.S) (d := .int (row.idxOf (fo.getD (row.getD t 0) 0) : Nat))
    (clV row heads fo ap aj as_ (x.step row heads fo)) ?_ rfl rfl (by walk_at "nm") (by omega) (by omega) (fun k h => h.1.2.2.1) has (vw_turns.and rgF_turns) ?_ rfl (Tr.nil hQ)
  · have hrt : row.getD t 0 < row.length := o.lt _ (getD_mem2 htl)
    refine Ev.meth (T := "list") (R1 := dat (nats row)) (Rs := [dat (.int (fo.getD (row.getD t 0) 0 : Nat))]) m_index ofType_list (by walk_at "nm") (Evl.cons ?_ .nil) fun v vs A s' E Y hA hs hY ⟨z1, z2⟩ => ?_
    · refine Ev.itemN (ds := fo.map fun (i : Nat) => D.int i) (k := row.getD t 0) (by walk_at "nm") ?_ (by simp only [List.getElem?_map, getq (show row.getD t 0 < fo.length by rw [o.fl]; exact hrt) 0, Option.map_some]) (by simp [o.fl]; omega)
      exact Ev.itemN (ds := row.map fun (i : Nat) => D.int i) (k := t) (by walk_at "nm") (Ev.itemN (k := sideOf x.S) (by walk_at "nm") (by walk_at "nm") hTs (by omega)) (by simp only [List.getElem?_map, getq htl 0, Option.map_some]) (by simp; omega)
    · obtain ⟨u, rfl, z3⟩ := z2.one
      exact do_index (o.fold htl) (by omega) v u A s' E Y hA hs hY ⟨z1, z3⟩
  · have e : own as_ (intz (x.step row heads fo).S) = own as_ ((intz x.S).set (sideOf x.S) (.int (row.idxOf (fo.getD (row.getD t 0) 0) : Nat))) := by rw [← intz_set, ← ht, ← hs]; rfl
    refine List.forall_mem_cons.mpr ⟨.inr ⟨rfl, dat_stab _, dat_turns⟩, List.forall_mem_cons.mpr ⟨.inr ⟨rfl, dat_stab _, dat_turns⟩, List.forall_mem_cons.mpr ⟨.inr ⟨rfl, dat_stab _, dat_turns⟩, List.forall_mem_cons.mpr ⟨.inr ⟨rfl, own_stab, own_turns (Ne.symm hY.2.2.2.2.1)⟩, List.forall_mem_cons.mpr ⟨.inr ⟨rfl, own_stab, own_turns (Ne.symm hY.2.2.2.2.2)⟩, List.forall_mem_cons.mpr ⟨.inl ?_, List.forall_mem_nil _⟩⟩⟩⟩⟩⟩
    rw [e]
end
section
variable {C : Cx} {n : Nat} {row heads fo : List Nat}
theorem climb_loop (k : Kx C) {b : Heap} {L : Nat} (o : ClOk row heads fo) {one other : Nat} (h1 : one ∈ row) (h2 : other ∈ row) {ap aj as_ : Addr} (hap : b.get? ap = none) (haj : b.get? aj = none) (has : b.get? as_ = none) (hY : clY ap aj as_ (fun _ => False)) :
    Tr C (n + 8) ((ff C 153 b L (clV row heads fo ap aj as_ (CS.start row one other)) (HP.vw (clY ap aj as_))).W C)
      (execs ((bodyOf C.w.params 153).drop 3) (fenv (fdOf C.w.params 153) 153 L)) (pairQ ap aj (natss (climb row heads fo one other).P) (intz (climb row heads fo one other).J) b) := by
  have hT := climb_tail (n := n) (L := L) k o (CS.it row heads fo (CS.start row one other) (2 * row.length)) (by
    have c := CInv.it o (CInv.start h1 h2) (2 * row.length)
    have := o.n
    exact ⟨c.P, c.J, c.S, c.s, fun p hp => by have := c.p p hp; omega⟩) hap hY
  have hturn := fun (x : CS) (i ei j : Nat) (I : Addr) (m : Nat) hx hj Q stm hs hQ => climb_turn (n := n) (L := L) k o (I := I) (m := m) (i := i) (ei := ei) (j := j) x hx hj hap haj has hY (Q := Q) (stm := stm) hs hQ
  have hrn := o.n
  conv in (bodyOf _ _) => whnf
  refine Tr.cons (P' := fun q => (ff C 153 b L (clV row heads fo ap aj as_ (CS.it row heads fo (CS.start row one other) (2 * row.length))) (HP.vw (clY ap aj as_))).W C q) ?_ hT
  refine Tr.forG (f := ff C 153 b L [] .top) (m := 2 * row.length) (pv := clY ap aj as_) (fun i => clV row heads fo ap aj as_ (CS.it row heads fo (CS.start row one other) i))
    (Ev.bi k bn_range rfl rfl (by decide) rfl) ?_ (by omega) rfl (fun i => by walk_at "sfo") (fun I i hi => ?_) (fun k w => w)
  · refine (Ev.bin (R1 := dat (.int 2)) (R2 := dat (.int (row.length : Nat))) Ev.int ?_ (op_mul (by omega) (by omega))).eq (by simp)
    exact (Ev.callB (Ev.bi k bn_len rfl rfl (by decide) rfl) (Evl.cons (R := dat (nats row)) (by walk_at "nm") .nil) (call1 (do_len (by simp; omega)))).eq (by simp)
  have hx := CInv.it o (CInv.start h1 h2) i
  have hnext : CS.it row heads fo (CS.start row one other) (i + 1) = if (CS.it row heads fo (CS.start row one other) i).done heads then CS.it row heads fo (CS.start row one other) i else (CS.it row heads fo (CS.start row one other) i).step row heads fo := rfl
  have hbrk : (CS.it row heads fo (CS.start row one other) i).done heads = true → CS.it row heads fo (CS.start row one other) (2 * row.length) = CS.it row heads fo (CS.start row one other) i := fun h => by
    have := it_stay h (2 * row.length - i)
    rwa [show i + (2 * row.length - i) = 2 * row.length by omega] at this
  generalize hxx : CS.it row heads fo (CS.start row one other) i = x at hx hnext hbrk
  have hS0 : ((x.S.map (tpx heads)).map fun (i : Nat) => D.int i)[0]? = some (.int (tpx heads (x.S.getD 0 0) : Nat)) := by simp only [List.getElem?_map, getq (show 0 < x.S.length by rw [hx.S]; omega) 0, Option.map_some]
  have hS1 : ((x.S.map (tpx heads)).map fun (i : Nat) => D.int i)[1]? = some (.int (tpx heads (x.S.getD 1 0) : Nat)) := by simp only [List.getElem?_map, getq (show 1 < x.S.length by rw [hx.S]; omega) 0, Option.map_some]
  have hTl : ((x.S.map (tpx heads)).map fun (i : Nat) => D.int i).length = 2 := by simp [hx.S]
  -- tops
  refine Tr.cons (P' := fun q => (ff C 153 b L (clVT row heads fo ap aj as_ x i) (clF ap aj as_ I (2 * row.length) (i + 1))).W C q) ?_ ?_
  · refine Tr.assignComp (f := ff C 153 b L ((Str.ofString "step", dat (.int i)) :: clV row heads fo ap aj as_ x) (clF ap aj as_ I (2 * row.length) (i + 1))) (ds := intz x.S) (fun _ => true) (fun j => D.int (tpx heads (x.S.getD j 0) : Nat)) (fun b d => [(Str.ofString "spot", VP.at b (dat d))])
      (by walk_at "kns") (vw_kq.and rgF_kq) rfl rfl (Src.own (by walk_at "nm")) (by rfl) (by simp [hx.S]) (fun b' L' d hd => Tgt2.local rfl rfl) (fun b' L' j d hd => .inl ⟨rfl, rfl⟩) (fun b' L' j d hd hp => ?_) Owned.name (fun q w => ?_)
    · have hj : j < x.S.length := by
        have := (List.getElem?_eq_some_iff.mp hd).1
        simpa using this
      have hd' : d = .int (x.S.getD j 0 : Nat) := by
        rw [intz_get hj] at hd
        exact (Option.some.inj hd).symm
      subst hd'
      have hs := hx.s _ (getD_mem2 hj)
      generalize x.S.getD j 0 = s at hs
      have h1 := o.one s hs
      have h2 := o.bisle s
      have hhl := o.hl
      refine Ev.itemN (ds := heads.map fun (i : Nat) => D.int i) (k := bis (fun j => decide (heads.getD j 0 ≤ s)) 0 heads.length - 1) (Ev.here (by walk_at "nm")) ?_ ?_ (by simp; omega)
      · refine (Ev.bin (R1 := dat (.int (bis (fun j => decide (heads.getD j 0 ≤ s)) 0 heads.length : Nat))) (R2 := dat (.int 1)) ?_ Ev.int op_sub).eq (by rw [show ((bis (fun j => decide (heads.getD j 0 ≤ s)) 0 heads.length - 1 : Nat) : Int) = (bis (fun j => decide (heads.getD j 0 ≤ s)) 0 heads.length : Nat) - 1 by omega])
        refine Ev.callF (Rs := [dat (nats heads), dat (.int (s : Nat))]) (fn_bisect_right k) (Ev.gl k rfl rfl rfl) (Evl.cons (Ev.here (by walk_at "nm")) (Evl.cons (Ev.here (by walk_at "nm")) .nil)) fun vs A s' E Y hA hs' hY z1 => ?_
        obtain ⟨u, v, rfl, z3, z4⟩ := two z1
        refine do_br2 (n := n + 7) k (fun j => decide (heads.getD j 0 ≤ s)) (fun i a e => ?_) (by omega) u v A s' E Y hA hs' hY ⟨z3, z4⟩
        have : heads.getD i 0 = a := by rw [List.getD_eq_getElem?_getD, e]; rfl
        show _ = !decide (heads.getD i 0 ≤ s)
        rw [this, Bool.eq_iff_iff]
        simp
      · simp only [List.getElem?_map]
        rw [getq (show bis (fun j => decide (heads.getD j 0 ≤ s)) 0 heads.length - 1 < heads.length by omega) 0]
        rfl
    · have e : (((List.range (intz x.S).length).filter fun _ => true).map fun j => D.int (tpx heads (x.S.getD j 0) : Nat)) = (x.S.map (tpx heads)).map fun (i : Nat) => D.int i := by
        obtain ⟨u, v, hS⟩ := two_of hx.S
        rw [hS]; rfl
      rw [e] at w
      exact w
  -- break
  refine Tr.ifS (f := ff C 153 b L (clVT row heads fo ap aj as_ x i) (clF ap aj as_ I (2 * row.length) (i + 1))) (c := x.done heads) (fun q => x.done heads = false ∧ (ff C 153 b L (clVT row heads fo ap aj as_ x i) (clF ap aj as_ I (2 * row.length) (i + 1))).W C q) ?_ (fun hd => ?_) (fun hd => Tr.nil fun q w => ⟨hd, w⟩) ?_
  · refine (Ts.cmp (Ev.itemN (k := 0) (by walk_at "nm") Ev.int hS0 (by omega)) (Ev.itemN (k := 1) (by walk_at "nm") Ev.int hS1 (by omega)) cmp_eq rfl).eq ?_
    unfold CS.done
    rw [Bool.eq_iff_iff]
    simp only [beq_iff_eq]
    omega
  · refine Tr.exprEnd fun A s E Y hA hs hYo w => wpAny_Break ⟨hs, hYo, ?_⟩
    show (ff C 153 b L (clV row heads fo ap aj as_ _) (HP.vw (clY ap aj as_))).W C _
    rw [hbrk hd]
    exact FS.W.weakF (f := ff C 153 b L (clV row heads fo ap aj as_ x) (clF ap aj as_ I (2 * row.length) (i + 1))) (w.weaken (fun y R e => by
      have e' := mem_of_lookup e
      simp only [List.mem_cons, List.not_mem_nil, or_false, Prod.mk.injEq] at e'
      rcases e' with ⟨rfl, rfl⟩ | ⟨rfl, rfl⟩ | ⟨rfl, rfl⟩ | ⟨rfl, rfl⟩ | ⟨rfl, rfl⟩ | ⟨rfl, rfl⟩ <;> rfl)) (fun h => h.1) vw_stab
  refine Tr.andl fun hd => ?_
  refine hturn x (i + 1) i i I (2 * row.length) hx (by omega) _ _ rfl fun q w => ?_
  show (ff C 153 b L (clV row heads fo ap aj as_ _) _).W C q
  rw [hnext, hd]
  exact w
end
section
variable {C : Cx} {n : Nat} {row heads fo : List Nat}
theorem body_climb (k : Kx C) {b : Heap} {L : Nat} (o : ClOk row heads fo) {one other : Nat} (h1 : one ∈ row) (h2 : other ∈ row) :
    Tr C (n + 8) ((ff C 153 b L [(Str.ofString "row", VP.at b (dat (nats row))), (Str.ofString "heads", VP.at b (dat (nats heads))), (Str.ofString "folders", VP.at b (dat (nats fo))), (Str.ofString "one", VP.at b (dat (.int one))), (Str.ofString "other", VP.at b (dat (.int other)))] .top).W C)
      (execs (bodyOf C.w.params 153) (fenv (fdOf C.w.params 153) 153 L)) (givesQ (dat (clR (climb row heads fo one other))) b) := by
  have hloop := fun ap aj as_ h3 h4 h5 h6 => climb_loop (n := n) (L := L) (b := b) k o h1 h2 (ap := ap) (aj := aj) (as_ := as_) h3 h4 h5 h6
  have hrn := o.n
  conv in (bodyOf _ _) => whnf
  refine Tr.pre (P := (ff C 153 b L [(Str.ofString "row", dat (nats row)), (Str.ofString "heads", dat (nats heads)), (Str.ofString "folders", dat (nats fo)), (Str.ofString "one", dat (.int one)), (Str.ofString "other", dat (.int other))] (.vw fun _ => True)).W C) ?_ (fun q w =>
    FS.W.weakF (f := ff C 153 b L [(Str.ofString "row", dat (nats row)), (Str.ofString "heads", dat (nats heads)), (Str.ofString "folders", dat (nats fo)), (Str.ofString "one", dat (.int one)), (Str.ofString "other", dat (.int other))] .top) (FS.W.sub (f := ff C 153 b L _ .top) w (by walk_at "sub")) (fun _ => trivial) vw_stab)
  refine Tr.newOwn (f := ff C 153 b L _ (.vw fun _ => True)) (p := fun _ => True) (ds := [nats [], nats []]) (fun ap Y => ¬ Y ap) (fun ap fl q => Ext b q.h ∧ ∃ v aj, fl = .ret v ∧ q.Y aj ∧ (pairV ap aj (natss (climb row heads fo one other).P) (intz (climb row heads fo one other).J)).p q v) rfl
    (Evl.cons (Ev.list (ds := []) .nil) (Evl.cons (Ev.list (ds := []) .nil) .nil)) (by simp) rfl rfl (fun a Y _ hy h => h.2 rfl) (fun a fl h Y hy ⟨q1, v, aj, q2, q3, q4⟩ => ?_) (fun ap hap => ?_)
  · refine ⟨q1, v, q2, ?_⟩
    obtain ⟨t, rfl, y, ⟨m, i⟩, ⟨_, vs, l1, r1⟩, ⟨_, ws, l2, r2⟩⟩ := (pairV _ _ _ _).ref (Y' := Y) (fun _ _ _ h => h.1) q4
    simp only [dat, Rep]
    exact ⟨t, _, rfl, y, ⟨m, i⟩, .cons (by simp only [Rep]; exact ⟨a, vs, rfl, hy, l1, r1⟩) (.cons (by simp only [Rep]; exact ⟨aj, ws, rfl, q3.1, l2, r2⟩) .nil)⟩
  refine Tr.newOwn (f := ff C 153 b L _ (.vw fun Y => ¬ Y ap)) (p := fun Y => ¬ Y ap) (ds := intz [0, 0]) (fun aj Y => ¬ Y ap ∧ ¬ Y aj ∧ aj ≠ ap) (fun aj fl q => Ext b q.h ∧ ∃ v, fl = .ret v ∧ (pairV ap aj (natss (climb row heads fo one other).P) (intz (climb row heads fo one other).J)).p q v) rfl
    (Evl.cons Ev.int (Evl.cons Ev.int .nil)) (by simp) rfl rfl (fun a Y h hy => ⟨fun z => h z.1, fun z => z.2 rfl, fun z => h (z ▸ hy)⟩) (fun a fl h Y hy ⟨q1, v, q2, q3⟩ => ⟨q1, v, a, q2, hy, (pairV _ _ _ _).ref (fun _ _ _ h => h.1) q3⟩) (fun aj haj => ?_)
  refine Tr.newOwn (f := ff C 153 b L _ (.vw fun Y => ¬ Y ap ∧ ¬ Y aj ∧ aj ≠ ap)) (p := fun Y => ¬ Y ap ∧ ¬ Y aj ∧ aj ≠ ap) (ds := intz [row.idxOf one, row.idxOf other]) (fun as_ => clY ap aj as_) (fun as_ fl q => Ext b q.h ∧ ∃ v, fl = .ret v ∧ (pairV ap aj (natss (climb row heads fo one other).P) (intz (climb row heads fo one other).J)).p q v) rfl
    (Evl.cons ?_ (Evl.cons ?_ .nil)) (by simp) rfl rfl (fun a Y h hy => ⟨fun z => h.1 z.1, fun z => h.2.1 z.1, fun z => z.2 rfl, h.2.2, fun z => h.1 (z ▸ hy), fun z => h.2.1 (z ▸ hy)⟩) (fun a fl h Y hy ⟨q1, v, q2, q3⟩ => ⟨q1, v, q2, (pairV _ _ _ _).ref (fun _ _ _ h => h.1) q3⟩) (fun as_ has => ?_)
  · refine Ev.meth (T := "list") (R1 := dat (nats row)) (Rs := [dat (.int (one : Nat))]) m_index ofType_list (by walk_at "nm") (Evl.cons (by walk_at "nm") .nil) fun v vs A s' E Y hA hs hY ⟨z1, z2⟩ => ?_
    obtain ⟨u, rfl, z3⟩ := z2.one
    exact do_index h1 (by omega) v u A s' E Y hA hs hY ⟨z1, z3⟩
  · refine Ev.meth (T := "list") (R1 := dat (nats row)) (Rs := [dat (.int (other : Nat))]) m_index ofType_list (by walk_at "nm") (Evl.cons (by walk_at "nm") .nil) fun v vs A s' E Y hA hs hY ⟨z1, z2⟩ => ?_
    obtain ⟨u, rfl, z3⟩ := z2.one
    exact do_index h2 (by omega) v u A s' E Y hA hs hY ⟨z1, z3⟩
  refine Tr.fact (φ := clY ap aj as_ (fun _ => False)) (fun q w => ?_) fun hY => ?_
  · have h : clY ap aj as_ q.Y := w.toH.more
    exact ⟨id, id, id, h.2.2.2⟩
  refine Tr.pre (hloop ap aj as_ hap haj has hY) (fun q w => FS.W.weaken (f := ff C 153 b L _ (HP.vw (clY ap aj as_))) w (by
      intro y R e
      have e' := mem_of_lookup e
      simp only [List.mem_cons, List.not_mem_nil, or_false, Prod.mk.injEq] at e'
      rcases e' with ⟨rfl, rfl⟩ | ⟨rfl, rfl⟩ | ⟨rfl, rfl⟩ | ⟨rfl, rfl⟩ | ⟨rfl, rfl⟩ | ⟨rfl, rfl⟩ <;> rfl))
theorem do_climb (k : Kx C) (o : ClOk row heads fo) {one other : Nat} (h1 : one ∈ row) (h2 : other ∈ row) (a c d e g : Value) :
    Does C (n + 9) (fun q => (dat (nats row)).p q a ∧ (dat (nats heads)).p q c ∧ (dat (nats fo)).p q d ∧ (dat (.int one)).p q e ∧ (dat (.int other)).p q g) (call (.ref 153) [a, c, d, e, g]) (dat (clR (climb row heads fo one other))).p := fun A s E Y hA hs hY ⟨z0, z1, z2, z3, z4⟩ => by
  have hb : Bd s (fdOf C.w.params 153) ⟨[a, c, d, e, g], []⟩ [(Str.ofString "row", a), (Str.ofString "heads", c), (Str.ofString "folders", d), (Str.ofString "one", e), (Str.ofString "other", g)] := by
    have e : fdOf C.w.params 153 = fdOf C.w.params 153 := rfl
    conv at e => rhs; whnf
    rw [e]
    exact ⟨.of_eq rfl⟩
  refine callFn k (ρ := [(Str.ofString "row", dat (nats row)), (Str.ofString "heads", dat (nats heads)), (Str.ofString "folders", dat (nats fo)), (Str.ofString "one", dat (.int one)), (Str.ofString "other", dat (.int other))]) (F := .top) (q := givesQ (dat (clR (climb row heads fo one other)))) (fn_climb k) hA hs hY rfl hb (by walk_at "kinds") (by walk_at "nd") (List.forall_mem_cons.mpr ⟨⟨_, rfl, z0⟩, List.forall_mem_cons.mpr ⟨⟨_, rfl, z1⟩, List.forall_mem_cons.mpr ⟨⟨_, rfl, z2⟩, List.forall_mem_cons.mpr ⟨⟨_, rfl, z3⟩, List.forall_mem_cons.mpr ⟨⟨_, rfl, z4⟩, List.forall_mem_nil _⟩⟩⟩⟩⟩) (fun _ _ => trivial) top_stab
    (fun L => body_climb k o h1 h2) fun fl s' q1 q2 ⟨q3, v, e, q4⟩ => ?_
  subst e
  exact ⟨q1, q3, q4⟩
end
theorem fold_lt' (N : List Int) {k : Nat} (h : k ≠ 0) : fold N k < k := by
  cases k with
  | zero => exact absurd rfl h
  | succ j => exact fold_lt N j
noncomputable def anc (N : List Int) (k : Nat) : List Nat := if h : k = 0 then [0] else k :: anc N (fold N k)
termination_by k
decreasing_by exact fold_lt' N h
noncomputable def nam (N : List Int) (p : Nat) : List Nat := (nmU N N.length).getD p []
noncomputable def wayL (N : List Int) (k : Nat) : List (List Nat) := (anc N k).map (nam N)
noncomputable def wL (N : List Int) : List (List (List Nat)) := (List.range (N.length + 1)).map (wayL N)
noncomputable def ksL (N : List Int) : List D := keysOf (wL N)
noncomputable def rowL (lt : Nat → Nat → Bool) (N : List Int) : List Nat := rowUp lt (N.length + 1) N.sum (N.length + 1)
noncomputable def headsL (N : List Int) (row : List Nat) : List Nat := (List.range (N.length + 1)).filter fun s => s == 0 || fold N (row.getD s 0) != row.getD (s - 1) 0
noncomputable def othL (N : List Int) (k : Nat) : Nat := ((3 * (k : Int) + N.sum).fmod ((N.length + 1 : Nat) : Int)).toNat
noncomputable def apL (N : List Int) (a b : Nat) : D := .list ((rest ((wayL N b).map S) ((wayL N a).map S) 0).map .str)
structure LawP (N : List Int) (lt lt1 : Nat → Nat → Bool) : Prop where
  lo : 1 ≤ N.length
  len : N.length ≤ 20
  ch : ∀ k, k ≤ N.length → ∀ j, j ≤ 2 → ∃ ps, Chain (anc N k).length ps ∧ wayL N k = (List.range (anc N k).length).map ps ∧ (nam N k ++ List.replicate j 47).length ≤ 1000 ∧ rst (nam N k ++ List.replicate j 47) = ps 0
  al : ∀ k, k ≤ N.length → (anc N k).length ≤ 100
  am : ∀ k, k ≤ N.length → ∀ p ∈ anc N k, p ≤ N.length
  ks : KeysOk lt (ksL N)
  k1 : Keys1 lt1 (ksL N)
  kl : ∀ (a : Nat) (X : List D), (ksL N)[a]? = some (.list X) → X.length ≤ 1000
  cl : ClOk (rowL lt N) (headsL N (rowL lt N)) (folds N)
  cp : ∀ a b, a ≤ N.length → b ≤ N.length → (climb (rowL lt N) (headsL N (rowL lt N)) (folds N) a b).P.length = 2 ∧ (climb (rowL lt N) (headsL N (rowL lt N)) (folds N) a b).J.length = 2 ∧ ∀ p ∈ (climb (rowL lt N) (headsL N (rowL lt N)) (folds N) a b).P, p.length ≤ 100000 ∧ ∀ x ∈ p, x ≤ N.length
  A : ∀ k, k ≤ N.length → ((climb (rowL lt N) (headsL N (rowL lt N)) (folds N) k 0).P.getD 0 []).map (nam N) ++ [nam N 0] = wayL N k
  B : ∀ k, k ≤ N.length → 2 ^ ((climb (rowL lt N) (headsL N (rowL lt N)) (folds N) k 0).J.getD 0 0 + 1) ≤ N.length + 2
  C : ∀ k, k ≤ N.length → D.list ((climb (rowL lt N) (headsL N (rowL lt N)) (folds N) k (othL N k)).P.map fun s => strsD (s.map (nam N))) = .list [apL N k (othL N k), apL N (othL N k) k]
  D' : ∀ k, k ≤ N.length → bel lt lt1 (rowL lt N) k = (rowL lt N).filter fun one => ((wayL N one).map S).contains (S (nam N k))
theorem deps_le {m : Nat} : ∀ {ds : List D}, (∀ d ∈ ds, dep d ≤ m) → deps ds ≤ m
  | [], _ => by simp [deps]
  | d :: ds, h => by
    rw [deps]
    have h1 := h d List.mem_cons_self
    have h2 := deps_le (ds := ds) fun e he => h e (List.mem_cons_of_mem _ he)
    omega
theorem dep_strs (l : List Str) : dep (.list (l.map .str)) ≤ 1 := by
  rw [dep]
  have := deps_le (m := 0) (ds := l.map D.str) fun d hd => by
    obtain ⟨x, _, rfl⟩ := List.mem_map.mp hd
    simp [dep]
  omega
theorem dep_nats (l : List Nat) : dep (nats l) ≤ 1 := by
  rw [dep]
  have := deps_le (m := 0) (ds := l.map fun (i : Nat) => D.int i) fun d hd => by
    obtain ⟨x, _, rfl⟩ := List.mem_map.mp hd
    simp [dep]
  omega
theorem rowL_len (lt : Nat → Nat → Bool) (N : List Int) : (rowL lt N).length = N.length + 1 := rowUp_len _ _ _ _
theorem rgM {k : Nat} {f g : Nat → D} : D.list (((List.range ((List.range k).map f).length).filter fun _ => true).map g) = D.list ((List.range k).map g) := by
  rw [List.filter_eq_self.mpr (fun _ _ => rfl)]; simp
theorem rgD {k i : Nat} {d : D} (h : ((List.range k).map fun (j : Nat) => D.int j)[i]? = some d) : i < k ∧ d = .int i := by
  have h1 := (List.getElem?_eq_some_iff.mp h).1
  rw [List.length_map, List.length_range] at h1
  refine ⟨h1, ?_⟩
  simp only [List.getElem?_map, List.getElem?_range h1, Option.map_some] at h
  exact (Option.some.inj h).symm
theorem nam_get (N : List Int) {p : Nat} (h : p ≤ N.length) : (((nmU N N.length).map S).map D.str)[p]? = some (.str (S (nam N p))) := by
  simp only [List.getElem?_map]
  rw [getq (show p < (nmU N N.length).length by rw [nmU_len]; omega) []]
  rfl
theorem fold_le (N : List Int) {k : Nat} : fold N k ≤ k := by
  by_cases h : k = 0
  · subst h; exact Nat.le_refl 0
  · exact Nat.le_of_lt (fold_lt' N h)
theorem fold_get (N : List Int) {p : Nat} (h : p ≤ N.length) : ((folds N).map fun (i : Nat) => D.int i)[p]? = some (.int (fold N p : Nat)) := by
  simp [folds, List.getElem?_range (show p < N.length + 1 by omega)]
section
variable {C : Cx} {n : Nat} {f : FS}
theorem Ev.itemT {v i : Expr} {pos : Pos} {ds : List D} {k : Nat} {d : D} (hv : Ev C n f v (dat (.tup ds))) (hi : Ev C n f i (dat (.int k))) (hk : ds[k]? = some d) (hl : ds.length ≤ 1000000)
    (hsub : ∀ a u, subscripted i false (.ref a) (.int k u) = operate [.ref a, .int k u] (getItem (.ref a) (.int k u)) := by intro _ _; with_unfolding_all rfl) : Ev C n f (.Subscript v i pos) (dat d) := fun A s E Y hA hs hY hp => by
  refine Subscript_ (wpAny_mono (hv A s E Y hA hs hY hp) (fun a s1 ⟨h1, h2, h3⟩ => wpAny_mono (hi A s1 E Y hA h1 (hY.ext h2) (hp.up h2)) (fun b s2 ⟨g1, g2, g3⟩ => ?_) fun _ _ e => e) fun _ _ e => e)
  obtain ⟨a, vs, rfl, ya, l, r⟩ := rep_tup ((dat _).ext g2 h3)
  obtain ⟨u, rfl⟩ := rep_int g3
  obtain ⟨x, hx, rx⟩ := r.get hk
  have hlt : k < ds.length := (List.getElem?_eq_some_iff.mp hk).1
  have hvl : vs.length = ds.length := r.length
  refine item_tupleT (l := vs) (j := k) l.isTup (by omega) (by omega) ?_ hx ⟨g1, h2.trans g2, rx⟩ (hsub _ _)
  unfold seqIndex?
  simp
  omega
end
local macro_rules | `(tactic| walk_at "kps") => `(tactic| (repeat' (first | exact List.forall_mem_nil _ | refine List.forall_mem_cons.mpr ⟨?_, ?_⟩)) <;> (first | exact at_kp | exact dat_kp))
section
variable {C : Cx} {n : Nat} {f : FS}
theorem TrL.assignS {env : Env} {x : Str} {p1 p2 : Pos} {e : Expr} {rest : List Stmt} {R : VP} {Q : Flow → Vw → Prop} (he : Ev C n f e R) (hx : f.sc.names.lookup x = some .local ∨ f.sc.names.lookup x = some .cell) (hst : R.Stab)
    (hsw : swapsWith e (some (.Name x p1)) p2.line f.env = pure false) (h : TrL C n env ((f.put x R).W C) (execs rest f.env) Q) : TrL C n env (f.W C) (execs (.Assign [.Name x p1] e p2 :: rest) f.env) Q :=
  TrL.cons (P' := (f.put x R).W C) (Tr.toL (Tr.assign he hx hst (fun _ h => h) hsw)) h
theorem TrL.skipIf {env : Env} {t : Expr} {x rest : List Stmt} {p : Pos} {Q : Flow → Vw → Prop} (ht : Ts C n f t false) (h : TrL C n env (f.W C) (execs rest f.env) Q) : TrL C n env (f.W C) (execs (.If t x [] p :: rest) f.env) Q :=
  TrL.cons (P' := f.W C) (Tr.toL (Tr.ite ht (fun e => by cases e) fun _ => Tr.nil fun _ h => h)) h
theorem TrL.pre {env : Env} {P P' : Vw → Prop} {t : Sem Flow} {Q : Flow → Vw → Prop} (h : TrL C n env P t Q) (hp : ∀ k, P' k → P k) : TrL C n env P' t Q := fun A s E Y hA hf hs hY p => h A s E Y hA hf hs hY (hp _ p)
theorem TrL.room {m : Nat} {env : Env} {P : Vw → Prop} {t : Sem Flow} {Q : Flow → Vw → Prop} (h : TrL C n env P t Q) (hm : n ≤ m := by omega) : TrL C m env P t Q := fun A s E Y hA hf hs hY p => h A s E Y (hA.le hm) hf hs hY p
variable {N : List Int} {lt lt1 : Nat → Nat → Bool}
noncomputable abbrev lwV (lt : Nat → Nat → Bool) (N : List Int) : List (Str × VP) :=
  [(Str.ofString "heads", dat (nats (headsL N (rowL lt N)))), (Str.ofString "row", dat (nats (rowL lt N))), (Str.ofString "keys", dat (.list (ksL N))), (Str.ofString "ways", dat (strss (wL N))), (Str.ofString "count", dat (.int (N.length + 1 : Nat))),
    (Str.ofString "names", dat (strsD (nmU N N.length))), (Str.ofString "folders", dat (nats (folds N))), (Str.ofString "turn", dat (.int N.sum))]
theorem way_get (N : List Int) {k : Nat} (h : k ≤ N.length) : ((wL N).map strsD)[k]? = some (strsD (wayL N k)) := by
  simp [wL, List.getElem?_range (show k < N.length + 1 by omega)]
theorem oth_le (N : List Int) (k : Nat) : othL N k ≤ N.length := by
  have := (fmod_lt (x := 3 * (k : Int) + N.sum) (show 0 < N.length + 1 by omega)).1
  unfold othL; omega
theorem row_mem (o : LawP N lt lt1) {k : Nat} (h : k ≤ N.length) : k ∈ rowL lt N := o.cl.has k (by rw [rowL_len]; omega)
noncomputable abbrev othD (N : List Int) : D := .list ((List.range (N.length + 1)).map fun k => D.int (othL N k : Nat))
noncomputable abbrev metD (lt : Nat → Nat → Bool) (N : List Int) : D := .list ((List.range (N.length + 1)).map fun k => D.list (natss (climb (rowL lt N) (headsL N (rowL lt N)) (folds N) k (othL N k)).P))
noncomputable abbrev apaD (N : List Int) : D := .list ((List.range (N.length + 1)).map fun k => D.list [apL N k (othL N k), apL N (othL N k) k])
theorem caps_get {b : Heap} {sc : Scope} {y : Str} {R : VP} (hf : sc.names.lookup y = some .free) : ∀ {ρ : List (Str × VP)}, ρ.lookup y = some R → (caps b sc ρ).lookup y = some (VP.at b R)
  | [], h => by cases h
  | (x, R') :: r, h => by
    unfold caps
    rw [List.lookup_cons] at h
    cases hy : y == x with
    | true =>
      simp only [hy] at h
      cases h
      have e : y = x := by simpa using hy
      subst e
      rw [List.filter_cons, if_pos (by rw [hf]; rfl), List.map_cons, List.lookup_cons]
      simp
    | false =>
      simp only [hy] at h
      rw [List.filter_cons]
      split
      · rw [List.map_cons, List.lookup_cons]
        simp only [hy]
        exact caps_get hf h
      · exact caps_get hf h
theorem Ev.namesOf (k : Kx C) {elt target iter : Expr} {sc : Scope} {pos px p1 p2 p3 : Pos} {l : List Nat} (helt : elt = .Subscript (.Name (Str.ofString "names") p1) (.Name (Str.ofString "one") p2) p3) (htg : target = .Name (Str.ofString "one") px)
    (hsc : sc = { kind := .function, names := [(Str.ofString ".0", NameKind.local), (Str.ofString "one", NameKind.local), (Str.ofString "names", NameKind.free)], isGenerator := false, isCoroutine := false })
    (hn : N.length ≤ 20) (hn2 : f.ρ.lookup (Str.ofString "names") = some (dat (strsD (nmU N N.length)))) (hsrc : Src C n f iter (l.map fun (i : Nat) => D.int i)) (hok : compOk sc f.sc (f.ρ.map (·.1)) = true) (hl : l.length ≤ 100000) (hlt : ∀ x ∈ l, x ≤ N.length)
    (hset : ∀ env x, foldedSetIterable iter env x = pure x) : Ev C n f (.ListComp elt [⟨target, iter, [], 0⟩] sc pos) (dat (strsD (l.map (nam N)))) := by
  subst helt htg hsc
  refine (Ev.comp2 (f := f) (ds := l.map fun (i : Nat) => D.int i) (fun _ => true) (fun i => .str (S (nam N (l.getD i 0)))) (fun b d => [(Str.ofString "one", VP.at b (dat d))]) hsrc hok (by simp; omega) (fun b L d hd => Tgt2.local rfl rfl) (fun b' L' j d hd => .inl ⟨rfl, rfl⟩) (fun b' L' j d hd hp => ?_) Owned.name hset).eq ?_
  · have hj : j < l.length := by
      have := (List.getElem?_eq_some_iff.mp hd).1
      simpa using this
    have hd' : d = .int (l.getD j 0 : Nat) := by
      simp only [List.getElem?_map, getq hj 0, Option.map_some] at hd
      exact (Option.some.inj hd).symm
    subst hd'
    have hm := hlt _ (getD_mem2 hj)
    refine Ev.itemN (ds := ((nmU N N.length).map S).map D.str) (k := l.getD j 0) (Ev.here (Ev.name ?_ (by rfl))) (Ev.here (by walk_at "nm")) (nam_get N hm) (by simp [nmU_len]; omega)
    show List.lookup (Str.ofString "names") ((Str.ofString "one", _) :: caps b' _ f.ρ) = _
    rw [List.lookup_cons, show (Str.ofString "names" == Str.ofString "one") = false from rfl]
    exact caps_get (b := b') rfl hn2
  · rw [List.filter_eq_self.mpr (fun _ _ => rfl), List.length_map]
    have := range_map l (fun x => D.str (S (nam N x))) 0
    rw [this]
    simp [strsD]
end
section
variable {C : Cx} {n : Nat} {N : List Int} {lt lt1 : Nat → Nat → Bool}
theorem range_filter_map {α β : Type} (l : List α) (q : α → Bool) (h : α → β) (d : α) : ((List.range l.length).filter fun i => q (l.getD i d)).map (fun i => h (l.getD i d)) = (l.filter q).map h := by
  induction l with
  | nil => rfl
  | cons a l ih =>
    rw [List.length_cons, List.range_succ_eq_map, List.filter_cons, List.filter_map]
    have e : ((fun i => q ((a :: l).getD i d)) ∘ Nat.succ) = fun i => q (l.getD i d) := rfl
    rw [e]
    have e2 : q ((a :: l).getD 0 d) = q a := rfl
    rw [e2, List.filter_cons]
    cases q a with
    | true =>
      simp only [if_true, List.map_cons, List.map_map]
      rw [← ih]; rfl
    | false =>
      simp only [Bool.false_eq_true, if_false, List.map_map]
      rw [← ih]; rfl
theorem law3 (k : Kx C) (hfz : C.fz = false) {b : Heap} {L : Nat} (o : LawP N lt lt1) :
    TrL C (n + 20) (fenv (fdOf C.w.params 165) 165 L) ((ff C 165 b L (lwV lt N) .top).W C) (execs ((bodyOf C.w.params 165).drop 12) (fenv (fdOf C.w.params 165) 165 L)) (givesQ (dat (.bool true)) b) := by
  conv in (bodyOf _ _) => whnf
  have hlen := o.len
  have hrl := rowL_len lt N
  -- others
  refine TrL.assignS (f := ff C 165 b L (lwV lt N) .top) (R := dat (othD N)) ?_ (.inr rfl) (dat_stab _) rfl ?_
  · refine (Ev.comp2 (f := ff C 165 b L (lwV lt N) .top) (ds := (List.range (N.length + 1)).map fun (j : Nat) => D.int j) (fun _ => true) (fun j => D.int (othL N j : Nat)) (fun b d => [(Str.ofString "k", VP.at b (dat d))])
      (Src.range (Ev.bi k bn_range rfl rfl (by decide) rfl) (by walk_at "nm") (by omega)) (by rfl) (by simp; omega) (fun b L d hd => Tgt2.local rfl rfl) (fun b' L' j d hd => .inl ⟨rfl, rfl⟩) (fun b' L' j d hd hp => ?_) Owned.name).eq rgM
    obtain ⟨hj, rfl⟩ := rgD hd
    refine Ev.under (ρ' := [(Str.ofString "k", dat (.int j)), (Str.ofString "turn", dat (.int N.sum)), (Str.ofString "count", dat (.int (N.length + 1 : Nat)))]) ?_ (by walk_at "und")
    refine (Ev.bin (Ev.bin (Ev.bin Ev.int (by walk_at "nm") (op_mul (by omega) (by omega))) (by walk_at "nm") op_add) (by walk_at "nm") (op_mod (by omega))).eq ?_
    rw [← (fmod_lt (x := 3 * (j : Int) + N.sum) (show 0 < N.length + 1 by omega)).2]
    rfl
  -- apart
  refine TrL.cons (P' := (ff C 165 b L ((Str.ofString "apart", dat (apaD N)) :: (Str.ofString "others", dat (othD N)) :: lwV lt N) .top).W C) ?_ ?_
  · refine TrL.assignComp (n := n + 20) (f := ff C 165 b L ((Str.ofString "others", dat (othD N)) :: lwV lt N) .top) (ds := (List.range (N.length + 1)).map fun (j : Nat) => D.int j) (fun _ => true) (fun j => D.list [apL N j (othL N j), apL N (othL N j) j]) (fun b d => [(Str.ofString "k", VP.at b (dat d))])
      rfl (by walk_at "kps") top_kq rfl rfl (Src.range (Ev.bi k bn_range rfl rfl (by decide) rfl) (by walk_at "nm") (by omega)) (by rfl) (by simp; omega) (fun b L d hd => Tgt2.local rfl rfl) (fun b' L' j d hd => .inl ⟨rfl, rfl⟩) (fun b' L' j d hM hd hp => ?_) Owned.name (fun q w => by rw [rgM] at w; exact w)
    obtain ⟨hj, rfl⟩ := rgD hd
    have ho := oth_le N j
    have hwk : ∀ {a : Nat}, a ≤ N.length → ((wayL N a).map S).length ≤ 1000 := fun {a} h => by
      have := o.al a h
      simp only [wayL, List.length_map]; omega
    have how : (((List.range (N.length + 1)).map fun k => D.int (othL N k : Nat)))[j]? = some (.int (othL N j : Nat)) := by simp [List.getElem?_range hj]
    refine EvG.two (EvT.gen (Ev.diff (n := n + 4) k hfz (ms := (wayL N j).map S) (ss := (wayL N (othL N j)).map S) (Ev.bi k bn_list rfl rfl (by decide) rfl) (Ev.gl k rfl rfl rfl) ?_ ?_ (hwk (by omega)) (hwk ho)))
      (EvT.gen (Ev.diff (n := n + 4) k hfz (ms := (wayL N (othL N j)).map S) (ss := (wayL N j).map S) (Ev.bi k bn_list rfl rfl (by decide) rfl) (Ev.gl k rfl rfl rfl) ?_ ?_ (hwk ho) (hwk (by omega)))) hM (fun _ => by walk_at "kps") (fun _ => rfl)
    · exact Ev.itemN (ds := (wL N).map strsD) (k := j) (Ev.here (by walk_at "nm")) (Ev.here (by walk_at "nm")) (way_get N (by omega)) (by simp [wL]; omega)
    · exact Ev.itemN (ds := (wL N).map strsD) (k := othL N j) (Ev.here (by walk_at "nm")) (Ev.itemN (k := j) (Ev.here (by walk_at "nm")) (Ev.here (by walk_at "nm")) how (by simp; omega)) (way_get N ho) (by simp [wL]; omega)
    · exact Ev.itemN (ds := (wL N).map strsD) (k := othL N j) (Ev.here (by walk_at "nm")) (Ev.itemN (k := j) (Ev.here (by walk_at "nm")) (Ev.here (by walk_at "nm")) how (by simp; omega)) (way_get N ho) (by simp [wL]; omega)
    · exact Ev.itemN (ds := (wL N).map strsD) (k := j) (Ev.here (by walk_at "nm")) (Ev.here (by walk_at "nm")) (way_get N (by omega)) (by simp [wL]; omega)
  -- meetings
  refine TrL.cons (P' := (ff C 165 b L ((Str.ofString "meetings", dat (metD lt N)) :: (Str.ofString "apart", dat (apaD N)) :: (Str.ofString "others", dat (othD N)) :: lwV lt N) .top).W C) ?_ ?_
  · refine Tr.toL (Tr.assignComp (n := n + 20) (f := ff C 165 b L ((Str.ofString "apart", dat (apaD N)) :: (Str.ofString "others", dat (othD N)) :: lwV lt N) .top) (ds := (List.range (N.length + 1)).map fun (j : Nat) => D.int j) (fun _ => true) (fun k => D.list (natss (climb (rowL lt N) (headsL N (rowL lt N)) (folds N) k (othL N k)).P)) (fun b d => [(Str.ofString "k", VP.at b (dat d))])
      (by walk_at "kns") top_kq rfl rfl (Src.range (Ev.bi k bn_range rfl rfl (by decide) rfl) (by walk_at "nm") (by omega)) (by rfl) (by simp; omega) (fun b L d hd => Tgt2.local rfl rfl) (fun b' L' j d hd => .inl ⟨rfl, rfl⟩) (fun b' L' j d hd hp => ?_) Owned.name (fun q w => by rw [rgM] at w; exact w))
    obtain ⟨hj, rfl⟩ := rgD hd
    have ho := oth_le N j
    have how : (((List.range (N.length + 1)).map fun k => D.int (othL N k : Nat)))[j]? = some (.int (othL N j : Nat)) := by simp [List.getElem?_range hj]
    refine Ev.itemT (ds := [.list (natss (climb (rowL lt N) (headsL N (rowL lt N)) (folds N) j (othL N j)).P), .list (intz (climb (rowL lt N) (headsL N (rowL lt N)) (folds N) j (othL N j)).J)]) (k := 0) ?_ Ev.int rfl (by simp)
    refine Ev.callF (Rs := [dat (nats (rowL lt N)), dat (nats (headsL N (rowL lt N))), dat (nats (folds N)), dat (.int (j : Nat)), dat (.int (othL N j : Nat))]) (fn_climb k) (Ev.gl k rfl rfl rfl) (Evl.cons (Ev.here (by walk_at "nm")) (Evl.cons (Ev.here (by walk_at "nm")) (Evl.cons (Ev.here (by walk_at "nm")) (Evl.cons (Ev.here (by walk_at "nm")) (Evl.cons (Ev.itemN (k := j) (Ev.here (by walk_at "nm")) (Ev.here (by walk_at "nm")) how (by simp; omega)) .nil))))) fun vs A s' E Y hA hs hY z => ?_
    obtain ⟨v1, r1, rfl, z1, v2, r2, rfl, z2, v3, r3, rfl, z3, v4, r4, rfl, z4, v5, r5, rfl, z5, z6⟩ := z
    rw [show r5 = [] from z6]
    exact do_climb (n := n + 11) k o.cl (row_mem o (by omega)) (row_mem o ho) v1 v2 v3 v4 v5 A s' E Y hA hs hY ⟨z1, z2, z3, z4, z5⟩
  -- if
  refine TrL.skipIf (f := ff C 165 b L ((Str.ofString "meetings", dat (metD lt N)) :: (Str.ofString "apart", dat (apaD N)) :: (Str.ofString "others", dat (othD N)) :: lwV lt N) .top) ?_ ?_
  · refine Ts.cmp (R1 := dat (apaD N)) (R2 := dat (apaD N)) ?_ (by walk_at "nm") (cmp_ne_same ?_) rfl
    · refine Ev.under (ρ' := [(Str.ofString "meetings", dat (metD lt N)), (Str.ofString "names", dat (strsD (nmU N N.length)))]) ?_ (by walk_at "und")
      refine (Ev.comp2 (f := ff C 165 b L [(Str.ofString "meetings", dat (metD lt N)), (Str.ofString "names", dat (strsD (nmU N N.length)))] .top) (ds := (List.range (N.length + 1)).map fun k => D.list (natss (climb (rowL lt N) (headsL N (rowL lt N)) (folds N) k (othL N k)).P)) (fun _ => true) (fun k => D.list [apL N k (othL N k), apL N (othL N k) k]) (fun b d => [(Str.ofString "passed", VP.at b (dat d))])
        (Src.list (by walk_at "nm")) (by rfl) (by simp; omega) (fun b L d hd => Tgt2.local rfl rfl) (fun b' L' j d hd => .inl ⟨rfl, rfl⟩) (fun b' L' j d hd hp => ?_) Owned.name).eq rgM
      have hj : j < N.length + 1 := by
        have := (List.getElem?_eq_some_iff.mp hd).1
        simpa using this
      have hd' : d = D.list (natss (climb (rowL lt N) (headsL N (rowL lt N)) (folds N) j (othL N j)).P) := by
        simp only [List.getElem?_map, List.getElem?_range hj, Option.map_some] at hd
        exact (Option.some.inj hd).symm
      subst hd'
      rw [← o.C j (by omega)]
      obtain ⟨hP2, _, hPm⟩ := o.cp j (othL N j) (by omega) (oth_le N j)
      generalize (climb (rowL lt N) (headsL N (rowL lt N)) (folds N) j (othL N j)).P = P at hP2 hPm
      refine Ev.under (ρ' := [(Str.ofString "passed", dat (.list (natss P))), (Str.ofString "names", dat (strsD (nmU N N.length)))]) ?_ (by walk_at "und")
      refine (Ev.comp2 (ds := natss P) (fun _ => true) (fun i => strsD ((P.getD i []).map (nam N))) (fun b d => [(Str.ofString "side", VP.at b (dat d))])
        (Src.list (by walk_at "nm")) (by rfl) (by simp; omega) (fun b L d hd => Tgt2.local rfl rfl) (fun b' L' i d hd => .inl ⟨rfl, rfl⟩) (fun b' L' i d hd hp => ?_) Owned.name).eq ?_
      · have hi : i < P.length := by
          have := (List.getElem?_eq_some_iff.mp hd).1
          simpa using this
        have hd' : d = nats (P.getD i []) := by
          simp only [natss, List.getElem?_map, getq hi [], Option.map_some] at hd
          exact (Option.some.inj hd).symm
        subst hd'
        have hm : P.getD i [] ∈ P := by rw [List.getD_eq_getElem?_getD, List.getElem?_eq_getElem hi]; exact List.getElem_mem hi
        refine Ev.under (ρ' := [(Str.ofString "side", dat (nats (P.getD i []))), (Str.ofString "names", dat (strsD (nmU N N.length)))]) ?_ (by walk_at "und")
        exact Ev.namesOf k rfl rfl rfl hlen rfl (Src.list (by walk_at "nm")) (by rfl) (hPm _ hm).1 (hPm _ hm).2 (by intro _ _; rfl)
      · rw [List.filter_eq_self.mpr (fun _ _ => rfl)]
        simp only [natss, List.length_map]
        exact congrArg D.list (range_map P (fun s => strsD (s.map (nam N))) [])
    · refine Nat.le_trans (deps_le (m := 2) fun d hd => ?_) (by omega)
      obtain ⟨x, _, rfl⟩ := List.mem_map.mp hd
      rw [dep]
      have := deps_le (m := 1) (ds := [apL N x (othL N x), apL N (othL N x) x]) fun d hd => by
        simp only [List.mem_cons, List.not_mem_nil, or_false] at hd
        rcases hd with rfl | rfl
        · exact dep_strs _
        · exact dep_strs _
      omega
  -- below
  refine TrL.cons (P' := (ff C 165 b L ((Str.ofString "below", dat (.list ((List.range (N.length + 1)).map fun k => nats (bel lt lt1 (rowL lt N) k)))) :: (Str.ofString "meetings", dat (metD lt N)) :: (Str.ofString "apart", dat (apaD N)) :: (Str.ofString "others", dat (othD N)) :: lwV lt N) .top).W C) ?_ ?_
  · have hkl : (ksL N).length = N.length + 1 := by simp [ksL, keysOf, wL]
    refine Tr.toL (Tr.assignComp (n := n + 20) (f := ff C 165 b L ((Str.ofString "meetings", dat (metD lt N)) :: (Str.ofString "apart", dat (apaD N)) :: (Str.ofString "others", dat (othD N)) :: lwV lt N) .top) (ds := (List.range (N.length + 1)).map fun (j : Nat) => D.int j) (fun _ => true) (fun k => nats (bel lt lt1 (rowL lt N) k)) (fun b d => [(Str.ofString "k", VP.at b (dat d))])
      (by walk_at "kns") top_kq rfl rfl (Src.range (Ev.bi k bn_range rfl rfl (by decide) rfl) (by walk_at "nm") (by omega)) (by rfl) (by simp; omega) (fun b L d hd => Tgt2.local rfl rfl) (fun b' L' j d hd => .inl ⟨rfl, rfl⟩) (fun b' L' j d hd hp => ?_) Owned.name (fun q w => by rw [rgM] at w; exact w))
    obtain ⟨hj, rfl⟩ := rgD hd
    refine Ev.callF (Rs := [dat (nats (rowL lt N)), dat (.list (ksL N)), dat (.int (j : Nat))]) (fn_below k) (Ev.gl k rfl rfl rfl) (Evl.cons (Ev.here (by walk_at "nm")) (Evl.cons (Ev.here (by walk_at "nm")) (Evl.cons (Ev.here (by walk_at "nm")) .nil))) fun vs A s' E Y hA hs hY z => ?_
    obtain ⟨v1, v2, v3, rfl, z1, z2, z3⟩ := three3 z
    exact do_below (n := n + 15) k hfz o.ks o.k1 o.kl (by omega) (fun x hx => by rw [hkl, ← hrl]; exact o.cl.lt x hx) (by omega) (by omega) v1 v2 v3 A s' E Y hA hs hY ⟨z1, z2, z3⟩
  -- return
  refine Tr.toL (Tr.retS (f := ff C 165 b L ((Str.ofString "below", dat (.list ((List.range (N.length + 1)).map fun k => nats (bel lt lt1 (rowL lt N) k)))) :: (Str.ofString "meetings", dat (metD lt N)) :: (Str.ofString "apart", dat (apaD N)) :: (Str.ofString "others", dat (othD N)) :: lwV lt N) .top) (R := dat (.bool true)) ?_ fun q v h1 h2 => ⟨h1.ext, v, rfl, h2⟩)
  refine Ev.cmp (R1 := dat (.list ((List.range (N.length + 1)).map fun k => nats (bel lt lt1 (rowL lt N) k)))) (R2 := dat (.list ((List.range (N.length + 1)).map fun k => nats (bel lt lt1 (rowL lt N) k)))) (by walk_at "nm") ?_ (cmp_eq_same ?_) rfl
  · refine Ev.under (ρ' := [(Str.ofString "names", dat (strsD (nmU N N.length))), (Str.ofString "row", dat (nats (rowL lt N))), (Str.ofString "ways", dat (strss (wL N))), (Str.ofString "count", dat (.int (N.length + 1 : Nat)))]) ?_ (by walk_at "und")
    refine (Ev.comp2 (f := ff C 165 b L [(Str.ofString "names", dat (strsD (nmU N N.length))), (Str.ofString "row", dat (nats (rowL lt N))), (Str.ofString "ways", dat (strss (wL N))), (Str.ofString "count", dat (.int (N.length + 1 : Nat)))] .top) (ds := (List.range (N.length + 1)).map fun (j : Nat) => D.int j) (fun _ => true) (fun k => nats (bel lt lt1 (rowL lt N) k)) (fun b d => [(Str.ofString "k", VP.at b (dat d))])
      (Src.range (Ev.bi k bn_range rfl rfl (by decide) rfl) (by walk_at "nm") (by omega)) (by rfl) (by simp; omega) (fun b L d hd => Tgt2.cell rfl rfl rfl rfl) (fun b' L' j d hd => .inl ⟨rfl, rfl⟩) (fun b' L' j d hd hp => ?_) Owned.name).eq rgM
    obtain ⟨hj, rfl⟩ := rgD hd
    rw [o.D' j (by omega)]
    refine Ev.under (ρ' := [(Str.ofString "k", dat (.int (j : Nat))), (Str.ofString "names", dat (strsD (nmU N N.length))), (Str.ofString "row", dat (nats (rowL lt N))), (Str.ofString "ways", dat (strss (wL N)))]) ?_ (by walk_at "und")
    have hrm : ∀ i, i < (rowL lt N).length → (rowL lt N).getD i 0 ≤ N.length := fun i hi => by
      have := o.cl.lt _ (getD_mem2 hi); omega
    refine (Ev.comp2 (ds := (rowL lt N).map fun (i : Nat) => D.int i) (fun i => ((wayL N ((rowL lt N).getD i 0)).map S).contains (S (nam N j))) (fun i => D.int ((rowL lt N).getD i 0 : Nat)) (fun b d => [(Str.ofString "one", VP.at b (dat d))])
      (Src.list (by walk_at "nm")) (by rfl) (by simp; omega) (fun b L d hd => Tgt2.local rfl rfl) (fun b' L' i d hd => .inr ⟨_, rfl, ?_⟩) (fun b' L' i d hd hp => ?_) Owned.name).eq ?_
    · have hi : i < (rowL lt N).length := by
        have := (List.getElem?_eq_some_iff.mp hd).1
        simpa using this
      have hd' : d = .int ((rowL lt N).getD i 0 : Nat) := by
        simp only [List.getElem?_map, getq hi 0, Option.map_some] at hd
        exact (Option.some.inj hd).symm
      subst hd'
      have hm := hrm i hi
      refine Ts.cmp (R1 := dat (.str (S (nam N j)))) (R2 := dat (strsD (wayL N ((rowL lt N).getD i 0)))) (Ev.itemN (ds := ((nmU N N.length).map S).map D.str) (k := j) (Ev.here (by walk_at "nm")) (Ev.here (by walk_at "nm")) (nam_get N (by omega)) (by simp [nmU_len]; omega)) (Ev.itemN (ds := (wL N).map strsD) (k := (rowL lt N).getD i 0) (Ev.here (by walk_at "nm")) (Ev.here (by walk_at "nm")) (way_get N hm) (by simp [wL]; omega)) op_in rfl
    · have hi : i < (rowL lt N).length := by
        have := (List.getElem?_eq_some_iff.mp hd).1
        simpa using this
      have hd' : d = .int ((rowL lt N).getD i 0 : Nat) := by
        simp only [List.getElem?_map, getq hi 0, Option.map_some] at hd
        exact (Option.some.inj hd).symm
      subst hd'
      exact Ev.here (by walk_at "nm")
    · rw [List.length_map]
      have key := range_filter_map (rowL lt N) (fun x => ((wayL N x).map S).contains (S (nam N j))) (fun x => D.int (x : Nat)) 0
      exact congrArg D.list key
  · refine Nat.le_trans (deps_le (m := 1) fun d hd => ?_) (by omega)
    obtain ⟨x, _, rfl⟩ := List.mem_map.mp hd
    exact dep_nats _
end
section
variable {C : Cx} {n : Nat} {N : List Int} {lt lt1 : Nat → Nat → Bool}
noncomputable abbrev cliD (lt : Nat → Nat → Bool) (N : List Int) (k : Nat) : CS := climb (rowL lt N) (headsL N (rowL lt N)) (folds N) k 0
theorem law2 (k : Kx C) (hfz : C.fz = false) {b : Heap} {L : Nat} (o : LawP N lt lt1) :
    TrL C (n + 20) (fenv (fdOf C.w.params 165) 165 L) ((ff C 165 b L (lwV lt N) .top).W C) (execs ((bodyOf C.w.params 165).drop 9) (fenv (fdOf C.w.params 165) 165 L)) (givesQ (dat (.bool true)) b) := by
  have h3 := law3 (n := n) (L := L) (b := b) k hfz o
  conv in (bodyOf _ _) => whnf
  have hlen := o.len
  have hrl := rowL_len lt N
  refine TrL.cons (P' := (ff C 165 b L ((Str.ofString "climbs", dat (.list ((List.range (N.length + 1)).map fun k => clR (cliD lt N k)))) :: lwV lt N) .top).W C) ?_ ?_
  · refine Tr.toL (Tr.assignComp (n := n + 20) (f := ff C 165 b L (lwV lt N) .top) (ds := (List.range (N.length + 1)).map fun (j : Nat) => D.int j) (fun _ => true) (fun k => clR (cliD lt N k)) (fun b d => [(Str.ofString "k", VP.at b (dat d))])
      (by walk_at "kns") top_kq rfl rfl (Src.range (Ev.bi k bn_range rfl rfl (by decide) rfl) (by walk_at "nm") (by omega)) (by rfl) (by simp; omega) (fun b L d hd => Tgt2.local rfl rfl) (fun b' L' j d hd => .inl ⟨rfl, rfl⟩) (fun b' L' j d hd hp => ?_) Owned.name (fun q w => by rw [rgM] at w; exact w))
    obtain ⟨hj, rfl⟩ := rgD hd
    refine Ev.callF (Rs := [dat (nats (rowL lt N)), dat (nats (headsL N (rowL lt N))), dat (nats (folds N)), dat (.int (j : Nat)), dat (.int (0 : Nat))]) (fn_climb k) (Ev.gl k rfl rfl rfl) (Evl.cons (Ev.here (by walk_at "nm")) (Evl.cons (Ev.here (by walk_at "nm")) (Evl.cons (Ev.here (by walk_at "nm")) (Evl.cons (Ev.here (by walk_at "nm")) (Evl.cons Ev.int .nil))))) fun vs A s' E Y hA hs hY z => ?_
    obtain ⟨v1, r1, rfl, z1, v2, r2, rfl, z2, v3, r3, rfl, z3, v4, r4, rfl, z4, v5, r5, rfl, z5, z6⟩ := z
    rw [show r5 = [] from z6]
    exact do_climb (n := n + 11) k o.cl (row_mem o (by omega)) (row_mem o (by omega)) v1 v2 v3 v4 v5 A s' E Y hA hs hY ⟨z1, z2, z3, z4, z5⟩
  have item : ∀ {j : Nat} {d : D}, ((List.range (N.length + 1)).map fun k => clR (cliD lt N k))[j]? = some d → j < N.length + 1 ∧ d = clR (cliD lt N j) := fun {j d} hd => by
    have hj : j < N.length + 1 := by
      have := (List.getElem?_eq_some_iff.mp hd).1
      simpa using this
    refine ⟨hj, ?_⟩
    simp only [List.getElem?_map, List.getElem?_range hj, Option.map_some] at hd
    exact (Option.some.inj hd).symm
  refine TrL.skipIf (f := ff C 165 b L ((Str.ofString "climbs", dat (.list ((List.range (N.length + 1)).map fun k => clR (cliD lt N k)))) :: lwV lt N) .top) ?_ ?_
  · refine Ts.cmp (R1 := dat (strss (wL N))) (R2 := dat (strss (wL N))) ?_ (by walk_at "nm") (cmp_ne_same ?_) rfl
    · refine Ev.under (ρ' := [(Str.ofString "climbs", dat (.list ((List.range (N.length + 1)).map fun k => clR (cliD lt N k)))), (Str.ofString "names", dat (strsD (nmU N N.length)))]) ?_ (by walk_at "und")
      refine (Ev.comp2 (f := ff C 165 b L [(Str.ofString "climbs", dat (.list ((List.range (N.length + 1)).map fun k => clR (cliD lt N k)))), (Str.ofString "names", dat (strsD (nmU N N.length)))] .top) (ds := (List.range (N.length + 1)).map fun k => clR (cliD lt N k)) (fun _ => true) (fun k => strsD (wayL N k)) (fun b d => match d with | .tup [d1, d2] => [(Str.ofString "jumps", VP.at b (dat d2)), (Str.ofString "passed", VP.at b (dat d1))] | _ => [])
        (Src.list (by walk_at "nm")) (by rfl) (by simp; omega) (fun b L d hd => ?_) (fun b' L' j d hd => .inl ⟨rfl, rfl⟩) (fun b' L' j d hd hp => ?_) Owned.tuple).eq ?_
      · obtain ⟨x, _, rfl⟩ := List.mem_map.mp hd
        exact Tgt2.pair rfl rfl rfl (by decide)
      · obtain ⟨hj, rfl⟩ := item hd
        have hA := o.A j (by omega)
        obtain ⟨hP2, _, hPm⟩ := o.cp j 0 (by omega) (by omega)
        have hP0 : (climb (rowL lt N) (headsL N (rowL lt N)) (folds N) j 0).P.getD 0 [] ∈ (climb (rowL lt N) (headsL N (rowL lt N)) (folds N) j 0).P := by
          rw [List.getD_eq_getElem?_getD, List.getElem?_eq_getElem (by omega)]; exact List.getElem_mem _
        have hPg : (natss (climb (rowL lt N) (headsL N (rowL lt N)) (folds N) j 0).P)[0]? = some (nats ((climb (rowL lt N) (headsL N (rowL lt N)) (folds N) j 0).P.getD 0 [])) := by
          simp only [natss, List.getElem?_map, getq (show 0 < (climb (rowL lt N) (headsL N (rowL lt N)) (folds N) j 0).P.length by omega) [], Option.map_some]
        have hp0 := hPm _ hP0
        have hal := o.al j (by omega)
        refine Ev.under (ρ' := [(Str.ofString "passed", dat (.list (natss (cliD lt N j).P))), (Str.ofString "names", dat (strsD (nmU N N.length)))]) ?_ (by walk_at "und")
        refine (Ev.bin (R1 := dat (strsD (((climb (rowL lt N) (headsL N (rowL lt N)) (folds N) j 0).P.getD 0 []).map (nam N)))) (R2 := dat (strsD [nam N 0])) (Ev.namesOf k rfl rfl rfl hlen rfl (Src.list (Ev.itemN (ds := natss (cliD lt N j).P) (k := 0) (by walk_at "nm") Ev.int hPg (by rw [List.length_map]; exact Nat.le_trans (Nat.le_of_eq hP2) (by omega)))) (by rfl) hp0.1 hp0.2 (by intro _ _; rfl)) (Ev.list (ds := [.str (S (nam N 0))]) (Evl.cons (Ev.itemN (ds := ((nmU N N.length).map S).map D.str) (k := 0) (by walk_at "nm") Ev.int (nam_get N (by omega)) (by simp [nmU_len]; omega)) .nil) (by simp)) (op_addl ?_)).eq ?_
        · have := congrArg List.length hA
          simp [wayL] at this
          simp
          omega
        · rw [← hA]
          simp [strsD]
      · rw [rgM]
        simp [strss, wL]
    · refine Nat.le_trans (deps_le (m := 1) fun d hd => ?_) (by omega)
      obtain ⟨x, _, rfl⟩ := List.mem_map.mp hd
      exact dep_strs _
  refine TrL.skipIf (f := ff C 165 b L ((Str.ofString "climbs", dat (.list ((List.range (N.length + 1)).map fun k => clR (cliD lt N k)))) :: lwV lt N) .top) ?_ ?_
  · refine Ts.cmp (R1 := dat (.list [])) (R2 := dat (.list [])) ?_ (Ev.list (ds := []) .nil) (cmp_ne_same (by simp [deps])) rfl
    refine Ev.under (ρ' := [(Str.ofString "climbs", dat (.list ((List.range (N.length + 1)).map fun k => clR (cliD lt N k)))), (Str.ofString "count", dat (.int (N.length + 1 : Nat)))]) ?_ (by walk_at "und")
    refine (Ev.comp2 (f := ff C 165 b L [(Str.ofString "climbs", dat (.list ((List.range (N.length + 1)).map fun k => clR (cliD lt N k)))), (Str.ofString "count", dat (.int (N.length + 1 : Nat)))] .top) (ds := (List.range (N.length + 1)).map fun k => clR (cliD lt N k)) (fun _ => false) (fun k => D.none) (fun b d => match d with | .tup [d1, d2] => [(Str.ofString "jumps", VP.at b (dat d2)), (Str.ofString "passed", VP.at b (dat d1))] | _ => [])
        (Src.list (by walk_at "nm")) (by rfl) (by simp; omega) (fun b L d hd => ?_) (fun b' L' j d hd => .inr ⟨_, rfl, ?_⟩) (fun b' L' j d hd hp => by cases hp) Owned.tuple).eq ?_
    · obtain ⟨x, _, rfl⟩ := List.mem_map.mp hd
      exact Tgt2.pair rfl rfl rfl (by decide)
    · obtain ⟨hj, rfl⟩ := item hd
      have hB := o.B j (by omega)
      obtain ⟨_, hJ2, _⟩ := o.cp j 0 (by omega) (by omega)
      have hJb : (climb (rowL lt N) (headsL N (rowL lt N)) (folds N) j 0).J.getD 0 0 ≤ 100 := by
        have := Nat.lt_two_pow_self (n := (climb (rowL lt N) (headsL N (rowL lt N)) (folds N) j 0).J.getD 0 0 + 1)
        omega
      refine (Ts.cmp (R1 := dat (.int (2 ^ (((climb (rowL lt N) (headsL N (rowL lt N)) (folds N) j 0).J.getD 0 0 : Nat) + 1 : Int).toNat))) (R2 := dat (.int ((N.length + 1 : Nat) + 1))) (Ev.bin Ev.int (Ev.bin (Ev.itemN (ds := intz (climb (rowL lt N) (headsL N (rowL lt N)) (folds N) j 0).J) (k := 0) (Ev.here (by walk_at "nm")) Ev.int (intz_get (by omega)) (by simp; omega)) Ev.int op_add) (op_pow2 (by omega))) (Ev.bin (Ev.here (by walk_at "nm")) Ev.int op_add) cmp_gt rfl).eq ?_
      have e : (((climb (rowL lt N) (headsL N (rowL lt N)) (folds N) j 0).J.getD 0 0 : Nat) + 1 : Int).toNat = (climb (rowL lt N) (headsL N (rowL lt N)) (folds N) j 0).J.getD 0 0 + 1 := by omega
      rw [e]
      simp only [decide_eq_false_iff_not, Int.not_lt]
      have : ((2 : Int) ^ ((climb (rowL lt N) (headsL N (rowL lt N)) (folds N) j 0).J.getD 0 0 + 1)) = ((2 ^ ((climb (rowL lt N) (headsL N (rowL lt N)) (folds N) j 0).J.getD 0 0 + 1) : Nat) : Int) := by simp
      rw [this]
      omega
    · rw [List.filter_eq_nil_iff.mpr (fun _ _ => by simp)]
      rfl
  exact TrL.pre h3 fun q w => FS.W.weaken (f := ff C 165 b L ((Str.ofString "climbs", dat (.list ((List.range (N.length + 1)).map fun k => clR (cliD lt N k)))) :: lwV lt N) .top) w (by
      intro y R e
      have e' := mem_of_lookup e
      simp only [List.mem_cons, List.not_mem_nil, or_false, Prod.mk.injEq] at e'
      rcases e' with ⟨rfl, rfl⟩ | ⟨rfl, rfl⟩ | ⟨rfl, rfl⟩ | ⟨rfl, rfl⟩ | ⟨rfl, rfl⟩ | ⟨rfl, rfl⟩ | ⟨rfl, rfl⟩ | ⟨rfl, rfl⟩ <;> rfl)
end
section
variable {C : Cx} {n : Nat} {lt lt1 : Nat → Nat → Bool}
noncomputable abbrev nsOf (ns : List Int) : List Int := [0, 2, 1] ++ ns.take 11
theorem keysL_mem {N : List Int} (o : LawP N lt lt1) : ∀ w ∈ wL N, ∀ x ∈ w, x ∈ nmU N N.length := fun w hw x hx => by
  obtain ⟨k, hk, rfl⟩ := List.mem_map.mp hw
  obtain ⟨p, hp, rfl⟩ := List.mem_map.mp hx
  have hk' : k ≤ N.length := by have := List.mem_range.mp hk; omega
  have := o.am k hk' p hp
  unfold nam
  rw [List.getD_eq_getElem?_getD, List.getElem?_eq_getElem (by rw [nmU_len]; omega)]
  exact List.getElem_mem _
theorem law1 (k : Kx C) (hfz : C.fz = false) {b : Heap} {L : Nat} {ns : List Int} (o : LawP (nsOf ns) lt lt1) (hns : ns.length ≤ 1000) :
    TrL C (n + 20) (fenv (fdOf C.w.params 165) 165 L) ((ff C 165 b L [(Str.ofString "script", VP.at b (scrV ns))] .top).W C) (execs (bodyOf C.w.params 165) (fenv (fdOf C.w.params 165) 165 L)) (givesQ (dat (.bool true)) b) := by
  have h2 := law2 (n := n) (L := L) (b := b) k hfz o
  have hmem := keysL_mem o
  conv in (bodyOf _ _) => whnf
  generalize hN : nsOf ns = N at o h2 hmem
  have hlen := o.len
  have hlo := o.lo
  have hrl := rowL_len lt N
  have hkl : (ksL N).length = N.length + 1 := by simp [ksL, keysOf, wL]
  -- numbers
  refine TrL.assignS (f := ff C 165 b L [(Str.ofString "script", VP.at b (scrV ns))] .top) (R := dat (.list (N.map .int))) ?_ (.inr rfl) (dat_stab _) rfl ?_
  · refine (Ev.bin (R1 := dat (.list ([.int 0, .int 2, .int 1]))) (R2 := dat (.list ((ns.take 11).map .int))) (Ev.list (ds := [.int 0, .int 2, .int 1]) (Evl.cons Ev.int (Evl.cons Ev.int (Evl.cons Ev.int .nil)))) (Ev.upto (j := 11) (Ev.here (by walk_at "nm")) Ev.int (by omega)) (op_addl (by simp; omega))).eq ?_
    rw [← hN]; simp [nsOf]
  refine TrL.pre (P := (ff C 165 b L [(Str.ofString "numbers", dat (.list (N.map .int)))] .top).W C) ?_ (fun q w => FS.W.weaken (f := ff C 165 b L ((Str.ofString "numbers", dat (.list (N.map .int))) :: [(Str.ofString "script", VP.at b (scrV ns))]) .top) w (by
      intro y R e
      have e' := mem_of_lookup e
      simp only [List.mem_cons, List.not_mem_nil, or_false, Prod.mk.injEq] at e'
      rcases e' with ⟨rfl, rfl⟩; rfl))
  -- turn
  refine TrL.assignS (f := ff C 165 b L [(Str.ofString "numbers", dat (.list (N.map .int)))] .top) (R := dat (.int N.sum)) (Ev.callB (Ev.bi k bn_sum rfl rfl (by decide) rfl) (Evl.cons (by walk_at "nm") .nil) (call1 do_sum)) (.inr rfl) (dat_stab _) rfl ?_
  -- folders
  refine TrL.assignS (f := ff C 165 b L ((Str.ofString "turn", dat (.int N.sum)) :: [(Str.ofString "numbers", dat (.list (N.map .int)))]) .top) (R := dat (nats (folds N))) ?_ (.inr rfl) (dat_stab _) rfl ?_
  · refine (Ev.bin (R1 := dat (.list [.int 0])) (R2 := dat (.list ((List.range N.length).map fun j => D.int (fold N (j + 1) : Nat)))) (Ev.list (ds := [.int 0]) (Evl.cons Ev.int .nil)) ?_ (op_addl (by simp; omega))).eq ?_
    · refine (Ev.comp2 (f := ff C 165 b L ((Str.ofString "turn", dat (.int N.sum)) :: [(Str.ofString "numbers", dat (.list (N.map .int)))]) .top) (ds := (List.range N.length).map fun (j : Nat) => D.int j) (fun _ => true) (fun j => D.int (fold N (j + 1) : Nat)) (fun b d => [(Str.ofString "k", VP.at b (dat d))])
        (Src.range (Ev.bi k bn_range rfl rfl (by decide) rfl) ((Ev.callB (Ev.bi k bn_len rfl rfl (by decide) rfl) (Evl.cons (R := dat (.list (N.map .int))) (by walk_at "nm") .nil) (call1 (do_len (by rw [List.length_map]; omega)))).eq (by rw [List.length_map])) (by omega)) (by rfl) (by simp; omega) (fun b L d hd => Tgt2.local rfl rfl) (fun b' L' j d hd => .inl ⟨rfl, rfl⟩) (fun b' L' j d hd hp => ?_) Owned.name).eq rgM
      obtain ⟨hj, rfl⟩ := rgD hd
      refine Ev.under (ρ' := [(Str.ofString "k", dat (.int j)), (Str.ofString "numbers", dat (.list (N.map .int)))]) ?_ (by walk_at "und")
      refine (Ev.bin (R1 := dat (.int (N.getD j 0))) (Ev.itemN (ds := N.map .int) (k := j) (by walk_at "nm") (by walk_at "nm") (by simp only [List.getElem?_map, getq hj 0, Option.map_some]) (by rw [List.length_map]; omega)) (Ev.bin (by walk_at "nm") Ev.int op_add) (op_mod (by omega))).eq ?_
      have := (fmod_lt (x := N.getD j 0) (show 0 < j + 1 by omega)).2
      show D.int ((N.getD j 0).fmod ((j : Int) + 1)) = D.int (((N.getD j 0).fmod ((j + 1 : Nat) : Int)).toNat : Nat)
      rw [this]; rfl
    · show _ = D.list ((folds N).map fun (i : Nat) => D.int i)
      unfold folds
      rw [List.range_succ_eq_map]
      simp only [List.map_cons, List.map_map, List.cons_append, List.nil_append]
      rfl
  -- names
  refine TrL.assignS (f := ff C 165 b L ((Str.ofString "folders", dat (nats (folds N))) :: (Str.ofString "turn", dat (.int N.sum)) :: [(Str.ofString "numbers", dat (.list (N.map .int)))]) .top) (R := dat (strsD (nmU N N.length))) ?_ (.inr rfl) (dat_stab _) rfl ?_
  · refine Ev.callF (Rs := [dat (.list (N.map .int)), dat (nats (folds N))]) (fn_names k) (Ev.gl k rfl rfl rfl) (Evl.cons (by walk_at "nm") (Evl.cons (by walk_at "nm") .nil)) fun vs A s' E Y hA hs hY z => ?_
    obtain ⟨u, v, rfl, z3, z4⟩ := two z
    exact do_names (n := n + 15) k (by omega) u v A s' E Y hA hs hY ⟨z3, z4⟩
  -- count
  refine TrL.assignS (f := ff C 165 b L ((Str.ofString "names", dat (strsD (nmU N N.length))) :: (Str.ofString "folders", dat (nats (folds N))) :: (Str.ofString "turn", dat (.int N.sum)) :: [(Str.ofString "numbers", dat (.list (N.map .int)))]) .top) (R := dat (.int (N.length + 1 : Nat))) ?_ (.inr rfl) (dat_stab _) rfl ?_
  · exact (Ev.callB (Ev.bi k bn_len rfl rfl (by decide) rfl) (Evl.cons (R := dat (strsD (nmU N N.length))) (by walk_at "nm") .nil) (call1 (do_len (by rw [List.length_map, List.length_map, nmU_len]; omega)))).eq (by rw [List.length_map, List.length_map, nmU_len])
  -- ways
  refine TrL.assignS (f := ff C 165 b L ((Str.ofString "count", dat (.int (N.length + 1 : Nat))) :: (Str.ofString "names", dat (strsD (nmU N N.length))) :: (Str.ofString "folders", dat (nats (folds N))) :: (Str.ofString "turn", dat (.int N.sum)) :: [(Str.ofString "numbers", dat (.list (N.map .int)))]) .top) (R := dat (strss (wL N))) ?_ (.inr rfl) (dat_stab _) rfl ?_
  · refine (Ev.comp2 (n := n + 20) (f := ff C 165 b L ((Str.ofString "count", dat (.int (N.length + 1 : Nat))) :: (Str.ofString "names", dat (strsD (nmU N N.length))) :: (Str.ofString "folders", dat (nats (folds N))) :: (Str.ofString "turn", dat (.int N.sum)) :: [(Str.ofString "numbers", dat (.list (N.map .int)))]) .top) (ds := (List.range (N.length + 1)).map fun (j : Nat) => D.int j) (fun _ => true) (fun j => strsD (wayL N j)) (fun b d => [(Str.ofString "k", VP.at b (dat d))])
      (Src.range (Ev.bi k bn_range rfl rfl (by decide) rfl) (by walk_at "nm") (by omega)) (by rfl) (by simp; omega) (fun b L d hd => Tgt2.local rfl rfl) (fun b' L' j d hd => .inl ⟨rfl, rfl⟩) (fun b' L' j d hd hp => ?_) Owned.name).eq ?_
    · obtain ⟨hj, rfl⟩ := rgD hd
      refine Ev.under (ρ' := [(Str.ofString "k", dat (.int j)), (Str.ofString "names", dat (strsD (nmU N N.length))), (Str.ofString "turn", dat (.int N.sum))]) ?_ (by walk_at "und")
      obtain ⟨hm1, hm2⟩ := fmod_lt (x := (j : Int) + N.sum) (show 0 < 3 by omega)
      obtain ⟨ps, hch, hw, hxl, hx0⟩ := o.ch j (by omega) (((j : Int) + N.sum).fmod ((3 : Nat) : Int)).toNat (by omega)
      have e : strsD (wayL N j) = D.list ((List.range (anc N j).length).map fun i => D.str (S (ps i))) := by
        rw [hw]; show D.list _ = D.list _; rw [List.map_map, List.map_map]; rfl
      rw [e]
      refine Ev.ancestry (n := n + 4) k hfz (Ev.bi k bn_list rfl rfl (by decide) rfl) (Ev.gl k rfl rfl rfl) ?_ hch hxl hx0 (by have := o.al j (by omega); omega)
      rw [List.length_append] at hxl
      refine Ev.bin (R1 := dat (.str (S (nam N j)))) (R2 := dat (.str (S (List.replicate (((j : Int) + N.sum).fmod ((3 : Nat) : Int)).toNat 47)))) (Ev.itemN (ds := ((nmU N N.length).map S).map D.str) (k := j) (by walk_at "nm") (by walk_at "nm") (nam_get N (by omega)) (by rw [List.length_map, List.length_map, nmU_len]; omega)) ?_ (op_adds (by simp; simp at hxl; omega))
      refine Ev.bin (R1 := dat (.str (S [47]))) (R2 := dat (.int ((((j : Int) + N.sum).fmod ((3 : Nat) : Int)).toNat : Nat))) Ev.str ?_ (op_muls (by omega))
      rw [hm2]
      exact Ev.bin (Ev.bin (by walk_at "nm") (by walk_at "nm") op_add) Ev.int (op_mod (by decide))
    · rw [rgM]; simp [wL]
  -- keys
  refine TrL.assignS (f := ff C 165 b L ((Str.ofString "ways", dat (strss (wL N))) :: (Str.ofString "count", dat (.int (N.length + 1 : Nat))) :: (Str.ofString "names", dat (strsD (nmU N N.length))) :: (Str.ofString "folders", dat (nats (folds N))) :: (Str.ofString "turn", dat (.int N.sum)) :: [(Str.ofString "numbers", dat (.list (N.map .int)))]) .top) (R := dat (.list (ksL N))) ?_ (.inr rfl) (dat_stab _) rfl ?_
  · refine Ev.callF (Rs := [dat (strsD (nmU N N.length)), dat (strss (wL N))]) (fn_keys k) (Ev.gl k rfl rfl rfl) (Evl.cons (by walk_at "nm") (Evl.cons (by walk_at "nm") .nil)) fun vs A s' E Y hA hs hY z => ?_
    obtain ⟨u, v, rfl, z3, z4⟩ := two z
    refine do_keys (n := n + 15) k hmem (by rw [nmU_len]; omega) (by rw [wL, List.length_map, List.length_range]; omega) (fun w hw => ?_) u v A s' E Y hA hs hY ⟨z3, z4⟩
    obtain ⟨j, hj, rfl⟩ := List.mem_map.mp hw
    rw [wayL, List.length_map]
    exact o.al j (by have := List.mem_range.mp hj; omega)
  -- row
  refine TrL.assignS (f := ff C 165 b L ((Str.ofString "keys", dat (.list (ksL N))) :: (Str.ofString "ways", dat (strss (wL N))) :: (Str.ofString "count", dat (.int (N.length + 1 : Nat))) :: (Str.ofString "names", dat (strsD (nmU N N.length))) :: (Str.ofString "folders", dat (nats (folds N))) :: (Str.ofString "turn", dat (.int N.sum)) :: [(Str.ofString "numbers", dat (.list (N.map .int)))]) .top) (R := dat (nats (rowL lt N))) ?_ (.inr rfl) (dat_stab _) rfl ?_
  · refine Ev.callF (Rs := [dat (.list (ksL N)), dat (.int N.sum)]) (fn_row k) (Ev.gl k rfl rfl rfl) (Evl.cons (by walk_at "nm") (Evl.cons (by walk_at "nm") .nil)) fun vs A s' E Y hA hs hY z => ?_
    obtain ⟨u, v, rfl, z3, z4⟩ := two z
    have h := do_row (n := n + 15) k hfz (turn := N.sum) o.ks (by omega) (by omega) u v A s' E Y hA hs hY ⟨z3, z4⟩
    rw [hkl] at h
    exact h
  -- heads
  refine TrL.assignS (f := ff C 165 b L ((Str.ofString "row", dat (nats (rowL lt N))) :: (Str.ofString "keys", dat (.list (ksL N))) :: (Str.ofString "ways", dat (strss (wL N))) :: (Str.ofString "count", dat (.int (N.length + 1 : Nat))) :: (Str.ofString "names", dat (strsD (nmU N N.length))) :: (Str.ofString "folders", dat (nats (folds N))) :: (Str.ofString "turn", dat (.int N.sum)) :: [(Str.ofString "numbers", dat (.list (N.map .int)))]) .top) (R := dat (nats (headsL N (rowL lt N)))) ?_ (.inr rfl) (dat_stab _) rfl ?_
  · refine Ev.under (ρ' := [(Str.ofString "row", dat (nats (rowL lt N))), (Str.ofString "count", dat (.int (N.length + 1 : Nat))), (Str.ofString "folders", dat (nats (folds N)))]) ?_ (by walk_at "und")
    refine (Ev.comp2 (f := ff C 165 b L [(Str.ofString "row", dat (nats (rowL lt N))), (Str.ofString "count", dat (.int (N.length + 1 : Nat))), (Str.ofString "folders", dat (nats (folds N)))] .top) (ds := (List.range (N.length + 1)).map fun (j : Nat) => D.int j) (fun s => s == 0 || fold N ((rowL lt N).getD s 0) != (rowL lt N).getD (s - 1) 0) (fun j => D.int j) (fun b d => [(Str.ofString "spot", VP.at b (dat d))])
      (Src.range (Ev.bi k bn_range rfl rfl (by decide) rfl) (by walk_at "nm") (by omega)) (by rfl) (by simp; omega) (fun b L d hd => Tgt2.local rfl rfl) (fun b' L' j d hd => .inr ⟨_, rfl, ?_⟩) (fun b' L' j d hd hp => ?_) Owned.name).eq ?_
    · obtain ⟨hj, rfl⟩ := rgD hd
      refine Ts.or ((Ts.cmp (Ev.here (by walk_at "nm")) Ev.int cmp_eq rfl).eq (c' := j == 0) (by rw [Bool.eq_iff_iff]; simp only [beq_iff_eq]; omega)) fun h0 => ?_
      have hj0 : j ≠ 0 := by simpa using h0
      have hrj : (rowL lt N).getD j 0 ≤ N.length := by have := o.cl.lt _ (getD_mem2 (show j < (rowL lt N).length by omega)); omega
      refine (Ts.cmp (R1 := dat (.int (fold N ((rowL lt N).getD j 0) : Nat))) (R2 := dat (.int ((rowL lt N).getD (j - 1) 0 : Nat))) (Ev.itemN (ds := (folds N).map fun (i : Nat) => D.int i) (k := (rowL lt N).getD j 0) (Ev.here (by walk_at "nm")) (Ev.itemN (ds := (rowL lt N).map fun (i : Nat) => D.int i) (k := j) (Ev.here (by walk_at "nm")) (Ev.here (by walk_at "nm")) (by simp only [List.getElem?_map, getq (show j < (rowL lt N).length by omega) 0, Option.map_some]) (by rw [List.length_map]; omega)) (fold_get N hrj) (by simp [folds]; omega))
        (Ev.itemN (ds := (rowL lt N).map fun (i : Nat) => D.int i) (k := j - 1) (Ev.here (by walk_at "nm")) ((Ev.bin (Ev.here (by walk_at "nm")) Ev.int op_sub).eq (by rw [show ((j - 1 : Nat) : Int) = (j : Int) - 1 by omega])) (by simp only [List.getElem?_map, getq (show j - 1 < (rowL lt N).length by omega) 0, Option.map_some]) (by rw [List.length_map]; omega)) cmp_ne rfl).eq ?_
      rw [Bool.eq_iff_iff]
      simp only [bne_iff_ne, ne_eq]
      omega
    · obtain ⟨hj, rfl⟩ := rgD hd
      exact Ev.here (by walk_at "nm")
    · rw [List.length_map, List.length_range]; rfl
  exact TrL.pre h2 fun q w => FS.W.weaken (f := ff C 165 b L ((Str.ofString "heads", dat (nats (headsL N (rowL lt N)))) :: (Str.ofString "row", dat (nats (rowL lt N))) :: (Str.ofString "keys", dat (.list (ksL N))) :: (Str.ofString "ways", dat (strss (wL N))) :: (Str.ofString "count", dat (.int (N.length + 1 : Nat))) :: (Str.ofString "names", dat (strsD (nmU N N.length))) :: (Str.ofString "folders", dat (nats (folds N))) :: (Str.ofString "turn", dat (.int N.sum)) :: [(Str.ofString "numbers", dat (.list (N.map .int)))]) .top) w (by
      intro y R e
      have e' := mem_of_lookup e
      simp only [List.mem_cons, List.not_mem_nil, or_false, Prod.mk.injEq] at e'
      rcases e' with ⟨rfl, rfl⟩ | ⟨rfl, rfl⟩ | ⟨rfl, rfl⟩ | ⟨rfl, rfl⟩ | ⟨rfl, rfl⟩ | ⟨rfl, rfl⟩ | ⟨rfl, rfl⟩ | ⟨rfl, rfl⟩ <;> rfl)
end
noncomputable def plc (ll : Nat → Nat → Bool) : List Nat → List Nat → Bool
  | [], ys => !ys.isEmpty
  | _ :: _, [] => false
  | x :: xs, y :: ys => if x = y then plc ll xs ys else ll x y
noncomputable def plc1 (ll : Nat → Nat → Bool) : List Nat → List Nat → Bool
  | [], _ => false
  | _ :: _, [] => false
  | x :: xs, y :: ys => if x = y then plc1 ll xs ys else ll x y
structure LOrd (ll : Nat → Nat → Bool) (n : Nat) : Prop where
  tr : ∀ {a b c}, ll a b = true → ll b c = true → ll a c = true
  ir : ∀ {a}, ll a a = false
  tot : ∀ {a b}, a ≤ n → b ≤ n → a ≠ b → ll a b = true ∨ ll b a = true
section
variable {ll : Nat → Nat → Bool} {n : Nat}
theorem LOrd.asym (o : LOrd ll n) {a b : Nat} (h : ll a b = true) : ll b a = false := by
  cases h2 : ll b a with
  | false => rfl
  | true => have := o.tr h h2; rw [o.ir] at this; cases this
theorem plc_irrefl : ∀ xs, plc ll xs xs = false
  | [] => rfl
  | x :: xs => by simp [plc, plc_irrefl xs]
theorem plc_app : ∀ us xs ys, plc ll (us ++ xs) (us ++ ys) = plc ll xs ys
  | [], _, _ => rfl
  | u :: us, xs, ys => by simp [plc, plc_app us]
theorem plc_trans (o : LOrd ll n) : ∀ {xs ys zs}, plc ll xs ys = true → plc ll ys zs = true → plc ll xs zs = true
  | [], [], zs, h, _ => by simp [plc] at h
  | [], y :: ys, [], _, h => by simp [plc] at h
  | [], y :: ys, z :: zs, _, _ => rfl
  | x :: xs, [], zs, h, _ => by simp [plc] at h
  | x :: xs, y :: ys, [], _, h => by simp [plc] at h
  | x :: xs, y :: ys, z :: zs, h1, h2 => by
    unfold plc at h1 h2 ⊢
    by_cases e1 : x = y
    · subst e1
      rw [if_pos rfl] at h1
      by_cases e2 : x = z
      · subst e2
        rw [if_pos rfl] at h2 ⊢
        exact plc_trans o h1 h2
      · rw [if_neg e2] at h2 ⊢; exact h2
    · rw [if_neg e1] at h1
      by_cases e2 : y = z
      · subst e2; rw [if_neg e1]; exact h1
      · rw [if_neg e2] at h2
        have h3 := o.tr h1 h2
        by_cases e3 : x = z
        · subst e3; rw [o.ir] at h3; cases h3
        · rw [if_neg e3]; exact h3
theorem plc_total (o : LOrd ll n) : ∀ {xs ys}, (∀ x ∈ xs, x ≤ n) → (∀ y ∈ ys, y ≤ n) → xs ≠ ys → plc ll xs ys = true ∨ plc ll ys xs = true
  | [], [], _, _, h => absurd rfl h
  | [], y :: ys, _, _, _ => .inl rfl
  | x :: xs, [], _, _, _ => .inr rfl
  | x :: xs, y :: ys, hx, hy, h => by
    unfold plc
    by_cases e : x = y
    · subst e
      rw [if_pos rfl, if_pos rfl]
      exact plc_total o (fun z hz => hx z (List.mem_cons_of_mem _ hz)) (fun z hz => hy z (List.mem_cons_of_mem _ hz)) fun q => h (by rw [q])
    · rw [if_neg e, if_neg (Ne.symm e)]
      exact o.tot (hx x List.mem_cons_self) (hy y List.mem_cons_self) e
theorem plc_conv (o : LOrd ll n) : ∀ {xs ys hs}, xs <+: hs → plc ll xs ys = true → plc ll ys hs = true → xs <+: ys
  | [], ys, _, _, _, _ => List.nil_prefix
  | x :: xs, [], _, _, h, _ => by simp [plc] at h
  | x :: xs, y :: ys, hs, hp, h1, h2 => by
    obtain ⟨t, rfl⟩ := hp
    rw [List.cons_append] at h2
    unfold plc at h1 h2
    by_cases e : x = y
    · subst e
      rw [if_pos rfl] at h1 h2
      obtain ⟨u, hu⟩ := plc_conv o ⟨t, rfl⟩ h1 h2
      exact ⟨u, by rw [← hu]; rfl⟩
    · rw [if_neg e] at h1
      rw [if_neg (Ne.symm e), o.asym h1] at h2
      cases h2
theorem plc_pre {xs t : List Nat} (h : t ≠ []) : plc ll xs (xs ++ t) = true := by
  have := plc_app (ll := ll) xs [] t
  rw [List.append_nil] at this
  rw [this]
  cases t with
  | nil => exact absurd rfl h
  | cons a t => rfl
theorem pre_iff (o : LOrd ll n) : ∀ {xs ys}, (∀ x ∈ xs, x ≤ n) → (∀ y ∈ ys, y ≤ n) → (xs <+: ys ↔ plc ll ys xs = false ∧ plc1 ll xs ys = false)
  | [], ys, _, _ => ⟨fun _ => ⟨(by cases ys <;> rfl), rfl⟩, fun _ => List.nil_prefix⟩
  | x :: xs, [], _, _ => ⟨fun h => (by obtain ⟨t, e⟩ := h; cases e), fun h => (by simp [plc] at h)⟩
  | x :: xs, y :: ys, hx, hy => by
    have ih := pre_iff o (xs := xs) (ys := ys) (fun z hz => hx z (List.mem_cons_of_mem _ hz)) (fun z hz => hy z (List.mem_cons_of_mem _ hz))
    unfold plc plc1
    by_cases e : x = y
    · subst e
      rw [if_pos rfl, if_pos rfl, ← ih]
      constructor
      · rintro ⟨t, h⟩
        exact ⟨t, by simpa using h⟩
      · rintro ⟨t, h⟩
        exact ⟨t, by rw [← h]; rfl⟩
    · rw [if_neg e, if_neg (Ne.symm e)]
      refine ⟨fun ⟨t, h⟩ => absurd (List.cons.inj h).1 e, fun ⟨h1, h2⟩ => ?_⟩
      rcases o.tot (hx x List.mem_cons_self) (hy y List.mem_cons_self) e with h | h
      · rw [h] at h2; cases h2
      · rw [h] at h1; cases h1
theorem plc1_mono (o : LOrd ll n) : ∀ {xs ys zs}, plc1 ll xs ys = true → plc ll ys zs = true → plc1 ll xs zs = true
  | [], _, _, h, _ => by simp [plc1] at h
  | x :: xs, [], _, h, _ => by simp [plc1] at h
  | x :: xs, y :: ys, [], _, h => by simp [plc] at h
  | x :: xs, y :: ys, z :: zs, h1, h2 => by
    unfold plc1 at h1 ⊢
    unfold plc at h2
    by_cases e1 : x = y
    · subst e1
      rw [if_pos rfl] at h1
      by_cases e2 : x = z
      · subst e2
        rw [if_pos rfl] at h2 ⊢
        exact plc1_mono o h1 h2
      · rw [if_neg e2] at h2 ⊢; exact h2
    · rw [if_neg e1] at h1
      by_cases e2 : y = z
      · subst e2; rw [if_neg e1]; exact h1
      · rw [if_neg e2] at h2
        have h3 := o.tr h1 h2
        by_cases e3 : x = z
        · subst e3; rw [o.ir] at h3; cases h3
        · rw [if_neg e3]; exact h3
end
structure Tree (f : Nat → Nat) (A : Nat → List Nat) : Prop where
  lt : ∀ k, k ≠ 0 → f k < k
  z : A 0 = [0]
  s : ∀ k, k ≠ 0 → A k = k :: A (f k)
section
variable {f : Nat → Nat} {A : Nat → List Nat}
theorem Tree.self (t : Tree f A) (k : Nat) : k ∈ A k := by
  by_cases h : k = 0
  · subst h; rw [t.z]; exact List.mem_cons_self
  · rw [t.s k h]; exact List.mem_cons_self
theorem Tree.ne (t : Tree f A) (k : Nat) : A k ≠ [] := List.ne_nil_of_mem (t.self k)
theorem Tree.suf (t : Tree f A) {q : Nat} : ∀ k, q ∈ A k → ∃ l, A k = l ++ A q ∧ (l = [] ↔ q = k) := by
  intro k
  induction k using Nat.strongRecOn with
  | ind k ih =>
    intro h
    by_cases hq : q = k
    · subst hq; exact ⟨[], rfl, by simp⟩
    by_cases hk : k = 0
    · subst hk; rw [t.z] at h; exact absurd (List.mem_singleton.mp h) hq
    · rw [t.s k hk] at h
      rcases List.mem_cons.mp h with h | h
      · exact absurd h hq
      · obtain ⟨l, e, _⟩ := ih (f k) (t.lt k hk) h
        exact ⟨k :: l, by rw [t.s k hk, e]; rfl, by simp [hq]⟩
theorem Tree.le (t : Tree f A) {q : Nat} : ∀ k, q ∈ A k → q ≤ k := by
  intro k
  induction k using Nat.strongRecOn with
  | ind k ih =>
    intro h
    by_cases hk : k = 0
    · subst hk; rw [t.z] at h; exact Nat.le_of_eq (List.mem_singleton.mp h)
    · rw [t.s k hk] at h
      rcases List.mem_cons.mp h with h | h
      · exact Nat.le_of_eq h
      · exact Nat.le_of_lt (Nat.lt_of_le_of_lt (ih _ (t.lt k hk) h) (t.lt k hk))
theorem Tree.zero (t : Tree f A) : ∀ k, 0 ∈ A k := by
  intro k
  induction k using Nat.strongRecOn with
  | ind k ih =>
    by_cases hk : k = 0
    · subst hk; exact t.self 0
    · rw [t.s k hk]; exact List.mem_cons_of_mem _ (ih _ (t.lt k hk))
theorem Tree.trans (t : Tree f A) {p q k : Nat} (h1 : p ∈ A q) (h2 : q ∈ A k) : p ∈ A k := by
  obtain ⟨l, e, _⟩ := t.suf k h2
  rw [e]; exact List.mem_append_right _ h1
theorem Tree.len (t : Tree f A) : ∀ k, (A k).length ≤ k + 1 := by
  intro k
  induction k using Nat.strongRecOn with
  | ind k ih =>
    by_cases hk : k = 0
    · subst hk; rw [t.z]; exact Nat.le_refl 1
    · rw [t.s k hk, List.length_cons]
      have := ih _ (t.lt k hk)
      have := t.lt k hk
      omega
theorem Tree.nodup (t : Tree f A) : ∀ k, (A k).Nodup := by
  intro k
  induction k using Nat.strongRecOn with
  | ind k ih =>
    by_cases hk : k = 0
    · subst hk; rw [t.z]; simp
    · rw [t.s k hk, List.nodup_cons]
      refine ⟨fun h => ?_, ih _ (t.lt k hk)⟩
      have := t.le _ h
      have := t.lt k hk
      omega
theorem Tree.child (t : Tree f A) {p : Nat} : ∀ k, p ∈ A k → p ≠ k → ∃ c, c ≠ 0 ∧ f c = p ∧ c ∈ A k := by
  intro k
  induction k using Nat.strongRecOn with
  | ind k ih =>
    intro h hne
    by_cases hk : k = 0
    · subst hk; rw [t.z] at h; exact absurd (List.mem_singleton.mp h) hne
    · rw [t.s k hk] at h ⊢
      rcases List.mem_cons.mp h with h | h
      · exact absurd h hne
      · by_cases hf : p = f k
        · exact ⟨k, hk, hf.symm, List.mem_cons_self⟩
        · obtain ⟨c, c1, c2, c3⟩ := ih _ (t.lt k hk) h hf
          exact ⟨c, c1, c2, List.mem_cons_of_mem _ c3⟩
theorem Tree.sib (t : Tree f A) {c h k : Nat} (hc : c ≠ 0) (hh : h ≠ 0) (e : f c = f h) (h1 : c ∈ A k) (h2 : h ∈ A k) : c = h := by
  have key : ∀ {c h : Nat}, c ≠ 0 → h ≠ 0 → f c = f h → c ∈ A h → c = h := fun {c h} hc hh e hm => by
    rw [t.s h hh] at hm
    rcases List.mem_cons.mp hm with hm | hm
    · exact hm
    · rw [← e] at hm
      have := t.le _ hm
      have := t.lt c hc
      omega
  obtain ⟨l, el, _⟩ := t.suf k h1
  obtain ⟨m, em, _⟩ := t.suf k h2
  have : A c <:+ A h ∨ A h <:+ A c := List.suffix_or_suffix_of_suffix ⟨l, el.symm⟩ ⟨m, em.symm⟩
  rcases this with ⟨u, hu⟩ | ⟨u, hu⟩
  · exact key hc hh e (by rw [← hu]; exact List.mem_append_right _ (t.self c))
  · exact (key hh hc e.symm (by rw [← hu]; exact List.mem_append_right _ (t.self h))).symm
noncomputable def ptl (A : Nat → List Nat) (ll : Nat → Nat → Bool) (a b : Nat) : Bool := plc ll (A a).reverse (A b).reverse
noncomputable def ptl1 (A : Nat → List Nat) (ll : Nat → Nat → Bool) (a b : Nat) : Bool := plc1 ll (A a).reverse (A b).reverse
theorem Tree.pre (t : Tree f A) {p k : Nat} : p ∈ A k ↔ (A p).reverse <+: (A k).reverse := by
  constructor
  · intro h
    obtain ⟨l, e, _⟩ := t.suf k h
    rw [e, List.reverse_append]
    exact ⟨_, rfl⟩
  · rintro ⟨u, e⟩
    have : p ∈ (A p).reverse := List.mem_reverse.mpr (t.self p)
    have : p ∈ (A k).reverse := by rw [← e]; exact List.mem_append_left _ this
    exact List.mem_reverse.mp this
theorem Tree.inj (t : Tree f A) {a b : Nat} (h : A a = A b) : a = b := by
  have h1 : a ∈ A b := h ▸ t.self a
  have h2 : b ∈ A a := h ▸ t.self b
  exact Nat.le_antisymm (t.le _ h1) (t.le _ h2)
variable {ll : Nat → Nat → Bool} {n : Nat}
theorem Tree.all (t : Tree f A) {k : Nat} (h : k ≤ n) : ∀ x ∈ (A k).reverse, x ≤ n := fun x hx => Nat.le_trans (t.le k (List.mem_reverse.mp hx)) h
theorem ptl_irrefl (a : Nat) : ptl A ll a a = false := plc_irrefl _
theorem ptl_trans (o : LOrd ll n) {a b c : Nat} (h1 : ptl A ll a b = true) (h2 : ptl A ll b c = true) : ptl A ll a c = true := plc_trans o h1 h2
theorem ptl_asym (o : LOrd ll n) {a b : Nat} (h : ptl A ll a b = true) : ptl A ll b a = false := by
  cases h2 : ptl A ll b a with
  | false => rfl
  | true => have := ptl_trans o h h2; rw [ptl_irrefl] at this; cases this
theorem ptl_total (t : Tree f A) (o : LOrd ll n) {a b : Nat} (ha : a ≤ n) (hb : b ≤ n) (h : a ≠ b) : ptl A ll a b = true ∨ ptl A ll b a = true :=
  plc_total o (t.all ha) (t.all hb) fun e => h (t.inj (List.reverse_inj.mp e))
theorem ptl_anc (t : Tree f A) {p k : Nat} (h : p ∈ A k) (hne : p ≠ k) : ptl A ll p k = true := by
  obtain ⟨l, e, hl⟩ := t.suf k h
  unfold ptl
  rw [e, List.reverse_append]
  exact plc_pre fun q => hne (hl.mp (by simpa using q))
theorem ptl_conv (t : Tree f A) (o : LOrd ll n) {p x h : Nat} (hp : p ∈ A h) (h1 : ptl A ll p x = true) (h2 : ptl A ll x h = true) : p ∈ A x :=
  t.pre.mpr (plc_conv o (t.pre.mp hp) h1 h2)
theorem ptl_sib (t : Tree f A) {c h : Nat} (hc : c ≠ 0) (hh : h ≠ 0) (e : f c = f h) (hne : h ≠ c) (hl : ptl A ll h c = true) : ll h c = true := by
  unfold ptl at hl
  rw [t.s h hh, t.s c hc, e, List.reverse_cons, List.reverse_cons, plc_app] at hl
  simpa [plc, hne] using hl
theorem ptl_desc (t : Tree f A) (o : LOrd ll n) {a b : Nat} (ha : a ≤ n) (hb : b ≤ n) : a ∈ A b ↔ ptl A ll b a = false ∧ ptl1 A ll a b = false :=
  t.pre.trans (pre_iff o (t.all ha) (t.all hb))
theorem ptl1_mono (o : LOrd ll n) {a b c : Nat} (h1 : ptl1 A ll a b = true) (h2 : ptl A ll b c = true) : ptl1 A ll a c = true := plc1_mono o h1 h2
end
theorem countP3 {α : Type} {p q r s : α → Bool} : ∀ {l : List α}, (∀ x ∈ l, (p x).toNat + (q x).toNat + (r x).toNat ≤ (s x).toNat) → l.countP p + l.countP q + l.countP r ≤ l.countP s
  | [], _ => by simp
  | a :: l, h => by
    have ih := countP3 (l := l) fun x hx => h x (List.mem_cons_of_mem _ hx)
    have h1 := h a List.mem_cons_self
    simp only [List.countP_cons]
    cases hp : p a <;> cases hq : q a <;> cases hr : r a <;> cases hs : s a <;> simp [hp, hq, hr, hs] at h1 ⊢ <;> omega
noncomputable def tsz (A : Nat → List Nat) (n p : Nat) : Nat := (List.range (n + 1)).countP fun k => decide (p ∈ A k)
section
variable {f : Nat → Nat} {A : Nat → List Nat} {n : Nat}
theorem tsz_le (p : Nat) : tsz A n p ≤ n + 1 := by
  have := List.countP_le_length (p := fun k => decide (p ∈ A k)) (l := List.range (n + 1))
  rw [List.length_range] at this; exact this
theorem tsz_pos (t : Tree f A) {p : Nat} (h : p ≤ n) : 1 ≤ tsz A n p := List.countP_pos_iff.mpr ⟨p, List.mem_range.mpr (by omega), by simpa using t.self p⟩
theorem tsz_mono (t : Tree f A) {p k : Nat} (h : p ∈ A k) : tsz A n k ≤ tsz A n p := List.countP_mono_left fun x _ hx => by
  simp only [decide_eq_true_eq] at hx ⊢
  exact t.trans h hx
theorem tsz_two (t : Tree f A) {q c h : Nat} (hc : c ≠ 0) (hh : h ≠ 0) (e1 : f c = q) (e2 : f h = q) (hne : c ≠ h) (hq : q ≤ n) : 1 + tsz A n c + tsz A n h ≤ tsz A n q := by
  have h1 : (List.range (n + 1)).countP (fun k => decide (k = q)) = 1 := by
    have : 1 ≤ (List.range (n + 1)).countP (fun k => decide (k = q)) := List.countP_pos_iff.mpr ⟨q, List.mem_range.mpr (by omega), by simp⟩
    have h2 : (List.range (n + 1)).countP (fun k => decide (k = q)) ≤ 1 := by
      have := List.nodup_iff_count.mp (List.nodup_range (n := n + 1)) q
      rw [List.count] at this
      refine Nat.le_trans (Nat.le_of_eq (List.countP_congr fun x _ => ?_)) this
      simp
    omega
  have hqc : q ∈ A c := by rw [t.s c hc, e1]; exact List.mem_cons_of_mem _ (t.self q)
  have hqh : q ∈ A h := by rw [t.s h hh, e2]; exact List.mem_cons_of_mem _ (t.self q)
  have hlc := t.lt c hc
  have hlh := t.lt h hh
  have := countP3 (l := List.range (n + 1)) (p := fun k => decide (k = q)) (q := fun k => decide (c ∈ A k)) (r := fun k => decide (h ∈ A k)) (s := fun k => decide (q ∈ A k)) fun x _ => by
    by_cases a1 : x = q
    · subst a1
      have n1 : ¬ c ∈ A x := fun z => by have := t.le _ z; omega
      have n2 : ¬ h ∈ A x := fun z => by have := t.le _ z; omega
      simp [n1, n2, t.self x]
    · by_cases a2 : c ∈ A x
      · have n2 : ¬ h ∈ A x := fun z => hne (t.sib hc hh (e1.trans e2.symm) a2 z)
        simp [a1, a2, n2, t.trans hqc a2]
      · by_cases a3 : h ∈ A x
        · simp [a1, a2, a3, t.trans hqh a3]
        · simp [a1, a2, a3]
  rw [h1] at this
  exact this
end
theorem bis_spec (p : Nat → Bool) (lo hi : Nat) (h : lo ≤ hi) (mono : ∀ i j, lo ≤ i → i ≤ j → j < hi → p j = true → p i = true) :
    lo ≤ bis p lo hi ∧ bis p lo hi ≤ hi ∧ (∀ i, lo ≤ i → i < bis p lo hi → p i = true) ∧ (∀ i, bis p lo hi ≤ i → i < hi → p i = false) := by
  unfold bis
  by_cases hlt : lo < hi
  · rw [dif_pos hlt]
    have m1 : lo ≤ (lo + hi) / 2 := by omega
    have m2 : (lo + hi) / 2 < hi := by omega
    generalize (lo + hi) / 2 = m at m1 m2
    cases hm : p m with
    | true =>
      rw [if_pos rfl]
      obtain ⟨a, b, c, d⟩ := bis_spec p (m + 1) hi (by omega) fun i j h1 h2 h3 => mono i j (by omega) h2 h3
      refine ⟨by omega, b, fun i h1 h2 => ?_, d⟩
      by_cases him : i ≤ m
      · exact mono i m h1 him m2 hm
      · exact c i (by omega) h2
    | false =>
      rw [if_neg Bool.false_ne_true]
      obtain ⟨a, b, c, d⟩ := bis_spec p lo m m1 fun i j h1 h2 h3 => mono i j h1 h2 (by omega)
      refine ⟨a, by omega, c, fun i h1 h2 => ?_⟩
      by_cases him : i < m
      · exact d i h1 him
      · cases hi' : p i with
        | false => rfl
        | true => rw [mono m i m1 (by omega) h2 hi'] at hm; cases hm
  · rw [dif_neg hlt]
    exact ⟨Nat.le_refl _, h, fun i h1 h2 => by omega, fun i h1 h2 => by omega⟩
termination_by hi - lo
theorem getD_el {l : List Nat} {i : Nat} (h : i < l.length) : l.getD i 0 = l[i] := by rw [List.getD_eq_getElem?_getD, List.getElem?_eq_getElem h]; rfl
noncomputable abbrev Srt (lt : Nat → Nat → Bool) (l : List Nat) : Prop := l.Pairwise fun a b => lt a b = true
theorem Srt.at {lt : Nat → Nat → Bool} {l : List Nat} (s : Srt lt l) {i j : Nat} (h : i < j) (hj : j < l.length) : lt (l.getD i 0) (l.getD j 0) = true := by
  rw [getD_el (by omega), getD_el hj]
  exact List.pairwise_iff_getElem.mp s i j (by omega) hj h
structure TOrd (lt : Nat → Nat → Bool) (n : Nat) : Prop where
  tr : ∀ {a b c}, lt a b = true → lt b c = true → lt a c = true
  ir : ∀ {a}, lt a a = false
  tot : ∀ {a b}, a ≤ n → b ≤ n → a ≠ b → lt a b = true ∨ lt b a = true
theorem insK_srt {lt : Nat → Nat → Bool} {n : Nat} (o : TOrd lt n) {as : List Nat} (s : Srt lt as) (hle : ∀ a ∈ as, a ≤ n) {x : Nat} (hx : x ≤ n) (hn : x ∉ as) (even : Bool) : Srt lt (insK lt as even x) := by
  have asym : ∀ {a b}, lt a b = true → lt b a = false := fun {a b} h => by
    cases h2 : lt b a with
    | false => rfl
    | true => have := o.tr h h2; rw [o.ir] at this; cases this
  have hp : ∀ j, j < as.length → (if even then lt (as.getD j 0) x else !(lt x (as.getD j 0))) = lt (as.getD j 0) x := fun j hj => by
    cases even with
    | true => rfl
    | false =>
      have hm : as.getD j 0 ∈ as := by rw [getD_el hj]; exact List.getElem_mem hj
      have hne : as.getD j 0 ≠ x := fun e => hn (e ▸ hm)
      show (!(lt x (as.getD j 0))) = _
      rcases o.tot (hle _ hm) hx hne with h | h
      · rw [h, asym h]; rfl
      · rw [h, asym h]; rfl
  obtain ⟨h1, h2, h3, h4⟩ := bis_spec (fun j => if even then lt (as.getD j 0) x else !(lt x (as.getD j 0))) 0 as.length (Nat.zero_le _) fun i j _ hij hj h => by
    rw [hp j hj] at h
    rw [hp i (by omega)]
    rcases Nat.lt_or_eq_of_le hij with hij | hij
    · exact o.tr (s.at hij hj) h
    · rw [hij]; exact h
  unfold insK ins
  generalize bis _ 0 as.length = m at h1 h2 h3 h4
  have ltl : ∀ a ∈ as.take m, lt a x = true := fun a ha => by
    obtain ⟨i, hi, e⟩ := List.mem_iff_getElem.mp ha
    rw [List.length_take] at hi
    have := h3 i (Nat.zero_le _) (by omega)
    rw [hp i (by omega), getD_el (by omega)] at this
    rw [← e, List.getElem_take]; exact this
  have gtl : ∀ b ∈ as.drop m, lt x b = true := fun b hb => by
    obtain ⟨i, hi, e⟩ := List.mem_iff_getElem.mp hb
    rw [List.length_drop] at hi
    have := h4 (m + i) (by omega) (by omega)
    rw [hp (m + i) (by omega), getD_el (by omega)] at this
    rw [← e, List.getElem_drop]
    have hm : as[m + i]'(by omega) ∈ as := List.getElem_mem _
    rcases o.tot (hle _ hm) hx (fun q => hn (q ▸ hm)) with h | h
    · rw [h] at this; cases this
    · exact h
  refine List.pairwise_append.mpr ⟨s.sublist (List.take_sublist m as), List.pairwise_cons.mpr ⟨gtl, s.sublist (List.drop_sublist m as)⟩, fun a ha b hb => ?_⟩
  rcases List.mem_cons.mp hb with rfl | hb
  · exact ltl a ha
  · exact o.tr (ltl a ha) (gtl b hb)
theorem mem_insK {lt : Nat → Nat → Bool} {as : List Nat} {even : Bool} {x a : Nat} : a ∈ insK lt as even x ↔ a ∈ as ∨ a = x := by
  unfold insK ins
  generalize bis _ 0 as.length = m
  have h : a ∈ as ↔ a ∈ as.take m ∨ a ∈ as.drop m := by
    rw [← List.mem_append, List.take_append_drop]
  rw [List.mem_append, List.mem_cons, h]
  constructor
  · rintro (h | h | h)
    · exact .inl (.inl h)
    · exact .inr h
    · exact .inl (.inr h)
  · rintro ((h | h) | h)
    · exact .inl h
    · exact .inr (.inr h)
    · exact .inr (.inl h)
theorem rowUp_spec {lt : Nat → Nat → Bool} {n : Nat} (o : TOrd lt n) (turn : Int) : ∀ i, i ≤ n + 1 → Srt lt (rowUp lt (n + 1) turn i) ∧ ∀ a, a ∈ rowUp lt (n + 1) turn i ↔ ∃ j, j < i ∧ a = (((j : Int) + turn).fmod ((n + 1 : Nat) : Int)).toNat
  | 0, _ => ⟨List.Pairwise.nil, fun a => ⟨fun h => (by cases h), fun ⟨j, h, _⟩ => (by omega)⟩⟩
  | i + 1, hi => by
    obtain ⟨h1, h2⟩ := rowUp_spec o turn i (by omega)
    have hle : ∀ a ∈ rowUp lt (n + 1) turn i, a ≤ n := fun a ha => by have := rowUp_lt lt turn (show 0 < n + 1 by omega) i a ha; omega
    have hx := (fmod_lt (x := (i : Int) + turn) (show 0 < n + 1 by omega)).1
    refine ⟨insK_srt o h1 hle (by omega) (fun hm => ?_) _, fun a => ?_⟩
    · obtain ⟨j, hj, e⟩ := (h2 _).mp hm
      have e1 := (fmod_lt (x := (i : Int) + turn) (show 0 < n + 1 by omega)).2
      have e2 := (fmod_lt (x := (j : Int) + turn) (show 0 < n + 1 by omega)).2
      rw [e, e2] at e1
      rw [Int.fmod_eq_emod_of_nonneg _ (by omega), Int.fmod_eq_emod_of_nonneg _ (by omega)] at e1
      have h3 := Int.emod_emod_of_dvd (((i : Int) + turn) - (j + turn)) (Int.dvd_refl ((n + 1 : Nat) : Int))
      have h4 : (((i : Int) + turn) - (j + turn)) % ((n + 1 : Nat) : Int) = 0 := Int.emod_eq_emod_iff_emod_sub_eq_zero.mp e1.symm
      have h5 : ((i : Int) + turn) - (j + turn) = i - j := by omega
      rw [h5, Int.emod_eq_of_lt (by omega) (by omega)] at h4
      omega
    · show a ∈ insK lt _ _ _ ↔ _
      rw [mem_insK, h2]
      constructor
      · rintro (⟨j, hj, e⟩ | e)
        · exact ⟨j, by omega, e⟩
        · exact ⟨i, by omega, e⟩
      · rintro ⟨j, hj, e⟩
        by_cases hji : j = i
        · subst hji; exact .inr e
        · exact .inl ⟨j, by omega, e⟩
theorem rowUp_mem {lt : Nat → Nat → Bool} {n : Nat} (o : TOrd lt n) (turn : Int) (a : Nat) : a ∈ rowUp lt (n + 1) turn (n + 1) ↔ a ≤ n := by
  constructor
  · intro h
    have := rowUp_lt lt turn (show 0 < n + 1 by omega) _ a h
    omega
  · intro h
    refine ((rowUp_spec o turn (n + 1) (Nat.le_refl _)).2 a).mpr ⟨(((a : Int) - turn).fmod ((n + 1 : Nat) : Int)).toNat, (fmod_lt (show 0 < n + 1 by omega)).1, ?_⟩
    rw [(fmod_lt (x := (a : Int) - turn) (show 0 < n + 1 by omega)).2, Int.fmod_eq_emod_of_nonneg _ (by omega), Int.fmod_eq_emod_of_nonneg _ (by omega), Int.emod_add_emod]
    have e : (a : Int) - turn + turn = a := by omega
    rw [e, Int.emod_eq_of_lt (by omega) (by omega)]
    omega
structure Rw (f : Nat → Nat) (A : Nat → List Nat) (ll : Nat → Nat → Bool) (n : Nat) (R : List Nat) : Prop where
  t : Tree f A
  o : LOrd ll n
  len : R.length = n + 1
  mem : ∀ a, a ∈ R ↔ a ≤ n
  srt : Srt (ptl A ll) R
  big : ∀ a b, ll a b = true → tsz A n b ≤ tsz A n a
section
variable {f : Nat → Nat} {A : Nat → List Nat} {ll : Nat → Nat → Bool} {n : Nat} {R : List Nat}
noncomputable abbrev at_ (R : List Nat) (i : Nat) : Nat := R.getD i 0
theorem Rw.le (w : Rw f A ll n R) {i : Nat} (h : i < n + 1) : at_ R i ≤ n := (w.mem _).mp (by rw [at_, getD_el (by rw [w.len]; exact h)]; exact List.getElem_mem _)
theorem Rw.lt (w : Rw f A ll n R) {i j : Nat} (h : i < j) (hj : j < n + 1) : ptl A ll (at_ R i) (at_ R j) = true := w.srt.at h (by rw [w.len]; exact hj)
theorem Rw.inj (w : Rw f A ll n R) {i j : Nat} (hi : i < n + 1) (hj : j < n + 1) (e : at_ R i = at_ R j) : i = j := by
  rcases Nat.lt_trichotomy i j with h | h | h
  · have := w.lt h hj; rw [e, ptl_irrefl] at this; cases this
  · exact h
  · have := w.lt h hi; rw [e, ptl_irrefl] at this; cases this
theorem Rw.pos (w : Rw f A ll n R) {a : Nat} (h : a ≤ n) : R.idxOf a < n + 1 ∧ at_ R (R.idxOf a) = a := by
  have h1 : R.idxOf a < R.length := List.idxOf_lt_length_iff.mpr ((w.mem a).mpr h)
  refine ⟨by rw [← w.len]; exact h1, ?_⟩
  rw [at_, getD_el h1]
  exact List.getElem_idxOf h1
theorem Rw.posAt (w : Rw f A ll n R) {i : Nat} (h : i < n + 1) : R.idxOf (at_ R i) = i :=
  have h1 := w.pos (w.le h)
  w.inj h1.1 h h1.2
theorem Rw.posLt (w : Rw f A ll n R) {i j : Nat} (hi : i < n + 1) (hj : j < n + 1) (h : ptl A ll (at_ R i) (at_ R j) = true) : i < j := by
  rcases Nat.lt_trichotomy i j with h1 | h1 | h1
  · exact h1
  · rw [h1, ptl_irrefl] at h; cases h
  · rw [ptl_asym w.o (w.lt h1 hi)] at h; cases h
theorem Rw.up (w : Rw f A ll n R) {p s : Nat} (hs : s < n + 1) (hp : p ∈ A (at_ R s)) : R.idxOf p ≤ s := by
  have hpn : p ≤ n := Nat.le_trans (w.t.le _ hp) (w.le hs)
  obtain ⟨h1, h2⟩ := w.pos hpn
  by_cases e : p = at_ R s
  · rw [e, w.posAt hs]; exact Nat.le_refl _
  · have := ptl_anc (ll := ll) w.t hp e
    rw [← h2] at this
    exact Nat.le_of_lt (w.posLt h1 hs this)
theorem Rw.root (w : Rw f A ll n R) : R.idxOf 0 = 0 := by
  have h := w.up (p := 0) (s := 0) (by omega) (w.t.zero _)
  omega
theorem Rw.at0 (w : Rw f A ll n R) : at_ R 0 = 0 := by
  have := (w.pos (Nat.zero_le n)).2
  rwa [w.root] at this
theorem Rw.pos0 (w : Rw f A ll n R) {i : Nat} (h : i < n + 1) (h0 : i ≠ 0) : at_ R i ≠ 0 := fun e => h0 (w.inj h (by omega) (e.trans w.at0.symm))
noncomputable def hds (f : Nat → Nat) (n : Nat) (R : List Nat) : List Nat := (List.range (n + 1)).filter fun s => s == 0 || f (R.getD s 0) != R.getD (s - 1) 0
theorem mem_hds {i : Nat} : i ∈ hds f n R ↔ i < n + 1 ∧ (i = 0 ∨ f (at_ R i) ≠ at_ R (i - 1)) := by simp [hds, List.mem_filter]
theorem hds_srt : (hds f n R).Pairwise (· < ·) := List.Pairwise.filter _ List.pairwise_lt_range
theorem hds_at {i j : Nat} (h : i < j) (hj : j < (hds f n R).length) : (hds f n R).getD i 0 < (hds f n R).getD j 0 := by
  rw [getD_el (by omega), getD_el hj]
  exact List.pairwise_iff_getElem.mp hds_srt i j (by omega) hj h
structure Top_ (f : Nat → Nat) (n : Nat) (R : List Nat) (s : Nat) : Prop where
  one : 1 ≤ bis (fun j => decide ((hds f n R).getD j 0 ≤ s)) 0 (hds f n R).length
  le : tpx (hds f n R) s ≤ s
  mem : tpx (hds f n R) s ∈ hds f n R
  max : ∀ h ∈ hds f n R, h ≤ s → h ≤ tpx (hds f n R) s
theorem top_ (s : Nat) : Top_ f n R s := by
  have h0 : 0 ∈ hds f n R := mem_hds.mpr ⟨by omega, .inl rfl⟩
  have sm := fun {i j : Nat} => hds_at (f := f) (n := n) (R := R) (i := i) (j := j)
  suffices q : 1 ≤ bis (fun j => decide ((hds f n R).getD j 0 ≤ s)) 0 (hds f n R).length ∧ tpx (hds f n R) s ≤ s ∧ tpx (hds f n R) s ∈ hds f n R ∧ ∀ h ∈ hds f n R, h ≤ s → h ≤ tpx (hds f n R) s from ⟨q.1, q.2.1, q.2.2.1, q.2.2.2⟩
  unfold tpx
  generalize hds f n R = H at h0 sm
  obtain ⟨h1, h2, h3, h4⟩ := bis_spec (fun j => decide (H.getD j 0 ≤ s)) 0 H.length (Nat.zero_le _) fun i j _ hij hj h => by
    simp only [decide_eq_true_eq] at h ⊢
    rcases Nat.lt_or_eq_of_le hij with q | q
    · have := sm q hj; omega
    · rw [q]; exact h
  have ex : ∀ h ∈ H, ∃ j, j < H.length ∧ H.getD j 0 = h := fun h hm => by
    obtain ⟨j, hj, e⟩ := List.mem_iff_getElem.mp hm
    exact ⟨j, hj, by rw [getD_el hj]; exact e⟩
  have hone : 1 ≤ bis (fun j => decide (H.getD j 0 ≤ s)) 0 H.length := by
    obtain ⟨j, hj, e⟩ := ex 0 h0
    rcases Nat.lt_or_ge j (bis (fun j => decide (H.getD j 0 ≤ s)) 0 H.length) with q | q
    · omega
    · have := h4 j q hj
      rw [e] at this
      simp at this
  refine ⟨hone, ?_, ?_, fun h hm hs => ?_⟩
  · simpa using h3 (bis (fun j => decide (H.getD j 0 ≤ s)) 0 H.length - 1) (Nat.zero_le _) (by omega)
  · rw [getD_el (by omega)]; exact List.getElem_mem _
  · obtain ⟨j, hj, e⟩ := ex h hm
    rcases Nat.lt_or_ge j (bis (fun j => decide (H.getD j 0 ≤ s)) 0 H.length) with q | q
    · rw [← e]
      rcases Nat.lt_or_eq_of_le (show j ≤ bis (fun j => decide (H.getD j 0 ≤ s)) 0 H.length - 1 by omega) with q2 | q2
      · exact Nat.le_of_lt (sm q2 (by omega))
      · rw [← q2]; exact Nat.le_refl _
    · have := h4 j q hj
      rw [e] at this
      simp at this
      omega
noncomputable abbrev tp (f : Nat → Nat) (n : Nat) (R : List Nat) (s : Nat) : Nat := tpx (hds f n R) s
theorem tp_in {s i : Nat} (hs : s < n + 1) (h1 : tp f n R s < i) (h2 : i ≤ s) : f (at_ R i) = at_ R (i - 1) := by
  have hn : ¬ i ∈ hds f n R := fun hm => by have := (top_ (f := f) (n := n) (R := R) s).max i hm h2; unfold tp at h1; omega
  rw [mem_hds] at hn
  by_cases e : f (at_ R i) = at_ R (i - 1)
  · exact e
  · exact absurd ⟨by omega, .inr e⟩ hn
theorem tp_same {s i : Nat} (h1 : tp f n R s ≤ i) (h2 : i ≤ s) : tp f n R i = tp f n R s := by
  have a := top_ (f := f) (n := n) (R := R) s
  have b := top_ (f := f) (n := n) (R := R) i
  have c := b.max _ a.mem h1
  have d := a.max _ b.mem (Nat.le_trans b.le h2)
  unfold tp; omega
theorem tp_head {s : Nat} (h : tp f n R s ≠ 0) : f (at_ R (tp f n R s)) ≠ at_ R (tp f n R s - 1) := by
  have := (mem_hds.mp (top_ (f := f) (n := n) (R := R) s).mem).2
  rcases this with q | q
  · exact absurd q h
  · exact q
theorem seg_nil {t s : Nat} (h : s < t) : seg R t s = [] := by simp [seg, show s + 1 - t = 0 by omega]
theorem seg_succ {t s : Nat} (h : t ≤ s + 1) (hs : s + 1 < R.length) : seg R t (s + 1) = at_ R (s + 1) :: seg R t s := by
  unfold seg
  have e : s + 1 + 1 - t = (s + 1 - t) + 1 := by omega
  rw [e, List.take_succ, List.reverse_append]
  have : (R.drop t)[s + 1 - t]? = some (at_ R (s + 1)) := by
    rw [List.getElem?_drop, show t + (s + 1 - t) = s + 1 by omega, List.getElem?_eq_getElem hs, at_, getD_el hs]
  rw [this]; rfl
theorem mem_seg {t p : Nat} : ∀ {s : Nat}, s < R.length → p ∈ seg R t s → ∃ i, t ≤ i ∧ i ≤ s ∧ p = at_ R i
  | 0, hs, h => by
    by_cases h0 : t = 0
    · subst h0
      cases R with
      | nil => cases hs
      | cons a r =>
        have : p ∈ [a] := by simpa [seg] using h
        exact ⟨0, Nat.le_refl _, Nat.le_refl _, List.mem_singleton.mp this⟩
    · rw [seg_nil (by omega)] at h; cases h
  | s + 1, hs, h => by
    by_cases ht : t ≤ s + 1
    · rw [seg_succ ht hs] at h
      rcases List.mem_cons.mp h with h | h
      · exact ⟨s + 1, ht, Nat.le_refl _, h⟩
      · obtain ⟨i, a, b, c⟩ := mem_seg (by omega) h
        exact ⟨i, a, by omega, c⟩
    · rw [seg_nil (by omega)] at h; cases h
theorem seg_split {t s : Nat} (h : t ≤ s) (hs : s < R.length) : seg R t s = seg R (t + 1) s ++ [at_ R t] := by
  unfold seg
  have e : R.drop t = at_ R t :: R.drop (t + 1) := by
    rw [at_, getD_el (by omega)]; exact List.drop_eq_getElem_cons (by omega)
  rw [e, show s + 1 - t = (s + 1 - (t + 1)) + 1 by omega, List.take_succ_cons, List.reverse_cons]
theorem Rw.run (w : Rw f A ll n R) {t : Nat} : ∀ {s : Nat}, t ≤ s → s < n + 1 → (∀ i, t < i → i ≤ s → f (at_ R i) = at_ R (i - 1)) → A (at_ R s) = seg R (t + 1) s ++ A (at_ R t)
  | 0, h, hs, hi => by rw [show t = 0 by omega, seg_nil (by omega)]; rfl
  | s + 1, h, hs, hi => by
    by_cases e : t = s + 1
    · rw [e, seg_nil (by omega)]; rfl
    · have ih := w.run (t := t) (s := s) (by omega) (by omega) fun i h1 h2 => hi i h1 (by omega)
      rw [seg_succ (by omega) (by rw [w.len]; exact hs), w.t.s _ (w.pos0 hs (by omega)), hi (s + 1) (by omega) (Nat.le_refl _), Nat.add_sub_cancel, ih]
      rfl
theorem Rw.runTop (w : Rw f A ll n R) {s : Nat} (hs : s < n + 1) (h0 : tp f n R s ≠ 0) : A (at_ R s) = seg R (tp f n R s) s ++ A (f (at_ R (tp f n R s))) := by
  have hle : tp f n R s ≤ s := (top_ s).le
  rw [w.run hle hs fun i h1 h2 => tp_in hs h1 h2, seg_split hle (by rw [w.len]; exact hs), w.t.s _ (w.pos0 (by omega) h0)]
  simp
theorem Rw.fup (w : Rw f A ll n R) {i : Nat} (h : i < n + 1) (h0 : i ≠ 0) : R.idxOf (f (at_ R i)) < i ∧ f (at_ R i) ≤ n := by
  have hne := w.pos0 h h0
  have hlt := w.t.lt _ hne
  have hn := w.le h
  have hm : f (at_ R i) ∈ A (at_ R i) := by rw [w.t.s _ hne]; exact List.mem_cons_of_mem _ (w.t.self _)
  have h1 := w.up h hm
  refine ⟨Nat.lt_of_le_of_ne h1 fun e => ?_, by omega⟩
  have := (w.pos (show f (at_ R i) ≤ n by omega)).2
  rw [e] at this
  omega
structure Half (A : Nat → List Nat) (R : List Nat) (a : Nat) (B : List Nat) (p : List Nat) (s s' : Nat) : Prop where
  way : A a = p ++ A (at_ R s)
  off : ∀ x ∈ p, x ∉ B
  far : ∀ x ∈ p, s' < R.idxOf x
theorem Half.more (w : Rw f A ll n R) {a : Nat} {B p p' : List Nat} {s s' t : Nat} (h : Half A R a B p s s') (hs : s < n + 1) (hs' : s' < n + 1) (hB : B = p' ++ A (at_ R s')) (hp' : ∀ x ∈ p', s < R.idxOf x) (ht : s' < t) :
    (∀ x ∈ p ++ seg R t s, x ∉ B) ∧ (∀ x ∈ p ++ seg R t s, s' < R.idxOf x) := by
  have key : ∀ x ∈ seg R t s, s' < R.idxOf x ∧ R.idxOf x ≤ s := fun x hx => by
    obtain ⟨i, h1, h2, rfl⟩ := mem_seg (by rw [w.len]; exact hs) hx
    rw [w.posAt (by omega)]; omega
  refine ⟨fun x hx => ?_, fun x hx => ?_⟩
  · rcases List.mem_append.mp hx with hx | hx
    · exact h.off x hx
    · obtain ⟨k1, k2⟩ := key x hx
      rw [hB, List.mem_append]
      rintro (q | q)
      · have := hp' x q; omega
      · have := w.up hs' q; omega
  · rcases List.mem_append.mp hx with hx | hx
    · exact h.far x hx
    · exact (key x hx).1
theorem Half.step (w : Rw f A ll n R) {a : Nat} {B p p' : List Nat} {s s' : Nat} (h : Half A R a B p s s') (hs : s < n + 1) (hs' : s' < n + 1) (hB : B = p' ++ A (at_ R s')) (hp' : ∀ x ∈ p', s < R.idxOf x) (hlt : s' < s) (hne : tp f n R s ≠ tp f n R s') :
    s' < tp f n R s ∧ R.idxOf (f (at_ R (tp f n R s))) < tp f n R s ∧ Half A R a B (p ++ seg R (tp f n R s) s) (R.idxOf (f (at_ R (tp f n R s)))) s' := by
  have hle : tp f n R s ≤ s := (top_ s).le
  have ht : s' < tp f n R s := by
    rcases Nat.lt_or_ge s' (tp f n R s) with q | q
    · exact q
    · exact absurd (tp_same q (Nat.le_of_lt hlt)).symm hne
  obtain ⟨u1, u2⟩ := w.fup (i := tp f n R s) (by omega) (by omega)
  obtain ⟨m1, m2⟩ := h.more w hs hs' hB hp' ht
  refine ⟨ht, u1, ?_, m1, m2⟩
  rw [(w.pos u2).2, List.append_assoc, ← w.runTop hs (by omega)]
  exact h.way
end
section
variable {f : Nat → Nat} {A : Nat → List Nat} {ll : Nat → Nat → Bool} {n : Nat} {R : List Nat}
theorem Rw.heavy (w : Rw f A ll n R) {s : Nat} (hs : s < n + 1) (h0 : tp f n R s ≠ 0) : 1 + 2 * tsz A n (at_ R (tp f n R s)) ≤ tsz A n (f (at_ R (tp f n R s))) := by
  have hle : tp f n R s ≤ s := (top_ s).le
  have hd := tp_head h0
  generalize tp f n R s = t at h0 hle hd
  have htn : t < n + 1 := by omega
  obtain ⟨u1, u2⟩ := w.fup htn h0
  have hc := w.pos0 htn h0
  generalize hq : f (at_ R t) = q at u1 u2 hd
  obtain ⟨q1, q2⟩ := w.pos u2
  have hqt : q ∈ A (at_ R t) := by rw [w.t.s _ hc, hq]; exact List.mem_cons_of_mem _ (w.t.self _)
  have hlt : R.idxOf q + 1 < t := by
    rcases Nat.lt_or_eq_of_le (show R.idxOf q + 1 ≤ t by omega) with z | z
    · exact z
    · rw [← z, Nat.add_sub_cancel, q2] at hd; exact absurd rfl hd
  have l1 : ptl A ll q (at_ R (R.idxOf q + 1)) = true := by
    have := w.lt (i := R.idxOf q) (j := R.idxOf q + 1) (by omega) (by omega)
    rwa [q2] at this
  have l2 := w.lt hlt htn
  have hqh := ptl_conv w.t w.o hqt l1 l2
  have hne : q ≠ at_ R (R.idxOf q + 1) := fun e => by rw [← e, ptl_irrefl] at l1; cases l1
  obtain ⟨c, c1, c2, c3⟩ := w.t.child _ hqh hne
  have hcn : c ≤ n := Nat.le_trans (w.t.le _ c3) (w.le (by omega))
  have hch : c = at_ R (R.idxOf q + 1) := by
    by_cases e : c = at_ R (R.idxOf q + 1)
    · exact e
    · exfalso
      obtain ⟨p1, p2⟩ := w.pos hcn
      have a1 := ptl_anc (ll := ll) w.t c3 e
      have hqc : q ∈ A c := by rw [w.t.s c c1, c2]; exact List.mem_cons_of_mem _ (w.t.self _)
      have hqc' : q ≠ c := fun z => by have := w.t.lt c c1; omega
      have a2 := ptl_anc (ll := ll) w.t hqc hqc'
      rw [← p2] at a1 a2
      have b1 := w.posLt p1 (by omega) a1
      rw [← q2] at a2
      have b2 := w.posLt q1 p1 a2
      omega
  rw [← hch] at l2
  have hcne : c ≠ at_ R t := fun e => by rw [e, ptl_irrefl] at l2; cases l2
  have hb := w.big _ _ (ptl_sib w.t hc c1 (hq.trans c2.symm) hcne l2)
  have := tsz_two (n := n) w.t hc c1 hq c2 (Ne.symm hcne) u2
  omega
structure CI (f : Nat → Nat) (A : Nat → List Nat) (n : Nat) (R : List Nat) (a b : Nat) (p0 p1 : List Nat) (s0 s1 : Nat) : Prop where
  h0 : s0 < n + 1
  h1 : s1 < n + 1
  ca : Half A R a (A b) p0 s0 s1
  cb : Half A R b (A a) p1 s1 s0
theorem CI.left (w : Rw f A ll n R) {a b : Nat} {p0 p1 : List Nat} {s0 s1 : Nat} (c : CI f A n R a b p0 p1 s0 s1) (hlt : s1 < s0) (hne : tp f n R s0 ≠ tp f n R s1) :
    tp f n R s0 ≠ 0 ∧ R.idxOf (f (at_ R (tp f n R s0))) < s0 ∧ CI f A n R a b (p0 ++ seg R (tp f n R s0) s0) p1 (R.idxOf (f (at_ R (tp f n R s0)))) s1 := by
  have hle : tp f n R s0 ≤ s0 := (top_ s0).le
  obtain ⟨h1, h2, h3⟩ := c.ca.step w c.h0 c.h1 c.cb.way c.cb.far hlt hne
  have := c.h0
  exact ⟨by omega, by omega, by omega, c.h1, h3, c.cb.way, c.cb.off, fun x hx => by have := c.cb.far x hx; omega⟩
theorem CI.right (w : Rw f A ll n R) {a b : Nat} {p0 p1 : List Nat} {s0 s1 : Nat} (c : CI f A n R a b p0 p1 s0 s1) (hlt : s0 < s1) (hne : tp f n R s0 ≠ tp f n R s1) :
    R.idxOf (f (at_ R (tp f n R s1))) < s1 ∧ CI f A n R a b p0 (p1 ++ seg R (tp f n R s1) s1) s0 (R.idxOf (f (at_ R (tp f n R s1)))) := by
  have hle : tp f n R s1 ≤ s1 := (top_ s1).le
  obtain ⟨h1, h2, h3⟩ := c.cb.step w c.h1 c.h0 c.ca.way c.ca.far hlt (Ne.symm hne)
  have := c.h1
  exact ⟨by omega, c.h0, by omega, ⟨c.ca.way, c.ca.off, fun x hx => by have := c.ca.far x hx; omega⟩, h3⟩
theorem filter_split {α : Type} {q : α → Bool} {u v : List α} (hu : ∀ x ∈ u, q x = true) (hv : ∀ x ∈ v, q x = false) : (u ++ v).filter q = u := by
  rw [List.filter_append, List.filter_eq_self.mpr hu, List.filter_eq_nil_iff.mpr (fun x hx => by rw [hv x hx]; simp), List.append_nil]
noncomputable abbrev minus (A : Nat → List Nat) (a b : Nat) : List Nat := (A a).filter fun x => !decide (x ∈ A b)
theorem Half.done (w : Rw f A ll n R) {a b : Nat} {p p' : List Nat} {s s' : Nat} (h : Half A R a (A b) p s s') (h' : Half A R b (A a) p' s' s) (hs : s < n + 1) (hs' : s' < n + 1) (hle : s' ≤ s) (ht : tp f n R s = tp f n R s') :
    minus A a b = p ++ seg R (s' + 1) s ∧ minus A b a = p' := by
  have e : A a = (p ++ seg R (s' + 1) s) ++ A (at_ R s') := by
    rw [h.way, w.run hle hs fun i h1 h2 => tp_in hs (Nat.lt_of_le_of_lt (by rw [ht]; exact (top_ s').le) h1) h2, List.append_assoc]
  obtain ⟨m, _⟩ := h.more w hs hs' h'.way h'.far (Nat.lt_succ_self s')
  constructor
  · show (A a).filter _ = _
    rw [e]
    refine filter_split (fun x hx => by simpa using m x hx) fun x hx => ?_
    have : x ∈ A b := by rw [h'.way]; exact List.mem_append_right _ hx
    simpa using this
  · show (A b).filter _ = _
    rw [h'.way]
    refine filter_split (fun x hx => by simpa using h'.off x hx) fun x hx => ?_
    have : x ∈ A a := by rw [e]; exact List.mem_append_right _ hx
    simpa using this
theorem climb_it (w : Rw f A ll n R) {fo : List Nat} (hfo : ∀ x, x ≤ n → fo.getD x 0 = f x) {a b : Nat} (ha : a ≤ n) (hb : b ≤ n) : ∀ i, ∃ p0 p1 j0 j1 s0 s1, CS.it R (hds f n R) fo (CS.start R a b) i = ⟨[p0, p1], [j0, j1], [s0, s1]⟩ ∧
    CI f A n R a b p0 p1 s0 s1 ∧ (tp f n R s0 = tp f n R s1 ∨ s0 + s1 + i ≤ R.idxOf a + R.idxOf b) ∧ (b = 0 → s1 = 0 ∧ 2 ^ (j0 + 1) ≤ tsz A n (at_ R s0) + 1)
  | 0 => by
    obtain ⟨a1, a2⟩ := w.pos ha
    obtain ⟨b1, b2⟩ := w.pos hb
    refine ⟨[], [], 0, 0, R.idxOf a, R.idxOf b, rfl, ⟨a1, b1, ⟨by rw [a2]; rfl, nofun, nofun⟩, ⟨by rw [b2]; rfl, nofun, nofun⟩⟩, .inr (Nat.le_refl _), fun e => ?_⟩
    subst e
    refine ⟨w.root, ?_⟩
    rw [a2]
    have := tsz_pos (n := n) w.t ha
    omega
  | i + 1 => by
    obtain ⟨p0, p1, j0, j1, s0, s1, e, c, hd, hb0⟩ := climb_it w hfo ha hb i
    unfold CS.it
    rw [e]
    by_cases hne : tp f n R s0 = tp f n R s1
    · rw [if_pos (show CS.done (hds f n R) ⟨[p0, p1], [j0, j1], [s0, s1]⟩ = true by simpa [CS.done] using hne)]
      exact ⟨p0, p1, j0, j1, s0, s1, rfl, c, .inl hne, hb0⟩
    · rw [if_neg (show ¬ CS.done (hds f n R) ⟨[p0, p1], [j0, j1], [s0, s1]⟩ = true by simpa [CS.done] using hne)]
      have hd' := hd.resolve_left hne
      by_cases hlt : s1 < s0
      · obtain ⟨l0, l1, l2⟩ := c.left w hlt hne
        have hle : tp f n R s0 ≤ s0 := (top_ s0).le
        have h0 := c.h0
        have ht : at_ R (tp f n R s0) ≤ n := w.le (by omega)
        have es : CS.step R (hds f n R) fo ⟨[p0, p1], [j0, j1], [s0, s1]⟩ = ⟨[p0 ++ seg R (tp f n R s0) s0, p1], [j0 + 1, j1], [R.idxOf (f (at_ R (tp f n R s0))), s1]⟩ := by
          have := hfo _ ht
          simp only [CS.step, sideOf, List.getD_cons_succ, List.getD_cons_zero, if_pos hlt, List.set_cons_zero, this]
        rw [es]
        refine ⟨_, _, _, _, _, _, rfl, l2, .inr (by omega), fun z => ?_⟩
        obtain ⟨b1, b2⟩ := hb0 z
        refine ⟨b1, ?_⟩
        rw [(w.pos (w.fup (i := tp f n R s0) (by omega) l0).2).2]
        have hv := w.heavy h0 l0
        have hm : tsz A n (at_ R s0) ≤ tsz A n (at_ R (tp f n R s0)) := tsz_mono w.t (by
          rw [w.run hle h0 fun i h1 h2 => tp_in h0 h1 h2]; exact List.mem_append_right _ (w.t.self _))
        rw [Nat.pow_succ]
        omega
      · have hlt' : s0 < s1 := by
          rcases Nat.lt_or_eq_of_le (Nat.not_lt.mp hlt) with q | q
          · exact q
          · rw [q] at hne; exact absurd rfl hne
        obtain ⟨l1, l2⟩ := c.right w hlt' hne
        have hle : tp f n R s1 ≤ s1 := (top_ s1).le
        have h1 := c.h1
        have ht : at_ R (tp f n R s1) ≤ n := w.le (by omega)
        have es : CS.step R (hds f n R) fo ⟨[p0, p1], [j0, j1], [s0, s1]⟩ = ⟨[p0, p1 ++ seg R (tp f n R s1) s1], [j0, j1 + 1], [s0, R.idxOf (f (at_ R (tp f n R s1)))]⟩ := by
          have := hfo _ ht
          simp only [CS.step, sideOf, List.getD_cons_succ, List.getD_cons_zero, if_neg hlt, List.set_cons_succ, List.set_cons_zero, this]
        rw [es]
        refine ⟨_, _, _, _, _, _, rfl, l2, .inr (by omega), fun z => ?_⟩
        have := (hb0 z).1
        omega
theorem climb_ok (w : Rw f A ll n R) {fo : List Nat} (hfo : ∀ x, x ≤ n → fo.getD x 0 = f x) {a b : Nat} (ha : a ≤ n) (hb : b ≤ n) :
    (climb R (hds f n R) fo a b).P = [minus A a b, minus A b a] ∧ ∃ j0 j1, (climb R (hds f n R) fo a b).J = [j0, j1] ∧ (b = 0 → 2 ^ (j0 + 1) ≤ n + 2) := by
  obtain ⟨p0, p1, j0, j1, s0, s1, e, c, hd, hb0⟩ := climb_it w hfo ha hb (2 * R.length)
  have hpa := (w.pos ha).1
  have hpb := (w.pos hb).1
  have hne : tp f n R s0 = tp f n R s1 := by
    rcases hd with h | h
    · exact h
    · rw [w.len] at h; omega
  unfold climb
  rw [e]
  refine ⟨?_, j0, j1, rfl, fun z => ?_⟩
  · by_cases hlt : s1 < s0
    · obtain ⟨h1, h2⟩ := c.ca.done w c.cb c.h0 c.h1 (Nat.le_of_lt hlt) hne
      simp only [CS.last, sideOf, mnOf, List.getD_cons_succ, List.getD_cons_zero, if_pos hlt, List.set_cons_zero]
      rw [h1, h2]
    · obtain ⟨h1, h2⟩ := c.cb.done w c.ca c.h1 c.h0 (Nat.not_lt.mp hlt) hne.symm
      simp only [CS.last, sideOf, mnOf, List.getD_cons_succ, List.getD_cons_zero, if_neg hlt, List.set_cons_succ, List.set_cons_zero]
      rw [h1, h2]
  · have := (hb0 z).2
    have := tsz_le (A := A) (n := n) (at_ R s0)
    omega
end
theorem filter_slice {α : Type} [Inhabited α] (q : α → Bool) (l : List α) (i j : Nat) (hij : i ≤ j) (hj : j ≤ l.length) (h : ∀ k (hk : k < l.length), q l[k] = (decide (i ≤ k) && decide (k < j))) : (l.drop i).take (j - i) = l.filter q := by
  have e : l = l.take i ++ ((l.drop i).take (j - i) ++ l.drop j) := by
    have e1 : l.drop j = (l.drop i).drop (j - i) := by rw [List.drop_drop]; congr 1; omega
    rw [e1, List.take_append_drop, List.take_append_drop]
  have f1 : (l.take i).filter q = [] := List.filter_eq_nil_iff.mpr fun x hx => by
    obtain ⟨k, hk, rfl⟩ := List.mem_iff_getElem.mp hx
    rw [List.length_take] at hk
    rw [List.getElem_take, h k (by omega)]
    simp; omega
  have f2 : ((l.drop i).take (j - i)).filter q = (l.drop i).take (j - i) := List.filter_eq_self.mpr fun x hx => by
    obtain ⟨k, hk, rfl⟩ := List.mem_iff_getElem.mp hx
    rw [List.length_take, List.length_drop] at hk
    rw [List.getElem_take, List.getElem_drop, h (i + k) (by omega)]
    simp; omega
  have f3 : (l.drop j).filter q = [] := List.filter_eq_nil_iff.mpr fun x hx => by
    obtain ⟨k, hk, rfl⟩ := List.mem_iff_getElem.mp hx
    rw [List.length_drop] at hk
    rw [List.getElem_drop, h (j + k) (by omega)]
    simp
  conv => rhs; rw [e]
  rw [List.filter_append, List.filter_append, f1, f2, f3]
  simp
section
variable {f : Nat → Nat} {A : Nat → List Nat} {ll : Nat → Nat → Bool} {n : Nat} {R : List Nat}
theorem bel_ok (w : Rw f A ll n R) {k : Nat} (hk : k ≤ n) : bel (ptl A ll) (ptl1 A ll) R k = R.filter fun x => decide (k ∈ A x) := by
  have hl := w.len
  obtain ⟨a1, a2, a3, a4⟩ := bis_spec (fun j => ptl A ll (R.getD j 0) k) 0 R.length (Nat.zero_le _) fun i j _ hij hj h => by
    rcases Nat.lt_or_eq_of_le hij with q | q
    · exact ptl_trans w.o (w.lt q (by omega)) h
    · rw [q]; exact h
  obtain ⟨b1, b2, b3, b4⟩ := bis_spec (fun j => !(ptl1 A ll k (R.getD j 0))) (belL (ptl A ll) R k) R.length a2 fun i j _ hij hj h => by
    rcases Nat.lt_or_eq_of_le hij with q | q
    · cases z : ptl1 A ll k (R.getD i 0) with
      | false => rfl
      | true => rw [ptl1_mono w.o z (w.lt q (by omega))] at h; cases h
    · rw [q]; exact h
  refine filter_slice _ R _ _ b1 b2 fun i hi => ?_
  have hi' : i < n + 1 := by omega
  have hle := w.le hi'
  rw [← getD_el hi]
  have hd := ptl_desc (ll := ll) w.t w.o hk hle
  show decide (k ∈ A (at_ R i)) = _
  rw [Bool.eq_iff_iff, decide_eq_true_eq, hd]
  simp only [Bool.and_eq_true, decide_eq_true_eq]
  constructor
  · rintro ⟨h1, h2⟩
    constructor
    · rcases Nat.lt_or_ge i (belL (ptl A ll) R k) with q | q
      · have := a3 i (Nat.zero_le _) q; rw [show ptl A ll (R.getD i 0) k = false from h1] at this; cases this
      · exact q
    · rcases Nat.lt_or_ge i (belR (ptl A ll) (ptl1 A ll) R k) with q | q
      · exact q
      · have := b4 i q hi; rw [show ptl1 A ll k (R.getD i 0) = false from h2] at this; cases this
  · rintro ⟨h1, h2⟩
    exact ⟨a4 i h1 hi, by simpa using b3 i h1 h2⟩
end
theorem anc_tree (N : List Int) : Tree (fold N) (anc N) := ⟨fun k h => fold_lt' N h, by rw [anc]; rfl, fun k h => by rw [anc, dif_neg h]⟩
theorem nmU_get (N : List Int) {p : Nat} : ∀ {m : Nat}, p ≤ m → (nmU N m).getD p [] = (nmU N p).getD p []
  | 0, h => by rw [show p = 0 by omega]
  | m + 1, h => by
    by_cases e : p = m + 1
    · rw [e]
    · have : (nmU N (m + 1)).getD p [] = (nmU N m).getD p [] := by
        rw [nmU, List.getD_eq_getElem?_getD, List.getElem?_append_left (by rw [nmU_len]; omega), ← List.getD_eq_getElem?_getD]
      rw [this, nmU_get N (by omega)]
theorem nam0 (N : List Int) : nam N 0 = [47, 97] := by rw [nam, nmU_get N (Nat.zero_le _)]; rfl
theorem nam_s (N : List Int) {k : Nat} (h0 : k ≠ 0) (hk : k ≤ N.length) : nam N k = nam N (fold N k) ++ List.replicate (slc N (k - 1)) 47 ++ [lst (k - 1)] := by
  have hf := fold_lt' N h0
  obtain ⟨i, rfl⟩ : ∃ i, k = i + 1 := ⟨k - 1, by omega⟩
  have e1 : nam N (fold N (i + 1)) = (nmU N i).getD (fold N (i + 1)) [] := (nmU_get N (p := fold N (i + 1)) (m := N.length) (by omega)).trans (nmU_get N (p := fold N (i + 1)) (m := i) (by omega)).symm
  rw [e1, nam, nmU_get N hk]
  show (nmU N i ++ [_]).getD (i + 1) [] = _
  rw [List.getD_eq_getElem?_getD, List.getElem?_append_right (by rw [nmU_len]; omega), nmU_len, Nat.sub_self]
  rfl
noncomputable def lc (k : Nat) : Nat := 97 + 7 * k % 26
noncomputable def pre (N : List Int) (k : Nat) : List Nat := if k = 0 then [] else nam N (fold N k) ++ List.replicate (slc N (k - 1) - 1) 47
theorem nam_e (N : List Int) {k : Nat} (hk : k ≤ N.length) : nam N k = pre N k ++ [47, lc k] := by
  by_cases h0 : k = 0
  · subst h0; rw [nam0]; rfl
  · rw [nam_s N h0 hk, pre, if_neg h0]
    have hs := slc_le N (k - 1)
    have e : slc N (k - 1) = (slc N (k - 1) - 1) + 1 := by omega
    have e2 : lst (k - 1) = lc k := by unfold lst lc; rw [show k - 1 + 1 = k by omega]
    rw [e2, e, List.replicate_succ', Nat.add_sub_cancel]
    simp
theorem lc_ne (k : Nat) : lc k ≠ 47 := by unfold lc; omega
theorem nam_inj (N : List Int) (hN : N.length ≤ 25) {p q : Nat} (hp : p ≤ N.length) (hq : q ≤ N.length) (e : nam N p = nam N q) : p = q := by
  rw [nam_e N hp, nam_e N hq] at e
  have h := congrArg List.getLast? e
  simp at h
  unfold lc at h
  omega
theorem nam_len (N : List Int) {k : Nat} (hk : k ≤ N.length) : (nam N k).length ≤ 2 + 3 * N.length := by
  refine nmU_short N N.length _ ?_
  rw [nam, List.getD_eq_getElem?_getD, List.getElem?_eq_getElem (by rw [nmU_len]; omega)]
  exact List.getElem_mem _
theorem spl_pre (N : List Int) {k : Nat} (h0 : k ≠ 0) (hk : k ≤ N.length) : spl (pre N k) = nam N (fold N k) := by
  have hf : fold N k ≤ N.length := Nat.le_trans (fold_le N) hk
  have e : pre N k ++ [47] = (pre N (fold N k) ++ [47]) ++ lc (fold N k) :: List.replicate (slc N (k - 1)) 47 := by
    have hs := slc_le N (k - 1)
    have e2 : slc N (k - 1) = (slc N (k - 1) - 1) + 1 := by omega
    rw [pre, if_neg h0, nam_e N hf]
    conv => rhs; rw [e2, List.replicate_succ']
    simp
  unfold spl
  rw [if_pos]
  · rw [e, rst_end _ (lc_ne _), nam_e N hf]
    simp
  · rw [bne_iff_ne]
    intro h
    have hm : lc (fold N k) ∈ List.replicate ((pre N k).length + 1) 47 := by
      rw [← h, e]; simp
    exact lc_ne _ (List.eq_of_mem_replicate hm)
theorem spl_nil : spl [] = [47] := rfl
theorem anc_step (N : List Int) : ∀ (k : Nat), ∀ i, i + 1 < (anc N k).length → (anc N k).getD i 0 ≠ 0 ∧ (anc N k).getD (i + 1) 0 = fold N ((anc N k).getD i 0) := by
  intro k
  induction k using Nat.strongRecOn with
  | ind k ih =>
    intro i hi
    by_cases h0 : k = 0
    · subst h0; rw [(anc_tree N).z] at hi; simp at hi
    · rw [(anc_tree N).s k h0] at hi ⊢
      cases i with
      | zero =>
        refine ⟨h0, ?_⟩
        by_cases hf : fold N k = 0
        · show (anc N (fold N k)).getD 0 0 = fold N k; rw [hf, (anc_tree N).z]; rfl
        · show (anc N (fold N k)).getD 0 0 = fold N k; rw [(anc_tree N).s _ hf]; rfl
      | succ i => exact ih _ (fold_lt' N h0) i (by simpa using hi)
theorem anc_end (N : List Int) : ∀ (k : Nat), (anc N k).getD ((anc N k).length - 1) 0 = 0 := by
  intro k
  induction k using Nat.strongRecOn with
  | ind k ih =>
    by_cases h0 : k = 0
    · subst h0; rw [(anc_tree N).z]; rfl
    · have h := ih _ (fold_lt' N h0)
      have hp : 0 < (anc N (fold N k)).length := List.length_pos_iff.mpr ((anc_tree N).ne _)
      rw [(anc_tree N).s k h0, List.length_cons, Nat.add_sub_cancel]
      obtain ⟨m, hm⟩ : ∃ m, (anc N (fold N k)).length = m + 1 := ⟨(anc N (fold N k)).length - 1, by omega⟩
      rw [hm] at h ⊢
      exact h
theorem anc_head (N : List Int) (k : Nat) : (anc N k).getD 0 0 = k := by
  by_cases h0 : k = 0
  · subst h0; rw [(anc_tree N).z]; rfl
  · rw [(anc_tree N).s k h0]; rfl
theorem anc_le (N : List Int) {k i : Nat} (hk : k ≤ N.length) (hi : i < (anc N k).length) : (anc N k).getD i 0 ≤ N.length :=
  Nat.le_trans ((anc_tree N).le k (getD_mem2 hi)) hk
theorem chain_ok (N : List Int) (hN : N.length ≤ 25) {k : Nat} (hk : k ≤ N.length) : Chain (anc N k).length (fun i => if i < (anc N k).length then nam N ((anc N k).getD i 0) else [47]) := by
  refine ⟨fun i hi => ?_, ?_, fun i _ => ?_⟩
  · have hle := anc_le N hk hi
    refine ⟨pre N ((anc N k).getD i 0), lc ((anc N k).getD i 0), lc_ne _, ?_, ?_, ?_⟩
    · have := nam_len N hle
      rw [nam_e N hle, List.length_append] at this
      omega
    · rw [if_pos hi]; exact nam_e N hle
    · by_cases h : i + 1 < (anc N k).length
      · obtain ⟨h1, h2⟩ := anc_step N k i h
        rw [if_pos h, h2]
        exact spl_pre N h1 hle
      · rw [if_neg h]
        have : i = (anc N k).length - 1 := by omega
        rw [this, anc_end N k]
        rfl
  · rw [if_neg (Nat.lt_irrefl _)]; exact rst_all 1
  · split
    · rename_i h
      have := nam_len N (anc_le N hk h)
      omega
    · simp
noncomputable def szN (N : List Int) (p : Nat) : Nat := tsz (anc N) N.length p
noncomputable def llN (N : List Int) (p q : Nat) : Bool := if szN N p = szN N q then decide (nam N p < nam N q) else decide (szN N q < szN N p)
theorem mem_way (N : List Int) (hN : N.length ≤ 25) {k p : Nat} (hk : k ≤ N.length) (hp : p ≤ N.length) : ((wayL N k).map S).contains (S (nam N p)) = decide (p ∈ anc N k) := by
  rw [Bool.eq_iff_iff, List.contains_iff_mem, decide_eq_true_eq, wayL, List.map_map]
  constructor
  · intro h
    obtain ⟨q, hq, e⟩ := List.mem_map.mp h
    have hqn := Nat.le_trans ((anc_tree N).le k hq) hk
    have e' : nam N q = nam N p := by
      have : (S (nam N q)).cps = (S (nam N p)).cps := congrArg Str.cps e
      simpa using this
    rw [← nam_inj N hN hqn hp e']; exact hq
  · intro h; exact List.mem_map.mpr ⟨p, h, rfl⟩
theorem sz_eq (N : List Int) (hN : N.length ≤ 25) {p : Nat} (hp : p ≤ N.length) : szS (wL N) (S (nam N p)) = (szN N p : Nat) := by
  unfold szS szN tsz wL
  rw [List.filter_map, List.length_map, ← List.countP_eq_length_filter]
  congr 1
  refine List.countP_congr fun k hk => ?_
  have hk' : k ≤ N.length := by have := List.mem_range.mp hk; omega
  rw [Function.comp, mem_way N hN hk' hp]
theorem llN_ord (N : List Int) (hN : N.length ≤ 25) : LOrd (llN N) N.length := by
  refine ⟨fun {a b c} h1 h2 => ?_, fun {a} => ?_, fun {a b} ha hb hne => ?_⟩
  · unfold llN at h1 h2 ⊢
    by_cases e1 : szN N a = szN N b
    · rw [if_pos e1, decide_eq_true_eq] at h1
      by_cases e2 : szN N b = szN N c
      · rw [if_pos e2, decide_eq_true_eq] at h2
        rw [if_pos (e1.trans e2), decide_eq_true_eq]
        exact List.lt_trans h1 h2
      · rw [if_neg e2, decide_eq_true_eq] at h2
        rw [if_neg (by omega), decide_eq_true_eq]; omega
    · rw [if_neg e1, decide_eq_true_eq] at h1
      by_cases e2 : szN N b = szN N c
      · rw [if_neg (by omega), decide_eq_true_eq]; omega
      · rw [if_neg e2, decide_eq_true_eq] at h2
        rw [if_neg (by omega), decide_eq_true_eq]; omega
  · unfold llN
    rw [if_pos rfl, decide_eq_false_iff_not]
    exact List.lt_irrefl _
  · unfold llN
    by_cases e : szN N a = szN N b
    · rw [if_pos e, if_pos e.symm, decide_eq_true_eq, decide_eq_true_eq]
      have hn : nam N a ≠ nam N b := fun q => hne (nam_inj N hN ha hb q)
      by_cases h1 : nam N a < nam N b
      · exact .inl h1
      · by_cases h2 : nam N b < nam N a
        · exact .inr h2
        · exact absurd (List.le_antisymm (List.not_lt.mp h2) (List.not_lt.mp h1)) hn
    · rw [if_neg e, if_neg (Ne.symm e), decide_eq_true_eq, decide_eq_true_eq]; omega
theorem llN_big (N : List Int) {a b : Nat} (h : llN N a b = true) : szN N b ≤ szN N a := by
  unfold llN at h
  by_cases e : szN N a = szN N b
  · omega
  · rw [if_neg e, decide_eq_true_eq] at h; omega
noncomputable def kf (N : List Int) (p : Nat) : List D := [.int (-((szN N p : Nat) : Int)), .str (S (nam N p))]
theorem key_eq (N : List Int) (hN : N.length ≤ 25) {k : Nat} (hk : k ≤ N.length) : keyOf (wL N) (wayL N k) = (anc N k).reverse.flatMap (kf N) := by
  unfold keyOf wayL
  rw [← List.map_reverse, List.flatMap_map]
  have key : ∀ l : List Nat, (∀ p ∈ l, p ≤ N.length) → (l.flatMap fun a => [D.int (-(szS (wL N) (S (nam N a)))), D.str (S (nam N a))]) = l.flatMap (kf N) := by
    intro l
    induction l with
    | nil => intro _; rfl
    | cons a l ih =>
      intro h
      rw [List.flatMap_cons, List.flatMap_cons, ih fun p hp => h p (List.mem_cons_of_mem _ hp), sz_eq N hN (h a List.mem_cons_self)]
      rfl
  exact key _ ((anc_tree N).all hk)
theorem klt_key (N : List Int) (hN : N.length ≤ 25) (tl : List D) (end_ : List Nat → Bool) (h0 : ∀ ys, klt tl (ys.flatMap (kf N)) = some (end_ ys)) : ∀ (xs ys : List Nat), (∀ x ∈ xs, x ≤ N.length) → (∀ y ∈ ys, y ≤ N.length) →
    klt (xs.flatMap (kf N) ++ tl) (ys.flatMap (kf N)) = some (match xs, ys with | [], ys => end_ ys | _ :: _, [] => false | x :: xs, y :: ys => if x = y then (klt (xs.flatMap (kf N) ++ tl) (ys.flatMap (kf N))).getD false else llN N x y)
  | [], ys, _, _ => h0 ys
  | x :: xs, [], _, _ => rfl
  | x :: xs, y :: ys, hx, hy => by
    have ih := klt_key N hN tl end_ h0 xs ys (fun z hz => hx z (List.mem_cons_of_mem _ hz)) (fun z hz => hy z (List.mem_cons_of_mem _ hz))
    show klt (.int (-((szN N x : Nat) : Int)) :: .str (S (nam N x)) :: (xs.flatMap (kf N) ++ tl)) (.int (-((szN N y : Nat) : Int)) :: .str (S (nam N y)) :: ys.flatMap (kf N)) = _
    simp only [klt]
    by_cases e : x = y
    · subst e
      simp only [if_true]
      rw [ih]; rfl
    · have hxn := hx x List.mem_cons_self
      have hyn := hy y List.mem_cons_self
      have hne : ¬ S (nam N x) = S (nam N y) := fun q => e (nam_inj N hN hxn hyn (by
        have := congrArg Str.cps q
        simpa using this))
      rw [if_neg hne, if_neg e]
      unfold llN
      by_cases es : szN N x = szN N y
      · rw [if_pos (by omega), if_pos es]
      · rw [if_neg (by omega), if_neg es]
        congr 1
        rw [Bool.eq_iff_iff, decide_eq_true_eq, decide_eq_true_eq]; omega
theorem klt_plc (N : List Int) (hN : N.length ≤ 25) : ∀ (xs ys : List Nat), (∀ x ∈ xs, x ≤ N.length) → (∀ y ∈ ys, y ≤ N.length) → klt (xs.flatMap (kf N)) (ys.flatMap (kf N)) = some (plc (llN N) xs ys)
  | [], [], _, _ => rfl
  | [], y :: ys, _, _ => rfl
  | x :: xs, ys, hx, hy => by
    have h := klt_key N hN [] (fun ys => !ys.isEmpty) (fun ys => by cases ys <;> rfl) (x :: xs) ys hx hy
    rw [List.append_nil] at h
    rw [h]
    cases ys with
    | nil => rfl
    | cons y ys =>
      simp only [plc, List.append_nil]
      rw [klt_plc N hN xs ys (fun z hz => hx z (List.mem_cons_of_mem _ hz)) (fun z hz => hy z (List.mem_cons_of_mem _ hz))]
      rfl
theorem klt_plc1 (N : List Int) (hN : N.length ≤ 25) : ∀ (xs ys : List Nat), (∀ x ∈ xs, x ≤ N.length) → (∀ y ∈ ys, y ≤ N.length) → klt (xs.flatMap (kf N) ++ [.int 1]) (ys.flatMap (kf N)) = some (plc1 (llN N) xs ys) := by
  have h0 : ∀ ys : List Nat, klt [.int 1] (ys.flatMap (kf N)) = some ((fun _ => false) ys) := fun ys => by
    cases ys with
    | nil => rfl
    | cons y ys =>
      show klt [.int 1] (.int (-((szN N y : Nat) : Int)) :: _) = _
      simp only [klt]
      rw [if_neg (by omega)]
      congr 1
      rw [decide_eq_false_iff_not]; omega
  intro xs
  induction xs with
  | nil => intro ys _ _; exact h0 ys
  | cons x xs ih =>
    intro ys hx hy
    rw [klt_key N hN [.int 1] (fun _ => false) h0 (x :: xs) ys hx hy]
    cases ys with
    | nil => rfl
    | cons y ys =>
      simp only [plc1]
      rw [ih ys (fun z hz => hx z (List.mem_cons_of_mem _ hz)) (fun z hz => hy z (List.mem_cons_of_mem _ hz))]
      rfl
noncomputable abbrev ltN (N : List Int) : Nat → Nat → Bool := ptl (anc N) (llN N)
noncomputable abbrev lt1N (N : List Int) : Nat → Nat → Bool := ptl1 (anc N) (llN N)
theorem ks_len (N : List Int) : (ksL N).length = N.length + 1 := by simp [ksL, keysOf, wL]
theorem ks_get (N : List Int) (hN : N.length ≤ 25) {k : Nat} (hk : k ≤ N.length) : (ksL N)[k]? = some (.list ((anc N k).reverse.flatMap (kf N))) := by
  unfold ksL keysOf wL
  rw [List.getElem?_map, List.getElem?_map, List.getElem?_range (by omega), Option.map_some, Option.map_some, ← key_eq N hN hk]
  rfl
theorem keysOk (N : List Int) (hN : N.length ≤ 25) : KeysOk (ltN N) (ksL N) := fun a b ha hb => by
  rw [ks_len] at ha hb
  exact ⟨_, _, ks_get N hN (by omega), ks_get N hN (by omega), klt_plc N hN _ _ ((anc_tree N).all (by omega)) ((anc_tree N).all (by omega))⟩
theorem keys1 (N : List Int) (hN : N.length ≤ 25) : Keys1 (lt1N N) (ksL N) := fun a b ha hb => by
  rw [ks_len] at ha hb
  exact ⟨_, _, ks_get N hN (by omega), ks_get N hN (by omega), klt_plc1 N hN _ _ ((anc_tree N).all (by omega)) ((anc_tree N).all (by omega))⟩
theorem ltN_ord (N : List Int) (hN : N.length ≤ 25) : TOrd (ltN N) N.length :=
  ⟨fun h1 h2 => ptl_trans (llN_ord N hN) h1 h2, ptl_irrefl _, fun ha hb h => ptl_total (anc_tree N) (llN_ord N hN) ha hb h⟩
theorem rw_ok (N : List Int) (hN : N.length ≤ 25) : Rw (fold N) (anc N) (llN N) N.length (rowL (ltN N) N) :=
  ⟨anc_tree N, llN_ord N hN, rowL_len _ N, rowUp_mem (ltN_ord N hN) _, (rowUp_spec (ltN_ord N hN) N.sum (N.length + 1) (Nat.le_refl _)).1, fun a b h => llN_big N h⟩
theorem folds_get (N : List Int) {x : Nat} (h : x ≤ N.length) : (folds N).getD x 0 = fold N x := by
  simp [folds, List.getD_eq_getElem?_getD, List.getElem?_range (show x < N.length + 1 by omega)]
theorem clOk (N : List Int) (hN : N.length ≤ 25) : ClOk (rowL (ltN N) N) (headsL N (rowL (ltN N) N)) (folds N) := by
  have w := rw_ok N hN
  have hl := w.len
  refine ⟨by omega, fun a ha => (w.mem a).mpr (by omega), fun a ha => by have := (w.mem a).mp ha; omega, by simp [folds, hl], fun x hx => ?_, ?_, fun s _ => (top_ s).one, fun s _ => (top_ s).le⟩
  · obtain ⟨k, hk, rfl⟩ := List.mem_map.mp hx
    have := List.mem_range.mp hk
    have := fold_le N (k := k)
    omega
  · have := List.length_filter_le (fun s => s == 0 || fold N ((rowL (ltN N) N).getD s 0) != (rowL (ltN N) N).getD (s - 1) 0) (List.range (N.length + 1))
    rw [List.length_range] at this
    show (List.filter _ _).length ≤ 100
    omega
theorem ap_eq (N : List Int) (hN : N.length ≤ 25) {a b : Nat} (ha : a ≤ N.length) (hb : b ≤ N.length) : strsD ((minus (anc N) a b).map (nam N)) = apL N a b := by
  have e : (((wayL N a).map S).filter fun y => !((wayL N b).map S).contains y) = ((minus (anc N) a b).map (nam N)).map S := by
    have e1 : (wayL N a).map S = (anc N a).map (S ∘ nam N) := by rw [wayL, List.map_map]
    rw [e1, List.filter_map, List.map_map]
    refine congrArg _ (List.filter_congr fun x hx => ?_)
    have hxn := Nat.le_trans ((anc_tree N).le a hx) ha
    show (!(((wayL N b).map S).contains (S (nam N x)))) = _
    rw [mem_way N hN hb hxn]
  unfold apL rest
  rw [List.drop_zero, e]
theorem minus_zero (N : List Int) (k : Nat) : minus (anc N) k 0 ++ [0] = anc N k := by
  obtain ⟨l, e, _⟩ := (anc_tree N).suf k ((anc_tree N).zero k)
  have hz := (anc_tree N).z
  have hnd := (anc_tree N).nodup k
  rw [e, hz] at hnd
  have h0 : 0 ∉ l := fun h => by
    have := (List.nodup_append.mp hnd).2.2 0 h 0 (by simp)
    exact this rfl
  have : minus (anc N) k 0 = l := by
    show (anc N k).filter _ = l
    rw [e, hz]
    exact filter_split (fun x hx => by
      have : x ≠ 0 := fun q => h0 (q ▸ hx)
      simpa using this) (fun x hx => by simpa using hx)
  rw [this, e, hz]
theorem oth_le' (N : List Int) (k : Nat) : othL N k ≤ N.length := by
  have := (fmod_lt (x := 3 * (k : Int) + N.sum) (show 0 < N.length + 1 by omega)).1
  unfold othL; omega
theorem lawP (N : List Int) (hlo : 1 ≤ N.length) (hlen : N.length ≤ 20) : LawP N (ltN N) (lt1N N) := by
  have hN : N.length ≤ 25 := by omega
  have w := rw_ok N hN
  have hfo : ∀ x, x ≤ N.length → (folds N).getD x 0 = fold N x := fun x h => folds_get N h
  have key : ∀ a b, a ≤ N.length → b ≤ N.length → (climb (rowL (ltN N) N) (headsL N (rowL (ltN N) N)) (folds N) a b).P = [minus (anc N) a b, minus (anc N) b a] ∧ ∃ j0 j1, (climb (rowL (ltN N) N) (headsL N (rowL (ltN N) N)) (folds N) a b).J = [j0, j1] ∧ (b = 0 → 2 ^ (j0 + 1) ≤ N.length + 2) :=
    fun a b ha hb => climb_ok w hfo ha hb
  have mle : ∀ {a b : Nat}, a ≤ N.length → (minus (anc N) a b).length ≤ 100000 ∧ ∀ x ∈ minus (anc N) a b, x ≤ N.length := fun {a b} ha => by
    have h1 := List.length_filter_le (fun x => !decide (x ∈ anc N b)) (anc N a)
    have h2 := (anc_tree N).len a
    refine ⟨?_, fun x hx => Nat.le_trans ((anc_tree N).le a (List.mem_filter.mp hx).1) ha⟩
    show (List.filter _ _).length ≤ 100000
    omega
  refine ⟨hlo, hlen, fun k hk j hj => ⟨_, chain_ok N hN hk, ?_, ?_, ?_⟩, fun k hk => ?_, fun k hk p hp => Nat.le_trans ((anc_tree N).le k hp) hk, keysOk N hN, keys1 N hN, fun a X h => ?_, clOk N hN, fun a b ha hb => ?_, fun k hk => ?_, fun k hk => ?_, fun k hk => ?_, fun k hk => ?_⟩
  · refine List.ext_getElem (by simp [wayL]) fun i h1 h2 => ?_
    have hi : i < (anc N k).length := by simpa [wayL] using h1
    simp only [wayL, List.getElem_map, List.getElem_range, if_pos hi, getD_el hi]
  · have := nam_len N hk
    rw [List.length_append, List.length_replicate]; omega
  · rw [if_pos (List.length_pos_iff.mpr ((anc_tree N).ne k)), anc_head, nam_e N hk]
    have := rst_end (a := pre N k ++ [47]) (lc k) (lc_ne k) j
    simpa using this
  · have := (anc_tree N).len k; omega
  · have ha : a < (ksL N).length := (List.getElem?_eq_some_iff.mp h).1
    rw [ks_len] at ha
    rw [ks_get N hN (by omega)] at h
    cases h
    have h1 : ((anc N a).reverse.flatMap (kf N)).length = 2 * (anc N a).length := by
      have h2 : ∀ l : List Nat, (l.flatMap (kf N)).length = 2 * l.length := fun l => by
        induction l with
        | nil => rfl
        | cons x l ih => rw [List.flatMap_cons, List.length_append, ih, List.length_cons]; simp [kf]; omega
      rw [h2, List.length_reverse]
    have := (anc_tree N).len a
    omega
  · obtain ⟨e, j0, j1, ej, _⟩ := key a b ha hb
    rw [e, ej]
    refine ⟨rfl, rfl, fun p hp => ?_⟩
    simp only [List.mem_cons, List.not_mem_nil, or_false] at hp
    rcases hp with rfl | rfl
    · exact mle ha
    · exact mle hb
  · obtain ⟨e, _⟩ := key k 0 hk (Nat.zero_le _)
    rw [e]
    show (minus (anc N) k 0).map (nam N) ++ [nam N 0] = (anc N k).map (nam N)
    conv => rhs; rw [← minus_zero N k]
    simp
  · obtain ⟨_, j0, j1, ej, h⟩ := key k 0 hk (Nat.zero_le _)
    rw [ej]
    exact h rfl
  · have ho := oth_le' N k
    obtain ⟨e, _⟩ := key k (othL N k) hk ho
    rw [e]
    simp only [List.map_cons, List.map_nil]
    rw [ap_eq N hN hk ho, ap_eq N hN ho hk]
  · rw [show bel (ltN N) (lt1N N) (rowL (ltN N) N) k = _ from bel_ok w hk]
    exact List.filter_congr fun x hx => (mem_way N hN ((w.mem x).mp hx) hk).symm
section
variable {C : Cx} {n : Nat}
theorem callTop (G : Bg C) {A : Around} {s : Shared} {Y : Al} {R : Result → Shared → Prop} {fa : Addr} {fd : FuncData} {body : List Stmt} {pos : List Value} {binds : List (Str × Value)} {ρ : List (Str × VP)}
    {q : Heap → Flow → Vw → Prop} (hF : Fn C fa fd body) (hA : Room (n + 1) A) (hfr : A.frames = some []) (hs : St C s) (hY : Ok Y s.heap) (hgen : fd.scope.isGenerator = false)
    (hbind : Bd s fd ⟨pos, []⟩ binds) (hkind : ∀ y ∈ binds, fd.scope.names.lookup y.1 = some .local ∨ fd.scope.names.lookup y.1 = some .cell) (hnd : (binds.map (·.1)).Nodup)
    (hρ : ∀ x R, ρ.lookup x = some R → ∃ v, binds.lookup x = some v ∧ R.p ⟨s.heap, Y⟩ v)
    (hb : ∀ L, TrL C n (fenv fd fa L) (FS.W C ⟨s.heap, fenv fd fa L, fd.scope, ats s.heap ρ, .top⟩) (execs body (fenv fd fa L)) (q s.heap))
    (hQ : ∀ fl s', St C s' → Ok Y s'.heap → q s.heap fl ⟨s'.heap, Y⟩ → R (.ok (.ret (match fl with | .ret v => v | _ => .none))) s') : codeAny C.M A (.call (.ref fa) ⟨pos, []⟩) R s := by
  obtain ⟨o, ho, hd⟩ := hF.obj
  have ht : tabLike o = false := tab_data fun vs e => by rw [hd] at e; cases e
  refine codeAny_call_function hA.reclim (hs.ext.keep ho ht) hd hF.co hgen hF.body (hF.code.rec hs.ext) (hbind.b _ _ _ _ ?_)
  rw [hF.clo]
  refine wpAny_newFunctionEnv_cells hF.kind (fun y hy => ?_) fun env he s' x => ?_
  · rcases hkind y hy with h | h
    · exact .inl h
    · exact .inr ⟨h, cellsFrom_own _ _ _ (.inl (mem_of_lookup h))⟩
  · subst he
    have w := inCallC_W (ρ := ρ) (F := HP.top) (Y := Y) hF hs x hkind hnd hρ trivial top_stab
    obtain ⟨h', tk, e⟩ := x.toInCall.same
    have st' : St C s' := by
      subst e
      exact hs.keep x.toInCall.keep tk
    have hY' : Ok Y s'.heap := hY.ext w.toH.ext
    refine ⟨st'.ext.nolimit G.lim, codeAny_func ?_⟩
    refine wpAny_mono (hb _ (A.deeper _) s' _ Y (hA.deeper _) (by simp [Around.deeper, hfr]) st' hY' w) (fun fl s2 ⟨a, b, c⟩ => ?_) fun _ _ e => e
    exact hQ fl s2 a b c
end
theorem law_walk {prog : Program} {w : World} {s₁ : Shared} {mg mb : Str → Option Value} (KX : (heapK w.params).In s₁.heap) (Tg : s₁.heap.Ns mainGlobals mg) (Tb : s₁.heap.Ns builtinsNs mb) (Tbi : ∀ x : Str, x ≠ "__name__" → mb x = bootBuiltins x) (Tlim : s₁.heap.NoLimit)
    (Tbm : ∃ bm ob, mg "__builtins__" = some (.ref bm) ∧ bm ≠ builtinsNs ∧ s₁.heap.get? bm = some ob ∧ ob.cls = .type "module" ∧ ob.dict = some builtinsNs ∧ ob.data = .plain)
    (hT9 : TabsAt [(159, 155), (147, 143)] s₁.heap) (hg : s₁.gens = #[]) {ns : List Int} {vs : List Value} {l : Addr} (hL : s₁.heap.IsList l vs.toArray) (hI : IntsAre vs ns) (hn : ns.length ≤ 1000) {R : Result → Shared → Prop}
    (hR : ∀ s', OldK s₁.heap s'.heap → s'.os = s₁.os → AllBare s'.gens → R (.ok (.ret (.bool true))) s') : codeAny (model prog w) callerA (.call (.ref 165) ⟨[.ref l], []⟩) R s₁ := by
  have k : Kx ⟨prog, w, s₁.heap, s₁.os, mg, false, s₁.gens, s₁.drawn⟩ := by
    refine ⟨⟨Tg, ⟨mb, Tb, Tbi⟩, Tlim⟩, fun b o e _ => KX b o e, fun x v e => ?_, fun q hq => (hT9 q hq).1, fun P hP => ?_⟩
    · cases v with
      | none => exact mg_none_of KX Tg e
      | some v => exact mg_of KX Tg e
    · obtain ⟨bm, ob, h1, h2, h3, h4, h5, h6⟩ := Tbm
      refine ⟨bm, ob, h1, h2, fun e => ?_, fun e => ?_, h3, h4, h5, h6⟩
      · obtain ⟨o, es, ep, g1, g2, _⟩ := Tg
        rw [e, g1] at h3
        cases h3
        rw [h6] at g2; cases g2
      · have h7 : s₁.heap.get? P = some (tabObj #[]) := by
          rcases List.mem_cons.mp hP with rfl | hP
          · exact (hT9 (159, 155) (.head _)).2
          · rw [List.mem_singleton.mp hP]; exact (hT9 (147, 143) (.tail _ (.head _))).2
        rw [e, h7] at h3
        cases h3
        cases h6
  have st : St ⟨prog, w, s₁.heap, s₁.os, mg, false, s₁.gens, s₁.drawn⟩ s₁ := by
    refine ⟨.refl _, rfl, (by rw [hg]; intro x hx; simp at hx), fun q hq => ?_, fun z => (by cases z), OldK.refl _⟩
    have h7 : s₁.heap.get? q.1 = some (tabObj #[]) := by
      rcases List.mem_cons.mp hq with rfl | hq
      · exact (hT9 (159, 155) (.head _)).2
      · rw [List.mem_singleton.mp hq]; exact (hT9 (147, 143) (.tail _ (.head _))).2
    exact ⟨#[], h7, trivial, fun pos cv e => by cases e⟩
  have hb : Bd s₁ (fdOf w.params 165) ⟨[.ref l], []⟩ [(Str.ofString "script", .ref l)] := by
    have e : fdOf w.params 165 = fdOf w.params 165 := rfl
    conv at e => rhs; whnf
    rw [e]
    exact ⟨.of_eq rfl⟩
  have o := lawP (nsOf ns) (by simp [nsOf]) (by simp [nsOf]; omega)
  refine callTop (C := ⟨prog, w, s₁.heap, s₁.os, mg, false, s₁.gens, s₁.drawn⟩) (n := 20) (Y := fun _ => True) (ρ := [(Str.ofString "script", scrV ns)]) (q := givesQ (dat (.bool true))) k.toBg (fn_law k) ⟨rfl, by unfold callerA; decide, by decide, ⟨[], rfl⟩⟩ rfl st (fun _ _ => trivial) rfl hb (fun y hy => ?_) (by simp only [List.map_cons, List.map_nil]; decide) (fun x R e => ?_)
    (fun L => law1 (n := 0) k rfl o hn) fun fl s' q1 _ q3 => ?_
  · rw [List.mem_singleton.mp hy]; exact .inl rfl
  · obtain ⟨rfl, rfl⟩ := lookup_one e
    exact ⟨_, rfl, l, vs, rfl, hL, hI⟩
  · obtain ⟨_, v, rfl, h3⟩ := q3
    rw [show v = .bool true from rep_bool h3]
    exact hR s' q1.old q1.os q1.bare
theorem top : PySem.Challenge.rw_kl0417_01.Holds := hd (by rfl) (by rfl) (by rfl) (by
  intro w s₀ s₁ mg mb G Y fa o pm cd doc dV kV ho hd hcd hD hmg hg args vals as hpre hlay hrd hwl hlo
  have KX := km_in_of Y
  have hT8 := km_tabs_of Y
  clear Y
  refine Ground.open G ?_
  intro T B D TE TW
  try (refine guard_noD D (by decide +kernel) ?_; clear D)
  have hT9 : TabsAt [(159, 155), (147, 143)] s₁.heap := List.forall_mem_cons.mpr ⟨⟨codeHd_of_K (c := 159) (P := 155) KX (by kernel_rfl), hT8 155 (.head _)⟩, List.forall_mem_cons.mpr ⟨⟨codeHd_of_K (c := 147) (P := 143) KX (by kernel_rfl), hT8 143 (.tail _ (.head _))⟩, fun _ h => nomatch h⟩⟩
  have hfa : fa = 165 := by
    have e := mg_of KX (Top.g T) (show nsIn _ _ (Str.ofString "law") = some (some (.ref 165)) from by kernel_rfl)
    rw [hmg] at e
    cases e; rfl
  clear hmg
  wrow_args hpre hlay hrd hwl hlo
  rename_i ns hs0 hlay0 hL hr0 hl2 as1 as2 l vs as3 hL1 hra hw1 hr1 hI hr2 hc1 hc2
  first | refine callC_kw (enter_call ?_) | refine enter_call ?_
  clear hd hcd
  subst hfa
  refine law_walk KX (Top.g T) (Top.b T) (Top.builtins T) (Top.nolimit T) (Top.bmain T) hT9 hg hL1 hI (by omega) fun s' h1 h2 h3 => ⟨.inl ⟨.bool true, .bool true, [], rfl, fun cls => rfl, .bool true, ?_, fun _ => ⟨List.nodup_nil, fun a ha => by cases ha⟩⟩, h1, h2, h3⟩
  with_unfolding_all rfl)
end Mine
theorem PySem.Challenge.cw_kl0417_01_holds : PySem.Challenge.rw_kl0417_01.Holds := by
  exact Mine.top
