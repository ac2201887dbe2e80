import PyProof.Rows.All
import Wide.All
import OpenK.AllK
import Wide.FinOn
import KE.KxPercentT
import PyProof.GenRules
import PyProof.GenComp
import KE.KPairComp
import KE.KSortTup
import PyProof.FactsAll.tuple_2
import Lean
import PySem.Challenge.RW_bd0048_02
set_option Elab.async false
set_option linter.all false
set_option maxRecDepth 100000
set_option maxHeartbeats 0
set_option bootstrap.genMatcherCode false
set_option backward.match.sparseCases false
noncomputable section
set_option tactic.hygienic false
section
open PySem PySem.W PyProof.Rows
namespace Mine
noncomputable abbrev pw : Program := PySem.Challenge.rw_bd0048_02.row.toRowW.prog
noncomputable def qv : Program := view pw [15]
noncomputable def lo : List PySem.Str := ["_wall", "_tuplegetter", "tokenize", "Token", "NEWLINE", "FSTRING_START", "FSTRING_MIDDLE", "FSTRING_END", "TSTRING_START", "TSTRING_MIDDLE", "TSTRING_END", "continued_indentation", "expand_indent", "_law_cell", "_law_scan", "_law_laid", "_law_told"]
noncomputable def fnS : Stmt → Arguments × List Stmt × Scope
  | .FunctionDef _ a b _ _ _ s _ _ _ => (a, b, s)
  | _ => default
noncomputable def clsS : Stmt → List Stmt
  | .ClassDef _ _ _ b _ _ _ _ _ _ _ => b
  | _ => []
noncomputable def docS : List Stmt → PySem.Str
  | .Expr (.Constant (.str s) _ _) _ :: _ => s
  | _ => ""
noncomputable def fn (i : Nat) : Arguments × List Stmt × Scope := fnS ((pw.main.body[i]?).getD default)
noncomputable def tnew : Arguments × List Stmt × Scope := fnS (((clsS ((pw.main.body[4]?).getD default))[4]?).getD default)
noncomputable def KH0 : Params → Frag := fun P =>
  [(2, { cls := Value.none, data := Data.dict #[] }),
   (3, { cls := Value.type "dict", data := Data.dict #[{ hash := PyData.keyHash P (Str.ofString "__name__"), key := Value.str (Str.ofString "__name__") 165, val := Value.str (Str.ofString "law_bd0048_02") 519 }, { hash := PyData.keyHash P (Str.ofString "__doc__"), key := Value.str (Str.ofString "__doc__") 166, val := Value.none }, { hash := PyData.keyHash P (Str.ofString "__package__"), key := Value.str (Str.ofString "__package__") 167, val := Value.none }, { hash := PyData.keyHash P (Str.ofString "__loader__"), key := Value.str (Str.ofString "__loader__") 168, val := Value.builtin "__main__.__loader__#opaque" }, { hash := PyData.keyHash P (Str.ofString "__spec__"), key := Value.str (Str.ofString "__spec__") 169, val := Value.none }, { hash := PyData.keyHash P (Str.ofString "__annotations__"), key := Value.str (Str.ofString "__annotations__") 170, val := Value.ref 6 }, { hash := PyData.keyHash P (Str.ofString "__builtins__"), key := Value.str (Str.ofString "__builtins__") 171, val := Value.ref 4 }, { hash := PyData.keyHash P (Str.ofString "__file__"), key := Value.str (Str.ofString "__file__") 173, val := Value.str (Str.ofString "/claim/cut.py") 172 }, { hash := PyData.keyHash P (Str.ofString "__cached__"), key := Value.str (Str.ofString "__cached__") 174, val := Value.none }, { hash := PyData.keyHash P (Str.ofString "_wall"), key := Value.str (Str.ofString "_wall") 193, val := Value.ref 21 }, { hash := PyData.keyHash P (Str.ofString "_tuplegetter"), key := Value.str (Str.ofString "_tuplegetter") 252, val := Value.ref 60 }, { hash := PyData.keyHash P (Str.ofString "tokenize"), key := Value.str (Str.ofString "tokenize") 294, val := Value.ref 74 }, { hash := PyData.keyHash P (Str.ofString "Token"), key := Value.str (Str.ofString "Token") 448, val := Value.ref 155 }, { hash := PyData.keyHash P (Str.ofString "NEWLINE"), key := Value.str (Str.ofString "NEWLINE") 451, val := Value.ref 159 }, { hash := PyData.keyHash P (Str.ofString "FSTRING_START"), key := Value.str (Str.ofString "FSTRING_START") 454, val := Value.int (-1) 453 }, { hash := PyData.keyHash P (Str.ofString "FSTRING_MIDDLE"), key := Value.str (Str.ofString "FSTRING_MIDDLE") 455, val := Value.int (-1) 453 }, { hash := PyData.keyHash P (Str.ofString "FSTRING_END"), key := Value.str (Str.ofString "FSTRING_END") 456, val := Value.int (-1) 453 }, { hash := PyData.keyHash P (Str.ofString "TSTRING_START"), key := Value.str (Str.ofString "TSTRING_START") 459, val := Value.int (-1) 458 }, { hash := PyData.keyHash P (Str.ofString "TSTRING_MIDDLE"), key := Value.str (Str.ofString "TSTRING_MIDDLE") 460, val := Value.int (-1) 458 }, { hash := PyData.keyHash P (Str.ofString "TSTRING_END"), key := Value.str (Str.ofString "TSTRING_END") 461, val := Value.int (-1) 458 }, { hash := PyData.keyHash P (Str.ofString "continued_indentation"), key := Value.str (Str.ofString "continued_indentation") 508, val := Value.ref 166 }, { hash := PyData.keyHash P (Str.ofString "expand_indent"), key := Value.str (Str.ofString "expand_indent") 518, val := Value.ref 173 }, { hash := PyData.keyHash P (Str.ofString "_law_cell"), key := Value.str (Str.ofString "_law_cell") 528, val := Value.ref 180 }, { hash := PyData.keyHash P (Str.ofString "_law_scan"), key := Value.str (Str.ofString "_law_scan") 547, val := Value.ref 187 }, { hash := PyData.keyHash P (Str.ofString "_law_laid"), key := Value.str (Str.ofString "_law_laid") 563, val := Value.ref 194 }, { hash := PyData.keyHash P (Str.ofString "_law_told"), key := Value.str (Str.ofString "_law_told") 569, val := Value.ref 199 }, { hash := PyData.keyHash P (Str.ofString "law"), key := Value.str (Str.ofString "law") 575, val := Value.ref 204 }] 27 }),
   (73, { cls := Value.type "dict", data := Data.dict #[{ hash := PyData.keyHash P (Str.ofString "__module__"), key := Value.str (Str.ofString "__module__") 260, val := Value.str (Str.ofString "pycodestyle") 194 }, { hash := PyData.keyHash P (Str.ofString "__firstlineno__"), key := Value.str (Str.ofString "__firstlineno__") 264, val := Value.int 23 263 }, { hash := PyData.keyHash P (Str.ofString "ENDMARKER"), key := Value.str (Str.ofString "ENDMARKER") 266, val := Value.int 0 265 }, { hash := PyData.keyHash P (Str.ofString "NAME"), key := Value.str (Str.ofString "NAME") 268, val := Value.int 1 267 }, { hash := PyData.keyHash P (Str.ofString "NUMBER"), key := Value.str (Str.ofString "NUMBER") 270, val := Value.int 2 269 }, { hash := PyData.keyHash P (Str.ofString "STRING"), key := Value.str (Str.ofString "STRING") 272, val := Value.int 3 271 }, { hash := PyData.keyHash P (Str.ofString "NEWLINE"), key := Value.str (Str.ofString "NEWLINE") 274, val := Value.int 4 273 }, { hash := PyData.keyHash P (Str.ofString "INDENT"), key := Value.str (Str.ofString "INDENT") 276, val := Value.int 5 275 }, { hash := PyData.keyHash P (Str.ofString "DEDENT"), key := Value.str (Str.ofString "DEDENT") 278, val := Value.int 6 277 }, { hash := PyData.keyHash P (Str.ofString "OP"), key := Value.str (Str.ofString "OP") 280, val := Value.int 54 279 }, { hash := PyData.keyHash P (Str.ofString "ERRORTOKEN"), key := Value.str (Str.ofString "ERRORTOKEN") 282, val := Value.int 60 281 }, { hash := PyData.keyHash P (Str.ofString "COMMENT"), key := Value.str (Str.ofString "COMMENT") 284, val := Value.int 61 283 }, { hash := PyData.keyHash P (Str.ofString "NL"), key := Value.str (Str.ofString "NL") 286, val := Value.int 62 285 }, { hash := PyData.keyHash P (Str.ofString "__static_attributes__"), key := Value.str (Str.ofString "__static_attributes__") 287, val := Value.ref 72 }, { hash := PyData.keyHash P (Str.ofString "__dict__"), key := Value.str (Str.ofString "__dict__") 289, val := Value.ref 75 }, { hash := PyData.keyHash P (Str.ofString "__weakref__"), key := Value.str (Str.ofString "__weakref__") 291, val := Value.ref 76 }, { hash := PyData.keyHash P (Str.ofString "__doc__"), key := Value.str (Str.ofString "__doc__") 292, val := Value.none }] 4 }),
   (74, { cls := Value.type "type", data := Data.cls { name := Str.ofString "tokenize", bases := [Value.type "object"], mro := [Value.ref 74, Value.type "object"], ns := 73, qualname := Str.ofString "tokenize" }, slots := #[none, none, some (Value.str (Str.ofString "tokenize") 253), some (Value.str (Str.ofString "tokenize") 261), some (Value.builtin "object.__new__"), some (Value.bool true)] }),
   (95, { cls := Value.type "code", data := Data.fields #[Value.str (Str.ofString "__new__") 318, Value.str (Str.ofString "Token.__new__") 319, Value.str (Str.ofString "/claim/cut.py") 320, Value.int 41 0, Value.int 6 0, Value.int 0 0, Value.int 0 0, Value.int 3 0, Value.ref 90, Value.bool true, Value.int 181 0, Value.ref 91, Value.none, Value.ref 92, Value.ref 93, Value.ref 94, Value.int 327 0, Value.int 41 0, Value.str (Str.ofString "/claim/cut.py") 328] }),
   (96, { cls := Value.type "function", data := Data.func { name := Str.ofString "__new__", qualname := Str.ofString "Token.__new__", params := tnew.1, body := .stmts tnew.2.1, scope := tnew.2.2, globals := 3, closure := [], defaults := Value.none, kwdefaults := Value.none, doc := .str (docS tnew.2.1) 329, pyModule := Value.str (Str.ofString "pycodestyle") 194, code := Value.ref 95 } }),
   (154, { cls := Value.type "dict", data := Data.dict #[{ hash := PyData.keyHash P (Str.ofString "__module__"), key := Value.str (Str.ofString "__module__") 302, val := Value.str (Str.ofString "pycodestyle") 194 }, { hash := PyData.keyHash P (Str.ofString "__firstlineno__"), key := Value.str (Str.ofString "__firstlineno__") 306, val := Value.int 35 305 }, { hash := PyData.keyHash P (Str.ofString "__doc__"), key := Value.str (Str.ofString "__doc__") 308, val := Value.str (Str.ofString "Token(kind, string, start, end, line)") 307 }, { hash := PyData.keyHash P (Str.ofString "__slots__"), key := Value.str (Str.ofString "__slots__") 310, val := Value.ref 87 }, { hash := PyData.keyHash P (Str.ofString "_fields"), key := Value.str (Str.ofString "_fields") 316, val := Value.ref 88 }, { hash := PyData.keyHash P (Str.ofString "_field_defaults"), key := Value.str (Str.ofString "_field_defaults") 317, val := Value.ref 89 }, { hash := PyData.keyHash P (Str.ofString "__new__"), key := Value.str (Str.ofString "__new__") 330, val := Value.ref 156 }, { hash := PyData.keyHash P (Str.ofString "_make"), key := Value.str (Str.ofString "_make") 352, val := Value.ref 105 }, { hash := PyData.keyHash P (Str.ofString "_replace"), key := Value.str (Str.ofString "_replace") 363, val := Value.ref 114 }, { hash := PyData.keyHash P (Str.ofString "__replace__"), key := Value.str (Str.ofString "__replace__") 364, val := Value.ref 114 }, { hash := PyData.keyHash P (Str.ofString "__repr__"), key := Value.str (Str.ofString "__repr__") 372, val := Value.ref 121 }, { hash := PyData.keyHash P (Str.ofString "_asdict"), key := Value.str (Str.ofString "_asdict") 379, val := Value.ref 128 }, { hash := PyData.keyHash P (Str.ofString "__getnewargs__"), key := Value.str (Str.ofString "__getnewargs__") 387, val := Value.ref 135 }, { hash := PyData.keyHash P (Str.ofString "__match_args__"), key := Value.str (Str.ofString "__match_args__") 393, val := Value.ref 136 }, { hash := PyData.keyHash P (Str.ofString "kind"), key := Value.str (Str.ofString "kind") 403, val := Value.ref 138 }, { hash := PyData.keyHash P (Str.ofString "string"), key := Value.str (Str.ofString "string") 413, val := Value.ref 141 }, { hash := PyData.keyHash P (Str.ofString "start"), key := Value.str (Str.ofString "start") 423, val := Value.ref 144 }, { hash := PyData.keyHash P (Str.ofString "end"), key := Value.str (Str.ofString "end") 433, val := Value.ref 147 }, { hash := PyData.keyHash P (Str.ofString "line"), key := Value.str (Str.ofString "line") 443, val := Value.ref 150 }, { hash := PyData.keyHash P (Str.ofString "__static_attributes__"), key := Value.str (Str.ofString "__static_attributes__") 444, val := Value.ref 152 }] 2 }),
   (155, { cls := Value.type "type", data := Data.cls { name := Str.ofString "Token", bases := [Value.type "tuple"], mro := [Value.ref 155, Value.type "tuple", Value.type "object"], ns := 154, qualname := Str.ofString "Token", hasDict := false }, slots := #[some (Value.ref 79), none, some (Value.str (Str.ofString "Token") 295), some (Value.str (Str.ofString "Token") 303), some Value.none, some (Value.bool false)] }),
   (156, { cls := Value.type "staticmethod", data := Data.fields #[Value.ref 96] }),
   (159, { cls := Value.type "tuple", data := Data.seq #[Value.int 62 449, Value.int 4 450] }),
   (165, { cls := Value.type "code", data := Data.fields #[Value.str (Str.ofString "continued_indentation") 462, Value.str (Str.ofString "continued_indentation") 463, Value.str (Str.ofString "/claim/cut.py") 464, Value.int 83 0, Value.int 8 0, Value.int 0 0, Value.int 0 0, Value.int 35 0, Value.ref 160, Value.bool true, Value.int 181 0, Value.ref 161, Value.none, Value.ref 162, Value.ref 163, Value.ref 164, Value.int 505 0, Value.int 83 0, Value.str (Str.ofString "/claim/cut.py") 506] }),
   (166, { cls := Value.type "function", data := Data.func { name := Str.ofString "continued_indentation", qualname := Str.ofString "continued_indentation", params := (fn 8).1, body := .stmts (fn 8).2.1, scope := (fn 8).2.2, globals := 3, closure := [], defaults := Value.none, kwdefaults := Value.none, doc := .str (docS (fn 8).2.1) 507, pyModule := Value.str (Str.ofString "pycodestyle") 194, code := Value.ref 165 } }),
   (172, { cls := Value.type "code", data := Data.fields #[Value.str (Str.ofString "expand_indent") 509, Value.str (Str.ofString "expand_indent") 510, Value.str (Str.ofString "/claim/cut.py") 511, Value.int 224 0, Value.int 1 0, Value.int 0 0, Value.int 0 0, Value.int 3 0, Value.ref 167, Value.bool true, Value.int 181 0, Value.ref 168, Value.none, Value.ref 169, Value.ref 170, Value.ref 171, Value.int 515 0, Value.int 224 0, Value.str (Str.ofString "/claim/cut.py") 516] }),
   (173, { cls := Value.type "function", data := Data.func { name := Str.ofString "expand_indent", qualname := Str.ofString "expand_indent", params := (fn 9).1, body := .stmts (fn 9).2.1, scope := (fn 9).2.2, globals := 3, closure := [], defaults := Value.none, kwdefaults := Value.none, doc := .str (docS (fn 9).2.1) 517, pyModule := Value.str (Str.ofString "pycodestyle") 194, code := Value.ref 172 } }),
   (179, { cls := Value.type "code", data := Data.fields #[Value.str (Str.ofString "_law_cell") 521, Value.str (Str.ofString "_law_cell") 522, Value.str (Str.ofString "/claim/cut.py") 523, Value.int 242 0, Value.int 2 0, Value.int 0 0, Value.int 0 0, Value.int 3 0, Value.ref 174, Value.bool true, Value.int 181 0, Value.ref 175, Value.none, Value.ref 176, Value.ref 177, Value.ref 178, Value.int 526 0, Value.int 242 0, Value.str (Str.ofString "/claim/cut.py") 527] }),
   (180, { cls := Value.type "function", data := Data.func { name := Str.ofString "_law_cell", qualname := Str.ofString "_law_cell", params := (fn 11).1, body := .stmts (fn 11).2.1, scope := (fn 11).2.2, globals := 3, closure := [], defaults := Value.none, kwdefaults := Value.none, pyModule := Value.str (Str.ofString "law_bd0048_02") 519, code := Value.ref 179 } }),
   (186, { cls := Value.type "code", data := Data.fields #[Value.str (Str.ofString "_law_scan") 529, Value.str (Str.ofString "_law_scan") 530, Value.str (Str.ofString "/claim/cut.py") 531, Value.int 244 0, Value.int 1 0, Value.int 0 0, Value.int 0 0, Value.int 3 0, Value.ref 181, Value.bool true, Value.int 181 0, Value.ref 182, Value.none, Value.ref 183, Value.ref 184, Value.ref 185, Value.int 545 0, Value.int 244 0, Value.str (Str.ofString "/claim/cut.py") 546] }),
   (187, { cls := Value.type "function", data := Data.func { name := Str.ofString "_law_scan", qualname := Str.ofString "_law_scan", params := (fn 12).1, body := .stmts (fn 12).2.1, scope := (fn 12).2.2, globals := 3, closure := [], defaults := Value.none, kwdefaults := Value.none, pyModule := Value.str (Str.ofString "law_bd0048_02") 519, code := Value.ref 186 } }),
   (193, { cls := Value.type "code", data := Data.fields #[Value.str (Str.ofString "_law_laid") 548, Value.str (Str.ofString "_law_laid") 549, Value.str (Str.ofString "/claim/cut.py") 550, Value.int 267 0, Value.int 2 0, Value.int 0 0, Value.int 0 0, Value.int 3 0, Value.ref 188, Value.bool true, Value.int 181 0, Value.ref 189, Value.none, Value.ref 190, Value.ref 191, Value.ref 192, Value.int 561 0, Value.int 267 0, Value.str (Str.ofString "/claim/cut.py") 562] }),
   (194, { cls := Value.type "function", data := Data.func { name := Str.ofString "_law_laid", qualname := Str.ofString "_law_laid", params := (fn 13).1, body := .stmts (fn 13).2.1, scope := (fn 13).2.2, globals := 3, closure := [], defaults := Value.none, kwdefaults := Value.none, pyModule := Value.str (Str.ofString "law_bd0048_02") 519, code := Value.ref 193 } }),
   (198, { cls := Value.type "code", data := Data.fields #[Value.str (Str.ofString "_law_told") 564, Value.str (Str.ofString "_law_told") 565, Value.str (Str.ofString "/claim/cut.py") 566, Value.int 291 0, Value.int 3 0, Value.int 0 0, Value.int 0 0, Value.int 3 0, Value.ref 195, Value.bool true, Value.int 181 0, Value.ref 196, Value.none, Value.none, Value.none, Value.ref 197, Value.int 567 0, Value.int 291 0, Value.str (Str.ofString "/claim/cut.py") 568] }),
   (199, { cls := Value.type "function", data := Data.func { name := Str.ofString "_law_told", qualname := Str.ofString "_law_told", params := (fn 14).1, body := .stmts (fn 14).2.1, scope := (fn 14).2.2, globals := 3, closure := [], defaults := Value.none, kwdefaults := Value.none, pyModule := Value.str (Str.ofString "law_bd0048_02") 519, code := Value.ref 198 } }),
   (203, { cls := Value.type "code", data := Data.fields #[Value.str (Str.ofString "law") 570, Value.str (Str.ofString "law") 571, Value.str (Str.ofString "/claim/cut.py") 572, Value.int 295 0, Value.int 1 0, Value.int 0 0, Value.int 0 0, Value.int 3 0, Value.ref 200, Value.bool true, Value.int 181 0, Value.ref 201, Value.none, Value.none, Value.none, Value.ref 202, Value.int 573 0, Value.int 295 0, Value.str (Str.ofString "/claim/cut.py") 574] }),
   (204, { cls := Value.type "function", data := Data.func { name := Str.ofString "law", qualname := Str.ofString "law", params := (fn 15).1, body := .stmts (fn 15).2.1, scope := (fn 15).2.2, globals := 3, closure := [], defaults := Value.none, kwdefaults := Value.none, pyModule := Value.str (Str.ofString "law_bd0048_02") 519, code := Value.ref 203 } })]
noncomputable def kas : List Addr := [2, 3, 73, 74, 95, 96, 154, 155, 156, 159, 165, 166, 172, 173, 179, 180, 186, 187, 193, 194, 198, 199, 203, 204]
theorem hl1 : LeftO PySem.Challenge.rw_bd0048_02.row.prog qv lo (fun s => xlAt qv [] s && recOk (RowW.records PySem.Challenge.rw_bd0048_02.row.toRowW) s) (kHook KH0 kas fun _ => by kernel_rfl).obs (kHook KH0 kas fun _ => by kernel_rfl).val 5000 := fun w => by kernel_rfl
end Mine
end
section
open PySem PySem.W PyProof.Rows
namespace Mine
theorem jR {α : Type} {p : Prop} [Decidable p] {x r : α} {Q : Prop} (h : (if p then some x else none) = some r) (k : p → x = r → Q) : Q := by
  by_cases e : p
  · rw [if_pos e] at h; exact k e (Option.some.inj h)
  · rw [if_neg e] at h; cases h
theorem iteN {α : Type} {p : Prop} [Decidable p] {x r : α} {Q : Prop} (h : (if p then none else some x) = some r) (k : ¬ p → x = r → Q) : Q := by
  by_cases e : p
  · rw [if_pos e] at h; cases h
  · rw [if_neg e] at h; exact k e (Option.some.inj h)
theorem iteO {α : Type} {p : Prop} [Decidable p] {x : Option α} {r : α} {Q : Prop} (h : (if p then x else none) = some r) (k : p → x = some r → Q) : Q := by
  by_cases e : p
  · rw [if_pos e] at h; exact k e h
  · rw [if_neg e] at h; cases h
theorem nn {α : Type} {r : α} {Q : Prop} (h : none = some r) : Q := nomatch h
theorem sp {α β : Type} {a c : α} {b d : β} (h : some (a, b) = some (c, d)) : a = c ∧ b = d := by cases h; exact ⟨rfl, rfl⟩
theorem hideG {P : Prop} (h : ∀ Q : Prop, (P → Q) → Q) : P := h P id
inductive PV where
  | none
  | bool (b : Bool)
  | int (i : Int)
  | str (l : List Nat)
  | tup (l : List PV)
  | tok (l : List PV)
  | lst (l : List PV)
inductive SV where
  | val (v : PV)
  | own (l : List PV)
  | own2 (l : List (List PV))
  | dic (l : List (Int × PV))
  | ref (k : Nat)
noncomputable def IsTok (T : Addr) (h : Heap) (a : Addr) (items : Array Value) : Prop := ∃ o : Nat × Option Addr, h.get? a = some { cls := .ref T, dict := o.2, data := .seq items o.1 }
noncomputable def PTup (h : Heap) (a : Addr) (items : Array Value) : Prop := ∃ n, h.get? a = some { cls := .type "tuple", data := .seq items n }
theorem PTup.isTup {h : Heap} {a items} (x : PTup h a items) : IsTup h a items := let ⟨n, e⟩ := x; ⟨_, e, rfl, n, rfl⟩
inductive AtSeq (O : Addr → Prop) (P : Addr → Array Value → Prop) (R : List Value → Prop) (V : Value) : Prop
  | mk (a : Addr) (vs : List Value) (e : V = .ref a) (n : ¬ O a) (p : P a vs.toArray) (q : R vs) : AtSeq O P R V
inductive ConsR (P : Value → Prop) (R : List Value → Prop) (vs : List Value) : Prop
  | mk (v : Value) (vs' : List Value) (e : vs = v :: vs') (p : P v) (q : R vs') : ConsR P R vs
mutual
noncomputable def Rep (T : Addr) (O : Addr → Prop) (h : Heap) : PV → Value → Prop
  | .none, V => V = .none
  | .bool b, V => V = .bool b
  | .int i, V => ∃ t, V = .int i t
  | .str l, V => ∃ t, V = .str ⟨l.toArray⟩ t
  | .tup l, V => AtSeq O (PTup h) (yX T O h l) V
  | .tok l, V => AtSeq O (IsTok T h) (yX T O h l) V
  | .lst l, V => AtSeq O h.PlainList (yX T O h l) V
noncomputable def yX (T : Addr) (O : Addr → Prop) (h : Heap) : List PV → List Value → Prop
  | [], vs => vs = []
  | x :: l, vs => ConsR (Rep T O h x) (yX T O h l) vs
end
noncomputable def jN (O : Addr → Prop) (h : Heap) (O' : Addr → Prop) (h' : Heap) : Prop :=
  ∀ b o, ¬ O b → h.get? b = some o → h'.get? b = some o ∧ ¬ O' b
mutual
theorem Rep.keep {T O h O' h'} (k : jN O h O' h') : ∀ {v V}, Rep T O h v V → Rep T O' h' v V
  | .none, _, x => x
  | .bool _, _, x => x
  | .int _, _, x => x
  | .str _, _, x => x
  | .tup l, V, ⟨a, vs, e, n, ⟨o, ho⟩, q⟩ => ⟨a, vs, e, (k a _ n ho).2, ⟨o, (k a _ n ho).1⟩, yX.keep k q⟩
  | .tok l, V, ⟨a, vs, e, n, ⟨o, ho⟩, q⟩ => ⟨a, vs, e, (k a _ n ho).2, ⟨o, (k a _ n ho).1⟩, yX.keep k q⟩
  | .lst l, V, ⟨a, vs, e, n, ⟨o, ho⟩, q⟩ => ⟨a, vs, e, (k a _ n ho).2, ⟨o, (k a _ n ho).1⟩, yX.keep k q⟩
theorem yX.keep {T O h O' h'} (k : jN O h O' h') : ∀ {l vs}, yX T O h l vs → yX T O' h' l vs
  | [], _, x => x
  | _ :: _, _, ⟨v, vs', e, x, q⟩ => ⟨v, vs', e, Rep.keep k x, yX.keep k q⟩
end
theorem yX.length {T O h} : ∀ {l vs}, yX T O h l vs → vs.length = l.length
  | [], _, x => by cases x; rfl
  | _ :: l, _, ⟨v, vs', e, _, q⟩ => by subst e; simp [yX.length q]
theorem yX.get {T O h} : ∀ {l : List PV} {vs : List Value}, yX T O h l vs → ∀ {i : Nat} {x : PV}, l[i]? = some x → ∃ V, vs[i]? = some V ∧ Rep T O h x V
  | [], _, _, i, x, e => by simp at e
  | y :: l, _, ⟨v, vs', e, r, q⟩, 0, x, e' => by
    subst e; simp at e'; subst e'; exact ⟨v, by simp, r⟩
  | y :: l, _, ⟨v, vs', e, r, q⟩, i + 1, x, e' => by
    subst e; simp at e'
    obtain ⟨V, h1, h2⟩ := yX.get q e'
    exact ⟨V, by simpa using h1, h2⟩
theorem yX.append {T O h} : ∀ {l vs l' vs'}, yX T O h l vs → yX T O h l' vs' → yX T O h (l ++ l') (vs ++ vs')
  | [], _, _, _, x, y => by cases x; exact y
  | _ :: _, _, _, _, ⟨v, vs', e, x, q⟩, y => by subst e; exact ⟨v, _, rfl, x, yX.append q y⟩
theorem yX.set {T O h} {x V} (r : Rep T O h x V) : ∀ {l vs}, yX T O h l vs → ∀ i, yX T O h (l.set i x) (vs.set i V)
  | [], _, q, i => by cases q; exact rfl
  | y :: l, _, ⟨v, vs', e, r', q⟩, 0 => by subst e; exact ⟨V, vs', rfl, r, q⟩
  | y :: l, _, ⟨v, vs', e, r', q⟩, i + 1 => by subst e; exact ⟨v, _, rfl, r', yX.set r q i⟩
theorem yX.take {T O h} : ∀ {l vs}, yX T O h l vs → ∀ i, yX T O h (l.take i) (vs.take i)
  | _, _, _, 0 => by simp [yX]
  | [], _, q, i + 1 => by cases q; simp [yX]
  | y :: l, _, ⟨v, vs', e, r', q⟩, i + 1 => by subst e; exact ⟨v, _, rfl, r', yX.take q i⟩
theorem yX.drop {T O h} : ∀ {l vs}, yX T O h l vs → ∀ i, yX T O h (l.drop i) (vs.drop i)
  | l, _, q, 0 => by simpa using q
  | [], _, q, i + 1 => by cases q; simp [yX]
  | y :: l, _, ⟨v, vs', e, r', q⟩, i + 1 => by subst e; simpa using yX.drop q i
theorem yX.one {T O h x V} (r : Rep T O h x V) : yX T O h [x] [V] := ⟨V, [], rfl, r, rfl⟩
structure Ext (s s' : Shared) : Prop where
  keep : ∀ b o, s.heap.get? b = some o → s'.heap.get? b = some o
  gens : s'.gens = s.gens
  drawn : s'.drawn = s.drawn
  os : s'.os = s.os
theorem Ext.refl (s : Shared) : Ext s s := ⟨fun _ _ e => e, rfl, rfl, rfl⟩
theorem Ext.trans {a b c : Shared} (x : Ext a b) (y : Ext b c) : Ext a c :=
  ⟨fun _ _ e => y.keep _ _ (x.keep _ _ e), y.gens.trans x.gens, y.drawn.trans x.drawn, y.os.trans x.os⟩
theorem Ext.toks (s : Shared) (t : Nat) : Ext s { s with toks := t } := ⟨fun _ _ e => e, rfl, rfl, rfl⟩
theorem Ext.push (s : Shared) (o : Obj) (t : Nat) : Ext s { s with heap := s.heap.push o, toks := t } :=
  ⟨fun _ _ e => Heap.get?_push_of_some _ e, rfl, rfl, rfl⟩
theorem Ext.keepO {s s' : Shared} (x : Ext s s') (O : Addr → Prop) : jN O s.heap O s'.heap := fun b o n e => ⟨x.keep b o e, n⟩
noncomputable def jM (O : Addr → Prop) (h : Heap) : Prop := ∀ a, O a → ∃ o, h.get? a = some o
theorem jM.ext {O} {s s' : Shared} (u : jM O s.heap) (x : Ext s s') : jM O s'.heap := fun a q => let ⟨o, e⟩ := u a q; ⟨o, x.keep _ _ e⟩
end Mine
end
set_option genInjectivity false
section
open PySem PySem.W PyProof.Rows
namespace Mine
noncomputable abbrev SZ : Nat := 100000
noncomputable def small (i : Int) : Bool := decide (-100000 ≤ i) && decide (i ≤ 100000)
noncomputable def yN {α : Type} (l : List α) (k : Int) : Option α :=
  if small k then (if 0 ≤ k then l[k.toNat]? else if 0 ≤ (l.length : Int) + k then l[((l.length : Int) + k).toNat]? else none) else none
noncomputable def posI (n : Nat) (k : Int) : Option Nat :=
  if small k then (if 0 ≤ k then (if k.toNat < n then some k.toNat else none) else if 0 ≤ (n : Int) + k then some ((n : Int) + k).toNat else none) else none
noncomputable def clampI (n : Nat) (k : Int) : Nat := if k < 0 then ((n : Int) + k).toNat else min k.toNat n
noncomputable def jQ {α : Type} (l : List α) (lo hi : Option Int) : List α :=
  let a := match lo with | none => 0 | some k => clampI l.length k
  let b := match hi with | none => l.length | some k => clampI l.length k
  (l.drop a).take (b - a)
noncomputable def rangeUp (a b : Int) : List Int := (List.range (b - a).toNat).map fun (k : Nat) => a + (k : Int)
noncomputable def rangeDown (a b : Int) : List Int := (List.range (a - b).toNat).map fun (k : Nat) => a - (k : Int)
noncomputable def S (l : List Nat) : Str := ⟨l.toArray⟩
noncomputable def U (x : Str) : List Nat := x.cps.toList
inductive MOp | add | sub | mul | div | mod
inductive MCmp | eq | ne | lt | le | gt | ge | isIn | notIn | is | isNot
inductive MMeth | endswith | lstrip | rstripC
noncomputable def rep {α : Type} (l : List α) : Nat → List α
  | 0 => []
  | n + 1 => l ++ rep l n
noncomputable def fmt2 : List Nat := [37, 115, 32, 99, 111, 110, 116, 105, 110, 117, 97, 116, 105, 111, 110, 32, 108, 105, 110, 101, 32, 37, 115]
noncomputable def fmtMid : List Nat := [32, 99, 111, 110, 116, 105, 110, 117, 97, 116, 105, 111, 110, 32, 108, 105, 110, 101, 32]
mutual
noncomputable def yZ : PV → PyData
  | .none => .none
  | .bool b => .bool b
  | .int i => .int i
  | .str l => .str (S l)
  | .tup l => .tuple (yW l)
  | .tok _ => .none
  | .lst l => .list (yW l)
noncomputable def yW : List PV → List PyData
  | [] => []
  | x :: l => yZ x :: yW l
end
mutual
noncomputable def jF : PV → Bool
  | .tok _ => false
  | .tup l => jD l
  | .lst l => jD l
  | _ => true
noncomputable def jD : List PV → Bool
  | [] => true
  | x :: l => jF x && jD l
end
noncomputable def okD (v : PV) : Bool := jF v && (yZ v).canLay0 && decide ((yZ v).depth ≤ 64)
noncomputable def eqPV (a b : PV) : Option Bool := if okD a && okD b then some (PyData.eqv (yZ a) (yZ b)) else none
noncomputable def inL (x : PV) (l : List PV) : Option Bool :=
  if okD x && okD (.tup l) then some ((yW l).any fun y => PyData.eqv y (yZ x)) else none
noncomputable def isScalar : PV → Bool
  | .none => true | .bool _ => true | .int _ => true | .str _ => true
  | z_ => false
noncomputable def allInt : List PV → Option (List Int)
  | [] => some []
  | .int i :: l => (allInt l).map (i :: ·)
  | _ :: _ => none
noncomputable def yP (op : MOp) (a b : PV) : Option PV := match op with
  | .add => (match a with
    | .int a => (match b with | .int b => some (.int (a + b)) | z_ => none)
    | .str a => (match b with | .str b => if a.length + b.length ≤ SZ then some (.str (a ++ b)) else none | z_ => none)
    | .lst a => (match b with | .lst b => if a.length + b.length ≤ SZ then some (.lst (a ++ b)) else none | z_ => none)
    | z_ => none)
  | .sub => (match a with | .int a => (match b with | .int b => some (.int (a - b)) | z_ => none) | z_ => none)
  | .mul => (match b with
    | .int n => (match a with
      | .int a => if small a && small n then some (.int (a * n)) else none
      | .str l => (match l with | [c] => if small n then some (.str (List.replicate n.toNat c)) else none | z_ => none)
      | .lst l => (match l with | [x] => if small n && isScalar x then some (.lst (List.replicate n.toNat x)) else none | z_ => none)
      | z_ => none)
    | z_ => none)
  | .div => (match a with | .int a => (match b with | .int b => if b = 0 || !small b then none else some (.int (a.fdiv b)) | z_ => none) | z_ => none)
  | .mod => (match a with
    | .int a => (match b with | .int b => if b = 0 then none else some (.int (a.fmod b)) | z_ => none)
    | .str f => (match b with
      | .tup l => (match l with
        | [.str x, .str y] => if f = fmt2 ∧ x.length ≤ 1000 ∧ y.length ≤ 1000 then some (.str (x ++ fmtMid ++ y)) else none
        | z_ => none)
      | z_ => none)
    | z_ => none)
noncomputable def zR (op : MCmp) (a b : PV) : Option Bool := match op with
  | .eq => eqPV a b
  | .ne => (eqPV a b).map (!·)
  | .lt => (match a with | .int a => (match b with | .int b => some (decide (a < b)) | z_ => none) | z_ => none)
  | .le => (match a with | .int a => (match b with | .int b => some (decide (a ≤ b)) | z_ => none) | z_ => none)
  | .gt => (match a with | .int a => (match b with | .int b => some (decide (b < a)) | z_ => none) | z_ => none)
  | .ge => (match a with | .int a => (match b with | .int b => some (decide (b ≤ a)) | z_ => none) | z_ => none)
  | .is => (match b with | .none => (match a with | .none => some true | .int _ => some false | z_ => none) | z_ => none)
  | .isNot => (match b with | .none => (match a with | .none => some false | .int _ => some true | z_ => none) | z_ => none)
  | .isIn => (match b with
    | .str b => (match a with | .str a => some (Txt.contains (S b) (S a)) | z_ => none)
    | .tup l => inL a l
    | .lst l => inL a l
    | z_ => none)
  | .notIn => (match b with
    | .str b => (match a with | .str a => some (!Txt.contains (S b) (S a)) | z_ => none)
    | .tup l => (inL a l).map (!·)
    | z_ => none)
noncomputable def yJ : PV → Option Bool
  | .none => some false
  | .bool b => some b
  | .int i => some (i != 0)
  | .str l => if l.length ≤ SZ then some (!l.isEmpty) else none
  | z_ => none
noncomputable def getidx (a b : PV) : Option PV := match b with
  | .int k => (match a with
    | .tup l => yN l k
    | .tok l => yN l k
    | .lst l => yN l k
    | .str l => (yN l k).map fun c => .str [c]
    | z_ => none)
  | z_ => none
noncomputable def slcop (v : PV) (lo hi : Option Int) : Option PV := match v with
  | .str l => if l.length ≤ SZ then some (.str (jQ l lo hi)) else none
  | .lst l => if l.length ≤ SZ then some (.lst (jQ l lo hi)) else none
  | z_ => none
noncomputable def lenop : PV → Option PV
  | .str l => if l.length ≤ SZ then some (.int l.length) else none
  | .lst l => if l.length ≤ SZ then some (.int l.length) else none
  | z_ => none
noncomputable def methop (m : MMeth) (x : PV) (l : List PV) : Option PV := match x with
  | .str a => (match m with
    | .endswith => (match l with | [.str b] => some (.bool (Txt.endswith (S a) (S b))) | z_ => none)
    | .lstrip => (match l with | [] => if a.length ≤ SZ then some (.str (U (Txt.lstrip (S a)))) else none | z_ => none)
    | .rstripC => (match l with | [.str b] => if a.length ≤ SZ then some (.str (U (Txt.rstripChars (S a) (S b)))) else none | z_ => none))
  | z_ => none
inductive ME where
  | k (v : PV)
  | loc (i : Nat)
  | bor (i : Nat)
  | bor2 (i : Nat) (e : ME)
  | bin (op : MOp) (a b : ME)
  | neg (a : ME)
  | not (a : ME)
  | cmp (op : MCmp) (a b : ME)
  | inset (a : ME) (bs : List ME)
  | and (as : List ME)
  | or (as : List ME)
  | ite (c a b : ME)
  | idx (a b : ME)
  | slc (a : ME) (lo hi : Option ME)
  | tup (as : List ME)
  | lst (as : List ME)
  | len (a : ME)
  | abs (a : ME)
  | toInt (a : ME)
  | max2 (a b : ME)
  | min2 (a b : ME)
  | meth (m : MMeth) (a : ME) (bs : List ME)
  | call (f : Nat) (as : List ME)
  | dget (i : Nat) (k : ME)
  | dnin (i : Nat) (k : ME)
  | dempty (i : Nat)
  | dkeys (i : Nat)
  | len2 (i : Nat)
  | compL (e : ME) (caps : List Nat) (elt : ME)
  | stuck
noncomputable abbrev St := Nat → Option SV
noncomputable def St.set (σ : St) (i : Nat) (v : SV) : St := fun j => if j = i then some v else σ j
noncomputable abbrev xB := Nat → List PV → Option PV
noncomputable def zJ (σ : St) (x : PV) (caps : List Nat) : St := fun j => match j with
  | 0 => some (.val x)
  | j + 1 => caps[j]?.bind σ
noncomputable def jJ {α β : Type} (f : α → Option β) : List α → Option (List β)
  | [] => some []
  | x :: l => match f x, jJ f l with
    | some y, some r => some (y :: r)
    | z_, y_ => none
section
variable (Γ : xB)
mutual
noncomputable def qM (σ : St) : ME → Option PV
  | .k v => some v
  | .loc i => match σ i with | some (.val v) => some v | z_ => none
  | .bor i => match σ i with | some (.own l) => some (.lst l) | z_ => none
  | .bor2 i e => match σ i, qM σ e with | some (.own2 ls), some (.int k) => (yN ls k).map .lst | z_, y_ => none
  | .bin op a b => match qM σ a, qM σ b with | some x, some y => yP op x y | z_, y_ => none
  | .neg a => match qM σ a with | some (.int i) => some (.int (-i)) | z_ => none
  | .not a => match qM σ a with | some x => (yJ x).map fun b => .bool (!b) | none => none
  | .cmp op a b => match qM σ a, qM σ b with | some x, some y => (zR op x y).map .bool | z_, y_ => none
  | .inset a bs => match qM σ a, xW σ bs with
    | some (.int x), some l => (allInt l).map fun (ns : List Int) => .bool (ns.contains x)
    | z_, y_ => none
  | .and as => mand σ as
  | .or as => mor σ as
  | .ite c a b => match qR σ c with | some true => qM σ a | some false => qM σ b | none => none
  | .idx a b => match qM σ a, qM σ b with | some x, some y => getidx x y | z_, y_ => none
  | .slc a lo hi => match qM σ a, mopt σ lo, mopt σ hi with | some x, some l, some h => slcop x l h | z_, y_, x_ => none
  | .tup as => match xW σ as with | some l => if l.length ≤ SZ then some (.tup l) else none | none => none
  | .lst as => match xW σ as with | some l => if l.length ≤ SZ then some (.lst l) else none | none => none
  | .len a => match qM σ a with | some x => lenop x | none => none
  | .abs a => match qM σ a with | some (.int i) => some (.int (if i < 0 then -i else i)) | z_ => none
  | .toInt a => match qM σ a with | some (.int i) => some (.int i) | z_ => none
  | .max2 a b => match qM σ a, qM σ b with | some (.int x), some (.int y) => some (.int (if x < y then y else x)) | z_, y_ => none
  | .min2 a b => match qM σ a, qM σ b with | some (.int x), some (.int y) => some (.int (if y < x then y else x)) | z_, y_ => none
  | .meth m a bs => match qM σ a, xW σ bs with | some x, some l => methop m x l | z_, y_ => none
  | .call f as => match xW σ as with | some l => Γ f l | none => none
  | .dget i k => match σ i, qM σ k with | some (.dic d), some (.int x) => some ((d.lookup x).getD .none) | z_, y_ => none
  | .dnin i k => match σ i, qM σ k with | some (.dic d), some (.int x) => some (.bool (!(d.lookup x).isSome)) | z_, y_ => none
  | .dempty i => match σ i with | some (.dic d) => if d.length ≤ SZ then some (.bool d.isEmpty) else none | z_ => none
  | .dkeys i => match σ i with | some (.dic d) => if d.length ≤ SZ then some (.lst (d.map fun q => .int q.1)) else none | z_ => none
  | .len2 i => match σ i with | some (.own2 ls) => if ls.length ≤ SZ then some (.int ls.length) else none | z_ => none
  | .compL e caps elt => match qM σ e with
    | some (.lst l) => if l.length ≤ SZ && caps.all (fun i => (σ i).isSome) then (jJ (fun x => qM (zJ σ x caps) elt) l).map .lst else none
    | z_ => none
  | .stuck => none
noncomputable def xW (σ : St) : List ME → Option (List PV)
  | [] => some []
  | e :: es => match qM σ e, xW σ es with | some x, some l => some (x :: l) | z_, y_ => none
noncomputable def mopt (σ : St) : Option ME → Option (Option Int)
  | none => some none
  | some e => match qM σ e with | some (.int i) => some (some i) | z_ => none
noncomputable def mand (σ : St) : List ME → Option PV
  | [] => none
  | [e] => qM σ e
  | e :: es => match qM σ e with
    | some x => (match yJ x with | some false => some x | some true => mand σ es | none => none)
    | none => none
noncomputable def mor (σ : St) : List ME → Option PV
  | [] => none
  | [e] => qM σ e
  | e :: es => match qM σ e with
    | some x => (match yJ x with | some true => some x | some false => mor σ es | none => none)
    | none => none
noncomputable def qR (σ : St) : ME → Option Bool
  | .not a => (qR σ a).map (!·)
  | .and as => mtand σ as
  | .or as => mtor σ as
  | .ite c a b => match qR σ c with | some true => qR σ a | some false => qR σ b | none => none
  | .k v => match (some v : Option PV) with | some x => yJ x | none => none
  | .loc i => match (match σ i with | some (.val v) => some v | z_ => none : Option PV) with | some x => yJ x | none => none
  | .bor i => match (match σ i with | some (.own l) => some (.lst l) | z_ => none : Option PV) with | some x => yJ x | none => none
  | .bor2 i e => match (match σ i, qM σ e with | some (.own2 ls), some (.int k) => (yN ls k).map .lst | z_, y_ => none : Option PV) with | some x => yJ x | none => none
  | .bin op a b => match (match qM σ a, qM σ b with | some x, some y => yP op x y | z_, y_ => none : Option PV) with | some x => yJ x | none => none
  | .neg a => match (match qM σ a with | some (.int i) => some (.int (-i)) | z_ => none : Option PV) with | some x => yJ x | none => none
  | .cmp op a b => match (match qM σ a, qM σ b with | some x, some y => (zR op x y).map .bool | z_, y_ => none : Option PV) with | some x => yJ x | none => none
  | .inset a bs => match (match qM σ a, xW σ bs with
    | some (.int x), some l => (allInt l).map fun (ns : List Int) => .bool (ns.contains x)
    | z_, y_ => none : Option PV) with | some x => yJ x | none => none
  | .idx a b => match (match qM σ a, qM σ b with | some x, some y => getidx x y | z_, y_ => none : Option PV) with | some x => yJ x | none => none
  | .slc a lo hi => match (match qM σ a, mopt σ lo, mopt σ hi with | some x, some l, some h => slcop x l h | z_, y_, x_ => none : Option PV) with | some x => yJ x | none => none
  | .tup as => match (match xW σ as with | some l => if l.length ≤ SZ then some (.tup l) else none | none => none : Option PV) with | some x => yJ x | none => none
  | .lst as => match (match xW σ as with | some l => if l.length ≤ SZ then some (.lst l) else none | none => none : Option PV) with | some x => yJ x | none => none
  | .len a => match (match qM σ a with | some x => lenop x | none => none : Option PV) with | some x => yJ x | none => none
  | .abs a => match (match qM σ a with | some (.int i) => some (.int (if i < 0 then -i else i)) | z_ => none : Option PV) with | some x => yJ x | none => none
  | .toInt a => match (match qM σ a with | some (.int i) => some (.int i) | z_ => none : Option PV) with | some x => yJ x | none => none
  | .max2 a b => match (match qM σ a, qM σ b with | some (.int x), some (.int y) => some (.int (if x < y then y else x)) | z_, y_ => none : Option PV) with | some x => yJ x | none => none
  | .min2 a b => match (match qM σ a, qM σ b with | some (.int x), some (.int y) => some (.int (if y < x then y else x)) | z_, y_ => none : Option PV) with | some x => yJ x | none => none
  | .meth m a bs => match (match qM σ a, xW σ bs with | some x, some l => methop m x l | z_, y_ => none : Option PV) with | some x => yJ x | none => none
  | .call f as => match (match xW σ as with | some l => Γ f l | none => none : Option PV) with | some x => yJ x | none => none
  | .dget i k => match (match σ i, qM σ k with | some (.dic d), some (.int x) => some ((d.lookup x).getD .none) | z_, y_ => none : Option PV) with | some x => yJ x | none => none
  | .dnin i k => match (match σ i, qM σ k with | some (.dic d), some (.int x) => some (.bool (!(d.lookup x).isSome)) | z_, y_ => none : Option PV) with | some x => yJ x | none => none
  | .dempty i => match (match σ i with | some (.dic d) => if d.length ≤ SZ then some (.bool d.isEmpty) else none | z_ => none : Option PV) with | some x => yJ x | none => none
  | .dkeys i => match (match σ i with | some (.dic d) => if d.length ≤ SZ then some (.lst (d.map fun q => .int q.1)) else none | z_ => none : Option PV) with | some x => yJ x | none => none
  | .len2 i => match (match σ i with | some (.own2 ls) => if ls.length ≤ SZ then some (.int ls.length) else none | z_ => none : Option PV) with | some x => yJ x | none => none
  | .compL e caps elt => match (match qM σ e with
    | some (.lst l) => if l.length ≤ SZ && caps.all (fun i => (σ i).isSome) then (jJ (fun x => qM (zJ σ x caps) elt) l).map .lst else none
    | z_ => none : Option PV) with | some x => yJ x | none => none
  | .stuck => match (none : Option PV) with | some x => yJ x | none => none
noncomputable def mtand (σ : St) : List ME → Option Bool
  | [] => some true
  | e :: es => match qR σ e with | some true => mtand σ es | some false => some false | none => none
noncomputable def mtor (σ : St) : List ME → Option Bool
  | [] => some false
  | e :: es => match qR σ e with | some false => mtor σ es | some true => some true | none => none
end
end
end Mine
end
set_option genSizeOf false
section
open PySem PySem.W PyProof.Rows PySem.Calls
namespace Mine
noncomputable def F2 : Str := ⟨#[37, 115, 32, 99, 111, 110, 116, 105, 110, 117, 97, 116, 105, 111, 110, 32, 108, 105, 110, 101, 32, 37, 115]⟩
open Builtin Builtin.Str
theorem f2_meets {b : Addr} {x y : PySem.Str} {t u v : Tok} (hx : x.length ≤ 1000000) (hy : y.length ≤ 1000000) :
    Meets («str.__mod__» ⟨[.str F2 t, .ref b], []⟩) (fun _ R s => IsTup s.heap b #[.str x u, .str y v] ∧ ∀ t' k, R (.ok (.ret (.str (x ++ PySem.Str.ofString " continuation line " ++ y) t'))) { s with toks := k }) := by
  unfold F2
  kpt_run
end Mine
end
section
open PySem PySem.W PyProof.Rows PySem.Calls
namespace Mine
theorem fmt2_eq : S fmt2 = F2 := by decide +kernel
theorem mid_eq : PySem.Str.ofString " continuation line " = S fmtMid := by decide +kernel
theorem S_app (x y : List Nat) : S x ++ S y = S (x ++ y) := by
  show PySem.Str.mk _ = PySem.Str.mk _
  congr 1
  show x.toArray ++ y.toArray = _
  simp
section
variable {prog : Program} {w : World} {A : Around} {E : Value → Shared → Prop} {s : Shared}
theorem mod_two {b : Addr} {x y : List Nat} {t u v : Tok} {Q : Value → Shared → Prop} (ht : IsTup s.heap b #[.str (S x) u, .str (S y) v]) (hx : x.length ≤ 1000) (hy : y.length ≤ 1000)
    (h : ∀ t' k, Q (.str (S (x ++ fmtMid ++ y)) t') { s with toks := k }) : wpAny (model prog w) A (binaryOp .Mod (.str (S fmt2) t) (.ref b)) Q E s := by
  have hT : s.TypeIs (.ref b) "tuple" := by
    obtain ⟨o, ho, hc, _⟩ := ht
    exact ⟨o, ho, hc⟩
  have e : S x ++ PySem.Str.ofString " continuation line " ++ S y = S (x ++ fmtMid ++ y) := by rw [mid_eq, S_app, S_app]
  rw [fmt2_eq]
  refine KPt.bin_left (T := "str") (U := "tuple") (op := .Mod) (by decide) (typeIs_str s _ t) hT F.fills_str_mod KPt.fills_tuple F.slot_str_mod
    (call_meets F.slot_str_mod (typeIs_str s _ t) F.entry_str_mod (F.args_str_mod_2 _ _) (f2_meets (x := S x) (y := S y) (u := u) (v := v) (by show x.toArray.size ≤ _; simp; omega) (by show y.toArray.size ≤ _; simp; omega)) ⟨ht, fun t' k => ⟨(fun e => nomatch e), ?_⟩⟩)
  rw [e]; exact h t' k
end
end Mine
end
section
open PySem PySem.W PyProof.Rows
namespace Mine
section
variable {β : Type} {r : β} {Q : Prop}
theorem iv1 {x : Option PV} {F : PV → Option β} (h : (match x with | some v => F v | none => none) = some r) (k : ∀ v, x = some v → F v = some r → Q) : Q := by
  induction x with
  | none => exact nn h
  | some v => exact k v rfl h
theorem ivL {x : Option (List PV)} {F : List PV → Option β} (h : (match x with | some v => F v | none => none) = some r) (k : ∀ v, x = some v → F v = some r → Q) : Q := by
  induction x with
  | none => exact nn h
  | some v => exact k v rfl h
theorem ivI {x : Option PV} {F : Int → Option β} (h : (match x with | some (.int v) => F v | z_ => none) = some r) (k : ∀ v, x = some (.int v) → F v = some r → Q) : Q := by
  induction x with
  | none => exact nn h
  | some v => cases v with
    | int i => exact k i rfl h
    | _ => exact nn h
theorem iv2 {x y : Option PV} {F : PV → PV → Option β} (h : (match x, y with | some v, some w => F v w | z_, y_ => none) = some r) (k : ∀ v w, x = some v → y = some w → F v w = some r → Q) : Q := by
  induction x with
  | none => exact nn h
  | some v => induction y with
    | none => exact nn h
    | some w => exact k v w rfl rfl h
theorem ivVL {x : Option PV} {y : Option (List PV)} {F : PV → List PV → Option β} (h : (match x, y with | some v, some w => F v w | z_, y_ => none) = some r) (k : ∀ v w, x = some v → y = some w → F v w = some r → Q) : Q := by
  induction x with
  | none => exact nn h
  | some v => induction y with
    | none => exact nn h
    | some w => exact k v w rfl rfl h
theorem ivII {x y : Option PV} {F : Int → Int → Option β} (h : (match x, y with | some (.int v), some (.int w) => F v w | z_, y_ => none) = some r) (k : ∀ v w, x = some (.int v) → y = some (.int w) → F v w = some r → Q) : Q := by
  induction x with
  | none => exact nn h
  | some v => cases v with
    | int v => induction y with
      | none => exact nn h
      | some w => cases w with
        | int w => exact k v w rfl rfl h
        | _ => exact nn h
    | _ => exact nn h
theorem ivIL {x : Option PV} {y : Option (List PV)} {F : Int → List PV → Option β} (h : (match x, y with | some (.int v), some w => F v w | z_, y_ => none) = some r) (k : ∀ v w, x = some (.int v) → y = some w → F v w = some r → Q) : Q := by
  induction x with
  | none => exact nn h
  | some v => cases v with
    | int v => induction y with
      | none => exact nn h
      | some w => exact k v w rfl rfl h
    | _ => exact nn h
theorem ivS {x : Option PV} {y z : Option (Option Int)} {F : PV → Option Int → Option Int → Option β} (h : (match x, y, z with | some v, some w, some u => F v w u | z_, y_, x_ => none) = some r) (k : ∀ v w u, x = some v → y = some w → z = some u → F v w u = some r → Q) : Q := by
  induction x with
  | none => exact nn h
  | some v => induction y with
    | none => exact nn h
    | some w => induction z with
      | none => exact nn h
      | some u => exact k v w u rfl rfl rfl h
theorem ivStr {x : PV} {F : List Nat → Option β} (h : (match x with | .str v => F v | z_ => none) = some r) (k : ∀ v, x = .str v → F v = some r → Q) : Q := by
  cases x with
  | str i => exact k i rfl h
  | _ => exact nn h
theorem ivLst {x : Option PV} {F : List PV → Option β} (h : (match x with | some (.lst v) => F v | z_ => none) = some r) (k : ∀ v, x = some (.lst v) → F v = some r → Q) : Q := by
  induction x with
  | none => exact nn h
  | some v => cases v with
    | lst i => exact k i rfl h
    | _ => exact nn h
theorem ivTup {x : Option PV} {F : List PV → Option β} (h : (match x with | some (.tup v) => F v | z_ => none) = some r) (k : ∀ v, x = some (.tup v) → F v = some r → Q) : Q := by
  induction x with
  | none => exact nn h
  | some v => cases v with
    | tup i => exact k i rfl h
    | _ => exact nn h
theorem sVal {x : Option SV} {F : PV → Option β} (h : (match x with | some (.val v) => F v | z_ => none) = some r) (k : ∀ v, x = some (.val v) → F v = some r → Q) : Q := by
  induction x with
  | none => exact nn h
  | some v => induction v with
    | val v => exact k v rfl h
    | _ => exact nn h
theorem sOwn {x : Option SV} {F : List PV → Option β} (h : (match x with | some (.own v) => F v | z_ => none) = some r) (k : ∀ v, x = some (.own v) → F v = some r → Q) : Q := by
  induction x with
  | none => exact nn h
  | some v => induction v with
    | own v => exact k v rfl h
    | _ => exact nn h
theorem sOwn2 {x : Option SV} {F : List (List PV) → Option β} (h : (match x with | some (.own2 v) => F v | z_ => none) = some r) (k : ∀ v, x = some (.own2 v) → F v = some r → Q) : Q := by
  induction x with
  | none => exact nn h
  | some v => induction v with
    | own2 v => exact k v rfl h
    | _ => exact nn h
theorem sDic {x : Option SV} {F : List (Int × PV) → Option β} (h : (match x with | some (.dic v) => F v | z_ => none) = some r) (k : ∀ v, x = some (.dic v) → F v = some r → Q) : Q := by
  induction x with
  | none => exact nn h
  | some v => induction v with
    | dic v => exact k v rfl h
    | _ => exact nn h
theorem sDicI {x : Option SV} {y : Option PV} {F : List (Int × PV) → Int → Option β} (h : (match x, y with | some (.dic v), some (.int w) => F v w | z_, y_ => none) = some r) (k : ∀ v w, x = some (.dic v) → y = some (.int w) → F v w = some r → Q) : Q := by
  induction x with
  | none => exact nn h
  | some v => induction v with
    | dic v => induction y with
      | none => exact nn h
      | some w => cases w with
        | int w => exact k v w rfl rfl h
        | _ => exact nn h
    | _ => exact nn h
theorem sOwn2I {x : Option SV} {y : Option PV} {F : List (List PV) → Int → Option β} (h : (match x, y with | some (.own2 v), some (.int w) => F v w | z_, y_ => none) = some r) (k : ∀ v w, x = some (.own2 v) → y = some (.int w) → F v w = some r → Q) : Q := by
  induction x with
  | none => exact nn h
  | some v => induction v with
    | own2 v => induction y with
      | none => exact nn h
      | some w => cases w with
        | int w => exact k v w rfl rfl h
        | _ => exact nn h
    | _ => exact nn h
theorem sVI {x : Option SV} {y : Option PV} {F : Int → Int → Option β} (h : (match x, y with | some (.val (.int v)), some (.int w) => F v w | z_, y_ => none) = some r) (k : ∀ v w, x = some (.val (.int v)) → y = some (.int w) → F v w = some r → Q) : Q := by
  induction x with
  | none => exact nn h
  | some v =>
    cases v with
    | val v =>
      cases v with
      | int v =>
        induction y with
        | none => exact nn h
        | some w =>
          cases w with
          | int w =>
            exact k v w rfl rfl h
          | _ => exact nn h
      | _ => exact nn h
    | _ => exact nn h
theorem sOV {x : Option SV} {y : Option PV} {F : List PV → PV → Option β} (h : (match x, y with | some (.own v), some w => F v w | z_, y_ => none) = some r) (k : ∀ v w, x = some (.own v) → y = some w → F v w = some r → Q) : Q := by
  induction x with
  | none => exact nn h
  | some v =>
    cases v with
    | own v =>
      induction y with
      | none => exact nn h
      | some w =>
        exact k v w rfl rfl h
    | _ => exact nn h
theorem sOVI {x : Option SV} {y : Option PV} {z : Option PV} {F : List PV → PV → Int → Option β} (h : (match x, y, z with | some (.own v), some w, some (.int u) => F v w u | z_, y_, x_ => none) = some r) (k : ∀ v w u, x = some (.own v) → y = some w → z = some (.int u) → F v w u = some r → Q) : Q := by
  induction x with
  | none => exact nn h
  | some v =>
    cases v with
    | own v =>
      induction y with
      | none => exact nn h
      | some w =>
        induction z with
        | none => exact nn h
        | some u =>
          cases u with
          | int u =>
            exact k v w u rfl rfl rfl h
          | _ => exact nn h
    | _ => exact nn h
theorem sOII {x : Option SV} {y : Option PV} {z : Option PV} {F : List PV → Int → Int → Option β} (h : (match x, y, z with | some (.own v), some (.int w), some (.int u) => F v w u | z_, y_, x_ => none) = some r) (k : ∀ v w u, x = some (.own v) → y = some (.int w) → z = some (.int u) → F v w u = some r → Q) : Q := by
  induction x with
  | none => exact nn h
  | some v =>
    cases v with
    | own v =>
      induction y with
      | none => exact nn h
      | some w =>
        cases w with
        | int w =>
          induction z with
          | none => exact nn h
          | some u =>
            cases u with
            | int u =>
              exact k v w u rfl rfl rfl h
            | _ => exact nn h
        | _ => exact nn h
    | _ => exact nn h
theorem sO2IV {x : Option SV} {y : Option PV} {z : Option PV} {F : List (List PV) → Int → PV → Option β} (h : (match x, y, z with | some (.own2 v), some (.int w), some u => F v w u | z_, y_, x_ => none) = some r) (k : ∀ v w u, x = some (.own2 v) → y = some (.int w) → z = some u → F v w u = some r → Q) : Q := by
  induction x with
  | none => exact nn h
  | some v =>
    cases v with
    | own2 v =>
      induction y with
      | none => exact nn h
      | some w =>
        cases w with
        | int w =>
          induction z with
          | none => exact nn h
          | some u =>
            exact k v w u rfl rfl rfl h
        | _ => exact nn h
    | _ => exact nn h
theorem sDVI {x : Option SV} {y : Option PV} {z : Option PV} {F : List (Int × PV) → PV → Int → Option β} (h : (match x, y, z with | some (.dic v), some w, some (.int u) => F v w u | z_, y_, x_ => none) = some r) (k : ∀ v w u, x = some (.dic v) → y = some w → z = some (.int u) → F v w u = some r → Q) : Q := by
  induction x with
  | none => exact nn h
  | some v =>
    cases v with
    | dic v =>
      induction y with
      | none => exact nn h
      | some w =>
        induction z with
        | none => exact nn h
        | some u =>
          cases u with
          | int u =>
            exact k v w u rfl rfl rfl h
          | _ => exact nn h
    | _ => exact nn h
theorem ivN {x : Option Nat} {F : Nat → Option β} (h : (match x with | some v => F v | none => none) = some r) (k : ∀ v, x = some v → F v = some r → Q) : Q := by
  induction x with
  | none => exact nn h
  | some v =>
    exact k v rfl h
theorem ivNI {x : Option Nat} {y : Option PV} {F : Nat → Int → Option β} (h : (match x, y with | some v, some (.int w) => F v w | z_, y_ => none) = some r) (k : ∀ v w, x = some v → y = some (.int w) → F v w = some r → Q) : Q := by
  induction x with
  | none => exact nn h
  | some v =>
    induction y with
    | none => exact nn h
    | some w =>
      cases w with
      | int w =>
        exact k v w rfl rfl h
      | _ => exact nn h
theorem ivNL {x : Option Nat} {y : Option (List PV)} {F : Nat → List PV → Option β} (h : (match x, y with | some v, some w => F v w | z_, y_ => none) = some r) (k : ∀ v w, x = some v → y = some w → F v w = some r → Q) : Q := by
  induction x with
  | none => exact nn h
  | some v =>
    induction y with
    | none => exact nn h
    | some w =>
      exact k v w rfl rfl h
theorem ivSV {x : Option SV} {F : SV → Option β} (h : (match x with | some v => F v | none => none) = some r) (k : ∀ v, x = some v → F v = some r → Q) : Q := by
  induction x with
  | none => exact nn h
  | some v => exact k v rfl h
theorem ivLst' {x : PV} {F : List PV → Option β} (h : (match x with | .lst v => F v | z_ => none) = some r) (k : ∀ v, x = .lst v → F v = some r → Q) : Q := by
  cases x with
  | lst i => exact k i rfl h
  | _ => exact nn h
theorem iTrue {x : Option Bool} {F : Option β} (h : (match x with | some true => F | z_ => none) = some r) (k : x = some true → F = some r → Q) : Q := by
  induction x with
  | none => exact nn h
  | some b => cases b with
    | true => exact k rfl h
    | false => exact nn h
theorem iBool {x : Option Bool} {F G : Option β} (h : (match x with | some true => F | some false => G | none => none) = some r) (k : x = some true → F = some r → Q) (l : x = some false → G = some r → Q) : Q := by
  induction x with
  | none => exact nn h
  | some b => induction b with
    | true => exact k rfl h
    | false => exact l rfl h
theorem iBool2 {x : Option Bool} {F G : Option β} (h : (match x with | some false => G | some true => F | none => none) = some r) (k : x = some true → F = some r → Q) (l : x = some false → G = some r → Q) : Q := by
  induction x with
  | none => exact nn h
  | some b => induction b with
    | true => exact k rfl h
    | false => exact l rfl h
theorem imap {α : Type} {x : Option α} {f : α → β} (h : x.map f = some r) (k : ∀ v, x = some v → f v = r → Q) : Q := by
  induction x with
  | none => exact nn h
  | some v => exact k v rfl (Option.some.inj h)
end
section
variable {α : Type} {a b : PV} {c r : α} {Q : Prop}
theorem pInt {F : Int → Option α} (h : (match a with | .int x => F x | z_ => none) = some r) (k : ∀ x, a = .int x → F x = some r → Q) : Q := by
  cases a with
  | int i => exact k i rfl h
  | _ => exact nn h
theorem pStr {F : List Nat → Option α} (h : (match a with | .str x => F x | z_ => none) = some r) (k : ∀ x, a = .str x → F x = some r → Q) : Q := by
  cases a with
  | str i => exact k i rfl h
  | _ => exact nn h
theorem pLst {F : List PV → Option α} (h : (match a with | .lst x => F x | z_ => none) = some r) (k : ∀ x, a = .lst x → F x = some r → Q) : Q := by
  cases a with
  | lst i => exact k i rfl h
  | _ => exact nn h
theorem pISL {F : Int → Option α} {G : List Nat → Option α} {H : List PV → Option α} (h : (match a with | .int x => F x | .str x => G x | .lst x => H x | z_ => none) = some r) (k1 : ∀ x, a = .int x → F x = some r → Q) (k2 : ∀ x, a = .str x → G x = some r → Q) (k3 : ∀ x, a = .lst x → H x = some r → Q) : Q := by
  cases a with
  | int i => exact k1 i rfl h
  | str i => exact k2 i rfl h
  | lst i => exact k3 i rfl h
  | _ => exact nn h
theorem pTup {F : List PV → Option α} (h : (match a with | .tup x => F x | z_ => none) = some r) (k : ∀ x, a = .tup x → F x = some r → Q) : Q := by
  cases a with
  | tup i => exact k i rfl h
  | _ => exact nn h
theorem pIS {F : Int → Option α} {G : List Nat → Option α} (h : (match a with | .int x => F x | .str x => G x | z_ => none) = some r) (k1 : ∀ x, a = .int x → F x = some r → Q) (k2 : ∀ x, a = .str x → G x = some r → Q) : Q := by
  cases a with
  | int i => exact k1 i rfl h
  | str i => exact k2 i rfl h
  | _ => exact nn h
theorem pST {F : List Nat → Option α} {G : List PV → Option α} (h : (match a with | .str x => F x | .tup x => G x | z_ => none) = some r) (k1 : ∀ x, a = .str x → F x = some r → Q) (k2 : ∀ x, a = .tup x → G x = some r → Q) : Q := by
  cases a with
  | str i => exact k1 i rfl h
  | tup i => exact k2 i rfl h
  | _ => exact nn h
theorem pSTL {F : List Nat → Option α} {G H : List PV → Option α} (h : (match a with | .str x => F x | .tup x => G x | .lst x => H x | z_ => none) = some r) (k1 : ∀ x, a = .str x → F x = some r → Q) (k2 : ∀ x, a = .tup x → G x = some r → Q) (k3 : ∀ x, a = .lst x → H x = some r → Q) : Q := by
  cases a with
  | str i => exact k1 i rfl h
  | tup i => exact k2 i rfl h
  | lst i => exact k3 i rfl h
  | _ => exact nn h
theorem pNone {F : Option α} (h : (match a with | .none => F | z_ => none) = some r) (k : a = .none → F = some r → Q) : Q := by
  cases a with
  | none => exact k rfl h
  | _ => exact nn h
theorem pNI {F : Option α} {G : Option α} (h : (match a with | .none => F | .int _ => G | z_ => none) = some r) (k1 : a = .none → F = some r → Q) (k2 : ∀ x, a = .int x → G = some r → Q) : Q := by
  cases a with
  | none => exact k1 rfl h
  | int i => exact k2 i rfl h
  | _ => exact nn h
theorem l1N {l : List Nat} {F : Nat → Option α} (h : (match l with | [c] => F c | z_ => none) = some r) (k : ∀ c, l = [c] → F c = some r → Q) : Q := by
  cases l with
  | nil => exact nn h
  | cons u l => cases l with
    | nil => exact k u rfl h
    | cons => exact nn h
theorem l1P {l : List PV} {F : PV → Option α} (h : (match l with | [c] => F c | z_ => none) = some r) (k : ∀ c, l = [c] → F c = some r → Q) : Q := by
  cases l with
  | nil => exact nn h
  | cons u l => cases l with
    | nil => exact k u rfl h
    | cons => exact nn h
theorem l2S {l : List PV} {F : List Nat → List Nat → Option α} (h : (match l with | [.str x, .str y] => F x y | z_ => none) = some r) (k : ∀ x y, l = [.str x, .str y] → F x y = some r → Q) : Q := by
  cases l with
  | nil => exact nn h
  | cons u l => cases l with
    | nil => cases u <;> exact nn h
    | cons v l => cases l with
      | nil => cases u with
        | str x => cases v with
          | str y => exact k x y rfl h
          | _ => exact nn h
        | _ => exact nn h
      | cons => cases u <;> first | exact nn h | (cases v <;> exact nn h)
end
section
variable {a b c : PV} {Q : Prop}
theorem addI (h : yP .add a b = some c) (k1 : ∀ x y, a = .int x → b = .int y → PV.int (x + y) = c → Q) (k2 : ∀ x y, a = .str x → b = .str y → x.length + y.length ≤ SZ → PV.str (x ++ y) = c → Q) (k3 : ∀ x y, a = .lst x → b = .lst y → x.length + y.length ≤ SZ → PV.lst (x ++ y) = c → Q) : Q :=
  pISL h (fun x ea h => pInt h fun y eb h => k1 x y ea eb (Option.some.inj h)) (fun x ea h => pStr h fun y eb h => jR h fun hs e => k2 x y ea eb hs e) fun x ea h => pLst h fun y eb h => jR h fun hs e => k3 x y ea eb hs e
theorem subI (h : yP .sub a b = some c) (k1 : ∀ x y, a = .int x → b = .int y → PV.int (x - y) = c → Q) : Q := pInt h fun x ea h => pInt h fun y eb h => k1 x y ea eb (Option.some.inj h)
theorem mulI (h : yP .mul a b = some c) (k1 : ∀ x y, a = .int x → b = .int y → (small x && small y) = true → PV.int (x * y) = c → Q) (k2 : ∀ x n, a = .str [x] → b = .int n → small n = true → PV.str (List.replicate n.toNat x) = c → Q)
    (k3 : ∀ x n, a = .lst [x] → b = .int n → (small n && isScalar x) = true → PV.lst (List.replicate n.toNat x) = c → Q) : Q :=
  pInt h fun n eb h => pISL h (fun x ea h => jR h fun hs e => k1 x n ea eb hs e) (fun l ea h => l1N h fun x el h => jR h fun hs e => k2 x n (el ▸ ea) eb hs e) fun l ea h => l1P h fun x el h => jR h fun hs e => k3 x n (el ▸ ea) eb hs e
theorem divI (h : yP .div a b = some c) (k1 : ∀ x y, a = .int x → b = .int y → ¬ (y = 0 || !small y) = true → PV.int (x.fdiv y) = c → Q) : Q := pInt h fun x ea h => pInt h fun y eb h => iteN h fun hs e => k1 x y ea eb hs e
theorem modI (h : yP .mod a b = some c) (k1 : ∀ x y, a = .int x → b = .int y → ¬ y = 0 → PV.int (x.fmod y) = c → Q)
    (k3 : ∀ f x y, a = .str f → b = .tup [.str x, .str y] → f = fmt2 ∧ x.length ≤ 1000 ∧ y.length ≤ 1000 → PV.str (x ++ fmtMid ++ y) = c → Q) : Q :=
  pIS h (fun x ea h => pInt h fun y eb h => iteN h fun hs e => k1 x y ea eb hs e) fun f ea h => pTup h fun l eb h => l2S h fun x y el h => jR h fun hs e => k3 f x y ea (el ▸ eb) hs e
end
end Mine
end
set_option tactic.hygienic true
section
open PySem PySem.W PyProof.Rows
namespace Mine
structure AOK (n : Nat) (A : Around) : Prop where
  handled : A.handled = none
  depth : A.depth + 20 * n < 900
  units : A.units + 200 * n < 9000
theorem AOK.le {n m A} (h : AOK n A) (hm : m ≤ n) : AOK m A := ⟨h.handled, by have := h.depth; omega, by have := h.units; omega⟩
noncomputable def MOp.op : MOp → Operator
  | .add => .Add | .sub => .Sub | .mul => .Mult | .div => .FloorDiv | .mod => .Mod
noncomputable def MCmp.op : MCmp → CmpOp
  | .eq => .Eq | .ne => .NotEq | .lt => .Lt | .le => .LtE | .gt => .Gt | .ge => .GtE | .isIn => .In | .notIn => .NotIn | .is => .Is | .isNot => .IsNot
theorem jM.fresh {O : Addr → Prop} {h : Heap} (u : jM O h) : ¬ O h.objs.size := fun q => let ⟨_, e⟩ := u _ q; Nat.lt_irrefl _ (Heap.lt_size e)
theorem xP {i : Int} : small i = true ↔ -100000 ≤ i ∧ i ≤ 100000 := by simp [small]
theorem reps_replicate {T O h x V} (r : Rep T O h x V) : ∀ n, yX T O h (List.replicate n x) (List.replicate n V)
  | 0 => rfl
  | n + 1 => ⟨V, _, rfl, r, reps_replicate r n⟩
mutual
theorem Rep.reads {T O h} : ∀ {v V}, Rep T O h v V → jF v = true → ∃ as, Reads h V (yZ v) as
  | .none, _, x, _ => ⟨_, by cases x; exact .none⟩
  | .bool _, _, x, _ => ⟨_, by cases x; exact .bool _⟩
  | .int _, _, ⟨t, x⟩, _ => ⟨_, by cases x; exact .int _ _⟩
  | .str _, _, ⟨t, x⟩, _ => ⟨_, by cases x; exact .str _ _⟩
  | .tok _, _, _, h => by simp [jF] at h
  | .tup l, _, ⟨a, vs, e, n, ⟨k, ho⟩, q⟩, h => by
    obtain ⟨as, x⟩ := yX.reads q (by simpa [jF] using h)
    subst e
    exact ⟨_, .tuple ho rfl rfl (by simpa using x)⟩
  | .lst l, _, ⟨a, vs, e, n, ⟨k, ho⟩, q⟩, h => by
    obtain ⟨as, x⟩ := yX.reads q (by simpa [jF] using h)
    subst e
    exact ⟨_, .list ho rfl rfl (by simpa using x)⟩
theorem yX.reads {T O h} : ∀ {l vs}, yX T O h l vs → jD l = true → ∃ as, ReadsAll h vs (yW l) as
  | [], _, x, _ => ⟨_, by cases x; exact .nil⟩
  | y :: l, _, ⟨v, vs', e, x, q⟩, h => by
    simp [jD] at h
    obtain ⟨as, r⟩ := Rep.reads x h.1
    obtain ⟨bs, r'⟩ := yX.reads q h.2
    subst e
    exact ⟨_, .cons r r'⟩
end
section
variable {prog : Program} {w : World} {A : Around} {E : Value → Shared → Prop} {s : Shared} {T : Addr} {O : Addr → Prop} {n : Nat}
theorem add_lists' {l b : Addr} {vs ws : List Value} {Q : Value → Shared → Prop} (hl : s.heap.PlainList l vs.toArray) (hb : s.heap.PlainList b ws.toArray)
    (h : Q (.ref s.heap.objs.size) { s with heap := s.heap.push { cls := .type "list", data := .seq (vs ++ ws).toArray } }) (hsz : vs.length + ws.length ≤ sizeLine) :
    wpAny (model prog w) A (binaryOp .Add (.ref l) (.ref b)) Q E s := by
  obtain ⟨n, ho⟩ := hl
  obtain ⟨n2, ho2⟩ := hb
  have e : vs.toArray ++ ws.toArray = (vs ++ ws).toArray := by simp
  refine concat_meets ⟨_, ho, rfl⟩ ⟨_, ho2, rfl⟩ noFill_list_add seq_list_add PySem.F.slot_list_add PySem.F.entry_list_add (PySem.F.args_list_add_2 _ _) (list_addW l b vs.toArray ws.toArray n n2 none none #[] #[] (by simpa using hsz)) ⟨ho, ho2, ?_⟩
  rw [e]
  exact h
theorem foldl_rep (l : List Value) (n : Nat) (acc : Array Value) : (List.foldl (fun x1 x2 => x1 ++ x2) acc (List.replicate n l.toArray)) = acc ++ (rep l n).toArray := by
  induction n generalizing acc with
  | zero => simp [rep]
  | succ n ih => simp [List.replicate_succ, rep, ih, Array.append_assoc]
theorem rep_one {α : Type} (x : α) : ∀ n, rep [x] n = List.replicate n x
  | 0 => rfl
  | n + 1 => by simp [rep, rep_one x n, List.replicate_succ]
theorem mul_list' {l : Addr} {V : Value} {x : Int} {u : Tok} {Q : Value → Shared → Prop} (hl : s.heap.PlainList l [V].toArray) (hx : small x = true)
    (h : Q (.ref s.heap.objs.size) { s with heap := s.heap.push { cls := .type "list", data := .seq (List.replicate x.toNat V).toArray } }) :
    wpAny (model prog w) A (binaryOp .Mult (.ref l) (.int x u)) Q E s := by
  obtain ⟨k, ho⟩ := hl
  rw [xP] at hx
  refine wpAny_binaryOp_repeat_ref (T := "list") (U := "int") (by decide) ⟨_, ho, rfl⟩ (fun s' => typeIs_int s' x u) noFill_list_mul F.fills_int_mul F.slot_int_rmul repeat_list F.slot_int_index.lookup
    (call_meets F.slot_int_rmul (typeIs_int s x u) F.entry_int_rmul (F.args_int_rmul_2 _ _) (int___rmul___int_list x u l [V].toArray k)
      ⟨ho, rfl, ⟨_, ho, rfl⟩, call_meets F.slot_list_mul ⟨_, ho, rfl⟩ F.entry_list_mul (F.args_list_mul_2 _ _)
        (AutoListH.list___mul___list_int_3 l [V].toArray k x u (by simp [Builtin.List.listFitsIndex]; omega) (by simp; omega) (by simp [Builtin.List.listTooLong, sizeLine]; omega))
        ⟨ho, ?_⟩⟩)
  have e : (List.foldl (fun x1 x2 => x1 ++ x2) (#[] : Array Value) (List.replicate (if ([V].toArray).isEmpty = true then 0 else x.toNat) [V].toArray)) = (List.replicate x.toNat V).toArray := by
    rw [foldl_rep]; simp [rep_one]
  rw [e]
  exact h
theorem xX : SZ ≤ sizeLine := by rw [sizeLine_eq]; decide
theorem mulOk_one {c : Nat} {x : Int} (hx : small x = true) : MulOk ⟨[c].toArray⟩ x := by
  rw [xP] at hx
  have hl : (⟨[c].toArray⟩ : Str).length = 1 := rfl
  refine ⟨by simp; omega, fun _ _ => ?_, fun _ _ => ?_⟩
  · rw [hl]
    intro q
    have : (1 : Int) ≤ (2 ^ 63 - 1) / x := by
      rename_i h1 _
      exact Int.le_ediv_of_mul_le (by omega) (by omega)
    exact absurd q (Int.not_lt.mpr (by simpa using this))
  · rw [hl]
    show decide (_ > _) = false
    rw [sizeLine_eq]
    exact decide_eq_false (by omega)
theorem txt_mul_one (c : Nat) (x : Int) : Txt.mul ⟨[c].toArray⟩ x = ⟨(List.replicate x.toNat c).toArray⟩ := by
  unfold Txt.mul
  have hl : (⟨[c].toArray⟩ : Str).length = 1 := rfl
  split
  · rename_i h
    have : x.toNat = 0 := by omega
    rw [this]; rfl
  · split
    · rename_i h1 h
      rw [hl] at h
      simp at h
      subst h; rfl
    · have key : ∀ (n : Nat) (acc : Array Nat), (List.replicate n ([c].toArray)).foldl (· ++ ·) acc = acc ++ (List.replicate n c).toArray := by
        intro n
        induction n with
        | zero => intro acc; simp
        | succ n ih => intro acc; rw [List.replicate_succ, List.foldl_cons, ih, List.replicate_succ]; apply Array.ext'; simp
      show (⟨_⟩ : Str) = _
      congr 1
      have := key x.toNat #[]
      simpa using this
theorem S_append (a b : List Nat) : (⟨a.toArray⟩ : Str) ++ (⟨b.toArray⟩ : Str) = ⟨(a ++ b).toArray⟩ := by
  show Str.append _ _ = _
  simp [Str.append]
theorem binop_ok {op : MOp} {a b c : PV} {VA VB : Value} {Q : Value → Shared → Prop} (hr : yP op a b = some c) (hu : jM O s.heap)
    (ha : Rep T O s.heap a VA) (hb : Rep T O s.heap b VB) (k : ∀ V s', Ext s s' → Rep T O s'.heap c V → Q V s') :
    wpAny (model prog w) A (binaryOp op.op VA VB) Q E s := by
  cases op with
  | add =>
    refine addI hr (fun x y ea eb ec => ?_) (fun x y ea eb hsz ec => ?_) fun x y ea eb hsz ec => ?_
    · subst ea eb ec
      obtain ⟨t, rfl⟩ := ha
      obtain ⟨u, rfl⟩ := hb
      exact PyProof.Rows.add_int (k _ _ (Ext.toks ..) ⟨_, rfl⟩)
    · subst ea eb ec
      obtain ⟨t, rfl⟩ := ha
      obtain ⟨u, rfl⟩ := hb
      refine PyProof.Rows.add_str (fun t' tk => k _ _ (Ext.toks ..) ⟨t', by rw [S_append]⟩) ?_
      have := xX
      simp [Str.length] at *; omega
    · subst ea eb ec
      obtain ⟨a, vs, rfl, n1, hl, q1⟩ := ha
      obtain ⟨b, ws, rfl, n2, hl2, q2⟩ := hb
      have h1 := q1.length
      have h2 := q2.length
      have := xX
      refine add_lists' hl hl2 (k _ _ (Ext.push ..) ⟨_, _, rfl, hu.fresh, ⟨0, Heap.get?_push_size _ rfl⟩, ?_⟩) (by omega)
      exact (q1.keep ((Ext.push s _ s.toks).keepO O)).append (q2.keep ((Ext.push s _ s.toks).keepO O))
  | sub =>
    refine subI hr fun x y ea eb ec => ?_
    subst ea eb ec
    obtain ⟨t, rfl⟩ := ha
    obtain ⟨u, rfl⟩ := hb
    exact PyProof.Rows.sub_int (k _ _ (Ext.toks ..) ⟨_, rfl⟩)
  | mul =>
    refine mulI hr (fun x y ea eb hsz ec => ?_) (fun x n ea eb hsz ec => ?_) fun x n ea eb hsz ec => ?_
    · subst ea eb ec
      obtain ⟨t, rfl⟩ := ha
      obtain ⟨u, rfl⟩ := hb
      simp only [Bool.and_eq_true, xP] at hsz
      exact PyProof.Rows.mul_int (k _ _ (Ext.toks ..) ⟨_, rfl⟩) (IntMulOk.of_left (intBits_le_64 (by omega) (by omega)))
    · subst ea eb ec
      obtain ⟨t, rfl⟩ := ha
      obtain ⟨u, rfl⟩ := hb
      exact SB.mul (mulOk_one hsz) fun t' tk => k _ _ (Ext.toks ..) ⟨t', by rw [txt_mul_one]⟩
    · subst ea eb ec
      rw [Bool.and_eq_true] at hsz
      obtain ⟨a, vs, rfl, n1, hl, v, vs', rfl, q1, q2⟩ := ha
      cases q2
      obtain ⟨u, rfl⟩ := hb
      refine mul_list' hl hsz.1 (k _ _ (Ext.push ..) ⟨_, _, rfl, hu.fresh, ⟨0, Heap.get?_push_size _ rfl⟩, ?_⟩)
      exact reps_replicate (q1.keep ((Ext.push s _ s.toks).keepO O)) _
  | div =>
    refine divI hr fun x y ea eb hsz ec => ?_
    subst ea eb ec
    obtain ⟨t, rfl⟩ := ha
    obtain ⟨u, rfl⟩ := hb
    simp only [Bool.or_eq_true, decide_eq_true_eq, not_or, Bool.not_eq_true', Bool.not_eq_false] at hsz
    have h2 := xP.mp (by simpa using hsz.2)
    exact PyProof.Rows.floordiv_int hsz.1 (k _ _ (Ext.toks ..) ⟨_, rfl⟩) (.inl (PyProof.noPylong_small (by omega)))
  | mod =>
    refine modI hr (fun x y ea eb hsz ec => ?_) fun f x y ea eb hc ec => ?_
    · subst ea eb ec
      obtain ⟨t, rfl⟩ := ha
      obtain ⟨u, rfl⟩ := hb
      exact PyProof.Rows.mod_int' hsz (k _ _ (Ext.toks ..) ⟨_, rfl⟩)
    · obtain ⟨rfl, hx, hy⟩ := hc
      subst ea eb ec
      obtain ⟨t, rfl⟩ := ha
      obtain ⟨d, vs, rfl, _, hp, X, r1, rfl, ⟨u1, rfl⟩, Y, r2, rfl, ⟨u2, rfl⟩, rfl⟩ := hb
      exact mod_two hp.isTup hx hy fun t' kk => k _ _ (Ext.toks ..) ⟨t', rfl⟩
end
end Mine
end
section
open PySem PySem.W PyProof.Rows PySem.SeqAt
namespace Mine
noncomputable abbrev Keeps (h h' : Heap) : Prop := ∀ b o, h.get? b = some o → h'.get? b = some o
theorem getI_seq {α : Type} {l : List α} {k : Int} {x : α} (e : yN l k = some x) : (-(2 ^ 63) ≤ k) ∧ k < 2 ^ 63 ∧ ∃ j, seqIndex? k l.length = some j ∧ l[j]? = some x := by
  unfold yN at e
  split at e
  · rename_i hs
    rw [xP] at hs
    refine ⟨by omega, by omega, ?_⟩
    split at e
    · rename_i h0
      have hl : k.toNat < l.length := (List.getElem?_eq_some_iff.mp e).1
      refine ⟨k.toNat, ?_, e⟩
      unfold seqIndex?
      have h1 : ¬ k < 0 := by omega
      simp only [h1, if_false]
      rw [if_pos (by simp; omega)]
    · rename_i h0
      split at e
      · rename_i h2
        have hl := (List.getElem?_eq_some_iff.mp e).1
        refine ⟨((l.length : Int) + k).toNat, ?_, e⟩
        unfold seqIndex?
        have h1 : k < 0 := by omega
        simp only [h1, if_true]
        rw [if_pos (by simp; omega)]
        rw [Int.add_comm]
      · cases e
  · cases e
noncomputable def RepB (T : Addr) (O : Addr → Prop) (h : Heap) : PV → Value → Prop
  | .lst l, V => ∃ a vs, V = .ref a ∧ h.PlainList a vs.toArray ∧ yX T O h l vs
  | v, V => Rep T O h v V
theorem Rep.b {T O h} : ∀ {v V}, Rep T O h v V → RepB T O h v V
  | .lst l, _, ⟨a, vs, e, _, p, r⟩ => ⟨a, vs, e, p, r⟩
  | .none, _, x => x
  | .bool _, _, x => x
  | .int _, _, x => x
  | .str _, _, x => x
  | .tup _, _, x => x
  | .tok _, _, x => x
theorem RepB.ext {T O} {s s' : Shared} (x : Ext s s') : ∀ {v V}, RepB T O s.heap v V → RepB T O s'.heap v V
  | .lst l, _, ⟨a, vs, e, ⟨n, hn⟩, r⟩ => ⟨a, vs, e, ⟨n, x.keep _ _ hn⟩, r.keep (x.keepO O)⟩
  | .none, _, y => y
  | .bool _, _, y => y
  | .int _, _, y => y
  | .str _, _, y => y
  | .tup l, _, y => Rep.keep (v := .tup l) (x.keepO O) y
  | .tok l, _, y => Rep.keep (v := .tok l) (x.keepO O) y
theorem Rep.ext {T O} {s s' : Shared} (x : Ext s s') {v V} (r : Rep T O s.heap v V) : Rep T O s'.heap v V := r.keep (x.keepO O)
theorem yX.ext {T O} {s s' : Shared} (x : Ext s s') {v V} (r : yX T O s.heap v V) : yX T O s'.heap v V := r.keep (x.keepO O)
theorem RepB.reads {T O h} {v V} (x : RepB T O h v V) (hn : jF v = true) : ∃ as, Reads h V (yZ v) as := by
  cases v with
  | lst l =>
    obtain ⟨a, vs, e, ⟨k, ho⟩, q⟩ := x
    obtain ⟨as, x⟩ := yX.reads q (by simpa [jF] using hn)
    subst e
    exact ⟨_, .list ho rfl rfl (by simpa using x)⟩
  | _ => exact Rep.reads (T := T) (O := O) x hn
section
variable {prog : Program} {w : World} {A : Around} {E : Value → Shared → Prop} {s : Shared} {T : Addr} {O : Addr → Prop} {n : Nat}
theorem zG {v : PV} : okD v = true ↔ jF v = true ∧ (yZ v).canLay0 = true ∧ (yZ v).depth ≤ 64 := by
  unfold okD
  simp only [Bool.and_eq_true, decide_eq_true_eq]
  exact ⟨fun ⟨⟨a, b⟩, c⟩ => ⟨a, b, c⟩, fun ⟨a, b, c⟩ => ⟨⟨a, b⟩, c⟩⟩
theorem eqPV_some {a b : PV} {r : Bool} (h : eqPV a b = some r) : okD a = true ∧ okD b = true ∧ r = PyData.eqv (yZ a) (yZ b) := by
  unfold eqPV at h
  split at h
  · rename_i q
    simp only [Bool.and_eq_true] at q
    cases h
    exact ⟨q.1, q.2, rfl⟩
  · cases h
theorem inL_some {x : PV} {l : List PV} {r : Bool} {Q : Prop} (h : inL x l = some r) (k : okD x = true → okD (.tup l) = true → ((yW l).any fun y => PyData.eqv y (yZ x)) = r → Q) : Q := by
  unfold inL at h
  refine jR h fun q e => ?_
  rw [Bool.and_eq_true] at q
  exact k q.1 q.2 e
theorem cmp_ok {op : MCmp} {a b : PV} {r : Bool} {VA VB : Value} {Q : Value → Shared → Prop} (hr : zR op a b = some r) (hA : AOK n A)
    (ha : Rep T O s.heap a VA) (hb : RepB T O s.heap b VB) (k : ∀ s', Ext s s' → Q (.bool r) s') :
    wpAny (model prog w) A (compareOp op.op VA VB) Q E s := by
  have hu := hA.units
  have hc : cLine = 9900 := rfl
  cases op with
  | eq =>
    obtain ⟨oa, ob, rfl⟩ := eqPV_some hr
    obtain ⟨as, ra⟩ := ha.reads (zG.mp oa).1
    obtain ⟨bs, rb⟩ := hb.reads (zG.mp ob).1
    exact compareEq_reads ra rb (zG.mp oa).2.1 (zG.mp ob).2.1 (by have := (zG.mp oa).2.2; omega) (k _ (Ext.refl _))
  | ne =>
    obtain ⟨r', hr', rfl⟩ := Option.map_eq_some_iff.mp (show Option.map (!·) (eqPV a b) = some r from hr)
    obtain ⟨oa, ob, rfl⟩ := eqPV_some hr'
    obtain ⟨as, ra⟩ := ha.reads (zG.mp oa).1
    obtain ⟨bs, rb⟩ := hb.reads (zG.mp ob).1
    exact compareNe_reads ra rb (zG.mp oa).2.1 (zG.mp ob).2.1 (by have := (zG.mp oa).2.2; omega) (k _ (Ext.refl _))
  | lt =>
    refine pInt hr fun x ea hr => pInt hr fun y eb hr => ?_
    subst ea eb; obtain rfl := Option.some.inj hr; obtain ⟨t, rfl⟩ := ha; obtain ⟨u, rfl⟩ := hb; exact PyProof.Rows.lt_int (k _ (Ext.refl _))
  | le =>
    refine pInt hr fun x ea hr => pInt hr fun y eb hr => ?_
    subst ea eb; obtain rfl := Option.some.inj hr; obtain ⟨t, rfl⟩ := ha; obtain ⟨u, rfl⟩ := hb; exact PyProof.Rows.le_int (k _ (Ext.refl _))
  | gt =>
    refine pInt hr fun x ea hr => pInt hr fun y eb hr => ?_
    subst ea eb; obtain rfl := Option.some.inj hr; obtain ⟨t, rfl⟩ := ha; obtain ⟨u, rfl⟩ := hb; exact PyProof.Rows.gt_int (k _ (Ext.refl _))
  | ge =>
    refine pInt hr fun x ea hr => pInt hr fun y eb hr => ?_
    subst ea eb; obtain rfl := Option.some.inj hr; obtain ⟨t, rfl⟩ := ha; obtain ⟨u, rfl⟩ := hb; exact PyProof.Rows.ge_int (k _ (Ext.refl _))
  | is =>
    refine pNone hr fun eb hr => pNI hr (fun ea hr => ?_) fun x ea hr => ?_
    · subst ea eb; obtain rfl := Option.some.inj hr; cases ha; cases hb; exact is_none_none (k _ (Ext.refl _))
    · subst ea eb; obtain rfl := Option.some.inj hr; obtain ⟨t, rfl⟩ := ha; cases hb; exact is_none_ne (by simp) (k _ (Ext.refl _))
  | isNot =>
    refine pNone hr fun eb hr => pNI hr (fun ea hr => ?_) fun x ea hr => ?_
    · subst ea eb; obtain rfl := Option.some.inj hr; cases ha; cases hb; exact isnot_none_none (k _ (Ext.refl _))
    · subst ea eb; obtain rfl := Option.some.inj hr; obtain ⟨t, rfl⟩ := ha; cases hb; exact isnot_none_ne (by simp) (k _ (Ext.refl _))
  | isIn =>
    refine pSTL hr (fun y eb hr => pStr hr fun x ea hr => ?_) (fun l eb hr => ?_) fun l eb hr => ?_
    · subst ea eb; obtain rfl := Option.some.inj hr; obtain ⟨t, rfl⟩ := ha; obtain ⟨u, rfl⟩ := hb; exact P.in_str (k _ (Ext.refl _))
    · subst eb
      refine inL_some hr fun q1 q2 e => ?_
      subst e
      have q1 := zG.mp q1
      have q2 := zG.mp q2
      obtain ⟨as, ra⟩ := ha.reads q1.1
      obtain ⟨bs, rb⟩ := hb.reads q2.1
      exact in_tuple_reads rb ra q2.2.1 q1.2.1 (by have := q1.2.2; omega) (k _ (Ext.refl _))
    · subst eb
      refine inL_some hr fun q1 q2 e => ?_
      subst e
      have q1 := zG.mp q1
      have q2 := zG.mp q2
      obtain ⟨as, ra⟩ := ha.reads q1.1
      obtain ⟨bs, rb⟩ := hb.reads (by simpa [jF] using q2.1)
      exact in_list_reads rb ra q2.2.1 q1.2.1 (by have := q1.2.2; omega) (k _ (Ext.refl _))
  | notIn =>
    refine pST hr (fun y eb hr => pStr hr fun x ea hr => ?_) fun l eb hr => ?_
    · subst ea eb; obtain rfl := Option.some.inj hr; obtain ⟨t, rfl⟩ := ha; obtain ⟨u, rfl⟩ := hb; exact P.notIn_str (k _ (Ext.refl _))
    · subst eb
      obtain ⟨r', hr', rfl⟩ := Option.map_eq_some_iff.mp hr
      refine inL_some hr' fun q1 q2 e => ?_
      subst e
      have q1 := zG.mp q1
      have q2 := zG.mp q2
      obtain ⟨as, ra⟩ := ha.reads q1.1
      obtain ⟨bs, rb⟩ := hb.reads q2.1
      exact notIn_tuple_reads rb ra q2.2.1 q1.2.1 (by have := q1.2.2; omega) (k _ (Ext.refl _))
theorem truth_ok {v : PV} {b : Bool} {V : Value} {Q : Bool → Shared → Prop} (hr : yJ v = some b) (hv : Rep T O s.heap v V) (k : ∀ s', Ext s s' → Q b s') :
    wpAny (model prog w) A (truthy V) Q E s := by
  unfold yJ at hr
  split at hr
  · cases hr; cases hv; exact PyProof.Rows.truthy_none (k _ (Ext.refl _))
  · cases hr; cases hv; exact wpAny_truthy_bool (k _ (Ext.refl _))
  · cases hr; obtain ⟨t, rfl⟩ := hv; exact PyProof.Rows.truthy_int (k _ (Ext.refl _))
  · split at hr
    · rename_i l hl
      cases hr; obtain ⟨t, rfl⟩ := hv
      have e : (!l.isEmpty) = ((((⟨l.toArray⟩ : Str).length : Nat) : Int) != 0) := by
        cases l with
        | nil => rfl
        | cons a r => simp [Str.length]; omega
      refine P.truthy_str (by have : SZ = 100000 := rfl; simp [Str.length]; omega) (by rw [← e]; exact k _ (Ext.toks ..))
    · cases hr
  · cases hr
end
end Mine
end
section
open PySem PySem.W PyProof.Rows PySem.SeqAt
namespace Mine
structure TokOk (prog : Program) (w : World) (T : Addr) (h₁ : Heap) : Prop where
  item : ∀ {A : Around} {E : Value → Shared → Prop} {s : Shared} {Q : Value → Shared → Prop} {value slice : Expr} {a : Addr} {items : Array Value} {k : Int} {u : Tok} {j : Nat} {x : Value},
    Keeps h₁ s.heap → IsTok T s.heap a items → -(2 ^ 63) ≤ k → k < 2 ^ 63 → seqIndex? k items.size = some j → items[j]? = some x → Q x s →
    (∀ o i, subscripted slice false o i = operate [o, i] (getItem o i)) → wpAny (model prog w) A (subscriptTail value slice (.ref a) (.int k u)) Q E s
  unpack : ∀ {A : Around} {E : Value → Shared → Prop} {s : Shared} {Q : List Value → Shared → Prop} {a : Addr} {items : Array Value} {n : Nat}, A.handled = none →
    Keeps h₁ s.heap → IsTok T s.heap a items → n = items.size → (∀ s', Ext s s' → Q items.toList s') → wpAny (model prog w) A (unpackItems (.ref a) n none) Q E s
section
variable {prog : Program} {w : World} {A : Around} {E : Value → Shared → Prop} {s : Shared} {T : Addr} {O : Addr → Prop} {n : Nat} {h₁ : Heap}
theorem xR {value slice : Expr} {l : Addr} {vs : List Value} {k : Int} {u : Tok} {j : Nat} {x : Value} {Q : Value → Shared → Prop} (hl : s.heap.PlainList l vs.toArray)
    (hlo : -(2 ^ 63) ≤ k) (hhi : k < 2 ^ 63) (hj : seqIndex? k vs.length = some j) (hx : vs[j]? = some x) (h : Q x s) (hs : ∀ o i, subscripted slice false o i = operate [o, i] (getItem o i)) :
    wpAny (model prog w) A (subscriptTail value slice (.ref l) (.int k u)) Q E s := by
  refine tail_any hl.isList.typeIs slot_list_getitem.lookup ?_ (hs _ _)
  unfold seqIndex? at hj
  by_cases h0 : k < 0
  · simp only [h0, if_true] at hj
    split at hj
    · rename_i c
      cases hj
      simp at c
      refine wpAny_getItem_list_neg hl.isList h0 (by simp; omega) hlo (by simpa using hx) h
    · cases hj
  · simp only [h0, if_false] at hj
    split at hj
    · rename_i c
      cases hj
      refine wpAny_getItem_list hl.isList (by omega) hhi (by simpa using hx) h
    · cases hj
theorem idx_ok {a b c : PV} {VA VB : Value} {value slice : Expr} {Q : Value → Shared → Prop} (hr : getidx a b = some c) (K : TokOk prog w T h₁) (hk : Keeps h₁ s.heap)
    (ha : RepB T O s.heap a VA) (hb : Rep T O s.heap b VB) (hs : ∀ o i, subscripted slice false o i = operate [o, i] (getItem o i))
    (k : ∀ V s', Ext s s' → Rep T O s'.heap c V → Q V s') :
    wpAny (model prog w) A (subscriptTail value slice VA VB) Q E s := by
  cases b with
  | int kk =>
    obtain ⟨u, rfl⟩ := hb
    cases a with
    | tup l =>
      obtain ⟨h1, h2, j, hj, hx⟩ := getI_seq hr
      obtain ⟨a, vs, rfl, no, ht, q⟩ := ha
      obtain ⟨V, hV, r⟩ := q.get hx
      exact item_tupleT ht.isTup h1 h2 (by rw [q.length]; exact hj) hV (k _ _ (Ext.refl _) r) (hs _ _)
    | tok l =>
      obtain ⟨h1, h2, j, hj, hx⟩ := getI_seq hr
      obtain ⟨a, vs, rfl, no, ht, q⟩ := ha
      obtain ⟨V, hV, r⟩ := q.get hx
      exact K.item hk ht h1 h2 (by simpa [q.length] using hj) (by simpa using hV) (k _ _ (Ext.refl _) r) hs
    | lst l =>
      obtain ⟨h1, h2, j, hj, hx⟩ := getI_seq hr
      obtain ⟨a, vs, rfl, ht, q⟩ := ha
      obtain ⟨V, hV, r⟩ := q.get hx
      exact xR ht h1 h2 (by rw [q.length]; exact hj) hV (k _ _ (Ext.refl _) r) hs
    | str l =>
      obtain ⟨t, rfl⟩ := ha
      obtain ⟨c', hc, rfl⟩ := Option.map_eq_some_iff.mp (show Option.map (fun c => PV.str [c]) (yN l kk) = some c from hr)
      obtain ⟨h1, h2, j, hj, hx⟩ := getI_seq hc
      refine tail_any (typeIs_str _ _ _) F.slot_str_getitem.lookup (P.getItem_str (by simp; omega) (c := c') ?_ (k _ _ (Ext.toks ..) ⟨_, rfl⟩)) (hs _ _)
      simp only [Str.length, List.size_toArray] at *
      rw [hj]
      simpa using hx
    | _ => cases hr
  | _ => cases hr
theorem len_ok {a c : PV} {VA : Value} {Q : Value → Shared → Prop} (hr : lenop a = some c) (ha : RepB T O s.heap a VA)
    (k : ∀ V s', Ext s s' → Rep T O s'.heap c V → Q V s') : wpAny (model prog w) A (call (.builtin "len") [VA]) Q E s := by
  have hz : SZ = 100000 := rfl
  unfold lenop at hr
  split at hr
  · split at hr
    · rename_i l hl
      cases hr; obtain ⟨t, rfl⟩ := ha
      exact P.len_str (by simp [Str.length]; omega) (k _ _ (Ext.toks ..) ⟨_, by simp [Str.length]; rfl⟩)
    · cases hr
  · split at hr
    · rename_i l hl
      cases hr; obtain ⟨a, vs, rfl, ht, q⟩ := ha
      have := q.length
      exact PyProof.Rows.len_list ht.isList (by simp; omega) (k _ _ (Ext.toks ..) ⟨s.toks + 1, by simp [q.length]⟩)
    · cases hr
  · cases hr
theorem max_ok {x y : Int} {t u : Tok} {Q : Value → Shared → Prop} (hA : AOK n A) (k : ∀ V s', Ext s s' → Rep T O s'.heap (.int (if x < y then y else x)) V → Q V s') :
    wpAny (model prog w) A (call (.builtin "max") [.int x t, .int y u]) Q E s := by
  refine max_two_ints hA.handled fun h' tk hk => k _ _ ⟨hk, rfl, rfl, rfl⟩ ?_
  by_cases c : y > x
  · rw [if_pos c, if_pos (by omega)]; exact ⟨_, rfl⟩
  · rw [if_neg c, if_neg (by omega)]; exact ⟨_, rfl⟩
theorem min_ok {x y : Int} {t u : Tok} {Q : Value → Shared → Prop} (hA : AOK n A) (k : ∀ V s', Ext s s' → Rep T O s'.heap (.int (if y < x then y else x)) V → Q V s') :
    wpAny (model prog w) A (call (.builtin "min") [.int x t, .int y u]) Q E s := by
  refine min_two_ints hA.handled fun h' tk hk => k _ _ ⟨hk, rfl, rfl, rfl⟩ ?_
  by_cases c : y < x
  · rw [if_pos c, if_pos (by omega)]; exact ⟨_, rfl⟩
  · rw [if_neg c, if_neg (by omega)]; exact ⟨_, rfl⟩
end
end Mine
end
section
open PySem PySem.W PyProof.Rows PySem.SeqAt
namespace Mine
theorem clip_eq (n : Nat) (i : Int) : max 0 (min (if i < 0 then i + n else i) (n : Int)) = ((clampI n i : Nat) : Int) := by
  unfold clampI
  split
  · rw [Int.min_eq_left (by omega), Int.toNat_eq_max, Int.max_comm, Int.add_comm]
  · rcases Int.le_total i n with h | h
    · rw [Int.min_eq_left h, Int.max_eq_right (by omega), Nat.min_eq_left (by omega)]; omega
    · rw [Int.min_eq_right h, Int.max_eq_right (by omega), Nat.min_eq_right (by omega)]
noncomputable def loI (n : Nat) : Option Int → Nat | none => 0 | some k => clampI n k
noncomputable def hiI (n : Nat) : Option Int → Nat | none => n | some k => clampI n k
theorem jK {α : Type} (l : List α) (lo hi : Option Int) : jQ l lo hi = (l.drop (loI l.length lo)).take (hiI l.length hi - loI l.length lo) := by
  unfold jQ loI hiI
  cases lo <;> cases hi <;> rfl
theorem bounds_eq (lo hi : Option Int) (n : Nat) : sliceBounds lo hi none n = (((loI n lo : Nat) : Int), ((hiI n hi : Nat) : Int), 1) := by
  unfold sliceBounds loI hiI
  simp only [Option.getD_none, show (1 : Int) > 0 by decide, if_true]
  cases lo <;> cases hi <;> simp only [Prod.mk.injEq, and_true, true_and] <;> (try constructor) <;> first | rfl | exact clip_eq _ _
theorem slicePick_eq (vs : List Value) (lo hi : Option Int) : slicePick vs.toArray lo hi none = (jQ vs lo hi).toArray := by
  unfold slicePick
  rw [List.size_toArray, bounds_eq, jK]
  dsimp only
  rw [sliceRange_one, pick_run]
theorem strSlice_eq (l : List Nat) (lo hi : Option Int) : (Builtin.Str.strSliceIndices lo hi 1 l.length).filterMap (l.toArray[·]?) = jQ l lo hi := by
  have e : Builtin.Str.strSliceIndices lo hi 1 l.length = sliceRange ((loI l.length lo : Nat) : Int) ((hiI l.length hi : Nat) : Int) 1 := by
    unfold Builtin.Str.strSliceIndices
    simp only [show (1 : Int) > 0 by decide, if_true]
    cases lo <;> cases hi <;> simp only [loI, hiI] <;> congr 1 <;> first | exact clip_eq _ _ | rfl
  rw [e, jK, sliceRange_one, pick_run]
theorem yX.slc {T O h} {l : List PV} {vs : List Value} (q : yX T O h l vs) (lo hi : Option Int) : yX T O h (jQ l lo hi) (jQ vs lo hi) := by
  rw [jK, jK, q.length]
  exact (q.drop _).take _
noncomputable def PartIs (o : Option Int) (V : Value) : Prop := match o with
  | none => V = .none
  | some i => ∃ t, V = .int i t
section
variable {prog : Program} {w : World} {A : Around} {E : Value → Shared → Prop} {s : Shared} {T : Addr} {O : Addr → Prop} {n : Nat} {h₁ : Heap}
theorem slice_str {l : List Nat} {t : Tok} {a : Addr} {lo hi : Option Int} {vl vu : Value} {Q : Value → Shared → Prop} (hs : s.heap.IsSliceOf a vl vu .none) (pl : PartIs lo vl) (pu : PartIs hi vu)
    (hl : l.length ≤ SZ) (k : ∀ V s', Ext s s' → Rep T O s'.heap (.str (jQ l lo hi)) V → Q V s') : wpAny (model prog w) A (getItem (.str ⟨l.toArray⟩ t) (.ref a)) Q E s := by
  obtain ⟨pl', e1⟩ : ∃ p : Option (Int × Tok), vl = partValue p ∧ p.map (·.1) = lo := by
    cases lo with
    | none => cases pl; exact ⟨none, rfl, rfl⟩
    | some i => obtain ⟨u, rfl⟩ := pl; exact ⟨some (i, u), rfl, rfl⟩
  obtain ⟨pu', e2⟩ : ∃ p : Option (Int × Tok), vu = partValue p ∧ p.map (·.1) = hi := by
    cases hi with
    | none => cases pu; exact ⟨none, rfl, rfl⟩
    | some i => obtain ⟨u, rfl⟩ := pu; exact ⟨some (i, u), rfl, rfl⟩
  have hz : SZ = 100000 := rfl
  have hp : (slicePicked ⟨l.toArray⟩ pl' pu' none).filterMap ((⟨l.toArray⟩ : Str).cps[·]?) = jQ l lo hi := by
    unfold slicePicked
    rw [e1.2, e2.2]
    exact strSlice_eq l lo hi
  have hlen : (jQ l lo hi).length ≤ l.length := by rw [jK]; simp; omega
  refine wpAny_getItem_str_slice (l := pl') (u := pu') (st := none) (by obtain ⟨o, h1, h2, h3⟩ := hs; exact ⟨o, h1, h2, by rw [h3, e1.1, e2.1]; rfl⟩) rfl ?_
  unfold sliceMade
  split
  · rename_i c
    refine k _ _ (Ext.refl _) ⟨t, ?_⟩
    simp only [Option.map_none, Option.getD_none, BEq.rfl, Bool.true_and, beq_iff_eq] at c
    have : jQ l lo hi = l := by
      have h2 : jQ l lo hi = (l.drop (loI l.length lo)).take (hiI l.length hi - loI l.length lo) := jK ..
      have h3 : (slicePicked ⟨l.toArray⟩ pl' pu' none).length = hiI l.length hi - loI l.length lo := by
        unfold slicePicked
        rw [e1.2, e2.2]
        have e : Builtin.Str.strSliceIndices lo hi 1 l.length = sliceRange ((loI l.length lo : Nat) : Int) ((hiI l.length hi : Nat) : Int) 1 := by
          unfold Builtin.Str.strSliceIndices
          simp only [show (1 : Int) > 0 by decide, if_true]
          cases lo <;> cases hi <;> simp only [loI, hiI] <;> congr 1 <;> first | exact clip_eq _ _ | rfl
        show (Builtin.Str.strSliceIndices lo hi 1 l.length).length = _
        rw [e, sliceRange_one]; simp
      have h4 : hiI l.length hi ≤ l.length := by
        unfold hiI
        cases hi with
        | none => exact Nat.le_refl _
        | some k =>
          dsimp only
          unfold clampI; split <;> omega
      rw [h2]
      have c' : hiI l.length hi - loI l.length lo = l.length := by rw [← h3]; simpa [Str.length] using c
      by_cases hn : l.length = 0
      · have : l = [] := List.eq_nil_of_length_eq_zero hn
        subst this; simp
      · have : loI l.length lo = 0 := by omega
        rw [c', this]; simp
    rw [this]
  · rw [hp]
    exact ⟨by show (jQ l lo hi).toArray.size ≤ _; have := xX; simp; omega, k _ _ (Ext.toks ..) ⟨_, rfl⟩⟩
theorem slc_ok {v c : PV} {lo hi : Option Int} {VA vl vu : Value} {a : Addr} {value slice : Expr} {Q : Value → Shared → Prop} (hr : slcop v lo hi = some c) (hu : jM O s.heap)
    (hv : RepB T O s.heap v VA) (hsl : s.heap.IsSliceOf a vl vu .none) (pl : PartIs lo vl) (pu : PartIs hi vu) (hs : ∀ o i, subscripted slice false o i = operate [i, o] (getItem o i))
    (k : ∀ V s', Ext s s' → Rep T O s'.heap c V → Q V s') : wpAny (model prog w) A (subscriptTail value slice VA (.ref a)) Q E s := by
  unfold slcop at hr
  split at hr
  · split at hr
    · rename_i l hl
      cases hr
      obtain ⟨t, rfl⟩ := hv
      exact tail_any (typeIs_str _ _ _) F.slot_str_getitem.lookup (slice_str hsl pl pu hl k) (hs _ _)
    · cases hr
  · split at hr
    · rename_i l hl
      cases hr
      obtain ⟨b, vs, rfl, ht, q⟩ := hv
      have hlen := q.length
      have := xX
      refine tail_any ht.isList.typeIs slot_list_getitem.lookup (wpAny_getItem_list_slice ht.isList hsl (lo := lo) (hi := hi) (st := none) ?_ ?_ .none (by simp) ?_ (by simp; omega)) (hs _ _)
      · cases lo with
        | none => cases pl; exact .none
        | some i => obtain ⟨u, rfl⟩ := pl; exact .int _ _
      · cases hi with
        | none => cases pu; exact .none
        | some i => obtain ⟨u, rfl⟩ := pu; exact .int _ _
      · rw [slicePick_eq]
        exact k _ _ (Ext.push ..) ⟨_, _, rfl, hu.fresh, ⟨0, Heap.get?_push_size _ rfl⟩, (q.slc lo hi).keep ((Ext.push s _ s.toks).keepO O)⟩
    · cases hr
  · cases hr
end
end Mine
end
set_option tactic.hygienic false
section
open PySem PySem.W PyProof.Rows PySem.SeqAt
namespace Mine
structure NI where
  slots : List Str
  gl : List Str
  sc : Scope
structure Tbl where
  FT : List (Str × Addr)
  GC : List (Str × PV)
  TK : List (Str × Int)
  T : Addr
noncomputable def BI : List Str := ["len", "abs", "int", "max", "min", "range", "enumerate", "reversed", "list", "sorted"]
structure EnvOK (env : Env) (N : NI) (h₁ : Heap) : Prop where
  code : ∃ c o vs, env.code = .ref c ∧ h₁.get? c = some o ∧ o.data = .fields vs
  scope : env.scope = N.sc
  kind : env.scope.kind = .function
  globals : env.globals = mainGlobals
  builtins : env.builtins = builtinsNs
  gl : ∀ x, x ∈ N.gl → env.kindOf x = some .globalImplicit
  nocd : ∀ x, env.kindOf x = some .free → (x == ("__classdict__" : Str)) = false
noncomputable def VarAt (env : Env) (h : Heap) (x : Str) (V : Value) : Prop :=
  (env.kindOf x = some .local ∧ ∃ m, h.Ns env.locals m ∧ m x = some V) ∨
  (env.kindOf x = some .cell ∧ ∃ c, env.cells.lookup x = some c ∧ h.IsCell c (some V)) ∨
  (env.kindOf x = some .free ∧ ∃ c, env.cells.lookup x = some c ∧ h.IsCell c (some V))
theorem VarAt.keeps {env h h' x V} (v : VarAt env h x V) (k : Keeps h h') : VarAt env h' x V := by
  rcases v with ⟨a, m, n, e⟩ | ⟨a, c, l, n⟩ | ⟨a, c, l, n⟩
  · exact .inl ⟨a, m, n.keeps k, e⟩
  · exact .inr (.inl ⟨a, c, l, n.keeps k⟩)
  · exact .inr (.inr ⟨a, c, l, n.keeps k⟩)
inductive ConsO (h : Heap) (L : List Value → Prop) (R : List Addr → Prop) (as : List Addr) : Prop
  | mk (a : Addr) (r : List Addr) (vs : List Value) (e : as = a :: r) (p : h.PlainList a vs.toArray) (q : L vs) (t : R r) : ConsO h L R as
inductive ConsD (k : Int) (P : Value → Prop) (R : List (Int × Value) → Prop) (ks : List (Int × Value)) : Prop
  | mk (V : Value) (r : List (Int × Value)) (e : ks = (k, V) :: r) (p : P V) (t : R r) : ConsD k P R ks
inductive OwnR (h : Heap) (L : List Value → Prop) (V : Value) (as : List Addr) : Prop
  | mk (a : Addr) (vs : List Value) (e : V = .ref a) (f : as = [a]) (p : h.PlainList a vs.toArray) (q : L vs) : OwnR h L V as
inductive Own2R (h : Heap) (L : List Addr → Prop) (V : Value) (as : List Addr) : Prop
  | mk (a : Addr) (bs : List Addr) (e : V = .ref a) (f : as = a :: bs) (p : h.PlainList a (bs.map Value.ref).toArray) (q : L bs) : Own2R h L V as
inductive DicR (D : Addr → List (Int × Value) → Prop) (L : List (Int × Value) → Prop) (V : Value) (as : List Addr) : Prop
  | mk (a : Addr) (ks : List (Int × Value)) (e : V = .ref a) (f : as = [a]) (n : (a == sysModules) = false) (p : D a ks) (q : L ks) : DicR D L V as
noncomputable def zL (T : Addr) (O : Addr → Prop) (h : Heap) : List (List PV) → List Addr → Prop
  | [], as => as = []
  | l :: ls, as => ConsO h (yX T O h l) (zL T O h ls) as
noncomputable def jS (T : Addr) (O : Addr → Prop) (h : Heap) : List (Int × PV) → List (Int × Value) → Prop
  | [], ks => ks = []
  | (k, v) :: d, ks => ConsD k (Rep T O h v) (jS T O h d) ks
noncomputable def SRep (prog : Program) (w : World) (T : Addr) (rf : Nat → Addr) (O : Addr → Prop) (h : Heap) : SV → Value → List Addr → Prop
  | .val v, V, as => as = [] ∧ Rep T O h v V
  | .own l, V, as => OwnR h (yX T O h l) V as
  | .own2 ls, V, as => Own2R h (zL T O h ls) V as
  | .dic d, V, as => DicR (h.DictOf (intKind prog w)) (jS T O h d) V as
  | .ref k, V, as => as = [] ∧ V = .ref (rf k)
theorem zL.keep {T O h O' h'} (k : jN O h O' h') : ∀ {ls as}, (∀ a ∈ as, ∀ o, h.get? a = some o → h'.get? a = some o) → zL T O h ls as → zL T O' h' ls as
  | [], _, _, x => x
  | l :: ls, _, hk, ⟨a, r, vs, e, ⟨n, hn⟩, q, x⟩ => by
    subst e
    exact ⟨a, r, vs, rfl, ⟨n, hk a (.head _) _ hn⟩, q.keep k, zL.keep k (fun b hb => hk b (.tail _ hb)) x⟩
theorem jS.keep {T O h O' h'} (k : jN O h O' h') : ∀ {d ks}, jS T O h d ks → jS T O' h' d ks
  | [], _, x => x
  | (_, _) :: _, _, ⟨V, r, e, q, x⟩ => ⟨V, r, e, q.keep k, jS.keep k x⟩
theorem SRep.keep {prog w T rf O h O' h'} (k : jN O h O' h') {sv V as} (hk : ∀ a ∈ as, ∀ o, h.get? a = some o → h'.get? a = some o) (x : SRep prog w T rf O h sv V as) : SRep prog w T rf O' h' sv V as := by
  cases sv with
  | val v => exact ⟨x.1, x.2.keep k⟩
  | own l =>
    obtain ⟨a, vs, e, e', ⟨n, hn⟩, q⟩ := x
    subst e'
    exact ⟨a, vs, e, rfl, ⟨n, hk a (.head _) _ hn⟩, q.keep k⟩
  | own2 ls =>
    obtain ⟨a, bs, e, e', ⟨n, hn⟩, q⟩ := x
    subst e'
    exact ⟨a, bs, e, rfl, ⟨n, hk a (.head _) _ hn⟩, q.keep k fun b hb => hk b (.tail _ hb)⟩
  | dic d =>
    obtain ⟨a, ks, e, e', hs, hd, q⟩ := x
    subst e'
    refine ⟨a, ks, e, rfl, hs, ?_, q.keep k⟩
    obtain ⟨o, ho, hd'⟩ := Heap.dictOf_iff.mp hd
    exact Heap.dictOf_iff.mpr ⟨o, hk a (.head _) _ ho, hd'⟩
  | ref a => exact x
noncomputable def EnvRep (prog : Program) (w : World) (T : Addr) (O : Addr → Prop) (N : NI) (env : Env) (σ : St) (h : Heap) : Prop :=
  ∀ i sv, σ i = some sv → ∃ x V as rf, N.slots[i]? = some x ∧ VarAt env h x V ∧ SRep prog w T rf O h sv V as
theorem EnvRep.ext {prog w T O N env σ} {s s' : Shared} (R : EnvRep prog w T O N env σ s.heap) (x : Ext s s') : EnvRep prog w T O N env σ s'.heap := fun i sv e =>
  let ⟨y, V, as, rf, h1, h2, h3⟩ := R i sv e; ⟨y, V, as, rf, h1, h2.keeps x.keep, h3.keep (x.keepO O) fun a _ o ho => x.keep a o ho⟩
structure Bs (prog : Program) (w : World) (B : Tbl) (h₁ : Heap) : Prop where
  top : ∃ mg mb, h₁.Ns mainGlobals mg ∧ h₁.Ns builtinsNs mb ∧ (∀ x ∈ BI, mg x = none ∧ mb x = bootBuiltins x) ∧
    (∀ x a, (x, a) ∈ B.FT → mg x = some (.ref a)) ∧ (∀ x v, (x, v) ∈ B.GC → ∃ V, mg x = some V ∧ Rep B.T (fun _ => False) h₁ v V)
  nolimit : h₁.NoLimit
  cw : ∀ x a, (x, a) ∈ B.FT → ∀ {A : Around} {E : Value → Shared → Prop} {s : Shared} {Q : Value → Shared → Prop} {env : Env} {pos : Pos} {e : Expr} {rest : List Expr},
    wpAny (model prog w) A (spliced (backTo pos (starEach (e :: rest) env))) (fun vs s₁ => Keeps h₁ s₁.heap ∧ wpAny (model prog w) A (call (.ref a) vs) Q E s₁) E s →
    starEach (e :: rest) env = (false, eval e env) :: starEach rest env → (backTo pos (starEach rest env)).any (·.1) = false →
    wpAny (model prog w) A (callWith pos (.ref a) [] (backTo pos (starEach (e :: rest) env)) []) Q E s
  tk : ∀ x i, (x, i) ∈ B.TK → ∀ {A : Around} {E : Value → Shared → Prop} {s : Shared} {Q : Value → Shared → Prop} {env : Env} {p p' : Pos},
    Keeps h₁ s.heap → env.scope.kind = .function → env.globals = mainGlobals → env.kindOf "tokenize" = some .globalImplicit →
    (∀ t s', Ext s s' → Q (.int i t) s') → wpAny (model prog w) A (eval (.Attribute (.Name "tokenize" p) x p') env) Q E s
  tok : TokOk prog w B.T h₁
noncomputable def Off (O : Addr → Prop) (h₁ : Heap) : Prop := ∀ a, O a → h₁.get? a = none
noncomputable def SpecsOK (prog : Program) (w : World) (B : Tbl) (h₁ : Heap) (Γ : xB) (n : Nat) : Prop :=
  ∀ f x a, B.FT[f]? = some (x, a) → ∀ args r, Γ f args = some r → ∀ {A : Around} {E : Value → Shared → Prop} {s : Shared} {Q : Value → Shared → Prop} {O : Addr → Prop} {Vs : List Value},
    AOK n A → Keeps h₁ s.heap → jM O s.heap → Off O h₁ → yX B.T O s.heap args Vs →
    (∀ V s', Ext s s' → Rep B.T O s'.heap r V → Q V s') → wpAny (model prog w) A (call (.ref a) Vs) Q E s
noncomputable def yU : Expr → Bool
  | .Starred .. => false
  | _ => true
theorem qL {e : Expr} (h : yU e = true) (rest : List Expr) (env : Env) : starEach (e :: rest) env = (false, eval e env) :: starEach rest env := by
  cases e <;> first | rfl | cases h
end Mine
end
section
open PySem PySem.W PyProof.Rows PySem.SeqAt PySem.Calls
namespace Mine
structure Cx (prog : Program) (w : World) (B : Tbl) (h₁ : Heap) (n : Nat) (N : NI) (env : Env) (σ : St) (O : Addr → Prop) (A : Around) (s : Shared) : Prop where
  a : AOK n A
  e : EnvOK env N h₁
  k : Keeps h₁ s.heap
  u : jM O s.heap
  o : Off O h₁
  r : EnvRep prog w B.T O N env σ s.heap
theorem Cx.ext {prog w B h₁ n N env σ O A} {s s' : Shared} (c : Cx prog w B h₁ n N env σ O A s) (x : Ext s s') : Cx prog w B h₁ n N env σ O A s' :=
  ⟨c.a, c.e, fun b o e => x.keep b o (c.k b o e), c.u.ext x, c.o, c.r.ext x⟩
theorem Rep.off {T O h₁ h v V} (k : Keeps h₁ h) (o : Off O h₁) (r : Rep T (fun _ => False) h₁ v V) : Rep T O h v V :=
  r.keep fun b ob _ e => ⟨k b ob e, fun q => by rw [o b q] at e; cases e⟩
section
variable {prog : Program} {w : World} {B : Tbl} {h₁ : Heap} {n : Nat} {N : NI} {env : Env} {σ : St} {O : Addr → Prop} {A : Around} {E : Value → Shared → Prop} {s : Shared}
theorem jP (c : Cx prog w B h₁ n N env σ O A s) {i : Nat} {sv : SV} {x : Str} {p : Pos} {Q : Value → Shared → Prop} (h : σ i = some sv) (hx : N.slots[i]? = some x) (hd : (x == ("__debug__" : Str)) = false)
    (k : ∀ V as, (∃ rf, SRep prog w B.T rf O s.heap sv V as) → VarAt env s.heap x V → Q V s) : wpAny (model prog w) A (eval (.Name x p) env) Q E s := by
  obtain ⟨y, V, as, rf, hy, hv, hr⟩ := c.r i sv h
  have e : y = x := Option.some.inj (hy.symm.trans hx)
  subst e
  have hq := k V as ⟨rf, hr⟩ hv
  rcases hv with ⟨hk, m, hm, e⟩ | ⟨hk, cc, hl, hc⟩ | ⟨hk, cc, hl, hc⟩
  · exact wpAny_Name (wpAny_loadName_local c.e.kind hk hm e hq) hd
  · exact wpAny_Name (wpAny_loadName_cell c.e.kind hk hl hc hq) hd
  · exact wpAny_Name (wpAny_loadName_free c.e.kind hk hl hc hq (c.e.nocd _ hk)) hd
theorem yH (bs : Bs prog w B h₁) (c : Cx prog w B h₁ n N env σ O A s) {x : Str} {p : Pos} {v : Value} {Q : Value → Shared → Prop} (hg : x ∈ N.gl) (hb : x ∈ BI) (hv : bootBuiltins x = some v) (hd : (x == ("__debug__" : Str)) = false)
    (h : Q v s) : wpAny (model prog w) A (eval (.Name x p) env) Q E s := by
  obtain ⟨mg, mb, h1, h2, h3, _, _⟩ := bs.top
  refine Name_function_global c.e.kind (c.e.gl x hg) (loadGlobal_builtin (mg := mg) (mb := mb) ?_ (h3 x hb).1 ?_ ((h3 x hb).2.trans hv) h) hd
  · rw [c.e.globals]; exact h1.keeps c.k
  · rw [c.e.builtins]; exact h2.keeps c.k
theorem load_fn (bs : Bs prog w B h₁) (c : Cx prog w B h₁ n N env σ O A s) {x : Str} {a : Addr} {p : Pos} {Q : Value → Shared → Prop} (hg : x ∈ N.gl) (hf : (x, a) ∈ B.FT) (hd : (x == ("__debug__" : Str)) = false)
    (h : Q (.ref a) s) : wpAny (model prog w) A (eval (.Name x p) env) Q E s := by
  obtain ⟨mg, mb, h1, h2, h3, h4, _⟩ := bs.top
  refine Name_function_global c.e.kind (c.e.gl x hg) (loadGlobal_global (mg := mg) ?_ (h4 x a hf) h) hd
  rw [c.e.globals]; exact h1.keeps c.k
theorem load_const (bs : Bs prog w B h₁) (c : Cx prog w B h₁ n N env σ O A s) {x : Str} {v : PV} {p : Pos} {Q : Value → Shared → Prop} (hg : x ∈ N.gl) (hf : (x, v) ∈ B.GC) (hd : (x == ("__debug__" : Str)) = false)
    (h : ∀ V, Rep B.T O s.heap v V → Q V s) : wpAny (model prog w) A (eval (.Name x p) env) Q E s := by
  obtain ⟨mg, mb, h1, h2, h3, h4, h5⟩ := bs.top
  obtain ⟨V, hV, r⟩ := h5 x v hf
  refine Name_function_global c.e.kind (c.e.gl x hg) (loadGlobal_global (mg := mg) ?_ hV (h V (r.off c.k c.o))) hd
  rw [c.e.globals]; exact h1.keeps c.k
theorem jS.lookup {T O h} : ∀ {d : List (Int × PV)} {ks : List (Int × Value)}, jS T O h d ks → ∀ (x : Int), (d.lookup x).isSome = (valueAt ks x).isSome ∧ ∀ v, d.lookup x = some v → ∃ V, valueAt ks x = some V ∧ Rep T O h v V
  | [], _, e, x => by subst e; exact ⟨rfl, fun v hv => nomatch hv⟩
  | (k, v) :: d, _, ⟨V, r, e, hr, q⟩, x => by
    subst e
    have ih := jS.lookup q x
    by_cases hk : x = k
    · subst hk
      have e1 : List.lookup x ((x, v) :: d) = some v := by simp
      have e2 : valueAt ((x, V) :: r) x = some V := by simp [valueAt]
      rw [e1, e2]
      exact ⟨rfl, fun v' hv => by cases hv; exact ⟨V, rfl, hr⟩⟩
    · have e1 : List.lookup x ((k, v) :: d) = List.lookup x d := by
        have : (x == k) = false := by simpa using hk
        simp [List.lookup_cons, this]
      have e2 : valueAt ((k, V) :: r) x = valueAt r x := by
        have : ¬ k = x := fun e => hk e.symm
        simp [valueAt, this]
      rw [e1, e2]; exact ih
theorem jS.length {T O h} : ∀ {d : List (Int × PV)} {ks : List (Int × Value)}, jS T O h d ks → ks.length = d.length
  | [], _, e => by subst e; rfl
  | (k, v) :: d, _, ⟨V, r, e, hr, q⟩ => by subst e; simp [jS.length q]
end
end Mine
end
section
open PySem PySem.W PyProof.Rows PySem.SeqAt PySem.Calls
namespace Mine
section
variable {prog : Program} {w : World} {B : Tbl} {h₁ : Heap} {n : Nat} {N : NI} {env : Env} {σ : St} {O : Addr → Prop} {A : Around} {E : Value → Shared → Prop} {s : Shared}
theorem jY {f : Value} {pos : Pos} {e : Expr} {Q : Value → Shared → Prop} (hn : yU e = true)
    (hcw : ∀ {tr : List (Bool × Sem Value)}, tr.any (·.1) = false → wpAny (model prog w) A (evalArgs f true tr []) (fun a s₁ => wpAny (model prog w) A (call f ([] ++ a.pos) a.kw) Q E s₁) E s →
      wpAny (model prog w) A (callWith pos f [] tr []) Q E s)
    (h : wpAny (model prog w) A (eval e env) (fun v s₁ => wpAny (model prog w) A (call f [v]) Q E s₁) E s) :
    wpAny (model prog w) A (callWith pos f [] (backTo pos (starEach [e] env)) []) Q E s := by
  rw [qL hn]
  exact hcw rfl (evalArgs_plain (spliced_cons (wpAny_mono h (fun v s₁ h₁ => spliced_nil h₁) fun _ _ x => x)))
theorem callWith2 {f : Value} {pos : Pos} {e e' : Expr} {Q : Value → Shared → Prop} (hn : yU e = true) (hn' : yU e' = true)
    (hcw : ∀ {tr : List (Bool × Sem Value)}, tr.any (·.1) = false → wpAny (model prog w) A (evalArgs f true tr []) (fun a s₁ => wpAny (model prog w) A (call f ([] ++ a.pos) a.kw) Q E s₁) E s →
      wpAny (model prog w) A (callWith pos f [] tr []) Q E s)
    (h : wpAny (model prog w) A (eval e env) (fun v s₁ => wpAny (model prog w) A (eval e' env) (fun v' s₂ => wpAny (model prog w) A (call f [v, v']) Q E s₂) E s₁) E s) :
    wpAny (model prog w) A (callWith pos f [] (backTo pos (starEach [e, e'] env)) []) Q E s := by
  rw [qL hn, qL hn']
  exact hcw rfl (evalArgs_plain (spliced_cons (wpAny_mono h (fun v s₁ h₁ => spliced_cons (wpAny_mono h₁ (fun v' s₂ h₂ => spliced_nil h₂) fun _ _ x => x)) fun _ _ x => x)))
set_option backward.match.sparseCases true in
theorem boolOp_two {pos : Pos} {op : BoolOp} {x y : Sem Value} {r : List (Sem Value)} {Q : Value → Shared → Prop}
    (h : wpAny (model prog w) A x (fun v s₁ => wpAny (model prog w) A (truthy v) (fun t s₂ => match op, t with
      | .And, false | .Or, true => Q v s₂
      | _, _ => wpAny (model prog w) A (boolOp pos op (y :: r)) Q E s₂) E s₁) E s) : wpAny (model prog w) A (boolOp pos op (x :: y :: r)) Q E s := by
  show wpAny (model prog w) A (do
    let v ← x
    standAt pos
    let t ← holding [v] (truthy v)
    match op, t with
    | .And, false | .Or, true => pure v
    | _, _ => boolOp pos op (y :: r)) Q E s
  refine wpAny_bind (wpAny_mono h (fun v s₁ h₁ => wpAny_bind (wpAny_standAt (wpAny_bind (wpAny_holding (wpAny_mono h₁ (fun t s₂ h₂ => ?_) fun _ _ x => x))))) fun _ _ x => x)
  cases op <;> cases t <;> first | exact wpAny_pure h₂ | exact h₂
theorem boolOp_one {pos : Pos} {op : BoolOp} {x : Sem Value} {Q : Value → Shared → Prop} (h : wpAny (model prog w) A x Q E s) : wpAny (model prog w) A (boolOp pos op [x]) Q E s := h
theorem allInt_rep {T O h} : ∀ {l : List PV} {ns : List Int} {vs : List Value}, allInt l = some ns → yX T O h l vs → IntsAre vs ns
  | [], _, _, e, q => by cases e; cases q; exact .nil
  | .int i :: l, _, _, e, ⟨v, vs', e', ⟨t, ht⟩, q⟩ => by
    obtain ⟨ns, e1, e2⟩ := Option.map_eq_some_iff.mp e
    subst e2 e' ht
    exact .cons i t (allInt_rep e1 q)
  | .none :: _, _, _, e, _ => by cases e
  | .bool _ :: _, _, _, e, _ => by cases e
  | .str _ :: _, _, _, e, _ => by cases e
  | .tup _ :: _, _, _, e, _ => by cases e
  | .tok _ :: _, _, _, e, _ => by cases e
  | .lst _ :: _, _, _, e, _ => by cases e
theorem set_fill {Q : Value → Shared → Prop} {d : Addr} : ∀ {vs : List Value} {ns : List Int} (_ : IntsAre vs ns) {s : Shared} {S : Int → Bool} {k : Nat}, s.heap.SetOf (intKind prog w) d S k → k + vs.length < 200 →
    (∀ s' S' k', s'.heap.SetOf (intKind prog w) d S' k' → (∀ x, S' x = (S x || ns.contains x)) → Heap.SameBut d s.heap s'.heap → s'.gens = s.gens → s'.drawn = s.drawn → s'.os = s.os → Q (.ref d) s') →
    KdsFill (model prog w) A E false d Q vs s
  | _, _, .nil, s, S, k, hS, hk, h => kds_fill_nil rfl (h s S k hS (fun x => by simp) (.refl _ _) rfl rfl rfl)
  | _, _, .cons (vs := vs) (ns := ns) i t r, s, S, k, hS, hk, h => by
    refine kds_fill_cons ?_
    unfold setAdd
    refine wpAny_holding (wpAny_bind ((intKind prog w).pyHash (intKind_is prog w i t) ?_))
    refine wpAny_setAddHashed_of (s := { s with toks := s.toks + 1 }) (intKind_is prog w i t) rfl hS (by simp [scanBound] at *; omega) fun h' hsb hS' => ?_
    refine set_fill r hS' ?_ fun s' S' k' a1 a2 a3 a4 a5 a6 => h s' S' k' a1 (fun x => ?_) (hsb.trans a3) a4 a5 a6
    · simp at hk; split <;> omega
    · rw [a2]
      simp only [List.contains_cons, Bool.or_assoc]
      congr 2
end
end Mine
end
set_option tactic.hygienic true
section
open PySem PySem.W PyProof.Rows PySem.SeqAt PySem.Calls
namespace Mine
structure P5 where
  prog : Program
  w : World
  B : Tbl
  h₁ : Heap
  n : Nat
  Γ : xB
structure P5.Ok (p : P5) : Prop where
  bs : Bs p.prog p.w p.B p.h₁
  sp : SpecsOK p.prog p.w p.B p.h₁ p.Γ p.n
noncomputable abbrev P5.Cx (p : P5) (N : NI) (env : Env) (σ : St) (O : Addr → Prop) (A : Around) (s : Shared) : Prop := Mine.Cx p.prog p.w p.B p.h₁ p.n N env σ O A s
noncomputable def yY (p : P5) (N : NI) (e : Expr) (m : ME) : Prop := ∀ ⦃σ v env O A s E Q⦄, qM p.Γ σ m = some v → p.Cx N env σ O A s →
  (∀ V s', Ext s s' → Rep p.B.T O s'.heap v V → Q V s') → wpAny (model p.prog p.w) A (eval e env) Q E s
noncomputable def BaOK (p : P5) (N : NI) (e : Expr) (m : ME) : Prop := ∀ ⦃σ v env O A s E Q⦄, qM p.Γ σ m = some v → p.Cx N env σ O A s →
  (∀ V s', Ext s s' → RepB p.B.T O s'.heap v V → Q V s') → wpAny (model p.prog p.w) A (eval e env) Q E s
noncomputable def TrOK (p : P5) (N : NI) (e : Expr) (m : ME) : Prop := ∀ ⦃σ b env O A s E⦄ ⦃Q : Bool → Shared → Prop⦄, qR p.Γ σ m = some b → p.Cx N env σ O A s →
  (∀ s', Ext s s' → Q b s') → wpAny (model p.prog p.w) A (isTrue e env (eval e env)) Q E s
noncomputable def OpOK (p : P5) (N : NI) (o : Option Expr) (m : Option ME) : Prop := ∀ ⦃σ l env O A s E⦄ ⦃Q : Value → Shared → Prop⦄, mopt p.Γ σ m = some l → p.Cx N env σ O A s →
  (∀ V s', Ext s s' → PartIs l V → Q V s') → wpAny (model p.prog p.w) A (evalPart o env) Q E s
structure EvsOK (p : P5) (N : NI) (es : List Expr) (ms : List ME) : Prop where
  len : es.length = ms.length
  star : es.all yU = true
  ev : ∀ {σ l env O A s E pos} {Q : List Value → Shared → Prop}, xW p.Γ σ ms = some l → p.Cx N env σ O A s →
    (∀ vs s', Ext s s' → yX p.B.T O s'.heap l vs → Q vs s') → wpAny (model p.prog p.w) A (spliced (backTo pos (starEach es env))) Q E s
  all : ∀ {σ l env O A s E pos} {Q : List Value → Shared → Prop}, xW p.Γ σ ms = some l → p.Cx N env σ O A s →
    (∀ vs s', Ext s s' → yX p.B.T O s'.heap l vs → Q vs s') → wpAny (model p.prog p.w) A (evalAll ((evalEach es env).map fun t => do let v ← t; standAt pos; pure v)) Q E s
  and : ∀ {σ v env O A s E pos} {Q : Value → Shared → Prop}, mand p.Γ σ ms = some v → p.Cx N env σ O A s →
    (∀ V s', Ext s s' → Rep p.B.T O s'.heap v V → Q V s') → wpAny (model p.prog p.w) A (boolOp pos .And (evalEach es env)) Q E s
  or : ∀ {σ v env O A s E pos} {Q : Value → Shared → Prop}, mor p.Γ σ ms = some v → p.Cx N env σ O A s →
    (∀ V s', Ext s s' → Rep p.B.T O s'.heap v V → Q V s') → wpAny (model p.prog p.w) A (boolOp pos .Or (evalEach es env)) Q E s
structure TrsOK (p : P5) (N : NI) (es : List Expr) (ms : List ME) : Prop where
  and : ∀ {σ b env O A s E pos whole} {Q : Bool → Shared → Prop}, mtand p.Γ σ ms = some b → p.Cx N env σ O A s →
    (∀ s', Ext s s' → Q b s') → wpAny (model p.prog p.w) A (isTrue (.BoolOp .And es pos) env whole) Q E s
  or : ∀ {σ b env O A s E pos whole} {Q : Bool → Shared → Prop}, mtor p.Γ σ ms = some b → p.Cx N env σ O A s →
    (∀ s', Ext s s' → Q b s') → wpAny (model p.prog p.w) A (isTrue (.BoolOp .Or es pos) env whole) Q E s
section
variable {p : P5} {N : NI}
theorem qY {i k q} : yY p N (.Constant (.int i) k q) (.k (.int i)) := fun _ _ _ _ _ _ _ _ h c k => by
  obtain rfl := Option.some.inj h; exact wpAny_Constant_int (k _ _ (Ext.toks ..) ⟨_, rfl⟩)
theorem qW {x k q} (l : List Nat) (hl : x = S l) : yY p N (.Constant (.str x) k q) (.k (.str l)) := fun _ _ _ _ _ _ _ _ h c k => by
  obtain rfl := Option.some.inj h; subst hl; exact wpAny_Constant_str (k _ _ (Ext.toks ..) ⟨_, rfl⟩)
theorem ev_kbool {b k q} : yY p N (.Constant (.bool b) k q) (.k (.bool b)) := fun _ _ _ _ _ _ _ _ h c k => by
  obtain rfl := Option.some.inj h; exact wpAny_Constant_bool (k _ _ (Ext.refl _) rfl)
theorem ev_knone {k q} : yY p N (.Constant .none k q) (.k .none) := fun _ _ _ _ _ _ _ _ h c k => by
  obtain rfl := Option.some.inj h; exact wpAny_Constant_none (k _ _ (Ext.refl _) rfl)
theorem qQ {i : Nat} {x q} (hx : N.slots[i]? = some x) (hd : (x == ("__debug__" : Str)) = false) : yY p N (.Name x q) (.loc i) := fun _ _ _ _ _ _ _ _ h c k => by
  refine sVal h fun v' hσ h => ?_
  obtain rfl := Option.some.inj h
  exact jP c hσ hx hd fun V as ⟨rf, hr⟩ _ => k _ _ (Ext.refl _) hr.2
theorem ev_gc (P : p.Ok) {x q v} (hx : (x, v) ∈ p.B.GC) (hg : x ∈ N.gl) (hd : (x == ("__debug__" : Str)) = false) : yY p N (.Name x q) (.k v) := fun _ _ _ _ _ _ _ _ h c k => by
  obtain rfl := Option.some.inj h
  exact load_const P.bs c hg hx hd fun V hr => k _ _ (Ext.refl _) hr
theorem ev_tk (P : p.Ok) {x q q' i} (hx : (x, i) ∈ p.B.TK) (hg : ("tokenize" : Str) ∈ N.gl) : yY p N (.Attribute (.Name "tokenize" q) x q') (.k (.int i)) := fun _ _ _ _ _ _ _ _ h c k => by
  obtain rfl := Option.some.inj h
  exact P.bs.tk _ _ hx c.k c.e.kind c.e.globals (c.e.gl _ hg) fun t s' x => k _ _ x ⟨_, rfl⟩
theorem ev_bin {l r a b q} (op : MOp) (h1 : yY p N l a) (h2 : yY p N r b) : yY p N (.BinOp l op.op r q) (.bin op a b) := fun _ _ _ _ _ _ _ _ h c k => by
  refine iv2 h fun x y e1 e2 h => ?_
  exact wpAny_BinOp (h1 e1 c fun V s1 x1 r1 => h2 e2 (c.ext x1) fun V' s2 x2 r2 =>
    binop_ok h (c.u.ext (x1.trans x2)) (r1.ext x2) r2 fun V'' s3 x3 r3 => k _ _ ((x1.trans x2).trans x3) r3)
theorem ev_neg {x a q} (h1 : yY p N x a) : yY p N (.UnaryOp .USub x q) (.neg a) := fun _ _ _ _ _ _ _ _ h c k => by
  refine ivI h fun i e1 h => ?_
  obtain rfl := Option.some.inj h
  refine wpAny_UnaryOp (h1 e1 c fun V s1 x1 r1 => ?_)
  obtain ⟨t, rfl⟩ := r1
  exact PyProof.Rows.neg_int (k _ _ (x1.trans (Ext.toks ..)) ⟨_, rfl⟩)
theorem ev_not {x a q} (h1 : yY p N x a) : yY p N (.UnaryOp .Not x q) (.not a) := fun _ _ _ _ _ _ _ _ h c k => by
  refine iv1 h fun x e1 h => ?_
  obtain ⟨b, hb, rfl⟩ := Option.map_eq_some_iff.mp h
  refine wpAny_UnaryOp (h1 e1 c fun V s1 x1 r1 => ?_)
  exact not_of (truth_ok hb r1 fun s2 x2 => k _ _ (x1.trans x2) rfl)
theorem ev_cmp {l r a b q} (op : MCmp) (h1 : yY p N l a) (h2 : BaOK p N r b) (hm : behindInMarks op.op r = false) : yY p N (.Compare l [op.op] [r] q) (.cmp op a b) := fun _ _ _ _ _ _ _ _ h c k => by
  refine iv2 h fun x y e1 e2 h => ?_
  obtain ⟨b, hb, rfl⟩ := Option.map_eq_some_iff.mp h
  exact wpAny_Compare1 (h1 e1 c fun V s1 x1 r1 => h2 e2 (c.ext x1) fun V' s2 x2 r2 =>
    cmp_ok hb c.a (r1.ext x2) r2 fun s3 x3 => k _ _ ((x1.trans x2).trans x3) rfl) hm
theorem tr_cmp {l r a b q} (op : MCmp) (h1 : yY p N l a) (h2 : BaOK p N r b) (hm : behindInMarks op.op r = false) : TrOK p N (.Compare l [op.op] [r] q) (.cmp op a b) := fun _ _ _ _ _ _ _ _ h c k => by
  refine iv1 h fun v hv h => iv2 hv fun x y e1 e2 hv => imap hv fun b' hb e => ?_
  subst e
  obtain rfl := Option.some.inj h
  exact wpAny_isTrue_Compare1 (h1 e1 c fun V s1 x1 r1 => h2 e2 (c.ext x1) fun V' s2 x2 r2 =>
    cmp_ok hb c.a (r1.ext x2) r2 fun s3 x3 => wpAny_truthy_bool (k _ ((x1.trans x2).trans x3))) hm
theorem mevals_length {Γ : xB} {σ : St} : ∀ {ms : List ME} {l : List PV}, xW Γ σ ms = some l → l.length = ms.length
  | [], _, h => by cases h; rfl
  | m :: ms, l, h => ivVL h fun x l' e1 e2 h => by
      obtain rfl := Option.some.inj h
      simp [mevals_length e2]
theorem plain_star {es : List Expr} (h : es.all yU = true) : es.all kdsPlain = true := by
  rw [List.all_eq_true] at h ⊢
  intro e he
  have := h e he
  cases e <;> first | rfl | cases this
theorem any_star {es : List Expr} (h : es.all yU = true) {pos : Pos} {env : Env} : (backTo pos (starEach es env)).any (·.1) = false := by
  induction es with
  | nil => rfl
  | cons e es ih =>
    rw [List.all_cons, Bool.and_eq_true] at h
    rw [qL h.1]
    show (false || (backTo pos (starEach es env)).any (·.1)) = false
    rw [ih h.2]; rfl
theorem set_ok {es ms} (hc : EvsOK p N es ms) {σ l env O A s E pos} {Q : Value → Shared → Prop} {ns : List Int} (h : xW p.Γ σ ms = some l) (hi : allInt l = some ns) (c : p.Cx N env σ O A s)
    (hr : displayRoad 0 es = .oneByOne) (hl : es.length ≤ 30)
    (k : ∀ d s' S k', Ext s s' → s'.heap.SetOf (intKind p.prog p.w) d S k' → (∀ x, S x = ns.contains x) → Q (.ref d) s') : wpAny (model p.prog p.w) A (eval (.Set es 0 pos) env) Q E s := by
  rw [arm_eval_Set]
  refine wpAny_bind (wpAny_standAt ?_)
  have hmain : ∀ {Q : Bool → Shared → Prop}, (∀ b, Q b s) → wpAny (model p.prog p.w) A (inMainModule env) Q E s := by
    intro Q hq
    obtain ⟨cd, o, vs, e, ho, hd⟩ := c.e.code
    unfold inMainModule
    try dsimp only
    rw [e]
    split
    · exact wpAny_pure (hq _)
    · refine wpAny_bind (wpAny_fieldsOf (c.k _ _ ho) hd ?_)
      split
      · exact wpAny_bind (wpAny_askSetting (wpAny_pure (hq _)))
      · exact wpAny_pure (hq _)
  refine wpAny_bind (hmain fun b => ?_)
  rw [kds_star es (plain_star hc.star), List.map_map]
  refine kds_core (ts := (evalEach es env).map fun t => do let v ← t; standAt pos; pure v) (by rw [hr]; rfl) ?_ ?_ ?_ fun led => ?_
  · refine List.findIdx?_eq_none_iff.mpr fun x hx => ?_
    obtain ⟨t, _, rfl⟩ := List.mem_map.mp hx
    rfl
  · rw [List.length_map, kds_len]; exact hl
  · rw [List.map_map]; rfl
  · have x0 := Ext.push s { cls := .type "set", dict := none, data := .set #[] 0 (.fresh 0 0 led) } s.toks
    refine hc.all h (c.ext x0) fun vs s1 x1 r1 => ?_
    rw [hr]
    have hset : s1.heap.SetOf (intKind p.prog p.w) s.heap.objs.size (fun _ => false) 0 := by
      exact (setObjOf_fresh (knd := intKind p.prog p.w) led).setOf (x1.keep _ _ (Heap.get?_push_size _ rfl)) (by decide)
    have hlen : vs.length < 200 := by
      have h1 := r1.length
      have h2 := mevals_length h
      have h3 := hc.len
      omega
    refine set_fill (allInt_rep hi r1) hset (by omega) fun s2 S k' a1 a2 a3 a4 a5 a6 => ?_
    refine k _ _ _ k' ⟨fun b o e => ?_, a4.trans x1.gens, a5.trans x1.drawn, a6.trans x1.os⟩ a1 (fun x => by rw [a2]; simp)
    exact a3.extBut b o (Nat.ne_of_lt (Heap.lt_size e)) (x1.keep _ _ (x0.keep _ _ e))
theorem tr_inset {l es a bs q q'} (h1 : yY p N l a) (h2 : EvsOK p N es bs) (hr : displayRoad 0 es = .oneByOne) (hl : es.length ≤ 30) (hm : behindInMarks .In (.Set es 0 q') = false) :
    TrOK p N (.Compare l [.In] [.Set es 0 q'] q) (.inset a bs) := fun _ _ _ _ _ _ _ _ h c k => by
  refine iv1 h fun v hv h => ivIL hv fun x l e1 e2 hv => ?_
  obtain ⟨ns, hb, rfl⟩ := Option.map_eq_some_iff.mp hv
  cases h
  refine wpAny_isTrue_Compare1 (h1 e1 c fun V s1 x1 r1 => ?_) hm
  obtain ⟨t, rfl⟩ := r1
  exact set_ok h2 e2 hb (c.ext x1) hr hl fun d s2 S k' x2 hS hSx => wpAny_inSet_of (intKind_is p.prog p.w x t) rfl hS
    (by rw [hSx]; exact wpAny_truthy_bool (k _ ((x1.trans x2).trans (Ext.toks ..))))
theorem ev_and {es as q} (h1 : EvsOK p N es as) : yY p N (.BoolOp .And es q) (.and as) := fun _ _ _ _ _ _ _ _ h c k => by
  exact h1.and h c k
theorem ev_or {es as q} (h1 : EvsOK p N es as) : yY p N (.BoolOp .Or es q) (.or as) := fun _ _ _ _ _ _ _ _ h c k => by
  exact h1.or h c k
theorem ev_ite {t x y cc a b q} (h1 : TrOK p N t cc) (h2 : yY p N x a) (h3 : yY p N y b) : yY p N (.IfExp t x y q) (.ite cc a b) := fun _ _ _ _ _ _ _ _ h c k => by
  exact wpAny_IfExp (iBool h (fun e1 h => h1 e1 c fun s1 x1 => h2 h (c.ext x1) fun V s2 x2 r2 => k _ _ (x1.trans x2) r2)
    fun e1 h => h1 e1 c fun s1 x1 => h3 h (c.ext x1) fun V s2 x2 r2 => k _ _ (x1.trans x2) r2)
theorem xY (P : p.Ok) {v i a b q} (h1 : BaOK p N v a) (h2 : yY p N i b) (hs : ∀ o j, subscripted i false o j = operate [o, j] (getItem o j)) : yY p N (.Subscript v i q) (.idx a b) := fun _ _ _ _ _ _ _ _ h c k => by
  refine iv2 h fun x y e1 e2 h => ?_
  exact Subscript_ (h1 e1 c fun V s1 x1 r1 => h2 e2 (c.ext x1) fun V' s2 x2 r2 =>
    idx_ok h P.bs.tok (c.ext (x1.trans x2)).k (r1.ext x2) r2 hs fun V'' s3 x3 r3 => k _ _ ((x1.trans x2).trans x3) r3)
theorem ev_slc {v lo hi a l u q q'} (h1 : BaOK p N v a) (h2 : OpOK p N lo l) (h3 : OpOK p N hi u) : yY p N (.Subscript v (.Slice lo hi none q') q) (.slc a l u) := fun _ _ _ _ _ _ _ _ h c k => by
  refine ivS h fun x lo hi e1 e2 e3 h => ?_
  exact Subscript_ (h1 e1 c fun V s1 x1 r1 => wpAny_Slice (h2 e2 (c.ext x1) fun vl s2 x2 p2 => h3 e3 (c.ext (x1.trans x2)) fun vu s3 x3 p3 => by
    rw [evalPart_none]
    have x4 := Ext.push s3 { cls := .type "slice", data := .fields #[vl, vu, .none] } s3.toks
    exact wpAny_pure (slc_ok h (c.ext ((x1.trans x2).trans (x3.trans x4))).u (r1.ext (x2.trans (x3.trans x4))) (Heap.IsSliceOf.new ..) p2 p3 (fun _ _ => rfl) fun V' s4 x5 r5 => k _ _ ((x1.trans x2).trans ((x3.trans x4).trans x5)) r5)))
theorem zN {es as kk q} (h1 : EvsOK p N es as) : yY p N (.Tuple es kk q) (.tup as) := fun _ _ _ _ _ _ _ _ h c k => by
  rename_i O A s E Q
  refine ivL h fun l e1 h => ?_
  refine jR h fun hl e => ?_
  · subst e
    refine wpAny_Tuple (h1.ev e1 c fun vs s1 x1 r1 => ?_)
    have hlen := r1.length
    have := xX
    refine ⟨by omega, k _ _ (x1.trans (Ext.push ..)) ⟨_, vs, rfl, (c.u.ext x1).fresh, ⟨0, Heap.get?_push_size _ rfl⟩, r1.keep ((Ext.push s1 _ s1.toks).keepO O)⟩⟩
theorem ev_lst {es as q} (h1 : EvsOK p N es as) : yY p N (.List es q) (.lst as) := fun _ _ _ _ _ _ _ _ h c k => by
  rename_i O A s E Q
  refine ivL h fun l e1 h => ?_
  refine jR h fun hl e => ?_
  · subst e
    refine wpAny_List (h1.ev e1 c fun vs s1 x1 r1 => ?_)
    have hlen := r1.length
    have := xX
    refine ⟨by omega, k _ _ (x1.trans (Ext.push ..)) ⟨_, vs, rfl, (c.u.ext x1).fresh, ⟨0, Heap.get?_push_size _ rfl⟩, r1.keep ((Ext.push s1 _ s1.toks).keepO O)⟩⟩
theorem jZ (P : p.Ok) {e a q q'} (h1 : BaOK p N e a) (hg : ("len" : Str) ∈ N.gl) (hn : yU e = true) : yY p N (.Call (.Name "len" q) [e] [] q') (.len a) := fun _ _ _ _ _ _ _ _ h c k => by
  refine iv1 h fun x e1 h => ?_
  refine Call_ (yH P.bs c hg (by decide) boot_len rfl ?_)
  exact jY hn callWith_builtin (h1 e1 c fun V s1 x1 r1 => len_ok h r1 fun V' s2 x2 r2 => k _ _ (x1.trans x2) r2)
theorem ev_abs (P : p.Ok) {e a q q'} (h1 : yY p N e a) (hg : ("abs" : Str) ∈ N.gl) (hn : yU e = true) : yY p N (.Call (.Name "abs" q) [e] [] q') (.abs a) := fun _ _ _ _ _ _ _ _ h c k => by
  refine ivI h fun i e1 h => ?_
  obtain rfl := Option.some.inj h
  refine Call_ (yH P.bs c hg (by decide) PyProof.Rows.boot_abs rfl ?_)
  refine jY hn callWith_builtin (h1 e1 c fun V s1 x1 r1 => ?_)
  obtain ⟨t, rfl⟩ := r1
  exact PyProof.Rows.call_abs_int fun u tk => k _ _ (x1.trans (Ext.toks ..)) ⟨_, rfl⟩
theorem ev_toInt (P : p.Ok) {e a q q'} (h1 : yY p N e a) (hg : ("int" : Str) ∈ N.gl) (hn : yU e = true) : yY p N (.Call (.Name "int" q) [e] [] q') (.toInt a) := fun _ _ _ _ _ _ _ _ h c k => by
  refine ivI h fun i e1 h => ?_
  obtain rfl := Option.some.inj h
  refine Call_ (yH P.bs c hg (by decide) PyProof.Rows.boot_int rfl ?_)
  refine jY hn PyProof.Rows.callWith_type (h1 e1 c fun V s1 x1 r1 => ?_)
  obtain ⟨t, rfl⟩ := r1
  exact call_int_int (k _ _ x1 ⟨_, rfl⟩)
theorem ev_max (P : p.Ok) {e e' a b q q'} (h1 : yY p N e a) (h2 : yY p N e' b) (hg : ("max" : Str) ∈ N.gl) (hn : yU e = true) (hn' : yU e' = true) : yY p N (.Call (.Name "max" q) [e, e'] [] q') (.max2 a b) := fun _ _ _ _ _ _ _ _ h c k => by
  refine ivII h fun x y e1 e2 h => ?_
  obtain rfl := Option.some.inj h
  refine Call_ (yH P.bs c hg (by decide) PyProof.Rows.boot_max rfl ?_)
  refine callWith2 hn hn' callWith_builtin (h1 e1 c fun V s1 x1 r1 => h2 e2 (c.ext x1) fun V' s2 x2 r2 => ?_)
  obtain ⟨t, rfl⟩ := r1
  obtain ⟨u, rfl⟩ := r2
  exact max_ok c.a fun V s3 x3 r3 => k _ _ ((x1.trans x2).trans x3) r3
theorem ev_min (P : p.Ok) {e e' a b q q'} (h1 : yY p N e a) (h2 : yY p N e' b) (hg : ("min" : Str) ∈ N.gl) (hn : yU e = true) (hn' : yU e' = true) : yY p N (.Call (.Name "min" q) [e, e'] [] q') (.min2 a b) := fun _ _ _ _ _ _ _ _ h c k => by
  refine ivII h fun x y e1 e2 h => ?_
  obtain rfl := Option.some.inj h
  refine Call_ (yH P.bs c hg (by decide) PyProof.Rows.boot_min rfl ?_)
  refine callWith2 hn hn' callWith_builtin (h1 e1 c fun V s1 x1 r1 => h2 e2 (c.ext x1) fun V' s2 x2 r2 => ?_)
  obtain ⟨t, rfl⟩ := r1
  obtain ⟨u, rfl⟩ := r2
  exact min_ok c.a fun V s3 x3 r3 => k _ _ ((x1.trans x2).trans x3) r3
theorem ev_lstrip {o a q q'} (h1 : yY p N o a) (hb : ∀ env, attributeBase o "lstrip" env (eval o env) = eval o env) (hp : (q.endLine == q'.line) = true) :
    yY p N (.Call (.Attribute o "lstrip" q) [] [] q') (.meth .lstrip a []) := fun _ _ _ _ _ _ _ _ h c k => by
  refine ivVL h fun x l e1 e2 h => ?_
  obtain rfl := Option.some.inj e2
  refine Call_method0 (hb _) hp (h1 e1 c fun V s1 x1 r1 => ?_)
  refine ivStr h fun l e h => jR h fun hl e' => ?_
  subst e e'
  obtain ⟨t, rfl⟩ := r1
  refine SB.lstrip (fun t' kk => k _ _ (x1.trans (Ext.toks ..)) ⟨t', ?_⟩) (by have := xX; simp [Str.length]; omega)
  simp [U, S]
theorem ev_rstripC {o e a b q q'} (h1 : yY p N o a) (h2 : yY p N e b) (hn : yU e = true) (hb : ∀ env, attributeBase o "rstrip" env (eval o env) = eval o env) (hp : (q.endLine == q'.line) = true) :
    yY p N (.Call (.Attribute o "rstrip" q) [e] [] q') (.meth .rstripC a [b]) := fun {σ v env O A s E Q} h c k => by
  refine ivVL h fun x l e1 e2 h => ?_
  refine ivVL e2 fun y l' e5 e4 e2 => ?_
  obtain rfl := Option.some.inj e4
  obtain rfl := Option.some.inj e2
  refine Call_method1 (hb env) (qL hn [] env) hp (h1 e1 c fun V s1 x1 r1 => ?_)
  refine ivStr h fun a e h => ?_
  cases y with
  | str b =>
    refine jR h fun hl e' => ?_
    subst e e'
    obtain ⟨t, rfl⟩ := r1
    refine SB.rstripChars (h2 e5 (c.ext x1) fun V' s2 x2 r2 => ?_) (by have := xX; simp [Str.length]; omega)
    obtain ⟨u, rfl⟩ := r2
    refine ⟨_, _, rfl, fun t' kk => k _ _ ((x1.trans x2).trans (Ext.toks ..)) ⟨t', ?_⟩⟩
    simp [U, S]
  | _ => exact nn h
theorem ev_endswith {o e a b q q'} (h1 : yY p N o a) (h2 : yY p N e b) (hn : yU e = true) (hb : ∀ env, attributeBase o "endswith" env (eval o env) = eval o env) (hp : (q.endLine == q'.line) = true) :
    yY p N (.Call (.Attribute o "endswith" q) [e] [] q') (.meth .endswith a [b]) := fun {σ v env O A s E Q} h c k => by
  refine ivVL h fun x l e1 e2 h => ?_
  refine ivVL e2 fun y l' e5 e4 e2 => ?_
  obtain rfl := Option.some.inj e4
  obtain rfl := Option.some.inj e2
  refine Call_method1 (hb env) (qL hn [] env) hp (h1 e1 c fun V s1 x1 r1 => ?_)
  refine ivStr h fun a e h => ?_
  cases y with
  | str b =>
    obtain rfl := Option.some.inj h
    subst e
    obtain ⟨t, rfl⟩ := r1
    refine SB.endswith (h2 e5 (c.ext x1) fun V' s2 x2 r2 => ?_)
    obtain ⟨u, rfl⟩ := r2
    exact ⟨_, _, rfl, k _ _ (x1.trans x2) rfl⟩
  | _ => exact nn h
theorem ev_call (P : p.Ok) {x e es as q q'} {f : Nat} {ad : Addr} (hf : p.B.FT[f]? = some (x, ad)) (hg : x ∈ N.gl) (hd : (x == ("__debug__" : Str)) = false) (h1 : EvsOK p N (e :: es) as) :
    yY p N (.Call (.Name x q) (e :: es) [] q') (.call f as) := fun _ _ _ _ _ _ _ _ h c k => by
  refine ivL h fun l e1 h => ?_
  have hs := h1.star
  rw [List.all_cons, Bool.and_eq_true] at hs
  refine Call_ (load_fn P.bs c hg (List.mem_of_getElem? hf) hd ?_)
  refine P.bs.cw _ _ (List.mem_of_getElem? hf) (h1.ev e1 c fun vs s1 x1 r1 => ⟨(c.ext x1).k, ?_⟩) (qL hs.1 _ _) (any_star hs.2)
  exact P.sp f _ _ hf l _ h c.a (c.ext x1).k (c.u.ext x1) c.o r1 fun V s2 x2 r2 => k _ _ (x1.trans x2) r2
theorem ev_dget {i : Nat} {x e a q q' q''} (hx : N.slots[i]? = some x) (hd : (x == ("__debug__" : Str)) = false) (h1 : yY p N e a) (hn : yU e = true) (hp : (q'.endLine == q''.line) = true) :
    yY p N (.Call (.Attribute (.Name x q) "get" q') [e] [] q'') (.dget i a) := fun _ _ _ _ _ _ _ _ h c k => by
  refine sDicI h fun d x hσ e1 h => ?_
  obtain rfl := Option.some.inj h
  refine wpAny_Call_method1_late rfl hp (by rw [qL hn]; rfl) (jP c hσ hx hd fun V as ⟨rf, hr⟩ _ => ?_)
  obtain ⟨a, ks, rfl, rfl, hsm, hdo, hrd⟩ := hr
  refine ⟨"dict", "dict.get", PySem.F.plainAttrs_dict, F.slot_dict_get, PySem.F.type_dict_get, hdo.typeIs, hdo.mapOf.noDict, wpAny_dict_get1 (knd := intKind p.prog p.w) hsm (h1 e1 c fun V s1 x1 r1 => ?_)⟩
  obtain ⟨t, rfl⟩ := r1
  obtain ⟨o, ho, hod⟩ := Heap.dictOf_iff.mp hdo
  have hdo' : s1.heap.DictOf (intKind p.prog p.w) a ks := Heap.dictOf_iff.mpr ⟨o, x1.keep _ _ ho, hod⟩
  refine ⟨x, _, intKind_is p.prog p.w x t, hdo'.mapOf, k _ _ (x1.trans (Ext.toks ..)) ?_⟩
  obtain ⟨q1, q2⟩ := hrd.lookup x
  cases hl : d.lookup x with
  | none =>
    rw [hl] at q1
    cases hv : valueAt ks x with
    | none => exact rfl
    | some V => rw [hv] at q1; cases q1
  | some v =>
    obtain ⟨V, hV, r⟩ := q2 v hl
    rw [hV]
    exact r.ext x1
theorem tr_dnin {i : Nat} {x e a q q'} (hx : N.slots[i]? = some x) (hd : (x == ("__debug__" : Str)) = false) (h1 : yY p N e a) : TrOK p N (.Compare e [.NotIn] [.Name x q] q') (.dnin i a) := fun _ _ _ _ _ _ _ _ h c k => by
  refine iv1 h fun v hv h => sDicI hv fun d x hσ e1 hv => ?_
  obtain rfl := Option.some.inj hv
  obtain rfl := Option.some.inj h
  refine wpAny_isTrue_Compare1 (h1 e1 c fun V s1 x1 r1 => jP (c.ext x1) hσ hx hd fun V' as ⟨rf, hr⟩ _ => ?_) rfl
  obtain ⟨t, rfl⟩ := r1
  obtain ⟨a, ks, rfl, rfl, hsm, hdo, hrd⟩ := hr
  exact wpAny_notIn_of (intKind_is p.prog p.w x t) hsm hdo.mapOf (by rw [← (hrd.lookup x).1]; exact wpAny_truthy_bool (k _ (x1.trans (Ext.toks ..))))
theorem tr_dempty {i : Nat} {x q q'} (hx : N.slots[i]? = some x) (hd : (x == ("__debug__" : Str)) = false) : TrOK p N (.UnaryOp .Not (.Name x q) q') (.dempty i) := fun _ _ _ _ _ _ _ _ h c k => by
  refine iv1 h fun v hv h => sDic hv fun d hσ hv => ?_
  refine jR hv fun hsz e => ?_
  · subst e
    obtain rfl := Option.some.inj h
    refine isTrue_not (isTrue_plain (jP c hσ hx hd fun V' as ⟨rf, hr⟩ _ => ?_))
    obtain ⟨a, ks, rfl, rfl, hsm, hdo, hrd⟩ := hr
    have hl := hrd.length
    have hz : SZ = 100000 := rfl
    refine wpAny_truthy_dict hsm hdo (by omega) ?_
    have e : ks.isEmpty = d.isEmpty := by cases ks <;> cases d <;> simp_all
    rw [e, Bool.not_not]
    exact k _ (Ext.toks ..)
theorem tr_stuck {e} : TrOK p N e .stuck := fun _ _ _ _ _ _ _ _ h c k => nn h
theorem qV {e a} (h1 : yY p N e a) : BaOK p N e a := fun _ _ _ _ _ _ _ _ h c k => h1 h c fun V s1 x r => k V s1 x r.b
theorem zK {i : Nat} {x q} (hx : N.slots[i]? = some x) (hd : (x == ("__debug__" : Str)) = false) : BaOK p N (.Name x q) (.bor i) := fun _ _ _ _ _ _ _ _ h c k => by
  refine sOwn h fun l hσ h => ?_
  obtain rfl := Option.some.inj h
  refine jP c hσ hx hd fun V as ⟨rf, hr⟩ _ => ?_
  obtain ⟨a, vs, rfl, _, hl, q⟩ := hr
  exact k _ _ (Ext.refl _) ⟨a, vs, rfl, hl, q⟩
theorem own2_len {T : Addr} {O : Addr → Prop} {h : Heap} : ∀ {ls : List (List PV)} {as : List Addr}, zL T O h ls as → as.length = ls.length
  | [], _, e => by cases e; rfl
  | x :: ls, _, ⟨a, r, vs, e, hp, q, o⟩ => by subst e; simp [own2_len o]
theorem xN {T : Addr} {O : Addr → Prop} {h : Heap} : ∀ {ls : List (List PV)} {as : List Addr}, zL T O h ls as → ∀ {j : Nat} {l : List PV}, ls[j]? = some l → ∃ b vs, as[j]? = some b ∧ h.PlainList b vs.toArray ∧ yX T O h l vs
  | [], _, _, j, l, e => by simp at e
  | x :: ls, _, ⟨a, r, vs, e, hp, q, o⟩, 0, l, e' => by
    subst e; simp at e'; subst e'
    exact ⟨a, vs, by simp, hp, q⟩
  | x :: ls, _, ⟨a, r, vs, e, hp, q, o⟩, j + 1, l, e' => by
    subst e; simp at e'
    obtain ⟨b, vs', h1, h2, h3⟩ := xN o e'
    exact ⟨b, vs', by simpa using h1, h2, h3⟩
theorem op_none : OpOK p N none none := fun _ _ _ _ _ _ _ _ h c k => by
  obtain rfl := Option.some.inj h
  exact wpAny_pure (k _ _ (Ext.refl _) rfl)
theorem op_some {e a} (h1 : yY p N e a) : OpOK p N (some e) (some a) := fun _ _ _ _ _ _ _ _ h c k => by
  refine ivI h fun i e1 h => ?_
  obtain rfl := Option.some.inj h
  exact h1 e1 c fun V s1 x1 r1 => k _ _ x1 r1
theorem qK : EvsOK p N [] [] where
  len := rfl
  star := rfl
  ev := fun h c k => by obtain rfl := Option.some.inj h; exact spliced_nil (k _ _ (Ext.refl _) rfl)
  all := fun h c k => by obtain rfl := Option.some.inj h; exact wpAny_pure (k _ _ (Ext.refl _) rfl)
  and := fun h c k => nn h
  or := fun h c k => nn h
theorem qX {e es a as} (h1 : yY p N e a) (hn : yU e = true) (h2 : EvsOK p N es as) : EvsOK p N (e :: es) (a :: as) where
  len := by simp [h2.len]
  star := by rw [List.all_cons, hn, h2.star]; rfl
  ev := fun h c k => ivVL h fun x l' e1 e2 h => by
    obtain rfl := Option.some.inj h
    rw [qL hn]
    exact spliced_cons (h1 e1 c fun V s1 x1 r1 => h2.ev e2 (c.ext x1) fun vs s2 x2 r2 => k _ _ (x1.trans x2) ⟨V, vs, rfl, r1.ext x2, r2⟩)
  all := fun {σ l env O A s E pos Q} h c k => ivVL h fun x l' e1 e2 h => by
    obtain rfl := Option.some.inj h
    rw [arm_evalEach_cons, List.map_cons]
    show wpAny _ A ((eval e env >>= fun v => standAt pos >>= fun _ => pure v) >>= fun v => holding [v] (evalAll ((evalEach es env).map fun t => do let v ← t; standAt pos; pure v)) >>= fun r => pure (v :: r)) Q E s
    refine wpAny_bind (wpAny_bind (h1 e1 c fun V s1 x1 r1 => wpAny_bind (wpAny_standAt (wpAny_pure ?_))))
    exact wpAny_bind (wpAny_holding (h2.all e2 (c.ext x1) fun vs s2 x2 r2 => wpAny_pure (k _ _ (x1.trans x2) ⟨V, vs, rfl, r1.ext x2, r2⟩)))
  and := fun h c k => by
    match es, as, h2, h with
    | [], [], _, h => exact boolOp_one (h1 h c k)
    | _ :: _, [], h2, _ => exact absurd h2.len (by simp)
    | [], _ :: _, h2, _ => exact absurd h2.len (by simp)
    | _ :: _, _ :: _, h2, h =>
      refine iv1 h fun x e1 h => boolOp_two (h1 e1 c fun V s1 x1 r1 => iBool2 h (fun ht h => ?_) fun ht h => ?_)
      · exact truth_ok ht r1 fun s2 x2 => h2.and h (c.ext (x1.trans x2)) fun V' s3 x3 r3 => k _ _ ((x1.trans x2).trans x3) r3
      · obtain rfl := Option.some.inj h
        exact truth_ok ht r1 fun s2 x2 => k _ _ (x1.trans x2) (r1.ext x2)
  or := fun h c k => by
    match es, as, h2, h with
    | [], [], _, h => exact boolOp_one (h1 h c k)
    | _ :: _, [], h2, _ => exact absurd h2.len (by simp)
    | [], _ :: _, h2, _ => exact absurd h2.len (by simp)
    | _ :: _, _ :: _, h2, h =>
      refine iv1 h fun x e1 h => boolOp_two (h1 e1 c fun V s1 x1 r1 => iBool h (fun ht h => ?_) fun ht h => ?_)
      · obtain rfl := Option.some.inj h
        exact truth_ok ht r1 fun s2 x2 => k _ _ (x1.trans x2) (r1.ext x2)
      · exact truth_ok ht r1 fun s2 x2 => h2.or h (c.ext (x1.trans x2)) fun V' s3 x3 r3 => k _ _ ((x1.trans x2).trans x3) r3
theorem xH {x a q} (h1 : TrOK p N x a) : TrOK p N (.UnaryOp .Not x q) (.not a) := fun _ _ _ _ _ _ _ _ h c k => by
  refine imap h fun b' hb e => ?_
  subst e
  exact isTrue_not (h1 hb c fun s1 x1 => k _ x1)
theorem xL {es as q} (h1 : TrsOK p N es as) : TrOK p N (.BoolOp .And es q) (.and as) := fun _ _ _ _ _ _ _ _ h c k => by
  exact h1.and h c k
theorem tr_or {es as q} (h1 : TrsOK p N es as) : TrOK p N (.BoolOp .Or es q) (.or as) := fun _ _ _ _ _ _ _ _ h c k => by
  exact h1.or h c k
noncomputable def valTest : ME → Bool
  | .not _ => false | .and _ => false | .or _ => false | .ite .. => false
  | _ => true
theorem xJ {e a} (h1 : yY p N e a) (ha : valTest a = true) (he : ∀ env whole, isTrue e env whole = (do let v ← whole; standAt e.pos; holding [v] (truthy v))) : TrOK p N e a := fun {σ b env O A s E Q} h c k => by
  have hm : (match qM p.Γ σ a with | some x => yJ x | none => none) = some b := by
    rw [← h]; cases a <;> first | rfl | cases ha
  exact iv1 hm fun v hv hm => isTrue_plain (h1 hv c fun V s1 x1 r1 => truth_ok hm r1 fun s2 x2 => k _ (x1.trans x2)) (he _ _)
theorem zV : TrsOK p N [] [] where
  and := fun h c k => by obtain rfl := Option.some.inj h; exact isTrue_and_nil (k _ (Ext.refl _))
  or := fun h c k => by obtain rfl := Option.some.inj h; exact isTrue_or_nil (k _ (Ext.refl _))
theorem qB {e es a as} (h1 : TrOK p N e a) (h2 : TrsOK p N es as) : TrsOK p N (e :: es) (a :: as) where
  and := fun h c k => isTrue_and (iBool h (fun e1 h => h1 e1 c fun s1 x1 => h2.and h (c.ext x1) fun s2 x2 => k _ (x1.trans x2))
    fun e1 h => h1 e1 c fun s1 x1 => by obtain rfl := Option.some.inj h; exact k _ x1)
  or := fun h c k => isTrue_or (iBool2 h (fun e1 h => h1 e1 c fun s1 x1 => by obtain rfl := Option.some.inj h; exact k _ x1)
    fun e1 h => h1 e1 c fun s1 x1 => h2.or h (c.ext x1) fun s2 x2 => k _ (x1.trans x2))
end
end Mine
end
set_option tactic.hygienic false
section
open PySem PySem.W PyProof.Rows PySem.SeqAt PySem.Calls
namespace Mine
inductive Fl where
  | next
  | brk
  | ret (v : PV)
inductive MS where
  | asg (i : Nat) (e : ME)
  | asgL (i : Nat) (e : ME)
  | asgLL (i : Nat)
  | asgD (i : Nat)
  | asg2 (i j : Nat) (e : ME)
  | unp (is : List Nat) (es : List (Bool × ME))
  | unpR (is : List Nat) (es : List (Bool × ME))
  | unpE (is : List Nat) (e : ME)
  | aug (i : Nat) (op : MOp) (e : ME)
  | app (i : Nat) (e : ME)
  | seti (i : Nat) (k e : ME)
  | augi (i : Nat) (k : ME) (op : MOp) (e : ME)
  | app2 (i : Nat) (k e : ME)
  | appN (i : Nat)
  | trunc (i : Nat) (e : ME)
  | popOr (j i : Nat) (e : ME)
  | pop (i : Nat)
  | dset (i : Nat) (k e : ME)
  | ddel (i : Nat) (k : ME)
  | ifs (c : ME) (a b : List MS)
  | whil (c : ME) (body : List MS)
  | forUp (i : Nat) (a b : ME) (body : List MS)
  | forDown (i : Nat) (a : ME) (body : List MS)
  | forL (is : List Nat) (e : ME) (body : List MS)
  | forEnum (i j : Nat) (e : ME) (body : List MS)
  | forRev (x i : Nat) (k : ME) (body : List MS)
  | brk
  | ret (e : ME)
  | retN
  | assert (c : ME)
  | skip
  | freeze (i : Nat)
  | yield (e : ME)
  | stuck
noncomputable def asList : PV → Option SV
  | .lst l => some (.own l)
  | z_ => none
noncomputable def zD : List Nat → List PV → St → Option St
  | [], [], σ => some σ
  | i :: is, x :: xs, σ => zD is xs (σ.set i (.val x))
  | z_, y_, x_ => none
noncomputable def stores : List Nat → List (Bool × PV) → St → Option St
  | [], [], σ => some σ
  | i :: is, (b, x) :: xs, σ => match (if b then asList x else some (.val x)) with
    | some sv => stores is xs (σ.set i sv)
    | none => none
  | z_, y_, x_ => none
noncomputable def xK : List Nat → PV → St → Option St
  | [i], x, σ => some (σ.set i (.val x))
  | is, .tup xs, σ => zD is xs σ
  | is, .tok xs, σ => zD is xs σ
  | z_, y_, x_ => none
noncomputable def jX (body : St → Option (Fl × St)) (bind : PV → St → Option St) : List PV → St → Option (Fl × St)
  | [], σ => some (.next, σ)
  | x :: xs, σ => match bind x σ with
    | some σ₁ => match body σ₁ with
      | some (.next, σ₂) => jX body bind xs σ₂
      | some (.brk, σ₂) => some (.next, σ₂)
      | some (.ret v, σ₂) => some (.ret v, σ₂)
      | none => none
    | none => none
noncomputable def jW (test : St → Option Bool) (body : St → Option (Fl × St)) : Nat → St → Option (Fl × St)
  | 0, _ => none
  | n + 1, σ => match test σ with
    | some true => match body σ with
      | some (.next, σ₂) => jW test body n σ₂
      | some (.brk, σ₂) => some (.next, σ₂)
      | some (.ret v, σ₂) => some (.ret v, σ₂)
      | none => none
    | some false => some (.next, σ)
    | none => none
noncomputable def zW : Nat → List PV → List PV
  | _, [] => []
  | k, x :: l => .tup [.int k, x] :: zW (k + 1) l
noncomputable def yR (d : List (Int × PV)) (k : Int) (v : PV) : List (Int × PV) :=
  if d.any (fun q => q.1 = k) then d.map (fun q => if q.1 = k then (q.1, v) else q) else d ++ [(k, v)]
section
variable (Γ : xB)
noncomputable def zH (σ : St) : MS → Option (Fl × St)
  | .asg i e => match qM Γ σ e with | some v => some (.next, σ.set i (.val v)) | none => none
  | .asgL i e => match qM Γ σ e with | some (.lst l) => some (.next, σ.set i (.own l)) | z_ => none
  | .asgLL i => some (.next, σ.set i (.own2 [[.int 0]]))
  | .asgD i => some (.next, σ.set i (.dic []))
  | .asg2 i j e => match qM Γ σ e with | some v => some (.next, (σ.set i (.val v)).set j (.val v)) | none => none
  | .unp is es => match xW Γ σ (es.map (·.2)) with
    | some vs => (stores is ((es.map (·.1)).zip vs) σ).map fun σ' => (.next, σ')
    | none => none
  | .unpR is es => match xW Γ σ (es.map (·.2)) with
    | some vs => (stores is.reverse ((es.map (·.1)).zip vs).reverse σ).map fun σ' => (.next, σ')
    | none => none
  | .unpE is e => match qM Γ σ e with
    | some (.tup xs) => (zD is xs σ).map fun σ' => (.next, σ')
    | z_ => none
  | .aug i op e => match σ i, qM Γ σ e with
    | some (.val (.int x)), some (.int y) => (match yP op (.int x) (.int y) with | some r => some (.next, σ.set i (.val r)) | none => none)
    | z_, y_ => none
  | .app i e => match σ i, qM Γ σ e with
    | some (.own l), some v => if l.length ≤ SZ then some (.next, σ.set i (.own (l ++ [v]))) else none
    | z_, y_ => none
  | .seti i k e => match σ i, qM Γ σ e, qM Γ σ k with
    | some (.own l), some v, some (.int j) => (match posI l.length j with | some n => some (.next, σ.set i (.own (l.set n v))) | none => none)
    | z_, y_, x_ => none
  | .augi i k op e => match σ i, qM Γ σ k, qM Γ σ e with
    | some (.own l), some (.int j), some (.int y) => (match posI l.length j, yN l j with
      | some n, some (.int x) => (match yP op (.int x) (.int y) with | some r => some (.next, σ.set i (.own (l.set n r))) | none => none)
      | z_, y_ => none)
    | z_, y_, x_ => none
  | .app2 i k e => match σ i, qM Γ σ k, qM Γ σ e with
    | some (.own2 ls), some (.int j), some v => (match posI ls.length j, yN ls j with
      | some n, some l => if l.length ≤ SZ then some (.next, σ.set i (.own2 (ls.set n (l ++ [v])))) else none
      | z_, y_ => none)
    | z_, y_, x_ => none
  | .appN i => match σ i with
    | some (.own2 ls) => if ls.length ≤ SZ then some (.next, σ.set i (.own2 (ls ++ [[]]))) else none
    | z_ => none
  | .trunc i e => match σ i, qM Γ σ e with
    | some (.own2 ls), some (.int k) => if ls.length ≤ SZ then some (.next, σ.set i (.own2 (jQ ls none (some k)))) else none
    | z_, y_ => none
  | .popOr j i e => match σ i with
    | some (.own l) => (match l.getLast? with
      | some x => if l.length ≤ SZ then (match yJ x with
        | some true => some (.next, (σ.set i (.own l.dropLast)).set j (.val x))
        | some false => (match qM Γ (σ.set i (.own l.dropLast)) e with
          | some v => some (.next, (σ.set i (.own l.dropLast)).set j (.val v))
          | none => none)
        | none => none) else none
      | none => none)
    | z_ => none
  | .pop i => match σ i with
    | some (.own l) => if l.length ≤ SZ && !l.isEmpty then some (.next, σ.set i (.own l.dropLast)) else none
    | z_ => none
  | .dset i k e => match σ i, qM Γ σ e, qM Γ σ k with
    | some (.dic d), some v, some (.int x) => if d.length ≤ SZ then some (.next, σ.set i (.dic (yR d x v))) else none
    | z_, y_, x_ => none
  | .ddel i k => match σ i, qM Γ σ k with
    | some (.dic d), some (.int x) => if d.length ≤ SZ && (d.lookup x).isSome then some (.next, σ.set i (.dic (d.filter fun q => q.1 != x))) else none
    | z_, y_ => none
  | .brk => some (.brk, σ)
  | .ret e => match qM Γ σ e with | some v => some (.ret v, σ) | none => none
  | .retN => some (.ret .none, σ)
  | .assert c => match qR Γ σ c with | some true => some (.next, σ) | z_ => none
  | .skip => some (.next, σ)
  | .freeze i => match σ i with | some (.own l) => some (.next, σ.set i (.val (.lst l))) | z_ => none
  | .ifs _ _ _ => none
  | .whil _ _ => none
  | .forUp _ _ _ _ => none
  | .forDown _ _ _ => none
  | .forL _ _ _ => none
  | .forEnum _ _ _ _ => none
  | .forRev _ _ _ _ => none
  | .yield _ => none
  | .stuck => none
noncomputable def itemsUp (σ : St) (a b : ME) : Option (List PV) := match qM Γ σ a, qM Γ σ b with
  | some (.int x), some (.int y) => if small x && small y then some ((rangeUp x y).map .int) else none
  | z_, y_ => none
noncomputable def itemsDown (σ : St) (a : ME) : Option (List PV) := match qM Γ σ a with
  | some (.int x) => if small x then some ((rangeDown x (-1)).map .int) else none
  | z_ => none
noncomputable def itemsL (σ : St) (e : ME) : Option (List PV) := match qM Γ σ e with
  | some (.lst l) => if l.length ≤ SZ then some l else none
  | z_ => none
mutual
noncomputable def qN (fuel : Nat) (σ : St) : MS → Option (Fl × St)
  | .ifs c a b => match qR Γ σ c with | some true => qP fuel σ a | some false => qP fuel σ b | none => none
  | .whil c body => jW (fun σ => qR Γ σ c) (fun σ => qP fuel σ body) fuel σ
  | .forUp i a b body => match itemsUp Γ σ a b with | some l => jX (fun σ => qP fuel σ body) (xK [i]) l σ | none => none
  | .forDown i a body => match itemsDown Γ σ a with | some l => jX (fun σ => qP fuel σ body) (xK [i]) l σ | none => none
  | .forL is e body => match itemsL Γ σ e with | some l => jX (fun σ => qP fuel σ body) (xK is) l σ | none => none
  | .forEnum i j e body => match itemsL Γ σ e with | some l => jX (fun σ => qP fuel σ body) (xK [i, j]) (zW 0 l) σ | none => none
  | .forRev x i k body => match qM Γ σ (.bor2 i k) with
    | some (.lst l) => if l.length ≤ SZ then jX (fun σ => qP fuel σ body) (xK [x]) l.reverse σ else none
    | z_ => none
  | .asg i e => zH Γ σ (.asg i e)
  | .asgL i e => zH Γ σ (.asgL i e)
  | .asgLL i => zH Γ σ (.asgLL i)
  | .asgD i => zH Γ σ (.asgD i)
  | .asg2 i j e => zH Γ σ (.asg2 i j e)
  | .unp is es => zH Γ σ (.unp is es)
  | .unpR is es => zH Γ σ (.unpR is es)
  | .unpE is e => zH Γ σ (.unpE is e)
  | .aug i op e => zH Γ σ (.aug i op e)
  | .app i e => zH Γ σ (.app i e)
  | .seti i k e => zH Γ σ (.seti i k e)
  | .augi i k op e => zH Γ σ (.augi i k op e)
  | .app2 i k e => zH Γ σ (.app2 i k e)
  | .appN i => zH Γ σ (.appN i)
  | .trunc i e => zH Γ σ (.trunc i e)
  | .popOr j i e => zH Γ σ (.popOr j i e)
  | .pop i => zH Γ σ (.pop i)
  | .dset i k e => zH Γ σ (.dset i k e)
  | .ddel i k => zH Γ σ (.ddel i k)
  | .brk => zH Γ σ (.brk)
  | .ret e => zH Γ σ (.ret e)
  | .retN => zH Γ σ (.retN)
  | .assert c => zH Γ σ (.assert c)
  | .skip => zH Γ σ (.skip)
  | .freeze i => zH Γ σ (.freeze i)
  | .yield e => zH Γ σ (.yield e)
  | .stuck => zH Γ σ (.stuck)
noncomputable def qP (fuel : Nat) (σ : St) : List MS → Option (Fl × St)
  | [] => some (.next, σ)
  | m :: ms => match qN fuel σ m with
    | some (.next, σ') => qP fuel σ' ms
    | some (.brk, σ') => some (.brk, σ')
    | some (.ret v, σ') => some (.ret v, σ')
    | none => none
end
end
end Mine
end
set_option tactic.hygienic true
section
open PySem PySem.W PyProof.Rows PySem.SeqAt PySem.Calls
namespace Mine
structure FB where
  Kp : Addr → Obj → Prop
  O₀ : Addr → Prop
  b : Shared
  rf : Nat → Addr
noncomputable def NewA (env : Env) (own : Nat → List Addr) (a : Addr) : Prop := a = env.locals ∨ (∃ x, env.cells.lookup x = some a) ∨ ∃ i, a ∈ own i
noncomputable def FO (env : Env) (O₀ : Addr → Prop) (own : Nat → List Addr) (a : Addr) : Prop := O₀ a ∨ NewA env own a
noncomputable def upd (own : Nat → List Addr) (i : Nat) (as : List Addr) : Nat → List Addr := fun j => if j = i then as else own j
theorem yF (own i as) : upd own i as i = as := if_pos rfl
theorem zX (own as) {i j : Nat} (h : j ≠ i) : upd own i as j = own j := if_neg h
noncomputable def SlotAt (env : Env) (h : Heap) (m : Str → Option Value) (x : Str) (V : Value) : Prop :=
  (env.kindOf x = some .local ∧ m x = some V) ∨ (env.kindOf x = some .cell ∧ ∃ c, env.cells.lookup x = some c ∧ h.IsCell c (some V))
structure FrR (p : P5) (N : NI) (fb : FB) (env : Env) (σ : St) (own : Nat → List Addr) (s : Shared) : Prop where
  e : EnvOK env N p.h₁
  nodup : N.slots.Nodup
  kinds : ∀ x, x ∈ N.slots → env.kindOf x = some .local ∨ (env.kindOf x = some .cell ∧ ∃ c, env.cells.lookup x = some c)
  capart : ∀ x y c, env.cells.lookup x = some c → env.cells.lookup y = some c → x = y
  cl : ∀ x, env.cells.lookup x ≠ some env.locals
  ownA : ∀ i a, a ∈ own i → a ≠ env.locals ∧ (∀ x, env.cells.lookup x ≠ some a) ∧ ∀ j, j ≠ i → a ∉ own j
  nd : ∀ i, (own i).Nodup
  top : ∀ a o, p.h₁.get? a = some o → fb.Kp a o
  off : ∀ a, fb.O₀ a → p.h₁.get? a = none
  kp : ∀ a o, fb.Kp a o → s.heap.get? a = some o
  new : ∀ a, NewA env own a → (∀ o, ¬ fb.Kp a o) ∧ ¬ fb.O₀ a ∧ ∃ o, s.heap.get? a = some o
  under : ∀ a, fb.O₀ a → ∃ o, s.heap.get? a = some o
  cells : ∀ x c, env.cells.lookup x = some c → ∃ v, s.heap.IsCell c v
  ns : ∃ m, s.heap.Ns env.locals m ∧ ∀ i sv, σ i = some sv → ∃ x V, N.slots[i]? = some x ∧ SlotAt env s.heap m x V ∧ SRep p.prog p.w p.B.T fb.rf (FO env fb.O₀ own) s.heap sv V (own i)
  gens : s.gens = fb.b.gens
  drawn : s.drawn = fb.b.drawn
  os : s.os = fb.b.os
section
variable {p : P5} {N : NI} {fb : FB} {env : Env} {σ : St} {own : Nat → List Addr} {s : Shared}
theorem SlotAt.varAt {h : Heap} {m x V} (hn : h.Ns env.locals m) (v : SlotAt env h m x V) : VarAt env h x V := by
  rcases v with ⟨a, b⟩ | ⟨a, b⟩
  · exact .inl ⟨a, m, hn, b⟩
  · exact .inr (.inl ⟨a, b⟩)
theorem FrR.cx {A : Around} (F : FrR p N fb env σ own s) (a : AOK p.n A) : p.Cx N env σ (FO env fb.O₀ own) A s where
  a := a
  e := F.e
  k := fun b o e => F.kp b o (F.top b o e)
  u := fun a q => by
    rcases q with q | q
    · exact F.under a q
    · exact (F.new a q).2.2
  o := fun a q => by
    rcases q with q | q
    · exact F.off a q
    · cases e : p.h₁.get? a with
      | none => rfl
      | some o => exact absurd (F.top a o e) ((F.new a q).1 o)
  r := fun i sv h => by
    obtain ⟨m, hm, hs⟩ := F.ns
    obtain ⟨x, V, h1, h2, h3⟩ := hs i sv h
    exact ⟨x, V, own i, fb.rf, h1, h2.varAt hm, h3⟩
theorem FrR.step (F : FrR p N fb env σ own s) {s' : Shared} {bad : Addr → Prop} (hb : ∀ a, bad a → fb.O₀ a ∧ ∀ o, ¬ fb.Kp a o)
    (keep : ∀ b o, ¬ bad b → s.heap.get? b = some o → s'.heap.get? b = some o) (live : ∀ a, bad a → ∃ o, s'.heap.get? a = some o)
    (hg : s'.gens = s.gens) (hd : s'.drawn = s.drawn) (ho : s'.os = s.os) : FrR p N fb env σ own s' where
  e := F.e
  nodup := F.nodup
  kinds := F.kinds
  capart := F.capart
  cl := F.cl
  ownA := F.ownA
  nd := F.nd
  top := F.top
  off := F.off
  kp := fun a o k => keep a o (fun q => (hb a q).2 o k) (F.kp a o k)
  new := fun a n => by
    obtain ⟨h1, h2, o, h3⟩ := F.new a n
    exact ⟨h1, h2, o, keep a o (fun q => h2 (hb a q).1) h3⟩
  under := fun a q => by
    by_cases h : bad a
    · exact live a h
    · obtain ⟨o, e⟩ := F.under a q; exact ⟨o, keep a o h e⟩
  cells := fun x c h => by
    obtain ⟨v, o, e, d⟩ := F.cells x c h
    exact ⟨v, o, keep c o (fun q => (F.new c (.inr (.inl ⟨x, h⟩))).2.1 (hb c q).1) e, d⟩
  ns := by
    obtain ⟨m, hm, hs⟩ := F.ns
    have nb : ∀ a, NewA env own a → ¬ bad a := fun a n q => (F.new a n).2.1 (hb a q).1
    refine ⟨m, hm.at' fun o e => keep _ o (nb _ (.inl rfl)) e, fun i sv h => ?_⟩
    obtain ⟨x, V, h1, h2, h3⟩ := hs i sv h
    refine ⟨x, V, h1, ?_, h3.keep (fun b o n e => ⟨keep b o (fun q => n (.inl (hb b q).1)) e, n⟩) fun a ha o e => keep a o (nb a (.inr (.inr ⟨i, ha⟩))) e⟩
    rcases h2 with h2 | ⟨a, c, l, o, e, d⟩
    · exact .inl h2
    · exact .inr ⟨a, c, l, o, keep c o (nb c (.inr (.inl ⟨x, l⟩))) e, d⟩
  gens := hg.trans F.gens
  drawn := hd.trans F.drawn
  os := ho.trans F.os
theorem FrR.ext (F : FrR p N fb env σ own s) {s' : Shared} (x : Ext s s') : FrR p N fb env σ own s' :=
  F.step (bad := fun _ => False) (fun _ q => q.elim) (fun b o _ e => x.keep b o e) (fun _ q => q.elim) x.gens x.drawn x.os
theorem FrR.around (F : FrR p N fb env σ own s) {fb' : FB} (hb : fb'.b = fb.b) (hrf : fb'.rf = fb.rf) (top : ∀ a o, p.h₁.get? a = some o → fb'.Kp a o) (off : ∀ a, fb'.O₀ a → p.h₁.get? a = none)
    (kp : ∀ a o, fb'.Kp a o → s.heap.get? a = some o) (kn : ∀ a, NewA env own a → (∀ o, ¬ fb'.Kp a o) ∧ ¬ fb'.O₀ a) (under : ∀ a, fb'.O₀ a → ∃ o, s.heap.get? a = some o)
    {s₀ : Shared} (F₀ : FrR p N fb env σ own s₀) (x : Ext s₀ s) (h : ∀ a o, s₀.heap.get? a = some o → fb'.O₀ a → fb.O₀ a) : FrR p N fb' env σ own s where
  e := F.e
  nodup := F.nodup
  kinds := F.kinds
  capart := F.capart
  cl := F.cl
  ownA := F.ownA
  nd := F.nd
  top := top
  off := off
  kp := kp
  new := fun a n => ⟨(kn a n).1, (kn a n).2, (F.new a n).2.2⟩
  under := under
  cells := F.cells
  ns := by
    obtain ⟨m, hm, hs⟩ := F₀.ns
    refine ⟨m, hm.keeps x.keep, fun i sv h' => ?_⟩
    obtain ⟨y, V, h1, h2, h3⟩ := hs i sv h'
    refine ⟨y, V, h1, ?_, hrf ▸ h3.keep (fun b o n e => ⟨x.keep b o e, fun q => n ?_⟩) fun a _ o e => x.keep a o e⟩
    · rcases h2 with h2 | ⟨a, c, l, q⟩
      · exact .inl h2
      · exact .inr ⟨a, c, l, q.keeps x.keep⟩
    · rcases q with q | q
      · exact .inl (h b o e q)
      · exact .inr q
  gens := F.gens.trans (by rw [hb])
  drawn := F.drawn.trans (by rw [hb])
  os := F.os.trans (by rw [hb])
theorem FrR.pend (F : FrR p N fb env σ own s) {s' : Shared} (x : Ext s s') {j : Nat} (hj : σ j = none) {as : List Addr} (hn : ∀ a, a ∈ as → s.heap.get? a = none ∧ ∃ o, s'.heap.get? a = some o) (hd : as.Nodup) :
    FrR p N fb env σ (upd own j as) s' := by
  have F' := F.ext x
  have fresh : ∀ a, a ∈ as → ¬ NewA env own a := fun a ha n => by
    obtain ⟨_, _, o, e⟩ := F.new a n
    rw [(hn a ha).1] at e; cases e
  have mem : ∀ i a, a ∈ upd own j as i → a ∈ as ∨ a ∈ own i := fun i a h => by
    unfold upd at h; split at h
    · exact .inl h
    · exact .inr h
  refine ⟨F.e, F.nodup, F.kinds, F.capart, F.cl, fun i a h => ?_, fun i => ?_, F.top, F.off, F'.kp, fun a n => ?_, F'.under, F'.cells, ?_, F'.gens, F'.drawn, F'.os⟩
  · by_cases hij : i = j
    · subst hij
      rw [yF] at h
      have q := fresh a h
      refine ⟨fun e => q (.inl e), fun y e => q (.inr (.inl ⟨y, e⟩)), fun k hk e => ?_⟩
      rw [zX _ _ hk] at e
      exact q (.inr (.inr ⟨k, e⟩))
    · rw [zX _ _ hij] at h
      obtain ⟨h1, h2, h3⟩ := F.ownA i a h
      refine ⟨h1, h2, fun k hk e => ?_⟩
      rcases mem k a e with e | e
      · exact fresh a e (.inr (.inr ⟨i, h⟩))
      · exact h3 k hk e
  · unfold upd; split
    · exact hd
    · exact F.nd i
  · by_cases ha : a ∈ as
    · exact ⟨fun o k => (by have := F.kp a o k; rw [(hn a ha).1] at this; cases this), fun q => (by obtain ⟨o, e⟩ := F.under a q; rw [(hn a ha).1] at e; cases e), (hn a ha).2⟩
    · refine F'.new a ?_
      rcases n with n | n | ⟨i, n⟩
      · exact .inl n
      · exact .inr (.inl n)
      · rcases mem i a n with e | e
        · exact absurd e ha
        · exact .inr (.inr ⟨i, e⟩)
  · obtain ⟨m, hm, hs⟩ := F.ns
    refine ⟨m, hm.keeps x.keep, fun i sv h' => ?_⟩
    obtain ⟨y, V, h1, h2, h3⟩ := hs i sv h'
    have hij : i ≠ j := by rintro rfl; rw [hj] at h'; cases h'
    refine ⟨y, V, h1, ?_, ?_⟩
    · rcases h2 with h2 | ⟨a, c, l, q⟩
      · exact .inl h2
      · exact .inr ⟨a, c, l, q.keeps x.keep⟩
    · rw [zX _ _ hij]
      refine h3.keep (fun b o n e => ⟨x.keep b o e, fun q => ?_⟩) fun a _ o e => x.keep a o e
      rcases q with q | q | q | ⟨k, q⟩
      · exact n (.inl q)
      · exact n (.inr (.inl q))
      · exact n (.inr (.inr (.inl q)))
      · rcases mem k b q with q | q
        · rw [(hn b q).1] at e; cases e
        · exact n (.inr (.inr (.inr ⟨k, q⟩)))
structure Own' (σ : St) (own own' : Nat → List Addr) (i : Nat) : Prop where
  same : ∀ k, k ≠ i → (σ k).isSome = true → own' k = own k
  sub : ∀ k a, a ∈ own' k → ∃ k', a ∈ own k'
  dis : ∀ k k' a, k ≠ k' → a ∈ own' k → a ∉ own' k'
  nd : ∀ k, (own' k).Nodup
theorem Own'.drop (F : FrR p N fb env σ own s) (i : Nat) : Own' σ own (upd own i []) i where
  same := fun k h _ => zX _ _ h
  sub := fun k a h => by
    unfold upd at h; split at h
    · cases h
    · exact ⟨k, h⟩
  dis := fun k k' a h h1 h2 => by
    unfold upd at h1 h2
    split at h1
    · cases h1
    · split at h2
      · cases h2
      · exact (F.ownA k a h1).2.2 k' (Ne.symm h) h2
  nd := fun k => by
    unfold upd; split
    · exact List.nodup_nil
    · exact F.nd k
theorem Own'.move (F : FrR p N fb env σ own s) {i j : Nat} (hij : i ≠ j) (hj : σ j = none) : Own' σ own (upd (upd own i (own j)) j []) i where
  same := fun k h hs => by
    have : k ≠ j := by rintro rfl; rw [hj] at hs; cases hs
    rw [zX _ _ this, zX _ _ h]
  sub := fun k a h => by
    unfold upd at h; split at h
    · cases h
    · split at h
      · exact ⟨j, h⟩
      · exact ⟨k, h⟩
  dis := fun k k' a h h1 h2 => by
    unfold upd at h1 h2
    split at h1
    · cases h1
    · split at h2
      · cases h2
      · rename_i a1 a2
        split at h1
        · split at h2
          · rename_i b1 b2; exact h (b1.trans b2.symm)
          · exact (F.ownA j a h1).2.2 k' a2 h2
        · split at h2
          · exact (F.ownA k a h1).2.2 j (Ne.symm a1) h2
          · exact (F.ownA k a h1).2.2 k' (Ne.symm h) h2
  nd := fun k => by
    unfold upd; split
    · exact List.nodup_nil
    · split
      · exact F.nd j
      · exact F.nd k
theorem Own'.keepO {own' : Nat → List Addr} {i : Nat} (w : Own' σ own own' i) {b : Addr} (n : ¬ FO env fb.O₀ own b) : ¬ FO env fb.O₀ own' b := fun q => n (by
  rcases q with q | q | q | ⟨k, q⟩
  · exact .inl q
  · exact .inr (.inl q)
  · exact .inr (.inr (.inl q))
  · obtain ⟨k', h⟩ := w.sub k b q
    exact .inr (.inr (.inr ⟨k', h⟩)))
theorem Own'.newA {own' : Nat → List Addr} {i : Nat} (w : Own' σ own own' i) {a : Addr} (n : NewA env own' a) : NewA env own a := by
  rcases n with n | n | ⟨k, n⟩
  · exact .inl n
  · exact .inr (.inl n)
  · obtain ⟨k', h⟩ := w.sub k a n; exact .inr (.inr ⟨k', h⟩)
theorem FrR.change (F : FrR p N fb env σ own s) {i : Nat} {own' : Nat → List Addr} (w : Own' σ own own' i) {σ' : St} (hσ : ∀ k, k ≠ i → σ' k = σ k) {a : Addr} (ha : NewA env own a) {h' : Heap} {tk : Nat}
    (hs : ∀ b o, b ≠ a → s.heap.get? b = some o → h'.get? b = some o) (hl : ∃ o, h'.get? a = some o) (hc : ∀ x, env.cells.lookup x = some a → ∃ v, h'.IsCell a v)
    {m : Str → Option Value} (hn : h'.Ns env.locals m)
    (hi : ∀ sv, σ' i = some sv → ∃ x V, N.slots[i]? = some x ∧ SlotAt env h' m x V ∧ SRep p.prog p.w p.B.T fb.rf (FO env fb.O₀ own') h' sv V (own' i))
    (hr : ∀ k sv, k ≠ i → σ k = some sv → ∃ x V, N.slots[k]? = some x ∧ SlotAt env h' m x V ∧ SRep p.prog p.w p.B.T fb.rf (FO env fb.O₀ own) s.heap sv V (own k) ∧ a ∉ own k) :
    FrR p N fb env σ' own' { s with heap := h', toks := tk } where
  e := F.e
  nodup := F.nodup
  kinds := F.kinds
  capart := F.capart
  cl := F.cl
  ownA := fun k b h => by
    obtain ⟨k', h'⟩ := w.sub k b h
    obtain ⟨h1, h2, _⟩ := F.ownA k' b h'
    exact ⟨h1, h2, fun j hj e => w.dis k j b (Ne.symm hj) h e⟩
  nd := w.nd
  top := F.top
  off := F.off
  kp := fun b o k => hs b o (fun e => (F.new a ha).1 o (e ▸ k)) (F.kp b o k)
  new := fun b n => by
    obtain ⟨h1, h2, o, h3⟩ := F.new b (w.newA n)
    refine ⟨h1, h2, ?_⟩
    by_cases hb : b = a
    · subst hb; exact hl
    · exact ⟨o, hs b o hb h3⟩
  under := fun b q => by
    obtain ⟨o, e⟩ := F.under b q
    exact ⟨o, hs b o (fun e' => (F.new a ha).2.1 (e' ▸ q)) e⟩
  cells := fun x c h => by
    by_cases hca : c = a
    · subst hca; exact hc x h
    · obtain ⟨v, o, e, d⟩ := F.cells x c h
      exact ⟨v, o, hs c o hca e, d⟩
  ns := by
    refine ⟨m, hn, fun k sv h => ?_⟩
    by_cases hk : k = i
    · subst hk; exact hi sv h
    · rw [hσ k hk] at h
      obtain ⟨x, V, h1, h2, h3, h4⟩ := hr k sv hk h
      refine ⟨x, V, h1, h2, ?_⟩
      rw [w.same k hk (by rw [h]; rfl)]
      exact h3.keep (fun b o n e => ⟨hs b o (fun e' => n (.inr (e' ▸ ha))) e, w.keepO n⟩) fun b hb o e => hs b o (fun e' => h4 (e' ▸ hb)) e
  gens := F.gens
  drawn := F.drawn
  os := F.os
end
end Mine
end
set_option tactic.hygienic false
section
open PySem PySem.W PyProof.Rows PySem.SeqAt PySem.Calls
namespace Mine
mutual
noncomputable def wr : MS → List Nat
  | .asg i _ => [i] | .asgL i _ => [i] | .asgLL i => [i] | .asgD i => [i]
  | .asg2 i j _ => [i, j]
  | .unp is _ => is | .unpR is _ => is | .unpE is _ => is
  | .aug i _ _ => [i] | .app i _ => [i] | .seti i _ _ => [i] | .augi i _ _ _ => [i]
  | .app2 i _ _ => [i] | .appN i => [i] | .trunc i _ => [i]
  | .popOr j i _ => [i, j] | .pop i => [i] | .dset i _ _ => [i] | .ddel i _ => [i]
  | .ifs _ a b => wrs a ++ wrs b
  | .whil _ b => wrs b
  | .forUp i _ _ b => i :: wrs b | .forDown i _ b => i :: wrs b
  | .forL is _ b => is ++ wrs b | .forEnum i j _ b => i :: j :: wrs b
  | .forRev x _ _ b => x :: wrs b
  | .brk => [] | .ret _ => [] | .retN => [] | .assert _ => [] | .skip => [] | .freeze i => [i] | .yield _ => [] | .stuck => []
noncomputable def wrs : List MS → List Nat
  | [] => []
  | m :: ms => wr m ++ wrs ms
end
noncomputable def FlR (p : P5) (O : Addr → Prop) (h : Heap) : Fl → Flow → Prop
  | .next, f => f = .next
  | .brk, f => f = .brk
  | .ret v, f => ∃ V, f = .ret V ∧ Rep p.B.T O h v V
noncomputable def Wr (W : List Nat) (σ : St) (own : Nat → List Addr) (σ' : St) (own' : Nat → List Addr) : Prop := ∀ j, j ∉ W → σ' j = σ j ∧ ((σ j).isSome = true → own' j = own j)
theorem Wr.refl {W σ own} : Wr W σ own σ own := fun _ _ => ⟨rfl, fun _ => rfl⟩
theorem Wr.trans {W σ own σ₁ own₁ σ₂ own₂} (a : Wr W σ own σ₁ own₁) (b : Wr W σ₁ own₁ σ₂ own₂) : Wr W σ own σ₂ own₂ := fun j h => ⟨(b j h).1.trans (a j h).1, fun q => ((b j h).2 (by rw [(a j h).1]; exact q)).trans ((a j h).2 q)⟩
theorem Wr.mono {W W' σ own σ₁ own₁} (a : Wr W σ own σ₁ own₁) (h : ∀ j, j ∈ W → j ∈ W') : Wr W' σ own σ₁ own₁ := fun j q => a j fun e => q (h j e)
noncomputable def KS (p : P5) (N : NI) (fb : FB) (env : Env) (W : List Nat) (σ : St) (own : Nat → List Addr) (Q : Flow → Shared → Prop) (fl : Fl) (σ' : St) : Prop :=
  ∀ f s' own', FrR p N fb env σ' own' s' → FlR p (FO env fb.O₀ own') s'.heap fl f → Wr W σ own σ' own' → Q f s'
theorem KS.ofe {p N fb env W σ own Q fl σ' fl₁ σ₁} (k : KS p N fb env W σ own Q fl σ') (e : (fl₁, σ₁) = (fl, σ')) : KS p N fb env W σ own Q fl₁ σ₁ := by cases e; exact k
theorem KS.os {p N fb env W σ own Q fl σ' fl₁ σ₁} (k : KS p N fb env W σ own Q fl σ') (e : some (fl₁, σ₁) = some (fl, σ')) : KS p N fb env W σ own Q fl₁ σ₁ := k.ofe (Option.some.inj e)
theorem iFl {β : Type} {r : β} {Q : Prop} {x : Option (Fl × St)} {F G : St → Option β} {H : PV → St → Option β} (h : (match x with | some (.next, s) => F s | some (.brk, s) => G s | some (.ret v, s) => H v s | none => none) = some r)
    (k1 : ∀ s, x = some (.next, s) → F s = some r → Q) (k2 : ∀ s, x = some (.brk, s) → G s = some r → Q) (k3 : ∀ v s, x = some (.ret v, s) → H v s = some r → Q) : Q := by
  induction x with
  | none => exact nn h
  | some q =>
    induction q with
    | mk a b => cases a with
      | next => exact k1 _ rfl h
      | brk => exact k2 _ rfl h
      | ret v => exact k3 _ _ rfl h
theorem KS.andThen {p N fb env W σ own Q fl σ' σ₁ own₁} (k : KS p N fb env W σ own Q fl σ') (w : Wr W σ own σ₁ own₁) : KS p N fb env W σ₁ own₁ Q fl σ' := fun f s' own' F' hf' w' => k f s' own' F' hf' (w.trans w')
theorem KS.mono {p N fb env W W' σ own Q fl σ'} (k : KS p N fb env W σ own Q fl σ') (w : ∀ j, j ∈ W' → j ∈ W) : KS p N fb env W' σ own Q fl σ' := fun f s' own' F' hf' w' => k f s' own' F' hf' (w'.mono w)
noncomputable def zP (p : P5) (N : NI) (st : Stmt) (m : MS) : Prop := ∀ ⦃fuel σ fl σ' fb env own A s E⦄ ⦃Q : Flow → Shared → Prop⦄, qN p.Γ fuel σ m = some (fl, σ') → AOK p.n A → FrR p N fb env σ own s →
  KS p N fb env (wr m) σ own Q fl σ' → wpAny (model p.prog p.w) A (exec st env) Q E s
noncomputable def zS (p : P5) (N : NI) (sts : List Stmt) (ms : List MS) : Prop := ∀ ⦃fuel σ fl σ' fb env own A s E⦄ ⦃Q : Flow → Shared → Prop⦄, qP p.Γ fuel σ ms = some (fl, σ') → AOK p.n A → FrR p N fb env σ own s →
  KS p N fb env (wrs ms) σ own Q fl σ' → wpAny (model p.prog p.w) A (execs sts env) Q E s
theorem St.set_self (σ : St) (i v) : St.set σ i v i = some v := if_pos rfl
theorem St.set_ne (σ : St) (v) {i j : Nat} (h : j ≠ i) : St.set σ i v j = σ j := if_neg h
section
variable {p : P5} {N : NI} {fb : FB} {env : Env} {σ : St} {own : Nat → List Addr} {s : Shared} {A : Around} {E : Value → Shared → Prop}
theorem FrR.slot_ne (F : FrR p N fb env σ own s) {i k : Nat} {x y : Str} (hx : N.slots[i]? = some x) (hy : N.slots[k]? = some y) (h : k ≠ i) : y ≠ x := by
  rintro rfl
  obtain ⟨h1, e1⟩ := List.getElem?_eq_some_iff.mp hx
  obtain ⟨h2, e2⟩ := List.getElem?_eq_some_iff.mp hy
  have q := List.pairwise_iff_getElem.mp F.nodup
  rcases Nat.lt_or_gt_of_ne h with g | g
  · exact q k i h2 h1 g (e2.trans e1.symm)
  · exact q i k h1 h2 g (e1.trans e2.symm)
theorem FrR.store (F : FrR p N fb env σ own s) {i : Nat} {x : Str} {sv : SV} {V : Value} {own' : Nat → List Addr} {Q : Unit → Shared → Prop} (hx : N.slots[i]? = some x) (w : Own' σ own own' i)
    (r : SRep p.prog p.w p.B.T fb.rf (FO env fb.O₀ own) s.heap sv V (own' i)) (k : ∀ s', FrR p N fb env (σ.set i sv) own' s' → (∀ b o, b ≠ env.locals → (∀ x, env.cells.lookup x ≠ some b) → s.heap.get? b = some o → s'.heap.get? b = some o) → Q () s') :
    wpAny (model p.prog p.w) A (storeName env x V) Q E s := by
  obtain ⟨m, hm, hs⟩ := F.ns
  have hσ : ∀ k, k ≠ i → σ.set i sv k = σ k := fun k h => St.set_ne _ _ h
  have ownsub : ∀ k a, a ∈ own' k → NewA env own a := fun k a h => let ⟨k', h'⟩ := w.sub k a h; .inr (.inr ⟨k', h'⟩)
  rcases F.kinds x (List.mem_of_getElem? hx) with hl | ⟨hl, c, hc⟩
  · refine wpAny_storeName_local hl hm (fun h' hn' hsb => k _ ?_ fun b o h1 _ e => hsb.extBut b o h1 e) (by rw [F.e.kind]; rfl)
    refine F.change w hσ (.inl rfl) (fun b o hb e => hsb.extBut b o hb e) (let ⟨o, _, _, e, _⟩ := hn'; ⟨o, e⟩) (fun y hy => absurd hy (F.cl y)) hn' (fun sv' h => ?_) fun k' sv' hk h => ?_
    · rw [St.set_self] at h; cases h
      refine ⟨x, V, hx, .inl ⟨hl, if_pos rfl⟩, r.keep (fun b o n e => ⟨hsb.extBut b o (fun e' => n (.inr (.inl e'))) e, w.keepO n⟩) fun a ha o e => hsb.extBut a o ?_ e⟩
      obtain ⟨k', h'⟩ := w.sub i a ha
      exact (F.ownA k' a h').1
    · obtain ⟨y, V', h1, h2, h3⟩ := hs k' sv' h
      refine ⟨y, V', h1, ?_, h3, fun e => (F.ownA _ _ e).1 rfl⟩
      rcases h2 with ⟨a1, a2⟩ | ⟨a1, c, a2, o, e, d⟩
      · exact .inl ⟨a1, (if_neg (F.slot_ne hx h1 hk)).trans a2⟩
      · exact .inr ⟨a1, c, a2, o, hsb.extBut c o (fun e' => F.cl y (e' ▸ a2)) e, d⟩
  · obtain ⟨v₀, hv⟩ := F.cells x c hc
    refine wpAny_storeName_cell F.e.kind hl hc hv fun h' hc' hsb => k _ ?_ fun b o _ h2 e => hsb.extBut b o (fun e' => h2 x (e' ▸ hc)) e
    have hcl : env.locals ≠ c := fun e => F.cl x (e ▸ hc)
    refine F.change (tk := s.toks) w hσ (.inr (.inl ⟨x, hc⟩)) (fun b o hb e => hsb.extBut b o hb e) (let ⟨o, e, _⟩ := hc'; ⟨o, e⟩) (fun y hy => ⟨_, hc'⟩) (hm.sameBut hsb hcl) (fun sv' h => ?_) fun k' sv' hk h => ?_
    · rw [St.set_self] at h; cases h
      refine ⟨x, V, hx, .inr ⟨hl, c, hc, hc'⟩, r.keep (fun b o n e => ⟨hsb.extBut b o (fun e' => n (.inr (.inr (.inl ⟨x, e' ▸ hc⟩)))) e, w.keepO n⟩) fun a ha o e => hsb.extBut a o ?_ e⟩
      obtain ⟨k', h'⟩ := w.sub i a ha
      exact fun e' => (F.ownA k' a h').2.1 x (e' ▸ hc)
    · obtain ⟨y, V', h1, h2, h3⟩ := hs k' sv' h
      refine ⟨y, V', h1, ?_, h3, fun e => (F.ownA _ _ e).2.1 x hc⟩
      rcases h2 with ⟨a1, a2⟩ | ⟨a1, c', a2, o, e, d⟩
      · exact .inl ⟨a1, a2⟩
      · refine .inr ⟨a1, c', a2, o, hsb.extBut c' o (fun e' => F.slot_ne hx h1 hk (F.capart y x c (e' ▸ a2) hc)) e, d⟩
theorem FrR.storeV (F : FrR p N fb env σ own s) {i : Nat} {x : Str} {v : PV} {V : Value} {Q : Unit → Shared → Prop} (hx : N.slots[i]? = some x)
    (r : Rep p.B.T (FO env fb.O₀ own) s.heap v V) (k : ∀ s', FrR p N fb env (σ.set i (.val v)) (upd own i []) s' → Q () s') : wpAny (model p.prog p.w) A (storeName env x V) Q E s :=
  F.store (sv := .val v) hx (Own'.drop F i) (And.intro (yF ..) r) fun s' F' _ => k s' F'
theorem zM {i : Nat} {sv : SV} {own' : Nat → List Addr} (w : Own' σ own own' i) : Wr [i] σ own (σ.set i sv) own' := fun j hj => by
  have : j ≠ i := by simpa using hj
  exact ⟨St.set_ne _ _ this, w.same j this⟩
theorem xZ {x q e m pos} (h1 : yY p N e m) {i : Nat} (hx : N.slots[i]? = some x) (hs : ∀ env : Env, swapsWith e (some (.Name x q)) pos.line env = pure false) :
    zP p N (.Assign [.Name x q] e pos) (.asg i m) := fun {fuel σ fl σ' fb env own A s E Q} h a F k => by
  refine iv1 h fun v hv h => ?_
  have k := k.os h
  refine wpAny_Assign_Name (h1 hv (F.cx a) fun V s1 x1 r1 => (F.ext x1).storeV hx r1 fun s2 F2 => k _ _ _ F2 rfl (zM (Own'.drop F i))) (hs env)
end
end Mine
end
section
open PySem PySem.W PyProof.Rows PySem.SeqAt PySem.Calls
namespace Mine
noncomputable def Held (p : P5) (O : Addr → Prop) (h : Heap) (own : Nat → List Addr) : List Nat → List (Bool × PV) → List Value → Prop
  | [], [], vs => vs = []
  | j :: js, (b, x) :: l, vs => ∃ V r, vs = V :: r ∧ (if b then ∃ ls, x = .lst ls ∧ SRep p.prog p.w p.B.T (fun _ => 0) O h (.own ls) V (own j) else Rep p.B.T O h x V) ∧ Held p O h own js l r
  | _, _, _ => False
theorem Held.keep {p : P5} {O h O' h'} {own own' : Nat → List Addr} (k : jN O h O' h') : ∀ {js : List Nat} {l : List (Bool × PV)} {vs}, (∀ i, i ∈ js → own' i = own i) → (∀ i a, i ∈ js → a ∈ own i → ∀ o, h.get? a = some o → h'.get? a = some o) → Held p O h own js l vs → Held p O' h' own' js l vs
  | [], [], _, _, _, x => x
  | [], _ :: _, _, _, _, x => x
  | _ :: _, [], _, _, _, x => x
  | j :: js, (b, x) :: l, _, he, hk, ⟨V, r, e, q, t⟩ => by
    refine ⟨V, r, e, ?_, Held.keep k (fun i hi => he i (.tail _ hi)) (fun i a hi => hk i a (.tail _ hi)) t⟩
    cases b with
    | false => simpa using (show Rep p.B.T O h x V by simpa using q).keep k
    | true =>
      obtain ⟨ls, e1, e2⟩ := (show ∃ ls, x = .lst ls ∧ SRep p.prog p.w p.B.T (fun _ => 0) O h (.own ls) V (own j) by simpa using q)
      have : SRep p.prog p.w p.B.T (fun _ => 0) O' h' (.own ls) V (own' j) := by
        rw [he j (.head _)]
        exact e2.keep k fun a ha o => hk j a (.head _) ha o
      simpa using ⟨ls, e1, this⟩
theorem Held.append {p : P5} {O h} {own : Nat → List Addr} : ∀ {js : List Nat} {l : List (Bool × PV)} {vs js' l' vs'}, Held p O h own js l vs → Held p O h own js' l' vs' → Held p O h own (js ++ js') (l ++ l') (vs ++ vs')
  | [], [], _, _, _, _, x, y => by cases x; exact y
  | [], _ :: _, _, _, _, _, x, _ => x.elim
  | _ :: _, [], _, _, _, _, x, _ => x.elim
  | _ :: _, (_, _) :: _, _, _, _, _, ⟨V, r, e, q, t⟩, y => by subst e; exact ⟨V, _, rfl, q, Held.append t y⟩
theorem Held.reverse {p : P5} {O h} {own : Nat → List Addr} : ∀ {js : List Nat} {l : List (Bool × PV)} {vs}, Held p O h own js l vs → Held p O h own js.reverse l.reverse vs.reverse
  | [], [], _, x => by cases x; exact rfl
  | [], _ :: _, _, x => x.elim
  | _ :: _, [], _, x => x.elim
  | j :: js, (b, x) :: l, _, ⟨V, r, e, q, t⟩ => by
    subst e
    rw [List.reverse_cons, List.reverse_cons, List.reverse_cons]
    exact Held.append (Held.reverse t) ⟨V, [], rfl, q, rfl⟩
theorem Held.length {p : P5} {O h} {own : Nat → List Addr} : ∀ {js : List Nat} {l : List (Bool × PV)} {vs}, Held p O h own js l vs → vs.length = l.length ∧ js.length = l.length
  | [], [], _, x => by cases x; exact ⟨rfl, rfl⟩
  | [], _ :: _, _, x => x.elim
  | _ :: _, [], _, x => x.elim
  | j :: js, (b, x) :: l, _, ⟨V, r, e, q, t⟩ => by
    subst e
    have := Held.length t
    simp [this.1, this.2]
theorem Held.ofVals {p : P5} {O h} {own : Nat → List Addr} : ∀ {l : List PV} {j vs}, yX p.B.T O h l vs → Held p O h own (List.range' j l.length) (l.map (false, ·)) vs
  | [], _, _, x => x
  | x :: l, j, _, ⟨V, r, e, q, t⟩ => ⟨V, r, e, by simpa using q, Held.ofVals t⟩
noncomputable def TsOK (p : P5) (env : Env) : List Str → List (Value → Sem Unit) → Prop
  | [], ts => ts = []
  | x :: xs, ts => ∃ t r, ts = t :: r ∧ (∀ {A E s V} {Q : Unit → Shared → Prop}, wpAny (model p.prog p.w) A (storeName env x V) Q E s → wpAny (model p.prog p.w) A (t V) Q E s) ∧ TsOK p env xs r
noncomputable def NamesAt (N : NI) : List Nat → List Str → Prop
  | [], xs => xs = []
  | i :: is, xs => ∃ x r, xs = x :: r ∧ N.slots[i]? = some x ∧ NamesAt N is r
section
variable {p : P5} {N : NI} {fb : FB} {env : Env} {A : Around} {E : Value → Shared → Prop}
theorem FrR.none_above {σ : St} {own : Nat → List Addr} {s : Shared} (F : FrR p N fb env σ own s) {k : Nat} (h : N.slots.length ≤ k) : σ k = none := by
  cases e : σ k with
  | none => rfl
  | some sv =>
    obtain ⟨m, hm, hs⟩ := F.ns
    obtain ⟨x, V, h1, _⟩ := hs _ sv e
    have := (List.getElem?_eq_some_iff.mp h1).1
    omega
theorem stores_ok : ∀ {is : List Nat} {l : List (Bool × PV)} {σ σ' : St} {names : List Str} {ts : List (Value → Sem Unit)} {own : Nat → List Addr} {s : Shared} {vs : List Value} {js : List Nat} {Q : Unit → Shared → Prop},
    stores is l σ = some σ' → NamesAt N is names → TsOK p env names ts → FrR p N fb env σ own s → (∀ j, j ∈ js → N.slots.length ≤ j) → js.Nodup → Held p (FO env fb.O₀ own) s.heap own js l vs →
    (∀ s' own', FrR p N fb env σ' own' s' → Wr is σ own σ' own' → Q () s') → wpAny (model p.prog p.w) A (assignInOrder ts vs) Q E s
  | [], [], σ, σ', names, ts, own, s, vs, js, Q, h, hn, ht, F, hj, hd, hh, k => by
    cases h; cases hn; cases ht
    cases js with
    | cons j js => exact hh.elim
    | nil => cases hh; exact assignInOrder_nil (k s own F Wr.refl)
  | [], _ :: _, σ, σ', names, ts, own, s, vs, j, Q, h, hn, ht, F, hj, hd, hh, k => by cases h
  | _ :: _, [], σ, σ', names, ts, own, s, vs, j, Q, h, hn, ht, F, hj, hd, hh, k => by cases h
  | i :: is, (b, x) :: l, σ, σ', names, ts, own, s, vs, [], Q, h, hn, ht, F, hj, hd, hh, k => hh.elim
  | i :: is, (b, x) :: l, σ, σ', names, ts, own, s, vs, j :: js, Q, h, hn, ht, F, hj, hd, hh, k => by
    obtain ⟨y, names', e1, hx, hn'⟩ := hn
    subst e1
    obtain ⟨t, ts', e2, hts, ht'⟩ := ht
    subst e2
    obtain ⟨V, r, e3, hV, hr⟩ := hh
    subst e3
    obtain ⟨hd1, hd2⟩ := List.nodup_cons.mp hd
    have hi : i < N.slots.length := (List.getElem?_eq_some_iff.mp hx).1
    have hj' : ∀ k, k ∈ js → k ≠ i ∧ k ≠ j := fun k hk => ⟨by have := hj k (.tail _ hk); omega, fun e => hd1 (e ▸ hk)⟩
    have hij : i ≠ j := by have := hj j (.head _); omega
    refine assignInOrder_cons (hts ?_)
    have fin : ∀ {sv : SV} {own₁ : Nat → List Addr}, stores is l (σ.set i sv) = some σ' → Own' σ own own₁ i → (∀ k, k ∈ js → own₁ k = own k) → SRep p.prog p.w p.B.T fb.rf (FO env fb.O₀ own) s.heap sv V (own₁ i) →
        wpAny (model p.prog p.w) A (storeName env y V) (fun _ s₁ => wpAny (model p.prog p.w) A (assignInOrder ts' r) Q E s₁) E s := fun {sv own₁} hst w hk hv => by
      refine F.store hx w hv fun s₁ F₁ kp => stores_ok hst hn' ht' F₁ (fun k hk => hj k (.tail _ hk)) hd2 (hr.keep (fun b o n e => ⟨kp b o (fun e' => n (.inr (.inl e'))) (fun y e' => n (.inr (.inr (.inl ⟨y, e'⟩)))) e, w.keepO n⟩) hk fun k a hk' ha o e => ?_) fun s' own' F' W => k s' own' F' ?_
      · obtain ⟨g1, g2, _⟩ := F.ownA k a ha
        exact kp a o g1 g2 e
      · exact Wr.trans ((zM (sv := sv) w).mono fun q hq => by simp at hq; simp [hq]) (W.mono fun q hq => by simp [hq])
    cases b with
    | false =>
      have hV' : Rep p.B.T (FO env fb.O₀ own) s.heap x V := by simpa using hV
      refine fin (sv := .val x) h (Own'.drop F i) (fun k hk => zX _ _ (hj' k hk).1) (And.intro (yF ..) hV')
    | true =>
      obtain ⟨ls, ex, hV'⟩ := (show ∃ ls, x = .lst ls ∧ SRep p.prog p.w p.B.T (fun _ => 0) (FO env fb.O₀ own) s.heap (.own ls) V (own j) by simpa using hV)
      subst ex
      refine fin (sv := .own ls) h (Own'.move F (j := j) hij (F.none_above (hj j (.head _)))) (fun k hk => by rw [zX _ _ (hj' k hk).2, zX _ _ (hj' k hk).1]) ?_
      rw [zX _ _ hij, yF]; exact hV'
theorem bindMany_stores : ∀ (is : List Nat) (xs : List PV) (σ : St), zD is xs σ = stores is (xs.map (false, ·)) σ
  | [], [], σ => rfl
  | [], _ :: _, σ => rfl
  | _ :: _, [], σ => rfl
  | i :: is, x :: xs, σ => bindMany_stores is xs _
noncomputable def EvF (p : P5) (N : NI) (e : Expr) (m : ME) : Prop := ∀ ⦃σ l env O A s E Q⦄, qM p.Γ σ m = some (.lst l) → p.Cx N env σ O A s →
  (∀ a vs s₁ s', Ext s s₁ → Ext s₁ s' → s₁.heap.get? a = none → yX p.B.T O s₁.heap l vs → s'.heap.PlainList a vs.toArray → Q (.ref a) s') → wpAny (model p.prog p.w) A (eval e env) Q E s
theorem FrR.held {σ : St} {own : Nat → List Addr} {s s₁ s' : Shared} (F : FrR p N fb env σ own s) (x1 : Ext s s₁) (x2 : Ext s₁ s') {a : Addr} {l : List PV} {vs : List Value} (hn : s₁.heap.get? a = none)
    (hr : yX p.B.T (FO env fb.O₀ own) s₁.heap l vs) (hl : s'.heap.PlainList a vs.toArray) {j : Nat} (hj : σ j = none) :
    FrR p N fb env σ (upd own j [a]) s' ∧ SRep p.prog p.w p.B.T (fun _ => 0) (FO env fb.O₀ (upd own j [a])) s'.heap (.own l) (.ref a) [a] ∧ jN (FO env fb.O₀ own) s₁.heap (FO env fb.O₀ (upd own j [a])) s'.heap := by
  have K : jN (FO env fb.O₀ own) s₁.heap (FO env fb.O₀ (upd own j [a])) s'.heap := fun b o n e => ⟨x2.keep b o e, fun q => by
    rcases q with q | q | q | ⟨k, q⟩
    · exact n (.inl q)
    · exact n (.inr (.inl q))
    · exact n (.inr (.inr (.inl q)))
    · unfold upd at q; split at q
      · have : b = a := by simpa using q
        subst this; rw [hn] at e; cases e
      · exact n (.inr (.inr (.inr ⟨k, q⟩)))⟩
  exact ⟨(F.ext x1).pend x2 hj (fun b hb => by
    have : b = a := by simpa using hb
    subst this
    obtain ⟨n, e⟩ := hl
    exact ⟨hn, _, e⟩) (by simp), ⟨a, vs, rfl, rfl, hl, hr.keep K⟩, K⟩
theorem st_asgL {x q e m pos} (h1 : EvF p N e m) {i : Nat} (hx : N.slots[i]? = some x) (hs : ∀ env : Env, swapsWith e (some (.Name x q)) pos.line env = pure false) :
    zP p N (.Assign [.Name x q] e pos) (.asgL i m) := fun {fuel σ fl σ' fb env own A s E Q} h a F k => by
  refine ivLst h fun l hv h => ?_
  have k := k.os h
  refine wpAny_Assign_Name (h1 hv (F.cx a) fun b vs s1 s2 x1 x2 hn hr hl => ?_) (hs env)
  obtain ⟨F2, r2, _⟩ := F.held x1 x2 hn hr hl (j := N.slots.length) (F.none_above (Nat.le_refl _))
  have hij : i ≠ N.slots.length := by have := (List.getElem?_eq_some_iff.mp hx).1; omega
  have w := Own'.move F2 (i := i) (j := N.slots.length) hij (F.none_above (Nat.le_refl _))
  refine F2.store (sv := .own l) hx w ?_ fun s3 F3 _ => k _ _ _ F3 rfl ?_
  · rw [zX _ _ hij, yF, yF]; exact r2
  · intro j hj
    have : j ≠ i := fun e => hj (e ▸ .head _)
    refine ⟨St.set_ne _ _ this, fun hs => (w.same j this hs).trans (zX _ _ ?_)⟩
    rintro rfl
    rw [F.none_above (Nat.le_refl _)] at hs; cases hs
noncomputable def isLst : PV → Bool
  | .lst _ => true
  | z_ => false
noncomputable def jV : List (Bool × PV) → Bool
  | [] => true
  | (b, x) :: l => (!b || isLst x) && jV l
theorem stores_flag : ∀ {is : List Nat} {l : List (Bool × PV)} {σ σ' : St}, stores is l σ = some σ' → jV l = true
  | [], [], _, _, _ => rfl
  | [], _ :: _, _, _, h => by cases h
  | _ :: _, [], _, _, h => by cases h
  | i :: is, (b, x) :: l, σ, σ', h => by
    refine ivSV h fun sv hv h => ?_
    rw [jV, stores_flag h, Bool.and_true]
    cases b with
    | false => rfl
    | true => exact ivLst' hv fun l e _ => by rw [e]; rfl
structure EvxsOK (p : P5) (N : NI) (es : List Expr) (bms : List (Bool × ME)) : Prop where
  star : es.all yU = true
  ev : ∀ {σ l fb env own A s E pos j} {Q : List Value → Shared → Prop}, xW p.Γ σ (bms.map (·.2)) = some l → jV ((bms.map (·.1)).zip l) = true → AOK p.n A → FrR p N fb env σ own s → N.slots.length ≤ j →
    (∀ vs s' own', FrR p N fb env σ own' s' → (∀ k, k < j → own' k = own k) → jN (FO env fb.O₀ own) s.heap (FO env fb.O₀ own') s'.heap → (∀ b o, s.heap.get? b = some o → s'.heap.get? b = some o) →
      Held p (FO env fb.O₀ own') s'.heap own' (List.range' j l.length) ((bms.map (·.1)).zip l) vs → Q vs s') → wpAny (model p.prog p.w) A (spliced (backTo pos (starEach es env))) Q E s
theorem evxs_nil : EvxsOK p N [] [] where
  star := rfl
  ev := fun {σ l fb env own A s E pos j Q} h hf a F hj k => by
    obtain rfl := Option.some.inj h
    exact spliced_nil (k [] s own F (fun _ _ => rfl) (fun b o n e => ⟨e, n⟩) (fun _ _ e => e) rfl)
theorem xF {e es m bms} (h1 : yY p N e m) (hn : yU e = true) (h2 : EvxsOK p N es bms) : EvxsOK p N (e :: es) ((false, m) :: bms) where
  star := by rw [List.all_cons, hn, h2.star]; rfl
  ev := fun {σ l fb env own A s E pos j Q} h hf a F hj k => by
    refine ivVL h fun x l' e1 e2 h => ?_
    obtain rfl := Option.some.inj h
    rw [qL hn]
    refine spliced_cons (h1 e1 (F.cx a) fun V s1 x1 r1 => h2.ev e2 (by simpa [jV] using hf) a (F.ext x1) (j := j + 1) (by omega) fun vs s' own' F' ho K hk hh => ?_)
    refine k (V :: vs) s' own' F' (fun i hi => ho i (by omega)) (fun b o n e => K b o n (x1.keep b o e)) (fun b o e => hk b o (x1.keep b o e)) ⟨V, vs, rfl, by simpa using r1.keep K, ?_⟩
    exact hh
theorem evxs_own {e es m bms} (h1 : EvF p N e m) (hn : yU e = true) (h2 : EvxsOK p N es bms) : EvxsOK p N (e :: es) ((true, m) :: bms) where
  star := by rw [List.all_cons, hn, h2.star]; rfl
  ev := fun {σ l fb env own A s E pos j Q} h hf a F hj k => by
    refine ivVL h fun x l' e1 e2 h => ?_
    obtain rfl := Option.some.inj h
    rw [qL hn]
    simp only [List.map_cons, List.zip_cons_cons, jV, Bool.and_eq_true] at hf
    obtain ⟨ls, rfl⟩ : ∃ ls, x = .lst ls := by
      have q : isLst x = true := by simpa using hf.1
      cases x <;> first | exact ⟨_, rfl⟩ | cases q
    replace hf := hf.2
    refine spliced_cons (h1 e1 (F.cx a) fun d vs s1 s2 x1 x2 hn' hr hl => ?_)
    obtain ⟨F2, r2, K2⟩ := F.held x1 x2 hn' hr hl (j := j) (F.none_above hj)
    refine h2.ev e2 hf a F2 (j := j + 1) (by omega) fun ws s' own' F' ho K hk hh => ?_
    refine k (.ref d :: ws) s' own' F' (fun i hi => (ho i (by omega)).trans (zX _ _ (by omega))) (fun b o n e => ?_) (fun b o e => hk b o (x2.keep b o (x1.keep b o e))) ⟨_, ws, rfl, ?_, hh⟩
    · obtain ⟨q1, q2⟩ := K2 b o n (x1.keep b o e)
      exact K b o q2 q1
    · have : SRep p.prog p.w p.B.T (fun _ => 0) (FO env fb.O₀ own') s'.heap (.own ls) (.ref d) (own' j) := by
        rw [ho j (by omega), yF]
        exact r2.keep K fun b hb o => hk b o
      simpa using this
end
end Mine
end
set_option tactic.hygienic true
section
open PySem PySem.W PyProof.Rows PySem.SeqAt PySem.Calls
namespace Mine
noncomputable def namesOf : List Expr → Option (List Str)
  | [] => some []
  | .Name x _ :: r => (namesOf r).map (x :: ·)
  | z_ => none
theorem names_ts {p : P5} {env : Env} : ∀ {elts : List Expr} {names : List Str}, namesOf elts = some names →
    TsOK p env names ((assignEach elts env).map (·.2)) ∧ (assignEach elts env).length = names.length ∧ (assignEach elts env).findIdx? (·.1) = none
  | [], _, h => by cases h; exact ⟨rfl, rfl, rfl⟩
  | e :: r, names, h => by
    cases e <;> try (exact nn h)
    rename_i x q
    obtain ⟨ns, h1, rfl⟩ := Option.map_eq_some_iff.mp (show (namesOf r).map (x :: ·) = some names from h)
    obtain ⟨a, b, c⟩ := names_ts (p := p) (env := env) h1
    refine ⟨⟨assign (.Name x q) env, (assignEach r env).map (·.2), rfl, fun h => PyProof.Rows.assign_Name h, a⟩, by show _ + 1 = _; rw [List.length_cons, b], ?_⟩
    rw [show assignEach (.Name x q :: r) env = (false, assign (.Name x q) env) :: assignEach r env from rfl, List.findIdx?_cons]
    simp [c]
theorem names_bind {p : P5} {env : Env} : ∀ (names : List Str), TsOK p env names (names.map fun n => bindName env n)
  | [] => rfl
  | x :: r => ⟨_, _, rfl, fun h => bindName_ h, names_bind r⟩
theorem namesAt_ok {N : NI} : ∀ {is : List Nat} {names : List Str}, is.map (fun i => N.slots[i]?) = names.map some → NamesAt N is names
  | [], [], _ => rfl
  | [], _ :: _, h => by simp at h
  | _ :: _, [], h => by simp at h
  | i :: is, x :: xs, h => by
    simp at h
    exact ⟨x, xs, rfl, h.1, namesAt_ok (by simpa using h.2)⟩
section
variable {p : P5} {N : NI} {fb : FB} {env : Env} {A : Around} {E : Value → Shared → Prop}
theorem range'_ok {j n L : Nat} (h : L ≤ j) : (∀ k, k ∈ List.range' j n → L ≤ k) ∧ (List.range' j n).Nodup :=
  ⟨fun k hk => by have := (List.mem_range'_1.mp hk).1; omega, List.nodup_range'⟩
theorem ext_of_extBut {s : Shared} {h' : Heap} (h : Heap.ExtBut s.heap.objs.size s.heap h') : Ext s { s with heap := h' } :=
  ⟨fun b o e => h b o (Nat.ne_of_lt (Heap.lt_size e)) e, rfl, rfl, rfl⟩
theorem unpack_ok (P : p.Ok) {σ σ' : St} {own : Nat → List Addr} {s : Shared} {is : List Nat} {xs : List PV} {v : PV} {V : Value} {elts : List Expr} {names : List Str} {kk tp} {Q : Unit → Shared → Prop} (a : AOK p.n A)
    (hv : v = .tup xs ∨ v = .tok xs) (hb : zD is xs σ = some σ') (hn : namesOf elts = some names) (hs : is.map (fun i => N.slots[i]?) = names.map some) (F : FrR p N fb env σ own s) (r : Rep p.B.T (FO env fb.O₀ own) s.heap v V)
    (k : ∀ s' own', FrR p N fb env σ' own' s' → Wr is σ own σ' own' → Q () s') : wpAny (model p.prog p.w) A (assign (.Tuple elts kk tp) env V) Q E s := by
  obtain ⟨t1, t2, t3⟩ := names_ts (p := p) (env := env) hn
  rw [bindMany_stores] at hb
  have len : xs.length = names.length := by
    have h1 : ∀ {is : List Nat} {l : List (Bool × PV)} {σ σ' : St}, stores is l σ = some σ' → is.length = l.length := by
      intro is
      induction is with
      | nil => intro l σ σ' h; cases l with | nil => rfl | cons _ _ => cases h
      | cons i is ih => intro l σ σ' h; cases l with
        | nil => cases h
        | cons q l =>
          obtain ⟨b, x⟩ := q
          exact ivSV h fun sv _ h => congrArg (· + 1) (ih h)
    have h2 := h1 hb
    have h3 := congrArg List.length hs
    simp at h2 h3; omega
  have fin : ∀ {d : Addr} {vs : List Value} (s₁ : Shared), Ext s s₁ → yX p.B.T (FO env fb.O₀ own) s.heap xs vs → wpAny (model p.prog p.w) A (assignInOrder ((assignEach elts env).map (·.2)) vs.toArray.toList) Q E s₁ := by
    intro d vs s₁ x1 q
    obtain ⟨c1, c2⟩ := range'_ok (n := xs.length) (Nat.le_refl N.slots.length)
    have hh : Held p (FO env fb.O₀ own) s₁.heap own (List.range' N.slots.length xs.length) (xs.map (false, ·)) vs := Held.ofVals (q.keep (x1.keepO _))
    exact stores_ok hb (namesAt_ok hs) t1 (F.ext x1) c1 c2 (by simpa using hh) k
  rcases hv with rfl | rfl
  · obtain ⟨d, vs, rfl, _, hp, q⟩ := r
    exact assign_Tuple_tuple a.handled hp.isTup (by rw [t2]; simp [q.length, len]) t3 fun h' he => fin (d := d) _ (ext_of_extBut he) q
  · obtain ⟨d, vs, rfl, _, hp, q⟩ := r
    rw [PyProof.Rows.assign_Tuple]
    refine wpAny_bind (wpAny_standAt ?_)
    unfold unpack
    rw [t3]
    refine wpAny_bind (wpAny_holding (P.bs.tok.unpack a.handled (F.cx a).k hp (by rw [t2]; simp [q.length, len]) fun s' x1 => fin (d := d) s' x1 q))
theorem st_unpE (P : p.Ok) {elts k tp e m pos} (h1 : yY p N e m) {is : List Nat} {names : List Str} (hn : namesOf elts = some names) (hs : is.map (fun i => N.slots[i]?) = names.map some)
    (hw1 : ∀ env : Env, swapsWithSole [.Tuple elts k tp] e pos.line env = pure false) (hw2 : ∀ env : Env, swappedStores [.Tuple elts k tp] e env = pure none) :
    zP p N (.Assign [.Tuple elts k tp] e pos) (.unpE is m) := fun {fuel σ fl σ' fb env own A s E Q} h a F k => by
  refine ivTup h fun xs hv h => ?_
  refine imap h fun σ₁ h2 h3 => ?_
  have k := k.ofe h3
  refine Assign_Tuple (h1 hv (F.cx a) fun V s1 x1 r1 => unpack_ok P a (.inl rfl) h2 hn hs (F.ext x1) r1 fun s' own' F' W => k _ _ _ F' rfl W) (hw1 env) (hw2 env)
theorem st_unp {elts k tp es k' tp' pos bms} (h1 : EvxsOK p N es bms) {is : List Nat} {names : List Str} (hn : namesOf elts = some names) (hs : is.map (fun i => N.slots[i]?) = names.map some)
    (hw1 : ∀ env : Env, swapsWithSole [.Tuple elts k tp] (.Tuple es k' tp') pos.line env = pure false) (hw2 : ∀ env : Env, env.scope = N.sc → swappedStores [.Tuple elts k tp] (.Tuple es k' tp') env = pure none) (hl : es.length ≤ 1000) (hl2 : names.length = es.length) (hl3 : es.length = bms.length) :
    zP p N (.Assign [.Tuple elts k tp] (.Tuple es k' tp') pos) (.unp is bms) := fun {fuel σ fl σ' fb env own A s E Q} h a F k => by
  refine ivL h fun vs hv h => ?_
  refine imap h fun σ₁ h2 h3 => ?_
  have k := k.ofe h3
  obtain ⟨t1, t2, t3⟩ := names_ts (p := p) (env := env) hn
  refine Assign_Tuple (wpAny_Tuple (h1.ev hv (stores_flag h2) a F (Nat.le_refl _) fun ws s1 own1 F1 ho K hk hh => ?_)) (hw1 env) (hw2 env F.e.scope)
  have e1 := hh.length
  have e0 := mevals_length hv
  simp at e0
  have len : ws.length = es.length := by rw [e1.1]; simp [e0]; omega
  have := xX
  have h5 : (1000 : Nat) ≤ SZ := by decide
  refine ⟨by omega, ?_⟩
  have x2 := Ext.push s1 { cls := .type "tuple", data := .seq ws.toArray } s1.toks
  have ht : PTup (s1.heap.push { cls := .type "tuple", data := .seq ws.toArray }) s1.heap.objs.size ws.toArray := ⟨0, Heap.get?_push_size _ rfl⟩
  refine assign_Tuple_tuple a.handled ht.isTup (by rw [t2]; simp [len, hl2]) t3 fun h' he => ?_
  have x3 := x2.trans (ext_of_extBut he)
  obtain ⟨c1, c2⟩ := range'_ok (n := vs.length) (Nat.le_refl N.slots.length)
  refine stores_ok h2 (namesAt_ok hs) t1 (F1.ext x3) c1 c2 (by
    show Held _ _ _ _ _ _ ws
    exact hh.keep (x3.keepO _) (fun _ _ => rfl) fun i b _ _ o e => x3.keep b o e) fun s' own' F' W => k _ _ _ F' rfl fun j hj => ?_
  obtain ⟨w1, w2⟩ := W j hj
  refine ⟨w1, fun hsj => (w2 hsj).trans (ho j ?_)⟩
  refine Nat.lt_of_not_le fun hle => ?_
  rw [F.none_above hle] at hsj; cases hsj
theorem st_unpR {elts k tp es k' tp' pos bms} (h1 : EvxsOK p N es bms) {is : List Nat} {names : List Str} (hn : namesOf elts = some names) (hs : is.map (fun i => N.slots[i]?) = names.map some)
    (hw1 : ∀ env : Env, swapsWithSole [.Tuple elts k tp] (.Tuple es k' tp') pos.line env = pure false) (hw2 : ∀ env : Env, env.scope = N.sc → swappedStores [.Tuple elts k tp] (.Tuple es k' tp') env = pure (some names)) (hl : es.length ≤ 1000) (hl2 : names.length = es.length) (hl3 : es.length = bms.length) :
    zP p N (.Assign [.Tuple elts k tp] (.Tuple es k' tp') pos) (.unpR is bms) := fun {fuel σ fl σ' fb env own A s E Q} h a F k => by
  refine ivL h fun vs hv h => ?_
  refine imap h fun σ₁ h2 h3 => ?_
  have k := k.ofe h3
  have hf : jV ((bms.map (·.1)).zip vs) = true := by
    have q := stores_flag h2
    have r : ∀ {a b : List (Bool × PV)}, jV (a ++ b) = (jV a && jV b) := by
      intro a b
      induction a with
      | nil => simp [jV]
      | cons q a ih => obtain ⟨x, y⟩ := q; simp [jV, ih, Bool.and_assoc]
    have r2 : ∀ {a : List (Bool × PV)}, jV a.reverse = jV a := by
      intro a
      induction a with
      | nil => rfl
      | cons q a ih => obtain ⟨x, y⟩ := q; simp [jV, r, ih, Bool.and_comm]
    rwa [r2] at q
  refine Assign_Tuple_swapped (wpAny_Tuple (h1.ev hv hf a F (Nat.le_refl _) fun ws s1 own1 F1 ho K hk hh => ?_)) (hw1 env) (hw2 env F.e.scope)
  have e1 := hh.length
  have e0 := mevals_length hv
  simp at e0
  have len : ws.length = es.length := by rw [e1.1]; simp [e0]; omega
  have := xX
  have h5 : (1000 : Nat) ≤ SZ := by decide
  refine ⟨by omega, ?_⟩
  have x2 := Ext.push s1 { cls := .type "tuple", data := .seq ws.toArray } s1.toks
  have ht : PTup (s1.heap.push { cls := .type "tuple", data := .seq ws.toArray }) s1.heap.objs.size ws.toArray := ⟨0, Heap.get?_push_size _ rfl⟩
  rw [show names.length = ws.toArray.size by simp [len, hl2]]
  refine unpackItems_tuple a.handled ht.isTup fun h' he => ?_
  have x3 := x2.trans (ext_of_extBut he)
  obtain ⟨c1, c2⟩ := range'_ok (n := vs.length) (Nat.le_refl N.slots.length)
  have hs' : is.reverse.map (fun i => N.slots[i]?) = names.reverse.map some := by rw [List.map_reverse, hs, List.map_reverse]
  refine stores_ok h2 (namesAt_ok hs') (names_bind _) (F1.ext x3) (js := (List.range' N.slots.length vs.length).reverse) (fun j hj => c1 j (List.mem_reverse.mp hj)) (List.pairwise_reverse.mpr (c2.imp fun h => Ne.symm h)) (by
    exact (hh.keep (x3.keepO _) (fun _ _ => rfl) fun i b _ _ o e => x3.keep b o e).reverse) fun s' own' F' W => k _ _ _ F' rfl fun j hj => ?_
  obtain ⟨w1, w2⟩ := W j (fun q => hj (List.mem_reverse.mp q))
  refine ⟨w1, fun hsj => (w2 hsj).trans (ho j ?_)⟩
  refine Nat.lt_of_not_le fun hle => ?_
  rw [F.none_above hle] at hsj; cases hsj
theorem st_asg2 {x y q q' e m pos} (h1 : yY p N e m) {i j : Nat} (hx : N.slots[i]? = some x) (hy : N.slots[j]? = some y) :
    zP p N (.Assign [.Name x q, .Name y q'] e pos) (.asg2 i j m) := fun {fuel σ fl σ' fb env own A s E Q} h a F k => by
  refine iv1 h fun v hv h => ?_
  have k := k.os h
  refine wpAny_Assign_two (h1 hv (F.cx a) fun V s1 x1 r1 => PyProof.Rows.assign_Name ((F.ext x1).store (sv := .val v) hx (Own'.drop (F.ext x1) i) (And.intro (yF ..) r1) fun s2 F2 kp => PyProof.Rows.assign_Name (F2.storeV hy ?_ fun s3 F3 => k _ _ _ F3 rfl ?_)))
  · exact r1.keep fun b o n e => ⟨kp b o (fun e' => n (.inr (.inl e'))) (fun y e' => n (.inr (.inr (.inl ⟨y, e'⟩)))) e, (Own'.drop (F.ext x1) i).keepO n⟩
  · exact Wr.trans ((zM (sv := .val v) (Own'.drop F i)).mono fun q hq => List.mem_cons.mpr (.inl (by simpa using hq))) ((zM (Own'.drop F2 j)).mono fun q hq => .tail _ hq)
end
end Mine
end
set_option tactic.hygienic false
section
open PySem PySem.W PyProof.Rows PySem.SeqAt PySem.Calls
namespace Mine
theorem Own'.refl {p : P5} {N fb env σ own s} (F : FrR p N fb env σ own s) (i : Nat) : Own' σ own own i where
  same := fun _ _ _ => rfl
  sub := fun k a h => ⟨k, h⟩
  dis := fun k k' a h h1 h2 => (F.ownA k a h1).2.2 k' (Ne.symm h) h2
  nd := F.nd
section
variable {p : P5} {N : NI} {fb : FB} {env : Env} {σ : St} {own : Nat → List Addr} {s : Shared} {A : Around} {E : Value → Shared → Prop}
theorem FrR.load (F : FrR p N fb env σ own s) {i : Nat} {sv : SV} {x : Str} {q : Pos} {Q : Value → Shared → Prop} (h : σ i = some sv) (hx : N.slots[i]? = some x) (hd : (x == ("__debug__" : Str)) = false)
    (k : ∀ V, SRep p.prog p.w p.B.T fb.rf (FO env fb.O₀ own) s.heap sv V (own i) → Q V s) : wpAny (model p.prog p.w) A (eval (.Name x q) env) Q E s := by
  obtain ⟨m, hm, hs⟩ := F.ns
  obtain ⟨y, V, hy, hv, hr⟩ := hs i sv h
  have e : y = x := Option.some.inj (hy.symm.trans hx)
  subst e
  have hq := k V hr
  rcases hv with ⟨hk, e⟩ | ⟨hk, cc, hl, hc⟩
  · exact wpAny_Name (wpAny_loadName_local F.e.kind hk hm e hq) hd
  · exact wpAny_Name (wpAny_loadName_cell F.e.kind hk hl hc hq) hd
theorem FrR.mut (F : FrR p N fb env σ own s) {i : Nat} {sv₀ sv : SV} {a : Addr} {own' : Nat → List Addr} {h' : Heap} {tk : Nat} (hi : σ i = some sv₀) (ha : a ∈ own i) (w : Own' σ own own' i)
    (hs : ∀ b o, b ≠ a → s.heap.get? b = some o → h'.get? b = some o) (hl : ∃ o, h'.get? a = some o)
    (r : ∀ V, SRep p.prog p.w p.B.T fb.rf (FO env fb.O₀ own) s.heap sv₀ V (own i) → SRep p.prog p.w p.B.T fb.rf (FO env fb.O₀ own') h' sv V (own' i)) : FrR p N fb env (σ.set i sv) own' { s with heap := h', toks := tk } := by
  obtain ⟨m, hm, hsl⟩ := F.ns
  obtain ⟨g1, g2, g3⟩ := F.ownA i a ha
  have slot : ∀ {x V}, SlotAt env s.heap m x V → SlotAt env h' m x V := fun {x V} q => by
    rcases q with q | ⟨a1, c, a2, o, e, d⟩
    · exact .inl q
    · exact .inr ⟨a1, c, a2, o, hs c o (fun e' => g2 x (e' ▸ a2)) e, d⟩
  refine F.change w (fun k hk => St.set_ne _ _ hk) (.inr (.inr ⟨i, ha⟩)) hs hl (fun x hx => absurd hx (g2 x)) (hm.at' fun o e => hs _ o (Ne.symm g1) e) (fun sv' h => ?_) fun k sv' hk h => ?_
  · rw [St.set_self] at h; cases h
    obtain ⟨x, V, h1, h2, h3⟩ := hsl i sv₀ hi
    exact ⟨x, V, h1, slot h2, r V h3⟩
  · obtain ⟨x, V, h1, h2, h3⟩ := hsl k sv' h
    exact ⟨x, V, h1, slot h2, h3, g3 k hk⟩
theorem jN.mut {O : Addr → Prop} {h h' : Heap} {a : Addr} (ha : O a) (hs : ∀ b o, b ≠ a → h.get? b = some o → h'.get? b = some o) : jN O h O h' := fun b o n e => ⟨hs b o (fun e' => n (e' ▸ ha)) e, n⟩
theorem FrR.mine (i : Nat) {a : Addr} (ha : a ∈ own i) : FO env fb.O₀ own a := .inr (.inr (.inr ⟨i, ha⟩))
theorem FrR.mutOwn (F : FrR p N fb env σ own s) {i : Nat} {l l' : List PV} {a : Addr} {vs' : List Value} {h' : Heap} {tk : Nat} (hi : σ i = some (.own l)) (ho : own i = [a])
    (hs : ∀ b o, b ≠ a → s.heap.get? b = some o → h'.get? b = some o) (hl : h'.PlainList a vs'.toArray) (hr : yX p.B.T (FO env fb.O₀ own) s.heap l' vs') : FrR p N fb env (σ.set i (.own l')) own { s with heap := h', toks := tk } := by
  have ha : a ∈ own i := by rw [ho]; exact .head _
  refine F.mut hi ha (Own'.refl F i) hs (let ⟨n, e⟩ := hl; ⟨_, e⟩) fun V r => ?_
  obtain ⟨b, vs, e1, e2, e3, e4⟩ := r
  have : b = a := by rw [ho] at e2; exact (List.cons.inj e2).1.symm
  subst this
  exact ⟨b, vs', e1, e2, hl, hr.keep (jN.mut (FrR.mine i ha) hs)⟩
theorem xU {a : Addr} {h h' : Heap} (hs : Heap.SameBut a h h') : ∀ b o, b ≠ a → h.get? b = some o → h'.get? b = some o := fun b o hb e => hs.extBut b o hb e
theorem st_app {x q q1 q2 pos e m} (h1 : yY p N e m) {i : Nat} (hx : N.slots[i]? = some x) (hd : (x == ("__debug__" : Str)) = false) (hn : yU e = true) (hp : (q1.endLine == q2.line) = true)
    (hb : ∀ env, attributeBase (.Name x q) "append" env (eval (.Name x q) env) = eval (.Name x q) env) :
    zP p N (.Expr (.Call (.Attribute (.Name x q) "append" q1) [e] [] q2) pos) (.app i m) := fun {fuel σ fl σ' fb env own A s E Q} h a F k => by
  refine sOV h fun l v hσ hv h => jR h fun hl h => ?_
  have k := k.ofe h
  refine wpAny_Expr_any ?_ (by rw [interactive, F.e.kind]; rfl)
  refine Call_method1 (hb env) (by rw [qL hn]; rfl) hp (F.load hσ hx hd fun V r => ?_)
  obtain ⟨d, vs, rfl, ho, hpl, hq⟩ := r
  obtain ⟨np, hp'⟩ := id hpl
  refine ⟨"list", "list.append", PySem.F.plainAttrs_list, PySem.F.slot_list_append, PySem.F.type_list_append, ⟨_, hp', rfl⟩, fun b e => by cases e; exact ⟨_, hp', rfl⟩, ?_⟩
  refine Calls.callWith_builtin rfl (Calls.evalArgs_plain (Calls.spliced_cons (h1 hv (F.cx a) fun V' s1 x1 r1 => Calls.spliced_nil ?_)))
  have hpl1 : s1.heap.PlainList d vs.toArray := ⟨np, x1.keep _ _ hp'⟩
  have hlen := hq.length
  have := xX
  refine wpAny_list_append_plain hpl1 (fun h' hl' hsb => ?_) (by simp; omega)
  refine k _ _ _ ((F.ext x1).mutOwn (tk := s1.toks) hσ ho (xU hsb) (vs' := vs ++ [V']) (by simpa using hl') ((hq.ext x1).append (yX.one r1))) rfl (zM (Own'.refl F i))
end
end Mine
end
set_option tactic.hygienic true
section
open PySem PySem.W PyProof.Rows PySem.SeqAt PySem.Calls
namespace Mine
section
variable {p : P5} {N : NI} {fb : FB} {env : Env} {σ : St} {own : Nat → List Addr} {s : Shared} {A : Around} {E : Value → Shared → Prop} {prog : Program} {w : World}
theorem plain_update {h : Heap} {l : Addr} {items : Array Value} (x : h.PlainList l items) (f : Array Value → Array Value) : (h.update l (Obj.mapSeq f)).PlainList l (f items) :=
  let ⟨n, e⟩ := x; ⟨_, PySem.IsL.update (n := n) e f⟩
theorem posI_range {n : Nat} {j : Int} {k : Nat} (h : posI n j = some k) : -(2 ^ 63) ≤ j ∧ j < 2 ^ 63 ∧ k < n ∧ (0 ≤ j ∧ j.toNat = k ∨ j < 0 ∧ -(n : Int) ≤ j ∧ (j + n).toNat = k) := by
  unfold posI at h
  split at h
  · rename_i hs
    simp [small] at hs
    split at h
    · split at h
      · cases h; refine ⟨by omega, by omega, by assumption, .inl ⟨by assumption, rfl⟩⟩
      · first | exact nn h | cases h
    · split at h
      · cases h; refine ⟨by omega, by omega, by omega, .inr ⟨by omega, by omega, by congr 1; omega⟩⟩
      · first | exact nn h | cases h
  · first | exact nn h | cases h
theorem setItem_ok {l : Addr} {vs : List Value} {j : Int} {t : Tok} {k : Nat} {v : Value} {Q : Unit → Shared → Prop} (hl : s.heap.PlainList l vs.toArray) (hp : posI vs.length j = some k)
    (h : ∀ h', h'.PlainList l (vs.set k v).toArray → Heap.SameBut l s.heap h' → Q () { s with heap := h' }) : wpAny (model prog w) A (setItem (.ref l) (.int j t) v) Q E s := by
  obtain ⟨n, e⟩ := id hl
  obtain ⟨h1, h2, h3, h4⟩ := posI_range hp
  have fin : Q () { s with heap := s.heap.update l (Obj.mapSeq (·.setIfInBounds k v)) } := h _ (by simpa using plain_update hl (·.setIfInBounds k v)) (Heap.SameBut.update ..)
  rcases h4 with ⟨h4, h5⟩ | ⟨h4, h5, h6⟩
  · subst h5
    exact ki_setAt (n := n) e h4 h2 (by simp; omega) fin
  · have e2 : (j + (vs.toArray.size : Int)).toNat = k := by simpa using h6
    refine ki_setBack (n := n) e h4 (by simpa using h5) h1 ?_
    rw [e2]; exact fin
theorem getItem_ok {l : Addr} {vs : List Value} {j : Int} {t : Tok} {x : Value} {k : Nat} {Q : Value → Shared → Prop} (hl : s.heap.PlainList l vs.toArray) (hp : posI vs.length j = some k) (hx : vs[k]? = some x) (h : Q x s) :
    wpAny (model prog w) A (getItem (.ref l) (.int j t)) Q E s := by
  obtain ⟨h1, h2, h3, h4⟩ := posI_range hp
  rcases h4 with ⟨h4, h5⟩ | ⟨h4, h5, h6⟩
  · subst h5
    exact wpAny_getItem_list hl.isList h4 h2 (by simpa using hx) h
  · subst h6
    exact wpAny_getItem_list_neg hl.isList h4 (by simpa using h5) h1 (by simpa [Int.add_comm] using hx) h
theorem getI_pos {α : Type} {l : List α} {j : Int} {k : Nat} (h : posI l.length j = some k) : yN l j = l[k]? := by
  unfold posI at h; unfold yN
  split at h
  · rename_i hs
    rw [if_pos hs]
    split at h
    · rename_i h0
      rw [if_pos h0]
      split at h
      · cases h; rfl
      · first | exact nn h | cases h
    · rename_i h0
      rw [if_neg h0]
      split at h
      · rename_i h1; rw [if_pos h1]; cases h; rfl
      · first | exact nn h | cases h
  · first | exact nn h | cases h
theorem st_seti {x q e m ie im q' pos} (h1 : yY p N e m) (h2 : yY p N ie im) {i : Nat} (hx : N.slots[i]? = some x) (hd : (x == ("__debug__" : Str)) = false)
    (hs : ∀ env : Env, swapsWith e (some (.Subscript (.Name x q) ie q')) pos.line env = pure false) : zP p N (.Assign [.Subscript (.Name x q) ie q'] e pos) (.seti i im m) := fun {fuel σ fl σ' fb env own A s E Q} h a F k => by
  refine sOVI h fun l v j hσ hv hj h => ivN h fun n hn h => ?_
  have k := k.os h
  refine wpAny_Assign_Subscript (h1 hv (F.cx a) fun V s1 x1 r1 => (F.ext x1).load hσ hx hd fun VO r => h2 hj (F.cx a |>.ext x1) fun VI s2 x2 r2 => ?_) (hs env)
  obtain ⟨d, vs, rfl, ho, hpl, hq⟩ := r
  obtain ⟨t, rfl⟩ := r2
  have hpl2 : s2.heap.PlainList d vs.toArray := let ⟨np, e⟩ := hpl; ⟨np, x2.keep _ _ e⟩
  refine setItem_ok hpl2 (by rw [hq.length]; exact hn) fun h' hl' hsb => ?_
  exact k _ _ _ ((F.ext (x1.trans x2)).mutOwn (tk := s2.toks) hσ ho (xU hsb) hl' (yX.set (r1.ext x2) (hq.ext x2) n)) rfl (zM (Own'.refl F i))
theorem iop_ok {op : MOp} (hop : op = .add ∨ op = .sub) {x y : Int} {r : PV} {t u : Tok} {T O} {Q : Value → Shared → Prop} (hb : yP op (.int x) (.int y) = some r)
    (k : ∀ V s', Ext s s' → Rep T O s'.heap r V → Q V s') : wpAny (model prog w) A (inplaceOp op.op (.int x t) (.int y u)) Q E s := by
  rcases hop with rfl | rfl
  · obtain rfl := Option.some.inj hb
    exact PySem.AutoIntOps.iadd_0 (k _ _ (Ext.toks ..) ⟨_, rfl⟩)
  · obtain rfl := Option.some.inj hb
    exact PySem.AutoIntOps.isub_0 (k _ _ (Ext.toks ..) ⟨_, rfl⟩)
theorem st_aug {x q e m pos} (op : MOp) (hop : op = .add ∨ op = .sub) (h1 : yY p N e m) {i : Nat} (hx : N.slots[i]? = some x) :
    zP p N (.AugAssign (.Name x q) op.op e pos) (.aug i op m) := fun {fuel σ fl σ' fb env own A s E Q} h a F k => by
  refine sVI h fun y z hσ hv h => iv1 h fun r hr h => ?_
  have k := k.os h
  obtain ⟨mm, hm, hsl⟩ := F.ns
  obtain ⟨x', V, hx', hv', hr'⟩ := hsl i _ hσ
  have e1 : x' = x := Option.some.inj (hx'.symm.trans hx)
  subst e1
  obtain ⟨t, rfl⟩ := (show ∃ t, V = .int y t from hr'.2)
  have fin : wpAny (model p.prog p.w) A (eval e env) (fun v s₂ => wpAny (model p.prog p.w) A (inplaceOp op.op (.int y t) v) (fun r s₃ => wpAny (model p.prog p.w) A (storeName env x' r) (fun _ => Q .next) E s₃) E s₂) E s :=
    h1 hv (F.cx a) fun V1 s1 x1 r1 => by
      obtain ⟨u, rfl⟩ := r1
      exact iop_ok hop hr fun V2 s2 x2 r2 => (F.ext (x1.trans x2)).storeV hx r2 fun s3 F3 => k _ _ _ F3 rfl (zM (Own'.drop F i))
  refine wpAny_AugAssign_Name ?_
  rcases hv' with ⟨hk, e⟩ | ⟨hk, cc, hl, hc⟩
  · exact wpAny_loadName_local F.e.kind hk hm e fin
  · exact wpAny_loadName_cell F.e.kind hk hl hc fin
theorem st_augi {x q e m ie im q' pos} (op : MOp) (hop : op = .add ∨ op = .sub) (h1 : yY p N e m) (h2 : yY p N ie im) {i : Nat} (hx : N.slots[i]? = some x) (hd : (x == ("__debug__" : Str)) = false)
    (hs : ∀ ov iv new, augStore ie ov iv new = (do holding [new, ov, iv] (setItem ov iv new); release [new, ov, iv] []; pure .next)) :
    zP p N (.AugAssign (.Subscript (.Name x q) ie q') op.op e pos) (.augi i im op m) := fun {fuel σ fl σ' fb env own A s E Q} h a F k => by
  refine sOII h fun l j z hσ hj hv h => ivNI h fun n y hn hg h => iv1 h fun r hr h => ?_
  have k := k.os h
  refine wpAny_AugAssign_SubscriptAny (F.load hσ hx hd fun VO ro => h2 hj (F.cx a) fun VI s1 x1 r1 => ?_) hs
  obtain ⟨d, vs, rfl, ho, hpl, hq⟩ := ro
  obtain ⟨t, rfl⟩ := r1
  have hpl1 : s1.heap.PlainList d vs.toArray := let ⟨np, e⟩ := hpl; ⟨np, x1.keep _ _ e⟩
  have hn' : posI vs.length j = some n := by rw [hq.length]; exact hn
  rw [getI_pos hn] at hg
  obtain ⟨V, hV, hrV⟩ := hq.get hg
  obtain ⟨u, rfl⟩ := hrV
  refine getItem_ok hpl1 hn' hV ?_
  refine h1 hv ((F.cx a).ext x1) fun V2 s2 x2 r2 => ?_
  obtain ⟨u2, rfl⟩ := r2
  refine iop_ok (T := p.B.T) (O := FO env fb.O₀ own) hop hr fun V3 s3 x3 r3 => ?_
  have hpl3 : s3.heap.PlainList d vs.toArray := let ⟨np, e⟩ := hpl1; ⟨np, x3.keep _ _ (x2.keep _ _ e)⟩
  refine setItem_ok hpl3 hn' fun h' hl' hsb => ?_
  exact k _ _ _ ((F.ext (x1.trans (x2.trans x3))).mutOwn (tk := s3.toks) hσ ho (xU hsb) hl' (yX.set r3 (hq.ext (x1.trans (x2.trans x3))) n)) rfl (zM (Own'.refl F i))
theorem FrR.mutDic (F : FrR p N fb env σ own s) {i : Nat} {d d' : List (Int × PV)} {a : Addr} {ks' : List (Int × Value)} {h' : Heap} {tk : Nat} (hi : σ i = some (.dic d)) (ho : own i = [a])
    (hs : ∀ b o, b ≠ a → s.heap.get? b = some o → h'.get? b = some o) (hl : h'.DictOf (intKind p.prog p.w) a ks') (hr : jS p.B.T (FO env fb.O₀ own) s.heap d' ks') : FrR p N fb env (σ.set i (.dic d')) own { s with heap := h', toks := tk } := by
  have ha : a ∈ own i := by rw [ho]; exact .head _
  refine F.mut hi ha (Own'.refl F i) hs (let ⟨o, e, _⟩ := Heap.dictOf_iff.mp hl; ⟨o, e⟩) fun V r => ?_
  obtain ⟨b, ks, e1, e2, e3, e4, e5⟩ := r
  have : b = a := by rw [ho] at e2; exact (List.cons.inj e2).1.symm
  subst this
  exact ⟨b, ks', e1, e2, e3, hl, hr.keep (jN.mut (FrR.mine i ha) hs)⟩
theorem repD_any {T O h} {x : Int} : ∀ {d : List (Int × PV)} {ks : List (Int × Value)}, jS T O h d ks → (d.any fun q => q.1 = x) = (ks.any fun q => q.1 = x)
  | [], _, e => by subst e; rfl
  | (k, u) :: d, _, ⟨U, ks, e, q, t⟩ => by subst e; rw [List.any_cons, List.any_cons, repD_any t]
theorem repD_map {T O h} {x : Int} {v : PV} {V : Value} (r : Rep T O h v V) : ∀ {d : List (Int × PV)} {ks : List (Int × Value)}, jS T O h d ks → jS T O h (d.map fun q => if q.1 = x then (q.1, v) else q) (ks.map fun q => if q.1 = x then (q.1, V) else q)
  | [], _, e => by subst e; exact rfl
  | (k, u) :: d, _, ⟨U, ks, e, q, t⟩ => by
    subst e
    have ih := repD_map (x := x) r t
    rw [List.map_cons, List.map_cons]
    by_cases hk : k = x
    · simp only [hk, if_true]; exact ⟨V, _, rfl, r, ih⟩
    · simp only [hk, if_false]; exact ⟨U, _, rfl, q, ih⟩
theorem repD_snoc {T O h} {x : Int} {v : PV} {V : Value} (r : Rep T O h v V) : ∀ {d : List (Int × PV)} {ks : List (Int × Value)}, jS T O h d ks → jS T O h (d ++ [(x, v)]) (ks ++ [(x, V)])
  | [], _, e => by subst e; exact ⟨V, [], rfl, r, rfl⟩
  | (k, u) :: d, _, ⟨U, ks, e, q, t⟩ => by subst e; exact ⟨U, _, rfl, q, repD_snoc r t⟩
theorem repD_stored {T O h} {x : Int} {v : PV} {V : Value} (r : Rep T O h v V) {d : List (Int × PV)} {ks : List (Int × Value)} (t : jS T O h d ks) : jS T O h (yR d x v) (stored ks x V) := by
  unfold yR stored
  rw [repD_any t]
  split
  · exact repD_map r t
  · exact repD_snoc r t
theorem repD_without {T O h} {x : Int} : ∀ {d : List (Int × PV)} {ks : List (Int × Value)}, jS T O h d ks → jS T O h (d.filter fun q => q.1 != x) (without ks x)
  | [], _, e => by subst e; exact rfl
  | (k, u) :: d, _, ⟨U, ks, e, q, t⟩ => by
    subst e
    have ih := repD_without (x := x) t
    by_cases hk : k = x
    · subst hk; simpa [without] using ih
    · have h1 : ((k, u) :: d).filter (fun q => q.1 != x) = (k, u) :: d.filter (fun q => q.1 != x) := by simp [hk]
      have h2 : without ((k, U) :: ks) x = (k, U) :: without ks x := by simp [without, hk]
      rw [h1, h2]; exact ⟨U, _, rfl, q, ih⟩
theorem st_dset {x q e m ie im q' pos} (h1 : yY p N e m) (h2 : yY p N ie im) {i : Nat} (hx : N.slots[i]? = some x) (hd : (x == ("__debug__" : Str)) = false)
    (hs : ∀ env : Env, swapsWith e (some (.Subscript (.Name x q) ie q')) pos.line env = pure false) : zP p N (.Assign [.Subscript (.Name x q) ie q'] e pos) (.dset i im m) := fun {fuel σ fl σ' fb env own A s E Q} h a F k => by
  refine sDVI h fun d v j hσ hv hj h => jR h fun hsz h => ?_
  have k := k.ofe h
  refine wpAny_Assign_Subscript (h1 hv (F.cx a) fun V s1 x1 r1 => (F.ext x1).load hσ hx hd fun VO r => h2 hj (F.cx a |>.ext x1) fun VI s2 x2 r2 => ?_) (hs env)
  obtain ⟨b, ks, rfl, ho, hsm, hD, hq⟩ := r
  obtain ⟨t, rfl⟩ := r2
  have hD2 : s2.heap.DictOf (intKind p.prog p.w) b ks := let ⟨o, e, q⟩ := Heap.dictOf_iff.mp hD; Heap.dictOf_iff.mpr ⟨o, x2.keep _ _ e, q⟩
  have hlen := hq.length
  have := xX
  refine wpAny_setItem_pairs (intKind_is p.prog p.w j t) hD2 (fun h' hl' hsb => ?_) (by omega)
  exact k _ _ _ ((F.ext (x1.trans x2)).mutDic hσ ho (xU hsb) hl' (repD_stored (r1.ext x2) (hq.keep (x2.keepO _)))) rfl (zM (Own'.refl F i))
end
end Mine
end
section
open PySem PySem.W PyProof.Rows PySem.SeqAt PySem.Calls
namespace Mine
section
variable {p : P5} {N : NI} {fb : FB} {env : Env} {σ : St} {own : Nat → List Addr} {s : Shared} {A : Around} {E : Value → Shared → Prop} {prog : Program} {w : World}
theorem Own'.mk2 (F : FrR p N fb env σ own s) {i j : Nat} (hij : i ≠ j) (hj : σ j = none) {as : List Addr} (hs : ∀ a, a ∈ as → a ∈ own i ∨ a ∈ own j) (hd : as.Nodup) : Own' σ own (upd (upd own i as) j []) i where
  same := fun k h hs' => by
    have : k ≠ j := by rintro rfl; rw [hj] at hs'; cases hs'
    rw [zX _ _ this, zX _ _ h]
  sub := fun k a h => by
    unfold upd at h; split at h
    · first | exact nn h | cases h
    · split at h
      · rcases hs a h with h | h
        · exact ⟨i, h⟩
        · exact ⟨j, h⟩
      · exact ⟨k, h⟩
  dis := fun k k' a h h1 h2 => by
    unfold upd at h1 h2
    split at h1
    · first | exact nn h1 | cases h1
    · split at h2
      · first | exact nn h2 | cases h2
      · rename_i a1 a2
        split at h1
        · split at h2
          · rename_i b1 b2; exact h (b1.trans b2.symm)
          · rename_i b1 b2
            rcases hs a h1 with g | g
            · exact (F.ownA i a g).2.2 k' b2 h2
            · exact (F.ownA j a g).2.2 k' a2 h2
        · rename_i b1
          split at h2
          · rcases hs a h2 with g | g
            · exact (F.ownA k a h1).2.2 i (Ne.symm b1) g
            · exact (F.ownA k a h1).2.2 j (Ne.symm a1) g
          · exact (F.ownA k a h1).2.2 k' (Ne.symm h) h2
  nd := fun k => by
    unfold upd; split
    · exact List.nodup_nil
    · split
      · exact hd
      · exact F.nd k
theorem wr_mk2 (F : FrR p N fb env σ own s) {i j : Nat} {as bs : List Addr} {sv : SV} (hj : σ j = none) (w : Own' σ (upd own j bs) (upd (upd (upd own j bs) i as) j []) i) : Wr [i] σ own (σ.set i sv) (upd (upd (upd own j bs) i as) j []) := fun k hk => by
  have : k ≠ i := by simpa using hk
  refine ⟨St.set_ne _ _ this, fun hs => (w.same k this hs).trans (zX _ _ ?_)⟩
  rintro rfl
  rw [hj] at hs; cases hs
theorem st_ddel {x q ie im q' pos} (h2 : yY p N ie im) {i : Nat} (hx : N.slots[i]? = some x) (hd : (x == ("__debug__" : Str)) = false) : zP p N (.Delete [.Subscript (.Name x q) ie q'] pos) (.ddel i im) := fun {fuel σ fl σ' fb env own A s E Q} h a F k => by
  refine sDicI h fun d j hσ hj h => jR h fun hsz h => ?_
  have k := k.ofe h
  simp only [Bool.and_eq_true, decide_eq_true_eq] at hsz
  refine wpAny_Delete (wpAny_deleteEach_cons (wpAny_delete_Subscript (F.load hσ hx hd fun VO r => h2 hj (F.cx a) fun VI s2 x2 r2 => ?_)))
  obtain ⟨b, ks, rfl, ho, hsm, hD, hq⟩ := r
  obtain ⟨t, rfl⟩ := r2
  have hD2 : s2.heap.DictOf (intKind p.prog p.w) b ks := let ⟨o, e, q⟩ := Heap.dictOf_iff.mp hD; Heap.dictOf_iff.mpr ⟨o, x2.keep _ _ e, q⟩
  have hlen := hq.length
  have := xX
  unfold delItem
  try with_reducible refine wpAny_holding ?_
  refine wpAny_bind (wpAny_sequenceKey hD2.typeIs (by decide) ?_)
  refine wpAny_bind (wpAny_callSpecial?_slot (name := Str.ofString "__delitem__") hD2.typeIs PySem.F.slot_dict_delitem
    (call_meetsIn PySem.F.slot_dict_delitem hD2.typeIs PySem.F.entry_dict_delitem (PySem.F.args_dict_delitem_2 _ _) (meets_dict_delitem_pairs (intKind p.prog p.w) b (intKind_is p.prog p.w j t)) ⟨ks, hD2, by omega, ?_, fun h' hmm hs => ?_⟩))
  · rw [← ((jS.lookup hq) j).1]; exact hsz.2
  · exact wpAny_pure (wpAny_deleteEach_nil (k _ _ _ ((F.ext x2).mutDic (tk := s2.toks + 1) hσ ho (xU hs) hmm (repD_without (hq.keep (x2.keepO _)))) rfl (zM (Own'.refl F i))))
theorem dropLast_erase {vs : List Value} : vs.toArray.eraseIdxIfInBounds (vs.toArray.size - 1) = vs.dropLast.toArray := by
  apply Array.ext'
  simp [Array.eraseIdxIfInBounds]
  split
  · rename_i h
    simp [List.dropLast_eq_take]
  · rename_i h
    have : vs = [] := by
      cases vs with
      | nil => rfl
      | cons => simp at h
    subst this; rfl
theorem pop_ok {l : Addr} {vs : List Value} {y : Value} {pos : Pos} {Q : Value → Shared → Prop} (hl : s.heap.PlainList l vs.toArray) (hy : vs.getLast? = some y) (hsz : vs.length ≤ sizeLine)
    (h : ∀ h', h'.PlainList l vs.dropLast.toArray → Heap.SameBut l s.heap h' → Q y { s with heap := h' }) : wpAny (model prog w) A (callWith pos (.builtin "list.pop") [.ref l] [] []) Q E s := by
  obtain ⟨n, e⟩ := id hl
  refine PySem.P.pop_list (n := n) e (by rw [← hy, List.getLast?_eq_getElem?]; simp) ?_ (by simpa using hsz)
  refine h _ ?_ (Heap.SameBut.update ..)
  have := plain_update hl (fun xs => xs.eraseIdxIfInBounds (vs.toArray.size - 1))
  rwa [dropLast_erase] at this
theorem yX.getLast {T O h} {l : List PV} {vs : List Value} (q : yX T O h l vs) {x : PV} (hx : l.getLast? = some x) : ∃ V, vs.getLast? = some V ∧ Rep T O h x V := by
  rw [List.getLast?_eq_getElem?] at hx
  obtain ⟨V, h1, h2⟩ := q.get hx
  exact ⟨V, by rw [List.getLast?_eq_getElem?, q.length]; exact h1, h2⟩
theorem yX.dropLast {T O h} {l : List PV} {vs : List Value} (q : yX T O h l vs) : yX T O h l.dropLast vs.dropLast := by
  rw [List.dropLast_eq_take, List.dropLast_eq_take, q.length]; exact q.take _
theorem pop_call {x q q1 q2} {i : Nat} {l : List PV} {v : PV} {Q : Value → Shared → Prop} (F : FrR p N fb env σ own s) (hσ : σ i = some (.own l)) (hl : l.length ≤ SZ) (hv : l.getLast? = some v) (hx : N.slots[i]? = some x) (hd : (x == ("__debug__" : Str)) = false)
    (hb : attributeBase (.Name x q) "pop" env (eval (.Name x q) env) = eval (.Name x q) env) (hp : (q1.endLine == q2.line) = true)
    (k : ∀ V s', FrR p N fb env (σ.set i (.own l.dropLast)) own s' → Rep p.B.T (FO env fb.O₀ own) s'.heap v V → Q V s') : wpAny (model p.prog p.w) A (eval (.Call (.Attribute (.Name x q) "pop" q1) [] [] q2) env) Q E s := by
  refine Call_method0 hb hp (F.load hσ hx hd fun V r => ?_)
  obtain ⟨d, vs, rfl, ho, hpl, hq⟩ := r
  obtain ⟨np, hp'⟩ := id hpl
  obtain ⟨V, hV, hrV⟩ := hq.getLast hv
  have hlen := hq.length
  have := xX
  refine ⟨"list", "list.pop", PySem.F.plainAttrs_list, PySem.F.slot_list_pop, PySem.F.type_list_pop, ⟨_, hp', rfl⟩, fun b e => by cases e; exact ⟨_, hp', rfl⟩, ?_⟩
  refine pop_ok hpl hV (by omega) fun h' hl' hsb => k _ _ (F.mutOwn (tk := s.toks) hσ ho (xU hsb) hl' hq.dropLast) (hrV.keep (jN.mut (FrR.mine i (by rw [ho]; exact .head _)) (xU hsb)))
theorem st_pop {x q q1 q2 pos} {i : Nat} (hx : N.slots[i]? = some x) (hd : (x == ("__debug__" : Str)) = false) (hp : (q1.endLine == q2.line) = true)
    (hb : ∀ env, attributeBase (.Name x q) "pop" env (eval (.Name x q) env) = eval (.Name x q) env) : zP p N (.Expr (.Call (.Attribute (.Name x q) "pop" q1) [] [] q2) pos) (.pop i) := fun {fuel σ fl σ' fb env own A s E Q} h a F k => by
  refine sOwn h fun l hσ h => jR h fun hl h => ?_
  have k := k.ofe h
  simp only [Bool.and_eq_true, decide_eq_true_eq, Bool.not_eq_true'] at hl
  obtain ⟨v, hv⟩ : ∃ v, l.getLast? = some v := by
    cases l with
    | nil => simp at hl
    | cons y l => exact ⟨_, List.getLast?_cons ..⟩
  exact wpAny_Expr_any (pop_call F hσ hl.1 hv hx hd (hb env) hp fun V s' F' r => k _ _ _ F' rfl (zM (Own'.refl F i))) (by rw [interactive, F.e.kind]; rfl)
theorem st_popOr {x q q1 q2 y qy qb pos e m} (h1 : yY p N e m) {i j : Nat} (hx : N.slots[i]? = some x) (hy : N.slots[j]? = some y) (hd : (x == ("__debug__" : Str)) = false) (hp : (q1.endLine == q2.line) = true)
    (hb : ∀ env, attributeBase (.Name x q) "pop" env (eval (.Name x q) env) = eval (.Name x q) env) (hs : ∀ env : Env, swapsWith (.BoolOp .Or [.Call (.Attribute (.Name x q) "pop" q1) [] [] q2, e] qb) (some (.Name y qy)) pos.line env = pure false) :
    zP p N (.Assign [.Name y qy] (.BoolOp .Or [.Call (.Attribute (.Name x q) "pop" q1) [] [] q2, e] qb) pos) (.popOr j i m) := fun {fuel σ fl σ' fb env own A s E Q} h a F k => by
  refine sOwn h fun l hσ h => iv1 h fun v hv h => iteO h fun hsz h => ?_
  have W : ∀ {σ₁ σ₂ : St} {own₁ own₂ : Nat → List Addr}, Wr [i] σ own σ₁ own₁ → Wr [j] σ₁ own₁ σ₂ own₂ → Wr [i, j] σ own σ₂ own₂ := fun a b => Wr.trans (a.mono fun q hq => by simp at hq; simp [hq]) (b.mono fun q hq => by simp at hq; simp [hq])
  refine wpAny_Assign_Name (wpAny_Or2 (pop_call F hσ hsz hv hx hd (hb env) hp fun V s1 F1 r1 => ?_)) (hs env)
  refine iBool h (fun ht h => ?_) fun ht h => iv1 h fun v' hv' h => ?_
  · have k := k.os h
    refine truth_ok ht r1 fun s2 x2 => ?_
    simp only [if_true]
    exact (F1.ext x2).storeV hy (r1.ext x2) fun s3 F3 => k _ _ _ F3 rfl (W (zM (Own'.refl F i)) (zM (Own'.drop (F1.ext x2) j)))
  · have k := k.os h
    refine truth_ok ht r1 fun s2 x2 => ?_
    simp only [Bool.false_eq_true, if_false]
    refine h1 hv' ((F1.ext x2).cx a) fun V3 s3 x3 r3 => ?_
    exact ((F1.ext x2).ext x3).storeV hy r3 fun s4 F4 => k _ _ _ F4 rfl (W (zM (Own'.refl F i)) (zM (Own'.drop ((F1.ext x2).ext x3) j)))
end
end Mine
end
set_option tactic.hygienic false
section
open PySem PySem.W PyProof.Rows PySem.SeqAt PySem.Calls
namespace Mine
section
variable {p : P5} {N : NI} {fb : FB} {env : Env} {σ : St} {own : Nat → List Addr} {s : Shared} {A : Around} {E : Value → Shared → Prop} {prog : Program} {w : World}
theorem zL.setAt {T O h h'} {b : Addr} {l' : List PV} {vs' : List Value} (k : jN O h O h') (hk : ∀ c o, c ≠ b → h.get? c = some o → h'.get? c = some o) (hp : h'.PlainList b vs'.toArray) (hr : yX T O h' l' vs') :
    ∀ {ls : List (List PV)} {bs : List Addr} {n : Nat}, bs.Nodup → bs[n]? = some b → zL T O h ls bs → zL T O h' (ls.set n l') bs
  | [], _, n, _, e, x => by cases x; simp at e
  | l :: ls, _, 0, hd, e, ⟨a, r, vs, e1, hn, q, x⟩ => by
    subst e1
    simp at e; subst e
    obtain ⟨d1, d2⟩ := List.nodup_cons.mp hd
    refine ⟨a, r, vs', rfl, hp, hr, zL.keep k (fun c hc o => hk c o (fun e => d1 (e ▸ hc))) x⟩
  | l :: ls, _, n + 1, hd, e, ⟨a, r, vs, e1, ⟨m, hm⟩, q, x⟩ => by
    subst e1
    simp at e
    obtain ⟨d1, d2⟩ := List.nodup_cons.mp hd
    have hab : a ≠ b := fun e' => d1 (e' ▸ List.mem_of_getElem? e)
    exact ⟨a, r, vs, rfl, ⟨m, hk a _ hab hm⟩, q.keep k, zL.setAt k hk hp hr d2 e x⟩
theorem zL.snoc {T O h} {b : Addr} {l' : List PV} {vs' : List Value} (hp : h.PlainList b vs'.toArray) (hr : yX T O h l' vs') : ∀ {ls : List (List PV)} {bs : List Addr}, zL T O h ls bs → zL T O h (ls ++ [l']) (bs ++ [b])
  | [], _, x => by cases x; exact ⟨b, [], vs', rfl, hp, hr, rfl⟩
  | l :: ls, _, ⟨a, r, vs, e1, hn, q, x⟩ => by subst e1; exact ⟨a, _, vs, rfl, hn, q, zL.snoc hp hr x⟩
theorem zL.take {T O h} : ∀ {ls : List (List PV)} {bs : List Addr} (n : Nat), zL T O h ls bs → zL T O h (ls.take n) (bs.take n)
  | _, _, 0, x => by simp [zL]
  | [], _, n + 1, x => by cases x; simp [zL]
  | l :: ls, _, n + 1, ⟨a, r, vs, e1, hn, q, x⟩ => by subst e1; exact ⟨a, _, vs, rfl, hn, q, zL.take n x⟩
theorem zL.drop {T O h} : ∀ {ls : List (List PV)} {bs : List Addr} (n : Nat), zL T O h ls bs → zL T O h (ls.drop n) (bs.drop n)
  | _, _, 0, x => by simpa using x
  | [], _, n + 1, x => by cases x; simp [zL]
  | l :: ls, _, n + 1, ⟨a, r, vs, e1, hn, q, x⟩ => by subst e1; simpa using zL.drop n x
theorem posI_seq {n : Nat} {j : Int} {k : Nat} (h : posI n j = some k) : seqIndex? j n = some k := by
  obtain ⟨g1, g2, g3, g4⟩ := posI_range h
  unfold seqIndex?
  rcases g4 with ⟨g4, g5⟩ | ⟨g4, g5, g6⟩
  · have h1 : ¬ j < 0 := by omega
    have h2 : j < (n : Int) := by omega
    simp [h1, g4, h2, g5]
  · have h1 : 0 ≤ j + (n : Int) := by omega
    have h2 : j + (n : Int) < (n : Int) := by omega
    simp only [g4, if_true]
    simp [h1, g6]; omega
theorem yM (h : Heap) : h.get? h.objs.size = none := by
  cases e : h.get? h.objs.size with
  | none => rfl
  | some o => exact absurd (Heap.lt_size e) (Nat.lt_irrefl _)
theorem st_app2 {x q q1 q2 q3 pos e m ie im} (h1 : yY p N e m) (h2 : yY p N ie im) {i : Nat} (hx : N.slots[i]? = some x) (hd : (x == ("__debug__" : Str)) = false) (hn : yU e = true) (hp : (q1.endLine == q2.line) = true)
    (hb : ∀ env, attributeBase (.Subscript (.Name x q) ie q3) "append" env (eval (.Subscript (.Name x q) ie q3) env) = eval (.Subscript (.Name x q) ie q3) env) (hs : ∀ o j, subscripted ie false o j = operate [o, j] (getItem o j)) :
    zP p N (.Expr (.Call (.Attribute (.Subscript (.Name x q) ie q3) "append" q1) [e] [] q2) pos) (.app2 i im m) := fun {fuel σ fl σ' fb env own A s E Q} h a F k => by
  refine sO2IV h fun ls j v hσ hj hv h => ivNL h fun n l hn' hl' h => jR h fun hsz h => ?_
  have k := k.ofe h
  refine wpAny_Expr_any ?_ (by rw [interactive, F.e.kind]; rfl)
  refine Call_method1 (hb env) (by rw [qL hn]; rfl) hp (Subscript_ (F.load hσ hx hd fun V r => h2 hj (F.cx a) fun V' s1 x1 r1 => ?_))
  obtain ⟨d, bs, rfl, ho, hpl, hq⟩ := r
  obtain ⟨t, rfl⟩ := r1
  obtain ⟨z1, z2, _, _⟩ := posI_range hn'
  rw [getI_pos hn'] at hl'
  obtain ⟨b2, vs, hb', hpb, hqb⟩ := xN hq hl'
  obtain ⟨no, ho'⟩ := hpl
  refine xR (vs := bs.map Value.ref) ⟨no, x1.keep _ _ ho'⟩ z1 z2 (by simpa [own2_len hq] using posI_seq hn') (by simpa using ⟨b2, hb', rfl⟩) ?_ hs
  obtain ⟨np, hp'⟩ := id hpb
  have hp1 := x1.keep _ _ hp'
  refine ⟨"list", "list.append", PySem.F.plainAttrs_list, PySem.F.slot_list_append, PySem.F.type_list_append, ⟨_, hp1, rfl⟩, fun b e => by cases e; exact ⟨_, hp1, rfl⟩, ?_⟩
  refine Calls.callWith_builtin rfl (Calls.evalArgs_plain (Calls.spliced_cons (h1 hv ((F.cx a).ext x1) fun V2 s2 x2 r2 => Calls.spliced_nil ?_)))
  have hpl2 : s2.heap.PlainList b2 vs.toArray := ⟨np, x2.keep _ _ hp1⟩
  have hlen := hqb.length
  have := xX
  have hmem : b2 ∈ own i := by rw [ho]; exact .tail _ (List.mem_of_getElem? hb')
  refine wpAny_list_append_plain hpl2 (fun h' hl' hsb => ?_) (by simp; omega)
  refine k _ _ _ ((F.ext (x1.trans x2)).mut (tk := s2.toks) (sv := .own2 (ls.set n (l ++ [v]))) hσ hmem (Own'.refl F i) (xU hsb) (let ⟨n, e⟩ := hl'; ⟨_, e⟩) fun V3 r3 => ?_) rfl (zM (Own'.refl F i))
  obtain ⟨d3, bs3, e1, e2, ⟨n3, e3⟩, e4⟩ := r3
  have e5 : bs3 = bs := by rw [ho] at e2; exact (List.cons.inj e2).2.symm
  have e6 : d3 = d := by rw [ho] at e2; exact (List.cons.inj e2).1.symm
  subst e5 e6
  have hdb : d3 ≠ b2 := fun e => by
    have := F.nd i
    rw [ho] at this
    exact (List.nodup_cons.mp this).1 (e ▸ List.mem_of_getElem? hb')
  have K := jN.mut (FrR.mine (env := env) (fb := fb) i hmem) (xU hsb)
  have hd2 : bs3.Nodup := by have := F.nd i; rw [ho] at this; exact (List.nodup_cons.mp this).2
  exact ⟨d3, bs3, e1, ho, ⟨n3, xU hsb _ _ hdb e3⟩, zL.setAt K (xU hsb) (vs' := vs ++ [V2]) (by simpa using hl') (((hqb.ext (x1.trans x2)).append (yX.one r2)).keep K) hd2 hb' e4⟩
theorem st_appN {x q q1 q2 q3 pos} {i : Nat} (hx : N.slots[i]? = some x) (hd : (x == ("__debug__" : Str)) = false) (hp : (q1.endLine == q2.line) = true)
    (hb : ∀ env, attributeBase (.Name x q) "append" env (eval (.Name x q) env) = eval (.Name x q) env) :
    zP p N (.Expr (.Call (.Attribute (.Name x q) "append" q1) [.List [] q3] [] q2) pos) (.appN i) := fun {fuel σ fl σ' fb env own A s E Q} h a F k => by
  refine sOwn2 h fun ls hσ h => jR h fun hsz h => ?_
  have k := k.ofe h
  refine wpAny_Expr_any ?_ (by rw [interactive, F.e.kind]; rfl)
  refine Call_method1 (hb env) rfl hp (F.load hσ hx hd fun V r => ?_)
  obtain ⟨d, bs, rfl, ho, hpl, hq⟩ := r
  obtain ⟨np, hp'⟩ := id hpl
  refine ⟨"list", "list.append", PySem.F.plainAttrs_list, PySem.F.slot_list_append, PySem.F.type_list_append, ⟨_, hp', rfl⟩, fun b e => by cases e; exact ⟨_, hp', rfl⟩, ?_⟩
  refine Calls.callWith_builtin rfl (Calls.evalArgs_plain (Calls.spliced_cons (wpAny_List (spliced_nil ⟨Nat.zero_le _, Calls.spliced_nil ?_⟩))))
  have x1 := Ext.push s { cls := .type "list", data := .seq ([] : List Value).toArray } s.toks
  have hnew : s.heap.get? s.heap.objs.size = none := yM _
  have hpN : (s.heap.push { cls := .type "list", data := .seq ([] : List Value).toArray }).PlainList s.heap.objs.size ([] : List Value).toArray := ⟨0, Heap.get?_push_size _ rfl⟩
  have hj := F.none_above (Nat.le_refl N.slots.length)
  have hij : i ≠ N.slots.length := by have := (List.getElem?_eq_some_iff.mp hx).1; omega
  obtain ⟨F2, r2, K2⟩ := F.held (Ext.refl s) x1 (l := []) (vs := []) hnew rfl hpN hj
  have hpl2 : (s.heap.push { cls := .type "list", data := .seq ([] : List Value).toArray }).PlainList d (bs.map Value.ref).toArray := ⟨np, x1.keep _ _ hp'⟩
  have hlen := own2_len hq
  have := xX
  have ho2 : upd own N.slots.length [s.heap.objs.size] i = d :: bs := (zX _ _ hij).trans ho
  have hfd : s.heap.objs.size ∉ d :: bs := fun hm => (F2.ownA i s.heap.objs.size (by rw [ho2]; exact hm)).2.2 N.slots.length (Ne.symm hij) (by rw [yF]; exact .head _)
  have hdd : (d :: bs).Nodup := by have := F2.nd i; rwa [ho2] at this
  have w := Own'.mk2 F2 hij hj (as := d :: (bs ++ [s.heap.objs.size])) (fun c hc => by
    rw [ho2, yF]
    rcases List.mem_cons.mp hc with hc | hc
    · exact .inl (hc ▸ .head _)
    · rcases List.mem_append.mp hc with hc | hc
      · exact .inl (.tail _ hc)
      · exact .inr hc) (by
    have : d :: (bs ++ [s.heap.objs.size]) = (d :: bs) ++ [s.heap.objs.size] := rfl
    rw [this]
    refine List.nodup_append.mpr ⟨hdd, by simp, fun c hc c' hc' => ?_⟩
    have : c' = s.heap.objs.size := by simpa using hc'
    subst this
    rintro rfl; exact hfd hc)
  refine wpAny_list_append_plain hpl2 (fun h' hl' hsb => ?_) (by simp; omega)
  have hl2 : h'.PlainList d ((bs ++ [s.heap.objs.size]).map Value.ref).toArray := by simpa using hl'
  refine k _ _ _ (F2.mut (tk := s.toks) (sv := .own2 (ls ++ [[]])) hσ (by rw [ho2]; exact .head _) w (xU hsb) (let ⟨n, e⟩ := hl'; ⟨_, e⟩) fun V3 r3 => ?_) rfl (wr_mk2 F hj w)
  obtain ⟨d3, bs3, e1, e2, e3, e4⟩ := r3
  rw [ho2] at e2
  have e5 : bs3 = bs := (List.cons.inj e2).2.symm
  have e6 : d3 = d := (List.cons.inj e2).1.symm
  subst e5 e6
  have K : jN (FO env fb.O₀ (upd own N.slots.length [s.heap.objs.size])) (s.heap.push { cls := .type "list", data := .seq ([] : List Value).toArray }) (FO env fb.O₀ (upd (upd (upd own N.slots.length [s.heap.objs.size]) i (d3 :: (bs3 ++ [s.heap.objs.size]))) N.slots.length [])) h' := fun b o n e =>
    ⟨xU hsb b o (fun e' => n (FrR.mine i (by rw [ho2, e']; exact .head _))) e, w.keepO n⟩
  refine ⟨d3, bs3 ++ [s.heap.objs.size], e1, by rw [zX _ _ hij, yF], hl2, zL.snoc (vs' := []) (l' := []) ?_ rfl (zL.keep K (fun c hc o e => xU hsb c o (fun e' => (List.nodup_cons.mp hdd).1 (e' ▸ hc)) e) e4)⟩
  exact ⟨0, xU hsb _ _ (fun e => hfd (e ▸ .head _)) (Heap.get?_push_size _ rfl)⟩
end
end Mine
end
section
open PySem PySem.W PyProof.Rows PySem.SeqAt PySem.Calls
namespace Mine
section
variable {p : P5} {N : NI} {fb : FB} {env : Env} {σ : St} {own : Nat → List Addr} {s : Shared} {A : Around} {E : Value → Shared → Prop} {prog : Program} {w : World}
theorem zL.slc {T O h} {ls : List (List PV)} {bs : List Addr} (q : zL T O h ls bs) (lo hi : Option Int) : zL T O h (jQ ls lo hi) (jQ bs lo hi) := by
  rw [jK, jK, own2_len q]
  exact zL.take _ (zL.drop _ q)
theorem slc_sub {α : Type} {l : List α} {lo hi : Option Int} {a : α} (h : a ∈ jQ l lo hi) : a ∈ l := by
  rw [jK] at h
  exact List.mem_of_mem_drop (List.mem_of_mem_take h)
theorem slc_nodup {α : Type} {l : List α} {lo hi : Option Int} (h : l.Nodup) : (jQ l lo hi).Nodup := by
  rw [jK]
  exact List.Pairwise.sublist (List.Sublist.trans (List.take_sublist _ _) (List.drop_sublist _ _)) h
theorem slc_map {α β : Type} (f : α → β) (l : List α) (lo hi : Option Int) : jQ (l.map f) lo hi = (jQ l lo hi).map f := by
  rw [jK, jK, List.length_map, List.map_take, List.map_drop]
theorem st_trunc {x q q3 q4 q5 pos e m} (h1 : yY p N e m) {i : Nat} (hx : N.slots[i]? = some x) (hd : (x == ("__debug__" : Str)) = false)
    (hs : ∀ env : Env, swapsWith (.Subscript (.Name x q3) (.Slice none (some e) none q4) q5) (some (.Name x q)) pos.line env = pure false) :
    zP p N (.Assign [.Name x q] (.Subscript (.Name x q3) (.Slice none (some e) none q4) q5) pos) (.trunc i m) := fun {fuel σ fl σ' fb env own A s E Q} h a F k => by
  refine sOwn2I h fun ls j hσ hj h => jR h fun hsz h => ?_
  have k := k.ofe h
  refine wpAny_Assign_Name (Subscript_ (F.load hσ hx hd fun V r => wpAny_Slice (wpAny_pure (h1 hj (F.cx a) fun VI s1 x1 r1 => by
    rw [evalPart_none]
    obtain ⟨t, rfl⟩ := r1
    obtain ⟨d, bs, rfl, ho, ⟨nd, hpl⟩, hq⟩ := r
    have x2 := Ext.push s1 { cls := .type "slice", data := .fields #[.none, .int j t, .none] } s1.toks
    refine wpAny_pure ?_
    have ht : (s1.heap.push { cls := .type "slice", data := .fields #[.none, .int j t, .none] }).PlainList d (bs.map Value.ref).toArray := ⟨nd, x2.keep _ _ (x1.keep _ _ hpl)⟩
    have hlen := own2_len hq
    have := xX
    refine tail_any ht.isList.typeIs slot_list_getitem.lookup (wpAny_getItem_list_slice ht.isList (Heap.IsSliceOf.new ..) (lo := none) (hi := some j) (st := none) .none (.int _ _) .none (by simp) ?_ (by simp; omega)) rfl
    rw [slicePick_eq, slc_map]
    let s2 : Shared := { s1 with heap := s1.heap.push { cls := .type "slice", data := .fields #[.none, .int j t, .none] } }
    have x2' : Ext s s2 := x1.trans x2
    have x3 := Ext.push s2 { cls := .type "list", data := .seq ((jQ bs none (some j)).map Value.ref).toArray } s2.toks
    have hjn := F.none_above (Nat.le_refl N.slots.length)
    have hij : i ≠ N.slots.length := by have := (List.getElem?_eq_some_iff.mp hx).1; omega
    have hpN : (s2.heap.push { cls := .type "list", data := .seq ((jQ bs none (some j)).map Value.ref).toArray }).PlainList s2.heap.objs.size ((jQ bs none (some j)).map Value.ref).toArray := ⟨0, Heap.get?_push_size _ rfl⟩
    have F2 := (F.ext x2').pend x3 hjn (as := [s2.heap.objs.size]) (fun b hb => by
      have : b = s2.heap.objs.size := by simpa using hb
      subst this
      obtain ⟨n, e⟩ := hpN
      exact ⟨yM _, _, e⟩) (by simp)
    have ho2 : upd own N.slots.length [s2.heap.objs.size] i = d :: bs := (zX _ _ hij).trans ho
    have hfd : s2.heap.objs.size ∉ d :: bs := fun hm => (F2.ownA i s2.heap.objs.size (by rw [ho2]; exact hm)).2.2 N.slots.length (Ne.symm hij) (by rw [yF]; exact .head _)
    have hdd : (d :: bs).Nodup := by have := F2.nd i; rwa [ho2] at this
    have w := Own'.mk2 F2 hij hjn (as := s2.heap.objs.size :: jQ bs none (some j)) (fun c hc => by
      rw [ho2, yF]
      rcases List.mem_cons.mp hc with hc | hc
      · exact .inr (hc ▸ .head _)
      · exact .inl (.tail _ (slc_sub hc))) (List.nodup_cons.mpr ⟨fun hc => hfd (.tail _ (slc_sub hc)), slc_nodup (List.nodup_cons.mp hdd).2⟩)
    refine F2.store (sv := .own2 (jQ ls none (some j))) hx w ?_ fun s4 F4 _ => k _ _ _ F4 rfl (wr_mk2 F hjn w)
    refine ⟨s2.heap.objs.size, jQ bs none (some j), rfl, by rw [zX _ _ hij, yF], hpN, zL.slc ?_ none (some j)⟩
    refine zL.keep (fun b o n e => ⟨x3.keep b o (x2'.keep b o e), fun q => ?_⟩) (fun c _ o e => x3.keep c o (x2'.keep c o e)) hq
    rcases q with q | q | q | ⟨k, q⟩
    · exact n (.inl q)
    · exact n (.inr (.inl q))
    · exact n (.inr (.inr (.inl q)))
    · unfold upd at q; split at q
      · have : b = s2.heap.objs.size := by simpa using q
        subst this
        exact Nat.lt_irrefl _ (Heap.lt_size (x2'.keep _ _ e))
      · exact n (.inr (.inr (.inr ⟨k, q⟩))))))) (hs env)
theorem one_line : 1 ≤ sizeLine := Nat.le_trans (by decide) xX
theorem st_asgLL {x q q1 q2 q3 k1 pos} {i : Nat} (hx : N.slots[i]? = some x) : zP p N (.Assign [.Name x q] (.List [.List [.Constant (.int 0) k1 q1] q2] q3) pos) (.asgLL i) := fun {fuel σ fl σ' fb env own A s E Q} h a F k => by
  have k := k.os h
  have hjn := F.none_above (Nat.le_refl N.slots.length)
  have hij : i ≠ N.slots.length := by have := (List.getElem?_eq_some_iff.mp hx).1; omega
  refine wpAny_Assign_Name (wpAny_List (spliced_cons (wpAny_List (spliced_cons (wpAny_Constant_int (k := k1) (pos := q1) (spliced_nil ⟨one_line, spliced_nil ⟨one_line, ?_⟩⟩)))))) rfl
  let s1 : Shared := { s with toks := s.toks + 1 }
  let s2 : Shared := { s1 with heap := s1.heap.push { cls := .type "list", data := .seq #[.int 0 s.toks] } }
  let s3 : Shared := { s2 with heap := s2.heap.push { cls := .type "list", data := .seq #[.ref s1.heap.objs.size] } }
  have x1 : Ext s s1 := Ext.toks ..
  have x2 : Ext s1 s2 := Ext.push s1 _ s1.toks
  have x3 : Ext s2 s3 := Ext.push s2 _ s2.toks
  have sz2 : s2.heap.objs.size = s1.heap.objs.size + 1 := Heap.size_push ..
  have ne : s1.heap.objs.size ≠ s2.heap.objs.size := by omega
  have ge : ∀ b, s1.heap.objs.size ≤ b → s.heap.get? b = none := fun b hb => by
    cases e : s.heap.get? b with
    | none => rfl
    | some o => exact absurd (Heap.lt_size (x1.keep _ _ e)) (Nat.not_lt.mpr hb)
  have nd2 : [s2.heap.objs.size, s1.heap.objs.size].Nodup := List.nodup_cons.mpr ⟨fun h => ne (List.mem_singleton.mp h).symm, by simp⟩
  have hb : s3.heap.PlainList s1.heap.objs.size #[.int 0 s.toks] := ⟨0, x3.keep _ _ (Heap.get?_push_size _ rfl)⟩
  have ha : s3.heap.PlainList s2.heap.objs.size #[.ref s1.heap.objs.size] := ⟨0, Heap.get?_push_size _ rfl⟩
  have F3 := F.pend (x1.trans (x2.trans x3)) hjn (as := [s2.heap.objs.size, s1.heap.objs.size]) (fun b hm => by
    rcases List.mem_cons.mp hm with rfl | hm
    · exact ⟨ge _ (by rw [sz2]; exact Nat.le_succ _), let ⟨n, e⟩ := ha; ⟨_, e⟩⟩
    · have : b = s1.heap.objs.size := by simpa using hm
      subst this
      exact ⟨ge _ (Nat.le_refl _), let ⟨n, e⟩ := hb; ⟨_, e⟩⟩) nd2
  have w := Own'.mk2 F3 hij hjn (as := [s2.heap.objs.size, s1.heap.objs.size]) (fun c hc => .inr (by rw [yF]; exact hc)) nd2
  refine F3.store (sv := .own2 [[.int 0]]) hx w ?_ fun s4 F4 _ => k _ _ _ F4 rfl (wr_mk2 F hjn w)
  exact ⟨s2.heap.objs.size, [s1.heap.objs.size], rfl, by rw [zX _ _ hij, yF], ha, s1.heap.objs.size, [], [.int 0 s.toks], rfl, hb, ⟨_, [], rfl, ⟨_, rfl⟩, rfl⟩, rfl⟩
theorem st_asgD (P : p.Ok) {x q q1 pos} {i : Nat} (hx : N.slots[i]? = some x) : zP p N (.Assign [.Name x q] (.Dict [] [] q1) pos) (.asgD i) := fun {fuel σ fl σ' fb env own A s E Q} h a F k => by
  have k := k.os h
  have hjn := F.none_above (Nat.le_refl N.slots.length)
  have hij : i ≠ N.slots.length := by have := (List.getElem?_eq_some_iff.mp hx).1; omega
  refine wpAny_Assign_Name (wpAny_Dict_empty ?_) rfl
  have x1 := Ext.push s { cls := .type "dict", data := .dict #[] } s.toks
  have ha : (s.heap.push { cls := .type "dict", data := .dict #[] }).DictOf (intKind p.prog p.w) s.heap.objs.size [] := Heap.DictOf.new s.heap
  have F3 := F.pend x1 hjn (as := [s.heap.objs.size]) (fun b hm => by
    have : b = s.heap.objs.size := by simpa using hm
    subst this
    exact ⟨yM _, let ⟨o, e, _⟩ := Heap.dictOf_iff.mp ha; ⟨o, e⟩⟩) (by simp)
  have w := Own'.mk2 F3 hij hjn (as := [s.heap.objs.size]) (fun c hc => .inr (by rw [yF]; exact hc)) (by simp)
  refine F3.store (sv := .dic []) hx w ?_ fun s4 F4 _ => k _ _ _ F4 rfl (wr_mk2 F hjn w)
  have low := modules_low (P.bs.nolimit.keeps (F.cx a).k)
  exact ⟨s.heap.objs.size, [], rfl, by rw [zX _ _ hij, yF], beq_eq_false_iff_ne.mpr (Nat.ne_of_gt low), ha, rfl⟩
end
end Mine
end
set_option tactic.hygienic true
section
open PySem PySem.W PyProof.Rows PySem.SeqAt PySem.Calls
namespace Mine
section
variable {p : P5} {N : NI} {fb : FB} {env : Env} {σ : St} {own : Nat → List Addr} {s : Shared} {A : Around} {E : Value → Shared → Prop} {prog : Program} {w : World}
theorem qD : zS p N [] [] := fun {fuel σ fl σ' fb env own A s E Q} h a F k =>
  wpAny_execs_nil (k.os h _ _ _ F rfl Wr.refl)
theorem qZ {st sts m ms} (h1 : zP p N st m) (h2 : zS p N sts ms) : zS p N (st :: sts) (m :: ms) := fun {fuel σ fl σ' fb env own A s E Q} h a F k => by
  have k1 : KS p N fb env (wr m) σ own Q fl σ' := k.mono fun q hq => List.mem_append_left _ hq
  refine iFl h (fun σ₁ e1 h => ?_) (fun σ₁ e1 h => ?_) fun v σ₁ e1 h => ?_
  · refine wpAny_execs_cons (h1 e1 a F fun f s1 own1 F1 hf w1 => ?_)
    subst hf
    exact h2 h a F1 ((k.andThen (w1.mono fun q hq => List.mem_append_left _ hq)).mono fun q hq => List.mem_append_right _ hq)
  · refine wpAny_execs_cons (h1 e1 a F fun f s1 own1 F1 hf w1 => ?_)
    subst hf
    exact k1.os h _ _ _ F1 rfl w1
  · refine wpAny_execs_cons (h1 e1 a F fun f s1 own1 F1 hf w1 => ?_)
    obtain ⟨V, rfl, hr⟩ := hf
    exact k1.os h _ _ _ F1 ⟨V, rfl, hr⟩ w1
theorem FrR.freeze (F : FrR p N fb env σ own s) {i : Nat} {l : List PV} (hi : σ i = some (.own l)) : FrR p N fb env (σ.set i (.val (.lst l))) (upd own i []) s := by
  obtain ⟨m, hm, hs⟩ := F.ns
  have w := Own'.drop F i
  refine ⟨F.e, F.nodup, F.kinds, F.capart, F.cl, fun k b h => ?_, w.nd, F.top, F.off, F.kp, fun b n => F.new b (w.newA n), F.under, F.cells, ⟨m, hm, fun k sv h => ?_⟩, F.gens, F.drawn, F.os⟩
  · obtain ⟨k', h'⟩ := w.sub k b h
    obtain ⟨h1, h2, _⟩ := F.ownA k' b h'
    exact ⟨h1, h2, fun j hj e => w.dis k j b (Ne.symm hj) h e⟩
  · by_cases hk : k = i
    · subst hk
      rw [St.set_self] at h; cases h
      obtain ⟨x, V, h1, h2, a, vs, e1, e2, e3, e4⟩ := hs k _ hi
      refine ⟨x, V, h1, h2, And.intro (yF ..) ⟨a, vs, e1, fun q => ?_, e3, e4.keep fun b o n e => ⟨e, w.keepO n⟩⟩⟩
      have ha : a ∈ own k := by rw [e2]; exact .head _
      obtain ⟨g1, g2, g3⟩ := F.ownA k a ha
      rcases q with q | q | ⟨y, q⟩ | ⟨j, q⟩
      · exact (F.new a (.inr (.inr ⟨k, ha⟩))).2.1 q
      · exact g1 q
      · exact g2 y q
      · unfold upd at q; split at q
        · cases q
        · rename_i hj; exact g3 j hj q
    · rw [St.set_ne _ _ hk] at h
      obtain ⟨x, V, h1, h2, h3⟩ := hs k sv h
      refine ⟨x, V, h1, h2, ?_⟩
      rw [zX _ _ hk]
      exact h3.keep (fun b o n e => ⟨e, w.keepO n⟩) fun _ _ _ e => e
theorem sts_freeze {sts i ms} (h2 : zS p N sts ms) : zS p N sts (.freeze i :: ms) := fun {fuel σ fl σ' fb env own A s E Q} h a F k => by
  refine iFl h (fun σ₁ e1 h => sOwn e1 fun l hσ e => ?_) (fun σ₁ e1 h => sOwn e1 fun l hσ e => by cases e) fun v σ₁ e1 h => sOwn e1 fun l hσ e => by cases e
  obtain rfl := (sp e).2
  have w : Wr (wrs (.freeze i :: ms)) σ own (σ.set i (.val (.lst l))) (upd own i []) := (zM (Own'.drop F i)).mono fun q hq => List.mem_append_left _ hq
  exact h2 h a (F.freeze hσ) ((k.andThen w).mono fun q hq => List.mem_append_right _ hq)
theorem st_if {t b c m mb mc pos} (h1 : TrOK p N t m) (h2 : zS p N b mb) (h3 : zS p N c mc) : zP p N (.If t b c pos) (.ifs m mb mc) := fun {fuel σ fl σ' fb env own A s E Q} h a F k => by
  refine wpAny_If (iBool h (fun e1 h => h1 e1 (F.cx a) fun s1 x1 => ?_) fun e1 h => h1 e1 (F.cx a) fun s1 x1 => ?_)
  · simp only [if_true]
    exact h2 h a (F.ext x1) (k.mono fun q hq => List.mem_append_left _ hq)
  · simp only [Bool.false_eq_true, if_false]
    exact h3 h a (F.ext x1) (k.mono fun q hq => List.mem_append_right _ hq)
theorem st_brk {pos} : zP p N (.Break pos) .brk := fun _ _ _ _ _ _ _ _ _ _ _ h a F k => wpAny_Break (k.os h _ _ _ F rfl Wr.refl)
theorem st_doc {x kk q pos} : zP p N (.Expr (.Constant (.str x) kk q) pos) .skip := fun {fuel σ fl σ' fb env own A s E Q} h a F k =>
  wpAny_Expr (wpAny_Constant_str (k.os h _ _ _ (F.ext (Ext.toks ..)) rfl Wr.refl)) (by rw [interactive, F.e.kind]; rfl)
theorem st_ret {e m pos} (h1 : yY p N e m) : zP p N (.Return (some e) pos) (.ret m) := fun _ _ _ _ _ _ _ _ _ _ _ h a F k =>
  iv1 h fun v hv h => wpAny_Return_some (h1 hv (F.cx a) fun V s1 x1 r1 => k.os h _ _ _ (F.ext x1) ⟨V, rfl, r1⟩ Wr.refl)
theorem st_retN {pos} : zP p N (.Return none pos) .retN := fun _ _ _ _ _ _ _ _ _ _ _ h a F k => wpAny_Return_none (k.os h _ _ _ F ⟨_, rfl, rfl⟩ Wr.refl)
theorem st_assert {t m msg pos} (h1 : TrOK p N t m) : zP p N (.Assert t msg pos) (.assert m) := fun _ _ _ _ _ _ _ _ _ _ _ h a F k =>
  iTrue h fun e1 h => wpAny_Assert_holds (h1 e1 (F.cx a) fun s1 x1 => ⟨rfl, k.os h _ _ _ (F.ext x1) rfl Wr.refl⟩)
theorem st_while {t b m mb pos} (h1 : TrOK p N t m) (h2 : zS p N b mb) : zP p N (.While t b [] pos) (.whil m mb) := fun {fuel σ fl σ' fb env own A s E Q} h a F k => by
  refine wpAny_While ?_
  refine codeAny_whileLoop (fun n s => ∃ σ own, jW (fun σ => qR p.Γ σ m) (fun σ => qP p.Γ fuel σ mb) n σ = some (fl, σ') ∧ FrR p N fb env σ own s ∧ KS p N fb env (wrs mb) σ own Q fl σ') ?_ fuel ⟨σ, own, h, F, k⟩
  clear h F k s own σ
  intro n s ⟨σ, own, h, F, k⟩
  cases n with
  | zero => exact nn h
  | succ n =>
    refine iBool h (fun e1 h => h1 e1 (F.cx a) fun s1 x1 => ?_) fun e1 h => h1 e1 (F.cx a) fun s1 x1 => ?_
    · simp only [if_true]
      refine iFl h (fun σ₂ e2 h => ?_) (fun σ₂ e2 h => ?_) fun v σ₂ e2 h => ?_
      · refine h2 e2 a (F.ext x1) fun f s2 own2 F2 hf w => ?_
        subst hf
        exact ⟨n, Nat.lt_succ_self n, σ₂, own2, h, F2, k.andThen w⟩
      · refine h2 e2 a (F.ext x1) fun f s2 own2 F2 hf w => ?_
        subst hf
        exact k.os h _ _ _ F2 rfl w
      · refine h2 e2 a (F.ext x1) fun f s2 own2 F2 hf w => ?_
        obtain ⟨V, rfl, hr⟩ := hf
        exact k.os h _ _ _ F2 ⟨V, rfl, hr⟩ w
    · simp only [Bool.false_eq_true, if_false]
      exact wpAny_execs_nil (k.os h _ _ _ (F.ext x1) rfl Wr.refl)
end
end Mine
end
set_option tactic.hygienic false
section
open PySem PySem.W PyProof.Rows PySem.SeqAt PySem.Calls
namespace Mine
section
variable {p : P5} {N : NI} {fb : FB} {env : Env} {σ : St} {own : Nat → List Addr} {s : Shared} {A : Around} {E : Value → Shared → Prop} {prog : Program} {w : World}
structure FB.Le (p : P5) (fb₀ fb : FB) : Prop where
  kp : ∀ b o, fb₀.Kp b o → fb.Kp b o
  o : ∀ b, fb₀.O₀ b → fb.O₀ b
  b : fb.b = fb₀.b
  rf : fb.rf = fb₀.rf
  top : ∀ a o, p.h₁.get? a = some o → fb₀.Kp a o
theorem FB.Le.refl {p : P5} {fb : FB} (h : ∀ a o, p.h₁.get? a = some o → fb.Kp a o) : FB.Le p fb fb := ⟨fun _ _ x => x, fun _ x => x, rfl, rfl, h⟩
theorem FO.le {fb₀ fb : FB} (h : ∀ b, fb₀.O₀ b → fb.O₀ b) {a : Addr} (x : FO env fb₀.O₀ own a) : FO env fb.O₀ own a := x.imp (h a) id
theorem FrR.leave {fb₀ : FB} (le : FB.Le p fb₀ fb) (F : FrR p N fb env σ own s) {s' : Shared} {bad : Addr → Prop} (hb : ∀ a, bad a → fb.O₀ a ∧ ¬ fb₀.O₀ a ∧ ∀ o, ¬ fb₀.Kp a o)
    (keep : ∀ b o, ¬ bad b → s.heap.get? b = some o → s'.heap.get? b = some o) (hg : s'.gens = s.gens) (hd : s'.drawn = s.drawn) (ho : s'.os = s.os) : FrR p N fb₀ env σ own s' where
  e := F.e
  nodup := F.nodup
  kinds := F.kinds
  capart := F.capart
  cl := F.cl
  ownA := F.ownA
  nd := F.nd
  top := le.top
  off := fun a q => F.off a (le.o a q)
  kp := fun a o k => keep a o (fun q => (hb a q).2.2 o k) (F.kp a o (le.kp a o k))
  new := fun a n => by
    obtain ⟨h1, h2, o, h3⟩ := F.new a n
    exact ⟨fun o k => h1 o (le.kp a o k), fun q => h2 (le.o a q), o, keep a o (fun q => h2 (hb a q).1) h3⟩
  under := fun a q => by
    obtain ⟨o, e⟩ := F.under a (le.o a q)
    exact ⟨o, keep a o (fun h => (hb a h).2.1 q) e⟩
  cells := fun x c h => by
    obtain ⟨v, o, e, d⟩ := F.cells x c h
    exact ⟨v, o, keep c o (fun q => (F.new c (.inr (.inl ⟨x, h⟩))).2.1 (hb c q).1) e, d⟩
  ns := by
    obtain ⟨m, hm, hs⟩ := F.ns
    have nb : ∀ a, NewA env own a → ¬ bad a := fun a n q => (F.new a n).2.1 (hb a q).1
    refine ⟨m, hm.at' fun o e => keep _ o (nb _ (.inl rfl)) e, fun i sv h => ?_⟩
    obtain ⟨x, V, h1, h2, h3⟩ := hs i sv h
    refine ⟨x, V, h1, ?_, le.rf ▸ h3.keep (fun b o n e => ⟨keep b o (fun q => n (.inl (hb b q).1)) e, fun q => n (FO.le le.o q)⟩) fun a ha o e => keep a o (nb a (.inr (.inr ⟨i, ha⟩))) e⟩
    rcases h2 with h2 | ⟨a, c, l, o, e, d⟩
    · exact .inl h2
    · exact .inr ⟨a, c, l, o, keep c o (nb c (.inr (.inl ⟨x, l⟩))) e, d⟩
  gens := hg.trans (F.gens.trans (by rw [le.b]))
  drawn := hd.trans (F.drawn.trans (by rw [le.b]))
  os := ho.trans (F.os.trans (by rw [le.b]))
theorem FrR.out {fb₀ : FB} (le : FB.Le p fb₀ fb) (F : FrR p N fb env σ own s) : FrR p N fb₀ env σ own s :=
  F.leave le (bad := fun _ => False) (fun _ q => q.elim) (fun _ _ _ e => e) rfl rfl rfl
noncomputable def FB.pin (fb : FB) (P : Addr → Obj → Prop) : FB := { fb with Kp := fun a o => fb.Kp a o ∨ P a o }
theorem FrR.pin (F : FrR p N fb env σ own s) {P : Addr → Obj → Prop} (h : ∀ a o, P a o → ¬ NewA env own a ∧ s.heap.get? a = some o) : FrR p N (fb.pin P) env σ own s :=
  F.around (fb' := fb.pin P) rfl rfl (fun a o e => .inl (F.top a o e)) F.off (fun a o k => k.elim (F.kp a o) fun q => (h a o q).2)
    (fun a n => ⟨fun o k => k.elim ((F.new a n).1 o) fun q => (h a o q).1 n, (F.new a n).2.1⟩) F.under F (Ext.refl _) fun _ _ _ q => q
noncomputable def FB.hide (fb : FB) (P : Addr → Prop) : FB := { fb with O₀ := fun a => fb.O₀ a ∨ P a }
theorem FrR.hide {s₀ : Shared} (F : FrR p N fb env σ own s₀) (x : Ext s₀ s) {P : Addr → Prop} (h : ∀ a, P a → s₀.heap.get? a = none ∧ ∃ o, s.heap.get? a = some o) : FrR p N (fb.hide P) env σ own s := by
  have F1 := F.ext x
  refine F1.around (fb' := fb.hide P) rfl rfl F.top (fun a q => q.elim (F.off a) fun q => ?_) F1.kp (fun a n => ⟨(F.new a n).1, fun q => q.elim (F.new a n).2.1 fun q => ?_⟩) (fun a q => q.elim (F1.under a) fun q => (h a q).2) F x fun a o e q => q.elim id fun q => ?_
  · cases e : p.h₁.get? a with
    | none => rfl
    | some o => have := F.kp a o (F.top a o e); rw [(h a q).1] at this; cases this
  · obtain ⟨_, _, o, e⟩ := F.new a n
    rw [(h a q).1] at e; cases e
  · rw [(h a q).1] at e; cases e
theorem mforB {β : Type} {r : Fl × St} {Q : Prop} {body : St → Option (Fl × St)} {bind : PV → St → Option St} {x : PV} {xs : List PV} {σ : St} (h : jX body bind (x :: xs) σ = some r)
    (k : ∀ σ₁, bind x σ = some σ₁ → (match body σ₁ with | some (.next, σ₂) => jX body bind xs σ₂ | some (.brk, σ₂) => some (.next, σ₂) | some (.ret v, σ₂) => some (.ret v, σ₂) | none => none) = some r → Q) : Q := by
  have h' : (match bind x σ with | some σ₁ => (match body σ₁ with | some (.next, σ₂) => jX body bind xs σ₂ | some (.brk, σ₂) => some (.next, σ₂) | some (.ret v, σ₂) => some (.ret v, σ₂) | none => none) | none => none) = some r := h
  clear h
  revert h' k
  cases bind x σ with
  | none => exact fun _ h => nn h
  | some v => exact fun k h => k v rfl h
inductive LoopI (p : P5) (N : NI) (fb fb₀ : FB) (env : Env) (W : List Nat) (R : Result → Shared → Prop) (fl : Fl) (σ' : St) (n : Nat) (body : St → Option (Fl × St)) (bind : PV → St → Option St) (xs : List PV) (T : Nat → Heap → Prop) (X : St → (Nat → List Addr) → Prop) (c : Nat) (s : Shared) : Prop
  | mk (i : Nat) (σ : St) (own : Nat → List Addr) (hi : i ≤ n) (hc : c = n - i) (h : jX body bind (xs.drop i) σ = some (fl, σ')) (F : FrR p N fb env σ own s) (hst : T i s.heap) (hx : X σ own) (k : KS p N fb₀ env W σ own (fun f s => R (.ok f) s) fl σ') : LoopI p N fb fb₀ env W R fl σ' n body bind xs T X c s
theorem loop_ok {target : Expr} {I : Addr} {fp wrA : List Addr} {n : Nat} {P Md : Nat → Value → Heap → Prop} {Stt : Nat → Heap → Prop} {body : List Stmt} {mb : List MS} {is : List Nat} {bind : PV → St → Option St} {xs : List PV} {fuel : Nat} {fb₀ : FB}
    (a : AOK p.n A) (W : KTurns p.prog p.w A target I fp wrA n P Md Stt) (hb : zS p N body mb) (le : FB.Le p fb₀ fb)
    (hw : ∀ b, b ∈ wrA → fb.O₀ b ∧ ¬ fb₀.O₀ b ∧ ∀ o, ¬ fb.Kp b o) (hf : ∀ b, b ∈ fp → b ∈ wrA ∨ ∃ o, fb.Kp b o) (hn : xs.length = n)
    (lS : ∀ i h, Stt i h → ∀ b, b ∈ wrA → ∃ o, h.get? b = some o) (lM : ∀ i v h, Md i v h → ∀ b, b ∈ wrA → ∃ o, h.get? b = some o)
    (hasg : ∀ {fb' : FB} {σ σ₁ : St} {own : Nat → List Addr} {s : Shared} {i : Nat} {x : PV} {v : Value} {Q : Unit → Shared → Prop} {E : Value → Shared → Prop}, FB.Le p fb fb' → fb'.O₀ = fb.O₀ → xs[i]? = some x → bind x σ = some σ₁ → P i v s.heap → FrR p N fb' env σ own s →
      (∀ s' own', FrR p N fb' env σ₁ own' s' → Wr is σ own σ₁ own' → Q () s') → wpAny (model p.prog p.w) A (assign target env v) Q E s)
    {R : Result → Shared → Prop} {fl : Fl} {σ' : St} (h : jX (fun σ => qP p.Γ fuel σ mb) bind xs σ = some (fl, σ')) (F : FrR p N fb env σ own s) (hst : Stt 0 s.heap)
    (k : KS p N fb₀ env (is ++ wrs mb) σ own (fun f s' => R (.ok f) s') fl σ') : codeAny (model p.prog p.w) A (.forLoop target (.ref I) body [] env) R s := by
  have topF : ∀ a o, p.h₁.get? a = some o → fb.Kp a o := F.top
  refine codeAny_forLoop_any (LoopI p N fb fb₀ env (is ++ wrs mb) R fl σ' n (fun σ => qP p.Γ fuel σ mb) bind xs Stt (fun _ _ => True)) ?_ n ⟨0, σ, own, Nat.zero_le _, rfl, h, F, hst, trivial, k⟩
  clear h F hst k
  intro c s ⟨i, σ, own, hi, hc, h, F, hst, _, k⟩
  by_cases hlt : i < n
  · have hx : xs[i]? = some (xs[i]'(by omega)) := List.getElem?_eq_getElem (by omega)
    rw [List.drop_eq_getElem_cons (by omega : i < xs.length)] at h
    generalize xs[i]'(by omega) = x at hx h
    refine mforB (β := PV) h fun σ₁ hbind h => W.item i s _ _ hlt hst fun v h₁ tk₁ hMd hk₁ => ?_
    have F1 : FrR p N fb env σ own { s with heap := h₁, toks := tk₁ } := F.step (bad := (· ∈ wrA)) (fun b q => ⟨(hw b q).1, (hw b q).2.2⟩) (fun b o q e => hk₁ b o q e) (fun b q => lM _ _ _ hMd b q) rfl rfl rfl
    refine W.go i v _ _ _ hMd fun h₂ hP hst₂ hk₂ => ?_
    have F2 : FrR p N fb env σ own { s with heap := h₂, toks := tk₁ } := F1.step (bad := (· ∈ wrA)) (fun b q => ⟨(hw b q).1, (hw b q).2.2⟩) (fun b o q e => hk₂ b o q e) (fun b q => lS _ _ hst₂ b q) rfl rfl rfl
    have le2 : FB.Le p fb (fb.pin fun b o => b ∈ wrA ∧ h₂.get? b = some o) := ⟨fun b o k => .inl k, fun b o => o, rfl, rfl, topF⟩
    have F2' : FrR p N (fb.pin fun b o => b ∈ wrA ∧ h₂.get? b = some o) env σ own { s with heap := h₂, toks := tk₁ } := F2.pin fun b o q => ⟨fun n => (F2.new b n).2.1 (hw b q.1).1, q.2⟩
    refine hasg le2 rfl hx hbind hP F2' fun s₃ own₃ F3 w3 => ?_
    have k := (k.andThen (w3.mono fun q hq => List.mem_append_left _ hq))
    have le3 : FB.Le p fb₀ (fb.pin fun b o => b ∈ wrA ∧ h₂.get? b = some o) := ⟨fun b o k => le2.kp b o (le.kp b o k), fun b o => le2.o b (le.o b o), by rw [le2.b, le.b], by rw [le2.rf, le.rf], le.top⟩
    have wm : ∀ q, q ∈ wrs mb → q ∈ is ++ wrs mb := fun q hq => List.mem_append_right _ hq
    refine iFl h (fun σ₂ e2 h => ?_) (fun σ₂ e2 h => ?_) fun v σ₂ e2 h => ?_
    · refine hb e2 a F3 fun f s₄ own₄ F4 hfl w4 => ?_
      subst hfl
      refine ⟨n - (i + 1), by rw [hc]; exact Nat.sub_lt_sub_left hlt (Nat.lt_succ_self i), i + 1, σ₂, own₄, hlt, rfl, h, F4.out le2, ?_, trivial, k.andThen (w4.mono wm)⟩
      refine W.frame (i + 1) h₂ s₄.heap hst₂ fun b hb' o e => ?_
      rcases hf b hb' with q | ⟨o', q⟩
      · exact F4.kp b o (.inr ⟨q, e⟩)
      · exact (Option.some.inj ((F2.kp b o' q).symm.trans e)) ▸ F4.kp b o' (.inl q)
    · refine hb e2 a F3 fun f s₄ own₄ F4 hfl w4 => ?_
      subst hfl
      exact k.os h _ _ _ (F4.out le3) rfl (w4.mono wm)
    · refine hb e2 a F3 fun f s₄ own₄ F4 hfl w4 => ?_
      obtain ⟨V, rfl, hr⟩ := hfl
      exact k.os h _ _ _ (F4.out le3) ⟨V, rfl, hr.keep fun b o n e => ⟨e, fun q => n (FO.le le3.o q)⟩⟩ (w4.mono wm)
  · rw [List.drop_of_length_le (by omega)] at h
    have hin : i = n := by omega
    subst hin
    refine W.done s _ _ hst fun h₁ tk₁ hk₁ => wpAny_execs_nil ?_
    exact k.os h _ _ _ (F.leave le (bad := (· ∈ wrA)) (fun b q => ⟨(hw b q).1, (hw b q).2.1, fun o q' => (hw b q).2.2 o (le.kp b o q')⟩) (fun b o q e => hk₁ b o q e) rfl rfl rfl) rfl Wr.refl
end
end Mine
end
section
open PySem PySem.W PyProof.Rows PySem.SeqAt PySem.Calls
namespace Mine
section
variable {p : P5} {N : NI} {fb : FB} {env : Env} {σ : St} {own : Nat → List Addr} {s : Shared} {A : Around} {E : Value → Shared → Prop} {prog : Program} {w : World}
theorem FrR.pinned {fb' : FB} {own₀ : Nat → List Addr} {s₀ : Shared} (F' : FrR p N fb' env σ own s) (hK : ∀ b o, ¬ FO env fb.O₀ own₀ b → s₀.heap.get? b = some o → fb'.Kp b o)
    (hO : ∀ b o, s₀.heap.get? b = some o → fb'.O₀ b → fb.O₀ b) : jN (FO env fb.O₀ own₀) s₀.heap (FO env fb'.O₀ own) s.heap := fun b o n e =>
  ⟨F'.kp b o (hK b o n e), fun q => q.elim (fun q => n (.inl (hO b o e q))) fun q => (F'.new b q).1 o (hK b o n e)⟩
noncomputable def TgtOK (p : P5) (N : NI) (target : Expr) (is : List Nat) : Prop := ∀ ⦃fb : FB⦄ ⦃env : Env⦄ ⦃σ σ₁ : St⦄ ⦃own : Nat → List Addr⦄ ⦃s : Shared⦄ ⦃A : Around⦄ ⦃E : Value → Shared → Prop⦄ ⦃x : PV⦄ ⦃v : Value⦄ ⦃Q : Unit → Shared → Prop⦄,
  AOK p.n A → xK is x σ = some σ₁ → Rep p.B.T (FO env fb.O₀ own) s.heap x v → FrR p N fb env σ own s → (∀ s' own', FrR p N fb env σ₁ own' s' → Wr is σ own σ₁ own' → Q () s') → wpAny (model p.prog p.w) A (assign target env v) Q E s
theorem tgt_name {x q} {i : Nat} (hx : N.slots[i]? = some x) : TgtOK p N (.Name x q) [i] := fun {fb env σ σ₁ own s A E y v Q} a hb hr F k => by
  obtain rfl := Option.some.inj hb
  exact PyProof.Rows.assign_Name (F.storeV hx hr fun s' F' => k s' _ F' (zM (Own'.drop F i)))
theorem tgt_tup (P : p.Ok) {elts kk tp} {is : List Nat} {names : List Str} (hn : namesOf elts = some names) (hs : is.map (fun i => N.slots[i]?) = names.map some) (h2 : 2 ≤ is.length) : TgtOK p N (.Tuple elts kk tp) is := fun {fb env σ σ₁ own s A E y v Q} a hb hr F k => by
  match is, h2 with
  | i :: j :: is, _ =>
    cases y <;> first | exact nn hb | skip
    · exact unpack_ok P a (.inl rfl) hb hn hs F hr k
    · exact unpack_ok P a (.inr rfl) hb hn hs F hr k
theorem loop_start {target : Expr} {I : Addr} {fp wrA : List Addr} {n : Nat} {P Md : Nat → Value → Heap → Prop} {Stt : Nat → Heap → Prop} {body : List Stmt} {mb : List MS} {is : List Nat} {xs : List PV} {fuel : Nat}
    (a : AOK p.n A) (W : KTurns p.prog p.w A target I fp wrA n P Md Stt) (hb : zS p N body mb) (hn : xs.length = n)
    (lS : ∀ i h, Stt i h → ∀ b, b ∈ wrA → ∃ o, h.get? b = some o) (lM : ∀ i v h, Md i v h → ∀ b, b ∈ wrA → ∃ o, h.get? b = some o)
    {s1 s2 : Shared} (F1 : FrR p N fb env σ own s1) (x2 : Ext s1 s2) (hw : ∀ b, b ∈ wrA → s1.heap.get? b = none ∧ ∃ o, s2.heap.get? b = some o)
    (hf : ∀ b, b ∈ fp → b ∈ wrA ∨ ∃ o, ¬ FO env fb.O₀ own b ∧ s1.heap.get? b = some o)
    (hasg : ∀ {fb' : FB} {σ σ₁ : St} {own' : Nat → List Addr} {s : Shared} {i : Nat} {x : PV} {v : Value} {Q : Unit → Shared → Prop} {E : Value → Shared → Prop}, jN (FO env fb.O₀ own) s1.heap (FO env fb'.O₀ own') s.heap →
      xs[i]? = some x → xK is x σ = some σ₁ → P i v s.heap → FrR p N fb' env σ own' s → (∀ s' own'', FrR p N fb' env σ₁ own'' s' → Wr is σ own' σ₁ own'' → Q () s') → wpAny (model p.prog p.w) A (assign target env v) Q E s)
    {R : Result → Shared → Prop} {fl : Fl} {σ' : St} (h : jX (fun σ => qP p.Γ fuel σ mb) (xK is) xs σ = some (fl, σ')) (hst : Stt 0 s2.heap)
    (k : KS p N fb env (is ++ wrs mb) σ own (fun f s' => R (.ok f) s') fl σ') : codeAny (model p.prog p.w) A (.forLoop target (.ref I) body [] env) R s2 := by
  let PP : Addr → Obj → Prop := fun b o => ¬ FO env fb.O₀ own b ∧ s1.heap.get? b = some o
  have F2 := F1.pin (P := PP) fun b o q => ⟨fun n => q.1 (.inr n), q.2⟩
  have F3 := F2.hide x2 (P := (· ∈ wrA)) hw
  refine loop_ok (fb₀ := fb) (fb := (fb.pin PP).hide (· ∈ wrA)) (is := is) (bind := xK is) a W hb ⟨fun b o k => .inl k, fun b o => .inl o, rfl, rfl, F1.top⟩ (fun b hb => ⟨.inr hb, fun q => ?_, fun o q => ?_⟩) (fun b hb => ?_) hn lS lM ?_ h F3 hst k
  · obtain ⟨o, e⟩ := F1.under _ q
    rw [(hw b hb).1] at e; cases e
  · rcases q with q | q
    · have := F1.kp _ _ q; rw [(hw b hb).1] at this; cases this
    · have := q.2; rw [(hw b hb).1] at this; cases this
  · rcases hf b hb with q | ⟨o, q⟩
    · exact .inl q
    · exact .inr ⟨o, .inr q⟩
  · intro fb' σ σ₁ own' s i x v Q E le hO hx hbnd hP F k
    refine hasg (F.pinned (fun b o n e => le.kp b o (.inr ⟨n, e⟩)) fun b o e q => ?_) hx hbnd hP F k
    rw [hO] at q
    rcases q with q | q
    · exact q
    · rw [(hw b q).1] at e; cases e
theorem rangeUp_get {a b : Int} {j : Nat} {y : PV} (hy : ((rangeUp a b).map PV.int)[j]? = some y) : y = .int (a + (j : Int) * 1) := by
  unfold rangeUp at hy
  rw [List.getElem?_map, List.getElem?_map] at hy
  by_cases hj : j < (b - a).toNat
  · rw [List.getElem?_range hj] at hy
    simp at hy
    rw [← hy]; simp
  · rw [List.getElem?_eq_none (by simp; omega)] at hy
    cases hy
theorem rangeDown_get {a b : Int} {j : Nat} {y : PV} (hy : ((rangeDown a b).map PV.int)[j]? = some y) : y = .int (a + (j : Int) * (-1)) := by
  unfold rangeDown at hy
  rw [List.getElem?_map, List.getElem?_map] at hy
  by_cases hj : j < (a - b).toNat
  · rw [List.getElem?_range hj] at hy
    simp at hy
    rw [← hy]; congr 1; omega
  · rw [List.getElem?_eq_none (by simp; omega)] at hy
    cases hy
theorem rangeSize_up (a b : Int) : Builtin.Range.rangeSize a b 1 = ((b - a).toNat : Int) := by
  rw [rangeSize_one]
  split <;> omega
theorem range_loop {target : Expr} {body : List Stmt} {mb : List MS} {i : Nat} {x : Str} {q : Pos} {fuel : Nat} (ht : target = .Name x q) (hx : N.slots[i]? = some x) (a : AOK p.n A) (hb : zS p N body mb)
    {r : Addr} {a₀ b₀ c₀ : Int} {t u v : Tok} {s1 : Shared} (F1 : FrR p N fb env σ own s1) (hr : IsRange s1.heap r a₀ b₀ c₀ t u v) (hsm : Builtin.Range.small a₀ b₀ c₀ = true) {n : Nat} (hn : Builtin.Range.rangeSize a₀ b₀ c₀ = (n : Int))
    {xs : List PV} (hlen : xs.length = n) (hxs : ∀ (j : Nat) (y : PV), xs[j]? = some y → y = PV.int (a₀ + (j : Int) * c₀))
    {Q : Flow → Shared → Prop} {E : Value → Shared → Prop} {fl : Fl} {σ' : St} (h : jX (fun σ => qP p.Γ fuel σ mb) (xK [i]) xs σ = some (fl, σ'))
    (k : KS p N fb env (i :: wrs mb) σ own Q fl σ') :
    wpAny (model p.prog p.w) A (pyIter (.ref r)) (fun it s₂ => codeAny (model p.prog p.w) A (.forLoop target it body [] env) (fun r s' => match r with | .ok f => Q f s' | .error e => cameBackBy (model p.prog p.w) A env E e s') s₂) E s1 := by
  subst ht
  refine wpAny_pyIter_range hr hsm ?_
  have x2 := Ext.push s1 { cls := .type "range_iterator", data := .fields #[rawInt a₀, rawInt (Builtin.Range.rangeSize a₀ b₀ c₀), rawInt c₀] } s1.toks
  have hI : IsRangeIter (s1.heap.push { cls := .type "range_iterator", data := .fields #[rawInt a₀, rawInt (Builtin.Range.rangeSize a₀ b₀ c₀), rawInt c₀] }) s1.heap.objs.size (a₀ + ((0 : Nat) : Int) * c₀) ((n : Int) - ((0 : Nat) : Int)) c₀ := by
    have e1 : a₀ + ((0 : Nat) : Int) * c₀ = a₀ := by simp
    have e2 : (n : Int) - ((0 : Nat) : Int) = Builtin.Range.rangeSize a₀ b₀ c₀ := by rw [hn]; simp
    rw [e1, e2]
    exact Heap.get?_push_size _ rfl
  have W := KTurns.ofWalks (target := .Name x q) (Walks.range (prog := p.prog) (w := p.w) a.handled s1.heap.objs.size a₀ c₀ n) (fun i v s Q E st h => wpAny_pure h)
  refine loop_start (is := [i]) a W hb hlen (fun i h st b hb => ?_) (fun i v h st b hb => ?_) F1 x2 (fun b hb => ?_) (fun b hb => .inl hb) ?_ h hI k
  · have : b = s1.heap.objs.size := by simpa using hb
    subst this
    exact ⟨_, st⟩
  · have : b = s1.heap.objs.size := by simpa using hb
    subst this
    exact ⟨_, st.2⟩
  · have : b = s1.heap.objs.size := by simpa using hb
    subst this
    exact ⟨yM _, _, hI⟩
  · intro fb' σ σ₁ own' s j y v Q E K hy hbnd hP F k
    obtain ⟨t, rfl⟩ := hP
    rw [hxs j y hy] at hbnd
    exact tgt_name hx a hbnd ⟨t, rfl⟩ F k
theorem small_up {a b : Int} (ha : small a = true) (hb : small b = true) : Builtin.Range.small a b 1 = true := by
  rw [xP] at ha hb
  exact small_one (by omega) (by omega) (by omega) (by omega)
theorem st_forR1 (P : p.Ok) {x q e m body mb pos q1 q2} {i : Nat} (hx : N.slots[i]? = some x) (h1 : yY p N e m) (hb : zS p N body mb) (hg : ("range" : Str) ∈ N.gl) (hn : yU e = true) :
    zP p N (.For (.Name x q) (.Call (.Name "range" q1) [e] [] q2) body [] pos) (.forUp i (.k (.int 0)) m mb) := fun {fuel σ fl σ' fb env own A s E Q} h a F k => by
  refine ivL h fun l hl h => ivII hl fun y z hy hz hl => jR hl fun hsm e => ?_
  subst e
  rw [Bool.and_eq_true] at hsm
  obtain rfl := PV.int.inj (Option.some.inj hy)
  refine wpAny_For (Call_ (yH P.bs (F.cx a) hg (by decide) PyProof.Rows.boot_range rfl ?_))
  refine jY hn PyProof.Rows.callWith_type (h1 hz (F.cx a) fun V s1 x1 r1 => ?_)
  obtain ⟨t, rfl⟩ := r1
  refine call_range_1 ?_
  refine range_loop rfl hx a hb (F.ext (x1.trans (Ext.push s1 _ _))) (IsRange.new ..) (small_up hsm.1 hsm.2) (rangeSize_up _ _) (by simp [rangeUp]) (fun j y hy => ?_) h k
  exact rangeUp_get hy
end
end Mine
end
section
open PySem PySem.W PyProof.Rows PySem.SeqAt PySem.Calls
namespace Mine
section
variable {p : P5} {N : NI} {fb : FB} {env : Env} {σ : St} {own : Nat → List Addr} {s : Shared} {A : Around} {E : Value → Shared → Prop} {prog : Program} {w : World}
theorem callWith3 {f : Value} {pos : Pos} {e e' e'' : Expr} {Q : Value → Shared → Prop} (hn : yU e = true) (hn' : yU e' = true) (hn'' : yU e'' = true)
    (hcw : ∀ {tr : List (Bool × Sem Value)}, tr.any (·.1) = false → wpAny (model prog w) A (evalArgs f true tr []) (fun a s₁ => wpAny (model prog w) A (call f ([] ++ a.pos) a.kw) Q E s₁) E s →
      wpAny (model prog w) A (callWith pos f [] tr []) Q E s)
    (h : wpAny (model prog w) A (eval e env) (fun v s₁ => wpAny (model prog w) A (eval e' env) (fun v' s₂ => wpAny (model prog w) A (eval e'' env) (fun v'' s₃ => wpAny (model prog w) A (call f [v, v', v'']) Q E s₃) E s₂) E s₁) E s) :
    wpAny (model prog w) A (callWith pos f [] (backTo pos (starEach [e, e', e''] env)) []) Q E s := by
  rw [qL hn, qL hn', qL hn'']
  exact hcw rfl (evalArgs_plain (spliced_cons (wpAny_mono h (fun v s₁ h₁ => spliced_cons (wpAny_mono h₁ (fun v' s₂ h₂ => spliced_cons (wpAny_mono h₂ (fun v'' s₃ h₃ => spliced_nil h₃) fun _ _ x => x)) fun _ _ x => x)) fun _ _ x => x)))
theorem small_down' {a : Int} (ha : small a = true) : Builtin.Range.small a (-1) (-1) = true := by
  rw [xP] at ha
  unfold Builtin.Range.small
  rw [rangeSize_down]
  simp only [Builtin.Range.rangeFitsLong, Bool.and_eq_true, Bool.or_eq_true, decide_eq_true_eq, beq_iff_eq]
  split <;> simp <;> omega
theorem st_forDown (P : p.Ok) {x q e m body mb pos q1 q2 k1 k2 r1 r2 r3 r4} {i : Nat} (hx : N.slots[i]? = some x) (h1 : yY p N e m) (hb : zS p N body mb) (hg : ("range" : Str) ∈ N.gl) (hn : yU e = true) :
    zP p N (.For (.Name x q) (.Call (.Name "range" q1) [e, .UnaryOp .USub (.Constant (.int 1) k1 r1) r2, .UnaryOp .USub (.Constant (.int 1) k2 r3) r4] [] q2) body [] pos) (.forDown i m mb) := fun {fuel σ fl σ' fb env own A s E Q} h a F k => by
  refine ivL h fun l hl h => ivI hl fun z hz hl => jR hl fun hsm e => ?_
  subst e
  refine wpAny_For (Call_ (yH P.bs (F.cx a) hg (by decide) PyProof.Rows.boot_range rfl ?_))
  have m1 : ∀ {σ' : St}, qM p.Γ σ' (.neg (.k (.int 1))) = some (.int (-1)) := rfl
  refine callWith3 hn rfl rfl PyProof.Rows.callWith_type (h1 hz (F.cx a) fun V s1 x1 rr1 => (ev_neg (qY (k := k1) (q := r1))) m1 ((F.ext x1).cx a) fun V2 s2 x2 rr2 => (ev_neg (qY (k := k2) (q := r3))) m1 (((F.ext x1).ext x2).cx a) fun V3 s3 x3 rr3 => ?_)
  obtain ⟨t, rfl⟩ := rr1
  obtain ⟨u, rfl⟩ := rr2
  obtain ⟨v, rfl⟩ := rr3
  rw [xP] at hsm
  refine call_range_3 (by decide) ?_ (Or.inl (PyProof.noPylong_small (by omega)))
  refine range_loop rfl hx a hb ((((F.ext x1).ext x2).ext x3).ext (Ext.push s3 _ _)) (IsRange.new ..) (small_down' (xP.mpr hsm)) (rangeSize_downNat _ _) (by simp [rangeDown]) (fun j y hy => ?_) h k
  exact rangeDown_get hy
theorem enum_get : ∀ {l : List PV} {k j : Nat} {y : PV}, (zW k l)[j]? = some y → ∃ x, l[j]? = some x ∧ y = .tup [.int (k + j : Nat), x]
  | [], k, j, y, h => by simp [zW] at h
  | x :: l, k, 0, y, h => by simp [zW] at h; exact ⟨x, rfl, h.symm⟩
  | x :: l, k, j + 1, y, h => by
    simp [zW] at h
    obtain ⟨z, h1, h2⟩ := enum_get h
    refine ⟨z, by simpa using h1, ?_⟩
    rw [h2, show k + 1 + j = k + (j + 1) by omega]
theorem enum_len : ∀ {l : List PV} {k : Nat}, (zW k l).length = l.length
  | [], _ => rfl
  | _ :: l, k => by simp [zW, enum_len (l := l)]
theorem st_forEnum (P : p.Ok) {elts kk tp e m body mb pos q1 q2} (h1 : yY p N e m) {i j : Nat} {names : List Str} (hnm : namesOf elts = some names) (hs : [i, j].map (fun i => N.slots[i]?) = names.map some) (hb : zS p N body mb)
    (hg : ("enumerate" : Str) ∈ N.gl) (hn : yU e = true) : zP p N (.For (.Tuple elts kk tp) (.Call (.Name "enumerate" q1) [e] [] q2) body [] pos) (.forEnum i j m mb) := fun {fuel σ fl σ' fb env own A s E Q} h a F k => by
  refine ivL h fun l hl h => ivLst hl fun l' hv hl => jR hl fun hsz e => ?_
  subst e
  refine wpAny_For (Call_ (yH P.bs (F.cx a) hg (by decide) PyProof.Rows.boot_enumerate rfl ?_))
  refine jY hn PyProof.Rows.callWith_type (h1 hv (F.cx a) fun V s1 x1 r1 => ?_)
  obtain ⟨ax, vs, rfl, hno, hpl, hq⟩ := r1
  obtain ⟨np, hpl'⟩ := id hpl
  have hlt : ax < s1.heap.objs.size := Heap.lt_size hpl'
  refine call_enumerate_list hpl.isList fun h' hE hI hsz hk => ?_
  refine wpAny_pyIter_enum hE ?_
  have x2 : Ext s1 { s1 with heap := h' } := ⟨hk, rfl, rfl, rfl⟩
  have W := KTurns.ofWalksU (elts := elts) (k := kk) (pos := tp) (WalksT.enumerate (prog := p.prog) (w := p.w) a.handled (s1.heap.objs.size + 1) s1.heap.objs.size ax (Nat.succ_ne_self _) (Nat.ne_of_lt (Nat.lt_succ_of_lt hlt)) (Nat.ne_of_lt hlt) vs.toArray).toU
  have ge : ∀ b, s1.heap.objs.size ≤ b → s1.heap.get? b = none := fun b hb => by
    cases e : s1.heap.get? b with
    | none => rfl
    | some o => exact absurd (Heap.lt_size e) (Nat.not_lt.mpr hb)
  refine loop_start (is := [i, j]) a W hb (by rw [enum_len]; simpa using hq.length.symm) (fun i h st b hb => ?_) (fun i v h st b hb => ?_) (F.ext x1) x2 (fun b hb => ?_) (fun b hb => ?_) ?_ h ⟨⟨.none, hE⟩, hI, ⟨_, hk _ _ hpl', rfl, np, rfl⟩⟩ k
  · obtain ⟨⟨old, he⟩, ⟨o, e, _⟩, _⟩ := st
    rcases List.mem_cons.mp hb with hb | hb
    · subst hb; exact ⟨_, he⟩
    · have : b = s1.heap.objs.size := by simpa using hb
      subst this; exact ⟨o, e⟩
  · obtain ⟨T, vals, _, _, _, ⟨x, he⟩, ⟨o, e, _⟩, _⟩ := st
    rcases List.mem_cons.mp hb with hb | hb
    · subst hb; exact ⟨_, he⟩
    · have : b = s1.heap.objs.size := by simpa using hb
      subst this; exact ⟨o, e⟩
  · rcases List.mem_cons.mp hb with hb | hb
    · subst hb; exact ⟨ge _ (by omega), _, hE⟩
    · have : b = s1.heap.objs.size := by simpa using hb
      subst this; exact ⟨yM _, let ⟨o, e, _⟩ := hI; ⟨o, e⟩⟩
  · rcases List.mem_cons.mp hb with hb | hb
    · exact .inl (by simp [hb])
    · rcases List.mem_cons.mp hb with hb | hb
      · exact .inl (by simp [hb])
      · have : b = ax := by simpa using hb
        subst this
        exact .inr ⟨_, hno, hpl'⟩
  · intro fb' σ σ₁ own' s c y v Q E K hy hbnd hP F k
    obtain ⟨T, vals, rfl, ⟨t, u, hu, rfl⟩, hT⟩ := hP
    obtain ⟨x, hx, rfl⟩ := enum_get hy
    obtain ⟨V, hV, hrV⟩ := hq.get hx
    have : V = u := by
      simp at hu
      exact Option.some.inj (hV.symm.trans hu)
    subst this
    obtain ⟨t1, t2, t3⟩ := names_ts (p := p) (env := env) hnm
    have hnl : names.length = 2 := by have := congrArg List.length hs; simpa using this.symm
    replace hbnd := (bindMany_stores _ _ _).symm.trans (show zD [i, j] [_, x] σ = some σ₁ from hbnd)
    refine assign_Tuple_tuple a.handled (t := T) (items := #[.int (c : Int) t, V]) hT (by rw [t2, hnl]; rfl) t3 fun h2 he => ?_
    have x3 := ext_of_extBut he
    obtain ⟨c1, c2⟩ := range'_ok (n := 2) (Nat.le_refl N.slots.length)
    refine stores_ok hbnd (namesAt_ok hs) t1 (F.ext x3) c1 c2 ?_ k
    exact Held.ofVals (l := [.int ((0 + c : Nat) : Int), x]) ⟨_, _, rfl, ⟨t, by rw [Nat.zero_add]⟩, _, [], rfl, (hrV.keep K).ext x3, rfl⟩
end
end Mine
end
section
open PySem PySem.W PyProof.Rows PySem.SeqAt PySem.Calls
namespace Mine
section
variable {p : P5} {N : NI} {fb : FB} {env : Env} {σ : St} {own : Nat → List Addr} {s : Shared} {A : Around} {E : Value → Shared → Prop} {prog : Program} {w : World}
theorem FrR.own2 (F : FrR p N fb env σ own s) {i : Nat} {ls : List (List PV)} (hσ : σ i = some (.own2 ls)) : ∃ d bs, own i = d :: bs ∧ s.heap.PlainList d (bs.map Value.ref).toArray ∧ zL p.B.T (FO env fb.O₀ own) s.heap ls bs := by
  obtain ⟨m, hm, hs⟩ := F.ns
  obtain ⟨y, V, hy, hv, d, bs, e1, e2, e3, e4⟩ := hs i _ hσ
  exact ⟨d, bs, e2, e3, e4⟩
theorem st_forRev (P : p.Ok) {x q ie im y q1 q2 q3 q4 body mb pos} {xi i : Nat} (hx : N.slots[xi]? = some x) (hy : N.slots[i]? = some y) (hd : (y == ("__debug__" : Str)) = false) (h1 : yY p N ie im) (hb : zS p N body mb)
    (hg : ("reversed" : Str) ∈ N.gl) (hi : i ∉ xi :: wrs mb) (hs : ∀ o j, subscripted ie false o j = operate [o, j] (getItem o j)) :
    zP p N (.For (.Name x q) (.Call (.Name "reversed" q1) [.Subscript (.Name y q2) ie q3] [] q4) body [] pos) (.forRev xi i im mb) := fun {fuel σ fl σ' fb env own A s E Q} h a F k => by
  refine ivLst h fun l hl h => sOwn2I hl fun ls kk hσ hkk hl => iteO h fun hsz h => ?_
  obtain ⟨l', hgl, hl'⟩ := Option.map_eq_some_iff.mp hl
  obtain rfl := (PV.lst.inj hl').symm
  refine wpAny_For (Call_ (yH P.bs (F.cx a) hg (by decide) PyProof.Rows.boot_reversed rfl ?_))
  refine jY rfl PyProof.Rows.callWith_type (Subscript_ (F.load hσ hy hd fun V r => h1 hkk (F.cx a) fun V' s1 x1 r1 => ?_))
  obtain ⟨d, bs, rfl, ho, hpl, hq⟩ := r
  obtain ⟨t, rfl⟩ := r1
  obtain ⟨z1, z2, n, hn, hx'⟩ := getI_seq hgl
  obtain ⟨b, vs, hb', hpb, hqb⟩ := xN hq hx'
  obtain ⟨no, ho'⟩ := hpl
  refine xR (vs := bs.map Value.ref) ⟨no, x1.keep _ _ ho'⟩ z1 z2 (by simpa [own2_len hq] using hn) (by simpa using ⟨b, hb', rfl⟩) ?_ hs
  obtain ⟨np, hp'⟩ := id hpb
  have hpl1 : s1.heap.PlainList b vs.toArray := ⟨np, x1.keep _ _ hp'⟩
  refine call_reversed_list hpl1.isList ?_
  have e0 : ((vs.toArray.size : Nat) : Int) - 1 = (l.length : Int) - 1 := by simp [hqb.length]
  rw [e0]
  have x2 := Ext.push s1 (revObj b ((l.length : Int) - 1)) s1.toks
  have hI : (s1.heap.push (revObj b ((l.length : Int) - 1))).IsRevIter s1.heap.objs.size b ((l.length : Int) - 1) := ⟨_, Heap.get?_push_size _ rfl, rfl, rfl⟩
  refine wpAny_pyIter_revIter hI ?_
  have hnew : ∀ a', a' = s1.heap.objs.size → s1.heap.get? a' = none := fun a' h => by subst h; exact yM _
  have F3 := (F.ext x1).hide x2 (P := (· = s1.heap.objs.size)) fun c hc => ⟨hnew c hc, by subst hc; exact let ⟨o, e, _⟩ := hI; ⟨o, e⟩⟩
  have nk : ∀ o, ¬ fb.Kp s1.heap.objs.size o := fun o q => by have := (F.ext x1).kp _ _ q; rw [yM] at this; cases this
  have no₀ : ¬ fb.O₀ s1.heap.objs.size := fun q => by obtain ⟨o, e⟩ := (F.ext x1).under _ q; rw [yM] at e; cases e
  have le : FB.Le p fb (fb.hide (· = s1.heap.objs.size)) := ⟨fun _ _ k => k, fun _ o => .inl o, rfl, rfl, F.top⟩
  have hbI : b ≠ s1.heap.objs.size := Nat.ne_of_lt (Heap.lt_size (x1.keep _ _ hp'))
  simp only [List.mem_cons, not_or] at hi
  refine codeAny_forLoop_any (LoopI p N (fb.hide (· = s1.heap.objs.size)) fb env (xi :: wrs mb) (fun r s' => match r with | .ok f => Q f s' | .error e => cameBackBy (model p.prog p.w) A env E e s') fl σ' l.length (fun σ => qP p.Γ fuel σ mb) (xK [xi]) l.reverse
    (fun j h => h.IsRevIter s1.heap.objs.size b ((l.length : Int) - 1 - (j : Int))) (fun σ₂ own₂ => σ₂ i = some (.own2 ls) ∧ own₂ i = own i)) ?_ l.length
    ⟨0, σ, own, Nat.zero_le _, rfl, h, F3, by simpa using hI, ⟨hσ, rfl⟩, k⟩
  clear h k F3 hI
  intro c s2 ⟨j, σ₂, own₂, hj, hc, h, F2, hI, ⟨hσ2, ho2⟩, k⟩
  obtain ⟨vs2, hpb2, hqb2⟩ : ∃ vs2, s2.heap.PlainList b vs2.toArray ∧ yX p.B.T (FO env (fb.hide (· = s1.heap.objs.size)).O₀ own₂) s2.heap l vs2 := by
    obtain ⟨d2, bs2, e2, _, hq2⟩ := F2.own2 hσ2
    rw [ho2, ho] at e2
    obtain ⟨b2, vs2, hb2, hpb2, hqb2⟩ := xN hq2 hx'
    rw [← (List.cons.inj e2).2] at hb2
    exact ⟨vs2, Option.some.inj (hb2.symm.trans hb') ▸ hpb2, hqb2⟩
  by_cases hlt : j < l.length
  · have hjr : j < l.reverse.length := by simpa using hlt
    have hx2 : l[l.length - 1 - j]? = some l.reverse[j] := by
      rw [List.getElem_reverse, List.getElem?_eq_getElem (by omega)]
    rw [List.drop_eq_getElem_cons hjr] at h
    generalize l.reverse[j] = u at h hx2
    obtain ⟨V, hV, hrV⟩ := hqb2.get hx2
    have e5 : (l.length : Int) - 1 - (j : Int) = ((l.length - 1 - j : Nat) : Int) := by omega
    rw [e5] at hI
    refine mforB (β := PV) h fun σ₃ hbind h => wpAny_pyNext_rev_item hI hpb2.isList (i := l.length - 1 - j) (x := V) (by simpa using hV) fun h₁ hI₁ hsb => wpAny_pure ?_
    have F4 : FrR p N (fb.hide (· = s1.heap.objs.size)) env σ₂ own₂ { s2 with heap := h₁ } := F2.step (bad := (· = s1.heap.objs.size)) (fun c q => by subst q; exact ⟨.inr rfl, nk⟩) (fun c o q e => hsb.extBut c o q e) (fun c q => by subst q; exact let ⟨o, e, _⟩ := hI₁; ⟨o, e⟩) rfl rfl rfl
    have F5 := F4.pin (P := fun c o => c = s1.heap.objs.size ∧ h₁.get? c = some o) fun c o q => ⟨fun n => (F4.new c n).2.1 (.inr q.1), q.2⟩
    have le2 : FB.Le p (fb.hide (· = s1.heap.objs.size)) ((fb.hide (· = s1.heap.objs.size)).pin fun c o => c = s1.heap.objs.size ∧ h₁.get? c = some o) := ⟨fun _ _ k => .inl k, fun _ o => o, rfl, rfl, F.top⟩
    have le3 : FB.Le p fb ((fb.hide (· = s1.heap.objs.size)).pin fun c o => c = s1.heap.objs.size ∧ h₁.get? c = some o) := ⟨fun _ _ k => .inl k, fun _ o => .inl o, rfl, rfl, F.top⟩
    refine tgt_name (fb := (fb.hide (· = s1.heap.objs.size)).pin fun c o => c = s1.heap.objs.size ∧ h₁.get? c = some o) hx a hbind (hrV.keep fun c o n e => ⟨hsb.extBut c o (fun e' => n (.inl (.inr e'))) e, n⟩) F5 fun s₆ own₆ F6 w6 => ?_
    obtain ⟨i61, i62⟩ := w6 i (by simpa using hi.1)
    replace i62 := i62 (by rw [hσ2]; rfl)
    have k := k.andThen (w6.mono fun q hq => by simp at hq; simp [hq])
    have wm : ∀ q, q ∈ wrs mb → q ∈ xi :: wrs mb := fun q hq => List.mem_cons_of_mem _ hq
    refine iFl h (fun σ₇ hbody h => ?_) (fun σ₇ hbody h => ?_) fun v σ₇ hbody h => ?_
    · refine hb hbody a F6 fun f s₇ own₇ F7 hfl w7 => ?_
      subst hfl
      obtain ⟨i71, i72⟩ := w7 i hi.2
      refine ⟨l.length - (j + 1), by rw [hc]; exact Nat.sub_lt_sub_left hlt (Nat.lt_succ_self j), j + 1, σ₇, own₇, hlt, rfl, h, F7.out le2, ?_, ⟨i71.trans (i61.trans hσ2), (i72 (by rw [i61, hσ2]; rfl)).trans (i62.trans ho2)⟩, k.andThen (w7.mono wm)⟩
      obtain ⟨o, e, r1, r2⟩ := hI₁
      refine ⟨o, F7.kp _ _ (.inr ⟨rfl, e⟩), r1, ?_⟩
      rw [r2, show ((l.length - 1 - j : Nat) : Int) - 1 = (l.length : Int) - 1 - ((j + 1 : Nat) : Int) by omega]
    · refine hb hbody a F6 fun f s₇ own₇ F7 hfl w7 => ?_
      subst hfl
      exact k.os h _ _ _ (F7.out le3) rfl (w7.mono wm)
    · refine hb hbody a F6 fun f s₇ own₇ F7 hfl w7 => ?_
      obtain ⟨V, rfl, hr⟩ := hfl
      exact k.os h _ _ _ (F7.out le3) ⟨V, rfl, hr.keep fun b o n e => ⟨e, fun q => n (FO.le le3.o q)⟩⟩ (w7.mono wm)
  · rw [List.drop_of_length_le (by simp; omega)] at h
    have e5 : (l.length : Int) - 1 - (j : Int) = -1 := by omega
    rw [e5] at hI
    refine wpAny_pyNext_rev_end a.handled hI fun h₁ hxb => wpAny_execs_nil ?_
    exact k.os h _ _ _ (F2.leave le (bad := (· = s1.heap.objs.size)) (fun c q => by subst q; exact ⟨.inr rfl, no₀, nk⟩) (fun c o q e => hxb c o q e) rfl rfl rfl) rfl Wr.refl
theorem jS.keys {T O h} : ∀ {d : List (Int × PV)} {ks : List (Int × Value)}, jS T O h d ks → d.map (·.1) = ks.map (·.1)
  | [], _, e => by subst e; rfl
  | (k, v) :: d, _, ⟨V, r, e, q, t⟩ => by subst e; simp [jS.keys t]
theorem reps_of {T O h} : ∀ {l : List PV} {vs : List Value}, vs.length = l.length → (∀ (j : Nat) (x : PV) (v : Value), l[j]? = some x → vs[j]? = some v → Rep T O h x v) → yX T O h l vs
  | [], [], _, _ => rfl
  | [], _ :: _, e, _ => by simp at e
  | _ :: _, [], e, _ => by simp at e
  | x :: l, v :: vs, e, h => ⟨v, vs, rfl, h 0 x v rfl rfl, reps_of (by simpa using e) fun j y u h1 h2 => h (j + 1) y u (by simpa using h1) (by simpa using h2)⟩
theorem ev_dkeys (P : p.Ok) {x q q1 q2} {i : Nat} (hx : N.slots[i]? = some x) (hd : (x == ("__debug__" : Str)) = false) (hg : ("list" : Str) ∈ N.gl) : yY p N (.Call (.Name "list" q1) [.Name x q] [] q2) (.dkeys i) := fun {σ v env O A s E Q} h c k => by
  refine sDic h fun d hσ h => jR h fun hsz e => ?_
  subst e
  refine Call_ (yH P.bs c hg (by decide) PyProof.Rows.boot_list rfl ?_)
  refine jY rfl PyProof.Rows.callWith_type (jP c hσ hx hd fun V as ⟨rf, hr⟩ _ => ?_)
  obtain ⟨a, ks, rfl, rfl, lo, hdo, hrd⟩ := hr
  obtain ⟨ep, hat⟩ := hdo.dictAt
  have hlen := hrd.length
  have := xX
  refine kdl_call (kdl_dict (knd := intKind p.prog p.w) (kvs := ks) (ep := ep) lo) c.a.handled hat (by omega) fun h' tk acc c' hk hD hacc => ?_
  refine k _ _ ⟨hk, rfl, rfl, rfl⟩ ⟨_, acc.toList, rfl, c.u.fresh, ⟨c', by simpa using hD⟩, reps_of (by simp [hacc.1, hlen]) fun j y v h1 h2 => ?_⟩
  obtain ⟨kk, u, h3, h4⟩ := hacc.2 j v (by rw [← Array.getElem?_toList]; exact h2)
  obtain ⟨t, rfl⟩ := Value.isInt_shape h4
  have e1 := congrArg (·[j]?) (jS.keys hrd)
  simp only [List.getElem?_map, h3] at e1
  simp only [List.getElem?_map] at h1
  cases hj : d[j]? with
  | none => rw [hj] at e1; simp at e1
  | some q' =>
    rw [hj] at h1 e1
    simp at h1 e1
    subst h1
    exact ⟨t, by rw [e1]⟩
end
end Mine
end
section
open PySem PySem.W PyProof.Rows PySem.SeqAt PySem.Calls
namespace Mine
noncomputable def yS (env : Env) : List (Str × NameKind) → List (Str × Addr) → List (Str × Addr)
  | [], acc => acc
  | (n, k) :: r, acc => if k == .free then yS env r ((n, (env.cells.lookup n).getD 0) :: acc) else yS env r acc
theorem closureFor_eq {env : Env} {scope : Scope} (h : ∀ n, (n, NameKind.free) ∈ scope.names → ∃ c, env.cells.lookup n = some c) : closureFor scope env = pure (yS env scope.names []) := by
  unfold closureFor
  have key : ∀ (l : List (Str × NameKind)) (acc : List (Str × Addr)), (∀ n, (n, NameKind.free) ∈ l → ∃ c, env.cells.lookup n = some c) →
      (forIn l acc fun x r => (do
        let mut cs := r
        if x.2 == .free then cs := (x.1, ← cellOf env x.1) :: cs
        pure (ForInStep.yield cs) : Sem (ForInStep (List (Str × Addr))))) = pure (yS env l acc) := by
    intro l
    induction l with
    | nil => intro acc _; rfl
    | cons q l ih =>
      intro acc hq
      obtain ⟨n, k⟩ := q
      rw [List.forIn_cons]
      by_cases hk : k = .free
      · subst hk
        obtain ⟨c, hc⟩ := hq n (.head _)
        simp only [BEq.rfl, if_true, yS, cellOf, hc, Option.getD_some, pure_bind]
        exact ih _ fun m hm => hq m (.tail _ hm)
      · have hb : (k == NameKind.free) = false := by simpa using hk
        simp only [hb, yS, Bool.false_eq_true, if_false, pure_bind]
        exact ih _ fun m hm => hq m (.tail _ hm)
  have := key scope.names [] h
  simp only [bind_pure]
  first
    | exact this
    | (rw [← this]; rfl)
theorem closL_sub {env : Env} : ∀ {l : List (Str × NameKind)} {acc : List (Str × Addr)} {n : Str} {c : Addr}, (∀ n, (n, NameKind.free) ∈ l → ∃ c, env.cells.lookup n = some c) → (n, c) ∈ yS env l acc → (n, c) ∈ acc ∨ env.cells.lookup n = some c
  | [], acc, n, c, _, h => .inl h
  | (m, k) :: l, acc, n, c, hq, h => by
    unfold yS at h
    by_cases hk : k = .free
    · subst hk
      obtain ⟨c', hc⟩ := hq m (.head _)
      simp only [BEq.rfl, if_true, hc, Option.getD_some] at h
      rcases closL_sub (fun x hx => hq x (.tail _ hx)) h with h | h
      · rcases List.mem_cons.mp h with h | h
        · cases h; exact .inr hc
        · exact .inl h
      · exact .inr h
    · have hb : (k == NameKind.free) = false := by simpa using hk
      simp only [hb, Bool.false_eq_true, if_false] at h
      exact closL_sub (fun x hx => hq x (.tail _ hx)) h
theorem closL_mem {env : Env} : ∀ {l : List (Str × NameKind)} {acc : List (Str × Addr)} {n : Str}, (n, NameKind.free) ∈ l ∨ (∃ c, (n, c) ∈ acc) → ∃ c, (n, c) ∈ yS env l acc
  | [], acc, n, h => by rcases h with h | h; cases h; exact h
  | (m, k) :: l, acc, n, h => by
    unfold yS
    by_cases hk : k = .free
    · subst hk
      simp only [BEq.rfl, if_true]
      refine closL_mem ?_
      rcases h with h | ⟨c, h⟩
      · rcases List.mem_cons.mp h with h | h
        · cases h; exact .inr ⟨_, .head _⟩
        · exact .inl h
      · exact .inr ⟨c, .tail _ h⟩
    · have hb : (k == NameKind.free) = false := by simpa using hk
      simp only [hb, Bool.false_eq_true, if_false]
      refine closL_mem ?_
      rcases h with h | ⟨c, h⟩
      · rcases List.mem_cons.mp h with h | h
        · cases h; exact absurd rfl hk
        · exact .inl h
      · exact .inr ⟨c, h⟩
theorem closL_lookup {env : Env} {l : List (Str × NameKind)} {n : Str} (hq : ∀ n, (n, NameKind.free) ∈ l → ∃ c, env.cells.lookup n = some c) (h : (n, NameKind.free) ∈ l) : (yS env l []).lookup n = env.cells.lookup n := by
  obtain ⟨c, hc⟩ := closL_mem (env := env) (acc := []) (.inl h)
  cases e : (yS env l []).lookup n with
  | none =>
    exfalso
    have : ∀ {q : List (Str × Addr)}, (n, c) ∈ q → q.lookup n ≠ none := by
      intro q
      induction q with
      | nil => intro h; cases h
      | cons x q ih =>
        obtain ⟨a, b⟩ := x
        intro h
        rw [List.lookup_cons]
        rcases List.mem_cons.mp h with h | h
        · cases h; simp
        · split
          · simp
          · exact ih h
    exact this hc e
  | some c' =>
    rcases closL_sub hq (mem_of_lookup e) with h | h
    · cases h
    · exact h.symm
end Mine
end
set_option tactic.hygienic true
section
open PySem PySem.W PyProof.Rows PySem.SeqAt PySem.Calls
namespace Mine
noncomputable def envOf (sc : Scope) : Env := { scope := sc, locals := 0, globals := 0, cells := [] }
noncomputable def compChk (N Nc : NI) (scope : Scope) (x : Str) (caps : List Nat) : Bool :=
  decide (scope.kind = .function) && scope.names.all (fun y => y.2 != .cell) && scope.names.all (fun y => y.2 != .local || scope.names.lookup y.1 == some .local) &&
  (scope.names.lookup x == some .local) && decide (Nc.sc = relabel scope (envOf N.sc)) && (Nc.slots == x :: caps.map fun i => (N.slots[i]?).getD ("" : Str)) &&
  caps.all (fun i => match N.slots[i]? with | some nm => scope.names.contains (nm, .free) && (N.sc.names.lookup nm == some .cell) && (Nc.sc.names.lookup nm == some .cell) | none => false) &&
  scope.names.all (fun y => y.2 != .free || caps.any fun i => N.slots[i]? == some y.1) && Nc.gl.all (fun y => Nc.sc.names.lookup y == some .globalImplicit) && Nc.sc.names.all (fun y => y.1 != ("__classdict__" : Str))
structure CompSc (N Nc : NI) (scope : Scope) (x : Str) (caps : List Nat) : Prop where
  kind : scope.kind = .function
  cell : ∀ y ∈ scope.names, y.2 ≠ .cell
  names : ∀ y ∈ scope.names, y.2 = .local → scope.names.lookup y.1 = some .local
  hx : scope.names.lookup x = some .local
  sc : Nc.sc = relabel scope (envOf N.sc)
  slot0 : Nc.slots[0]? = some x
  capt : ∀ j i, caps[j]? = some i → ∃ nm, N.slots[i]? = some nm ∧ Nc.slots[j + 1]? = some nm ∧ (nm, .free) ∈ scope.names ∧ N.sc.names.lookup nm = some .cell ∧ Nc.sc.names.lookup nm = some .cell
  free : ∀ nm, (nm, .free) ∈ scope.names → ∃ i, i ∈ caps ∧ N.slots[i]? = some nm
  gl : ∀ y, y ∈ Nc.gl → Nc.sc.names.lookup y = some .globalImplicit
  nocd : ∀ y k, Nc.sc.names.lookup y = some k → (y == ("__classdict__" : Str)) = false
theorem compChk_ok {N Nc : NI} {scope : Scope} {x : Str} {caps : List Nat} (h : compChk N Nc scope x caps = true) : CompSc N Nc scope x caps := by
  simp only [compChk, Bool.and_eq_true] at h
  obtain ⟨⟨⟨⟨⟨⟨⟨⟨⟨h1, h2⟩, h3⟩, h4⟩, h5⟩, h6⟩, h7⟩, h8⟩, h9⟩, h10⟩ := h
  rw [List.all_eq_true] at h2 h3 h7 h8 h9 h10
  have e6 := eq_of_beq h6
  refine ⟨of_decide_eq_true h1, fun y hy => by simpa using h2 y hy, fun y hy e => ?_, eq_of_beq h4, of_decide_eq_true h5, by rw [e6]; rfl, fun j i hi => ?_, fun nm hn => ?_, fun y hy => eq_of_beq (h9 y hy), fun y k e => ?_⟩
  · have := h3 y hy
    rw [e] at this
    simpa using this
  · have := h7 i (List.mem_of_getElem? hi)
    split at this
    · rename_i nm hnm
      simp only [Bool.and_eq_true] at this
      refine ⟨nm, hnm, ?_, by simpa using this.1.1, eq_of_beq this.1.2, eq_of_beq this.2⟩
      rw [e6, List.getElem?_cons_succ, List.getElem?_map, hi]
      simp [hnm]
    · cases this
  · have := h8 _ hn
    simp only [bne_self_eq_false, Bool.false_or, List.any_eq_true] at this
    obtain ⟨i, hi, e⟩ := this
    exact ⟨i, hi, eq_of_beq e⟩
  · have := h10 _ (mem_of_lookup e)
    simpa using this
section
variable {p : P5} {N Nc : NI} {fb : FB} {env : Env} {σ : St} {own : Nat → List Addr} {s : Shared} {A : Around} {E : Value → Shared → Prop} {prog : Program} {w : World} {O : Addr → Prop}
theorem relabel_sc {scope : Scope} (h : env.scope = N.sc) : relabel scope env = relabel scope (envOf N.sc) := by
  unfold relabel Env.kindOf envOf
  rw [h]
theorem compSt_some {y : PV} {caps : List Nat} {j : Nat} {sv : SV} (h : zJ σ y caps (j + 1) = some sv) : ∃ i, caps[j]? = some i ∧ σ i = some sv := by
  simp only [zJ] at h
  cases e : caps[j]? with
  | none => rw [e] at h; cases h
  | some i => rw [e] at h; exact ⟨i, rfl, h⟩
theorem Cx.capCell (c : p.Cx N env σ O A s) {scope : Scope} {x : Str} {caps : List Nat} (S : CompSc N Nc scope x caps) (hc : caps.all (fun i => (σ i).isSome) = true) : ∀ n, (n, NameKind.free) ∈ scope.names → ∃ c, env.cells.lookup n = some c := fun nm hn => by
  obtain ⟨i, hi, hs⟩ := S.free nm hn
  have := List.all_eq_true.mp hc i hi
  obtain ⟨sv, hsv⟩ := Option.isSome_iff_exists.mp this
  obtain ⟨y, V, as, rf, h1, h2, _⟩ := c.r i sv hsv
  have e : y = nm := Option.some.inj (h1.symm.trans hs)
  subst e
  obtain ⟨j, hj⟩ := List.mem_iff_getElem?.mp hi
  obtain ⟨nm', g1, _, _, g4, _⟩ := S.capt j i hj
  have e2 : nm' = y := Option.some.inj (g1.symm.trans hs)
  subst e2
  have hk : env.kindOf nm' = some .cell := by unfold Env.kindOf; rw [c.e.scope]; exact g4
  rcases h2 with ⟨a, _⟩ | ⟨_, cc, hl, _⟩ | ⟨a, _⟩
  · rw [hk] at a; cases a
  · exact ⟨cc, hl⟩
  · rw [hk] at a; cases a
theorem Cx.comp (c : p.Cx N env σ O A s) {scope : Scope} {x : Str} {caps : List Nat} (S : CompSc N Nc scope x caps) (hc : caps.all (fun i => (σ i).isSome) = true) {C : Addr} {O' : Addr → Prop} {s' : Shared} {y : PV} {V : Value} {m : Str → Option Value}
    (hk : ∀ b o, s.heap.get? b = some o → s'.heap.get? b = some o) (hO : ∀ b o, s.heap.get? b = some o → O' b → O b) (hu : jM O' s'.heap) (hf : ∀ a, O' a → O a ∨ s.heap.get? a = none) (hn : s'.heap.Ns C m) (hm : m x = some V) (hr : Rep p.B.T O' s'.heap y V) :
    p.Cx Nc (compEnvC scope (yS env scope.names []) C env) (zJ σ y caps) O' A s' where
  a := c.a
  e := by
    have hsc : (compEnvC scope (yS env scope.names []) C env).scope = Nc.sc := by show relabel scope env = Nc.sc; rw [S.sc, relabel_sc c.e.scope]
    refine ⟨c.e.code, hsc, S.kind, c.e.globals, c.e.builtins, fun y hy => ?_, fun y hy => ?_⟩
    · unfold Env.kindOf; rw [hsc]; exact S.gl y hy
    · unfold Env.kindOf at hy; rw [hsc] at hy; exact S.nocd y _ hy
  k := fun b o e => hk b o (c.k b o e)
  u := hu
  o := fun a q => by
    rcases hf a q with q | q
    · exact c.o a q
    · cases e : p.h₁.get? a with
      | none => rfl
      | some o => rw [c.k a o e] at q; cases q
  r := fun i sv h => by
    have hsc : (compEnvC scope (yS env scope.names []) C env).scope = Nc.sc := by show relabel scope env = Nc.sc; rw [S.sc, relabel_sc c.e.scope]
    cases i with
    | zero =>
      simp only [zJ] at h; cases h
      refine ⟨x, V, [], fun _ => 0, S.slot0, .inl ⟨?_, m, hn, hm⟩, rfl, hr⟩
      unfold Env.kindOf
      exact lookup_relabel_local S.hx
    | succ j =>
      obtain ⟨i, hi, hs⟩ := compSt_some h
      obtain ⟨nm, g1, g2, g3, g4, g5⟩ := S.capt j i hi
      obtain ⟨y', V', as, rf, h1, h2, h3⟩ := c.r i sv hs
      have e : y' = nm := Option.some.inj (h1.symm.trans g1)
      subst e
      have hkk : env.kindOf y' = some .cell := by unfold Env.kindOf; rw [c.e.scope]; exact g4
      have K : jN O s.heap O' s'.heap := fun b o n e => ⟨hk b o e, fun q => n (hO b o e q)⟩
      refine ⟨y', V', as, rf, g2, ?_, h3.keep K fun a _ o e => hk a o e⟩
      rcases h2 with ⟨a, _⟩ | ⟨_, cc, hl, hcell⟩ | ⟨a, _⟩
      · rw [hkk] at a; cases a
      · refine .inr (.inl ⟨?_, cc, ?_, hcell.keeps hk⟩)
        · unfold Env.kindOf; rw [hsc]; exact g5
        · show (yS env scope.names []).lookup y' = some cc
          rw [closL_lookup (Cx.capCell c S hc) g3]; exact hl
      · rw [hkk] at a; cases a
end
end Mine
end
set_option tactic.hygienic false
section
open PySem PySem.W PyProof.Rows PySem.SeqAt PySem.Calls
namespace Mine
theorem mapO_get {α β : Type} {f : α → Option β} : ∀ {l : List α} {r : List β}, jJ f l = some r → r.length = l.length ∧ ∀ (i : Nat) (x : α), l[i]? = some x → ∃ y, f x = some y ∧ r[i]? = some y
  | [], r, h => by obtain rfl := Option.some.inj h; exact ⟨rfl, fun i x e => by simp at e⟩
  | x :: l, r, h => by
    revert h
    show (match f x, jJ f l with | some y, some r => some (y :: r) | z_, y_ => none) = some r → _
    cases e1 : f x with
    | none => exact fun h => nn h
    | some y => cases e2 : jJ f l with
      | none => exact fun h => nn h
      | some r' =>
        intro h
        obtain rfl := Option.some.inj h
        obtain ⟨a, b⟩ := mapO_get e2
        refine ⟨by simp [a], fun i z e => ?_⟩
        cases i with
        | zero => exact ⟨y, (Option.some.inj (show some x = some z from e)) ▸ e1, rfl⟩
        | succ i => exact b i z e
section
variable {p : P5} {N Nc : NI} {fb : FB} {env : Env} {σ : St} {own : Nat → List Addr} {s : Shared} {A : Around} {E : Value → Shared → Prop} {prog : Program} {w : World} {O : Addr → Prop}
noncomputable def compO (O : Addr → Prop) (C D : Addr) (wrA : List Addr) : Addr → Prop := fun a => O a ∨ a = C ∨ a = D ∨ a ∈ wrA
inductive CompI (p : P5) (O' : Addr → Prop) (C D : Addr) (ys : List PV) (s s' : Shared) (n : Nat) (T : Nat → Heap → Prop) (k : Nat) (s₁ : Shared) : Prop
  | mk (i : Nat) (h : Heap) (tk : Nat) (vs : List Value) (m' : Str → Option Value) (e : s₁ = { s' with heap := h, toks := tk }) (hi : i ≤ n) (hk : k = n - i) (kp : ∀ b o, s.heap.get? b = some o → h.get? b = some o) (hst : T i h) (hD : h.PlainList D vs.toArray)
    (hr : yX p.B.T O' h (ys.take i) vs) (hC : h.Ns C m') : CompI p O' C D ys s s' n T k s₁
theorem comp_loop (c : p.Cx N env σ O A s) {scope : Scope} {x : Str} {px : Pos} {iter elt : Expr} {pos : Pos} {caps : List Nat} (S : CompSc N Nc scope x caps) (hc : caps.all (fun i => (σ i).isSome) = true) {m : ME} (he : yY p Nc elt m)
    {xs ys : List PV} (hm : jJ (fun x => qM p.Γ (zJ σ x caps) m) xs = some ys) (hlen : xs.length ≤ SZ)
    {I : Addr} {fp wrA : List Addr} {n : Nat} {P : Nat → Value → Prop} {Stt : Nat → Heap → Prop} (W : Walks p.prog p.w A I fp wrA n P Stt) (hn : xs.length = n)
    (hitem : ∀ (i : Nat) (x : PV) (v : Value), xs[i]? = some x → P i v → Rep p.B.T O s.heap x v) (lS : ∀ i h, Stt i h → ∀ b, b ∈ wrA → ∃ o, h.get? b = some o)
    {C D : Addr} (fC : s.heap.get? C = none) (fD : s.heap.get? D = none) (fw : ∀ b, b ∈ wrA → s.heap.get? b = none) (hCD : C ≠ D) (hCf : C ∉ fp) (hDf : D ∉ fp)
    {s' : Shared} {m₀ : Str → Option Value} (x' : Ext s s') (hD : s'.heap.PlainList D #[]) (hC : s'.heap.Ns C m₀) (hst : Stt 0 s'.heap) {R : Result → Shared → Prop}
    (hR : ∀ h' tk vs m', (∀ b o, s.heap.get? b = some o → h'.get? b = some o) → h'.PlainList D vs.toArray → yX p.B.T (compO O C D wrA) h' ys vs → h'.Ns C m' → R (.ok .next) { s' with heap := h', toks := tk }) :
    codeAny (model p.prog p.w) A (.compLoop (.ListComp elt [⟨.Name x px, iter, [], 0⟩] scope pos) 0 (.ref I) (.ref D) (compEnvC scope (yS env scope.names []) C env)) R s' := by
  obtain ⟨hyl, hyg⟩ := mapO_get hm
  have hCw : C ∉ wrA := fun h => hCf (W.sub _ h)
  have hDw : D ∉ wrA := fun h => hDf (W.sub _ h)
  have hO : ∀ b o, s.heap.get? b = some o → compO O C D wrA b → O b := fun b o e q => by
    rcases q with q | q | q | q
    · exact q
    · subst q; rw [fC] at e; cases e
    · subst q; rw [fD] at e; cases e
    · rw [fw b q] at e; cases e
  have hf : ∀ a, compO O C D wrA a → O a ∨ s.heap.get? a = none := fun a q => by
    rcases q with q | q | q | q
    · exact .inl q
    · subst q; exact .inr fC
    · subst q; exact .inr fD
    · exact .inr (fw a q)
  have xl : (compEnvC scope (yS env scope.names []) C env).kindOf x = some .local := by unfold Env.kindOf; exact lookup_relabel_local S.hx
  have hp : ((compEnvC scope (yS env scope.names []) C env).scope.kind == .class || ((compEnvC scope (yS env scope.names []) C env).scope.kind == .module && (compEnvC scope (yS env scope.names []) C env).locals != (compEnvC scope (yS env scope.names []) C env).globals)) = false := by
    simp [compEnvC, relabel, S.kind]
  refine codeAny_compLoop_tests (CompI p (compO O C D wrA) C D ys s s' n Stt) ?_ n ⟨0, s'.heap, s'.toks, [], m₀, rfl, Nat.zero_le _, rfl, x'.keep, hst, hD, rfl, hC⟩
  intro k s₁ ⟨i, h, tk, vs, m', e, hi, hk', hk, hst, hD, hr, hC⟩
  subst e
  by_cases hlt : i < n
  · have hx : xs[i]? = some (xs[i]'(by omega)) := List.getElem?_eq_getElem (by omega)
    obtain ⟨y, hy1, hy2⟩ := hyg i _ hx
    refine W.item i _ _ _ hlt hst fun v h₁ tk₁ hP st₁ hk₁ => ?_
    have hC₁ : h₁.Ns C m' := hC.at' fun o e => hk₁ C o hCw e
    refine wpAny_assign_Name (wpAny_storeName_local xl hC₁ (fun h₂ hn₂ hs₂ => ?_) hp)
    replace hs₂ : Heap.SameBut C h₁ h₂ := hs₂
    have up₂ : ∀ b o, b ≠ C → b ∉ wrA → h.get? b = some o → h₂.get? b = some o := fun b o hb1 hb2 e => hs₂.extBut b o hb1 (hk₁ b o hb2 e)
    have hk₂ : ∀ b o, s.heap.get? b = some o → h₂.get? b = some o := fun b o e => up₂ b o (fun q => by subst q; rw [fC] at e; cases e) (fun q => by rw [fw b q] at e; cases e) (hk b o e)
    have st₂ : Stt (i + 1) h₂ := W.frame _ _ _ st₁ fun b hb o e => hs₂.extBut b o (fun q => hCf (q ▸ hb)) e
    have hD₂ : h₂.PlainList D vs.toArray := hD.at fun o e => up₂ D o (Ne.symm hCD) hDw e
    have K₂ : jN (compO O C D wrA) h (compO O C D wrA) h₂ := fun b o nn e => ⟨up₂ b o (fun q => nn (.inr (.inl q))) (fun q => nn (.inr (.inr (.inr q)))) e, nn⟩
    have hu₂ : jM (compO O C D wrA) h₂ := fun a q => by
      rcases q with q | q | q | q
      · obtain ⟨o, e⟩ := c.u a q; exact ⟨o, hk₂ a o e⟩
      · subst q; obtain ⟨o, _, _, e, _⟩ := hn₂; exact ⟨o, e⟩
      · subst q; obtain ⟨nn, e⟩ := hD₂; exact ⟨_, e⟩
      · exact lS _ _ st₂ a q
    have K₀ : jN O s.heap (compO O C D wrA) h₂ := fun b o nn e => ⟨hk₂ b o e, fun q => nn (hO b o e q)⟩
    have hv := hitem i _ v hx hP
    have cc := c.comp S hc (C := C) (O' := compO O C D wrA) (s' := { s' with heap := h₂, toks := tk₁ + 1 }) (y := xs[i]'(by omega)) (V := v) hk₂ hO hu₂ hf hn₂ (if_pos rfl) (hv.keep K₀)
    refine wpAny_tests_nil ?_
    simp only [if_true]
    refine he hy1 cc fun V s₃ x₃ r₃ => ?_
    have hys : vs.length = i := by rw [hr.length]; simp; omega
    have hD₃ : s₃.heap.PlainList D vs.toArray := hD₂.at fun o e => x₃.keep D o e
    have := xX
    refine wpAny_list_append_plain hD₃ (fun h₄ hl₄ hs₄ => ?_) (by simp; omega)
    have K₄ : jN (compO O C D wrA) s₃.heap (compO O C D wrA) h₄ := fun b o nn e => ⟨hs₄.extBut b o (fun q => nn (.inr (.inr (.inl q)))) e, nn⟩
    obtain ⟨g1, g2, g3⟩ : s₃.gens = s'.gens ∧ s₃.drawn = s'.drawn ∧ s₃.os = s'.os := ⟨x₃.gens, x₃.drawn, x₃.os⟩
    refine ⟨n - (i + 1), by rw [hk']; exact Nat.sub_lt_sub_left hlt (Nat.lt_succ_self i), i + 1, h₄, s₃.toks, vs ++ [V], _, ?_, hlt, rfl, fun b o e => hs₄.extBut b o (fun q => by subst q; rw [fD] at e; cases e) (x₃.keep b o (hk₂ b o e)), ?_, by simpa using hl₄, ?_, (hn₂.keeps x₃.keep).sameBut hs₄ hCD⟩
    · obtain ⟨hp3, g3', d3, t3, o3⟩ := s₃
      simp only at g1 g2 g3
      subst g1 g2 g3
      rfl
    · exact W.frame _ _ _ st₂ fun b hb o e => hs₄.extBut b o (fun q => hDf (q ▸ hb)) (x₃.keep b o e)
    · rw [List.take_add_one, hy2]
      exact (((hr.keep K₂).keep fun b o nn e => ⟨x₃.keep b o e, nn⟩).keep K₄).append (yX.one (r₃.keep K₄))
  · have hin : i = n := by omega
    subst hin
    refine W.done _ _ _ hst fun h₁ tk₁ hk₁ => ?_
    have K₁ : jN (compO O C D wrA) h (compO O C D wrA) h₁ := fun b o nn e => ⟨hk₁ b o (fun q => nn (.inr (.inr (.inr q)))) e, nn⟩
    refine hR h₁ tk₁ vs m' (fun b o e => hk₁ b o (fun q => by rw [fw b q] at e; cases e) (hk b o e)) (hD.at fun o e => hk₁ D o hDw e) ?_ (hC.at' fun o e => hk₁ C o hCw e)
    rw [List.take_of_length_le (by omega)] at hr
    exact hr.keep K₁
theorem comp_block (c : p.Cx N env σ O A s) {scope : Scope} {x : Str} {px : Pos} {iter elt : Expr} {pos : Pos} {caps : List Nat} (S : CompSc N Nc scope x caps) (hc : caps.all (fun i => (σ i).isSome) = true) {m : ME} (he : yY p Nc elt m)
    {xs ys : List PV} (hm : jJ (fun x => qM p.Γ (zJ σ x caps) m) xs = some ys) (hlen : xs.length ≤ SZ)
    {I : Addr} {fp wrA : List Addr} {n : Nat} {P : Nat → Value → Prop} {Stt : Nat → Heap → Prop} (W : Walks p.prog p.w A I fp wrA n P Stt) (hn : xs.length = n)
    (hitem : ∀ (i : Nat) (x : PV) (v : Value), xs[i]? = some x → P i v → Rep p.B.T O s.heap x v) (lS : ∀ i h, Stt i h → ∀ b, b ∈ wrA → ∃ o, h.get? b = some o)
    (fw : ∀ b, b ∈ wrA → s.heap.get? b = none) {s₂ : Shared} (x₂ : Ext s s₂) (hfp : ∀ b, b ∈ fp → b < s₂.heap.objs.size) (hst : Stt 0 s₂.heap) {RR : Value → Addr → Result → Shared → Prop}
    (hR : ∀ (C D : Addr) (h' : Heap) tk vs m', s.heap.get? C = none → s.heap.get? D = none → C ≠ D → (∀ b o, s.heap.get? b = some o → h'.get? b = some o) → h'.PlainList D vs.toArray → yX p.B.T (compO O C D wrA) h' ys vs → h'.Ns C m' → RR (.ref D) C (.ok .next) { s₂ with heap := h', toks := tk }) :
    wpAny (model p.prog p.w) A (newList []) (fun acc s₃ => wpAny (model p.prog p.w) A (newFunctionEnv scope env.globals (yS env scope.names []) [] env.qual none .none (some env)) (fun cenv s₄ =>
      codeAny (model p.prog p.w) A (.compStart (.ListComp elt [⟨.Name x px, iter, [], 0⟩] scope pos) 0 (.ref I) acc { cenv with scope := relabel scope env }) (RR acc cenv.locals) s₄) E s₃) E s₂ := by
  refine wpAny_newObj_type (wpAny_newFunctionEnv S.cell (by intro y hy; simp at hy) (fun h₁ hns₁ hsb₁ => ?_) S.kind)
  dsimp only at hns₁ hsb₁ ⊢
  generalize hH2 : s₂.heap.push { cls := .type "list", dict := none, data := .seq ([] : List Value).toArray } = H2 at hns₁ hsb₁ ⊢
  have hC : H2.objs.size = s₂.heap.objs.size + 1 := by rw [← hH2, Heap.size_push]
  have hDC : s₂.heap.objs.size ≠ H2.objs.size := by rw [hC]; exact Nat.ne_of_lt (Nat.lt_succ_self _)
  have below : ∀ b, b < s₂.heap.objs.size → b ≠ H2.objs.size ∧ b ≠ s₂.heap.objs.size := fun b hb => ⟨by rw [hC]; exact Nat.ne_of_lt (Nat.lt_succ_of_lt hb), Nat.ne_of_lt hb⟩
  have hDf : s₂.heap.objs.size ∉ fp := fun hm => Nat.lt_irrefl _ (hfp _ hm)
  have hCf : H2.objs.size ∉ fp := fun hm => by have := hfp _ hm; rw [hC] at this; exact Nat.lt_irrefl _ (Nat.lt_of_succ_lt this)
  have old : ∀ b o, s₂.heap.get? b = some o → h₁.get? b = some o := fun b o e => hsb₁.extBut b o (below b (Heap.lt_size e)).1 (Heap.get?_push_of_some _ (hH2 ▸ Heap.get?_push_of_some _ e))
  have hacc : h₁.PlainList s₂.heap.objs.size #[] := ⟨_, hsb₁.extBut _ _ hDC (Heap.get?_push_of_some _ (hH2 ▸ Heap.get?_push_size _ rfl))⟩
  have hst₁ : Stt 0 h₁ := W.frame _ _ _ hst fun b _ o e => old b o e
  have fresh : ∀ a, s₂.heap.objs.size ≤ a → s.heap.get? a = none := fun a ha => by
    cases e : s.heap.get? a with
    | none => rfl
    | some o' => exact absurd (Heap.lt_size (x₂.keep _ _ e)) (Nat.not_lt.mpr ha)
  have loop : ∀ s₃ : Shared, s₃ = { s₂ with heap := h₁, toks := s₂.toks + ([] : List (Str × Value)).length } →
      codeAny (model p.prog p.w) A (.compLoop (.ListComp elt [⟨.Name x px, iter, [], 0⟩] scope pos) 0 (.ref I) (.ref s₂.heap.objs.size) (compEnvC scope (yS env scope.names []) H2.objs.size env))
        (RR (.ref s₂.heap.objs.size) H2.objs.size) s₃ := by
    rintro s₃ rfl
    refine comp_loop (s := s) (s' := { s₂ with heap := h₁, toks := s₂.toks + ([] : List (Str × Value)).length }) c S hc he hm hlen W hn hitem lS (fresh _ (by rw [hC]; exact Nat.le_succ _)) (fresh _ (Nat.le_refl _)) fw (Ne.symm hDC) hCf hDf ⟨fun b o e => old b o (x₂.keep b o e), x₂.gens, x₂.drawn, x₂.os⟩ hacc hns₁ hst₁ fun h' tk vs m' a1 a2 a3 a4 => ?_
    exact hR _ _ h' tk vs m' (fresh _ (by rw [hC]; exact Nat.le_succ _)) (fresh _ (Nat.le_refl _)) (Ne.symm hDC) a1 a2 a3 a4
  exact codeAny_compStart_list (loop _ rfl) (W.self 0 _ _ _ hst₁ (loop _ rfl))
end
end Mine
end
section
open PySem PySem.W PyProof.Rows PySem.SeqAt PySem.Calls
namespace Mine
section
variable {p : P5} {N Nc : NI} {fb : FB} {env : Env} {σ : St} {own : Nat → List Addr} {s : Shared} {A : Around} {E : Value → Shared → Prop} {prog : Program} {w : World} {O : Addr → Prop}
structure CompEnd (p : P5) (O : Addr → Prop) (s s' : Shared) (ys : List PV) (C D : Addr) : Prop where
  ext : Ext s s'
  fC : s.heap.get? C = none
  fD : s.heap.get? D = none
  ne : C ≠ D
  rep : ∃ wrA vs, s'.heap.PlainList D vs.toArray ∧ yX p.B.T (compO O C D wrA) s'.heap ys vs
  ns : ∃ m, s'.heap.Ns C m
theorem CompEnd.clear {s' : Shared} {ys : List PV} {C D : Addr} (e : CompEnd p O s s' ys C D) (hu : jM O s.heap) {h' : Heap} (hs : Heap.SameBut C s'.heap h') : Ext s { s' with heap := h' } ∧ Rep p.B.T O h' (.lst ys) (.ref D) := by
  obtain ⟨wrA, vs, hD, hr⟩ := e.rep
  refine ⟨⟨fun b o eb => hs.extBut b o (fun q => by subst q; rw [e.fC] at eb; cases eb) (e.ext.keep b o eb), e.ext.gens, e.ext.drawn, e.ext.os⟩, D, vs, rfl, fun q => ?_, hD.at fun o eo => hs.extBut D o (Ne.symm e.ne) eo, hr.keep fun b o n eb => ⟨hs.extBut b o (fun q => n (.inr (.inl q))) eb, fun q => n (.inl q)⟩⟩
  obtain ⟨o, eo⟩ := hu D q
  rw [e.fD] at eo; cases eo
noncomputable def SrcOK (p : P5) (N : NI) (iter : Expr) (items : St → Option (List PV)) : Prop := ∀ ⦃σ : St⦄ ⦃env : Env⦄ ⦃O : Addr → Prop⦄ ⦃A : Around⦄ ⦃s : Shared⦄ ⦃E : Value → Shared → Prop⦄ ⦃xs : List PV⦄ ⦃Q : Value → Shared → Prop⦄, items σ = some xs → p.Cx N env σ O A s →
  (∀ I s₁ s₂ fp wrA P Stt, Ext s s₁ → Ext s₁ s₂ → Walks p.prog p.w A I fp wrA xs.length P Stt → (∀ (i : Nat) (x : PV) (v : Value), xs[i]? = some x → P i v → Rep p.B.T O s₁.heap x v) → (∀ i h, Stt i h → ∀ b, b ∈ wrA → ∃ o, h.get? b = some o) →
    (∀ b, b ∈ wrA → s₁.heap.get? b = none) → (∀ b, b ∈ fp → b < s₂.heap.objs.size) → Stt 0 s₂.heap → Q (.ref I) s₂) → wpAny (model p.prog p.w) A (eval iter env) (fun xv s₁ => wpAny (model p.prog p.w) A (pyIter xv) Q E s₁) E s
noncomputable def srcL (Γ : xB) (m : ME) (σ : St) : Option (List PV) := match qM Γ σ m with | some (.lst l) => some l | z_ => none
theorem src_list {e m} (h1 : BaOK p N e m) : SrcOK p N e (srcL p.Γ m) := fun {σ env O A s E xs Q} h c k => by
  refine ivLst h fun l hv h => ?_
  obtain rfl := (Option.some.inj h).symm
  refine h1 hv c fun V s1 x1 r1 => ?_
  obtain ⟨ax, vs, rfl, hpl, hq⟩ := r1
  refine wpAny_pyIter_list hpl.isList ?_
  have x2 := Ext.push s1 { cls := .type "list_iterator", data := .fields #[.ref ax, .int 0 0] } s1.toks
  have hI : (s1.heap.push { cls := .type "list_iterator", data := .fields #[.ref ax, .int 0 0] }).IsListIter s1.heap.objs.size ax 0 := ⟨_, Heap.get?_push_size _ rfl, rfl, rfl⟩
  obtain ⟨np, hpl'⟩ := id hpl
  have hlt := Heap.lt_size hpl'
  have hne : ax ≠ s1.heap.objs.size := Nat.ne_of_lt hlt
  have W := Walks.list (prog := p.prog) (w := p.w) c.a.handled s1.heap.objs.size ax hne vs.toArray
  rw [show vs.toArray.size = xs.length by simpa using hq.length] at W
  refine k _ _ _ _ _ _ _ x1 x2 W (fun i x v hx hP => ?_) (fun i h st b hb => ?_) (fun b hb => ?_) (fun b hb => ?_) ⟨hI, ⟨_, x2.keep _ _ hpl', rfl, np, rfl⟩⟩
  · obtain ⟨V, hV, hrV⟩ := hq.get hx
    have : V = v := by
      simp at hP
      exact Option.some.inj (hV.symm.trans hP)
    subst this; exact hrV
  · have : b = s1.heap.objs.size := by simpa using hb
    subst this
    obtain ⟨o, e, _⟩ := st.1; exact ⟨o, e⟩
  · have : b = s1.heap.objs.size := by simpa using hb
    subst this; exact yM _
  · show b < (s1.heap.push _).objs.size
    rw [Heap.size_push]
    rcases List.mem_cons.mp hb with hb | hb
    · rw [hb]; exact Nat.lt_succ_self _
    · have : b = ax := by simpa using hb
      rw [this]; exact Nat.lt_succ_of_lt hlt
theorem comp_run {iter elt : Expr} {x : Str} {px pos : Pos} {scope : Scope} {caps : List Nat} (S : CompSc N Nc scope x caps) {m : ME} (he : yY p Nc elt m) {items : St → Option (List PV)} (hsrc : SrcOK p N iter items) (hs : ∀ env x, foldedSetIterable iter env x = pure x)
    {xs ys : List PV} (hx : items σ = some xs) (hlen : xs.length ≤ SZ) (hc : caps.all (fun i => (σ i).isSome) = true) (hm : jJ (fun x => qM p.Γ (zJ σ x caps) m) xs = some ys) (c : p.Cx N env σ O A s) {use : Option (Value → Sem Unit)} {Q : Value → Shared → Prop}
    (k : ∀ C D s', CompEnd p O s s' ys C D → compPost (model p.prog p.w) A E use Q (.ref D) C (.ok .next) s') :
    wpAny (model p.prog p.w) A (comprehension (.ListComp elt [⟨.Name x px, iter, [], 0⟩] scope pos) scope env (firstIterPos [⟨.Name x px, iter, [], 0⟩] pos) (newList []) false (eval iter env) use) Q E s := by
  refine wpAny_comprehension_free (use := use) rfl (hs env) (closureFor_eq (Cx.capCell c S hc)) S.kind S.names ?_
  refine hsrc hx c fun I s₁ s₂ fp wrA P Stt x1 x2 W hitem lS fw hfp hst => ?_
  refine comp_block (s := s₁) (RR := fun acc C => compPost (model p.prog p.w) A E use Q acc C) (c.ext x1) S hc he hm hlen W rfl hitem lS fw x2 hfp hst fun C D h' tk vs m' fC fD ne hk hD hr hC => ?_
  have hn : ∀ a, s₁.heap.get? a = none → s.heap.get? a = none := fun a h => by
    cases e : s.heap.get? a with
    | none => rfl
    | some o => rw [x1.keep a o e] at h; cases h
  exact k C D _ ⟨⟨fun b o e => hk b o (x1.keep b o e), (x1.trans x2).gens, (x1.trans x2).drawn, (x1.trans x2).os⟩, hn C fC, hn D fD, ne, ⟨wrA, vs, hD, hr⟩, ⟨m', hC⟩⟩
theorem compL_parts {Γ : xB} {e elt : ME} {caps : List Nat} {v : PV} (h : qM Γ σ (.compL e caps elt) = some v) : ∃ xs ys, v = .lst ys ∧ srcL Γ e σ = some xs ∧ xs.length ≤ SZ ∧ caps.all (fun i => (σ i).isSome) = true ∧ jJ (fun x => qM Γ (zJ σ x caps) elt) xs = some ys := by
  refine ivLst h fun l hl h => iteO h fun hc h => imap h fun ys h1 e => ?_
  subst e
  rw [Bool.and_eq_true] at hc
  exact ⟨l, ys, rfl, by rw [srcL, hl], of_decide_eq_true hc.1, hc.2, h1⟩
theorem ev_comp {iter elt : Expr} {x : Str} {px pos : Pos} {scope : Scope} {caps : List Nat} (S : CompSc N Nc scope x caps) {m : ME} (he : yY p Nc elt m) {items : St → Option (List PV)} (hsrc : SrcOK p N iter items) (hs : ∀ env x, foldedSetIterable iter env x = pure x)
    {mm : ME} (parts : ∀ {σ v}, qM p.Γ σ mm = some v → ∃ xs ys, v = .lst ys ∧ items σ = some xs ∧ xs.length ≤ SZ ∧ caps.all (fun i => (σ i).isSome) = true ∧ jJ (fun x => qM p.Γ (zJ σ x caps) m) xs = some ys) :
    yY p N (.ListComp elt [⟨.Name x px, iter, [], 0⟩] scope pos) mm := fun {σ v env O A s E Q} h c k => by
  obtain ⟨xs, ys, rfl, hx, hlen, hc, hm⟩ := parts h
  rw [eval_ListComp]
  exact comp_run (use := none) S he hsrc hs hx hlen hc hm c fun C D s' e => by
    obtain ⟨mm, hn⟩ := e.ns
    exact ⟨mm, hn, fun h' hsb => let ⟨a, b⟩ := e.clear c.u hsb; k _ _ a b⟩
theorem ev_compL {iter elt : Expr} {x : Str} {px pos : Pos} {scope : Scope} {caps : List Nat} (S : compChk N Nc scope x caps = true) {m e : ME} (he : yY p Nc elt m) (h1 : BaOK p N iter e) (hs : ∀ env x, foldedSetIterable iter env x = pure x) :
    yY p N (.ListComp elt [⟨.Name x px, iter, [], 0⟩] scope pos) (.compL e caps m) := ev_comp (compChk_ok S) he (src_list h1) hs fun h => compL_parts h
theorem st_comp {iter elt : Expr} {x y : Str} {px py pos spos : Pos} {scope : Scope} {caps : List Nat} (S : CompSc N Nc scope x caps) {m : ME} (he : yY p Nc elt m) {items : St → Option (List PV)} (hsrc : SrcOK p N iter items) (hs : ∀ env x, foldedSetIterable iter env x = pure x)
    {mm : ME} (parts : ∀ {σ v}, qM p.Γ σ mm = some v → ∃ xs ys, v = .lst ys ∧ items σ = some xs ∧ xs.length ≤ SZ ∧ caps.all (fun i => (σ i).isSome) = true ∧ jJ (fun x => qM p.Γ (zJ σ x caps) m) xs = some ys) {i : Nat} (hy : N.slots[i]? = some y)
    (hsw : ∀ env : Env, env.scope = N.sc → swapsWith (.ListComp elt [⟨.Name x px, iter, [], 0⟩] scope pos) (some (.Name y py)) spos.line env = pure true) : zP p N (.Assign [.Name y py] (.ListComp elt [⟨.Name x px, iter, [], 0⟩] scope pos) spos) (.asg i mm) := fun {fuel σ fl σ' fb env own A s E Q} h a F k => by
  refine iv1 h fun v hv h => ?_
  have k := k.os h
  obtain ⟨xs, ys, rfl, hx, hlen, hc, hm⟩ := parts hv
  rw [exec_Assign_Name_used _ _ _ _ (hsw env F.e.scope)]
  refine wpAny_bind (wpAny_standAt (wpAny_bind ?_))
  show wpAny _ A (do let _ ← comprehension (.ListComp elt [⟨.Name x px, iter, [], 0⟩] scope pos) scope env _ (newList []) false (eval iter env) (some (assign (.Name y py) env))) _ _ s
  refine wpAny_bind (wpAny_mono (comp_run (use := some (assign (.Name y py) env)) (Q := fun _ s' => Q .next s') S he hsrc hs hx hlen hc hm (F.cx a) fun C D s' e => ?_) (fun _ s' hq => wpAny_pure (wpAny_pure hq)) fun _ _ e => e)
  obtain ⟨mm, hn⟩ := e.ns
  obtain ⟨wrA, vs, hD, hr⟩ := e.rep
  have F1 := F.hide (s := s') e.ext (P := (· = C)) fun b hb => by subst hb; exact ⟨e.fC, let ⟨o, _, _, eo, _⟩ := hn; ⟨o, eo⟩⟩
  have hDn : ¬ FO env fb.O₀ own D := fun q => by
    obtain ⟨o, eo⟩ := (F.cx a).u D q
    rw [e.fD] at eo; cases eo
  have hCn : ¬ NewA env own C := fun q => by
    obtain ⟨_, _, o, eo⟩ := F.new C q
    rw [e.fC] at eo; cases eo
  have le : FB.Le p fb (fb.hide (· = C)) := ⟨fun _ _ k => k, fun _ o => .inl o, rfl, rfl, F.top⟩
  show wpAny _ A (assign (.Name y py) env (.ref D)) _ _ s'
  refine PyProof.Rows.assign_Name (F1.store (sv := .val (.lst ys)) hy (Own'.drop F1 i) (And.intro (yF ..) ⟨D, vs, rfl, fun q => ?_, hD, hr.keep fun b o n eb => ⟨eb, fun q => n ?_⟩⟩) fun s2 F2 kp => ?_)
  · rcases q with q | q
    · rcases q with q | q
      · exact hDn (.inl q)
      · exact e.ne q.symm
    · exact hDn (.inr q)
  · rcases q with q | q
    · rcases q with q | q
      · exact .inl (.inl q)
      · exact .inr (.inl q)
    · exact .inl (.inr q)
  · refine ⟨mm, hn.at' fun o eo => kp C o (fun q => hCn (.inl q)) (fun z q => hCn (.inr (.inl ⟨z, q⟩))) eo, fun h' hsb => ?_⟩
    exact k _ _ _ (F2.leave le (bad := (· = C)) (s' := { s2 with heap := h' }) (fun b q => by
      subst q
      exact ⟨.inr rfl, fun q => (by obtain ⟨o, eo⟩ := F.under _ q; rw [e.fC] at eo; cases eo), fun o q => (by have := F.kp _ _ q; rw [e.fC] at this; cases this)⟩) (fun b o q eb => hsb.extBut b o q eb) rfl rfl rfl) rfl (zM (Own'.drop F1 i))
end
end Mine
end
section
open PySem PySem.W PyProof.Rows PySem.SeqAt PySem.Calls
namespace Mine
section
variable {M : Model} {A : Around} {R : GenEnd} {Y : Protocol} {n : Nat} {s₀ : Shared} {c : Code} {fs : List Frame} {s : Shared} {env : Env}
  {K : Flow → Sem Fin} {H : Value → Sem Fin} {gd : Bool → Bool} {lv : List Value → List Value}
theorem seg_If_ {test body orelse pos} (h : wpAny M (A.over c fs) (isTrue test env (eval test env)) (fun b s' => if b = true then Seg M A R Y n s₀ c ((execs body env).wrap K H gd lv) fs s' else Seg M A R Y n s₀ c ((execs orelse env).wrap K H gd lv) fs s')
    (fun x s' => Seg M A R Y n s₀ c (H x) fs s') s) : Seg M A R Y n s₀ c ((exec (.If test body orelse pos) env).wrap K H gd lv) fs s := by
  rw [exec_If]
  refine seg_bind_wrap (wpAny_standAt ?_)
  refine seg_bind_wrap (wpAny_mono h (fun b s' hb => ?_) fun _ _ x => x)
  cases b with
  | true => rw [if_pos rfl] at hb; exact hb
  | false => rw [if_neg Bool.false_ne_true] at hb; exact hb
noncomputable def afterRun (env : Env) (K : Flow → Sem Fin) (H : Value → Sem Fin) (gd : Bool → Bool) (lv : List Value → List Value) (r : Result) : Sem Fin :=
  ((match r with | .ok f => (.pure f : Sem Flow) | .error e => .raise e).onRaise fun (x : Value) => do
        if (← field x 1) == Value.none then unsupported "frame.own-activation:exception-without-traceback"
        setFlight x env.frame).wrap K H gd lv
theorem afterRun_ok {f : Flow} : afterRun env K H gd lv (.ok f) = K f := rfl
theorem seg_For_ {target iter : Expr} {body orelse : List Stmt} {pos : Pos}
    (h : wpAny M (A.over c fs) (eval iter env) (fun x s₁ => wpAny M (A.over c fs) (pyIter x) (fun it s₂ => ∀ p, Seg M A R Y n s₀ (.forLoop target it body orelse env) (M.den (.forLoop target it body orelse env))
      (.ret (afterRun env K H gd lv) none (gd false) (lv []) c p [] :: fs) s₂) (fun x s' => Seg M A R Y n s₀ c (H x) fs s') s₁) (fun x s' => Seg M A R Y n s₀ c (H x) fs s') s)
    (hs : ∀ x, foldedSetIterable iter env x = pure x) : Seg M A R Y n s₀ c ((exec (.For target iter body orelse pos) env).wrap K H gd lv) fs s := by
  rw [exec_For]
  refine seg_bind_wrap (wpAny_standAt ?_)
  refine seg_bind_wrap (wpAny_mono h (fun x s₁ h₁ => ?_) fun _ _ x => x)
  refine seg_bind_wrap (wpAny_of_eq (hs x) ?_)
  refine seg_bind_wrap (wpAny_standAt ?_)
  refine seg_bind_wrap (wpAny_holding (wpAny_mono h₁ (fun it s₂ h₂ => ?_) fun _ _ x => x))
  exact seg_call h₂
end
section
variable {prog : Program} {w : World} {A : Around} {R : GenEnd} {Y : Protocol} {n : Nat} {s₀ : Shared} {fs : List Frame} {s : Shared} {env : Env}
theorem seg_congr {M : Model} {c : Code} {α : Type} {m : Sem α} {K K' : α → Sem Fin} {H H' : Value → Sem Fin} {gd : Bool → Bool} {lv : List Value → List Value} (hK : ∀ f, K f = K' f) (hH : ∀ e, H e = H' e)
    (h : Seg M A R Y n s₀ c (m.wrap K' H' gd lv) fs s) : Seg M A R Y n s₀ c (m.wrap K H gd lv) fs s := by
  rw [funext hK, funext hH]; exact h
theorem seg_forLoop_ {target : Expr} {it : Value} {body : List Stmt}
    (h : wpAny (model prog w) (A.over (.forLoop target it body [] env) fs) (pyNext it) (fun r s₁ => match r with
      | none => Seg (model prog w) A R Y n s₀ (.block [] env) (leafOf (.ok .next)) fs s₁
      | some v => wpAny (model prog w) (A.over (.forLoop target it body [] env) fs) (letOwnedTupleGo target it v) (fun _ s₁' =>
          wpAny (model prog w) (A.over (.forLoop target it body [] env) fs) (assign target env v) (fun _ s₂ =>
            Seg (model prog w) A R Y n s₀ (.forLoop target it body [] env) ((execs body env).wrap (fun f => match f with
              | .next | .cont => .pure (.again (.forLoop target it body [] env))
              | .brk => .pure (.done .next)
              | .ret v => .pure (.done (.ret v))) (fun e => (do noteFrame e env; theTreesLotGoes e : Sem Unit).wrap (fun _ => .raise e) .raise id id) id id) fs s₂)
            (fun x s' => Seg (model prog w) A R Y n s₀ (.forLoop target it body [] env) ((do noteFrame x env; theTreesLotGoes x : Sem Unit).wrap (fun _ => .raise x) .raise id id) fs s') s₁')
          (fun x s' => Seg (model prog w) A R Y n s₀ (.forLoop target it body [] env) ((do noteFrame x env; theTreesLotGoes x : Sem Unit).wrap (fun _ => .raise x) .raise id id) fs s') s₁)
      (fun x s' => Seg (model prog w) A R Y n s₀ (.forLoop target it body [] env) ((do noteFrame x env; theTreesLotGoes x : Sem Unit).wrap (fun _ => .raise x) .raise id id) fs s') s) :
    Seg (model prog w) A R Y n s₀ (.forLoop target it body [] env) ((model prog w).den (.forLoop target it body [] env)) fs s := by
  show Seg _ A R Y n s₀ _ ((forTurn target it body [] env).onRaise (fun x => do noteFrame x env; theTreesLotGoes x)) fs s
  have hH : ∀ x : Value, ((do noteFrame x env; theTreesLotGoes x : Sem Unit).bind fun _ => (.raise x : Sem Fin)) = (do noteFrame x env; theTreesLotGoes x : Sem Unit).wrap (fun _ => .raise x) .raise id id := fun x => Sem.bind_eq_wrap _ _
  rw [Sem.onRaise_eq_wrap]
  simp only [forTurn, hH]
  refine seg_bind_wrap (wpAny_standAt ?_)
  refine seg_bind_wrap (wpAny_onRaise (wpAny_mono h (fun r s₁ h₁ => ?_) fun _ _ h' => wpAny_standAt h'))
  cases r with
  | none => exact seg_again rfl h₁
  | some v =>
    refine seg_bind_wrap (wpAny_mono h₁ (fun _ s₁' h₁' => ?_) fun _ _ h' => h')
    refine seg_bind_wrap (wpAny_mono h₁' (fun _ s₂ h₂ => ?_) fun _ _ h' => h')
    rw [Sem.bind_eq_wrap', Sem.wrap_wrap]
    exact seg_congr (fun f => by cases f <;> rfl) (fun e => rfl) h₂
end
end Mine
end
section
open PySem PySem.W PyProof.Rows PySem.SeqAt PySem.Calls
namespace Mine
mutual
noncomputable def jB : PV → Bool
  | .tup l => zY l
  | .tok _ => false
  | .lst _ => false
  | _ => true
noncomputable def zY : List PV → Bool
  | [] => true
  | x :: l => jB x && zY l
end
noncomputable def gfor (body : St → Option (List PV × Fl × St)) (bind : PV → St → Option St) : List PV → St → Option (List PV × Fl × St)
  | [], σ => some ([], .next, σ)
  | x :: xs, σ => match bind x σ with
    | some σ₁ => match body σ₁ with
      | some (ys, .next, σ₂) => (match gfor body bind xs σ₂ with | some (zs, r) => some (ys ++ zs, r) | none => none)
      | some (ys, .brk, σ₂) => some (ys, .next, σ₂)
      | some (ys, .ret v, σ₂) => some (ys, .ret v, σ₂)
      | none => none
    | none => none
section
variable (Γ : xB)
mutual
noncomputable def qT (fuel : Nat) (σ : St) : MS → Option (List PV × Fl × St)
  | .yield e => match qM Γ σ e with | some v => if jB v then some ([v], .next, σ) else none | none => none
  | .ifs c a b => match qR Γ σ c with | some true => xQ fuel σ a | some false => xQ fuel σ b | none => none
  | .forL is e body => match itemsL Γ σ e with | some l => gfor (fun σ => xQ fuel σ body) (xK is) l σ | none => none
  | .asg i e => (qN Γ fuel σ (.asg i e)).map fun q => ([], q)
  | .asgL i e => (qN Γ fuel σ (.asgL i e)).map fun q => ([], q)
  | .asgLL i => (qN Γ fuel σ (.asgLL i)).map fun q => ([], q)
  | .asgD i => (qN Γ fuel σ (.asgD i)).map fun q => ([], q)
  | .asg2 i j e => (qN Γ fuel σ (.asg2 i j e)).map fun q => ([], q)
  | .unp is es => (qN Γ fuel σ (.unp is es)).map fun q => ([], q)
  | .unpR is es => (qN Γ fuel σ (.unpR is es)).map fun q => ([], q)
  | .unpE is e => (qN Γ fuel σ (.unpE is e)).map fun q => ([], q)
  | .aug i op e => (qN Γ fuel σ (.aug i op e)).map fun q => ([], q)
  | .app i e => (qN Γ fuel σ (.app i e)).map fun q => ([], q)
  | .seti i k e => (qN Γ fuel σ (.seti i k e)).map fun q => ([], q)
  | .augi i k op e => (qN Γ fuel σ (.augi i k op e)).map fun q => ([], q)
  | .app2 i k e => (qN Γ fuel σ (.app2 i k e)).map fun q => ([], q)
  | .appN i => (qN Γ fuel σ (.appN i)).map fun q => ([], q)
  | .trunc i e => (qN Γ fuel σ (.trunc i e)).map fun q => ([], q)
  | .popOr j i e => (qN Γ fuel σ (.popOr j i e)).map fun q => ([], q)
  | .pop i => (qN Γ fuel σ (.pop i)).map fun q => ([], q)
  | .dset i k e => (qN Γ fuel σ (.dset i k e)).map fun q => ([], q)
  | .ddel i k => (qN Γ fuel σ (.ddel i k)).map fun q => ([], q)
  | .brk => (qN Γ fuel σ (.brk)).map fun q => ([], q)
  | .ret e => (qN Γ fuel σ (.ret e)).map fun q => ([], q)
  | .retN => (qN Γ fuel σ (.retN)).map fun q => ([], q)
  | .assert c => (qN Γ fuel σ (.assert c)).map fun q => ([], q)
  | .skip => (qN Γ fuel σ (.skip)).map fun q => ([], q)
  | .freeze i => (qN Γ fuel σ (.freeze i)).map fun q => ([], q)
  | .stuck => (qN Γ fuel σ (.stuck)).map fun q => ([], q)
  | .whil c b => (qN Γ fuel σ (.whil c b)).map fun q => ([], q)
  | .forUp i a b c => (qN Γ fuel σ (.forUp i a b c)).map fun q => ([], q)
  | .forDown i a b => (qN Γ fuel σ (.forDown i a b)).map fun q => ([], q)
  | .forEnum i j e b => (qN Γ fuel σ (.forEnum i j e b)).map fun q => ([], q)
  | .forRev x i k b => (qN Γ fuel σ (.forRev x i k b)).map fun q => ([], q)
noncomputable def xQ (fuel : Nat) (σ : St) : List MS → Option (List PV × Fl × St)
  | [] => some ([], .next, σ)
  | m :: ms => match qT fuel σ m with
    | some (ys, .next, σ') => (match xQ fuel σ' ms with | some (zs, r) => some (ys ++ zs, r) | none => none)
    | some (ys, .brk, σ') => some (ys, .brk, σ')
    | some (ys, .ret v, σ') => some (ys, .ret v, σ')
    | none => none
end
end
structure GC (p : P5) where
  fb₀ : FB
  env : Env
  Bad : Addr → Prop
  all : List PV
namespace GC
variable {p : P5} (g : GC p)
noncomputable def GF (a : Addr) : Prop := a = g.env.locals ∨ ∃ x, g.env.cells.lookup x = some a
noncomputable def PS (s₀ : Shared) (a : Addr) (o : Obj) : Prop := ¬ g.GF a ∧ s₀.heap.get? a = some o ∧ ((∃ o', g.fb₀.Kp a o') ∨ g.fb₀.O₀ a ∨ o.cls = .type "tuple")
structure KeptSeg (s₀ s : Shared) : Prop where
  keep : ∀ a o, g.PS s₀ a o → s.heap.get? a = some o
  gens : s.gens = g.fb₀.b.gens
  drawn : s.drawn = g.fb₀.b.drawn
  os : s.os = g.fb₀.b.os
  live : ∀ a, g.GF a → ∃ o, s.heap.get? a = some o
structure Cons (s' s'' : Shared) : Prop where
  keep : ∀ a o, ¬ g.Bad a → s'.heap.get? a = some o → s''.heap.get? a = some o
  live : ∀ a, g.Bad a → ∃ o, s''.heap.get? a = some o
  gens : s''.gens = s'.gens
  drawn : s''.drawn = s'.drawn
  os : s''.os = s'.os
noncomputable def OX (a : Addr) : Prop := g.fb₀.O₀ a ∨ g.GF a
noncomputable def P (n : Nat) (s₀ s : Shared) : Prop := n = 0 ∧ g.KeptSeg s₀ s
noncomputable def R : GenEnd := fun n s₀ r s₁ => r = .ok (.ret .none) ∧ g.P n s₀ s₁
noncomputable def Y : Protocol := fun m s₀ v s' go => g.KeptSeg s₀ s' ∧ (∃ x, g.all[g.all.length - (m + 1)]? = some x ∧ Rep p.B.T g.OX s'.heap x v ∧ jB x = true) ∧ ∀ s'', g.Cons s' s'' → go (.send .none) s''
end GC
structure Yld (all : List PV) (n : Nat) (ys : List PV) : Prop where
  hn : n + ys.length ≤ all.length
  hall : ∀ i, i < ys.length → all[all.length - (n + ys.length) + i]? = ys[i]?
theorem len_app {n : Nat} {ys zs : List PV} : n + (ys ++ zs).length = (n + zs.length) + ys.length := by rw [List.length_append]; omega
theorem Yld.fst {all : List PV} {n : Nat} {ys zs : List PV} (h : Yld all n (ys ++ zs)) : Yld all (n + zs.length) ys := by
  obtain ⟨a, b⟩ := h
  rw [len_app] at a b
  refine ⟨a, fun i hi => ?_⟩
  rw [b i (by rw [List.length_append]; omega), List.getElem?_append_left hi]
theorem Yld.snd {all : List PV} {n : Nat} {ys zs : List PV} (h : Yld all n (ys ++ zs)) : Yld all n zs := by
  obtain ⟨a, b⟩ := h
  rw [len_app] at a b
  refine ⟨by omega, fun i hi => ?_⟩
  have := b (ys.length + i) (by rw [List.length_append]; omega)
  rw [List.getElem?_append_right (Nat.le_add_right _ _), Nat.add_sub_cancel_left] at this
  rw [← this, Nat.sub_add_eq _ (n + zs.length) ys.length, ← Nat.add_assoc, Nat.sub_add_cancel (Nat.le_sub_of_add_le (by rw [Nat.add_comm]; exact a))]
noncomputable def KG (p : P5) (N : NI) (g : GC p) (fb : FB) (A : Around) (c : Code) (fs : List Frame) (n : Nat) (K : Flow → Sem Fin) (fl : Fl) (σ' : St) : Prop :=
  ∀ f s₁ s₂ own', FrR p N (fb.pin (g.PS s₁)) g.env σ' own' s₂ → FlR p (FO g.env fb.O₀ own') s₂.heap fl f → Seg (model p.prog p.w) A g.R g.Y n s₁ c (K f) fs s₂
theorem KG.os {p N g fb A c fs n K fl σ' fl₁ σ₁} {ys₁ ys : List PV} {P : List PV → Prop} (e : some (ys₁, fl₁, σ₁) = some (ys, fl, σ')) (k : KG p N g fb A c fs n K fl σ') (h : KG p N g fb A c fs n K fl₁ σ₁ → P ys₁) : P ys := by cases e; exact h k
theorem iG {β : Type} {r : β} {Q : Prop} {x : Option (List PV × Fl × St)} {F G : List PV → St → Option β} {H : List PV → PV → St → Option β} (h : (match x with | some (ys, .next, s) => F ys s | some (ys, .brk, s) => G ys s | some (ys, .ret v, s) => H ys v s | none => none) = some r)
    (k1 : ∀ ys s, x = some (ys, .next, s) → F ys s = some r → Q) (k2 : ∀ ys s, x = some (ys, .brk, s) → G ys s = some r → Q) (k3 : ∀ ys v s, x = some (ys, .ret v, s) → H ys v s = some r → Q) : Q := by
  induction x with
  | none => exact nn h
  | some q => match q, h, k1, k2, k3 with
    | (a, .next, b), h, k1, _, _ => exact k1 _ _ rfl h
    | (a, .brk, b), h, _, k2, _ => exact k2 _ _ rfl h
    | (a, .ret v, b), h, _, _, k3 => exact k3 _ _ _ rfl h
theorem iGp {β : Type} {r : β} {Q : Prop} {x : Option (List PV × Fl × St)} {F : List PV → Fl × St → Option β} (h : (match x with | some (zs, q) => F zs q | none => none) = some r) (k : ∀ zs q, x = some (zs, q) → F zs q = some r → Q) : Q := by
  induction x with
  | none => exact nn h
  | some q => exact k q.1 q.2 rfl h
noncomputable def GOK (p : P5) (N : NI) (st : Stmt) (m : MS) : Prop := ∀ ⦃fuel : Nat⦄ ⦃σ σ' : St⦄ ⦃ys : List PV⦄ ⦃fl : Fl⦄, qT p.Γ fuel σ m = some (ys, fl, σ') → ∀ (g : GC p) ⦃fb : FB⦄ ⦃own : Nat → List Addr⦄ ⦃A : Around⦄ ⦃c : Code⦄ ⦃fs : List Frame⦄ ⦃n : Nat⦄ ⦃s₀ s : Shared⦄
  ⦃K : Flow → Sem Fin⦄ ⦃H : Value → Sem Fin⦄ ⦃gd : Bool → Bool⦄ ⦃lv : List Value → List Value⦄, AOK p.n (A.over c fs) → splitAtGen fs = none → gd false = false → fs.any Frame.guarded = false → FB.Le p g.fb₀ fb → (∀ a, g.Bad a → fb.O₀ a ∧ ∀ o, ¬ fb.Kp a o) →
  FrR p N (fb.pin (g.PS s₀)) g.env σ own s → Yld g.all n ys → KG p N g fb A c fs n K fl σ' →
  Seg (model p.prog p.w) A g.R g.Y (n + ys.length) s₀ c ((exec st g.env).wrap K H gd lv) fs s
noncomputable def GsOK (p : P5) (N : NI) (sts : List Stmt) (ms : List MS) : Prop := ∀ ⦃fuel : Nat⦄ ⦃σ σ' : St⦄ ⦃ys : List PV⦄ ⦃fl : Fl⦄, xQ p.Γ fuel σ ms = some (ys, fl, σ') → ∀ (g : GC p) ⦃fb : FB⦄ ⦃own : Nat → List Addr⦄ ⦃A : Around⦄ ⦃c : Code⦄ ⦃fs : List Frame⦄ ⦃n : Nat⦄ ⦃s₀ s : Shared⦄
  ⦃K : Flow → Sem Fin⦄ ⦃H : Value → Sem Fin⦄ ⦃gd : Bool → Bool⦄ ⦃lv : List Value → List Value⦄, AOK p.n (A.over c fs) → splitAtGen fs = none → gd false = false → fs.any Frame.guarded = false → FB.Le p g.fb₀ fb → (∀ a, g.Bad a → fb.O₀ a ∧ ∀ o, ¬ fb.Kp a o) →
  FrR p N (fb.pin (g.PS s₀)) g.env σ own s → Yld g.all n ys → KG p N g fb A c fs n K fl σ' →
  Seg (model p.prog p.w) A g.R g.Y (n + ys.length) s₀ c ((execs sts g.env).wrap K H gd lv) fs s
section
variable {p : P5} {N Nc : NI} {fb : FB} {env : Env} {σ : St} {own : Nat → List Addr} {s : Shared} {A : Around} {E : Value → Shared → Prop} {prog : Program} {w : World} {O : Addr → Prop}
theorem qG : GsOK p N [] [] := fun {fuel σ σ' ys fl} h g {fb own A c fs n s₀ s K H gd lv} ha hf hg hfg le hb F hn k =>
  KG.os (P := fun ys => Seg (model p.prog p.w) A g.R g.Y (n + ys.length) s₀ c ((execs [] g.env).wrap K H gd lv) fs s) h k fun k => seg_execs_nil (k _ _ _ _ F rfl)
theorem qJ {st sts m ms} (h1 : GOK p N st m) (h2 : GsOK p N sts ms) : GsOK p N (st :: sts) (m :: ms) := fun {fuel σ σ' ys fl} h g {fb own A c fs n s₀ s K H gd lv} ha hf hg hfg le hb F hn k => by
  refine seg_execs_cons (iG h (fun ys₁ σ₁ e1 h => iGp h fun zs r e2 h => ?_) (fun ys₁ σ₁ e1 h => ?_) fun ys₁ v σ₁ e1 h => ?_)
  · cases h
    rw [len_app]
    refine h1 e1 g ha hf hg hfg le hb F hn.fst fun f s₁ s₂ own' F' hfl => ?_
    subst hfl
    exact h2 e2 g ha hf hg hfg le hb F' hn.snd k
  · cases h
    refine h1 e1 g ha hf hg hfg le hb F hn fun f s₁ s₂ own' F' hfl => ?_
    subst hfl
    exact k _ _ _ _ F' rfl
  · cases h
    refine h1 e1 g ha hf hg hfg le hb F hn fun f s₁ s₂ own' F' hfl => ?_
    obtain ⟨V, rfl, hr⟩ := hfl
    exact k _ _ _ _ F' ⟨V, rfl, hr⟩
theorem xM {st m} (h1 : zP p N st m) (hm : ∀ Γ fuel σ, qT Γ fuel σ m = (qN Γ fuel σ m).map fun q => ([], q)) : GOK p N st m := fun {fuel σ σ' ys fl} h g {fb own A c fs n s₀ s K H gd lv} ha hf hg hfg le hb F hn k => by
  rw [hm] at h
  refine imap h fun q h2 h3 => ?_
  cases h3
  exact seg_wrap (h1 h2 ha F fun f s' own' F' hfl w => k f s₀ s' own' F' hfl)
theorem jG {t b c' m mb mc pos} (h1 : TrOK p N t m) (h2 : GsOK p N b mb) (h3 : GsOK p N c' mc) : GOK p N (.If t b c' pos) (.ifs m mb mc) := fun {fuel σ σ' ys fl} h g {fb own A c fs n s₀ s K H gd lv} ha hf hg hfg le hb F hn k => by
  refine seg_If_ (iBool h (fun e1 h => h1 e1 (F.cx ha) fun s1 x1 => ?_) fun e1 h => h1 e1 (F.cx ha) fun s1 x1 => ?_)
  · rw [if_pos rfl]
    exact h2 h g ha hf hg hfg le hb (F.ext x1) hn k
  · rw [if_neg Bool.false_ne_true]
    exact h3 h g ha hf hg hfg le hb (F.ext x1) hn k
theorem FrR.clean (F : FrR p N fb env σ own s) : FrR p N fb env σ (fun k => if (σ k).isSome then own k else []) s := by
  have sub : ∀ k a, a ∈ (if (σ k).isSome then own k else []) → a ∈ own k := fun k a h => by
    split at h
    · exact h
    · cases h
  have nA : ∀ a, NewA env (fun k => if (σ k).isSome then own k else []) a → NewA env own a := fun a n => by
    rcases n with n | n | ⟨k, n⟩
    · exact .inl n
    · exact .inr (.inl n)
    · exact .inr (.inr ⟨k, sub k a n⟩)
  obtain ⟨m, hm, hs⟩ := F.ns
  refine ⟨F.e, F.nodup, F.kinds, F.capart, F.cl, fun k b h => ?_, fun k => ?_, F.top, F.off, F.kp, fun b n => F.new b (nA b n), F.under, F.cells, ⟨m, hm, fun k sv h => ?_⟩, F.gens, F.drawn, F.os⟩
  · obtain ⟨h1, h2, h3⟩ := F.ownA k b (sub k b h)
    exact ⟨h1, h2, fun j hj e => h3 j hj (sub j b e)⟩
  · split
    · exact F.nd k
    · exact List.nodup_nil
  · obtain ⟨x, V, h1, h2, h3⟩ := hs k sv h
    refine ⟨x, V, h1, h2, ?_⟩
    simp only [h, Option.isSome_some, if_true]
    exact h3.keep (fun b o n e => ⟨e, fun q => n (q.imp id (nA b))⟩) fun _ _ _ e => e
theorem list_ne_tup : (Value.type "list" : Value) ≠ .type "tuple" := by decide
theorem FrR.noTup (F : FrR p N fb env σ own s) {k : Nat} {a : Addr} {o : Obj} (hs : (σ k).isSome = true) (ha : a ∈ own k) (he : s.heap.get? a = some o) : o.cls ≠ .type "tuple" := by
  obtain ⟨sv, hsv⟩ := Option.isSome_iff_exists.mp hs
  obtain ⟨m, hm, hsl⟩ := F.ns
  obtain ⟨x, V, h1, h2, h3⟩ := hsl k sv hsv
  cases sv with
  | val v => rw [h3.1] at ha; cases ha
  | ref r => rw [h3.1] at ha; cases ha
  | own l =>
    obtain ⟨b, vs, e1, e2, ⟨n, e3⟩, _⟩ := h3
    rw [e2] at ha
    have : a = b := by simpa using ha
    subst this
    rw [e3] at he; cases he
    exact list_ne_tup
  | own2 ls =>
    obtain ⟨b, bs, e1, e2, ⟨n, e3⟩, e4⟩ := h3
    rw [e2] at ha
    rcases List.mem_cons.mp ha with rfl | ha
    · rw [e3] at he; cases he; exact list_ne_tup
    · have key : ∀ {ls : List (List PV)} {bs : List Addr}, zL p.B.T (FO env fb.O₀ own) s.heap ls bs → a ∈ bs → ∃ vs, s.heap.PlainList a vs := by
        intro ls
        induction ls with
        | nil => intro bs h hb; cases h; cases hb
        | cons l ls ih =>
          rintro bs ⟨c, r, vs, rfl, hp, hq, ho⟩ hb
          rcases List.mem_cons.mp hb with rfl | hb
          · exact ⟨_, hp⟩
          · exact ih ho hb
      obtain ⟨vs, n', e5⟩ := key e4 ha
      rw [e5] at he; cases he; exact list_ne_tup
  | dic d =>
    obtain ⟨b, ks, e1, e2, _, e3, _⟩ := h3
    rw [e2] at ha
    have : a = b := by simpa using ha
    subst this
    obtain ⟨o', e5, e6⟩ := e3.typeIs
    rw [he] at e5; cases e5
    rw [e6]; decide
theorem g_yield {e m q pos} (h1 : yY p N e m) (hco : N.sc.isCoroutine = false) : GOK p N (.Expr (.Yield (some e) q) pos) (.yield m) := fun {fuel σ σ' ys fl} h g {fb own A c fs n s₀ s K H gd lv} ha hf hg hfg le hb F hn k => by
  refine iv1 h fun v hv h => jR h fun ht e => ?_
  cases e
  refine seg_Expr_Yield hf hg hfg (h1 hv (F.cx ha) fun V s1 x1 r1 => fun kap hkap => ?_) (by rw [F.e.scope]; exact hco) (by rw [interactive, F.e.kind]; rfl)
  have F1 := F.ext x1
  have top : ∀ a o, p.h₁.get? a = some o → fb.Kp a o := fun a o e => le.kp a o (le.top a o e)
  have leP : FB.Le p fb (fb.pin (g.PS s₀)) := ⟨fun _ _ k => .inl k, fun _ o => o, rfl, rfl, top⟩
  refine ⟨⟨fun a o q => F1.kp a o (.inr q), F1.gens.trans (by rw [← le.b]; rfl), F1.drawn.trans (by rw [← le.b]; rfl), F1.os.trans (by rw [← le.b]; rfl), fun a q => (F1.new a (q.imp id fun q => .inl q)).2.2⟩, ⟨v, by simpa using hn.hall 0 (by simp), r1.keep fun b o nn e => ⟨e, fun q => nn ?_⟩, ht⟩, fun s'' hc => hkap .none s'' ?_⟩
  · rcases q with q | q
    · exact .inl (le.o b q)
    · exact .inr (q.imp id fun q => .inl q)
  · have F2 : FrR p N fb g.env σ own s'' := (F1.out leP).step (bad := g.Bad) hb hc.keep hc.live hc.gens hc.drawn hc.os
    have F3 := F2.clean
    refine k .next s'' s'' _ (F3.pin fun a o q => ⟨fun nn => ?_, q.2.1⟩) rfl
    obtain ⟨q1, q2, q3⟩ := q
    rcases q3 with ⟨o', q3⟩ | q3 | q3
    · exact (F3.new a nn).1 o' (le.kp a o' q3)
    · exact (F3.new a nn).2.1 (le.o a q3)
    · rcases nn with nn | nn | ⟨k, nn⟩
      · exact q1 (.inl nn)
      · exact q1 (.inr nn)
      · by_cases hs : (σ k).isSome = true
        · exact F3.noTup hs nn q2 q3
        · simp [hs] at nn
end
end Mine
end
section
open PySem PySem.W PyProof.Rows PySem.SeqAt PySem.Calls
namespace Mine
section
variable {p : P5} {N Nc : NI} {fb : FB} {env : Env} {σ : St} {own : Nat → List Addr} {s : Shared} {A : Around} {E : Value → Shared → Prop} {prog : Program} {w : World} {O : Addr → Prop}
theorem aok_for {n : Nat} {c : Code} {fs : List Frame} {t : Expr} {it : Value} {b o : List Stmt} {k : Result → Sem Fin} {g l q} (h : AOK n (A.over c fs)) : AOK n (A.over (.forLoop t it b o env) (.ret k none g l c q [] :: fs)) := by
  refine ⟨h.handled, ?_, ?_⟩
  · have := h.depth
    simp only [Around.over, List.map_cons, Frame.where_, frameCount_cons] at this ⊢
    have e : (Code.forLoop t it b o env).weight = 0 := rfl
    omega
  · have := h.units
    simp only [Around.over, List.map_cons, Frame.where_, unitsOf_cons] at this ⊢
    have e : (Code.forLoop t it b o env).cUnits = 0 := rfl
    omega
theorem gforB {β : Type} {r : List PV × Fl × St} {Q : Prop} {body : St → Option (List PV × Fl × St)} {bind : PV → St → Option St} {x : PV} {xs : List PV} {σ : St} (h : gfor body bind (x :: xs) σ = some r)
    (k : ∀ σ₁, bind x σ = some σ₁ → (match body σ₁ with | some (ys, .next, σ₂) => (match gfor body bind xs σ₂ with | some (zs, r) => some (ys ++ zs, r) | none => none) | some (ys, .brk, σ₂) => some (ys, .next, σ₂) | some (ys, .ret v, σ₂) => some (ys, .ret v, σ₂) | none => none) = some r → Q) : Q := by
  have h' : (match bind x σ with | some σ₁ => (match body σ₁ with | some (ys, .next, σ₂) => (match gfor body bind xs σ₂ with | some (zs, r) => some (ys ++ zs, r) | none => none) | some (ys, .brk, σ₂) => some (ys, .next, σ₂) | some (ys, .ret v, σ₂) => some (ys, .ret v, σ₂) | none => none) | none => none) = some r := h
  clear h
  revert h' k
  cases bind x σ with
  | none => exact fun _ h => nn h
  | some v => exact fun k h => k v rfl h
theorem g_loop {target : Expr} {body : List Stmt} {mb : List MS} {is : List Nat} {fuel : Nat} (ht : TgtOK p N target is) (hb : GsOK p N body mb) (g : GC p) {A : Around} {c : Code} {fs : List Frame} {K : Flow → Sem Fin} {H : Value → Sem Fin} {gd : Bool → Bool} {lv : List Value → List Value} {q : Pos}
    (ha : AOK p.n (A.over c fs)) (hf : splitAtGen fs = none) (hg : gd false = false) (hfg : fs.any Frame.guarded = false) (le : FB.Le p g.fb₀ fb) (hbad : ∀ a, g.Bad a → fb.O₀ a ∧ ∀ o, ¬ fb.Kp a o)
    {s1 : Shared} {xs : List PV} {vs : List Value} {ax : Addr} {np : Nat} {own₁ : Nat → List Addr} (hno : ¬ FO g.env fb.O₀ own₁ ax) (hpl : s1.heap.get? ax = some { cls := .type "list", data := .seq vs.toArray np }) (hq : yX p.B.T (FO g.env fb.O₀ own₁) s1.heap xs vs)
    (hI0 : ¬ fb.O₀ s1.heap.objs.size) (hIk : ∀ o, ¬ fb.Kp s1.heap.objs.size o) (hIb : ¬ g.Bad s1.heap.objs.size) (topF : ∀ a o, p.h₁.get? a = some o → fb.Kp a o) {fl : Fl} {σ' : St}
    {n : Nat} (k : KG p N g fb A c fs n K fl σ') :
    ∀ (l : List PV) (i : Nat) (σ : St) (own : Nat → List Addr) (s s₀ : Shared) (ys : List PV), xs.drop i = l → gfor (fun σ => xQ p.Γ fuel σ mb) (xK is) l σ = some (ys, fl, σ') →
      FrR p N (((fb.pin fun b o => ¬ FO g.env fb.O₀ own₁ b ∧ s1.heap.get? b = some o).hide (· = s1.heap.objs.size)).pin (g.PS s₀)) g.env σ own s → s.heap.IsListIter s1.heap.objs.size ax i → Yld g.all n ys →
      Seg (model p.prog p.w) A g.R g.Y (n + ys.length) s₀ (.forLoop target (.ref s1.heap.objs.size) body [] g.env) ((model p.prog p.w).den (.forLoop target (.ref s1.heap.objs.size) body [] g.env)) (.ret (afterRun g.env K H gd lv) none (gd false) (lv []) c q [] :: fs) s := by
  have ha' : AOK p.n (A.over (.forLoop target (.ref s1.heap.objs.size) body [] g.env) (.ret (afterRun g.env K H gd lv) none (gd false) (lv []) c q [] :: fs)) := aok_for ha
  have hf' : splitAtGen (.ret (afterRun g.env K H gd lv) none (gd false) (lv []) c q [] :: fs) = none := by simp [splitAtGen, hf]
  have hfg' : (Frame.ret (afterRun g.env K H gd lv) none (gd false) (lv []) c q [] :: fs).any Frame.guarded = false := by simp only [List.any_cons, hfg, Bool.or_false]; exact hg
  let PP : Addr → Obj → Prop := fun b o => ¬ FO g.env fb.O₀ own₁ b ∧ s1.heap.get? b = some o
  let fbL : FB := (fb.pin PP).hide (· = s1.heap.objs.size)
  have leL : FB.Le p fb fbL := ⟨fun _ _ k => Or.inl k, fun _ o => Or.inl o, rfl, rfl, topF⟩
  have hIPP : ∀ o, ¬ PP s1.heap.objs.size o := fun o q => by have := q.2; rw [yM] at this; cases this
  have hI0' : ¬ g.fb₀.O₀ s1.heap.objs.size := fun q => hI0 (le.o _ q)
  have hbadL : ∀ a, g.Bad a → fbL.O₀ a ∧ ∀ o, ¬ fbL.Kp a o := fun a q => ⟨Or.inl (hbad a q).1, fun o r => Or.elim r ((hbad a q).2 o) fun r => r.1 (Or.inl (hbad a q).1)⟩
  have hList : ∀ {σ : St} {own : Nat → List Addr} {s s₀ : Shared}, FrR p N (fbL.pin (g.PS s₀)) g.env σ own s → s.heap.IsList ax vs.toArray := fun F => ⟨_, F.kp ax _ (Or.inl (Or.inr ⟨hno, hpl⟩)), rfl, np, rfl⟩
  have hPS : ∀ {σ : St} {own : Nat → List Addr} {s s₀ : Shared} {i : Nat}, FrR p N (fbL.pin (g.PS s₀)) g.env σ own s → s.heap.IsListIter s1.heap.objs.size ax i → ∀ o, ¬ (fbL.pin (g.PS s₀)).Kp s1.heap.objs.size o := fun {σ own s s₀ i} F hI o r => by
    have e := F.kp _ _ r
    rcases r with r | r
    · rcases r with r | r
      · exact hIk o r
      · exact hIPP o r
    · obtain ⟨_, _, r3⟩ := r
      rcases r3 with ⟨o', r3⟩ | r3 | r3
      · exact hIk o' (le.kp _ _ r3)
      · exact hI0' r3
      · obtain ⟨o2, e2, e3, _⟩ := hI
        have : o2 = o := Option.some.inj (e2.symm.trans e)
        subst this
        rw [e3] at r3
        exact absurd r3 (by decide)
  intro l
  induction l with
  | nil =>
    intro i σ own s s₀ ys hl h F hI hn
    cases h
    have hi : vs.toArray[i]? = none := by
      have h1 : xs.length ≤ i := by
        have := congrArg List.length hl
        simp at this; omega
      simp; rw [hq.length]; exact h1
    refine seg_forLoop_ (wpAny_pyNext_list_end ha'.handled hI (hList F) hi fun h' he => ?_)
    refine seg_leaf (.ok .next) ?_
    rw [afterRun_ok]
    have leN : FB.Le p (fb.pin (g.PS s₀)) (fbL.pin (g.PS s₀)) := ⟨fun b o q => Or.elim q (fun q => Or.inl (Or.inl q)) fun q => Or.inr q, fun b q => Or.inl q, rfl, rfl, fun a o e => Or.inl (topF a o e)⟩
    refine k .next s₀ _ own (FrR.leave leN F (bad := (· = s1.heap.objs.size)) (fun b q => ?_) (fun b o q e => he b o q e) rfl rfl rfl) rfl
    subst q
    refine ⟨Or.inr rfl, hI0, fun o r => hPS F hI o ?_⟩
    rcases r with r | r
    · exact Or.inl (Or.inl r)
    · exact Or.inr r
  | cons x l ih =>
    intro i σ own s s₀ ys hl h F hI hn
    have hi : xs[i]? = some x := by
      have := congrArg (·[0]?) hl
      simpa using this
    have hl' : xs.drop (i + 1) = l := by
      have := congrArg List.tail hl
      simpa using this
    obtain ⟨V, hV, hrV⟩ := hq.get hi
    refine gforB (β := PV) h fun σ₁ hbind h => ?_
    refine seg_forLoop_ (wpAny_pyNext_list_item hI (hList F) (x := V) (by simpa using hV) fun h₁ hI₁ hsb => letGo_listiter hI₁ ?_)
    have hnb : ∀ a, a = s1.heap.objs.size → (fbL.pin (g.PS s₀)).O₀ a ∧ ∀ o, ¬ (fbL.pin (g.PS s₀)).Kp a o := fun a q => by subst q; exact ⟨Or.inr rfl, hPS F hI⟩
    have F1 : FrR p N (fbL.pin (g.PS s₀)) g.env σ own { s with heap := h₁ } := F.step (bad := (· = s1.heap.objs.size)) hnb (fun b o q e => hsb.extBut b o q e) (fun a q => by subst q; exact let ⟨o, e, _⟩ := hI₁; ⟨o, e⟩) rfl rfl rfl
    let fbt : FB := fbL.pin fun b o => b = s1.heap.objs.size ∧ h₁.get? b = some o
    let QQ : Addr → Obj → Prop := fun b o => b = s1.heap.objs.size ∧ h₁.get? b = some o
    have leA : FB.Le p (fbt.pin (g.PS s₀)) ((fbL.pin (g.PS s₀)).pin QQ) := ⟨fun b o q => by
        rcases q with (q | q) | q
        · exact Or.inl (Or.inl q)
        · exact Or.inr q
        · exact Or.inl (Or.inr q), fun _ q => q, rfl, rfl, fun a o e => Or.inl (Or.inl (Or.inl (topF a o e)))⟩
    have F2 : FrR p N (fbt.pin (g.PS s₀)) g.env σ own { s with heap := h₁ } := FrR.out leA (F1.pin (P := QQ) fun b o q => ⟨fun nn => (F1.new b nn).2.1 (Or.inr q.1), q.2⟩)
    have K0 : jN (FO g.env fb.O₀ own₁) s1.heap (FO g.env (fbt.pin (g.PS s₀)).O₀ own) h₁ := F2.pinned (s := { s with heap := h₁ }) (fun b o nn e => Or.inl (Or.inl (Or.inr ⟨nn, e⟩))) fun b o e q => by
      rcases q with q | q
      · exact q
      · rw [show b = s1.heap.objs.size from q, yM] at e; cases e
    refine ht ha' hbind (hrV.keep K0) F2 fun s₃ own₃ F3 w3 => ?_
    have let3 : FB.Le p g.fb₀ fbt := ⟨fun b o q => Or.inl (Or.inl (le.kp b o q)), fun b q => Or.inl (le.o b q), le.b, le.rf, le.top⟩
    have hbadt : ∀ a, g.Bad a → fbt.O₀ a ∧ ∀ o, ¬ fbt.Kp a o := fun a q => ⟨(hbadL a q).1, fun o r => Or.elim r ((hbadL a q).2 o) fun r => hIb (r.1 ▸ q)⟩
    have outL : ∀ {σ : St} {own : Nat → List Addr} {s s₁ : Shared}, FrR p N (fbt.pin (g.PS s₁)) g.env σ own s → FrR p N (fbL.pin (g.PS s₁)) g.env σ own s := fun {σ own s s₁} F => by
      have le : FB.Le p (fbL.pin (g.PS s₁)) (fbt.pin (g.PS s₁)) := ⟨fun b o q => Or.elim q (fun q => Or.inl (Or.inl q)) fun q => Or.inr q, fun _ q => q, rfl, rfl, fun a o e => Or.inl (Or.inl (topF a o e))⟩
      exact FrR.out le F
    have outF : ∀ {σ : St} {own : Nat → List Addr} {s s₁ : Shared}, FrR p N (fbt.pin (g.PS s₁)) g.env σ own s → FrR p N (fb.pin (g.PS s₁)) g.env σ own s := fun {σ own s s₁} F => by
      have le : FB.Le p (fb.pin (g.PS s₁)) (fbt.pin (g.PS s₁)) := ⟨fun b o q => Or.elim q (fun q => Or.inl (Or.inl (Or.inl q))) fun q => Or.inr q, fun _ q => Or.inl q, rfl, rfl, fun a o e => Or.inl (topF a o e)⟩
      exact FrR.out le F
    have iter : ∀ {σ : St} {own : Nat → List Addr} {s s₁ : Shared}, FrR p N (fbt.pin (g.PS s₁)) g.env σ own s → s.heap.IsListIter s1.heap.objs.size ax (i + 1) := fun {σ own s s₁} F => let ⟨o, e, r⟩ := hI₁; ⟨o, F.kp _ _ (Or.inl (Or.inr ⟨rfl, e⟩)), r⟩
    refine iG h (fun ys₁ σ₂ hbody h => iGp h fun zs r hrest h => ?_) (fun ys₁ σ₂ hbody h => ?_) fun ys₁ v σ₂ hbody h => ?_
    · cases h
      rw [len_app]
      refine hb hbody g ha' hf' rfl hfg' let3 hbadt F3 hn.fst fun f s₁ s₂ own' F' hfl => ?_
      subst hfl
      exact seg_again rfl (ih (i + 1) σ₂ own' s₂ s₁ zs hl' hrest (outL F') (iter F') hn.snd)
    · cases h
      refine hb hbody g ha' hf' rfl hfg' let3 hbadt F3 hn fun f s₁ s₂ own' F' hfl => ?_
      subst hfl
      refine seg_leaf (.ok .next) ?_
      rw [afterRun_ok]
      exact k .next s₁ s₂ own' (outF F') rfl
    · cases h
      refine hb hbody g ha' hf' rfl hfg' let3 hbadt F3 hn fun f s₁ s₂ own' F' hfl => ?_
      obtain ⟨V', rfl, hr⟩ := hfl
      refine seg_leaf (.ok (.ret V')) ?_
      rw [afterRun_ok]
      exact k _ s₁ s₂ own' (outF F') ⟨V', rfl, hr.keep fun b o nn e => ⟨e, fun q => nn (Or.imp Or.inl id q)⟩⟩
end
end Mine
end
section
open PySem PySem.W PyProof.Rows PySem.SeqAt PySem.Calls
namespace Mine
section
variable {p : P5} {N Nc : NI} {fb : FB} {env : Env} {σ : St} {own : Nat → List Addr} {s : Shared} {A : Around} {E : Value → Shared → Prop} {prog : Program} {w : World} {O : Addr → Prop}
theorem g_forL {target e m body mb pos} (h1 : yY p N e m) {is : List Nat} (ht : TgtOK p N target is) (hb : GsOK p N body mb) (hs : ∀ env x, foldedSetIterable e env x = pure x) :
    GOK p N (.For target e body [] pos) (.forL is m mb) := fun {fuel σ σ' ys fl} h g {fb own A c fs n s₀ s K H gd lv} ha hf hg hfg le hbad F hn k => by
  refine ivL h fun l hl h => ivLst hl fun l' hv hl => jR hl fun hsz e => ?_
  subst e
  have topF : ∀ a o, p.h₁.get? a = some o → fb.Kp a o := fun a o e => le.kp a o (le.top a o e)
  refine seg_For_ (h1 hv (F.cx ha) fun V s1 x1 r1 => ?_) (hs _)
  obtain ⟨ax, vs, rfl, hno, hpl, hq⟩ := r1
  refine wpAny_pyIter_list hpl.isList fun q => ?_
  obtain ⟨np, hpl'⟩ := id hpl
  have F1 := F.ext x1
  have x2 := Ext.push s1 { cls := .type "list_iterator", data := .fields #[.ref ax, .int 0 0] } s1.toks
  have hI : (s1.heap.push { cls := .type "list_iterator", data := .fields #[.ref ax, .int 0 0] }).IsListIter s1.heap.objs.size ax 0 := ⟨_, Heap.get?_push_size _ rfl, rfl, rfl⟩
  let PP : Addr → Obj → Prop := fun b o => ¬ FO g.env fb.O₀ own b ∧ s1.heap.get? b = some o
  have F2 : FrR p N ((fb.pin (g.PS s₀)).pin PP) g.env σ own s1 := F1.pin (P := PP) fun b o q => ⟨fun nn => q.1 (Or.inr nn), q.2⟩
  have F3 := F2.hide x2 (P := (· = s1.heap.objs.size)) fun b hb => by subst hb; exact ⟨yM _, let ⟨o, e, _⟩ := hI; ⟨o, e⟩⟩
  have leA : FB.Le p (((fb.pin PP).hide (· = s1.heap.objs.size)).pin (g.PS s₀)) (((fb.pin (g.PS s₀)).pin PP).hide (· = s1.heap.objs.size)) := ⟨fun b o q => by
    rcases q with (q | q) | q
    · exact Or.inl (Or.inl q)
    · exact Or.inr q
    · exact Or.inl (Or.inr q), fun _ q => q, rfl, rfl, fun a o e => Or.inl (Or.inl (topF a o e))⟩
  have F4 := FrR.out leA F3
  have hI0 : ¬ fb.O₀ s1.heap.objs.size := fun q => by
    obtain ⟨o, e⟩ := F1.under _ q
    rw [yM] at e; cases e
  have hIk : ∀ o, ¬ fb.Kp s1.heap.objs.size o := fun o q => by
    have := F1.kp _ _ (Or.inl q)
    rw [yM] at this; cases this
  exact g_loop ht hb g ha hf hg hfg le hbad hno hpl' hq hI0 hIk (fun q => hI0 (hbad _ q).1) topF k _ 0 σ own _ s₀ ys (by simp) h F4 hI hn
end
end Mine
end
section
open PySem PySem.W PyProof.Rows PySem.SeqAt PySem.Calls
namespace Mine
noncomputable def xD (args : List PV) : St := fun i => (args[i]?).map .val
noncomputable def fbIn (s : Shared) (O : Addr → Prop) : FB := { Kp := fun a o => s.heap.get? a = some o, O₀ := O, b := s, rf := fun _ => 0 }
noncomputable def fnChk (N : NI) (np : Nat) : Bool :=
  decide (N.sc.kind = .function) && !N.sc.isCoroutine && N.slots.Nodup && N.slots.all (fun x => N.sc.names.lookup x == some .local || N.sc.names.lookup x == some .cell) &&
  N.gl.all (fun x => N.sc.names.lookup x == some .globalImplicit) && N.sc.names.all (fun y => y.1 != ("__classdict__" : Str)) && decide (np ≤ N.slots.length)
structure FnOK (p : P5) (N : NI) (a : Addr) (fd : FuncData) (body : List Stmt) (np : Nat) : Prop where
  obj : ∃ o, p.h₁.get? a = some o ∧ o.data = .func fd
  code : p.h₁.CodeRec fd.code fd.qualname
  body : fd.body = .stmts body
  clo : fd.closure = []
  sc : fd.scope = N.sc
  glob : fd.globals = mainGlobals
  blt : fd.builtins = builtinsNs
  bind : ∀ Vs : List Value, Vs.length = np → bindArgs fd ⟨Vs, []⟩ = pure ((N.slots.take np).zip Vs)
  chk : fnChk N np = true
theorem cells_some : ∀ {l : List (Str × NameKind)} {n : Nat} {acc : List (Str × Addr)} {x : Str}, (x, NameKind.cell) ∈ l ∨ (∃ c, (x, c) ∈ acc) → ∃ c, (x, c) ∈ cellsFrom n l acc
  | [], n, acc, x, h => by
    rcases h with h | h
    · cases h
    · unfold cellsFrom; exact h
  | (m, k) :: l, n, acc, x, h => by
    unfold cellsFrom
    by_cases hk : k = .cell
    · subst hk
      simp only [BEq.rfl, if_true]
      refine cells_some ?_
      rcases h with h | ⟨c, h⟩
      · rcases List.mem_cons.mp h with h | h
        · cases h; exact .inr ⟨_, .head _⟩
        · exact .inl h
      · exact .inr ⟨c, .tail _ h⟩
    · have hb : (k == NameKind.cell) = false := by simpa using hk
      simp only [hb, Bool.false_eq_true, if_false]
      refine cells_some ?_
      rcases h with h | ⟨c, h⟩
      · rcases List.mem_cons.mp h with h | h
        · cases h; exact absurd rfl hk
        · exact .inl h
      · exact .inr ⟨c, h⟩
theorem lookup_of_mem {β : Type} {l : List (Str × β)} {x : Str} {c : β} (h : (x, c) ∈ l) : ∃ c', l.lookup x = some c' := by
  induction l with
  | nil => cases h
  | cons q l ih =>
    obtain ⟨a, b⟩ := q
    rw [List.lookup_cons]
    rcases List.mem_cons.mp h with h | h
    · cases h; exact ⟨c, by simp⟩
    · split
      · exact ⟨_, rfl⟩
      · exact ih h
theorem cells_lookup {l : List (Str × NameKind)} {n : Nat} {x : Str} (h : l.lookup x = some .cell) : ∃ c, (cellsFrom n l []).lookup x = some c := by
  obtain ⟨c, hc⟩ := cells_some (n := n) (acc := []) (.inl (mem_of_lookup h))
  exact lookup_of_mem hc
theorem bindL_other {K : Str → Option NameKind} {x : Str} : ∀ {l : List (Str × Value)} {m : Str → Option Value}, x ∉ l.map (·.1) → bindL K l m x = m x
  | [], m, _ => rfl
  | (n, v) :: l, m, h => by
    unfold bindL
    simp only [List.map_cons, List.mem_cons, not_or] at h
    rw [bindL_other h.2]
    split
    · simp [h.1]
    · rfl
theorem bindC_other {K : Str → Option NameKind} {x : Str} : ∀ {l : List (Str × Value)} {m : Str → Option Value}, x ∉ l.map (·.1) → bindC K l m x = m x
  | [], m, _ => rfl
  | (n, v) :: l, m, h => by
    unfold bindC
    simp only [List.map_cons, List.mem_cons, not_or] at h
    rw [bindC_other h.2]
    split
    · rfl
    · simp [h.1]
theorem bindL_get {K : Str → Option NameKind} {x : Str} {v : Value} (hK : K x = some .local) : ∀ {l : List (Str × Value)} {m : Str → Option Value}, (l.map (·.1)).Nodup → (x, v) ∈ l → bindL K l m x = some v
  | [], m, _, h => by cases h
  | (n, u) :: l, m, hd, h => by
    unfold bindL
    obtain ⟨d1, d2⟩ := List.nodup_cons.mp hd
    rcases List.mem_cons.mp h with h | h
    · cases h
      rw [bindL_other d1, if_pos hK]; simp
    · exact bindL_get hK d2 h
theorem bindC_get {K : Str → Option NameKind} {x : Str} {v : Value} (hK : ¬ K x = some .local) : ∀ {l : List (Str × Value)} {m : Str → Option Value}, (l.map (·.1)).Nodup → (x, v) ∈ l → bindC K l m x = some v
  | [], m, _, h => by cases h
  | (n, u) :: l, m, hd, h => by
    unfold bindC
    obtain ⟨d1, d2⟩ := List.nodup_cons.mp hd
    rcases List.mem_cons.mp h with h | h
    · cases h
      rw [bindC_other d1, if_neg hK]; simp
    · exact bindC_get hK d2 h
section
variable {p : P5} {N : NI} {a : Addr} {fd : FuncData} {body : List Stmt} {np : Nat}
theorem FnOK.parts (F : FnOK p N a fd body np) : N.sc.kind = .function ∧ N.sc.isCoroutine = false ∧ N.slots.Nodup ∧ (∀ x, x ∈ N.slots → N.sc.names.lookup x = some .local ∨ N.sc.names.lookup x = some .cell) ∧ (∀ x, x ∈ N.gl → N.sc.names.lookup x = some .globalImplicit) ∧
    (∀ y k, N.sc.names.lookup y = some k → (y == ("__classdict__" : Str)) = false) ∧ np ≤ N.slots.length := by
  have h := F.chk
  simp only [fnChk, Bool.and_eq_true] at h
  obtain ⟨⟨⟨⟨⟨⟨h1, h2⟩, h3⟩, h4⟩, h5⟩, h6⟩, h7⟩ := h
  rw [List.all_eq_true] at h4 h5 h6
  refine ⟨of_decide_eq_true h1, by simpa using h2, of_decide_eq_true h3, fun x hx => ?_, fun x hx => eq_of_beq (h5 x hx), fun y k e => ?_, of_decide_eq_true h7⟩
  · have := h4 x hx
    rw [Bool.or_eq_true] at this
    exact this.imp eq_of_beq eq_of_beq
  · have := h6 _ (mem_of_lookup e)
    simpa using this
theorem FnOK.env (F : FnOK p N a fd body np) (L : Addr) : EnvOK (callEnvC fd L a) N p.h₁ := by
  obtain ⟨k1, k2, k3, k4, k5, k6, k7⟩ := F.parts
  refine ⟨?_, F.sc, by show fd.scope.kind = _; rw [F.sc]; exact k1, F.glob, F.blt, fun x hx => by show fd.scope.names.lookup x = _; rw [F.sc]; exact k5 x hx, fun y hy => k6 y _ (by rw [← F.sc]; exact hy)⟩
  obtain ⟨c, o, vs, t, e1, e2, e3, e4⟩ := F.code
  exact ⟨c, o, vs, e1, e2, e3⟩
theorem FnOK.enter (F : FnOK p N a fd body np) {s s₁ : Shared} {O : Addr → Prop} {args : List PV} {Vs : List Value} (hk : Keeps p.h₁ s.heap) (hu : jM O s.heap) (ho : Off O p.h₁) (hr : yX p.B.T O s.heap args Vs) (hlen : args.length = np)
    (x : InCallC s (callEnvC fd s.heap.objs.size a).locals (bindL (callEnvC fd s.heap.objs.size a).kindOf ((N.slots.take np).zip Vs) fun _ => none) (callEnvC fd s.heap.objs.size a).cells (bindC (callEnvC fd s.heap.objs.size a).kindOf ((N.slots.take np).zip Vs) fun _ => none) s₁) :
    FrR p N (fbIn s O) (callEnvC fd s.heap.objs.size a) (xD args) (fun _ => []) s₁ := by
  obtain ⟨k1, k2, k3, k4, k5, k6, k7⟩ := F.parts
  have hkind : ∀ y, (callEnvC fd s.heap.objs.size a).kindOf y = N.sc.names.lookup y := fun y => by show fd.scope.names.lookup y = _; rw [F.sc]
  obtain ⟨h₁, tk, rfl⟩ := x.toInCall.same
  have cellUp : ∀ y c, (callEnvC fd s.heap.objs.size a).cells.lookup y = some c → s.heap.objs.size < c := fun y c h => x.above y c (mem_of_lookup h)
  have none_of : ∀ b, s.heap.objs.size ≤ b → s.heap.get? b = none := fun b hb => by
    cases e : s.heap.get? b with
    | none => rfl
    | some o => exact absurd (Heap.lt_size e) (Nat.not_lt.mpr hb)
  have new : ∀ b, NewA (callEnvC fd s.heap.objs.size a) (fun _ => []) b → s.heap.get? b = none ∧ ∃ o, h₁.get? b = some o := fun b n => by
    rcases n with n | ⟨y, n⟩ | ⟨i, n⟩
    · subst n
      obtain ⟨o, _, _, e, _⟩ := x.toInCall.ns
      exact ⟨none_of _ (Nat.le_refl _), o, e⟩
    · obtain ⟨o, e, _⟩ := x.cell y b n
      exact ⟨none_of _ (Nat.le_of_lt (cellUp y b n)), o, e⟩
    · cases n
  have hVl : Vs.length = args.length := hr.length
  have hzl : ((N.slots.take np).zip Vs).map (·.1) = N.slots.take np := by
    rw [List.map_fst_zip]
    simp; omega
  have hnd : (((N.slots.take np).zip Vs).map (·.1)).Nodup := by rw [hzl]; exact List.Pairwise.sublist (List.take_sublist _ _) k3
  refine ⟨F.env _, k3, fun y hy => ?_, fun y z c h1 h2 => name_of_addr x.apart (mem_of_lookup h1) (mem_of_lookup h2), fun y h => Nat.lt_irrefl _ (cellUp y _ h), fun i b h => (by cases h), fun i => List.nodup_nil, hk, ho, fun b o e => x.toInCall.keep b o e,
    fun b n => ⟨fun o e => (by have := (new b n).1; rw [show s.heap.get? b = some o from e] at this; cases this), fun q => ?_, (new b n).2⟩, fun b q => ?_, fun y c h => ⟨_, x.cell y c h⟩, ⟨_, x.toInCall.ns, fun i sv h => ?_⟩, rfl, rfl, rfl⟩
  · rw [hkind y]
    rcases k4 y hy with h | h
    · exact .inl h
    · refine .inr ⟨h, ?_⟩
      show ∃ c, (cellsFrom (s.heap.objs.size + 1) fd.scope.names []).lookup y = some c
      rw [F.sc]; exact cells_lookup h
  · obtain ⟨o, e⟩ := hu b q
    rw [(new b n).1] at e; cases e
  · obtain ⟨o, e⟩ := hu b q
    exact ⟨o, x.toInCall.keep b o e⟩
  · unfold xD at h
    obtain ⟨v, hv, rfl⟩ := Option.map_eq_some_iff.mp h
    obtain ⟨V, hV, hrV⟩ := hr.get hv
    have hi : i < args.length := (List.getElem?_eq_some_iff.mp hv).1
    have hsl : N.slots[i]? = some (N.slots[i]'(by omega)) := List.getElem?_eq_getElem (by omega)
    generalize N.slots[i]'(by omega) = y at hsl
    have hmem : (y, V) ∈ (N.slots.take np).zip Vs := by
      refine List.mem_iff_getElem?.mpr ⟨i, ?_⟩
      rw [List.getElem?_zip_eq_some]
      exact ⟨by rw [List.getElem?_take_of_lt (by omega)]; exact hsl, hV⟩
    refine ⟨y, V, hsl, ?_, rfl, hrV.keep fun b o n e => ⟨x.toInCall.keep b o e, fun q => ?_⟩⟩
    · rcases k4 y (List.mem_of_getElem? hsl) with h | h
      · exact .inl ⟨by rw [hkind]; exact h, bindL_get (by rw [hkind]; exact h) hnd hmem⟩
      · have hc : ∃ c, (callEnvC fd s.heap.objs.size a).cells.lookup y = some c := by
          show ∃ c, (cellsFrom (s.heap.objs.size + 1) fd.scope.names []).lookup y = some c
          rw [F.sc]; exact cells_lookup h
        obtain ⟨c, hc⟩ := hc
        refine .inr ⟨by rw [hkind]; exact h, c, hc, ?_⟩
        have := x.cell y c hc
        rwa [bindC_get (by rw [hkind, h]; simp) hnd hmem] at this
    · rcases q with q | q
      · exact n q
      · rw [(new b q).1] at e; cases e
end
end Mine
end
section
open PySem PySem.W PyProof.Rows PySem.SeqAt PySem.Calls
namespace Mine
noncomputable def zF (prog : Program) (w : World) (B : Tbl) (h₁ : Heap) (n : Nat) (a : Addr) (g : List PV → Option PV) : Prop :=
  ∀ args r, g args = some r → ∀ {A : Around} {E : Value → Shared → Prop} {s : Shared} {Q : Value → Shared → Prop} {O : Addr → Prop} {Vs : List Value},
    AOK n A → Keeps h₁ s.heap → jM O s.heap → Off O h₁ → yX B.T O s.heap args Vs →
    (∀ V s', Ext s s' → Rep B.T O s'.heap r V → Q V s') → wpAny (model prog w) A (call (.ref a) Vs) Q E s
noncomputable def jH (Γ : xB) (fuel np : Nat) (ms : List MS) (args : List PV) : Option PV := if args.length = np then (match qP Γ fuel (xD args) ms with | some (.ret v, _) => some v | some (.next, _) => some .none | z_ => none) else none
section
variable {p : P5} {N : NI} {a : Addr} {fd : FuncData} {body : List Stmt} {np : Nat}
theorem aok_deeper {n : Nat} {A : Around} {env : Env} (h : AOK (n + 1) A) : AOK n (A.deeper env) := ⟨h.handled, by have := h.depth; show A.depth + 1 + _ < _; omega, by have := h.units; show A.units + _ + _ < _; omega⟩
theorem FnOK.kinds (F : FnOK p N a fd body np) {Vs : List Value} {L : Nat} : ∀ x ∈ (N.slots.take np).zip Vs, fd.scope.names.lookup x.1 = some .local ∨ (fd.scope.names.lookup x.1 = some .cell ∧ ((cellsFrom (L + 1) fd.scope.names []).lookup x.1).isSome = true) := fun x hx => by
  obtain ⟨k1, k2, k3, k4, k5, k6, k7⟩ := F.parts
  have hm : x.1 ∈ N.slots := List.mem_of_mem_take (List.of_mem_zip hx).1
  rw [F.sc]
  rcases k4 _ hm with h | h
  · exact .inl h
  · obtain ⟨c, hc⟩ := cells_lookup (n := L + 1) h
    exact .inr ⟨h, by rw [hc]; rfl⟩
theorem fn_spec (F : FnOK p N a fd body np) (P : p.Ok) {ms : List MS} (hb : zS p N body ms) (hgen : N.sc.isGenerator = false) (fuel : Nat) : zF p.prog p.w p.B p.h₁ (p.n + 1) a (jH p.Γ fuel np ms) := by
  intro args r h A E s Q O Vs ha hk hu ho hr k
  obtain ⟨k1, k2, k3, k4, k5, k6, k7⟩ := F.parts
  unfold jH at h
  refine iteO h fun hlen h => ?_
  obtain ⟨o, h1, h2⟩ := F.obj
  have hdep := ha.depth
  refine wpAny_call (codeAny_call_cells (by show A.depth < 1000; omega) (hk _ _ h1) h2 (P.bs.nolimit.keeps hk) (F.code.keeps hk) F.body (F.bind Vs (by rw [hr.length, hlen])) F.clo F.kinds (fun s₁ x => ?_) (by rw [F.sc]; exact k2) (by rw [F.sc]; exact hgen) (by rw [F.sc]; exact k1))
  have FR := F.enter hk hu ho hr hlen x
  have fin : ∀ {σ' : St} {own' : Nat → List Addr} {s' : Shared}, FrR p N (fbIn s O) (callEnvC fd s.heap.objs.size a) σ' own' s' → Ext s s' := fun {σ' own' s'} F' => ⟨fun b o e => F'.kp b o e, F'.gens, F'.drawn, F'.os⟩
  cases he : qP p.Γ fuel (xD args) ms with
  | none => rw [he] at h; exact nn h
  | some q =>
    rw [he] at h
    match q, he, h with
    | (.ret v, σ'), he, h =>
      obtain rfl := Option.some.inj h
      refine hb he (aok_deeper ha) FR fun f s' own' F' hf _ => ?_
      obtain ⟨V, rfl, hV⟩ := hf
      exact k V s' (fin F') (hV.keep fun b o n e => ⟨e, fun q => n (.inl q)⟩)
    | (.next, σ'), he, h =>
      obtain rfl := Option.some.inj h
      refine hb he (aok_deeper ha) FR fun f s' own' F' hf _ => ?_
      subst hf
      exact k .none s' (fin F') rfl
end
section
variable {p : P5} {N : NI}
theorem evf_lst {es as q} (h1 : EvsOK p N es as) : EvF p N (.List es q) (.lst as) := fun {σ l env O A s E Q} h c k => by
  refine ivL h fun l' e1 h => jR h fun hl e => ?_
  obtain rfl := PV.lst.inj e
  refine wpAny_List (h1.ev e1 c fun vs s1 x1 r1 => ?_)
  have hlen := r1.length
  have := xX
  exact ⟨by omega, k _ vs s1 _ x1 (Ext.push s1 _ s1.toks) (yM _) r1 ⟨0, Heap.get?_push_size _ rfl⟩⟩
theorem binop_lst {op : MOp} {x y : PV} {l : List PV} (h : yP op x y = some (.lst l)) : (op = .add ∧ ∃ l1 l2, x = .lst l1 ∧ y = .lst l2 ∧ l = l1 ++ l2 ∧ l1.length + l2.length ≤ SZ) ∨ (op = .mul ∧ ∃ z n, x = .lst [z] ∧ y = .int n ∧ small n = true ∧ isScalar z = true ∧ l = List.replicate n.toNat z) := by
  cases op with
  | add => exact addI h (fun _ _ _ _ e => nomatch e) (fun _ _ _ _ _ e => nomatch e) fun a b ea eb hc e => .inl ⟨rfl, a, b, ea, eb, (PV.lst.inj e).symm, hc⟩
  | sub => exact subI h fun _ _ _ _ e => nomatch e
  | mul => exact mulI h (fun _ _ _ _ _ e => nomatch e) (fun _ _ _ _ _ e => nomatch e) fun z n ea eb hc e => .inr ⟨rfl, z, n, ea, eb, (Bool.and_eq_true _ _ ▸ hc).1, (Bool.and_eq_true _ _ ▸ hc).2, (PV.lst.inj e).symm⟩
  | div => exact divI h fun _ _ _ _ _ e => nomatch e
  | mod => exact modI h (fun _ _ _ _ _ e => nomatch e) fun _ _ _ _ _ _ e => nomatch e
theorem evf_bin {l r a b q} (op : MOp) (h1 : BaOK p N l a) (h2 : BaOK p N r b) : EvF p N (.BinOp l op.op r q) (.bin op a b) := fun {σ l env O A s E Q} h c k => by
  refine iv2 h fun x y e1 e2 h => ?_
  refine wpAny_BinOp (h1 e1 c fun V s1 x1 r1 => h2 e2 (c.ext x1) fun V' s2 x2 r2 => ?_)
  rcases binop_lst h with ⟨rfl, l1, l2, rfl, rfl, rfl, hsz⟩ | ⟨rfl, z, n, rfl, rfl, hn, hz, rfl⟩
  · obtain ⟨d, vs, rfl, hpl, hq⟩ := r1
    obtain ⟨d', ws, rfl, hpl', hq'⟩ := r2
    have hpl2 : s2.heap.PlainList d vs.toArray := let ⟨n, e⟩ := hpl; ⟨n, x2.keep _ _ e⟩
    have := xX
    have e1 := hq.length
    have e2 := hq'.length
    refine add_lists' hpl2 hpl' (k _ _ s2 _ (x1.trans x2) (Ext.push s2 _ s2.toks) (yM _) ((hq.ext x2).append hq') ⟨0, Heap.get?_push_size _ rfl⟩) (by omega)
  · obtain ⟨d, vs, rfl, hpl, hq⟩ := r1
    obtain ⟨t, rfl⟩ := r2
    obtain ⟨V, vs', rfl, hV, hq⟩ := hq
    cases hq
    have hpl2 : s2.heap.PlainList d [V].toArray := let ⟨n, e⟩ := hpl; ⟨n, x2.keep _ _ e⟩
    exact mul_list' hpl2 hn (k _ _ s2 _ (x1.trans x2) (Ext.push s2 _ s2.toks) (yM _) (reps_replicate (hV.ext x2) _) ⟨0, Heap.get?_push_size _ rfl⟩)
theorem sts_stuck {sts : List Stmt} {ms : List MS} : zS p N sts (.stuck :: ms) := fun _ _ _ _ _ _ _ _ _ _ _ h a F k => nn h
end
end Mine
end
section
open PySem PySem.W PyProof.Rows PySem.SeqAt PySem.Calls
namespace Mine
section
variable {p : P5} {N : NI} {fb : FB} {env : Env} {σ : St} {own : Nat → List Addr} {s : Shared} {A : Around} {E : Value → Shared → Prop}
theorem FrR.transport (F : FrR p N fb env σ own s) {fb' : FB} {s' : Shared} (hkeep : ∀ b o, ¬ fb.O₀ b → s.heap.get? b = some o → s'.heap.get? b = some o) (hrf : fb'.rf = fb.rf) (top : ∀ a o, p.h₁.get? a = some o → fb'.Kp a o) (off : ∀ a, fb'.O₀ a → p.h₁.get? a = none)
    (kp : ∀ a o, fb'.Kp a o → s'.heap.get? a = some o) (kn : ∀ a, NewA env own a → (∀ o, ¬ fb'.Kp a o) ∧ ¬ fb'.O₀ a) (under : ∀ a, fb'.O₀ a → ∃ o, s'.heap.get? a = some o) (hO : ∀ a o, s.heap.get? a = some o → fb'.O₀ a → fb.O₀ a)
    (hg : s'.gens = fb'.b.gens) (hd : s'.drawn = fb'.b.drawn) (hos : s'.os = fb'.b.os) : FrR p N fb' env σ own s' where
  e := F.e
  nodup := F.nodup
  kinds := F.kinds
  capart := F.capart
  cl := F.cl
  ownA := F.ownA
  nd := F.nd
  top := top
  off := off
  kp := kp
  new := fun a n => by
    obtain ⟨h1, h2, o, h3⟩ := F.new a n
    exact ⟨(kn a n).1, (kn a n).2, o, hkeep a o h2 h3⟩
  under := under
  cells := fun x c h => by
    obtain ⟨v, o, e, d⟩ := F.cells x c h
    exact ⟨v, o, hkeep c o (F.new c (.inr (.inl ⟨x, h⟩))).2.1 e, d⟩
  ns := by
    obtain ⟨m, hm, hs⟩ := F.ns
    have nb : ∀ a, NewA env own a → ¬ fb.O₀ a := fun a n => (F.new a n).2.1
    refine ⟨m, hm.at' fun o e => hkeep _ o (nb _ (.inl rfl)) e, fun i sv h => ?_⟩
    obtain ⟨x, V, h1, h2, h3⟩ := hs i sv h
    refine ⟨x, V, h1, ?_, hrf ▸ h3.keep (fun b o n e => ⟨hkeep b o (fun q => n (.inl q)) e, fun q => n (q.imp (hO b o e) id)⟩) fun a ha o e => hkeep a o (nb a (.inr (.inr ⟨i, ha⟩))) e⟩
    rcases h2 with h2 | ⟨a, c, l, o, e, d⟩
    · exact .inl h2
    · exact .inr ⟨a, c, l, o, hkeep c o (nb c (.inr (.inl ⟨x, l⟩))) e, d⟩
  gens := hg
  drawn := hd
  os := hos
end
section
variable {p : P5} {N : NI} {a : Addr} {fd : FuncData} {body : List Stmt} {np : Nat}
theorem gen_make (F : FnOK p N a fd body np) (P : p.Ok) (hgen : N.sc.isGenerator = true) {A : Around} {E : Value → Shared → Prop} {s : Shared} {Q : Value → Shared → Prop} {O : Addr → Prop} {args : List PV} {Vs : List Value} (hlen : args.length = np)
    (ha : AOK (p.n + 1) A) (hk : Keeps p.h₁ s.heap) (hu : jM O s.heap) (ho : Off O p.h₁) (hr : yX p.B.T O s.heap args Vs)
    (k : ∀ s₁ s₂ env, FrR p N (fbIn s O) env (xD args) (fun _ => []) s₁ → (∀ b o, s₁.heap.get? b = some o → s₂.heap.get? b = some o) → s₁.heap.get? s₁.heap.objs.size = none → s₂.heap.IsGen s₁.heap.objs.size s.gens.size →
      s₂.gens = s.gens.push (.fresh (.func body env)) → s₂.drawn = s.drawn → s₂.os = s.os → Q (.ref s₁.heap.objs.size) s₂) : wpAny (model p.prog p.w) A (call (.ref a) Vs) Q E s := by
  obtain ⟨k1, k2, k3, k4, k5, k6, k7⟩ := F.parts
  obtain ⟨o, h1, h2⟩ := F.obj
  have hdep := ha.depth
  refine wpAny_call (codeAny_call_generator (by show A.depth < 1000; omega) (hk _ _ h1) h2 (by rw [F.sc]; exact k2) (by rw [F.sc]; exact hgen) F.body (F.code.keeps hk) ?_)
  rw [F.bind Vs (by rw [hr.length, hlen]), F.clo]
  refine wpAny_pure (wpAny_newFunctionEnv_cells (by rw [F.sc]; exact k1) F.kinds fun env he s₁ x => ?_)
  subst he
  refine ⟨(P.bs.nolimit.keeps hk).keeps x.toInCall.keep, ?_⟩
  have FR := F.enter hk hu ho hr hlen x
  obtain ⟨h', tk, rfl⟩ := x.toInCall.same
  refine k { s with heap := h', toks := tk } _ _ FR (fun b o e => Heap.get?_push_of_some _ e) (yM _) ⟨_, _, _, Heap.get?_push_size _ rfl, rfl, rfl, rfl⟩ rfl rfl rfl
end
end Mine
end
section
open PySem PySem.W PyProof.Rows PySem.SeqAt PySem.Calls
namespace Mine
noncomputable def pairSt (a b : PV) : St := fun i => match i with
  | 0 => some (.val a)
  | 1 => some (.val b)
  | z_ => none
noncomputable def pairF (Γ : xB) (m : ME) : PV → Option PV
  | .tup [a, b] => qM Γ (pairSt a b) m
  | z_ => none
noncomputable def pairChk (N Nc : NI) (scope : Scope) (x y : Str) : Bool :=
  decide (scope.kind = .function) && scope.names.all (fun y => y.2 != .cell && y.2 != .free) && scope.names.all (fun y => y.2 != .local || scope.names.lookup y.1 == some .local) &&
  (scope.names.lookup x == some .local) && (scope.names.lookup y == some .local) && decide (Nc.sc = relabel scope (envOf N.sc)) && (Nc.slots == [x, y]) && Nc.gl.all (fun y => Nc.sc.names.lookup y == some .globalImplicit) && Nc.sc.names.all (fun y => y.1 != ("__classdict__" : Str)) && (x != y)
structure PairSc (N Nc : NI) (scope : Scope) (x y : Str) : Prop where
  kind : scope.kind = .function
  cell : ∀ y ∈ scope.names, y.2 ≠ .cell
  free : ∀ n, (n, NameKind.free) ∉ scope.names
  names : ∀ y ∈ scope.names, y.2 = .local → scope.names.lookup y.1 = some .local
  hx : scope.names.lookup x = some .local
  hy : scope.names.lookup y = some .local
  sc : Nc.sc = relabel scope (envOf N.sc)
  slots : Nc.slots = [x, y]
  gl : ∀ y, y ∈ Nc.gl → Nc.sc.names.lookup y = some .globalImplicit
  nocd : ∀ y k, Nc.sc.names.lookup y = some k → (y == ("__classdict__" : Str)) = false
  ne : x ≠ y
theorem pairChk_ok {N Nc : NI} {scope : Scope} {x y : Str} (h : pairChk N Nc scope x y = true) : PairSc N Nc scope x y := by
  simp only [pairChk, Bool.and_eq_true] at h
  obtain ⟨⟨⟨⟨⟨⟨⟨⟨⟨h1, h2⟩, h3⟩, h4⟩, h5⟩, h6⟩, h7⟩, h8⟩, h9⟩, h10⟩ := h
  rw [List.all_eq_true] at h2 h3 h8 h9
  refine ⟨of_decide_eq_true h1, fun z hz => ?_, fun n hn => ?_, fun z hz e => ?_, eq_of_beq h4, eq_of_beq h5, of_decide_eq_true h6, eq_of_beq h7, fun z hz => eq_of_beq (h8 z hz), fun z k e => ?_, by simpa using h10⟩
  · have := h2 z hz; simp at this; exact this.1
  · have := h2 _ hn; simp at this
  · have := h3 z hz
    rw [e] at this
    simpa using this
  · have := h9 _ (mem_of_lookup e)
    simpa using this
mutual
theorem rep_tup_keep {T : Addr} {O : Addr → Prop} {h h' : Heap} (k : ∀ a o, ¬ O a → h.get? a = some o → o.cls = .type "tuple" → h'.get? a = some o) : ∀ {x : PV} {V : Value}, jB x = true → Rep T O h x V → Rep T O h' x V
  | .none, _, _, r => r
  | .bool _, _, _, r => r
  | .int _, _, _, r => r
  | .str _, _, _, r => r
  | .tup l, V, ht, ⟨a, vs, e, n, ⟨o, ho⟩, q⟩ => ⟨a, vs, e, n, ⟨o, k a _ n ho rfl⟩, repL_tup_keep k (by simpa [jB] using ht) q⟩
  | .tok l, _, ht, _ => by simp [jB] at ht
  | .lst l, _, ht, _ => by simp [jB] at ht
theorem repL_tup_keep {T : Addr} {O : Addr → Prop} {h h' : Heap} (k : ∀ a o, ¬ O a → h.get? a = some o → o.cls = .type "tuple" → h'.get? a = some o) : ∀ {l : List PV} {vs : List Value}, zY l = true → yX T O h l vs → yX T O h' l vs
  | [], _, _, r => r
  | x :: l, _, ht, ⟨v, vs', e, r, q⟩ => by
    simp only [zY, Bool.and_eq_true] at ht
    exact ⟨v, vs', e, rep_tup_keep k ht.1 r, repL_tup_keep k ht.2 q⟩
end
theorem letGo_gen {prog : Program} {w : World} {A : Around} {E : Value → Shared → Prop} {s : Shared} {elts : List Expr} {kk : Nat} {tp : Pos} {G a : Addr} {g : Nat} {Q : Unit → Shared → Prop} (hg : s.heap.IsGen G g) (h : Q () s) :
    wpAny (model prog w) A (letOwnedTupleGo (.Tuple elts kk tp) (.ref G) (.ref a)) Q E s := by
  obtain ⟨o, nm, qn, ho, hc, hd, hs⟩ := hg
  unfold letOwnedTupleGo
  refine wpAny_bind (wpAny_load ho ?_)
  rw [hc, hd]
  show wpAny _ A (if (["enumerate", "zip", "dict_itemiterator", "dict_reverseitemiterator", "odict_iterator", "itertools.zip_longest", "itertools.pairwise"].contains "generator" && _) = true then _ else _) Q E s
  rw [if_neg (by simp)]
  exact wpAny_pure h
section
variable {p : P5} {ng : Nat} {Γg : xB} {N Nc : NI} {A : Around} {E : Value → Shared → Prop} {s : Shared}
theorem pair_cx {env : Env} (P : p.Ok) (a : AOK p.n A) (ee : EnvOK env N p.h₁) {scope : Scope} {x y : Str} (S : PairSc N Nc scope x y) {C : Addr} {O' : Addr → Prop} {s' : Shared} {u v : PV} {U V : Value} {m : Str → Option Value}
    (hk : Keeps p.h₁ s'.heap) (hu : jM O' s'.heap) (ho : Off O' p.h₁) (hn : s'.heap.Ns C m) (hmx : m x = some U) (hmy : m y = some V) (ru : Rep p.B.T O' s'.heap u U) (rv : Rep p.B.T O' s'.heap v V) :
    p.Cx Nc (compEnvC scope (yS env scope.names []) C env) (pairSt u v) O' A s' where
  a := a
  e := by
    have hsc : (compEnvC scope (yS env scope.names []) C env).scope = Nc.sc := by show relabel scope env = Nc.sc; rw [S.sc, relabel_sc ee.scope]
    refine ⟨ee.code, hsc, S.kind, ee.globals, ee.builtins, fun y hy => ?_, fun y hy => ?_⟩
    · unfold Env.kindOf; rw [hsc]; exact S.gl y hy
    · unfold Env.kindOf at hy; rw [hsc] at hy; exact S.nocd y _ hy
  k := hk
  u := hu
  o := ho
  r := fun i sv h => by
    match i with
    | 0 =>
      obtain rfl := Option.some.inj h
      exact ⟨x, U, [], fun _ => 0, by rw [S.slots]; rfl, .inl ⟨by unfold Env.kindOf; exact lookup_relabel_local S.hx, m, hn, hmx⟩, rfl, ru⟩
    | 1 =>
      obtain rfl := Option.some.inj h
      exact ⟨y, V, [], fun _ => 0, by rw [S.slots]; rfl, .inl ⟨by unfold Env.kindOf; exact lookup_relabel_local S.hy, m, hn, hmy⟩, rfl, rv⟩
    | i + 2 => exact nn h
noncomputable abbrev P5.gen (p : P5) (ng : Nat) (Γg : xB) : P5 := { p with n := ng, Γ := Γg }
theorem set_set {α : Type} (Z : Array α) (i : Nat) (x y : α) : (Z.setIfInBounds i x).setIfInBounds i y = Z.setIfInBounds i y := by
  simp [Array.setIfInBounds]
  split <;> simp_all
structure GenK (g : GC (p.gen ng Γg)) (h₀ : Heap) (C D : Addr) (zs : List PV) (n : Nat) (vs : List Value) (m₀ : Str → Option Value) (h : Heap) : Prop where
  hk : ∀ b o, h₀.get? b = some o → ¬ g.GF b → b ≠ C → b ≠ D → h.get? b = some o
  hu : ∀ b, g.OX b → ∃ o, h.get? b = some o
  hD : h.PlainList D vs.toArray
  hr : yX p.B.T g.OX h (zs.take (g.all.length - n)) vs
  hC : h.Ns C m₀
inductive GenI (g : GC (p.gen ng Γg)) (A : Around) (h₀ : Heap) (Z : Array GenState) (gi : Nat) (C D : Addr) (zs : List PV) (n : Nat) (s : Shared) : Prop
  | mk (gs : GenState) (vs : List Value) (m₀ : Str → Option Value) (hn : n ≤ g.all.length) (K : GenK g h₀ C D zs n vs m₀ s.heap) (hgens : s.gens = Z.setIfInBounds gi gs) (hdr : s.drawn = g.fb₀.b.drawn) (hos : s.os = g.fb₀.b.os)
    (hgo : gs.Goes (model p.prog p.w) A.in1 g.R g.Y n (.send .none) (s.setGen gi .running)) : GenI g A h₀ Z gi C D zs n s
theorem tup_take : ∀ (l : List PV) (j : Nat), zY l = true → zY (l.take j) = true
  | [], j, h => by rw [List.take_nil]; rfl
  | z :: l, 0, h => rfl
  | z :: l, j + 1, h => by
    have h' : (jB z && zY l) = true := h
    rw [Bool.and_eq_true] at h'
    show (jB z && zY (l.take j)) = true
    rw [h'.1, tup_take l j h'.2]; rfl
theorem gen_loop (P : p.Ok) (g : GC (p.gen ng Γg)) {gi : Nat} {G C D : Addr} (hBad : ∀ a, g.Bad a → a = C ∨ a = D) (hBC : g.Bad C) (hBD : g.Bad D) (hC : g.fb₀.O₀ C) (hD : g.fb₀.O₀ D) (hCD : C ≠ D) (hCg : ¬ g.GF C) (hDg : ¬ g.GF D) (hGC : G ≠ C) (hGD : G ≠ D) (hGg : ¬ g.GF G)
    {env : Env} (ee : EnvOK env N p.h₁) {scope : Scope} {x y : Str} {px py tp : Pos} {kk : Nat} {iter elt : Expr} {pos : Pos} (S : PairSc N Nc scope x y) {m : ME} (he : yY p Nc elt m)
    {zs : List PV} (hm : jJ (pairF p.Γ m) g.all = some zs) (hzt : zY zs = true) (hlen : g.all.length ≤ SZ) (a : AOK (p.n + 1) A)
    {h₀ : Heap} {Z : Array GenState} (hfix : ∀ b o, h₀.get? b = some o → ¬ g.GF b → b ≠ C → b ≠ D → (∃ o', g.fb₀.Kp b o') ∨ g.fb₀.O₀ b) (h1 : Keeps p.h₁ h₀) (h1n : ∀ b o, p.h₁.get? b = some o → ¬ g.OX b)
    (hG : h₀.IsGen G gi) (hgi : gi < Z.size) (hrun : g.fb₀.b.gens = Z.setIfInBounds gi .running) {R : Result → Shared → Prop}
    (hR : ∀ s' vs m', (∀ b o, h₀.get? b = some o → ¬ g.GF b → b ≠ C → b ≠ D → s'.heap.get? b = some o) → s'.heap.PlainList D vs.toArray → yX p.B.T g.OX s'.heap zs vs → s'.heap.Ns C m' → (∀ a, g.GF a → ∃ o, s'.heap.get? a = some o) →
      s'.gens = Z.setIfInBounds gi .finished → s'.drawn = g.fb₀.b.drawn → s'.os = g.fb₀.b.os → R (.ok .next) s') :
    ∀ (s : Shared) (gs : GenState) (vs : List Value) (m₀ : Str → Option Value) (n : Nat), n ≤ g.all.length → (∀ b o, h₀.get? b = some o → ¬ g.GF b → b ≠ C → b ≠ D → s.heap.get? b = some o) → (∀ b, g.OX b → ∃ o, s.heap.get? b = some o) → s.gens = Z.setIfInBounds gi gs → s.drawn = g.fb₀.b.drawn → s.os = g.fb₀.b.os →
      gs.Goes (model p.prog p.w) A.in1 g.R g.Y n (.send .none) (s.setGen gi .running) → s.heap.PlainList D vs.toArray → yX p.B.T g.OX s.heap (zs.take (g.all.length - n)) vs → s.heap.Ns C m₀ →
      codeAny (model p.prog p.w) A (.compLoop (.ListComp elt [⟨.Tuple [.Name x px, .Name y py] kk tp, iter, [], 0⟩] scope pos) 0 (.ref G) (.ref D) (compEnvC scope (yS env scope.names []) C env)) R s := by
  intro s gs vs m₀ n hn hk hu hgens hdr hos hgo hDl hr hCn
  obtain ⟨hzl, hzg⟩ := mapO_get hm
  have xl : (compEnvC scope (yS env scope.names []) C env).kindOf x = some .local := by unfold Env.kindOf; exact lookup_relabel_local S.hx
  have yl : (compEnvC scope (yS env scope.names []) C env).kindOf y = some .local := by unfold Env.kindOf; exact lookup_relabel_local S.hy
  have hp : ((compEnvC scope (yS env scope.names []) C env).scope.kind == .class || ((compEnvC scope (yS env scope.names []) C env).scope.kind == .module && (compEnvC scope (yS env scope.names []) C env).locals != (compEnvC scope (yS env scope.names []) C env).globals)) = false := by
    simp [compEnvC, relabel, S.kind]
  have h1k : ∀ {s : Shared}, (∀ b o, h₀.get? b = some o → ¬ g.GF b → b ≠ C → b ≠ D → s.heap.get? b = some o) → Keeps p.h₁ s.heap := fun {s} hk b o e => hk b o (h1 b o e) (fun q => h1n b o e (.inr q)) (fun q => h1n b o e (.inl (q ▸ hC))) (fun q => h1n b o e (.inl (q ▸ hD)))
  refine kcp_loop (GenI g A h₀ Z gi C D zs) ?_ n ⟨gs, vs, m₀, hn, ⟨hk, hu, hDl, hr, hCn⟩, hgens, hdr, hos, hgo⟩
  clear hn hk hu hgens hdr hos hgo hDl hr hCn
  intro n s hI
  refine hideG fun Q1 k1 => ?_
  obtain ⟨gs, vs, m₀, hn, ⟨hk, hu, hDl, hr, hCn⟩, hgens, hdr, hos, hgo⟩ := hI
  have hGs : s.heap.IsGen G gi := by
    obtain ⟨o, nm, qn, e, r⟩ := hG
    exact ⟨o, nm, qn, hk G o e hGg hGC hGD, r⟩
  have hdep := a.depth
  obtain ⟨oC, _, _, eC, _⟩ := id hCn
  obtain ⟨nD, eD⟩ := id hDl
  -- what a segment of the generator keeps
  have seg : ∀ {s₁ : Shared}, g.KeptSeg (s.setGen gi .running) s₁ → GenK g h₀ C D zs n vs m₀ s₁.heap ∧ s₁.heap.get? C = some oC := fun {s₁} q => by
    have ps : ∀ b o, ¬ g.GF b → s.heap.get? b = some o → ((∃ o', g.fb₀.Kp b o') ∨ g.fb₀.O₀ b ∨ o.cls = .type "tuple") → s₁.heap.get? b = some o := fun b o h1 h2 h3 => q.keep b o ⟨h1, h2, h3⟩
    have kC := ps C oC hCg eC (.inr (.inl hC))
    refine ⟨⟨fun b o e h1 h2 h3 => ps b o h1 (hk b o e h1 h2 h3) ((hfix b o e h1 h2 h3).imp id .inl), fun b ob => ?_, ⟨nD, ps D _ hDg eD (.inr (.inl hD))⟩, repL_tup_keep (fun b o nn e hc => ps b o (fun q => nn (.inr q)) e (.inr (.inr hc))) (tup_take _ _ hzt) hr, hCn.at' fun o e => (Option.some.inj (eC.symm.trans e)) ▸ kC⟩, kC⟩
    rcases ob with ob | ob
    · by_cases hgf : g.GF b
      · exact q.live b hgf
      · obtain ⟨o, e⟩ := hu b (.inl ob)
        exact ⟨o, ps b o hgf e (.inr (.inl ob))⟩
    · exact q.live b ob
  refine k1 ?_
  clear k1
  refine wpAny_pyNext_gen (P := g.P) (Y := g.Y) (n := n) a.handled (P.bs.nolimit.keeps (h1k hk)) (by show A.depth < 1000; omega) hGs (by rw [hgens]; simp [Array.getElem?_setIfInBounds, hgi]) hgo (fun v s₁ gs' hy => ?_) fun s₁ hp' h' hx' => ?_
  · refine hideG fun Q2 k2 => ?_
    obtain ⟨q1, ⟨xv, hxv, hrx, htx⟩, hcons⟩ := hy
    obtain ⟨⟨c1, c2, c4, c5, c6⟩, c3⟩ := seg q1
    have liveB : ∀ a, g.Bad a → ∃ o, s₁.heap.get? a = some o := fun b hb => by
      rcases hBad b hb with q | q <;> rw [q]
      · exact ⟨_, c3⟩
      · exact let ⟨_, e⟩ := c4; ⟨_, e⟩
    cases n with
    | zero => exact (hcons s₁ ⟨fun _ _ _ e => e, liveB, rfl, rfl, rfl⟩).elim
    | succ n =>
      simp only [Nat.add_sub_cancel] at hxv
      obtain ⟨z, hz1, hz2⟩ := hzg _ _ hxv
      have hxs : ∃ u v, xv = .tup [u, v] ∧ qM p.Γ (pairSt u v) m = some z :=
        match xv, hz1 with
        | .tup [_, _], hz1 => ⟨_, _, rfl, hz1⟩
      obtain ⟨u1, u2, rfl, hz3⟩ := hxs
      obtain ⟨T, items, rfl, hTn, hT, U1, r1, rfl, hU1, U2, r2, rfl, hU2, rfl⟩ := hrx
      refine k2 ?_
      clear k2
      refine letGo_gen (s := s₁.setGen gi gs') (g := gi) (by
        obtain ⟨o, nm, qn, e, r⟩ := hG
        exact ⟨o, nm, qn, c1 G o e hGg hGC hGD, r⟩) ?_
      have hTt : (s₁.setGen gi gs').heap.IsTuple T #[U1, U2] := let ⟨nt, e⟩ := hT; ⟨_, e, rfl, nt, rfl⟩
      refine kcp_assign (s := s₁.setGen gi gs') a.handled hTt xl yl hp c6 fun h₂ tk₂ hn₂ hk₂ => ?_
      have keep₂ : ∀ b o, b ≠ C → s₁.heap.get? b = some o → h₂.get? b = some o := fun b o h e => hk₂ b o h e
      have hOC : g.OX C := .inl hC
      have K₂ : jN g.OX s₁.heap g.OX h₂ := fun b o nn e => ⟨keep₂ b o (fun q => nn (q ▸ hOC)) e, nn⟩
      have hu₂ : jM g.OX h₂ := fun b ob => by
        by_cases hbc : b = C
        · rw [hbc]; exact let ⟨o, _, _, e, _⟩ := hn₂; ⟨o, e⟩
        · obtain ⟨o, e⟩ := c2 b ob; exact ⟨o, keep₂ b o hbc e⟩
      have hk2 : ∀ b o, h₀.get? b = some o → ¬ g.GF b → b ≠ C → b ≠ D → h₂.get? b = some o := fun b o e h1 h2 h3 => keep₂ b o h2 (c1 b o e h1 h2 h3)
      let s₂ : Shared := { s₁.setGen gi gs' with heap := h₂, toks := tk₂ }
      have cx := pair_cx (s' := s₂) P (AOK.le a (Nat.le_succ _)) ee S (C := C) (O' := g.OX) (u := u1) (v := u2) (U := U1) (V := U2) (h1k (s := s₂) hk2) hu₂ (fun b ob => by
        cases e : p.h₁.get? b with
        | none => rfl
        | some o => exact absurd ob (h1n b o e)) hn₂ (by simp [S.ne]) (by simp) (hU1.keep K₂) (hU2.keep K₂)
      refine he hz3 cx fun W s₃ x₃ r₃ => ?_
      have hys : vs.length = g.all.length - (n + 1) := by rw [c5.length, List.length_take, hzl]; exact Nat.min_eq_left (Nat.sub_le _ _)
      have hD₃ : s₃.heap.PlainList D vs.toArray := let ⟨nn, e⟩ := c4; ⟨nn, x₃.keep _ _ (keep₂ D _ (Ne.symm hCD) e)⟩
      have := xX
      refine wpAny_list_append_plain hD₃ (fun h₄ hl₄ hs₄ => ?_) (by simp; omega)
      have hOD : g.OX D := .inl hD
      have K₄ : jN g.OX s₃.heap g.OX h₄ := fun b o nn e => ⟨hs₄.extBut b o (fun q => nn (q ▸ hOD)) e, nn⟩
      have up : ∀ b o, b ≠ C → b ≠ D → s₁.heap.get? b = some o → h₄.get? b = some o := fun b o h1 h2 e => hs₄.extBut b o h2 (x₃.keep b o (keep₂ b o h1 e))
      have g₃ : s₃.gens = s₁.gens.setIfInBounds gi gs' := x₃.gens
      have d₃ : s₃.drawn = s₁.drawn := x₃.drawn
      have o₃ : s₃.os = s₁.os := x₃.os
      have hg1 : s₁.gens = Z.setIfInBounds gi .running := q1.gens.trans hrun
      have u₄ : ∀ b, g.OX b → ∃ o, h₄.get? b = some o := fun b ob => by
        by_cases hbd : b = D
        · rw [hbd]; exact let ⟨_, e⟩ := hl₄; ⟨_, e⟩
        · obtain ⟨o, e⟩ := hu₂ b ob; exact ⟨o, hs₄.extBut b o hbd (x₃.keep b o e)⟩
      have e1 : g.all.length - n = (g.all.length - (n + 1)) + 1 := (Nat.succ_pred_eq_of_pos (Nat.sub_pos_of_lt hn)).symm
      refine ⟨n, Nat.lt_succ_self n, gs', vs ++ [W], _, by omega, ⟨fun b o e h1 h2 h3 => up b o h2 h3 (c1 b o e h1 h2 h3), u₄, by simpa using hl₄, ?_, (hn₂.keeps x₃.keep).sameBut hs₄ hCD⟩, by show s₃.gens = _; rw [g₃, hg1, set_set], d₃.trans q1.drawn, o₃.trans q1.os, ?_⟩
      · rw [e1, List.take_add_one, hz2]
        exact (((c5.keep K₂).keep fun b o nn e => ⟨x₃.keep b o e, nn⟩).keep K₄).append (yX.one (r₃.keep K₄))
      · refine hcons (Shared.setGen { s₃ with heap := h₄ } gi .running) ⟨fun b o nb e => ?_, fun b hb => ?_, ?_, d₃, o₃⟩
        · exact up b o (fun q => nb (q ▸ hBC)) (fun q => nb (q ▸ hBD)) e
        · rcases hBad b hb with q | q <;> rw [q]
          · exact u₄ _ hOC
          · exact u₄ _ hOD
        · show s₃.gens.setIfInBounds gi .running = s₁.gens
          rw [g₃, set_set, hg1, set_set]
  · obtain ⟨hn0, q1⟩ := hp'
    subst hn0
    obtain ⟨⟨c1, c2, c4, c5, c6⟩, c3⟩ := seg q1
    have hg1 : s₁.gens = Z.setIfInBounds gi .running := q1.gens.trans hrun
    refine hR _ vs m₀ (fun b o e h1 h2 h3 => hx' b o (c1 b o e h1 h2 h3)) (let ⟨nn, e⟩ := c4; ⟨nn, hx' _ _ e⟩) ?_ (c6.keeps hx') (fun b hb => let ⟨o, e⟩ := q1.live b hb; ⟨o, hx' b o e⟩) (by show s₁.gens.setIfInBounds gi .finished = _; rw [hg1, set_set]) q1.drawn q1.os
    rw [Nat.sub_zero, List.take_of_length_le (by omega)] at c5
    exact c5.keep fun b o nn e => ⟨hx' b o e, nn⟩
end
end Mine
end
set_option tactic.hygienic true
section
open PySem PySem.W PyProof.Rows PySem.SeqAt PySem.Calls
namespace Mine
section
variable {p : P5} {N : NI} {fb : FB} {env : Env} {σ : St} {own : Nat → List Addr} {s : Shared} {A : Around} {E : Value → Shared → Prop}
theorem FrR.rebase (F : FrR p N fb env σ own s) {s' : Shared} {bad : Addr → Prop} (hb : ∀ a, bad a → fb.O₀ a ∧ ∀ o, ¬ fb.Kp a o)
    (keep : ∀ b o, ¬ bad b → s.heap.get? b = some o → s'.heap.get? b = some o) (live : ∀ a, bad a → ∃ o, s'.heap.get? a = some o) : FrR p N { fb with b := s' } env σ own s' :=
  F.transport (fb' := { fb with b := s' }) (fun b o n e => keep b o (fun q => n (hb b q).1) e) rfl F.top F.off (fun a o k => keep a o (fun q => (hb a q).2 o k) (F.kp a o k)) (fun a n => ⟨(F.new a n).1, (F.new a n).2.1⟩)
    (fun a q => by
      by_cases h : bad a
      · exact live a h
      · obtain ⟨o, e⟩ := F.under a q; exact ⟨o, keep a o h e⟩) (fun _ _ _ q => q) rfl rfl rfl
theorem FrR.bare (F : FrR p N fb env σ own s) (hv : ∀ k sv, σ k = some sv → (∃ v, sv = .val v) ∨ ∃ r, sv = .ref r) : FrR p N fb env σ (fun _ => []) s := by
  have F' := F.clean
  have e : (fun k => if (σ k).isSome then own k else []) = (fun _ => ([] : List Addr)) := by
    funext k
    split
    · rename_i hs
      obtain ⟨sv, hsv⟩ := Option.isSome_iff_exists.mp hs
      obtain ⟨m, hm, hsl⟩ := F.ns
      obtain ⟨x, V, _, _, h3⟩ := hsl k sv hsv
      rcases hv k sv hsv with ⟨v, rfl⟩ | ⟨r, rfl⟩
      · exact h3.1
      · exact h3.1
    · rfl
  rwa [e] at F'
noncomputable def LF (env : Env) (a : Addr) : Prop := a = env.locals ∨ ∃ x, env.cells.lookup x = some a
theorem zQ {a : Addr} : NewA env (fun _ => []) a ↔ LF env a := by
  constructor
  · rintro (h | h | ⟨i, h⟩)
    · exact .inl h
    · exact .inr h
    · cases h
  · rintro (h | h)
    · exact .inl h
    · exact .inr (.inl h)
theorem aok_gen {n : Nat} {A : Around} {b : List Stmt} {e : Env} (h : AOK (n + 1) A) : AOK n (A.in1.over (.func b e) []) := by
  refine ⟨h.handled, ?_, ?_⟩
  · have := h.depth
    show A.depth + frameCount [] + (Code.func b e).weight + _ < _
    have e1 : (Code.func b e).weight = 1 := rfl
    have e2 : frameCount [] = 0 := rfl
    omega
  · have := h.units
    show A.units + 1 + unitsOf [] + (Code.func b e).cUnits + _ < _
    have e1 : (Code.func b e).cUnits = 3 := rfl
    have e2 : unitsOf [] = 0 := rfl
    omega
end
section
variable {p : P5} {ng : Nat} {Γg : xB} {N Nc Ng : NI} {fb fbc : FB} {env genv : Env} {σ : St} {s s₁ : Shared} {A : Around} {E : Value → Shared → Prop} {body : List Stmt} {ms : List MS}
structure GEnd (p : P5) (env genv : Env) (OX₀ : Addr → Prop) (gi : Nat) (s s' : Shared) (zs : List PV) (C D : Addr) : Prop where
  keep : ∀ b o, s.heap.get? b = some o → ¬ LF genv b → s'.heap.get? b = some o
  live : ∀ a, LF genv a → ∃ o, s'.heap.get? a = some o
  gens : s'.gens = s.gens.setIfInBounds gi .finished
  drawn : s'.drawn = s.drawn
  os : s'.os = s.os
  fC : s.heap.get? C = none
  fD : s.heap.get? D = none
  ne : C ≠ D
  rep : ∃ vs, s'.heap.PlainList D vs.toArray ∧ yX p.B.T (fun a => (OX₀ a ∨ LF env a ∨ a = C ∨ a = D) ∨ LF genv a) s'.heap zs vs
  ns : ∃ m, s'.heap.Ns C m
set_option backward.match.sparseCases true in
theorem gen_consume (P : p.Ok) (F : FrR p N fb env σ (fun _ => []) s) (FG : FrR (p.gen ng Γg) Ng fbc genv (xD args) (fun _ => []) s₁) {OX₀ : Addr → Prop} (hfb : ∀ a, OX₀ a → fb.O₀ a) (hfb2 : ∀ a, LF genv a → fb.O₀ a ∧ ¬ OX₀ a ∧ ¬ LF env a)
    (hOc : ∀ a, OX₀ a ∨ LF env a → fbc.O₀ a) (hkeep : ∀ b o, ¬ fbc.O₀ b → s₁.heap.get? b = some o → s.heap.get? b = some o) (hrfc : fbc.rf = fun _ => 0)
    {G gi : Nat} (hG : s.heap.IsGen G gi) (hGn : ¬ LF genv G) {Z : Array GenState} (hgens : s.gens = Z) (hgi : Z[gi]? = some (.fresh (.func body genv)))
    (hb : GsOK (p.gen ng Γg) Ng body ms) (hgen : p.n = ng) {fuel : Nat} {ys : List PV} {fl : Fl} {σ' : St} (hrun : xQ Γg fuel (xD args) ms = some (ys, fl, σ')) (hfl : fl = .next ∨ fl = .ret .none) (hys : ys.length ≤ SZ)
    {scope : Scope} {x y z : Str} {px py tp qz : Pos} {kk : Nat} {elt : Expr} {pos : Pos} (S : PairSc N Nc scope x y) {m : ME} (he : yY p Nc elt m) {zs : List PV} (hm : jJ (pairF p.Γ m) ys = some zs) (hzt : zY zs = true)
    (a : AOK (p.n + 1) A) {iz rk : Nat} (hz : N.slots[iz]? = some z) (hzd : (z == ("__debug__" : Str)) = false) (hσz : σ iz = some (.ref rk)) (hrf : fb.rf rk = G) {use : Option (Value → Sem Unit)} {Q : Value → Shared → Prop}
    (k : ∀ C D s', GEnd p env genv OX₀ gi s s' zs C D → compPost (model p.prog p.w) A E use Q (.ref D) C (.ok .next) s') :
    wpAny (model p.prog p.w) A (comprehension (.ListComp elt [⟨.Tuple [.Name x px, .Name y py] kk tp, .Name z qz, [], 0⟩] scope pos) scope env (firstIterPos [⟨.Tuple [.Name x px, .Name y py] kk tp, .Name z qz, [], 0⟩] pos) (newList []) false (eval (.Name z qz) env) use) Q E s := by
  subst hgens hgen
  refine wpAny_comprehension_free (use := use) rfl (fun _ => rfl) (closureFor_eq fun n hn => absurd hn (S.free n)) S.kind S.names ?_
  refine F.load hσz hz hzd fun V hV => ?_
  obtain ⟨_, rfl⟩ := hV
  rw [hrf]
  refine wpAny_pyIter_gen hG ?_
  refine wpAny_newObj_type (wpAny_newFunctionEnv S.cell (by intro y hy; simp at hy) (fun h₁ hns₁ hsb₁ => ?_) S.kind)
  dsimp only at hns₁ hsb₁ ⊢
  generalize hH2 : s.heap.push { cls := .type "list", dict := none, data := .seq ([] : List Value).toArray } = H2 at hns₁ hsb₁ ⊢
  have hC : H2.objs.size = s.heap.objs.size + 1 := by rw [← hH2, Heap.size_push]
  have hDC : s.heap.objs.size ≠ H2.objs.size := by rw [hC]; exact Nat.ne_of_lt (Nat.lt_succ_self _)
  have below : ∀ b, b < s.heap.objs.size → b ≠ H2.objs.size ∧ b ≠ s.heap.objs.size := fun b hb => ⟨by rw [hC]; exact Nat.ne_of_lt (Nat.lt_succ_of_lt hb), Nat.ne_of_lt hb⟩
  have old : ∀ b o, s.heap.get? b = some o → h₁.get? b = some o := fun b o e => hsb₁.extBut b o (below b (Heap.lt_size e)).1 (Heap.get?_push_of_some _ (hH2 ▸ Heap.get?_push_of_some _ e))
  have hacc : h₁.PlainList s.heap.objs.size #[] := ⟨_, hsb₁.extBut _ _ hDC (Heap.get?_push_of_some _ (hH2 ▸ Heap.get?_push_size _ rfl))⟩
  have fresh : ∀ a, s.heap.objs.size ≤ a → s.heap.get? a = none := fun a ha => by
    cases e : s.heap.get? a with
    | none => rfl
    | some o' => exact absurd (Heap.lt_size e) (Nat.not_lt.mpr ha)
  generalize hCg : H2.objs.size = C at *
  generalize hDg : s.heap.objs.size = D at *
  have fC : s.heap.get? C = none := fresh _ (by rw [hC]; exact Nat.le_succ _)
  have fD : s.heap.get? D = none := fresh _ (Nat.le_refl _)
  let OXC : Addr → Prop := fun a => OX₀ a ∨ LF env a ∨ a = C ∨ a = D
  let sR : Shared := { s with heap := h₁, toks := s.toks + ([] : List (Str × Value)).length }
  let g : GC (p.gen p.n Γg) := { fb₀ := { Kp := fun a o => s.heap.get? a = some o ∧ ¬ OXC a ∧ ¬ LF genv a, O₀ := OXC, b := sR.setGen gi .running, rf := fun _ => 0 }, env := genv, Bad := fun a => a = C ∨ a = D, all := ys }
  have hex : ∀ b, OX₀ b ∨ LF env b → ∃ o, s.heap.get? b = some o := fun b q => by
    rcases q with q | q
    · exact F.under b (hfb b q)
    · exact (F.new b (zQ.mpr q)).2.2
  have gfx : ∀ b, LF genv b → ∃ o, s.heap.get? b = some o := fun b q => F.under b (hfb2 b q).1
  have hGFC : ¬ LF genv C := fun q => by obtain ⟨o, e⟩ := gfx C q; rw [fC] at e; cases e
  have hGFD : ¬ LF genv D := fun q => by obtain ⟨o, e⟩ := gfx D q; rw [fD] at e; cases e
  have hOff : ∀ b o, p.h₁.get? b = some o → ¬ g.OX b := fun b o e q => by
    have es := F.kp b o (F.top b o e)
    rcases q with (q | q | q | q) | q
    · have := F.off b (hfb b q); rw [e] at this; cases this
    · exact (F.new b (zQ.mpr q)).1 o (F.top b o e)
    · subst q; rw [fC] at es; cases es
    · subst q; rw [fD] at es; cases es
    · have := F.off b (hfb2 b q).1; rw [e] at this; cases this
  have hkL : ∀ b o, ¬ fbc.O₀ b → s₁.heap.get? b = some o → sR.heap.get? b = some o := fun b o h1 h2 => old b o (hkeep b o h1 h2)
  have hnew1 : ∀ b o, s₁.heap.get? b = some o → OXC b → fbc.O₀ b := fun b o e q => by
    rcases q with q | q | q | q
    · exact hOc b (.inl q)
    · exact hOc b (.inr q)
    · subst q; refine Classical.byContradiction fun hn => ?_
      have := hkeep _ o hn e; rw [fC] at this; cases this
    · subst q; refine Classical.byContradiction fun hn => ?_
      have := hkeep _ o hn e; rw [fD] at this; cases this
  have FL : FrR (p.gen p.n Γg) Ng g.fb₀ genv (xD args) (fun _ => []) (sR.setGen gi .running) := by
    refine FG.transport (fb' := g.fb₀) (s' := sR.setGen gi .running) hkL hrfc.symm (fun b o e => ⟨F.kp b o (F.top b o e), fun q => hOff b o e (.inl q), fun q => hOff b o e (.inr q)⟩) (fun b q => ?_) (fun b o q => old b o q.1) (fun b n => ⟨fun o q => q.2.2 (zQ.mp n), fun q => ?_⟩) (fun b q => ?_) hnew1 rfl rfl rfl
    · cases e : p.h₁.get? b with
      | none => rfl
      | some o => exact absurd (.inl q) (hOff b o e)
    · have n' := zQ.mp n
      rcases q with q | q | q | q
      · exact (hfb2 b n').2.1 q
      · exact (hfb2 b n').2.2 q
      · subst q; exact hGFC n'
      · subst q; exact hGFD n'
    · rcases q with q | q | q | q
      · obtain ⟨o, e⟩ := hex b (.inl q); exact ⟨o, old b o e⟩
      · obtain ⟨o, e⟩ := hex b (.inr q); exact ⟨o, old b o e⟩
      · subst q; obtain ⟨o, _, _, e, _⟩ := hns₁; exact ⟨o, e⟩
      · subst q; obtain ⟨nn, e⟩ := hacc; exact ⟨_, e⟩
  have FP : FrR (p.gen p.n Γg) Ng (g.fb₀.pin (g.PS (sR.setGen gi .running))) genv (xD args) (fun _ => []) (sR.setGen gi .running) := FL.pin fun b o q => ⟨fun nn => q.1 (zQ.mp nn), q.2.1⟩
  have hgo : (GenState.fresh (.func body genv)).Goes (model p.prog p.w) A.in1 g.R g.Y ys.length (.send .none) (sR.setGen gi .running) := by
    refine ⟨rfl, seg_func ?_⟩
    have := hb hrun g (fb := g.fb₀) (A := A.in1) (c := .func body genv) (fs := []) (n := 0) (s₀ := sR.setGen gi .running) (s := sR.setGen gi .running) (K := fun f => .pure (.done (.ret (match f with | .ret v => v | _ => .none))))
      (H := fun e => (leaving genv e).wrap (fun _ => .raise e) .raise id id) (gd := id) (lv := id) (aok_gen a) rfl rfl rfl (FB.Le.refl FL.top) (fun b q => by
        rcases q with rfl | rfl
        · exact ⟨.inr (.inr (.inl rfl)), fun o r => r.2.1 (.inr (.inr (.inl rfl)))⟩
        · exact ⟨.inr (.inr (.inr rfl)), fun o r => r.2.1 (.inr (.inr (.inr rfl)))⟩) FP ⟨by simp [g], fun i hi => by simp [g]⟩ (fun f s₁ s₂ own' F' hf => ?_)
    · have e0 : 0 + ys.length = ys.length := Nat.zero_add _
      rw [e0] at this
      exact this
    · have ks : g.KeptSeg s₁ s₂ := ⟨fun b o q => F'.kp b o (.inr q), F'.gens, F'.drawn, F'.os, fun b q => (F'.new b (q.imp id .inl)).2.2⟩
      rcases hfl with rfl | rfl
      · cases hf
        exact seg_end (.ok (.ret .none)) (show g.R 0 s₁ _ s₂ from And.intro rfl (And.intro rfl ks))
      · obtain ⟨V, rfl, hV⟩ := hf
        cases hV
        exact seg_end (.ok (.ret .none)) (show g.R 0 s₁ _ s₂ from And.intro rfl (And.intro rfl ks))
  have hZ : gi < s.gens.size := (Array.getElem?_eq_some_iff.mp hgi).1
  have hGne : G ≠ C ∧ G ≠ D := by
    obtain ⟨o, _, _, e, _⟩ := hG
    exact ⟨fun q => (by rw [q, fC] at e; cases e), fun q => (by rw [q, fD] at e; cases e)⟩
  have loop : codeAny (model p.prog p.w) A (.compLoop (.ListComp elt [⟨.Tuple [.Name x px, .Name y py] kk tp, .Name z qz, [], 0⟩] scope pos) 0 (.ref G) (.ref D) (compEnvC scope (yS env scope.names []) C env)) (compPost (model p.prog p.w) A E use Q (.ref D) C) sR := by
    refine gen_loop (gi := gi) P g (fun b q => q) (.inl rfl) (.inr rfl) (.inr (.inr (.inl rfl))) (.inr (.inr (.inr rfl))) (Ne.symm hDC) hGFC hGFD hGne.1 hGne.2 hGn F.e S he hm hzt hys a (h₀ := s.heap) (Z := s.gens) (fun b o e h1 h2 h3 => ?_) (F.cx (AOK.le a (Nat.le_succ _))).k hOff hG hZ rfl (fun s' vs m' a1 a2 a3 a4 a5 a6 a7 a8 => ?_)
      sR (.fresh (.func body genv)) [] _ ys.length (Nat.le_refl _) (fun b o e _ _ _ => old b o e) (fun b q => ?_) ?_ rfl rfl hgo hacc ?_ hns₁
    · by_cases hx : OXC b
      · exact .inr hx
      · exact .inl ⟨o, e, hx, h1⟩
    · exact k C D s' ⟨fun b o e h1 => a1 b o e h1 (fun q => (by rw [q, fC] at e; cases e)) (fun q => (by rw [q, fD] at e; cases e)), a5, a6, a7, a8, fC, fD, Ne.symm hDC, ⟨vs, a2, a3⟩, ⟨m', a4⟩⟩
    · rcases q with q | q
      · obtain ⟨o, e⟩ := FL.under b q; exact ⟨o, e⟩
      · obtain ⟨o, e⟩ := gfx b q; exact ⟨o, old b o e⟩
    · show s.gens = s.gens.setIfInBounds gi _
      refine Array.ext_getElem? fun i => ?_
      rw [Array.getElem?_setIfInBounds]
      split
      · rename_i h; subst h; exact hgi
      · rfl
    · show yX _ _ _ (zs.take (ys.length - ys.length)) []
      rw [Nat.sub_self]; exact rfl
  exact codeAny_compStart_list loop (wpAny_pyIter_gen (by obtain ⟨o, nm, qn, e, r⟩ := hG; exact ⟨o, nm, qn, old G o e, r⟩) loop)
end
end Mine
end
set_option tactic.hygienic false
section
open PySem PySem.W PyProof.Rows PySem.SeqAt PySem.Calls
namespace Mine
structure FnX (K : Params → Frag) (a : Addr) where
  fd : FuncData
  body : List Stmt
  ok : ∀ P, ∃ o, (K P).lookup a = some o ∧ o.data = .func fd
  hb : fd.body = .stmts body
theorem qS {α : Type} {l : List α} {x : α} (k : Nat) (h : l[k]? = some x) : x ∈ l := List.mem_of_getElem? h
noncomputable def callArgs : List Stmt → List Expr
  | .Assign _ (.Call _ es _ _) _ :: _ => es
  | .Return (some (.Compare (.Call _ es _ _) _ _ _)) _ :: _ => es
  | .If (.Compare (.Call _ es _ _) _ _ _) _ _ _ :: _ => es
  | _ => []
noncomputable def compSc : List Stmt → Scope
  | .Assign _ (.ListComp _ _ sc _) _ :: _ => sc
  | .Return (some (.ListComp _ _ sc _)) _ :: _ => sc
  | _ => default
noncomputable def compElt : List Stmt → Expr
  | .Assign _ (.ListComp e _ _ _) _ :: _ => e
  | .Return (some (.ListComp e _ _ _)) _ :: _ => e
  | _ => default
noncomputable def compNI2 (N : NI) (scope : Scope) (x : Str) (caps : List Nat) (gl : List Str) : NI where
  slots := x :: caps.map fun i => (N.slots[i]?).getD ("" : Str)
  gl := gl
  sc := relabel scope (envOf N.sc)
section
variable {p : P5} {N : NI}
theorem ev_compL2 {iter elt : Expr} {x : Str} {px pos : Pos} {scope : Scope} {caps : List Nat} {m e : ME} (gl : List Str) (S : compChk N (compNI2 N scope x caps gl) scope x caps = true) (he : yY p (compNI2 N scope x caps gl) elt m) (h1 : BaOK p N iter e) (hs : ∀ env x, foldedSetIterable iter env x = pure x) :
    yY p N (.ListComp elt [⟨.Name x px, iter, [], 0⟩] scope pos) (.compL e caps m) := ev_compL S he h1 hs
theorem st_compL2 {iter elt : Expr} {x y : Str} {px py pos spos : Pos} {scope : Scope} {caps : List Nat} {m e : ME} (gl : List Str) (S : compChk N (compNI2 N scope x caps gl) scope x caps = true) (he : yY p (compNI2 N scope x caps gl) elt m) (h1 : BaOK p N iter e) (hs : ∀ env x, foldedSetIterable iter env x = pure x)
    {i : Nat} (hy : N.slots[i]? = some y) (hsw : ∀ env : Env, env.scope = N.sc → swapsWith (.ListComp elt [⟨.Name x px, iter, [], 0⟩] scope pos) (some (.Name y py)) spos.line env = pure true) :
    zP p N (.Assign [.Name y py] (.ListComp elt [⟨.Name x px, iter, [], 0⟩] scope pos) spos) (.asg i (.compL e caps m)) := st_comp (compChk_ok S) he (src_list h1) hs (fun h => compL_parts h) hy hsw
theorem qH {l r a b q} {op : MOp} {o} (ho : op.op = o) (h1 : yY p N l a) (h2 : yY p N r b) : yY p N (.BinOp l o r q) (.bin op a b) := by subst ho; exact ev_bin op h1 h2
theorem jL {l r a b q} {op : MCmp} {o} (ho : op.op = o) (h1 : yY p N l a) (h2 : BaOK p N r b) (hm : behindInMarks o r = false) : yY p N (.Compare l [o] [r] q) (.cmp op a b) := by subst ho; exact ev_cmp op h1 h2 hm
theorem qF {l r a b q} {op : MCmp} {o} (ho : op.op = o) (h1 : yY p N l a) (h2 : BaOK p N r b) (hm : behindInMarks o r = false) : TrOK p N (.Compare l [o] [r] q) (.cmp op a b) := by subst ho; exact tr_cmp op h1 h2 hm
theorem evf_bin' {l r a b q} {op : MOp} {o} (ho : op.op = o) (h1 : BaOK p N l a) (h2 : BaOK p N r b) : EvF p N (.BinOp l o r q) (.bin op a b) := by subst ho; exact evf_bin op h1 h2
theorem st_aug' {x q e m pos} {op : MOp} {o} (ho : op.op = o) (hop : op = .add ∨ op = .sub) (h1 : yY p N e m) {i : Nat} (hx : N.slots[i]? = some x) :
    zP p N (.AugAssign (.Name x q) o e pos) (.aug i op m) := by subst ho; exact st_aug op hop h1 hx
theorem st_augi' {x q e m ie im q' pos} {op : MOp} {o} (ho : op.op = o) (hop : op = .add ∨ op = .sub) (h1 : yY p N e m) (h2 : yY p N ie im) {i : Nat} (hx : N.slots[i]? = some x) (hd : (x == ("__debug__" : Str)) = false)
    (hs : ∀ ov iv new, augStore ie ov iv new = (do holding [new, ov, iv] (setItem ov iv new); release [new, ov, iv] []; pure .next)) :
    zP p N (.AugAssign (.Subscript (.Name x q) ie q') o e pos) (.augi i im op m) := by subst ho; exact st_augi op hop h1 h2 hx hd hs
theorem ev_len2 (P : p.Ok) {x q q1 q2} {i : Nat} (hx : N.slots[i]? = some x) (hd : (x == ("__debug__" : Str)) = false) (hg : ("len" : Str) ∈ N.gl) : yY p N (.Call (.Name "len" q1) [.Name x q] [] q2) (.len2 i) := fun _ _ _ _ _ _ _ _ h c k => by
  refine sOwn2 h fun ls hσ h => jR h fun hl e => ?_
  subst e
  refine Call_ (yH P.bs c hg (by decide) boot_len rfl ?_)
  refine jY rfl callWith_builtin (jP c hσ hx hd fun V as ⟨rf, hr⟩ _ => ?_)
  obtain ⟨a, bs', rfl, _, ho, q⟩ := hr
  have hq := own2_len q
  have hz : SZ = 100000 := rfl
  exact PyProof.Rows.len_list ho.isList (by simp [hq]; omega) (k _ _ (Ext.toks ..) ⟨_, by simp [hq]; rfl⟩)
theorem sI (o j : Value) : operate [o, j] (getItem o j) = operate [o, j] (getItem o j) := rfl
theorem sW (_ : Env) : (pure false : Sem Bool) = pure false := rfl
noncomputable def leafM : MS → Bool
  | .ifs _ _ _ => false
  | .forL _ _ _ => false
  | .yield _ => false
  | _ => true
theorem qU {st m} (h1 : zP p N st m) (hm : leafM m = true) : GOK p N st m := xM h1 fun Γ fuel σ => by cases m <;> first | rfl | cases hm
end
end Mine
end
section
open PySem PySem.W PyProof.Rows PySem.Calls Builtin
namespace Mine
noncomputable abbrev KH : Params → Frag := KH0
noncomputable abbrev TA : Addr := 155
inductive KHT (P : Params) : Prop
  | mk (oc : _) (od : _) (cd : _) (sl : _) (ho : (KH P).lookup TA = some ⟨oc, od, .cls cd, sl⟩) (hm : cd.mro = [.ref TA, .type "tuple", .type "object"]) (hb : cd.bases = [.type "tuple"]) (hd : cd.hasDel = false) (hs : sl.toList[4]? = some (some Value.none)) : KHT P
theorem kh_T (P : Params) : KHT P := ⟨_, _, _, _, rfl, rfl, rfl, rfl, rfl⟩
theorem kh_call (P : Params) : specialIn (KH P) (.ref TA) "__call__" = some (some (.builtin "type.__call__")) := by kernel_rfl
theorem kh_typ (P : Params) : instIn (KH P) (.ref TA) (.type "type") = some true := by kernel_rfl
theorem kh_init (P : Params) : findIn (KH P) (.ref TA) "__init__" = some (some (.builtin "object.__init__")) := by kernel_rfl
theorem kh_new (P : Params) : findCls (KH P) (.ref TA) (.type "type") "__new__" = some (.get (.builtin "staticmethod.__get__") (.ref 156) .none (.ref TA)) := by kernel_rfl
theorem kh_reads (P : Params) : readsIn (KH P) TA (.type "type") = true := by kernel_rfl
theorem kh_sm (P : Params) : recIn (KH P) 156 "staticmethod" = some [.ref 96] := by kernel_rfl
theorem kh_getitem (P : Params) : findIn (KH P) (.ref TA) "__getitem__" = some (some (.builtin "tuple.__getitem__")) := by kernel_rfl
theorem kh_iter (P : Params) : findIn (KH P) (.ref TA) "__iter__" = some (some (.builtin "tuple.__iter__")) := by kernel_rfl
end Mine
namespace Mine
section
variable {prog : Program} {w : World} {A : Around} {R : Result → Shared → Prop} {h : Heap} {g : Array GenState} {d : Drawn} {t : Nat} {os : OsState}
theorem tk_mro (X : (KH w.params).In h) : Looks (model prog w) h (mroOf (.ref TA)) [.ref TA, .type "tuple", .type "object"] := by
  obtain ⟨oc, od, cd, sl, ho, hm, _, _, _⟩ := kh_T w.params
  rw [← hm]
  exact (looks_clsIn X (by unfold clsIn; rw [ho])).andThen .now
theorem tk_madeBy (X : (KH w.params).In h) : Looks (model prog w) h (Bind.madeBy (.ref TA)) none := by
  obtain ⟨oc, od, cd, sl, ho, hm, hb, hd, hs⟩ := kh_T w.params
  intro A Q E s k q
  unfold Bind.madeBy
  refine wpAny_bind (tk_mro X A _ E s k ?_)
  rw [List.forIn_cons]
  refine wpAny_bind (wpAny_bind (wpAny_bind (wpAny_bind (wpAny_bind (wpAny_loadPart (k _ _ (X _ _ ho)) (wpAny_pure ?_))))))
  dsimp only
  rw [← Array.getElem?_toList, hs]
  exact wpAny_pure (wpAny_pure (wpAny_pure (wpAny_pure q)))
theorem best_tuple : Slots.bestBase [.type "tuple"] = pure (.type "tuple") := by kernel_rfl
theorem tk_base (X : (KH w.params).In h) : Looks (model prog w) h (Bind.staticBase (.ref TA)) (.type "tuple") := by
  obtain ⟨oc, od, cd, sl, ho, hm, hb, hd, hs⟩ := kh_T w.params
  intro A Q E s k q
  unfold Bind.staticBase
  refine wpAny_bind (tk_mro X A _ E s k ?_)
  rw [List.forIn_cons]
  refine wpAny_bind (wpAny_bind (wpAny_bind (tk_madeBy X A _ E s k ?_)))
  refine wpAny_bind (looks_clsIn X (by unfold clsIn; rw [ho]) A _ E s k ?_)
  rw [hb, best_tuple]
  refine wpAny_bind (wpAny_pure (wpAny_pure ?_))
  dsimp only
  rw [List.forIn_cons]
  refine wpAny_bind (wpAny_bind ?_)
  rw [F.called_tuple.made]
  exact wpAny_pure (wpAny_pure (wpAny_pure (wpAny_pure q)))
theorem tn_kind : builtinKind "tuple.__new__" = some .builtinFn := by decide +kernel
theorem tn_split : splitId "tuple.__new__" = some ("tuple", "__new__") := by decide +kernel
theorem tk_isType (X : (KH w.params).In h) : Looks (model prog w) h (isType (.ref TA)) true := by
  obtain ⟨oc, od, cd, sl, ho, hm, hb, hd, hs⟩ := kh_T w.params
  intro A Q E s k q
  exact wpAny_bind (wpAny_load (k _ _ (X _ _ ho)) (wpAny_pure q))
theorem tk_sub (X : (KH w.params).In h) : Looks (model prog w) h (isSubtype (.ref TA) (.type "tuple")) true := looks_mroIn X (by unfold mroIn; obtain ⟨oc, od, cd, sl, ho, hm, _, _, _⟩ := kh_T w.params; unfold clsIn; rw [ho]; show (if cd.mro.isEmpty = true then _ else _) = _; rw [hm]; rfl)
theorem w_ifT {M : Model} {α : Type} {A : Around} {c : Bool} {x y : Sem α} {Q : α → Shared → Prop} {E : Value → Shared → Prop} {s : Shared} (h : c = true) (k : wpAny M A x Q E s) : wpAny M A (if c = true then x else y) Q E s := by rw [if_pos h]; exact k
theorem w_ifF {M : Model} {α : Type} {A : Around} {c : Bool} {x y : Sem α} {Q : α → Shared → Prop} {E : Value → Shared → Prop} {s : Shared} (h : c = false) (k : wpAny M A y Q E s) : wpAny M A (if c = true then x else y) Q E s := by rw [h]; exact k
theorem w_eq {M : Model} {α : Type} {A : Around} {m : Sem α} {v : α} {Q : α → Shared → Prop} {E : Value → Shared → Prop} {s : Shared} (h : m = pure v) (k : Q v s) : wpAny M A m Q E s := by rw [h]; exact wpAny_pure k
noncomputable abbrev eDict : Obj := { cls := .type "dict", data := .dict #[] }
noncomputable abbrev tokObj (items : Array Value) (dx : Addr) : Obj := { cls := .ref TA, dict := some dx, data := .seq items }
theorem tk_new (X : (KH w.params).In h) {l : Addr} {items : Array Value} (hl : PTup h l items) (hsz : items.size ≤ sizeLine)
    (hq : ∀ h' n dx, (∀ b o, h.get? b = some o → h'.get? b = some o) → h'.get? n = some (tokObj items dx) → h.get? n = none → R (.ok (.ret (.ref n))) ⟨h', g, d, t, os⟩) :
    codeAny (model prog w) A (.call (.builtin "tuple.__new__") ⟨[.ref TA, .ref l], []⟩) R ⟨h, g, d, t, os⟩ := by
  have T1 := tk_isType (prog := prog) X
  have T2 := tk_sub (prog := prog) X
  have T3 := tk_base (prog := prog) X
  refine codeAny_call_builtin_code (Code.quiet_builtin _ (by decide +kernel)) ?_
  have same : ∀ (b : Addr) (o : Obj), h.get? b = some o → (⟨h, g, d, t, os⟩ : Shared).heap.get? b = some o := fun _ _ e => e
  unfold checkBuiltinCall
  rw [tn_kind, tn_split]
  dsimp only
  refine w_ifT rfl (wpAny_bind (T1 _ _ _ _ same ?_))
  refine w_ifF rfl (wpAny_bind (T2 _ _ _ _ same ?_))
  refine w_ifF rfl (wpAny_bind (T3 _ _ _ _ same ?_))
  refine wpAny_bind (w_eq F.called_tuple.made ?_)
  refine w_ifF (by decide +kernel) ?_
  repeat lk
  have T4 := tk_madeBy (prog := prog) X
  have T5 : Looks (model prog w) h (typeLookup (.ref TA) "__init__") (some (.builtin "object.__init__")) := looks_findIn X (kh_init _)
  have T6 : Looks (model prog w) h (Bind.madeHere "tuple.__new__" (.ref TA)) () := T3.andThen (by rw [F.called_tuple.made]; exact Looks.now.andThen (Looks.of_pure (by simp only [Option.map_some, bne_self_eq_false, Bool.false_eq_true, if_false])))
  refine codeAny_builtin F.entry_tuple_new ?_
  unfold Builtin.«tuple.__new__»
  obtain ⟨n, hl⟩ := hl
  have col : ∀ {A' : Around} {Q : List Value → Shared → Prop} {E : Value → Shared → Prop}, (∀ h', (∀ b o', h.get? b = some o' → h'.get? b = some o') → Q items.toList ⟨h', g, d, t, os⟩) → wpAny (model prog w) A' (collect (.ref l)) Q E ⟨h, g, d, t, os⟩ :=
    fun hQ => wpAny_collect_seq (s := ⟨h, g, d, t, os⟩) (T := "tuple") (o := { cls := .type "tuple", data := .seq items n }) (items := items) (n := n) l (.inr rfl) hl rfl rfl hQ hsz
  refine wpAny_bind (T1 _ _ _ _ same ?_)
  refine w_ifF rfl (wpAny_bind (T2 _ _ _ _ same ?_))
  refine w_ifF rfl (wpAny_bind (T6 _ _ _ _ same ?_))
  refine wpAny_bind (T5 _ _ _ _ same ?_)
  refine w_ifT (beq_self_eq_true _) ?_
  dsimp only
  repeat (first | with_reducible refine col ?_ | with_reducible refine w_ifF rfl ?_ | lk)
  intro h' hk
  obtain ⟨oc, od, cd, sl, ho, hm, hb, hd, hs⟩ := kh_T w.params
  have hC : h'.get? TA = some ⟨oc, od, .cls cd, sl⟩ := hk _ _ (X _ _ ho)
  refine wpAny_bind (wpAny_pure ?_)
  rw [Array.toArray_toList]
  refine wpAny_bind (wpAny_alloc (wpAny_bind ?_))
  unfold newObj
  dsimp only
  rw [if_neg (by simpa using hsz)]
  unfold newObjAsIs classHasDel
  have key : R (.ok (.ret (.ref (h'.push eDict).objs.size))) ⟨(h'.push eDict).push (tokObj items h'.objs.size), g, d, t, os⟩ := by
    refine hq _ _ h'.objs.size (fun b o e => Heap.get?_push_of_some _ (Heap.get?_push_of_some _ (hk _ _ e))) (Heap.get?_push_size _ rfl) ?_
    cases e : h.get? (h'.push eDict).objs.size with
    | none => rfl
    | some o => exact absurd (Heap.lt_size (Heap.get?_push_of_some eDict (hk _ _ e))) (Nat.lt_irrefl _)
  refine wpAny_bind (wpAny_bind (wpAny_alloc (nd_pure (wpAny_bind (wpAny_bind (wpAny_load (Heap.get?_push_of_some _ (Heap.get?_push_of_some _ hC)) ?_))))))
  dsimp only
  rw [hd]
  refine wpAny_pure ?_
  rw [if_neg Bool.false_ne_true]
  exact wpAny_pure (wpAny_pure key)
end
end Mine
end
section
open PySem PySem.W PyProof.Rows PySem.Calls Builtin
namespace Mine
noncomputable def newX : FnX KH 96 := ⟨_, _, fun _ => ⟨_, rfl, rfl⟩, rfl⟩
theorem kh_96 (P : Params) : ∃ oc od sl, (KH P).lookup 96 = some ⟨oc, od, .func newX.fd, sl⟩ := ⟨_, _, _, rfl⟩
theorem kh_96c (P : Params) : codeIn (KH P) newX.fd.code newX.fd.qualname = true := by kernel_rfl
section
variable {prog : Program} {w : World} {A : Around} {E : Value → Shared → Prop} {s : Shared} {env : Env}
theorem names5 {a b c d e : Expr} {va vb vc vd ve : Value} {pos : Pos} {Q : List Value → Shared → Prop} (na : yU a = true) (nb : yU b = true) (nc : yU c = true) (nd : yU d = true) (ne : yU e = true)
    (ha : ∀ {Q : Value → Shared → Prop}, Q va s → wpAny (model prog w) A (eval a env) Q E s) (hb : ∀ {Q : Value → Shared → Prop}, Q vb s → wpAny (model prog w) A (eval b env) Q E s) (hc : ∀ {Q : Value → Shared → Prop}, Q vc s → wpAny (model prog w) A (eval c env) Q E s)
    (hd : ∀ {Q : Value → Shared → Prop}, Q vd s → wpAny (model prog w) A (eval d env) Q E s) (he : ∀ {Q : Value → Shared → Prop}, Q ve s → wpAny (model prog w) A (eval e env) Q E s)
    (h : Q [va, vb, vc, vd, ve] s) : wpAny (model prog w) A (spliced (backTo pos (starEach [a, b, c, d, e] env))) Q E s := by
  rw [qL na, qL nb, qL nc, qL nd, qL ne]
  exact spliced_cons (ha (spliced_cons (hb (spliced_cons (hc (spliced_cons (hd (spliced_cons (he (spliced_nil h))))))))))
end
theorem kh_tnew (P : Params) : findCls (KH P) (.type "tuple") (.type "type") "__new__" = some (.val (.builtin "tuple.__new__")) := by kernel_rfl
theorem kh_ttype : typeOf (.type "tuple") = pure (.type "type") := by kernel_rfl
section
variable {prog : Program} {w : World} {A : Around} {R : Result → Shared → Prop} {s : Shared} {mg mb : Str → Option Value}
theorem tk_fn (X : (KH w.params).In s.heap) (G : s.heap.Ns mainGlobals mg) (B : s.heap.Ns builtinsNs mb) (hb : ∀ x : Str, x ≠ "__name__" → mb x = bootBuiltins x) (hmg : mg "tuple" = none) (hl : s.heap.NoLimit) (hA : A.depth < 900) {va vb vc vd ve : Value}
    (hq : ∀ s' n dx, Ext s s' → s'.heap.get? n = some (tokObj #[va, vb, vc, vd, ve] dx) → s.heap.get? n = none → R (.ok (.ret (.ref n))) s') :
    codeAny (model prog w) A (.call (.ref 96) ⟨[.ref TA, va, vb, vc, vd, ve], []⟩) R s := by
  obtain ⟨oc, od, sl, ho⟩ := kh_96 w.params
  refine codeAny_call_def (fd := newX.fd) (body := newX.body) (binds := [("_cls", .ref TA), ("kind", va), ("string", vb), ("start", vc), ("end", vd), ("line", ve)]) (by show A.depth < 1000; omega) (X _ _ ho) rfl hl (codeRec_of X (kh_96c _)) rfl (BindsTo.of_eq (by rfl)) (by decide) (by intro y hy; simp only [List.mem_cons, List.not_mem_nil, or_false] at hy; rcases hy with rfl | rfl | rfl | rfl | rfl | rfl <;> rfl) (fun h₁ hns hk => ?_) rfl rfl rfl
  have Fr1 : Fr s.heap s.heap.objs.size h₁ (fun x => ([("_cls", .ref TA), ("kind", va), ("string", vb), ("start", vc), ("end", vd), ("line", ve)] : List (Str × Value)).reverse.lookup x) := ⟨hns, hk, Nat.le_refl _⟩
  refine wpAny_execs_cons (wpAny_Expr (wpAny_Constant_str ?_) rfl)
  refine wpAny_execs_cons (wpAny_Return_some ?_)
  have nm : ∀ {x : Str} {v : Value} {q : Pos} {h' : Heap} {tk : Nat} {A' : Around} {E' Q : Value → Shared → Prop}, (∀ b o, h₁.get? b = some o → h'.get? b = some o) → (callEnv newX.fd s.heap.objs.size 96).kindOf x = some .local → (x == ("__debug__" : Str)) = false → 
      ([("_cls", .ref TA), ("kind", va), ("string", vb), ("start", vc), ("end", vd), ("line", ve)] : List (Str × Value)).reverse.lookup x = some v → Q v { s with heap := h', toks := tk } → wpAny (model prog w) A' (eval (.Name x q) (callEnv newX.fd s.heap.objs.size 96)) Q E' { s with heap := h', toks := tk } :=
    fun hk' h1 h2 h3 h4 => wpAny_Name (wpAny_loadName_local rfl h1 (hns.keeps hk') h3 h4) h2
  have ns5 : s.heap.get? s.heap.objs.size = none := by
    cases e : s.heap.get? s.heap.objs.size with
    | none => rfl
    | some o => exact absurd (Heap.lt_size e) (Nat.lt_irrefl _)
  refine MethodCall_ (Name_function_global rfl rfl (loadGlobal_builtin (mg := mg) (mb := mb) (v := .type "tuple") (G.keeps hk) hmg (B.keeps hk) ((hb _ (by decide)).trans (by rfl)) ?_) rfl)
  have hst : Manifest.isStub "tuple" = false := by decide +kernel
  have hhn : handedIn (.builtin "tuple.__new__") = true := by decide +kernel
  refine method_type (K := KH w.params) (T := "tuple") (name := "__new__") (v := .builtin "tuple.__new__") Fr1 X kh_ttype hst (kh_tnew _) hhn ?_
  dsimp only
  refine callWith2 rfl rfl callWith_builtin (nm (fun _ _ e => e) rfl rfl rfl ?_)
  refine wpAny_Tuple (names5 rfl rfl rfl rfl rfl (nm (fun _ _ e => e) rfl rfl rfl) (nm (fun _ _ e => e) rfl rfl rfl) (nm (fun _ _ e => e) rfl rfl rfl) (nm (fun _ _ e => e) rfl rfl rfl) (nm (fun _ _ e => e) rfl rfl rfl) ⟨by show 5 ≤ sizeLine; have := xX; have hz : SZ = 100000 := rfl; omega, ?_⟩)
  refine wpAny_call ?_
  refine tk_new (h := h₁.push { cls := .type "tuple", data := .seq #[va, vb, vc, vd, ve] }) (items := #[va, vb, vc, vd, ve]) (X.keeps fun b o e => Heap.get?_push_of_some _ (hk b o e)) ⟨0, Heap.get?_push_size _ rfl⟩ (by show 5 ≤ sizeLine; have := xX; have hz : SZ = 100000 := rfl; omega) fun h' n dx hk' hn hf => ?_
  refine hq _ n dx ⟨fun b o e => hk' b o (Heap.get?_push_of_some _ (hk b o e)), rfl, rfl, rfl⟩ hn ?_
  cases e : s.heap.get? n with
  | none => rfl
  | some o => rw [Heap.get?_push_of_some _ (hk n o e)] at hf; cases hf
end
end Mine
end
section
open PySem PySem.W PyProof.Rows PySem.Calls Builtin
namespace Mine
theorem oi_args5 (a b c d e f : Value) : argsOk "object.__init__" ⟨[a, b, c, d, e, f], []⟩ := by unfold argsOk; kernel_rfl
section
variable {prog : Program} {w : World} {A : Around} {R : Result → Shared → Prop} {s : Shared} {mg mb : Str → Option Value}
theorem tk_call (X : (KH w.params).In s.heap) (G : s.heap.Ns mainGlobals mg) (B : s.heap.Ns builtinsNs mb) (hb : ∀ x : Str, x ≠ "__name__" → mb x = bootBuiltins x) (hmg : mg "tuple" = none) (hl : s.heap.NoLimit) (hA : A.depth < 880) {va vb vc vd ve : Value}
    (hq : ∀ s' n dx, Ext s s' → s'.heap.get? n = some (tokObj #[va, vb, vc, vd, ve] dx) → s.heap.get? n = none → R (.ok (.ret (.ref n))) s') :
    codeAny (model prog w) A (.call (.ref TA) ⟨[va, vb, vc, vd, ve], []⟩) R s := by
  obtain ⟨oc, od, cd, sl, ho, hm, hbs, hd, hs⟩ := kh_T w.params
  have hC := X _ _ ho
  refine codeAny_of_tree ?_
  show wpAny _ _ (callAny (.ref TA) _) _ _ _
  refine nd_load hC ?_
  show wpAny _ _ (callAny.viaDunder (.ref TA) _) _ _ _
  unfold callAny.viaDunder
  obtain ⟨h, g, d, t, os⟩ := s
  have call := looks_specialIn (M := model prog w) X (kh_call w.params)
  have typ := looks_instIn (M := model prog w) X (kh_typ w.params)
  refine wpAny_bind (call.at ?_)
  dsimp only
  rw [tc_bind]
  refine wpAny_bind (wpAny_pure (wpAny_bind (wpAny_pure ?_)))
  refine wpAny_pure (a := Fin.again (.call (.builtin "type.__call__") ⟨[.ref TA, va, vb, vc, vd, ve], []⟩)) (And.intro rfl ?_)
  refine codeAny_call_builtin_at (Code.quiet_builtin _ (by decide +kernel)) entry_typeCall (check_slot tc_kind tc_split typ (tc_args _ _ _) ?_)
  unfold Builtin.«type.__call__»
  have hmr := tk_mro (prog := prog) X
  have T4 := tk_madeBy (prog := prog) X
  have e4 : ([.ref TA, .type "tuple", .type "object"] : List Value).isEmpty = false := rfl
  have GA : ∀ {A' : Around} {Q E : Value → Shared → Prop}, Q (.ref 96) ⟨h, g, d, t + 1, os⟩ → wpAny (model prog w) A' (getAttr (.ref TA) "__new__") Q E ⟨h, g, d, t, os⟩ := fun hQ =>
    cls_bind (K := KH w.params) (s := ⟨h, g, d, t, os⟩) X (kh_reads _) (kh_new _) (wpAny_call (sm_get (s := ⟨h, g, d, t + 1, os⟩) X (kh_sm _) (handed_on (by decide +kernel) hQ)))
  repeat (first | with_reducible refine w_ifF e4 ?_ | with_reducible refine GA ?_ | with_reducible refine wpAny_call ?_ | lk)
  refine tk_fn (s := ⟨h, g, d, t + 1, os⟩) (mg := mg) (mb := mb) X G B hb hmg hl ?_ fun s' n dx x' hn hf => ?_
  · show A.depth + _ < _
    have e : (Code.builtin "type.__call__" { pos := [Value.ref TA, va, vb, vc, vd, ve] }).weight = 1 := by kernel_rfl
    omega
  have X' : (KH w.params).In s'.heap := X.keeps x'.keep
  have Tn : Looks (model prog w) s'.heap (typeOf (.ref n)) (.ref TA) := (Looks.ld (part := none) hn).andThen .now
  have Tself : Looks (model prog w) s'.heap (isSubtype (.ref TA) (.ref TA)) true := looks_mroIn X' (by unfold mroIn clsIn; rw [ho]; show (if cd.mro.isEmpty = true then _ else _) = _; rw [hm]; rfl)
  have Ti : Looks (model prog w) s'.heap (isInstance (.ref n) (.ref TA)) true := Tn.andThen Tself
  have Tinit : Looks (model prog w) s'.heap (typeLookup (.ref TA) "__init__") (some (.builtin "object.__init__")) := looks_findIn X' (kh_init _)
  have T4' := tk_madeBy (prog := prog) X'
  have Tobj : Looks (model prog w) s'.heap (isInstance (.ref n) (.type "object")) true := Tn.andThen (looks_mroIn X' (by unfold mroIn clsIn; rw [ho]; show (if cd.mro.isEmpty = true then _ else _) = _; rw [hm]; rfl))
  have ob := oi_bind (.ref n)
  obtain ⟨h', g', d', t', os'⟩ := s'
  dsimp only
  unfold callSpecial? specialOf
  repeat (first | with_reducible refine w_ifF rfl ?_ | rw [ob] | with_reducible refine wpAny_call ?_ | lk)
  refine codeAny_call_builtin oi_plain entry_oi (@check_slot (model prog w) _ _ ⟨h', g', d', t', os'⟩ "object.__init__" "object" "__init__" (.ref n) [va, vb, vc, vd, ve] [] _ oi_kind oi_split Tobj (oi_args5 _ _ _ _ _ _) ?_)
  unfold Builtin.«object.__init__»
  have e1 : (!([va, vb, vc, vd, ve] : List Value).isEmpty || !([] : List (Str × Value)).isEmpty) = true := rfl
  dsimp only [List.cons_append, List.nil_append]
  rw [if_pos e1]
  refine wpAny_bind (Tn.at ?_)
  refine wpAny_bind (Tinit.at ?_)
  refine wpAny_bind (T4'.at ?_)
  dsimp only
  rw [if_neg (by decide +kernel), if_neg (by decide +kernel)]
  refine wpAny_pure (wpAny_pure (wpAny_pure ?_))
  exact hq _ n dx ⟨x'.keep, x'.gens, x'.drawn, x'.os⟩ hn hf
end
end Mine
end
section
open PySem PySem.W PyProof.Rows PySem.Calls Builtin
namespace Mine
theorem tok_getitem_at (l : Addr) (items : Array Value) (n : Nat) (dd : Option Addr) (i : Int) (u : Tok) (k : Nat) (y : Value) (hlo : -2 ^ 63 ≤ i) (hhi : i < 2 ^ 63) (hk : seqIndex? i items.size = some k) (hy : items[k]? = some y) :
    Meets (Builtin.«tuple.__getitem__» ⟨[.ref l, .int i u], []⟩)
      (fun _ R s => s.heap.get? l = some { cls := .ref TA, dict := dd, data := .seq items n } ∧ R (.ok (.ret y)) s) :=
  .of_wp fun prog w A R s h => by
    obtain ⟨hp, g, d, tk, os⟩ := s; obtain ⟨hl, h⟩ := h
    have f1 := AutoSeq1.idx_int
    have hf : ¬ (decide (i < -2 ^ 63) || decide (i ≥ 2 ^ 63)) = true := by simp; omega
    wp_walk using AutoSeq1.wpAny_loadPart' hl
    simp only [hk, hy, Option.bind_some]
    refine wpAny_ite_false (by simp; omega) ?_
    wp_walk
    exact ⟨_, rfl, h⟩
theorem tg_kind : builtinKind "tuple.__getitem__" = some .slot := by decide +kernel
theorem tg_split : splitId "tuple.__getitem__" = some ("tuple", "__getitem__") := by decide +kernel
theorem ti_kind : builtinKind "tuple.__iter__" = some .slot := by decide +kernel
theorem ti_split : splitId "tuple.__iter__" = some ("tuple", "__iter__") := by decide +kernel
theorem any_deque {t : Value} : (seqItemTypes.anyM fun n => isSubtype t (.type n)) = (isSubtype t (.type "collections.deque") >>= fun b => match b with | true => pure true | false => pure false : Sem Bool) := rfl
section
variable {prog : Program} {w : World} {A : Around} {R : Result → Shared → Prop} {E : Value → Shared → Prop} {s : Shared}
theorem tk_getItem (X : (KH w.params).In s.heap) {a : Addr} {items : Array Value} {k : Int} {u : Tok} {j : Nat} {x : Value} {Q : Value → Shared → Prop} (ht : IsTok TA s.heap a items) (hlo : -(2 ^ 63) ≤ k) (hhi : k < 2 ^ 63) (hj : seqIndex? k items.size = some j) (hx : items[j]? = some x) (h : Q x s) :
    wpAny (model prog w) A (getItem (.ref a) (.int k u)) Q E s := by
  obtain ⟨⟨n, dd⟩, ht⟩ := ht
  dsimp only at ht
  obtain ⟨hh, g, d, t, os⟩ := s
  obtain ⟨oc, od, cd, sl, ho, hm, hbs, hd, hs⟩ := kh_T w.params
  have Tn : Looks (model prog w) hh (typeOf (.ref a)) (.ref TA) := (Looks.ld (part := none) ht).andThen .now
  have Tl : Looks (model prog w) hh (typeLookup (.ref TA) "__getitem__") (some (.builtin "tuple.__getitem__")) := looks_findIn X (kh_getitem _)
  have Ts : ∀ b : Value, Looks (model prog w) hh (isSubtype (.ref TA) b) (([.ref TA, .type "tuple", .type "object"] : List Value).contains b) := fun b => looks_mroIn X (by unfold mroIn clsIn; rw [ho]; show (if cd.mro.isEmpty = true then _ else _) = _; rw [hm]; rfl)
  unfold getItem sequenceKey
  refine wpAny_holding ?_
  refine wpAny_bind (wpAny_bind (Tn.at ?_))
  dsimp only
  rw [any_deque]
  refine wpAny_bind (wpAny_bind ((Ts _).at ?_))
  have e1 : ([.ref TA, .type "tuple", .type "object"] : List Value).contains (.type "collections.deque") = false := by decide +kernel
  rw [e1]
  refine wpAny_pure ?_
  rw [if_pos (by rfl)]
  refine wpAny_pure ?_
  unfold callSpecial? specialOf
  refine wpAny_bind (wpAny_bind (wpAny_bind (Tn.at (Tl.at ?_))))
  dsimp only
  refine wpAny_holding ?_
  rw [slot_tuple_getitem.bind]
  refine wpAny_bind (wpAny_pure (wpAny_bind (wpAny_call ?_)))
  have Tobj : Looks (model prog w) hh (isInstance (.ref a) (.type "tuple")) true := Tn.andThen (Ts _)
  refine codeAny_call_builtin slot_tuple_getitem.plain entry_tuple_getitem (@check_slot (model prog w) _ _ ⟨hh, g, d, t, os⟩ "tuple.__getitem__" "tuple" "__getitem__" (.ref a) [.int k u] [] _ tg_kind tg_split Tobj (args_tuple_getitem _ _) ?_)
  refine wpAny_mono (tok_getitem_at a items n dd k u j x hlo hhi hj hx prog w A (wants (fun v s' => Q v s') E) ⟨hh, g, d, t, os⟩ ⟨ht, h⟩) (fun fin s' z => ?_) (fun e s' z => z)
  cases fin with
  | done f => cases f with
    | ret v => exact wpAny_pure (wpAny_pure z)
    | _ => exact z.elim
  | again c => exact ⟨z.1, codeAny_mono z.2 fun r s'' y => by
      rcases r with e | (_ | _ | _ | v)
      · exact y
      all_goals first | exact y.elim | exact wpAny_pure (wpAny_pure y)⟩
theorem tk_item (X : (KH w.params).In s.heap) {value slice : Expr} {a : Addr} {items : Array Value} {k : Int} {u : Tok} {j : Nat} {x : Value} {Q : Value → Shared → Prop} (ht : IsTok TA s.heap a items) (hlo : -(2 ^ 63) ≤ k) (hhi : k < 2 ^ 63) (hj : seqIndex? k items.size = some j) (hx : items[j]? = some x) (h : Q x s)
    (hs : ∀ o i, subscripted slice false o i = operate [o, i] (getItem o i)) : wpAny (model prog w) A (subscriptTail value slice (.ref a) (.int k u)) Q E s := by
  have gi := fun {Q : Value → Shared → Prop} {E : Value → Shared → Prop} (h : Q x s) => tk_getItem (prog := prog) (A := A) (E := E) (Q := Q) X (u := u) ht hlo hhi hj hx h
  obtain ⟨⟨n, dd⟩, ht⟩ := ht
  dsimp only at ht
  obtain ⟨hh, g, d, t, os⟩ := s
  have Tn : Looks (model prog w) hh (typeOf (.ref a)) (.ref TA) := (Looks.ld (part := none) ht).andThen .now
  have Tl : Looks (model prog w) hh (typeLookup (.ref TA) "__getitem__") (some (.builtin "tuple.__getitem__")) := looks_findIn X (kh_getitem _)
  unfold subscriptTail getitemInPython specialOf
  refine wpAny_bind (wpAny_bind (wpAny_bind (Tn.at (Tl.at ?_))))
  refine wpAny_pure (wpAny_bind ?_)
  rw [hs]
  exact wpAny_operating (wpAny_mono (gi (E := E) (Q := fun r s₃ => wpAny (model prog w) A (letTemporaryGo value (.ref a) r >>= fun _ => pure r) Q E s₃) (wpAny_bind (wpAny_letTemporaryGo (wpAny_pure h)))) (fun _ _ x => x) fun _ _ x => x)
noncomputable def SeqAt (h : Heap) (a : Addr) (items : Array Value) : Prop := ∃ o n, h.get? a = some o ∧ o.data = .seq items n
noncomputable def ItAt (h : Heap) (a t : Addr) (i : Nat) : Prop := h.get? a = some { cls := .type "tuple_iterator", data := .fields #[.ref t, .int i 0] }
theorem tk_iter (X : (KH w.params).In s.heap) {a : Addr} {items : Array Value} {Q : Value → Shared → Prop} (ht : IsTok TA s.heap a items)
    (h : ∀ h' it, it = s.heap.objs.size → h' = s.heap.push { cls := .type "tuple_iterator", data := .fields #[.ref a, .int 0 0] } → Q (.ref it) { s with heap := h' }) : wpAny (model prog w) A (pyIter (.ref a)) Q E s := by
  obtain ⟨⟨n, dd⟩, ht⟩ := ht
  dsimp only at ht
  obtain ⟨hh, g, d, t, os⟩ := s
  obtain ⟨oc, od, cd, sl, ho, hm, hbs, hd, hs⟩ := kh_T w.params
  have Tn : Looks (model prog w) hh (typeOf (.ref a)) (.ref TA) := (Looks.ld (part := none) ht).andThen .now
  have Tl : Looks (model prog w) hh (typeLookup (.ref TA) "__iter__") (some (.builtin "tuple.__iter__")) := looks_findIn X (kh_iter _)
  have Tobj : Looks (model prog w) hh (isInstance (.ref a) (.type "tuple")) true := Tn.andThen (looks_mroIn X (by unfold mroIn clsIn; rw [ho]; show (if cd.mro.isEmpty = true then _ else _) = _; rw [hm]; rfl))
  have fin : wpAny (model prog w) A (call (.builtin "tuple.__iter__") [.ref a] >>= fun v => pure (some v)) (fun r s' => ∃ it, r = some (.ref it) ∧ it = hh.objs.size ∧ s' = ⟨hh.push { cls := .type "tuple_iterator", data := .fields #[.ref a, .int 0 0] }, g, d, t, os⟩) E ⟨hh, g, d, t, os⟩ := by
    refine wpAny_bind (wpAny_call (codeAny_call_builtin slot_tuple_iter.plain entry_tuple_iter (@check_slot (model prog w) _ _ ⟨hh, g, d, t, os⟩ "tuple.__iter__" "tuple" "__iter__" (.ref a) [] [] _ ti_kind ti_split Tobj (args_tuple_iter _) ?_)))
    show wpAny _ _ (do ret (← newFields "tuple_iterator" [.ref a, rawInt 0])) _ _ _
    exact wpAny_bind (wpAny_newObj_type (wpAny_pure (wpAny_pure ⟨_, rfl, rfl, rfl⟩)))
  have one : ∀ refuse : Sem Value, wpAny (model prog w) A (callSpecialIfBoundUnlessNone? (.ref a) "__iter__" refuse) (fun r s' => ∃ it, r = some (.ref it) ∧ it = hh.objs.size ∧ s' = ⟨hh.push { cls := .type "tuple_iterator", data := .fields #[.ref a, .int 0 0] }, g, d, t, os⟩) E ⟨hh, g, d, t, os⟩ := by
    intro refuse
    simp only [callSpecialIfBoundUnlessNone?, bindSpecialIfBound?, specialOf]
    refine wpAny_holding (wpAny_bind (wpAny_bind (wpAny_bind (Tn.at (Tl.at ?_)))))
    dsimp only
    rw [slot_tuple_iter.bind]
    have fin2 : wpAny (model prog w) A (if (Value.builtin "tuple.__iter__" == Value.none) = true then (refuse >>= fun v => pure (some v)) else (call (.builtin "tuple.__iter__") [.ref a] >>= fun v => pure (some v))) (fun r s' => ∃ it, r = some (.ref it) ∧ it = hh.objs.size ∧ s' = ⟨hh.push { cls := .type "tuple_iterator", data := .fields #[.ref a, .int 0 0] }, g, d, t, os⟩) E ⟨hh, g, d, t, os⟩ := by
      rw [if_neg (show ¬ ((Value.builtin "tuple.__iter__" == Value.none) = true) from Bool.false_ne_true)]
      exact fin
    refine wpAny_bind (wpAny_askSetting ?_)
    split
    · exact wpAny_bind (wpAny_pure (wpAny_pure fin2))
    · exact wpAny_tryCatch (wpAny_bind (wpAny_pure (wpAny_pure fin2)))
  unfold pyIter
  refine wpAny_bind ?_
  unfold specialOf
  refine wpAny_bind (Tn.at (Tl.at ?_))
  show wpAny (model prog w) A (callSpecialIfBoundUnlessNone? (.ref a) "__iter__" _ >>= _) Q E _
  refine wpAny_bind (wpAny_mono (one _) (fun r s' hr => ?_) fun _ _ z => z)
  obtain ⟨it, rfl, rfl, rfl⟩ := hr
  have hit : (hh.push { cls := .type "tuple_iterator", data := .fields #[.ref a, .int 0 0] }).get? hh.objs.size = some { cls := .type "tuple_iterator", data := .fields #[.ref a, .int 0 0] } := Heap.get?_push_size _ rfl
  refine wpAny_bind (wpAny_specialOf (T := "tuple_iterator") ⟨_, hit, rfl⟩ slot_tupleiter_next.lookup ?_)
  exact wpAny_pure (h _ _ rfl rfl)
theorem seq_next {it t : Addr} {i : Nat} {items : Array Value} {Q : Option Value → Shared → Prop} (hh : A.handled = none) (hit : ItAt s.heap it t i) (ht : SeqAt s.heap t items) 
    (h1 : ∀ x h', items[i]? = some x → ItAt h' it t (i + 1) → (∀ b o, b ≠ it → s.heap.get? b = some o → h'.get? b = some o) → Q (some x) { s with heap := h' })
    (h2 : ∀ h', items[i]? = none → (∀ b o, b ≠ it → s.heap.get? b = some o → h'.get? b = some o) → Q none { s with heap := h' }) : wpAny (model prog w) A (pyNext (.ref it)) Q E s := by
  have ty : s.TypeIs (.ref it) "tuple_iterator" := ⟨_, hit, rfl⟩
  obtain ⟨ot, nt, hot, hod⟩ := ht
  have hit' : s.heap.get? it = some { cls := .type "tuple_iterator", data := .fields #[.ref t, .int i 0] } := hit
  unfold pyNext
  refine wpAny_bind (wpAny_attempt (wpAny_callSpecial?_slot (name := Str.ofString "__next__") ty slot_tupleiter_next (wpAny_call_entry slot_tupleiter_next ty entry_tupleiter_next ?_ (args_tupleiter_next _))))
  show wpAny _ _ (field (.ref it) 0 >>= _) _ _ s
  refine wpAny_bind (wpAny_field hit' rfl (x := .ref t) rfl ?_)
  dsimp only
  rw [if_neg (show ¬ ((Value.ref t == Value.none) = true) from Bool.false_ne_true)]
  refine wpAny_bind (wpAny_field hit' rfl (x := .int i 0) rfl ?_)
  dsimp only
  refine wpAny_bind (wpAny_seqItems hot hod ?_)
  dsimp only
  rw [Int.toNat_natCast]
  cases hx : items[i]? with
  | some x =>
    dsimp only
    refine wpAny_bind (wpAny_setField hit' rfl (by simp) (wpAny_pure ⟨x, rfl, wpAny_pure (h1 x _ hx ?_ fun b o hb e => (Heap.get?_update_ne _ _ _ _ hb).trans e)⟩))
    unfold ItAt
    refine (Heap.get?_update_self _ hit' (Obj.isFreed_of_fields (Obj.data_mapFields rfl _))).trans ?_
    rfl
  | none =>
    dsimp only
    refine wpAny_bind (wpAny_rule (wpAny_bind (wpAny_setField hit' rfl (by simp) ?_)))
    unfold SmallTypes.stopIteration newExc
    refine wpAny_bind ?_
    have fm : firstArgMember (.type "StopIteration") [] = pure .none := by first | rfl | (simp only [firstArgMember]; rfl)
    unfold newTuple
    refine wpAny_bind (wpAny_newObj_type ?_ (by size_fits))
    refine wpAny_bind ?_
    rw [fm]
    refine wpAny_pure (wpAny_newObj_type ?_ (by size_fits))
    unfold raiseNew
    refine wpAny_bind (wpAny_handled ?_)
    rw [show A.in1.handled = none from hh]
    refine wpAny_bind (wpAny_pure (wpAny_throw ?_))
    refine wpAny_bind (wpAny_isInstance (T := "StopIteration") (b := true) ⟨_, Heap.get?_push_size _ rfl, rfl⟩ isSubtype_stop (wpAny_pure (h2 _ hx ?_)))
    exact fun b o hb e => Heap.get?_push_of_some _ (Heap.get?_push_of_some _ ((Heap.get?_update_ne _ _ _ _ hb).trans e))
theorem seq_draw {it t : Addr} {items : Array Value} (hh : A.handled = none) (hne : t ≠ it) : ∀ (n i : Nat) (s : Shared) (Q : List Value → Shared → Prop), ItAt s.heap it t i → SeqAt s.heap t items → i + n ≤ items.size →
    (∀ h', ItAt h' it t (i + n) → SeqAt h' t items → (∀ b o, b ≠ it → s.heap.get? b = some o → h'.get? b = some o) → Q ((items.toList.drop i).take n) { s with heap := h' }) → wpAny (model prog w) A (draw (.ref it) n) Q E s
  | 0, i, s, Q, hit, ht, _, k => by
    have := k s.heap hit ht fun _ _ _ e => e
    rw [List.take_zero] at this
    exact wpAny_pure this
  | n + 1, i, s, Q, hit, ht, hle, k => by
    refine wpAny_bind (seq_next hh hit ht (fun x h' hx hit' hk => ?_) fun h' hx _ => ?_)
    · obtain ⟨ot, nt, e1, e2⟩ := ht
      refine wpAny_bind (wpAny_holding (seq_draw hh hne n (i + 1) _ _ hit' ⟨ot, nt, hk t ot hne e1, e2⟩ (by omega) fun h'' hit'' ht'' hk'' => wpAny_pure ?_))
      have := k h'' (by rw [Nat.add_right_comm] at hit''; exact hit'') ht'' fun b o hb e => hk'' b o hb (hk b o hb e)
      have e3 : items.toList.drop i = x :: items.toList.drop (i + 1) := by
        obtain ⟨hi, rfl⟩ := Array.getElem?_eq_some_iff.mp hx
        rw [List.drop_eq_getElem_cons (by simpa using hi)]; simp
      rw [e3, List.take_succ_cons] at this
      exact this
    · have := Array.getElem?_eq_none_iff.mp hx
      omega
theorem tk_unpack (X : (KH w.params).In s.heap) {a : Addr} {items : Array Value} {n : Nat} {Q : List Value → Shared → Prop} (hh : A.handled = none) (ht : IsTok TA s.heap a items) (hn : n = items.size)
    (h : ∀ s', Ext s s' → Q items.toList s') : wpAny (model prog w) A (unpackItems (.ref a) n none) Q E s := by
  subst hn
  have ht0 := ht
  obtain ⟨⟨n, dd⟩, ht⟩ := ht
  dsimp only at ht
  have Tn : Looks (model prog w) s.heap (typeOf (.ref a)) (.ref TA) := (Looks.ld (part := none) ht).andThen .now
  have Tl : Looks (model prog w) s.heap (typeLookup (.ref TA) "__iter__") (some (.builtin "tuple.__iter__")) := looks_findIn X (kh_iter _)
  unfold unpackItems notIterableAtAll specialOf
  refine wpAny_bind (wpAny_bind (wpAny_bind (Tn.here (Tl.here ?_))))
  rw [if_pos (show (some (Value.builtin "tuple.__iter__")).isSome = true from rfl)]
  refine wpAny_pure ?_
  rw [if_neg Bool.false_ne_true]
  refine wpAny_bind (wpAny_holding (tk_iter X ht0 fun h' it e1 e2 => ?_))
  subst e1 e2
  have hne : a ≠ s.heap.objs.size := Nat.ne_of_lt (Heap.lt_size ht)
  refine wpAny_bind (wpAny_holding (seq_draw hh hne items.size 0 _ _ (Heap.get?_push_size _ rfl) ⟨_, n, Heap.get?_push_of_some _ ht, rfl⟩ (by omega) fun h1 hit1 ht1 hk1 => ?_))
  have hall : List.take items.size (List.drop 0 items.toList) = items.toList := by
    rw [List.drop_zero]; exact List.take_of_length_le (by simp)
  rw [hall, if_neg (by simp)]
  have fresh : s.heap.get? s.heap.objs.size = none := by
    cases e : s.heap.get? s.heap.objs.size with
    | none => rfl
    | some o => exact absurd (Heap.lt_size e) (Nat.lt_irrefl _)
  refine wpAny_bind (wpAny_holding (seq_next hh hit1 ht1 (fun x h' hx _ _ => ?_) fun h2 hx hk2 => ?_))
  · have := (Array.getElem?_eq_some_iff.mp hx).1
    omega
  · rw [if_neg (by simp)]
    refine wpAny_pure (h _ ⟨fun b o e => ?_, rfl, rfl, rfl⟩)
    have hb : b ≠ s.heap.objs.size := fun q => by rw [q, fresh] at e; cases e
    exact hk2 b o hb (hk1 b o hb (Heap.get?_push_of_some _ e))
end
end Mine
end
section
open PySem PySem.W PyProof.Rows PySem.SeqAt PySem.Calls
namespace Mine
theorem zB {p : P5} {N : NI} {sts : List Stmt} {ms : List MS} : GsOK p N sts (.stuck :: ms) := fun _ _ _ _ _ h => nn h
end Mine
end
section
open PySem PySem.W PyProof.Rows
namespace Mine
noncomputable abbrev L1.B : Tbl where
  FT := [("_law_cell", 180), ("expand_indent", 173), ("Token", 155), ("_law_laid", 194), ("_law_scan", 187), ("_law_told", 199), ("continued_indentation", 166)]
  GC := [("NEWLINE", (.tup [.int 62, .int 4])), ("FSTRING_START", (.int (-1))), ("TSTRING_START", (.int (-1)))]
  TK := [("OP", 54), ("COMMENT", 61), ("STRING", 3), ("NAME", 1), ("NL", 62), ("NEWLINE", 4)]
  T := 155
section
variable {prog : Program} {w : World} {h₁ : Heap} {n : Nat} {Γ : xB}
noncomputable def L1.cell.x : FnX KH0 180 := ⟨_, _, fun _ => ⟨_, rfl, rfl⟩, rfl⟩
noncomputable def L1.cell.ni : NI where
  slots := (["script", "at"] : List Str)
  gl := ["abs", "len", "int"]
  sc := L1.cell.x.fd.scope
noncomputable def L1.cell.ms : List MS :=
  [.ret (.ite (.cmp .lt (.loc 1) (.len (.loc 0))) (.abs (.toInt (.idx (.loc 0) (.loc 1)))) (.bin .add (.bin .mul (.k (.int 7)) (.loc 1)) (.k (.int 3))))]
theorem L1.cell.sts (P : P5.Ok ⟨prog, w, L1.B, h₁, n, Γ⟩) : zS ⟨prog, w, L1.B, h₁, n, Γ⟩ L1.cell.ni L1.cell.x.body L1.cell.ms :=
  (qZ (st_ret (ev_ite (qF rfl (qQ rfl rfl) (qV (jZ P (qV (qQ rfl rfl)) (qS 1 rfl) rfl)) rfl) (ev_abs P (ev_toInt P (xY P (qV (qQ rfl rfl)) (qQ rfl rfl) sI) (qS 2 rfl) rfl) (qS 0 rfl) rfl) (qH rfl (qH rfl qY (qQ rfl rfl)) qY)))
  qD)
theorem L1.cell.fn (X : (KH0 w.params).In h₁) : FnOK ⟨prog, w, L1.B, h₁, n, Γ⟩ L1.cell.ni 180 L1.cell.x.fd L1.cell.x.body 2 where
  obj := let ⟨o, h1, h2⟩ := L1.cell.x.ok w.params; ⟨o, X _ _ h1, h2⟩
  code := codeRec_of X (by kernel_rfl)
  body := L1.cell.x.hb
  clo := rfl
  sc := rfl
  glob := rfl
  blt := rfl
  bind := fun Vs h => by
    rcases Vs with _ | ⟨v0, Vs⟩
    · simp at h
    rcases Vs with _ | ⟨v1, Vs⟩
    · simp at h
    cases Vs with
    | cons _ _ => simp at h
    | nil => rfl
  chk := by decide +kernel
noncomputable def L1.exp.x : FnX KH0 173 := ⟨_, _, fun _ => ⟨_, rfl, rfl⟩, rfl⟩
noncomputable def L1.exp.ni : NI where
  slots := (["line", "result", "char"] : List Str)
  gl := ["len"]
  sc := L1.exp.x.fd.scope
noncomputable def L1.exp.ms : List MS :=
  [.skip,
  .asg 0 (.meth .rstripC (.loc 0) [(.k (.str [10, 13]))]),
  .ifs (.cmp .notIn (.k (.str [9])) (.loc 0))
    [.ret (.bin .sub (.len (.loc 0)) (.len (.meth .lstrip (.loc 0) [])))]
    [],
  .stuck]
theorem L1.exp.sts (P : P5.Ok ⟨prog, w, L1.B, h₁, n, Γ⟩) : zS ⟨prog, w, L1.B, h₁, n, Γ⟩ L1.exp.ni L1.exp.x.body L1.exp.ms :=
  (qZ st_doc
  (qZ (xZ (ev_rstripC (qQ rfl rfl) (qW _ rfl) rfl (fun _ => rfl) rfl) rfl sW)
  (qZ (st_if (qF rfl (qW _ rfl) (qV (qQ rfl rfl)) rfl)
    (qZ (st_ret (qH rfl (jZ P (qV (qQ rfl rfl)) (qS 0 rfl) rfl) (jZ P (qV (ev_lstrip (qQ rfl rfl) (fun _ => rfl) rfl)) (qS 0 rfl) rfl)))
    qD)
    qD)
  sts_stuck)))
theorem L1.exp.fn (X : (KH0 w.params).In h₁) : FnOK ⟨prog, w, L1.B, h₁, n, Γ⟩ L1.exp.ni 173 L1.exp.x.fd L1.exp.x.body 1 where
  obj := let ⟨o, h1, h2⟩ := L1.exp.x.ok w.params; ⟨o, X _ _ h1, h2⟩
  code := codeRec_of X (by kernel_rfl)
  body := L1.exp.x.hb
  clo := rfl
  sc := rfl
  glob := rfl
  blt := rfl
  bind := fun Vs h => by
    rcases Vs with _ | ⟨v0, Vs⟩
    · simp at h
    cases Vs with
    | cons _ _ => simp at h
    | nil => rfl
  chk := by decide +kernel
noncomputable def L1.scan.x : FnX KH0 187 := ⟨_, _, fun _ => ⟨_, rfl, rfl⟩, rfl⟩
noncomputable def L1.scan.ni : NI where
  slots := (["lines", "found", "depth", "letters", "at", "line", "row", "col", "many", "sign", "end", "kind", "is_bare"] : List Str)
  gl := ["enumerate", "len", "tokenize", "Token"]
  sc := L1.scan.x.fd.scope
noncomputable def L1.scan.ms : List MS :=
  [.unpR [1, 2, 3] [(true, (.lst [])), (false, (.k (.int 0))), (false, (.k (.str [97, 98, 99, 100, 101, 102, 103, 104, 105, 106, 107, 108, 109, 110, 111, 112, 113, 114, 115, 116, 117, 118, 119, 120, 121, 122, 95, 48, 49, 50, 51, 52, 53, 54, 55, 56, 57])))],
  .forEnum 4 5 (.loc 0)
    [.unpR [6, 7, 8] [(false, (.bin .add (.loc 4) (.k (.int 1)))), (false, (.k (.int 0))), (false, (.len (.bor 1)))],
    .whil (.cmp .lt (.loc 7) (.bin .sub (.len (.loc 5)) (.k (.int 1))))
      [.unpR [9, 10] [(false, (.idx (.loc 5) (.loc 7))), (false, (.bin .add (.loc 7) (.k (.int 1))))],
      .ifs (.cmp .ne (.loc 9) (.k (.str [32])))
        [.asg 11 (.k (.int 54)),
        .ifs (.cmp .eq (.loc 9) (.k (.str [35])))
          [.stuck]
          [.ifs (.cmp .eq (.loc 9) (.k (.str [34])))
            [.stuck]
            [.ifs (.cmp .isIn (.loc 9) (.loc 3))
              [.asg 11 (.k (.int 1)),
              .whil (.cmp .isIn (.idx (.loc 5) (.loc 10)) (.loc 3))
                [.asg 10 (.bin .add (.loc 10) (.k (.int 1)))]]
              []]],
        .asg 2 (.bin .add (.loc 2) (.ite (.cmp .isIn (.loc 9) (.k (.str [40, 91, 123]))) (.k (.int 1)) (.ite (.cmp .isIn (.loc 9) (.k (.str [41, 93, 125]))) (.neg (.k (.int 1))) (.k (.int 0))))),
        .app 1 (.call 2 [(.loc 11), (.slc (.loc 5) (some (.loc 7)) (some (.loc 10))), (.tup [(.loc 6), (.loc 7)]), (.tup [(.loc 6), (.loc 10)]), (.loc 5)])]
        [],
      .asg 7 (.loc 10)],
    .asg 12 (.or [(.cmp .eq (.len (.bor 1)) (.loc 8)), (.cmp .eq (.idx (.idx (.bor 1) (.loc 8)) (.k (.int 0))) (.k (.int 61)))]),
    .asg 11 (.ite (.or [(.cmp .gt (.loc 2) (.k (.int 0))), (.loc 12)]) (.k (.int 62)) (.k (.int 4))),
    .app 1 (.call 2 [(.loc 11), (.k (.str [10])), (.tup [(.loc 6), (.bin .sub (.len (.loc 5)) (.k (.int 1)))]), (.tup [(.loc 6), (.len (.loc 5))]), (.loc 5)])],
  .freeze 1,
  .ret (.loc 1)]
theorem L1.scan.sts (P : P5.Ok ⟨prog, w, L1.B, h₁, n, Γ⟩) : zS ⟨prog, w, L1.B, h₁, n, Γ⟩ L1.scan.ni L1.scan.x.body L1.scan.ms :=
  (qZ (st_unpR (evxs_own (evf_lst qK) rfl (xF qY rfl (xF (qW _ rfl) rfl evxs_nil))) rfl rfl (fun _ => rfl) (by rintro ⟨⟩ h; cases h; rfl) (by decide) rfl rfl)
  (qZ (st_forEnum P (qQ rfl rfl) rfl rfl 
    (qZ (st_unpR (xF (qH rfl (qQ rfl rfl) qY) rfl (xF qY rfl (xF (jZ P (zK rfl rfl) (qS 1 rfl) rfl) rfl evxs_nil))) rfl rfl (fun _ => rfl) (by rintro ⟨⟩ h; cases h; rfl) (by decide) rfl rfl)
    (qZ (st_while (qF rfl (qQ rfl rfl) (qV (qH rfl (jZ P (qV (qQ rfl rfl)) (qS 1 rfl) rfl) qY)) rfl)
      (qZ (st_unpR (xF (xY P (qV (qQ rfl rfl)) (qQ rfl rfl) sI) rfl (xF (qH rfl (qQ rfl rfl) qY) rfl evxs_nil)) rfl rfl (fun _ => rfl) (by rintro ⟨⟩ h; cases h; rfl) (by decide) rfl rfl)
      (qZ (st_if (qF rfl (qQ rfl rfl) (qV (qW _ rfl)) rfl)
        (qZ (xZ (ev_tk P (qS 0 rfl) (qS 2 rfl)) rfl sW)
        (qZ (st_if (qF rfl (qQ rfl rfl) (qV (qW _ rfl)) rfl)
          sts_stuck
          (qZ (st_if (qF rfl (qQ rfl rfl) (qV (qW _ rfl)) rfl)
            sts_stuck
            (qZ (st_if (qF rfl (qQ rfl rfl) (qV (qQ rfl rfl)) rfl)
              (qZ (xZ (ev_tk P (qS 3 rfl) (qS 2 rfl)) rfl sW)
              (qZ (st_while (qF rfl (xY P (qV (qQ rfl rfl)) (qQ rfl rfl) sI) (qV (qQ rfl rfl)) rfl)
                (qZ (xZ (qH rfl (qQ rfl rfl) qY) rfl sW)
                qD))
              qD))
              qD)
            qD))
          qD))
        (qZ (xZ (qH rfl (qQ rfl rfl) (ev_ite (qF rfl (qQ rfl rfl) (qV (qW _ rfl)) rfl) qY (ev_ite (qF rfl (qQ rfl rfl) (qV (qW _ rfl)) rfl) (ev_neg qY) qY))) rfl sW)
        (qZ (st_app (ev_call P rfl (qS 3 rfl) rfl (qX (qQ rfl rfl) rfl (qX (ev_slc (qV (qQ rfl rfl)) (op_some (qQ rfl rfl)) (op_some (qQ rfl rfl))) rfl (qX (zN (qX (qQ rfl rfl) rfl (qX (qQ rfl rfl) rfl qK))) rfl (qX (zN (qX (qQ rfl rfl) rfl (qX (qQ rfl rfl) rfl qK))) rfl (qX (qQ rfl rfl) rfl qK)))))) rfl rfl rfl rfl (fun _ => rfl))
        qD))))
        qD)
      (qZ (xZ (qQ rfl rfl) rfl sW)
      qD))))
    (qZ (xZ (ev_or (qX (jL rfl (jZ P (zK rfl rfl) (qS 1 rfl) rfl) (qV (qQ rfl rfl)) rfl) rfl (qX (jL rfl (xY P (qV (xY P (zK rfl rfl) (qQ rfl rfl) sI)) qY sI) (qV (ev_tk P (qS 1 rfl) (qS 2 rfl))) rfl) rfl qK))) rfl sW)
    (qZ (xZ (ev_ite (tr_or (qB (qF rfl (qQ rfl rfl) (qV qY) rfl) (qB (xJ (qQ rfl rfl) rfl (fun _ _ => rfl)) zV))) (ev_tk P (qS 4 rfl) (qS 2 rfl)) (ev_tk P (qS 5 rfl) (qS 2 rfl))) rfl sW)
    (qZ (st_app (ev_call P rfl (qS 3 rfl) rfl (qX (qQ rfl rfl) rfl (qX (qW _ rfl) rfl (qX (zN (qX (qQ rfl rfl) rfl (qX (qH rfl (jZ P (qV (qQ rfl rfl)) (qS 1 rfl) rfl) qY) rfl qK))) rfl (qX (zN (qX (qQ rfl rfl) rfl (qX (jZ P (qV (qQ rfl rfl)) (qS 1 rfl) rfl) rfl qK))) rfl (qX (qQ rfl rfl) rfl qK)))))) rfl rfl rfl rfl (fun _ => rfl))
    qD))))) (qS 0 rfl) rfl)
  (sts_freeze (qZ (st_ret (qQ rfl rfl))
  qD))))
theorem L1.scan.fn (X : (KH0 w.params).In h₁) : FnOK ⟨prog, w, L1.B, h₁, n, Γ⟩ L1.scan.ni 187 L1.scan.x.fd L1.scan.x.body 1 where
  obj := let ⟨o, h1, h2⟩ := L1.scan.x.ok w.params; ⟨o, X _ _ h1, h2⟩
  code := codeRec_of X (by kernel_rfl)
  body := L1.scan.x.hb
  clo := rfl
  sc := rfl
  glob := rfl
  blt := rfl
  bind := fun Vs h => by
    rcases Vs with _ | ⟨v0, Vs⟩
    · simp at h
    cases Vs with
    | cons _ _ => simp at h
    | nil => rfl
  chk := by decide +kernel
noncomputable def L1.laid.x : FnX KH0 194 := ⟨_, _, fun _ => ⟨_, rfl, rfl⟩, rfl⟩
noncomputable def L1.laid.ni : NI where
  slots := (["script", "margin", "rows", "movable", "closing", "deep", "fresh", "at", "kind", "inner"] : List Str)
  gl := ["range", "min", "max", "_law_cell", "len"]
  sc := L1.laid.x.fd.scope
noncomputable def L1.laid.ms : List MS :=
  [.unp [2, 3, 4, 5, 6] [(true, (.lst [(.bin .add (.bin .mul (.k (.str [32])) (.loc 1)) (.k (.str [107, 40])))])), (true, (.lst [])), (true, (.lst [])), (false, (.k (.int 1))), (false, (.k (.bool true)))],
  .forUp 7 (.k (.int 0)) (.min2 (.k (.int 14)) (.max2 (.k (.int 3)) (.len (.loc 0))))
    [.asg 8 (.bin .mod (.call 0 [(.loc 0), (.bin .add (.k (.int 2)) (.loc 7))]) (.k (.int 4))),
    .asg 9 (.bin .add (.loc 1) (.bin .mul (.k (.int 4)) (.loc 5))),
    .ifs (.and [(.cmp .eq (.loc 8) (.k (.int 0))), (.cmp .lt (.loc 5) (.k (.int 4)))])
      [.app 2 (.bin .add (.bin .mul (.k (.str [32])) (.loc 9)) (.k (.str [107, 40]))),
      .unpR [5, 6] [(false, (.bin .add (.loc 5) (.k (.int 1)))), (false, (.k (.bool true)))]]
      [.ifs (.and [(.cmp .eq (.loc 8) (.k (.int 1))), (.cmp .gt (.loc 5) (.k (.int 1))), (.not (.loc 6))])
        [.asg 5 (.bin .sub (.loc 5) (.k (.int 1))),
        .app 4 (.len (.bor 2)),
        .app 2 (.bin .add (.bin .mul (.k (.str [32])) (.bin .add (.loc 1) (.bin .mul (.k (.int 4)) (.loc 5)))) (.k (.str [41, 44])))]
        [.ifs (.not (.loc 6))
          [.app 3 (.tup [(.len (.bor 2)), (.bin .sub (.loc 9) (.k (.int 4)))])]
          [],
        .app 2 (.bin .add (.bin .mul (.k (.str [32])) (.loc 9)) (.k (.str [98, 44]))),
        .asg 6 (.k (.bool false))]]],
  .ifs (.loc 6)
    [.app 2 (.bin .add (.bin .mul (.k (.str [32])) (.bin .add (.loc 1) (.bin .mul (.k (.int 4)) (.loc 5)))) (.k (.str [98, 44])))]
    [],
  .whil (.cmp .gt (.loc 5) (.k (.int 0)))
    [.asg 5 (.bin .sub (.loc 5) (.k (.int 1))),
    .app 4 (.len (.bor 2)),
    .app 2 (.bin .add (.bin .mul (.k (.str [32])) (.bin .add (.loc 1) (.bin .mul (.k (.int 4)) (.loc 5)))) (.ite (.cmp .gt (.loc 5) (.k (.int 0))) (.k (.str [41, 44])) (.k (.str [41]))))],
  .freeze 2,
  .freeze 3,
  .freeze 4,
  .ret (.tup [(.loc 2), (.loc 3), (.loc 4)])]
theorem L1.laid.sts (P : P5.Ok ⟨prog, w, L1.B, h₁, n, Γ⟩) : zS ⟨prog, w, L1.B, h₁, n, Γ⟩ L1.laid.ni L1.laid.x.body L1.laid.ms :=
  (qZ (st_unp (evxs_own (evf_lst (qX (qH rfl (qH rfl (qW _ rfl) (qQ rfl rfl)) (qW _ rfl)) rfl qK)) rfl (evxs_own (evf_lst qK) rfl (evxs_own (evf_lst qK) rfl (xF qY rfl (xF ev_kbool rfl evxs_nil))))) rfl rfl (fun _ => rfl) (by rintro ⟨⟩ h; cases h; rfl) (by decide) rfl rfl)
  (qZ (st_forR1 P rfl (ev_min P qY (ev_max P qY (jZ P (qV (qQ rfl rfl)) (qS 4 rfl) rfl) (qS 2 rfl) rfl rfl) (qS 1 rfl) rfl rfl) 
    (qZ (xZ (qH rfl (ev_call P rfl (qS 3 rfl) rfl (qX (qQ rfl rfl) rfl (qX (qH rfl qY (qQ rfl rfl)) rfl qK))) qY) rfl sW)
    (qZ (xZ (qH rfl (qQ rfl rfl) (qH rfl qY (qQ rfl rfl))) rfl sW)
    (qZ (st_if (xL (qB (qF rfl (qQ rfl rfl) (qV qY) rfl) (qB (qF rfl (qQ rfl rfl) (qV qY) rfl) zV)))
      (qZ (st_app (qH rfl (qH rfl (qW _ rfl) (qQ rfl rfl)) (qW _ rfl)) rfl rfl rfl rfl (fun _ => rfl))
      (qZ (st_unpR (xF (qH rfl (qQ rfl rfl) qY) rfl (xF ev_kbool rfl evxs_nil)) rfl rfl (fun _ => rfl) (by rintro ⟨⟩ h; cases h; rfl) (by decide) rfl rfl)
      qD))
      (qZ (st_if (xL (qB (qF rfl (qQ rfl rfl) (qV qY) rfl) (qB (qF rfl (qQ rfl rfl) (qV qY) rfl) (qB (xH (xJ (qQ rfl rfl) rfl (fun _ _ => rfl))) zV))))
        (qZ (xZ (qH rfl (qQ rfl rfl) qY) rfl sW)
        (qZ (st_app (jZ P (zK rfl rfl) (qS 4 rfl) rfl) rfl rfl rfl rfl (fun _ => rfl))
        (qZ (st_app (qH rfl (qH rfl (qW _ rfl) (qH rfl (qQ rfl rfl) (qH rfl qY (qQ rfl rfl)))) (qW _ rfl)) rfl rfl rfl rfl (fun _ => rfl))
        qD)))
        (qZ (st_if (xH (xJ (qQ rfl rfl) rfl (fun _ _ => rfl)))
          (qZ (st_app (zN (qX (jZ P (zK rfl rfl) (qS 4 rfl) rfl) rfl (qX (qH rfl (qQ rfl rfl) qY) rfl qK))) rfl rfl rfl rfl (fun _ => rfl))
          qD)
          qD)
        (qZ (st_app (qH rfl (qH rfl (qW _ rfl) (qQ rfl rfl)) (qW _ rfl)) rfl rfl rfl rfl (fun _ => rfl))
        (qZ (xZ ev_kbool rfl sW)
        qD))))
      qD))
    qD))) (qS 0 rfl) rfl)
  (qZ (st_if (xJ (qQ rfl rfl) rfl (fun _ _ => rfl))
    (qZ (st_app (qH rfl (qH rfl (qW _ rfl) (qH rfl (qQ rfl rfl) (qH rfl qY (qQ rfl rfl)))) (qW _ rfl)) rfl rfl rfl rfl (fun _ => rfl))
    qD)
    qD)
  (qZ (st_while (qF rfl (qQ rfl rfl) (qV qY) rfl)
    (qZ (xZ (qH rfl (qQ rfl rfl) qY) rfl sW)
    (qZ (st_app (jZ P (zK rfl rfl) (qS 4 rfl) rfl) rfl rfl rfl rfl (fun _ => rfl))
    (qZ (st_app (qH rfl (qH rfl (qW _ rfl) (qH rfl (qQ rfl rfl) (qH rfl qY (qQ rfl rfl)))) (ev_ite (qF rfl (qQ rfl rfl) (qV qY) rfl) (qW _ rfl) (qW _ rfl))) rfl rfl rfl rfl (fun _ => rfl))
    qD))))
  (sts_freeze (sts_freeze (sts_freeze (qZ (st_ret (zN (qX (qQ rfl rfl) rfl (qX (qQ rfl rfl) rfl (qX (qQ rfl rfl) rfl qK)))))
  qD))))))))
theorem L1.laid.fn (X : (KH0 w.params).In h₁) : FnOK ⟨prog, w, L1.B, h₁, n, Γ⟩ L1.laid.ni 194 L1.laid.x.fd L1.laid.x.body 2 where
  obj := let ⟨o, h1, h2⟩ := L1.laid.x.ok w.params; ⟨o, X _ _ h1, h2⟩
  code := codeRec_of X (by kernel_rfl)
  body := L1.laid.x.hb
  clo := rfl
  sc := rfl
  glob := rfl
  blt := rfl
  bind := fun Vs h => by
    rcases Vs with _ | ⟨v0, Vs⟩
    · simp at h
    rcases Vs with _ | ⟨v1, Vs⟩
    · simp at h
    cases Vs with
    | cons _ _ => simp at h
    | nil => rfl
  chk := by decide +kernel
noncomputable def L1.ci.x : FnX KH0 166 := ⟨_, _, fun _ => ⟨_, rfl, rfl⟩, rfl⟩
noncomputable def L1.ci.ni : NI where
  slots := (["logical_line", "tokens", "indent_level", "hang_closing", "indent_char", "indent_size", "noqa", "verbose", "first_row", "nrows", "indent_next", "row", "depth", "valid_hangs", "parens", "rel_indent"] : List Str) ++ (["open_rows", "hangs", "indent_chances", "last_indent", "visual_indent", "last_token_multiline", "indent", "token_type", "text", "start", "end", "line", "newline", "close_bracket", "open_row", "hang"] : List Str) ++ (["hanging_indent", "error", "prev_indent", "d", "ind", "idx", "pos", "code"] : List Str)
  gl := ["reversed", "tokenize", "expand_indent", "NEWLINE", "FSTRING_START", "TSTRING_START", "len", "range", "list"]
  sc := L1.ci.x.fd.scope
noncomputable def L1.ci.ms : List MS :=
  [.skip,
  .asg 8 (.idx (.idx (.idx (.loc 1) (.k (.int 0))) (.k (.int 2))) (.k (.int 0))),
  .asg 9 (.bin .sub (.bin .add (.k (.int 1)) (.idx (.idx (.idx (.loc 1) (.neg (.k (.int 1)))) (.k (.int 2))) (.k (.int 0)))) (.loc 8)),
  .ifs (.or [(.loc 6), (.cmp .eq (.loc 9) (.k (.int 1)))])
    [.retN]
    [],
  .asg 10 (.meth .endswith (.loc 0) [(.k (.str [58]))]),
  .asg2 11 12 (.k (.int 0)),
  .asg 13 (.ite (.cmp .ne (.loc 4) (.k (.str [9]))) (.tup [(.loc 5)]) (.tup [(.loc 5), (.bin .mul (.loc 5) (.k (.int 2)))])),
  .asgL 14 (.bin .mul (.lst [(.k (.int 0))]) (.loc 9)),
  .asgL 15 (.bin .mul (.lst [(.k (.int 0))]) (.loc 9)),
  .asgLL 16,
  .asgL 17 (.lst [(.k .none)]),
  .asgD 18,
  .asg 19 (.idx (.idx (.loc 1) (.k (.int 0))) (.k (.int 2))),
  .asg 20 (.k .none),
  .asg 21 (.k (.bool false)),
  .asgL 22 (.lst [(.idx (.loc 19) (.k (.int 1)))]),
  .forL [23, 24, 25, 26, 27] (.loc 1)
    [.asg 28 (.cmp .lt (.loc 11) (.bin .sub (.idx (.loc 25) (.k (.int 0))) (.loc 8))),
    .ifs (.loc 28)
      [.asg 11 (.bin .sub (.idx (.loc 25) (.k (.int 0))) (.loc 8)),
      .asg 28 (.and [(.not (.loc 21)), (.cmp .notIn (.loc 23) (.k (.tup [.int 62, .int 4])))])]
      [],
    .ifs (.loc 28)
      [.asg 19 (.loc 25),
      .seti 15 (.loc 11) (.bin .sub (.call 1 [(.loc 27)]) (.loc 2)),
      .asg 29 (.and [(.cmp .eq (.loc 23) (.k (.int 54))), (.cmp .isIn (.loc 24) (.k (.str [93, 125, 41])))]),
      .forRev 30 16 (.loc 12)
        [.asg 31 (.bin .sub (.idx (.bor 15) (.loc 11)) (.idx (.bor 15) (.loc 30))),
        .asg 32 (.cmp .isIn (.loc 31) (.loc 13)),
        .ifs (.loc 32)
          [.brk]
          []],
      .ifs (.idx (.bor 17) (.loc 12))
        [.asg 32 (.cmp .eq (.loc 31) (.idx (.bor 17) (.loc 12)))]
        [],
      .asg 20 (.and [(.not (.loc 29)), (.cmp .gt (.loc 31) (.k (.int 0))), (.dget 18 (.idx (.loc 25) (.k (.int 1))))]),
      .ifs (.and [(.loc 29), (.idx (.bor 22) (.loc 12))])
        [.stuck]
        [.ifs (.and [(.loc 29), (.not (.loc 31))])
          [.ifs (.loc 3)
            [.yield (.tup [(.loc 25), (.k (.str [69, 49, 51, 51, 32, 99, 108, 111, 115, 105, 110, 103, 32, 98, 114, 97, 99, 107, 101, 116, 32, 105, 115, 32, 109, 105, 115, 115, 105, 110, 103, 32, 105, 110, 100, 101, 110, 116, 97, 116, 105, 111, 110]))])]
            []]
          [.ifs (.and [(.idx (.bor 22) (.loc 12)), (.cmp .lt (.idx (.loc 25) (.k (.int 1))) (.idx (.bor 22) (.loc 12)))])
            [.stuck]
            [.ifs (.or [(.loc 32), (.and [(.loc 10), (.cmp .eq (.idx (.bor 15) (.loc 11)) (.bin .mul (.k (.int 2)) (.loc 5)))])])
              [.ifs (.and [(.loc 29), (.not (.loc 3))])
                [.stuck]
                [],
              .seti 17 (.loc 12) (.loc 31)]
              [.ifs (.cmp .eq (.loc 20) (.k (.bool true)))
                [.stuck]
                [.ifs (.cmp .isIn (.loc 20) (.tup [(.loc 24), (.k (.str [32]))]))
                  [.stuck]
                  [.ifs (.cmp .le (.loc 31) (.k (.int 0)))
                    [.asg 33 (.tup [(.k (.str [69, 49, 50, 50])), (.k (.str [109, 105, 115, 115, 105, 110, 103, 32, 105, 110, 100, 101, 110, 116, 97, 116, 105, 111, 110, 32, 111, 114, 32, 111, 117, 116, 100, 101, 110, 116, 101, 100]))])]
                    [.ifs (.idx (.bor 22) (.loc 12))
                      [.stuck]
                      [.ifs (.and [(.not (.loc 29)), (.idx (.bor 17) (.loc 12))])
                        [.asg 33 (.tup [(.k (.str [69, 49, 51, 49])), (.k (.str [117, 110, 97, 108, 105, 103, 110, 101, 100, 32, 102, 111, 114, 32, 104, 97, 110, 103, 105, 110, 103, 32, 105, 110, 100, 101, 110, 116]))])]
                        [.stuck]]],
                  .yield (.tup [(.loc 25), (.bin .mod (.k (.str [37, 115, 32, 99, 111, 110, 116, 105, 110, 117, 97, 116, 105, 111, 110, 32, 108, 105, 110, 101, 32, 37, 115])) (.loc 33))])]]]]]]]
      [],
    .ifs (.and [(.idx (.bor 14) (.loc 11)), (.cmp .notIn (.loc 23) (.tup [(.k (.int 62)), (.k (.int 61))])), (.not (.idx (.bor 22) (.loc 12)))])
      [.stuck]
      [.ifs (.inset (.loc 23) [(.k (.int 3)), (.k (.int 61)), (.k (.int (-1))), (.k (.int (-1)))])
        [.stuck]
        [.ifs (.and [(.not (.loc 11)), (.not (.loc 12)), (.cmp .isIn (.loc 24) (.lst [(.k (.str [97, 115, 115, 101, 114, 116])), (.k (.str [114, 97, 105, 115, 101])), (.k (.str [119, 105, 116, 104]))]))])
          [.stuck]
          [.ifs (.and [(.dempty 18), (.not (.loc 11)), (.not (.loc 12)), (.cmp .eq (.loc 24) (.k (.str [105, 102])))])
            [.stuck]
            [.ifs (.and [(.cmp .eq (.loc 24) (.k (.str [58]))), .stuck])
              [.stuck]
              []]]]],
    .ifs (.cmp .eq (.loc 23) (.k (.int 54)))
      [.ifs (.cmp .isIn (.loc 24) (.k (.str [40, 91, 123])))
        [.aug 12 .add (.k (.int 1)),
        .app 22 (.k (.int 0)),
        .app 17 (.k .none),
        .ifs (.cmp .eq (.len2 16) (.loc 12))
          [.appN 16]
          [],
        .app2 16 (.loc 12) (.loc 11),
        .augi 14 (.loc 11) .add (.k (.int 1))]
        [.ifs (.and [(.cmp .isIn (.loc 24) (.k (.str [41, 93, 125]))), (.cmp .gt (.loc 12) (.k (.int 0)))])
          [.popOr 34 22 (.idx (.loc 19) (.k (.int 1))),
          .pop 17,
          .forUp 35 (.k (.int 0)) (.loc 12)
            [.ifs (.cmp .gt (.idx (.bor 22) (.loc 35)) (.loc 34))
              [.seti 22 (.loc 35) (.k (.int 0))]
              []],
          .forL [36] (.dkeys 18)
            [.ifs (.cmp .ge (.loc 36) (.loc 34))
              [.ddel 18 (.loc 36)]
              []],
          .trunc 16 (.bin .add (.loc 12) (.k (.int 1))),
          .aug 12 .sub (.k (.int 1)),
          .ifs (.loc 12)
            [.dset 18 (.idx (.bor 22) (.loc 12)) (.k (.bool true))]
            [],
          .forDown 37 (.loc 11)
            [.ifs (.idx (.bor 14) (.loc 37))
              [.augi 14 (.loc 37) .sub (.k (.int 1)),
              .brk]
              []]]
          []],
      .assert (.cmp .eq (.len (.bor 22)) (.bin .add (.loc 12) (.k (.int 1)))),
      .ifs (.dnin 18 (.idx (.loc 25) (.k (.int 1))))
        [.dset 18 (.idx (.loc 25) (.k (.int 1))) (.loc 24)]
        []]
      [],
    .asg 21 (.cmp .ne (.idx (.loc 25) (.k (.int 0))) (.idx (.loc 26) (.k (.int 0)))),
    .ifs (.loc 21)
      [.stuck]
      []],
  .ifs (.and [(.loc 10), (.cmp .eq (.call 1 [(.loc 27)]) (.bin .add (.loc 2) (.loc 5)))])
    [.stuck]
    []]
theorem L1.ci.sts (P : P5.Ok ⟨prog, w, L1.B, h₁, n, Γ⟩) : GsOK ⟨prog, w, L1.B, h₁, n, Γ⟩ L1.ci.ni L1.ci.x.body L1.ci.ms :=
  (qJ (qU st_doc rfl)
  (qJ (qU (xZ (xY P (qV (xY P (qV (xY P (qV (qQ rfl rfl)) qY sI)) qY sI)) qY sI) rfl sW) rfl)
  (qJ (qU (xZ (qH rfl (qH rfl qY (xY P (qV (xY P (qV (xY P (qV (qQ rfl rfl)) (ev_neg qY) sI)) qY sI)) qY sI)) (qQ rfl rfl)) rfl sW) rfl)
  (qJ (jG (tr_or (qB (xJ (qQ rfl rfl) rfl (fun _ _ => rfl)) (qB (qF rfl (qQ rfl rfl) (qV qY) rfl) zV)))
    (qJ (qU st_retN rfl)
    qG)
    qG)
  (qJ (qU (xZ (ev_endswith (qQ rfl rfl) (qW _ rfl) rfl (fun _ => rfl) rfl) rfl sW) rfl)
  (qJ (qU (st_asg2 qY rfl rfl) rfl)
  (qJ (qU (xZ (ev_ite (qF rfl (qQ rfl rfl) (qV (qW _ rfl)) rfl) (zN (qX (qQ rfl rfl) rfl qK)) (zN (qX (qQ rfl rfl) rfl (qX (qH rfl (qQ rfl rfl) qY) rfl qK)))) rfl sW) rfl)
  (qJ (qU (st_asgL (evf_bin' rfl (qV (ev_lst (qX qY rfl qK))) (qV (qQ rfl rfl))) rfl sW) rfl)
  (qJ (qU (st_asgL (evf_bin' rfl (qV (ev_lst (qX qY rfl qK))) (qV (qQ rfl rfl))) rfl sW) rfl)
  (qJ (qU (st_asgLL rfl) rfl)
  (qJ (qU (st_asgL (evf_lst (qX ev_knone rfl qK)) rfl sW) rfl)
  (qJ (qU (st_asgD P rfl) rfl)
  (qJ (qU (xZ (xY P (qV (xY P (qV (qQ rfl rfl)) qY sI)) qY sI) rfl sW) rfl)
  (qJ (qU (xZ ev_knone rfl sW) rfl)
  (qJ (qU (xZ ev_kbool rfl sW) rfl)
  (qJ (qU (st_asgL (evf_lst (qX (xY P (qV (qQ rfl rfl)) qY sI) rfl qK)) rfl sW) rfl)
  (qJ (g_forL (qQ rfl rfl) (tgt_tup P rfl rfl (by decide)) 
    (qJ (qU (xZ (jL rfl (qQ rfl rfl) (qV (qH rfl (xY P (qV (qQ rfl rfl)) qY sI) (qQ rfl rfl))) rfl) rfl sW) rfl)
    (qJ (jG (xJ (qQ rfl rfl) rfl (fun _ _ => rfl))
      (qJ (qU (xZ (qH rfl (xY P (qV (qQ rfl rfl)) qY sI) (qQ rfl rfl)) rfl sW) rfl)
      (qJ (qU (xZ (ev_and (qX (ev_not (qQ rfl rfl)) rfl (qX (jL rfl (qQ rfl rfl) (qV (ev_gc P (qS 0 rfl) (qS 3 rfl) rfl)) rfl) rfl qK))) rfl sW) rfl)
      qG))
      qG)
    (qJ (jG (xJ (qQ rfl rfl) rfl (fun _ _ => rfl))
      (qJ (qU (xZ (qQ rfl rfl) rfl sW) rfl)
      (qJ (qU (st_seti (qH rfl (ev_call P rfl (qS 2 rfl) rfl (qX (qQ rfl rfl) rfl qK)) (qQ rfl rfl)) (qQ rfl rfl) rfl rfl sW) rfl)
      (qJ (qU (xZ (ev_and (qX (jL rfl (qQ rfl rfl) (qV (ev_tk P (qS 0 rfl) (qS 1 rfl))) rfl) rfl (qX (jL rfl (qQ rfl rfl) (qV (qW _ rfl)) rfl) rfl qK))) rfl sW) rfl)
      (qJ (qU (st_forRev P rfl rfl rfl (qQ rfl rfl) 
        (qZ (xZ (qH rfl (xY P (zK rfl rfl) (qQ rfl rfl) sI) (xY P (zK rfl rfl) (qQ rfl rfl) sI)) rfl sW)
        (qZ (xZ (jL rfl (qQ rfl rfl) (qV (qQ rfl rfl)) rfl) rfl sW)
        (qZ (st_if (xJ (qQ rfl rfl) rfl (fun _ _ => rfl))
          (qZ st_brk
          qD)
          qD)
        qD))) (qS 0 rfl) (by decide) (fun _ _ => rfl)) rfl)
      (qJ (jG (xJ (xY P (zK rfl rfl) (qQ rfl rfl) sI) rfl (fun _ _ => rfl))
        (qJ (qU (xZ (jL rfl (qQ rfl rfl) (qV (xY P (zK rfl rfl) (qQ rfl rfl) sI)) rfl) rfl sW) rfl)
        qG)
        qG)
      (qJ (qU (xZ (ev_and (qX (ev_not (qQ rfl rfl)) rfl (qX (jL rfl (qQ rfl rfl) (qV qY) rfl) rfl (qX (ev_dget rfl rfl (xY P (qV (qQ rfl rfl)) qY sI) rfl rfl) rfl qK)))) rfl sW) rfl)
      (qJ (jG (xL (qB (xJ (qQ rfl rfl) rfl (fun _ _ => rfl)) (qB (xJ (xY P (zK rfl rfl) (qQ rfl rfl) sI) rfl (fun _ _ => rfl)) zV)))
        zB
        (qJ (jG (xL (qB (xJ (qQ rfl rfl) rfl (fun _ _ => rfl)) (qB (xH (xJ (qQ rfl rfl) rfl (fun _ _ => rfl))) zV)))
          (qJ (jG (xJ (qQ rfl rfl) rfl (fun _ _ => rfl))
            (qJ (g_yield (zN (qX (qQ rfl rfl) rfl (qX (qW _ rfl) rfl qK))) rfl)
            qG)
            qG)
          qG)
          (qJ (jG (xL (qB (xJ (xY P (zK rfl rfl) (qQ rfl rfl) sI) rfl (fun _ _ => rfl)) (qB (qF rfl (xY P (qV (qQ rfl rfl)) qY sI) (qV (xY P (zK rfl rfl) (qQ rfl rfl) sI)) rfl) zV)))
            zB
            (qJ (jG (tr_or (qB (xJ (qQ rfl rfl) rfl (fun _ _ => rfl)) (qB (xL (qB (xJ (qQ rfl rfl) rfl (fun _ _ => rfl)) (qB (qF rfl (xY P (zK rfl rfl) (qQ rfl rfl) sI) (qV (qH rfl qY (qQ rfl rfl))) rfl) zV))) zV)))
              (qJ (jG (xL (qB (xJ (qQ rfl rfl) rfl (fun _ _ => rfl)) (qB (xH (xJ (qQ rfl rfl) rfl (fun _ _ => rfl))) zV)))
                zB
                qG)
              (qJ (qU (st_seti (qQ rfl rfl) (qQ rfl rfl) rfl rfl sW) rfl)
              qG))
              (qJ (jG (qF rfl (qQ rfl rfl) (qV ev_kbool) rfl)
                zB
                (qJ (jG (qF rfl (qQ rfl rfl) (qV (zN (qX (qQ rfl rfl) rfl (qX (qW _ rfl) rfl qK)))) rfl)
                  zB
                  (qJ (jG (qF rfl (qQ rfl rfl) (qV qY) rfl)
                    (qJ (qU (xZ (zN (qX (qW _ rfl) rfl (qX (qW _ rfl) rfl qK))) rfl sW) rfl)
                    qG)
                    (qJ (jG (xJ (xY P (zK rfl rfl) (qQ rfl rfl) sI) rfl (fun _ _ => rfl))
                      zB
                      (qJ (jG (xL (qB (xH (xJ (qQ rfl rfl) rfl (fun _ _ => rfl))) (qB (xJ (xY P (zK rfl rfl) (qQ rfl rfl) sI) rfl (fun _ _ => rfl)) zV)))
                        (qJ (qU (xZ (zN (qX (qW _ rfl) rfl (qX (qW _ rfl) rfl qK))) rfl sW) rfl)
                        qG)
                        zB)
                      qG))
                    qG))
                  (qJ (g_yield (zN (qX (qQ rfl rfl) rfl (qX (qH rfl (qW _ rfl) (qQ rfl rfl)) rfl qK))) rfl)
                  qG)))
                qG))
              qG))
            qG))
          qG))
        qG))
      qG)))))))
      qG)
    (qJ (jG (xL (qB (xJ (xY P (zK rfl rfl) (qQ rfl rfl) sI) rfl (fun _ _ => rfl)) (qB (qF rfl (qQ rfl rfl) (qV (zN (qX (ev_tk P (qS 4 rfl) (qS 1 rfl)) rfl (qX (ev_tk P (qS 1 rfl) (qS 1 rfl)) rfl qK)))) rfl) (qB (xH (xJ (xY P (zK rfl rfl) (qQ rfl rfl) sI) rfl (fun _ _ => rfl))) zV))))
      zB
      (qJ (jG (tr_inset (qQ rfl rfl) (qX (ev_tk P (qS 2 rfl) (qS 1 rfl)) rfl (qX (ev_tk P (qS 1 rfl) (qS 1 rfl)) rfl (qX (ev_gc P (qS 1 rfl) (qS 4 rfl) rfl) rfl (qX (ev_gc P (qS 2 rfl) (qS 5 rfl) rfl) rfl qK)))) rfl (by decide) rfl)
        zB
        (qJ (jG (xL (qB (xH (xJ (qQ rfl rfl) rfl (fun _ _ => rfl))) (qB (xH (xJ (qQ rfl rfl) rfl (fun _ _ => rfl))) (qB (qF rfl (qQ rfl rfl) (qV (ev_lst (qX (qW _ rfl) rfl (qX (qW _ rfl) rfl (qX (qW _ rfl) rfl qK))))) rfl) zV))))
          zB
          (qJ (jG (xL (qB (tr_dempty rfl rfl) (qB (xH (xJ (qQ rfl rfl) rfl (fun _ _ => rfl))) (qB (xH (xJ (qQ rfl rfl) rfl (fun _ _ => rfl))) (qB (qF rfl (qQ rfl rfl) (qV (qW _ rfl)) rfl) zV)))))
            zB
            (qJ (jG (xL (qB (qF rfl (qQ rfl rfl) (qV (qW _ rfl)) rfl) (qB tr_stuck zV)))
              zB
              qG)
            qG))
          qG))
        qG))
      qG))
    (qJ (jG (qF rfl (qQ rfl rfl) (qV (ev_tk P (qS 0 rfl) (qS 1 rfl))) rfl)
      (qJ (jG (qF rfl (qQ rfl rfl) (qV (qW _ rfl)) rfl)
        (qJ (qU (st_aug' rfl (.inl rfl) qY rfl) rfl)
        (qJ (qU (st_app qY rfl rfl rfl rfl (fun _ => rfl)) rfl)
        (qJ (qU (st_app ev_knone rfl rfl rfl rfl (fun _ => rfl)) rfl)
        (qJ (jG (qF rfl (ev_len2 P rfl rfl (qS 6 rfl)) (qV (qQ rfl rfl)) rfl)
          (qJ (qU (st_appN rfl rfl rfl (fun _ => rfl)) rfl)
          qG)
          qG)
        (qJ (qU (st_app2 (qQ rfl rfl) (qQ rfl rfl) rfl rfl rfl rfl (fun _ => rfl) (fun _ _ => rfl)) rfl)
        (qJ (qU (st_augi' rfl (.inl rfl) qY (qQ rfl rfl) rfl rfl (fun _ _ _ => rfl)) rfl)
        qG))))))
        (qJ (jG (xL (qB (qF rfl (qQ rfl rfl) (qV (qW _ rfl)) rfl) (qB (qF rfl (qQ rfl rfl) (qV qY) rfl) zV)))
          (qJ (qU (st_popOr (xY P (qV (qQ rfl rfl)) qY sI) rfl rfl rfl rfl (fun _ => rfl) (fun _ => rfl)) rfl)
          (qJ (qU (st_pop rfl rfl rfl (fun _ => rfl)) rfl)
          (qJ (qU (st_forR1 P rfl (qQ rfl rfl) 
            (qZ (st_if (qF rfl (xY P (zK rfl rfl) (qQ rfl rfl) sI) (qV (qQ rfl rfl)) rfl)
              (qZ (st_seti qY (qQ rfl rfl) rfl rfl sW)
              qD)
              qD)
            qD) (qS 7 rfl) rfl) rfl)
          (qJ (g_forL (ev_dkeys P rfl rfl (qS 8 rfl)) (tgt_name rfl) 
            (qJ (jG (qF rfl (qQ rfl rfl) (qV (qQ rfl rfl)) rfl)
              (qJ (qU (st_ddel (qQ rfl rfl) rfl rfl) rfl)
              qG)
              qG)
            qG) (fun _ _ => rfl))
          (qJ (qU (st_trunc (qH rfl (qQ rfl rfl) qY) rfl rfl (fun _ => rfl)) rfl)
          (qJ (qU (st_aug' rfl (.inr rfl) qY rfl) rfl)
          (qJ (jG (xJ (qQ rfl rfl) rfl (fun _ _ => rfl))
            (qJ (qU (st_dset ev_kbool (xY P (zK rfl rfl) (qQ rfl rfl) sI) rfl rfl sW) rfl)
            qG)
            qG)
          (qJ (qU (st_forDown P rfl (qQ rfl rfl) 
            (qZ (st_if (xJ (xY P (zK rfl rfl) (qQ rfl rfl) sI) rfl (fun _ _ => rfl))
              (qZ (st_augi' rfl (.inr rfl) qY (qQ rfl rfl) rfl rfl (fun _ _ _ => rfl))
              (qZ st_brk
              qD))
              qD)
            qD) (qS 7 rfl) rfl) rfl)
          qG))))))))
          qG)
        qG))
      (qJ (qU (st_assert (qF rfl (jZ P (zK rfl rfl) (qS 6 rfl) rfl) (qV (qH rfl (qQ rfl rfl) qY)) rfl)) rfl)
      (qJ (jG (tr_dnin rfl rfl (xY P (qV (qQ rfl rfl)) qY sI))
        (qJ (qU (st_dset (qQ rfl rfl) (xY P (qV (qQ rfl rfl)) qY sI) rfl rfl sW) rfl)
        qG)
        qG)
      qG)))
      qG)
    (qJ (qU (xZ (jL rfl (xY P (qV (qQ rfl rfl)) qY sI) (qV (xY P (qV (qQ rfl rfl)) qY sI)) rfl) rfl sW) rfl)
    (qJ (jG (xJ (qQ rfl rfl) rfl (fun _ _ => rfl))
      zB
      qG)
    qG))))))) (fun _ _ => rfl))
  (qJ (jG (xL (qB (xJ (qQ rfl rfl) rfl (fun _ _ => rfl)) (qB (qF rfl (ev_call P rfl (qS 2 rfl) rfl (qX (qQ rfl rfl) rfl qK)) (qV (qH rfl (qQ rfl rfl) (qQ rfl rfl))) rfl) zV)))
    zB
    qG)
  qG))))))))))))))))))
theorem L1.ci.fn (X : (KH0 w.params).In h₁) : FnOK ⟨prog, w, L1.B, h₁, n, Γ⟩ L1.ci.ni 166 L1.ci.x.fd L1.ci.x.body 8 where
  obj := let ⟨o, h1, h2⟩ := L1.ci.x.ok w.params; ⟨o, X _ _ h1, h2⟩
  code := codeRec_of X (by kernel_rfl)
  body := L1.ci.x.hb
  clo := rfl
  sc := rfl
  glob := rfl
  blt := rfl
  bind := fun Vs h => by
    rcases Vs with _ | ⟨v0, Vs⟩
    · simp at h
    rcases Vs with _ | ⟨v1, Vs⟩
    · simp at h
    rcases Vs with _ | ⟨v2, Vs⟩
    · simp at h
    rcases Vs with _ | ⟨v3, Vs⟩
    · simp at h
    rcases Vs with _ | ⟨v4, Vs⟩
    · simp at h
    rcases Vs with _ | ⟨v5, Vs⟩
    · simp at h
    rcases Vs with _ | ⟨v6, Vs⟩
    · simp at h
    rcases Vs with _ | ⟨v7, Vs⟩
    · simp at h
    cases Vs with
    | cons _ _ => simp at h
    | nil => rfl
  chk := by decide +kernel
noncomputable def L1.told.x : FnX KH0 199 := ⟨_, _, fun _ => ⟨_, rfl, rfl⟩, rfl⟩
noncomputable def L1.told.ni : NI where
  slots := (["rows", "margin", "must_hang", "lines", "told"] : List Str)
  gl := ["continued_indentation", "_law_scan"]
  sc := L1.told.x.fd.scope
noncomputable def L1.told.m1 : List MS :=
  [.asg 3 (.compL (.loc 0) [] (.bin .add (.loc 0) (.k (.str [10]))))]
theorem L1.told.m1_ok (P : P5.Ok ⟨prog, w, L1.B, h₁, n, Γ⟩) : zS ⟨prog, w, L1.B, h₁, n, Γ⟩ L1.told.ni (L1.told.x.body.take 1) L1.told.m1 :=
  (qZ (st_compL2 [] (by decide +kernel) (qH rfl (qQ rfl rfl) (qW _ rfl)) (qV (qQ rfl rfl)) (fun _ _ => rfl) rfl (by rintro ⟨⟩ h; cases h; rfl))
  qD)
noncomputable def L1.told.m2 : List ME :=
  [(.k (.str [120])), (.call 4 [(.loc 3)]), (.loc 1), (.loc 2), (.k (.str [32])), (.k (.int 4)), (.k (.bool false)), (.k (.int 0))]
theorem L1.told.m2_ok (P : P5.Ok ⟨prog, w, L1.B, h₁, n, Γ⟩) : EvsOK ⟨prog, w, L1.B, h₁, n, Γ⟩ L1.told.ni (callArgs (L1.told.x.body.drop 1)) L1.told.m2 :=
  (qX (qW _ rfl) rfl (qX (ev_call P rfl (qS 1 rfl) rfl (qX (qQ rfl rfl) rfl qK)) rfl (qX (qQ rfl rfl) rfl (qX (qQ rfl rfl) rfl (qX (qW _ rfl) rfl (qX qY rfl (qX ev_kbool rfl (qX qY rfl qK))))))))
noncomputable def L1.told.m4.ni : NI where
  slots := ["place", "text"]
  gl := []
  sc := relabel (compSc (L1.told.x.body.drop 2)) (envOf L1.told.ni.sc)
noncomputable def L1.told.m4 : ME :=
  (.tup [(.loc 0), (.slc (.loc 1) none (some (.k (.int 4))))])
theorem L1.told.m4_ok (P : P5.Ok ⟨prog, w, L1.B, h₁, n, Γ⟩) : yY ⟨prog, w, L1.B, h₁, n, Γ⟩ L1.told.m4.ni (compElt (L1.told.x.body.drop 2)) L1.told.m4 :=
  (zN (qX (qQ rfl rfl) rfl (qX (ev_slc (qV (qQ rfl rfl)) op_none (op_some qY)) rfl qK)))
theorem L1.told.fn (X : (KH0 w.params).In h₁) : FnOK ⟨prog, w, L1.B, h₁, n, Γ⟩ L1.told.ni 199 L1.told.x.fd L1.told.x.body 3 where
  obj := let ⟨o, h1, h2⟩ := L1.told.x.ok w.params; ⟨o, X _ _ h1, h2⟩
  code := codeRec_of X (by kernel_rfl)
  body := L1.told.x.hb
  clo := rfl
  sc := rfl
  glob := rfl
  blt := rfl
  bind := fun Vs h => by
    rcases Vs with _ | ⟨v0, Vs⟩
    · simp at h
    rcases Vs with _ | ⟨v1, Vs⟩
    · simp at h
    rcases Vs with _ | ⟨v2, Vs⟩
    · simp at h
    cases Vs with
    | cons _ _ => simp at h
    | nil => rfl
  chk := by decide +kernel
noncomputable def L1.law.x : FnX KH0 204 := ⟨_, _, fun _ => ⟨_, rfl, rfl⟩, rfl⟩
noncomputable def L1.law.ni : NI where
  slots := (["script", "margin", "draw", "must_hang", "rows", "movable", "closing", "due", "at", "outer", "col"] : List Str)
  gl := ["_law_laid", "max", "sorted", "_law_cell", "_law_told", "len"]
  sc := L1.law.x.fd.scope
noncomputable def L1.law.m1 : List MS :=
  [.unpR [1, 2] [(false, (.bin .mul (.k (.int 4)) (.bin .mod (.call 0 [(.loc 0), (.k (.int 0))]) (.k (.int 3))))), (false, (.call 0 [(.loc 0), (.k (.int 1))]))],
  .asg 3 (.cmp .eq (.bin .mod (.loc 2) (.k (.int 2))) (.k (.int 1))),
  .unpE [4, 5, 6] (.call 3 [(.loc 0), (.loc 1)]),
  .asg 7 (.ite (.loc 3) (.compL (.loc 6) [4] (.tup [(.tup [(.bin .add (.loc 0) (.k (.int 1))), (.bin .sub (.len (.idx (.loc 1) (.loc 0))) (.len (.meth .lstrip (.idx (.loc 1) (.loc 0)) [])))]), (.k (.str [69, 49, 51, 51]))])) (.lst []))]
theorem L1.law.m1_ok (P : P5.Ok ⟨prog, w, L1.B, h₁, n, Γ⟩) : zS ⟨prog, w, L1.B, h₁, n, Γ⟩ L1.law.ni (L1.law.x.body.take 4) L1.law.m1 :=
  (qZ (st_unpR (xF (qH rfl qY (qH rfl (ev_call P rfl (qS 3 rfl) rfl (qX (qQ rfl rfl) rfl (qX qY rfl qK))) qY)) rfl (xF (ev_call P rfl (qS 3 rfl) rfl (qX (qQ rfl rfl) rfl (qX qY rfl qK))) rfl evxs_nil)) rfl rfl (fun _ => rfl) (by rintro ⟨⟩ h; cases h; rfl) (by decide) rfl rfl)
  (qZ (xZ (jL rfl (qH rfl (qQ rfl rfl) qY) (qV qY) rfl) rfl sW)
  (qZ (st_unpE P (ev_call P rfl (qS 0 rfl) rfl (qX (qQ rfl rfl) rfl (qX (qQ rfl rfl) rfl qK))) rfl rfl (fun _ => rfl) (fun _ => rfl))
  (qZ (xZ (ev_ite (xJ (qQ rfl rfl) rfl (fun _ _ => rfl)) (ev_compL2 ["len"] (by decide +kernel) (zN (qX (zN (qX (qH rfl (qQ rfl rfl) qY) rfl (qX (qH rfl (jZ P (qV (xY P (qV (qQ rfl rfl)) (qQ rfl rfl) sI)) (qS 0 rfl) rfl) (jZ P (qV (ev_lstrip (xY P (qV (qQ rfl rfl)) (qQ rfl rfl) sI) (fun _ => rfl) rfl)) (qS 0 rfl) rfl)) rfl qK))) rfl (qX (qW _ rfl) rfl qK))) (qV (qQ rfl rfl)) (fun _ _ => rfl)) (ev_lst qK)) rfl sW)
  qD))))
noncomputable def L1.law.m2 : List ME :=
  [(.loc 4), (.loc 1), (.loc 3)]
theorem L1.law.m2_ok (P : P5.Ok ⟨prog, w, L1.B, h₁, n, Γ⟩) : EvsOK ⟨prog, w, L1.B, h₁, n, Γ⟩ L1.law.ni (callArgs (L1.law.x.body.drop 4)) L1.law.m2 :=
  (qX (qQ rfl rfl) rfl (qX (qQ rfl rfl) rfl (qX (qQ rfl rfl) rfl qK)))
noncomputable def L1.law.m3 : List MS :=
  [.ifs (.cmp .eq (.loc 5) (.lst []))
    [.ret (.k (.bool true))]
    [],
  .unpE [8, 9] (.idx (.loc 5) (.bin .mod (.bin .div (.loc 2) (.k (.int 2))) (.len (.loc 5)))),
  .asg 10 (.bin .add (.bin .add (.loc 9) (.k (.int 4))) (.bin .mul (.bin .add (.k (.int 1)) (.bin .mod (.bin .div (.loc 2) (.k (.int 3))) (.k (.int 3)))) (.ite (.cmp .eq (.bin .mod (.bin .div (.loc 2) (.k (.int 5))) (.k (.int 2))) (.k (.int 0))) (.k (.int 1)) (.bin .sub (.bin .sub (.k (.int 0)) (.k (.int 1))) (.bin .mod (.bin .div (.loc 2) (.k (.int 7))) (.k (.int 2))))))),
  .asg 10 (.max2 (.k (.int 0)) (.loc 10)),
  .asg 4 (.bin .add (.bin .add (.slc (.loc 4) none (some (.loc 8))) (.lst [(.bin .add (.bin .mul (.k (.str [32])) (.loc 10)) (.k (.str [98, 44])))])) (.slc (.loc 4) (some (.bin .add (.loc 8) (.k (.int 1)))) none))]
theorem L1.law.m3_ok (P : P5.Ok ⟨prog, w, L1.B, h₁, n, Γ⟩) : zS ⟨prog, w, L1.B, h₁, n, Γ⟩ L1.law.ni ((L1.law.x.body.drop 5).take 5) L1.law.m3 :=
  (qZ (st_if (qF rfl (qQ rfl rfl) (qV (ev_lst qK)) rfl)
    (qZ (st_ret ev_kbool)
    qD)
    qD)
  (qZ (st_unpE P (xY P (qV (qQ rfl rfl)) (qH rfl (qH rfl (qQ rfl rfl) qY) (jZ P (qV (qQ rfl rfl)) (qS 5 rfl) rfl)) sI) rfl rfl (fun _ => rfl) (fun _ => rfl))
  (qZ (xZ (qH rfl (qH rfl (qQ rfl rfl) qY) (qH rfl (qH rfl qY (qH rfl (qH rfl (qQ rfl rfl) qY) qY)) (ev_ite (qF rfl (qH rfl (qH rfl (qQ rfl rfl) qY) qY) (qV qY) rfl) qY (qH rfl (qH rfl qY qY) (qH rfl (qH rfl (qQ rfl rfl) qY) qY))))) rfl sW)
  (qZ (xZ (ev_max P qY (qQ rfl rfl) (qS 1 rfl) rfl rfl) rfl sW)
  (qZ (xZ (qH rfl (qH rfl (ev_slc (qV (qQ rfl rfl)) op_none (op_some (qQ rfl rfl))) (ev_lst (qX (qH rfl (qH rfl (qW _ rfl) (qQ rfl rfl)) (qW _ rfl)) rfl qK))) (ev_slc (qV (qQ rfl rfl)) (op_some (qH rfl (qQ rfl rfl) qY)) op_none)) rfl sW)
  qD)))))
noncomputable def L1.law.m4 : ME :=
  (.bin .add (.loc 7) (.lst [(.tup [(.tup [(.bin .add (.loc 8) (.k (.int 1))), (.loc 10)]), (.ite (.cmp .gt (.loc 10) (.loc 9)) (.k (.str [69, 49, 51, 49])) (.k (.str [69, 49, 50, 50])))])]))
theorem L1.law.m4_ok (P : P5.Ok ⟨prog, w, L1.B, h₁, n, Γ⟩) : yY ⟨prog, w, L1.B, h₁, n, Γ⟩ L1.law.ni ((callArgs (L1.law.x.body.drop 10)).headD default) L1.law.m4 :=
  (qH rfl (qQ rfl rfl) (ev_lst (qX (zN (qX (zN (qX (qH rfl (qQ rfl rfl) qY) rfl (qX (qQ rfl rfl) rfl qK))) rfl (qX (ev_ite (qF rfl (qQ rfl rfl) (qV (qQ rfl rfl)) rfl) (qW _ rfl) (qW _ rfl)) rfl qK))) rfl qK)))
noncomputable def L1.law.m5 : List ME :=
  [(.loc 4), (.loc 1), (.loc 3)]
theorem L1.law.m5_ok (P : P5.Ok ⟨prog, w, L1.B, h₁, n, Γ⟩) : EvsOK ⟨prog, w, L1.B, h₁, n, Γ⟩ L1.law.ni (callArgs (L1.law.x.body.drop 11)) L1.law.m5 :=
  (qX (qQ rfl rfl) rfl (qX (qQ rfl rfl) rfl (qX (qQ rfl rfl) rfl qK)))
theorem L1.law.fn (X : (KH0 w.params).In h₁) : FnOK ⟨prog, w, L1.B, h₁, n, Γ⟩ L1.law.ni 204 L1.law.x.fd L1.law.x.body 1 where
  obj := let ⟨o, h1, h2⟩ := L1.law.x.ok w.params; ⟨o, X _ _ h1, h2⟩
  code := codeRec_of X (by kernel_rfl)
  body := L1.law.x.hb
  clo := rfl
  sc := rfl
  glob := rfl
  blt := rfl
  bind := fun Vs h => by
    rcases Vs with _ | ⟨v0, Vs⟩
    · simp at h
    cases Vs with
    | cons _ _ => simp at h
    | nil => rfl
  chk := by decide +kernel
end
end Mine
end
section
open PySem PySem.W PyProof.Rows PySem.Calls
namespace Mine
structure TopX (w : World) (h : Heap) : Prop where
  X : (KH w.params).In h
  G : ∃ mg, h.Ns mainGlobals mg
  B : ∃ mb, h.Ns builtinsNs mb ∧ ∀ x : Str, x ≠ "__name__" → mb x = bootBuiltins x
  lim : h.NoLimit
theorem kh_none (P : Params) : ∀ x ∈ ("tuple" : Str) :: BI, nsIn (KH P) mainGlobals x = some none := by
  intro x hx
  simp only [BI, List.mem_cons, List.not_mem_nil, or_false] at hx
  rcases hx with rfl | rfl | rfl | rfl | rfl | rfl | rfl | rfl | rfl | rfl | rfl <;> kernel_rfl
theorem kh_ft (P : Params) : ∀ x a, (x, a) ∈ L1.B.FT → nsIn (KH P) mainGlobals x = some (some (.ref a)) ∧ keepIn (KH P) (.ref a) = true := by
  intro x a hx
  simp only [L1.B, List.mem_cons, List.not_mem_nil, or_false, Prod.mk.injEq] at hx
  rcases hx with ⟨rfl, rfl⟩ | ⟨rfl, rfl⟩ | ⟨rfl, rfl⟩ | ⟨rfl, rfl⟩ | ⟨rfl, rfl⟩ | ⟨rfl, rfl⟩ | ⟨rfl, rfl⟩ <;> exact ⟨by kernel_rfl, by kernel_rfl⟩
theorem kh_gc1 (P : Params) : nsIn (KH P) mainGlobals "NEWLINE" = some (some (.ref 159)) := by kernel_rfl
theorem kh_gc2 (P : Params) : ∃ t, nsIn (KH P) mainGlobals "FSTRING_START" = some (some (.int (-1) t)) := ⟨_, rfl⟩
theorem kh_gc3 (P : Params) : ∃ t, nsIn (KH P) mainGlobals "TSTRING_START" = some (some (.int (-1) t)) := ⟨_, rfl⟩
theorem kh_159 (P : Params) : ∃ t u, (KH P).lookup 159 = some { cls := .type "tuple", data := .seq #[.int 62 t, .int 4 u] } := ⟨_, _, rfl⟩
theorem kh_tok (P : Params) : nsIn (KH P) mainGlobals "tokenize" = some (some (.ref 74)) := by kernel_rfl
theorem kh_tread (P : Params) : readsIn (KH P) 74 (.type "type") = true := by kernel_rfl
theorem kh_tk (P : Params) : ∀ x i, (x, i) ∈ L1.B.TK → ∃ t, findCls (KH P) (.ref 74) (.type "type") x = some (.val (.int i t)) := by
  intro x a hx
  simp only [L1.B, List.mem_cons, List.not_mem_nil, or_false, Prod.mk.injEq] at hx
  rcases hx with ⟨rfl, rfl⟩ | ⟨rfl, rfl⟩ | ⟨rfl, rfl⟩ | ⟨rfl, rfl⟩ | ⟨rfl, rfl⟩ | ⟨rfl, rfl⟩ <;> exact ⟨_, rfl⟩
section
variable {prog : Program} {w : World} {h : Heap}
theorem TopX.keeps (T : TopX w h) {h' : Heap} (k : Keeps h h') : TopX w h' :=
  ⟨T.X.keeps k, let ⟨mg, e⟩ := T.G; ⟨mg, e.keeps k⟩, let ⟨mb, e, b⟩ := T.B; ⟨mb, e.keeps k, b⟩, T.lim.keeps k⟩
theorem TopX.bs (T : TopX w h) : Bs prog w L1.B h := by
  obtain ⟨X, ⟨mg, G⟩, ⟨mb, B, hb⟩, lim⟩ := T
  refine ⟨⟨mg, mb, G, B, fun x hx => ⟨mg_none_of X G (kh_none _ x (.tail _ hx)), hb x ?_⟩, fun x a hx => mg_of X G (kh_ft _ x a hx).1, fun x v hx => ?_⟩, lim, fun x a hx => ?_, fun x i hx => ?_, ?_⟩
  · rintro rfl; revert hx; decide
  · simp only [L1.B, List.mem_cons, List.not_mem_nil, or_false, Prod.mk.injEq] at hx
    rcases hx with ⟨rfl, rfl⟩ | ⟨rfl, rfl⟩ | ⟨rfl, rfl⟩
    · obtain ⟨t, u, e⟩ := kh_159 w.params
      exact ⟨_, mg_of X G (kh_gc1 _), _, [.int 62 t, .int 4 u], rfl, id, ⟨0, X _ _ e⟩, _, _, rfl, ⟨t, rfl⟩, _, _, rfl, ⟨u, rfl⟩, rfl⟩
    · obtain ⟨t, e⟩ := kh_gc2 w.params
      exact ⟨_, mg_of X G e, t, rfl⟩
    · obtain ⟨t, e⟩ := kh_gc3 w.params
      exact ⟨_, mg_of X G e, t, rfl⟩
  · intro A E s Q env pos e rest h1 h2 h3
    exact callWith_K (h₀ := h) X (kh_ft _ x a hx).2 (wpAny_mono h1 (fun vs s₁ z => ⟨X.keeps z.1, z.2⟩) fun _ _ z => z) h2 h3
  · intro A E s Q env p p' hk h1 h2 h3 h4
    obtain ⟨t, e⟩ := kh_tk w.params x i hx
    refine Attribute_name (Name_function_global h1 h3 (loadGlobal_global (mg := mg) (by rw [h2]; exact G.keeps hk) (mg_of X G (kh_tok _)) ?_) (by decide))
    exact cls_value (K := KH w.params) (X.keeps hk) (kh_tread _) e (by rfl) (h4 t _ (Ext.toks ..))
  · exact ⟨fun hk ht h1 h2 h3 h4 h5 hs => tk_item (X.keeps hk) ht h1 h2 h3 h4 h5 hs, fun hh hk ht hn h => tk_unpack (X.keeps hk) hh ht hn h⟩
end
end Mine
end
section
open PySem PySem.W PyProof.Rows PySem.Calls
namespace Mine
noncomputable def Γ0 : xB := fun _ _ => none
noncomputable def tokenF : List PV → Option PV
  | [k, a, b, c, d] => some (.tok [k, a, b, c, d])
  | z_ => none
noncomputable def FU : Nat := 200
section
variable {prog : Program} {w : World} {h : Heap}
theorem zF.mono {B : Tbl} {n m : Nat} {a : Addr} {g} (S : zF prog w B h n a g) (hm : n ≤ m) : zF prog w B h m a g := fun args r hr {A E s Q O Vs} ha => S args r hr (AOK.le ha hm)
theorem zF.none {B : Tbl} {n : Nat} {a : Addr} : zF prog w B h n a fun _ => Option.none := fun args r hr => nomatch hr
theorem tokI {args : List PV} {r : PV} {Q : Prop} (h : tokenF args = some r) (k : ∀ a b c d e, args = [a, b, c, d, e] → PV.tok [a, b, c, d, e] = r → Q) : Q := by
  cases args with
  | nil => exact nn h
  | cons a l => cases l with
    | nil => exact nn h
    | cons b l => cases l with
      | nil => exact nn h
      | cons c l => cases l with
        | nil => exact nn h
        | cons d l => cases l with
          | nil => exact nn h
          | cons e l => cases l with
            | nil => exact k a b c d e rfl (Option.some.inj h)
            | cons => exact nn h
theorem tok_spec (T : TopX w h) : zF prog w L1.B h 1 TA tokenF := by
  intro args r hr A E s Q O Vs ha hk hu ho hR k
  refine tokI hr fun v1 v2 v3 v4 v5 e1 e2 => ?_
  subst e1 e2
  obtain ⟨V1, l1, rfl, r1, V2, l2, rfl, r2, V3, l3, rfl, r3, V4, l4, rfl, r4, V5, l5, rfl, r5, rfl⟩ := hR
  have T' := T.keeps hk
  obtain ⟨X, ⟨mg, G⟩, ⟨mb, B, hb⟩, lim⟩ := T'
  have hd := ha.depth
  refine wpAny_call (tk_call X G B hb (mg_none_of X G (kh_none _ _ (.head _))) lim (by omega) fun s' n dx x' hn hf => ?_)
  have nO : ¬ O n := fun q => by obtain ⟨o, e⟩ := hu n q; rw [hf] at e; cases e
  exact k (.ref n) s' x' ⟨n, [V1, V2, V3, V4, V5], rfl, nO, ⟨(0, some dx), hn⟩, (show yX L1.B.T O s.heap [v1, v2, v3, v4, v5] [V1, V2, V3, V4, V5] from ⟨V1, _, rfl, r1, V2, _, rfl, r2, V3, _, rfl, r3, V4, _, rfl, r4, V5, _, rfl, r5, rfl⟩).keep (x'.keepO O)⟩
end
namespace L1
noncomputable def Γ1 : xB := fun f args => match f with
  | 0 => jH Γ0 FU 2 cell.ms args
  | 1 => jH Γ0 FU 1 exp.ms args
  | 2 => tokenF args
  | z_ => none
noncomputable def Γ2 : xB := fun f args => match f with
  | 0 => jH Γ0 FU 2 cell.ms args
  | 3 => jH Γ1 FU 2 laid.ms args
  | 4 => jH Γ1 FU 1 scan.ms args
  | z_ => none
section
variable {prog : Program} {w : World} {h : Heap}
theorem ftC {P : Nat → Addr → Prop} {f : Nat} {x : Str} {a : Addr} (e : L1.B.FT[f]? = some (x, a)) (h0 : P 0 180) (h1 : P 1 173) (h2 : P 2 155) (h3 : P 3 194) (h4 : P 4 187) (h5 : P 5 199) (h6 : P 6 166) : P f a := by
  have g : ∀ {u : Str × Addr}, some u = some (x, a) → u.2 = a := fun e => congrArg Prod.snd (Option.some.inj e)
  match f, e with
  | 0, e => exact g e ▸ h0
  | 1, e => exact g e ▸ h1
  | 2, e => exact g e ▸ h2
  | 3, e => exact g e ▸ h3
  | 4, e => exact g e ▸ h4
  | 5, e => exact g e ▸ h5
  | 6, e => exact g e ▸ h6
  | _ + 7, e => exact nn e
theorem ok0 (T : TopX w h) : P5.Ok ⟨prog, w, L1.B, h, 0, Γ0⟩ := ⟨T.bs, fun f x a _ args r hr => nomatch hr⟩
theorem cell_spec (T : TopX w h) : zF prog w L1.B h 1 180 (jH Γ0 FU 2 cell.ms) := fn_spec (cell.fn T.X) (ok0 T) (cell.sts (ok0 T)) rfl FU
theorem exp_spec (T : TopX w h) : zF prog w L1.B h 1 173 (jH Γ0 FU 1 exp.ms) := fn_spec (exp.fn T.X) (ok0 T) (exp.sts (ok0 T)) rfl FU
theorem ok1 (T : TopX w h) {n : Nat} (hn : 1 ≤ n) : P5.Ok ⟨prog, w, L1.B, h, n, Γ1⟩ := ⟨T.bs, fun f x a e =>
  ftC (P := fun f a => zF prog w L1.B h n a (Γ1 f)) e ((cell_spec T).mono hn) ((exp_spec T).mono hn) ((tok_spec T).mono hn) zF.none zF.none zF.none zF.none⟩
theorem laid_spec (T : TopX w h) : zF prog w L1.B h 2 194 (jH Γ1 FU 2 laid.ms) := fn_spec (laid.fn T.X) (ok1 T (Nat.le_refl 1)) (laid.sts (ok1 T (Nat.le_refl 1))) rfl FU
theorem scan_spec (T : TopX w h) : zF prog w L1.B h 2 187 (jH Γ1 FU 1 scan.ms) := fn_spec (scan.fn T.X) (ok1 T (Nat.le_refl 1)) (scan.sts (ok1 T (Nat.le_refl 1))) rfl FU
theorem ok2 (T : TopX w h) : P5.Ok ⟨prog, w, L1.B, h, 2, Γ2⟩ := ⟨T.bs, fun f x a e =>
  ftC (P := fun f a => zF prog w L1.B h 2 a (Γ2 f)) e ((cell_spec T).mono (Nat.le_succ 1)) zF.none zF.none (laid_spec T) (scan_spec T) zF.none zF.none⟩
end
end L1
end Mine
end
section
open PySem PySem.W PyProof.Rows PySem.SeqAt PySem.Calls
namespace Mine
theorem execs_app {M : Model} {A : Around} {E : Value → Shared → Prop} {env : Env} : ∀ {xs ys : List Stmt} {s : Shared} {Q : Flow → Shared → Prop}, wpAny M A (execs xs env) (fun f s' => match f with | .next => wpAny M A (execs ys env) Q E s' | f => Q f s') E s → wpAny M A (execs (xs ++ ys) env) Q E s := by
  have eq : ∀ xs ys : List Stmt, execs (xs ++ ys) env = execs xs env >>= fun f => match f with | .next => execs ys env | f => pure f := by
    intro xs ys
    induction xs with
    | nil => rw [List.nil_append]; rfl
    | cons x xs ih =>
      rw [List.cons_append, execs_cons, execs_cons, ih]
      show Sem.bind _ _ = Sem.bind (Sem.bind _ _) _
      rw [Sem.bind_assoc]
      congr 1
      funext f
      cases f <;> rfl
  intro xs ys s Q h
  rw [eq]
  refine wpAny_bind (wpAny_mono h (fun f s' z => ?_) fun _ _ z => z)
  cases f <;> first | exact z | exact wpAny_pure z
section
variable {p : P5} {N : NI} {fb : FB} {env : Env} {σ : St} {own : Nat → List Addr} {s : Shared} {A : Around} {E : Value → Shared → Prop}
noncomputable def AllVal (σ : St) : Prop := ∀ k sv, σ k = some sv → ∃ v, sv = .val v
theorem FrR.reref (F : FrR p N fb env σ own s) (hv : AllVal σ) (rf : Nat → Addr) : FrR p N { fb with rf := rf } env σ own s := by
  obtain ⟨m, hm, hs⟩ := F.ns
  refine ⟨F.e, F.nodup, F.kinds, F.capart, F.cl, F.ownA, F.nd, F.top, F.off, F.kp, F.new, F.under, F.cells, ⟨m, hm, fun i sv h => ?_⟩, F.gens, F.drawn, F.os⟩
  obtain ⟨x, V, h1, h2, h3⟩ := hs i sv h
  obtain ⟨v, rfl⟩ := hv i sv h
  exact ⟨x, V, h1, h2, h3⟩
theorem upd_nil (i : Nat) : upd (fun _ => []) i [] = fun _ => ([] : List Addr) := by
  funext j; unfold upd; split <;> rfl
end
end Mine
end
section
open PySem PySem.W PyProof.Rows PySem.SeqAt PySem.Calls
namespace Mine
structure Told (p : P5) (ng : Nat) (Γg : xB) (Ng : NI) (fb : FB) (env : Env) (args : List PV) (body : List Stmt) (sa : Shared) (genv : Env) (s₁ sb : Shared) (G : Addr) : Prop where
  FG : FrR (p.gen ng Γg) Ng (fbIn sa (FO env fb.O₀ fun _ => [])) genv (xD args) (fun _ => []) s₁
  k1 : ∀ b o, s₁.heap.get? b = some o → sb.heap.get? b = some o
  G0 : s₁.heap.get? G = none
  gen : sb.heap.IsGen G sa.gens.size
  gens : sb.gens = sa.gens.push (.fresh (.func body genv))
  drawn : sb.drawn = sa.drawn
  os : sb.os = sa.os
noncomputable def fbT (fb : FB) (env genv : Env) (sb : Shared) (G : Addr) : FB := ⟨fun a o => sb.heap.get? a = some o ∧ ¬ LF env a, fun a => fb.O₀ a ∨ LF genv a, sb, fun _ => G⟩
noncomputable def fbE (fb : FB) (env genv : Env) (sb : Shared) (G : Addr) (s' : Shared) : FB := ⟨fun a o => sb.heap.get? a = some o ∧ ¬ LF env a ∧ ¬ LF genv a, fun a => fb.O₀ a ∨ LF genv a, s', fun _ => G⟩
section
variable {p : P5} {ng : Nat} {Γg : xB} {N Nc Ng : NI} {fb : FB} {env genv : Env} {σ : St} {s sa sb s₁ : Shared} {A : Around} {E : Value → Shared → Prop} {body : List Stmt} {ms : List MS} {args : List PV} {G : Addr}
theorem Told.keep (T : Told p ng Γg Ng fb env args body sa genv s₁ sb G) : ∀ b o, sa.heap.get? b = some o → sb.heap.get? b = some o := fun b o e => T.k1 b o (T.FG.kp b o e)
theorem Told.newG (T : Told p ng Γg Ng fb env args body sa genv s₁ sb G) {a : Addr} (h : LF genv a) : sa.heap.get? a = none ∧ ¬ FO env fb.O₀ (fun _ => []) a ∧ ∃ o, s₁.heap.get? a = some o := by
  obtain ⟨h1, h2, h3⟩ := T.FG.new a (zQ.mpr h)
  refine ⟨?_, h2, h3⟩
  cases e : sa.heap.get? a with
  | none => rfl
  | some o => exact absurd e (h1 o)
theorem Told.frame (T : Told p ng Γg Ng fb env args body sa genv s₁ sb G) (F : FrR p N fb env σ (fun _ => []) sa) (hv : AllVal σ) : FrR p N (fbT fb env genv sb G) env σ (fun _ => []) sb := by
  refine (F.reref hv (fun _ => G)).transport (fb' := fbT fb env genv sb G) (fun b o _ e => T.keep b o e) rfl (fun a o e => ?_) (fun a q => ?_) (fun a o q => q.1) (fun a n => ?_) (fun a q => ?_) (fun a o e q => ?_) rfl rfl rfl
  · exact ⟨T.keep a o (F.kp a o (F.top a o e)), fun q => (F.new a (zQ.mpr q)).1 o (F.top a o e)⟩
  · rcases q with q | q
    · exact F.off a q
    · cases e : p.h₁.get? a with
      | none => rfl
      | some o => have := F.kp a o (F.top a o e); rw [(T.newG q).1] at this; cases this
  · have n' := zQ.mp n
    refine ⟨fun o q => q.2 n', fun q => ?_⟩
    rcases q with q | q
    · exact (F.new a n).2.1 q
    · obtain ⟨_, _, o, e⟩ := F.new a n
      rw [(T.newG q).1] at e; cases e
  · rcases q with q | q
    · obtain ⟨o, e⟩ := F.under a q; exact ⟨o, T.keep a o e⟩
    · obtain ⟨o, e⟩ := (T.newG q).2.2; exact ⟨o, T.k1 a o e⟩
  · rcases q with q | q
    · exact q
    · have := (T.newG q).1
      have e' : sa.heap.get? a = some o := e
      rw [this] at e'; cases e'
theorem st_told (P : p.Ok) (Pg : P5.Ok (p.gen ng Γg)) (hng : ng = p.n) {x : Str} {g : Str} {q gq cq pos : Pos} {e : Expr} {es : List Expr} {as : List ME} {fi : Nat} {a : Addr} {fd : FuncData} {np : Nat} (hf : p.B.FT[fi]? = some (g, a)) (hg : g ∈ N.gl) (hgd : (g == ("__debug__" : Str)) = false)
    (FN : FnOK (p.gen ng Γg) Ng a fd body np) (hgen : Ng.sc.isGenerator = true) (h1 : EvsOK p N (e :: es) as) {i : Nat} (hx : N.slots[i]? = some x) (F : FrR p N fb env σ (fun _ => []) s) (hv : AllVal σ) (ha : AOK (p.n + 1) A)
    (hargs : xW p.Γ σ as = some args) (hlen : args.length = np) {Q : Flow → Shared → Prop}
    (k : ∀ sa genv s₁ sb G s', Told p ng Γg Ng fb env args body sa genv s₁ sb G → Ext s sa → FrR p N (fbT fb env genv sb G) env (σ.set i (.ref 0)) (fun _ => []) s' → Q .next s') :
    wpAny (model p.prog p.w) A (exec (.Assign [.Name x q] (.Call (.Name g gq) (e :: es) [] cq) pos) env) Q E s := by
  have ha' := AOK.le ha (Nat.le_succ _)
  have hs := h1.star
  rw [List.all_cons, Bool.and_eq_true] at hs
  refine wpAny_Assign_Name (Call_ (load_fn P.bs (F.cx ha') hg (List.mem_of_getElem? hf) hgd ?_)) rfl
  refine P.bs.cw _ _ (List.mem_of_getElem? hf) (h1.ev hargs (F.cx ha') fun vs sa x1 r1 => ⟨((F.cx ha').ext x1).k, ?_⟩) (qL hs.1 _ _) (any_star hs.2)
  have Fa := F.ext x1
  have cxa := Fa.cx ha'
  subst hng
  refine gen_make FN Pg hgen hlen ha cxa.k cxa.u cxa.o r1 fun s₁ sb genv FG k1 g0 ig gg dd oo => ?_
  have T : Told p p.n Γg Ng fb env args body sa genv s₁ sb s₁.heap.objs.size := ⟨FG, k1, g0, ig, gg, dd, oo⟩
  have Fb := T.frame Fa hv
  refine Fb.store (sv := .ref 0) hx (Own'.drop Fb i) (And.intro (yF ..) rfl) fun s' F' _ => ?_
  rw [upd_nil] at F'
  exact k sa genv s₁ sb _ s' T x1 F'
end
end Mine
end
section
open PySem PySem.W PyProof.Rows PySem.SeqAt PySem.Calls
namespace Mine
section
variable {p : P5} {ng : Nat} {Γg : xB} {N Nc Ng : NI} {fb : FB} {env genv : Env} {σ σ₀ : St} {s sa sb s₁ : Shared} {A : Around} {E : Value → Shared → Prop} {body : List Stmt} {ms : List MS} {args : List PV} {G : Addr}
theorem run_found (P : p.Ok) (hng : p.n = ng) (Ta : FrR p N fb env σ₀ (fun _ => []) sa) (T : Told p ng Γg Ng fb env args body sa genv s₁ sb G) (F : FrR p N (fbT fb env genv sb G) env σ (fun _ => []) s)
    (hb : GsOK (p.gen ng Γg) Ng body ms) {fuel : Nat} {ys : List PV} {fl : Fl} {σ' : St} (hrun : xQ Γg fuel (xD args) ms = some (ys, fl, σ')) (hfl : fl = .next ∨ fl = .ret .none) (hys : ys.length ≤ SZ)
    {scope : Scope} {x y z : Str} {px py tp qz : Pos} {kk : Nat} {elt : Expr} {pos : Pos} (S : PairSc N Nc scope x y) {m : ME} (he : yY p Nc elt m) {zs : List PV} (hm : jJ (pairF p.Γ m) ys = some zs) (hzt : zY zs = true)
    (a : AOK (p.n + 1) A) {iz : Nat} (hz : N.slots[iz]? = some z) (hzd : (z == ("__debug__" : Str)) = false) (hσz : σ iz = some (.ref 0)) {use : Option (Value → Sem Unit)} {Q : Value → Shared → Prop}
    (k : ∀ C D s', GEnd p env genv fb.O₀ sa.gens.size s s' zs C D → compPost (model p.prog p.w) A E use Q (.ref D) C (.ok .next) s') :
    wpAny (model p.prog p.w) A (comprehension (.ListComp elt [⟨.Tuple [.Name x px, .Name y py] kk tp, .Name z qz, [], 0⟩] scope pos) scope env (firstIterPos [⟨.Tuple [.Name x px, .Name y py] kk tp, .Name z qz, [], 0⟩] pos) (newList []) false (eval (.Name z qz) env) use) Q E s := by
  have hGl : ¬ LF env G := fun q => by
    obtain ⟨_, _, o, e⟩ := Ta.new G (zQ.mpr q)
    have := T.FG.kp G o e
    rw [T.G0] at this; cases this
  have hG : s.heap.IsGen G sa.gens.size := by
    obtain ⟨o, nm, qn, e, r⟩ := T.gen
    exact ⟨o, nm, qn, F.kp G o ⟨e, hGl⟩, r⟩
  refine gen_consume P F T.FG (OX₀ := fb.O₀) (fun a q => .inl q) (fun a q => ⟨.inr q, fun q' => (T.newG q).2.1 (.inl q'), fun q' => (T.newG q).2.1 (.inr (zQ.mpr q'))⟩) (fun a q => q.imp id zQ.mpr) (fun b o h e => F.kp b o ⟨T.k1 b o e, fun q => h (.inr (zQ.mpr q))⟩) rfl
    hG (fun q => by obtain ⟨o, e⟩ := (T.newG q).2.2; rw [T.G0] at e; cases e) F.gens (by show sb.gens[_]? = _; rw [T.gens]; simp) hb hng hrun hfl hys S he hm hzt a hz hzd hσz rfl k
theorem GEnd.frame {gi : Nat} {s' : Shared} {zs : List PV} {C D : Addr} (F : FrR p N (fbT fb env genv sb G) env σ (fun _ => []) s) (e : GEnd p env genv fb.O₀ gi s s' zs C D) (hgl : ∀ a, LF genv a → p.h₁.get? a = none) :
    FrR p N ((fbE fb env genv sb G s').hide (· = C)) env σ (fun _ => []) s' ∧ (∀ o, ¬ (fbE fb env genv sb G s').Kp C o) ∧ ¬ (fbE fb env genv sb G s').O₀ C := by
  have nk : ∀ o, ¬ (fbE fb env genv sb G s').Kp C o := fun o q => by
    have := F.kp C o ⟨q.1, q.2.1⟩; rw [e.fC] at this; cases this
  have nO : ¬ (fbE fb env genv sb G s').O₀ C := fun q => by obtain ⟨o, h⟩ := F.under C q; rw [e.fC] at h; cases h
  have nA : ∀ a, NewA env (fun _ => []) a → a ≠ C := fun a n q => by
    subst q
    obtain ⟨_, _, o, h⟩ := F.new a n
    rw [e.fC] at h; cases h
  have nGL : ∀ a, NewA env (fun _ => []) a → ¬ LF genv a := fun a n q => (F.new a n).2.1 (.inr q)
  obtain ⟨m, hm⟩ := e.ns
  refine ⟨F.transport (fb' := (fbE fb env genv sb G s').hide (· = C)) (fun b o n h => e.keep b o h fun q => n (.inr q)) rfl (fun a o h => ?_) (fun a q => ?_) (fun a o q => e.keep a o (F.kp a o ⟨q.1, q.2.1⟩) q.2.2) (fun a n => ⟨fun o q => q.2.1 (zQ.mp n), fun q => ?_⟩) (fun a q => ?_) (fun a o h q => ?_) rfl rfl rfl, nk, nO⟩
  · have t := F.top a o h
    exact ⟨t.1, t.2, fun q => by rw [hgl a q] at h; cases h⟩
  · rcases q with q | q
    · exact F.off a q
    · subst q
      cases h : p.h₁.get? a with
      | none => rfl
      | some o => exact absurd ⟨(F.top a o h).1, (F.top a o h).2, fun q => by rw [hgl a q] at h; cases h⟩ (nk o)
  · rcases q with q | q
    · exact (F.new a n).2.1 q
    · exact nA a n q
  · rcases q with q | q
    · by_cases hl : LF genv a
      · exact e.live a hl
      · obtain ⟨o, h⟩ := F.under a q; exact ⟨o, e.keep a o h hl⟩
    · subst q; obtain ⟨o, _, _, h, _⟩ := hm; exact ⟨o, h⟩
  · rcases q with q | q
    · exact q
    · subst q; have h' : s.heap.get? a = some o := h; rw [e.fC] at h'; cases h'
theorem Told.off (T : Told p ng Γg Ng fb env args body sa genv s₁ sb G) (Ta : FrR p N fb env σ₀ (fun _ => []) sa) : ∀ a, LF genv a → p.h₁.get? a = none := fun a q => by
  cases e : p.h₁.get? a with
  | none => rfl
  | some o => have := Ta.kp a o (Ta.top a o e); rw [(T.newG q).1] at this; cases this
theorem GEnd.list {gi : Nat} {s' : Shared} {zs : List PV} {C D : Addr} (F : FrR p N (fbT fb env genv sb G) env σ (fun _ => []) s) (e : GEnd p env genv fb.O₀ gi s s' zs C D) {h' : Heap} (hk : ∀ b o, b ≠ C → s'.heap.get? b = some o → h'.get? b = some o) :
    Rep p.B.T (FO env (fbE fb env genv sb G s').O₀ fun _ => []) h' (.lst zs) (.ref D) ∧ Rep p.B.T (FO env ((fbE fb env genv sb G s').hide (· = C)).O₀ fun _ => []) s'.heap (.lst zs) (.ref D) := by
  obtain ⟨vs, hD, hr⟩ := e.rep
  have hDn : ¬ FO env (fbE fb env genv sb G s').O₀ (fun _ => []) D := fun q => by
    have : ∃ o, s.heap.get? D = some o := by
      rcases q with q | q
      · exact F.under D q
      · exact (F.new D q).2.2
    obtain ⟨o, h⟩ := this
    rw [e.fD] at h; cases h
  obtain ⟨nd, hD'⟩ := hD
  refine ⟨⟨D, vs, rfl, hDn, ⟨nd, hk D _ (Ne.symm e.ne) hD'⟩, hr.keep fun b o n h => ⟨hk b o (fun q => n (.inl (.inr (.inr (.inl q))))) h, fun q => n ?_⟩⟩, ⟨D, vs, rfl, fun q => ?_, ⟨nd, hD'⟩, hr.keep fun b o n h => ⟨h, fun q => n ?_⟩⟩⟩
  · rcases q with (q | q) | q
    · exact .inl (.inl q)
    · exact .inr q
    · exact .inl (.inr (.inl (zQ.mp q)))
  · rcases q with (q | q) | q
    · exact hDn (.inl q)
    · exact e.ne q.symm
    · exact hDn (.inr q)
  · rcases q with ((q | q) | q) | q
    · exact .inl (.inl q)
    · exact .inr q
    · exact .inl (.inr (.inr (.inl q)))
    · exact .inl (.inr (.inl (zQ.mp q)))
theorem st_retFound (P : p.Ok) (hng : p.n = ng) (Ta : FrR p N fb env σ₀ (fun _ => []) sa) (T : Told p ng Γg Ng fb env args body sa genv s₁ sb G) (F : FrR p N (fbT fb env genv sb G) env σ (fun _ => []) s)
    (hb : GsOK (p.gen ng Γg) Ng body ms) {fuel : Nat} {ys : List PV} {fl : Fl} {σ' : St} (hrun : xQ Γg fuel (xD args) ms = some (ys, fl, σ')) (hfl : fl = .next ∨ fl = .ret .none) (hys : ys.length ≤ SZ)
    {scope : Scope} {x y z : Str} {px py tp qz : Pos} {kk : Nat} {elt : Expr} {pos spos : Pos} (S : PairSc N Nc scope x y) {m : ME} (he : yY p Nc elt m) {zs : List PV} (hm : jJ (pairF p.Γ m) ys = some zs) (hzt : zY zs = true)
    (a : AOK (p.n + 1) A) {iz : Nat} (hz : N.slots[iz]? = some z) (hzd : (z == ("__debug__" : Str)) = false) (hσz : σ iz = some (.ref 0)) {Q : Flow → Shared → Prop}
    (k : ∀ s' s'' D, FrR p N (fbE fb env genv sb G s') env σ (fun _ => []) s'' → Rep p.B.T (FO env (fbE fb env genv sb G s').O₀ fun _ => []) s''.heap (.lst zs) (.ref D) → s'.gens = sb.gens.setIfInBounds sa.gens.size .finished → s'.drawn = sb.drawn → s'.os = sb.os → Q (.ret (.ref D)) s'') :
    wpAny (model p.prog p.w) A (exec (.Return (some (.ListComp elt [⟨.Tuple [.Name x px, .Name y py] kk tp, .Name z qz, [], 0⟩] scope pos)) spos) env) Q E s := by
  refine wpAny_Return_some ?_
  rw [eval_ListComp]
  refine run_found (use := none) P hng Ta T F hb hrun hfl hys S he hm hzt a hz hzd hσz fun C D s' e => ?_
  obtain ⟨F1, nk, nO⟩ := e.frame F (T.off Ta)
  obtain ⟨mm, hn⟩ := e.ns
  have le : FB.Le p (fbE fb env genv sb G s') ((fbE fb env genv sb G s').hide (· = C)) := ⟨fun _ _ k => k, fun _ o => .inl o, rfl, rfl, F1.top⟩
  refine ⟨mm, hn, fun h' hsb => ?_⟩
  have R := (e.list (h' := h') F fun b o q h => hsb.extBut b o q h).1
  exact k s' _ D (F1.leave le (bad := (· = C)) (s' := { s' with heap := h' }) (fun b q => by subst q; exact ⟨.inr rfl, nO, nk⟩) (fun b o q eb => hsb.extBut b o q eb) rfl rfl rfl) R (e.gens.trans (by rw [F.gens]; rfl)) (e.drawn.trans F.drawn) (e.os.trans F.os)
end
end Mine
end
section
open PySem PySem.W PyProof.Rows PySem.SeqAt PySem.Calls
namespace Mine
namespace L1
inductive ToldP (args zs : List PV) : Prop
  | mk (σ1 : St) (gargs ys : List PV) (fl : Fl) (σ' : St) (hl : args.length = 3) (r1 : qP Γ2 FU (xD args) told.m1 = some (.next, σ1)) (v1 : AllVal σ1) (r2 : xW Γ2 σ1 told.m2 = some gargs) (hlen : gargs.length = 8)
    (r3 : xQ Γ1 FU (xD gargs) ci.ms = some (ys, fl, σ')) (hfl : fl = .next ∨ fl = .ret .none) (hys : ys.length ≤ SZ)
    (hm : jJ (pairF Γ2 told.m4) ys = some zs) (hzt : zY zs = true) : ToldP args zs
theorem told_pair : PairSc told.ni told.m4.ni (compSc (told.x.body.drop 2)) "place" "text" := pairChk_ok (by decide +kernel)
structure ToldQ (O : Addr → Prop) (zs : List PV) (s : Shared) (V : Value) (s' : Shared) : Prop where
  kp : ∀ b o, s.heap.get? b = some o → s'.heap.get? b = some o
  gens : ∃ x, s'.gens = (s.gens.push x).setIfInBounds s.gens.size .finished
  drawn : s'.drawn = s.drawn
  os : s'.os = s.os
  rep : Rep L1.B.T O s'.heap (.lst zs) V
section
variable {prog : Program} {w : World} {h₁ : Heap} {s : Shared} {A : Around} {E : Value → Shared → Prop}
theorem told_call (T : TopX w h₁) {O : Addr → Prop} {args zs : List PV} {Vs : List Value} (ha : AOK 4 A) (hk : Keeps h₁ s.heap) (hu : jM O s.heap) (ho : Off O h₁) (hr : yX L1.B.T O s.heap args Vs) (H : ToldP args zs) {Q : Value → Shared → Prop}
    (k : ∀ V s', ToldQ O zs s V s' → Q V s') : wpAny (model prog w) A (call (.ref 199) Vs) Q E s := by
  obtain ⟨σ1, gargs, ys, fl, σ', hl, r1, v1, r2, hlen, r3, hfl, hys, hm, hzt⟩ := H
  have F := told.fn (prog := prog) (n := 2) (Γ := Γ2) T.X
  have P := ok2 (prog := prog) T
  have Pg : P5.Ok (P5.gen ⟨prog, w, L1.B, h₁, 2, Γ2⟩ 2 Γ1) := ok1 T (by decide)
  obtain ⟨k1, k2, k3, k4, k5, k6, k7⟩ := F.parts
  obtain ⟨o, h1, h2⟩ := F.obj
  have hdep := ha.depth
  refine wpAny_call (codeAny_call_cells (by show A.depth < 1000; omega) (hk _ _ h1) h2 (P.bs.nolimit.keeps hk) (F.code.keeps hk) F.body (F.bind _ (by rw [hr.length, hl])) F.clo F.kinds (fun s₁ x => ?_) (by rw [F.sc]; exact k2) (by rw [F.sc]; rfl) (by rw [F.sc]; exact k1))
  have FR := F.enter hk hu ho hr hl x
  have a3 : AOK 3 (A.deeper (callEnvC told.x.fd s.heap.objs.size 199)) := aok_deeper ha
  generalize callEnvC told.x.fd s.heap.objs.size 199 = env at FR a3
  rw [← List.take_append_drop 1 told.x.body]
  refine execs_app (told.m1_ok P r1 (AOK.le a3 (Nat.le_succ 2)) FR fun f s1 own1 F1 hf _ => ?_)
  cases hf
  have F1b := F1.bare fun k sv h => .inl (v1 k sv h)
  show wpAny _ _ (execs (_ :: told.x.body.drop 2) env) _ _ _
  refine wpAny_execs_cons (st_told (fi := 6) P Pg rfl rfl (qS 0 rfl) rfl (ci.fn T.X) rfl (told.m2_ok P) (i := 4) rfl F1b v1 a3 r2 hlen fun sa genv s₁' sb G s2 TD xa F2 => ?_)
  dsimp only
  have Fa := F1b.ext xa
  show wpAny _ _ (execs (_ :: []) env) _ _ _
  refine wpAny_execs_cons (st_retFound P rfl Fa TD F2 (ci.sts Pg) r3 hfl hys told_pair (told.m4_ok P) hm hzt a3 (iz := 4) rfl rfl rfl fun s4 s5 D F5 hD hg hd hos => ?_)
  dsimp only
  have nl : ∀ b o, s.heap.get? b = some o → ¬ LF env b ∧ ¬ LF genv b := fun b o e => ⟨fun q => (F1b.new b (zQ.mpr q)).1 o e, fun q => by
    have := (TD.newG q).1
    rw [Fa.kp b o e] at this; cases this⟩
  refine k _ s5 ⟨fun b o e => F5.kp b o ⟨TD.keep b o (Fa.kp b o e), (nl b o e).1, (nl b o e).2⟩, ⟨_, F5.gens.trans (hg.trans (by rw [TD.gens, Fa.gens]; rfl))⟩, F5.drawn.trans (hd.trans (TD.drawn.trans Fa.drawn)), F5.os.trans (hos.trans (TD.os.trans Fa.os)), hD.keep fun b o n e => ⟨e, fun q => n (.inl (.inl q))⟩⟩
end
end L1
end Mine
end
section
open PySem PySem.W PyProof.Rows PySem.SeqAt PySem.Calls
namespace Mine
noncomputable def sRun {α : Type} (n : Nat) (f : Nat → Nat → Bool) : KasT α → Option α
  | .ret a => some a
  | .ask i j k => if decide (i < n) && decide (j < n) && decide (i ≠ j) then sRun n f (k (f i j)) else none
noncomputable def sRank (n r i : Nat) : Nat := if i = n - 1 then r else if i < r then i else i + 1
noncomputable def sPerm (n r : Nat) : List Nat := List.range r ++ (n - 1) :: List.range' r (n - 1 - r)
noncomputable def sChk (n r : Nat) : Bool := (sRun n (fun i j => decide (sRank n r i < sRank n r j)) (kas_sort n)).map (·.toList) == some (sPerm n r)
theorem s_all : (List.range 21).all (fun n => decide (n < 2) || (List.range n).all fun r => sChk n r) = true := by decide +kernel
theorem s_chk {n r : Nat} (h2 : 2 ≤ n) (hn : n ≤ 20) (hr : r < n) : sChk n r = true := by
  have h := s_all
  rw [List.all_eq_true] at h
  have h := h n (List.mem_range.mpr (by omega))
  rw [Bool.or_eq_true, decide_eq_true_eq] at h
  rcases h with h | h
  · omega
  · rw [List.all_eq_true] at h
    exact h r (List.mem_range.mpr hr)
theorem sRun_wp {α : Type} {n : Nat} {f : Nat → Nat → Bool} {cmp : Nat → Nat → (Bool → Shared → Prop) → Shared → Prop} {s : Shared} {Q : α → Shared → Prop} (hc : ∀ i j C, i < n → j < n → i ≠ j → C (f i j) s → cmp i j C s) :
    ∀ {t : KasT α} {a : α}, sRun n f t = some a → Q a s → t.kasWp cmp Q s
  | .ret a, _, h, q => by obtain rfl := Option.some.inj h; exact q
  | .ask i j k, a, h, q => by
    unfold sRun at h
    refine iteO h fun hb h => ?_
    simp only [Bool.and_eq_true, decide_eq_true_eq] at hb
    exact hc i j _ hb.1.1 hb.1.2 hb.2 (sRun_wp hc h q)
inductive RowsOf : List PV → List Int → Prop
  | nil : RowsOf [] []
  | cons {l : List PV} {ks : List Int} (r c : Int) (t : List Nat) : RowsOf l ks → RowsOf (.tup [.tup [.int r, .int c], .str t] :: l) (r :: ks)
theorem RowsOf.app {l l' : List PV} {ks ks' : List Int} (h : RowsOf l ks) (h' : RowsOf l' ks') : RowsOf (l ++ l') (ks ++ ks') := by
  induction h with
  | nil => exact h'
  | cons r c t _ ih => exact .cons r c t ih
theorem RowsOf.len {l : List PV} {ks : List Int} (h : RowsOf l ks) : ks.length = l.length := by
  induction h with
  | nil => rfl
  | cons r c t _ ih => rw [List.length_cons, List.length_cons, ih]
inductive RowV (h : Heap) (k : Int) (v : Value) : Prop
  | mk (a b : Addr) (c : Int) (t u : Tok) (V : Value) (n m : Nat) (e : v = .ref a) (ha : h.get? a = some { cls := .type "tuple", data := .seq #[.ref b, V] n }) (hb : h.get? b = some { cls := .type "tuple", data := .seq #[.int k t, .int c u] m }) : RowV h k v
theorem RowsOf.vals {T O h} {l : List PV} {ks : List Int} (R : RowsOf l ks) : ∀ {vs : List Value}, yX T O h l vs → ∀ {i : Nat} {k : Int}, ks[i]? = some k → ∃ v, vs[i]? = some v ∧ RowV h k v := by
  induction R with
  | nil => intro vs _ i k e; simp at e
  | cons r c t _ ih =>
    rintro _ ⟨V, vs, rfl, hv, hr⟩ i k e
    cases i with
    | zero =>
      simp at e; subst e
      obtain ⟨a, ws, rfl, _, ⟨n, ha⟩, ⟨V1, ws1, rfl, h1, V2, ws2, rfl, h2, h3⟩⟩ := hv
      obtain rfl := h3
      obtain ⟨b, us, rfl, _, ⟨m, hb⟩, ⟨U1, us1, rfl, ⟨tt, rfl⟩, U2, us2, rfl, ⟨uu, rfl⟩, h4⟩⟩ := h1
      obtain rfl := h4
      exact ⟨_, by simp, a, b, c, tt, uu, V2, n, m, rfl, ha, hb⟩
    | succ i =>
      obtain ⟨v, h1, h2⟩ := ih hr (by simpa using e)
      exact ⟨v, by simpa using h1, h2⟩
section
variable {prog : Program} {w : World} {A : Around} {E : Value → Shared → Prop} {s : Shared}
theorem tuple_lt2 {a b : Addr} {r1 c1 r2 c2 : Int} {t1 u1 t2 u2 : Tok} {n m : Nat} (h1 : s.heap.get? a = some { cls := .type "tuple", data := .seq #[.int r1 t1, .int c1 u1] n }) (h2 : s.heap.get? b = some { cls := .type "tuple", data := .seq #[.int r2 t2, .int c2 u2] m })
    (hne : r1 ≠ r2) {Q : Value → Shared → Prop} (hq : Q (.bool (decide (r1 < r2))) s) (hu : A.units + 100 < cLine) : wpAny (model prog w) A (compareOp .Lt (.ref a) (.ref b)) Q E s := by
  show wpAny _ _ (richCompare .Lt _ _) _ _ _
  refine wpAny_richCompare_same_room (T := "tuple") ⟨_, h1, rfl⟩ ⟨_, h2, rfl⟩ PySem.F.slot_tuple_lt ?_ (by omega)
  refine wpAny_call_entry PySem.F.slot_tuple_lt ⟨_, h1, rfl⟩ PySem.F.entry_tuple_lt ?_ (PySem.F.args_tuple_lt_2 _ _)
  have f2 := AutoSeq1.sub_tuple_tuple
  have he : ∀ {E' : Value → Shared → Prop} {Q' : Bool → Shared → Prop}, Q' false s → wpAny (model prog w) A.in1 (eqBool (.int r1 t1) (.int r2 t2)) Q' E' s := fun {E' Q'} hq => by
    have : PyData.eqv (.int r1) (.int r2) = false := by show (r1 == r2) = false; simpa using hne
    exact eqAt_reads (.int r1) (.int r2) A.in1 s _ _ [] [] (.int _ _) (.int _ _) rfl rfl (by show A.units + 1 + _ < _; simp [PyData.depth]; omega) prog w E' Q' (this ▸ hq)
  have hl : ∀ {E' : Value → Shared → Prop} {Q' : Value → Shared → Prop}, Q' (.bool (decide (r1 < r2))) s → wpAny (model prog w) A.in1 (richCompare .Lt (.int r1 t1) (.int r2 t2)) Q' E' s := fun {E' Q'} hq => PyProof.Rows.lt_int hq
  wp_walk using wpAny_loadPart' h1, wpAny_loadPart' h2, he, hl
  exact ⟨_, rfl, nofun, hq⟩
theorem row_ask {vs : List Value} {i j : Nat} {x y : Value} {k l : Int} (hi : vs[i]? = some x) (hj : vs[j]? = some y) (hx : RowV s.heap k x) (hy : RowV s.heap l y) (hne : k ≠ l) {C : Bool → Shared → Prop} (hu : A.units + 200 < cLine) (h : C (decide (k < l)) s) : kas_ask prog w A (tuples' false) vs i j C s := by
  obtain ⟨a, b, c, t, u, V, n, m, rfl, ha, hb⟩ := hx
  obtain ⟨a', b', c', t', u', V', n', m', rfl, ha', hb'⟩ := hy
  unfold kas_ask
  rw [List.getD_eq_getElem?_getD, List.getD_eq_getElem?_getD, hi, hj]
  refine kat_lt ha rfl ha' rfl (kat_cons ?_)
  have e : PyData.eqv (.tuple [.int k, .int c]) (.tuple [.int l, .int c']) = false := by
    have : (k == l) = false := by simpa using hne
    simp [PyData.eqv, PyData.eqvAll, this]
  refine eqAt_reads (.tuple [.int k, .int c]) (.tuple [.int l, .int c']) A s _ _ _ _ (.tuple hb rfl rfl (.cons (.int _ _) (.cons (.int _ _) .nil))) (.tuple hb' rfl rfl (.cons (.int _ _) (.cons (.int _ _) .nil))) rfl rfl (by simp [PyData.depth, PyData.depthAll]; omega) prog w _ _ ?_
  rw [e]
  exact kat_no (kat_one _ _ (tuple_lt2 hb hb' hne h (by omega)))
end
end Mine
end
set_option tactic.hygienic true
section
open PySem PySem.W PyProof.Rows PySem.SeqAt PySem.Calls
namespace Mine
theorem yX.split {T O h} : ∀ {l l' : List PV} {vs : List Value}, yX T O h (l ++ l') vs → ∃ v1 v2, vs = v1 ++ v2 ∧ yX T O h l v1 ∧ yX T O h l' v2
  | [], l', vs, r => ⟨[], vs, rfl, rfl, r⟩
  | x :: l, l', vs, r => by
    obtain ⟨v, vs', rfl, h1, h2⟩ := (show ConsR (Rep T O h x) (yX T O h (l ++ l')) vs from r)
    obtain ⟨v1, v2, rfl, h3, h4⟩ := yX.split h2
    exact ⟨v :: v1, v2, rfl, ⟨v, v1, rfl, h1, h3⟩, h4⟩
theorem sPerm_map {vs1 vs2 : List Value} {v : Value} {n : Nat} (hn : n = vs1.length + vs2.length + 1) : (sPerm n vs1.length).map (fun i => (vs1 ++ vs2 ++ [v]).getD i Value.none) = vs1 ++ v :: vs2 := by
  subst hn
  unfold sPerm
  rw [List.map_append, List.map_cons]
  have e : vs1.length + vs2.length + 1 - 1 = vs1.length + vs2.length := rfl
  rw [e]
  congr 1
  · apply List.ext_getElem?
    intro i
    rw [List.getElem?_map]
    by_cases h : i < vs1.length
    · rw [List.getElem?_range h]
      simp [List.getD_eq_getElem?_getD, List.append_assoc, List.getElem?_append_left h, List.getElem?_eq_getElem h]
    · rw [List.getElem?_eq_none (by simpa using h), List.getElem?_eq_none (by omega)]; rfl
  · congr 1
    · simp [List.getD_eq_getElem?_getD]
    · apply List.ext_getElem?
      intro i
      rw [List.getElem?_map]
      by_cases h : i < vs2.length
      · rw [List.getElem?_range' (by omega)]
        rw [List.getElem?_eq_getElem h, Option.map_some, List.getD_eq_getElem?_getD, List.getElem?_append_left (by rw [List.length_append]; omega), List.getElem?_append_right (by omega)]
        rw [show vs1.length + 1 * i - vs1.length = i by omega, List.getElem?_eq_getElem h]; rfl
      · rw [List.getElem?_eq_none (by simp; omega), List.getElem?_eq_none (by omega)]; rfl
theorem pw_rank {K1 K2 : List Int} {k : Int} (hp : (K1 ++ k :: K2).Pairwise (· < ·)) {i : Nat} {a : Int} (h : (K1 ++ K2 ++ [k])[i]? = some a) : (K1 ++ k :: K2)[sRank (K1.length + K2.length + 1) K1.length i]? = some a := by
  unfold sRank
  have hl : i < K1.length + K2.length + 1 := by
    have := (List.getElem?_eq_some_iff.mp h).1
    simp at this
    omega
  split
  · rename_i e
    have e : i = K1.length + K2.length := by omega
    subst e
    rw [List.getElem?_append_right (by simp)] at h
    simp at h
    rw [List.getElem?_append_right (Nat.le_refl _), Nat.sub_self]
    simpa using h
  · rename_i e
    rw [List.getElem?_append_left (by simp; omega)] at h
    split
    · rename_i e2
      rw [List.getElem?_append_left e2] at h ⊢
      exact h
    · rename_i e2
      rw [List.getElem?_append_right (by omega)] at h ⊢
      rw [show i + 1 - K1.length = (i - K1.length) + 1 by omega, List.getElem?_cons_succ]
      exact h
theorem pw_lt {l : List Int} (hp : l.Pairwise (· < ·)) {i j : Nat} {a b : Int} (hi : l[i]? = some a) (hj : l[j]? = some b) (hij : i ≠ j) : a ≠ b ∧ decide (a < b) = decide (i < j) := by
  obtain ⟨h1, e1⟩ := List.getElem?_eq_some_iff.mp hi
  obtain ⟨h2, e2⟩ := List.getElem?_eq_some_iff.mp hj
  rw [List.pairwise_iff_getElem] at hp
  rcases Nat.lt_or_ge i j with h | h
  · have := hp i j h1 h2 h
    rw [e1, e2] at this
    exact ⟨by omega, by rw [decide_eq_true this, decide_eq_true h]⟩
  · have := hp j i h2 h1 (by omega)
    rw [e1, e2] at this
    exact ⟨by omega, by rw [decide_eq_false (by omega), decide_eq_false (by omega)]⟩
theorem rank_ne {n r i j : Nat} (hr : r < n) (hi : i < n) (hj : j < n) (h : i ≠ j) : sRank n r i ≠ sRank n r j := by
  unfold sRank
  repeat' split
  all_goals omega
section
variable {prog : Program} {w : World} {A : Around} {E : Value → Shared → Prop} {s : Shared}
theorem sort_run {vs vs1 vs2 : List Value} {v : Value} {K1 K2 : List Int} {k : Int} (hvs : vs = vs1 ++ vs2 ++ [v]) (l1 : K1.length = vs1.length) (l2 : K2.length = vs2.length) (hR : ∀ {i : Nat} {a : Int}, (K1 ++ K2 ++ [k])[i]? = some a → ∃ x, vs[i]? = some x ∧ RowV s.heap a x)
    (hp : (K1 ++ k :: K2).Pairwise (· < ·)) (h2 : 2 ≤ vs.length) (hn : vs.length ≤ 20) (hu : A.units + 200 < cLine) {Q : SortSt → Shared → Prop} (hQ : ∀ st, (arrOf st).map (·.2) = (vs1 ++ v :: vs2).toArray → failedOf st = none → Q st s) :
    wpAny (model prog w) A (keyKind' vs.toArray) (fun κ s' => wpAny (model prog w) A ((sortRuns').run (SortSt.mk' κ (vs.toArray.zip vs.toArray) #[] 7 none)) (fun r s' => Q r.2 s') E s') E s := by
  have hlen : vs.length = vs1.length + vs2.length + 1 := by rw [hvs]; simp; omega
  have hall : ∀ i, i < vs.length → ∃ x a, (K1 ++ K2 ++ [k])[i]? = some a ∧ vs[i]? = some x ∧ RowV s.heap a x := fun i hi => by
    have hk : i < (K1 ++ K2 ++ [k]).length := by simp; omega
    obtain ⟨x, e1, e2⟩ := hR (List.getElem?_eq_getElem hk)
    exact ⟨x, _, List.getElem?_eq_getElem hk, e1, e2⟩
  obtain ⟨fs, hfs, hfr⟩ : ∃ fs, KatTups s.heap vs fs ∧ ∀ f ∈ fs, ∃ b o, f = .ref b ∧ s.heap.get? b = some o ∧ o.cls = .type "tuple" := by
    have : ∀ vs : List Value, (∀ x ∈ vs, ∃ a, RowV s.heap a x) → ∃ fs, KatTups s.heap vs fs ∧ ∀ f ∈ fs, ∃ b o, f = .ref b ∧ s.heap.get? b = some o ∧ o.cls = .type "tuple" := fun vs => by
      induction vs with
      | nil => intro _; exact ⟨[], .nil, nofun⟩
      | cons x vs ih =>
        intro h
        obtain ⟨fs, h1, h2⟩ := ih fun y hy => h y (.tail _ hy)
        obtain ⟨a, ⟨p, b, c, t, u, V, n, m, rfl, ha, hb⟩⟩ := h x (.head _)
        refine ⟨.ref b :: fs, .cons ha rfl rfl rfl h1, fun f hf => ?_⟩
        rcases List.mem_cons.mp hf with rfl | hf
        · exact ⟨b, _, rfl, hb, rfl⟩
        · exact h2 f hf
    refine this vs fun x hx => ?_
    obtain ⟨i, hi, e⟩ := List.mem_iff_getElem.mp hx
    obtain ⟨y, a, _, e2, r⟩ := hall i hi
    rw [List.getElem?_eq_getElem hi] at e2
    obtain rfl := Option.some.inj e2
    exact ⟨a, e ▸ r⟩
  have hfl : 0 < fs.length := by
    cases vs with
    | nil => simp at h2
    | cons x vs => cases fs with
      | nil => exact hfs.elim
      | cons => simp
  refine kat_kind (T := .type "tuple") hfs hfl (fun f hf => ?_) (by decide) ?_
  · obtain ⟨b, o, rfl, hb, hc⟩ := hfr f hf
    rw [← hc]
    exact (Looks.ld hb).andThen .now
  · have hf : (Value.type "tuple" != Value.type "tuple") = false := by decide
    rw [hf]
    have hr : vs1.length < vs.length := by omega
    have hc := s_chk h2 hn hr
    unfold sChk at hc
    rw [beq_iff_eq] at hc
    obtain ⟨p, hp1, hp2⟩ := Option.map_eq_some_iff.mp hc
    refine kat_run (ks := vs) (vs := vs) rfl h2 (by omega) (G := fun p s' => p.toList = sPerm vs.length vs1.length ∧ s' = s) (fun p' st' s' a1 a2 a3 a4 => ?_) (sRun_wp (f := fun i j => decide (sRank vs.length vs1.length i < sRank vs.length vs1.length j)) (fun i j C hi hj hij hC => ?_) hp1 ⟨hp2, rfl⟩)
    · obtain ⟨a4, rfl⟩ := a4
      refine hQ _ ?_ a3
      rw [kat_snds rfl a2, a4, hvs, sPerm_map (by simp; omega)]
    · obtain ⟨x, a, q1, q2, q3⟩ := hall i hi
      obtain ⟨y, b, q4, q5, q6⟩ := hall j hj
      have r1 := pw_rank hp q1
      have r2 := pw_rank hp q4
      rw [show K1.length + K2.length + 1 = vs.length by omega, l1] at r1 r2
      obtain ⟨e1, e2⟩ := pw_lt hp r1 r2 (rank_ne hr hi hj hij)
      exact row_ask q2 q5 q3 q6 e1 hu (e2 ▸ hC)
end
end Mine
end
set_option tactic.hygienic false
section
open PySem PySem.W PyProof.Rows PySem.SeqAt PySem.Calls
namespace Mine
section
variable {prog : Program} {w : World} {A : Around} {E : Value → Shared → Prop} {s : Shared}
theorem list_sort_rows {a : Addr} {vs vs1 vs2 : List Value} {v : Value} {K1 K2 : List Int} {k : Int} {n : Nat} {P : PySem.Fin → Shared → Prop} (hvs : vs = vs1 ++ vs2 ++ [v]) (l1 : K1.length = vs1.length) (l2 : K2.length = vs2.length)
    (hR : ∀ {i : Nat} {x : Int}, (K1 ++ K2 ++ [k])[i]? = some x → ∃ y, vs[i]? = some y ∧ RowV s.heap x y) (ho : s.heap.get? a = some (seqObj "list" vs.toArray n)) (hp : (K1 ++ k :: K2).Pairwise (· < ·)) (hn : vs.length ≤ 20) (hu : A.units + 200 < cLine)
    (h : P (.done (.ret .none)) { s with heap := sortedHeap s.heap a vs (vs1 ++ v :: vs2).toArray }) :
    wpAny (model prog w) A (Builtin.«list.sort» ⟨[.ref a], []⟩) P E s := by
  rw [list_sort_plain]
  have ha : a < s.heap.objs.size := Heap.lt_size ho
  have hz : 1000 ≤ sizeLine := Nat.le_trans (by decide) xX
  refine wpAny_bind (listItems_at ho rfl ?_)
  refine wpAny_bind (listUpdate_at ho rfl ?_ (by rw [List.size_toArray]; omega) (Nat.zero_le _))
  obtain ⟨e1, ho1⟩ : ∃ e1, (s.heap.update a (Obj.mapSeq fun _ => #[])).get? a = some (seqObj "list" #[] e1) := ⟨_, get?_update_seq ho (fun _ => #[])⟩
  refine wpAny_bind (seqEpoch_at ho1 rfl ?_)
  refine wpAny_bind (wpAny_newTuple ?_ (by show vs.length ≤ _; omega))
  refine wpAny_bind (wpAny_newList ?_ (Nat.zero_le _))
  refine wpAny_holding ?_
  have ho6 : (((s.heap.update a (Obj.mapSeq fun _ => #[])).push (seqObj "tuple" vs.toArray 0)).push (seqObj "list" #[] 0)).get? a = some (seqObj "list" #[] e1) := by
    rw [Heap.get?_push_ne _ _ _ (by rw [size_push', Heap.size_update]; exact Nat.ne_of_lt (Nat.lt_succ_of_lt ha)), Heap.get?_push_ne _ _ _ (by rw [Heap.size_update]; exact Nat.ne_of_lt ha)]
    exact ho1
  have old : ∀ b o, o.cls = .type "tuple" → s.heap.get? b = some o → (((s.heap.update a (Obj.mapSeq fun _ => #[])).push (seqObj "tuple" vs.toArray 0)).push (seqObj "list" #[] 0)).get? b = some o := fun b o hc e => by
    have hb : b ≠ a := by
      rintro rfl
      rw [ho] at e
      obtain rfl := Option.some.inj e
      simp at hc
    exact Heap.get?_push_of_some _ (Heap.get?_push_of_some _ (by rw [Heap.get?_update_ne _ _ _ _ hb]; exact e))
  have hR' : ∀ {i : Nat} {x : Int}, (K1 ++ K2 ++ [k])[i]? = some x → ∃ y, vs[i]? = some y ∧ RowV (((s.heap.update a (Obj.mapSeq fun _ => #[])).push (seqObj "tuple" vs.toArray 0)).push (seqObj "list" #[] 0)) x y := fun e => by
    obtain ⟨y, q, ⟨p, b, c, t, u, V, n, m, e, ha, hb⟩⟩ := hR e
    exact ⟨y, q, p, b, c, t, u, V, n, m, e, old _ _ rfl ha, old _ _ rfl hb⟩
  show wpAny (model prog w) A _ P E { s with heap := ((s.heap.update a (Obj.mapSeq fun _ => #[])).push (seqObj "tuple" vs.toArray 0)).push (seqObj "list" #[] 0) }
  dsimp only
  have fin : ∀ st' : SortSt, (arrOf st').map (·.2) = (vs1 ++ v :: vs2).toArray → P (.done (.ret .none)) { s with heap := (((s.heap.update a (Obj.mapSeq fun _ => #[])).push (seqObj "tuple" vs.toArray 0)).push (seqObj "list" #[] 0)).update a (Obj.mapSeq fun _ => (arrOf st').map (·.2)) } := fun st' e => by
    rw [e]; exact h
  have hsz : (vs1 ++ v :: vs2).toArray.size ≤ sizeLine + 1 := by
    rw [hvs] at hn
    simp at hn ⊢
    omega
  by_cases h2 : vs.toArray.size < 2
  · rw [if_pos h2, if_pos h2]
    refine wpAny_bind (wpAny_pure ?_)
    rw [StateT.run_pure]
    refine wpAny_bind (wpAny_pure ?_)
    dsimp only
    refine wpAny_bind (seqEpoch_at ho6 rfl ?_)
    have e0 : (arrOf (SortSt.mk' general' (vs.toArray.zip vs.toArray) #[] 7 none)).map (·.2) = (vs1 ++ v :: vs2).toArray := by
      rw [List.size_toArray] at h2
      rw [hvs] at h2
      obtain rfl : vs1 = [] := List.eq_nil_of_length_eq_zero (by simp at h2; omega)
      obtain rfl : vs2 = [] := List.eq_nil_of_length_eq_zero (by simp at h2; omega)
      subst hvs
      show (([v].toArray.zip [v].toArray).map (·.2)) = [v].toArray
      simp
    refine wpAny_bind (listUpdate_at ho6 rfl ?_ (Nat.zero_le _) (by rw [e0]; exact hsz))
    simp only [bne_self_eq_false, Bool.false_eq_true, if_false]
    exact wpAny_pure (fin _ e0)
  · rw [if_neg h2, if_neg h2]
    rw [List.size_toArray] at h2
    refine wpAny_bind (wpAny_mono (sort_run (E := E) (s := { s with heap := ((s.heap.update a (Obj.mapSeq fun _ => #[])).push (seqObj "tuple" vs.toArray 0)).push (seqObj "list" #[] 0) }) (Q := fun st' s' => s' = { s with heap := ((s.heap.update a (Obj.mapSeq fun _ => #[])).push (seqObj "tuple" vs.toArray 0)).push (seqObj "list" #[] 0) } ∧ (arrOf st').map (·.2) = (vs1 ++ v :: vs2).toArray ∧ failedOf st' = none)
      hvs l1 l2 hR' hp (by omega) hn hu fun st q1 q2 => ⟨rfl, q1, q2⟩) (fun κ s' hk => ?_) fun _ _ e => e)
    refine wpAny_bind (wpAny_mono hk ?_ fun _ _ e => e)
    rintro ⟨⟨⟩, st'⟩ s' ⟨rfl, e0, hf⟩
    dsimp only
    refine wpAny_bind (seqEpoch_at ho6 rfl ?_)
    refine wpAny_bind (listUpdate_at ho6 rfl ?_ (Nat.zero_le _) (by rw [e0]; exact hsz))
    rw [hf]
    simp only [bne_self_eq_false, Bool.false_eq_true, if_false]
    exact wpAny_pure (fin st' e0)
theorem sorted_ok {T : Addr} {O : Addr → Prop} {n : Nat} (hA : AOK (n + 1) A) {L1 L2 : List PV} {x : PV} {K1 K2 : List Int} {k : Int} (h1 : RowsOf L1 K1) (h2 : RowsOf L2 K2) (hx : RowsOf [x] [k]) (hp : (K1 ++ k :: K2).Pairwise (· < ·)) (hn : L1.length + L2.length ≤ 19)
    {V : Value} (hr : Rep T O s.heap (.lst (L1 ++ L2 ++ [x])) V) (hu : jM O s.heap) {Q : Value → Shared → Prop} (kk : ∀ V' s', Ext s s' → Rep T O s'.heap (.lst (L1 ++ x :: L2)) V' → Q V' s') : wpAny (model prog w) A (call (.builtin "sorted") [V]) Q E s := by
  obtain ⟨l, vs, rfl, _, hl, hv⟩ := hr
  obtain ⟨v12, v3, rfl, r12, r3⟩ := yX.split hv
  obtain ⟨v1, v2, rfl, r1, r2⟩ := yX.split r12
  obtain ⟨v, v0, rfl, rx, r0⟩ := (show ConsR (Rep T O s.heap x) (yX T O s.heap []) v3 from r3)
  obtain rfl := (show v0 = [] from r0)
  have e1 := r1.length
  have e2 := r2.length
  have hu' := hA.units
  have hc : cLine = 9900 := rfl
  have hz : 1000 ≤ sizeLine := Nat.le_trans (by decide) xX
  have hR : ∀ {i : Nat} {a : Int}, (K1 ++ K2 ++ [k])[i]? = some a → ∃ y, (v1 ++ v2 ++ [v])[i]? = some y ∧ RowV s.heap a y := fun e => (((h1.app h2).app hx).vals hv) e
  have hlen : (v1 ++ v2 ++ [v]).length ≤ 20 := by simp; omega
  generalize hvs : v1 ++ v2 ++ [v] = vs at *
  refine Calls.call_function_entry kind_sorted plain_sorted entry_sorted (args_sorted1 _) ?_
  unfold Builtin.«sorted»
  refine wpAny_bind (m := checkCount "sorted" 1 1 _) (wpAny_pure ?_)
  refine wpAny_bind (collect_list hl.isList ?_ (by omega))
  refine wpAny_bind (wpAny_newList ?_ (by show vs.length ≤ _; omega))
  have hsz : ((s.heap.push (seqObj "list" #[] 0)).update s.heap.objs.size (Obj.mapSeq (· ++ vs.toArray))).objs.size = s.heap.objs.size + 1 := by
    rw [Heap.size_update, size_push']
  have hoL : (((s.heap.push (seqObj "list" #[] 0)).update s.heap.objs.size (Obj.mapSeq (· ++ vs.toArray))).push (seqObj "list" vs.toArray 0)).get? (s.heap.objs.size + 1) = some (seqObj "list" vs.toArray 0) := by
    rw [← hsz]; exact Heap.get?_push_size _ rfl
  have old : ∀ b o, s.heap.get? b = some o → (((s.heap.push (seqObj "list" #[] 0)).update s.heap.objs.size (Obj.mapSeq (· ++ vs.toArray))).push (seqObj "list" vs.toArray 0)).get? b = some o := fun b o e =>
    Heap.get?_push_of_some _ (by rw [Heap.get?_update_ne _ _ _ _ (Nat.ne_of_lt (Heap.lt_size e))]; exact Heap.get?_push_of_some _ e)
  show wpAny _ _ _ _ _ { s with heap := ((s.heap.push (seqObj "list" #[] 0)).update s.heap.objs.size (Obj.mapSeq (· ++ vs.toArray))).push (seqObj "list" vs.toArray 0) }
  rw [hsz]
  have hE : Ext s { s with heap := sortedAll s.heap vs (v1 ++ v :: v2).toArray } := ⟨fun b o e => sortedAll_old e, rfl, rfl, rfl⟩
  obtain ⟨ee, hat⟩ := sortedAll_at s.heap vs (v1 ++ v :: v2).toArray
  have nO : ¬ O (s.heap.objs.size + 1) := fun q => by
    obtain ⟨o, e⟩ := hu _ q
    exact absurd (Heap.lt_size e) (Nat.not_lt.mpr (Nat.le_succ _))
  have hRep : yX T O s.heap (L1 ++ x :: L2) (v1 ++ v :: v2) := yX.append r1 ⟨v, v2, rfl, rx, r2⟩
  refine wpAny_bind (wpAny_holding (wpAny_call_entry slot_list_sort ⟨_, hoL, rfl⟩ entry_list_sort (list_sort_rows hvs.symm (h1.len.trans e1.symm) (h2.len.trans e2.symm) (fun e => ?_) hoL hp hlen (by show A.units + 1 + 1 + 200 < _; omega) ⟨_, rfl, ?_⟩) (args_list_sort _)))
  · obtain ⟨y, q, ⟨p, b, c, t, u, V, n, m, e, ha, hb⟩⟩ := hR e
    exact ⟨y, q, p, b, c, t, u, V, n, m, e, old _ _ ha, old _ _ hb⟩
  · exact wpAny_pure ⟨_, rfl, kk _ _ hE ⟨_, _, rfl, nO, ⟨ee, hat⟩, hRep.ext hE⟩⟩
end
end Mine
end
section
open PySem PySem.W
namespace Mine
namespace L1
noncomputable def ci.pre : List MS :=
  [.skip,
  .asg 8 (.idx (.idx (.idx (.loc 1) (.k (.int 0))) (.k (.int 2))) (.k (.int 0))),
  .asg 9 (.bin .sub (.bin .add (.k (.int 1)) (.idx (.idx (.idx (.loc 1) (.neg (.k (.int 1)))) (.k (.int 2))) (.k (.int 0)))) (.loc 8)),
  .ifs (.or [(.loc 6), (.cmp .eq (.loc 9) (.k (.int 1)))])
    [.retN]
    [],
  .asg 10 (.meth .endswith (.loc 0) [(.k (.str [58]))]),
  .asg2 11 12 (.k (.int 0)),
  .asg 13 (.ite (.cmp .ne (.loc 4) (.k (.str [9]))) (.tup [(.loc 5)]) (.tup [(.loc 5), (.bin .mul (.loc 5) (.k (.int 2)))])),
  .asgL 14 (.bin .mul (.lst [(.k (.int 0))]) (.loc 9)),
  .asgL 15 (.bin .mul (.lst [(.k (.int 0))]) (.loc 9)),
  .asgLL 16,
  .asgL 17 (.lst [(.k .none)]),
  .asgD 18,
  .asg 19 (.idx (.idx (.loc 1) (.k (.int 0))) (.k (.int 2))),
  .asg 20 (.k .none),
  .asg 21 (.k (.bool false)),
  .asgL 22 (.lst [(.idx (.loc 19) (.k (.int 1)))])]
noncomputable def ci.b0 : MS :=
  .asg 28 (.cmp .lt (.loc 11) (.bin .sub (.idx (.loc 25) (.k (.int 0))) (.loc 8)))
noncomputable def ci.b1 : MS :=
  .ifs (.loc 28)
      [.asg 11 (.bin .sub (.idx (.loc 25) (.k (.int 0))) (.loc 8)),
      .asg 28 (.and [(.not (.loc 21)), (.cmp .notIn (.loc 23) (.k (.tup [.int 62, .int 4])))])]
      []
noncomputable def ci.b2 : MS :=
  .ifs (.loc 28)
      [.asg 19 (.loc 25),
      .seti 15 (.loc 11) (.bin .sub (.call 1 [(.loc 27)]) (.loc 2)),
      .asg 29 (.and [(.cmp .eq (.loc 23) (.k (.int 54))), (.cmp .isIn (.loc 24) (.k (.str [93, 125, 41])))]),
      .forRev 30 16 (.loc 12)
        [.asg 31 (.bin .sub (.idx (.bor 15) (.loc 11)) (.idx (.bor 15) (.loc 30))),
        .asg 32 (.cmp .isIn (.loc 31) (.loc 13)),
        .ifs (.loc 32)
          [.brk]
          []],
      .ifs (.idx (.bor 17) (.loc 12))
        [.asg 32 (.cmp .eq (.loc 31) (.idx (.bor 17) (.loc 12)))]
        [],
      .asg 20 (.and [(.not (.loc 29)), (.cmp .gt (.loc 31) (.k (.int 0))), (.dget 18 (.idx (.loc 25) (.k (.int 1))))]),
      .ifs (.and [(.loc 29), (.idx (.bor 22) (.loc 12))])
        [.stuck]
        [.ifs (.and [(.loc 29), (.not (.loc 31))])
          [.ifs (.loc 3)
            [.yield (.tup [(.loc 25), (.k (.str [69, 49, 51, 51, 32, 99, 108, 111, 115, 105, 110, 103, 32, 98, 114, 97, 99, 107, 101, 116, 32, 105, 115, 32, 109, 105, 115, 115, 105, 110, 103, 32, 105, 110, 100, 101, 110, 116, 97, 116, 105, 111, 110]))])]
            []]
          [.ifs (.and [(.idx (.bor 22) (.loc 12)), (.cmp .lt (.idx (.loc 25) (.k (.int 1))) (.idx (.bor 22) (.loc 12)))])
            [.stuck]
            [.ifs (.or [(.loc 32), (.and [(.loc 10), (.cmp .eq (.idx (.bor 15) (.loc 11)) (.bin .mul (.k (.int 2)) (.loc 5)))])])
              [.ifs (.and [(.loc 29), (.not (.loc 3))])
                [.stuck]
                [],
              .seti 17 (.loc 12) (.loc 31)]
              [.ifs (.cmp .eq (.loc 20) (.k (.bool true)))
                [.stuck]
                [.ifs (.cmp .isIn (.loc 20) (.tup [(.loc 24), (.k (.str [32]))]))
                  [.stuck]
                  [.ifs (.cmp .le (.loc 31) (.k (.int 0)))
                    [.asg 33 (.tup [(.k (.str [69, 49, 50, 50])), (.k (.str [109, 105, 115, 115, 105, 110, 103, 32, 105, 110, 100, 101, 110, 116, 97, 116, 105, 111, 110, 32, 111, 114, 32, 111, 117, 116, 100, 101, 110, 116, 101, 100]))])]
                    [.ifs (.idx (.bor 22) (.loc 12))
                      [.stuck]
                      [.ifs (.and [(.not (.loc 29)), (.idx (.bor 17) (.loc 12))])
                        [.asg 33 (.tup [(.k (.str [69, 49, 51, 49])), (.k (.str [117, 110, 97, 108, 105, 103, 110, 101, 100, 32, 102, 111, 114, 32, 104, 97, 110, 103, 105, 110, 103, 32, 105, 110, 100, 101, 110, 116]))])]
                        [.stuck]]],
                  .yield (.tup [(.loc 25), (.bin .mod (.k (.str [37, 115, 32, 99, 111, 110, 116, 105, 110, 117, 97, 116, 105, 111, 110, 32, 108, 105, 110, 101, 32, 37, 115])) (.loc 33))])]]]]]]]
      []
noncomputable def ci.b3 : MS :=
  .ifs (.and [(.idx (.bor 14) (.loc 11)), (.cmp .notIn (.loc 23) (.tup [(.k (.int 62)), (.k (.int 61))])), (.not (.idx (.bor 22) (.loc 12)))])
      [.stuck]
      [.ifs (.inset (.loc 23) [(.k (.int 3)), (.k (.int 61)), (.k (.int (-1))), (.k (.int (-1)))])
        [.stuck]
        [.ifs (.and [(.not (.loc 11)), (.not (.loc 12)), (.cmp .isIn (.loc 24) (.lst [(.k (.str [97, 115, 115, 101, 114, 116])), (.k (.str [114, 97, 105, 115, 101])), (.k (.str [119, 105, 116, 104]))]))])
          [.stuck]
          [.ifs (.and [(.dempty 18), (.not (.loc 11)), (.not (.loc 12)), (.cmp .eq (.loc 24) (.k (.str [105, 102])))])
            [.stuck]
            [.ifs (.and [(.cmp .eq (.loc 24) (.k (.str [58]))), .stuck])
              [.stuck]
              []]]]]
noncomputable def ci.b4 : MS :=
  .ifs (.cmp .eq (.loc 23) (.k (.int 54)))
      [.ifs (.cmp .isIn (.loc 24) (.k (.str [40, 91, 123])))
        [.aug 12 .add (.k (.int 1)),
        .app 22 (.k (.int 0)),
        .app 17 (.k .none),
        .ifs (.cmp .eq (.len2 16) (.loc 12))
          [.appN 16]
          [],
        .app2 16 (.loc 12) (.loc 11),
        .augi 14 (.loc 11) .add (.k (.int 1))]
        [.ifs (.and [(.cmp .isIn (.loc 24) (.k (.str [41, 93, 125]))), (.cmp .gt (.loc 12) (.k (.int 0)))])
          [.popOr 34 22 (.idx (.loc 19) (.k (.int 1))),
          .pop 17,
          .forUp 35 (.k (.int 0)) (.loc 12)
            [.ifs (.cmp .gt (.idx (.bor 22) (.loc 35)) (.loc 34))
              [.seti 22 (.loc 35) (.k (.int 0))]
              []],
          .forL [36] (.dkeys 18)
            [.ifs (.cmp .ge (.loc 36) (.loc 34))
              [.ddel 18 (.loc 36)]
              []],
          .trunc 16 (.bin .add (.loc 12) (.k (.int 1))),
          .aug 12 .sub (.k (.int 1)),
          .ifs (.loc 12)
            [.dset 18 (.idx (.bor 22) (.loc 12)) (.k (.bool true))]
            [],
          .forDown 37 (.loc 11)
            [.ifs (.idx (.bor 14) (.loc 37))
              [.augi 14 (.loc 37) .sub (.k (.int 1)),
              .brk]
              []]]
          []],
      .assert (.cmp .eq (.len (.bor 22)) (.bin .add (.loc 12) (.k (.int 1)))),
      .ifs (.dnin 18 (.idx (.loc 25) (.k (.int 1))))
        [.dset 18 (.idx (.loc 25) (.k (.int 1))) (.loc 24)]
        []]
      []
noncomputable def ci.b5 : MS :=
  .asg 21 (.cmp .ne (.idx (.loc 25) (.k (.int 0))) (.idx (.loc 26) (.k (.int 0))))
noncomputable def ci.b6 : MS :=
  .ifs (.loc 21)
      [.stuck]
      []
noncomputable def ci.n0 : MS :=
  .asg 19 (.loc 25)
noncomputable def ci.n1 : MS :=
  .seti 15 (.loc 11) (.bin .sub (.call 1 [(.loc 27)]) (.loc 2))
noncomputable def ci.n2 : MS :=
  .asg 29 (.and [(.cmp .eq (.loc 23) (.k (.int 54))), (.cmp .isIn (.loc 24) (.k (.str [93, 125, 41])))])
noncomputable def ci.n3 : MS :=
  .forRev 30 16 (.loc 12)
        [.asg 31 (.bin .sub (.idx (.bor 15) (.loc 11)) (.idx (.bor 15) (.loc 30))),
        .asg 32 (.cmp .isIn (.loc 31) (.loc 13)),
        .ifs (.loc 32)
          [.brk]
          []]
noncomputable def ci.n4 : MS :=
  .ifs (.idx (.bor 17) (.loc 12))
        [.asg 32 (.cmp .eq (.loc 31) (.idx (.bor 17) (.loc 12)))]
        []
noncomputable def ci.n5 : MS :=
  .asg 20 (.and [(.not (.loc 29)), (.cmp .gt (.loc 31) (.k (.int 0))), (.dget 18 (.idx (.loc 25) (.k (.int 1))))])
noncomputable def ci.n6 : MS :=
  .ifs (.and [(.loc 29), (.idx (.bor 22) (.loc 12))])
        [.stuck]
        [.ifs (.and [(.loc 29), (.not (.loc 31))])
          [.ifs (.loc 3)
            [.yield (.tup [(.loc 25), (.k (.str [69, 49, 51, 51, 32, 99, 108, 111, 115, 105, 110, 103, 32, 98, 114, 97, 99, 107, 101, 116, 32, 105, 115, 32, 109, 105, 115, 115, 105, 110, 103, 32, 105, 110, 100, 101, 110, 116, 97, 116, 105, 111, 110]))])]
            []]
          [.ifs (.and [(.idx (.bor 22) (.loc 12)), (.cmp .lt (.idx (.loc 25) (.k (.int 1))) (.idx (.bor 22) (.loc 12)))])
            [.stuck]
            [.ifs (.or [(.loc 32), (.and [(.loc 10), (.cmp .eq (.idx (.bor 15) (.loc 11)) (.bin .mul (.k (.int 2)) (.loc 5)))])])
              [.ifs (.and [(.loc 29), (.not (.loc 3))])
                [.stuck]
                [],
              .seti 17 (.loc 12) (.loc 31)]
              [.ifs (.cmp .eq (.loc 20) (.k (.bool true)))
                [.stuck]
                [.ifs (.cmp .isIn (.loc 20) (.tup [(.loc 24), (.k (.str [32]))]))
                  [.stuck]
                  [.ifs (.cmp .le (.loc 31) (.k (.int 0)))
                    [.asg 33 (.tup [(.k (.str [69, 49, 50, 50])), (.k (.str [109, 105, 115, 115, 105, 110, 103, 32, 105, 110, 100, 101, 110, 116, 97, 116, 105, 111, 110, 32, 111, 114, 32, 111, 117, 116, 100, 101, 110, 116, 101, 100]))])]
                    [.ifs (.idx (.bor 22) (.loc 12))
                      [.stuck]
                      [.ifs (.and [(.not (.loc 29)), (.idx (.bor 17) (.loc 12))])
                        [.asg 33 (.tup [(.k (.str [69, 49, 51, 49])), (.k (.str [117, 110, 97, 108, 105, 103, 110, 101, 100, 32, 102, 111, 114, 32, 104, 97, 110, 103, 105, 110, 103, 32, 105, 110, 100, 101, 110, 116]))])]
                        [.stuck]]],
                  .yield (.tup [(.loc 25), (.bin .mod (.k (.str [37, 115, 32, 99, 111, 110, 116, 105, 110, 117, 97, 116, 105, 111, 110, 32, 108, 105, 110, 101, 32, 37, 115])) (.loc 33))])]]]]]]
theorem ci.b2_eq : ci.b2 = .ifs (.loc 28) [ci.n0, ci.n1, ci.n2, ci.n3, ci.n4, ci.n5, ci.n6] [] := rfl
noncomputable def ci.fin : MS :=
  .ifs (.and [(.loc 10), (.cmp .eq (.call 1 [(.loc 27)]) (.bin .add (.loc 2) (.loc 5)))])
    [.stuck]
    []
theorem ci.ms_eq : ci.ms = ci.pre ++ [.forL [23, 24, 25, 26, 27] (.loc 1) [ci.b0, ci.b1, ci.b2, ci.b3, ci.b4, ci.b5, ci.b6], ci.fin] := rfl
noncomputable def scan.pre : MS :=
  .unpR [1, 2, 3] [(true, (.lst [])), (false, (.k (.int 0))), (false, (.k (.str [97, 98, 99, 100, 101, 102, 103, 104, 105, 106, 107, 108, 109, 110, 111, 112, 113, 114, 115, 116, 117, 118, 119, 120, 121, 122, 95, 48, 49, 50, 51, 52, 53, 54, 55, 56, 57])))]
noncomputable def scan.w0 : MS :=
  .unpR [9, 10] [(false, (.idx (.loc 5) (.loc 7))), (false, (.bin .add (.loc 7) (.k (.int 1))))]
noncomputable def scan.w1 : MS :=
  .ifs (.cmp .ne (.loc 9) (.k (.str [32])))
        [.asg 11 (.k (.int 54)),
        .ifs (.cmp .eq (.loc 9) (.k (.str [35])))
          [.stuck]
          [.ifs (.cmp .eq (.loc 9) (.k (.str [34])))
            [.stuck]
            [.ifs (.cmp .isIn (.loc 9) (.loc 3))
              [.asg 11 (.k (.int 1)),
              .whil (.cmp .isIn (.idx (.loc 5) (.loc 10)) (.loc 3))
                [.asg 10 (.bin .add (.loc 10) (.k (.int 1)))]]
              []]],
        .asg 2 (.bin .add (.loc 2) (.ite (.cmp .isIn (.loc 9) (.k (.str [40, 91, 123]))) (.k (.int 1)) (.ite (.cmp .isIn (.loc 9) (.k (.str [41, 93, 125]))) (.neg (.k (.int 1))) (.k (.int 0))))),
        .app 1 (.call 2 [(.loc 11), (.slc (.loc 5) (some (.loc 7)) (some (.loc 10))), (.tup [(.loc 6), (.loc 7)]), (.tup [(.loc 6), (.loc 10)]), (.loc 5)])]
        []
noncomputable def scan.w2 : MS :=
  .asg 7 (.loc 10)
noncomputable def scan.l0 : MS :=
  .unpR [6, 7, 8] [(false, (.bin .add (.loc 4) (.k (.int 1)))), (false, (.k (.int 0))), (false, (.len (.bor 1)))]
noncomputable def scan.l1 : MS :=
  .whil (.cmp .lt (.loc 7) (.bin .sub (.len (.loc 5)) (.k (.int 1)))) [scan.w0, scan.w1, scan.w2]
noncomputable def scan.l2 : MS :=
  .asg 12 (.or [(.cmp .eq (.len (.bor 1)) (.loc 8)), (.cmp .eq (.idx (.idx (.bor 1) (.loc 8)) (.k (.int 0))) (.k (.int 61)))])
noncomputable def scan.l3 : MS :=
  .asg 11 (.ite (.or [(.cmp .gt (.loc 2) (.k (.int 0))), (.loc 12)]) (.k (.int 62)) (.k (.int 4)))
noncomputable def scan.l4 : MS :=
  .app 1 (.call 2 [(.loc 11), (.k (.str [10])), (.tup [(.loc 6), (.bin .sub (.len (.loc 5)) (.k (.int 1)))]), (.tup [(.loc 6), (.len (.loc 5))]), (.loc 5)])
theorem scan.ms_eq : scan.ms = [scan.pre, .forEnum 4 5 (.loc 0) [scan.l0, scan.l1, scan.l2, scan.l3, scan.l4], .freeze 1, .ret (.loc 1)] := rfl
end L1
end Mine
end
set_option genInjectivity true
section
open PySem PySem.W
namespace Mine
section
variable {Γ : xB} {σ : St} {fu : Nat}
theorem q_k {v : PV} : qM Γ σ (.k v) = some v := rfl
theorem q_loc {i : Nat} : qM Γ σ (.loc i) = match σ i with | some (.val v) => some v | z_ => none := rfl
theorem q_bor {i : Nat} : qM Γ σ (.bor i) = match σ i with | some (.own l) => some (.lst l) | z_ => none := rfl
theorem q_bor2 {i : Nat} {e : ME} : qM Γ σ (.bor2 i e) = (match σ i, qM Γ σ e with | some (.own2 ls), some (.int k) => (yN ls k).map PV.lst | z_, y_ => none) := rfl
theorem q_bin {op : MOp} {a : ME} {b : ME} : qM Γ σ (.bin op a b) = match qM Γ σ a, qM Γ σ b with | some x, some y => yP op x y | z_, y_ => none := rfl
theorem q_neg {a : ME} : qM Γ σ (.neg a) = match qM Γ σ a with | some (.int i) => some (.int (-i)) | z_ => none := rfl
theorem q_not {a : ME} : qM Γ σ (.not a) = match qM Γ σ a with | some x => (yJ x).map fun b => .bool (!b) | none => none := rfl
theorem q_cmp {op : MCmp} {a : ME} {b : ME} : qM Γ σ (.cmp op a b) = match qM Γ σ a, qM Γ σ b with | some x, some y => (zR op x y).map .bool | z_, y_ => none := rfl
theorem q_inset {a : ME} {bs : List ME} : qM Γ σ (.inset a bs) = match qM Γ σ a, xW Γ σ bs with
    | some (.int x), some l => (allInt l).map fun (ns : List Int) => .bool (ns.contains x)
    | z_, y_ => none := rfl
theorem q_and {as : List ME} : qM Γ σ (.and as) = mand Γ σ as := rfl
theorem q_or {as : List ME} : qM Γ σ (.or as) = mor Γ σ as := rfl
theorem q_ite {c : ME} {a : ME} {b : ME} : qM Γ σ (.ite c a b) = match qR Γ σ c with | some true => qM Γ σ a | some false => qM Γ σ b | none => none := rfl
theorem q_idx {a : ME} {b : ME} : qM Γ σ (.idx a b) = match qM Γ σ a, qM Γ σ b with | some x, some y => getidx x y | z_, y_ => none := rfl
theorem q_slc {a : ME} {lo : Option ME} {hi : Option ME} : qM Γ σ (.slc a lo hi) = match qM Γ σ a, mopt Γ σ lo, mopt Γ σ hi with | some x, some l, some h => slcop x l h | z_, y_, x_ => none := rfl
theorem q_tup {as : List ME} : qM Γ σ (.tup as) = match xW Γ σ as with | some l => if l.length ≤ SZ then some (.tup l) else none | none => none := rfl
theorem q_lst {as : List ME} : qM Γ σ (.lst as) = match xW Γ σ as with | some l => if l.length ≤ SZ then some (.lst l) else none | none => none := rfl
theorem q_len {a : ME} : qM Γ σ (.len a) = match qM Γ σ a with | some x => lenop x | none => none := rfl
theorem q_abs {a : ME} : qM Γ σ (.abs a) = match qM Γ σ a with | some (.int i) => some (.int (if i < 0 then -i else i)) | z_ => none := rfl
theorem q_toInt {a : ME} : qM Γ σ (.toInt a) = match qM Γ σ a with | some (.int i) => some (.int i) | z_ => none := rfl
theorem q_max2 {a : ME} {b : ME} : qM Γ σ (.max2 a b) = match qM Γ σ a, qM Γ σ b with | some (.int x), some (.int y) => some (.int (if x < y then y else x)) | z_, y_ => none := rfl
theorem q_meth {m : MMeth} {a : ME} {bs : List ME} : qM Γ σ (.meth m a bs) = match qM Γ σ a, xW Γ σ bs with | some x, some l => methop m x l | z_, y_ => none := rfl
theorem q_call {f : Nat} {as : List ME} : qM Γ σ (.call f as) = match xW Γ σ as with | some l => Γ f l | none => none := rfl
theorem q_dget {i : Nat} {k : ME} : qM Γ σ (.dget i k) = match σ i, qM Γ σ k with | some (.dic d), some (.int x) => some ((d.lookup x).getD .none) | z_, y_ => none := rfl
theorem q_dnin {i : Nat} {k : ME} : qM Γ σ (.dnin i k) = match σ i, qM Γ σ k with | some (.dic d), some (.int x) => some (.bool (!(d.lookup x).isSome)) | z_, y_ => none := rfl
theorem q_dempty {i : Nat} : qM Γ σ (.dempty i) = match σ i with | some (.dic d) => if d.length ≤ SZ then some (.bool d.isEmpty) else none | z_ => none := rfl
theorem q_dkeys {i : Nat} : qM Γ σ (.dkeys i) = match σ i with | some (.dic d) => if d.length ≤ SZ then some (.lst (d.map fun q => .int q.1)) else none | z_ => none := rfl
theorem q_len2 {i : Nat} : qM Γ σ (.len2 i) = match σ i with | some (.own2 ls) => if ls.length ≤ SZ then some (.int ls.length) else none | z_ => none := rfl
theorem q_compL {e : ME} {caps : List Nat} {elt : ME} : qM Γ σ (.compL e caps elt) = match qM Γ σ e with
    | some (.lst l) => if l.length ≤ SZ && caps.all (fun i => (σ i).isSome) then (jJ (fun x => qM Γ (zJ σ x caps) elt) l).map .lst else none
    | z_ => none := rfl
theorem qm : type_of% (And.intro @q_k (And.intro @q_loc (And.intro @q_bor (And.intro @q_bor2 (And.intro @q_bin (And.intro @q_neg (And.intro @q_not (And.intro @q_cmp (And.intro @q_inset (And.intro @q_and (And.intro @q_or (And.intro @q_ite (And.intro @q_idx (And.intro @q_slc (And.intro @q_tup (And.intro @q_lst (And.intro @q_len (And.intro @q_abs (And.intro @q_toInt (And.intro @q_max2 (And.intro @q_meth (And.intro @q_call (And.intro @q_dget (And.intro @q_dnin (And.intro @q_dempty (And.intro @q_dkeys (And.intro @q_len2 (@q_compL)))))))))))))))))))))))))))) := ⟨@q_k, @q_loc, @q_bor, @q_bor2, @q_bin, @q_neg, @q_not, @q_cmp, @q_inset, @q_and, @q_or, @q_ite, @q_idx, @q_slc, @q_tup, @q_lst, @q_len, @q_abs, @q_toInt, @q_max2, @q_meth, @q_call, @q_dget, @q_dnin, @q_dempty, @q_dkeys, @q_len2, @q_compL⟩
theorem qs0 : xW Γ σ [] = some [] := rfl
theorem qs1 {e : ME} {es : List ME} : xW Γ σ (e :: es) = (match qM Γ σ e, xW Γ σ es with | some x, some l => some (x :: l) | z_, y_ => none) := rfl
theorem qs : type_of% (And.intro @qs0 @qs1) := ⟨@qs0, @qs1⟩
theorem qo0 : mopt Γ σ none = some none := rfl
theorem qo1 {e : ME} : mopt Γ σ (some e) = (match qM Γ σ e with | some (.int i) => some (some i) | z_ => none) := rfl
theorem qo : type_of% (And.intro @qo0 @qo1) := ⟨@qo0, @qo1⟩
theorem x_asg {i : Nat} {e : ME} : qN Γ fu σ (.asg i e) = match qM Γ σ e with | some v => some (.next, σ.set i (.val v)) | none => none := rfl
theorem x_asgL {i : Nat} {e : ME} : qN Γ fu σ (.asgL i e) = match qM Γ σ e with | some (.lst l) => some (.next, σ.set i (.own l)) | z_ => none := rfl
theorem x_unp  : qN Γ fu σ (.unp is es) = match xW Γ σ (es.map (·.2)) with
    | some vs => (stores is ((es.map (·.1)).zip vs) σ).map fun σ' => (.next, σ')
    | none => none := rfl
theorem x_unpR  : qN Γ fu σ (.unpR is es) = match xW Γ σ (es.map (·.2)) with
    | some vs => (stores is.reverse ((es.map (·.1)).zip vs).reverse σ).map fun σ' => (.next, σ')
    | none => none := rfl
theorem x_aug {i : Nat} {op : MOp} {e : ME} : qN Γ fu σ (.aug i op e) = match σ i, qM Γ σ e with
    | some (.val (.int x)), some (.int y) => (match yP op (.int x) (.int y) with | some r => some (.next, σ.set i (.val r)) | none => none)
    | z_, y_ => none := rfl
theorem x_app {i : Nat} {e : ME} : qN Γ fu σ (.app i e) = match σ i, qM Γ σ e with
    | some (.own l), some v => if l.length ≤ SZ then some (.next, σ.set i (.own (l ++ [v]))) else none
    | z_, y_ => none := rfl
theorem x_seti {i : Nat} {k : ME} {e : ME} : qN Γ fu σ (.seti i k e) = match σ i, qM Γ σ e, qM Γ σ k with
    | some (.own l), some v, some (.int j) => (match posI l.length j with | some n => some (.next, σ.set i (.own (l.set n v))) | none => none)
    | z_, y_, x_ => none := rfl
theorem x_augi {i : Nat} {k : ME} {op : MOp} {e : ME} : qN Γ fu σ (.augi i k op e) = match σ i, qM Γ σ k, qM Γ σ e with
    | some (.own l), some (.int j), some (.int y) => (match posI l.length j, yN l j with
      | some n, some (.int x) => (match yP op (.int x) (.int y) with | some r => some (.next, σ.set i (.own (l.set n r))) | none => none)
      | z_, y_ => none)
    | z_, y_, x_ => none := rfl
theorem x_app2 {i : Nat} {k : ME} {e : ME} : qN Γ fu σ (.app2 i k e) = match σ i, qM Γ σ k, qM Γ σ e with
    | some (.own2 ls), some (.int j), some v => (match posI ls.length j, yN ls j with
      | some n, some l => if l.length ≤ SZ then some (.next, σ.set i (.own2 (ls.set n (l ++ [v])))) else none
      | z_, y_ => none)
    | z_, y_, x_ => none := rfl
theorem x_appN {i : Nat} : qN Γ fu σ (.appN i) = match σ i with
    | some (.own2 ls) => if ls.length ≤ SZ then some (.next, σ.set i (.own2 (ls ++ [[]]))) else none
    | z_ => none := rfl
theorem x_trunc {i : Nat} {e : ME} : qN Γ fu σ (.trunc i e) = match σ i, qM Γ σ e with
    | some (.own2 ls), some (.int k) => if ls.length ≤ SZ then some (.next, σ.set i (.own2 (jQ ls none (some k)))) else none
    | z_, y_ => none := rfl
theorem x_popOr {j : Nat} {i : Nat} {e : ME} : qN Γ fu σ (.popOr j i e) = match σ i with
    | some (.own l) => (match l.getLast? with
      | some x => if l.length ≤ SZ then (match yJ x with
        | some true => some (.next, (σ.set i (.own l.dropLast)).set j (.val x))
        | some false => (match qM Γ (σ.set i (.own l.dropLast)) e with
          | some v => some (.next, (σ.set i (.own l.dropLast)).set j (.val v))
          | none => none)
        | none => none) else none
      | none => none)
    | z_ => none := rfl
theorem x_pop {i : Nat} : qN Γ fu σ (.pop i) = match σ i with
    | some (.own l) => if l.length ≤ SZ && !l.isEmpty then some (.next, σ.set i (.own l.dropLast)) else none
    | z_ => none := rfl
theorem x_dset {i : Nat} {k : ME} {e : ME} : qN Γ fu σ (.dset i k e) = match σ i, qM Γ σ e, qM Γ σ k with
    | some (.dic d), some v, some (.int x) => if d.length ≤ SZ then some (.next, σ.set i (.dic (yR d x v))) else none
    | z_, y_, x_ => none := rfl
theorem x_ddel {i : Nat} {k : ME} : qN Γ fu σ (.ddel i k) = match σ i, qM Γ σ k with
    | some (.dic d), some (.int x) => if d.length ≤ SZ && (d.lookup x).isSome then some (.next, σ.set i (.dic (d.filter fun q => q.1 != x))) else none
    | z_, y_ => none := rfl
theorem x_brk  : qN Γ fu σ (.brk) = some (.brk, σ) := rfl
theorem x_ret {e : ME} : qN Γ fu σ (.ret e) = match qM Γ σ e with | some v => some (.ret v, σ) | none => none := rfl
theorem x_retN  : qN Γ fu σ (.retN) = some (.ret .none, σ) := rfl
theorem x_assert {c : ME} : qN Γ fu σ (.assert c) = match qR Γ σ c with | some true => some (.next, σ) | z_ => none := rfl
theorem x_skip  : qN Γ fu σ (.skip) = some (.next, σ) := rfl
theorem x_freeze {i : Nat} : qN Γ fu σ (.freeze i) = match σ i with | some (.own l) => some (.next, σ.set i (.val (.lst l))) | z_ => none := rfl
theorem x_ifs {c : ME} {a : List MS} {b : List MS} : qN Γ fu σ (.ifs c a b) = match qR Γ σ c with | some true => qP Γ fu σ a | some false => qP Γ fu σ b | none => none := rfl
theorem x_whil {c : ME} {body : List MS} : qN Γ fu σ (.whil c body) = jW (fun σ => qR Γ σ c) (fun σ => qP Γ fu σ body) fu σ := rfl
theorem x_forUp {i : Nat} {a : ME} {b : ME} {body : List MS} : qN Γ fu σ (.forUp i a b body) = match itemsUp Γ σ a b with | some l => jX (fun σ => qP Γ fu σ body) (xK [i]) l σ | none => none := rfl
theorem x_forDown {i : Nat} {a : ME} {body : List MS} : qN Γ fu σ (.forDown i a body) = match itemsDown Γ σ a with | some l => jX (fun σ => qP Γ fu σ body) (xK [i]) l σ | none => none := rfl
theorem x_forL {is : List Nat} {e : ME} {body : List MS} : qN Γ fu σ (.forL is e body) = match itemsL Γ σ e with | some l => jX (fun σ => qP Γ fu σ body) (xK is) l σ | none => none := rfl
theorem x_forEnum {i : Nat} {j : Nat} {e : ME} {body : List MS} : qN Γ fu σ (.forEnum i j e body) = match itemsL Γ σ e with | some l => jX (fun σ => qP Γ fu σ body) (xK [i, j]) (zW 0 l) σ | none => none := rfl
theorem x_forRev {x : Nat} {i : Nat} {k : ME} {body : List MS} : qN Γ fu σ (.forRev x i k body) = match qM Γ σ (.bor2 i k) with
    | some (.lst l) => if l.length ≤ SZ then jX (fun σ => qP Γ fu σ body) (xK [x]) l.reverse σ else none
    | z_ => none := rfl
theorem qx : type_of% (And.intro @x_asg (And.intro @x_asgL (And.intro @x_unp (And.intro @x_unpR (And.intro @x_aug (And.intro @x_app (And.intro @x_seti (And.intro @x_augi (And.intro @x_app2 (And.intro @x_appN (And.intro @x_trunc (And.intro @x_popOr (And.intro @x_pop (And.intro @x_dset (And.intro @x_ddel (And.intro @x_brk (And.intro @x_ret (And.intro @x_retN (And.intro @x_assert (And.intro @x_skip (And.intro @x_freeze (And.intro @x_ifs (And.intro @x_whil (And.intro @x_forUp (And.intro @x_forDown (And.intro @x_forL (And.intro @x_forEnum (@x_forRev)))))))))))))))))))))))))))) := ⟨@x_asg, @x_asgL, @x_unp, @x_unpR, @x_aug, @x_app, @x_seti, @x_augi, @x_app2, @x_appN, @x_trunc, @x_popOr, @x_pop, @x_dset, @x_ddel, @x_brk, @x_ret, @x_retN, @x_assert, @x_skip, @x_freeze, @x_ifs, @x_whil, @x_forUp, @x_forDown, @x_forL, @x_forEnum, @x_forRev⟩
theorem gg_yield {e : ME} : qT Γ fu σ (.yield e) = match qM Γ σ e with | some v => if jB v then some ([v], .next, σ) else none | none => none := rfl
theorem gg_ifs {c : ME} {a : List MS} {b : List MS} : qT Γ fu σ (.ifs c a b) = match qR Γ σ c with | some true => xQ Γ fu σ a | some false => xQ Γ fu σ b | none => none := rfl
theorem gg_forL {is : List Nat} {e : ME} {body : List MS} : qT Γ fu σ (.forL is e body) = match itemsL Γ σ e with | some l => gfor (fun σ => xQ Γ fu σ body) (xK is) l σ | none => none := rfl
theorem gg_asg {i : Nat} {e : ME} : qT Γ fu σ (.asg i e) = (qN Γ fu σ (.asg i e)).map fun q => ([], q) := rfl
theorem gg_aug {i : Nat} {op : MOp} {e : ME} : qT Γ fu σ (.aug i op e) = (qN Γ fu σ (.aug i op e)).map fun q => ([], q) := rfl
theorem gg_app {i : Nat} {e : ME} : qT Γ fu σ (.app i e) = (qN Γ fu σ (.app i e)).map fun q => ([], q) := rfl
theorem gg_seti {i : Nat} {k : ME} {e : ME} : qT Γ fu σ (.seti i k e) = (qN Γ fu σ (.seti i k e)).map fun q => ([], q) := rfl
theorem gg_augi {i : Nat} {k : ME} {op : MOp} {e : ME} : qT Γ fu σ (.augi i k op e) = (qN Γ fu σ (.augi i k op e)).map fun q => ([], q) := rfl
theorem gg_app2 {i : Nat} {k : ME} {e : ME} : qT Γ fu σ (.app2 i k e) = (qN Γ fu σ (.app2 i k e)).map fun q => ([], q) := rfl
theorem gg_appN {i : Nat} : qT Γ fu σ (.appN i) = (qN Γ fu σ (.appN i)).map fun q => ([], q) := rfl
theorem gg_trunc {i : Nat} {e : ME} : qT Γ fu σ (.trunc i e) = (qN Γ fu σ (.trunc i e)).map fun q => ([], q) := rfl
theorem gg_popOr {j : Nat} {i : Nat} {e : ME} : qT Γ fu σ (.popOr j i e) = (qN Γ fu σ (.popOr j i e)).map fun q => ([], q) := rfl
theorem gg_pop {i : Nat} : qT Γ fu σ (.pop i) = (qN Γ fu σ (.pop i)).map fun q => ([], q) := rfl
theorem gg_dset {i : Nat} {k : ME} {e : ME} : qT Γ fu σ (.dset i k e) = (qN Γ fu σ (.dset i k e)).map fun q => ([], q) := rfl
theorem gg_assert {c : ME} : qT Γ fu σ (.assert c) = (qN Γ fu σ (.assert c)).map fun q => ([], q) := rfl
theorem gg_skip  : qT Γ fu σ (.skip) = (qN Γ fu σ (.skip)).map fun q => ([], q) := rfl
theorem gg_forUp {i : Nat} {a : ME} {b : ME} {c : List MS} : qT Γ fu σ (.forUp i a b c) = (qN Γ fu σ (.forUp i a b c)).map fun q => ([], q) := rfl
theorem gg_forDown {i : Nat} {a : ME} {b : List MS} : qT Γ fu σ (.forDown i a b) = (qN Γ fu σ (.forDown i a b)).map fun q => ([], q) := rfl
theorem gg_forRev {x : Nat} {i : Nat} {k : ME} {b : List MS} : qT Γ fu σ (.forRev x i k b) = (qN Γ fu σ (.forRev x i k b)).map fun q => ([], q) := rfl
theorem qg : type_of% (And.intro @gg_yield (And.intro @gg_ifs (And.intro @gg_forL (And.intro @gg_asg (And.intro @gg_aug (And.intro @gg_app (And.intro @gg_seti (And.intro @gg_augi (And.intro @gg_app2 (And.intro @gg_appN (And.intro @gg_trunc (And.intro @gg_popOr (And.intro @gg_pop (And.intro @gg_dset (And.intro @gg_assert (And.intro @gg_skip (And.intro @gg_forUp (And.intro @gg_forDown (@gg_forRev))))))))))))))))))) := ⟨@gg_yield, @gg_ifs, @gg_forL, @gg_asg, @gg_aug, @gg_app, @gg_seti, @gg_augi, @gg_app2, @gg_appN, @gg_trunc, @gg_popOr, @gg_pop, @gg_dset, @gg_assert, @gg_skip, @gg_forUp, @gg_forDown, @gg_forRev⟩
theorem ms0 : qP Γ fu σ [] = some (.next, σ) := rfl
theorem ms1 {m : MS} {ms : List MS} : qP Γ fu σ (m :: ms) = (match qN Γ fu σ m with | some (.next, σ') => qP Γ fu σ' ms | some (.brk, σ') => some (.brk, σ') | some (.ret v, σ') => some (.ret v, σ') | none => none) := rfl
theorem qms : type_of% (And.intro @ms0 @ms1) := ⟨@ms0, @ms1⟩
theorem gs0 : xQ Γ fu σ [] = some ([], .next, σ) := rfl
theorem gs1 {m : MS} {ms : List MS} : xQ Γ fu σ (m :: ms) = (match qT Γ fu σ m with | some (ys, .next, σ') => (match xQ Γ fu σ' ms with | some (zs, r) => some (ys ++ zs, r) | none => none) | some (ys, .brk, σ') => some (ys, .brk, σ') | some (ys, .ret v, σ') => some (ys, .ret v, σ') | none => none) := rfl
theorem qgs : type_of% (And.intro @gs0 @gs1) := ⟨@gs0, @gs1⟩
theorem t_loc {i : Nat} : qR Γ σ (.loc i) = (match qM Γ σ (.loc i) with | some x => yJ x | none => none) := rfl
theorem qb : (∀ {a b : Int}, yP .add (.int a) (.int b) = (some (.int (a + b)))) ∧
  (∀ {a b : Int}, yP .sub (.int a) (.int b) = (some (.int (a - b)))) ∧
  (∀ {a b : List Nat}, yP .add (.str a) (.str b) = (if a.length + b.length ≤ SZ then some (.str (a ++ b)) else none)) ∧
  (∀ {a b : List PV}, yP .add (.lst a) (.lst b) = (if a.length + b.length ≤ SZ then some (.lst (a ++ b)) else none)) ∧
  (∀ {a b : Int}, yP .mul (.int a) (.int b) = (if small a && small b then some (.int (a * b)) else none)) ∧
  (∀ {c : Nat} {n : Int}, yP .mul (.str [c]) (.int n) = (if small n then some (.str (List.replicate n.toNat c)) else none)) ∧
  (∀ {x : PV} {n : Int}, yP .mul (.lst [x]) (.int n) = (if small n && isScalar x then some (.lst (List.replicate n.toNat x)) else none)) ∧
  (∀ {a b : Int}, yP .div (.int a) (.int b) = (if b = 0 || !small b then none else some (.int (a.fdiv b)))) ∧
  (∀ {a b : Int}, yP .mod (.int a) (.int b) = (if b = 0 then none else some (.int (a.fmod b)))) := ⟨@fun _ _ => rfl, @fun _ _ => rfl, @fun _ _ => rfl, @fun _ _ => rfl, @fun _ _ => rfl, @fun _ _ => rfl, @fun _ _ => rfl, @fun _ _ => rfl, @fun _ _ => rfl⟩
theorem qc : (∀ {a b : PV}, zR .eq a b = (eqPV a b)) ∧
  (∀ {a b : PV}, zR .ne a b = ((eqPV a b).map (!·))) ∧
  (∀ {a b : Int}, zR .lt (.int a) (.int b) = (some (decide (a < b)))) ∧
  (∀ {a b : Int}, zR .le (.int a) (.int b) = (some (decide (a ≤ b)))) ∧
  (∀ {a b : Int}, zR .gt (.int a) (.int b) = (some (decide (b < a)))) ∧
  (∀ {a b : Int}, zR .ge (.int a) (.int b) = (some (decide (b ≤ a)))) ∧
  (zR .is .none .none = (some true)) ∧
  (∀ {a : Int}, zR .is (.int a) .none = (some false)) ∧
  (zR .isNot .none .none = (some false)) ∧
  (∀ {a : Int}, zR .isNot (.int a) .none = (some true)) ∧
  (∀ {a b : List Nat}, zR .isIn (.str a) (.str b) = (some (Txt.contains (S b) (S a)))) ∧
  (∀ {x : PV} {l : List PV}, zR .isIn x (.tup l) = (inL x l)) ∧
  (∀ {x : PV} {l : List PV}, zR .isIn x (.lst l) = (inL x l)) ∧
  (∀ {a b : List Nat}, zR .notIn (.str a) (.str b) = (some (!Txt.contains (S b) (S a)))) ∧
  (∀ {x : PV} {l : List PV}, zR .notIn x (.tup l) = ((inL x l).map (!·))) := ⟨@fun _ _ => rfl, @fun _ _ => rfl, @fun _ _ => rfl, @fun _ _ => rfl, @fun _ _ => rfl, @fun _ _ => rfl, rfl, @fun _ => rfl, rfl, @fun _ => rfl, @fun _ _ => rfl, @fun _ _ => rfl, @fun _ _ => rfl, @fun _ _ => rfl, @fun _ _ => rfl⟩
theorem qi : (∀ {l : List PV} {k : Int}, getidx (.tup l) (.int k) = (yN l k)) ∧
  (∀ {l : List PV} {k : Int}, getidx (.tok l) (.int k) = (yN l k)) ∧
  (∀ {l : List PV} {k : Int}, getidx (.lst l) (.int k) = (yN l k)) ∧
  (∀ {l : List Nat} {k : Int}, getidx (.str l) (.int k) = ((yN l k).map fun c => .str [c])) := ⟨@fun _ _ => rfl, @fun _ _ => rfl, @fun _ _ => rfl, @fun _ _ => rfl⟩
theorem qa : (∀ {e : ME}, mand Γ σ [e] = (qM Γ σ e)) ∧
  (∀ {e f : ME} {es : List ME}, mand Γ σ (e :: f :: es) = (match qM Γ σ e with | some x => (match yJ x with | some false => some x | some true => mand Γ σ (f :: es) | none => none) | none => none)) := ⟨@fun _ => rfl, @fun _ _ _ => rfl⟩
theorem qr : (∀ {e : ME}, mor Γ σ [e] = (qM Γ σ e)) ∧
  (∀ {e f : ME} {es : List ME}, mor Γ σ (e :: f :: es) = (match qM Γ σ e with | some x => (match yJ x with | some true => some x | some false => mor Γ σ (f :: es) | none => none) | none => none)) := ⟨@fun _ => rfl, @fun _ _ _ => rfl⟩
theorem qt : (∀ {i : Nat} {x : PV} {σ : St}, xK [i] x σ = some (σ.set i (.val x))) ∧ (∀ {i j : Nat} {is : List Nat} {xs : List PV} {σ : St}, xK (i :: j :: is) (.tup xs) σ = zD (i :: j :: is) xs σ) ∧ (∀ {i j : Nat} {is : List Nat} {xs : List PV} {σ : St}, xK (i :: j :: is) (.tok xs) σ = zD (i :: j :: is) xs σ) := ⟨rfl, rfl, rfl⟩
theorem qbm : (∀ {σ : St}, zD [] [] σ = some σ) ∧ (∀ {i : Nat} {is : List Nat} {x : PV} {xs : List PV} {σ : St}, zD (i :: is) (x :: xs) σ = zD is xs (σ.set i (.val x))) := ⟨rfl, rfl⟩
theorem mapO1 {α β : Type} {f : α → Option β} {x : α} {l : List α} : jJ f (x :: l) = (match f x, jJ f l with | some y, some r => some (y :: r) | z_, y_ => none) := rfl
end
end Mine
end
section
open PySem PySem.W
namespace Mine
theorem xV (σ : St) (i : Nat) (v : SV) (j : Nat) : (σ.set i v) j = if j = i then some v else σ j := rfl
noncomputable def sOk (l : List Nat) : Bool := l.all fun c => decide (c < 1114112)
theorem ok_int (i : Int) : okD (.int i) = true := rfl
theorem ok_bool (b : Bool) : okD (.bool b) = true := rfl
theorem ok_str {l : List Nat} (h : sOk l = true) : okD (.str l) = true := by
  unfold okD
  have : (yZ (.str l)).canLay0 = true := by
    simp only [yZ, PyData.canLay0]
    unfold PyData.strOk S
    simpa [sOk] using h
  rw [this]
  simp [jF, yZ, PyData.depth]
theorem yQ (a b : Int) : eqPV (.int a) (.int b) = some (decide (a = b)) := by
  unfold eqPV
  rw [ok_int, ok_int]
  show some (PyData.eqv (.int a) (.int b)) = _
  congr 1
theorem S_inj {a b : List Nat} : (S a = S b) ↔ a = b := by
  constructor
  · intro h
    have : (S a).cps = (S b).cps := by rw [h]
    simpa [S] using this
  · rintro rfl; rfl
theorem eq_ss {a b : List Nat} (ha : sOk a = true) (hb : sOk b = true) : eqPV (.str a) (.str b) = some (decide (a = b)) := by
  unfold eqPV
  rw [ok_str ha, ok_str hb]
  simp only [Bool.and_self, if_true, yZ, PyData.eqv]
  congr 1
  by_cases h : a = b
  · subst h; simp
  · rw [decide_eq_false h]
    simpa using fun e => h (S_inj.mp e)
theorem eq_sb {a : List Nat} (ha : sOk a = true) (b : Bool) : eqPV (.str a) (.bool b) = some false := by
  unfold eqPV
  rw [ok_str ha, ok_bool]
  simp only [Bool.and_self, if_true, yZ, PyData.eqv]
theorem in_ints (x : Int) (l : List Int) : inL (.int x) (l.map .int) = some (decide (x ∈ l)) := by
  unfold inL
  have h : okD (.tup (l.map .int)) = true := by
    unfold okD
    have h1 : ∀ l : List Int, jD (l.map PV.int) = true := fun l => by induction l with
      | nil => rfl
      | cons a l ih => simpa [jD, jF] using ih
    have h2 : ∀ l : List Int, PyData.canLayAll0 (yW (l.map PV.int)) = true := fun l => by induction l with
      | nil => rfl
      | cons a l ih => simpa [yW, yZ, PyData.canLayAll0, PyData.canLay0] using ih
    have h3 : ∀ l : List Int, PyData.depthAll (yW (l.map PV.int)) = 0 := fun l => by induction l with
      | nil => rfl
      | cons a l ih => simpa [yW, yZ, PyData.depthAll, PyData.depth] using ih
    simp [jF, h1, yZ, PyData.canLay0, h2, PyData.depth, h3]
  rw [ok_int, h]
  show some _ = _
  congr 1
  induction l with
  | nil => rfl
  | cons a l ih =>
    rw [List.map_cons]
    simp only [yW, List.any_cons]
    rw [ih (by
      unfold okD
      have h1 : ∀ l : List Int, jD (l.map PV.int) = true := fun l => by induction l with
        | nil => rfl
        | cons a l ih => simpa [jD, jF] using ih
      have h2 : ∀ l : List Int, PyData.canLayAll0 (yW (l.map PV.int)) = true := fun l => by induction l with
        | nil => rfl
        | cons a l ih => simpa [yW, yZ, PyData.canLayAll0, PyData.canLay0] using ih
      have h3 : ∀ l : List Int, PyData.depthAll (yW (l.map PV.int)) = 0 := fun l => by induction l with
        | nil => rfl
        | cons a l ih => simpa [yW, yZ, PyData.depthAll, PyData.depth] using ih
      simp [jF, h1, yZ, PyData.canLay0, h2, PyData.depth, h3])]
    simp only [yZ, PyData.eqv]
    by_cases e : a = x
    · subst e; simp
    · have e' : ¬ x = a := fun q => e q.symm
      simp [e, e']
end Mine
end
section
open PySem PySem.W
namespace Mine
section
variable {Γ : xB} {σ : St} {fu : Nat}
theorem xk {v : PV} : qM Γ σ (.k v) = some v := rfl
theorem yB {i : Nat} {v : PV} (h : σ i = some (.val v)) : qM Γ σ (.loc i) = some v := by
  show (match σ i with | some (.val v) => some v | z_ => none) = _
  rw [h]
theorem xbor {i : Nat} {l : List PV} (h : σ i = some (.own l)) : qM Γ σ (.bor i) = some (.lst l) := by
  show (match σ i with | some (.own l) => some (PV.lst l) | z_ => none) = _
  rw [h]
theorem xbin {op : MOp} {a b : ME} {x y : PV} {r : Option PV} (ha : qM Γ σ a = some x) (hb : qM Γ σ b = some y) (h : yP op x y = r) : qM Γ σ (.bin op a b) = r := by
  show (match qM Γ σ a, qM Γ σ b with | some x, some y => yP op x y | z_, y_ => none) = _
  rw [ha, hb]; exact h
theorem xidx {a b : ME} {x y : PV} {r : Option PV} (ha : qM Γ σ a = some x) (hb : qM Γ σ b = some y) (h : getidx x y = r) : qM Γ σ (.idx a b) = r := by
  show (match qM Γ σ a, qM Γ σ b with | some x, some y => getidx x y | z_, y_ => none) = _
  rw [ha, hb]; exact h
theorem xcmp {op : MCmp} {a b : ME} {x y : PV} {r : Bool} (ha : qM Γ σ a = some x) (hb : qM Γ σ b = some y) (h : zR op x y = some r) : qM Γ σ (.cmp op a b) = some (.bool r) := by
  show (match qM Γ σ a, qM Γ σ b with | some x, some y => (zR op x y).map PV.bool | z_, y_ => none) = _
  rw [ha, hb]; dsimp only; rw [h]; rfl
theorem xneg {a : ME} {i : Int} (ha : qM Γ σ a = some (.int i)) : qM Γ σ (.neg a) = some (.int (-i)) := by
  show (match qM Γ σ a with | some (.int i) => some (PV.int (-i)) | z_ => none) = _
  rw [ha]
theorem xnil : xW Γ σ [] = some [] := rfl
theorem xcons {a : ME} {as : List ME} {x : PV} {l : List PV} (ha : qM Γ σ a = some x) (hb : xW Γ σ as = some l) : xW Γ σ (a :: as) = some (x :: l) := by
  show (match qM Γ σ a, xW Γ σ as with | some x, some l => some (x :: l) | z_, y_ => none) = _
  rw [ha, hb]
theorem xone {a : ME} {x : PV} (ha : qM Γ σ a = some x) : xW Γ σ [a] = some [x] := xcons ha xnil
theorem xtup {as : List ME} {l : List PV} (h : xW Γ σ as = some l) (hl : (decide (l.length ≤ 100)) = true) : qM Γ σ (.tup as) = some (.tup l) := by
  show (match xW Γ σ as with | some l => if l.length ≤ SZ then some (PV.tup l) else none | none => none) = _
  rw [h]; exact if_pos (Nat.le_trans (of_decide_eq_true hl) (by decide))
theorem xlst {as : List ME} {l : List PV} (h : xW Γ σ as = some l) (hl : (decide (l.length ≤ 100)) = true) : qM Γ σ (.lst as) = some (.lst l) := by
  show (match xW Γ σ as with | some l => if l.length ≤ SZ then some (PV.lst l) else none | none => none) = _
  rw [h]; exact if_pos (Nat.le_trans (of_decide_eq_true hl) (by decide))
theorem xmeth {m : MMeth} {a : ME} {as : List ME} {x : PV} {l : List PV} {r : Option PV} (ha : qM Γ σ a = some x) (h : xW Γ σ as = some l) (hr : methop m x l = r) : qM Γ σ (.meth m a as) = r := by
  show (match qM Γ σ a, xW Γ σ as with | some x, some l => methop m x l | z_, y_ => none) = _
  rw [ha, h]; exact hr
theorem xlen {a : ME} {x : PV} {r : Option PV} (ha : qM Γ σ a = some x) (h : lenop x = r) : qM Γ σ (.len a) = r := by
  show (match qM Γ σ a with | some x => lenop x | none => none) = _
  rw [ha]; exact h
theorem xite {c a b : ME} {v : Bool} {x : Option PV} (hc : qR Γ σ c = some v) (ha : v = true → qM Γ σ a = x) (hb : v = false → qM Γ σ b = x) : qM Γ σ (.ite c a b) = x := by
  show (match qR Γ σ c with | some true => qM Γ σ a | some false => qM Γ σ b | none => none) = _
  rw [hc]; cases v; exact hb rfl; exact ha rfl
theorem tv {e : ME} {v : PV} {r : Bool} (ha : qM Γ σ e = some v) (hv : valTest e = true) (h : yJ v = some r) : qR Γ σ e = some r := by
  have hm : qR Γ σ e = (match qM Γ σ e with | some x => yJ x | none => none) := by cases e <;> first | rfl | cases hv
  rw [hm, ha]; exact h
theorem tvb {e : ME} {r : Bool} (ha : qM Γ σ e = some (.bool r)) (hv : valTest e = true) : qR Γ σ e = some r := tv ha hv rfl
theorem tn {a : ME} {x : Bool} (ha : qR Γ σ a = some x) : qR Γ σ (.not a) = some (!x) := by
  show (qR Γ σ a).map (!·) = _
  rw [ha]; rfl
theorem ta1 {as : List ME} {x : Bool} (h : mtand Γ σ as = some x) : qR Γ σ (.and as) = some x := h
theorem to1 {as : List ME} {x : Bool} (h : mtor Γ σ as = some x) : qR Γ σ (.or as) = some x := h
theorem tac {a : ME} {as : List ME} {x y : Bool} (ha : qR Γ σ a = some x) (hb : mtand Γ σ as = some y) : mtand Γ σ (a :: as) = some (x && y) := by
  show (match qR Γ σ a with | some true => mtand Γ σ as | some false => some false | none => none) = _
  rw [ha]; cases x; rfl; exact hb
theorem tan : mtand Γ σ [] = some true := rfl
theorem toc {a : ME} {as : List ME} {x y : Bool} (ha : qR Γ σ a = some x) (hb : mtor Γ σ as = some y) : mtor Γ σ (a :: as) = some (x || y) := by
  show (match qR Γ σ a with | some false => mtor Γ σ as | some true => some true | none => none) = _
  rw [ha]; cases x; exact hb; rfl
theorem ton : mtor Γ σ [] = some false := rfl
theorem or2 {a b : ME} {x y r : Bool} (ha : qR Γ σ a = some x) (hb : qR Γ σ b = some y) (e : (x || y) = r) : qR Γ σ (.or [a, b]) = some r := by
  rw [to1 (toc ha (toc hb ton)), Bool.or_false, e]
theorem ym {m : MS} {σ' : St} (hm : qT Γ fu σ m = (qN Γ fu σ m).map fun q => ([], q)) (h : qN Γ fu σ m = some (.next, σ')) : qT Γ fu σ m = some ([], .next, σ') := by
  rw [hm, h]; rfl
theorem zasg {i : Nat} {e : ME} {v : PV} (h : qM Γ σ e = some v) : qN Γ fu σ (.asg i e) = some (.next, σ.set i (.val v)) := by
  show (match qM Γ σ e with | some v => some (Fl.next, σ.set i (.val v)) | none => none) = _
  rw [h]
theorem zasgL {i : Nat} {e : ME} {l : List PV} (h : qM Γ σ e = some (.lst l)) : qN Γ fu σ (.asgL i e) = some (.next, σ.set i (.own l)) := by
  show (match qM Γ σ e with | some (.lst l) => some (Fl.next, σ.set i (.own l)) | z_ => none) = _
  rw [h]
theorem zasg2 {i j : Nat} {e : ME} {v : PV} (h : qM Γ σ e = some v) : qN Γ fu σ (.asg2 i j e) = some (.next, (σ.set i (.val v)).set j (.val v)) := by
  show (match qM Γ σ e with | some v => some (Fl.next, (σ.set i (.val v)).set j (.val v)) | none => none) = _
  rw [h]
theorem yif {c : ME} {a b : List MS} {v : Bool} {r : Option (List PV × Fl × St)} (hc : qR Γ σ c = some v) (ha : v = true → xQ Γ fu σ a = r) (hb : v = false → xQ Γ fu σ b = r) : qT Γ fu σ (.ifs c a b) = r := by
  show (match qR Γ σ c with | some true => xQ Γ fu σ a | some false => xQ Γ fu σ b | none => none) = _
  rw [hc]; cases v; exact hb rfl; exact ha rfl
noncomputable def Y0 (Γ : xB) (fu : Nat) (σ : St) (ms : List MS) (σ' : St) : Prop := xQ Γ fu σ ms = some ([], .next, σ')
theorem Y0.nil : Y0 Γ fu σ [] σ := rfl
theorem Y0.step {m : MS} {ms : List MS} {σ₁ σ' : St} (h : qN Γ fu σ m = some (.next, σ₁)) (t : Y0 Γ fu σ₁ ms σ') (hm : qT Γ fu σ m = (qN Γ fu σ m).map fun q => ([], q)) : Y0 Γ fu σ (m :: ms) σ' := by
  show (match qT Γ fu σ m with | some (ys, .next, σ') => (match xQ Γ fu σ' ms with | some (zs, r) => some (ys ++ zs, r) | none => none) | some (ys, .brk, σ') => some (ys, .brk, σ') | some (ys, .ret v, σ') => some (ys, .ret v, σ') | none => none) = _
  rw [ym hm h]; dsimp only; rw [show xQ Γ fu σ₁ ms = some ([], .next, σ') from t]; rfl
theorem Y0.ifs {c : ME} {a b ms : List MS} {v : Bool} {σ₁ σ' : St} (hc : qR Γ σ c = some v) (ha : v = true → Y0 Γ fu σ a σ₁) (hb : v = false → Y0 Γ fu σ b σ₁) (t : Y0 Γ fu σ₁ ms σ') : Y0 Γ fu σ (.ifs c a b :: ms) σ' := by
  show (match qT Γ fu σ (.ifs c a b) with | some (ys, .next, σ') => (match xQ Γ fu σ' ms with | some (zs, r) => some (ys ++ zs, r) | none => none) | some (ys, .brk, σ') => some (ys, .brk, σ') | some (ys, .ret v, σ') => some (ys, .ret v, σ') | none => none) = _
  rw [yif (r := some ([], .next, σ₁)) hc ha hb]; dsimp only; rw [show xQ Γ fu σ₁ ms = some ([], .next, σ') from t]; rfl
end
end Mine
end
section
open PySem PySem.W PyProof.Rows PySem.SeqAt PySem.Calls
namespace Mine
theorem gens_fin {Z : Array GenState} {a b y : GenState} (h : y ∈ (Z.push a).setIfInBounds Z.size b) : y ∈ Z ∨ y = b := by
  obtain ⟨i, hi, rfl⟩ := Array.mem_iff_getElem.mp h
  by_cases e : i = Z.size
  · subst e; exact .inr (by simp)
  · have hi' : i < Z.size := by simp at hi; omega
    refine .inl ?_
    rw [Array.getElem_setIfInBounds_ne _ (Ne.symm e), Array.getElem_push_lt hi']
    exact Array.getElem_mem _
    simp; omega
theorem eq_self {v : PV} (h : okD v = true) : eqPV v v = some true := by
  have h' := h
  unfold okD at h'
  simp only [Bool.and_eq_true] at h'
  unfold eqPV
  rw [h, Bool.and_self, if_pos rfl, PySem.SeqAt.eqv_refl _ h'.1.2]
structure GFin (s s' : Shared) : Prop where
  g : ∀ y ∈ s'.gens, y ∈ s.gens ∨ y = .finished
  o : s'.os = s.os
theorem GFin.trans {a b c : Shared} (x : GFin a b) (y : GFin b c) : GFin a c := ⟨fun z h => (y.g z h).elim (x.g z) .inr, y.o.trans x.o⟩
theorem FrR.gfin {p : P5} {N fb env σ own s} (F : FrR p N fb env σ own s) : GFin fb.b s := ⟨fun y h => by rw [F.gens] at h; exact .inl h, F.os⟩
namespace L1
inductive PureE (σ1 : St) : Prop
  | mk (σ2 : St) (L1 L2 : List PV) (x : PV) (K1 K2 : List Int) (k : Int) (args2 : List PV) (r3 : qP Γ2 FU σ1 law.m3 = some (.next, σ2)) (r4 : qM Γ2 σ2 law.m4 = some (.lst (L1 ++ L2 ++ [x])))
    (h1 : RowsOf L1 K1) (h2 : RowsOf L2 K2) (hx : RowsOf [x] [k]) (hp : (K1 ++ k :: K2).Pairwise (· < ·)) (hn : L1.length + L2.length ≤ 19) (r5 : xW Γ2 (σ2.set 7 (.val (.lst (L1 ++ x :: L2)))) law.m5 = some args2)
    (t2 : ToldP args2 (L1 ++ x :: L2)) (o2 : okD (.lst (L1 ++ x :: L2)) = true) : PureE σ1
inductive PureL (ns : List Int) : Prop
  | mk (σ1 : St) (args due : List PV) (r1 : qP Γ2 FU (xD [.lst (ns.map .int)]) law.m1 = some (.next, σ1)) (r2 : xW Γ2 σ1 law.m2 = some args) (t1 : ToldP args due) (d1 : σ1 7 = some (.val (.lst due))) (o1 : okD (.lst due) = true)
    (e : (∃ σ2, qP Γ2 FU σ1 law.m3 = some (.ret (.bool true), σ2)) ∨ PureE σ1) : PureL ns
section
variable {prog : Program} {w : World} {h₁ : Heap} {s : Shared} {A : Around} {E : Value → Shared → Prop}
theorem ev_told (T : TopX w h₁) {N : NI} {fb : FB} {env : Env} {σ : St} {own : Nat → List Addr} (hg : ("_law_told" : Str) ∈ N.gl) {e : Expr} {es : List Expr} {as : List ME} {gq cq : Pos} (h1 : EvsOK ⟨prog, w, L1.B, h₁, 2, Γ2⟩ N (e :: es) as) (F : FrR ⟨prog, w, L1.B, h₁, 2, Γ2⟩ N fb env σ own s) (ha : AOK 4 A)
    {args zs : List PV} (hargs : xW Γ2 σ as = some args) (H : ToldP args zs) {Q : Value → Shared → Prop}
    (k : ∀ V s', GFin s s' → FrR ⟨prog, w, L1.B, h₁, 2, Γ2⟩ N { fb with b := s' } env σ own s' → Rep L1.B.T (FO env fb.O₀ own) s'.heap (.lst zs) V → Q V s') :
    wpAny (model prog w) A (eval (.Call (.Name "_law_told" gq) (e :: es) [] cq) env) Q E s := by
  have P := ok2 (prog := prog) T
  have ha' : AOK 2 A := AOK.le ha (by decide)
  have hs := h1.star
  rw [List.all_cons, Bool.and_eq_true] at hs
  refine Call_ (load_fn P.bs (F.cx ha') hg (qS 5 rfl) rfl ?_)
  refine P.bs.cw _ _ (qS 5 rfl) (h1.ev hargs (F.cx ha') fun vs sa x1 r1 => ⟨((F.cx ha').ext x1).k, ?_⟩) (qL hs.1 _ _) (any_star hs.2)
  have Fa := F.ext x1
  have cxa := Fa.cx ha'
  refine told_call T ha cxa.k cxa.u cxa.o r1 H fun V s' q => ?_
  refine k V s' ⟨fun y hy => ?_, q.os.trans x1.os⟩ (Fa.rebase (bad := fun _ => False) (fun _ q => q.elim) (fun b o _ e => q.kp b o e) fun _ q => q.elim) q.rep
  obtain ⟨x, e⟩ := q.gens
  rw [e, x1.gens] at hy
  exact gens_fin hy
theorem law_body (T : TopX w s.heap) {l : Addr} {vs : List Value} {ns : List Int} (hl : s.heap.PlainList l vs.toArray) (hi : IntsAre vs ns) (H : PureL ns) (hA : AOK 5 A) {Q : Value → Shared → Prop}
    (k : ∀ s', (∀ b o, s.heap.get? b = some o → s'.heap.get? b = some o) → (∀ y ∈ s'.gens, y ∈ s.gens ∨ y = .finished) → s'.os = s.os → Q (.bool true) s') : wpAny (model prog w) A (call (.ref 204) [.ref l]) Q E s := by
  obtain ⟨σ1, args, due, r1, r2, t1, d1, o1, fin⟩ := H
  have F := law.fn (prog := prog) (n := 2) (Γ := Γ2) T.X
  have P := ok2 (prog := prog) T
  obtain ⟨k1, k2, k3, k4, k5, k6, k7⟩ := F.parts
  obtain ⟨o, h1, h2⟩ := F.obj
  have hdep := hA.depth
  have hr : yX L1.B.T (fun _ => False) s.heap [.lst (ns.map .int)] [.ref l] := ⟨.ref l, [], rfl, ⟨l, vs, rfl, id, hl, by
    clear hl r1 r2 t1 d1 o1 fin k
    induction hi with
    | nil => exact rfl
    | cons n t _ ih => exact ⟨_, _, rfl, ⟨t, rfl⟩, ih⟩⟩, rfl⟩
  refine wpAny_call (codeAny_call_cells (by show A.depth < 1000; omega) h1 h2 (P.bs.nolimit) F.code F.body (F.bind _ rfl) F.clo F.kinds (fun s₁ x => ?_) (by rw [F.sc]; exact k2) (by rw [F.sc]; rfl) (by rw [F.sc]; exact k1))
  have FR := F.enter (fun _ _ e => e) (fun _ q => q.elim) (fun _ q => q.elim) hr rfl x
  have a4 : AOK 4 (A.deeper (callEnvC law.x.fd s.heap.objs.size 204)) := aok_deeper hA
  generalize callEnvC law.x.fd s.heap.objs.size 204 = env at FR a4
  have a2 : AOK 2 (A.deeper env) := AOK.le a4 (by decide)
  rw [← List.take_append_drop 4 law.x.body]
  refine execs_app (law.m1_ok P r1 a2 FR fun f s1 own1 F1 hf _ => ?_)
  cases hf
  show wpAny _ _ (execs (_ :: law.x.body.drop 5) env) _ _ _
  refine wpAny_execs_cons (wpAny_If (wpAny_isTrue_Compare1 (ev_told T (qS 4 rfl) (law.m2_ok P) F1 a4 r2 t1 fun V s2 g2 F2 R2 => ?_) rfl))
  refine qQ (p := ⟨prog, w, L1.B, s.heap, 2, Γ2⟩) (N := law.ni) (i := 7) rfl rfl (yB d1) (F2.cx a2) fun V' s3 x3 R3 => ?_
  refine cmp_ok (op := .ne) (show (eqPV (.lst due) (.lst due)).map (!·) = some false by rw [eq_self o1]; rfl) a2 (R2.ext x3) R3.b fun s4 x4 => wpAny_truthy_bool ?_
  have F4 := (F2.ext x3).ext x4
  simp only [Bool.false_eq_true, if_false]
  refine wpAny_execs_nil ?_
  dsimp only
  have G4 : GFin s s4 := (FR.gfin.trans (show GFin s₁ s1 from ⟨fun y h => by rw [F1.gens] at h; rw [FR.gens]; exact .inl h, F1.os.trans FR.os.symm⟩)).trans (g2.trans F4.gfin)
  have kp4 : ∀ b o, s.heap.get? b = some o → s4.heap.get? b = some o := fun b o e => F4.kp b o e
  rw [← List.take_append_drop 5 (law.x.body.drop 5)]
  rcases fin with ⟨σ2, r3⟩ | ⟨σ2, M1, M2, x, K1, K2, kx, args2, r3, r4, p1, p2, px, hp, hn, r5, t2, o2⟩
  · refine execs_app (law.m3_ok P r3 a2 F4 fun f s5 own5 F5 hf _ => ?_)
    obtain ⟨V, rfl, hV⟩ := hf
    cases hV
    have G5 := G4.trans (show GFin s4 s5 from ⟨fun y h => by rw [F5.gens] at h; rw [F4.gens]; exact .inl h, F5.os.trans F4.os.symm⟩)
    exact k s5 (fun b o e => F5.kp b o e) G5.g G5.o
  · refine execs_app (law.m3_ok P r3 a2 F4 fun f s5 own5 F5 hf _ => ?_)
    cases hf
    have G5 := G4.trans (show GFin s4 s5 from ⟨fun y h => by rw [F5.gens] at h; rw [F4.gens]; exact .inl h, F5.os.trans F4.os.symm⟩)
    rw [List.drop_drop]
    show wpAny _ _ (execs (_ :: law.x.body.drop 11) env) _ _ _
    refine wpAny_execs_cons (wpAny_Assign_Name (Call_ (yH P.bs (F5.cx a2) (qS 2 rfl) (by decide) boot_sorted rfl (jY rfl callWith_builtin (law.m4_ok P r4 (F5.cx a2) fun V s6 x6 R6 => ?_)))) rfl)
    have F6 := F5.ext x6
    refine sorted_ok (n := 1) a2 p1 p2 px hp hn R6 (F6.cx a2).u fun V' s7 x7 R7 => ?_
    refine (F6.ext x7).storeV (i := 7) rfl R7 fun s8 F8 => ?_
    dsimp only
    have G8 := G5.trans (show GFin s5 s8 from ⟨fun y h => by rw [F8.gens] at h; rw [F5.gens]; exact .inl h, F8.os.trans F5.os.symm⟩)
    show wpAny _ _ (execs (_ :: []) env) _ _ _
    refine wpAny_execs_cons (wpAny_Return_some (wpAny_Compare1 (ev_told T (qS 4 rfl) (law.m5_ok P) F8 a4 r5 t2 fun V s9 g9 F9 R9 => ?_) rfl))
    refine qQ (p := ⟨prog, w, L1.B, s.heap, 2, Γ2⟩) (N := law.ni) (i := 7) rfl rfl (yB (St.set_self ..)) (F9.cx a2) fun V' s10 x10 R10 => ?_
    refine cmp_ok (op := .eq) (eq_self o2) a2 (R9.ext x10) R10.b fun s11 x11 => ?_
    have F11 := (F9.ext x10).ext x11
    have G11 := G8.trans (g9.trans F11.gfin)
    exact k s11 (fun b o e => F11.kp b o e) G11.g G11.o
end
end L1
end Mine
end
set_option tactic.hygienic true
section
open PySem PySem.W
namespace Mine
structure TK where
  ty : Int
  tx : List Nat
  r : Int
  c : Int
  e : Int
  ln : List Nat
noncomputable def TK.pv (t : TK) : PV := .tok [.int t.ty, .str t.tx, .tup [.int t.r, .int t.c], .tup [.int t.r, .int t.e], .str t.ln]
structure GS where
  row : Int
  depth : Nat
  parens : List Int
  rel : List Int
  opn : List (List Int)
  hangs : List PV
  ch : List (Int × PV)
  last : PV
  vis : PV
  ind : List Int
structure GK where
  lg : Bool
  lvl : Int
  mh : Bool
structure GR (K : GK) (g : GS) (σ : St) : Prop where
  s2 : σ 2 = some (.val (.int K.lvl))
  s3 : σ 3 = some (.val (.bool K.mh))
  s5 : σ 5 = some (.val (.int 4))
  s8 : σ 8 = some (.val (.int 1))
  s10 : σ 10 = some (.val (.bool K.lg))
  s11 : σ 11 = some (.val (.int g.row))
  s12 : σ 12 = some (.val (.int g.depth))
  s13 : σ 13 = some (.val (.tup [.int 4]))
  s14 : σ 14 = some (.own (g.parens.map .int))
  s15 : σ 15 = some (.own (g.rel.map .int))
  s16 : σ 16 = some (.own2 (g.opn.map fun l => l.map .int))
  s17 : σ 17 = some (.own g.hangs)
  s18 : σ 18 = some (.dic g.ch)
  s19 : σ 19 = some (.val g.last)
  s20 : σ 20 = some (.val g.vis)
  s21 : σ 21 = some (.val (.bool false))
  s22 : σ 22 = some (.own (g.ind.map .int))
structure GT (K : GK) (g : GS) (t : TK) (σ : St) : Prop extends GR K g σ where
  s23 : σ 23 = some (.val (.int t.ty))
  s24 : σ 24 = some (.val (.str t.tx))
  s25 : σ 25 = some (.val (.tup [.int t.r, .int t.c]))
  s26 : σ 26 = some (.val (.tup [.int t.r, .int t.e]))
  s27 : σ 27 = some (.val (.str t.ln))
theorem GT.scratch {K g t σ} (h : GT K g t σ) {i : Nat} (hi : 28 ≤ i) (v : SV) : GT K g t (σ.set i v) := by
  have ne : ∀ j, j < 28 → (σ.set i v) j = σ j := fun j hj => St.set_ne _ _ (by omega)
  have n2 : ∀ j, j < 28 → ∀ {x}, σ j = some x → (σ.set i v) j = some x := fun j hj {x} e => (ne j hj).trans e
  exact ⟨⟨n2 2 (by decide) h.s2, n2 3 (by decide) h.s3, n2 5 (by decide) h.s5, n2 8 (by decide) h.s8, n2 10 (by decide) h.s10, n2 11 (by decide) h.s11, n2 12 (by decide) h.s12, n2 13 (by decide) h.s13, n2 14 (by decide) h.s14, n2 15 (by decide) h.s15, n2 16 (by decide) h.s16, n2 17 (by decide) h.s17, n2 18 (by decide) h.s18, n2 19 (by decide) h.s19, n2 20 (by decide) h.s20, n2 21 (by decide) h.s21, n2 22 (by decide) h.s22⟩, n2 23 (by decide) h.s23, n2 24 (by decide) h.s24, n2 25 (by decide) h.s25, n2 26 (by decide) h.s26, n2 27 (by decide) h.s27⟩
theorem getI_0 {α : Type} (a : α) (l : List α) : yN (a :: l) 0 = some a := rfl
theorem getI_1 {α : Type} (a b : α) (l : List α) : yN (a :: b :: l) 1 = some b := rfl
theorem xT {α : Type} {l : List α} {n : Nat} (hn : n ≤ 100000) : yN l (n : Int) = l[n]? := by
  unfold yN small
  have h1 : decide (-100000 ≤ (n : Int)) = true := by rw [decide_eq_true_eq]; omega
  have h2 : decide ((n : Int) ≤ 100000) = true := by rw [decide_eq_true_eq]; omega
  have h3 : (0 : Int) ≤ (n : Int) := by omega
  rw [h1, h2, Bool.and_self, if_pos rfl, if_pos h3, Int.toNat_natCast]
theorem posI_nat {n : Nat} {k : Nat} (hk : k < n) (hn : n ≤ 100000) : posI n (k : Int) = some k := by
  unfold posI small
  have h1 : decide (-100000 ≤ (k : Int)) = true := by rw [decide_eq_true_eq]; omega
  have h2 : decide ((k : Int) ≤ 100000) = true := by rw [decide_eq_true_eq]; omega
  have h3 : (0 : Int) ≤ (k : Int) := by omega
  rw [h1, h2, Bool.and_self, if_pos rfl, if_pos h3, Int.toNat_natCast, if_pos hk]
theorem xS {α β : Type} (f : α → β) (l : List α) (k : Int) : yN (l.map f) k = (yN l k).map f := by
  unfold yN
  simp only [List.length_map, List.getElem?_map]
  split
  · split
    · rfl
    · split <;> rfl
  · rfl
namespace L1
theorem b5_ok {K g t σ} (h : GT K g t σ) : ∃ σ', xQ Γ1 FU σ [ci.b5, ci.b6] = some ([], .next, σ') ∧ GT K g t σ' := by
  refine ⟨σ.set 21 (.val (.bool false)), ?_, ?_⟩
  · simp only [ci.b5, ci.b6, qgs, qg, qx, qm, t_loc, h.s25, h.s26, h.s21, qi, getI_0, getI_1, qc, yQ, xV, yJ, Option.map_some, decide_true, Bool.not_true, if_true, if_false, List.append_nil, reduceIte]
  · have e : σ.set 21 (.val (.bool false)) = σ := by
      funext j; unfold St.set; split
      · rename_i q; rw [q, h.s21]
      · rfl
    rw [e]; exact h
theorem b01_same {K g t σ} (h : GT K g t σ) (hr : g.row = t.r - 1) : ∃ σ', xQ Γ1 FU σ [ci.b0, ci.b1] = some ([], .next, σ') ∧ GT K g t σ' ∧ σ' 28 = some (.val (.bool false)) := by
  refine ⟨σ.set 28 (.val (.bool false)), ?_, h.scratch (by decide) _, rfl⟩
  have hd : decide (g.row < t.r - 1) = false := by rw [hr]; simp
  simp only [ci.b0, ci.b1, qgs, qg, qx, qm, t_loc, h.s25, h.s11, h.s8, qi, getI_0, getI_1, qc, qb, hd, xV, yJ, Option.map_some, reduceIte, List.append_nil]
theorem b01_new {K g t σ} (h : GT K g t σ) (hr : g.row < t.r - 1) (ht : t.ty = 1 ∨ t.ty = 54) : ∃ σ', xQ Γ1 FU σ [ci.b0, ci.b1] = some ([], .next, σ') ∧ GT K { g with row := t.r - 1 } t σ' ∧ σ' 28 = some (.val (.bool true)) := by
  refine ⟨(((σ.set 28 (.val (.bool true))).set 11 (.val (.int (t.r - 1)))).set 28 (.val (.bool true))), ?_, ?_, rfl⟩
  · have hd : decide (g.row < t.r - 1) = true := decide_eq_true hr
    have hin : inL (.int t.ty) [.int 62, .int 4] = some false := by
      have := in_ints t.ty [62, 4]
      rw [show ([62, 4] : List Int).map PV.int = [.int 62, .int 4] from rfl] at this
      rw [this]
      rcases ht with h | h <;> rw [h] <;> rfl
    simp only [ci.b0, ci.b1, qgs, qg, qx, qm, t_loc, qa, h.s25, h.s11, h.s8, h.s21, h.s23, qi, getI_0, getI_1, qc, qb, hd, hin, xV, yJ, Option.map_some, reduceIte, List.append_nil, Bool.not_false, Nat.reduceEqDiff]
  · refine GT.scratch (GT.mk ?_ ?_ ?_ ?_ ?_ ?_) (by decide) _
    · exact ⟨h.s2, h.s3, h.s5, h.s8, h.s10, rfl, h.s12, h.s13, h.s14, h.s15, h.s16, h.s17, h.s18, h.s19, h.s20, h.s21, h.s22⟩
    all_goals first | exact h.s23 | exact h.s24 | exact h.s25 | exact h.s26 | exact h.s27
end L1
end Mine
end
section
open PySem PySem.W
namespace Mine
theorem zZ {Γ : xB} {fu : Nat} {σ σ₁ σ₂ : St} {m : MS} {ms : List MS} {ys zs : List PV} {fl : Fl} (h1 : qT Γ fu σ m = some (ys, .next, σ₁)) (h2 : xQ Γ fu σ₁ ms = some (zs, fl, σ₂)) : xQ Γ fu σ (m :: ms) = some (ys ++ zs, fl, σ₂) := by
  rw [gs1, h1]; simp only [h2]
theorem gone {Γ : xB} {fu : Nat} {σ σ₁ : St} {m : MS} {ys : List PV} (h1 : qT Γ fu σ m = some (ys, .next, σ₁)) : xQ Γ fu σ [m] = some (ys, .next, σ₁) := by
  rw [gs1, h1]; simp only [qgs, List.append_nil]
theorem gapp {Γ : xB} {fu : Nat} {σ₂ : St} {ms ms' : List MS} {zs : List PV} {fl : Fl} : ∀ {σ σ₁ : St} {ys : List PV}, xQ Γ fu σ ms = some (ys, .next, σ₁) → xQ Γ fu σ₁ ms' = some (zs, fl, σ₂) → xQ Γ fu σ (ms ++ ms') = some (ys ++ zs, fl, σ₂) := by
  induction ms with
  | nil => intro σ σ₁ ys h1 h2; simp only [qgs] at h1; cases h1; simpa using h2
  | cons m ms ih =>
    intro σ σ₁ ys h1 h2
    simp only [qgs] at h1
    split at h1
    · rename_i y1 σ' e1
      split at h1
      · rename_i z1 r e2
        cases h1
        rw [List.cons_append, List.append_assoc]
        exact zZ e1 (ih e2 h2)
      · cases h1
    · cases h1
    · cases h1
    · cases h1
noncomputable def visOK : PV → Bool
  | .none => true
  | .bool _ => true
  | .str s => sOk s && decide (s.length ≤ 100000)
  | z_ => false
noncomputable def isT : PV → Bool
  | .bool true => true
  | z_ => false
noncomputable def inTx (v : PV) (tx : List Nat) : Bool := match v with
  | .str s => decide (s = tx) || decide (s = [32])
  | z_ => false
theorem eq_visT {v : PV} (h : visOK v = true) : eqPV v (.bool true) = some (isT v) := by
  cases v with
  | none => rfl
  | bool b => cases b <;> rfl
  | str s => simp only [visOK, Bool.and_eq_true] at h; exact eq_sb h.1 _
  | _ => cases h
theorem in_vis {v : PV} {tx : List Nat} (h : visOK v = true) (ht : sOk tx = true) : inL v [.str tx, .str [32]] = some (inTx v tx) := by
  have hk : okD (.tup [.str tx, .str [32]]) = true := by
    unfold okD
    have : (yZ (.tup [.str tx, .str [32]])).canLay0 = true := by
      simp only [yZ, yW, PyData.canLay0, PyData.canLayAll0, PyData.strOk, S]
      simp only [sOk] at ht
      simp [ht]
    rw [this]
    simp [jF, jD, yZ, yW, PyData.depth, PyData.depthAll]
  have hv : okD v = true := by
    cases v with
    | none => rfl
    | bool b => rfl
    | str s => simp only [visOK, Bool.and_eq_true] at h; exact ok_str h.1
    | _ => cases h
  unfold inL
  rw [hk, hv]
  simp only [Bool.and_self, if_true, yW, List.any_cons, List.any_nil, Bool.or_false]
  congr 1
  cases v with
  | none => simp only [yZ, PyData.eqv, inTx, Bool.or_self]
  | bool b => simp only [yZ, PyData.eqv, inTx, Bool.or_self]
  | str s =>
    simp only [yZ, PyData.eqv, inTx]
    have key : ∀ a : List Nat, (S a == S s) = decide (s = a) := fun a => by
      by_cases e : s = a
      · subst e; simp
      · rw [decide_eq_false e]; simpa using fun q => e (S_inj.mp q).symm
    rw [key, key]
  | _ => cases h
noncomputable def mE133 : List Nat := [69, 49, 51, 51, 32, 99, 108, 111, 115, 105, 110, 103, 32, 98, 114, 97, 99, 107, 101, 116, 32, 105, 115, 32, 109, 105, 115, 115, 105, 110, 103, 32, 105, 110, 100, 101, 110, 116, 97, 116, 105, 111, 110]
noncomputable def wE122 : List Nat := [109, 105, 115, 115, 105, 110, 103, 32, 105, 110, 100, 101, 110, 116, 97, 116, 105, 111, 110, 32, 111, 114, 32, 111, 117, 116, 100, 101, 110, 116, 101, 100]
noncomputable def wE131 : List Nat := [117, 110, 97, 108, 105, 103, 110, 101, 100, 32, 102, 111, 114, 32, 104, 97, 110, 103, 105, 110, 103, 32, 105, 110, 100, 101, 110, 116]
noncomputable def msg (c w : List Nat) : List Nat := c ++ fmtMid ++ w
noncomputable def hdOf : PV → Int
  | .int h => h
  | _ => 0
section
variable {lg mh cl : Bool} {i c H rr : Int} {hd vis : PV} {tx : List Nat}
end
noncomputable def jU (close : Bool) (H : Int) (ch : List (Int × PV)) (c : Int) : PV := if close then .bool false else if H > 0 then (ch.lookup c).getD .none else .bool false
end Mine
end
section
open PySem PySem.W
namespace Mine
noncomputable def clos (t : TK) : Bool := decide (t.ty = 54) && Txt.contains (S [93, 125, 41]) (S t.tx)
theorem set_self {α : Type} {l : List α} {n : Nat} {x : α} (h : l[n]? = some x) : l.set n x = l := by
  apply List.ext_getElem?
  intro i
  rw [List.getElem?_set]
  split
  · rename_i e; subst e
    obtain ⟨hl, _⟩ := List.getElem?_eq_some_iff.mp h
    rw [if_pos hl, h]
  · rfl
namespace L1
theorem n3_loop {K g t H rr} (hrow : yN g.rel g.row = some rr) : ∀ (os : List Int) {σ : St}, GT K g t σ → (∀ o ∈ os, ∃ v, yN g.rel o = some v ∧ rr - v = H) → (os ≠ [] ∨ (σ 31 = some (.val (.int H)) ∧ σ 32 = some (.val (.bool (decide (H = 4)))))) →
    ∃ σ', jX (fun σ => qP Γ1 FU σ [.asg 31 (.bin .sub (.idx (.bor 15) (.loc 11)) (.idx (.bor 15) (.loc 30))), .asg 32 (.cmp .isIn (.loc 31) (.loc 13)), .ifs (.loc 32) [.brk] []]) (xK [30]) (os.map .int) σ = some (.next, σ') ∧ GT K g t σ' ∧ σ' 31 = some (.val (.int H)) ∧ σ' 32 = some (.val (.bool (decide (H = 4)))) ∧ σ' 29 = σ 29
  | [], σ, h, _, h2 => by
    rcases h2 with h2 | ⟨h2, h3⟩
    · exact absurd rfl h2
    · exact ⟨σ, by simp only [List.map_nil, jX], h, h2, h3, rfl⟩
  | o :: os, σ, h, ho, h2 => by
    obtain ⟨v, hv, hH⟩ := ho o (.head _)
    have hin : inL (.int H) [.int 4] = some (decide (H = 4)) := by
      have := in_ints H [4]
      rw [show ([4] : List Int).map PV.int = [.int 4] from rfl] at this
      rw [this]; simp
    have G3 : GT K g t (((σ.set 30 (.val (.int o))).set 31 (.val (.int H))).set 32 (.val (.bool (decide (H = 4))))) := ((h.scratch (by decide) _).scratch (by decide) _).scratch (by decide) _
    have hb : qP Γ1 FU (σ.set 30 (.val (.int o))) [.asg 31 (.bin .sub (.idx (.bor 15) (.loc 11)) (.idx (.bor 15) (.loc 30))), .asg 32 (.cmp .isIn (.loc 31) (.loc 13)), .ifs (.loc 32) [.brk] []] = some (if H = 4 then .brk else .next, ((σ.set 30 (.val (.int o))).set 31 (.val (.int H))).set 32 (.val (.bool (decide (H = 4))))) := by
      by_cases e : H = 4
      · rw [if_pos e]
        have hd : decide (H = 4) = true := decide_eq_true e
        simp only [qms, qx, qm, t_loc, h.s15, h.s11, h.s13, qi, xS, hrow, hv, hH, qb, qc, hin, hd, xV, yJ, Option.map_some, reduceIte, Nat.reduceEqDiff]
      · rw [if_neg e]
        have hd : decide (H = 4) = false := decide_eq_false e
        simp only [qms, qx, qm, t_loc, h.s15, h.s11, h.s13, qi, xS, hrow, hv, hH, qb, qc, hin, hd, xV, yJ, Option.map_some, reduceIte, Nat.reduceEqDiff]
    simp only [List.map_cons, jX, qt, hb]
    by_cases e : H = 4
    · rw [if_pos e]
      exact ⟨_, rfl, G3, rfl, rfl, rfl⟩
    · rw [if_neg e]
      obtain ⟨σ', e1, e2, e3, e4, e5⟩ := n3_loop hrow os G3 (fun o' h' => ho o' (.tail _ h')) (.inr ⟨rfl, rfl⟩)
      exact ⟨σ', e1, e2, e3, e4, e5⟩
end L1
end Mine
end
set_option tactic.hygienic false
section
open PySem PySem.W
namespace Mine
theorem gif {Γ : xB} {fu : Nat} {σ : St} {c : ME} {a b : List MS} {v : Bool} (h : qR Γ σ c = some v) : qT Γ fu σ (.ifs c a b) = if v then xQ Γ fu σ a else xQ Γ fu σ b := by
  rw [gg_ifs, h]; cases v <;> rfl
theorem gsing {Γ : xB} {fu : Nat} {σ : St} {m : MS} : xQ Γ fu σ [m] = qT Γ fu σ m := by
  rw [gs1]
  cases qT Γ fu σ m with
  | none => rfl
  | some q =>
    obtain ⟨ys, fl, σ'⟩ := q
    cases fl <;> simp only [qgs, List.append_nil]
theorem GT.set17 {K g t σ} (h : GT K g t σ) (hs : List PV) : GT K { g with hangs := hs } t (σ.set 17 (.own hs)) :=
  ⟨⟨h.s2, h.s3, h.s5, h.s8, h.s10, h.s11, h.s12, h.s13, h.s14, h.s15, h.s16, rfl, h.s18, h.s19, h.s20, h.s21, h.s22⟩, h.s23, h.s24, h.s25, h.s26, h.s27⟩
theorem GT.set22 {K g t σ} (h : GT K g t σ) (hs : List Int) : GT K { g with ind := hs } t (σ.set 22 (.own (hs.map .int))) :=
  ⟨⟨h.s2, h.s3, h.s5, h.s8, h.s10, h.s11, h.s12, h.s13, h.s14, h.s15, h.s16, h.s17, h.s18, h.s19, h.s20, h.s21, rfl⟩, h.s23, h.s24, h.s25, h.s26, h.s27⟩
theorem GT.set15 {K g t σ} (h : GT K g t σ) (hs : List Int) : GT K { g with rel := hs } t (σ.set 15 (.own (hs.map .int))) :=
  ⟨⟨h.s2, h.s3, h.s5, h.s8, h.s10, h.s11, h.s12, h.s13, h.s14, rfl, h.s16, h.s17, h.s18, h.s19, h.s20, h.s21, h.s22⟩, h.s23, h.s24, h.s25, h.s26, h.s27⟩
theorem GT.set14 {K g t σ} (h : GT K g t σ) (hs : List Int) : GT K { g with parens := hs } t (σ.set 14 (.own (hs.map .int))) :=
  ⟨⟨h.s2, h.s3, h.s5, h.s8, h.s10, h.s11, h.s12, h.s13, rfl, h.s15, h.s16, h.s17, h.s18, h.s19, h.s20, h.s21, h.s22⟩, h.s23, h.s24, h.s25, h.s26, h.s27⟩
theorem GT.set16 {K g t σ} (h : GT K g t σ) (hs : List (List Int)) : GT K { g with opn := hs } t (σ.set 16 (.own2 (hs.map fun l => l.map .int))) :=
  ⟨⟨h.s2, h.s3, h.s5, h.s8, h.s10, h.s11, h.s12, h.s13, h.s14, h.s15, rfl, h.s17, h.s18, h.s19, h.s20, h.s21, h.s22⟩, h.s23, h.s24, h.s25, h.s26, h.s27⟩
theorem GT.set18 {K g t σ} (h : GT K g t σ) (hs : List (Int × PV)) : GT K { g with ch := hs } t (σ.set 18 (.dic hs)) :=
  ⟨⟨h.s2, h.s3, h.s5, h.s8, h.s10, h.s11, h.s12, h.s13, h.s14, h.s15, h.s16, h.s17, rfl, h.s19, h.s20, h.s21, h.s22⟩, h.s23, h.s24, h.s25, h.s26, h.s27⟩
theorem GT.set19 {K g t σ} (h : GT K g t σ) (v : PV) : GT K { g with last := v } t (σ.set 19 (.val v)) :=
  ⟨⟨h.s2, h.s3, h.s5, h.s8, h.s10, h.s11, h.s12, h.s13, h.s14, h.s15, h.s16, h.s17, h.s18, rfl, h.s20, h.s21, h.s22⟩, h.s23, h.s24, h.s25, h.s26, h.s27⟩
theorem GT.set20 {K g t σ} (h : GT K g t σ) (v : PV) : GT K { g with vis := v } t (σ.set 20 (.val v)) :=
  ⟨⟨h.s2, h.s3, h.s5, h.s8, h.s10, h.s11, h.s12, h.s13, h.s14, h.s15, h.s16, h.s17, h.s18, h.s19, rfl, h.s21, h.s22⟩, h.s23, h.s24, h.s25, h.s26, h.s27⟩
theorem GT.set12 {K g t σ} (h : GT K g t σ) (v : Nat) : GT K { g with depth := v } t (σ.set 12 (.val (.int v))) :=
  ⟨⟨h.s2, h.s3, h.s5, h.s8, h.s10, h.s11, rfl, h.s13, h.s14, h.s15, h.s16, h.s17, h.s18, h.s19, h.s20, h.s21, h.s22⟩, h.s23, h.s24, h.s25, h.s26, h.s27⟩
noncomputable def yOf (t : TK) : Option (List Nat) → List PV
  | some m => [.tup [.tup [.int t.r, .int t.c], .str m]]
  | none => []
theorem truth_hd {hd : PV} (h : hd = .none ∨ ∃ k, hd = .int k) : yJ hd = some (decide (hdOf hd ≠ 0)) := by
  rcases h with rfl | ⟨k, rfl⟩
  · rfl
  · show some (k != 0) = some (decide (k ≠ 0))
    congr 1
    by_cases e : k = 0 <;> simp [e]
theorem truth_i (i : Int) : yJ (.int i) = some (decide (i ≠ 0)) := by
  show some (i != 0) = some (decide (i ≠ 0))
  congr 1
  by_cases e : i = 0 <;> simp [e]
theorem fmt2_mod {c w : List Nat} (hc : c.length ≤ 1000) (hw : w.length ≤ 1000) : yP .mod (.str [37, 115, 32, 99, 111, 110, 116, 105, 110, 117, 97, 116, 105, 111, 110, 32, 108, 105, 110, 101, 32, 37, 115]) (.tup [.str c, .str w]) = some (.str (msg c w)) := by
  show (if fmt2 = fmt2 ∧ c.length ≤ 1000 ∧ w.length ≤ 1000 then some (PV.str (c ++ fmtMid ++ w)) else none) = _
  rw [if_pos ⟨rfl, hc, hw⟩]; rfl
theorem tval {Γ : xB} {σ : St} {e : ME} {v : PV} {r : Bool} (ha : qM Γ σ e = some v) (hv : valTest e = true) (h : yJ v = some r) : qR Γ σ e = some r := by
  have hm : qR Γ σ e = (match qM Γ σ e with | some x => yJ x | none => none) := by cases e <;> first | rfl | cases hv
  rw [hm, ha]; exact h
theorem mtupB {Γ : xB} {σ : St} {a b : ME} {x y : PV} (ha : qM Γ σ a = some x) (hb : qM Γ σ b = some y) : qM Γ σ (.tup [a, b]) = some (.tup [x, y]) := by
  show (match (match qM Γ σ a, (match qM Γ σ b, some [] with | some x, some l => some (x :: l) | z_, y_ => none) with | some x, some l => some (x :: l) | z_, y_ => none) with | some l => if l.length ≤ SZ then some (PV.tup l) else none | none => none) = _
  rw [ha, hb]; rfl
theorem tand {Γ : xB} {σ : St} {a b : ME} {x y : Bool} (ha : qR Γ σ a = some x) (hb : qR Γ σ b = some y) : qR Γ σ (.and [a, b]) = some (x && y) := by
  rw [ta1 (tac ha (tac hb tan)), Bool.and_true]
theorem tor {Γ : xB} {σ : St} {a b : ME} {x y : Bool} (ha : qR Γ σ a = some x) (hb : qR Γ σ b = some y) : qR Γ σ (.or [a, b]) = some (x || y) := by
  rw [to1 (toc ha (toc hb ton)), Bool.or_false]
theorem tnot {Γ : xB} {σ : St} {a : ME} {x : Bool} (ha : qR Γ σ a = some x) : qR Γ σ (.not a) = some (!x) := tn ha
theorem tlocb {Γ : xB} {σ : St} {i : Nat} {b : Bool} (h : σ i = some (.val (.bool b))) : qR Γ σ (.loc i) = some b := tvb (yB h) rfl
theorem zT {Γ : xB} {σ : St} {op : MCmp} {a b : ME} {x y : PV} {r : Bool} (ha : qM Γ σ a = some x) (hb : qM Γ σ b = some y) (h : zR op x y = some r) : qR Γ σ (.cmp op a b) = some r := tvb (xcmp ha hb h) rfl
theorem tidx {Γ : xB} {σ : St} {a b : ME} {v : PV} {r : Bool} (ha : qM Γ σ (.idx a b) = some v) (h : yJ v = some r) : qR Γ σ (.idx a b) = some r := by
  exact tval ha rfl h
theorem gskip {Γ : xB} {fu : Nat} {σ : St} : xQ Γ fu σ [] = some ([], .next, σ) := by rfl
theorem gyield {Γ : xB} {fu : Nat} {σ : St} {e : ME} {v : PV} (h : qM Γ σ e = some v) (ht : jB v = true) : qT Γ fu σ (.yield e) = some ([v], .next, σ) := by
  rw [gg_yield, h]; simp only [ht, if_true]
theorem gleaf {Γ : xB} {fu : Nat} {σ σ' : St} {m : MS} (hm : qT Γ fu σ m = (qN Γ fu σ m).map fun q => ([], q)) (h : qN Γ fu σ m = some (.next, σ')) : qT Γ fu σ m = some ([], .next, σ') := by
  rw [hm, h]; rfl
theorem gasg {Γ : xB} {fu : Nat} {σ : St} {i : Nat} {e : ME} {v : PV} (h : qM Γ σ e = some v) : qT Γ fu σ (.asg i e) = some ([], .next, σ.set i (.val v)) := by
  simp only [qg, qx, h, Option.map_some]
theorem gseti {Γ : xB} {fu : Nat} {σ : St} {i : Nat} {k e : ME} {l : List PV} {j : Int} {n : Nat} {v : PV} (hl : σ i = some (.own l)) (he : qM Γ σ e = some v) (hk : qM Γ σ k = some (.int j)) (hp : posI l.length j = some n) :
    qT Γ fu σ (.seti i k e) = some ([], .next, σ.set i (.own (l.set n v))) := by
  simp only [qg, qx, hl, he, hk, hp, Option.map_some]
theorem giF {Γ : xB} {fu : Nat} {σ : St} {c : ME} {a b : List MS} {r : Option (List PV × Fl × St)} (hc : qR Γ σ c = some false) (h : xQ Γ fu σ b = r) : xQ Γ fu σ [.ifs c a b] = r := by
  rw [gsing, gg_ifs, hc]; exact h
theorem giT {Γ : xB} {fu : Nat} {σ : St} {c : ME} {a b : List MS} {r : Option (List PV × Fl × St)} (hc : qR Γ σ c = some true) (h : xQ Γ fu σ a = r) : xQ Γ fu σ [.ifs c a b] = r := by
  rw [gsing, gg_ifs, hc]; exact h
theorem gifF {Γ : xB} {fu : Nat} {σ : St} {c : ME} {a b : List MS} {r : Option (List PV × Fl × St)} (hc : qR Γ σ c = some false) (h : xQ Γ fu σ b = r) : qT Γ fu σ (.ifs c a b) = r := by
  rw [gg_ifs, hc]; exact h
theorem gifT {Γ : xB} {fu : Nat} {σ : St} {c : ME} {a b : List MS} {r : Option (List PV × Fl × St)} (hc : qR Γ σ c = some true) (h : xQ Γ fu σ a = r) : qT Γ fu σ (.ifs c a b) = r := by
  rw [gg_ifs, hc]; exact h
theorem tandF {Γ : xB} {σ : St} {a : ME} {as : List ME} (ha : qR Γ σ a = some false) : qR Γ σ (.and (a :: as)) = some false := by
  show (match qR Γ σ a with | some true => mtand Γ σ as | some false => some false | none => none) = _
  rw [ha]
theorem torT {Γ : xB} {σ : St} {a : ME} {as : List ME} (ha : qR Γ σ a = some true) : qR Γ σ (.or (a :: as)) = some true := by
  show (match qR Γ σ a with | some false => mtor Γ σ as | some true => some true | none => none) = _
  rw [ha]
namespace L1
section
variable {K : GK} {g : GS} {t : TK} {σ : St} {H : Int}
theorem i0_ok (h : GT K g t σ) (hi : g.ind[g.depth]? = some 0) (hd1 : g.ind.length ≤ 100000) : qR Γ1 σ (.idx (.bor 22) (.loc 12)) = some false := by
  have gi : yN g.ind (g.depth : Int) = some 0 := by rw [xT (by have := (List.getElem?_eq_some_iff.mp hi).1; omega)]; exact hi
  exact tidx (v := .int 0) (xidx (xbor h.s22) (yB h.s12) ((xS _ _ _).trans (congrArg _ gi))) rfl
theorem n6_a (h : GT K g t σ) (h29 : σ 29 = some (.val (.bool false))) (h31 : σ 31 = some (.val (.int H))) (h32 : σ 32 = some (.val (.bool true))) (hi : g.ind[g.depth]? = some 0) (hd1 : g.ind.length ≤ 100000) (hh : g.depth < g.hangs.length) (hd2 : g.hangs.length ≤ 100000) :
    ∃ σ', qT Γ1 FU σ ci.n6 = some ([], .next, σ') ∧ GT K { g with hangs := g.hangs.set g.depth (.int H) } t σ' := by
  have T := tlocb (Γ := Γ1) h29
  refine ⟨_, ?_, h.set17 _⟩
  rw [← gsing]
  exact giF (tandF T) (giF (tandF T) (giF (tandF (i0_ok h hi hd1)) (giT (torT (tlocb h32)) (zZ (ys := []) (gifF (tandF T) gskip) (gone (gseti h.s17 (yB h31) (yB h.s12) (posI_nat hh hd2)))))))
theorem n6_b (h : GT K g t σ) (h29 : σ 29 = some (.val (.bool true))) (h31 : σ 31 = some (.val (.int 0))) (hi : g.ind[g.depth]? = some 0) (hd1 : g.ind.length ≤ 100000) : qT Γ1 FU σ ci.n6 = some (yOf t (if K.mh then some mE133 else none), .next, σ) := by
  have T := tlocb (Γ := Γ1) h29
  rw [← gsing]
  refine giF (tand T (i0_ok h hi hd1)) (giT (tand T (tnot (tval (yB h31) rfl rfl))) ?_)
  cases hm : K.mh with
  | true => exact giT (hm ▸ tlocb h.s3) (gone (gyield (mtupB (yB h.s25) xk) rfl))
  | false => exact giF (hm ▸ tlocb h.s3) gskip
theorem n6_c {k : Int} (h : GT K g t σ) (hlg : K.lg = false) (h29 : σ 29 = some (.val (.bool false))) (h31 : σ 31 = some (.val (.int H))) (h32 : σ 32 = some (.val (.bool false))) (hi : g.ind[g.depth]? = some 0) (hd1 : g.ind.length ≤ 100000) (hhd : g.hangs[g.depth]? = some (.int k)) (hk : k ≠ 0) (hd2 : g.hangs.length ≤ 100000)
    (hv : visOK g.vis = true) (v2 : isT g.vis = false) (v3 : inTx g.vis t.tx = false) (ht : sOk t.tx = true) :
    ∃ σ', qT Γ1 FU σ ci.n6 = some (yOf t (some (if H ≤ 0 then msg [69, 49, 50, 50] wE122 else msg [69, 49, 51, 49] wE131)), .next, σ') ∧ GT K g t σ' := by
  have T := tlocb (Γ := Γ1) h29
  have TI := i0_ok h hi hd1
  have TH : qR Γ1 σ (.idx (.bor 17) (.loc 12)) = some true := tidx (xidx (xbor h.s17) (yB h.s12) (by
    show yN g.hangs _ = _
    rw [xT (by have := (List.getElem?_eq_some_iff.mp hhd).1; omega)]; exact hhd)) ((truth_i k).trans (by rw [decide_eq_true hk]))
  have key : ∀ {d w : List Nat}, d.length ≤ 1000 → w.length ≤ 1000 → xQ Γ1 FU (σ.set 33 (.val (.tup [.str d, .str w]))) [.yield (.tup [.loc 25, .bin .mod (.k (.str [37, 115, 32, 99, 111, 110, 116, 105, 110, 117, 97, 116, 105, 111, 110, 32, 108, 105, 110, 101, 32, 37, 115])) (.loc 33)])] = some (yOf t (some (msg d w)), .next, σ.set 33 (.val (.tup [.str d, .str w]))) := fun {d w} hd hw =>
    gone (gyield (mtupB (yB (show (σ.set 33 (.val (.tup [.str d, .str w]))) 25 = _ from h.s25)) (xbin xk (yB rfl) (fmt2_mod hd hw))) rfl)
  have fin : ∃ σ', xQ Γ1 FU σ [.ifs (.cmp .le (.loc 31) (.k (.int 0))) [.asg 33 (.tup [(.k (.str [69, 49, 50, 50])), (.k (.str wE122))])] [.ifs (.idx (.bor 22) (.loc 12)) [.stuck] [.ifs (.and [(.not (.loc 29)), (.idx (.bor 17) (.loc 12))]) [.asg 33 (.tup [(.k (.str [69, 49, 51, 49])), (.k (.str wE131))])] [.stuck]]],
      .yield (.tup [.loc 25, .bin .mod (.k (.str [37, 115, 32, 99, 111, 110, 116, 105, 110, 117, 97, 116, 105, 111, 110, 32, 108, 105, 110, 101, 32, 37, 115])) (.loc 33)])] = some (yOf t (some (if H ≤ 0 then msg [69, 49, 50, 50] wE122 else msg [69, 49, 51, 49] wE131)), .next, σ') ∧ GT K g t σ' := by
    have T31 : qR Γ1 σ (.cmp .le (.loc 31) (.k (.int 0))) = some (decide (H ≤ 0)) := zT (yB h31) xk rfl
    by_cases e : H ≤ 0
    · rw [decide_eq_true e] at T31
      rw [if_pos e]
      exact ⟨_, zZ (ys := []) (gifT T31 (gone (gasg (mtupB xk xk)))) (key (by decide) (by decide)), h.scratch (by decide) _⟩
    · rw [decide_eq_false e] at T31
      rw [if_neg e]
      exact ⟨_, zZ (ys := []) (gifF T31 (giF TI (giT (tand (tnot T) TH) (gone (gasg (mtupB xk xk)))))) (key (by decide) (by decide)), h.scratch (by decide) _⟩
  obtain ⟨σ', e, G⟩ := fin
  refine ⟨σ', ?_, G⟩
  rw [← gsing]
  exact giF (tandF T) (giF (tandF T) (giF (tandF TI) (giF (tor (tlocb h32) (tandF (hlg ▸ tlocb h.s10))) (giF (zT (yB h.s20) xk (by simp only [qc, eq_visT hv, v2])) (giF (zT (yB h.s20) (xtup (xcons (yB h.s24) (xone xk)) rfl) (by simp only [qc, in_vis hv ht, v3])) e)))))
end
end L1
end Mine
end
set_option tactic.hygienic true
section
open PySem PySem.W
namespace Mine
theorem visOf_ok {cl : Bool} {H : Int} {ch : List (Int × PV)} {c : Int} (h : ∀ p ∈ ch, visOK p.2 = true) : visOK (jU cl H ch c) = true := by
  unfold jU
  cases cl
  · simp only [Bool.false_eq_true, if_false]
    split
    · cases e : ch.lookup c with
      | none => rfl
      | some v =>
        have : (c, v) ∈ ch := by
          clear h
          induction ch with
          | nil => cases e
          | cons q ch ih =>
            obtain ⟨a, b⟩ := q
            rw [List.lookup_cons] at e
            split at e
            · rename_i q; cases e; rw [eq_of_beq q]; exact .head _
            · exact .tail _ (ih e)
        exact h _ this
    · rfl
  · rfl
namespace L1
theorem b2_skip {K g t σ} (h : GT K g t σ) (h28 : σ 28 = some (.val (.bool false))) : qT Γ1 FU σ ci.b2 = some ([], .next, σ) := by
  rw [ci.b2_eq, gif (tlocb h28), if_neg Bool.false_ne_true]; exact gskip
theorem b2_ok {K g t σ ex H hd os} {n : Nat} (h : GT K g t σ) (h28 : σ 28 = some (.val (.bool true))) (hn : g.row = (n : Int)) (hlt : n < g.rel.length) (hsz : g.rel.length ≤ 100000) (hx : Γ1 1 [.str t.ln] = some (.int ex))
    (ho : g.opn[g.depth]? = some os) (ho1 : os ≠ []) (ho2 : os.length ≤ SZ) (ho3 : g.opn.length ≤ 100000) (hH : ∀ o ∈ os, ∃ v, yN (g.rel.set n (ex - K.lvl)) o = some v ∧ ex - K.lvl - v = H)
    (hhd : g.hangs[g.depth]? = some hd) (hdd : hd = .none ∨ ∃ k, hd = .int k) {ys : List PV} {g2 : GS}
    (N6 : ∀ σ, GT K { g with last := .tup [.int t.r, .int t.c], rel := g.rel.set n (ex - K.lvl), vis := jU (clos t) H g.ch t.c } t σ → σ 29 = some (.val (.bool (clos t))) → σ 31 = some (.val (.int H)) → σ 32 = some (.val (.bool (if hdOf hd ≠ 0 then decide (H = hdOf hd) else decide (H = 4)))) → ∃ σ', qT Γ1 FU σ ci.n6 = some (ys, .next, σ') ∧ GT K g2 t σ') :
    ∃ σ', qT Γ1 FU σ ci.b2 = some (ys, .next, σ') ∧ GT K g2 t σ' := by
  rw [ci.b2_eq, gif (tlocb h28), if_pos rfl]
  -- n0
  have G0 := h.set19 (.tup [.int t.r, .int t.c])
  have s0 : qT Γ1 FU σ ci.n0 = some ([], .next, σ.set 19 (.val (.tup [.int t.r, .int t.c]))) := gasg (yB h.s25)
  generalize σ.set 19 (.val (.tup [.int t.r, .int t.c])) = σ0 at G0 s0
  -- n1
  have s1 : qT Γ1 FU σ0 ci.n1 = some ([], .next, σ0.set 15 (.own ((g.rel.set n (ex - K.lvl)).map .int))) := by
    rw [List.map_set]
    exact gseti G0.s15 (by simp only [qm, qs, G0.s27, G0.s2, hx, qb]) (j := n) (by simp only [qm, G0.s11, hn]) (by rw [List.length_map]; exact posI_nat hlt hsz)
  have G1 := G0.set15 (g.rel.set n (ex - K.lvl))
  generalize σ0.set 15 (.own ((g.rel.set n (ex - K.lvl)).map .int)) = σ1 at G1 s1
  -- n2
  have s2 : qT Γ1 FU σ1 ci.n2 = some ([], .next, σ1.set 29 (.val (.bool (clos t)))) := gasg (by
    simp only [qm, qa, G1.s23, G1.s24, qc, yQ, Option.map_some, yJ, clos]
    cases decide (t.ty = 54) <;> simp only [Bool.false_and, Bool.true_and])
  have G2 := G1.scratch (i := 29) (by decide) (.val (.bool (clos t)))
  have h29 : (σ1.set 29 (.val (.bool (clos t)))) 29 = some (.val (.bool (clos t))) := rfl
  generalize σ1.set 29 (.val (.bool (clos t))) = σ2 at G2 s2 h29
  -- n3
  have hrow : yN (g.rel.set n (ex - K.lvl)) g.row = some (ex - K.lvl) := by
    rw [hn, xT (by omega), List.getElem?_set_self hlt]
  obtain ⟨σ3, e3, G3, h31, h32, h29'⟩ := n3_loop (K := K) (g := { g with last := .tup [.int t.r, .int t.c], rel := g.rel.set n (ex - K.lvl) }) (t := t) (H := H) hrow os.reverse G2 (fun o h' => hH o (List.mem_reverse.mp h')) (.inl (by simpa using ho1))
  rw [h29] at h29'
  have s3 : qT Γ1 FU σ2 ci.n3 = some ([], .next, σ3) := by
    have : qM Γ1 σ2 (.bor2 16 (.loc 12)) = some (.lst (os.map .int)) := by
      have go : yN g.opn (g.depth : Int) = some os := by
        rw [xT (by have := (List.getElem?_eq_some_iff.mp ho).1; omega)]; exact ho
      simp only [qm, G2.s16, G2.s12, xS, go, Option.map_some]
    have e3' : jX (fun σ => qP Γ1 FU σ [.asg 31 (.bin .sub (.idx (.bor 15) (.loc 11)) (.idx (.bor 15) (.loc 30))), .asg 32 (.cmp .isIn (.loc 31) (.loc 13)), .ifs (.loc 32) [.brk] []]) (xK [30]) (os.map .int).reverse σ2 = some (.next, σ3) := by
      rw [← List.map_reverse]; exact e3
    have hl : (os.map PV.int).length ≤ SZ := by rw [List.length_map]; exact ho2
    simp only [ci.n3, qg, qx, this, if_pos hl, e3', Option.map_some]
  -- n4
  have mh : qM Γ1 σ3 (.idx (.bor 17) (.loc 12)) = some hd := by
    have gh : yN g.hangs (g.depth : Int) = some hd := by
      rw [xT (by have := (List.getElem?_eq_some_iff.mp ho).1; omega)]; exact hhd
    simp only [qm, G3.s17, G3.s12, qi, gh]
  have s4 : ∃ σ4, qT Γ1 FU σ3 ci.n4 = some ([], .next, σ4) ∧ GT K { g with last := .tup [.int t.r, .int t.c], rel := g.rel.set n (ex - K.lvl) } t σ4 ∧ σ4 31 = some (.val (.int H)) ∧ σ4 29 = some (.val (.bool (clos t))) ∧
      σ4 32 = some (.val (.bool (if hdOf hd ≠ 0 then decide (H = hdOf hd) else decide (H = 4)))) := by
    rw [ci.n4, gif (tidx mh (truth_hd hdd))]
    by_cases e : hdOf hd ≠ 0
    · rw [decide_eq_true e, if_pos rfl, if_pos e]
      obtain ⟨k, rfl⟩ : ∃ k, hd = .int k := by
        rcases hdd with rfl | q
        · exact absurd rfl e
        · exact q
      refine ⟨σ3.set 32 (.val (.bool (decide (H = k)))), ?_, G3.scratch (by decide) _, by simp only [xV, h31, reduceIte, Nat.reduceEqDiff], by simp only [xV, h29', reduceIte, Nat.reduceEqDiff], rfl⟩
      rw [gsing]
      refine gasg ?_
      have m31 : qM Γ1 σ3 (.loc 31) = some (.int H) := yB h31
      rw [q_cmp, m31, mh]
      simp only [qc, yQ, Option.map_some]
    · rw [decide_eq_false e, if_neg Bool.false_ne_true, if_neg e]
      exact ⟨σ3, gskip, G3, h31, h29', h32⟩
  obtain ⟨σ4, s4, G4, h31, h29, h32⟩ := s4
  -- n5
  have s5 : qT Γ1 FU σ4 ci.n5 = some ([], .next, σ4.set 20 (.val (jU (clos t) H g.ch t.c))) := gasg (by
    simp only [qm, qa, h29, h31, yJ, G4.s25, G4.s18, qi, getI_1, qc, Option.map_some, jU]
    cases clos t
    · simp only [Bool.not_false, Bool.false_eq_true, if_false]
      by_cases e : H > 0
      · rw [decide_eq_true (show (0 : Int) < H from e), if_pos e]
      · rw [decide_eq_false (show ¬ (0 : Int) < H from e), if_neg e]
    · simp only [Bool.not_true, if_true])
  have G5 := G4.set20 (jU (clos t) H g.ch t.c)
  have ne : ∀ j, j ≠ 20 → (σ4.set 20 (.val (jU (clos t) H g.ch t.c))) j = σ4 j := fun j hj => St.set_ne _ _ hj
  have k29 := (ne 29 (by decide)).trans h29
  have k31 := (ne 31 (by decide)).trans h31
  have k32 := (ne 32 (by decide)).trans h32
  generalize σ4.set 20 (.val (jU (clos t) H g.ch t.c)) = σ5 at G5 s5 k29 k31 k32
  obtain ⟨σ6, s6, G6⟩ := N6 σ5 G5 k29 k31 k32
  refine ⟨σ6, ?_, G6⟩
  exact zZ (ys := []) s0 (zZ (ys := []) s1 (zZ (ys := []) s2 (zZ (ys := []) s3 (zZ (ys := []) s4 (zZ (ys := []) s5 (gone s6))))))
end L1
end Mine
end
set_option tactic.hygienic false
section
open PySem PySem.W
namespace Mine
noncomputable def kws : List (List Nat) := [[97, 115, 115, 101, 114, 116], [114, 97, 105, 115, 101], [119, 105, 116, 104]]
theorem in_kws {tx : List Nat} (ht : sOk tx = true) (hk : tx ∉ kws) : inL (.str tx) [.str [97, 115, 115, 101, 114, 116], .str [114, 97, 105, 115, 101], .str [119, 105, 116, 104]] = some false := by
  have hkk : okD (.tup [.str [97, 115, 115, 101, 114, 116], .str [114, 97, 105, 115, 101], .str [119, 105, 116, 104]]) = true := by decide +kernel
  unfold inL
  rw [hkk, ok_str ht]
  simp only [Bool.and_self, if_true, yW, List.any_cons, List.any_nil, Bool.or_false, yZ, PyData.eqv]
  congr 1
  have key : ∀ a : List Nat, a ∈ kws → (S a == S tx) = false := fun a ha => by
    rw [beq_eq_false_iff_ne]
    intro e
    exact hk (S_inj.mp e ▸ ha)
  rw [key _ (by decide), key _ (by decide), key _ (by decide)]
  rfl
theorem gdset {Γ : xB} {fu : Nat} {σ : St} {i : Nat} {k e : ME} {d : List (Int × PV)} {v : PV} {x : Int} (hd : σ i = some (.dic d)) (he : qM Γ σ e = some v) (hk : qM Γ σ k = some (.int x)) (hl : d.length ≤ SZ) :
    qT Γ fu σ (.dset i k e) = some ([], .next, σ.set i (.dic (yR d x v))) := by
  simp only [qg, qx, hd, he, hk, if_pos hl, Option.map_some]
theorem gapp2 {Γ : xB} {fu : Nat} {σ : St} {i : Nat} {k e : ME} {ls : List (List PV)} {l : List PV} {n : Nat} {j : Int} {v : PV} (hd : σ i = some (.own2 ls)) (hk : qM Γ σ k = some (.int j)) (he : qM Γ σ e = some v) (hp : posI ls.length j = some n) (hg : yN ls j = some l) (hl : l.length ≤ SZ) :
    qT Γ fu σ (.app2 i k e) = some ([], .next, σ.set i (.own2 (ls.set n (l ++ [v])))) := by
  simp only [qg, qx, hd, he, hk, hp, hg, if_pos hl, Option.map_some]
theorem tand3 {Γ : xB} {σ : St} {a b c : ME} {x y z : Bool} (ha : qR Γ σ a = some x) (hb : qR Γ σ b = some y) (hc : qR Γ σ c = some z) : qR Γ σ (.and [a, b, c]) = some (x && (y && z)) := by
  rw [ta1 (tac ha (tac hb (tac hc tan))), Bool.and_true]
theorem tand4 {Γ : xB} {σ : St} {a b c d : ME} {x y z u : Bool} (ha : qR Γ σ a = some x) (hb : qR Γ σ b = some y) (hc : qR Γ σ c = some z) (hd : qR Γ σ d = some u) : qR Γ σ (.and [a, b, c, d]) = some (x && (y && (z && u))) := by
  rw [ta1 (tac ha (tac hb (tac hc (tac hd tan)))), Bool.and_true]
theorem tloci {Γ : xB} {σ : St} {i : Nat} {k : Int} (h : σ i = some (.val (.int k))) : qR Γ σ (.loc i) = some (decide (k ≠ 0)) := tv (yB h) rfl (truth_i k)
namespace L1
theorem n0 (k : Int) : (!decide (k ≠ 0)) = decide (k = 0) := by by_cases e : k = 0 <;> simp [e]
theorem b3_ok {K g t σ p i} (h : GT K g t σ) (hty : t.ty = 1 ∨ t.ty = 54 ∨ t.ty = 62 ∨ t.ty = 4) (hp : yN g.parens g.row = some p) (hi : g.ind[g.depth]? = some i) (hq : p = 0 ∨ t.ty = 62) (hk : t.tx ∉ kws) (ht : sOk t.tx = true) (hif : t.tx ≠ [105, 102]) (hcol : t.tx ≠ [58]) (hd1 : g.ind.length ≤ 100000) (hc : g.ch.length ≤ 100000) :
    qT Γ1 FU σ ci.b3 = some ([], .next, σ) := by
  have gi : yN g.ind (g.depth : Int) = some i := by rw [xT (by have := (List.getElem?_eq_some_iff.mp hi).1; omega)]; exact hi
  have m23 : qM Γ1 σ (.loc 23) = some (.int t.ty) := yB h.s23
  have m24 : qM Γ1 σ (.loc 24) = some (.str t.tx) := yB h.s24
  have TP := tidx (Γ := Γ1) (xidx (xbor h.s14) (yB h.s11) ((xS _ _ _).trans (congrArg _ hp))) (truth_i p)
  have TI := tidx (Γ := Γ1) (xidx (xbor h.s22) (yB h.s12) ((xS _ _ _).trans (congrArg _ gi))) (truth_i i)
  have T62 : qR Γ1 σ (.cmp .notIn (.loc 23) (.tup [.k (.int 62), .k (.int 61)])) = some (decide (t.ty ≠ 62)) := by
    refine zT m23 (y := .tup [.int 62, .int 61]) (by simp only [qm, qs, List.length_cons, List.length_nil]; rfl) ?_
    have := in_ints t.ty [62, 61]
    rw [show ([62, 61] : List Int).map PV.int = [.int 62, .int 61] from rfl] at this
    simp only [qc, this, Option.map_some]
    rcases hty with e | e | e | e <;> rw [e] <;> rfl
  have Trow : qR Γ1 σ (.loc 11) = some (decide (g.row ≠ 0)) := tloci h.s11
  have Tdep : qR Γ1 σ (.loc 12) = some (decide ((g.depth : Int) ≠ 0)) := tloci h.s12
  have Tset : qR Γ1 σ (.inset (.loc 23) [.k (.int 3), .k (.int 61), .k (.int (-1)), .k (.int (-1))]) = some false := by
    have : qM Γ1 σ (.inset (.loc 23) [.k (.int 3), .k (.int 61), .k (.int (-1)), .k (.int (-1))]) = some (.bool false) := by
      simp only [qm, qs, h.s23, allInt, Option.map_some]
      rcases hty with e | e | e | e <;> rw [e] <;> rfl
    exact tval this rfl rfl
  have Tkw : qR Γ1 σ (.cmp .isIn (.loc 24) (.lst [.k (.str [97, 115, 115, 101, 114, 116]), .k (.str [114, 97, 105, 115, 101]), .k (.str [119, 105, 116, 104])])) = some false :=
    zT m24 (xlst (xcons xk (xcons xk (xone xk))) rfl) (in_kws ht hk)
  have Temp : qR Γ1 σ (.dempty 18) = some g.ch.isEmpty := tval (v := .bool g.ch.isEmpty) (by simp only [qm, h.s18, if_pos (show g.ch.length ≤ SZ from hc)]) rfl rfl
  have Tif : qR Γ1 σ (.cmp .eq (.loc 24) (.k (.str [105, 102]))) = some false := zT m24 xk ((eq_ss ht (show sOk [105, 102] = true from rfl)).trans (by rw [decide_eq_false hif]))
  have Tcol : qR Γ1 σ (.cmp .eq (.loc 24) (.k (.str [58]))) = some false := zT m24 xk ((eq_ss ht (show sOk [58] = true from rfl)).trans (by rw [decide_eq_false hcol]))
  have T1 : qR Γ1 σ (.and [.idx (.bor 14) (.loc 11), .cmp .notIn (.loc 23) (.tup [.k (.int 62), .k (.int 61)]), .not (.idx (.bor 22) (.loc 12))]) = some false := by
    rw [tand3 TP T62 (tnot TI)]
    rcases hq with e | e
    · rw [decide_eq_false (p := p ≠ 0) (fun q => q e)]; rfl
    · rw [decide_eq_false (p := t.ty ≠ 62) (fun q => q e), Bool.false_and, Bool.and_false]
  have T3 := tand3 (tnot Trow) (tnot Tdep) Tkw
  rw [Bool.and_false, Bool.and_false] at T3
  have T4 := tand4 Temp (tnot Trow) (tnot Tdep) Tif
  rw [Bool.and_false, Bool.and_false, Bool.and_false] at T4
  rw [← gsing]
  exact giF T1 (giF Tset (giF T3 (giF T4 (giF (tandF Tcol) gskip))))
end L1
end Mine
end
section
open PySem PySem.W
namespace Mine
noncomputable def putCh (ch : List (Int × PV)) (c : Int) (tx : List Nat) : List (Int × PV) := if (ch.lookup c).isSome then ch else yR ch c (.str tx)
theorem gaug {Γ : xB} {fu : Nat} {σ : St} {i : Nat} {op : MOp} {e : ME} {x y : Int} {r : PV} (hx : σ i = some (.val (.int x))) (he : qM Γ σ e = some (.int y)) (hr : yP op (.int x) (.int y) = some r) : qT Γ fu σ (.aug i op e) = some ([], .next, σ.set i (.val r)) := by
  simp only [qg, qx, hx, he, hr, Option.map_some]
theorem gapp1 {Γ : xB} {fu : Nat} {σ : St} {i : Nat} {e : ME} {l : List PV} {v : PV} (hx : σ i = some (.own l)) (he : qM Γ σ e = some v) (hl : l.length ≤ SZ) : qT Γ fu σ (.app i e) = some ([], .next, σ.set i (.own (l ++ [v]))) := by
  simp only [qg, qx, hx, he, if_pos hl, Option.map_some]
theorem gappN {Γ : xB} {fu : Nat} {σ : St} {i : Nat} {l : List (List PV)} (hx : σ i = some (.own2 l)) (hl : l.length ≤ SZ) : qT Γ fu σ (.appN i) = some ([], .next, σ.set i (.own2 (l ++ [[]]))) := by
  simp only [qg, qx, hx, if_pos hl, Option.map_some]
theorem gaugi {Γ : xB} {fu : Nat} {σ : St} {i : Nat} {op : MOp} {k e : ME} {l : List PV} {n : Nat} {j x y : Int} {r : PV} (hl : σ i = some (.own l)) (hk : qM Γ σ k = some (.int j)) (he : qM Γ σ e = some (.int y)) (hp : posI l.length j = some n) (hg : yN l j = some (.int x)) (hr : yP op (.int x) (.int y) = some r) :
    qT Γ fu σ (.augi i k op e) = some ([], .next, σ.set i (.own (l.set n r))) := by
  simp only [qg, qx, hl, hk, he, hp, hg, hr, Option.map_some]
theorem gassert {Γ : xB} {fu : Nat} {σ : St} {c : ME} (h : qR Γ σ c = some true) : qT Γ fu σ (.assert c) = some ([], .next, σ) := by
  simp only [qg, qx, h, Option.map_some]
theorem stored_len {d : List (Int × PV)} {k : Int} {v : PV} : (yR d k v).length ≤ d.length + 1 := by
  unfold yR; split <;> simp
namespace L1
theorem tail_ok {K g t σ} (h : GT K g t σ) (hl : g.ind.length = g.depth + 1) (hs : g.ind.length ≤ 100000) (hc : g.ch.length ≤ 100000) :
    ∃ σ', xQ Γ1 FU σ [.assert (.cmp .eq (.len (.bor 22)) (.bin .add (.loc 12) (.k (.int 1)))), .ifs (.dnin 18 (.idx (.loc 25) (.k (.int 1)))) [.dset 18 (.idx (.loc 25) (.k (.int 1))) (.loc 24)] []] = some ([], .next, σ') ∧ GT K { g with ch := putCh g.ch t.c t.tx } t σ' := by
  have mC : qM Γ1 σ (.idx (.loc 25) (.k (.int 1))) = some (.int t.c) := xidx (yB h.s25) xk rfl
  have m24 : qM Γ1 σ (.loc 24) = some (.str t.tx) := yB h.s24
  have a1 : qT Γ1 FU σ (.assert (.cmp .eq (.len (.bor 22)) (.bin .add (.loc 12) (.k (.int 1))))) = some ([], .next, σ) := gassert (by
    refine zT (x := .int g.ind.length) (y := .int (g.depth + 1)) (by simp only [qm, h.s22, lenop, List.length_map, if_pos (show g.ind.length ≤ SZ from hs)]) (xbin (yB h.s12) xk rfl) ?_
    simp only [qc, yQ]
    rw [hl]; simp)
  have Tn : qR Γ1 σ (.dnin 18 (.idx (.loc 25) (.k (.int 1)))) = some (!(g.ch.lookup t.c).isSome) := by
    have : qM Γ1 σ (.dnin 18 (.idx (.loc 25) (.k (.int 1)))) = some (.bool (!(g.ch.lookup t.c).isSome)) := by rw [q_dnin, h.s18, mC]
    exact tval this rfl rfl
  unfold putCh
  cases e : (g.ch.lookup t.c).isSome
  · simp only [Bool.false_eq_true, if_false]
    refine ⟨_, zZ (ys := []) a1 ?_, h.set18 _⟩
    rw [gsing, gif Tn, e, Bool.not_false, if_pos rfl, gsing]
    exact gdset h.s18 m24 mC hc
  · simp only [if_true]
    refine ⟨σ, zZ (ys := []) a1 ?_, h⟩
    rw [gsing, gif Tn, e, Bool.not_true, if_neg Bool.false_ne_true]
    exact gskip
theorem b4_skip {K g t σ} (h : GT K g t σ) (hty : t.ty ≠ 54) : qT Γ1 FU σ ci.b4 = some ([], .next, σ) := by
  rw [ci.b4, gif (v := false) (zT (x := .int t.ty) (yB h.s23) (by rfl) (by simp only [qc, yQ, decide_eq_false hty])), if_neg Bool.false_ne_true]
  exact gskip
theorem t54 {K g t σ} (h : GT K g t σ) (hty : t.ty = 54) : qR Γ1 σ (.cmp .eq (.loc 23) (.k (.int 54))) = some true := zT (x := .int t.ty) (yB h.s23) (by rfl) (by simp only [qc, yQ, decide_eq_true hty])
theorem tin {K g t σ} (h : GT K g t σ) (l : List Nat) : qR Γ1 σ (.cmp .isIn (.loc 24) (.k (.str l))) = some (Txt.contains (S l) (S t.tx)) := zT (x := .str t.tx) (y := .str l) (yB h.s24) (by rfl) rfl
theorem b4_other {K g t σ} (h : GT K g t σ) (hty : t.ty = 54) (h1 : Txt.contains (S [40, 91, 123]) (S t.tx) = false) (h2 : Txt.contains (S [41, 93, 125]) (S t.tx) = false) (hl : g.ind.length = g.depth + 1) (hs : g.ind.length ≤ 100000) (hc : g.ch.length ≤ 100000) :
    ∃ σ', qT Γ1 FU σ ci.b4 = some ([], .next, σ') ∧ GT K { g with ch := putCh g.ch t.c t.tx } t σ' := by
  obtain ⟨σ', e, G⟩ := tail_ok h hl hs hc
  refine ⟨σ', ?_, G⟩
  rw [ci.b4, gif (t54 h hty), if_pos rfl]
  refine zZ (ys := []) (σ₁ := σ) ?_ e
  rw [gif (tin h _), h1, if_neg Bool.false_ne_true, gsing, gif (tand (tin h _) (zT (op := .gt) (x := .int g.depth) (y := .int 0) (yB h.s12) (by rfl) rfl)), h2, Bool.false_and, if_neg Bool.false_ne_true]
  exact gskip
theorem b4_open {K g t σ l p} {n : Nat} (h : GT K g t σ) (hty : t.ty = 54) (h1 : Txt.contains (S [40, 91, 123]) (S t.tx) = true) (hl : g.ind.length = g.depth + 1) (hs : g.ind.length < 100000) (hhs : g.hangs.length < 100000) (hc : g.ch.length ≤ 100000)
    (hos : g.opn.length < 100000) (hol : g.depth + 1 ≤ g.opn.length) (hop : (if g.opn.length = g.depth + 1 then g.opn ++ [[]] else g.opn)[g.depth + 1]? = some l) (hll : l.length ≤ 100000) (hn : g.row = (n : Int)) (hp : g.parens[n]? = some p) (hps : g.parens.length ≤ 100000) :
    ∃ σ', qT Γ1 FU σ ci.b4 = some ([], .next, σ') ∧ GT K { g with depth := g.depth + 1, ind := g.ind ++ [0], hangs := g.hangs ++ [.none], opn := (if g.opn.length = g.depth + 1 then g.opn ++ [[]] else g.opn).set (g.depth + 1) (l ++ [g.row]), parens := g.parens.set n (p + 1), ch := putCh g.ch t.c t.tx } t σ' := by
  obtain ⟨hpl, _⟩ := List.getElem?_eq_some_iff.mp hp
  obtain ⟨hll', _⟩ := List.getElem?_eq_some_iff.mp hop
  have G1 := h.set12 (g.depth + 1)
  have s1 : qT Γ1 FU σ (.aug 12 .add (.k (.int 1))) = some ([], .next, σ.set 12 (.val (.int ((g.depth + 1 : Nat) : Int)))) := gaug h.s12 (by rfl) rfl
  generalize σ.set 12 (.val (.int ((g.depth + 1 : Nat) : Int))) = σ1 at G1 s1
  have G2 := G1.set22 (g.ind ++ [0])
  have s2 : qT Γ1 FU σ1 (.app 22 (.k (.int 0))) = some ([], .next, σ1.set 22 (.own ((g.ind ++ [0]).map .int))) := by
    rw [List.map_append]; exact gapp1 G1.s22 (by rfl) (by rw [List.length_map]; exact Nat.le_of_lt hs)
  generalize σ1.set 22 (.own ((g.ind ++ [0]).map .int)) = σ2 at G2 s2
  have G3 := G2.set17 (g.hangs ++ [.none])
  have s3 : qT Γ1 FU σ2 (.app 17 (.k .none)) = some ([], .next, σ2.set 17 (.own (g.hangs ++ [.none]))) := gapp1 G2.s17 (by rfl) (Nat.le_of_lt hhs)
  generalize σ2.set 17 (.own (g.hangs ++ [.none])) = σ3 at G3 s3
  have s4 : ∃ σ4, qT Γ1 FU σ3 (.ifs (.cmp .eq (.len2 16) (.loc 12)) [.appN 16] []) = some ([], .next, σ4) ∧ GT K { g with depth := g.depth + 1, ind := g.ind ++ [0], hangs := g.hangs ++ [.none], opn := if g.opn.length = g.depth + 1 then g.opn ++ [[]] else g.opn } t σ4 := by
    rw [gif (v := decide (g.opn.length = g.depth + 1)) (zT (x := .int g.opn.length) (y := .int ((g.depth + 1 : Nat) : Int)) (by simp only [qm, G3.s16, List.length_map, if_pos (show g.opn.length ≤ SZ from Nat.le_of_lt hos)]) (yB G3.s12) (by
      simp only [qc, yQ]
      congr 1
      by_cases e : g.opn.length = g.depth + 1
      · rw [decide_eq_true e, decide_eq_true (by rw [e])]
      · rw [decide_eq_false e, decide_eq_false (by omega)]))]
    by_cases e : g.opn.length = g.depth + 1
    · rw [decide_eq_true e, if_pos rfl, if_pos e, gsing]
      refine ⟨_, gappN G3.s16 (by rw [List.length_map]; exact Nat.le_of_lt hos), ?_⟩
      have := G3.set16 (g.opn ++ [[]])
      rw [List.map_append] at this
      exact this
    · rw [decide_eq_false e, if_neg Bool.false_ne_true, if_neg e]
      exact ⟨_, gskip, G3⟩
  obtain ⟨σ4, s4, G4⟩ := s4
  generalize ho : (if g.opn.length = g.depth + 1 then g.opn ++ [[]] else g.opn) = opn1 at *
  have hol1 : opn1.length ≤ 100000 := by
    rw [← ho]
    split
    · simp only [List.length_append, List.length_cons, List.length_nil]; omega
    · omega
  have G5 := G4.set16 (opn1.set (g.depth + 1) (l ++ [g.row]))
  have s5 : qT Γ1 FU σ4 (.app2 16 (.loc 12) (.loc 11)) = some ([], .next, σ4.set 16 (.own2 ((opn1.set (g.depth + 1) (l ++ [g.row])).map fun l => l.map .int))) := by
    rw [List.map_set, List.map_append]
    exact gapp2 G4.s16 (yB G4.s12) (yB G4.s11) (j := ((g.depth + 1 : Nat) : Int)) (by rw [List.length_map]; exact posI_nat hll' hol1) (l := l.map .int) (by rw [xS, xT (by omega), hop]; rfl) (by rw [List.length_map]; exact hll)
  generalize σ4.set 16 (.own2 ((opn1.set (g.depth + 1) (l ++ [g.row])).map fun l => l.map .int)) = σ5 at G5 s5
  have G6 := G5.set14 (g.parens.set n (p + 1))
  have s6 : qT Γ1 FU σ5 (.augi 14 (.loc 11) .add (.k (.int 1))) = some ([], .next, σ5.set 14 (.own ((g.parens.set n (p + 1)).map .int))) := by
    rw [List.map_set]
    exact gaugi G5.s14 (by simp only [qm, G5.s11, hn]) (by rfl) (j := (n : Int)) (x := p) (by rw [List.length_map]; exact posI_nat hpl hps) (by rw [xS, xT (by omega), hp]; rfl) rfl
  generalize σ5.set 14 (.own ((g.parens.set n (p + 1)).map .int)) = σ6 at G6 s6
  obtain ⟨σ7, s7, G7⟩ := tail_ok G6 (by simp [hl]) (by simp; omega) hc
  refine ⟨σ7, ?_, G7⟩
  rw [ci.b4, gif (t54 h hty), if_pos rfl]
  refine zZ (ys := []) (σ₁ := σ6) ?_ s7
  rw [gif (tin h _), h1, if_pos rfl]
  exact zZ (ys := []) s1 (zZ (ys := []) s2 (zZ (ys := []) s3 (zZ (ys := []) s4 (zZ (ys := []) s5 (gone s6)))))
end L1
end Mine
end
set_option tactic.hygienic true
section
open PySem PySem.W
namespace Mine
noncomputable def cutI (prev x : Int) : Int := if x > prev then 0 else x
theorem mone {Γ : xB} {fu : Nat} {σ : St} {m : MS} : qP Γ fu σ [m] = qN Γ fu σ m := by
  rw [ms1]
  cases qN Γ fu σ m with
  | none => rfl
  | some q =>
    obtain ⟨fl, σ'⟩ := q
    cases fl <;> simp only [qms]
theorem mif {Γ : xB} {fu : Nat} {σ : St} {c : ME} {a b : List MS} {v : Bool} (h : qR Γ σ c = some v) : qN Γ fu σ (.ifs c a b) = if v then qP Γ fu σ a else qP Γ fu σ b := by
  rw [x_ifs, h]; cases v <;> rfl
theorem mseti {Γ : xB} {fu : Nat} {σ : St} {i : Nat} {k e : ME} {l : List PV} {j : Int} {n : Nat} {v : PV} (hl : σ i = some (.own l)) (he : qM Γ σ e = some v) (hk : qM Γ σ k = some (.int j)) (hp : posI l.length j = some n) :
    qN Γ fu σ (.seti i k e) = some (.next, σ.set i (.own (l.set n v))) := by
  simp only [qx, hl, he, hk, hp]
theorem lookup_mem {d : List (Int × PV)} {x : Int} : x ∈ d.map (·.1) → (d.lookup x).isSome = true := by
  induction d with
  | nil => intro h; cases h
  | cons q d ih =>
    obtain ⟨a, b⟩ := q
    intro h
    rw [List.lookup_cons]
    split
    · rfl
    · rename_i e
      rcases List.mem_cons.mp h with h | h
      · simp at h; simp [h] at e
      · exact ih h
namespace L1
theorem loop1 {K t prev} : ∀ (m i : Nat) {g : GS} {σ : St} {L : List Int}, GT K g t σ → σ 34 = some (.val (.int prev)) → L.length = i + m → L.length ≤ 100000 → g.ind.length = L.length → (∀ j, g.ind[j]? = (L[j]?).map fun x => if j < i then cutI prev x else x) →
    ∃ σ', jX (fun σ => qP Γ1 FU σ [.ifs (.cmp .gt (.idx (.bor 22) (.loc 35)) (.loc 34)) [.seti 22 (.loc 35) (.k (.int 0))] []]) (xK [35]) ((List.range' i m).map fun (k : Nat) => PV.int (k : Int)) σ = some (.next, σ') ∧ GT K { g with ind := L.map (cutI prev) } t σ' ∧ σ' 34 = some (.val (.int prev))
  | 0, i, g, σ, L, h, h34, hL, hs, hl, hj => by
    refine ⟨σ, by simp only [List.range'_zero, List.map_nil, jX], ?_, h34⟩
    have : g.ind = L.map (cutI prev) := by
      apply List.ext_getElem?
      intro j
      rw [hj j, List.getElem?_map]
      by_cases e : j < i
      · simp only [if_pos e]
      · rw [List.getElem?_eq_none (by omega)]; rfl
    rw [← this]; exact h
  | m + 1, i, g, σ, L, h, h34, hL, hs, hl, hj => by
    have hiL : i < L.length := by omega
    have hi : g.ind[i]? = some L[i] := by rw [hj i, List.getElem?_eq_getElem hiL]; simp
    have hil : i < g.ind.length := by omega
    have gi : yN g.ind (i : Int) = some L[i] := by rw [xT (by omega)]; exact hi
    have G1 := h.scratch (i := 35) (by decide) (.val (.int i))
    have h34' : (σ.set 35 (.val (.int i))) 34 = some (.val (.int prev)) := by simp only [xV, reduceIte, Nat.reduceEqDiff, h34]
    have h35 : (σ.set 35 (.val (.int i))) 35 = some (.val (.int i)) := rfl
    have T := zT (Γ := Γ1) (σ := σ.set 35 (.val (.int i))) (op := .gt) (x := .int L[i]) (y := .int prev) (r := decide (prev < L[i])) (a := .idx (.bor 22) (.loc 35)) (b := .loc 34) (xidx (xbor G1.s22) (yB h35) ((xS _ _ _).trans (congrArg _ gi))) (yB h34') rfl
    have key : ∃ σ1, qP Γ1 FU (σ.set 35 (.val (.int i))) [.ifs (.cmp .gt (.idx (.bor 22) (.loc 35)) (.loc 34)) [.seti 22 (.loc 35) (.k (.int 0))] []] = some (.next, σ1) ∧ GT K { g with ind := g.ind.set i (cutI prev L[i]) } t σ1 ∧ σ1 34 = some (.val (.int prev)) := by
      rw [mone, mif T]
      unfold cutI
      by_cases e : prev < L[i]
      · rw [decide_eq_true e, if_pos rfl, if_pos (show L[i] > prev from e), mone]
        have s := mseti (Γ := Γ1) (fu := FU) (e := .k (.int 0)) (k := .loc 35) G1.s22 (by rfl) (yB h35) (j := i) (by rw [List.length_map]; exact posI_nat hil (by omega))
        refine ⟨_, s, ?_, ?_⟩
        · have := G1.set22 (g.ind.set i 0)
          rw [List.map_set] at this
          exact this
        · simp only [xV, reduceIte, Nat.reduceEqDiff, h34]
      · rw [decide_eq_false e, if_neg Bool.false_ne_true, if_neg (show ¬ L[i] > prev from e), ms0, set_self hi]
        exact ⟨_, rfl, G1, h34'⟩
    obtain ⟨σ1, e1, G2, h34''⟩ := key
    obtain ⟨σ', e2, G3, h34'''⟩ := loop1 m (i + 1) (g := { g with ind := g.ind.set i (cutI prev L[i]) }) (L := L) G2 h34'' (by omega) hs (by simpa using hl) (fun j => by
      rw [List.getElem?_set]
      by_cases e : i = j
      · subst e
        rw [if_pos rfl, if_pos hil, List.getElem?_eq_getElem hiL]; simp
      · rw [if_neg e, hj j]
        congr 1
        funext x
        by_cases e2 : j < i
        · rw [if_pos e2, if_pos (by omega)]
        · rw [if_neg e2, if_neg (by omega)])
    refine ⟨σ', ?_, G3, h34'''⟩
    rw [List.range'_succ, List.map_cons]
    simp only [jX, qt, e1]
    exact e2
theorem loop2 {K t prev} : ∀ (d2 d1 : List (Int × PV)) {g : GS} {σ : St}, GT K g t σ → σ 34 = some (.val (.int prev)) → ((d1 ++ d2).map (·.1)).Nodup → (d1 ++ d2).length ≤ 100000 → g.ch = d1.filter (fun q => decide (q.1 < prev)) ++ d2 →
    ∃ σ', gfor (fun σ => xQ Γ1 FU σ [.ifs (.cmp .ge (.loc 36) (.loc 34)) [.ddel 18 (.loc 36)] []]) (xK [36]) (d2.map fun q => PV.int q.1) σ = some ([], .next, σ') ∧ GT K { g with ch := (d1 ++ d2).filter fun q => decide (q.1 < prev) } t σ' ∧ σ' 34 = some (.val (.int prev))
  | [], d1, g, σ, h, h34, hn, hl, hc => by
    refine ⟨σ, by simp only [List.map_nil, gfor], ?_, h34⟩
    rw [List.append_nil] at hc ⊢
    rw [← hc]; exact h
  | q :: d2, d1, g, σ, h, h34, hn, hl, hc => by
    obtain ⟨k, v⟩ := q
    have G1 := h.scratch (i := 36) (by decide) (.val (.int k))
    have h34' : (σ.set 36 (.val (.int k))) 34 = some (.val (.int prev)) := by simp only [xV, reduceIte, Nat.reduceEqDiff, h34]
    have h36 : (σ.set 36 (.val (.int k))) 36 = some (.val (.int k)) := rfl
    have T := zT (Γ := Γ1) (σ := σ.set 36 (.val (.int k))) (op := .ge) (x := .int k) (y := .int prev) (r := decide (prev ≤ k)) (a := .loc 36) (b := .loc 34) (yB h36) (yB h34') rfl
    have app : d1 ++ (k, v) :: d2 = (d1 ++ [(k, v)]) ++ d2 := by simp
    have hn' := hn
    rw [app] at hn hl
    have kn : k ∉ d1.map (·.1) ∧ k ∉ d2.map (·.1) := by
      rw [List.map_append, List.map_cons, List.nodup_append] at hn'
      obtain ⟨h1, h2, h3⟩ := hn'
      rw [List.nodup_cons] at h2
      exact ⟨fun q => h3 k q k (.head _) rfl, h2.1⟩
    have key : ∃ σ1, xQ Γ1 FU (σ.set 36 (.val (.int k))) [.ifs (.cmp .ge (.loc 36) (.loc 34)) [.ddel 18 (.loc 36)] []] = some ([], .next, σ1) ∧ GT K { g with ch := (d1 ++ [(k, v)]).filter (fun q => decide (q.1 < prev)) ++ d2 } t σ1 ∧ σ1 34 = some (.val (.int prev)) := by
      rw [gsing, gif T, List.filter_append]
      by_cases e : prev ≤ k
      · rw [decide_eq_true e, if_pos rfl, gsing]
        have hk : decide (k < prev) = false := decide_eq_false (by omega)
        have e1 : [(k, v)].filter (fun q => decide (q.1 < prev)) = [] := by simp [List.filter_cons]; omega
        rw [e1, List.append_nil]
        have hf : g.ch.filter (fun q => q.1 != k) = d1.filter (fun q => decide (q.1 < prev)) ++ d2 := by
          rw [hc, List.filter_append, List.filter_cons]
          have a1 : (d1.filter fun q => decide (q.1 < prev)).filter (fun q => q.1 != k) = d1.filter fun q => decide (q.1 < prev) := by
            rw [List.filter_eq_self]
            intro q hq
            have : q.1 ≠ k := fun e' => kn.1 (e' ▸ List.mem_map_of_mem (List.mem_filter.mp hq).1)
            simpa using this
          have a2 : d2.filter (fun q => q.1 != k) = d2 := by
            rw [List.filter_eq_self]
            intro q hq
            have : q.1 ≠ k := fun e' => kn.2 (e' ▸ List.mem_map_of_mem hq)
            simpa using this
          rw [a1, a2]; simp
        have hm : (g.ch.lookup k).isSome = true := lookup_mem (by rw [hc]; simp)
        have hcl : g.ch.length ≤ SZ := by
          have := List.length_filter_le (fun q : Int × PV => decide (q.1 < prev)) d1
          have hz : SZ = 100000 := rfl
          rw [hc]; simp at hl ⊢; omega
        refine ⟨(σ.set 36 (.val (.int k))).set 18 (.dic (g.ch.filter fun q => q.1 != k)), ?_, ?_, ?_⟩
        · refine gleaf rfl ?_
          simp only [qx, qm, G1.s18, h36, hm, decide_eq_true hcl, Bool.and_self, if_true]
        · rw [← hf]; exact G1.set18 _
        · simp only [xV, reduceIte, Nat.reduceEqDiff, h34]
      · rw [decide_eq_false e, if_neg Bool.false_ne_true]
        have e1 : [(k, v)].filter (fun q => decide (q.1 < prev)) = [(k, v)] := by simp [List.filter_cons]; omega
        refine ⟨_, gskip, ?_, h34'⟩
        rw [e1, List.append_assoc]
        have : GT K { g with ch := d1.filter (fun q => decide (q.1 < prev)) ++ (k, v) :: d2 } t (σ.set 36 (.val (.int k))) := by rw [← hc]; exact G1
        exact this
    obtain ⟨σ1, e1, G2, h34''⟩ := key
    obtain ⟨σ', e2, G3, h34'''⟩ := loop2 d2 (d1 ++ [(k, v)]) G2 h34'' hn hl rfl
    refine ⟨σ', ?_, by rw [app]; exact G3, h34'''⟩
    simp only [List.map_cons, gfor, qt, e1, e2, List.nil_append]
theorem loop3 {K t} : ∀ (xs : List Nat) {g : GS} {σ : St}, GT K g t σ → (∀ x ∈ xs, x < g.parens.length) → g.parens.length ≤ 100000 →
    ∃ (σ' : St) (ps : List Int), jX (fun σ => qP Γ1 FU σ [.ifs (.idx (.bor 14) (.loc 37)) [.augi 14 (.loc 37) .sub (.k (.int 1)), .brk] []]) (xK [37]) (xs.map fun (k : Nat) => PV.int (k : Int)) σ = some (.next, σ') ∧ GT K { g with parens := ps } t σ' ∧ ps.length = g.parens.length ∧ ∀ k : Nat, g.parens[k]? = some 0 → ps[k]? = some 0
  | [], g, σ, h, _, _ => ⟨σ, g.parens, by simp only [List.map_nil, jX], h, rfl, fun _ e => e⟩
  | x :: xs, g, σ, h, hx, hl => by
    have hxl := hx x (.head _)
    have hp : g.parens[x]? = some g.parens[x] := List.getElem?_eq_getElem hxl
    have gp : yN g.parens (x : Int) = some g.parens[x] := by rw [xT (by omega)]; exact hp
    have G1 := h.scratch (i := 37) (by decide) (.val (.int x))
    have h37 : (σ.set 37 (.val (.int x))) 37 = some (.val (.int x)) := rfl
    have T := tidx (Γ := Γ1) (σ := σ.set 37 (.val (.int x))) (a := .bor 14) (b := .loc 37) (v := .int g.parens[x]) (xidx (xbor G1.s14) (yB h37) ((xS _ _ _).trans (congrArg _ gp))) (truth_i _)
    by_cases e : g.parens[x] ≠ 0
    · have s : qN Γ1 FU (σ.set 37 (.val (.int x))) (.augi 14 (.loc 37) .sub (.k (.int 1))) = some (.next, (σ.set 37 (.val (.int x))).set 14 (.own ((g.parens.set x (g.parens[x] - 1)).map .int))) := by
        have hpos : posI (g.parens.map PV.int).length (x : Int) = some x := by rw [List.length_map]; exact posI_nat hxl hl
        rw [List.map_set]
        simp only [qx, G1.s14, qm, h37, hpos, xS, gp, Option.map_some, qb]
      have hb : qP Γ1 FU (σ.set 37 (.val (.int x))) [.ifs (.idx (.bor 14) (.loc 37)) [.augi 14 (.loc 37) .sub (.k (.int 1)), .brk] []] = some (.brk, (σ.set 37 (.val (.int x))).set 14 (.own ((g.parens.set x (g.parens[x] - 1)).map .int))) := by
        rw [mone, mif T, decide_eq_true e, if_pos rfl, ms1, s]
        simp only [qms, qx]
      refine ⟨(σ.set 37 (.val (.int x))).set 14 (.own ((g.parens.set x (g.parens[x] - 1)).map .int)), g.parens.set x (g.parens[x] - 1), ?_, G1.set14 _, by simp, fun k hk => ?_⟩
      · rw [List.map_cons, jX]
        simp only [qt, hb]
      · rw [List.getElem?_set]
        split
        · rename_i q; subst q; rw [hp] at hk; exact absurd (Option.some.inj hk) e
        · exact hk
    · have hb : qP Γ1 FU (σ.set 37 (.val (.int x))) [.ifs (.idx (.bor 14) (.loc 37)) [.augi 14 (.loc 37) .sub (.k (.int 1)), .brk] []] = some (.next, σ.set 37 (.val (.int x))) := by
        rw [mone, mif T, decide_eq_false e, if_neg Bool.false_ne_true, ms0]
      obtain ⟨σ', ps, e1, e2, e3, e4⟩ := loop3 xs G1 (fun y hy => hx y (.tail _ hy)) hl
      refine ⟨σ', ps, ?_, e2, e3, e4⟩
      rw [List.map_cons, jX]
      simp only [qt, hb]
      exact e1
end L1
end Mine
end
set_option tactic.hygienic false
section
open PySem PySem.W
namespace Mine
theorem slc_take {α : Type} (l : List α) (n : Nat) : jQ l none (some (n : Int)) = l.take n := by
  unfold jQ clampI
  simp only [List.drop_zero, Nat.sub_zero]
  rw [if_neg (by omega), Int.toNat_natCast]
  by_cases h : n ≤ l.length
  · rw [Nat.min_eq_left h]
  · rw [Nat.min_eq_right (by omega), List.take_of_length_le (Nat.le_refl _), List.take_of_length_le (by omega)]
theorem rangeUp_0 (n : Nat) : (rangeUp 0 (n : Int)).map PV.int = (List.range' 0 n).map fun (k : Nat) => PV.int (k : Int) := by
  unfold rangeUp
  rw [List.map_map, Int.sub_zero, Int.toNat_natCast, List.range_eq_range']
  congr 1
  funext k
  simp
theorem rangeDown_0 (n : Nat) : (rangeDown (n : Int) (-1)).map PV.int = ((List.range (n + 1)).map fun k => n - k).map fun (k : Nat) => PV.int (k : Int) := by
  unfold rangeDown
  rw [List.map_map, List.map_map]
  have : ((n : Int) - -1).toNat = n + 1 := by omega
  rw [this]
  apply List.map_congr_left
  intro k hk
  have := List.mem_range.mp hk
  simp only [Function.comp]
  congr 1
  omega
namespace L1
theorem b4_close {K g t σ d iv lr lc x} {n : Nat} (h : GT K g t σ) (hty : t.ty = 54) (h1 : Txt.contains (S [40, 91, 123]) (S t.tx) = false) (h2 : Txt.contains (S [41, 93, 125]) (S t.tx) = true) (hdep : g.depth = d + 1) (hl : g.ind.length = d + 2) (hhl : g.hangs.length = d + 2) (hs : d + 2 ≤ 50000)
    (hlast : g.last = .tup [.int lr, .int lc]) (hiv : g.ind[d + 1]? = some iv) (hx : (g.ind.dropLast.map (cutI (if iv ≠ 0 then iv else lc)))[d]? = some x) (hn : (g.ch.map (·.1)).Nodup) (hc : g.ch.length ≤ 90000) (ho : g.opn.length ≤ 100000) (hrow : g.row = (n : Int)) (hpl : n < g.parens.length) (hps : g.parens.length ≤ 100000) :
    ∃ (σ' : St) (ps : List Int), qT Γ1 FU σ ci.b4 = some ([], .next, σ') ∧
      GT K { g with depth := d, ind := g.ind.dropLast.map (cutI (if iv ≠ 0 then iv else lc)), hangs := g.hangs.dropLast, opn := g.opn.take (d + 2), parens := ps,
                    ch := putCh (if d ≠ 0 then yR (g.ch.filter fun q => decide (q.1 < if iv ≠ 0 then iv else lc)) x (.bool true) else g.ch.filter fun q => decide (q.1 < if iv ≠ 0 then iv else lc)) t.c t.tx } t σ' ∧
      ps.length = g.parens.length ∧ ∀ k : Nat, g.parens[k]? = some 0 → ps[k]? = some 0 := by
  generalize hprev : (if iv ≠ 0 then iv else lc) = prev at *
  have hz : SZ = 100000 := rfl
  -- pop
  have gl : (g.ind.map PV.int).getLast? = some (.int iv) := by
    rw [List.getLast?_eq_getElem?, List.length_map, hl, List.getElem?_map]
    show Option.map PV.int g.ind[d + 2 - 1]? = _
    rw [show d + 2 - 1 = d + 1 from rfl, hiv]; rfl
  have G1 := (h.set22 g.ind.dropLast).scratch (i := 34) (by decide) (.val (.int prev))
  have s1 : qT Γ1 FU σ (.popOr 34 22 (.idx (.loc 19) (.k (.int 1)))) = some ([], .next, (σ.set 22 (.own (g.ind.dropLast.map .int))).set 34 (.val (.int prev))) := by
    refine gleaf rfl ?_
    have hle : (g.ind.map PV.int).length ≤ SZ := by rw [List.length_map, hl]; omega
    have hdl : (g.ind.map PV.int).dropLast = g.ind.dropLast.map PV.int := by rw [List.map_dropLast]
    by_cases e : iv ≠ 0
    · rw [if_pos e] at hprev
      subst hprev
      simp only [qx, h.s22, gl, if_pos hle, truth_i, decide_eq_true e, hdl]
    · rw [if_neg e] at hprev
      subst hprev
      have m19 : qM Γ1 (σ.set 22 (.own (g.ind.dropLast.map PV.int))) (.idx (.loc 19) (.k (.int 1))) = some (.int lc) := by
        simp only [qm, xV, reduceIte, Nat.reduceEqDiff, h.s19, hlast, qi, getI_1]
      simp only [qx, h.s22, gl, if_pos hle, truth_i, decide_eq_false e, hdl, m19]
  have h34 : ((σ.set 22 (.own (g.ind.dropLast.map .int))).set 34 (.val (.int prev))) 34 = some (.val (.int prev)) := rfl
  generalize (σ.set 22 (.own (g.ind.dropLast.map .int))).set 34 (.val (.int prev)) = σ1 at G1 s1 h34
  -- hangs.pop
  have s2 : qT Γ1 FU σ1 (.pop 17) = some ([], .next, σ1.set 17 (.own g.hangs.dropLast)) := by
    refine gleaf rfl ?_
    have hle : decide (g.hangs.length ≤ SZ) = true := by rw [decide_eq_true_eq, hhl]; omega
    have he : g.hangs.isEmpty = false := by cases e : g.hangs with
      | nil => rw [e] at hhl; simp at hhl
      | cons => rfl
    simp only [qx, G1.s17, hle, he, Bool.not_false, Bool.and_self, if_true]
  have G2 := G1.set17 g.hangs.dropLast
  have h34b : (σ1.set 17 (.own g.hangs.dropLast)) 34 = some (.val (.int prev)) := by simp only [xV, reduceIte, Nat.reduceEqDiff, h34]
  generalize σ1.set 17 (.own g.hangs.dropLast) = σ2 at G2 s2 h34b
  -- the loop over the indents
  have hdl : g.ind.dropLast.length = d + 1 := by rw [List.length_dropLast, hl]; rfl
  obtain ⟨σ3, e3, G3, h34c⟩ := loop1 (K := K) (t := t) (d + 1) 0 (L := g.ind.dropLast) G2 h34b (by omega) (by omega) rfl (fun j => by simp)
  have s3 : qT Γ1 FU σ2 (.forUp 35 (.k (.int 0)) (.loc 12) [.ifs (.cmp .gt (.idx (.bor 22) (.loc 35)) (.loc 34)) [.seti 22 (.loc 35) (.k (.int 0))] []]) = some ([], .next, σ3) := by
    refine gleaf rfl ?_
    have : itemsUp Γ1 σ2 (.k (.int 0)) (.loc 12) = some ((List.range' 0 (d + 1)).map fun (k : Nat) => PV.int (k : Int)) := by
      have sm : (small 0 && small ((d + 1 : Nat) : Int)) = true := by simp [small]; omega
      simp only [itemsUp, qm, G2.s12, hdep, sm, if_true, rangeUp_0]
    simp only [qx, this]
    exact e3
  -- the loop over the chances
  obtain ⟨σ4, e4, G4, _⟩ := loop2 (K := K) (t := t) (prev := prev) g.ch [] G3 h34c (by simpa using hn) (by simp; omega) (by simp)
  rw [List.nil_append] at G4
  have s4 : qT Γ1 FU σ3 (.forL [36] (.dkeys 18) [.ifs (.cmp .ge (.loc 36) (.loc 34)) [.ddel 18 (.loc 36)] []]) = some ([], .next, σ4) := by
    have : itemsL Γ1 σ3 (.dkeys 18) = some (g.ch.map fun q => PV.int q.1) := by
      have hle : g.ch.length ≤ SZ := by omega
      have hle2 : (g.ch.map fun q => PV.int q.1).length ≤ SZ := by rw [List.length_map]; exact hle
      simp only [itemsL, qm, G3.s18, if_pos hle, if_pos hle2]
    rw [gg_forL, this]
    exact e4
  -- open_rows
  have G5 := G4.set16 (g.opn.take (d + 2))
  have s5 : qT Γ1 FU σ4 (.trunc 16 (.bin .add (.loc 12) (.k (.int 1)))) = some ([], .next, σ4.set 16 (.own2 ((g.opn.take (d + 2)).map fun l => l.map .int))) := by
    refine gleaf rfl ?_
    have hle : (g.opn.map fun l => l.map PV.int).length ≤ SZ := by rw [List.length_map]; omega
    have hk : qM Γ1 σ4 (.bin .add (.loc 12) (.k (.int 1))) = some (.int ((d + 2 : Nat) : Int)) := by
      simp only [qm, G4.s12, hdep, qb]; rfl
    simp only [qx, G4.s16, hk, if_pos hle, slc_take, List.map_take]
  generalize σ4.set 16 (.own2 ((g.opn.take (d + 2)).map fun l => l.map .int)) = σ5 at G5 s5
  -- depth
  have G6 := G5.set12 d
  have s6 : qT Γ1 FU σ5 (.aug 12 .sub (.k (.int 1))) = some ([], .next, σ5.set 12 (.val (.int (d : Int)))) := gaug (x := ((d + 1 : Nat) : Int)) (by rw [← hdep]; exact G5.s12) (by rfl) (by simp only [qb]; congr 2; omega)
  generalize σ5.set 12 (.val (.int (d : Int))) = σ6 at G6 s6
  -- the chance of the outer bracket
  have cl1 : (g.ch.filter fun q => decide (q.1 < prev)).length ≤ 90000 := Nat.le_trans (List.length_filter_le _ _) hc
  have s7 : ∃ σ7, qT Γ1 FU σ6 (.ifs (.loc 12) [.dset 18 (.idx (.bor 22) (.loc 12)) (.k (.bool true))] []) = some ([], .next, σ7) ∧
      GT K { g with depth := d, ind := g.ind.dropLast.map (cutI prev), hangs := g.hangs.dropLast, opn := g.opn.take (d + 2), ch := if d ≠ 0 then yR (g.ch.filter fun q => decide (q.1 < prev)) x (.bool true) else g.ch.filter fun q => decide (q.1 < prev) } t σ7 := by
    rw [gif (tloci G6.s12)]
    by_cases e : d = 0
    · subst e
      rw [decide_eq_false (show ¬ (((0 : Nat) : Int) ≠ 0) by simp), if_neg Bool.false_ne_true]
      exact ⟨σ6, gskip, G6⟩
    · rw [decide_eq_true (show ((d : Int) ≠ 0) by omega), if_pos rfl, if_pos e, gsing]
      refine ⟨_, gdset (v := .bool true) (x := x) G6.s18 (by rfl) ?_ (Nat.le_trans cl1 (by decide)), G6.set18 _⟩
      have gx : yN (g.ind.dropLast.map (cutI prev)) (d : Int) = some x := by rw [xT (by omega)]; exact hx
      simp only [qm, G6.s22, G6.s12, qi, xS, gx, Option.map_some]
  obtain ⟨σ7, s7, G7⟩ := s7
  have cl2 : (if d ≠ 0 then yR (g.ch.filter fun q => decide (q.1 < prev)) x (.bool true) else g.ch.filter fun q => decide (q.1 < prev)).length ≤ 90001 := by
    split
    · exact Nat.le_trans stored_len (by omega)
    · omega
  generalize (if d ≠ 0 then yR (g.ch.filter fun q => decide (q.1 < prev)) x (.bool true) else g.ch.filter fun q => decide (q.1 < prev)) = ch2 at G7 s7 cl2
  -- the parens
  obtain ⟨σ8, ps, e8, G8, hp1, hp2⟩ := loop3 (K := K) (t := t) ((List.range (n + 1)).map fun k => n - k) G7 (fun y hy => by
    obtain ⟨k, hk, rfl⟩ := List.mem_map.mp hy
    show n - k < g.parens.length
    omega) hps
  have s8 : qT Γ1 FU σ7 (.forDown 37 (.loc 11) [.ifs (.idx (.bor 14) (.loc 37)) [.augi 14 (.loc 37) .sub (.k (.int 1)), .brk] []]) = some ([], .next, σ8) := by
    refine gleaf rfl ?_
    have : itemsDown Γ1 σ7 (.loc 11) = some (((List.range (n + 1)).map fun k => n - k).map fun (k : Nat) => PV.int (k : Int)) := by
      have sm : small (n : Int) = true := by simp [small]; omega
      simp only [itemsDown, qm, G7.s11, hrow, sm, if_true, rangeDown_0]
    simp only [qx, this]
    exact e8
  have hdl2 : (g.ind.dropLast.map (cutI prev)).length = d + 1 := by rw [List.length_map]; exact hdl
  obtain ⟨σ9, s9, G9⟩ := tail_ok G8 hdl2 (show (g.ind.dropLast.map (cutI prev)).length ≤ 100000 by omega) (show ch2.length ≤ 100000 by omega)
  refine ⟨σ9, ps, ?_, G9, hp1, hp2⟩
  rw [ci.b4, gif (t54 h hty), if_pos rfl]
  refine zZ (ys := []) (σ₁ := σ8) ?_ s9
  rw [gif (tin h _), h1, if_neg Bool.false_ne_true, gsing, gif (tand (tin h _) (zT (op := .gt) (x := .int g.depth) (y := .int 0) (yB h.s12) (by rfl) rfl)), h2, Bool.true_and, decide_eq_true (show (0 : Int) < g.depth by omega), if_pos rfl]
  exact zZ (ys := []) s1 (zZ (ys := []) s2 (zZ (ys := []) s3 (zZ (ys := []) s4 (zZ (ys := []) s5 (zZ (ys := []) s6 (zZ (ys := []) s7 (gone s8)))))))
end L1
end Mine
end
section
open PySem PySem.W
namespace Mine
noncomputable def LET : List Nat := [97, 98, 99, 100, 101, 102, 103, 104, 105, 106, 107, 108, 109, 110, 111, 112, 113, 114, 115, 116, 117, 118, 119, 120, 121, 122, 95, 48, 49, 50, 51, 52, 53, 54, 55, 56, 57]
noncomputable def zU (c : Nat) : Bool := Txt.contains (S LET) (S [c])
noncomputable def dd (c : Nat) : Int := if Txt.contains (S [40, 91, 123]) (S [c]) then 1 else if Txt.contains (S [41, 93, 125]) (S [c]) then -1 else 0
structure SRel (fs : List PV) (d row : Int) (line : List Nat) (many col : Int) (σ : St) : Prop where
  s1 : σ 1 = some (.own fs)
  s2 : σ 2 = some (.val (.int d))
  s3 : σ 3 = some (.val (.str LET))
  s5 : σ 5 = some (.val (.str line))
  s6 : σ 6 = some (.val (.int row))
  s7 : σ 7 = some (.val (.int col))
  s8 : σ 8 = some (.val (.int many))
theorem yV {Γ : xB} {fu : Nat} {σ σ₁ : St} {m : MS} {ms : List MS} {r : Option (Fl × St)} (h1 : qN Γ fu σ m = some (.next, σ₁)) (h2 : qP Γ fu σ₁ ms = r) : qP Γ fu σ (m :: ms) = r := by
  rw [ms1, h1]; exact h2
theorem masg {Γ : xB} {fu : Nat} {σ : St} {i : Nat} {e : ME} {v : PV} (h : qM Γ σ e = some v) : qN Γ fu σ (.asg i e) = some (.next, σ.set i (.val v)) := by
  simp only [qx, h]
theorem mapp1 {Γ : xB} {fu : Nat} {σ : St} {i : Nat} {e : ME} {l : List PV} {v : PV} (hx : σ i = some (.own l)) (he : qM Γ σ e = some v) (hl : l.length ≤ SZ) : qN Γ fu σ (.app i e) = some (.next, σ.set i (.own (l ++ [v]))) := by
  simp only [qx, hx, he, if_pos hl]
theorem getI_str {l : List Nat} {n : Nat} {c : Nat} (h : l[n]? = some c) (hl : l.length ≤ 100000) : getidx (.str l) (.int (n : Int)) = some (.str [c]) := by
  have := (List.getElem?_eq_some_iff.mp h).1
  simp only [qi, xT (show n ≤ 100000 by omega), h, Option.map_some]
theorem slc_mid {l : List Nat} {a n : Nat} (h : a + n ≤ l.length) : jQ l (some (a : Int)) (some ((a + n : Nat) : Int)) = (l.drop a).take n := by
  unfold jQ clampI
  dsimp only
  rw [if_neg (by omega), if_neg (by omega), Int.toNat_natCast, Int.toNat_natCast, Nat.min_eq_left (by omega), Nat.min_eq_left (by omega)]
  congr 1; omega
namespace L1
theorem w0_ok {fs d row line many σ c} {col : Nat} (h : SRel fs d row line many (col : Int) σ) (hc : line[col]? = some c) (hl : line.length ≤ 100000) :
    qN Γ1 FU σ scan.w0 = some (.next, (σ.set 10 (.val (.int ((col + 1 : Nat) : Int)))).set 9 (.val (.str [c]))) := by
  have e : qM Γ1 σ (.idx (.loc 5) (.loc 7)) = some (.str [c]) := by
    simp only [qm, h.s5, h.s7]; exact getI_str hc hl
  have e2 : qM Γ1 σ (.bin .add (.loc 7) (.k (.int 1))) = some (.int ((col + 1 : Nat) : Int)) := by simp only [qm, h.s7, qb]; rfl
  simp only [scan.w0, qx, List.map_cons, List.map_nil, qs, e, e2]
  rfl
theorem it_space {fs d row line many σ} {col : Nat} (h : SRel fs d row line many (col : Int) σ) (hc : line[col]? = some 32) (hl : line.length ≤ 100000) :
    ∃ σ', qP Γ1 FU σ [scan.w0, scan.w1, scan.w2] = some (.next, σ') ∧ SRel fs d row line many ((col + 1 : Nat) : Int) σ' := by
  refine ⟨((σ.set 10 (.val (.int ((col + 1 : Nat) : Int)))).set 9 (.val (.str [32]))).set 7 (.val (.int ((col + 1 : Nat) : Int))), ?_, ?_⟩
  · refine yV (w0_ok h hc hl) (yV (σ₁ := (σ.set 10 (.val (.int ((col + 1 : Nat) : Int)))).set 9 (.val (.str [32]))) ?_ (by rw [mone]; exact masg (by simp only [qm, xV, reduceIte, Nat.reduceEqDiff])))
    rw [scan.w1, mif (v := false) (zT (x := .str [32]) (y := .str [32]) (by simp only [qm, xV, reduceIte]) (by rfl) (by simp only [qc, eq_ss (show sOk [32] = true from rfl) (show sOk [32] = true from rfl)]; rfl)), if_neg Bool.false_ne_true, qP]
  · constructor <;> simp only [xV, reduceIte, Nat.reduceEqDiff] <;> first | exact h.s1 | exact h.s2 | exact h.s3 | exact h.s5 | exact h.s6 | exact h.s8
theorem yK {σ : St} {i j : Nat} {v : SV} (h : j ≠ i) : (σ.set i v) j = σ j := St.set_ne _ _ h
theorem inner {fu : Nat} {line : List Nat} (hl : line.length ≤ 100000) : ∀ (m j n : Nat) {σ : St}, σ 3 = some (.val (.str LET)) → σ 5 = some (.val (.str line)) → σ 10 = some (.val (.int (j : Int))) → (∀ i, i < m → ∃ c, line[j + i]? = some c ∧ zU c = true) → (∃ c, line[j + m]? = some c ∧ zU c = false) → m < n →
    ∃ σ', jW (fun σ => qR Γ1 σ (.cmp .isIn (.idx (.loc 5) (.loc 10)) (.loc 3))) (fun σ => qP Γ1 fu σ [.asg 10 (.bin .add (.loc 10) (.k (.int 1)))]) n σ = some (.next, σ') ∧ σ' 10 = some (.val (.int ((j + m : Nat) : Int))) ∧ ∀ k, k ≠ 10 → σ' k = σ k
  | 0, j, n + 1, σ, h3, h5, h10, _, ⟨c, hc, hn⟩, _ => by
    refine ⟨σ, ?_, h10, fun _ _ => rfl⟩
    have T : qR Γ1 σ (.cmp .isIn (.idx (.loc 5) (.loc 10)) (.loc 3)) = some false := zT (x := .str [c]) (y := .str LET) (by simp only [qm, h5, h10]; exact getI_str hc hl) (yB h3) (by show some (zU c) = _; rw [hn])
    simp only [jW, T]
  | m + 1, j, n + 1, σ, h3, h5, h10, hL, hn, hm => by
    obtain ⟨c, hc, hi⟩ := hL 0 (by omega)
    have T : qR Γ1 σ (.cmp .isIn (.idx (.loc 5) (.loc 10)) (.loc 3)) = some true := zT (x := .str [c]) (y := .str LET) (by simp only [qm, h5, h10]; exact getI_str hc hl) (yB h3) (by show some (zU c) = _; rw [hi])
    have B : qP Γ1 fu σ [.asg 10 (.bin .add (.loc 10) (.k (.int 1)))] = some (.next, σ.set 10 (.val (.int ((j + 1 : Nat) : Int)))) := by
      rw [mone]; exact masg (by simp only [qm, h10, qb]; rfl)
    obtain ⟨σ', e1, e2, e3⟩ := inner (fu := fu) hl m (j + 1) n (σ := σ.set 10 (.val (.int ((j + 1 : Nat) : Int)))) h3 h5 rfl (fun i hi => by
      obtain ⟨c, h1, h2⟩ := hL (i + 1) (by omega)
      exact ⟨c, by rw [← h1]; congr 1; omega, h2⟩) (by
      obtain ⟨c, h1, h2⟩ := hn
      exact ⟨c, by rw [← h1]; congr 1; omega, h2⟩) (by omega)
    refine ⟨σ', ?_, by rw [e2]; congr 4; omega, fun k hk => (e3 k hk).trans (yK hk)⟩
    simp only [jW, T, B]
    exact e1
theorem it_end {fs d row line many σ ty c} {col n : Nat} (h1 : σ 1 = some (.own fs)) (h2 : σ 2 = some (.val (.int d))) (h3 : σ 3 = some (.val (.str LET))) (h5 : σ 5 = some (.val (.str line))) (h6 : σ 6 = some (.val (.int row))) (h7 : σ 7 = some (.val (.int (col : Int)))) (h8 : σ 8 = some (.val (.int many)))
    (h9 : σ 9 = some (.val (.str [c]))) (h10 : σ 10 = some (.val (.int ((col + n : Nat) : Int)))) (h11 : σ 11 = some (.val (.int ty))) (hl : line.length ≤ 100000) (hn : col + n ≤ line.length) (hf : fs.length ≤ 100000) :
    ∃ σ', qP Γ1 FU σ [.asg 2 (.bin .add (.loc 2) (.ite (.cmp .isIn (.loc 9) (.k (.str [40, 91, 123]))) (.k (.int 1)) (.ite (.cmp .isIn (.loc 9) (.k (.str [41, 93, 125]))) (.neg (.k (.int 1))) (.k (.int 0))))),
        .app 1 (.call 2 [.loc 11, .slc (.loc 5) (some (.loc 7)) (some (.loc 10)), .tup [.loc 6, .loc 7], .tup [.loc 6, .loc 10], .loc 5])] = some (.next, σ') ∧
      SRel (fs ++ [(TK.mk ty ((line.drop col).take n) row col ((col + n : Nat) : Int) line).pv]) (d + dd c) row line many col σ' ∧ σ' 10 = some (.val (.int ((col + n : Nat) : Int))) := by
  have hdd : qM Γ1 σ (.ite (.cmp .isIn (.loc 9) (.k (.str [40, 91, 123]))) (.k (.int 1)) (.ite (.cmp .isIn (.loc 9) (.k (.str [41, 93, 125]))) (.neg (.k (.int 1))) (.k (.int 0)))) = some (.int (dd c)) := by
    have t1 : qR Γ1 σ (.cmp .isIn (.loc 9) (.k (.str [40, 91, 123]))) = some (Txt.contains (S [40, 91, 123]) (S [c])) := zT (x := .str [c]) (y := .str [40, 91, 123]) (yB h9) (by rfl) rfl
    have t2 : qR Γ1 σ (.cmp .isIn (.loc 9) (.k (.str [41, 93, 125]))) = some (Txt.contains (S [41, 93, 125]) (S [c])) := zT (x := .str [c]) (y := .str [41, 93, 125]) (yB h9) (by rfl) rfl
    unfold dd
    rw [q_ite, t1]
    cases Txt.contains (S [40, 91, 123]) (S [c])
    · simp only [Bool.false_eq_true, if_false]
      rw [q_ite, t2]
      cases Txt.contains (S [41, 93, 125]) (S [c])
      · simp only [Bool.false_eq_true, if_false, qm]
      · simp only [if_true, qm]
    · simp only [if_true, qm]
  have s1 := masg (Γ := Γ1) (fu := FU) (σ := σ) (i := 2) (v := .int (d + dd c)) (e := .bin .add (.loc 2) (.ite (.cmp .isIn (.loc 9) (.k (.str [40, 91, 123]))) (.k (.int 1)) (.ite (.cmp .isIn (.loc 9) (.k (.str [41, 93, 125]))) (.neg (.k (.int 1))) (.k (.int 0))))) (by
    rw [q_bin, hdd]
    have : qM Γ1 σ (.loc 2) = some (.int d) := yB h2
    rw [this]; simp only [qb])
  have g : ∀ k, k ≠ 2 → (σ.set 2 (.val (.int (d + dd c)))) k = σ k := fun k hk => yK hk
  have hsl : slcop (.str line) (some (col : Int)) (some ((col + n : Nat) : Int)) = some (.str ((line.drop col).take n)) := by
    simp only [slcop, if_pos (show line.length ≤ SZ from hl), slc_mid hn]
  have s2 := mapp1 (Γ := Γ1) (fu := FU) (σ := σ.set 2 (.val (.int (d + dd c)))) (i := 1) (l := fs) (v := (TK.mk ty ((line.drop col).take n) row col ((col + n : Nat) : Int) line).pv)
    (e := .call 2 [.loc 11, .slc (.loc 5) (some (.loc 7)) (some (.loc 10)), .tup [.loc 6, .loc 7], .tup [.loc 6, .loc 10], .loc 5]) (by rw [g 1 (by decide)]; exact h1) (by
      simp only [qm, qs, qo, g 11 (by decide), g 5 (by decide), g 7 (by decide), g 10 (by decide), g 6 (by decide), h11, h5, h7, h10, h6, hsl, List.length_cons, List.length_nil]
      rfl) hf
  refine ⟨_, yV s1 (by rw [mone]; exact s2), ?_, ?_⟩
  · constructor <;> simp only [xV, reduceIte, Nat.reduceEqDiff] <;> first | exact h3 | exact h5 | exact h6 | exact h7 | exact h8
  · simp only [xV, reduceIte, Nat.reduceEqDiff]; exact h10
theorem it_op {fs d row line many σ c} {col : Nat} (h : SRel fs d row line many (col : Int) σ) (hc : line[col]? = some c) (hl : line.length ≤ 100000) (h32 : c ≠ 32) (h35 : c ≠ 35) (h34 : c ≠ 34) (hL : zU c = false) (hs : sOk [c] = true) (hf : fs.length ≤ 100000) :
    ∃ σ', qP Γ1 FU σ [scan.w0, scan.w1, scan.w2] = some (.next, σ') ∧ SRel (fs ++ [(TK.mk 54 [c] row col ((col + 1 : Nat) : Int) line).pv]) (d + dd c) row line many ((col + 1 : Nat) : Int) σ' := by
  have hcl := (List.getElem?_eq_some_iff.mp hc).1
  have W0 := w0_ok h hc hl
  generalize hσ0 : (σ.set 10 (.val (.int ((col + 1 : Nat) : Int)))).set 9 (.val (.str [c])) = σ0 at W0
  have g : ∀ k, k ≠ 9 → k ≠ 10 → σ0 k = σ k := fun k h1 h2 => by rw [← hσ0, yK h1, yK h2]
  have h9 : σ0 9 = some (.val (.str [c])) := by rw [← hσ0]; rfl
  have h10 : σ0 10 = some (.val (.int ((col + 1 : Nat) : Int))) := by rw [← hσ0]; rfl
  have ne : ∀ {a : Nat}, c ≠ a → sOk [a] = true → ∀ {σ : St}, σ 9 = some (.val (.str [c])) → qR Γ1 σ (.cmp .eq (.loc 9) (.k (.str [a]))) = some false := fun {a} hca ha {σ} h9 => zT (x := .str [c]) (y := .str [a]) (yB h9) (by rfl) (by simp only [qc, eq_ss hs ha]; simp [hca])
  have s11 : qN Γ1 FU σ0 (.asg 11 (.k (.int 54))) = some (.next, σ0.set 11 (.val (.int 54))) := masg (by rfl)
  have g2 : ∀ k, k ≠ 11 → (σ0.set 11 (.val (.int 54))) k = σ0 k := fun k hk => yK hk
  obtain ⟨σ', e1, R, h10'⟩ := it_end (fs := fs) (d := d) (row := row) (line := line) (many := many) (σ := σ0.set 11 (.val (.int 54))) (ty := 54) (c := c) (col := col) (n := 1) (by rw [g2 1 (by decide), g 1 (by decide) (by decide)]; exact h.s1) (by rw [g2 2 (by decide), g 2 (by decide) (by decide)]; exact h.s2) (by rw [g2 3 (by decide), g 3 (by decide) (by decide)]; exact h.s3) (by rw [g2 5 (by decide), g 5 (by decide) (by decide)]; exact h.s5) (by rw [g2 6 (by decide), g 6 (by decide) (by decide)]; exact h.s6) (by rw [g2 7 (by decide), g 7 (by decide) (by decide)]; exact h.s7) (by rw [g2 8 (by decide), g 8 (by decide) (by decide)]; exact h.s8) (by rw [g2 9 (by decide)]; exact h9) (by rw [g2 10 (by decide)]; exact h10) rfl hl (by omega) hf
  have htx : (line.drop col).take 1 = [c] := by
    rw [List.drop_eq_getElem_cons hcl, List.take_succ_cons, List.take_zero]
    congr 1
    rw [List.getElem?_eq_getElem hcl] at hc
    exact Option.some.inj hc
  rw [htx] at R
  refine ⟨σ'.set 7 (.val (.int ((col + 1 : Nat) : Int))), ?_, ?_⟩
  · refine yV W0 (yV (σ₁ := σ') ?_ (by rw [mone]; exact masg (yB h10')))
    rw [scan.w1, mif (v := true) (zT (x := .str [c]) (y := .str [32]) (yB h9) (by rfl) (by simp only [qc, eq_ss hs (show sOk [32] = true from rfl)]; simp [h32])), if_pos rfl]
    refine yV s11 (yV (σ₁ := σ0.set 11 (.val (.int 54))) ?_ e1)
    rw [mif (ne h35 rfl (by rw [g2 9 (by decide)]; exact h9)), if_neg Bool.false_ne_true, mone, mif (ne h34 rfl (by rw [g2 9 (by decide)]; exact h9)), if_neg Bool.false_ne_true, mone,
      mif (v := false) (zT (x := .str [c]) (y := .str LET) (by simp only [qm, g2 9 (by decide), h9]) (by simp only [qm, g2 3 (by decide), g 3 (by decide) (by decide), h.s3]) (by show some (zU c) = _; rw [hL])), if_neg Bool.false_ne_true, qP]
  · constructor <;> simp only [xV, reduceIte, Nat.reduceEqDiff] <;> first | exact R.s1 | exact R.s2 | exact R.s3 | exact R.s5 | exact R.s6 | exact R.s8
theorem it_name {fs d row line many σ c} {col n : Nat} (h : SRel fs d row line many (col : Int) σ) (hc : line[col]? = some c) (hl : line.length ≤ 100000) (h32 : c ≠ 32) (h35 : c ≠ 35) (h34 : c ≠ 34) (hL : ∀ i, i < n + 1 → ∃ c, line[col + i]? = some c ∧ zU c = true) (hE : ∃ c, line[col + (n + 1)]? = some c ∧ zU c = false) (hn : n < 150) (hs : sOk [c] = true) (hf : fs.length ≤ 100000) (hd : dd c = 0) :
    ∃ σ', qP Γ1 FU σ [scan.w0, scan.w1, scan.w2] = some (.next, σ') ∧ SRel (fs ++ [(TK.mk 1 ((line.drop col).take (n + 1)) row col ((col + (n + 1) : Nat) : Int) line).pv]) d row line many ((col + (n + 1) : Nat) : Int) σ' := by
  have hcl := (List.getElem?_eq_some_iff.mp hc).1
  have W0 := w0_ok h hc hl
  generalize hσ0 : (σ.set 10 (.val (.int ((col + 1 : Nat) : Int)))).set 9 (.val (.str [c])) = σ0 at W0
  have g : ∀ k, k ≠ 9 → k ≠ 10 → σ0 k = σ k := fun k h1 h2 => by rw [← hσ0, yK h1, yK h2]
  have h9 : σ0 9 = some (.val (.str [c])) := by rw [← hσ0]; rfl
  have h10 : σ0 10 = some (.val (.int ((col + 1 : Nat) : Int))) := by rw [← hσ0]; rfl
  have ne : ∀ {a : Nat}, c ≠ a → sOk [a] = true → ∀ {σ : St}, σ 9 = some (.val (.str [c])) → qR Γ1 σ (.cmp .eq (.loc 9) (.k (.str [a]))) = some false := fun {a} hca ha {σ} h9 => zT (x := .str [c]) (y := .str [a]) (yB h9) (by rfl) (by simp only [qc, eq_ss hs ha]; simp [hca])
  have s11 : qN Γ1 FU σ0 (.asg 11 (.k (.int 54))) = some (.next, σ0.set 11 (.val (.int 54))) := masg (by rfl)
  have s11' : qN Γ1 FU (σ0.set 11 (.val (.int 54))) (.asg 11 (.k (.int 1))) = some (.next, (σ0.set 11 (.val (.int 54))).set 11 (.val (.int 1))) := masg (by rfl)
  generalize hσ1 : (σ0.set 11 (.val (.int 54))).set 11 (.val (.int 1)) = σ1 at s11'
  have g1 : ∀ k, k ≠ 11 → σ1 k = σ0 k := fun k hk => by rw [← hσ1, yK hk, yK hk]
  have h11 : σ1 11 = some (.val (.int 1)) := by rw [← hσ1]; rfl
  obtain ⟨σ2, e2, h10b, g2⟩ := inner (fu := FU) hl n (col + 1) FU (σ := σ1) (by rw [g1 3 (by decide), g 3 (by decide) (by decide)]; exact h.s3) (by rw [g1 5 (by decide), g 5 (by decide) (by decide)]; exact h.s5) (by rw [g1 10 (by decide)]; exact h10) (fun i hi => by
    obtain ⟨c, h1, h2⟩ := hL (i + 1) (by omega)
    exact ⟨c, by rw [← h1]; congr 1; omega, h2⟩) (by
    obtain ⟨c, h1, h2⟩ := hE
    exact ⟨c, by rw [← h1]; congr 1; omega, h2⟩) (by show n < 200; omega)
  have hlen : col + (n + 1) ≤ line.length := by
    obtain ⟨c, h1, _⟩ := hE
    have := (List.getElem?_eq_some_iff.mp h1).1
    omega
  have gg : ∀ k, k ≠ 9 → k ≠ 10 → k ≠ 11 → σ2 k = σ k := fun k a b d => by rw [g2 k b, g1 k d, g k a b]
  obtain ⟨σ', e1, R, h10'⟩ := it_end (fs := fs) (d := d) (row := row) (line := line) (many := many) (σ := σ2) (ty := 1) (c := c) (col := col) (n := n + 1) (by rw [gg 1 (by decide) (by decide) (by decide)]; exact h.s1) (by rw [gg 2 (by decide) (by decide) (by decide)]; exact h.s2) (by rw [gg 3 (by decide) (by decide) (by decide)]; exact h.s3) (by rw [gg 5 (by decide) (by decide) (by decide)]; exact h.s5) (by rw [gg 6 (by decide) (by decide) (by decide)]; exact h.s6) (by rw [gg 7 (by decide) (by decide) (by decide)]; exact h.s7) (by rw [gg 8 (by decide) (by decide) (by decide)]; exact h.s8)
    (by rw [g2 9 (by decide), g1 9 (by decide)]; exact h9) (by rw [h10b]; congr 4; omega) (by rw [g2 11 (by decide)]; exact h11) hl hlen hf
  rw [hd, Int.add_zero] at R
  refine ⟨σ'.set 7 (.val (.int ((col + (n + 1) : Nat) : Int))), ?_, ?_⟩
  · refine yV W0 (yV (σ₁ := σ') ?_ (by rw [mone]; exact masg (yB h10')))
    rw [scan.w1, mif (v := true) (zT (x := .str [c]) (y := .str [32]) (yB h9) (by rfl) (by simp only [qc, eq_ss hs (show sOk [32] = true from rfl)]; simp [h32])), if_pos rfl]
    refine yV s11 (yV (σ₁ := σ2) ?_ e1)
    have k9 : (σ0.set 11 (.val (.int 54))) 9 = some (.val (.str [c])) := h9
    rw [mif (ne h35 rfl k9), if_neg Bool.false_ne_true, mone, mif (ne h34 rfl k9), if_neg Bool.false_ne_true, mone,
      mif (v := true) (zT (x := .str [c]) (y := .str LET) (yB k9) (by simp only [qm, xV, reduceIte, Nat.reduceEqDiff, g 3 (by decide) (by decide), h.s3]) (by
        obtain ⟨c', h1, h2⟩ := hL 0 (by omega)
        rw [Nat.add_zero, hc] at h1
        cases h1
        show some (zU c) = _; rw [h2])), if_pos rfl]
    refine yV s11' ?_
    rw [mone, x_whil]
    exact e2
  · constructor <;> simp only [xV, reduceIte, Nat.reduceEqDiff] <;> first | exact R.s1 | exact R.s2 | exact R.s3 | exact R.s5 | exact R.s6 | exact R.s8
end L1
end Mine
end
set_option tactic.hygienic true
section
open PySem PySem.W
namespace Mine
inductive ScanR (line : List Nat) (row : Int) : Nat → Int → List TK → Int → Nat → Prop
  | done {col d} : col + 1 = line.length → ScanR line row col d [] d 0
  | sp {col d ts d' n} : line[col]? = some 32 → col + 1 < line.length → ScanR line row (col + 1) d ts d' n → ScanR line row col d ts d' (n + 1)
  | op {col d ts d' n c} : line[col]? = some c → col + 1 < line.length → c ≠ 32 → c ≠ 35 → c ≠ 34 → zU c = false → sOk [c] = true → ScanR line row (col + 1) (d + dd c) ts d' n → ScanR line row col d (⟨54, [c], row, col, ((col + 1 : Nat) : Int), line⟩ :: ts) d' (n + 1)
  | name {col d ts d' n c k w} : line[col]? = some c → col + 1 < line.length → c ≠ 32 → c ≠ 35 → c ≠ 34 → (∀ i, i < k + 1 → ∃ c, line[col + i]? = some c ∧ zU c = true) → (∃ c, line[col + (k + 1)]? = some c ∧ zU c = false) → k < 150 → sOk [c] = true → dd c = 0 → w = (line.drop col).take (k + 1) →
      ScanR line row (col + (k + 1)) d ts d' n → ScanR line row col d (⟨1, w, row, col, ((col + (k + 1) : Nat) : Int), line⟩ :: ts) d' (n + 1)
theorem ScanR.len {line row col d ts d' n} (h : ScanR line row col d ts d' n) : ts.length ≤ n := by
  induction h with
  | done => simp
  | sp _ _ _ ih => omega
  | op _ _ _ _ _ _ _ _ ih => simp; omega
  | name _ _ _ _ _ _ _ _ _ _ _ _ ih => simp; omega
namespace L1
theorem scan_while {line row d ts d' n} {col : Nat} (R : ScanR line row col d ts d' n) (hl : line.length ≤ 100000) : ∀ {fs many σ fu}, SRel fs d row line many (col : Int) σ → n < fu → fs.length + n ≤ 100000 →
    ∃ σ', jW (fun σ => qR Γ1 σ (.cmp .lt (.loc 7) (.bin .sub (.len (.loc 5)) (.k (.int 1))))) (fun σ => qP Γ1 FU σ [scan.w0, scan.w1, scan.w2]) fu σ = some (.next, σ') ∧ SRel (fs ++ ts.map TK.pv) d' row line many ((line.length - 1 : Nat) : Int) σ' := by
  have T : ∀ {fs d many σ} {col : Nat}, SRel fs d row line many (col : Int) σ → qR Γ1 σ (.cmp .lt (.loc 7) (.bin .sub (.len (.loc 5)) (.k (.int 1)))) = some (decide ((col : Int) < line.length - 1)) := fun {fs d many σ col} h =>
    zT (x := .int col) (y := .int (line.length - 1)) (yB h.s7) (by simp only [qm, h.s5, lenop, if_pos (show line.length ≤ SZ from hl), qb]) rfl
  induction R with
  | done e =>
    intro fs many σ fu h hf hs
    obtain ⟨fu, rfl⟩ : ∃ k, fu = k + 1 := ⟨fu - 1, by omega⟩
    refine ⟨σ, ?_, ?_⟩
    · simp only [jW, T h]
      rw [decide_eq_false (by omega)]
    · rw [List.map_nil, List.append_nil]
      rename_i col₀ _
      have : line.length - 1 = col₀ := by omega
      rw [this]; exact h
  | sp e1 e2 _ ih =>
    intro fs many σ fu h hf hs
    obtain ⟨fu, rfl⟩ : ∃ k, fu = k + 1 := ⟨fu - 1, by omega⟩
    obtain ⟨σ1, b1, R1⟩ := it_space h e1 hl
    obtain ⟨σ', b2, R2⟩ := ih R1 (fu := fu) (by omega) (by omega)
    refine ⟨σ', ?_, R2⟩
    simp only [jW, T h]
    rw [decide_eq_true (by omega)]
    simp only [b1]
    exact b2
  | op e1 e2 e3 e4 e5 e6 e7 _ ih =>
    intro fs many σ fu h hf hs
    obtain ⟨fu, rfl⟩ : ∃ k, fu = k + 1 := ⟨fu - 1, by omega⟩
    obtain ⟨σ1, b1, R1⟩ := it_op h e1 hl e3 e4 e5 e6 e7 (by omega)
    obtain ⟨σ', b2, R2⟩ := ih R1 (fu := fu) (by omega) (by simp; omega)
    refine ⟨σ', ?_, by rw [List.map_cons, ← List.singleton_append, ← List.append_assoc]; exact R2⟩
    simp only [jW, T h]
    rw [decide_eq_true (by omega)]
    simp only [b1]
    exact b2
  | name e1 e2 e3 e4 e5 e6 e7 e8 e9 e10 e11 _ ih =>
    intro fs many σ fu h hf hs
    obtain ⟨fu, rfl⟩ : ∃ k, fu = k + 1 := ⟨fu - 1, by omega⟩
    obtain ⟨σ1, b1, R1⟩ := it_name h e1 hl e3 e4 e5 e6 e7 e8 e9 (by omega) e10
    obtain ⟨σ', b2, R2⟩ := ih R1 (fu := fu) (by omega) (by simp; omega)
    refine ⟨σ', ?_, by rw [List.map_cons, ← List.singleton_append, ← List.append_assoc, e11]; exact R2⟩
    simp only [jW, T h]
    rw [decide_eq_true (by omega)]
    simp only [b1]
    exact b2
end L1
structure RowR (line : List Nat) (row d : Int) (ts : List TK) (d' : Int) : Prop where
  ex : ∃ t ts' n, ts = (t :: ts') ++ [⟨if d' > 0 then 62 else 4, [10], row, ((line.length - 1 : Nat) : Int), (line.length : Int), line⟩] ∧ t.ty ≠ 61 ∧ ScanR line row 0 d (t :: ts') d' n ∧ n < 200
  len : line.length ≤ 100000
  pos : 0 < line.length
inductive RowsR : Nat → Int → List (List Nat) → List TK → Prop
  | nil {k d} : RowsR k d [] []
  | cons {k d d' line lines ts ts'} : RowR line ((k + 1 : Nat) : Int) d ts d' → RowsR (k + 1) d' lines ts' → RowsR k d (line :: lines) (ts ++ ts')
namespace L1
structure SL (fs : List PV) (d : Int) (σ : St) : Prop where
  s1 : σ 1 = some (.own fs)
  s2 : σ 2 = some (.val (.int d))
  s3 : σ 3 = some (.val (.str LET))
theorem row_ok {line ts} {k : Nat} {d d' : Int} (R : RowR line ((k + 1 : Nat) : Int) d ts d') {fs σ} (h : SL fs d σ) (hf : fs.length ≤ 50000) :
    ∃ σ', qP Γ1 FU ((σ.set 4 (.val (.int (k : Int)))).set 5 (.val (.str line))) [scan.l0, scan.l1, scan.l2, scan.l3, scan.l4] = some (.next, σ') ∧ SL (fs ++ ts.map TK.pv) d' σ' := by
  obtain ⟨⟨t, ts', n, rfl, hty, hR, hn⟩, hl, hp⟩ := R
  generalize hσ0 : (σ.set 4 (.val (.int (k : Int)))).set 5 (.val (.str line)) = σ0
  have g0 : ∀ j, j ≠ 4 → j ≠ 5 → σ0 j = σ j := fun j a b => by rw [← hσ0, yK b, yK a]
  have k4 : σ0 4 = some (.val (.int (k : Int))) := by rw [← hσ0]; rfl
  have k5 : σ0 5 = some (.val (.str line)) := by rw [← hσ0]; rfl
  have k1 : σ0 1 = some (.own fs) := by rw [g0 1 (by decide) (by decide)]; exact h.s1
  have L0 : qN Γ1 FU σ0 scan.l0 = some (.next, ((σ0.set 8 (.val (.int fs.length))).set 7 (.val (.int 0))).set 6 (.val (.int ((k + 1 : Nat) : Int)))) := by
    have e1 : qM Γ1 σ0 (.bin .add (.loc 4) (.k (.int 1))) = some (.int ((k + 1 : Nat) : Int)) := by simp only [qm, k4, qb]; rfl
    have e2 : qM Γ1 σ0 (.len (.bor 1)) = some (.int fs.length) := by simp only [qm, k1, lenop, if_pos (show fs.length ≤ SZ from Nat.le_trans hf (by decide))]
    simp only [scan.l0, qx, List.map_cons, List.map_nil, qs, e1, e2]
    simp only [qm]
    rfl
  generalize hσ1 : ((σ0.set 8 (.val (.int fs.length))).set 7 (.val (.int 0))).set 6 (.val (.int ((k + 1 : Nat) : Int))) = σ1 at L0
  have S1 : SRel fs d ((k + 1 : Nat) : Int) line fs.length ((0 : Nat) : Int) σ1 := by
    rw [← hσ1]
    constructor <;> simp only [xV, reduceIte, Nat.reduceEqDiff] <;> first | rfl | exact k1 | exact k5 | (rw [g0 _ (by decide) (by decide)]; first | exact h.s2 | exact h.s3)
  have hlen := hR.len
  obtain ⟨σ2, e2, S2⟩ := scan_while hR hl S1 (fu := FU) hn (by omega)
  have L1' : qN Γ1 FU σ1 scan.l1 = some (.next, σ2) := by rw [scan.l1, x_whil]; exact e2
  generalize hfs : fs ++ (t :: ts').map TK.pv = fs2 at S2
  have hfl : fs2.length ≤ 60000 := by rw [← hfs]; simp at hlen ⊢; omega
  have L2' : qN Γ1 FU σ2 scan.l2 = some (.next, σ2.set 12 (.val (.bool false))) := masg (by
    have e1 : qM Γ1 σ2 (.cmp .eq (.len (.bor 1)) (.loc 8)) = some (.bool false) := by
      have hne : ¬ ((fs2.length : Int) = fs.length) := by rw [← hfs]; simp; omega
      simp only [qm, S2.s1, S2.s8, lenop, if_pos (show fs2.length ≤ SZ from Nat.le_trans hfl (by decide)), qc, yQ, decide_eq_false hne, Option.map_some]
    have e2 : qM Γ1 σ2 (.cmp .eq (.idx (.idx (.bor 1) (.loc 8)) (.k (.int 0))) (.k (.int 61))) = some (.bool false) := by
      have hg : yN fs2 (fs.length : Int) = some t.pv := by
        rw [xT (by omega), ← hfs, List.map_cons, List.getElem?_append_right (Nat.le_refl _), Nat.sub_self]; rfl
      have hp : t.pv = .tok [.int t.ty, .str t.tx, .tup [.int t.r, .int t.c], .tup [.int t.r, .int t.e], .str t.ln] := rfl
      simp only [qm, S2.s1, S2.s8, qi, hg, hp, getI_0, qc, yQ, decide_eq_false hty, Option.map_some]
    rw [q_or]
    simp only [qr, e1, e2, yJ])
  have L3' : qN Γ1 FU (σ2.set 12 (.val (.bool false))) scan.l3 = some (.next, (σ2.set 12 (.val (.bool false))).set 11 (.val (.int (if d' > 0 then 62 else 4)))) := masg (by
    have t1 : qR Γ1 (σ2.set 12 (.val (.bool false))) (.or [.cmp .gt (.loc 2) (.k (.int 0)), .loc 12]) = some (decide (0 < d') || false) := tor (zT (x := .int d') (y := .int 0) (by simp only [qm, xV, reduceIte, Nat.reduceEqDiff, S2.s2]) (by rfl) rfl) (tlocb rfl)
    rw [q_ite, t1]
    by_cases e : d' > 0
    · rw [decide_eq_true (show 0 < d' from e), if_pos e]; simp only [Bool.true_or, qm]
    · rw [decide_eq_false (show ¬ 0 < d' from e), if_neg e]; simp only [Bool.or_self, qm])
  have L4' := mapp1 (Γ := Γ1) (fu := FU) (σ := (σ2.set 12 (.val (.bool false))).set 11 (.val (.int (if d' > 0 then 62 else 4)))) (i := 1) (l := fs2) (v := (TK.mk (if d' > 0 then 62 else 4) [10] ((k + 1 : Nat) : Int) ((line.length - 1 : Nat) : Int) (line.length : Int) line).pv)
    (e := .call 2 [.loc 11, .k (.str [10]), .tup [.loc 6, .bin .sub (.len (.loc 5)) (.k (.int 1))], .tup [.loc 6, .len (.loc 5)], .loc 5]) S2.s1 (by
      have hm : ((line.length : Int) - 1) = ((line.length - 1 : Nat) : Int) := by omega
      simp only [qm, qs, xV, reduceIte, Nat.reduceEqDiff, S2.s5, S2.s6, lenop, if_pos (show line.length ≤ SZ from hl), qb, hm, List.length_cons, List.length_nil]
      rfl) (Nat.le_trans hfl (by decide))
  refine ⟨_, yV L0 (yV L1' (yV L2' (yV L3' (by rw [mone]; exact L4')))), ?_⟩
  constructor <;> simp only [xV, reduceIte, Nat.reduceEqDiff]
  · rw [List.map_append, ← List.append_assoc, hfs]; rfl
  · exact S2.s2
  · exact S2.s3
theorem rows_ok : ∀ {k d lines ts}, RowsR k d lines ts → ∀ {fs σ}, SL fs d σ → fs.length + 200 * lines.length + ts.length ≤ 50000 →
    ∃ σ' d', jX (fun σ => qP Γ1 FU σ [scan.l0, scan.l1, scan.l2, scan.l3, scan.l4]) (xK [4, 5]) (zW k (lines.map .str)) σ = some (.next, σ') ∧ SL (fs ++ ts.map TK.pv) d' σ' := by
  intro k d lines ts R
  induction R with
  | @nil k d => intro fs σ h hf; exact ⟨σ, d, by simp only [List.map_nil, zW, jX], by simpa using h⟩
  | @cons k d d' line lines ts ts' R1 R2 ih =>
    intro fs σ h hf
    simp only [List.length_append, List.length_cons] at hf
    obtain ⟨σ1, e1, S1⟩ := row_ok R1 h (by omega)
    obtain ⟨σ', d'', e2, S2⟩ := ih S1 (by simp; omega)
    refine ⟨σ', d'', ?_, by rw [List.map_append, ← List.append_assoc]; exact S2⟩
    simp only [List.map_cons, zW, jX, qt, qbm, e1]
    exact e2
theorem scan_ok {lines ts} (R : RowsR 0 0 lines ts) (h : 200 * lines.length + ts.length ≤ 50000) : jH Γ1 FU 1 scan.ms [.lst (lines.map .str)] = some (.lst (ts.map TK.pv)) := by
  unfold jH
  rw [if_pos (show [PV.lst (lines.map PV.str)].length = 1 from rfl), scan.ms_eq]
  have P : qN Γ1 FU (xD [.lst (lines.map .str)]) scan.pre = some (.next, (((xD [.lst (lines.map .str)]).set 3 (.val (.str LET))).set 2 (.val (.int 0))).set 1 (.own [])) := by
    simp only [scan.pre, qx, List.map_cons, List.map_nil, qs, qm, List.length_nil]
    rfl
  generalize hσ0 : (((xD [.lst (lines.map .str)]).set 3 (.val (.str LET))).set 2 (.val (.int 0))).set 1 (.own []) = σ0 at P
  have S0 : SL [] 0 σ0 := by rw [← hσ0]; exact ⟨rfl, rfl, rfl⟩
  have k0 : σ0 0 = some (.val (.lst (lines.map .str))) := by rw [← hσ0]; rfl
  obtain ⟨σ1, d', e1, S1⟩ := rows_ok R S0 (by simp; omega)
  have hl : (lines.map PV.str).length ≤ SZ := by rw [List.length_map]; have hz : SZ = 100000 := rfl; omega
  have L : qN Γ1 FU σ0 (.forEnum 4 5 (.loc 0) [scan.l0, scan.l1, scan.l2, scan.l3, scan.l4]) = some (.next, σ1) := by
    have : itemsL Γ1 σ0 (.loc 0) = some (lines.map .str) := by simp only [itemsL, qm, k0, if_pos hl]
    rw [x_forEnum, this]
    exact e1
  have Fz : qN Γ1 FU σ1 (.freeze 1) = some (.next, σ1.set 1 (.val (.lst ([] ++ ts.map TK.pv)))) := by simp only [qx, S1.s1]
  rw [yV P (yV L (yV Fz rfl)), mone]
  simp only [qx, qm, xV, reduceIte, List.nil_append]
end L1
end Mine
end
set_option tactic.hygienic false
section
open PySem PySem.W
namespace Mine
theorem sub_list (x : Str) (lo hi : Nat) : U (Builtin.Str.strSub x lo hi) = (U x).extract lo hi := by
  unfold U Builtin.Str.strSub
  simp
theorem U_S (l : List Nat) : U (S l) = l := rfl
theorem lstrip_sp {n : Nat} {c : Nat} {r : List Nat} (hc : Unicode.isSpace c = false) : U (Txt.lstrip (S (List.replicate n 32 ++ c :: r))) = c :: r := by
  have e : Txt.lstrip (S (List.replicate n 32 ++ c :: r)) = W.stripped Unicode.isSpace true false (S (List.replicate n 32 ++ c :: r)) := stripBy_eq _ _ _ _
  rw [e]
  unfold W.stripped
  have h32 : Unicode.isSpace 32 = true := by decide +kernel
  have hl : ((S (List.replicate n 32 ++ c :: r)).cps.toList.takeWhile Unicode.isSpace).length = n := by
    show ((List.replicate n 32 ++ c :: r).takeWhile Unicode.isSpace).length = n
    rw [List.takeWhile_append_of_pos (by intro a ha; rw [List.eq_of_mem_replicate ha]; exact h32)]
    simp [hc]
  simp only [if_true, Bool.false_eq_true, if_false, hl]
  rw [sub_list, U_S]
  have hlen : (S (List.replicate n 32 ++ c :: r)).length = (List.replicate n 32 ++ c :: r).length := by simp [S, Str.length]
  rw [hlen, List.extract_eq_take_drop]
  rw [List.drop_append_of_le_length (by simp), List.drop_replicate]
  simp
theorem rstrip_nl {l : List Nat} {d : Nat} (h1 : l.getLast? = some d) (h2 : d ≠ 10) (h3 : d ≠ 13) : U (Txt.rstripChars (S (l ++ [10])) (S [10, 13])) = l := by
  have e : Txt.rstripChars (S (l ++ [10])) (S [10, 13]) = W.stripped (S [10, 13]).cps.contains false true (S (l ++ [10])) := stripBy_eq _ _ _ _
  rw [e]
  unfold W.stripped
  have hl : (((S (l ++ [10])).cps.toList.drop 0).reverse.takeWhile (S [10, 13]).cps.contains).length = 1 := by
    show ((l ++ [10]).reverse.takeWhile fun c => (S [10, 13]).cps.contains c).length = 1
    have hr : ∃ l', l.reverse = d :: l' := by
      cases e : l.reverse with
      | nil => simp at e; rw [e] at h1; cases h1
      | cons a l' =>
        have : l = l'.reverse ++ [a] := by rw [← List.reverse_reverse l, e]; simp
        rw [this] at h1; simp at h1
        exact ⟨l', by rw [h1]⟩
    obtain ⟨l', hr⟩ := hr
    have hcont : ∀ c, (S [10, 13]).cps.contains c = (c == 10 || c == 13) := by
      intro c
      simp only [S, List.toArray, Array.contains, List.contains]
      simp [S]
    simp only [List.reverse_append, List.reverse_cons, List.reverse_nil, List.nil_append, List.cons_append, hr, hcont]
    simp [h2, h3]
  simp only [Bool.false_eq_true, if_false, if_true, hl]
  rw [sub_list, U_S]
  have hlen : (S (l ++ [10])).length = l.length + 1 := by simp [S, Str.length]
  rw [hlen, List.extract_eq_take_drop]
  simp
theorem no_tab {l : List Nat} (h : (9 : Nat) ∉ l) : Txt.contains (S l) (S [9]) = false := by
  unfold Txt.contains
  rw [occ_nil_of_no]
  · rfl
  · intro i hi
    have hi' : i < l.length := by simp [S, Str.length] at hi; omega
    unfold Builtin.Str.subAt
    rw [beq_eq_false_iff_ne]
    intro e
    have e2 : (l.extract i (i + 1)) = [9] := by
      have := congrArg Array.toList e
      simpa [S, Str.length] using this
    rw [List.extract_eq_take_drop] at e2
    have : (9 : Nat) ∈ l := by
      have m : (9 : Nat) ∈ (l.drop i).take (i + 1 - i) := by rw [e2]; exact .head _
      exact List.mem_of_mem_drop (List.mem_of_mem_take m)
    exact h this
namespace L1
theorem exp_ok {n c d : Nat} {r : List Nat} (hc : Unicode.isSpace c = false) (hl : (List.replicate n 32 ++ c :: r).getLast? = some d) (h1 : d ≠ 10) (h2 : d ≠ 13) (h9 : (9 : Nat) ∉ c :: r) (hs : n + r.length ≤ 90000) : Γ1 1 [.str (List.replicate n 32 ++ c :: r ++ [10])] = some (.int (n : Int)) := by
  show jH Γ0 FU 1 exp.ms [.str (List.replicate n 32 ++ c :: r ++ [10])] = _
  have hz : SZ = 100000 := rfl
  generalize hL : List.replicate n 32 ++ c :: r = L at *
  have hLl : L.length = n + (r.length + 1) := by rw [← hL]; simp
  have r1 := rstrip_nl hl h1 h2
  have r2 : U (Txt.lstrip (S L)) = c :: r := by rw [← hL]; exact lstrip_sp hc
  have h9' : (9 : Nat) ∉ L := by
    rw [← hL]
    intro q
    rcases List.mem_append.mp q with q | q
    · have := List.eq_of_mem_replicate q; omega
    · exact h9 q
  unfold jH
  rw [if_pos (show [PV.str (L ++ [10])].length = 1 from rfl), exp.ms]
  have e0 : qN Γ0 FU (xD [.str (L ++ [10])]) .skip = some (.next, xD [.str (L ++ [10])]) := by simp only [qx]
  have e1 : qN Γ0 FU (xD [.str (L ++ [10])]) (.asg 0 (.meth .rstripC (.loc 0) [.k (.str [10, 13])])) = some (.next, (xD [.str (L ++ [10])]).set 0 (.val (.str L))) := masg (by
    have i0 : xD [.str (L ++ [10])] 0 = some (.val (.str (L ++ [10]))) := rfl
    have hle : (L ++ [10]).length ≤ SZ := by rw [List.length_append, hLl, hz]; show _ + 1 ≤ _; omega
    simp only [qm, qs, i0, methop, if_pos hle, r1])
  generalize hσ : (xD [.str (L ++ [10])]).set 0 (.val (.str L)) = σ at e1
  have k0 : σ 0 = some (.val (.str L)) := by rw [← hσ]; rfl
  have T : qR Γ0 σ (.cmp .notIn (.k (.str [9])) (.loc 0)) = some true := zT (x := .str [9]) (y := .str L) (by rfl) (yB k0) (by simp only [qc, no_tab h9', Bool.not_false])
  have e2 : qP Γ0 FU σ [.ret (.bin .sub (.len (.loc 0)) (.len (.meth .lstrip (.loc 0) [])))] = some (.ret (.int n), σ) := by
    rw [mone]
    have : qM Γ0 σ (.bin .sub (.len (.loc 0)) (.len (.meth .lstrip (.loc 0) []))) = some (.int n) := by
      have hle : L.length ≤ SZ := by omega
      have hle2 : (c :: r).length ≤ SZ := by rw [List.length_cons]; omega
      have q1 : methop .lstrip (.str L) [] = some (.str (c :: r)) := by simp only [methop, if_pos hle, r2]
      refine xbin (xlen (yB k0) (if_pos hle)) (xlen (xmeth (yB k0) xnil q1) (if_pos hle2)) ?_
      show some (PV.int ((L.length : Int) - ((c :: r).length : Int))) = _
      rw [hLl, List.length_cons]
      congr 2
      omega
    simp only [qx, this]
  rw [yV e0 (yV e1 rfl), ms1, mif T, if_pos rfl, e2]
end L1
end Mine
end
section
open PySem PySem.W
namespace Mine
noncomputable def GO (K : GK) (g : GS) (o : Option TK) (σ : St) : Prop := match o with
  | some t => GT K g t σ
  | none => GR K g σ
theorem GO.toR {K g o σ} (h : GO K g o σ) : GR K g σ := by
  cases o with
  | none => exact h
  | some t => exact h.toGR
noncomputable def gall (body : St → Option (List PV × Fl × St)) (bind : PV → St → Option St) : List PV → St → Option (List PV × St)
  | [], σ => some ([], σ)
  | x :: xs, σ => match bind x σ with
    | some σ₁ => match body σ₁ with
      | some (ys, .next, σ₂) => (match gall body bind xs σ₂ with | some (zs, r) => some (ys ++ zs, r) | none => none)
      | z_ => none
    | none => none
theorem gall_app {body : St → Option (List PV × Fl × St)} {bind : PV → St → Option St} : ∀ {l l' : List PV} {σ σ₁ : St} {ys zs : List PV} {r}, gall body bind l σ = some (ys, σ₁) → gall body bind l' σ₁ = some (zs, r) → gall body bind (l ++ l') σ = some (ys ++ zs, r)
  | [], l', σ, σ₁, ys, zs, r, h1, h2 => by
    simp only [gall, Option.some.injEq, Prod.mk.injEq] at h1
    obtain ⟨rfl, rfl⟩ := h1
    exact h2
  | x :: l, l', σ, σ₁, ys, zs, r, h1, h2 => by
    rw [List.cons_append]
    rw [gall] at h1 ⊢
    cases hb : bind x σ with
    | none => rw [hb] at h1; cases h1
    | some σ2 =>
      rw [hb] at h1
      dsimp only at h1 ⊢
      cases hc : body σ2 with
      | none => rw [hc] at h1; cases h1
      | some q =>
        obtain ⟨y1, fl, σ3⟩ := q
        rw [hc] at h1
        cases fl with
        | next =>
          dsimp only at h1 ⊢
          cases hd : gall body bind l σ3 with
          | none => rw [hd] at h1; cases h1
          | some q2 =>
            obtain ⟨z1, σ4⟩ := q2
            rw [hd] at h1
            dsimp only at h1
            simp only [Option.some.injEq, Prod.mk.injEq] at h1
            obtain ⟨rfl, rfl⟩ := h1
            rw [gall_app hd h2]
            simp only [List.append_assoc]
        | _ => simp at h1
theorem gall_for {body : St → Option (List PV × Fl × St)} {bind : PV → St → Option St} : ∀ {l : List PV} {σ σ₁ : St} {ys : List PV}, gall body bind l σ = some (ys, σ₁) → gfor body bind l σ = some (ys, .next, σ₁)
  | [], σ, σ₁, ys, h1 => by
    simp only [gall, Option.some.injEq, Prod.mk.injEq] at h1
    obtain ⟨rfl, rfl⟩ := h1
    rfl
  | x :: l, σ, σ₁, ys, h1 => by
    rw [gall] at h1
    rw [gfor]
    cases hb : bind x σ with
    | none => rw [hb] at h1; cases h1
    | some σ2 =>
      rw [hb] at h1
      dsimp only at h1 ⊢
      cases hc : body σ2 with
      | none => rw [hc] at h1; cases h1
      | some q =>
        obtain ⟨y1, fl, σ3⟩ := q
        rw [hc] at h1
        cases fl with
        | next =>
          dsimp only at h1 ⊢
          cases hd : gall body bind l σ3 with
          | none => rw [hd] at h1; cases h1
          | some q2 =>
            obtain ⟨z1, σ4⟩ := q2
            rw [hd] at h1
            dsimp only at h1
            simp only [Option.some.injEq, Prod.mk.injEq] at h1
            obtain ⟨rfl, rfl⟩ := h1
            rw [gall_for hd]
        | _ => simp at h1
namespace L1
noncomputable def H012 (K : GK) (g : GS) (t : TK) (ys : List PV) (g' : GS) : Prop := ∀ σ, GT K g t σ → ∃ σ', xQ Γ1 FU σ [ci.b0, ci.b1, ci.b2] = some (ys, .next, σ') ∧ GT K g' t σ'
noncomputable def H3 (K : GK) (g : GS) (t : TK) (g' : GS) : Prop := ∀ σ, GT K g t σ → ∃ σ', qT Γ1 FU σ ci.b3 = some ([], .next, σ') ∧ GT K g' t σ'
noncomputable def H4 (K : GK) (g : GS) (t : TK) (P : GS → Prop) : Prop := ∀ σ, GT K g t σ → ∃ σ' g', qT Γ1 FU σ ci.b4 = some ([], .next, σ') ∧ GT K g' t σ' ∧ P g'
noncomputable def Turn (K : GK) (g : GS) (t : TK) (ys : List PV) (P : GS → Prop) : Prop := ∀ σ, GT K g t σ → ∃ σ' g', xQ Γ1 FU σ [ci.b0, ci.b1, ci.b2, ci.b3, ci.b4, ci.b5, ci.b6] = some (ys, .next, σ') ∧ GT K g' t σ' ∧ P g'
theorem turn {K g t ys g1 g2 P} (a : H012 K g t ys g1) (b : H3 K g1 t g2) (c : H4 K g2 t P) : Turn K g t ys P := fun σ G => by
  obtain ⟨σ1, e1, G1⟩ := a σ G
  obtain ⟨σ2, e2, G2⟩ := b σ1 G1
  obtain ⟨σ3, g3, e3, G3, p⟩ := c σ2 G2
  obtain ⟨σ4, e4, G4⟩ := b5_ok G3
  have := gapp e1 (zZ e2 (zZ e3 e4))
  simp only [List.nil_append, List.append_nil] at this
  exact ⟨σ4, g3, this, G4, p⟩
theorem h_same {K g t} (hr : g.row = t.r - 1) : H012 K g t [] g := fun σ G => by
  obtain ⟨σ1, e1, G1, h28⟩ := b01_same G hr
  have := gapp e1 (gone (b2_skip G1 h28))
  exact ⟨σ1, this, G1⟩
theorem h_new {K g t ex H hd os} {n : Nat} (hr : g.row < t.r - 1) (ht : t.ty = 1 ∨ t.ty = 54) (hn : t.r - 1 = (n : Int)) (hlt : n < g.rel.length) (hsz : g.rel.length ≤ 100000) (hx : Γ1 1 [.str t.ln] = some (.int ex))
    (ho : g.opn[g.depth]? = some os) (ho1 : os ≠ []) (ho2 : os.length ≤ SZ) (ho3 : g.opn.length ≤ 100000) (hH : ∀ o ∈ os, ∃ v, yN (g.rel.set n (ex - K.lvl)) o = some v ∧ ex - K.lvl - v = H)
    (hhd : g.hangs[g.depth]? = some hd) (hdd : hd = .none ∨ ∃ k, hd = .int k) {ys : List PV} {g2 : GS}
    (N6 : ∀ σ, GT K { g with row := t.r - 1, last := .tup [.int t.r, .int t.c], rel := g.rel.set n (ex - K.lvl), vis := jU (clos t) H g.ch t.c } t σ → σ 29 = some (.val (.bool (clos t))) → σ 31 = some (.val (.int H)) → σ 32 = some (.val (.bool (if hdOf hd ≠ 0 then decide (H = hdOf hd) else decide (H = 4)))) → ∃ σ', qT Γ1 FU σ ci.n6 = some (ys, .next, σ') ∧ GT K g2 t σ') :
    H012 K g t ys g2 := fun σ G => by
  obtain ⟨σ1, e1, G1, h28⟩ := b01_new G hr ht
  obtain ⟨σ2, e2, G2⟩ := b2_ok G1 h28 hn hlt hsz hx ho ho1 ho2 ho3 hH hhd hdd N6
  have := gapp e1 (gone e2)
  exact ⟨σ2, this, G2⟩
theorem h3 {K g t p i} (hty : t.ty = 1 ∨ t.ty = 54 ∨ t.ty = 62 ∨ t.ty = 4) (hp : yN g.parens g.row = some p) (hi : g.ind[g.depth]? = some i) (hq : p = 0 ∨ t.ty = 62) (hk : t.tx ∉ kws) (ht : sOk t.tx = true) (hif : t.tx ≠ [105, 102]) (hcol : t.tx ≠ [58]) (hd1 : g.ind.length ≤ 100000) (hc : g.ch.length ≤ 100000) : H3 K g t g := fun σ G => ⟨σ, b3_ok G hty hp hi hq hk ht hif hcol hd1 hc, G⟩
theorem h4_skip {K g t} (hty : t.ty ≠ 54) : H4 K g t (· = g) := fun σ G => ⟨σ, g, b4_skip G hty, G, rfl⟩
theorem h4_other {K g t} (hty : t.ty = 54) (h1 : Txt.contains (S [40, 91, 123]) (S t.tx) = false) (h2 : Txt.contains (S [41, 93, 125]) (S t.tx) = false) (hl : g.ind.length = g.depth + 1) (hs : g.ind.length ≤ 100000) (hc : g.ch.length ≤ 100000) :
    H4 K g t (· = { g with ch := putCh g.ch t.c t.tx }) := fun σ G => by
  obtain ⟨σ', e, G'⟩ := b4_other G hty h1 h2 hl hs hc
  exact ⟨σ', _, e, G', rfl⟩
theorem h4_open {K g t l p} {n : Nat} (hty : t.ty = 54) (h1 : Txt.contains (S [40, 91, 123]) (S t.tx) = true) (hl : g.ind.length = g.depth + 1) (hs : g.ind.length < 100000) (hhs : g.hangs.length < 100000) (hc : g.ch.length ≤ 100000)
    (hos : g.opn.length < 100000) (hol : g.depth + 1 ≤ g.opn.length) (hop : (if g.opn.length = g.depth + 1 then g.opn ++ [[]] else g.opn)[g.depth + 1]? = some l) (hll : l.length ≤ 100000) (hn : g.row = (n : Int)) (hp : g.parens[n]? = some p) (hps : g.parens.length ≤ 100000) :
    H4 K g t (· = { g with depth := g.depth + 1, ind := g.ind ++ [0], hangs := g.hangs ++ [.none], opn := (if g.opn.length = g.depth + 1 then g.opn ++ [[]] else g.opn).set (g.depth + 1) (l ++ [g.row]), parens := g.parens.set n (p + 1), ch := putCh g.ch t.c t.tx }) := fun σ G => by
  obtain ⟨σ', e, G'⟩ := b4_open G hty h1 hl hs hhs hc hos hol hop hll hn hp hps
  exact ⟨σ', _, e, G', rfl⟩
theorem h4_close {K g t d iv lr lc x} {n : Nat} (hty : t.ty = 54) (h1 : Txt.contains (S [40, 91, 123]) (S t.tx) = false) (h2 : Txt.contains (S [41, 93, 125]) (S t.tx) = true) (hdep : g.depth = d + 1) (hl : g.ind.length = d + 2) (hhl : g.hangs.length = d + 2) (hs : d + 2 ≤ 50000)
    (hlast : g.last = .tup [.int lr, .int lc]) (hiv : g.ind[d + 1]? = some iv) (hx : (g.ind.dropLast.map (cutI (if iv ≠ 0 then iv else lc)))[d]? = some x) (hn : (g.ch.map (·.1)).Nodup) (hc : g.ch.length ≤ 90000) (ho : g.opn.length ≤ 100000) (hrow : g.row = (n : Int)) (hpl : n < g.parens.length) (hps : g.parens.length ≤ 100000) :
    H4 K g t (fun g' => ∃ ps : List Int, g' = { g with depth := d, ind := g.ind.dropLast.map (cutI (if iv ≠ 0 then iv else lc)), hangs := g.hangs.dropLast, opn := g.opn.take (d + 2), parens := ps, ch := putCh (if d ≠ 0 then yR (g.ch.filter fun q => decide (q.1 < if iv ≠ 0 then iv else lc)) x (.bool true) else g.ch.filter fun q => decide (q.1 < if iv ≠ 0 then iv else lc)) t.c t.tx } ∧
      ps.length = g.parens.length ∧ ∀ k : Nat, g.parens[k]? = some 0 → ps[k]? = some 0) := fun σ G => by
  obtain ⟨σ', ps, e, G', hl, hz⟩ := b4_close G hty h1 h2 hdep hl hhl hs hlast hiv hx hn hc ho hrow hpl hps
  exact ⟨σ', _, e, G', ps, rfl, hl, hz⟩
noncomputable def Run (K : GK) (g : GS) (ts : List TK) (ys : List PV) (P : GS → Prop) : Prop := ∀ σ o, GO K g o σ →
  ∃ σ' g', gall (fun σ => xQ Γ1 FU σ [ci.b0, ci.b1, ci.b2, ci.b3, ci.b4, ci.b5, ci.b6]) (xK [23, 24, 25, 26, 27]) (ts.map TK.pv) σ = some (ys, σ') ∧ GO K g' (ts.getLast?.or o) σ' ∧ P g'
theorem Run.nil {K g P} (p : P g) : Run K g [] [] P := fun σ o G => ⟨σ, g, rfl, G, p⟩
theorem bind_tok {K g σ} (t : TK) (G : GR K g σ) : ∃ σ1, xK [23, 24, 25, 26, 27] t.pv σ = some σ1 ∧ GT K g t σ1 := by
  refine ⟨_, rfl, ?_⟩
  exact ⟨⟨G.s2, G.s3, G.s5, G.s8, G.s10, G.s11, G.s12, G.s13, G.s14, G.s15, G.s16, G.s17, G.s18, G.s19, G.s20, G.s21, G.s22⟩, rfl, rfl, rfl, rfl, rfl⟩
theorem Run.one {K g t ys P} (h : Turn K g t ys P) : Run K g [t] ys P := fun σ o G => by
  obtain ⟨σ1, e1, G1⟩ := bind_tok t G.toR
  obtain ⟨σ2, g2, e2, G2, p⟩ := h σ1 G1
  refine ⟨σ2, g2, ?_, G2, p⟩
  simp only [List.map_cons, List.map_nil, gall, e1, e2, List.append_nil]
theorem Run.app {K g ts ts' ys zs P Q} (h : Run K g ts ys P) (h2 : ∀ g1, P g1 → Run K g1 ts' zs Q) : Run K g (ts ++ ts') (ys ++ zs) Q := fun σ o G => by
  obtain ⟨σ1, g1, e1, G1, p⟩ := h σ o G
  obtain ⟨σ2, g2, e2, G2, q⟩ := h2 g1 p σ1 _ G1
  refine ⟨σ2, g2, ?_, ?_, q⟩
  · rw [List.map_append]; exact gall_app e1 e2
  · have : ts'.getLast?.or (ts.getLast?.or o) = (ts ++ ts').getLast?.or o := by
      rw [List.getLast?_append]
      cases ts'.getLast? <;> rfl
    rw [← this]; exact G2
theorem Run.cons {K g t ts ys zs P Q} (h : Turn K g t ys P) (h2 : ∀ g1, P g1 → Run K g1 ts zs Q) : Run K g (t :: ts) (ys ++ zs) Q := (Run.one h).app h2
theorem Run.imp {K g ts ys P Q} (h : Run K g ts ys P) (i : ∀ g, P g → Q g) : Run K g ts ys Q := fun σ o G => by
  obtain ⟨σ', g', e, G', p⟩ := h σ o G
  exact ⟨σ', g', e, G', i _ p⟩
end L1
end Mine
end
section
open PySem PySem.W
namespace Mine
theorem getI_last {α : Type} (l : List α) (h : l ≠ []) : yN l (-1) = l.getLast? := by
  unfold yN small
  have hl : 0 < l.length := List.length_pos_iff.mpr h
  have h2 : (0 : Int) ≤ (l.length : Int) + -1 := by omega
  have h3 : ((l.length : Int) + -1).toNat = l.length - 1 := by omega
  simp only [h2, h3, if_true, List.getLast?_eq_getElem?]
  rfl
noncomputable def gen0 (n : Nat) (c : Int) (r : Int) : GS := { row := 0, depth := 0, parens := List.replicate n 0, rel := List.replicate n 0, opn := [[0]], hangs := [.none], ch := [], last := .tup [.int r, .int c], vis := .none, ind := [c] }
theorem xG (σ : St) (i : Nat) (v : SV) : (σ.set i v) i = some v := by rw [xV, if_pos rfl]
namespace L1
theorem pre_ok {lg : List Nat} {t0 tl : TK} {ts : List TK} {lvl : Int} {mh : Bool} {n : Nat} (hl : (t0 :: ts).getLast? = some tl) (hs : (t0 :: ts).length ≤ 100000) (hn : 1 + tl.r - t0.r = (n : Int)) (h1 : n ≠ 1) (hn2 : n ≤ 100000) :
    ∃ σ', xQ Γ1 FU (xD [.str lg, .lst ((t0 :: ts).map TK.pv), .int lvl, .bool mh, .str [32], .int 4, .bool false, .int 0]) ci.pre = some ([], .next, σ') ∧
      (t0.r = 1 → GR ⟨Txt.endswith (S lg) (S [58]), lvl, mh⟩ (gen0 n t0.c t0.r) σ') ∧ σ' 1 = some (.val (.lst ((t0 :: ts).map TK.pv))) := by
  generalize hσ : xD [.str lg, .lst ((t0 :: ts).map TK.pv), .int lvl, .bool mh, .str [32], .int 4, .bool false, .int 0] = σ
  have k0 : σ 0 = some (.val (.str lg)) := by rw [← hσ]; rfl
  have k1 : σ 1 = some (.val (.lst ((t0 :: ts).map TK.pv))) := by rw [← hσ]; rfl
  have k2 : σ 2 = some (.val (.int lvl)) := by rw [← hσ]; rfl
  have k3 : σ 3 = some (.val (.bool mh)) := by rw [← hσ]; rfl
  have k4 : σ 4 = some (.val (.str [32])) := by rw [← hσ]; rfl
  have k5 : σ 5 = some (.val (.int 4)) := by rw [← hσ]; rfl
  have k6 : σ 6 = some (.val (.bool false)) := by rw [← hσ]; rfl
  have g0 : yN ((t0 :: ts).map TK.pv) 0 = some t0.pv := rfl
  have g1 : yN ((t0 :: ts).map TK.pv) (-1) = some tl.pv := by rw [xS, getI_last _ (by simp), hl]; rfl
  generalize (t0 :: ts).map TK.pv = L at *
  have p2 : ∀ t : TK, yN [.int t.ty, .str t.tx, .tup [.int t.r, .int t.c], .tup [.int t.r, .int t.e], .str t.ln] 2 = some (PV.tup [.int t.r, .int t.c]) := fun t => rfl
  have hsm : small (n : Int) = true := by unfold small; simp; omega
  have hn1 : decide ((n : Int) = 1) = false := decide_eq_false (by omega)
  have e9 : zR .eq (.int (n : Int)) (.int 1) = some false := (yQ _ _).trans (congrArg some hn1)
  have e13 : zR .ne (.str [32]) (.str [9]) = some true := by decide +kernel
  have rep : yP .mul (.lst [.int 0]) (.int (n : Int)) = some (.lst (List.replicate n (.int 0))) := by
    show (if (small (n : Int) && true) = true then some (PV.lst (List.replicate (n : Int).toNat (.int 0))) else none) = _
    rw [hsm, Int.toNat_natCast]; rfl
  refine ⟨_, show Y0 Γ1 FU σ ci.pre _ from .step rfl (.step (zasg (v := .int t0.r) (xidx (xidx (xidx (yB k1) xk g0) xk rfl) xk rfl))
    (.step (zasg (v := .int n) (xbin (xbin xk (xidx (xidx (xidx (yB k1) (xneg xk) g1) xk rfl) xk rfl) rfl) (yB rfl) (congrArg (fun x => some (PV.int x)) hn)))
    (.ifs (v := false) (or2 (tvb (yB k6) rfl) (tvb (xcmp (yB rfl) xk e9) rfl) rfl) (fun e => nomatch e) (fun _ => .nil)
    (.step (zasg (v := .bool (Txt.endswith (S lg) (S [58]))) (xmeth (yB k0) (xone xk) rfl)) (.step (zasg2 xk)
    (.step (zasg (v := .tup [.int 4]) (xite (v := true) (tvb (xcmp (yB k4) xk e13) rfl) (fun _ => xtup (xone (yB k5)) rfl) (fun e => nomatch e)))
    (.step (zasgL (xbin (xlst (xone xk) rfl) (yB rfl) rep)) (.step (zasgL (xbin (xlst (xone xk) rfl) (yB rfl) rep))
    (.step rfl (.step (zasgL (xlst (xone xk) rfl)) (.step rfl (.step (zasg (v := .tup [.int t0.r, .int t0.c]) (xidx (xidx (yB k1) xk g0) xk rfl))
    (.step (zasg xk) (.step (zasg xk) (.step (zasgL (l := [.int t0.c]) (xlst (xone (xidx (yB rfl) xk rfl)) rfl)) .nil rfl) rfl) rfl) rfl) rfl) rfl) rfl) rfl) rfl) rfl) rfl) rfl)) rfl) rfl) rfl, fun hr => ?_, k1⟩
  constructor <;> first | rfl | exact k2 | exact k3 | exact k5 | (simp only [xV, reduceIte, Nat.reduceEqDiff, hr]; done) | (simp only [gen0, List.map_replicate, List.map_cons, List.map_nil, xV, k2, k3, k5, reduceIte, Nat.reduceEqDiff]; first | done | rfl)
theorem fin_ok {K g t σ} (G : GT K g t σ) (hlg : K.lg = false) : qT Γ1 FU σ ci.fin = some ([], .next, σ) := gifF (tandF (hlg ▸ tlocb G.s10)) gskip
theorem ci_ok {lg : List Nat} {t0 tl : TK} {ts : List TK} {lvl : Int} {mh : Bool} {n : Nat} {ys : List PV} {P : GS → Prop} (hl : (t0 :: ts).getLast? = some tl) (hs : (t0 :: ts).length ≤ 100000) (hn : 1 + tl.r - t0.r = (n : Int)) (h1 : n ≠ 1) (hn2 : n ≤ 100000) (ht0 : t0.r = 1) (hlg : Txt.endswith (S lg) (S [58]) = false)
    (R : Run ⟨false, lvl, mh⟩ (gen0 n t0.c t0.r) (t0 :: ts) ys P) :
    ∃ σ', xQ Γ1 FU (xD [.str lg, .lst ((t0 :: ts).map TK.pv), .int lvl, .bool mh, .str [32], .int 4, .bool false, .int 0]) ci.ms = some (ys, .next, σ') := by
  obtain ⟨σ1, e1, G1, k1⟩ := pre_ok (lg := lg) (lvl := lvl) (mh := mh) hl hs hn h1 hn2
  rw [hlg] at G1
  obtain ⟨σ2, g, e2, G2, p⟩ := R σ1 none (G1 ht0)
  rw [hl] at G2
  have e3 := fin_ok G2 rfl
  refine ⟨σ2, ?_⟩
  rw [ci.ms_eq]
  have e2' : qT Γ1 FU σ1 (.forL [23, 24, 25, 26, 27] (.loc 1) [ci.b0, ci.b1, ci.b2, ci.b3, ci.b4, ci.b5, ci.b6]) = some (ys, .next, σ2) := by
    have : itemsL Γ1 σ1 (.loc 1) = some ((t0 :: ts).map TK.pv) := by
      simp only [itemsL, qm, k1]
      rw [if_pos (by rw [List.length_map]; exact hs)]
    rw [gg_forL, this]
    exact gall_for e2
  have := gapp e1 (zZ e2' (gone e3))
  simpa only [List.nil_append, List.append_nil] using this
end L1
end Mine
end
set_option tactic.hygienic true
section
open PySem PySem.W
namespace Mine
theorem lookup_map_set {d : List (Int × PV)} {k : Int} {v : PV} {x : Int} : (d.map fun q => if q.1 = k then (q.1, v) else q).lookup x = if x = k then (if d.any (fun q => q.1 = k) then some v else none) else d.lookup x := by
  induction d with
  | nil => simp
  | cons q d ih =>
    obtain ⟨a, b⟩ := q
    rw [List.map_cons]
    by_cases hak : a = k
    · subst hak
      simp only [if_true, List.lookup_cons, List.any_cons, decide_true, Bool.true_or, ih]
      by_cases hx : x = a
      · subst hx; simp
      · rw [beq_false_of_ne hx]; simp [hx]
    · simp only [hak, if_false, List.lookup_cons, List.any_cons, decide_false, Bool.false_or]
      by_cases hx : x = a
      · subst hx; simp [hak]
      · rw [beq_false_of_ne hx]; exact ih
theorem lookup_none {d : List (Int × PV)} {x : Int} (h : ¬ d.any (fun q => q.1 = x) = true) : d.lookup x = none := by
  cases e : d.lookup x with
  | none => rfl
  | some v =>
    exfalso; apply h
    have : (d.lookup x).isSome = true := by rw [e]; rfl
    clear h e
    induction d with
    | nil => cases this
    | cons q d ih =>
      obtain ⟨a, b⟩ := q
      rw [List.lookup_cons] at this
      rw [List.any_cons]
      by_cases hx : x = a
      · subst hx; simp
      · rw [beq_false_of_ne hx] at this
        rw [ih this, Bool.or_true]
theorem lookup_stored (d : List (Int × PV)) (k : Int) (v : PV) (x : Int) : (yR d k v).lookup x = if x = k then some v else d.lookup x := by
  unfold yR
  split
  · rename_i h
    rw [lookup_map_set]
    by_cases hx : x = k
    · rw [if_pos hx, if_pos hx, if_pos h]
    · rw [if_neg hx, if_neg hx]
  · rename_i h
    rw [List.lookup_append]
    by_cases hx : x = k
    · subst hx; rw [if_pos rfl, lookup_none h]; simp
    · rw [if_neg hx, List.lookup_cons, beq_false_of_ne hx]; simp
theorem stored_keys {d : List (Int × PV)} {k : Int} {v : PV} (h : (d.map (·.1)).Nodup) : ((yR d k v).map (·.1)).Nodup := by
  unfold yR
  split
  · rw [List.map_map]
    have : ((fun q : Int × PV => q.1) ∘ fun q => if q.1 = k then (q.1, v) else q) = fun q => q.1 := by
      funext q; dsimp; split <;> rfl
    rw [this]; exact h
  · rename_i hn
    rw [List.map_append]
    refine List.nodup_append.mpr ⟨h, by simp, ?_⟩
    intro a ha b hb e
    simp at hb
    subst hb; subst e
    obtain ⟨q, hq, e⟩ := List.mem_map.mp ha
    apply hn
    rw [List.any_eq_true]
    exact ⟨q, hq, by simp [e]⟩
theorem stored_vis {d : List (Int × PV)} {k : Int} {v : PV} (h : ∀ p ∈ d, visOK p.2 = true) (hv : visOK v = true) : ∀ p ∈ yR d k v, visOK p.2 = true := by
  unfold yR
  intro p hp
  split at hp
  · obtain ⟨q, hq, e⟩ := List.mem_map.mp hp
    split at e
    · rw [← e]; exact hv
    · rw [← e]; exact h q hq
  · rcases List.mem_append.mp hp with hp | hp
    · exact h p hp
    · simp at hp; rw [hp]; exact hv
end Mine
end
set_option tactic.hygienic false
section
open PySem PySem.W
namespace Mine
theorem kws_ne {tx : List Nat} (h : tx.length ≤ 3) : tx ∉ kws := by
  intro q
  simp only [kws, List.mem_cons, List.not_mem_nil, or_false] at q
  rcases q with rfl | rfl | rfl <;> simp at h
noncomputable def sgn (s : List Nat) : Prop := s = [40] ∨ s = [41] ∨ s = [44]
theorem sgn.vis {s} (h : sgn s) : visOK (.str s) = true ∧ isT (.str s) = false ∧ inTx (.str s) [98] = false ∧ inTx (.str s) [107] = false := by
  rcases h with rfl | rfl | rfl <;> decide
structure ChJ (b : Nat) (ch : List (Int × PV)) : Prop where
  nd : (ch.map (·.1)).Nodup
  ok : ∀ p ∈ ch, visOK p.2 = true
  len : ch.length ≤ b
  v : ∀ c, c ≠ 0 → ch.lookup c = none ∨ ∃ s, sgn s ∧ ch.lookup c = some (.str s)
theorem ChJ.empty : ChJ 0 [] := ⟨by simp, by simp, by simp, fun _ _ => .inl rfl⟩
theorem ChJ.mono {b b' ch} (h : ChJ b ch) (e : b ≤ b') : ChJ b' ch := ⟨h.nd, h.ok, Nat.le_trans h.len e, h.v⟩
theorem ChJ.put {b ch} (h : ChJ b ch) (k : Int) {s : List Nat} (hs : sgn s) : ChJ (b + 1) (putCh ch k s) := by
  unfold putCh
  split
  · exact h.mono (Nat.le_succ _)
  · refine ⟨stored_keys h.nd, stored_vis h.ok hs.vis.1, Nat.le_trans stored_len (Nat.succ_le_succ h.len), fun c hc => ?_⟩
    rw [lookup_stored]
    split
    · exact .inr ⟨s, hs, rfl⟩
    · exact h.v c hc
theorem ChJ.zero {b ch} (h : ChJ b ch) : ChJ (b + 1) (yR ch 0 (.bool true)) :=
  ⟨stored_keys h.nd, stored_vis h.ok rfl, Nat.le_trans stored_len (Nat.succ_le_succ h.len), fun c hc => by rw [lookup_stored, if_neg hc]; exact h.v c hc⟩
theorem lookup_filter {d : List (Int × PV)} {P : Int → Bool} {c : Int} : (d.filter fun q => P q.1).lookup c = if P c then d.lookup c else none := by
  induction d with
  | nil => simp
  | cons q d ih =>
    obtain ⟨a, b⟩ := q
    rw [List.filter_cons]
    by_cases hc : c = a
    · subst hc
      cases hp : P c with
      | true => simp [hp]
      | false => simp only [hp, Bool.false_eq_true, if_false] at ih ⊢; exact ih
    · cases hp : P a with
      | true => simp only [if_true, List.lookup_cons, beq_false_of_ne hc]; exact ih
      | false => simp only [Bool.false_eq_true, if_false, List.lookup_cons, beq_false_of_ne hc]; exact ih
theorem ChJ.cut {b ch} (h : ChJ b ch) (k : Int) : ChJ b (ch.filter fun q => decide (q.1 < k)) :=
  ⟨h.nd.sublist (List.Sublist.map _ List.filter_sublist), fun p hp => h.ok p (List.mem_filter.mp hp).1, Nat.le_trans (List.length_filter_le _ _) h.len, fun c hc => by
    rw [lookup_filter (P := fun x => decide (x < k))]
    split
    · exact h.v c hc
    · exact .inl rfl⟩
theorem ChJ.vis {b ch} (h : ChJ b ch) {H c : Int} (hc : H > 0 → c ≠ 0) : visOK (jU false H ch c) = true ∧ isT (jU false H ch c) = false ∧ inTx (jU false H ch c) [98] = false ∧ inTx (jU false H ch c) [107] = false := by
  refine ⟨visOf_ok h.ok, ?_⟩
  unfold jU
  rw [if_neg (by decide)]
  by_cases hH : H > 0
  · rw [if_pos hH]
    rcases h.v c (hc hH) with e | ⟨s, hs, e⟩ <;> rw [e]
    · exact ⟨rfl, rfl, rfl⟩
    · exact hs.vis.2
  · rw [if_neg hH]; exact ⟨rfl, rfl, rfl⟩
namespace L1
structure RI (m n b k q d : Nat) (f : Bool) (g : GS) : Prop where
  row : g.row = (k : Int)
  dep : g.depth = d
  pl : g.parens.length = n
  pz : ∀ j : Nat, q ≤ j → j < n → g.parens[j]? = some 0
  rl : g.rel.length = n
  ol : d + 1 ≤ g.opn.length
  oL : g.opn.length ≤ d + 2
  op : ∀ (j : Nat) (os : List Int), g.opn[j]? = some os → os.length ≤ b + 1 ∧ (1 ≤ j → ∀ o ∈ os, ∃ r : Nat, o = (r : Int) ∧ r ≤ k ∧ g.rel[r]? = some (4 * ((j : Int) - 1)))
  on : ∀ (j : Nat) (os : List Int), 1 ≤ j → j ≤ d → g.opn[j]? = some os → os ≠ []
  hl : g.hangs.length = d + 1
  hd : 1 ≤ d → g.hangs[d]? = some (if f then .none else .int 4)
  hp : ∀ j : Nat, 1 ≤ j → j < d → g.hangs[j]? = some (.int 4)
  ind : g.ind = (m : Int) :: List.replicate d 0
  ch : ChJ b g.ch
  vok : visOK g.vis = true
section
variable {m n b k q d : Nat} {f mh : Bool} {g : GS} {K : GK} {t : TK}
theorem RI.os (R : RI m n b k q d f g) : ∃ os, g.opn[g.depth]? = some os ∧ os.length ≤ b + 1 := by
  have h : g.depth < g.opn.length := by rw [R.dep]; exact R.ol
  exact ⟨_, List.getElem?_eq_getElem h, (R.op _ _ (List.getElem?_eq_getElem h)).1⟩
theorem RI.i (R : RI m n b k q d f g) : g.ind[g.depth]? = some (if d = 0 then (m : Int) else 0) := by
  rw [R.ind, R.dep]
  cases d with
  | zero => rfl
  | succ d => rw [List.getElem?_cons_succ, List.getElem?_replicate, if_pos (Nat.lt_succ_self d), if_neg (Nat.succ_ne_zero d)]
theorem RI.il (R : RI m n b k q d f g) : g.ind.length = d + 1 := by rw [R.ind]; simp
theorem RI.h3 (R : RI m n b k q d f g) (hk : k < n) (hn : n ≤ 1000) (hb : b ≤ 1000) (hd : d ≤ 1000) (h0 : t.ty = 62 ∨ q ≤ k) (hty : t.ty = 1 ∨ t.ty = 54 ∨ t.ty = 62 ∨ t.ty = 4) (ht : sOk t.tx = true) (hl : t.tx.length ≤ 1) (h58 : t.tx ≠ [58]) (hln : t.ln.length ≤ 100000) : H3 K g t g := by
  have hkl : k < g.parens.length := by rw [R.pl]; exact hk
  have hcl := R.ch.len
  exact L1.h3 (K := K) (g := g) (t := t) (p := g.parens[k]) hty (by rw [R.row, xT (by omega)]; exact List.getElem?_eq_getElem hkl) R.i (by
    rcases h0 with h0 | h0
    · exact .inr h0
    · have := R.pz k h0 hk
      rw [List.getElem?_eq_getElem hkl] at this
      exact .inl (Option.some.inj this)) (kws_ne (by omega)) ht (by intro e; rw [e] at hl; simp at hl) h58 (by rw [R.il]; omega) (by omega)
theorem RI.nl (R : RI m n b k q d f g) (hk : k < n) (hn : n ≤ 1000) (hb : b ≤ 1000) (hd : d ≤ 1000) (hr : t.r = (k : Int) + 1) (hty : t.ty = 62 ∨ t.ty = 4 ∧ q ≤ k) (htx : t.tx = [10]) (hln : t.ln.length ≤ 100000) : Turn K g t [] (RI m n b k q d f) :=
  turn (h_same (by rw [R.row, hr]; omega)) (R.h3 hk hn hb hd (hty.imp id (·.2)) (hty.elim (fun e => .inr (.inr (.inl e))) fun e => .inr (.inr (.inr e.1))) (by rw [htx]; rfl) (by rw [htx]; decide) (by rw [htx]; decide) hln) fun σ G => by
    obtain ⟨σ', g', e, G', rfl⟩ := h4_skip (K := K) (g := g) (t := t) (by rcases hty with e | ⟨e, _⟩ <;> rw [e] <;> decide) σ G
    exact ⟨σ', _, e, G', R⟩
theorem RI.comma (R : RI m n b k k d f g) (hk : k < n) (hn : n ≤ 1000) (hb : b ≤ 1000) (hd : d ≤ 1000) (hr : t.r = (k : Int) + 1) (hty : t.ty = 54) (htx : t.tx = [44]) (hln : t.ln.length ≤ 100000) : Turn K g t [] (RI m n (b + 1) k k d f) :=
  turn (h_same (by rw [R.row, hr]; omega)) (R.h3 hk hn hb hd (.inr (Nat.le_refl k)) (.inr (.inl hty)) (by rw [htx]; rfl) (by rw [htx]; decide) (by rw [htx]; decide) hln) fun σ G => by
    have hcl := R.ch.len
    obtain ⟨σ', g', e, G', rfl⟩ := h4_other (K := K) (g := g) (t := t) hty (by rw [htx]; decide +kernel) (by rw [htx]; decide +kernel) (by rw [R.il, R.dep]) (by rw [R.il]; omega) (by omega) σ G
    exact ⟨σ', _, e, G', ⟨R.row, R.dep, R.pl, R.pz, R.rl, R.ol, R.oL, fun j os h => ⟨Nat.le_succ_of_le (R.op j os h).1, (R.op j os h).2⟩, R.on, R.hl, R.hd, R.hp, R.ind, R.ch.put t.c (.inr (.inr htx)), R.vok⟩⟩
theorem RI.opens (R : RI m n b k k d f g) (hk : k < n) (hn : n ≤ 1000) (hb : b ≤ 1000) (hd : d ≤ 1000) (hf : 1 ≤ d → f = false) (hrel : g.rel[k]? = some (4 * (d : Int))) (hr : t.r = (k : Int) + 1) (hty : t.ty = 54) (htx : t.tx = [40]) (hln : t.ln.length ≤ 100000) : Turn K g t [] (RI m n (b + 1) k (k + 1) (d + 1) true) :=
  turn (h_same (by rw [R.row, hr]; omega)) (R.h3 hk hn hb hd (.inr (Nat.le_refl k)) (.inr (.inl hty)) (by rw [htx]; rfl) (by rw [htx]; decide) (by rw [htx]; decide) hln) fun σ G => by
    have hcl := R.ch.len
    have hoL := R.oL
    have hol := R.ol
    obtain ⟨l, hop, hll, hlr⟩ : ∃ l, (if g.opn.length = g.depth + 1 then g.opn ++ [[]] else g.opn)[g.depth + 1]? = some l ∧ l.length ≤ b + 1 ∧ ∀ o ∈ l, ∃ r : Nat, o = (r : Int) ∧ r ≤ k ∧ g.rel[r]? = some (4 * (d : Int)) := by
      rw [R.dep]
      by_cases e : g.opn.length = d + 1
      · rw [if_pos e]
        exact ⟨[], by rw [List.getElem?_append_right (by omega), e, Nat.sub_self]; rfl, Nat.zero_le _, nofun⟩
      · rw [if_neg e]
        have hlt : d + 1 < g.opn.length := by omega
        obtain ⟨q1, q2⟩ := R.op _ _ (List.getElem?_eq_getElem hlt)
        refine ⟨_, List.getElem?_eq_getElem hlt, q1, fun o ho => ?_⟩
        obtain ⟨r, e1, e2, e3⟩ := q2 (by omega) o ho
        exact ⟨r, e1, e2, by rw [e3]; congr 1; omega⟩
    obtain ⟨σ', g', e, G', rfl⟩ := h4_open (K := K) (g := g) (t := t) (l := l) (p := 0) (n := k) hty (by rw [htx]; decide +kernel) (by rw [R.il, R.dep]) (by rw [R.il]; omega) (by rw [R.hl]; omega) (by omega) (by omega) (by rw [R.dep]; exact hol) hop (by omega) R.row (R.pz k (Nat.le_refl k) hk) (by rw [R.pl]; omega) σ G
    have o1 : ∀ (o1 : List (List Int)), o1 = (if g.opn.length = g.depth + 1 then g.opn ++ [[]] else g.opn) → o1.length = d + 2 ∧ ∀ j, j ≠ d + 1 → o1[j]? = g.opn[j]? := by
      rintro _ rfl
      rw [R.dep]
      by_cases e : g.opn.length = d + 1
      · rw [if_pos e]
        refine ⟨by simp [e], fun j hj => ?_⟩
        by_cases hjl : j < g.opn.length
        · rw [List.getElem?_append_left hjl]
        · rw [List.getElem?_eq_none (by simp; omega), List.getElem?_eq_none (by omega)]
      · rw [if_neg e]
        exact ⟨by omega, fun _ _ => rfl⟩
    generalize ho1 : (if g.opn.length = g.depth + 1 then g.opn ++ [[]] else g.opn) = oo at *
    obtain ⟨ol1, ol2⟩ := o1 _ rfl
    have hset : ∀ j os, (oo.set (g.depth + 1) (l ++ [g.row]))[j]? = some os → (j = d + 1 ∧ os = l ++ [(k : Int)]) ∨ (j ≠ d + 1 ∧ g.opn[j]? = some os) := fun j os h => by
      rw [R.dep, R.row, List.getElem?_set] at h
      by_cases e : d + 1 = j
      · rw [if_pos e, if_pos (by omega)] at h
        exact .inl ⟨e.symm, (Option.some.inj h).symm⟩
      · rw [if_neg e, ol2 j (fun q => e q.symm)] at h
        exact .inr ⟨fun q => e q.symm, h⟩
    refine ⟨σ', _, e, G', ⟨R.row, by show g.depth + 1 = d + 1; rw [R.dep], ?_, ?_, R.rl, ?_, ?_, ?_, ?_, ?_, ?_, ?_, ?_, R.ch.put t.c (.inl htx), R.vok⟩⟩
    · show (g.parens.set _ _).length = n
      rw [List.length_set]; exact R.pl
    · intro j h1 h2
      show (g.parens.set k _)[j]? = _
      rw [List.getElem?_set, if_neg (by omega)]
      exact R.pz j (by omega) h2
    · show d + 1 + 1 ≤ (oo.set _ _).length
      rw [List.length_set]; omega
    · show (oo.set _ _).length ≤ d + 1 + 2
      rw [List.length_set]; omega
    · intro j os h
      rcases hset j os h with ⟨rfl, rfl⟩ | ⟨hj, h⟩
      · refine ⟨by simp; omega, fun _ o ho => ?_⟩
        have e4 : (4 : Int) * (((d + 1 : Nat) : Int) - 1) = 4 * (d : Int) := by omega
        rw [e4]
        rcases List.mem_append.mp ho with ho | ho
        · exact hlr o ho
        · simp at ho; subst ho
          exact ⟨k, rfl, Nat.le_refl k, hrel⟩
      · exact ⟨Nat.le_succ_of_le (R.op j os h).1, (R.op j os h).2⟩
    · intro j os h1 h2 h
      rcases hset j os h with ⟨rfl, rfl⟩ | ⟨hj, h⟩
      · simp
      · exact R.on j os h1 (by omega) h
    · show (g.hangs ++ [PV.none]).length = _
      rw [List.length_append, R.hl]; rfl
    · intro _
      show (g.hangs ++ [PV.none])[d + 1]? = _
      rw [List.getElem?_append_right (by rw [R.hl]; exact Nat.le_refl _), R.hl, Nat.sub_self]; rfl
    · intro j h1 h2
      show (g.hangs ++ [PV.none])[j]? = _
      rw [List.getElem?_append_left (by rw [R.hl]; omega)]
      by_cases e : j = d
      · subst e
        have := R.hd h1
        rw [hf h1] at this; exact this
      · exact R.hp j h1 (by omega)
    · show g.ind ++ [0] = _
      rw [R.ind, List.cons_append, List.replicate_succ']
end
end L1
end Mine
end
section
open PySem PySem.W
namespace Mine
noncomputable def mvT (m d c : Nat) : List Nat := if (c : Int) - m - 4 * ((d : Int) - 1) ≤ 0 then msg [69, 49, 50, 50] wE122 else msg [69, 49, 51, 49] wE131
namespace L1
section
variable {m n b k q d : Nat} {f mh : Bool} {g : GS} {K : GK} {t : TK}
theorem RI.step (R : RI m n b k q d f g) (hq : q ≤ k + 1) (h1 : 1 ≤ d) {f' : Bool} {hh : PV} (eh : hh = if f' then .none else .int 4) {r v : Int} {la vv : PV} (hr : r = ((k + 1 : Nat) : Int)) (hv : visOK vv = true) :
    RI m n b (k + 1) (k + 1) d f' { g with row := r, last := la, rel := g.rel.set (k + 1) v, vis := vv, hangs := g.hangs.set g.depth hh, ind := g.ind.set g.depth 0 } := by
  refine ⟨hr, R.dep, R.pl, fun j h2 h3 => R.pz j (by omega) h3, ?_, R.ol, R.oL, fun j os h => ⟨(R.op j os h).1, fun hj o ho => ?_⟩, R.on, ?_, fun _ => ?_, fun j h2 h3 => ?_, ?_, R.ch, hv⟩
  · show (g.rel.set _ _).length = n
    rw [List.length_set]; exact R.rl
  · obtain ⟨r, e1, e2, e3⟩ := (R.op j os h).2 hj o ho
    refine ⟨r, e1, by omega, ?_⟩
    show (g.rel.set _ _)[r]? = _
    rw [List.getElem?_set, if_neg (by omega)]; exact e3
  · show (g.hangs.set _ _).length = _
    rw [List.length_set]; exact R.hl
  · show (g.hangs.set g.depth hh)[d]? = _
    rw [R.dep, List.getElem?_set_self (by rw [R.hl]; omega), eh]
  · show (g.hangs.set g.depth hh)[j]? = _
    rw [R.dep, List.getElem?_set, if_neg (by omega)]; exact R.hp j h2 h3
  · show g.ind.set g.depth 0 = _
    rw [set_self (by have := R.i; rwa [if_neg (by omega)] at this)]; exact R.ind
theorem RI.hH (R : RI m n b k q d f g) (h1 : 1 ≤ d) (hn : n ≤ 1000) (hk : k + 1 < n) {os : List Int} (ho : g.opn[g.depth]? = some os) (v : Int) : ∀ o ∈ os, ∃ u, yN (g.rel.set (k + 1) v) o = some u ∧ v - u = v - 4 * ((d : Int) - 1) := fun o h => by
  rw [R.dep] at ho
  obtain ⟨r, e1, e2, e3⟩ := (R.op d os ho).2 h1 o h
  refine ⟨_, ?_, rfl⟩
  rw [e1, xT (by omega), List.getElem?_set, if_neg (by omega)]; exact e3
theorem RI.hdq (R : RI m n b k q d f g) (h1 : 1 ≤ d) : g.hangs[g.depth]? = some (if f then .none else .int 4) := by rw [R.dep]; exact R.hd h1
theorem RI.name (R : RI m n b k q d f g) (hq : q ≤ k + 1) (hk : k + 1 < n) (hn : n ≤ 1000) (hb : b ≤ 1000) (hd : d ≤ 1000) (h1 : 1 ≤ d) {c : Nat} (hc : c ≤ 1000) (hok : c = m + 4 * d ∨ f = false) (hr : t.r = (k : Int) + 2) (hty : t.ty = 1) (htx : t.tx = [98] ∨ t.tx = [107]) (htc : t.c = (c : Int)) (hln : t.ln.length ≤ 100000) (hx : Γ1 1 [.str t.ln] = some (.int (c : Int))) :
    Turn ⟨false, m, mh⟩ g t (yOf t (if c = m + 4 * d then none else some (mvT m d c))) (fun g' => RI m n b (k + 1) (k + 1) d false g' ∧ g'.rel[k + 1]? = some ((c : Int) - m)) := by
  obtain ⟨os, ho, hol⟩ := R.os
  have hcl : clos t = false := by unfold clos; rw [hty]; rfl
  have hoL := R.oL
  have hrn : t.r - 1 = ((k + 1 : Nat) : Int) := by omega
  have hi := R.i
  rw [if_neg (by omega)] at hi
  obtain ⟨v1, v2, v3, v4⟩ := R.ch.vis (H := (c : Int) - m - 4 * ((d : Int) - 1)) (c := t.c) (by omega)
  have v3' : inTx (jU false ((c : Int) - m - 4 * ((d : Int) - 1)) g.ch t.c) t.tx = false := by rcases htx with e | e <;> rw [e] <;> assumption
  have hdd : (if f then PV.none else PV.int 4) = .none ∨ ∃ k, (if f then PV.none else PV.int 4) = .int k := by cases f <;> simp
  have h := h_new (K := ⟨false, m, mh⟩) (g := g) (t := t) (ex := (c : Int)) (H := (c : Int) - m - 4 * ((d : Int) - 1)) (hd := if f then .none else .int 4) (os := os) (n := k + 1) (by rw [R.row]; omega) (.inl hty) hrn (by rw [R.rl]; exact hk) (by rw [R.rl]; omega) hx ho
    (R.on d os h1 (Nat.le_refl d) (R.dep ▸ ho)) (Nat.le_trans hol (Nat.le_trans (Nat.succ_le_succ hb) (by decide))) (by omega) (R.hH h1 hn hk ho _) (R.hdq h1) hdd (ys := yOf t (if c = m + 4 * d then none else some (mvT m d c)))
    (g2 := { g with row := t.r - 1, last := .tup [.int t.r, .int t.c], rel := g.rel.set (k + 1) ((c : Int) - m), vis := jU false ((c : Int) - m - 4 * ((d : Int) - 1)) g.ch t.c, hangs := g.hangs.set g.depth (.int 4), ind := g.ind.set g.depth 0 }) fun σ G k29 k31 k32 => by
      rw [hcl] at G k29
      rw [set_self hi]
      have hgl : g.depth < g.hangs.length := by rw [R.dep, R.hl]; exact Nat.lt_succ_self d
      by_cases e : c = m + 4 * d
      · have e4 : (c : Int) - m - 4 * ((d : Int) - 1) = 4 := by omega
        rw [e4] at G k31 k32 ⊢
        rw [if_pos e]
        exact n6_a G k29 k31 (k32.trans (by cases f <;> rfl)) hi (by rw [R.il]; omega) hgl (by rw [R.hl]; omega)
      · have hf : f = false := hok.resolve_left e
        have hdq := R.hdq h1
        rw [hf, if_neg Bool.false_ne_true] at hdq k32
        rw [if_neg e, set_self hdq]
        exact n6_c G rfl k29 k31 (k32.trans (by
          rw [if_pos (show hdOf (.int 4) ≠ 0 by decide)]
          rw [decide_eq_false (show ¬ ((c : Int) - m - 4 * ((d : Int) - 1) = hdOf (.int 4)) from fun q => e (by have : (c : Int) - m - 4 * ((d : Int) - 1) = 4 := q; omega))])) hi (by rw [R.il]; omega) hdq (by decide) (by rw [R.hl]; omega) v1 v2 v3' (by rcases htx with e | e <;> rw [e] <;> rfl)
  have R' := R.step hq h1 (f' := false) (hh := .int 4) (la := .tup [.int t.r, .int t.c]) (v := (c : Int) - m) rfl hrn v1
  refine turn h (R'.h3 hk hn hb hd (.inr (Nat.le_refl _)) (.inl hty) (by rcases htx with e | e <;> rw [e] <;> rfl) (by rcases htx with e | e <;> rw [e] <;> decide) (by rcases htx with e | e <;> rw [e] <;> decide) hln) fun σ G => ?_
  obtain ⟨σ', g', e, G', rfl⟩ := h4_skip (t := t) (by rw [hty]; decide) σ G
  refine ⟨σ', _, e, G', R', ?_⟩
  show (g.rel.set (k + 1) _)[k + 1]? = _
  rw [List.getElem?_set_self (by rw [R.rl]; exact hk)]
theorem RI.close (R : RI m n b k q (d + 1) f g) (hq : q ≤ k + 1) (hk : k + 1 < n) (hn : n ≤ 1000) (hb : b ≤ 1000) (hd : d ≤ 900) {c : Nat} (hc : c = m + 4 * d) (hr : t.r = (k : Int) + 2) (hty : t.ty = 54) (htx : t.tx = [41]) (htc : t.c = (c : Int)) (hln : t.ln.length ≤ 100000) (hx : Γ1 1 [.str t.ln] = some (.int (c : Int))) :
    Turn ⟨false, m, mh⟩ g t (yOf t (if mh then some mE133 else none)) (RI m n (b + 2) (k + 1) (k + 1) d false) := by
  obtain ⟨os, ho, hol⟩ := R.os
  have hcl : clos t = true := by unfold clos; rw [hty, htx]; decide +kernel
  have hoL := R.oL
  have hrn : t.r - 1 = ((k + 1 : Nat) : Int) := by omega
  have hi := R.i
  rw [if_neg (by omega)] at hi
  have hdd : (if f then PV.none else PV.int 4) = .none ∨ ∃ k, (if f then PV.none else PV.int 4) = .int k := by cases f <;> simp
  have e0 : (c : Int) - m - 4 * (((d + 1 : Nat) : Int) - 1) = 0 := by omega
  have h := h_new (K := ⟨false, m, mh⟩) (g := g) (t := t) (ex := (c : Int)) (H := (c : Int) - m - 4 * (((d + 1 : Nat) : Int) - 1)) (hd := if f then .none else .int 4) (os := os) (n := k + 1) (by rw [R.row]; omega) (.inr hty) hrn (by rw [R.rl]; exact hk) (by rw [R.rl]; omega) hx ho
    (R.on (d + 1) os (by omega) (Nat.le_refl _) (R.dep ▸ ho)) (Nat.le_trans hol (Nat.le_trans (Nat.succ_le_succ hb) (by decide))) (by omega) (R.hH (by omega) hn hk ho _) (R.hdq (by omega)) hdd (ys := yOf t (if mh then some mE133 else none))
    (g2 := { g with row := t.r - 1, last := .tup [.int t.r, .int t.c], rel := g.rel.set (k + 1) ((c : Int) - m), vis := jU true 0 g.ch t.c, hangs := g.hangs.set g.depth (if f then .none else .int 4), ind := g.ind.set g.depth 0 }) fun σ G k29 k31 k32 => by
      rw [hcl] at G k29
      rw [e0] at G k31
      rw [set_self hi, set_self (R.hdq (by omega))]
      exact ⟨σ, n6_b G k29 k31 hi (by rw [R.il]; omega), G⟩
  have R' := R.step hq (by omega) (f' := f) (hh := if f then .none else .int 4) (la := .tup [.int t.r, .int t.c]) (v := (c : Int) - m) (vv := jU true 0 g.ch t.c) rfl hrn rfl
  refine turn h (R'.h3 hk hn hb (by omega) (.inr (Nat.le_refl _)) (.inr (.inl hty)) (by rw [htx]; rfl) (by rw [htx]; decide) (by rw [htx]; decide) hln) fun σ G => ?_
  generalize hg1 : ({ g with row := t.r - 1, last := .tup [.int t.r, .int t.c], rel := g.rel.set (k + 1) ((c : Int) - m), vis := jU true 0 g.ch t.c, hangs := g.hangs.set g.depth (if f then .none else .int 4), ind := g.ind.set g.depth 0 } : GS) = g1 at R' G
  have hlast : g1.last = .tup [.int t.r, .int (c : Int)] := by rw [← hg1, ← htc]
  have hdl : g1.ind.dropLast = (m : Int) :: List.replicate d 0 := by
    rw [R'.ind, List.replicate_succ', ← List.cons_append, List.dropLast_concat]
  have hcut : g1.ind.dropLast.map (cutI (c : Int)) = (m : Int) :: List.replicate d 0 := by
    rw [hdl, List.map_cons, List.map_replicate]
    unfold cutI
    rw [if_neg (by omega), if_neg (by omega)]
  have hx0 : ((m : Int) :: List.replicate d 0)[d]? = some (if d = 0 then (m : Int) else 0) := by
    cases d with
    | zero => rfl
    | succ d => rw [List.getElem?_cons_succ, List.getElem?_replicate, if_pos (Nat.lt_succ_self d), if_neg (Nat.succ_ne_zero d)]
  have hcl' := R'.ch.len
  have hoL' := R'.oL
  have hol' := R'.ol
  obtain ⟨σ', g', e, G', ps, rfl, hpl, hpz⟩ := h4_close (K := ⟨false, m, mh⟩) (g := g1) (t := t) (d := d) (iv := 0) (lr := t.r) (lc := (c : Int)) (x := if d = 0 then (m : Int) else 0) (n := k + 1) hty (by rw [htx]; decide +kernel) (by rw [htx]; decide +kernel) R'.dep (by rw [R'.il]) (by rw [R'.hl]) (by omega) hlast
    (by have := R'.i; rwa [R'.dep, if_neg (by omega)] at this) (by rw [if_neg (by decide), hcut]; exact hx0) R'.ch.nd (by omega) (by omega) R'.row (by rw [R'.pl]; exact hk) (by rw [R'.pl]; omega) σ G
  refine ⟨σ', _, e, G', ⟨R'.row, rfl, hpl.trans R'.pl, fun j h2 h3 => hpz j (R'.pz j h2 h3), R'.rl, ?_, ?_, fun j os h => ?_, fun j os h2 h3 h => ?_, ?_, fun h2 => ?_, fun j h2 h3 => ?_, ?_, ?_, R'.vok⟩⟩
  · show d + 1 ≤ (g1.opn.take (d + 2)).length
    rw [List.length_take]; omega
  · show (g1.opn.take (d + 2)).length ≤ d + 2
    rw [List.length_take]; omega
  · have h' : g1.opn[j]? = some os := by
      have h : (g1.opn.take (d + 2))[j]? = some os := h
      rw [List.getElem?_take] at h
      split at h
      · exact h
      · cases h
    exact ⟨Nat.le_trans (R'.op j os h').1 (by omega), (R'.op j os h').2⟩
  · have h' : g1.opn[j]? = some os := by
      have h : (g1.opn.take (d + 2))[j]? = some os := h
      rw [List.getElem?_take] at h
      split at h
      · exact h
      · cases h
    exact R'.on j os h2 (by omega) h'
  · show g1.hangs.dropLast.length = _
    rw [List.length_dropLast, R'.hl]; rfl
  · show g1.hangs.dropLast[d]? = _
    rw [List.getElem?_dropLast, if_pos (by rw [R'.hl]; omega)]
    exact R'.hp d h2 (by omega)
  · show g1.hangs.dropLast[j]? = _
    rw [List.getElem?_dropLast, if_pos (by rw [R'.hl]; omega)]
    exact R'.hp j h2 (by omega)
  · show g1.ind.dropLast.map (cutI (if (0 : Int) ≠ 0 then 0 else (c : Int))) = _
    rw [if_neg (by decide)]; exact hcut
  · show ChJ (b + 2) (putCh _ t.c t.tx)
    rw [htx]
    refine ChJ.put (b := b + 1) ?_ t.c (.inr (.inl rfl))
    by_cases e : d = 0
    · rw [if_neg (by simpa using e)]; exact (R'.ch.cut _).mono (Nat.le_succ _)
    · rw [if_pos e, if_neg e]; exact (R'.ch.cut _).zero
end
end L1
end Mine
end
section
open PySem PySem.W
namespace Mine
theorem sc_done {line pre : List Nat} {row d : Int} {col : Nat} (hl : line = pre ++ [10]) (hc : pre.length = col) : ScanR line row col d [] d 0 :=
  .done (by rw [hl, List.length_append, hc]; rfl)
theorem sc_op {line pre rest : List Nat} {row d d' : Int} {col c n : Nat} {ts : List TK} (hl : line = pre ++ c :: rest) (hc : pre.length = col) (hr : rest ≠ []) (hk : decide (c ≠ 32) && decide (c ≠ 35) && decide (c ≠ 34) && !zU c && decide (c < 1114112) = true)
    (R : ScanR line row (col + 1) (d + dd c) ts d' n) : ScanR line row col d (⟨54, [c], row, col, ((col + 1 : Nat) : Int), line⟩ :: ts) d' (n + 1) := by
  simp only [Bool.and_eq_true, decide_eq_true_eq, Bool.not_eq_true'] at hk
  obtain ⟨⟨⟨⟨h1, h2⟩, h3⟩, h4⟩, h5⟩ := hk
  have hlen : col + 1 < line.length := by
    rw [hl, List.length_append, hc, List.length_cons]
    have := List.length_pos_iff.mpr hr
    omega
  exact .op (by rw [hl, List.getElem?_append_right (by omega), hc, Nat.sub_self]; rfl) hlen h1 h2 h3 h4 (by simp [sOk, h5]) R
theorem sc_sps {line pre rest : List Nat} {row d d' : Int} {n : Nat} {ts : List TK} : ∀ {k col : Nat}, line = pre ++ (List.replicate k 32 ++ rest) → pre.length = col → rest ≠ [] → ScanR line row (col + k) d ts d' n → ScanR line row col d ts d' (n + k)
  | 0, col, hl, hc, hr, R => R
  | k + 1, col, hl, hc, hr, R => by
    have hp := List.length_pos_iff.mpr hr
    refine .sp ?_ ?_ ?_
    · rw [hl, List.getElem?_append_right (by omega), hc, Nat.sub_self]; rfl
    · rw [hl, List.length_append, hc, List.length_append, List.length_replicate]; omega
    · have R' := sc_sps (line := line) (pre := pre ++ [32]) (rest := rest) (k := k) (col := col + 1) (row := row) (d := d) (d' := d') (n := n) (ts := ts) (by rw [hl, List.replicate_succ]; simp) (by rw [List.length_append, hc]; rfl) hr (by rw [Nat.add_assoc, Nat.add_comm 1 k]; exact R)
      exact R'
theorem sc_name {line pre rest w : List Nat} {row d d' : Int} {col c e n : Nat} {ts : List TK} (hl : line = pre ++ (w ++ e :: rest)) (hc : pre.length = col) (hw : w = c :: w.tail) (hall : ∀ a ∈ w, zU a = true) (he : zU e = false) (hlen : w.length ≤ 100)
    (hk : decide (c ≠ 32) && decide (c ≠ 35) && decide (c ≠ 34) && decide (c < 1114112) && decide (dd c = 0) = true) {q : Nat} (hq : q = col + w.length) (hr : rest ≠ []) (R : ScanR line row q d ts d' n) : ScanR line row col d (⟨1, w, row, col, (q : Int), line⟩ :: ts) d' (n + 1) := by
  simp only [Bool.and_eq_true, decide_eq_true_eq, Bool.not_eq_true'] at hk
  obtain ⟨⟨⟨⟨h1, h2⟩, h3⟩, h4⟩, h5⟩ := hk
  obtain ⟨k, hk⟩ : ∃ k, w.length = k + 1 := ⟨w.tail.length, by rw [hw]; rfl⟩
  subst hq
  rw [hk] at R ⊢
  have g : ∀ i, line[col + i]? = (w ++ e :: rest)[i]? := fun i => by
    rw [hl, List.getElem?_append_right (by omega), hc, Nat.add_sub_cancel_left]
  have hlt : col + 1 < line.length := by
    rw [hl, List.length_append, hc, List.length_append, hk, List.length_cons]; omega
  refine .name ?_ hlt h1 h2 h3 ?_ ?_ (by omega) (by simp [sOk, h4]) h5 ?_ R
  · have := g 0
    rw [Nat.add_zero] at this
    rw [this, hw]; rfl
  · intro i hi
    refine ⟨w[i], ?_, hall _ (List.getElem_mem _)⟩
    rw [g, List.getElem?_append_left (by omega), List.getElem?_eq_getElem]
  · refine ⟨e, ?_, he⟩
    rw [g, List.getElem?_append_right (by omega), hk, Nat.sub_self]; rfl
  · rw [hl, List.drop_append_of_le_length (by omega), ← hc, List.drop_length, List.nil_append, ← hk, List.take_append_of_le_length (Nat.le_refl _), List.take_length]
theorem row_mk {line : List Nat} {row d d' : Int} {t : TK} {ts : List TK} {n : Nat} (R : ScanR line row 0 d (t :: ts) d' n) (ht : t.ty ≠ 61) (hn : n < 200) (hl : line.length ≤ 100000) (hp : 0 < line.length) :
    RowR line row d ((t :: ts) ++ [⟨if d' > 0 then 62 else 4, [10], row, ((line.length - 1 : Nat) : Int), (line.length : Int), line⟩]) d' := ⟨⟨t, ts, n, rfl, ht, R, hn⟩, hl, hp⟩
theorem lets : zU 97 = true ∧ zU 98 = true ∧ zU 105 = true ∧ zU 102 = true ∧ zU 32 = false ∧ zU 40 = false ∧ zU 44 = false ∧ zU 41 = false ∧ zU 58 = false ∧ zU 10 = false := by decide +kernel
theorem dds : dd 97 = 0 ∧ dd 98 = 0 ∧ dd 105 = 0 ∧ dd 40 = 1 ∧ dd 44 = 0 ∧ dd 41 = -1 ∧ dd 58 = 0 := by decide +kernel
end Mine
end
section
open PySem PySem.W
namespace Mine
inductive RK where
  | op
  | b (c : Nat)
  | cl
noncomputable def RK.dp (d : Nat) : RK → Nat
  | .op => d + 1
  | .b _ => d
  | .cl => d - 1
noncomputable def RK.fr : RK → Bool
  | .op => true
  | .b _ => false
  | .cl => false
noncomputable def RK.co (m d : Nat) : RK → Nat
  | .op => m + 4 * d
  | .b c => c
  | .cl => m + 4 * (d - 1)
noncomputable def RK.sg (d : Nat) : RK → List Nat
  | .op => [107, 40]
  | .b _ => [98, 44]
  | .cl => if d = 1 then [41] else [41, 44]
noncomputable def RK.tx (m d : Nat) (x : RK) : List Nat := List.replicate (x.co m d) 32 ++ x.sg d
noncomputable def tkN (r : Int) (d' : Nat) (ln : List Nat) : TK := ⟨if d' > 0 then 62 else 4, [10], r, ((ln.length - 1 : Nat) : Int), (ln.length : Int), ln⟩
noncomputable def RK.t0 (r : Int) (d c : Nat) (ln : List Nat) : RK → List TK
  | .op => [⟨1, [107], r, c, ((c + 1 : Nat) : Int), ln⟩, ⟨54, [40], r, ((c + 1 : Nat) : Int), ((c + 1 + 1 : Nat) : Int), ln⟩]
  | .b _ => [⟨1, [98], r, c, ((c + 1 : Nat) : Int), ln⟩, ⟨54, [44], r, ((c + 1 : Nat) : Int), ((c + 1 + 1 : Nat) : Int), ln⟩]
  | .cl => if d = 1 then [⟨54, [41], r, c, ((c + 1 : Nat) : Int), ln⟩] else [⟨54, [41], r, c, ((c + 1 : Nat) : Int), ln⟩, ⟨54, [44], r, ((c + 1 : Nat) : Int), ((c + 1 + 1 : Nat) : Int), ln⟩]
noncomputable def RK.tk (m d : Nat) (r : Int) (x : RK) : List TK := x.t0 r d (x.co m d) (x.tx m d ++ [10]) ++ [tkN r (x.dp d) (x.tx m d ++ [10])]
noncomputable def RK.out (mh : Bool) (m d : Nat) (r : Int) : RK → List PV
  | .op => []
  | .b c => if c = m + 4 * d then [] else [.tup [.tup [.int r, .int c], .str (mvT m d c)]]
  | .cl => if mh then [.tup [.tup [.int r, .int ((m + 4 * (d - 1) : Nat) : Int)], .str mE133]] else []
theorem dd107 : dd 107 = 0 ∧ zU 107 = true := by decide +kernel
theorem sps : Unicode.isSpace 107 = false ∧ Unicode.isSpace 98 = false ∧ Unicode.isSpace 41 = false := by decide +kernel
theorem scan_row {x : RK} {m d : Nat} {r : Int} (h1 : 1 ≤ d ∨ x = .op) (hc : x.co m d ≤ 150) : RowR (x.tx m d ++ [10]) r (d : Int) (x.tk m d r) (x.dp d : Int) := by
  obtain ⟨l1, l2, l3, l4, l5, l6, l7, l8, l9, l10⟩ := lets
  obtain ⟨d1, d2, d3, d4, d5, d6, d7⟩ := dds
  have htl : ∀ (t : TK) (ts : List TK), (t :: ts) ++ [tkN r (x.dp d) (x.tx m d ++ [10])] = (t :: ts) ++ [⟨if (x.dp d : Int) > 0 then 62 else 4, [10], r, (((x.tx m d ++ [10]).length - 1 : Nat) : Int), ((x.tx m d ++ [10]).length : Int), x.tx m d ++ [10]⟩] := fun t ts => by
    unfold tkN
    congr 4
    simp only [gt_iff_lt, Int.natCast_pos]
  have hlen : (x.tx m d ++ [10]).length ≤ 1000 := by
    unfold RK.tx
    have : (x.sg d).length ≤ 2 := by cases x <;> simp only [RK.sg] <;> first | (split <;> decide) | decide
    simp; omega
  have hpos : 0 < (x.tx m d ++ [10]).length := by simp
  unfold RK.tk
  -- a name and a sign
  have two : ∀ (a e : Nat) (d' : Int), zU a = true → zU e = false → (decide (a ≠ 32) && decide (a ≠ 35) && decide (a ≠ 34) && decide (a < 1114112) && decide (dd a = 0) = true) → (decide (e ≠ 32) && decide (e ≠ 35) && decide (e ≠ 34) && !zU e && decide (e < 1114112) = true) → x.sg d = [a, e] → (d : Int) + dd e = d' →
      ScanR (x.tx m d ++ [10]) r 0 (d : Int) [⟨1, [a], r, x.co m d, ((x.co m d + 1 : Nat) : Int), x.tx m d ++ [10]⟩, ⟨54, [e], r, ((x.co m d + 1 : Nat) : Int), ((x.co m d + 1 + 1 : Nat) : Int), x.tx m d ++ [10]⟩] d' (2 + x.co m d) := fun a e d' ha he hka hke hs hd => by
    unfold RK.tx
    rw [hs, ← hd]
    generalize x.co m d = c
    refine sc_sps (pre := []) (rest := [a, e] ++ [10]) (col := 0) (k := c) (by simp) rfl (by simp) ?_
    rw [Nat.zero_add]
    exact sc_name (pre := List.replicate c 32) (w := [a]) (c := a) (e := e) (rest := [10]) (by simp) (by simp) rfl (by simpa using ha) he (by simp) hka rfl (by simp)
      (sc_op (pre := List.replicate c 32 ++ [a]) (rest := [10]) (by simp) (by simp) (by simp) hke (sc_done (pre := List.replicate c 32 ++ [a, e]) (by simp) (by simp)))
  cases x with
  | op =>
    simp only [RK.t0]
    rw [htl]
    exact row_mk (two 107 40 _ dd107.2 l6 (by rw [dd107.1]; rfl) (by rw [l6]; rfl) rfl (by rw [d4]; show (d : Int) + 1 = ((d + 1 : Nat) : Int); omega)) (by show (1 : Int) ≠ 61; decide) (by omega) (by omega) hpos
  | b c =>
    simp only [RK.t0]
    rw [htl]
    exact row_mk (two 98 44 _ l2 l7 (by rw [d2]; rfl) (by rw [l7]; rfl) rfl (by rw [d5]; show (d : Int) + 0 = (d : Int); omega)) (by show (1 : Int) ≠ 61; decide) (by omega) (by omega) hpos
  | cl =>
    have h1 : 1 ≤ d := h1.resolve_right nofun
    have hd : (d : Int) + -1 = ((RK.cl.dp d : Nat) : Int) := by show (d : Int) + -1 = ((d - 1 : Nat) : Int); omega
    simp only [RK.t0]
    by_cases e : d = 1
    · rw [if_pos e, htl]
      have hs : RK.cl.sg d = [41] := if_pos e
      refine row_mk (n := 1 + RK.cl.co m d) ?_ (by show (54 : Int) ≠ 61; decide) (by omega) (by omega) hpos
      unfold RK.tx
      rw [hs, ← hd]
      generalize RK.cl.co m d = c
      refine sc_sps (pre := []) (rest := [41] ++ [10]) (col := 0) (k := c) (by simp) rfl (by simp) ?_
      rw [Nat.zero_add]
      exact sc_op (pre := List.replicate c 32) (rest := [10]) (by simp) (by simp) (by simp) (by rw [l8]; rfl) (by rw [d6]; exact sc_done (pre := List.replicate c 32 ++ [41]) (by simp) (by simp))
    · rw [if_neg e, htl]
      have hs : RK.cl.sg d = [41, 44] := if_neg e
      refine row_mk (n := 2 + RK.cl.co m d) ?_ (by show (54 : Int) ≠ 61; decide) (by omega) (by omega) hpos
      unfold RK.tx
      rw [hs, ← hd]
      generalize RK.cl.co m d = c
      refine sc_sps (pre := []) (rest := [41, 44] ++ [10]) (col := 0) (k := c) (by simp) rfl (by simp) ?_
      rw [Nat.zero_add]
      exact sc_op (pre := List.replicate c 32) (rest := [44, 10]) (by simp) (by simp) (by simp) (by rw [l8]; rfl) (by
        rw [d6]
        exact sc_op (pre := List.replicate c 32 ++ [41]) (rest := [10]) (by simp) (by simp) (by simp) (by rw [l7]; rfl) (by rw [d5, Int.add_zero]; exact sc_done (pre := List.replicate c 32 ++ [41, 44]) (by simp) (by simp)))
end Mine
end
section
open PySem PySem.W
namespace Mine
noncomputable def RK.ok (m d : Nat) (f : Bool) : RK → Prop
  | .op => True
  | .b c => c = m + 4 * d ∨ f = false
  | .cl => True
theorem RK.sg_len (d : Nat) (x : RK) : (x.sg d).length ≤ 2 := by cases x <;> simp only [RK.sg] <;> first | (split <;> decide) | decide
theorem RK.tx_len {m d : Nat} {x : RK} (h : x.co m d ≤ 150) : (x.tx m d ++ [10]).length ≤ 1000 := by
  have := x.sg_len d
  unfold RK.tx
  simp; omega
namespace L1
theorem exp_row {x : RK} {m d : Nat} (hc : x.co m d ≤ 150) : Γ1 1 [.str (x.tx m d ++ [10])] = some (.int (x.co m d : Int)) := by
  unfold RK.tx
  generalize x.co m d = c at *
  cases x with
  | op => exact exp_ok (c := 107) (r := [40]) (d := 40) sps.1 (by simp [RK.sg]) (by decide) (by decide) (by decide) (by simp; omega)
  | b e => exact exp_ok (c := 98) (r := [44]) (d := 44) sps.2.1 (by simp [RK.sg]) (by decide) (by decide) (by decide) (by simp; omega)
  | cl =>
    by_cases e : d = 1
    · rw [show RK.cl.sg d = [41] from if_pos e]
      exact exp_ok (c := 41) (r := []) (d := 41) sps.2.2 (by simp) (by decide) (by decide) (by decide) (by simp; omega)
    · rw [show RK.cl.sg d = [41, 44] from if_neg e]
      exact exp_ok (c := 41) (r := [44]) (d := 44) sps.2.2 (by simp) (by decide) (by decide) (by decide) (by simp; omega)
section
variable {m n b k q d : Nat} {f mh : Bool} {g : GS}
theorem RI.mono {b' : Nat} (R : RI m n b k q d f g) (h : b ≤ b') : RI m n b' k q d f g :=
  ⟨R.row, R.dep, R.pl, R.pz, R.rl, R.ol, R.oL, fun j os e => ⟨Nat.le_trans (R.op j os e).1 (by omega), (R.op j os e).2⟩, R.on, R.hl, R.hd, R.hp, R.ind, R.ch.mono h, R.vok⟩
noncomputable def RQ (m n b k d : Nat) (f : Bool) (g : GS) : Prop := ∃ q, q ≤ k + 1 ∧ (d = 0 → q ≤ k) ∧ RI m n b k q d f g
theorem run_row {x : RK} (R : RQ m n b k d f g) (hk : k + 1 < n) (hn : n ≤ 1000) (hb : b + 3 ≤ 1000) (hd : d ≤ 800) (h1 : 1 ≤ d) (hok : x.ok m d f) (hc : x.co m d ≤ 150) :
    Run ⟨false, m, mh⟩ g (x.tk m d ((k : Int) + 2)) (x.out mh m d ((k : Int) + 2)) (RQ m n (b + 3) (k + 1) (x.dp d) x.fr) := by
  obtain ⟨q, hq, _, R⟩ := R
  have hx := exp_row (x := x) (m := m) (d := d) hc
  have hl := RK.tx_len (m := m) (d := d) (x := x) hc
  have hr : ((k : Int) + 2) = ((k + 1 : Nat) : Int) + 1 := by omega
  cases x with
  | op =>
    unfold RK.tk
    generalize RK.op.tx m d ++ [10] = ln at *
    have hn1 := R.name (mh := mh) (t := ⟨1, [107], (k : Int) + 2, RK.op.co m d, ((RK.op.co m d + 1 : Nat) : Int), ln⟩) hq hk hn (by omega) (by omega) h1 (c := RK.op.co m d) (by omega) (.inl rfl) rfl rfl (.inr rfl) rfl (by show ln.length ≤ _; omega) hx
    rw [if_pos (show RK.op.co m d = m + 4 * d from rfl)] at hn1
    refine Run.cons (ys := []) (zs := []) hn1 fun g1 ⟨R1, e1⟩ => ?_
    refine Run.cons (ys := []) (zs := []) (R1.opens hk hn (by omega) (by omega) (fun _ => rfl) (by rw [e1]; congr 1; show ((m + 4 * d : Nat) : Int) - m = _; omega) hr rfl rfl (by show ln.length ≤ _; omega)) fun g2 R2 => ?_
    exact Run.imp (Run.one (R2.nl hk hn (by omega) (by omega) hr (.inl rfl) rfl (by show ln.length ≤ _; omega))) fun g3 R3 => ⟨_, Nat.le_refl _, nofun, R3.mono (by omega)⟩
  | b c =>
    unfold RK.tk
    change c ≤ 150 at hc
    change Γ1 1 _ = some (.int (c : Int)) at hx
    change Run _ _ ((RK.b c).t0 ((k : Int) + 2) d c _ ++ [tkN ((k : Int) + 2) d _]) _ (RQ m n (b + 3) (k + 1) d false)
    generalize (RK.b c).tx m d ++ [10] = ln at *
    have hn1 := R.name (mh := mh) (t := ⟨1, [98], (k : Int) + 2, c, ((c + 1 : Nat) : Int), ln⟩) hq hk hn (by omega) (by omega) h1 (c := c) (by omega) hok rfl rfl (.inl rfl) rfl (by show ln.length ≤ _; omega) hx
    have hnl : (tkN ((k : Int) + 2) d ln).ty = 62 := if_pos (by omega)
    have hout : (RK.b c).out mh m d ((k : Int) + 2) = yOf ⟨1, [98], (k : Int) + 2, c, ((c + 1 : Nat) : Int), ln⟩ (if c = m + 4 * d then none else some (mvT m d c)) ++ [] := by
      show (if c = m + 4 * d then _ else _) = _
      by_cases e : c = m + 4 * d
      · rw [if_pos e, if_pos e]; rfl
      · rw [if_neg e, if_neg e]; rfl
    rw [hout]
    refine Run.cons (zs := []) hn1 fun g1 ⟨R1, e1⟩ => ?_
    refine Run.cons (ys := []) (zs := []) (R1.comma hk hn (by omega) (by omega) hr rfl rfl (by show ln.length ≤ _; omega)) fun g2 R2 => ?_
    exact Run.imp (Run.one (R2.nl hk hn (by omega) (by omega) hr (.inl hnl) rfl (by show ln.length ≤ _; omega))) fun g3 R3 => ⟨_, Nat.le_succ _, fun _ => Nat.le_refl _, R3.mono (by omega)⟩
  | cl =>
    obtain ⟨d, rfl⟩ : ∃ e, d = e + 1 := ⟨d - 1, by omega⟩
    unfold RK.tk
    change m + 4 * d ≤ 150 at hc
    change Γ1 1 _ = some (.int ((m + 4 * d : Nat) : Int)) at hx
    change Run _ _ (RK.cl.t0 ((k : Int) + 2) (d + 1) (m + 4 * d) _ ++ [tkN ((k : Int) + 2) d _]) _ (RQ m n (b + 3) (k + 1) d false)
    generalize RK.cl.tx m (d + 1) ++ [10] = ln at *
    have hn1 := R.close (mh := mh) (t := ⟨54, [41], (k : Int) + 2, ((m + 4 * d : Nat) : Int), ((m + 4 * d + 1 : Nat) : Int), ln⟩) hq hk hn (by omega) (by omega) rfl rfl rfl rfl rfl (by show ln.length ≤ _; omega) hx
    have hout : RK.cl.out mh m (d + 1) ((k : Int) + 2) = yOf ⟨54, [41], (k : Int) + 2, ((m + 4 * d : Nat) : Int), ((m + 4 * d + 1 : Nat) : Int), ln⟩ (if mh then some mE133 else none) ++ [] := by
      cases mh <;> rfl
    rw [hout]
    have fin : ∀ {g2 b'}, RI m n b' (k + 1) (k + 1) d false g2 → b' ≤ b + 3 → Run ⟨false, m, mh⟩ g2 [tkN ((k : Int) + 2) d ln] [] (RQ m n (b + 3) (k + 1) d false) := fun {g2 b'} R2 hb' =>
      Run.imp (Run.one (R2.nl hk hn (by omega) (by omega) hr (by
        unfold tkN
        by_cases e : d > 0
        · rw [if_pos e]; exact .inl rfl
        · rw [if_neg e]; exact .inr ⟨rfl, Nat.le_refl _⟩) rfl (by show ln.length ≤ _; omega))) fun g3 R3 => ⟨_, Nat.le_succ _, fun _ => Nat.le_refl _, R3.mono hb'⟩
    simp only [RK.t0]
    by_cases e : d + 1 = 1
    · rw [if_pos e]
      exact Run.cons (zs := []) hn1 fun g1 R1 => fin R1 (by omega)
    · rw [if_neg e]
      refine Run.cons (zs := []) hn1 fun g1 R1 => ?_
      exact Run.cons (ys := []) (zs := []) (R1.comma hk hn (by omega) (by omega) hr rfl rfl (by show ln.length ≤ _; omega)) fun g2 R2 => fin R2 (by omega)
end
end L1
end Mine
end
section
open PySem PySem.W
namespace Mine
noncomputable def yL (m : Nat) : Nat → List RK → List (List Nat)
  | _, [] => []
  | d, x :: l => x.tx m d :: yL m (x.dp d) l
noncomputable def tksF (m : Nat) : Nat → Int → List RK → List TK
  | _, _, [] => []
  | d, r, x :: l => x.tk m d r ++ tksF m (x.dp d) (r + 1) l
noncomputable def outF (mh : Bool) (m : Nat) : Nat → Int → List RK → List PV
  | _, _, [] => []
  | d, r, x :: l => x.out mh m d r ++ outF mh m (x.dp d) (r + 1) l
noncomputable def dpF : Nat → List RK → Nat
  | d, [] => d
  | d, x :: l => dpF (x.dp d) l
noncomputable def frF : Bool → List RK → Bool
  | f, [] => f
  | _, x :: l => frF x.fr l
noncomputable def Lay (m : Nat) : Nat → Bool → List RK → Prop
  | _, _, [] => True
  | d, f, x :: l => (1 ≤ d ∧ d ≤ 100 ∧ x.ok m d f ∧ x.co m d ≤ 150) ∧ Lay m (x.dp d) x.fr l
theorem scan_rows {m : Nat} : ∀ {l : List RK} {d k : Nat} {f : Bool}, Lay m d f l → RowsR k (d : Int) ((yL m d l).map (· ++ [10])) (tksF m d ((k + 1 : Nat) : Int) l)
  | [], d, k, f, _ => .nil
  | x :: l, d, k, f, ⟨⟨h1, h2, h3, h4⟩, h⟩ => .cons (scan_row (.inl h1) h4) (scan_rows (k := k + 1) h)
theorem scan_all {m : Nat} {l : List RK} (hm : m ≤ 100) (h : Lay m 1 true l) : RowsR 0 0 ((yL m 0 (.op :: l)).map (· ++ [10])) (tksF m 0 1 (.op :: l)) :=
  .cons (scan_row (x := .op) (m := m) (d := 0) (r := 1) (.inr rfl) (by show m + 4 * 0 ≤ 150; omega)) (scan_rows (k := 1) h)
theorem RK.tk_len {m d : Nat} {r : Int} {x : RK} : 1 ≤ (x.tk m d r).length ∧ (x.tk m d r).length ≤ 3 := by
  unfold RK.tk
  cases x with
  | op => exact ⟨by simp, by simp [RK.t0]⟩
  | b c => exact ⟨by simp, by simp [RK.t0]⟩
  | cl =>
    refine ⟨by simp, ?_⟩
    simp only [RK.t0]
    split <;> simp
theorem tksF_len {m : Nat} : ∀ {l : List RK} {d : Nat} {r : Int}, (tksF m d r l).length ≤ 3 * l.length
  | [], _, _ => by simp [tksF]
  | x :: l, d, r => by
    rw [tksF, List.length_append, List.length_cons]
    have := (x.tk_len (m := m) (d := d) (r := r)).2
    have := tksF_len (m := m) (l := l) (d := x.dp d) (r := r + 1)
    omega
theorem tksF_last {m : Nat} : ∀ {l : List RK} {d : Nat} {r : Int}, l ≠ [] → ∃ tl, (tksF m d r l).getLast? = some tl ∧ tl.r = r + (l.length : Int) - 1
  | [], _, _, h => absurd rfl h
  | [x], d, r, _ => by
    refine ⟨tkN r (x.dp d) (x.tx m d ++ [10]), ?_, ?_⟩
    · rw [tksF, tksF, List.append_nil, RK.tk, List.getLast?_append]; rfl
    · show r = r + 1 - 1; omega
  | x :: y :: l, d, r, _ => by
    obtain ⟨tl, e1, e2⟩ := tksF_last (l := y :: l) (d := x.dp d) (r := r + 1) (by simp)
    refine ⟨tl, ?_, ?_⟩
    · rw [tksF, List.getLast?_append, e1]; rfl
    · rw [e2]; simp only [List.length_cons]; omega
namespace L1
section
variable {m n b k d : Nat} {f mh : Bool} {g : GS}
theorem run_rows : ∀ {l : List RK} {b k d : Nat} {f : Bool} {g : GS}, Lay m d f l → RQ m n b k d f g → k + l.length < n → n ≤ 1000 → b + 3 * l.length ≤ 1000 → Run ⟨false, m, mh⟩ g (tksF m d ((k : Int) + 2) l) (outF mh m d ((k : Int) + 2) l) (RQ m n (b + 3 * l.length) (k + l.length) (dpF d l) (frF f l))
  | [], b, k, d, f, g, _, R, _, _, _ => Run.nil R
  | x :: l, b, k, d, f, g, ⟨⟨h1, h2, h3, h4⟩, h⟩, R, hk, hn, hb => by
    rw [List.length_cons] at hk hb
    rw [tksF, outF]
    refine Run.app (run_row R (by omega) hn (by omega) (by omega) h1 h3 h4) fun g1 R1 => ?_
    have e1 : ((k : Int) + 2 + 1) = ((k + 1 : Nat) : Int) + 2 := by omega
    rw [e1]
    have e2 : b + 3 * (x :: l).length = b + 3 + 3 * l.length := by rw [List.length_cons]; omega
    have e3 : k + (x :: l).length = k + 1 + l.length := by rw [List.length_cons]; omega
    rw [e2, e3]
    exact run_rows h R1 (by omega) hn (by omega)
theorem run_all {l : List RK} (hm : m ≤ 100) (hn : l.length < n) (hn2 : n ≤ 300) (h : Lay m 1 true l) : Run ⟨false, m, mh⟩ (gen0 n m 1) (tksF m 0 1 (.op :: l)) (outF mh m 0 1 (.op :: l)) (fun _ => True) := by
  have R0 : RI m n 0 0 0 0 false (gen0 n m 1) := by
    refine ⟨rfl, rfl, List.length_replicate .., fun j _ hj => ?_, List.length_replicate .., Nat.le_refl 1, Nat.le_succ 1, fun j os h => ?_, fun j os h1 h2 => by omega, rfl, fun h => by omega, fun j h1 h2 => by omega, rfl, ChJ.empty, rfl⟩
    · show (List.replicate n (0 : Int))[j]? = _
      rw [List.getElem?_replicate, if_pos hj]
    · cases j with
      | zero =>
        obtain rfl := Option.some.inj (show some [0] = some os from h)
        exact ⟨by decide, fun h => by omega⟩
      | succ j => exact nomatch (show none = some os from h)
  have hl := RK.tx_len (m := m) (d := 0) (x := .op) (by show m + 4 * 0 ≤ 150; omega)
  rw [tksF, outF]
  refine Run.app (ys := []) (P := RQ m n 3 0 1 true) ?_ fun g1 R1 => ?_
  · unfold RK.tk
    generalize RK.op.tx m 0 ++ [10] = ln at *
    refine Run.cons (ys := []) (zs := []) (P := (· = gen0 n m 1)) (turn (h_same rfl) (R0.h3 (by omega) (by omega) (by omega) (by omega) (.inr (Nat.le_refl 0)) (.inl rfl) rfl (Nat.le_refl 1) (show [107] ≠ [58] by decide) (by show ln.length ≤ _; omega)) (h4_skip (show (1 : Int) ≠ 54 by decide))) fun g1 e => ?_
    subst e
    refine Run.cons (ys := []) (zs := []) (R0.opens (by omega) (by omega) (by omega) (by omega) (fun h => by omega) (by show (List.replicate n (0 : Int))[0]? = _; rw [List.getElem?_replicate, if_pos (by omega)]; rfl) rfl rfl rfl (by show ln.length ≤ _; omega)) fun g2 R2 => ?_
    exact Run.imp (Run.one (R2.nl (by omega) (by omega) (by omega) (by omega) rfl (.inl rfl) rfl (by show ln.length ≤ _; omega))) fun g3 R3 => ⟨_, Nat.le_refl _, nofun, R3.mono (by omega)⟩
  · refine Run.imp (run_rows (k := 0) (l := l) h R1 (by omega) (by omega) (by omega)) fun g2 R2 => ?_
    trivial
theorem ci_all {l : List RK} (hm : m ≤ 100) (hl : l ≠ []) (hl2 : l.length ≤ 200) (h : Lay m 1 true l) : ∃ σ', xQ Γ1 FU (xD [.str [120], .lst ((tksF m 0 1 (.op :: l)).map TK.pv), .int m, .bool mh, .str [32], .int 4, .bool false, .int 0]) ci.ms = some (outF mh m 0 1 (.op :: l), .next, σ') := by
  obtain ⟨tl, e1, e2⟩ := tksF_last (m := m) (l := l) (d := 1) (r := 2) hl
  have e1' : (tksF m 0 1 (.op :: l)).getLast? = some tl := by
    rw [tksF, List.getLast?_append]
    have : tksF m (RK.op.dp 0) (1 + 1) l = tksF m 1 2 l := rfl
    rw [this, e1]; rfl
  have hlen := tksF_len (m := m) (l := .op :: l) (d := 0) (r := 1)
  have hR := run_all (mh := mh) (n := l.length + 1) hm (Nat.lt_succ_self _) (by omega) h
  obtain ⟨ts, ets⟩ : ∃ ts, tksF m 0 1 (.op :: l) = ⟨1, [107], 1, ((m : Nat) : Int), ((m + 1 : Nat) : Int), RK.op.tx m 0 ++ [10]⟩ :: ts := ⟨_, rfl⟩
  rw [ets] at e1' hlen hR ⊢
  exact ci_ok (lg := [120]) e1' (by rw [List.length_cons] at hlen ⊢; simp at hlen; omega) (by rw [e2]; show 1 + (2 + (l.length : Int) - 1) - 1 = _; omega) (by have := List.length_pos_iff.mpr hl; omega) (by omega) rfl (by decide +kernel) hR
end
end L1
end Mine
end
section
open PySem PySem.W
namespace Mine
section
variable {Γ : xB} {fu : Nat} {σ : St}
theorem small_nat {n : Nat} (h : n ≤ 100000) : small (n : Int) = true := by unfold small; simp; omega
theorem mulStr {n : Nat} (h : n ≤ 100000) : yP .mul (.str [32]) (.int (n : Int)) = some (.str (List.replicate n 32)) := by
  show (if small (n : Int) then some (PV.str (List.replicate ((n : Int)).toNat 32)) else none) = _
  rw [if_pos (small_nat h), Int.toNat_natCast]
theorem addStr {a b : List Nat} (h : a.length + b.length ≤ 100000) : yP .add (.str a) (.str b) = some (.str (a ++ b)) := by
  show (if a.length + b.length ≤ SZ then some (PV.str (a ++ b)) else none) = _
  rw [if_pos h]
theorem addLst {a b : List PV} (h : a.length + b.length ≤ 100000) : yP .add (.lst a) (.lst b) = some (.lst (a ++ b)) := by
  show (if a.length + b.length ≤ SZ then some (PV.lst (a ++ b)) else none) = _
  rw [if_pos h]
theorem mbin {Γ : xB} {σ : St} {op : MOp} {a b : ME} {x y : PV} {r : Option PV} (ha : qM Γ σ a = some x) (hb : qM Γ σ b = some y) (h : yP op x y = r) : qM Γ σ (.bin op a b) = r := by
  simp only [qm, ha, hb, h]
theorem mite {Γ : xB} {σ : St} {c a b : ME} {v : Bool} {x y : PV} (hc : qR Γ σ c = some v) (ha : qM Γ σ a = some x) (hb : qM Γ σ b = some y) : qM Γ σ (.ite c a b) = some (if v then x else y) := by
  simp only [qm, hc]; cases v
  · simpa using hb
  · simpa using ha
theorem yD {Γ : xB} {σ : St} {i : Nat} {v : PV} (h : σ i = some (.val v)) : qM Γ σ (.loc i) = some v := yB h
theorem mk {Γ : xB} {σ : St} {v : PV} : qM Γ σ (.k v) = some v := by rfl
theorem mapp {Γ : xB} {fu : Nat} {ms' : List MS} {r : Option (Fl × St)} : ∀ {ms : List MS} {σ σ₁ : St}, qP Γ fu σ ms = some (.next, σ₁) → qP Γ fu σ₁ ms' = r → qP Γ fu σ (ms ++ ms') = r
  | [], σ, σ₁, h1, h2 => by
    simp only [qms, Option.some.injEq, Prod.mk.injEq, true_and] at h1
    subst h1; exact h2
  | m :: ms, σ, σ₁, h1, h2 => by
    rw [ms1] at h1
    rw [List.cons_append, ms1]
    cases e : qN Γ fu σ m with
    | none => rw [e] at h1; cases h1
    | some q =>
      obtain ⟨fl, σ2⟩ := q
      rw [e] at h1
      cases fl with
      | next => exact mapp h1 h2
      | brk => simp at h1
      | ret v => simp at h1
theorem mapO_mapf {α β γ : Type} {f : β → Option γ} {g : α → β} {h : α → γ} : ∀ {l : List α}, (∀ a ∈ l, f (g a) = some (h a)) → jJ f (l.map g) = some (l.map h)
  | [], _ => rfl
  | a :: l, H => by
    rw [List.map_cons, mapO1, H a (.head _), mapO_mapf (fun b q => H b (.tail _ q))]; rfl
theorem mifT {c : ME} {a b : List MS} {r : Option (Fl × St)} (hc : qR Γ σ c = some true) (h : qP Γ fu σ a = r) : qN Γ fu σ (.ifs c a b) = r := by rw [mif hc, if_pos rfl, h]
theorem mifF {c : ME} {a b : List MS} {r : Option (Fl × St)} (hc : qR Γ σ c = some false) (h : qP Γ fu σ b = r) : qN Γ fu σ (.ifs c a b) = r := by rw [mif hc, if_neg (by decide), h]
theorem mo {m : MS} {r : Option (Fl × St)} (h : qN Γ fu σ m = r) : qP Γ fu σ [m] = r := by rw [mone, h]
theorem mnil : qP Γ fu σ [] = some (.next, σ) := by rfl
theorem tand2 {a b : ME} {x y r : Bool} (ha : qR Γ σ a = some x) (hb : qR Γ σ b = some y) (h : (x && y) = r) : qR Γ σ (.and [a, b]) = some r := by rw [tand ha hb, h]
theorem veq {a b : ME} {x y : Int} {r : Bool} (ha : qM Γ σ a = some (.int x)) (hb : qM Γ σ b = some (.int y)) (h : decide (x = y) = r) : qM Γ σ (.cmp .eq a b) = some (.bool r) := by
  simp only [qm, ha, hb, qc, yQ, Option.map_some, h]
theorem teq {a b : ME} {x y : Int} {r : Bool} (ha : qM Γ σ a = some (.int x)) (hb : qM Γ σ b = some (.int y)) (h : decide (x = y) = r) : qR Γ σ (.cmp .eq a b) = some r :=
  zT ha hb (by rw [← h]; exact yQ x y)
theorem tlt {a b : ME} {x y : Int} {r : Bool} (ha : qM Γ σ a = some (.int x)) (hb : qM Γ σ b = some (.int y)) (h : decide (x < y) = r) : qR Γ σ (.cmp .lt a b) = some r := zT ha hb (by rw [← h]; rfl)
theorem tgt {a b : ME} {x y : Int} {r : Bool} (ha : qM Γ σ a = some (.int x)) (hb : qM Γ σ b = some (.int y)) (h : decide (x > y) = r) : qR Γ σ (.cmp .gt a b) = some r := zT ha hb (by rw [← h]; rfl)
theorem mite2 {c a b : ME} {v : Bool} {x y z : PV} (hc : qR Γ σ c = some v) (ha : qM Γ σ a = some x) (hb : qM Γ σ b = some y) (h : (if v then x else y) = z) : qM Γ σ (.ite c a b) = some z := by rw [mite hc ha hb, h]
theorem mtup2 {a b : ME} {x y : PV} (ha : qM Γ σ a = some x) (hb : qM Γ σ b = some y) : qM Γ σ (.tup [a, b]) = some (.tup [x, y]) := by
  simp only [qm, qs, ha, hb]; rfl
theorem mlst1 {a : ME} {x : PV} (ha : qM Γ σ a = some x) : qM Γ σ (.lst [a]) = some (.lst [x]) := by
  simp only [qm, qs, ha]; rfl
theorem mlst0 : qM Γ σ (.lst []) = some (.lst []) := by
  simp only [qm, qs]; rfl
theorem mtup3 {a b c : ME} {x y z : PV} (ha : qM Γ σ a = some x) (hb : qM Γ σ b = some y) (hc : qM Γ σ c = some z) : qM Γ σ (.tup [a, b, c]) = some (.tup [x, y, z]) := by
  simp only [qm, qs, ha, hb, hc]; rfl
noncomputable def yG (v : PV) : Prop := ∃ r c s, v = .tup [.tup [.int r, .int c], .str s] ∧ sOk s = true
theorem okD_yG {l : List PV} (h : ∀ v ∈ l, yG v) : okD (.lst l) = true := by
  have h1 : ∀ l : List PV, (∀ v ∈ l, yG v) → jD l = true ∧ PyData.canLayAll0 (yW l) = true ∧ PyData.depthAll (yW l) ≤ 3 := fun l => by
    induction l with
    | nil => intro _; exact ⟨rfl, rfl, by decide⟩
    | cons a l ih =>
      intro h
      obtain ⟨r, c, s, rfl, hs⟩ := h _ (.head _)
      obtain ⟨i1, i2, i3⟩ := ih fun v hv => h v (.tail _ hv)
      have ss := ok_str hs
      unfold okD at ss
      simp only [Bool.and_eq_true] at ss
      have s2 := ss.1.2
      simp only [yZ] at s2
      refine ⟨?_, ?_, ?_⟩
      · simp [jD, jF, i1]
      · simp [yW, yZ, PyData.canLayAll0, PyData.canLay0, i2]
        simpa [PyData.canLay0] using s2
      · simp [yW, yZ, PyData.depthAll, PyData.depth]
        omega
  obtain ⟨i1, i2, i3⟩ := h1 l h
  unfold okD
  simp only [jF, i1, yZ, PyData.canLay0, i2, PyData.depth, Bool.and_self, Bool.true_and, decide_eq_true_eq]
  omega
theorem tupOnly_yG {l : List PV} (h : ∀ v ∈ l, yG v) : zY l = true := by
  induction l with
  | nil => rfl
  | cons a l ih =>
    obtain ⟨r, c, s, rfl, hs⟩ := h _ (.head _)
    rw [zY, ih fun v hv => h v (.tail _ hv)]; rfl
theorem fmod_nat (a b : Nat) : ((a : Int)).fmod (b : Int) = ((a % b : Nat) : Int) := by
  rw [Int.fmod_eq_emod_of_nonneg _ (Int.natCast_nonneg b)]; rfl
theorem fdiv_nat (a b : Nat) : ((a : Int)).fdiv (b : Int) = ((a / b : Nat) : Int) := by
  rw [Int.fdiv_eq_ediv_of_nonneg _ (Int.natCast_nonneg b)]; rfl
theorem mmod {e : ME} {a n : Nat} (h : qM Γ σ e = some (.int (a : Int))) (hn : n ≠ 0) : qM Γ σ (.bin .mod e (.k (.int (n : Int)))) = some (.int ((a % n : Nat) : Int)) := by
  refine mbin h mk ?_
  show (if (n : Int) = 0 then none else some (PV.int ((a : Int).fmod n))) = _
  rw [if_neg (by omega), fmod_nat]
theorem mdiv {e : ME} {a n : Nat} (h : qM Γ σ e = some (.int (a : Int))) (hn : n ≠ 0) (hs : n ≤ 100000) : qM Γ σ (.bin .div e (.k (.int (n : Int)))) = some (.int ((a / n : Nat) : Int)) := by
  refine mbin h mk ?_
  show (if (n : Int) = 0 || !small (n : Int) then none else some (PV.int ((a : Int).fdiv n))) = _
  rw [small_nat hs, fdiv_nat]
  have : ¬ ((n : Int) = 0) := by omega
  simp [hn]
theorem munpR2 {i j : Nat} {e1 e2 : ME} {v1 v2 : PV} (h1 : qM Γ σ e1 = some v1) (h2 : qM Γ σ e2 = some v2) : qN Γ fu σ (.unpR [i, j] [(false, e1), (false, e2)]) = some (.next, (σ.set j (.val v2)).set i (.val v1)) := by
  simp only [qx, List.map_cons, List.map_nil, qs, h1, h2]; rfl
theorem munpE2 {i j : Nat} {e : ME} {v1 v2 : PV} (h : qM Γ σ e = some (.tup [v1, v2])) : qN Γ fu σ (.unpE [i, j] e) = some (.next, (σ.set i (.val v1)).set j (.val v2)) := by
  show (match qM Γ σ e with | some (.tup xs) => (zD _ xs σ).map fun σ' => (Fl.next, σ') | z_ => none) = _
  rw [h]; rfl
theorem munpE3 {i j k : Nat} {e : ME} {v1 v2 v3 : PV} (h : qM Γ σ e = some (.tup [v1, v2, v3])) : qN Γ fu σ (.unpE [i, j, k] e) = some (.next, ((σ.set i (.val v1)).set j (.val v2)).set k (.val v3)) := by
  show (match qM Γ σ e with | some (.tup xs) => (zD _ xs σ).map fun σ' => (Fl.next, σ') | z_ => none) = _
  rw [h]; rfl
theorem mcall {f : Nat} {es : List ME} {vs : List PV} {r : Option PV} (h : xW Γ σ es = some vs) (h2 : Γ f vs = r) : qM Γ σ (.call f es) = r := by
  simp only [qm, h]; exact h2
theorem mnil' : xW Γ σ [] = some [] := by rfl
theorem mco {e : ME} {es : List ME} {v : PV} {vs : List PV} (h : qM Γ σ e = some v) (h2 : xW Γ σ es = some vs) : xW Γ σ (e :: es) = some (v :: vs) := by
  simp only [qs, h, h2]
theorem mmax {a b : ME} {x y : Int} {n : Nat} (ha : qM Γ σ a = some (.int x)) (hb : qM Γ σ b = some (.int y)) (h : (if x < y then y else x) = (n : Int)) : qM Γ σ (.max2 a b) = some (.int (n : Int)) := by
  simp only [qm, ha, hb, h]
theorem madd {a b : ME} {x y z : Nat} (ha : qM Γ σ a = some (.int (x : Int))) (hb : qM Γ σ b = some (.int (y : Int))) (h : x + y = z) : qM Γ σ (.bin .add a b) = some (.int (z : Int)) :=
  mbin ha hb (by show some (PV.int ((x : Int) + y)) = _; rw [← h]; rfl)
theorem AllVal.init {l : List PV} : AllVal (xD l) := fun k sv h => by
  unfold xD at h
  cases e : l[k]? with
  | none => rw [e] at h; cases h
  | some v => rw [e] at h; cases h; exact ⟨v, rfl⟩
theorem AllVal.set {σ : St} (h : AllVal σ) (i : Nat) (v : PV) : AllVal (σ.set i (.val v)) := fun k sv e => by
  rw [xV] at e
  split at e
  · cases e; exact ⟨v, rfl⟩
  · exact h k sv e
noncomputable def cl (ns : List Int) (k : Nat) : Nat := match ns[k]? with
  | some x => x.natAbs
  | none => 7 * k + 3
end
namespace L1
section
variable {σ : St}
theorem mlen {e : ME} {l : List PV} {Γ : xB} (h : qM Γ σ e = some (.lst l)) (hl : l.length ≤ 100000) : qM Γ σ (.len e) = some (.int l.length) := by
  rw [q_len, h]
  show (if l.length ≤ SZ then _ else none) = _
  rw [if_pos hl]
theorem mapO_app {α β : Type} {f : α → Option β} : ∀ {l l' : List α} {r r' : List β}, jJ f l = some r → jJ f l' = some r' → jJ f (l ++ l') = some (r ++ r')
  | [], l', r, r', h1, h2 => by
    obtain rfl := Option.some.inj h1; exact h2
  | a :: l, l', r, r', h1, h2 => by
    rw [mapO1] at h1
    rw [List.cons_append, mapO1]
    cases e : f a with
    | none => rw [e] at h1; simp at h1
    | some b =>
      rw [e] at h1
      cases e2 : jJ f l with
      | none => rw [e2] at h1; simp at h1
      | some r1 =>
        rw [e2] at h1
        simp only [Option.some.injEq] at h1
        subst h1
        rw [mapO_app e2 h2]; rfl
theorem cell_ok {ns : List Int} {k : Nat} (hn : ns.length ≤ 63) (hk : k ≤ 1000) : Γ2 0 [.lst (ns.map .int), .int (k : Int)] = some (.int (cl ns k : Int)) := by
  show jH Γ0 FU 2 cell.ms [.lst (ns.map .int), .int (k : Int)] = _
  generalize hσ : xD [.lst (ns.map .int), .int (k : Int)] = σ
  have k0 : σ 0 = some (.val (.lst (ns.map .int))) := by rw [← hσ]; rfl
  have k1 : σ 1 = some (.val (.int (k : Int))) := by rw [← hσ]; rfl
  have L : qM Γ0 σ (.len (.loc 0)) = some (.int (ns.length : Int)) := by
    have := mlen (yD (Γ := Γ0) k0) (by rw [List.length_map]; omega)
    rw [List.length_map] at this; exact this
  have e : qM Γ0 σ (.ite (.cmp .lt (.loc 1) (.len (.loc 0))) (.abs (.toInt (.idx (.loc 0) (.loc 1)))) (.bin .add (.bin .mul (.k (.int 7)) (.loc 1)) (.k (.int 3)))) = some (.int (cl ns k : Int)) := by
    by_cases h : k < ns.length
    · have T : qR Γ0 σ (.cmp .lt (.loc 1) (.len (.loc 0))) = some true := tlt (yD k1) L (decide_eq_true (by omega))
      have g : yN (ns.map PV.int) (k : Int) = some (.int ns[k]) := by
        rw [xS, xT (by omega), List.getElem?_eq_getElem h]; rfl
      rw [q_ite, T]
      simp only [qm, k0, k1, qi, g]
      congr 2
      unfold cl
      rw [List.getElem?_eq_getElem h]
      dsimp only
      split <;> omega
    · have T : qR Γ0 σ (.cmp .lt (.loc 1) (.len (.loc 0))) = some false := tlt (yD k1) L (decide_eq_false (by omega))
      rw [q_ite, T]
      have mu : qM Γ0 σ (.bin .mul (.k (.int 7)) (.loc 1)) = some (.int ((7 * k : Nat) : Int)) := mbin mk (yD k1) (by
        show (if small 7 && small (k : Int) then some (PV.int (7 * (k : Int))) else none) = _
        rw [small_nat (by omega)]
        rfl)
      refine (madd mu mk rfl).trans ?_
      unfold cl
      rw [List.getElem?_eq_none (by omega)]
  unfold jH
  rw [if_pos (by rfl), hσ]
  have R : qP Γ0 FU σ cell.ms = some (.ret (.int (cl ns k : Int)), σ) := mo (by simp only [qx, e])
  rw [R]
theorem mcell {ns : List Int} {σ : St} {k i : Nat} {b : ME} (hn : ns.length ≤ 63) (h0 : σ i = some (.val (.lst (ns.map .int)))) (hb : qM Γ2 σ b = some (.int (k : Int))) (hk : k ≤ 1000) : qM Γ2 σ (.call 0 [.loc i, b]) = some (.int (cl ns k : Int)) :=
  mcall (mco (yD h0) (mco hb mnil')) (cell_ok hn hk)
end
end L1
end Mine
end
section
open PySem PySem.W
namespace Mine
noncomputable def mv4 (m d c : Nat) : List Nat := if (c : Int) - m - 4 * ((d : Int) - 1) ≤ 0 then [69, 49, 50, 50] else [69, 49, 51, 49]
noncomputable def RK.o4 (mh : Bool) (m d : Nat) (r : Int) : RK → List PV
  | .op => []
  | .b c => if c = m + 4 * d then [] else [.tup [.tup [.int r, .int c], .str (mv4 m d c)]]
  | .cl => if mh then [.tup [.tup [.int r, .int ((m + 4 * (d - 1) : Nat) : Int)], .str [69, 49, 51, 51]]] else []
noncomputable def yT (mh : Bool) (m : Nat) : Nat → Int → List RK → List PV
  | _, _, [] => []
  | d, r, x :: l => x.o4 mh m d r ++ yT mh m (x.dp d) (r + 1) l
theorem o4_yG {mh : Bool} {m d : Nat} {r : Int} {x : RK} : (∀ v ∈ x.o4 mh m d r, yG v) ∧ (x.o4 mh m d r).length ≤ 1 := by
  cases x with
  | op => exact ⟨nofun, Nat.zero_le _⟩
  | b c =>
    show (∀ v ∈ (if c = m + 4 * d then [] else [_]), yG v) ∧ (if c = m + 4 * d then [] else [_]).length ≤ 1
    by_cases e : c = m + 4 * d
    · rw [if_pos e]; exact ⟨nofun, Nat.zero_le _⟩
    · rw [if_neg e]
      refine ⟨fun v hv => ?_, Nat.le_refl _⟩
      rw [List.mem_singleton] at hv
      exact ⟨_, _, _, hv, by unfold mv4; split <;> decide⟩
  | cl =>
    show (∀ v ∈ (if mh then [_] else []), yG v) ∧ (if mh then [_] else []).length ≤ 1
    cases mh with
    | false => exact ⟨nofun, Nat.zero_le _⟩
    | true =>
      refine ⟨fun v hv => ?_, Nat.le_refl _⟩
      rw [if_pos rfl, List.mem_singleton] at hv
      exact ⟨_, _, _, hv, by decide⟩
theorem out4_yG {mh : Bool} {m : Nat} : ∀ {l : List RK} {d : Nat} {r : Int}, (∀ v ∈ yT mh m d r l, yG v) ∧ (yT mh m d r l).length ≤ l.length
  | [], _, _ => ⟨nofun, Nat.le_refl _⟩
  | x :: l, d, r => by
    rw [yT]
    obtain ⟨a1, a2⟩ := out4_yG (mh := mh) (m := m) (l := l) (d := x.dp d) (r := r + 1)
    obtain ⟨b1, b2⟩ := o4_yG (mh := mh) (m := m) (d := d) (r := r) (x := x)
    refine ⟨fun v hv => (List.mem_append.mp hv).elim (b1 v) (a1 v), ?_⟩
    rw [List.length_append, List.length_cons]; omega
namespace L1
theorem m4_ok {r c : Int} {t u : List Nat} (h : t.length ≤ 100000) (hu : t.take 4 = u) : pairF Γ2 told.m4 (.tup [.tup [.int r, .int c], .str t]) = some (.tup [.tup [.int r, .int c], .str u]) := by
  show qM Γ2 (pairSt (.tup [.int r, .int c]) (.str t)) (.tup [(.loc 0), (.slc (.loc 1) none (some (.k (.int 4))))]) = _
  refine mtup2 (yD rfl) ?_
  have : qM Γ2 (pairSt (.tup [.int r, .int c]) (.str t)) (.loc 1) = some (.str t) := yD rfl
  rw [q_slc, this, qo0, qo1]
  simp only [qm, slcop]
  rw [if_pos (by exact h), ← hu]
  exact congrArg some (congrArg PV.str (slc_take t 4))
theorem m4_row {mh : Bool} {m d : Nat} {r : Int} {x : RK} : jJ (pairF Γ2 told.m4) (x.out mh m d r) = some (x.o4 mh m d r) := by
  have one : ∀ {v w : PV}, pairF Γ2 told.m4 v = some w → jJ (pairF Γ2 told.m4) [v] = some [w] := fun h => by rw [mapO1, h]; rfl
  cases x with
  | op => rfl
  | b c =>
    show jJ _ (if c = m + 4 * d then [] else [_]) = some (if c = m + 4 * d then [] else [_])
    by_cases e : c = m + 4 * d
    · rw [if_pos e, if_pos e]; rfl
    · rw [if_neg e, if_neg e]
      refine one ?_
      unfold mvT mv4
      by_cases q : (c : Int) - m - 4 * ((d : Int) - 1) ≤ 0
      · rw [if_pos q, if_pos q]; exact m4_ok (by decide) (by decide)
      · rw [if_neg q, if_neg q]; exact m4_ok (by decide) (by decide)
  | cl =>
    cases mh with
    | false => rfl
    | true => exact one (m4_ok (by decide) (by decide))
theorem m4_all {mh : Bool} {m : Nat} : ∀ {l : List RK} {d : Nat} {r : Int}, jJ (pairF Γ2 told.m4) (outF mh m d r l) = some (yT mh m d r l)
  | [], _, _ => rfl
  | x :: l, d, r => by rw [outF, yT]; exact mapO_app m4_row m4_all
theorem out_len {mh : Bool} {m : Nat} : ∀ {l : List RK} {d : Nat} {r : Int}, (outF mh m d r l).length ≤ l.length
  | [], _, _ => Nat.le_refl _
  | x :: l, d, r => by
    rw [outF, List.length_append, List.length_cons]
    have h := out_len (mh := mh) (m := m) (l := l) (d := x.dp d) (r := r + 1)
    have h1 : (x.out mh m d r).length ≤ 1 := by
      cases x with
      | op => exact Nat.zero_le _
      | b c =>
        show (if c = m + 4 * d then [] else [_]).length ≤ 1
        split <;> simp
      | cl => cases mh <;> simp [RK.out]
    omega
theorem lnsF_len {m : Nat} : ∀ {l : List RK} {d : Nat}, (yL m d l).length = l.length
  | [], _ => rfl
  | x :: l, d => by rw [yL, List.length_cons, List.length_cons, lnsF_len]
theorem lnsF_tx {m : Nat} : ∀ {l : List RK} {d : Nat} {f : Bool}, Lay m d f l → ∀ t ∈ yL m d l, t.length ≤ 1000
  | [], _, _, _ => nofun
  | x :: l, d, f, h => fun t ht => by
    rcases List.mem_cons.mp ht with rfl | ht
    · have := RK.tx_len h.1.2.2.2
      rw [List.length_append] at this; omega
    · exact lnsF_tx h.2 t ht
theorem told_ok {m : Nat} {mh : Bool} {l : List RK} (hm : m ≤ 100) (hl : l ≠ []) (hl2 : l.length ≤ 100) (h : Lay m 1 true l) : ToldP [.lst ((yL m 0 (.op :: l)).map .str), .int (m : Int), .bool mh] (yT mh m 0 1 (.op :: l)) := by
  obtain ⟨σ', e⟩ := ci_all (mh := mh) hm hl (by omega) h
  have hlen : (yL m 0 (.op :: l)).length = l.length + 1 := lnsF_len
  have htx : ∀ t ∈ yL m 0 (.op :: l), t.length ≤ 1000 := fun t ht => by
    rcases List.mem_cons.mp ht with rfl | ht
    · have := RK.tx_len (m := m) (d := 0) (x := .op) (by show m + 4 * 0 ≤ 150; omega)
      rw [List.length_append] at this; omega
    · exact lnsF_tx h t ht
  have hsc := scan_ok (scan_all hm h) (by
    have := tksF_len (m := m) (l := .op :: l) (d := 0) (r := 1)
    rw [List.length_map, hlen]
    rw [List.length_cons] at this
    omega)
  have hy := (out4_yG (mh := mh) (m := m) (l := .op :: l) (d := 0) (r := 1)).1
  have ho := out_len (mh := mh) (m := m) (l := .op :: l) (d := 0) (r := 1)
  generalize tksF m 0 1 (.op :: l) = ts at *
  generalize hL : yL m 0 (.op :: l) = L at *
  have r1 : qP Γ2 FU (xD [.lst (L.map .str), .int (m : Int), .bool mh]) told.m1 = some (.next, (xD [.lst (L.map .str), .int (m : Int), .bool mh]).set 3 (.val (.lst ((L.map (· ++ [10])).map .str)))) := by
    refine mo (masg ?_)
    have e0 : qM Γ2 (xD [.lst (L.map .str), .int (m : Int), .bool mh]) (.loc 0) = some (.lst (L.map .str)) := yD rfl
    rw [q_compL, e0]
    have hle : decide ((L.map PV.str).length ≤ SZ) = true := decide_eq_true (by rw [List.length_map, hlen]; show _ ≤ 100000; omega)
    simp only [hle, List.all_nil, Bool.and_self, if_true]
    have hm : jJ (fun x => qM Γ2 (zJ (xD [.lst (L.map .str), .int (m : Int), .bool mh]) x []) (.bin .add (.loc 0) (.k (.str [10])))) (L.map PV.str) = some (L.map fun t => PV.str (t ++ [10])) := mapO_mapf fun t ht => mbin (yD rfl) mk (addStr (by have := htx t ht; show t.length + 1 ≤ _; omega))
    rw [hm, List.map_map]
    rfl
  refine .mk _ [.str [120], .lst (ts.map TK.pv), .int (m : Int), .bool mh, .str [32], .int 4, .bool false, .int 0] _ .next σ' rfl r1 (AllVal.init.set _ _) (mco mk (mco (mcall (mco (yD (xG _ _ _)) mnil') hsc) (mco (yD rfl) (mco (yD rfl) (mco mk (mco mk (mco mk (mco mk mnil')))))))) rfl e (.inl rfl) (by rw [List.length_cons] at ho; show _ ≤ 100000; omega) m4_all (tupOnly_yG hy)
end L1
end Mine
end
section
open PySem PySem.W
namespace Mine
/-! what a layout is made of, row by row -/
theorem lnsF_app {m : Nat} : ∀ {l l' : List RK} {d : Nat}, yL m d (l ++ l') = yL m d l ++ yL m (dpF d l) l'
  | [], _, _ => rfl
  | x :: l, l', d => by rw [List.cons_append, yL, yL, lnsF_app]; rfl
theorem dpF_app : ∀ {l l' : List RK} {d : Nat}, dpF d (l ++ l') = dpF (dpF d l) l'
  | [], _, _ => rfl
  | x :: l, l', d => by rw [List.cons_append, dpF, dpF, dpF_app]
theorem frF_app : ∀ {l l' : List RK} {f : Bool}, frF f (l ++ l') = frF (frF f l) l'
  | [], _, _ => rfl
  | x :: l, l', d => by rw [List.cons_append, frF, frF, frF_app]
theorem Lay.app {m : Nat} : ∀ {l l' : List RK} {d : Nat} {f : Bool}, Lay m d f (l ++ l') ↔ Lay m d f l ∧ Lay m (dpF d l) (frF f l) l'
  | [], _, _, _ => ⟨fun h => ⟨trivial, h⟩, fun h => h.2⟩
  | x :: l, l', d, f => by
    rw [List.cons_append]
    exact ⟨fun h => ⟨⟨h.1, (Lay.app.mp h.2).1⟩, (Lay.app.mp h.2).2⟩, fun h => ⟨h.1.1, Lay.app.mpr ⟨h.1.2, h.2⟩⟩⟩
noncomputable def RK.mv (m d : Nat) (f : Bool) (i : Nat) : RK → List (Nat × Nat)
  | .op => []
  | .b _ => if f then [] else [(i, m + 4 * (d - 1))]
  | .cl => []
noncomputable def mvF (m : Nat) : Nat → Bool → Nat → List RK → List (Nat × Nat)
  | _, _, _, [] => []
  | d, f, i, x :: l => x.mv m d f i ++ mvF m (x.dp d) x.fr (i + 1) l
theorem mvF_app {m : Nat} : ∀ {l l' : List RK} {d i : Nat} {f : Bool}, mvF m d f i (l ++ l') = mvF m d f i l ++ mvF m (dpF d l) (frF f l) (i + l.length) l'
  | [], _, _, _, _ => rfl
  | x :: l, l', d, i, f => by
    rw [List.cons_append, mvF, mvF, mvF_app, List.append_assoc, List.length_cons]
    rw [show i + 1 + l.length = i + (l.length + 1) by omega]; rfl
noncomputable def RK.cs (i : Nat) : RK → List Nat
  | .op => []
  | .b _ => []
  | .cl => [i]
noncomputable def csF : Nat → List RK → List Nat
  | _, [] => []
  | i, x :: l => x.cs i ++ csF (i + 1) l
theorem csF_app : ∀ {l l' : List RK} {i : Nat}, csF i (l ++ l') = csF i l ++ csF (i + l.length) l'
  | [], _, _ => rfl
  | x :: l, l', i => by
    rw [List.cons_append, csF, csF, csF_app, List.append_assoc, List.length_cons]
    rw [show i + 1 + l.length = i + (l.length + 1) by omega]
noncomputable def RK.pl (m d : Nat) : RK → Prop
  | .op => True
  | .b c => c = m + 4 * d ∧ d ≤ 4
  | .cl => True
noncomputable def Pl (m : Nat) : Nat → List RK → Prop
  | _, [] => True
  | d, x :: l => x.pl m d ∧ Pl m (x.dp d) l
theorem Pl.app {m : Nat} : ∀ {l l' : List RK} {d : Nat}, Pl m d (l ++ l') ↔ Pl m d l ∧ Pl m (dpF d l) l'
  | [], _, _ => ⟨fun h => ⟨trivial, h⟩, fun h => h.2⟩
  | x :: l, l', d => by
    rw [List.cons_append]
    exact ⟨fun h => ⟨⟨h.1, (Pl.app.mp h.2).1⟩, (Pl.app.mp h.2).2⟩, fun h => ⟨h.1.1, Pl.app.mpr ⟨h.1.2, h.2⟩⟩⟩
structure LP (m : Nat) (L : List RK) : Prop where
  lay : Lay m 1 true L
  pl : Pl m 1 L
  d4 : dpF 1 L ≤ 4
theorem LP.snoc {m : Nat} {L : List RK} (h : LP m L) (hm : m ≤ 100) (x : RK) (h1 : 1 ≤ dpF 1 L) (hx : x.pl m (dpF 1 L)) (h4 : x.dp (dpF 1 L) ≤ 4) : LP m (L ++ [x]) := by
  have hd := h.d4
  refine ⟨Lay.app.mpr ⟨h.lay, ⟨⟨h1, by omega, ?_, ?_⟩, trivial⟩⟩, Pl.app.mpr ⟨h.pl, hx, trivial⟩, by rw [dpF_app]; exact h4⟩
  · cases x with
    | b c => exact .inl hx.1
    | _ => trivial
  · cases x with
    | b c => show c ≤ 150; rw [show c = m + 4 * dpF 1 L from hx.1]; omega
    | op => show m + 4 * dpF 1 L ≤ 150; omega
    | cl => show m + 4 * (dpF 1 L - 1) ≤ 150; omega
structure LD (ns : List Int) (m : Nat) (L : List RK) (g : Bool) (σ : St) : Prop where
  s0 : σ 0 = some (.val (.lst (ns.map .int)))
  s1 : σ 1 = some (.val (.int (m : Int)))
  s2 : σ 2 = some (.own ((yL m 0 (.op :: L)).map .str))
  s3 : σ 3 = some (.own ((mvF m 1 true 1 L).map fun q => .tup [.int (q.1 : Int), .int (q.2 : Int)]))
  s4 : σ 4 = some (.own ((csF 1 L).map fun (k : Nat) => PV.int (k : Int)))
  s5 : σ 5 = some (.val (.int (dpF 1 L : Int)))
  s6 : σ 6 = some (.val (.bool g))
theorem mvF_len {m : Nat} : ∀ {l : List RK} {d i : Nat} {f : Bool}, (mvF m d f i l).length ≤ l.length
  | [], _, _, _ => Nat.le_refl _
  | x :: l, d, i, f => by
    rw [mvF, List.length_append, List.length_cons]
    have h := mvF_len (m := m) (l := l) (d := x.dp d) (i := i + 1) (f := x.fr)
    have h1 : (x.mv m d f i).length ≤ 1 := by
      cases x <;> simp only [RK.mv] <;> first | (split <;> simp) | simp
    omega
theorem csF_len : ∀ {l : List RK} {i : Nat}, (csF i l).length ≤ l.length
  | [], _ => Nat.le_refl _
  | x :: l, i => by
    rw [csF, List.length_append, List.length_cons]
    have h := csF_len (l := l) (i := i + 1)
    have h1 : (x.cs i).length ≤ 1 := by cases x <;> simp [RK.cs]
    omega
section
variable {ns : List Int} {m : Nat} {L : List RK} {g : Bool} {σ : St}
theorem LD.scratch (h : LD ns m L g σ) {j : Nat} (hj : 7 ≤ j) (v : SV) : LD ns m L g (σ.set j v) := by
  have ne : ∀ k, k < 7 → (σ.set j v) k = σ k := fun k hk => if_neg (by omega)
  exact ⟨(ne 0 (by decide)).trans h.s0, (ne 1 (by decide)).trans h.s1, (ne 2 (by decide)).trans h.s2, (ne 3 (by decide)).trans h.s3, (ne 4 (by decide)).trans h.s4, (ne 5 (by decide)).trans h.s5, (ne 6 (by decide)).trans h.s6⟩
theorem LD.len (h : LD ns m L g σ) (hl : L.length ≤ 1000) {Γ : xB} : qM Γ σ (.len (.bor 2)) = some (.int ((1 + L.length : Nat) : Int)) := by
  have e : (yL m 0 (.op :: L)).length = L.length + 1 := L1.lnsF_len
  rw [q_len, xbor h.s2]
  show (if ((yL m 0 (.op :: L)).map PV.str).length ≤ SZ then some (PV.int _) else none) = _
  rw [List.length_map, e, if_pos (by show _ ≤ 100000; omega), Nat.add_comm]
theorem LD.row (h : LD ns m L g σ) (x : RK) {σ' : St} (h0 : σ' 0 = σ 0) (h1 : σ' 1 = σ 1) (h2 : σ' 2 = some (.own ((yL m 0 (.op :: L)).map .str ++ [.str (x.tx m (dpF 1 L))]))) (h3 : σ' 3 = some (.own ((mvF m 1 true 1 L).map (fun q => PV.tup [.int (q.1 : Int), .int (q.2 : Int)]) ++ (x.mv m (dpF 1 L) (frF true L) (1 + L.length)).map fun q => PV.tup [.int (q.1 : Int), .int (q.2 : Int)])))
    (h4 : σ' 4 = some (.own ((csF 1 L).map (fun (k : Nat) => PV.int (k : Int)) ++ (x.cs (1 + L.length)).map fun (k : Nat) => PV.int (k : Int)))) (h5 : σ' 5 = some (.val (.int (x.dp (dpF 1 L) : Int)))) {g' : Bool} (h6 : σ' 6 = some (.val (.bool g'))) : LD ns m (L ++ [x]) g' σ' := by
  refine ⟨h0.trans h.s0, h1.trans h.s1, ?_, ?_, ?_, ?_, ?_⟩
  · rw [h2, ← List.cons_append, lnsF_app, List.map_append]; rfl
  · rw [h3, mvF_app, List.map_append, mvF, mvF, List.append_nil]
  · rw [h4, csF_app, List.map_append, csF, csF, List.append_nil]
  · rw [h5, dpF_app]; rfl
  · exact h6
end
end Mine
end
section
open PySem PySem.W
namespace Mine
namespace L1
noncomputable def laid.p0 : MS :=
  .unp [2, 3, 4, 5, 6] [(true, (.lst [(.bin .add (.bin .mul (.k (.str [32])) (.loc 1)) (.k (.str [107, 40])))])), (true, (.lst [])), (true, (.lst [])), (false, (.k (.int 1))), (false, (.k (.bool true)))]
noncomputable def laid.b0 : MS :=
  .asg 8 (.bin .mod (.call 0 [(.loc 0), (.bin .add (.k (.int 2)) (.loc 7))]) (.k (.int 4)))
noncomputable def laid.b1 : MS :=
  .asg 9 (.bin .add (.loc 1) (.bin .mul (.k (.int 4)) (.loc 5)))
noncomputable def laid.b2 : MS :=
  .ifs (.and [(.cmp .eq (.loc 8) (.k (.int 0))), (.cmp .lt (.loc 5) (.k (.int 4)))])
      [.app 2 (.bin .add (.bin .mul (.k (.str [32])) (.loc 9)) (.k (.str [107, 40]))),
      .unpR [5, 6] [(false, (.bin .add (.loc 5) (.k (.int 1)))), (false, (.k (.bool true)))]]
      [.ifs (.and [(.cmp .eq (.loc 8) (.k (.int 1))), (.cmp .gt (.loc 5) (.k (.int 1))), (.not (.loc 6))])
        [.asg 5 (.bin .sub (.loc 5) (.k (.int 1))),
        .app 4 (.len (.bor 2)),
        .app 2 (.bin .add (.bin .mul (.k (.str [32])) (.bin .add (.loc 1) (.bin .mul (.k (.int 4)) (.loc 5)))) (.k (.str [41, 44])))]
        [.ifs (.not (.loc 6))
          [.app 3 (.tup [(.len (.bor 2)), (.bin .sub (.loc 9) (.k (.int 4)))])]
          [],
        .app 2 (.bin .add (.bin .mul (.k (.str [32])) (.loc 9)) (.k (.str [98, 44]))),
        .asg 6 (.k (.bool false))]]
noncomputable def laid.p2 : MS :=
  .ifs (.loc 6)
    [.app 2 (.bin .add (.bin .mul (.k (.str [32])) (.bin .add (.loc 1) (.bin .mul (.k (.int 4)) (.loc 5)))) (.k (.str [98, 44])))]
    []
noncomputable def laid.w0 : MS :=
  .asg 5 (.bin .sub (.loc 5) (.k (.int 1)))
noncomputable def laid.w1 : MS :=
  .app 4 (.len (.bor 2))
noncomputable def laid.w2 : MS :=
  .app 2 (.bin .add (.bin .mul (.k (.str [32])) (.bin .add (.loc 1) (.bin .mul (.k (.int 4)) (.loc 5)))) (.ite (.cmp .gt (.loc 5) (.k (.int 0))) (.k (.str [41, 44])) (.k (.str [41]))))
theorem laid.ms_eq : laid.ms = [laid.p0, .forUp 7 (.k (.int 0)) (.min2 (.k (.int 14)) (.max2 (.k (.int 3)) (.len (.loc 0)))) [laid.b0, laid.b1, laid.b2], laid.p2, .whil (.cmp .gt (.loc 5) (.k (.int 0))) [laid.w0, laid.w1, laid.w2], .freeze 2, .freeze 3, .freeze 4, .ret (.tup [(.loc 2), (.loc 3), (.loc 4)])] := rfl
end L1
end Mine
end
section
open PySem PySem.W
namespace Mine
namespace L1
theorem cell1 {ns : List Int} {σ : St} {k i : Nat} {b : ME} (hn : ns.length ≤ 63) (h0 : σ i = some (.val (.lst (ns.map .int)))) (hb : qM Γ1 σ b = some (.int (k : Int))) (hk : k ≤ 1000) : qM Γ1 σ (.call 0 [.loc i, b]) = some (.int (cl ns k : Int)) :=
  mcall (mco (yD h0) (mco hb mnil')) (cell_ok hn hk)
section
variable {ns : List Int} {m : Nat} {L : List RK} {g : Bool} {σ : St}
theorem row_tx {Γ : xB} {e : ME} {c : Nat} {w : List Nat} (h : qM Γ σ e = some (.int (c : Int))) (hc : c ≤ 1000) (hw : w.length ≤ 2) : qM Γ σ (.bin .add (.bin .mul (.k (.str [32])) e) (.k (.str w))) = some (.str (List.replicate c 32 ++ w)) :=
  mbin (mbin mk h (mulStr (by omega))) mk (addStr (by rw [List.length_replicate]; omega))
theorem inner_ok {Γ : xB} {d : Nat} (h1 : σ 1 = some (.val (.int (m : Int)))) (h5 : σ 5 = some (.val (.int (d : Int)))) (hd : d ≤ 1000) : qM Γ σ (.bin .add (.loc 1) (.bin .mul (.k (.int 4)) (.loc 5))) = some (.int ((m + 4 * d : Nat) : Int)) := by
  have e : qM Γ σ (.bin .mul (.k (.int 4)) (.loc 5)) = some (.int ((4 * d : Nat) : Int)) := mbin mk (yD h5) (by
    show (if small 4 && small (d : Int) then some (PV.int (4 * (d : Int))) else none) = _
    rw [small_nat (by omega)]; rfl)
  exact madd (yD h1) e rfl
theorem lnl (hL : L.length ≤ 900) : ((yL m 0 (.op :: L)).map PV.str).length ≤ SZ := by
  rw [List.length_map, lnsF_len]
  show L.length + 1 ≤ 100000
  omega
theorem turn_ok (hn : ns.length ≤ 63) (hm : m ≤ 100) (h : LD ns m L (frF true L) σ) (P : LP m L) (h1 : 1 ≤ dpF 1 L) (hL : L.length ≤ 900) {k : Nat} (hk : k ≤ 900) :
    ∃ σ' x, qP Γ1 FU (σ.set 7 (.val (.int (k : Int)))) [laid.b0, laid.b1, laid.b2] = some (.next, σ') ∧ LD ns m (L ++ [x]) (frF true (L ++ [x])) σ' ∧ LP m (L ++ [x]) ∧ 1 ≤ dpF 1 (L ++ [x]) := by
  have h7 := h.scratch (Nat.le_refl 7) (.val (.int (k : Int)))
  have k7 := xG σ 7 (.val (.int (k : Int)))
  generalize σ.set 7 (.val (.int (k : Int))) = σ0 at *
  have d4 := P.d4
  have e0 : qN Γ1 FU σ0 laid.b0 = some (.next, σ0.set 8 (.val (.int ((cl ns (2 + k) % 4 : Nat) : Int)))) := masg (mmod (n := 4) (cell1 hn h7.s0 (madd (x := 2) mk (yD k7) rfl) (by omega)) (by decide))
  have h8 := h7.scratch (j := 8) (by decide) (.val (.int ((cl ns (2 + k) % 4 : Nat) : Int)))
  have k8 := xG σ0 8 (.val (.int ((cl ns (2 + k) % 4 : Nat) : Int)))
  generalize σ0.set 8 (.val (.int ((cl ns (2 + k) % 4 : Nat) : Int))) = σ1 at *
  generalize cl ns (2 + k) % 4 = kd at *
  have e1 : qN Γ1 FU σ1 laid.b1 = some (.next, σ1.set 9 (.val (.int ((m + 4 * dpF 1 L : Nat) : Int)))) := masg (inner_ok h8.s1 h8.s5 (by omega))
  have h9 := h8.scratch (j := 9) (by decide) (.val (.int ((m + 4 * dpF 1 L : Nat) : Int)))
  have k9 := xG σ1 9 (.val (.int ((m + 4 * dpF 1 L : Nat) : Int)))
  have k8' : (σ1.set 9 (.val (.int ((m + 4 * dpF 1 L : Nat) : Int)))) 8 = some (.val (.int (kd : Int))) := k8
  generalize σ1.set 9 (.val (.int ((m + 4 * dpF 1 L : Nat) : Int))) = τ at *
  have hll := lnl (m := m) hL
  have fr1 : ∀ x : RK, frF true (L ++ [x]) = x.fr := fun x => by rw [frF_app]; rfl
  have dp1 : ∀ x : RK, dpF 1 (L ++ [x]) = x.dp (dpF 1 L) := fun x => by rw [dpF_app]; rfl
  have hA : qR Γ1 τ (.and [(.cmp .eq (.loc 8) (.k (.int 0))), (.cmp .lt (.loc 5) (.k (.int 4)))]) = some (decide (kd = 0) && decide (dpF 1 L < 4)) :=
    tand2 (teq (y := 0) (yD k8') mk rfl) (tlt (y := 4) (yD h9.s5) mk rfl) (by congr 1 <;> apply decide_eq_decide.mpr <;> omega)
  have hB : qR Γ1 τ (.and [(.cmp .eq (.loc 8) (.k (.int 1))), (.cmp .gt (.loc 5) (.k (.int 1))), (.not (.loc 6))]) = some (decide (kd = 1) && (decide (dpF 1 L > 1) && !(frF true L))) := by
    rw [tand3 (teq (y := 1) (yD k8') mk rfl) (tgt (y := 1) (yD h9.s5) mk rfl) (tnot (tlocb h9.s6))]
    congr 2
    · apply decide_eq_decide.mpr; omega
    · congr 1
      apply decide_eq_decide.mpr; omega
  cases hA' : (decide (kd = 0) && decide (dpF 1 L < 4)) with
  | true =>
    rw [hA'] at hA
    simp only [Bool.and_eq_true, decide_eq_true_eq] at hA'
    have a1 : qN Γ1 FU τ (.app 2 (.bin .add (.bin .mul (.k (.str [32])) (.loc 9)) (.k (.str [107, 40])))) = some (.next, τ.set 2 (.own ((yL m 0 (.op :: L)).map .str ++ [.str (RK.op.tx m (dpF 1 L))]))) := mapp1 h9.s2 (row_tx (c := m + 4 * dpF 1 L) (yD k9) (by omega) (by decide)) hll
    have k5 : (τ.set 2 (.own ((yL m 0 (.op :: L)).map .str ++ [.str (RK.op.tx m (dpF 1 L))]))) 5 = _ := h9.s5
    refine ⟨_, .op, yV e0 (yV e1 (mo (mifT hA (yV a1 (mo (munpR2 (madd (y := 1) (yD k5) mk rfl) mk)))))), ?_, P.snoc hm .op h1 trivial (by show dpF 1 L + 1 ≤ 4; omega), by rw [dp1]; show 1 ≤ dpF 1 L + 1; omega⟩
    rw [fr1]
    refine h9.row .op ?_ ?_ ?_ (by rw [show RK.mv m (dpF 1 L) (frF true L) (1 + L.length) .op = [] from rfl, List.map_nil, List.append_nil]; exact h9.s3) (by rw [show RK.cs (1 + L.length) .op = [] from rfl, List.map_nil, List.append_nil]; exact h9.s4) ?_ ?_ <;> rfl
  | false =>
    rw [hA'] at hA
    cases hB' : (decide (kd = 1) && (decide (dpF 1 L > 1) && !(frF true L))) with
    | true =>
      rw [hB'] at hB
      simp only [Bool.and_eq_true, decide_eq_true_eq] at hB'
      have a1 : qN Γ1 FU τ (.asg 5 (.bin .sub (.loc 5) (.k (.int 1)))) = some (.next, τ.set 5 (.val (.int ((dpF 1 L - 1 : Nat) : Int)))) := masg (mbin (yD h9.s5) mk (by show some (PV.int ((dpF 1 L : Int) - 1)) = _; congr 2; omega))
      have k5 := xG τ 5 (.val (.int ((dpF 1 L - 1 : Nat) : Int)))
      have n5 : ∀ j, j ≠ 5 → (τ.set 5 (.val (.int ((dpF 1 L - 1 : Nat) : Int)))) j = τ j := fun j hj => yK hj
      generalize τ.set 5 (.val (.int ((dpF 1 L - 1 : Nat) : Int))) = τ1 at *
      have q4 := (n5 4 (by decide)).trans h9.s4
      have q2 := (n5 2 (by decide)).trans h9.s2
      have a2 : qN Γ1 FU τ1 (.app 4 (.len (.bor 2))) = some (.next, τ1.set 4 (.own ((csF 1 L).map (fun (k : Nat) => PV.int (k : Int)) ++ [.int ((1 + L.length : Nat) : Int)]))) :=
        mapp1 q4 (by
          rw [q_len, xbor q2]
          show (if ((yL m 0 (.op :: L)).map PV.str).length ≤ SZ then some (PV.int _) else none) = _
          rw [if_pos hll, List.length_map, lnsF_len, List.length_cons, Nat.add_comm]) (by rw [List.length_map]; have := csF_len (l := L) (i := 1); show _ ≤ 100000; omega)
      have n4 : ∀ j, j ≠ 4 → (τ1.set 4 (.own ((csF 1 L).map (fun (k : Nat) => PV.int (k : Int)) ++ [.int ((1 + L.length : Nat) : Int)]))) j = τ1 j := fun j hj => yK hj
      have k4 := xG τ1 4 (.own ((csF 1 L).map (fun (k : Nat) => PV.int (k : Int)) ++ [.int ((1 + L.length : Nat) : Int)]))
      generalize τ1.set 4 (.own ((csF 1 L).map (fun (k : Nat) => PV.int (k : Int)) ++ [.int ((1 + L.length : Nat) : Int)])) = τ2 at *
      have htx : RK.cl.tx m (dpF 1 L) = List.replicate (m + 4 * (dpF 1 L - 1)) 32 ++ [41, 44] := by
        unfold RK.tx
        rw [show RK.cl.sg (dpF 1 L) = [41, 44] from if_neg (by omega)]; rfl
      have a3 : qN Γ1 FU τ2 (.app 2 (.bin .add (.bin .mul (.k (.str [32])) (.bin .add (.loc 1) (.bin .mul (.k (.int 4)) (.loc 5)))) (.k (.str [41, 44])))) = some (.next, τ2.set 2 (.own ((yL m 0 (.op :: L)).map .str ++ [.str (RK.cl.tx m (dpF 1 L))]))) :=
        mapp1 ((n4 2 (by decide)).trans q2) (by rw [htx]; exact row_tx (inner_ok ((n4 1 (by decide)).trans ((n5 1 (by decide)).trans h9.s1)) ((n4 5 (by decide)).trans k5) (by omega)) (by omega) (by decide)) hll
      have nn : ∀ j, j ≠ 2 → j ≠ 4 → j ≠ 5 → (τ2.set 2 (.own ((yL m 0 (.op :: L)).map .str ++ [.str (RK.cl.tx m (dpF 1 L))]))) j = τ j := fun j a b c => (yK a).trans ((n4 j b).trans (n5 j c))
      refine ⟨_, .cl, yV e0 (yV e1 (mo (mifF hA (mo (mifT hB (yV a1 (yV a2 (mo a3)))))))), ?_, P.snoc hm .cl h1 trivial (by show dpF 1 L - 1 ≤ 4; omega), by rw [dp1]; show 1 ≤ dpF 1 L - 1; omega⟩
      rw [fr1]
      refine h9.row .cl (nn 0 (by decide) (by decide) (by decide)) (nn 1 (by decide) (by decide) (by decide)) (xG ..) ?_ ?_ ?_ ?_
      · rw [show RK.mv m (dpF 1 L) (frF true L) (1 + L.length) .cl = [] from rfl, List.map_nil, List.append_nil]; exact (nn 3 (by decide) (by decide) (by decide)).trans h9.s3
      · exact (yK (by decide)).trans k4
      · exact (yK (by decide)).trans ((n4 5 (by decide)).trans k5)
      · rw [nn 6 (by decide) (by decide) (by decide), h9.s6, show frF true L = false by simpa using hB'.2.2]; rfl
    | false =>
      rw [hB'] at hB
      -- an argument
      have mid : ∃ τ1, qN Γ1 FU τ (.ifs (.not (.loc 6)) [.app 3 (.tup [(.len (.bor 2)), (.bin .sub (.loc 9) (.k (.int 4)))])] []) = some (.next, τ1) ∧ (∀ j, j ≠ 3 → τ1 j = τ j) ∧
          τ1 3 = some (.own ((mvF m 1 true 1 L).map (fun q => PV.tup [.int (q.1 : Int), .int (q.2 : Int)]) ++ ((RK.b (m + 4 * dpF 1 L)).mv m (dpF 1 L) (frF true L) (1 + L.length)).map fun q => PV.tup [.int (q.1 : Int), .int (q.2 : Int)])) := by
        have T := tnot (Γ := Γ1) (tlocb h9.s6)
        cases hf : frF true L with
        | true =>
          rw [hf] at T
          exact ⟨τ, mifF T mnil, fun _ _ => rfl, by rw [show RK.mv m (dpF 1 L) true (1 + L.length) (.b (m + 4 * dpF 1 L)) = [] from rfl, List.map_nil, List.append_nil]; exact h9.s3⟩
        | false =>
          rw [hf] at T
          refine ⟨_, mifT T (mo (mapp1 h9.s3 (mtup2 (h9.len (by omega)) (mbin (yD k9) mk (r := some (.int ((m + 4 * (dpF 1 L - 1) : Nat) : Int))) (by show some (PV.int (((m + 4 * dpF 1 L : Nat) : Int) - 4)) = _; congr 2; omega))) (by rw [List.length_map]; have := mvF_len (m := m) (l := L) (d := 1) (i := 1) (f := true); show _ ≤ 100000; omega))), fun j hj => yK hj, xG ..⟩
      obtain ⟨τ1, a1, n3, k3⟩ := mid
      have a2 : qN Γ1 FU τ1 (.app 2 (.bin .add (.bin .mul (.k (.str [32])) (.loc 9)) (.k (.str [98, 44])))) = some (.next, τ1.set 2 (.own ((yL m 0 (.op :: L)).map .str ++ [.str ((RK.b (m + 4 * dpF 1 L)).tx m (dpF 1 L))]))) := mapp1 ((n3 2 (by decide)).trans h9.s2) (row_tx (c := m + 4 * dpF 1 L) (yD ((n3 9 (by decide)).trans k9)) (by omega) (by decide)) hll
      refine ⟨_, .b (m + 4 * dpF 1 L), yV e0 (yV e1 (mo (mifF hA (mo (mifF hB (yV a1 (yV a2 (mo (masg mk))))))))), ?_, P.snoc hm _ h1 ⟨rfl, d4⟩ d4, by rw [dp1]; exact h1⟩
      rw [fr1]
      refine h9.row _ ?_ ?_ ?_ ?_ ?_ ?_ ?_
      · exact n3 0 (by decide)
      · exact n3 1 (by decide)
      · rfl
      · exact k3
      · rw [show RK.cs (1 + L.length) (.b (m + 4 * dpF 1 L)) = [] from rfl, List.map_nil, List.append_nil]
        exact (n3 4 (by decide)).trans h9.s4
      · exact (n3 5 (by decide)).trans h9.s5
      · rfl
end
end L1
end Mine
end
section
open PySem PySem.W
namespace Mine
namespace L1
section
variable {ns : List Int} {m : Nat}
theorem loop_laid (hn : ns.length ≤ 63) (hm : m ≤ 100) : ∀ {xs : List Nat} {L : List RK} {σ : St}, LD ns m L (frF true L) σ → LP m L → 1 ≤ dpF 1 L → L.length + xs.length ≤ 900 → (∀ k ∈ xs, k ≤ 900) →
    ∃ σ' L', jX (fun σ => qP Γ1 FU σ [laid.b0, laid.b1, laid.b2]) (xK [7]) (xs.map fun (k : Nat) => PV.int (k : Int)) σ = some (.next, σ') ∧ LD ns m L' (frF true L') σ' ∧ LP m L' ∧ 1 ≤ dpF 1 L' ∧ L'.length = L.length + xs.length
  | [], L, σ, h, P, h1, _, _ => ⟨σ, L, rfl, h, P, h1, rfl⟩
  | k :: xs, L, σ, h, P, h1, hl, hk => by
    rw [List.length_cons] at hl
    obtain ⟨σ1, x, e1, h2, P2, h3⟩ := turn_ok hn hm h P h1 (by omega) (hk k (.head _))
    obtain ⟨σ2, L', e2, h4, P4, h5, h6⟩ := loop_laid hn hm h2 P2 h3 (by rw [List.length_append, List.length_singleton]; omega) fun y hy => hk y (.tail _ hy)
    refine ⟨σ2, L', ?_, h4, P4, h5, by rw [h6, List.length_append, List.length_singleton, List.length_cons]; omega⟩
    rw [List.map_cons, jX]
    simp only [qt, e1]
    exact e2
theorem tail_laid {g : Bool} (hm : m ≤ 100) : ∀ {j fu : Nat} {L : List RK} {σ : St}, LD ns m L g σ → LP m L → dpF 1 L = j → j < fu → L.length + j ≤ 800 →
    ∃ σ' L', jW (fun σ => qR Γ1 σ (.cmp .gt (.loc 5) (.k (.int 0)))) (fun σ => qP Γ1 FU σ [laid.w0, laid.w1, laid.w2]) fu σ = some (.next, σ') ∧ LD ns m L' g σ' ∧ LP m L' ∧ L'.length = L.length + j
  | j, 0, L, σ, _, _, _, hf, _ => absurd hf (Nat.not_lt_zero _)
  | 0, fu + 1, L, σ, h, P, hd, _, _ => by
    refine ⟨σ, L, ?_, h, P, rfl⟩
    have T : qR Γ1 σ (.cmp .gt (.loc 5) (.k (.int 0))) = some false := tgt (y := 0) (yD h.s5) mk (by rw [hd]; rfl)
    simp only [jW, T]
  | j + 1, fu + 1, L, σ, h, P, hd, hf, hl => by
    have d4 := P.d4
    have hll := lnl (m := m) (L := L) (by omega)
    have T : qR Γ1 σ (.cmp .gt (.loc 5) (.k (.int 0))) = some true := tgt (y := 0) (yD h.s5) mk (decide_eq_true (by rw [hd]; omega))
    have a1 : qN Γ1 FU σ laid.w0 = some (.next, σ.set 5 (.val (.int ((dpF 1 L - 1 : Nat) : Int)))) := masg (mbin (yD h.s5) mk (by show some (PV.int ((dpF 1 L : Int) - 1)) = _; congr 2; omega))
    have k5 := xG σ 5 (.val (.int ((dpF 1 L - 1 : Nat) : Int)))
    have n5 : ∀ j, j ≠ 5 → (σ.set 5 (.val (.int ((dpF 1 L - 1 : Nat) : Int)))) j = σ j := fun j hj => yK hj
    generalize σ.set 5 (.val (.int ((dpF 1 L - 1 : Nat) : Int))) = τ1 at *
    have q4 := (n5 4 (by decide)).trans h.s4
    have q2 := (n5 2 (by decide)).trans h.s2
    have a2 : qN Γ1 FU τ1 laid.w1 = some (.next, τ1.set 4 (.own ((csF 1 L).map (fun (k : Nat) => PV.int (k : Int)) ++ [.int ((1 + L.length : Nat) : Int)]))) :=
      mapp1 q4 (by
        rw [q_len, xbor q2]
        show (if ((yL m 0 (.op :: L)).map PV.str).length ≤ SZ then some (PV.int _) else none) = _
        rw [if_pos hll, List.length_map, lnsF_len, List.length_cons, Nat.add_comm]) (by rw [List.length_map]; have := csF_len (l := L) (i := 1); show _ ≤ 100000; omega)
    have n4 : ∀ j, j ≠ 4 → (τ1.set 4 (.own ((csF 1 L).map (fun (k : Nat) => PV.int (k : Int)) ++ [.int ((1 + L.length : Nat) : Int)]))) j = τ1 j := fun j hj => yK hj
    have k4 := xG τ1 4 (.own ((csF 1 L).map (fun (k : Nat) => PV.int (k : Int)) ++ [.int ((1 + L.length : Nat) : Int)]))
    generalize τ1.set 4 (.own ((csF 1 L).map (fun (k : Nat) => PV.int (k : Int)) ++ [.int ((1 + L.length : Nat) : Int)])) = τ2 at *
    have a3 : qN Γ1 FU τ2 laid.w2 = some (.next, τ2.set 2 (.own ((yL m 0 (.op :: L)).map .str ++ [.str (RK.cl.tx m (dpF 1 L))]))) := by
      have p5 := (n4 5 (by decide)).trans k5
      refine mapp1 ((n4 2 (by decide)).trans q2) ?_ hll
      refine mbin (mbin mk (inner_ok ((n4 1 (by decide)).trans ((n5 1 (by decide)).trans h.s1)) p5 (by omega)) (mulStr (by omega))) (mite2 (v := decide (dpF 1 L - 1 > 0)) (z := .str (RK.cl.sg (dpF 1 L))) (tgt (y := 0) (yD p5) mk (by apply decide_eq_decide.mpr; omega)) mk mk ?_) (addStr (by rw [List.length_replicate]; have := RK.cl.sg_len (dpF 1 L); omega))
      by_cases e : dpF 1 L = 1
      · rw [e]; rfl
      · rw [decide_eq_true (by omega), if_pos rfl, show RK.cl.sg (dpF 1 L) = [41, 44] from if_neg e]
    have nn : ∀ j, j ≠ 2 → j ≠ 4 → j ≠ 5 → (τ2.set 2 (.own ((yL m 0 (.op :: L)).map .str ++ [.str (RK.cl.tx m (dpF 1 L))]))) j = σ j := fun j a b c => (yK a).trans ((n4 j b).trans (n5 j c))
    have LDn : LD ns m (L ++ [.cl]) g (τ2.set 2 (.own ((yL m 0 (.op :: L)).map .str ++ [.str (RK.cl.tx m (dpF 1 L))]))) := by
      refine h.row .cl (nn 0 (by decide) (by decide) (by decide)) (nn 1 (by decide) (by decide) (by decide)) (xG ..) ?_ ?_ ?_ ?_
      · rw [show RK.mv m (dpF 1 L) (frF true L) (1 + L.length) .cl = [] from rfl, List.map_nil, List.append_nil]; exact (nn 3 (by decide) (by decide) (by decide)).trans h.s3
      · exact (yK (by decide)).trans k4
      · exact (yK (by decide)).trans ((n4 5 (by decide)).trans k5)
      · exact (nn 6 (by decide) (by decide) (by decide)).trans h.s6
    have Pn := P.snoc hm .cl (by omega) trivial (show dpF 1 L - 1 ≤ 4 by omega)
    obtain ⟨σ', L', e2, h4, P4, h6⟩ := tail_laid hm (j := j) (fu := fu) LDn Pn (by rw [dpF_app]; show dpF 1 L - 1 = j; omega) (by omega) (by rw [List.length_append, List.length_singleton]; omega)
    refine ⟨σ', L', ?_, h4, P4, by rw [h6, List.length_append, List.length_singleton]; omega⟩
    simp only [jW, T, yV a1 (yV a2 (mo a3))]
    exact e2
theorem laid_ok (hn : ns.length ≤ 63) (hm : m ≤ 100) : ∃ L, Lay m 1 true L ∧ Pl m 1 L ∧ L ≠ [] ∧ L.length ≤ 19 ∧
    Γ2 3 [.lst (ns.map .int), .int (m : Int)] = some (.tup [.lst ((yL m 0 (.op :: L)).map .str), .lst ((mvF m 1 true 1 L).map fun q => .tup [.int (q.1 : Int), .int (q.2 : Int)]), .lst ((csF 1 L).map fun (k : Nat) => PV.int (k : Int))]) := by
  generalize hσ : xD [.lst (ns.map .int), .int (m : Int)] = σ
  have k0 : σ 0 = some (.val (.lst (ns.map .int))) := by rw [← hσ]; rfl
  have k1 : σ 1 = some (.val (.int (m : Int))) := by rw [← hσ]; rfl
  have e0 : qN Γ1 FU σ laid.p0 = some (.next, ((((σ.set 2 (.own [.str (List.replicate m 32 ++ [107, 40])])).set 3 (.own [])).set 4 (.own [])).set 5 (.val (.int 1))).set 6 (.val (.bool true))) := by
    have q1 : qM Γ1 σ (.lst [(.bin .add (.bin .mul (.k (.str [32])) (.loc 1)) (.k (.str [107, 40])))]) = some (.lst [.str (List.replicate m 32 ++ [107, 40])]) := mlst1 (row_tx (yD k1) (by omega) (by decide))
    simp only [laid.p0, qx, List.map_cons, List.map_nil, qs, q1, mlst0, mk]
    rfl
  have h0 : LD ns m [] (frF true []) (((((σ.set 2 (.own [.str (List.replicate m 32 ++ [107, 40])])).set 3 (.own [])).set 4 (.own [])).set 5 (.val (.int 1))).set 6 (.val (.bool true))) := ⟨k0, k1, rfl, rfl, rfl, rfl, rfl⟩
  generalize ((((σ.set 2 (.own [.str (List.replicate m 32 ++ [107, 40])])).set 3 (.own [])).set 4 (.own [])).set 5 (.val (.int 1))).set 6 (.val (.bool true)) = σ0 at *
  obtain ⟨N, hN, hN3, hN14⟩ : ∃ N : Nat, qM Γ1 σ0 (.min2 (.k (.int 14)) (.max2 (.k (.int 3)) (.len (.loc 0)))) = some (.int (N : Int)) ∧ 3 ≤ N ∧ N ≤ 14 := by
    have l1 : qM Γ1 σ0 (.len (.loc 0)) = some (.int (ns.length : Int)) := by
      have := mlen (Γ := Γ1) (yD h0.s0) (by rw [List.length_map]; omega)
      rw [List.length_map] at this; exact this
    have l2 : qM Γ1 σ0 (.max2 (.k (.int 3)) (.len (.loc 0))) = some (.int ((max 3 ns.length : Nat) : Int)) := mmax mk l1 (by split <;> omega)
    refine ⟨min 14 (max 3 ns.length), ?_, by omega, by omega⟩
    show (match qM Γ1 σ0 (.k (.int 14)), qM Γ1 σ0 (.max2 (.k (.int 3)) (.len (.loc 0))) with | some (.int x), some (.int y) => some (PV.int (if y < x then y else x)) | z_, y_ => none) = _
    rw [l2]
    show some (PV.int (if ((max 3 ns.length : Nat) : Int) < 14 then ((max 3 ns.length : Nat) : Int) else 14)) = _
    congr 2
    split <;> omega
  obtain ⟨σ1, L1, e1, h1, P1, d1, l1⟩ := loop_laid hn hm (xs := List.range' 0 N) h0 ⟨trivial, trivial, by decide⟩ (by decide) (by rw [List.length_range', List.length_nil]; omega) fun k hk => by
    rw [List.mem_range'_1] at hk; omega
  rw [List.length_range', List.length_nil, Nat.zero_add] at l1
  have E1 : qN Γ1 FU σ0 (.forUp 7 (.k (.int 0)) (.min2 (.k (.int 14)) (.max2 (.k (.int 3)) (.len (.loc 0)))) [laid.b0, laid.b1, laid.b2]) = some (.next, σ1) := by
    have : itemsUp Γ1 σ0 (.k (.int 0)) (.min2 (.k (.int 14)) (.max2 (.k (.int 3)) (.len (.loc 0)))) = some ((List.range' 0 N).map fun (k : Nat) => PV.int (k : Int)) := by
      have sm : (small 0 && small (N : Int)) = true := by rw [small_nat (by omega)]; rfl
      simp only [itemsUp, mk, hN, sm, if_true, rangeUp_0]
    rw [x_forUp, this]
    exact e1
  obtain ⟨σ2, L2, E2, h2, P2, d2, l2⟩ : ∃ σ2 L2, qN Γ1 FU σ1 laid.p2 = some (.next, σ2) ∧ LD ns m L2 (frF true L1) σ2 ∧ LP m L2 ∧ 1 ≤ dpF 1 L2 ∧ L1.length ≤ L2.length ∧ L2.length ≤ L1.length + 1 := by
    have T := tlocb (Γ := Γ1) h1.s6
    have d4 := P1.d4
    cases hf : frF true L1 with
    | false =>
      rw [hf] at T h1
      exact ⟨σ1, L1, mifF T mnil, h1, P1, d1, Nat.le_refl _, Nat.le_succ _⟩
    | true =>
      rw [hf] at T h1
      have a1 := mapp1 (Γ := Γ1) (fu := FU) h1.s2 (row_tx (w := [98, 44]) (inner_ok h1.s1 h1.s5 (by omega)) (by omega) (by decide)) (lnl (by omega))
      refine ⟨_, L1 ++ [.b (m + 4 * dpF 1 L1)], mifT T (mo a1), ?_, P1.snoc hm (.b (m + 4 * dpF 1 L1)) d1 ⟨rfl, d4⟩ d4, by rw [dpF_app]; exact d1, by simp, by simp⟩
      refine h1.row _ ?_ ?_ ?_ ?_ ?_ ?_ ?_
      · rfl
      · rfl
      · rfl
      · rw [hf, show RK.mv m (dpF 1 L1) true (1 + L1.length) (.b (m + 4 * dpF 1 L1)) = [] from rfl, List.map_nil, List.append_nil]; exact h1.s3
      · rw [show RK.cs (1 + L1.length) (.b (m + 4 * dpF 1 L1)) = [] from rfl, List.map_nil, List.append_nil]; exact h1.s4
      · exact h1.s5
      · exact h1.s6
  have d4 := P2.d4
  obtain ⟨σ3, L3, e3, h3, P3, l3⟩ := tail_laid (ns := ns) hm (fu := FU) h2 P2 rfl (by show _ < 200; omega) (by omega)
  have E3 : qN Γ1 FU σ2 (.whil (.cmp .gt (.loc 5) (.k (.int 0))) [laid.w0, laid.w1, laid.w2]) = some (.next, σ3) := by rw [x_whil]; exact e3
  refine ⟨L3, P3.lay, P3.pl, fun e => by rw [e] at l3; simp at l3; omega, by omega, ?_⟩
  show jH Γ1 FU 2 laid.ms _ = _
  unfold jH
  rw [if_pos (by rfl), hσ, laid.ms_eq]
  have F1 : qN Γ1 FU σ3 (.freeze 2) = some (.next, σ3.set 2 (.val (.lst ((yL m 0 (.op :: L3)).map .str)))) := by simp only [qx, h3.s2]
  have q3 : (σ3.set 2 (.val (.lst ((yL m 0 (.op :: L3)).map .str)))) 3 = _ := h3.s3
  have q4 : (σ3.set 2 (.val (.lst ((yL m 0 (.op :: L3)).map .str)))) 4 = _ := h3.s4
  have q2 := xG σ3 2 (.val (.lst ((yL m 0 (.op :: L3)).map .str)))
  generalize σ3.set 2 (.val (.lst ((yL m 0 (.op :: L3)).map .str))) = σ4 at *
  have F2 : qN Γ1 FU σ4 (.freeze 3) = some (.next, σ4.set 3 (.val (.lst ((mvF m 1 true 1 L3).map fun q => .tup [.int (q.1 : Int), .int (q.2 : Int)])))) := by simp only [qx, q3]
  have r4 : (σ4.set 3 (.val (.lst ((mvF m 1 true 1 L3).map fun q => .tup [.int (q.1 : Int), .int (q.2 : Int)])))) 4 = _ := q4
  have r2 : (σ4.set 3 (.val (.lst ((mvF m 1 true 1 L3).map fun q => .tup [.int (q.1 : Int), .int (q.2 : Int)])))) 2 = _ := q2
  have r3 := xG σ4 3 (.val (.lst ((mvF m 1 true 1 L3).map fun q => .tup [.int (q.1 : Int), .int (q.2 : Int)])))
  generalize σ4.set 3 (.val (.lst ((mvF m 1 true 1 L3).map fun q => .tup [.int (q.1 : Int), .int (q.2 : Int)]))) = σ5 at *
  have F3 : qN Γ1 FU σ5 (.freeze 4) = some (.next, σ5.set 4 (.val (.lst ((csF 1 L3).map fun (k : Nat) => PV.int (k : Int))))) := by simp only [qx, r4]
  have F4 : qN Γ1 FU (σ5.set 4 (.val (.lst ((csF 1 L3).map fun (k : Nat) => PV.int (k : Int))))) (.ret (.tup [(.loc 2), (.loc 3), (.loc 4)])) = some (.ret (.tup [.lst ((yL m 0 (.op :: L3)).map .str), .lst ((mvF m 1 true 1 L3).map fun q => .tup [.int (q.1 : Int), .int (q.2 : Int)]),   .lst ((csF 1 L3).map fun (k : Nat) => PV.int (k : Int))]), σ5.set 4 (.val (.lst ((csF 1 L3).map fun (k : Nat) => PV.int (k : Int))))) := by
    rw [x_ret, mtup3 (yD ((yK (by decide)).trans r2)) (yD ((yK (by decide)).trans r3)) (yD (xG ..))]
  rw [yV e0 (yV E1 (yV E2 (yV E3 (yV F1 (yV F2 (yV F3 (mo F4)))))))]
end
end L1
end Mine
end
section
open PySem PySem.W
namespace Mine
theorem out4_app {mh : Bool} {m : Nat} : ∀ {l l' : List RK} {d : Nat} {r : Int}, yT mh m d r (l ++ l') = yT mh m d r l ++ yT mh m (dpF d l) (r + (l.length : Int)) l'
  | [], l', d, r => by rw [List.nil_append]; show _ = yT mh m d (r + 0) l'; rw [Int.add_zero]
  | x :: l, l', d, r => by
    rw [List.cons_append, yT, yT, out4_app, List.append_assoc]
    congr 2
    show yT mh m (dpF (x.dp d) l) (r + 1 + (l.length : Int)) l' = yT mh m (dpF (x.dp d) l) (r + ((l.length + 1 : Nat) : Int)) l'
    congr 1; omega
theorem out4_false {m : Nat} : ∀ {l : List RK} {d : Nat} {r : Int}, Pl m d l → yT false m d r l = []
  | [], _, _, _ => rfl
  | x :: l, d, r, h => by
    rw [yT, out4_false h.2, List.append_nil]
    cases x with
    | op => rfl
    | b c => exact if_pos h.1.1
    | cl => rfl
theorem out4_rows {mh : Bool} {m : Nat} : ∀ {l : List RK} {d : Nat} {r : Int}, ∃ K, RowsOf (yT mh m d r l) K ∧ K.Pairwise (· < ·) ∧ ∀ k ∈ K, r ≤ k ∧ k < r + (l.length : Int)
  | [], _, _ => ⟨[], .nil, .nil, nofun⟩
  | x :: l, d, r => by
    obtain ⟨K, h1, h2, h3⟩ := out4_rows (mh := mh) (m := m) (l := l) (d := x.dp d) (r := r + 1)
    have hx : ∃ K0, RowsOf (x.o4 mh m d r) K0 ∧ (K0 = [] ∨ K0 = [r]) := by
      cases x with
      | op => exact ⟨[], .nil, .inl rfl⟩
      | b c =>
        by_cases e : c = m + 4 * d
        · exact ⟨[], by show RowsOf (if c = m + 4 * d then [] else [_]) []; rw [if_pos e]; exact .nil, .inl rfl⟩
        · exact ⟨[r], by show RowsOf (if c = m + 4 * d then [] else [_]) [r]; rw [if_neg e]; exact .cons _ _ _ .nil, .inr rfl⟩
      | cl =>
        cases mh with
        | false => exact ⟨[], .nil, .inl rfl⟩
        | true => exact ⟨[r], .cons _ _ _ .nil, .inr rfl⟩
    obtain ⟨K0, h4, h5⟩ := hx
    refine ⟨K0 ++ K, h4.app h1, ?_, fun k hk => ?_⟩
    · rcases h5 with rfl | rfl
      · exact h2
      · exact List.pairwise_cons.mpr ⟨fun k hk => by have := (h3 k hk).1; omega, h2⟩
    · rw [List.length_cons]
      rcases List.mem_append.mp hk with hk | hk
      · rcases h5 with rfl | rfl
        · cases hk
        · rw [List.mem_singleton] at hk; subst hk; omega
      · have := h3 k hk; omega
theorem mv_dec {m : Nat} : ∀ {l : List RK} {d i : Nat} {f : Bool} {q : Nat × Nat}, q ∈ mvF m d f i l → ∃ A c B, l = A ++ .b c :: B ∧ q.1 = i + A.length ∧ q.2 = m + 4 * (dpF d A - 1) ∧ frF f A = false
  | [], _, _, _, _, h => nomatch h
  | x :: l, d, i, f, q, h => by
    rw [mvF] at h
    rcases List.mem_append.mp h with h | h
    · cases x with
      | op => cases h
      | cl => cases h
      | b c =>
        cases f with
        | true => cases h
        | false =>
          rw [show RK.mv m d false i (.b c) = [(i, m + 4 * (d - 1))] from rfl, List.mem_singleton] at h
          subst h
          exact ⟨[], c, l, rfl, rfl, rfl, rfl⟩
    · obtain ⟨A, c, B, e1, e2, e3, e4⟩ := mv_dec h
      refine ⟨x :: A, c, B, by rw [e1]; rfl, by rw [e2, List.length_cons]; omega, e3, e4⟩
theorem okD_mv {l : List (Nat × Nat)} : okD (.lst (l.map fun q => PV.tup [.int (q.1 : Int), .int (q.2 : Int)])) = true := by
  have h1 : jD (l.map fun q => PV.tup [.int (q.1 : Int), .int (q.2 : Int)]) = true ∧ PyData.canLayAll0 (yW (l.map fun q => PV.tup [.int (q.1 : Int), .int (q.2 : Int)])) = true ∧ PyData.depthAll (yW (l.map fun q => PV.tup [.int (q.1 : Int), .int (q.2 : Int)])) ≤ 3 := by
    induction l with
    | nil => exact ⟨rfl, rfl, by decide⟩
    | cons a l ih =>
      obtain ⟨i1, i2, i3⟩ := ih
      refine ⟨?_, ?_, ?_⟩
      · rw [List.map_cons, jD, i1]; rfl
      · simp [yW, yZ, PyData.canLayAll0, PyData.canLay0, i2]
      · simp [yW, yZ, PyData.depthAll, PyData.depth]
        omega
  obtain ⟨i1, i2, i3⟩ := h1
  unfold okD
  simp only [jF, i1, yZ, PyData.canLay0, i2, PyData.depth, Bool.and_self, Bool.true_and, decide_eq_true_eq]
  omega
theorem eq_nil {l : List (Nat × Nat)} : eqPV (.lst (l.map fun q => PV.tup [.int (q.1 : Int), .int (q.2 : Int)])) (.lst []) = some (decide (l = [])) := by
  unfold eqPV
  rw [okD_mv, show okD (.lst []) = true from rfl, Bool.and_self, if_pos rfl]
  cases l with
  | nil => rfl
  | cons a l => simp [yZ, yW, PyData.eqv, PyData.eqvAll]
theorem slc_drop {α : Type} (l : List α) (n : Nat) (h : n ≤ l.length) : jQ l (some (n : Int)) none = l.drop n := by
  unfold jQ clampI
  dsimp only
  rw [if_neg (by omega), Int.toNat_natCast, Nat.min_eq_left h, List.take_of_length_le (by simp)]
namespace L1
theorem due_map {m : Nat} {R : List (List Nat)} {σ : St} (h4 : σ 4 = some (.val (.lst (R.map .str)))) : ∀ {B A : List RK} {f : Bool}, R = yL m 0 (A ++ B) → Lay m (dpF 0 A) f B → Pl m (dpF 0 A) B → A.length + B.length ≤ 1000 →
    jJ (fun x => qM Γ2 (zJ σ x [4]) (.tup [(.tup [(.bin .add (.loc 0) (.k (.int 1))), (.bin .sub (.len (.idx (.loc 1) (.loc 0))) (.len (.meth .lstrip (.idx (.loc 1) (.loc 0)) [])))]), (.k (.str [69, 49, 51, 51]))])) ((csF A.length B).map fun (k : Nat) => PV.int (k : Int)) = some (yT true m (dpF 0 A) ((A.length + 1 : Nat) : Int) B)
  | [], A, f, _, _, _, _ => rfl
  | x :: B, A, f, hR, hL, hP, hl => by
    rw [List.length_cons] at hl
    have ih := due_map h4 (B := B) (A := A ++ [x]) (f := x.fr) (by rw [hR, List.append_assoc]; rfl) (by rw [dpF_app]; exact hL.2) (by rw [dpF_app]; exact hP.2) (by rw [List.length_append, List.length_singleton]; omega)
    rw [List.length_append, List.length_singleton, dpF_app] at ih
    rw [csF, yT, List.map_append]
    refine mapO_app ?_ ih
    cases x with
    | op => rfl
    | b c => rw [show RK.o4 true m (dpF 0 A) ((A.length + 1 : Nat) : Int) (.b c) = [] from if_pos hP.1.1]; rfl
    | cl =>
      obtain ⟨rest, htx, hrl⟩ : ∃ rest, RK.cl.tx m (dpF 0 A) = List.replicate (m + 4 * (dpF 0 A - 1)) 32 ++ 41 :: rest ∧ rest.length ≤ 2 := by
        unfold RK.tx
        by_cases e : dpF 0 A = 1
        · exact ⟨[], by rw [show RK.cl.sg (dpF 0 A) = [41] from if_pos e]; rfl, by decide⟩
        · exact ⟨[44], by rw [show RK.cl.sg (dpF 0 A) = [41, 44] from if_neg e]; rfl, by decide⟩
      have hc : m + 4 * (dpF 0 A - 1) ≤ 150 := hL.1.2.2.2
      generalize hcol : m + 4 * (dpF 0 A - 1) = col at *
      have hg : yN (R.map PV.str) (A.length : Int) = some (.str (List.replicate col 32 ++ 41 :: rest)) := by
        rw [xS, xT (by omega), hR, lnsF_app, List.getElem?_append_right (by rw [lnsF_len]; exact Nat.le_refl _), lnsF_len, Nat.sub_self, ← htx]; rfl
      have q0 : qM Γ2 (zJ σ (.int (A.length : Int)) [4]) (.loc 0) = some (.int (A.length : Int)) := yD rfl
      have q1 : qM Γ2 (zJ σ (.int (A.length : Int)) [4]) (.idx (.loc 1) (.loc 0)) = some (.str (List.replicate col 32 ++ 41 :: rest)) := xidx (yD h4) q0 hg
      have hst := lstrip_sp (n := col) (r := rest) sps.2.2
      generalize hT : List.replicate col 32 ++ 41 :: rest = T at *
      have hTl : T.length = col + (rest.length + 1) := by rw [← hT]; simp
      have hz : SZ = 100000 := rfl
      have l1 : qM Γ2 (zJ σ (.int (A.length : Int)) [4]) (.len (.idx (.loc 1) (.loc 0))) = some (.int (T.length : Int)) := by
        rw [q_len, q1]
        show (if T.length ≤ SZ then some (PV.int _) else none) = _
        rw [if_pos (by omega)]
      have l2 : qM Γ2 (zJ σ (.int (A.length : Int)) [4]) (.len (.meth .lstrip (.idx (.loc 1) (.loc 0)) [])) = some (.int ((41 :: rest).length : Int)) := by
        have : qM Γ2 (zJ σ (.int (A.length : Int)) [4]) (.meth .lstrip (.idx (.loc 1) (.loc 0)) []) = some (.str (41 :: rest)) := by
          rw [q_meth, q1, mnil']
          show (if T.length ≤ SZ then some (PV.str _) else none) = _
          rw [if_pos (by omega), hst]
        rw [q_len, this]
        show (if (41 :: rest).length ≤ SZ then some (PV.int _) else none) = _
        rw [if_pos (by rw [List.length_cons]; omega)]
      have q2 : qM Γ2 (zJ σ (.int (A.length : Int)) [4]) (.bin .sub (.len (.idx (.loc 1) (.loc 0))) (.len (.meth .lstrip (.idx (.loc 1) (.loc 0)) []))) = some (.int (col : Int)) :=
        mbin l1 l2 (by show some (PV.int ((T.length : Int) - ((41 :: rest).length : Int))) = _; rw [hTl, List.length_cons]; congr 2; omega)
      have q3 : qM Γ2 (zJ σ (.int (A.length : Int)) [4]) (.bin .add (.loc 0) (.k (.int 1))) = some (.int ((A.length + 1 : Nat) : Int)) := madd q0 (y := 1) mk rfl
      show jJ _ [PV.int (A.length : Int)] = some [_]
      rw [mapO1, mtup2 (mtup2 q3 q2) mk, hcol]
      rfl
end L1
end Mine
end
section
open PySem PySem.W
namespace Mine
noncomputable def pvM (l : List (Nat × Nat)) : PV := .lst (l.map fun q => .tup [.int (q.1 : Int), .int (q.2 : Int)])
namespace L1
structure LW (ns : List Int) (m dr : Nat) (mh : Bool) (L : List RK) (σ : St) : Prop where
  s1 : σ 1 = some (.val (.int (m : Int)))
  s2 : σ 2 = some (.val (.int (dr : Int)))
  s3 : σ 3 = some (.val (.bool mh))
  s4 : σ 4 = some (.val (.lst ((yL m 0 (.op :: L)).map .str)))
  s5 : σ 5 = some (.val (pvM (mvF m 1 true 1 L)))
  s7 : σ 7 = some (.val (.lst (yT mh m 0 1 (.op :: L))))
theorem m1_ok {ns : List Int} (hn : ns.length ≤ 63) : ∃ σ m dr mh L, qP Γ2 FU (xD [.lst (ns.map .int)]) law.m1 = some (.next, σ) ∧ LW ns m dr mh L σ ∧ m ≤ 100 ∧ Lay m 1 true L ∧ Pl m 1 L ∧ L ≠ [] ∧ L.length ≤ 19 := by
  generalize hσ : xD [.lst (ns.map .int)] = σ
  have k0 : σ 0 = some (.val (.lst (ns.map .int))) := by rw [← hσ]; rfl
  have hm : 4 * (cl ns 0 % 3) ≤ 100 := by omega
  have c1 : qM Γ2 σ (.call 0 [.loc 0, .k (.int 1)]) = some (.int (cl ns 1 : Int)) := mcell hn k0 (k := 1) mk (by decide)
  have e1 : qN Γ2 FU σ law.m1[0] = some (.next, (σ.set 2 (.val (.int (cl ns 1 : Int)))).set 1 (.val (.int ((4 * (cl ns 0 % 3) : Nat) : Int)))) := by
    refine munpR2 (mbin mk (mmod (n := 3) (mcell hn k0 (k := 0) mk (by decide)) (by decide)) ?_) c1
    show (if small 4 && small ((cl ns 0 % 3 : Nat) : Int) then some (PV.int (4 * ((cl ns 0 % 3 : Nat) : Int))) else none) = _
    rw [small_nat (by omega)]; rfl
  generalize cl ns 1 = dr at *
  generalize 4 * (cl ns 0 % 3) = m at *
  generalize hτ : (σ.set 2 (.val (.int (dr : Int)))).set 1 (.val (.int (m : Int))) = τ at e1
  have t0 : τ 0 = some (.val (.lst (ns.map .int))) := by rw [← hτ]; exact k0
  have t1 : τ 1 = some (.val (.int (m : Int))) := by rw [← hτ]; rfl
  have t2 : τ 2 = some (.val (.int (dr : Int))) := by rw [← hτ]; rfl
  have e2 : qN Γ2 FU τ law.m1[1] = some (.next, τ.set 3 (.val (.bool (decide (dr % 2 = 1))))) := masg (veq (y := 1) (mmod (n := 2) (yD t2) (by decide)) mk (by apply decide_eq_decide.mpr; omega))
  generalize decide (dr % 2 = 1) = mh at *
  have u0 : (τ.set 3 (.val (.bool mh))) 0 = _ := t0
  have u1 : (τ.set 3 (.val (.bool mh))) 1 = _ := t1
  have u2 : (τ.set 3 (.val (.bool mh))) 2 = _ := t2
  have u3 := xG τ 3 (.val (.bool mh))
  generalize τ.set 3 (.val (.bool mh)) = υ at *
  obtain ⟨L, a1, a2, a3, a4, a5⟩ := laid_ok hn hm
  have e3 : qN Γ2 FU υ law.m1[2] = some (.next, ((υ.set 4 (.val (.lst ((yL m 0 (.op :: L)).map .str)))).set 5 (.val (pvM (mvF m 1 true 1 L)))).set 6 (.val (.lst ((csF 1 L).map fun (k : Nat) => PV.int (k : Int))))) := munpE3 (mcall (mco (yD u0) (mco (yD u1) mnil')) a5)
  generalize hφ : ((υ.set 4 (.val (.lst ((yL m 0 (.op :: L)).map .str)))).set 5 (.val (pvM (mvF m 1 true 1 L)))).set 6 (.val (.lst ((csF 1 L).map fun (k : Nat) => PV.int (k : Int)))) = φ at e3
  have v1 : φ 1 = some (.val (.int (m : Int))) := by rw [← hφ]; exact u1
  have v2 : φ 2 = some (.val (.int (dr : Int))) := by rw [← hφ]; exact u2
  have v3 : φ 3 = some (.val (.bool mh)) := by rw [← hφ]; exact u3
  have v4 : φ 4 = some (.val (.lst ((yL m 0 (.op :: L)).map .str))) := by rw [← hφ]; rfl
  have v5 : φ 5 = some (.val (pvM (mvF m 1 true 1 L))) := by rw [← hφ]; rfl
  have v6 : φ 6 = some (.val (.lst ((csF 1 L).map fun (k : Nat) => PV.int (k : Int)))) := by rw [← hφ]; rfl
  have e4 : qN Γ2 FU φ law.m1[3] = some (.next, φ.set 7 (.val (.lst (yT mh m 0 1 (.op :: L))))) := by
    refine masg ?_
    cases mh with
    | false =>
      rw [out4_false (l := .op :: L) ⟨trivial, a2⟩, q_ite, tlocb v3]
      exact mlst0
    | true =>
      rw [q_ite, tlocb v3]
      dsimp only
      have hcs := csF_len (l := L) (i := 1)
      rw [q_compL, yD v6]
      have hle : decide (((csF 1 L).map fun (k : Nat) => PV.int (k : Int)).length ≤ SZ) = true := decide_eq_true (by rw [List.length_map]; show _ ≤ 100000; omega)
      have hcap : ([4] : List Nat).all (fun i => (φ i).isSome) = true := by rw [List.all_cons, List.all_nil, v4]; rfl
      have := due_map v4 (A := [.op]) (B := L) (f := true) rfl a1 a2 (by rw [List.length_singleton]; omega)
      simp only [hle, hcap, Bool.and_self, if_true]
      rw [show csF ([RK.op].length) L = csF 1 L from rfl] at this
      rw [this]; rfl
  exact ⟨_, m, dr, mh, L, yV e1 (yV e2 (yV e3 (mo e4))), ⟨v1, v2, v3, v4, v5, rfl⟩, hm, a1, a2, a3, a4⟩
section
variable {ns : List Int} {m dr : Nat} {mh : Bool} {L : List RK} {σ : St}
theorem m3_none (h : LW ns m dr mh L σ) (e : mvF m 1 true 1 L = []) : qP Γ2 FU σ law.m3 = some (.ret (.bool true), σ) := by
  have T : qR Γ2 σ (.cmp .eq (.loc 5) (.lst [])) = some true := zT (yD h.s5) mlst0 (by show eqPV _ _ = _; rw [pvM, eq_nil, e]; rfl)
  have : qN Γ2 FU σ law.m3[0] = some (.ret (.bool true), σ) := mifT T (mo (by simp only [qx, mk]))
  have e : law.m3 = law.m3[0] :: law.m3.drop 1 := rfl
  rw [e, ms1, this]
theorem set_set (σ : St) (i : Nat) (v w : SV) : (σ.set i v).set i w = σ.set i w := by
  funext j; unfold St.set; split <;> rfl
theorem col_ok {o : Nat} {τ : St} (h9 : τ 9 = some (.val (.int (o : Int)))) (h2 : τ 2 = some (.val (.int (dr : Int)))) (ho : o ≤ 140) : ∃ c : Nat, c ≤ 150 ∧ c ≠ o + 4 ∧ qP Γ2 FU τ ((law.m3.drop 2).take 2) = some (.next, τ.set 10 (.val (.int (c : Int)))) := by
  have p1 : qM Γ2 τ (.bin .mod (.bin .div (.loc 2) (.k (.int 3))) (.k (.int 3))) = some (.int ((dr / 3 % 3 : Nat) : Int)) := mmod (n := 3) (mdiv (n := 3) (yD h2) (by decide) (by decide)) (by decide)
  have p2 : qM Γ2 τ (.bin .mod (.bin .div (.loc 2) (.k (.int 5))) (.k (.int 2))) = some (.int ((dr / 5 % 2 : Nat) : Int)) := mmod (n := 2) (mdiv (n := 5) (yD h2) (by decide) (by decide)) (by decide)
  have p3 : qM Γ2 τ (.bin .mod (.bin .div (.loc 2) (.k (.int 7))) (.k (.int 2))) = some (.int ((dr / 7 % 2 : Nat) : Int)) := mmod (n := 2) (mdiv (n := 7) (yD h2) (by decide) (by decide)) (by decide)
  have b1 : dr / 3 % 3 < 3 := Nat.mod_lt _ (by decide)
  have b2 : dr / 5 % 2 < 2 := Nat.mod_lt _ (by decide)
  have b3 : dr / 7 % 2 < 2 := Nat.mod_lt _ (by decide)
  generalize dr / 3 % 3 = p at *
  generalize dr / 5 % 2 = q at *
  generalize dr / 7 % 2 = t at *
  have q1 : qM Γ2 τ (.bin .add (.k (.int 1)) (.bin .mod (.bin .div (.loc 2) (.k (.int 3))) (.k (.int 3)))) = some (.int (1 + (p : Int))) := mbin mk p1 rfl
  have q2 : qM Γ2 τ (.ite (.cmp .eq (.bin .mod (.bin .div (.loc 2) (.k (.int 5))) (.k (.int 2))) (.k (.int 0))) (.k (.int 1)) (.bin .sub (.bin .sub (.k (.int 0)) (.k (.int 1))) (.bin .mod (.bin .div (.loc 2) (.k (.int 7))) (.k (.int 2))))) = some (.int (if q = 0 then 1 else -1 - (t : Int))) :=
    mite2 (v := decide (q = 0)) (teq (y := 0) p2 mk (by apply decide_eq_decide.mpr; omega)) mk (mbin (mbin mk mk rfl) p3 rfl) (by
      by_cases e : q = 0
      · rw [decide_eq_true e, if_pos rfl, if_pos e]
      · rw [decide_eq_false e, if_neg Bool.false_ne_true, if_neg e]; rfl)
  obtain ⟨e, e0, e1, e2, ee⟩ : ∃ e : Int, e ≠ 0 ∧ -6 ≤ e ∧ e ≤ 3 ∧ yP .mul (.int (1 + (p : Int))) (.int (if q = 0 then 1 else -1 - (t : Int))) = some (.int e) := by
    rcases (by omega : p = 0 ∨ p = 1 ∨ p = 2) with rfl | rfl | rfl <;> rcases (by omega : q = 0 ∨ q = 1) with rfl | rfl <;> rcases (by omega : t = 0 ∨ t = 1) with rfl | rfl <;> exact ⟨_, by decide, by decide, by decide, rfl⟩
  have q3 : qN Γ2 FU τ law.m3[2] = some (.next, τ.set 10 (.val (.int ((o : Int) + 4 + e)))) := masg (mbin (mbin (yD h9) mk rfl) (mbin q1 q2 ee) rfl)
  obtain ⟨c, hc⟩ : ∃ c : Nat, (if (0 : Int) < (o : Int) + 4 + e then (o : Int) + 4 + e else 0) = (c : Int) := ⟨((o : Int) + 4 + e).toNat, by split <;> omega⟩
  have q4 : qN Γ2 FU (τ.set 10 (.val (.int ((o : Int) + 4 + e)))) law.m3[3] = some (.next, (τ.set 10 (.val (.int ((o : Int) + 4 + e)))).set 10 (.val (.int (c : Int)))) := masg (mmax mk (yD (xG ..)) hc)
  rw [set_set] at q4
  exact ⟨c, by split at hc <;> omega, by split at hc <;> omega, yV q3 (mo q4)⟩
end
end L1
end Mine
end
section
open PySem PySem.W
namespace Mine
theorem okD_out {mh : Bool} {m d : Nat} {r : Int} {l : List RK} : okD (.lst (yT mh m d r l)) = true := okD_yG out4_yG.1
namespace L1
section
variable {ns : List Int} {m dr : Nat} {mh : Bool} {L : List RK} {σ : St}
theorem mslc {Γ : xB} {a : ME} {lo hi : Option ME} {R : List PV} {x y : Option Int} (ha : qM Γ σ a = some (.lst R)) (hl : mopt Γ σ lo = some x) (hh : mopt Γ σ hi = some y) (hR : R.length ≤ 100000) : qM Γ σ (.slc a lo hi) = some (.lst (jQ R x y)) := by
  rw [q_slc, ha, hl, hh]
  show (if R.length ≤ SZ then some (PV.lst _) else none) = _
  rw [if_pos hR]
theorem m3_some (h : LW ns m dr mh L σ) (ne : mvF m 1 true 1 L ≠ []) (hm : m ≤ 100) (hL : Lay m 1 true L) (hP : Pl m 1 L) (hl : L.length ≤ 19) : PureE σ := by
  have T : qR Γ2 σ (.cmp .eq (.loc 5) (.lst [])) = some false := zT (yD h.s5) mlst0 (by show eqPV _ _ = _; rw [pvM, eq_nil, decide_eq_false ne])
  have e0 : qN Γ2 FU σ law.m3[0] = some (.next, σ) := mifF T mnil
  have hml := mvF_len (m := m) (l := L) (d := 1) (i := 1) (f := true)
  have hpos : 0 < (mvF m 1 true 1 L).length := List.length_pos_iff.mpr ne
  have hk : dr / 2 % (mvF m 1 true 1 L).length < (mvF m 1 true 1 L).length := Nat.mod_lt _ hpos
  obtain ⟨A, c, B, eL, ea, eo, ef⟩ := mv_dec (List.getElem_mem hk)
  have hlen : qM Γ2 σ (.len (.loc 5)) = some (.int ((mvF m 1 true 1 L).length : Int)) := by
    have := mlen (Γ := Γ2) (yD (σ := σ) (i := 5) h.s5) (by rw [List.length_map]; omega)
    rw [List.length_map] at this; exact this
  have hidx : qM Γ2 σ (.bin .mod (.bin .div (.loc 2) (.k (.int 2))) (.len (.loc 5))) = some (.int ((dr / 2 % (mvF m 1 true 1 L).length : Nat) : Int)) :=
    mbin (mdiv (n := 2) (yD h.s2) (by decide) (by decide)) hlen (by
      show (if ((mvF m 1 true 1 L).length : Int) = 0 then none else some (PV.int (((dr / 2 : Nat) : Int).fmod ((mvF m 1 true 1 L).length : Int)))) = _
      rw [if_neg (by omega), fmod_nat])
  have hget : qM Γ2 σ (.idx (.loc 5) (.bin .mod (.bin .div (.loc 2) (.k (.int 2))) (.len (.loc 5)))) = some (.tup [.int ((mvF m 1 true 1 L)[dr / 2 % (mvF m 1 true 1 L).length].1 : Int), .int ((mvF m 1 true 1 L)[dr / 2 % (mvF m 1 true 1 L).length].2 : Int)]) :=
    xidx (yD h.s5) hidx (by
      show yN _ _ = _
      rw [xS, xT (by omega), List.getElem?_eq_getElem hk]; rfl)
  rw [ea, eo] at hget
  clear hidx hlen hk hpos hml ea eo
  have hLA := Lay.app.mp (eL ▸ hL)
  have hPA := Pl.app.mp (eL ▸ hP)
  obtain ⟨hLA1, ⟨hd1, hd2, _, hco⟩, hLB⟩ := hLA
  obtain ⟨hPA1, ⟨hc, hd4⟩, hPB⟩ := hPA
  have hlAB : A.length + B.length + 1 = L.length := by rw [eL]; simp; omega
  have e1 : qN Γ2 FU σ law.m3[1] = some (.next, (σ.set 8 (.val (.int ((1 + A.length : Nat) : Int)))).set 9 (.val (.int ((m + 4 * (dpF 1 A - 1) : Nat) : Int)))) := munpE2 hget
  generalize hρ : (σ.set 8 (.val (.int ((1 + A.length : Nat) : Int)))).set 9 (.val (.int ((m + 4 * (dpF 1 A - 1) : Nat) : Int))) = ρ at e1
  have r1 : ρ 1 = some (.val (.int (m : Int))) := by rw [← hρ]; exact h.s1
  have r2 : ρ 2 = some (.val (.int (dr : Int))) := by rw [← hρ]; exact h.s2
  have r3 : ρ 3 = some (.val (.bool mh)) := by rw [← hρ]; exact h.s3
  have r4 : ρ 4 = some (.val (.lst ((yL m 0 (.op :: L)).map .str))) := by rw [← hρ]; exact h.s4
  have r7 : ρ 7 = some (.val (.lst (yT mh m 0 1 (.op :: L)))) := by rw [← hρ]; exact h.s7
  have r8 : ρ 8 = some (.val (.int ((1 + A.length : Nat) : Int))) := by rw [← hρ]; rfl
  have r9 : ρ 9 = some (.val (.int ((m + 4 * (dpF 1 A - 1) : Nat) : Int))) := by rw [← hρ]; rfl
  obtain ⟨col, hcol, hcol2, e2⟩ := col_ok r9 r2 (by omega)
  have t : ∀ j, j ≠ 10 → (ρ.set 10 (.val (.int (col : Int)))) j = ρ j := fun j hj => yK hj
  have t10 := xG ρ 10 (.val (.int (col : Int)))
  generalize ρ.set 10 (.val (.int (col : Int))) = τ at *
  have t1 := (t 1 (by decide)).trans r1
  have t3 := (t 3 (by decide)).trans r3
  have t4 := (t 4 (by decide)).trans r4
  have t7 := (t 7 (by decide)).trans r7
  have t8 := (t 8 (by decide)).trans r8
  have t9 := (t 9 (by decide)).trans r9
  -- the lines
  have l1 : yL m 0 (.op :: L) = yL m 0 (.op :: A) ++ RK.tx m (dpF 1 A) (.b c) :: yL m (dpF 1 A) B := by rw [eL, ← List.cons_append, lnsF_app]; rfl
  have l2 : yL m 0 (.op :: (A ++ .b col :: B)) = yL m 0 (.op :: A) ++ RK.tx m (dpF 1 A) (.b col) :: yL m (dpF 1 A) B := by rw [← List.cons_append, lnsF_app]; rfl
  have hlA : (yL m 0 (.op :: A)).length = 1 + A.length := by rw [lnsF_len, List.length_cons, Nat.add_comm]
  have hR : ((yL m 0 (.op :: L)).map PV.str).length = L.length + 1 := by rw [List.length_map, lnsF_len]; rfl
  have e3 : qN Γ2 FU τ law.m3[4] = some (.next, τ.set 4 (.val (.lst ((yL m 0 (.op :: (A ++ .b col :: B))).map .str)))) := by
    refine masg ?_
    have a1 : qM Γ2 τ (.slc (.loc 4) none (some (.loc 8))) = some (.lst (((yL m 0 (.op :: L)).map PV.str).take (1 + A.length))) := by
      rw [mslc (x := none) (y := some ((1 + A.length : Nat) : Int)) (yD t4) rfl (by rw [qo1, yD t8]) (by rw [hR]; omega), slc_take]
    have q8 : qM Γ2 τ (.bin .add (.loc 8) (.k (.int 1))) = some (.int ((1 + A.length + 1 : Nat) : Int)) := madd (yD t8) (y := 1) mk rfl
    have a3 : qM Γ2 τ (.slc (.loc 4) (some (.bin .add (.loc 8) (.k (.int 1)))) none) = some (.lst (((yL m 0 (.op :: L)).map PV.str).drop (1 + A.length + 1))) := by
      rw [mslc (x := some ((1 + A.length + 1 : Nat) : Int)) (y := none) (yD t4) (by rw [qo1, q8]) rfl (by rw [hR]; omega), slc_drop _ _ (by rw [hR]; omega)]
    have a2 := row_tx (w := [98, 44]) (Γ := Γ2) (yD t10) (by omega) (by decide)
    rw [l1, List.map_append, List.take_append_of_le_length (by rw [List.length_map, hlA]; exact Nat.le_refl _), List.take_of_length_le (by rw [List.length_map, hlA]; exact Nat.le_refl _)] at a1
    rw [l1, List.map_append, List.map_cons, List.drop_append, List.drop_of_length_le (by rw [List.length_map, hlA]; omega), List.nil_append, List.length_map, hlA, show 1 + A.length + 1 - (1 + A.length) = 1 by omega, List.drop_succ_cons, List.drop_zero] at a3
    have lA2 : (yL m 0 (.op :: A)).length + (yL m (dpF 1 A) B).length + 1 ≤ 1000 := by rw [hlA, lnsF_len]; omega
    rw [mbin (mbin a1 (mlst1 a2) (addLst (by rw [List.length_map, List.length_singleton]; omega))) a3 (addLst (by rw [List.length_append, List.length_map, List.length_map, List.length_singleton]; omega)), l2, List.map_append, List.map_cons, List.append_assoc]
    rfl
  have E3 : qP Γ2 FU σ law.m3 = some (.next, τ.set 4 (.val (.lst ((yL m 0 (.op :: (A ++ .b col :: B))).map .str)))) := yV e0 (yV e1 (mapp e2 (mo e3)))
  -- what is due
  have hlay : Lay m 1 true (A ++ .b col :: B) := Lay.app.mpr ⟨hLA1, ⟨hd1, hd2, .inr ef, hcol⟩, hLB⟩
  have ne1 : A ++ RK.b col :: B ≠ [] := by simp
  have hnc : ¬ (col = m + 4 * dpF 1 A) := by omega
  have d1 : yT mh m 0 1 (.op :: L) = yT mh m 0 1 (.op :: A) ++ yT mh m (dpF 1 A) (((1 + A.length + 1 : Nat) : Int) + 1) B := by
    rw [eL, ← List.cons_append, out4_app]
    congr 1
    show RK.o4 mh m (dpF 1 A) _ (.b c) ++ yT mh m (dpF 1 A) _ B = _
    rw [show RK.o4 mh m (dpF 1 A) (1 + ((RK.op :: A).length : Int)) (.b c) = [] from if_pos hc, List.nil_append]
    rw [show (1 + ((RK.op :: A).length : Int)) = ((1 + A.length + 1 : Nat) : Int) by rw [List.length_cons]; omega]
  have d2 : yT mh m 0 1 (.op :: (A ++ .b col :: B)) = yT mh m 0 1 (.op :: A) ++ PV.tup [.tup [.int ((1 + A.length + 1 : Nat) : Int), .int (col : Int)], .str (mv4 m (dpF 1 A) col)] :: yT mh m (dpF 1 A) (((1 + A.length + 1 : Nat) : Int) + 1) B := by
    rw [← List.cons_append, out4_app]
    congr 1
    show RK.o4 mh m (dpF 1 A) (1 + ((RK.op :: A).length : Int)) (.b col) ++ yT mh m (dpF 1 A) (1 + ((RK.op :: A).length : Int) + 1) B = _
    rw [show (1 + ((RK.op :: A).length : Int)) = ((1 + A.length + 1 : Nat) : Int) by rw [List.length_cons]; omega]
    rw [show RK.o4 mh m (dpF 1 A) ((1 + A.length + 1 : Nat) : Int) (.b col) = [_] from if_neg hnc]
    rfl
  obtain ⟨K1, p1, p2, p3⟩ := out4_rows (mh := mh) (m := m) (l := .op :: A) (d := 0) (r := 1)
  obtain ⟨K2, p4, p5, p6⟩ := out4_rows (mh := mh) (m := m) (l := B) (d := dpF 1 A) (r := ((1 + A.length + 1 : Nat) : Int) + 1)
  have hlen1 := (out4_yG (mh := mh) (m := m) (l := .op :: A) (d := 0) (r := 1)).2
  have hlen2 := (out4_yG (mh := mh) (m := m) (l := B) (d := dpF 1 A) (r := ((1 + A.length + 1 : Nat) : Int) + 1)).2
  have hlO := (out4_yG (mh := mh) (m := m) (l := .op :: L) (d := 0) (r := 1)).2
  have told := told_ok (mh := mh) hm ne1 (by simp; omega) hlay
  have okd := okD_out (mh := mh) (m := m) (d := 0) (r := 1) (l := .op :: (A ++ .b col :: B))
  have u : ∀ j, j ≠ 4 → (τ.set 4 (.val (.lst ((yL m 0 (.op :: (A ++ .b col :: B))).map .str)))) j = τ j := fun j hj => yK hj
  have u4 := xG τ 4 (.val (.lst ((yL m 0 (.op :: (A ++ .b col :: B))).map .str)))
  generalize τ.set 4 (.val (.lst ((yL m 0 (.op :: (A ++ .b col :: B))).map .str))) = υ at *
  have u7 := (u 7 (by decide)).trans t7
  have M4 : qM Γ2 υ law.m4 = some (.lst (yT mh m 0 1 (.op :: L) ++ [PV.tup [.tup [.int ((1 + A.length + 1 : Nat) : Int), .int (col : Int)], .str (mv4 m (dpF 1 A) col)]])) := by
    refine mbin (yD u7) (mlst1 (mtup2 (mtup2 (madd (yD ((u 8 (by decide)).trans t8)) (y := 1) mk rfl) (yD ((u 10 (by decide)).trans t10))) (mite2 (v := decide ((col : Int) > ((m + 4 * (dpF 1 A - 1) : Nat) : Int))) (tgt (yD ((u 10 (by decide)).trans t10)) (yD ((u 9 (by decide)).trans t9)) rfl) mk mk (z := .str (mv4 m (dpF 1 A) col)) ?_))) (addLst (by rw [List.length_singleton]; rw [List.length_cons] at hlO; omega))
    unfold mv4
    by_cases e : (col : Int) - m - 4 * ((dpF 1 A : Int) - 1) ≤ 0
    · rw [if_pos e, decide_eq_false (by omega)]; rfl
    · rw [if_neg e, decide_eq_true (by omega)]; rfl
  rw [d1] at M4
  rw [d2] at told okd
  rw [List.length_cons] at hlen1 p3
  refine .mk υ _ _ _ K1 K2 ((1 + A.length + 1 : Nat) : Int) _ E3 M4 p1 p4 (.cons _ _ _ .nil) ?_ (by omega) (mco (yD ((yK (by decide)).trans u4)) (mco (yD ((yK (by decide)).trans ((u 1 (by decide)).trans t1))) (mco (yD ((yK (by decide)).trans ((u 3 (by decide)).trans t3))) mnil'))) told okd
  refine List.pairwise_append.mpr ⟨p2, List.pairwise_cons.mpr ⟨fun k hk => by have := (p6 k hk).1; omega, p5⟩, fun a ha b hb => ?_⟩
  have h1 := (p3 a ha).2
  rcases List.mem_cons.mp hb with rfl | hb
  · omega
  · have := (p6 b hb).1; omega
end
theorem pure02 : ∀ ns : List Int, ns.length ≤ 63 → PureL ns := by
  intro ns hn
  obtain ⟨σ, m, dr, mh, L, r1, W, hm, hL, hP, hne, hl⟩ := m1_ok hn
  refine .mk σ _ _ r1 (mco (yD W.s4) (mco (yD W.s1) (mco (yD W.s3) mnil'))) (told_ok hm hne (by omega) hL) W.s7 okD_out ?_
  by_cases e : mvF m 1 true 1 L = []
  · exact .inl ⟨σ, m3_none W e⟩
  · exact .inr (m3_some W e hm hL hP hl)
end L1
end Mine
end
set_option tactic.hygienic true
section
open PySem PySem.W PyProof.Rows PySem.SeqAt PySem.Calls
namespace Mine
theorem kh_law (P : Params) : nsIn (KH P) mainGlobals "law" = some (some (.ref 204)) := by kernel_rfl
theorem post02 (as : List WData) : PySem.Challenge.rw_bd0048_02.row.claim.post as (.bool true) as = true := by
  simp only [OpenLaw.row, RowW.claim]
  rw [Bool.and_eq_true]
  refine ⟨by kernel_rfl, ?_⟩
  simp only [WTm.holds, WTm.value]
  simp [same]
noncomputable def HK : Hook := kHook KH0 kas fun _ => by kernel_rfl
theorem isL : (defOf qv PySem.Challenge.rw_bd0048_02.row.name).isSome = true := by kernel_rfl
noncomputable def dL : DefRec × List (PySem.Str × Expr) := (defOf qv PySem.Challenge.rw_bd0048_02.row.name).get isL
theorem nmL : dL.1.name = "law" := by kernel_rfl
theorem hdL : defOf qv PySem.Challenge.rw_bd0048_02.row.name = some (dL.1, dL.2) := by kernel_rfl
theorem hpL : PySem.Challenge.rw_bd0048_02.row.prog.theDef PySem.Challenge.rw_bd0048_02.row.name = some (dL.1.params, dL.1.body, dL.1.scope) := by kernel_rfl
theorem hkL : kwWritten? dL.1.params.kwonlyargs dL.1.params.kw_defaults = some dL.2 := by kernel_rfl
theorem wsL : PySem.Challenge.rw_bd0048_02.wellSaid = true := by kernel_rfl
theorem t02 : PySem.Challenge.rw_bd0048_02.Holds := by
  w_on
  refine holds_law wsL fun said => ?_
  refine holds_open (q := qv) (loose := lo) (Xt := fun s => xlAt qv [] s && recOk (RowW.records PySem.Challenge.rw_bd0048_02.row.toRowW) s) (XP := XL qv []) (Yf := Hook.obs HK) (Ya := Hook.val HK) (YP := Hook.says HK) (N := 5000) (d := dL.1) (kwd := dL.2) hl1 (Hook.of HK) (Hook.keeps HK) (fun s e => xl_of s (Bool.and_eq_true_iff.mp e).1) XL.keeps hdL hpL hkL (fun s e => recFacts_of (Bool.and_eq_true_iff.mp e).2) (by rfl) (by first | assumption | decide +kernel) (by decide +kernel) ⟨rfl, rfl, rfl, rfl, rfl, by decide +kernel⟩ ?hw ?hc
  case hw => w_witness2
  case hc =>
    intro w s₀ s₁ mg mb G Y fa o pm cd doc dV kV ho hd hcd hD hmg hg args vals as hpre hlay hrd hwl hlo
    have KX := kIn_of Y
    have GL := Ground.glob G (by decide +kernel) (by decide +kernel)
    clear ho hd hcd hD said
    rw [nmL] at hmg
    wrow_args hpre hlay hrd hwl hlo
    rename_i ns _ _ _ _ _ _ _ l vs _ hL _ hW _ hI _ hlen _
    have fa204 : fa = 204 := by
      have e := mg_of KX GL.g (kh_law w.params)
      have e2 := hmg
      rw [e] at e2
      injection e2 with e2
      injection e2 with e2
      exact e2.symm
    subst fa204
    have T : TopX w s₁.heap := ⟨KX, ⟨mg, GL.g⟩, ⟨mb, GL.b, GL.builtins⟩, GL.nolimit⟩
    have hP : s₁.heap.PlainList l vs.toArray := by
      obtain ⟨ws, hw⟩ : ∃ ws, ofPy (PyData.list (ns.map PyData.int)) = .list ws := ⟨_, rfl⟩
      rw [hw] at hW
      cases hW with
      | @list _ vs' _ h1 h2 =>
        obtain ⟨o', e1, e2, n', e3⟩ := hL
        rw [h1] at e1
        cases e1
        injection e3 with e3 e4
        exact ⟨_, by rw [h1, ← e3]⟩
    refine L1.law_body T hP hI (L1.pure02 ns (by have h63 := hlen; omega)) (A := callerA) ⟨rfl, by decide, by decide⟩ fun s' hk hgn hos => ?_
    refine ⟨.inl ⟨.bool true, .bool true, [], rfl, fun _ => by rfl, .bool true, post02 _, fun _ => ⟨List.nodup_nil, by simp⟩⟩, .of_keep hk, hos, fun y hy => ?_⟩
    rcases hgn y hy with h | rfl
    · rw [hg] at h; simp at h
    · rfl
end Mine
end
end
theorem PySem.Challenge.cw_bd0048_02_holds : PySem.Challenge.rw_bd0048_02.Holds := by
  exact Mine.t02
