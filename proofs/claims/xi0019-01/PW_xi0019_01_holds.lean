import PyProof.Rows.All
import Wide.All
import OpenK.AllK
import Wide.FinOn
import PySem.Challenge.RW_xi0019_01
set_option compiler.extract_closed false
set_option linter.all false
set_option linter.unusedVariables false
section
open PySem PySem.W PyProof.Rows
set_option Elab.async false
set_option maxRecDepth 100000
set_option maxHeartbeats 8000000
namespace Mine
noncomputable def stm (i : Nat) : Stmt := match PySem.Challenge.pw_xi0019_01.main.body[i]? with
  | some s => s
  | none => .Pass ⟨0, 0, 0, 0⟩
noncomputable def sub (i j : Nat) : Stmt := match stm i with
  | .ClassDef _ _ _ b _ _ _ _ _ _ _ => (match b[j]? with
    | some s => s
    | none => .Pass ⟨0, 0, 0, 0⟩)
  | s => s
noncomputable def fnB (s : Stmt) (n q : Str) (cl : List (Str × Addr)) (d k pm cd ct : Value) : Obj := match s with
  | .FunctionDef _ ps b _ _ _ sc _ _ _ => { cls := .type "function", data := .func { name := n, qualname := q, params := ps, body := .stmts b, scope := sc, globals := 3, closure := cl, defaults := d, kwdefaults := k, pyModule := pm, code := cd, closureTuple := ct } }
  | _ => default
noncomputable def KK (P : Params) : Frag :=
  (nat_lit 2, { cls := PySem.Value.none, data := PySem.Data.dict #[] }) ::
  (nat_lit 3, { cls := PySem.Value.type "dict", data := PySem.Data.dict #[{ hash := PySem.PyData.keyHash P (PySem.Str.ofString "__name__"), key := PySem.Value.str (PySem.Str.ofString "__name__") 165, val := PySem.Value.str (PySem.Str.ofString "law_xi0019_01") 532 }, { hash := PySem.PyData.keyHash P (PySem.Str.ofString "__doc__"), key := PySem.Value.str (PySem.Str.ofString "__doc__") 166, val := PySem.Value.none }, { hash := PySem.PyData.keyHash P (PySem.Str.ofString "__package__"), key := PySem.Value.str (PySem.Str.ofString "__package__") 167, val := PySem.Value.none }, { hash := PySem.PyData.keyHash P (PySem.Str.ofString "__loader__"), key := PySem.Value.str (PySem.Str.ofString "__loader__") 168, val := PySem.Value.builtin "__main__.__loader__#opaque" }, { hash := PySem.PyData.keyHash P (PySem.Str.ofString "__spec__"), key := PySem.Value.str (PySem.Str.ofString "__spec__") 169, val := PySem.Value.none }, { hash := PySem.PyData.keyHash P (PySem.Str.ofString "__annotations__"), key := PySem.Value.str (PySem.Str.ofString "__annotations__") 170, val := PySem.Value.ref 6 }, { hash := PySem.PyData.keyHash P (PySem.Str.ofString "__builtins__"), key := PySem.Value.str (PySem.Str.ofString "__builtins__") 171, val := PySem.Value.ref 4 }, { hash := PySem.PyData.keyHash P (PySem.Str.ofString "__file__"), key := PySem.Value.str (PySem.Str.ofString "__file__") 173, val := PySem.Value.str (PySem.Str.ofString "/claim/cut.py") 172 }, { hash := PySem.PyData.keyHash P (PySem.Str.ofString "__cached__"), key := PySem.Value.str (PySem.Str.ofString "__cached__") 174, val := PySem.Value.none }, { hash := PySem.PyData.keyHash P (PySem.Str.ofString "_wall"), key := PySem.Value.str (PySem.Str.ofString "_wall") 193, val := PySem.Value.ref 21 }, { hash := PySem.PyData.keyHash P (PySem.Str.ofString "NL"), key := PySem.Value.str (PySem.Str.ofString "NL") 197, val := PySem.Value.str (PySem.Str.ofString "\n") 196 }, { hash := PySem.PyData.keyHash P (PySem.Str.ofString "EMPTYSTRING"), key := PySem.Value.str (PySem.Str.ofString "EMPTYSTRING") 199, val := PySem.Value.str (PySem.Str.ofString "") 198 }, { hash := PySem.PyData.keyHash P (PySem.Str.ofString "_ValueFormatter"), key := PySem.Value.str (PySem.Str.ofString "_ValueFormatter") 307, val := PySem.Value.ref 94 }, { hash := PySem.PyData.keyHash P (PySem.Str.ofString "_Accumulator"), key := PySem.Value.str (PySem.Str.ofString "_Accumulator") 403, val := PySem.Value.ref 178 }, { hash := PySem.PyData.keyHash P (PySem.Str.ofString "_DIV_LIMIT"), key := PySem.Value.str (PySem.Str.ofString "_DIV_LIMIT") 407, val := PySem.Value.int 4000 406 }, { hash := PySem.PyData.keyHash P (PySem.Str.ofString "_div2n1n"), key := PySem.Value.str (PySem.Str.ofString "_div2n1n") 424, val := PySem.Value.ref 189 }, { hash := PySem.PyData.keyHash P (PySem.Str.ofString "_div3n2n"), key := PySem.Value.str (PySem.Str.ofString "_div3n2n") 438, val := PySem.Value.ref 196 }, { hash := PySem.PyData.keyHash P (PySem.Str.ofString "QName"), key := PySem.Value.str (PySem.Str.ofString "QName") 531, val := PySem.Value.ref 270 }, { hash := PySem.PyData.keyHash P (PySem.Str.ofString "_law_draws"), key := PySem.Value.str (PySem.Str.ofString "_law_draws") 539, val := PySem.Value.ref 279 }, { hash := PySem.PyData.keyHash P (PySem.Str.ofString "_law_heights"), key := PySem.Value.str (PySem.Str.ofString "_law_heights") 545, val := PySem.Value.ref 284 }, { hash := PySem.PyData.keyHash P (PySem.Str.ofString "_law_words"), key := PySem.Value.str (PySem.Str.ofString "_law_words") 557, val := PySem.Value.ref 291 }, { hash := PySem.PyData.keyHash P (PySem.Str.ofString "_law_rows"), key := PySem.Value.str (PySem.Str.ofString "_law_rows") 570, val := PySem.Value.ref 298 }, { hash := PySem.PyData.keyHash P (PySem.Str.ofString "_law_folded"), key := PySem.Value.str (PySem.Str.ofString "_law_folded") 587, val := PySem.Value.ref 305 }, { hash := PySem.PyData.keyHash P (PySem.Str.ofString "law"), key := PySem.Value.str (PySem.Str.ofString "law") 593, val := PySem.Value.ref 310 }] 24 }) ::
  (nat_lit 20, { cls := PySem.Value.type "code", data := PySem.Data.fields #[PySem.Value.str (PySem.Str.ofString "_wall") 187, PySem.Value.str (PySem.Str.ofString "_wall") 188, PySem.Value.str (PySem.Str.ofString "/claim/cut.py") 189, PySem.Value.int 1 0, PySem.Value.int 1 0, PySem.Value.int 0 0, PySem.Value.int 0 0, PySem.Value.int 3 0, PySem.Value.ref 15, PySem.Value.bool Bool.true, PySem.Value.int 181 0, PySem.Value.ref 16, PySem.Value.none, PySem.Value.ref 17, PySem.Value.ref 18, PySem.Value.ref 19, PySem.Value.int 191 0, PySem.Value.int 1 0, PySem.Value.str (PySem.Str.ofString "/claim/cut.py") 192] }) ::
  (nat_lit 21, fnB (stm 0) (PySem.Str.ofString "_wall") (PySem.Str.ofString "_wall") [] (.none) (.none) (.str (PySem.Str.ofString "__main__") 164) (.ref 20) (.none)) ::
  (nat_lit 34, { cls := PySem.Value.type "code", data := PySem.Data.fields #[PySem.Value.str (PySem.Str.ofString "__init__") 212, PySem.Value.str (PySem.Str.ofString "_ValueFormatter.__init__") 213, PySem.Value.str (PySem.Str.ofString "/claim/cut.py") 214, PySem.Value.int 9 0, PySem.Value.int 5 0, PySem.Value.int 0 0, PySem.Value.int 0 0, PySem.Value.int 3 0, PySem.Value.ref 29, PySem.Value.bool Bool.true, PySem.Value.int 181 0, PySem.Value.ref 30, PySem.Value.none, PySem.Value.ref 31, PySem.Value.ref 32, PySem.Value.ref 33, PySem.Value.int 220 0, PySem.Value.int 9 0, PySem.Value.str (PySem.Str.ofString "/claim/cut.py") 221] }) ::
  (nat_lit 35, fnB (sub 4 0) (PySem.Str.ofString "__init__") (PySem.Str.ofString "_ValueFormatter.__init__") [] (.none) (.none) (.str (PySem.Str.ofString "cpy313.email.header") 194) (.ref 34) (.none)) ::
  (nat_lit 41, { cls := PySem.Value.type "code", data := PySem.Data.fields #[PySem.Value.str (PySem.Str.ofString "_str") 223, PySem.Value.str (PySem.Str.ofString "_ValueFormatter._str") 224, PySem.Value.str (PySem.Str.ofString "/claim/cut.py") 225, PySem.Value.int 17 0, PySem.Value.int 2 0, PySem.Value.int 0 0, PySem.Value.int 0 0, PySem.Value.int 3 0, PySem.Value.ref 36, PySem.Value.bool Bool.true, PySem.Value.int 181 0, PySem.Value.ref 37, PySem.Value.none, PySem.Value.ref 38, PySem.Value.ref 39, PySem.Value.ref 40, PySem.Value.int 228 0, PySem.Value.int 17 0, PySem.Value.str (PySem.Str.ofString "/claim/cut.py") 229] }) ::
  (nat_lit 42, fnB (sub 4 1) (PySem.Str.ofString "_str") (PySem.Str.ofString "_ValueFormatter._str") [] (.none) (.none) (.str (PySem.Str.ofString "cpy313.email.header") 194) (.ref 41) (.none)) ::
  (nat_lit 48, { cls := PySem.Value.type "code", data := PySem.Data.fields #[PySem.Value.str (PySem.Str.ofString "__str__") 231, PySem.Value.str (PySem.Str.ofString "_ValueFormatter.__str__") 232, PySem.Value.str (PySem.Str.ofString "/claim/cut.py") 233, PySem.Value.int 21 0, PySem.Value.int 1 0, PySem.Value.int 0 0, PySem.Value.int 0 0, PySem.Value.int 3 0, PySem.Value.ref 43, PySem.Value.bool Bool.true, PySem.Value.int 181 0, PySem.Value.ref 44, PySem.Value.none, PySem.Value.ref 45, PySem.Value.ref 46, PySem.Value.ref 47, PySem.Value.int 235 0, PySem.Value.int 21 0, PySem.Value.str (PySem.Str.ofString "/claim/cut.py") 236] }) ::
  (nat_lit 49, fnB (sub 4 2) (PySem.Str.ofString "__str__") (PySem.Str.ofString "_ValueFormatter.__str__") [] (.none) (.none) (.str (PySem.Str.ofString "cpy313.email.header") 194) (.ref 48) (.none)) ::
  (nat_lit 55, { cls := PySem.Value.type "code", data := PySem.Data.fields #[PySem.Value.str (PySem.Str.ofString "newline") 238, PySem.Value.str (PySem.Str.ofString "_ValueFormatter.newline") 239, PySem.Value.str (PySem.Str.ofString "/claim/cut.py") 240, PySem.Value.int 24 0, PySem.Value.int 1 0, PySem.Value.int 0 0, PySem.Value.int 0 0, PySem.Value.int 3 0, PySem.Value.ref 50, PySem.Value.bool Bool.true, PySem.Value.int 181 0, PySem.Value.ref 51, PySem.Value.none, PySem.Value.ref 52, PySem.Value.ref 53, PySem.Value.ref 54, PySem.Value.int 243 0, PySem.Value.int 24 0, PySem.Value.str (PySem.Str.ofString "/claim/cut.py") 244] }) ::
  (nat_lit 56, fnB (sub 4 3) (PySem.Str.ofString "newline") (PySem.Str.ofString "_ValueFormatter.newline") [] (.none) (.none) (.str (PySem.Str.ofString "cpy313.email.header") 194) (.ref 55) (.none)) ::
  (nat_lit 90, { cls := PySem.Value.type "code", data := PySem.Data.fields #[PySem.Value.str (PySem.Str.ofString "_append_chunk") 280, PySem.Value.str (PySem.Str.ofString "_ValueFormatter._append_chunk") 281, PySem.Value.str (PySem.Str.ofString "/claim/cut.py") 282, PySem.Value.int 47 0, PySem.Value.int 3 0, PySem.Value.int 0 0, PySem.Value.int 0 0, PySem.Value.int 3 0, PySem.Value.ref 85, PySem.Value.bool Bool.true, PySem.Value.int 181 0, PySem.Value.ref 86, PySem.Value.none, PySem.Value.ref 87, PySem.Value.ref 88, PySem.Value.ref 89, PySem.Value.int 291 0, PySem.Value.int 47 0, PySem.Value.str (PySem.Str.ofString "/claim/cut.py") 292] }) ::
  (nat_lit 91, fnB (sub 4 8) (PySem.Str.ofString "_append_chunk") (PySem.Str.ofString "_ValueFormatter._append_chunk") [] (.none) (.none) (.str (PySem.Str.ofString "cpy313.email.header") 194) (.ref 90) (.none)) ::
  (nat_lit 93, { cls := PySem.Value.type "dict", data := PySem.Data.dict #[{ hash := PySem.PyData.keyHash P (PySem.Str.ofString "__module__"), key := PySem.Value.str (PySem.Str.ofString "__module__") 207, val := PySem.Value.str (PySem.Str.ofString "cpy313.email.header") 194 }, { hash := PySem.PyData.keyHash P (PySem.Str.ofString "__firstlineno__"), key := PySem.Value.str (PySem.Str.ofString "__firstlineno__") 211, val := PySem.Value.int 7 210 }, { hash := PySem.PyData.keyHash P (PySem.Str.ofString "__init__"), key := PySem.Value.str (PySem.Str.ofString "__init__") 222, val := PySem.Value.ref 35 }, { hash := PySem.PyData.keyHash P (PySem.Str.ofString "_str"), key := PySem.Value.str (PySem.Str.ofString "_str") 230, val := PySem.Value.ref 42 }, { hash := PySem.PyData.keyHash P (PySem.Str.ofString "__str__"), key := PySem.Value.str (PySem.Str.ofString "__str__") 237, val := PySem.Value.ref 49 }, { hash := PySem.PyData.keyHash P (PySem.Str.ofString "newline"), key := PySem.Value.str (PySem.Str.ofString "newline") 245, val := PySem.Value.ref 56 }, { hash := PySem.PyData.keyHash P (PySem.Str.ofString "add_transition"), key := PySem.Value.str (PySem.Str.ofString "add_transition") 252, val := PySem.Value.ref 63 }, { hash := PySem.PyData.keyHash P (PySem.Str.ofString "feed"), key := PySem.Value.str (PySem.Str.ofString "feed") 262, val := PySem.Value.ref 70 }, { hash := PySem.PyData.keyHash P (PySem.Str.ofString "_maxlengths"), key := PySem.Value.str (PySem.Str.ofString "_maxlengths") 269, val := PySem.Value.ref 77 }, { hash := PySem.PyData.keyHash P (PySem.Str.ofString "_ascii_split"), key := PySem.Value.str (PySem.Str.ofString "_ascii_split") 279, val := PySem.Value.ref 84 }, { hash := PySem.PyData.keyHash P (PySem.Str.ofString "_append_chunk"), key := PySem.Value.str (PySem.Str.ofString "_append_chunk") 293, val := PySem.Value.ref 91 }, { hash := PySem.PyData.keyHash P (PySem.Str.ofString "__static_attributes__"), key := PySem.Value.str (PySem.Str.ofString "__static_attributes__") 300, val := PySem.Value.ref 92 }, { hash := PySem.PyData.keyHash P (PySem.Str.ofString "__dict__"), key := PySem.Value.str (PySem.Str.ofString "__dict__") 302, val := PySem.Value.ref 95 }, { hash := PySem.PyData.keyHash P (PySem.Str.ofString "__weakref__"), key := PySem.Value.str (PySem.Str.ofString "__weakref__") 304, val := PySem.Value.ref 96 }, { hash := PySem.PyData.keyHash P (PySem.Str.ofString "__doc__"), key := PySem.Value.str (PySem.Str.ofString "__doc__") 305, val := PySem.Value.none }] 4 }) ::
  (nat_lit 94, { cls := PySem.Value.type "type", data := PySem.Data.cls { name := PySem.Str.ofString "_ValueFormatter", bases := [PySem.Value.type "object"], mro := [PySem.Value.ref 94, PySem.Value.type "object"], ns := 93, qualname := PySem.Str.ofString "_ValueFormatter" }, slots := #[Option.none, Option.none, Option.some (PySem.Value.str (PySem.Str.ofString "_ValueFormatter") 200), Option.some (PySem.Value.str (PySem.Str.ofString "_ValueFormatter") 208), Option.some (PySem.Value.builtin "object.__new__"), Option.some (PySem.Value.bool Bool.true)] }) ::
  (nat_lit 102, { cls := PySem.Value.type "cell", data := PySem.Data.cell (Option.some (PySem.Value.ref 178)) }) ::
  (nat_lit 107, { cls := PySem.Value.type "tuple", data := PySem.Data.seq #[PySem.Value.int 0 320] }) ::
  (nat_lit 114, { cls := PySem.Value.type "code", data := PySem.Data.fields #[PySem.Value.str (PySem.Str.ofString "__init__") 321, PySem.Value.str (PySem.Str.ofString "_Accumulator.__init__") 322, PySem.Value.str (PySem.Str.ofString "/claim/cut.py") 323, PySem.Value.int 75 0, PySem.Value.int 2 0, PySem.Value.int 0 0, PySem.Value.int 0 0, PySem.Value.int 3 0, PySem.Value.ref 109, PySem.Value.bool Bool.true, PySem.Value.int 181 0, PySem.Value.ref 110, PySem.Value.none, PySem.Value.ref 111, PySem.Value.ref 112, PySem.Value.ref 113, PySem.Value.int 327 0, PySem.Value.int 75 0, PySem.Value.str (PySem.Str.ofString "/claim/cut.py") 328] }) ::
  (nat_lit 115, fnB (sub 5 0) (PySem.Str.ofString "__init__") (PySem.Str.ofString "_Accumulator.__init__") [(PySem.Str.ofString "__class__", 102)] (.ref 107) (.none) (.str (PySem.Str.ofString "cpy313.email.header") 194) (.ref 114) (.ref 108)) ::
  (nat_lit 121, { cls := PySem.Value.type "code", data := PySem.Data.fields #[PySem.Value.str (PySem.Str.ofString "push") 330, PySem.Value.str (PySem.Str.ofString "_Accumulator.push") 331, PySem.Value.str (PySem.Str.ofString "/claim/cut.py") 332, PySem.Value.int 79 0, PySem.Value.int 3 0, PySem.Value.int 0 0, PySem.Value.int 0 0, PySem.Value.int 3 0, PySem.Value.ref 116, PySem.Value.bool Bool.true, PySem.Value.int 181 0, PySem.Value.ref 117, PySem.Value.none, PySem.Value.ref 118, PySem.Value.ref 119, PySem.Value.ref 120, PySem.Value.int 336 0, PySem.Value.int 79 0, PySem.Value.str (PySem.Str.ofString "/claim/cut.py") 337] }) ::
  (nat_lit 122, fnB (sub 5 1) (PySem.Str.ofString "push") (PySem.Str.ofString "_Accumulator.push") [] (.none) (.none) (.str (PySem.Str.ofString "cpy313.email.header") 194) (.ref 121) (.none)) ::
  (nat_lit 123, { cls := PySem.Value.type "tuple", data := PySem.Data.seq #[PySem.Value.int 0 339] }) ::
  (nat_lit 129, { cls := PySem.Value.type "code", data := PySem.Data.fields #[PySem.Value.str (PySem.Str.ofString "pop_from") 340, PySem.Value.str (PySem.Str.ofString "_Accumulator.pop_from") 341, PySem.Value.str (PySem.Str.ofString "/claim/cut.py") 342, PySem.Value.int 82 0, PySem.Value.int 2 0, PySem.Value.int 0 0, PySem.Value.int 0 0, PySem.Value.int 3 0, PySem.Value.ref 124, PySem.Value.bool Bool.true, PySem.Value.int 181 0, PySem.Value.ref 125, PySem.Value.none, PySem.Value.ref 126, PySem.Value.ref 127, PySem.Value.ref 128, PySem.Value.int 346 0, PySem.Value.int 82 0, PySem.Value.str (PySem.Str.ofString "/claim/cut.py") 347] }) ::
  (nat_lit 130, fnB (sub 5 2) (PySem.Str.ofString "pop_from") (PySem.Str.ofString "_Accumulator.pop_from") [] (.ref 123) (.none) (.str (PySem.Str.ofString "cpy313.email.header") 194) (.ref 129) (.none)) ::
  (nat_lit 137, { cls := PySem.Value.type "code", data := PySem.Data.fields #[PySem.Value.str (PySem.Str.ofString "pop") 349, PySem.Value.str (PySem.Str.ofString "_Accumulator.pop") 350, PySem.Value.str (PySem.Str.ofString "/claim/cut.py") 351, PySem.Value.int 87 0, PySem.Value.int 1 0, PySem.Value.int 0 0, PySem.Value.int 0 0, PySem.Value.int 3 0, PySem.Value.ref 132, PySem.Value.bool Bool.true, PySem.Value.int 181 0, PySem.Value.ref 133, PySem.Value.none, PySem.Value.ref 134, PySem.Value.ref 135, PySem.Value.ref 136, PySem.Value.int 354 0, PySem.Value.int 87 0, PySem.Value.str (PySem.Str.ofString "/claim/cut.py") 355] }) ::
  (nat_lit 138, fnB (sub 5 3) (PySem.Str.ofString "pop") (PySem.Str.ofString "_Accumulator.pop") [(PySem.Str.ofString "__class__", 102)] (.none) (.none) (.str (PySem.Str.ofString "cpy313.email.header") 194) (.ref 137) (.ref 131)) ::
  (nat_lit 144, { cls := PySem.Value.type "code", data := PySem.Data.fields #[PySem.Value.str (PySem.Str.ofString "__len__") 357, PySem.Value.str (PySem.Str.ofString "_Accumulator.__len__") 358, PySem.Value.str (PySem.Str.ofString "/claim/cut.py") 359, PySem.Value.int 92 0, PySem.Value.int 1 0, PySem.Value.int 0 0, PySem.Value.int 0 0, PySem.Value.int 3 0, PySem.Value.ref 139, PySem.Value.bool Bool.true, PySem.Value.int 181 0, PySem.Value.ref 140, PySem.Value.none, PySem.Value.ref 141, PySem.Value.ref 142, PySem.Value.ref 143, PySem.Value.int 361 0, PySem.Value.int 92 0, PySem.Value.str (PySem.Str.ofString "/claim/cut.py") 362] }) ::
  (nat_lit 145, fnB (sub 5 4) (PySem.Str.ofString "__len__") (PySem.Str.ofString "_Accumulator.__len__") [] (.none) (.none) (.str (PySem.Str.ofString "cpy313.email.header") 194) (.ref 144) (.none)) ::
  (nat_lit 151, { cls := PySem.Value.type "code", data := PySem.Data.fields #[PySem.Value.str (PySem.Str.ofString "__str__") 364, PySem.Value.str (PySem.Str.ofString "_Accumulator.__str__") 365, PySem.Value.str (PySem.Str.ofString "/claim/cut.py") 366, PySem.Value.int 95 0, PySem.Value.int 1 0, PySem.Value.int 0 0, PySem.Value.int 0 0, PySem.Value.int 3 0, PySem.Value.ref 146, PySem.Value.bool Bool.true, PySem.Value.int 181 0, PySem.Value.ref 147, PySem.Value.none, PySem.Value.ref 148, PySem.Value.ref 149, PySem.Value.ref 150, PySem.Value.int 368 0, PySem.Value.int 95 0, PySem.Value.str (PySem.Str.ofString "/claim/cut.py") 369] }) ::
  (nat_lit 152, fnB (sub 5 5) (PySem.Str.ofString "__str__") (PySem.Str.ofString "_Accumulator.__str__") [] (.none) (.none) (.str (PySem.Str.ofString "cpy313.email.header") 194) (.ref 151) (.none)) ::
  (nat_lit 153, { cls := PySem.Value.type "tuple", data := PySem.Data.seq #[PySem.Value.none] }) ::
  (nat_lit 159, { cls := PySem.Value.type "code", data := PySem.Data.fields #[PySem.Value.str (PySem.Str.ofString "reset") 371, PySem.Value.str (PySem.Str.ofString "_Accumulator.reset") 372, PySem.Value.str (PySem.Str.ofString "/claim/cut.py") 373, PySem.Value.int 98 0, PySem.Value.int 2 0, PySem.Value.int 0 0, PySem.Value.int 0 0, PySem.Value.int 3 0, PySem.Value.ref 154, PySem.Value.bool Bool.true, PySem.Value.int 181 0, PySem.Value.ref 155, PySem.Value.none, PySem.Value.ref 156, PySem.Value.ref 157, PySem.Value.ref 158, PySem.Value.int 376 0, PySem.Value.int 98 0, PySem.Value.str (PySem.Str.ofString "/claim/cut.py") 377] }) ::
  (nat_lit 160, fnB (sub 5 6) (PySem.Str.ofString "reset") (PySem.Str.ofString "_Accumulator.reset") [] (.ref 153) (.none) (.str (PySem.Str.ofString "cpy313.email.header") 194) (.ref 159) (.none)) ::
  (nat_lit 166, { cls := PySem.Value.type "code", data := PySem.Data.fields #[PySem.Value.str (PySem.Str.ofString "is_onlyws") 379, PySem.Value.str (PySem.Str.ofString "_Accumulator.is_onlyws") 380, PySem.Value.str (PySem.Str.ofString "/claim/cut.py") 381, PySem.Value.int 104 0, PySem.Value.int 1 0, PySem.Value.int 0 0, PySem.Value.int 0 0, PySem.Value.int 3 0, PySem.Value.ref 161, PySem.Value.bool Bool.true, PySem.Value.int 181 0, PySem.Value.ref 162, PySem.Value.none, PySem.Value.ref 163, PySem.Value.ref 164, PySem.Value.ref 165, PySem.Value.int 383 0, PySem.Value.int 104 0, PySem.Value.str (PySem.Str.ofString "/claim/cut.py") 384] }) ::
  (nat_lit 167, fnB (sub 5 7) (PySem.Str.ofString "is_onlyws") (PySem.Str.ofString "_Accumulator.is_onlyws") [] (.none) (.none) (.str (PySem.Str.ofString "cpy313.email.header") 194) (.ref 166) (.none)) ::
  (nat_lit 174, { cls := PySem.Value.type "code", data := PySem.Data.fields #[PySem.Value.str (PySem.Str.ofString "part_count") 386, PySem.Value.str (PySem.Str.ofString "_Accumulator.part_count") 387, PySem.Value.str (PySem.Str.ofString "/claim/cut.py") 388, PySem.Value.int 107 0, PySem.Value.int 1 0, PySem.Value.int 0 0, PySem.Value.int 0 0, PySem.Value.int 3 0, PySem.Value.ref 169, PySem.Value.bool Bool.true, PySem.Value.int 181 0, PySem.Value.ref 170, PySem.Value.none, PySem.Value.ref 171, PySem.Value.ref 172, PySem.Value.ref 173, PySem.Value.int 391 0, PySem.Value.int 107 0, PySem.Value.str (PySem.Str.ofString "/claim/cut.py") 392] }) ::
  (nat_lit 175, fnB (sub 5 8) (PySem.Str.ofString "part_count") (PySem.Str.ofString "_Accumulator.part_count") [(PySem.Str.ofString "__class__", 102)] (.none) (.none) (.str (PySem.Str.ofString "cpy313.email.header") 194) (.ref 174) (.ref 168)) ::
  (nat_lit 177, { cls := PySem.Value.type "dict", data := PySem.Data.dict #[{ hash := PySem.PyData.keyHash P (PySem.Str.ofString "__module__"), key := PySem.Value.str (PySem.Str.ofString "__module__") 315, val := PySem.Value.str (PySem.Str.ofString "cpy313.email.header") 194 }, { hash := PySem.PyData.keyHash P (PySem.Str.ofString "__firstlineno__"), key := PySem.Value.str (PySem.Str.ofString "__firstlineno__") 319, val := PySem.Value.int 73 318 }, { hash := PySem.PyData.keyHash P (PySem.Str.ofString "__init__"), key := PySem.Value.str (PySem.Str.ofString "__init__") 329, val := PySem.Value.ref 115 }, { hash := PySem.PyData.keyHash P (PySem.Str.ofString "push"), key := PySem.Value.str (PySem.Str.ofString "push") 338, val := PySem.Value.ref 122 }, { hash := PySem.PyData.keyHash P (PySem.Str.ofString "pop_from"), key := PySem.Value.str (PySem.Str.ofString "pop_from") 348, val := PySem.Value.ref 130 }, { hash := PySem.PyData.keyHash P (PySem.Str.ofString "pop"), key := PySem.Value.str (PySem.Str.ofString "pop") 356, val := PySem.Value.ref 138 }, { hash := PySem.PyData.keyHash P (PySem.Str.ofString "__len__"), key := PySem.Value.str (PySem.Str.ofString "__len__") 363, val := PySem.Value.ref 145 }, { hash := PySem.PyData.keyHash P (PySem.Str.ofString "__str__"), key := PySem.Value.str (PySem.Str.ofString "__str__") 370, val := PySem.Value.ref 152 }, { hash := PySem.PyData.keyHash P (PySem.Str.ofString "reset"), key := PySem.Value.str (PySem.Str.ofString "reset") 378, val := PySem.Value.ref 160 }, { hash := PySem.PyData.keyHash P (PySem.Str.ofString "is_onlyws"), key := PySem.Value.str (PySem.Str.ofString "is_onlyws") 385, val := PySem.Value.ref 167 }, { hash := PySem.PyData.keyHash P (PySem.Str.ofString "part_count"), key := PySem.Value.str (PySem.Str.ofString "part_count") 393, val := PySem.Value.ref 175 }, { hash := PySem.PyData.keyHash P (PySem.Str.ofString "__static_attributes__"), key := PySem.Value.str (PySem.Str.ofString "__static_attributes__") 395, val := PySem.Value.ref 176 }, { hash := PySem.PyData.keyHash P (PySem.Str.ofString "__dict__"), key := PySem.Value.str (PySem.Str.ofString "__dict__") 398, val := PySem.Value.ref 179 }, { hash := PySem.PyData.keyHash P (PySem.Str.ofString "__weakref__"), key := PySem.Value.str (PySem.Str.ofString "__weakref__") 400, val := PySem.Value.ref 180 }, { hash := PySem.PyData.keyHash P (PySem.Str.ofString "__doc__"), key := PySem.Value.str (PySem.Str.ofString "__doc__") 401, val := PySem.Value.none }] 5 }) ::
  (nat_lit 178, { cls := PySem.Value.type "type", data := PySem.Data.cls { name := PySem.Str.ofString "_Accumulator", bases := [PySem.Value.type "list"], mro := [PySem.Value.ref 178, PySem.Value.type "list", PySem.Value.type "object"], ns := 177, qualname := PySem.Str.ofString "_Accumulator" }, slots := #[Option.some (PySem.Value.ref 99), Option.none, Option.some (PySem.Value.str (PySem.Str.ofString "_Accumulator") 308), Option.some (PySem.Value.str (PySem.Str.ofString "_Accumulator") 316), Option.some (PySem.Value.builtin "list.__new__"), Option.some (PySem.Value.bool Bool.true)] }) ::
  (nat_lit 188, { cls := PySem.Value.type "code", data := PySem.Data.fields #[PySem.Value.str (PySem.Str.ofString "_div2n1n") 408, PySem.Value.str (PySem.Str.ofString "_div2n1n") 409, PySem.Value.str (PySem.Str.ofString "/claim/cut.py") 410, PySem.Value.int 111 0, PySem.Value.int 3 0, PySem.Value.int 0 0, PySem.Value.int 0 0, PySem.Value.int 3 0, PySem.Value.ref 183, PySem.Value.bool Bool.true, PySem.Value.int 181 0, PySem.Value.ref 184, PySem.Value.none, PySem.Value.ref 185, PySem.Value.ref 186, PySem.Value.ref 187, PySem.Value.int 422 0, PySem.Value.int 111 0, PySem.Value.str (PySem.Str.ofString "/claim/cut.py") 423] }) ::
  (nat_lit 189, fnB (stm 8) (PySem.Str.ofString "_div2n1n") (PySem.Str.ofString "_div2n1n") [] (.none) (.none) (.str (PySem.Str.ofString "cpy313._pylong") 404) (.ref 188) (.none)) ::
  (nat_lit 195, { cls := PySem.Value.type "code", data := PySem.Data.fields #[PySem.Value.str (PySem.Str.ofString "_div3n2n") 425, PySem.Value.str (PySem.Str.ofString "_div3n2n") 426, PySem.Value.str (PySem.Str.ofString "/claim/cut.py") 427, PySem.Value.int 127 0, PySem.Value.int 6 0, PySem.Value.int 0 0, PySem.Value.int 0 0, PySem.Value.int 3 0, PySem.Value.ref 190, PySem.Value.bool Bool.true, PySem.Value.int 181 0, PySem.Value.ref 191, PySem.Value.none, PySem.Value.ref 192, PySem.Value.ref 193, PySem.Value.ref 194, PySem.Value.int 436 0, PySem.Value.int 127 0, PySem.Value.str (PySem.Str.ofString "/claim/cut.py") 437] }) ::
  (nat_lit 196, fnB (stm 9) (PySem.Str.ofString "_div3n2n") (PySem.Str.ofString "_div3n2n") [] (.none) (.none) (.str (PySem.Str.ofString "cpy313._pylong") 404) (.ref 195) (.none)) ::
  (nat_lit 204, { cls := PySem.Value.type "tuple", data := PySem.Data.seq #[PySem.Value.none] }) ::
  (nat_lit 210, { cls := PySem.Value.type "code", data := PySem.Data.fields #[PySem.Value.str (PySem.Str.ofString "__init__") 453, PySem.Value.str (PySem.Str.ofString "QName.__init__") 454, PySem.Value.str (PySem.Str.ofString "/claim/cut.py") 455, PySem.Value.int 140 0, PySem.Value.int 3 0, PySem.Value.int 0 0, PySem.Value.int 0 0, PySem.Value.int 3 0, PySem.Value.ref 205, PySem.Value.bool Bool.true, PySem.Value.int 181 0, PySem.Value.ref 206, PySem.Value.none, PySem.Value.ref 207, PySem.Value.ref 208, PySem.Value.ref 209, PySem.Value.int 459 0, PySem.Value.int 140 0, PySem.Value.str (PySem.Str.ofString "/claim/cut.py") 460] }) ::
  (nat_lit 211, fnB (sub 11 0) (PySem.Str.ofString "__init__") (PySem.Str.ofString "QName.__init__") [] (.ref 204) (.none) (.str (PySem.Str.ofString "cpy313.xml.etree.ElementTree") 439) (.ref 210) (.none)) ::
  (nat_lit 217, { cls := PySem.Value.type "code", data := PySem.Data.fields #[PySem.Value.str (PySem.Str.ofString "__str__") 462, PySem.Value.str (PySem.Str.ofString "QName.__str__") 463, PySem.Value.str (PySem.Str.ofString "/claim/cut.py") 464, PySem.Value.int 145 0, PySem.Value.int 1 0, PySem.Value.int 0 0, PySem.Value.int 0 0, PySem.Value.int 3 0, PySem.Value.ref 212, PySem.Value.bool Bool.true, PySem.Value.int 181 0, PySem.Value.ref 213, PySem.Value.none, PySem.Value.ref 214, PySem.Value.ref 215, PySem.Value.ref 216, PySem.Value.int 466 0, PySem.Value.int 145 0, PySem.Value.str (PySem.Str.ofString "/claim/cut.py") 467] }) ::
  (nat_lit 218, fnB (sub 11 1) (PySem.Str.ofString "__str__") (PySem.Str.ofString "QName.__str__") [] (.none) (.none) (.str (PySem.Str.ofString "cpy313.xml.etree.ElementTree") 439) (.ref 217) (.none)) ::
  (nat_lit 238, { cls := PySem.Value.type "code", data := PySem.Data.fields #[PySem.Value.str (PySem.Str.ofString "__le__") 483, PySem.Value.str (PySem.Str.ofString "QName.__le__") 484, PySem.Value.str (PySem.Str.ofString "/claim/cut.py") 485, PySem.Value.int 154 0, PySem.Value.int 2 0, PySem.Value.int 0 0, PySem.Value.int 0 0, PySem.Value.int 3 0, PySem.Value.ref 233, PySem.Value.bool Bool.true, PySem.Value.int 181 0, PySem.Value.ref 234, PySem.Value.none, PySem.Value.ref 235, PySem.Value.ref 236, PySem.Value.ref 237, PySem.Value.int 488 0, PySem.Value.int 154 0, PySem.Value.str (PySem.Str.ofString "/claim/cut.py") 489] }) ::
  (nat_lit 239, fnB (sub 11 4) (PySem.Str.ofString "__le__") (PySem.Str.ofString "QName.__le__") [] (.none) (.none) (.str (PySem.Str.ofString "cpy313.xml.etree.ElementTree") 439) (.ref 238) (.none)) ::
  (nat_lit 245, { cls := PySem.Value.type "code", data := PySem.Data.fields #[PySem.Value.str (PySem.Str.ofString "__lt__") 491, PySem.Value.str (PySem.Str.ofString "QName.__lt__") 492, PySem.Value.str (PySem.Str.ofString "/claim/cut.py") 493, PySem.Value.int 159 0, PySem.Value.int 2 0, PySem.Value.int 0 0, PySem.Value.int 0 0, PySem.Value.int 3 0, PySem.Value.ref 240, PySem.Value.bool Bool.true, PySem.Value.int 181 0, PySem.Value.ref 241, PySem.Value.none, PySem.Value.ref 242, PySem.Value.ref 243, PySem.Value.ref 244, PySem.Value.int 496 0, PySem.Value.int 159 0, PySem.Value.str (PySem.Str.ofString "/claim/cut.py") 497] }) ::
  (nat_lit 246, fnB (sub 11 5) (PySem.Str.ofString "__lt__") (PySem.Str.ofString "QName.__lt__") [] (.none) (.none) (.str (PySem.Str.ofString "cpy313.xml.etree.ElementTree") 439) (.ref 245) (.none)) ::
  (nat_lit 252, { cls := PySem.Value.type "code", data := PySem.Data.fields #[PySem.Value.str (PySem.Str.ofString "__ge__") 499, PySem.Value.str (PySem.Str.ofString "QName.__ge__") 500, PySem.Value.str (PySem.Str.ofString "/claim/cut.py") 501, PySem.Value.int 164 0, PySem.Value.int 2 0, PySem.Value.int 0 0, PySem.Value.int 0 0, PySem.Value.int 3 0, PySem.Value.ref 247, PySem.Value.bool Bool.true, PySem.Value.int 181 0, PySem.Value.ref 248, PySem.Value.none, PySem.Value.ref 249, PySem.Value.ref 250, PySem.Value.ref 251, PySem.Value.int 504 0, PySem.Value.int 164 0, PySem.Value.str (PySem.Str.ofString "/claim/cut.py") 505] }) ::
  (nat_lit 253, fnB (sub 11 6) (PySem.Str.ofString "__ge__") (PySem.Str.ofString "QName.__ge__") [] (.none) (.none) (.str (PySem.Str.ofString "cpy313.xml.etree.ElementTree") 439) (.ref 252) (.none)) ::
  (nat_lit 259, { cls := PySem.Value.type "code", data := PySem.Data.fields #[PySem.Value.str (PySem.Str.ofString "__gt__") 507, PySem.Value.str (PySem.Str.ofString "QName.__gt__") 508, PySem.Value.str (PySem.Str.ofString "/claim/cut.py") 509, PySem.Value.int 169 0, PySem.Value.int 2 0, PySem.Value.int 0 0, PySem.Value.int 0 0, PySem.Value.int 3 0, PySem.Value.ref 254, PySem.Value.bool Bool.true, PySem.Value.int 181 0, PySem.Value.ref 255, PySem.Value.none, PySem.Value.ref 256, PySem.Value.ref 257, PySem.Value.ref 258, PySem.Value.int 512 0, PySem.Value.int 169 0, PySem.Value.str (PySem.Str.ofString "/claim/cut.py") 513] }) ::
  (nat_lit 260, fnB (sub 11 7) (PySem.Str.ofString "__gt__") (PySem.Str.ofString "QName.__gt__") [] (.none) (.none) (.str (PySem.Str.ofString "cpy313.xml.etree.ElementTree") 439) (.ref 259) (.none)) ::
  (nat_lit 266, { cls := PySem.Value.type "code", data := PySem.Data.fields #[PySem.Value.str (PySem.Str.ofString "__eq__") 515, PySem.Value.str (PySem.Str.ofString "QName.__eq__") 516, PySem.Value.str (PySem.Str.ofString "/claim/cut.py") 517, PySem.Value.int 174 0, PySem.Value.int 2 0, PySem.Value.int 0 0, PySem.Value.int 0 0, PySem.Value.int 3 0, PySem.Value.ref 261, PySem.Value.bool Bool.true, PySem.Value.int 181 0, PySem.Value.ref 262, PySem.Value.none, PySem.Value.ref 263, PySem.Value.ref 264, PySem.Value.ref 265, PySem.Value.int 520 0, PySem.Value.int 174 0, PySem.Value.str (PySem.Str.ofString "/claim/cut.py") 521] }) ::
  (nat_lit 267, fnB (sub 11 8) (PySem.Str.ofString "__eq__") (PySem.Str.ofString "QName.__eq__") [] (.none) (.none) (.str (PySem.Str.ofString "cpy313.xml.etree.ElementTree") 439) (.ref 266) (.none)) ::
  (nat_lit 269, { cls := PySem.Value.type "dict", data := PySem.Data.dict #[{ hash := PySem.PyData.keyHash P (PySem.Str.ofString "__module__"), key := PySem.Value.str (PySem.Str.ofString "__module__") 448, val := PySem.Value.str (PySem.Str.ofString "cpy313.xml.etree.ElementTree") 439 }, { hash := PySem.PyData.keyHash P (PySem.Str.ofString "__firstlineno__"), key := PySem.Value.str (PySem.Str.ofString "__firstlineno__") 452, val := PySem.Value.int 138 451 }, { hash := PySem.PyData.keyHash P (PySem.Str.ofString "__init__"), key := PySem.Value.str (PySem.Str.ofString "__init__") 461, val := PySem.Value.ref 211 }, { hash := PySem.PyData.keyHash P (PySem.Str.ofString "__str__"), key := PySem.Value.str (PySem.Str.ofString "__str__") 468, val := PySem.Value.ref 218 }, { hash := PySem.PyData.keyHash P (PySem.Str.ofString "__repr__"), key := PySem.Value.str (PySem.Str.ofString "__repr__") 475, val := PySem.Value.ref 225 }, { hash := PySem.PyData.keyHash P (PySem.Str.ofString "__hash__"), key := PySem.Value.str (PySem.Str.ofString "__hash__") 482, val := PySem.Value.ref 232 }, { hash := PySem.PyData.keyHash P (PySem.Str.ofString "__le__"), key := PySem.Value.str (PySem.Str.ofString "__le__") 490, val := PySem.Value.ref 239 }, { hash := PySem.PyData.keyHash P (PySem.Str.ofString "__lt__"), key := PySem.Value.str (PySem.Str.ofString "__lt__") 498, val := PySem.Value.ref 246 }, { hash := PySem.PyData.keyHash P (PySem.Str.ofString "__ge__"), key := PySem.Value.str (PySem.Str.ofString "__ge__") 506, val := PySem.Value.ref 253 }, { hash := PySem.PyData.keyHash P (PySem.Str.ofString "__gt__"), key := PySem.Value.str (PySem.Str.ofString "__gt__") 514, val := PySem.Value.ref 260 }, { hash := PySem.PyData.keyHash P (PySem.Str.ofString "__eq__"), key := PySem.Value.str (PySem.Str.ofString "__eq__") 522, val := PySem.Value.ref 267 }, { hash := PySem.PyData.keyHash P (PySem.Str.ofString "__static_attributes__"), key := PySem.Value.str (PySem.Str.ofString "__static_attributes__") 524, val := PySem.Value.ref 268 }, { hash := PySem.PyData.keyHash P (PySem.Str.ofString "__dict__"), key := PySem.Value.str (PySem.Str.ofString "__dict__") 526, val := PySem.Value.ref 271 }, { hash := PySem.PyData.keyHash P (PySem.Str.ofString "__weakref__"), key := PySem.Value.str (PySem.Str.ofString "__weakref__") 528, val := PySem.Value.ref 272 }, { hash := PySem.PyData.keyHash P (PySem.Str.ofString "__doc__"), key := PySem.Value.str (PySem.Str.ofString "__doc__") 529, val := PySem.Value.none }] 4 }) ::
  (nat_lit 270, { cls := PySem.Value.type "type", data := PySem.Data.cls { name := PySem.Str.ofString "QName", bases := [PySem.Value.type "object"], mro := [PySem.Value.ref 270, PySem.Value.type "object"], ns := 269, qualname := PySem.Str.ofString "QName" }, slots := #[Option.none, Option.none, Option.some (PySem.Value.str (PySem.Str.ofString "QName") 441), Option.some (PySem.Value.str (PySem.Str.ofString "QName") 449), Option.some (PySem.Value.builtin "object.__new__"), Option.some (PySem.Value.bool Bool.true)] }) ::
  (nat_lit 278, { cls := PySem.Value.type "code", data := PySem.Data.fields #[PySem.Value.str (PySem.Str.ofString "_law_draws") 534, PySem.Value.str (PySem.Str.ofString "_law_draws") 535, PySem.Value.str (PySem.Str.ofString "/claim/cut.py") 536, PySem.Value.int 179 0, PySem.Value.int 1 0, PySem.Value.int 0 0, PySem.Value.int 0 0, PySem.Value.int 3 0, PySem.Value.ref 275, PySem.Value.bool Bool.true, PySem.Value.int 181 0, PySem.Value.ref 276, PySem.Value.none, PySem.Value.none, PySem.Value.none, PySem.Value.ref 277, PySem.Value.int 537 0, PySem.Value.int 179 0, PySem.Value.str (PySem.Str.ofString "/claim/cut.py") 538] }) ::
  (nat_lit 279, fnB (stm 13) (PySem.Str.ofString "_law_draws") (PySem.Str.ofString "_law_draws") [] (.none) (.none) (.str (PySem.Str.ofString "law_xi0019_01") 532) (.ref 278) (.none)) ::
  (nat_lit 283, { cls := PySem.Value.type "code", data := PySem.Data.fields #[PySem.Value.str (PySem.Str.ofString "_law_heights") 540, PySem.Value.str (PySem.Str.ofString "_law_heights") 541, PySem.Value.str (PySem.Str.ofString "/claim/cut.py") 542, PySem.Value.int 187 0, PySem.Value.int 3 0, PySem.Value.int 0 0, PySem.Value.int 0 0, PySem.Value.int 3 0, PySem.Value.ref 280, PySem.Value.bool Bool.true, PySem.Value.int 181 0, PySem.Value.ref 281, PySem.Value.none, PySem.Value.none, PySem.Value.none, PySem.Value.ref 282, PySem.Value.int 543 0, PySem.Value.int 187 0, PySem.Value.str (PySem.Str.ofString "/claim/cut.py") 544] }) ::
  (nat_lit 284, fnB (stm 14) (PySem.Str.ofString "_law_heights") (PySem.Str.ofString "_law_heights") [] (.none) (.none) (.str (PySem.Str.ofString "law_xi0019_01") 532) (.ref 283) (.none)) ::
  (nat_lit 290, { cls := PySem.Value.type "code", data := PySem.Data.fields #[PySem.Value.str (PySem.Str.ofString "_law_words") 546, PySem.Value.str (PySem.Str.ofString "_law_words") 547, PySem.Value.str (PySem.Str.ofString "/claim/cut.py") 548, PySem.Value.int 196 0, PySem.Value.int 1 0, PySem.Value.int 0 0, PySem.Value.int 0 0, PySem.Value.int 3 0, PySem.Value.ref 285, PySem.Value.bool Bool.true, PySem.Value.int 181 0, PySem.Value.ref 286, PySem.Value.none, PySem.Value.ref 287, PySem.Value.ref 288, PySem.Value.ref 289, PySem.Value.int 555 0, PySem.Value.int 196 0, PySem.Value.str (PySem.Str.ofString "/claim/cut.py") 556] }) ::
  (nat_lit 291, fnB (stm 15) (PySem.Str.ofString "_law_words") (PySem.Str.ofString "_law_words") [] (.none) (.none) (.str (PySem.Str.ofString "law_xi0019_01") 532) (.ref 290) (.none)) ::
  (nat_lit 297, { cls := PySem.Value.type "code", data := PySem.Data.fields #[PySem.Value.str (PySem.Str.ofString "_law_rows") 558, PySem.Value.str (PySem.Str.ofString "_law_rows") 559, PySem.Value.str (PySem.Str.ofString "/claim/cut.py") 560, PySem.Value.int 213 0, PySem.Value.int 4 0, PySem.Value.int 0 0, PySem.Value.int 0 0, PySem.Value.int 3 0, PySem.Value.ref 292, PySem.Value.bool Bool.true, PySem.Value.int 181 0, PySem.Value.ref 293, PySem.Value.none, PySem.Value.ref 294, PySem.Value.ref 295, PySem.Value.ref 296, PySem.Value.int 568 0, PySem.Value.int 213 0, PySem.Value.str (PySem.Str.ofString "/claim/cut.py") 569] }) ::
  (nat_lit 298, fnB (stm 16) (PySem.Str.ofString "_law_rows") (PySem.Str.ofString "_law_rows") [] (.none) (.none) (.str (PySem.Str.ofString "law_xi0019_01") 532) (.ref 297) (.none)) ::
  (nat_lit 304, { cls := PySem.Value.type "code", data := PySem.Data.fields #[PySem.Value.str (PySem.Str.ofString "_law_folded") 571, PySem.Value.str (PySem.Str.ofString "_law_folded") 572, PySem.Value.str (PySem.Str.ofString "/claim/cut.py") 573, PySem.Value.int 222 0, PySem.Value.int 3 0, PySem.Value.int 0 0, PySem.Value.int 0 0, PySem.Value.int 3 0, PySem.Value.ref 299, PySem.Value.bool Bool.true, PySem.Value.int 181 0, PySem.Value.ref 300, PySem.Value.none, PySem.Value.ref 301, PySem.Value.ref 302, PySem.Value.ref 303, PySem.Value.int 585 0, PySem.Value.int 222 0, PySem.Value.str (PySem.Str.ofString "/claim/cut.py") 586] }) ::
  (nat_lit 305, fnB (stm 17) (PySem.Str.ofString "_law_folded") (PySem.Str.ofString "_law_folded") [] (.none) (.none) (.str (PySem.Str.ofString "law_xi0019_01") 532) (.ref 304) (.none)) ::
  (nat_lit 309, { cls := PySem.Value.type "code", data := PySem.Data.fields #[PySem.Value.str (PySem.Str.ofString "law") 588, PySem.Value.str (PySem.Str.ofString "law") 589, PySem.Value.str (PySem.Str.ofString "/claim/cut.py") 590, PySem.Value.int 241 0, PySem.Value.int 1 0, PySem.Value.int 0 0, PySem.Value.int 0 0, PySem.Value.int 3 0, PySem.Value.ref 306, PySem.Value.bool Bool.true, PySem.Value.int 181 0, PySem.Value.ref 307, PySem.Value.none, PySem.Value.none, PySem.Value.none, PySem.Value.ref 308, PySem.Value.int 591 0, PySem.Value.int 241 0, PySem.Value.str (PySem.Str.ofString "/claim/cut.py") 592] }) ::
  (nat_lit 310, fnB (stm 18) (PySem.Str.ofString "law") (PySem.Str.ofString "law") [] (.none) (.none) (.str (PySem.Str.ofString "law_xi0019_01") 532) (.ref 309) (.none)) :: []
noncomputable def KL : Params → Frag := fun P => (fun (f : Frag) (_ : f = KK P) => f) (
  (nat_lit 2, { cls := PySem.Value.none, data := PySem.Data.dict #[] }) ::
  (nat_lit 3, { cls := PySem.Value.type "dict", data := PySem.Data.dict #[{ hash := PySem.PyData.keyHash P (PySem.Str.ofString "__name__"), key := PySem.Value.str (PySem.Str.ofString "__name__") 165, val := PySem.Value.str (PySem.Str.ofString "law_xi0019_01") 532 }, { hash := PySem.PyData.keyHash P (PySem.Str.ofString "__doc__"), key := PySem.Value.str (PySem.Str.ofString "__doc__") 166, val := PySem.Value.none }, { hash := PySem.PyData.keyHash P (PySem.Str.ofString "__package__"), key := PySem.Value.str (PySem.Str.ofString "__package__") 167, val := PySem.Value.none }, { hash := PySem.PyData.keyHash P (PySem.Str.ofString "__loader__"), key := PySem.Value.str (PySem.Str.ofString "__loader__") 168, val := PySem.Value.builtin "__main__.__loader__#opaque" }, { hash := PySem.PyData.keyHash P (PySem.Str.ofString "__spec__"), key := PySem.Value.str (PySem.Str.ofString "__spec__") 169, val := PySem.Value.none }, { hash := PySem.PyData.keyHash P (PySem.Str.ofString "__annotations__"), key := PySem.Value.str (PySem.Str.ofString "__annotations__") 170, val := PySem.Value.ref 6 }, { hash := PySem.PyData.keyHash P (PySem.Str.ofString "__builtins__"), key := PySem.Value.str (PySem.Str.ofString "__builtins__") 171, val := PySem.Value.ref 4 }, { hash := PySem.PyData.keyHash P (PySem.Str.ofString "__file__"), key := PySem.Value.str (PySem.Str.ofString "__file__") 173, val := PySem.Value.str (PySem.Str.ofString "/claim/cut.py") 172 }, { hash := PySem.PyData.keyHash P (PySem.Str.ofString "__cached__"), key := PySem.Value.str (PySem.Str.ofString "__cached__") 174, val := PySem.Value.none }, { hash := PySem.PyData.keyHash P (PySem.Str.ofString "_wall"), key := PySem.Value.str (PySem.Str.ofString "_wall") 193, val := PySem.Value.ref 21 }, { hash := PySem.PyData.keyHash P (PySem.Str.ofString "NL"), key := PySem.Value.str (PySem.Str.ofString "NL") 197, val := PySem.Value.str (PySem.Str.ofString "\n") 196 }, { hash := PySem.PyData.keyHash P (PySem.Str.ofString "EMPTYSTRING"), key := PySem.Value.str (PySem.Str.ofString "EMPTYSTRING") 199, val := PySem.Value.str (PySem.Str.ofString "") 198 }, { hash := PySem.PyData.keyHash P (PySem.Str.ofString "_ValueFormatter"), key := PySem.Value.str (PySem.Str.ofString "_ValueFormatter") 307, val := PySem.Value.ref 94 }, { hash := PySem.PyData.keyHash P (PySem.Str.ofString "_Accumulator"), key := PySem.Value.str (PySem.Str.ofString "_Accumulator") 403, val := PySem.Value.ref 178 }, { hash := PySem.PyData.keyHash P (PySem.Str.ofString "_DIV_LIMIT"), key := PySem.Value.str (PySem.Str.ofString "_DIV_LIMIT") 407, val := PySem.Value.int 4000 406 }, { hash := PySem.PyData.keyHash P (PySem.Str.ofString "_div2n1n"), key := PySem.Value.str (PySem.Str.ofString "_div2n1n") 424, val := PySem.Value.ref 189 }, { hash := PySem.PyData.keyHash P (PySem.Str.ofString "_div3n2n"), key := PySem.Value.str (PySem.Str.ofString "_div3n2n") 438, val := PySem.Value.ref 196 }, { hash := PySem.PyData.keyHash P (PySem.Str.ofString "QName"), key := PySem.Value.str (PySem.Str.ofString "QName") 531, val := PySem.Value.ref 270 }, { hash := PySem.PyData.keyHash P (PySem.Str.ofString "_law_draws"), key := PySem.Value.str (PySem.Str.ofString "_law_draws") 539, val := PySem.Value.ref 279 }, { hash := PySem.PyData.keyHash P (PySem.Str.ofString "_law_heights"), key := PySem.Value.str (PySem.Str.ofString "_law_heights") 545, val := PySem.Value.ref 284 }, { hash := PySem.PyData.keyHash P (PySem.Str.ofString "_law_words"), key := PySem.Value.str (PySem.Str.ofString "_law_words") 557, val := PySem.Value.ref 291 }, { hash := PySem.PyData.keyHash P (PySem.Str.ofString "_law_rows"), key := PySem.Value.str (PySem.Str.ofString "_law_rows") 570, val := PySem.Value.ref 298 }, { hash := PySem.PyData.keyHash P (PySem.Str.ofString "_law_folded"), key := PySem.Value.str (PySem.Str.ofString "_law_folded") 587, val := PySem.Value.ref 305 }, { hash := PySem.PyData.keyHash P (PySem.Str.ofString "law"), key := PySem.Value.str (PySem.Str.ofString "law") 593, val := PySem.Value.ref 310 }] 24 }) ::
  (nat_lit 20, { cls := PySem.Value.type "code", data := PySem.Data.fields #[PySem.Value.str (PySem.Str.ofString "_wall") 187, PySem.Value.str (PySem.Str.ofString "_wall") 188, PySem.Value.str (PySem.Str.ofString "/claim/cut.py") 189, PySem.Value.int 1 0, PySem.Value.int 1 0, PySem.Value.int 0 0, PySem.Value.int 0 0, PySem.Value.int 3 0, PySem.Value.ref 15, PySem.Value.bool Bool.true, PySem.Value.int 181 0, PySem.Value.ref 16, PySem.Value.none, PySem.Value.ref 17, PySem.Value.ref 18, PySem.Value.ref 19, PySem.Value.int 191 0, PySem.Value.int 1 0, PySem.Value.str (PySem.Str.ofString "/claim/cut.py") 192] }) ::
  (nat_lit 21, { cls := .type "function", data := .func { name := PySem.Str.ofString "_wall", qualname := PySem.Str.ofString "_wall", params := _, body := .stmts _, scope := _, globals := 3, closure := [], defaults := .none, kwdefaults := .none, pyModule := (.str (PySem.Str.ofString "__main__") 164), code := .ref 20, closureTuple := .none } }) ::
  (nat_lit 34, { cls := PySem.Value.type "code", data := PySem.Data.fields #[PySem.Value.str (PySem.Str.ofString "__init__") 212, PySem.Value.str (PySem.Str.ofString "_ValueFormatter.__init__") 213, PySem.Value.str (PySem.Str.ofString "/claim/cut.py") 214, PySem.Value.int 9 0, PySem.Value.int 5 0, PySem.Value.int 0 0, PySem.Value.int 0 0, PySem.Value.int 3 0, PySem.Value.ref 29, PySem.Value.bool Bool.true, PySem.Value.int 181 0, PySem.Value.ref 30, PySem.Value.none, PySem.Value.ref 31, PySem.Value.ref 32, PySem.Value.ref 33, PySem.Value.int 220 0, PySem.Value.int 9 0, PySem.Value.str (PySem.Str.ofString "/claim/cut.py") 221] }) ::
  (nat_lit 35, { cls := .type "function", data := .func { name := PySem.Str.ofString "__init__", qualname := PySem.Str.ofString "_ValueFormatter.__init__", params := _, body := .stmts _, scope := _, globals := 3, closure := [], defaults := .none, kwdefaults := .none, pyModule := (.str (PySem.Str.ofString "cpy313.email.header") 194), code := .ref 34, closureTuple := .none } }) ::
  (nat_lit 41, { cls := PySem.Value.type "code", data := PySem.Data.fields #[PySem.Value.str (PySem.Str.ofString "_str") 223, PySem.Value.str (PySem.Str.ofString "_ValueFormatter._str") 224, PySem.Value.str (PySem.Str.ofString "/claim/cut.py") 225, PySem.Value.int 17 0, PySem.Value.int 2 0, PySem.Value.int 0 0, PySem.Value.int 0 0, PySem.Value.int 3 0, PySem.Value.ref 36, PySem.Value.bool Bool.true, PySem.Value.int 181 0, PySem.Value.ref 37, PySem.Value.none, PySem.Value.ref 38, PySem.Value.ref 39, PySem.Value.ref 40, PySem.Value.int 228 0, PySem.Value.int 17 0, PySem.Value.str (PySem.Str.ofString "/claim/cut.py") 229] }) ::
  (nat_lit 42, { cls := .type "function", data := .func { name := PySem.Str.ofString "_str", qualname := PySem.Str.ofString "_ValueFormatter._str", params := _, body := .stmts _, scope := _, globals := 3, closure := [], defaults := .none, kwdefaults := .none, pyModule := (.str (PySem.Str.ofString "cpy313.email.header") 194), code := .ref 41, closureTuple := .none } }) ::
  (nat_lit 48, { cls := PySem.Value.type "code", data := PySem.Data.fields #[PySem.Value.str (PySem.Str.ofString "__str__") 231, PySem.Value.str (PySem.Str.ofString "_ValueFormatter.__str__") 232, PySem.Value.str (PySem.Str.ofString "/claim/cut.py") 233, PySem.Value.int 21 0, PySem.Value.int 1 0, PySem.Value.int 0 0, PySem.Value.int 0 0, PySem.Value.int 3 0, PySem.Value.ref 43, PySem.Value.bool Bool.true, PySem.Value.int 181 0, PySem.Value.ref 44, PySem.Value.none, PySem.Value.ref 45, PySem.Value.ref 46, PySem.Value.ref 47, PySem.Value.int 235 0, PySem.Value.int 21 0, PySem.Value.str (PySem.Str.ofString "/claim/cut.py") 236] }) ::
  (nat_lit 49, { cls := .type "function", data := .func { name := PySem.Str.ofString "__str__", qualname := PySem.Str.ofString "_ValueFormatter.__str__", params := _, body := .stmts _, scope := _, globals := 3, closure := [], defaults := .none, kwdefaults := .none, pyModule := (.str (PySem.Str.ofString "cpy313.email.header") 194), code := .ref 48, closureTuple := .none } }) ::
  (nat_lit 55, { cls := PySem.Value.type "code", data := PySem.Data.fields #[PySem.Value.str (PySem.Str.ofString "newline") 238, PySem.Value.str (PySem.Str.ofString "_ValueFormatter.newline") 239, PySem.Value.str (PySem.Str.ofString "/claim/cut.py") 240, PySem.Value.int 24 0, PySem.Value.int 1 0, PySem.Value.int 0 0, PySem.Value.int 0 0, PySem.Value.int 3 0, PySem.Value.ref 50, PySem.Value.bool Bool.true, PySem.Value.int 181 0, PySem.Value.ref 51, PySem.Value.none, PySem.Value.ref 52, PySem.Value.ref 53, PySem.Value.ref 54, PySem.Value.int 243 0, PySem.Value.int 24 0, PySem.Value.str (PySem.Str.ofString "/claim/cut.py") 244] }) ::
  (nat_lit 56, { cls := .type "function", data := .func { name := PySem.Str.ofString "newline", qualname := PySem.Str.ofString "_ValueFormatter.newline", params := _, body := .stmts _, scope := _, globals := 3, closure := [], defaults := .none, kwdefaults := .none, pyModule := (.str (PySem.Str.ofString "cpy313.email.header") 194), code := .ref 55, closureTuple := .none } }) ::
  (nat_lit 90, { cls := PySem.Value.type "code", data := PySem.Data.fields #[PySem.Value.str (PySem.Str.ofString "_append_chunk") 280, PySem.Value.str (PySem.Str.ofString "_ValueFormatter._append_chunk") 281, PySem.Value.str (PySem.Str.ofString "/claim/cut.py") 282, PySem.Value.int 47 0, PySem.Value.int 3 0, PySem.Value.int 0 0, PySem.Value.int 0 0, PySem.Value.int 3 0, PySem.Value.ref 85, PySem.Value.bool Bool.true, PySem.Value.int 181 0, PySem.Value.ref 86, PySem.Value.none, PySem.Value.ref 87, PySem.Value.ref 88, PySem.Value.ref 89, PySem.Value.int 291 0, PySem.Value.int 47 0, PySem.Value.str (PySem.Str.ofString "/claim/cut.py") 292] }) ::
  (nat_lit 91, { cls := .type "function", data := .func { name := PySem.Str.ofString "_append_chunk", qualname := PySem.Str.ofString "_ValueFormatter._append_chunk", params := _, body := .stmts _, scope := _, globals := 3, closure := [], defaults := .none, kwdefaults := .none, pyModule := (.str (PySem.Str.ofString "cpy313.email.header") 194), code := .ref 90, closureTuple := .none } }) ::
  (nat_lit 93, { cls := PySem.Value.type "dict", data := PySem.Data.dict #[{ hash := PySem.PyData.keyHash P (PySem.Str.ofString "__module__"), key := PySem.Value.str (PySem.Str.ofString "__module__") 207, val := PySem.Value.str (PySem.Str.ofString "cpy313.email.header") 194 }, { hash := PySem.PyData.keyHash P (PySem.Str.ofString "__firstlineno__"), key := PySem.Value.str (PySem.Str.ofString "__firstlineno__") 211, val := PySem.Value.int 7 210 }, { hash := PySem.PyData.keyHash P (PySem.Str.ofString "__init__"), key := PySem.Value.str (PySem.Str.ofString "__init__") 222, val := PySem.Value.ref 35 }, { hash := PySem.PyData.keyHash P (PySem.Str.ofString "_str"), key := PySem.Value.str (PySem.Str.ofString "_str") 230, val := PySem.Value.ref 42 }, { hash := PySem.PyData.keyHash P (PySem.Str.ofString "__str__"), key := PySem.Value.str (PySem.Str.ofString "__str__") 237, val := PySem.Value.ref 49 }, { hash := PySem.PyData.keyHash P (PySem.Str.ofString "newline"), key := PySem.Value.str (PySem.Str.ofString "newline") 245, val := PySem.Value.ref 56 }, { hash := PySem.PyData.keyHash P (PySem.Str.ofString "add_transition"), key := PySem.Value.str (PySem.Str.ofString "add_transition") 252, val := PySem.Value.ref 63 }, { hash := PySem.PyData.keyHash P (PySem.Str.ofString "feed"), key := PySem.Value.str (PySem.Str.ofString "feed") 262, val := PySem.Value.ref 70 }, { hash := PySem.PyData.keyHash P (PySem.Str.ofString "_maxlengths"), key := PySem.Value.str (PySem.Str.ofString "_maxlengths") 269, val := PySem.Value.ref 77 }, { hash := PySem.PyData.keyHash P (PySem.Str.ofString "_ascii_split"), key := PySem.Value.str (PySem.Str.ofString "_ascii_split") 279, val := PySem.Value.ref 84 }, { hash := PySem.PyData.keyHash P (PySem.Str.ofString "_append_chunk"), key := PySem.Value.str (PySem.Str.ofString "_append_chunk") 293, val := PySem.Value.ref 91 }, { hash := PySem.PyData.keyHash P (PySem.Str.ofString "__static_attributes__"), key := PySem.Value.str (PySem.Str.ofString "__static_attributes__") 300, val := PySem.Value.ref 92 }, { hash := PySem.PyData.keyHash P (PySem.Str.ofString "__dict__"), key := PySem.Value.str (PySem.Str.ofString "__dict__") 302, val := PySem.Value.ref 95 }, { hash := PySem.PyData.keyHash P (PySem.Str.ofString "__weakref__"), key := PySem.Value.str (PySem.Str.ofString "__weakref__") 304, val := PySem.Value.ref 96 }, { hash := PySem.PyData.keyHash P (PySem.Str.ofString "__doc__"), key := PySem.Value.str (PySem.Str.ofString "__doc__") 305, val := PySem.Value.none }] 4 }) ::
  (nat_lit 94, { cls := PySem.Value.type "type", data := PySem.Data.cls { name := PySem.Str.ofString "_ValueFormatter", bases := [PySem.Value.type "object"], mro := [PySem.Value.ref 94, PySem.Value.type "object"], ns := 93, qualname := PySem.Str.ofString "_ValueFormatter" }, slots := #[Option.none, Option.none, Option.some (PySem.Value.str (PySem.Str.ofString "_ValueFormatter") 200), Option.some (PySem.Value.str (PySem.Str.ofString "_ValueFormatter") 208), Option.some (PySem.Value.builtin "object.__new__"), Option.some (PySem.Value.bool Bool.true)] }) ::
  (nat_lit 102, { cls := PySem.Value.type "cell", data := PySem.Data.cell (Option.some (PySem.Value.ref 178)) }) ::
  (nat_lit 107, { cls := PySem.Value.type "tuple", data := PySem.Data.seq #[PySem.Value.int 0 320] }) ::
  (nat_lit 114, { cls := PySem.Value.type "code", data := PySem.Data.fields #[PySem.Value.str (PySem.Str.ofString "__init__") 321, PySem.Value.str (PySem.Str.ofString "_Accumulator.__init__") 322, PySem.Value.str (PySem.Str.ofString "/claim/cut.py") 323, PySem.Value.int 75 0, PySem.Value.int 2 0, PySem.Value.int 0 0, PySem.Value.int 0 0, PySem.Value.int 3 0, PySem.Value.ref 109, PySem.Value.bool Bool.true, PySem.Value.int 181 0, PySem.Value.ref 110, PySem.Value.none, PySem.Value.ref 111, PySem.Value.ref 112, PySem.Value.ref 113, PySem.Value.int 327 0, PySem.Value.int 75 0, PySem.Value.str (PySem.Str.ofString "/claim/cut.py") 328] }) ::
  (nat_lit 115, { cls := .type "function", data := .func { name := PySem.Str.ofString "__init__", qualname := PySem.Str.ofString "_Accumulator.__init__", params := _, body := .stmts _, scope := _, globals := 3, closure := [(PySem.Str.ofString "__class__", 102)], defaults := .ref 107, kwdefaults := .none, pyModule := (.str (PySem.Str.ofString "cpy313.email.header") 194), code := .ref 114, closureTuple := .ref 108 } }) ::
  (nat_lit 121, { cls := PySem.Value.type "code", data := PySem.Data.fields #[PySem.Value.str (PySem.Str.ofString "push") 330, PySem.Value.str (PySem.Str.ofString "_Accumulator.push") 331, PySem.Value.str (PySem.Str.ofString "/claim/cut.py") 332, PySem.Value.int 79 0, PySem.Value.int 3 0, PySem.Value.int 0 0, PySem.Value.int 0 0, PySem.Value.int 3 0, PySem.Value.ref 116, PySem.Value.bool Bool.true, PySem.Value.int 181 0, PySem.Value.ref 117, PySem.Value.none, PySem.Value.ref 118, PySem.Value.ref 119, PySem.Value.ref 120, PySem.Value.int 336 0, PySem.Value.int 79 0, PySem.Value.str (PySem.Str.ofString "/claim/cut.py") 337] }) ::
  (nat_lit 122, { cls := .type "function", data := .func { name := PySem.Str.ofString "push", qualname := PySem.Str.ofString "_Accumulator.push", params := _, body := .stmts _, scope := _, globals := 3, closure := [], defaults := .none, kwdefaults := .none, pyModule := (.str (PySem.Str.ofString "cpy313.email.header") 194), code := .ref 121, closureTuple := .none } }) ::
  (nat_lit 123, { cls := PySem.Value.type "tuple", data := PySem.Data.seq #[PySem.Value.int 0 339] }) ::
  (nat_lit 129, { cls := PySem.Value.type "code", data := PySem.Data.fields #[PySem.Value.str (PySem.Str.ofString "pop_from") 340, PySem.Value.str (PySem.Str.ofString "_Accumulator.pop_from") 341, PySem.Value.str (PySem.Str.ofString "/claim/cut.py") 342, PySem.Value.int 82 0, PySem.Value.int 2 0, PySem.Value.int 0 0, PySem.Value.int 0 0, PySem.Value.int 3 0, PySem.Value.ref 124, PySem.Value.bool Bool.true, PySem.Value.int 181 0, PySem.Value.ref 125, PySem.Value.none, PySem.Value.ref 126, PySem.Value.ref 127, PySem.Value.ref 128, PySem.Value.int 346 0, PySem.Value.int 82 0, PySem.Value.str (PySem.Str.ofString "/claim/cut.py") 347] }) ::
  (nat_lit 130, { cls := .type "function", data := .func { name := PySem.Str.ofString "pop_from", qualname := PySem.Str.ofString "_Accumulator.pop_from", params := _, body := .stmts _, scope := _, globals := 3, closure := [], defaults := .ref 123, kwdefaults := .none, pyModule := (.str (PySem.Str.ofString "cpy313.email.header") 194), code := .ref 129, closureTuple := .none } }) ::
  (nat_lit 137, { cls := PySem.Value.type "code", data := PySem.Data.fields #[PySem.Value.str (PySem.Str.ofString "pop") 349, PySem.Value.str (PySem.Str.ofString "_Accumulator.pop") 350, PySem.Value.str (PySem.Str.ofString "/claim/cut.py") 351, PySem.Value.int 87 0, PySem.Value.int 1 0, PySem.Value.int 0 0, PySem.Value.int 0 0, PySem.Value.int 3 0, PySem.Value.ref 132, PySem.Value.bool Bool.true, PySem.Value.int 181 0, PySem.Value.ref 133, PySem.Value.none, PySem.Value.ref 134, PySem.Value.ref 135, PySem.Value.ref 136, PySem.Value.int 354 0, PySem.Value.int 87 0, PySem.Value.str (PySem.Str.ofString "/claim/cut.py") 355] }) ::
  (nat_lit 138, { cls := .type "function", data := .func { name := PySem.Str.ofString "pop", qualname := PySem.Str.ofString "_Accumulator.pop", params := _, body := .stmts _, scope := _, globals := 3, closure := [(PySem.Str.ofString "__class__", 102)], defaults := .none, kwdefaults := .none, pyModule := (.str (PySem.Str.ofString "cpy313.email.header") 194), code := .ref 137, closureTuple := .ref 131 } }) ::
  (nat_lit 144, { cls := PySem.Value.type "code", data := PySem.Data.fields #[PySem.Value.str (PySem.Str.ofString "__len__") 357, PySem.Value.str (PySem.Str.ofString "_Accumulator.__len__") 358, PySem.Value.str (PySem.Str.ofString "/claim/cut.py") 359, PySem.Value.int 92 0, PySem.Value.int 1 0, PySem.Value.int 0 0, PySem.Value.int 0 0, PySem.Value.int 3 0, PySem.Value.ref 139, PySem.Value.bool Bool.true, PySem.Value.int 181 0, PySem.Value.ref 140, PySem.Value.none, PySem.Value.ref 141, PySem.Value.ref 142, PySem.Value.ref 143, PySem.Value.int 361 0, PySem.Value.int 92 0, PySem.Value.str (PySem.Str.ofString "/claim/cut.py") 362] }) ::
  (nat_lit 145, { cls := .type "function", data := .func { name := PySem.Str.ofString "__len__", qualname := PySem.Str.ofString "_Accumulator.__len__", params := _, body := .stmts _, scope := _, globals := 3, closure := [], defaults := .none, kwdefaults := .none, pyModule := (.str (PySem.Str.ofString "cpy313.email.header") 194), code := .ref 144, closureTuple := .none } }) ::
  (nat_lit 151, { cls := PySem.Value.type "code", data := PySem.Data.fields #[PySem.Value.str (PySem.Str.ofString "__str__") 364, PySem.Value.str (PySem.Str.ofString "_Accumulator.__str__") 365, PySem.Value.str (PySem.Str.ofString "/claim/cut.py") 366, PySem.Value.int 95 0, PySem.Value.int 1 0, PySem.Value.int 0 0, PySem.Value.int 0 0, PySem.Value.int 3 0, PySem.Value.ref 146, PySem.Value.bool Bool.true, PySem.Value.int 181 0, PySem.Value.ref 147, PySem.Value.none, PySem.Value.ref 148, PySem.Value.ref 149, PySem.Value.ref 150, PySem.Value.int 368 0, PySem.Value.int 95 0, PySem.Value.str (PySem.Str.ofString "/claim/cut.py") 369] }) ::
  (nat_lit 152, { cls := .type "function", data := .func { name := PySem.Str.ofString "__str__", qualname := PySem.Str.ofString "_Accumulator.__str__", params := _, body := .stmts _, scope := _, globals := 3, closure := [], defaults := .none, kwdefaults := .none, pyModule := (.str (PySem.Str.ofString "cpy313.email.header") 194), code := .ref 151, closureTuple := .none } }) ::
  (nat_lit 153, { cls := PySem.Value.type "tuple", data := PySem.Data.seq #[PySem.Value.none] }) ::
  (nat_lit 159, { cls := PySem.Value.type "code", data := PySem.Data.fields #[PySem.Value.str (PySem.Str.ofString "reset") 371, PySem.Value.str (PySem.Str.ofString "_Accumulator.reset") 372, PySem.Value.str (PySem.Str.ofString "/claim/cut.py") 373, PySem.Value.int 98 0, PySem.Value.int 2 0, PySem.Value.int 0 0, PySem.Value.int 0 0, PySem.Value.int 3 0, PySem.Value.ref 154, PySem.Value.bool Bool.true, PySem.Value.int 181 0, PySem.Value.ref 155, PySem.Value.none, PySem.Value.ref 156, PySem.Value.ref 157, PySem.Value.ref 158, PySem.Value.int 376 0, PySem.Value.int 98 0, PySem.Value.str (PySem.Str.ofString "/claim/cut.py") 377] }) ::
  (nat_lit 160, { cls := .type "function", data := .func { name := PySem.Str.ofString "reset", qualname := PySem.Str.ofString "_Accumulator.reset", params := _, body := .stmts _, scope := _, globals := 3, closure := [], defaults := .ref 153, kwdefaults := .none, pyModule := (.str (PySem.Str.ofString "cpy313.email.header") 194), code := .ref 159, closureTuple := .none } }) ::
  (nat_lit 166, { cls := PySem.Value.type "code", data := PySem.Data.fields #[PySem.Value.str (PySem.Str.ofString "is_onlyws") 379, PySem.Value.str (PySem.Str.ofString "_Accumulator.is_onlyws") 380, PySem.Value.str (PySem.Str.ofString "/claim/cut.py") 381, PySem.Value.int 104 0, PySem.Value.int 1 0, PySem.Value.int 0 0, PySem.Value.int 0 0, PySem.Value.int 3 0, PySem.Value.ref 161, PySem.Value.bool Bool.true, PySem.Value.int 181 0, PySem.Value.ref 162, PySem.Value.none, PySem.Value.ref 163, PySem.Value.ref 164, PySem.Value.ref 165, PySem.Value.int 383 0, PySem.Value.int 104 0, PySem.Value.str (PySem.Str.ofString "/claim/cut.py") 384] }) ::
  (nat_lit 167, { cls := .type "function", data := .func { name := PySem.Str.ofString "is_onlyws", qualname := PySem.Str.ofString "_Accumulator.is_onlyws", params := _, body := .stmts _, scope := _, globals := 3, closure := [], defaults := .none, kwdefaults := .none, pyModule := (.str (PySem.Str.ofString "cpy313.email.header") 194), code := .ref 166, closureTuple := .none } }) ::
  (nat_lit 174, { cls := PySem.Value.type "code", data := PySem.Data.fields #[PySem.Value.str (PySem.Str.ofString "part_count") 386, PySem.Value.str (PySem.Str.ofString "_Accumulator.part_count") 387, PySem.Value.str (PySem.Str.ofString "/claim/cut.py") 388, PySem.Value.int 107 0, PySem.Value.int 1 0, PySem.Value.int 0 0, PySem.Value.int 0 0, PySem.Value.int 3 0, PySem.Value.ref 169, PySem.Value.bool Bool.true, PySem.Value.int 181 0, PySem.Value.ref 170, PySem.Value.none, PySem.Value.ref 171, PySem.Value.ref 172, PySem.Value.ref 173, PySem.Value.int 391 0, PySem.Value.int 107 0, PySem.Value.str (PySem.Str.ofString "/claim/cut.py") 392] }) ::
  (nat_lit 175, { cls := .type "function", data := .func { name := PySem.Str.ofString "part_count", qualname := PySem.Str.ofString "_Accumulator.part_count", params := _, body := .stmts _, scope := _, globals := 3, closure := [(PySem.Str.ofString "__class__", 102)], defaults := .none, kwdefaults := .none, pyModule := (.str (PySem.Str.ofString "cpy313.email.header") 194), code := .ref 174, closureTuple := .ref 168 } }) ::
  (nat_lit 177, { cls := PySem.Value.type "dict", data := PySem.Data.dict #[{ hash := PySem.PyData.keyHash P (PySem.Str.ofString "__module__"), key := PySem.Value.str (PySem.Str.ofString "__module__") 315, val := PySem.Value.str (PySem.Str.ofString "cpy313.email.header") 194 }, { hash := PySem.PyData.keyHash P (PySem.Str.ofString "__firstlineno__"), key := PySem.Value.str (PySem.Str.ofString "__firstlineno__") 319, val := PySem.Value.int 73 318 }, { hash := PySem.PyData.keyHash P (PySem.Str.ofString "__init__"), key := PySem.Value.str (PySem.Str.ofString "__init__") 329, val := PySem.Value.ref 115 }, { hash := PySem.PyData.keyHash P (PySem.Str.ofString "push"), key := PySem.Value.str (PySem.Str.ofString "push") 338, val := PySem.Value.ref 122 }, { hash := PySem.PyData.keyHash P (PySem.Str.ofString "pop_from"), key := PySem.Value.str (PySem.Str.ofString "pop_from") 348, val := PySem.Value.ref 130 }, { hash := PySem.PyData.keyHash P (PySem.Str.ofString "pop"), key := PySem.Value.str (PySem.Str.ofString "pop") 356, val := PySem.Value.ref 138 }, { hash := PySem.PyData.keyHash P (PySem.Str.ofString "__len__"), key := PySem.Value.str (PySem.Str.ofString "__len__") 363, val := PySem.Value.ref 145 }, { hash := PySem.PyData.keyHash P (PySem.Str.ofString "__str__"), key := PySem.Value.str (PySem.Str.ofString "__str__") 370, val := PySem.Value.ref 152 }, { hash := PySem.PyData.keyHash P (PySem.Str.ofString "reset"), key := PySem.Value.str (PySem.Str.ofString "reset") 378, val := PySem.Value.ref 160 }, { hash := PySem.PyData.keyHash P (PySem.Str.ofString "is_onlyws"), key := PySem.Value.str (PySem.Str.ofString "is_onlyws") 385, val := PySem.Value.ref 167 }, { hash := PySem.PyData.keyHash P (PySem.Str.ofString "part_count"), key := PySem.Value.str (PySem.Str.ofString "part_count") 393, val := PySem.Value.ref 175 }, { hash := PySem.PyData.keyHash P (PySem.Str.ofString "__static_attributes__"), key := PySem.Value.str (PySem.Str.ofString "__static_attributes__") 395, val := PySem.Value.ref 176 }, { hash := PySem.PyData.keyHash P (PySem.Str.ofString "__dict__"), key := PySem.Value.str (PySem.Str.ofString "__dict__") 398, val := PySem.Value.ref 179 }, { hash := PySem.PyData.keyHash P (PySem.Str.ofString "__weakref__"), key := PySem.Value.str (PySem.Str.ofString "__weakref__") 400, val := PySem.Value.ref 180 }, { hash := PySem.PyData.keyHash P (PySem.Str.ofString "__doc__"), key := PySem.Value.str (PySem.Str.ofString "__doc__") 401, val := PySem.Value.none }] 5 }) ::
  (nat_lit 178, { cls := PySem.Value.type "type", data := PySem.Data.cls { name := PySem.Str.ofString "_Accumulator", bases := [PySem.Value.type "list"], mro := [PySem.Value.ref 178, PySem.Value.type "list", PySem.Value.type "object"], ns := 177, qualname := PySem.Str.ofString "_Accumulator" }, slots := #[Option.some (PySem.Value.ref 99), Option.none, Option.some (PySem.Value.str (PySem.Str.ofString "_Accumulator") 308), Option.some (PySem.Value.str (PySem.Str.ofString "_Accumulator") 316), Option.some (PySem.Value.builtin "list.__new__"), Option.some (PySem.Value.bool Bool.true)] }) ::
  (nat_lit 188, { cls := PySem.Value.type "code", data := PySem.Data.fields #[PySem.Value.str (PySem.Str.ofString "_div2n1n") 408, PySem.Value.str (PySem.Str.ofString "_div2n1n") 409, PySem.Value.str (PySem.Str.ofString "/claim/cut.py") 410, PySem.Value.int 111 0, PySem.Value.int 3 0, PySem.Value.int 0 0, PySem.Value.int 0 0, PySem.Value.int 3 0, PySem.Value.ref 183, PySem.Value.bool Bool.true, PySem.Value.int 181 0, PySem.Value.ref 184, PySem.Value.none, PySem.Value.ref 185, PySem.Value.ref 186, PySem.Value.ref 187, PySem.Value.int 422 0, PySem.Value.int 111 0, PySem.Value.str (PySem.Str.ofString "/claim/cut.py") 423] }) ::
  (nat_lit 189, { cls := .type "function", data := .func { name := PySem.Str.ofString "_div2n1n", qualname := PySem.Str.ofString "_div2n1n", params := _, body := .stmts _, scope := _, globals := 3, closure := [], defaults := .none, kwdefaults := .none, pyModule := (.str (PySem.Str.ofString "cpy313._pylong") 404), code := .ref 188, closureTuple := .none } }) ::
  (nat_lit 195, { cls := PySem.Value.type "code", data := PySem.Data.fields #[PySem.Value.str (PySem.Str.ofString "_div3n2n") 425, PySem.Value.str (PySem.Str.ofString "_div3n2n") 426, PySem.Value.str (PySem.Str.ofString "/claim/cut.py") 427, PySem.Value.int 127 0, PySem.Value.int 6 0, PySem.Value.int 0 0, PySem.Value.int 0 0, PySem.Value.int 3 0, PySem.Value.ref 190, PySem.Value.bool Bool.true, PySem.Value.int 181 0, PySem.Value.ref 191, PySem.Value.none, PySem.Value.ref 192, PySem.Value.ref 193, PySem.Value.ref 194, PySem.Value.int 436 0, PySem.Value.int 127 0, PySem.Value.str (PySem.Str.ofString "/claim/cut.py") 437] }) ::
  (nat_lit 196, { cls := .type "function", data := .func { name := PySem.Str.ofString "_div3n2n", qualname := PySem.Str.ofString "_div3n2n", params := _, body := .stmts _, scope := _, globals := 3, closure := [], defaults := .none, kwdefaults := .none, pyModule := (.str (PySem.Str.ofString "cpy313._pylong") 404), code := .ref 195, closureTuple := .none } }) ::
  (nat_lit 204, { cls := PySem.Value.type "tuple", data := PySem.Data.seq #[PySem.Value.none] }) ::
  (nat_lit 210, { cls := PySem.Value.type "code", data := PySem.Data.fields #[PySem.Value.str (PySem.Str.ofString "__init__") 453, PySem.Value.str (PySem.Str.ofString "QName.__init__") 454, PySem.Value.str (PySem.Str.ofString "/claim/cut.py") 455, PySem.Value.int 140 0, PySem.Value.int 3 0, PySem.Value.int 0 0, PySem.Value.int 0 0, PySem.Value.int 3 0, PySem.Value.ref 205, PySem.Value.bool Bool.true, PySem.Value.int 181 0, PySem.Value.ref 206, PySem.Value.none, PySem.Value.ref 207, PySem.Value.ref 208, PySem.Value.ref 209, PySem.Value.int 459 0, PySem.Value.int 140 0, PySem.Value.str (PySem.Str.ofString "/claim/cut.py") 460] }) ::
  (nat_lit 211, { cls := .type "function", data := .func { name := PySem.Str.ofString "__init__", qualname := PySem.Str.ofString "QName.__init__", params := _, body := .stmts _, scope := _, globals := 3, closure := [], defaults := .ref 204, kwdefaults := .none, pyModule := (.str (PySem.Str.ofString "cpy313.xml.etree.ElementTree") 439), code := .ref 210, closureTuple := .none } }) ::
  (nat_lit 217, { cls := PySem.Value.type "code", data := PySem.Data.fields #[PySem.Value.str (PySem.Str.ofString "__str__") 462, PySem.Value.str (PySem.Str.ofString "QName.__str__") 463, PySem.Value.str (PySem.Str.ofString "/claim/cut.py") 464, PySem.Value.int 145 0, PySem.Value.int 1 0, PySem.Value.int 0 0, PySem.Value.int 0 0, PySem.Value.int 3 0, PySem.Value.ref 212, PySem.Value.bool Bool.true, PySem.Value.int 181 0, PySem.Value.ref 213, PySem.Value.none, PySem.Value.ref 214, PySem.Value.ref 215, PySem.Value.ref 216, PySem.Value.int 466 0, PySem.Value.int 145 0, PySem.Value.str (PySem.Str.ofString "/claim/cut.py") 467] }) ::
  (nat_lit 218, { cls := .type "function", data := .func { name := PySem.Str.ofString "__str__", qualname := PySem.Str.ofString "QName.__str__", params := _, body := .stmts _, scope := _, globals := 3, closure := [], defaults := .none, kwdefaults := .none, pyModule := (.str (PySem.Str.ofString "cpy313.xml.etree.ElementTree") 439), code := .ref 217, closureTuple := .none } }) ::
  (nat_lit 238, { cls := PySem.Value.type "code", data := PySem.Data.fields #[PySem.Value.str (PySem.Str.ofString "__le__") 483, PySem.Value.str (PySem.Str.ofString "QName.__le__") 484, PySem.Value.str (PySem.Str.ofString "/claim/cut.py") 485, PySem.Value.int 154 0, PySem.Value.int 2 0, PySem.Value.int 0 0, PySem.Value.int 0 0, PySem.Value.int 3 0, PySem.Value.ref 233, PySem.Value.bool Bool.true, PySem.Value.int 181 0, PySem.Value.ref 234, PySem.Value.none, PySem.Value.ref 235, PySem.Value.ref 236, PySem.Value.ref 237, PySem.Value.int 488 0, PySem.Value.int 154 0, PySem.Value.str (PySem.Str.ofString "/claim/cut.py") 489] }) ::
  (nat_lit 239, { cls := .type "function", data := .func { name := PySem.Str.ofString "__le__", qualname := PySem.Str.ofString "QName.__le__", params := _, body := .stmts _, scope := _, globals := 3, closure := [], defaults := .none, kwdefaults := .none, pyModule := (.str (PySem.Str.ofString "cpy313.xml.etree.ElementTree") 439), code := .ref 238, closureTuple := .none } }) ::
  (nat_lit 245, { cls := PySem.Value.type "code", data := PySem.Data.fields #[PySem.Value.str (PySem.Str.ofString "__lt__") 491, PySem.Value.str (PySem.Str.ofString "QName.__lt__") 492, PySem.Value.str (PySem.Str.ofString "/claim/cut.py") 493, PySem.Value.int 159 0, PySem.Value.int 2 0, PySem.Value.int 0 0, PySem.Value.int 0 0, PySem.Value.int 3 0, PySem.Value.ref 240, PySem.Value.bool Bool.true, PySem.Value.int 181 0, PySem.Value.ref 241, PySem.Value.none, PySem.Value.ref 242, PySem.Value.ref 243, PySem.Value.ref 244, PySem.Value.int 496 0, PySem.Value.int 159 0, PySem.Value.str (PySem.Str.ofString "/claim/cut.py") 497] }) ::
  (nat_lit 246, { cls := .type "function", data := .func { name := PySem.Str.ofString "__lt__", qualname := PySem.Str.ofString "QName.__lt__", params := _, body := .stmts _, scope := _, globals := 3, closure := [], defaults := .none, kwdefaults := .none, pyModule := (.str (PySem.Str.ofString "cpy313.xml.etree.ElementTree") 439), code := .ref 245, closureTuple := .none } }) ::
  (nat_lit 252, { cls := PySem.Value.type "code", data := PySem.Data.fields #[PySem.Value.str (PySem.Str.ofString "__ge__") 499, PySem.Value.str (PySem.Str.ofString "QName.__ge__") 500, PySem.Value.str (PySem.Str.ofString "/claim/cut.py") 501, PySem.Value.int 164 0, PySem.Value.int 2 0, PySem.Value.int 0 0, PySem.Value.int 0 0, PySem.Value.int 3 0, PySem.Value.ref 247, PySem.Value.bool Bool.true, PySem.Value.int 181 0, PySem.Value.ref 248, PySem.Value.none, PySem.Value.ref 249, PySem.Value.ref 250, PySem.Value.ref 251, PySem.Value.int 504 0, PySem.Value.int 164 0, PySem.Value.str (PySem.Str.ofString "/claim/cut.py") 505] }) ::
  (nat_lit 253, { cls := .type "function", data := .func { name := PySem.Str.ofString "__ge__", qualname := PySem.Str.ofString "QName.__ge__", params := _, body := .stmts _, scope := _, globals := 3, closure := [], defaults := .none, kwdefaults := .none, pyModule := (.str (PySem.Str.ofString "cpy313.xml.etree.ElementTree") 439), code := .ref 252, closureTuple := .none } }) ::
  (nat_lit 259, { cls := PySem.Value.type "code", data := PySem.Data.fields #[PySem.Value.str (PySem.Str.ofString "__gt__") 507, PySem.Value.str (PySem.Str.ofString "QName.__gt__") 508, PySem.Value.str (PySem.Str.ofString "/claim/cut.py") 509, PySem.Value.int 169 0, PySem.Value.int 2 0, PySem.Value.int 0 0, PySem.Value.int 0 0, PySem.Value.int 3 0, PySem.Value.ref 254, PySem.Value.bool Bool.true, PySem.Value.int 181 0, PySem.Value.ref 255, PySem.Value.none, PySem.Value.ref 256, PySem.Value.ref 257, PySem.Value.ref 258, PySem.Value.int 512 0, PySem.Value.int 169 0, PySem.Value.str (PySem.Str.ofString "/claim/cut.py") 513] }) ::
  (nat_lit 260, { cls := .type "function", data := .func { name := PySem.Str.ofString "__gt__", qualname := PySem.Str.ofString "QName.__gt__", params := _, body := .stmts _, scope := _, globals := 3, closure := [], defaults := .none, kwdefaults := .none, pyModule := (.str (PySem.Str.ofString "cpy313.xml.etree.ElementTree") 439), code := .ref 259, closureTuple := .none } }) ::
  (nat_lit 266, { cls := PySem.Value.type "code", data := PySem.Data.fields #[PySem.Value.str (PySem.Str.ofString "__eq__") 515, PySem.Value.str (PySem.Str.ofString "QName.__eq__") 516, PySem.Value.str (PySem.Str.ofString "/claim/cut.py") 517, PySem.Value.int 174 0, PySem.Value.int 2 0, PySem.Value.int 0 0, PySem.Value.int 0 0, PySem.Value.int 3 0, PySem.Value.ref 261, PySem.Value.bool Bool.true, PySem.Value.int 181 0, PySem.Value.ref 262, PySem.Value.none, PySem.Value.ref 263, PySem.Value.ref 264, PySem.Value.ref 265, PySem.Value.int 520 0, PySem.Value.int 174 0, PySem.Value.str (PySem.Str.ofString "/claim/cut.py") 521] }) ::
  (nat_lit 267, { cls := .type "function", data := .func { name := PySem.Str.ofString "__eq__", qualname := PySem.Str.ofString "QName.__eq__", params := _, body := .stmts _, scope := _, globals := 3, closure := [], defaults := .none, kwdefaults := .none, pyModule := (.str (PySem.Str.ofString "cpy313.xml.etree.ElementTree") 439), code := .ref 266, closureTuple := .none } }) ::
  (nat_lit 269, { cls := PySem.Value.type "dict", data := PySem.Data.dict #[{ hash := PySem.PyData.keyHash P (PySem.Str.ofString "__module__"), key := PySem.Value.str (PySem.Str.ofString "__module__") 448, val := PySem.Value.str (PySem.Str.ofString "cpy313.xml.etree.ElementTree") 439 }, { hash := PySem.PyData.keyHash P (PySem.Str.ofString "__firstlineno__"), key := PySem.Value.str (PySem.Str.ofString "__firstlineno__") 452, val := PySem.Value.int 138 451 }, { hash := PySem.PyData.keyHash P (PySem.Str.ofString "__init__"), key := PySem.Value.str (PySem.Str.ofString "__init__") 461, val := PySem.Value.ref 211 }, { hash := PySem.PyData.keyHash P (PySem.Str.ofString "__str__"), key := PySem.Value.str (PySem.Str.ofString "__str__") 468, val := PySem.Value.ref 218 }, { hash := PySem.PyData.keyHash P (PySem.Str.ofString "__repr__"), key := PySem.Value.str (PySem.Str.ofString "__repr__") 475, val := PySem.Value.ref 225 }, { hash := PySem.PyData.keyHash P (PySem.Str.ofString "__hash__"), key := PySem.Value.str (PySem.Str.ofString "__hash__") 482, val := PySem.Value.ref 232 }, { hash := PySem.PyData.keyHash P (PySem.Str.ofString "__le__"), key := PySem.Value.str (PySem.Str.ofString "__le__") 490, val := PySem.Value.ref 239 }, { hash := PySem.PyData.keyHash P (PySem.Str.ofString "__lt__"), key := PySem.Value.str (PySem.Str.ofString "__lt__") 498, val := PySem.Value.ref 246 }, { hash := PySem.PyData.keyHash P (PySem.Str.ofString "__ge__"), key := PySem.Value.str (PySem.Str.ofString "__ge__") 506, val := PySem.Value.ref 253 }, { hash := PySem.PyData.keyHash P (PySem.Str.ofString "__gt__"), key := PySem.Value.str (PySem.Str.ofString "__gt__") 514, val := PySem.Value.ref 260 }, { hash := PySem.PyData.keyHash P (PySem.Str.ofString "__eq__"), key := PySem.Value.str (PySem.Str.ofString "__eq__") 522, val := PySem.Value.ref 267 }, { hash := PySem.PyData.keyHash P (PySem.Str.ofString "__static_attributes__"), key := PySem.Value.str (PySem.Str.ofString "__static_attributes__") 524, val := PySem.Value.ref 268 }, { hash := PySem.PyData.keyHash P (PySem.Str.ofString "__dict__"), key := PySem.Value.str (PySem.Str.ofString "__dict__") 526, val := PySem.Value.ref 271 }, { hash := PySem.PyData.keyHash P (PySem.Str.ofString "__weakref__"), key := PySem.Value.str (PySem.Str.ofString "__weakref__") 528, val := PySem.Value.ref 272 }, { hash := PySem.PyData.keyHash P (PySem.Str.ofString "__doc__"), key := PySem.Value.str (PySem.Str.ofString "__doc__") 529, val := PySem.Value.none }] 4 }) ::
  (nat_lit 270, { cls := PySem.Value.type "type", data := PySem.Data.cls { name := PySem.Str.ofString "QName", bases := [PySem.Value.type "object"], mro := [PySem.Value.ref 270, PySem.Value.type "object"], ns := 269, qualname := PySem.Str.ofString "QName" }, slots := #[Option.none, Option.none, Option.some (PySem.Value.str (PySem.Str.ofString "QName") 441), Option.some (PySem.Value.str (PySem.Str.ofString "QName") 449), Option.some (PySem.Value.builtin "object.__new__"), Option.some (PySem.Value.bool Bool.true)] }) ::
  (nat_lit 278, { cls := PySem.Value.type "code", data := PySem.Data.fields #[PySem.Value.str (PySem.Str.ofString "_law_draws") 534, PySem.Value.str (PySem.Str.ofString "_law_draws") 535, PySem.Value.str (PySem.Str.ofString "/claim/cut.py") 536, PySem.Value.int 179 0, PySem.Value.int 1 0, PySem.Value.int 0 0, PySem.Value.int 0 0, PySem.Value.int 3 0, PySem.Value.ref 275, PySem.Value.bool Bool.true, PySem.Value.int 181 0, PySem.Value.ref 276, PySem.Value.none, PySem.Value.none, PySem.Value.none, PySem.Value.ref 277, PySem.Value.int 537 0, PySem.Value.int 179 0, PySem.Value.str (PySem.Str.ofString "/claim/cut.py") 538] }) ::
  (nat_lit 279, { cls := .type "function", data := .func { name := PySem.Str.ofString "_law_draws", qualname := PySem.Str.ofString "_law_draws", params := _, body := .stmts _, scope := _, globals := 3, closure := [], defaults := .none, kwdefaults := .none, pyModule := (.str (PySem.Str.ofString "law_xi0019_01") 532), code := .ref 278, closureTuple := .none } }) ::
  (nat_lit 283, { cls := PySem.Value.type "code", data := PySem.Data.fields #[PySem.Value.str (PySem.Str.ofString "_law_heights") 540, PySem.Value.str (PySem.Str.ofString "_law_heights") 541, PySem.Value.str (PySem.Str.ofString "/claim/cut.py") 542, PySem.Value.int 187 0, PySem.Value.int 3 0, PySem.Value.int 0 0, PySem.Value.int 0 0, PySem.Value.int 3 0, PySem.Value.ref 280, PySem.Value.bool Bool.true, PySem.Value.int 181 0, PySem.Value.ref 281, PySem.Value.none, PySem.Value.none, PySem.Value.none, PySem.Value.ref 282, PySem.Value.int 543 0, PySem.Value.int 187 0, PySem.Value.str (PySem.Str.ofString "/claim/cut.py") 544] }) ::
  (nat_lit 284, { cls := .type "function", data := .func { name := PySem.Str.ofString "_law_heights", qualname := PySem.Str.ofString "_law_heights", params := _, body := .stmts _, scope := _, globals := 3, closure := [], defaults := .none, kwdefaults := .none, pyModule := (.str (PySem.Str.ofString "law_xi0019_01") 532), code := .ref 283, closureTuple := .none } }) ::
  (nat_lit 290, { cls := PySem.Value.type "code", data := PySem.Data.fields #[PySem.Value.str (PySem.Str.ofString "_law_words") 546, PySem.Value.str (PySem.Str.ofString "_law_words") 547, PySem.Value.str (PySem.Str.ofString "/claim/cut.py") 548, PySem.Value.int 196 0, PySem.Value.int 1 0, PySem.Value.int 0 0, PySem.Value.int 0 0, PySem.Value.int 3 0, PySem.Value.ref 285, PySem.Value.bool Bool.true, PySem.Value.int 181 0, PySem.Value.ref 286, PySem.Value.none, PySem.Value.ref 287, PySem.Value.ref 288, PySem.Value.ref 289, PySem.Value.int 555 0, PySem.Value.int 196 0, PySem.Value.str (PySem.Str.ofString "/claim/cut.py") 556] }) ::
  (nat_lit 291, { cls := .type "function", data := .func { name := PySem.Str.ofString "_law_words", qualname := PySem.Str.ofString "_law_words", params := _, body := .stmts _, scope := _, globals := 3, closure := [], defaults := .none, kwdefaults := .none, pyModule := (.str (PySem.Str.ofString "law_xi0019_01") 532), code := .ref 290, closureTuple := .none } }) ::
  (nat_lit 297, { cls := PySem.Value.type "code", data := PySem.Data.fields #[PySem.Value.str (PySem.Str.ofString "_law_rows") 558, PySem.Value.str (PySem.Str.ofString "_law_rows") 559, PySem.Value.str (PySem.Str.ofString "/claim/cut.py") 560, PySem.Value.int 213 0, PySem.Value.int 4 0, PySem.Value.int 0 0, PySem.Value.int 0 0, PySem.Value.int 3 0, PySem.Value.ref 292, PySem.Value.bool Bool.true, PySem.Value.int 181 0, PySem.Value.ref 293, PySem.Value.none, PySem.Value.ref 294, PySem.Value.ref 295, PySem.Value.ref 296, PySem.Value.int 568 0, PySem.Value.int 213 0, PySem.Value.str (PySem.Str.ofString "/claim/cut.py") 569] }) ::
  (nat_lit 298, { cls := .type "function", data := .func { name := PySem.Str.ofString "_law_rows", qualname := PySem.Str.ofString "_law_rows", params := _, body := .stmts _, scope := _, globals := 3, closure := [], defaults := .none, kwdefaults := .none, pyModule := (.str (PySem.Str.ofString "law_xi0019_01") 532), code := .ref 297, closureTuple := .none } }) ::
  (nat_lit 304, { cls := PySem.Value.type "code", data := PySem.Data.fields #[PySem.Value.str (PySem.Str.ofString "_law_folded") 571, PySem.Value.str (PySem.Str.ofString "_law_folded") 572, PySem.Value.str (PySem.Str.ofString "/claim/cut.py") 573, PySem.Value.int 222 0, PySem.Value.int 3 0, PySem.Value.int 0 0, PySem.Value.int 0 0, PySem.Value.int 3 0, PySem.Value.ref 299, PySem.Value.bool Bool.true, PySem.Value.int 181 0, PySem.Value.ref 300, PySem.Value.none, PySem.Value.ref 301, PySem.Value.ref 302, PySem.Value.ref 303, PySem.Value.int 585 0, PySem.Value.int 222 0, PySem.Value.str (PySem.Str.ofString "/claim/cut.py") 586] }) ::
  (nat_lit 305, { cls := .type "function", data := .func { name := PySem.Str.ofString "_law_folded", qualname := PySem.Str.ofString "_law_folded", params := _, body := .stmts _, scope := _, globals := 3, closure := [], defaults := .none, kwdefaults := .none, pyModule := (.str (PySem.Str.ofString "law_xi0019_01") 532), code := .ref 304, closureTuple := .none } }) ::
  (nat_lit 309, { cls := PySem.Value.type "code", data := PySem.Data.fields #[PySem.Value.str (PySem.Str.ofString "law") 588, PySem.Value.str (PySem.Str.ofString "law") 589, PySem.Value.str (PySem.Str.ofString "/claim/cut.py") 590, PySem.Value.int 241 0, PySem.Value.int 1 0, PySem.Value.int 0 0, PySem.Value.int 0 0, PySem.Value.int 3 0, PySem.Value.ref 306, PySem.Value.bool Bool.true, PySem.Value.int 181 0, PySem.Value.ref 307, PySem.Value.none, PySem.Value.none, PySem.Value.none, PySem.Value.ref 308, PySem.Value.int 591 0, PySem.Value.int 241 0, PySem.Value.str (PySem.Str.ofString "/claim/cut.py") 592] }) ::
  (nat_lit 310, { cls := .type "function", data := .func { name := PySem.Str.ofString "law", qualname := PySem.Str.ofString "law", params := _, body := .stmts _, scope := _, globals := 3, closure := [], defaults := .none, kwdefaults := .none, pyModule := (.str (PySem.Str.ofString "law_xi0019_01") 532), code := .ref 309, closureTuple := .none } }) :: []) (Eq.refl (KK P))
end Mine

end

section
open PySem PySem.W PyProof.Rows
set_option Elab.async false
set_option maxRecDepth 100000
set_option maxHeartbeats 8000000
namespace Mine
noncomputable def vw : Program := { PySem.Challenge.pw_xi0019_01 with main := { PySem.Challenge.pw_xi0019_01.main with body := PySem.Challenge.pw_xi0019_01.main.body.drop 18 } }
noncomputable def loo : List Str := ["_wall", "NL", "EMPTYSTRING", "_ValueFormatter", "_Accumulator", "_DIV_LIMIT", "_div2n1n", "_div3n2n", "QName", "_law_draws", "_law_heights", "_law_words", "_law_rows", "_law_folded"]
noncomputable def ads : List Addr := [2, 3, 20, 21, 34, 35, 41, 42, 48, 49, 55, 56, 90, 91, 93, 94, 102, 107, 114, 115, 121, 122, 123, 129, 130, 137, 138, 144, 145, 151, 152, 153, 159, 160, 166, 167, 174, 175, 177, 178, 188, 189, 195, 196, 204, 210, 211, 217, 218, 238, 239, 245, 246, 252, 253, 259, 260, 266, 267, 269, 270, 278, 279, 283, 284, 290, 291, 297, 298, 304, 305, 309, 310]
theorem ads_is : ∀ P, ads = (KL P).map (·.1) := fun _ => by kernel_rfl
noncomputable def hk : Hook := kmHook KL ads ads_is [140, 147]
theorem head_hl : LeftO PySem.Challenge.rw_xi0019_01.row.prog vw loo (fun s => xlAt vw [] s && recOk (RowW.records PySem.Challenge.rw_xi0019_01.row.toRowW) s) (Hook.obs hk) (Hook.val hk) 3800 := by
  intro w
  show Option.map _ _ = _
  kernel_rfl
theorem head_hw : PySem.Challenge.rw_xi0019_01.row.toRowW.promised := by
  w_witness2
end Mine

end

section
open PySem PySem.W PyProof.Rows
set_option Elab.async false
set_option maxRecDepth 100000
set_option maxHeartbeats 8000000
namespace Mine
theorem law_said : OpenLaw.wellSaid PySem.Challenge.rw_xi0019_01 = true := by kernel_rfl
end Mine

end

section
open PySem PySem.W PyProof.Rows PySem.Calls
set_option Elab.async false
namespace Mine
theorem and_el {a b c : Prop} (h : a ∧ b) (f : a → b → c) : c := f h.1 h.2
theorem ex1_el {α : Sort _} {p : α → Prop} {c : Prop} (h : ∃ x, p x) (f : ∀ x, p x → c) : c := h.elim f
theorem ex2_el {α β : Type} {p : α → β → Prop} {c : Prop} (h : ∃ x y, p x y) (f : ∀ x y, p x y → c) : c := h.elim fun x h => h.elim (f x)
theorem ex3_el {α β γ : Type} {p : α → β → γ → Prop} {c : Prop} (h : ∃ x y z, p x y z) (f : ∀ x y z, p x y z → c) : c := h.elim fun x h => ex2_el h (f x)
theorem ex4_el {α β γ δ : Type} {p : α → β → γ → δ → Prop} {c : Prop} (h : ∃ x y z u, p x y z u) (f : ∀ x y z u, p x y z u → c) : c := h.elim fun x h => ex3_el h (f x)
theorem ex5_el {α β γ δ ε : Type} {p : α → β → γ → δ → ε → Prop} {c : Prop} (h : ∃ x y z u v, p x y z u v) (f : ∀ x y z u v, p x y z u v → c) : c := h.elim fun x h => ex4_el h (f x)
theorem ex2_in {α β : Type} {p : α → β → Prop} (x y) (h : p x y) : ∃ x y, p x y := ⟨x, y, h⟩
theorem ex3_in {α β γ : Type} {p : α → β → γ → Prop} (x y z) (h : p x y z) : ∃ x y z, p x y z := ⟨x, y, z, h⟩
theorem ex4_in {α β γ δ : Type} {p : α → β → γ → δ → Prop} (x y z u) (h : p x y z u) : ∃ x y z u, p x y z u := ⟨x, y, z, u, h⟩
theorem ex5_in {α β γ δ ε : Type} {p : α → β → γ → δ → ε → Prop} (x y z u v) (h : p x y z u v) : ∃ x y z u v, p x y z u v := ⟨x, y, z, u, v, h⟩
theorem gen_Q {α : Type} {M : Model} {A : Around} {t : Sem α} {Q : α → Shared → Prop} {E : Value → Shared → Prop} {s : Shared} (h : ∀ W : α → Shared → Prop, (∀ a s, Q a s → W a s) → wpAny M A t W E s) : wpAny M A t Q E s := h Q fun _ _ h => h
theorem gen_W {M : Model} {A : Around} {t : Sem Bool} {o o2 : Sem Flow} {T Q : Flow → Shared → Prop} {E : Value → Shared → Prop} {s : Shared} (h : ∀ W : Flow → Shared → Prop, (∀ a s, T a s → W a s) → wpAny M A t (fun b s₂ => if b = true then wpAny M A o W E s₂ else wpAny M A o2 Q E s₂) E s) : wpAny M A t (fun b s₂ => if b = true then wpAny M A o T E s₂ else wpAny M A o2 Q E s₂) E s := h T fun _ _ h => h
end Mine

end

section
set_option Elab.async false
namespace Mine
theorem and3_el {a0 a1 a2 c : Prop} (h : a0 ∧ a1 ∧ a2) (f : a0 → a1 → a2 → c) : c := f h.1 h.2.1 h.2.2
theorem and4_el {a0 a1 a2 a3 c : Prop} (h : a0 ∧ a1 ∧ a2 ∧ a3) (f : a0 → a1 → a2 → a3 → c) : c := f h.1 h.2.1 h.2.2.1 h.2.2.2
theorem and5_el {a0 a1 a2 a3 a4 c : Prop} (h : a0 ∧ a1 ∧ a2 ∧ a3 ∧ a4) (f : a0 → a1 → a2 → a3 → a4 → c) : c := f h.1 h.2.1 h.2.2.1 h.2.2.2.1 h.2.2.2.2
theorem and6_el {a0 a1 a2 a3 a4 a5 c : Prop} (h : a0 ∧ a1 ∧ a2 ∧ a3 ∧ a4 ∧ a5) (f : a0 → a1 → a2 → a3 → a4 → a5 → c) : c := f h.1 h.2.1 h.2.2.1 h.2.2.2.1 h.2.2.2.2.1 h.2.2.2.2.2
theorem and7_el {a0 a1 a2 a3 a4 a5 a6 c : Prop} (h : a0 ∧ a1 ∧ a2 ∧ a3 ∧ a4 ∧ a5 ∧ a6) (f : a0 → a1 → a2 → a3 → a4 → a5 → a6 → c) : c := f h.1 h.2.1 h.2.2.1 h.2.2.2.1 h.2.2.2.2.1 h.2.2.2.2.2.1 h.2.2.2.2.2.2
theorem and8_el {a0 a1 a2 a3 a4 a5 a6 a7 c : Prop} (h : a0 ∧ a1 ∧ a2 ∧ a3 ∧ a4 ∧ a5 ∧ a6 ∧ a7) (f : a0 → a1 → a2 → a3 → a4 → a5 → a6 → a7 → c) : c := f h.1 h.2.1 h.2.2.1 h.2.2.2.1 h.2.2.2.2.1 h.2.2.2.2.2.1 h.2.2.2.2.2.2.1 h.2.2.2.2.2.2.2
end Mine

end

section
open PySem PySem.W PyProof.Rows PySem.Calls
set_option Elab.async false
namespace Mine
theorem room0 {d k r : Nat} (h : d + k < r) : d < r := Nat.lt_of_le_of_lt (Nat.le_add_right d k) h
theorem room1 {d a k r : Nat} (h : d + k < r) (e : Nat.ble a k = true) : d + a < r := Nat.lt_of_le_of_lt (Nat.add_le_add_left (Nat.le_of_ble_eq_true e) d) h
theorem room2 {d a b k r : Nat} (h : d + k < r) (e : Nat.ble (a + b) k = true) : d + a + b < r := by rw [Nat.add_assoc]; exact room1 h e
theorem room3 {d a b c k r : Nat} (h : d + k < r) (e : Nat.ble (a + b + c) k = true) : d + a + b + c < r := by rw [Nat.add_assoc d a b, Nat.add_assoc]; exact room1 h e
theorem room4 {d a b c f k r : Nat} (h : d + k < r) (e : Nat.ble (a + b + c + f) k = true) : d + a + b + c + f < r := by rw [Nat.add_assoc d a b, Nat.add_assoc d, Nat.add_assoc]; exact room1 h e
end Mine

end

section
open PySem PySem.W PyProof.Rows PySem.Calls
set_option Elab.async false
namespace Mine
section
variable {α : Type} {a b c d e f g i j k m n o : α} {l : List α}
theorem mem1 : a ∈ b :: a :: l := .tail _ (.head _)
theorem mem2 : a ∈ b :: c :: a :: l := .tail _ mem1
theorem mem3 : a ∈ b :: c :: d :: a :: l := .tail _ mem2
theorem mem4 : a ∈ b :: c :: d :: e :: a :: l := .tail _ mem3
theorem mem5 : a ∈ b :: c :: d :: e :: f :: a :: l := .tail _ mem4
theorem mem6 : a ∈ b :: c :: d :: e :: f :: g :: a :: l := .tail _ mem5
theorem mem7 : a ∈ b :: c :: d :: e :: f :: g :: i :: a :: l := .tail _ mem6
theorem mem8 : a ∈ b :: c :: d :: e :: f :: g :: i :: j :: a :: l := .tail _ mem7
theorem mem9 : a ∈ b :: c :: d :: e :: f :: g :: i :: j :: k :: a :: l := .tail _ mem8
theorem mem10 : a ∈ b :: c :: d :: e :: f :: g :: i :: j :: k :: m :: a :: l := .tail _ mem9
theorem mem11 : a ∈ b :: c :: d :: e :: f :: g :: i :: j :: k :: m :: n :: a :: l := .tail _ mem10
theorem mem12 : a ∈ b :: c :: d :: e :: f :: g :: i :: j :: k :: m :: n :: o :: a :: l := .tail _ mem11
theorem sub0 : ∀ p ∈ l, p ∈ l := fun _ h => h
theorem sub1 : ∀ p ∈ l, p ∈ b :: l := fun _ h => .tail _ h
theorem sub2 : ∀ p ∈ l, p ∈ b :: c :: l := fun _ h => .tail _ (sub1 _ h)
theorem sub3 : ∀ p ∈ l, p ∈ b :: c :: d :: l := fun _ h => .tail _ (sub2 _ h)
theorem sub4 : ∀ p ∈ l, p ∈ b :: c :: d :: e :: l := fun _ h => .tail _ (sub3 _ h)
theorem sub5 : ∀ p ∈ l, p ∈ b :: c :: d :: e :: f :: l := fun _ h => .tail _ (sub4 _ h)
theorem sub6 : ∀ p ∈ l, p ∈ b :: c :: d :: e :: f :: g :: l := fun _ h => .tail _ (sub5 _ h)
theorem sub7 : ∀ p ∈ l, p ∈ b :: c :: d :: e :: f :: g :: i :: l := fun _ h => .tail _ (sub6 _ h)
theorem sub8 : ∀ p ∈ l, p ∈ b :: c :: d :: e :: f :: g :: i :: j :: l := fun _ h => .tail _ (sub7 _ h)
theorem sub9 : ∀ p ∈ l, p ∈ b :: c :: d :: e :: f :: g :: i :: j :: k :: l := fun _ h => .tail _ (sub8 _ h)
theorem sub10 : ∀ p ∈ l, p ∈ b :: c :: d :: e :: f :: g :: i :: j :: k :: m :: l := fun _ h => .tail _ (sub9 _ h)
theorem sub11 : ∀ p ∈ l, p ∈ b :: c :: d :: e :: f :: g :: i :: j :: k :: m :: n :: l := fun _ h => .tail _ (sub10 _ h)
theorem sub12 : ∀ p ∈ l, p ∈ b :: c :: d :: e :: f :: g :: i :: j :: k :: m :: n :: o :: l := fun _ h => .tail _ (sub11 _ h)
theorem sub_nil : ∀ p ∈ ([] : List α), p ∈ l := fun _ h => absurd h List.not_mem_nil
theorem sub_cons {r : List α} (h : a ∈ l) (t : ∀ p ∈ r, p ∈ l) : ∀ p ∈ a :: r, p ∈ l := List.forall_mem_cons.mpr ⟨h, t⟩
theorem all_cons {P : α → Prop} (h : P a) (t : ∀ p ∈ l, P p) : ∀ p ∈ a :: l, P p := List.forall_mem_cons.mpr ⟨h, t⟩
end
theorem gen_tok {α : Type} {M : Model} {A : Around} {t : Sem α} {Q : α → Shared → Prop} {E : Value → Shared → Prop} {hp : Heap} {gs ds os} {x : Tok} (h : ∀ y : Tok, wpAny M A t Q E ⟨hp, gs, ds, y, os⟩) : wpAny M A t Q E ⟨hp, gs, ds, x + 1, os⟩ := h _
end Mine
namespace Mine
theorem gen_vi {α : Type} {M : Model} {A : Around} {f : Value → Sem α} {n : Int} {σ : Shared} {Q : α → Shared → Prop} {E : Value → Shared → Prop} {s : Shared} (h : ∀ y : Tok, wpAny M A (f (.int n y)) Q E s) : wpAny M A (f (.int n σ.toks)) Q E s := h _
theorem gen_vi1 {α : Type} {M : Model} {A : Around} {f : Value → Sem α} {n : Int} {x : Tok} {Q : α → Shared → Prop} {E : Value → Shared → Prop} {s : Shared} (h : ∀ y : Tok, wpAny M A (f (.int n y)) Q E s) : wpAny M A (f (.int n (x + 1))) Q E s := h _
theorem gen_vs {α : Type} {M : Model} {A : Around} {f : Value → Sem α} {n : Str} {σ : Shared} {Q : α → Shared → Prop} {E : Value → Shared → Prop} {s : Shared} (h : ∀ y : Tok, wpAny M A (f (.str n y)) Q E s) : wpAny M A (f (.str n σ.toks)) Q E s := h _
theorem gen_vs1 {α : Type} {M : Model} {A : Around} {f : Value → Sem α} {n : Str} {x : Tok} {Q : α → Shared → Prop} {E : Value → Shared → Prop} {s : Shared} (h : ∀ y : Tok, wpAny M A (f (.str n y)) Q E s) : wpAny M A (f (.str n (x + 1))) Q E s := h _
end Mine

end

open PySem PySem.W PyProof.Rows PySem.Calls Mine
local macro_rules | `(tactic| walk_at "execs cons") => `(tactic| (with_reducible refine gen_tok ?_; intro _))
local macro_rules | `(tactic| walk_at "storeName") => `(tactic| (with_reducible (first | refine gen_vi ?_ | refine gen_vi1 ?_ | refine gen_vs ?_ | refine gen_vs1 ?_); intro _))
local macro_rules | `(tactic| k_allIn) => `(tactic| first | exact sub0 | exact sub1 | exact sub2 | exact sub3 | exact sub4 | exact sub5 | exact sub6 | exact sub7 | exact sub8 | exact sub9 | exact sub10 | exact sub11 | exact sub12)
local macro_rules | `(tactic| k_ne) => `(tactic| (refine neN ?_; (try dsimp only); lia))
local macro_rules | `(tactic| ktr_room) => `(tactic| first | exact room2 (by assumption) rfl | exact room3 (by assumption) rfl | exact room1 (by assumption) rfl | exact room0 (by assumption))
local macro_rules | `(tactic| ktr_units) => `(tactic| first | exact room3 (by assumption) rfl | exact room2 (by assumption) rfl | exact room4 (by assumption) rfl | exact room1 (by assumption) rfl | exact room0 (by assumption))

section
open PySem PySem.W PyProof.Rows PySem.Calls
set_option Elab.async false
set_option maxRecDepth 100000
set_option maxHeartbeats 4000000
namespace Mine

theorem check_meth {M : Model} {A : Around} {E : Value → Shared → Prop} {s : Shared} {i owner n : String} {self : Value} {rest : List Value} {kw : List (Str × Value)} {Q : Unit → Shared → Prop}
    (hk : builtinKind i = some .method ∨ builtinKind i = some .slot) (hs : splitId i = some (owner, n)) (hi : Looks M s.heap (isInstance self (.type owner)) true) (ha : argsOk i ⟨self :: rest, kw⟩) (q : Q () s) :
    wpAny M A (checkBuiltinCall i ⟨self :: rest, kw⟩) Q E s := by
  rcases hk with hk | hk <;>
  · simp only [checkBuiltinCall, hk, hs]
    refine wpAny_bind (hi.here ?_)
    simp only [Bool.not_true, Bool.false_eq_true, if_false]
    cases hsig : Manifest.signature? i with
    | none => exact wpAny_pure q
    | some sig =>
      simp only [argsOk, hsig] at ha
      have h2 : Bind.checkArgs i sig ⟨self :: rest, kw⟩ = pure () := ha
      show wpAny M A (Bind.checkArgs i sig ⟨self :: rest, kw⟩) Q E s
      rw [h2]; exact wpAny_pure q

theorem call_sub {prog : Program} {w : World} {A : Around} {E : Value → Shared → Prop} {s : Shared} {id owner n : String} {b : Builtin} {self : Value} {rest : List Value} {Q : Value → Shared → Prop}
    (hk : builtinKind id = some .method ∨ builtinKind id = some .slot) (hs : splitId id = some (owner, n)) (hi : Looks (model prog w) s.heap (isInstance self (.type owner)) true)
    (hb : entryFor table id = some b) (hp : plainId id = true)
    (hc : wpAny (model prog w) A.in1 (b ⟨self :: rest, []⟩) (fun fin s' => ∃ v, fin = .done (.ret v) ∧ Q v s') E s)
    (ha : argsOk id ⟨self :: rest, []⟩) :
    wpAny (model prog w) A (call (.builtin id) (self :: rest)) Q E s := by
  refine wpAny_call (codeAny_call_builtin hp hb (check_meth hk hs hi ha (wpAny_mono hc (fun fin s' h' => ?_) fun _ _ h' => h')))
  obtain ⟨v, rfl, hv⟩ := h'; exact hv

section
variable {prog : Program} {w : World} {A : Around} {E : Value → Shared → Prop} {s : Shared} {K : Frag} {x C : Addr} {d : Option Addr} {its : Array Value} {n : Nat} {sl : Array (Option Value)} {od : Option Obj}

theorem acc_isi (X : K.In s.heap) {ox : Obj} (I : InstAt s.heap x ox C od) {T : String} (hsub : subIn K (.ref C) (.type T) = some true) :
    Looks (model prog w) s.heap (isInstance (.ref x) (.type T)) true := I.type.andThen (looks_subIn X hsub)

theorem kind_append : builtinKind "list.append" = some .method := by decide +kernel
theorem split_append : splitId "list.append" = some ("list", "append") := by decide +kernel

theorem acc_upd {h : Heap} {x : Addr} {c : Value} {d : Option Addr} {its : Array Value} {n : Nat} {sl : Array (Option Value)} {f : Array Value → Array Value} (ho : h.get? x = some ⟨c, d, .seq its n, sl⟩) (_hc : c ≠ .none := by intro e; cases e) :
    (h.update x (Obj.mapSeq f)).get? x = some ⟨c, d, .seq (f its) (if (f its).size = its.size then n else n + 1), sl⟩ := by
  have e : Obj.mapSeq f ⟨c, d, .seq its n, sl⟩ = ⟨c, d, .seq (f its) (if (f its).size = its.size then n else n + 1), sl⟩ := by
    simp [Obj.mapSeq]
  rw [Heap.get?_update_self _ ho (by rw [e]; rfl), e]

theorem acc_append {v : Value} {Q : Value → Shared → Prop} (X : K.In s.heap) (I : InstAt s.heap x ⟨.ref C, d, .seq its n, sl⟩ C od) (hsub : subIn K (.ref C) (.type "list") = some true)
    (h : ∀ h', Heap.SameBut x s.heap h' → h'.get? x = some ⟨.ref C, d, .seq (its.push v) (n + 1), sl⟩ → Q .none { s with heap := h' }) (hsz : its.size ≤ sizeLine := by size_fits) :
    wpAny (model prog w) A (call (.builtin "list.append") [.ref x, v]) Q E s := by
  refine call_sub (.inl kind_append) split_append (acc_isi X I hsub) PySem.F.entry_list_append (by decide +kernel) ?_ (PySem.F.args_list_append_2 _ _)
  show wpAny _ _ (updateSeq x (·.push v) >>= fun _ => ret .none) _ _ s
  refine wpAny_bind ?_
  refine wpAny_updateSeq I.at_ rfl (wpAny_pure ⟨.none, rfl, h _ (Heap.SameBut.update ..) ?_⟩)
  exact (acc_upd I.at_).trans (by simp)

theorem acc_special {name : Str} {id : String} {args : List Value} {ox : Obj} {Q : Option Value → Shared → Prop} (X : K.In s.heap) (I : InstAt s.heap x ox C od) (hf : findIn K (.ref C) name = some (some (.builtin id)))
    (hb : ∀ self, bindSpecial (.builtin id) self = pure (.builtin id, [self])) (hc : wpAny (model prog w) A (call (.builtin id) (.ref x :: args)) (fun v => Q (some v)) E s) :
    wpAny (model prog w) A (callSpecial? (.ref x) name args) Q E s := by
  refine wpAny_bind (wpAny_bind (I.type.here ((looks_findIn X hf).here ?_)))
  dsimp only
  rw [hb]
  exact wpAny_holding (wpAny_bind (wpAny_pure (wpAny_bind (wpAny_mono hc (fun _ _ z => wpAny_pure z) fun _ _ z => z))))

theorem acc_seqKey {name : Str} {ox : Obj} {k : Value} {Q : Value → Shared → Prop} (X : K.In s.heap) (I : InstAt s.heap x ox C od) (hq : noSeq K C = true) (h : Q k s) :
    wpAny (model prog w) A (sequenceKey (.ref x) k name) Q E s := by
  unfold sequenceKey
  refine wpAny_bind (I.type.here ?_)
  refine wpAny_bind ((anyM_none X hq).here ?_)
  rw [if_pos (show (!false) = true from rfl)]
  exact wpAny_pure h

theorem acc_getInt {k : Int} {t : Tok} {y : Value} {Q : Value → Shared → Prop} (X : K.In s.heap) (I : InstAt s.heap x ⟨.ref C, d, .seq its n, sl⟩ C od) (hsub : subIn K (.ref C) (.type "list") = some true)
    (hq : noSeq K C = true) (hf : findIn K (.ref C) "__getitem__" = some (some (.builtin "list.__getitem__")))
    (h0 : 0 ≤ k) (hfit : k < 2 ^ 63) (hx : its[k.toNat]? = some y) (h : Q y s) : wpAny (model prog w) A (getItem (.ref x) (.int k t)) Q E s := by
  unfold getItem
  refine wpAny_holding (wpAny_bind (acc_seqKey X I hq ?_))
  refine wpAny_bind (acc_special X I hf PySem.slot_list_getitem.bind (call_sub (.inl (by decide +kernel)) (n := "__getitem__") (by decide +kernel) (acc_isi X I hsub) PySem.entry_list_getitem (by decide +kernel) ?_ (PySem.args_list_getitem _ _)))
  show wpAny _ _ (Builtin.List.listSubscript? (.int k t) >>= _) _ _ s
  refine wpAny_bind (wpAny_listSubscript_int (fitsIndex_of h0 hfit) ?_)
  clear hfit
  obtain ⟨j, rfl⟩ := Int.eq_ofNat_of_zero_le h0
  have hx' : its[j]? = some y := hx
  show wpAny _ _ ((seqItemAt x j >>= fun r => pure (r.map (j, ·))) >>= _) _ _ s
  refine wpAny_bind (wpAny_bind (wpAny_seqItemAt I.at_ rfl (wpAny_pure ?_)))
  rw [hx']
  exact wpAny_pure ⟨y, rfl, wpAny_pure h⟩

theorem acc_getSlice {sl' : Addr} {vl vu vs : Value} {lo hi st : Option Int} {Q : Value → Shared → Prop} (X : K.In s.heap) (I : InstAt s.heap x ⟨.ref C, d, .seq its n, sl⟩ C od) (hsub : subIn K (.ref C) (.type "list") = some true)
    (hq : noSeq K C = true) (hf : findIn K (.ref C) "__getitem__" = some (some (.builtin "list.__getitem__")))
    (hs : s.heap.IsSliceOf sl' vl vu vs) (pl : IsPart vl lo) (pu : IsPart vu hi) (ps : IsPart vs st) (h0 : st ≠ some 0)
    (h : Q (.ref s.heap.objs.size) { s with heap := s.heap.push { cls := .type "list", data := .seq (slicePick its lo hi st) } })
    (hsz : its.size ≤ sizeLine := by size_fits) : wpAny (model prog w) A (getItem (.ref x) (.ref sl')) Q E s := by
  obtain ⟨os, hos, hcs, hds⟩ := id hs
  have hTs : s.TypeIs (.ref sl') "slice" := ⟨os, hos, hcs⟩
  unfold getItem
  refine wpAny_holding (wpAny_bind (acc_seqKey X I hq ?_))
  refine wpAny_bind (acc_special X I hf PySem.slot_list_getitem.bind (call_sub (.inl (by decide +kernel)) (n := "__getitem__") (by decide +kernel) (acc_isi X I hsub) PySem.entry_list_getitem (by decide +kernel) ?_ (PySem.args_list_getitem _ _)))
  show wpAny _ _ (Builtin.List.listSubscript? (.ref sl') >>= _) _ _ s
  refine wpAny_bind ?_
  · unfold Builtin.List.listSubscript?
    refine wpAny_bind (wpAny_specialOf hTs slice_no_index ?_)
    simp only [Option.isNone_none, if_true]
    refine wpAny_pure ?_
    show wpAny _ _ (typeOf (.ref sl') >>= _) _ _ s
    refine wpAny_bind (wpAny_typeOf hTs ?_)
    rw [if_neg (by decide)]
    rw [listSliceParts_eq]
    have hstep : ¬ ((rawPart st == rawInt 0) = true) := by
      cases st with
      | none => exact Bool.false_ne_true
      | some c =>
        intro hh
        have : c = 0 := by simpa [rawPart, rawInt] using hh
        exact h0 (by rw [this])
    refine wpAny_bind (wpAny_bind (wpAny_field hos hds (x := vs) rfl (wpAny_bind (wpAny_listPart ps ?_))))
    rw [if_neg hstep]
    refine wpAny_bind (wpAny_field hos hds (x := vl) rfl (wpAny_bind (wpAny_listPart pl ?_)))
    refine wpAny_bind (wpAny_field hos hds (x := vu) rfl (wpAny_bind (wpAny_listPart pu (wpAny_pure ?_))))
    refine wpAny_bind (m := Builtin.List.listItems (.ref x)) ?_
    · unfold Builtin.List.listItems
      refine wpAny_bind (wpAny_seqItems I.at_ rfl (wpAny_pure ?_))
      refine wpAny_bind (wpAny_of_eq (sliceIndices_raw lo hi st its.size h0) ?_)
      refine wpAny_bind (wpAny_newObj_type (wpAny_pure ⟨_, rfl, wpAny_pure h⟩) (Nat.le_trans (slicePick_size_le its lo hi st) hsz))

theorem slice_sz {n y L : Nat} {i j : Int} (h : n + y ≤ L) : min i.toNat n - 0 + y + (min n n - (max i j).toNat) ≤ L + 1 := by
  have e := Int.toNat_le_toNat (Int.le_max_left i j)
  rw [Nat.sub_zero, Nat.min_self]
  have e2 : min i.toNat n + (n - (max i j).toNat) ≤ n := Nat.le_trans (Nat.add_le_add_left (Nat.sub_le_sub_left e n) _) (by rw [Nat.min_comm, Nat.add_comm, Nat.sub_add_min_cancel]; exact Nat.le_refl _)
  rw [Nat.add_right_comm]
  exact Nat.le_succ_of_le (Nat.le_trans (Nat.add_le_add_right e2 y) h)
theorem acc_setSlice {sl' l : Addr} {vl vu : Value} {lo hi : Option Int} {ys : Array Value} {nl : Nat} {Q : Unit → Shared → Prop} (X : K.In s.heap) (I : InstAt s.heap x ⟨.ref C, d, .seq its n, sl⟩ C od) (hsub : subIn K (.ref C) (.type "list") = some true)
    (hq : noSeq K C = true) (hf : findIn K (.ref C) "__setitem__" = some (some (.builtin "list.__setitem__")))
    (hs : s.heap.IsSliceOf sl' vl vu .none) (pl : IsPart vl lo) (pu : IsPart vu hi) (hl : s.heap.get? l = some (listOf ys nl)) (hne : l ≠ x)
    (h : ∀ h' n', Heap.SameBut x s.heap h' → h'.get? x = some ⟨.ref C, d, .seq (its.extract 0 (sliceBounds lo hi none its.size).1.toNat ++ ys ++ its.extract (max (sliceBounds lo hi none its.size).1 (sliceBounds lo hi none its.size).2.1).toNat) n', sl⟩ → Q () { s with heap := h' })
    (hsz : its.size + ys.size ≤ sizeLine := by size_fits) : wpAny (model prog w) A (setItem (.ref x) (.ref sl') (.ref l)) Q E s := by
  obtain ⟨os, hos, hcs, hds⟩ := id hs
  have hTs : s.TypeIs (.ref sl') "slice" := ⟨os, hos, hcs⟩
  unfold setItem
  refine wpAny_holding (wpAny_bind (acc_seqKey X I hq ?_))
  refine wpAny_bind (acc_special X I hf PySem.slot_list_setitem.bind (call_sub (.inr (by decide +kernel)) (n := "__setitem__") (by decide +kernel) (acc_isi X I hsub) PySem.entry_list_setitem (by decide +kernel) ?_ (PySem.args_list_setitem _ _ _)))
  show wpAny _ _ (Builtin.List.listSubscript? (.ref sl') >>= _) _ _ s
  refine wpAny_bind ?_
  unfold Builtin.List.listSubscript?
  refine wpAny_bind (wpAny_specialOf hTs slice_no_index ?_)
  simp only [Option.isNone_none, if_true]
  refine wpAny_pure ?_
  show wpAny _ _ (typeOf (.ref sl') >>= _) _ _ s
  refine wpAny_bind (wpAny_typeOf hTs ?_)
  rw [if_neg (by decide)]
  rw [listSliceParts_eq]
  refine wpAny_bind (wpAny_bind (wpAny_field hos hds (x := .none) rfl (wpAny_bind (wpAny_listPart .none ?_))))
  rw [if_neg (show ¬ ((rawPart none == rawInt 0) = true) from Bool.false_ne_true)]
  refine wpAny_bind (wpAny_field hos hds (x := vl) rfl (wpAny_bind (wpAny_listPart pl ?_)))
  refine wpAny_bind (wpAny_field hos hds (x := vu) rfl (wpAny_bind (wpAny_listPart pu (wpAny_pure ?_))))
  have hsame : Builtin.List.listSameRef (.ref x) (.ref l) = false := by
    show (x == l) = false
    exact beq_false_of_ne (Ne.symm hne)
  rw [hsame, if_neg Bool.false_ne_true]
  refine wpAny_bind ?_
  unfold Builtin.List.listAllItems
  refine wpAny_bind (wpAny_typeOf (s := s) (T := "list") ⟨_, hl, rfl⟩ ?_)
  rw [if_pos (by decide)]
  unfold Builtin.List.listItems
  refine wpAny_bind (wpAny_seqItems hl rfl (wpAny_pure ?_))
  refine wpAny_bind (wpAny_bind (wpAny_seqItems I.at_ rfl (wpAny_pure ?_)))
  refine wpAny_bind (wpAny_of_eq (sliceIndices_raw lo hi none its.size (fun e => nomatch e)) ?_)
  have hst : (sliceBounds lo hi none its.size).2.2 = 1 := rfl
  rw [hst, if_pos (by decide)]
  refine wpAny_bind (wpAny_rule ?_)
  have htl : Builtin.List.listTooLong (its.size + ys.size) = false := by
    unfold Builtin.List.listTooLong
    exact decide_eq_false (Nat.not_lt.mpr hsz)
  rw [htl, if_neg Bool.false_ne_true]
  have h1 : its.size ≤ sizeLine := Nat.le_trans (Nat.le_add_right _ _) hsz
  refine wpAny_bind (m := updateSeq x _) (wpAny_updateSeq I.at_ rfl ?_ (hz := h1) (_hz' := ?_))
  · exact wpAny_bind (wpAny_letGo (wpAny_pure ⟨_, rfl, wpAny_pure (h _ _ (Heap.SameBut.update ..) (acc_upd (f := fun xs => xs.extract 0 (sliceBounds lo hi none its.size).1.toNat ++ ys ++ xs.extract (max (sliceBounds lo hi none its.size).1 (sliceBounds lo hi none its.size).2.1).toNat) I.at_))⟩))
  · simp only [Array.size_append, Array.size_extract]
    exact slice_sz hsz

theorem pop_core {y : Value} {Q : Value → Shared → Prop} (I : InstAt s.heap x ⟨.ref C, d, .seq its n, sl⟩ C od)
    (hy : its[its.size - 1]? = some y) (h : ∀ h' n', Heap.SameBut x s.heap h' → h'.get? x = some ⟨.ref C, d, .seq its.pop n', sl⟩ → Q y { s with heap := h' }) (hsz : its.size ≤ sizeLine := by size_fits) :
    wpAny (model prog w) A (Builtin.«list.pop» ⟨[.ref x], []⟩) (fun fin s' => ∃ v, fin = .done (.ret v) ∧ Q v s') E s := by
  have hpos : 0 < its.size := by
    rcases Nat.eq_zero_or_pos its.size with h0 | h0
    · simp [h0] at hy
    · exact h0
  show wpAny _ _ (Builtin.List.listItems (.ref x) >>= _) _ _ s
  refine wpAny_bind ?_
  unfold Builtin.List.listItems
  refine wpAny_bind (wpAny_seqItems I.at_ rfl (wpAny_pure ?_))
  have hne : its.isEmpty = false := by
    cases q : its.isEmpty with
    | false => rfl
    | true => have : its.size = 0 := by simpa using q
              lia
  rw [hne, if_neg Bool.false_ne_true]
  have hk : seqIndex? (-1) its.size = some (its.size - 1) := by
    rw [seqIndex_neg (by lia) (by lia)]; congr 1; lia
  simp only [hk, hy, Option.bind_some, Option.map_some]
  have e : its.eraseIdxIfInBounds (its.size - 1) = its.pop := by
    unfold Array.eraseIdxIfInBounds
    rw [dif_pos (by lia)]
    apply Array.ext'
    rw [Array.toList_eraseIdx, Array.toList_pop, List.dropLast_eq_take, List.eraseIdx_eq_take_drop_succ]
    simp only [Array.length_toList]
    rw [List.drop_of_length_le (by simp only [Array.length_toList]; lia), List.append_nil]
  have u := acc_upd (f := fun xs => xs.eraseIdxIfInBounds (its.size - 1)) I.at_
  rw [e] at u
  exact wpAny_bind (m := updateSeq x _) (wpAny_updateSeq I.at_ rfl (wpAny_pure ⟨_, rfl, h _ _ (Heap.SameBut.update ..) u⟩) (hz := hsz) (_hz' := Nat.le_trans (PySem.MeetsSeq.size_erased its _) (Nat.le_succ_of_le hsz)))

theorem len_core {Q : Value → Shared → Prop} (I : InstAt s.heap x ⟨.ref C, d, .seq its n, sl⟩ C od)
    (h : Q (.int its.size s.toks) { s with toks := s.toks + 1 }) : wpAny (model prog w) A (Builtin.«list.__len__» ⟨[.ref x], []⟩) (fun fin s' => ∃ v, fin = .done (.ret v) ∧ Q v s') E s := by
  show wpAny _ _ (seqSize x >>= fun n => retInt n) _ _ s
  refine wpAny_bind (wpAny_bind (wpAny_loadPart I.at_ (wpAny_pure ?_)))
  exact wpAny_bind (wpAny_mkInt (wpAny_pure ⟨_, rfl, h⟩))

theorem init_core {Q : Value → Shared → Prop} (I : InstAt s.heap x ⟨.ref C, d, .seq #[] n, sl⟩ C od)
    (h : ∀ h' n', Heap.SameBut x s.heap h' → h'.get? x = some ⟨.ref C, d, .seq #[] n', sl⟩ → Q .none { s with heap := h' }) : wpAny (model prog w) A (Builtin.«list.__init__» ⟨[.ref x], []⟩) (fun fin s' => ∃ v, fin = .done (.ret v) ∧ Q v s') E s := by
  show wpAny _ _ (Builtin.List.listItems (.ref x) >>= _) _ _ s
  refine wpAny_bind ?_
  unfold Builtin.List.listItems
  refine wpAny_bind (wpAny_seqItems I.at_ rfl (wpAny_pure ?_))
  refine wpAny_bind (m := updateSeq x _) (wpAny_updateSeq I.at_ rfl (wpAny_bind (wpAny_letGo (wpAny_pure ⟨_, rfl, h _ _ (Heap.SameBut.update ..) (acc_upd I.at_)⟩))) (hz := Nat.zero_le _) (_hz' := Nat.zero_le _))
end
end Mine

end

section
open PySem PySem.W PyProof.Rows PySem.Calls
set_option Elab.async false
set_option maxRecDepth 100000
set_option maxHeartbeats 4000000
namespace Mine
noncomputable def makesL (K : Frag) (C : Addr) : Bool := match K.lookup C with
  | some ⟨_, _, .cls cd, sl⟩ => !cd.abstract && !cd.hasDel && (sl.toList[4]?).join == some (.builtin "list.__new__") && !cd.mro.isEmpty && cd.mro.contains (.ref C) && cd.mro.contains (.type "list") &&
      specialIn K (.ref C) "__call__" == some (some (.builtin "type.__call__")) && instIn K (.ref C) (.type "type") == some true
  | _ => false
structure MakesL (M : Model) (h : Heap) (C : Addr) : Prop where
  obj : ∃ oc od cd sl, h.get? C = some ⟨oc, od, .cls cd, sl⟩ ∧ cd.abstract = false ∧ cd.hasDel = false ∧ cd.mro.isEmpty = false
  made : Looks M h (Bind.madeBy (.ref C)) (some "list.__new__")
  base : Looks M h (Bind.staticBase (.ref C)) (.ref C)
  self : Looks M h (isSubtype (.ref C) (.ref C)) true
  top : Looks M h (isSubtype (.ref C) (.type "list")) true
  call : Looks M h (specialOf (.ref C) "__call__") (some (.builtin "type.__call__"))
  typ : Looks M h (isInstance (.ref C) (.type "type")) true
theorem makesL_of {K : Frag} {M : Model} {h : Heap} (X : K.In h) {C : Addr} (e : makesL K C = true) : MakesL M h C := by
  unfold makesL at e
  split at e
  · rename_i oc od cd sl ho
    simp only [Bool.and_eq_true, Bool.not_eq_true', beq_iff_eq] at e
    obtain ⟨⟨⟨⟨⟨⟨⟨e1, e2⟩, e3⟩, e4⟩, e5⟩, e6⟩, e7⟩, e8⟩ := e
    have hc : clsIn K C = some cd := by unfold clsIn; rw [ho]
    have hm : Looks M h (mroOf (.ref C)) cd.mro := (looks_clsIn X hc).andThen .now
    obtain ⟨c, l, hl⟩ : ∃ c l, cd.mro = c :: l := by cases q : cd.mro with | nil => rw [q] at e4; cases e4 | cons c l => exact ⟨c, l, rfl⟩
    have made : Looks M h (Bind.madeBy (.ref C)) (some "list.__new__") := by
      intro A Q E s k q
      unfold Bind.madeBy
      refine wpAny_bind (hm A _ E s k ?_)
      rw [hl, List.forIn_cons]
      refine wpAny_bind (wpAny_bind (wpAny_bind (wpAny_bind (wpAny_loadPart (k _ _ (X _ _ ho)) (wpAny_pure ?_)))))
      dsimp only
      rw [← Array.getElem?_toList, e3]
      exact wpAny_pure (wpAny_pure (wpAny_pure q))
    refine ⟨⟨oc, od, cd, sl, X _ _ ho, e1, e2, e4⟩, made, ?_, looks_mroIn X ?_, looks_mroIn X ?_, looks_specialIn X e7, looks_instIn X e8⟩
    · intro A Q E s k q
      unfold Bind.staticBase
      refine wpAny_bind (hm A _ E s k ?_)
      rw [hl, List.forIn_cons]
      exact wpAny_bind (wpAny_bind (wpAny_bind (made A _ E s k (wpAny_pure (wpAny_pure (wpAny_pure q))))))
    · unfold mroIn; rw [hc, Option.bind_some, if_neg (by rw [e4]; decide), e5]
    · unfold mroIn; rw [hc, Option.bind_some, if_neg (by rw [e4]; decide), e6]
  · cases e

noncomputable abbrev accObj (C dx : Addr) : Obj := { cls := .ref C, dict := some dx, data := .seq #[] }

theorem ln_kind : builtinKind "list.__new__" = some .builtinFn := by decide +kernel
theorem ln_split : splitId "list.__new__" = some ("list", "__new__") := by decide +kernel
theorem ln_args (a b : Value) : argsOk "list.__new__" ⟨[a, b], []⟩ := by unfold argsOk; kernel_rfl
theorem ln_args0 (a : Value) : argsOk "list.__new__" ⟨[a], []⟩ := by unfold argsOk; kernel_rfl
theorem beq_listTy : (Value.type "list" == Value.type "list") = true := by decide

section
variable {prog : Program} {w : World} {A : Around} {K : Frag} {C : Addr} {R : Result → Shared → Prop} {h : Heap} {g : Array GenState} {d : Drawn} {t : Nat} {os : OsState}
theorem new_acc {rest : List Value} (Y : MakesL (model prog w) h C) (hT : Looks (model prog w) h (isType (.ref C)) true) (ha : argsOk "list.__new__" ⟨.ref C :: rest, []⟩)
    (hq : R (.ok (.ret (.ref (h.objs.size + 1)))) ⟨(h.push emptyDict).push (accObj C h.objs.size), g, d, t, os⟩) :
    codeAny (model prog w) A (.call (.builtin "list.__new__") ⟨.ref C :: rest, []⟩) R ⟨h, g, d, t, os⟩ := by
  obtain ⟨⟨oc, od, cd, sl, hC, e1, e2, e4⟩, made, base, self, top, call, typ⟩ := Y
  refine codeAny_call_builtin_code (Code.quiet_builtin _ (by decide +kernel)) ?_
  have key : wpAny (model prog w) A.in1 (checkBuiltinCall "list.__new__" ⟨.ref C :: rest, []⟩) (fun _ s' => codeAny (model prog w) A (.builtin "list.__new__" ⟨.ref C :: rest, []⟩) R s') (fun e s' => R (.error e) s') ⟨h, g, d, t, os⟩ := by
    simp only [checkBuiltinCall, ln_kind, ln_split]
    rw [if_pos (by decide)]
    refine wpAny_bind (hT.at ?_)
    rw [if_neg (by decide)]
    refine wpAny_bind (top.at ?_)
    rw [if_neg (by decide)]
    refine wpAny_bind (base.at ?_)
    refine wpAny_bind (made.at ?_)
    dsimp only
    rw [if_neg (by decide +kernel)]
    have fin : codeAny (model prog w) A (.builtin "list.__new__" ⟨.ref C :: rest, []⟩) R ⟨h, g, d, t, os⟩ := by
      refine codeAny_builtin_stack PySem.F.entry_list_new rfl fun p st => ?_
      have hown := PySem.owner_list_new
      simp only [hown]
      refine wpAny_bind (hT.at ?_)
      rw [if_neg (by decide)]
      refine wpAny_bind (top.at ?_)
      rw [if_neg (by decide)]
      refine wpAny_bind (wpAny_pure ?_)
      rw [if_neg (show ¬ ((!typeHasDict (.ref C)) = true) from Bool.false_ne_true)]
      show wpAny _ _ ((alloc emptyDict >>= fun x => pure (Value.ref x)) >>= _) _ _ _
      refine wpAny_bind (wpAny_bind (wpAny_alloc (wpAny_pure ?_)))
      show wpAny _ _ ((newObjAsIs (.ref C) (.seq #[]) (some h.objs.size)) >>= _) _ _ _
      refine wpAny_bind ?_
      unfold newObjAsIs classHasDel
      refine wpAny_bind (wpAny_alloc (wpAny_bind (wpAny_bind (wpAny_load (Heap.get?_push_of_some _ (Heap.get?_push_of_some _ hC)) (wpAny_pure ?_)))))
      rw [e2]
      refine wpAny_pure (wpAny_pure ?_)
      show R _ _
      rw [Heap.size_push]
      exact hq
    cases hsig : Manifest.signature? "list.__new__" with
    | none => exact wpAny_pure fin
    | some sig =>
      simp only [argsOk, hsig] at ha
      have h2 : Bind.checkArgs "list.__new__" sig ⟨.ref C :: rest, []⟩ = pure () := ha
      show wpAny _ A.in1 (Bind.checkArgs "list.__new__" sig ⟨.ref C :: rest, []⟩) _ _ _
      rw [h2]; exact wpAny_pure fin
  exact key

theorem make_acc {rest : List Value} {init : Value} (Y : MakesL (model prog w) h C) (hT : Looks (model prog w) h (isType (.ref C)) true) (ha : argsOk "list.__new__" ⟨.ref C :: rest, []⟩) (hi : Looks (model prog w) h (typeLookup (.ref C) "__init__") (some init))
    (hb : ∀ self, Looks (model prog w) h (bindSpecial init self) (init, [self]))
    (hq : codeAny (model prog w) (A.under (.builtin "type.__call__" ⟨.ref C :: rest, []⟩)) (.call init ⟨.ref (h.objs.size + 1) :: rest, []⟩) (InitBack (h.objs.size + 1) R) ⟨(h.push emptyDict).push (accObj C h.objs.size), g, d, t, os⟩) :
    codeAny (model prog w) A (.call (.ref C) ⟨rest, []⟩) R ⟨h, g, d, t, os⟩ := by
  have Y' := Y
  obtain ⟨⟨oc, od, cd, sl, hC, e1, e2, e4⟩, made, base, self, top, call, typ⟩ := Y
  refine codeAny_of_tree ?_
  show wpAny _ _ (callAny (.ref C) _) _ _ _
  refine nd_load hC ?_
  show wpAny _ _ (callAny.viaDunder (.ref C) _) _ _ _
  unfold callAny.viaDunder
  refine wpAny_bind (call.at ?_)
  dsimp only
  rw [tc_bind]
  refine wpAny_bind (wpAny_pure (wpAny_bind (wpAny_pure ?_)))
  refine wpAny_pure (a := Fin.again (.call (.builtin "type.__call__") ⟨.ref C :: rest, []⟩)) (And.intro rfl ?_)
  refine codeAny_call_builtin_at (Code.quiet_builtin _ (by decide +kernel)) entry_typeCall (check_slot tc_kind tc_split typ (tc_args _ _ _) ?_)
  unfold Builtin.«type.__call__»
  have hm : Looks (model prog w) h (mroOf (.ref C)) cd.mro := ((Looks.ld (part := none) hC).andThen .now).andThen .now
  repeat (first | simp only [e4, Bool.false_eq_true, if_false] | with_reducible refine wpAny_call ?_ | lk)
  refine new_acc Y' hT ha ?_
  have k : ∀ b o, h.get? b = some o → ((h.push emptyDict).push (accObj C h.objs.size)).get? b = some o := fun b o e => Heap.get?_push_of_some _ (Heap.get?_push_of_some _ e)
  have hx : ((h.push emptyDict).push (accObj C h.objs.size)).get? (h.objs.size + 1) = some (accObj C h.objs.size) := by heap_get
  have t1 : Looks (model prog w) ((h.push emptyDict).push (accObj C h.objs.size)) (typeOf (.ref (h.objs.size + 1))) (.ref C) := (Looks.ld hx).andThen .now
  have s1 := self.keeps k
  have i1 := hi.keeps k
  have b1 := (hb (.ref (h.objs.size + 1))).keeps k
  unfold isInstance callSpecial? specialOf
  repeat (first | with_reducible refine wpAny_call ?_ | lk)
  refine codeAny_mono hq fun r s' z => ?_
  rcases r with e | (v | _ | _ | _) <;> first | exact z | exact z.elim | skip
  obtain ⟨rfl, z⟩ := z
  exact wpAny_pure (wpAny_pure z)
end
end Mine

end

section
open PySem PySem.W PyProof.Rows PySem.Calls
set_option Elab.async false
set_option maxRecDepth 100000
set_option maxHeartbeats 4000000
namespace Mine
theorem instN {h₀ h : Heap} {L x C dx : Addr} {news : List (Addr × Obj)} {od : Obj} {its : Array Value} {n : Nat} {sl : Array (Option Value)} (N : News h₀ L h news) (h1 : (x, (⟨.ref C, some dx, .seq its n, sl⟩ : Obj)) ∈ news) (h2 : (dx, od) ∈ news) :
    InstAt h x ⟨.ref C, some dx, .seq its n, sl⟩ C (some od) := ⟨(N _ h1).1, rfl, rfl, (N _ h2).1⟩

section
variable {prog : Program} {w : World} {A : Around} {E : Value → Shared → Prop} {s : Shared} {K : Frag} {x C L : Addr} {h₀ : Heap} {m : Str → Option Value} {news news' : List (Addr × Obj)} {ox : Obj} {od : Option Obj} {dx : Addr} {its : Array Value} {n : Nat} {sl : Array (Option Value)} {dO : Obj} {es : List DictEntry} {nd : Nat} {pl : Sem Bool}


theorem canon_lg : Manifest.canonical "list.__getattribute__" = "object.__getattribute__" := by decide +kernel

theorem meth_acc {name : Str} {f tf : Value} {Q : Value × List Value → Shared → Prop} (F : Fr h₀ L s.heap m) (X₀ : K.In h₀) (I : InstAt s.heap x ox C (some (dictOf es nd))) (hga : findIn K (.ref C) "__getattribute__" = some (some (.builtin "list.__getattribute__"))) (hk : findIn K (.ref C) "__getattr__" = some none)
    (hf : findIn K (.ref C) name = some (some f)) (ht : typeIn K f = some tf) (htf : (tf != .type "function" && tf != .type "method_descriptor" && tf != .type "wrapper_descriptor") = false) (hl : getL name es = some none) (h : Q (f, [.ref x]) s) :
    wpAny (model prog w) A (getMethod (.ref x) name pl) Q E s := by
  have X := X₀.keeps F.keep
  have hcan := canon_lg
  unfold getMethod specialOf
  refine wpAny_bind (wpAny_bind (I.type.here ((looks_findIn X hga).here ?_)))
  dsimp only
  rw [hcan, if_neg (by decide)]
  refine wpAny_bind (wpAny_bind (I.type.here ((looks_findIn X hk).here ?_)))
  refine wpAny_bind (wpAny_bind (I.type.here ((looks_findIn X hf).here (wpAny_bind ((looks_typeIn X ht).here ?_)))))
  rw [htf, if_neg Bool.false_ne_true]
  refine wpAny_bind (wpAny_loadPart I.at_ ?_)
  have hd := I.dict
  cases e : ox.dict with
  | none => exact wpAny_bind (wpAny_rule (wpAny_pure h))
  | some dx =>
    rw [e] at hd
    have a : lookIn name (dictOf es nd) = some none := by rw [lookIn_dict, hl]
    refine wpAny_bind (wpAny_bind (wpAny_loadPart hd ?_))
    rw [nsLook_of a]
    exact wpAny_pure (wpAny_bind (wpAny_rule (wpAny_pure h)))

theorem get_acc {name : Str} {attr : Option Value} {v : Value} {expr : Bool} {Q : Value → Shared → Prop} (F : Fr h₀ L s.heap m) (X₀ : K.In h₀) (I : InstAt s.heap x ox C (some (dictOf es nd))) (hga : findIn K (.ref C) "__getattribute__" = some (some (.builtin "list.__getattribute__"))) (hk : findIn K (.ref C) "__getattr__" = some none) (hsub : subIn K (.ref C) (.type "list") = some true) (hh : hasDictIn K C = true)
    (ha : findIn K (.ref C) name = some attr) (hn : noGet K attr = true) (hl : getL name es = some (some v)) (hv : handedIn v = true) (h : Q v { s with toks := s.toks + 1 }) :
    wpAny (model prog w) A (getAttr (.ref x) name expr) Q E s := by
  have X := X₀.keeps F.keep
  have hf : findObj K C (some (dictOf es nd)) name = some (.value v) := findObj_own hh ha hn (by rw [lookIn_dict, hl])
  obtain ⟨hp, g, d, t, os⟩ := s
  have L0 := I.type (M := model prog w)
  have L1 := looks_findIn (M := model prog w) X hga
  have L2 := looks_findIn (M := model prog w) X hk
  have L3 := looks_find (M := model prog w) X I hf
  unfold getAttr getAttrBy
  refine wpAny_bind (wpAny_mkText (wpAny_holding (wpAny_bind (L0.at (wpAny_bind (L1.at ?_))))))
  dsimp only
  rw [show (Value.builtin "list.__getattribute__" == Value.builtin "object.__getattribute__") = false from by decide, Bool.and_false, if_neg Bool.false_ne_true]
  unfold getAttrByItsOwn hookBefore
  rw [if_pos (show onTheHeap (.ref C) = true from rfl)]
  refine wpAny_bind (L2.at ?_)
  refine wpAny_bind (wpAny_attempt (wpAny_holding ?_))
  unfold callGetattribute
  rw [if_neg (by rw [show onTheHeap (.builtin "list.__getattribute__") = false from rfl, Bool.and_false]; exact Bool.false_ne_true)]
  unfold boundAndCalled
  rw [PySem.F.slot_list_getattribute.bind]
  refine wpAny_bind (wpAny_pure ?_)
  refine call_sub (.inr (by decide +kernel)) (n := "__getattribute__") (by decide +kernel) (acc_isi (s := ⟨hp, g, d, t + 1, os⟩) X I hsub) PySem.F.entry_list_ga (by decide +kernel) ?_ (PySem.F.args_list_getattribute_2 _ _)
  refine wpAny_bind (wpAny_pure (wpAny_bind (wpAny_pure (wpAny_bind (L0.at (wpAny_bind (L3.at ?_)))))))
  refine wpAny_pure ⟨_, rfl, ?_⟩
  show wpAny _ _ (handedOut v) _ _ _
  rw [handedOut_of hv]; exact wpAny_pure h

theorem append_acc {v : Value} {Q : Value → Shared → Prop} (F : Fr h₀ L s.heap m) (X₀ : K.In h₀) (N : News h₀ L s.heap news) (I : InstAt s.heap x ⟨.ref C, some dx, .seq its n, sl⟩ C od) (hsub : subIn K (.ref C) (.type "list") = some true)
    (U : Upd x ⟨.ref C, some dx, .seq its n, sl⟩ ⟨.ref C, some dx, .seq (its.push v) (n + 1), sl⟩ news news')
    (h : ∀ h', Fr h₀ L h' m → News h₀ L h' news' → Q .none { s with heap := h' }) (hsz : its.size ≤ sizeLine := by size_fits) :
    wpAny (model prog w) A (call (.builtin "list.append") [.ref x, v]) Q E s := by
  obtain ⟨pre, post, rfl, rfl, a, b⟩ := U.split
  have z := N (x, _) (List.mem_append.mpr (.inr (.head _)))
  exact acc_append (X₀.keeps F.keep) I hsub (fun h' hs ho' => h h' (F.change hs z.2.1 z.2.2) (news_set N a b hs ho')) hsz
end
end Mine

end

section
open PySem PySem.W PyProof.Rows PySem.Calls
set_option Elab.async false
set_option maxRecDepth 100000
set_option maxHeartbeats 4000000
namespace Mine

/-- an object that bears items, whatever its class -/
def Bears (h : Heap) (x : Addr) (its : Array Value) : Prop := ∃ o n, h.get? x = some o ∧ o.data = .seq its n
theorem Bears.at {h h' : Heap} {x : Addr} {its : Array Value} (b : Bears h x its) (k : ∀ o, h.get? x = some o → h'.get? x = some o) : Bears h' x its :=
  let ⟨o, n, e, d⟩ := b; ⟨o, n, k o e, d⟩

section
variable {prog : Program} {w : World} {A : Around} {E : Value → Shared → Prop} {s : Shared}
theorem next_item {it l : Addr} {i : Nat} {items : Array Value} {x : Value} {Q : Option Value → Shared → Prop} (hit : s.heap.IsListIter it l i)
    (hl : Bears s.heap l items) (hx : items[i]? = some x)
    (hQ : ∀ h', h'.IsListIter it l (i + 1) → Heap.SameBut it s.heap h' → Q (some x) { s with heap := h' }) :
    wpAny (model prog w) A (pyNext (.ref it)) Q E s := by
  obtain ⟨o, ho, hc, hd⟩ := id hit
  obtain ⟨ol, nl, hol, hdl⟩ := hl
  unfold pyNext
  refine wpAny_bind (wpAny_attempt (wpAny_callSpecial?_slot (name := Str.ofString "__next__") hit.typeIs slot_listiter_next
    (wpAny_call_entry slot_listiter_next hit.typeIs entry_listiter_next ?_ (args_listiter_next _))))
  show wpAny _ _ (field (.ref it) 0 >>= _) _ _ s
  refine wpAny_bind (wpAny_field ho hd (x := .ref l) rfl ?_)
  show wpAny _ _ (if (Value.ref l == Value.none) = true then _ else _) _ _ s
  rw [if_neg (show ¬ ((Value.ref l == Value.none) = true) from Bool.false_ne_true)]
  show wpAny _ _ (field (.ref it) 1 >>= _) _ _ s
  refine wpAny_bind (wpAny_field ho hd (x := .int i 0) rfl ?_)
  show wpAny _ _ (seqItems? (.ref l) >>= _) _ _ s
  refine wpAny_bind (wpAny_seqItems hol hdl ?_)
  simp only [Int.toNat_natCast, hx]
  refine wpAny_bind (wpAny_setField ho hd (by simp) (wpAny_pure ⟨x, rfl, wpAny_pure (hQ _ ?_ (Heap.SameBut.update ..))⟩))
  exact ⟨_, Heap.get?_update_self _ ho (Obj.isFreed_of_fields (Obj.data_mapFields hd _)), (Obj.cls_mapFields ..).trans hc, by
    rw [Obj.data_mapFields hd]; simp [rawInt]⟩

theorem next_end {it l : Addr} {i : Nat} {items : Array Value} {Q : Option Value → Shared → Prop} (hh : A.handled = none)
    (hit : s.heap.IsListIter it l i) (hl : Bears s.heap l items) (hx : items[i]? = none)
    (hQ : ∀ h', Heap.ExtBut it s.heap h' → Q none { s with heap := h' }) : wpAny (model prog w) A (pyNext (.ref it)) Q E s := by
  obtain ⟨o, ho, hc, hd⟩ := id hit
  obtain ⟨ol, nl, hol, hdl⟩ := hl
  unfold pyNext
  refine wpAny_bind (wpAny_attempt (wpAny_callSpecial?_slot (name := Str.ofString "__next__") hit.typeIs slot_listiter_next
    (wpAny_call_entry slot_listiter_next hit.typeIs entry_listiter_next ?_ (args_listiter_next _))))
  show wpAny _ _ (field (.ref it) 0 >>= _) _ _ s
  refine wpAny_bind (wpAny_field ho hd (x := .ref l) rfl ?_)
  show wpAny _ _ (if (Value.ref l == Value.none) = true then _ else _) _ _ s
  rw [if_neg (show ¬ ((Value.ref l == Value.none) = true) from Bool.false_ne_true)]
  show wpAny _ _ (field (.ref it) 1 >>= _) _ _ s
  refine wpAny_bind (wpAny_field ho hd (x := .int i 0) rfl ?_)
  show wpAny _ _ (seqItems? (.ref l) >>= _) _ _ s
  refine wpAny_bind (wpAny_seqItems hol hdl ?_)
  simp only [Int.toNat_natCast, hx]
  refine wpAny_bind (wpAny_rule (wpAny_bind (wpAny_setField ho hd (by simp) ?_)))
  show wpAny _ _ (newExc (.type "StopIteration") [] >>= _) _ _ _
  refine wpAny_bind ?_
  simp only [newExc, newTuple]
  refine wpAny_bind (wpAny_newObj_type ?_ (by size_fits))
  refine wpAny_bind (m := firstArgMember _ _) (wpAny_of_eq (a := Value.none) (by first | rfl | (simp only [firstArgMember]; rfl)) ?_)
  refine wpAny_newObj_type ?_ (by size_fits)
  simp only [raiseNew]
  refine wpAny_bind (wpAny_handled ?_)
  rw [show A.in1.handled = none from hh]
  refine wpAny_bind (wpAny_pure (wpAny_throw ?_))
  refine wpAny_bind (wpAny_isInstance (T := "StopIteration") (b := true) ⟨_, Heap.get?_push_size _ rfl, rfl⟩ isSubtype_stop ?_)
  exact wpAny_pure (hQ _ (((Heap.SameBut.update ..).extBut.push _).push _))

theorem iter_acc {K : Frag} {x C : Addr} {ox : Obj} {od : Option Obj} {Q : Value → Shared → Prop} (X : K.In s.heap) (I : InstAt s.heap x ox C od) (hsub : subIn K (.ref C) (.type "list") = some true)
    (hf : findIn K (.ref C) "__iter__" = some (some (.builtin "list.__iter__")))
    (hQ : Q (.ref s.heap.objs.size) { s with heap := s.heap.push { cls := .type "list_iterator", data := .fields #[.ref x, .int 0 0] } }) :
    wpAny (model prog w) A (pyIter (.ref x)) Q E s := by
  have L0 := I.type (M := model prog w)
  have L1 := looks_findIn (M := model prog w) X hf
  have hb := PySem.slot_list_iter.bind (.ref x)
  have key : wpAny (model prog w) A (call (.builtin "list.__iter__") [.ref x]) (fun it s' => s'.TypeIs it "list_iterator" ∧ Q it s') E s := by
    refine call_sub (.inr (by decide +kernel)) (n := "__iter__") (by decide +kernel) (acc_isi X I hsub) PySem.entry_list_iter (by decide +kernel) ?_ (PySem.args_list_iter _)
    show wpAny _ _ (do ret (← newFields "list_iterator" [.ref x, rawInt 0])) _ _ s
    exact wpAny_bind (wpAny_newObj_type (wpAny_pure ⟨_, rfl, ⟨_, Heap.get?_push_size _ rfl, rfl⟩, hQ⟩))
  have fin : ∀ it s', (s'.TypeIs it "list_iterator" ∧ Q it s') → wpAny (model prog w) A (do
      match ← specialOf it "__next__" with
      | none => rule "iter.non-iterator"; raiseError "TypeError" s!"iter() returned non-iterator of type '{← typeNameOf it}'"
      | some _ => pure it) Q E s' := fun it s' h => wpAny_bind (wpAny_specialOf h.1 slot_listiter_next.lookup (wpAny_pure h.2))
  unfold pyIter specialOf
  refine wpAny_bind (wpAny_bind (L0.here (L1.here ?_)))
  show wpAny _ _ (callSpecialIfBoundUnlessNone? (.ref x) "__iter__" _ >>= _) Q E s
  refine wpAny_bind ?_
  unfold callSpecialIfBoundUnlessNone? bindSpecialIfBound? specialOf
  refine wpAny_holding (wpAny_bind (wpAny_bind (wpAny_bind (L0.here (L1.here ?_)))))
  refine wpAny_bind (wpAny_askSetting ?_)
  dsimp only
  rw [hb]
  split
  · refine wpAny_bind (wpAny_pure (wpAny_pure ?_))
    dsimp only
    rw [if_neg (by decide)]
    exact wpAny_bind (wpAny_mono key (fun it s' h => wpAny_pure (fin it s' h)) fun _ _ e => e)
  · refine wpAny_tryCatch (wpAny_bind (wpAny_pure (wpAny_pure ?_)))
    dsimp only
    rw [if_neg (by decide)]
    exact wpAny_bind (wpAny_mono key (fun it s' h => wpAny_pure (fin it s' h)) fun _ _ e => e)
end
end Mine

end

section
open PySem PySem.W PyProof.Rows PySem.Calls
set_option Elab.async false
set_option maxRecDepth 100000
set_option maxHeartbeats 4000000
namespace Mine

/-- walking an object that bears 2-tuples -/
theorem walksAcc {prog : Program} {w : World} {A : Around} (hh : A.handled = none) (I ax : Addr) (hne : ax ≠ I) (items : Array Value) (Ts : Nat → Addr) (vals : Nat → Array Value)
    (hit : ∀ j, j < items.size → items[j]? = some (.ref (Ts j))) (hTI : ∀ j, j < items.size → Ts j ≠ I) :
    WalksU prog w A I (I :: ax :: (List.range items.size).map Ts) [I] items.size (fun j v => v = vals j)
      (fun j h => h.IsListIter I ax j ∧ Bears h ax items ∧ ∀ k, k < items.size → h.IsTuple (Ts k) (vals k))
      (fun j T h => (j < items.size ∧ T = Ts j) ∧ h.IsListIter I ax (j + 1) ∧ Bears h ax items ∧ ∀ k, k < items.size → h.IsTuple (Ts k) (vals k)) where
  sub := fun b hb => by simp at hb; simp [hb]
  frame := fun _ _ _ st hk => ⟨st.1.at fun o e => hk I (by simp) o e, st.2.1.at fun o e => hk ax (by simp) o e,
    fun k hk' => (st.2.2 k hk').at fun o e => hk (Ts k) (List.mem_cons_of_mem _ (List.mem_cons_of_mem _ (List.mem_map.mpr ⟨k, List.mem_range.mpr hk', rfl⟩))) o e⟩
  item := fun i s Q E hi st hQ => by
    refine next_item st.1 st.2.1 (x := .ref (Ts i)) (hit i hi) fun h' hit' hs' => ?_
    have tup : ∀ k, k < items.size → h'.IsTuple (Ts k) (vals k) := fun k hk' => (st.2.2 k hk').extBut hs'.extBut (hTI k hk')
    exact hQ (Ts i) (vals i) h' s.toks rfl (tup i hi) ⟨⟨hi, rfl⟩, hit', st.2.1.at fun o e => hs'.extBut _ o hne e, tup⟩ fun b o hb e => hs'.extBut b o (fun h => hb (by simp [h])) e
  go := fun _ _ _ _ _ s Q _ hm hQ => wpAny_letOwnedTupleGo_listiter hm.2.1 (hQ s.heap hm.2 fun _ _ _ e => e)
  apart := fun j T _ hm hmem => by
    rcases List.mem_cons.mp hmem with e | e
    · exact hTI j hm.1.1 (hm.1.2 ▸ e)
    · cases e
  done := fun s Q E st hQ => next_end hh st.1 st.2.1 (by simp) fun h' he' => hQ h' s.toks fun b o hb e => he' b o (fun h => hb (by simp [h])) e
  self := fun _ _ _ _ st hQ => wpAny_pyIter_listiter st.1 hQ

/-- the code of a generator expression, made or found again; the table told exactly -/
theorem genCode_tab {M : Model} {A : Around} {E : Value → Shared → Prop} {s : Shared} {env : Env} {c P : Addr} {ps : Array Value} {pos : Pos} {qualname : Str} {scope : Scope} {Q : Value → Shared → Prop}
    (hc : env.code = .ref c) (hok : CodeHd s.heap c P) (hP : s.heap.get? P = some (tabObj ps)) (ht : TriplesOk ps.toList)
    (hQ : ∀ code h' tk more, Heap.ExtBut P s.heap h' → s.heap.objs.size ≤ h'.objs.size → h'.get? P = some (tabObj (ps ++ more)) → TriplesOk (ps ++ more).toList → Q code { s with heap := h', toks := tk }) :
    wpAny M A (genexprCode env pos qualname scope) Q E s := by
  have hcode := hok.code hP ht
  have htab := hok.tab hP
  cases hnf : codeAmong pos ps.toList with
  | none =>
    refine wpAny_genexprCodeX hc hcode htab hnf fun c' h' tk hx hge hlt hcode' _ htab' _ => hQ _ h' tk _ hx (Nat.le_trans hge (Nat.le_of_lt hlt)) htab'.2 ?_
    exact TriplesOk_snoc _ _ _ _ ht |> fun z => by simpa using z
  | some cv =>
    obtain ⟨o, vs, file, tf, flags, tg, inF, text, tt, op, ho, hd, h11, h2, h7, h9, h10, hop, hpd, htr, hne⟩ := id hcode
    unfold genexprCode codeAt
    rw [hc, if_neg (show ¬ ((Value.ref c == Value.none) = true) from Bool.false_ne_true)]
    refine wpAny_bind (wpAny_fieldsOf ho hd ?_)
    rw [h11]
    refine wpAny_bind (wpAny_fieldsOf hop hpd ?_)
    rw [hnf]
    exact wpAny_pure (hQ cv s.heap s.toks #[] (Heap.ExtBut.refl _ _) (Nat.le_refl _) (by simpa using hP) (by simpa using ht))

noncomputable def preFrom (k : Int) (val : Nat → Int) : Nat → Int
  | 0 => k
  | j + 1 => preFrom k val j + val j

theorem sumLoop {prog : Program} {w : World} {A : Around} {R : Result → Shared → Prop} {I : Addr} {fp wr : List Addr} {G : Array GenState → Array GenState → Prop} {n : Nat} {P : Nat → Value → Prop} {St : Nat → Shared → Prop}
    (W : WalksS prog w A.in1 I fp wr G n P St) (k₀ : Int) (val : Nat → Int) (hval : ∀ i v, P i v → ∃ t, v = .int (val i) t) (hfit : ∀ j, j < n → InLong (val j) ∧ InLong (preFrom k₀ val (j + 1))) (S : Addr) (hSf : S ∉ fp) :
    ∀ (k i : Nat) (s : Shared) (tA : Tok) (c : Nat), n - i = k → i ≤ n → St i s → s.heap.get? S = some { cls := .type "list", dict := none, data := .seq #[.int (preFrom k₀ val i) tA] c, slots := #[] } →
    (∀ s' t', Moved (S :: wr) G s s' → R (.ok (.ret (.int (preFrom k₀ val n) t'))) s') → codeAny (model prog w) A (.builtin "sum.loop" ⟨[.ref I, .ref S, rawInt 0, rawInt 0], []⟩) R s := by
  have hSw : S ∉ wr := fun h => hSf (W.sub _ h)
  have up : ∀ {s s' : Shared}, Moved wr G s s' → Moved (S :: wr) G s s' := fun x => x.mono fun b hb => List.mem_cons_of_mem _ hb
  intro k
  induction k with
  | zero =>
    intro i s tA c hk hi hst hS hR
    obtain rfl : i = n := by lia
    refine codeAny_builtin F.entry_sum_loop ?_
    rw [Around.under_plainId F.plain_sum_loop _]
    show wpAny _ A.in1 (seqItems? (.ref S) >>= _) _ _ s
    refine wpAny_bind (wpAny_seqItems hS rfl ?_)
    show wpAny _ A.in1 (tryCatch (pyNext (.ref I)) _ >>= _) _ _ s
    exact wpAny_bind (wpAny_tryCatch (W.done s _ _ hst fun s' hm => wpAny_pure (hR s' tA (up hm))))
  | succ k ih =>
    intro i s tA c hk hi hst hS hR
    have hlt : i < n := by lia
    refine codeAny_builtin F.entry_sum_loop ?_
    rw [Around.under_plainId F.plain_sum_loop _]
    show wpAny _ A.in1 (seqItems? (.ref S) >>= _) _ _ s
    refine wpAny_bind (wpAny_seqItems hS rfl ?_)
    show wpAny _ A.in1 (tryCatch (pyNext (.ref I)) _ >>= _) _ _ s
    refine wpAny_bind (wpAny_tryCatch (W.item i s _ _ hlt hst fun v s' hP hst' hm => ?_))
    obtain ⟨t, rfl⟩ := hval i v hP
    have hS' := hm.heap S _ hSw hS
    obtain ⟨⟨f1, f2⟩, f3, f4⟩ := hfit i hlt
    simp only [preFrom] at f3 f4
    show wpAny _ A.in1 (if ((decide (-(2 ^ 63) ≤ val i) && decide (val i < 2 ^ 63)) && (decide (-(2 ^ 63) ≤ preFrom k₀ val i + val i) && decide (preFrom k₀ val i + val i < 2 ^ 63))) = true then (mkInt (preFrom k₀ val i + val i) >>= _) else _) _ _ _
    rw [if_pos (by simp only [Bool.and_eq_true, decide_eq_true_eq]; exact ⟨⟨f1, f2⟩, f3, f4⟩)]
    refine wpAny_bind (wpAny_mkInt ?_)
    show wpAny _ A.in1 (updateSeq S (fun _ => #[.int (preFrom k₀ val i + val i) s'.toks]) >>= _) _ _ _
    refine wpAny_bind (wpAny_updateSeq hS' rfl (wpAny_pure ⟨plainId_quiet F.plain_sum_loop _, ?_⟩))
    refine ih (i + 1) _ s'.toks _ (by lia) hlt (W.frame _ s' _ _ hst' (Nat.le_succ _) fun b hb o e => (Heap.get?_update_other _ _ (fun h : S = b => hSf (by rw [h]; exact hb))).trans e) (Heap.get?_update_self _ hS' rfl) fun s'' t'' hm'' => ?_
    exact hR s'' t'' (Moved.trans W.gtrans ((up hm).then_heap (Nat.le_succ _) fun b o hb e => (Heap.get?_update_other _ _ (fun h : S = b => hb (by rw [h]; exact List.mem_cons_self))).trans e) hm'')

theorem args_sum2 (a b : Value) : argsOk "sum" ⟨[a, b], []⟩ := by unfold argsOk; kernel_rfl

theorem sumFrom {prog : Program} {w : World} {A : Around} {E : Value → Shared → Prop} {s : Shared} {x : Value} {k₀ : Int} {tk : Tok} {Q : Value → Shared → Prop} (hk : InLong k₀)
    (h : wpAny (model prog w) A.in1 (pyIter x) (fun it s₂ => ∃ I fp wr G n P St val, it = .ref I ∧ WalksS prog w A.in1 I fp wr G n P St ∧ St 0 s₂ ∧ (∀ b ∈ fp, b < s₂.heap.objs.size) ∧
      (∀ i v, P i v → ∃ t, v = .int (val i) t) ∧ (∀ j, j < n → InLong (val j) ∧ InLong (preFrom k₀ val (j + 1))) ∧
      ∀ s' t', Moved wr G s₂ s' → Q (.int (preFrom k₀ val n) t') s') E s) :
    wpAny (model prog w) A (call (.builtin "sum") [x, .int k₀ tk]) Q E s := by
  refine call_function_tree F.kind_sum F.plain_sum F.entry_sum (args_sum2 _ _) ?_
  unfold Builtin.«sum»
  simp only [List.length_cons, List.length_nil]
  rw [if_neg (by decide)]
  refine wpAny_bind (wpAny_of_eq (show Builtin.Builtins.bindParams "sum" ["start"] 0 ⟨[.int k₀ tk], []⟩ = pure [some (.int k₀ tk)] from rfl) ?_)
  refine wpAny_bind (wpAny_mono h (fun it s₂ h₂ => ?_) fun _ _ e => e)
  obtain ⟨I, fp, wr, G, n, P, St, val, rfl, W, hst, hfp, hval, hfit, hQ⟩ := h₂
  dsimp only
  show wpAny _ _ (if (decide (-(2 ^ 63) ≤ k₀) && decide (k₀ < 2 ^ 63)) = true then _ else _) _ _ _
  rw [if_pos (by simp only [Bool.and_eq_true, decide_eq_true_eq]; exact hk)]
  refine wpAny_bind (wpAny_rule (wpAny_bind (wpAny_mkInt (wpAny_bind (wpAny_pure ?_)))))
  dsimp only
  simp only [List.forIn_cons, List.forIn_nil]
  refine wpAny_bind (wpAny_bind (wpAny_bind (wpAny_isInstance (T := "int") (b := false) (typeIs_int _ _ _) PySem.sub_int_str ?_)))
  simp only [Bool.false_eq_true, if_false]
  refine wpAny_pure (wpAny_bind (wpAny_bind (wpAny_isInstance (T := "int") (b := false) (typeIs_int _ _ _) PySem.sub_int_bytes ?_)))
  simp only [Bool.false_eq_true, if_false]
  refine wpAny_pure (wpAny_bind (wpAny_bind (wpAny_isInstance (T := "int") (b := false) (typeIs_int _ _ _) PySem.sub_int_bytearray ?_)))
  simp only [Bool.false_eq_true, if_false]
  refine wpAny_pure (wpAny_pure ?_)
  refine wpAny_bind (wpAny_newObj_type ?_)
  have hSf : s₂.heap.objs.size ∉ fp := fun hm => Nat.lt_irrefl _ (hfp _ hm)
  refine wpAny_pure ⟨plainId_quiet F.plain_sum_loop _, sumLoop W k₀ val hval hfit s₂.heap.objs.size hSf n 0 _ s₂.toks 0 rfl (Nat.zero_le _)
    (W.frame 0 s₂ _ _ hst (Nat.le_succ _) fun b _ o e => Heap.get?_push_of_some _ e) (Heap.get?_push_size _ rfl) fun s' t' hm => ?_⟩
  exact hQ s' t' (hm.drop_new (Nat.le_succ _))
end Mine

end

section
open PySem PySem.W PyProof.Rows PySem.Calls
set_option Elab.async false
set_option maxRecDepth 100000
set_option maxHeartbeats 4000000
namespace Mine

theorem passing_all (n : Nat) : passing (fun _ => true) n 0 = List.range n := by
  simp [passing]

/-- a generator at rest: what it will give -/
def GenL (prog : Program) (w : World) (A : Around) (K a : Addr) (n : Nat) (F : Nat → Value → Prop) (s : Shared) : Prop :=
  ∃ fp wr g St, WalksS prog w A.in4 a fp wr (GenOnlyQ g) n F St ∧ St 0 s ∧ (∀ i s', St i s' → s'.TypeIs (.ref a) "generator") ∧ a ∈ fp ∧ (∀ b ∈ fp, b < s.heap.objs.size) ∧ ∀ b ∈ wr, K ≤ b

theorem WalksS.monoP {prog : Program} {w : World} {A : Around} {I : Addr} {fp wr : List Addr} {G : Array GenState → Array GenState → Prop} {n : Nat} {P P' : Nat → Value → Prop} {St : Nat → Shared → Prop}
    (W : WalksS prog w A I fp wr G n P St) (h : ∀ i v, P i v → P' i v) : WalksS prog w A I fp wr G n P' St where
  sub := W.sub
  grefl := W.grefl
  gtrans := W.gtrans
  frame := W.frame
  item := fun i s Q E hi st hQ => W.item i s Q E hi st fun v s' hp => hQ v s' (h i v hp)
  done := W.done
  self := W.self

section
variable {prog : Program} {w : World} {A : Around} {E : Value → Shared → Prop} {s : Shared}

theorem gen_acc {env : Env} {elt iter : Expr} {xa xb : Str} {pa pb pt : Pos} {kt : Nat} {scope : Scope} {cl : List (Str × Addr)} {pos : Pos} {Q : Value → Shared → Prop} {c P x C bm : Addr} {ps items : Array Value} {mg : Str → Option Value} {ob ox : Obj} {od : Option Obj} {K : Frag}
    (hh : A.handled = none) (hco : scope.isCoroutine = false) (hclos : closureFor scope env = pure cl) (hcell : ∀ y ∈ scope.names, y.2 ≠ .cell) (h0 : scope.names.lookup (".0" : Str) = some NameKind.local)
    (hxa : scope.names.lookup xa = some .local) (hxb : scope.names.lookup xb = some .local) (hab : xa ≠ xb) (hkind : scope.kind = .function) (hroom : A.depth < recursionLimit)
    (hcode : env.code = .ref c) (HC : CodeHd s.heap c P) (hP : s.heap.get? P = some (tabObj ps)) (ht : TriplesOk ps.toList)
    (M : BMod s.heap env.globals mg bm ob) (hl : s.heap.NoLimit) (hiter : ∀ Q' : Value → Shared → Prop, Q' (.ref x) s → wpAny (model prog w) A (eval iter env) Q' E s)
    (X : K.In s.heap) (I : InstAt s.heap x ox C od) (hsub : subIn K (.ref C) (.type "list") = some true) (hf : findIn K (.ref C) "__iter__" = some (some (.builtin "list.__iter__"))) (B : Bears s.heap x items)
    (Ts : Nat → Addr) (vals : Nat → Array Value) (hit : ∀ j, j < items.size → items[j]? = some (.ref (Ts j))) (hT : ∀ j, j < items.size → s.heap.IsTuple (Ts j) (vals j)) (hv : ∀ j, j < items.size → ∃ va vb, vals j = #[va, vb])
    (F : Nat → Value → Prop)
    (hq : ∀ (code : Value) (C' : Addr) (A' : Around) E' i va vb (t : Shared) m₂, A'.handled = none → A'.depth ≤ A.depth + 1 → A'.units ≤ A.units + 8 → i < items.size → vals i = #[va, vb] → t.heap.Ns C' m₂ → m₂ xa = some va → m₂ xb = some vb → s.heap.objs.size ≤ C' →
          (∀ b o, b ≠ P → s.heap.get? b = some o → t.heap.get? b = some o) →
          wpAny (model prog w) A' (eval elt (genEnv scope cl C' code builtinsNs env)) (fun y s₃ => F i y ∧ Keeps t s₃) E' t)
    (hQ : ∀ a s₅ more, (∀ b o, b ≠ P → s.heap.get? b = some o → s₅.heap.get? b = some o) → s₅.heap.get? P = some (tabObj (ps ++ more)) → TriplesOk (ps ++ more).toList → (AllBare s.gens → AllBare s₅.gens) → s₅.os = s.os → s.heap.objs.size ≤ s₅.heap.objs.size →
      GenL prog w A s.heap.objs.size a items.size F s₅ → Q (.ref a) s₅)
    (hs : ∀ x, genFold iter env x = pure x) :
    wpAny (model prog w) A (eval (.GeneratorExp elt [⟨.Tuple [.Name xa pa, .Name xb pb] kt pt, iter, [], 0⟩] scope pos) env) Q E s := by
  have hPlt : P < s.heap.objs.size := Heap.lt_size hP
  have hxlt : x < s.heap.objs.size := Heap.lt_size I.at_
  have hxP : x ≠ P := fun e => by have h1 := I.at_; rw [e, hP] at h1; cases h1; exact Value.noConfusion I.cls
  have hTP : ∀ j, j < items.size → Ts j ≠ P := fun j hj e => by obtain ⟨o, h1, h2, _⟩ := hT j hj; rw [e, hP] at h1; cases h1; cases h2
  refine wpAny_GeneratorExp_walksQTD hh hco hclos hcell h0 hxa hxb hab hkind hroom (hiter _ ?_) hs
  refine iter_acc X I hsub hf ?_
  generalize hH : s.heap.push { cls := .type "list_iterator", data := .fields #[.ref x, .int 0 0] } = H
  have hz : H.objs.size = s.heap.objs.size + 1 := by rw [← hH, Heap.size_push]
  have k₂ : ∀ b o, s.heap.get? b = some o → H.get? b = some o := fun b o e => hH ▸ Heap.get?_push_of_some _ e
  have hit₂ : H.IsListIter s.heap.objs.size x 0 := ⟨_, hH ▸ Heap.get?_push_size _ rfl, rfl, rfl⟩
  have hl₂ : H.NoLimit := hl.keeps k₂
  refine ⟨hl₂, genCode_tab hcode (HC.keeps k₂) (k₂ _ _ hP) ht fun code h₃ tk₃ more hx₃ hsz₃ hP₃ ht₃ => ?_⟩
  have hsz₃ : H.objs.size ≤ h₃.objs.size := hsz₃
  have hcP : cStatics ≠ P := fun e => by
    obtain ⟨_, hns, _⟩ := hl
    obtain ⟨o, es, ep, ho, hd, _⟩ := hns
    rw [e, hP] at ho; cases ho; cases hd
  have nsP : ∀ {a : Addr} {m : Str → Option Value}, s.heap.Ns a m → a ≠ P := fun hn e => by
    obtain ⟨o, es, ep, ho, hd, _⟩ := hn
    rw [e, hP] at ho; cases ho; cases hd
  have k₃ : ∀ b o, b ≠ P → s.heap.get? b = some o → h₃.get? b = some o := fun b o hb e => hx₃ b o hb (k₂ b o e)
  have hbmP : bm ≠ P := fun e => by have h1 := M.obj; rw [e, hP] at h1; cases h1; exact Value.noConfusion M.cls
  have M₃ : BMod h₃ env.globals mg bm ob := ⟨(M.ns.keeps k₂).extBut hx₃ (nsP M.ns), M.name, M.ne, k₃ _ _ hbmP M.obj, M.cls, M.dict, M.data⟩
  refine wpAny_builtinsFor M₃.ns M₃.name M₃.ne M₃.obj M₃.cls M₃.dict M₃.data ?_
  have hTI : ∀ j, j < items.size → Ts j ≠ s.heap.objs.size := fun j hj e => by obtain ⟨o, h1, _⟩ := hT j hj; exact absurd (Heap.lt_size h1) (by rw [e]; exact Nat.lt_irrefl _)
  have hfp : ∀ b ∈ s.heap.objs.size :: x :: (List.range items.size).map Ts, b < h₃.objs.size := by
    intro b hb
    rcases List.mem_cons.mp hb with rfl | hb
    · exact Nat.lt_of_lt_of_le (by rw [hz]; exact Nat.lt_succ_self _) hsz₃
    · rcases List.mem_cons.mp hb with rfl | hb
      · exact Nat.lt_of_lt_of_le (Nat.lt_of_lt_of_le hxlt (by rw [hz]; exact Nat.le_succ _)) hsz₃
      · obtain ⟨j, hj, rfl⟩ := List.mem_map.mp hb
        obtain ⟨o, h1, _⟩ := hT j (List.mem_range.mp hj)
        exact Nat.lt_of_lt_of_le (Nat.lt_of_lt_of_le (Heap.lt_size h1) (by rw [hz]; exact Nat.le_succ _)) hsz₃
  refine ⟨s.heap.objs.size, _, _, items.size, _, _, _, fun _ => true, F, rfl, fun A' hA => (walksAcc hA s.heap.objs.size x (Nat.ne_of_lt hxlt) items Ts vals hit hTI).bound, ?_, ?_, hfp, hl₂.extBut hx₃ hcP, ?_, fun href hhref => ?_, fun a h₅ tk gs hgb hag hsz₅ hk₅ W hat => ?_⟩
  · intro i vals' hp
    obtain ⟨hi, rfl⟩ := hp
    exact hv i hi
  · refine ⟨hit₂.at fun o e => hx₃ _ o (fun e' => Nat.lt_irrefl _ (e' ▸ hPlt)) e, B.at fun o e => k₃ _ o hxP e, fun k hk => (hT k hk).at fun o e => k₃ _ o (hTP k hk) e⟩
  · intro hm
    have hc : cStatics < s.heap.objs.size := let ⟨_, hn, _⟩ := hl; hn.lt
    rcases List.mem_cons.mp hm with e | hb
    · exact absurd (e ▸ hc) (Nat.lt_irrefl _)
    · cases hb
  · refine ⟨fun A' E' i va vb t m₂ _ _ _ _ _ _ _ _ => ?_, fun A' E' i va vb t m₂ hA hD hU hp _ hn hma hmb hkp => ?_⟩
    · rw [List.forIn_nil]; exact wpAny_pure ⟨rfl, _, _, rfl, fun _ _ e => e⟩
    · obtain ⟨hi, hp⟩ := hp
      refine hq code _ A' E' i va vb t m₂ hA hD hU hi hp.symm hn hma hmb (Nat.le_trans (by rw [hz]; exact Nat.le_succ _) hsz₃) fun b o hbP e => hkp b (List.mem_range.mpr (Heap.lt_size (k₃ b o hbP e))) (fun hm => ?_) o (hhref b o (k₃ b o hbP e))
      rcases List.mem_cons.mp hm with e' | hb
      · exact absurd (e' ▸ Heap.lt_size e) (Nat.lt_irrefl _)
      · cases hb
  · rw [passing_all] at W
    simp only [List.length_range] at W
    refine hQ a _ more (fun b o hb e => hk₅ b o (k₃ b o hb e)) (hk₅ _ _ hP₃) ht₃ (fun g => g.push hgb) rfl ?_ ⟨_, _, _, _, WalksS.monoP W fun j v hp => ?_, hat, fun i s' st => st.1.typeIs, List.mem_cons_self, ?_, ?_⟩
    · show s.heap.objs.size ≤ h₅.objs.size
      have := hag
      show s.heap.objs.size ≤ h₅.objs.size
      have h9 : h₃.objs.size < a := hag
      lia
    · obtain ⟨i, hi, hp⟩ := hp
      have : i = j := by
        have := List.getElem?_eq_some_iff.mp hi
        obtain ⟨_, e⟩ := this
        simpa using e.symm
      subst this
      exact hp
    · intro b hb
      show b < h₅.objs.size
      rw [hsz₅]
      rcases List.mem_cons.mp hb with rfl | hb
      · exact Nat.lt_succ_self _
      · rcases List.mem_cons.mp hb with rfl | hb
        · exact Nat.lt_succ_of_lt hag
        · exact Nat.lt_succ_of_lt (Nat.lt_trans (List.mem_range.mp hb) hag)
    · intro b hb
      rcases List.mem_cons.mp hb with rfl | hb
      · exact Nat.le_trans (by rw [hz]; exact Nat.le_succ _) hsz₃
      · rcases List.mem_cons.mp hb with rfl | hb
        · exact Nat.le_refl _
        · cases hb

/-- the sum of a generator, from a start -/
theorem gen_sum {K a : Addr} {n : Nat} {F : Nat → Value → Prop} {k₀ : Int} {tk : Tok} {Q : Value → Shared → Prop} (X : GenL prog w A K a n F s) (val : Nat → Int) (hk : InLong k₀) (hval : ∀ j v, F j v → ∃ t, v = .int (val j) t)
    (hfit : ∀ j, j < n → InLong (val j) ∧ InLong (preFrom k₀ val (j + 1)))
    (hQ : ∀ s' t', (∀ b o, b < K → s.heap.get? b = some o → s'.heap.get? b = some o) → (AllBare s.gens → AllBare s'.gens) → s'.os = s.os → Q (.int (preFrom k₀ val n) t') s') :
    wpAny (model prog w) A (call (.builtin "sum") [.ref a, .int k₀ tk]) Q E s := by
  obtain ⟨fp, wr, g, St, W, hst, _, _, hfp, hwr⟩ := X
  have W := W.in4_1
  exact sumFrom hk (W.self 0 _ _ _ hst ⟨a, _, _, _, _, _, _, val, rfl, W, hst, hfp, hval, hfit, fun s' t' hm => hQ s' t' (fun b o hb e => hm.heap b o (fun hmem => Nat.lt_irrefl _ (Nat.lt_of_lt_of_le hb (hwr b hmem))) e) (fun g => g.movedS hm) hm.os⟩)

theorem gen_join {K a : Addr} {n : Nat} {F : Nat → Value → Prop} {sep : Str} {t : Tok} {Q : Value → Shared → Prop} (X : GenL prog w A K a n F s) (tx : Nat → Str) (htx : ∀ j v, F j v → ∃ u, v = .str (tx j) u)
    (hok : JoinOk sep ((List.range n).map tx) = true)
    (hQ : ∀ s' t', (∀ b o, b < K → s.heap.get? b = some o → s'.heap.get? b = some o) → (AllBare s.gens → AllBare s'.gens) → s'.os = s.os → Q (.str (Txt.join sep ((List.range n).map tx)) t') s')
    (hsz : n ≤ sizeLine := by size_fits) : wpAny (model prog w) A (call (.builtin "str.join") [.str sep t, .ref a]) Q E s := by
  obtain ⟨fp, wr, g, St, W, hst, hT, ha, hfp, hwr⟩ := X
  have W := W.in4_2
  refine SC.joinGen W hT hst hfp ha (fun j v hv => let ⟨u, e⟩ := htx j v hv; ⟨_, u, e⟩) (fun s' lt hm hacc => ?_) hsz
  have hl : lt.map (·.1) = (List.range n).map tx := by
    apply List.ext_getElem?
    intro j
    have hsz : lt.length = n := by simpa [strValues] using hacc.1
    by_cases hj : j < n
    · have hj' : j < lt.length := hsz ▸ hj
      obtain ⟨u, hv⟩ := htx j _ (hacc.2 j (.str lt[j].1 lt[j].2) (by simp [strValues, List.getElem?_eq_getElem hj']))
      injection hv with h1 _
      simp [List.getElem?_eq_getElem hj', hj, h1]
    · rw [List.getElem?_eq_none (by simpa [hsz] using Nat.le_of_not_lt hj), List.getElem?_eq_none (by simpa using Nat.le_of_not_lt hj)]
  rw [hl]
  have g1 : AllBare s.gens → AllBare s'.gens := fun g => g.movedS hm
  exact ⟨hok, fun t' k => hQ { s' with toks := k } t' (fun b o hb e => hm.heap b o (fun hmem => Nat.lt_irrefl _ (Nat.lt_of_lt_of_le hb (hwr b hmem))) e) g1 hm.os⟩
end
end Mine

end

section
open PySem PySem.W PyProof.Rows PySem.Calls
set_option Elab.async false
set_option maxRecDepth 100000
set_option maxHeartbeats 4000000
namespace Mine
section
variable {prog : Program} {w : World} {A : Around} {E : Value → Shared → Prop} {s : Shared}

theorem name_local {env : Env} {x : Str} {pos : Pos} {m : Str → Option Value} {v : Value} {Q : Value → Shared → Prop} (hk : env.scope.kind = .function) (hx : env.kindOf x = some .local) (hn : s.heap.Ns env.locals m) (hv : m x = some v) (h : Q v s)
    (hd : (x == ("__debug__" : Str)) = false := by decide) : wpAny (model prog w) A (eval (.Name x pos) env) Q E s :=
  wpAny_Name (wpAny_loadName_local hk hx hn hv h) hd

theorem txt_join (sep : Str) (ys : List Str) : Txt.join sep ys = Str.join sep ys := by simpa using join_closes (ys := ys) (rfl : sep = sep)

theorem elt_len {env : Env} {sc : Scope} {cl : List (Str × Addr)} {C' : Addr} {code : Value} {mg mb m₂ : Str → Option Value} {a b : Str} {ta tb : Tok} {xa xb : Str} {p1 p2 p3 p4 p5 p6 p7 : Pos}
    (hg : s.heap.Ns env.globals mg) (hmiss : mg "len" = none) (hb : s.heap.Ns builtinsNs mb) (hv : mb "len" = some (.builtin "len")) (hn : s.heap.Ns C' m₂)
    (hkd : sc.kind = .function) (hlen : sc.names.lookup ("len" : Str) = some .globalImplicit) (hxa : sc.names.lookup xa = some .local) (hxb : sc.names.lookup xb = some .local)
    (ha : m₂ xa = some (.str a ta)) (hb' : m₂ xb = some (.str b tb)) (h1 : a.length ≤ 2 ^ 20) (h2 : b.length ≤ 2 ^ 20)
    (hda : (xa == ("__debug__" : Str)) = false) (hdb : (xb == ("__debug__" : Str)) = false) (hsa : ∀ q env, starEach [.Name xa q] env = [(false, eval (.Name xa q) env)]) (hsb : ∀ q env, starEach [.Name xb q] env = [(false, eval (.Name xb q) env)]) :
    wpAny (model prog w) A (eval (.BinOp (.Call (.Name "len" p1) [.Name xa p2] [] p3) .Add (.Call (.Name "len" p4) [.Name xb p5] [] p6) p7) (genEnv sc cl C' code builtinsNs env))
      (fun y s₃ => (∃ t, y = .int ((a.length : Int) + b.length) t) ∧ Keeps s s₃) E s := by
  have e20 : (2 : Nat) ^ 20 = 1048576 := by decide
  have one : ∀ (A : Around) (x : Str) (u : Str) (tu : Tok) (p q r : Pos) (k : Nat) (Q : Value → Shared → Prop), m₂ x = some (.str u tu) → sc.names.lookup x = some .local → u.length ≤ 2 ^ 20 → (x == ("__debug__" : Str)) = false →
      (starEach [.Name x q] (genEnv sc cl C' code builtinsNs env) = [(false, eval (.Name x q) (genEnv sc cl C' code builtinsNs env))]) →
      (∀ t k', Q (.int u.length t) { s with toks := k' }) →
      wpAny (model prog w) A (eval (.Call (.Name "len" p) [.Name x q] [] r) (genEnv sc cl C' code builtinsNs env)) Q E { s with toks := k } := by
    intro A x u tu p q r k Q hm hl hu hd hse hq
    refine wpAny_Call_NameR (Calls.Name_function_global hkd hlen (Calls.loadGlobal_builtin hg hmiss hb hv ?_))
    rw [hse]
    refine Calls.callWith_builtin rfl (Calls.evalArgs_plain (Calls.spliced_cons (name_local hkd hl hn hm (Calls.spliced_nil ?_) hd)))
    exact P.len_str (by lia) (hq _ _)
  refine wpAny_BinOp (one A xa a ta p1 p2 p3 s.toks _ ha hxa h1 hda (hsa _ _) fun t k' => ?_)
  refine one A xb b tb p4 p5 p6 k' _ hb' hxb h2 hdb (hsb _ _) fun t' k'' => ?_
  exact add_int ⟨⟨_, rfl⟩, _, _, rfl, fun _ _ e => e⟩

theorem elt_join {env : Env} {sc : Scope} {cl : List (Str × Addr)} {C' : Addr} {code : Value} {mg m₂ : Str → Option Value} {a b : Str} {ta tb te : Tok} {xa xb g : Str} {kt : Nat} {p1 p2 p3 p4 p5 p6 : Pos}
    (hg : s.heap.Ns env.globals mg) (hE : mg g = some (.str ⟨#[]⟩ te)) (hn : s.heap.Ns C' m₂)
    (hkd : sc.kind = .function) (hgl : sc.names.lookup g = some .globalImplicit) (hxa : sc.names.lookup xa = some .local) (hxb : sc.names.lookup xb = some .local)
    (ha : m₂ xa = some (.str a ta)) (hb' : m₂ xb = some (.str b tb)) (h1 : a.length + b.length ≤ 2 ^ 20)
    (hdg : (g == ("__debug__" : Str)) = false) (hda : (xa == ("__debug__" : Str)) = false) (hdb : (xb == ("__debug__" : Str)) = false)
    (hbase : ∀ env, attributeBase (.Name g p1) "join" env (eval (.Name g p1) env) = eval (.Name g p1) env) (hline : (p2.endLine == p6.line) = true)
    (hst : ∀ env, starEach [.Tuple [.Name xa p3, .Name xb p4] kt p5] env = [(false, eval (.Tuple [.Name xa p3, .Name xb p4] kt p5) env)])
    (hse : ∀ env, starEach [.Name xa p3, .Name xb p4] env = [(false, eval (.Name xa p3) env), (false, eval (.Name xb p4) env)]) :
    wpAny (model prog w) A (eval (.Call (.Attribute (.Name g p1) "join" p2) [.Tuple [.Name xa p3, .Name xb p4] kt p5] [] p6) (genEnv sc cl C' code builtinsNs env))
      (fun y s₃ => (∃ t, y = .str (a ++ b) t) ∧ Keeps s s₃) E s := by
  refine wpAny_Call_method1_late (hbase _) hline (by rw [hst]; rfl) (Calls.Name_function_global hkd hgl (Calls.loadGlobal_global hg hE ?_) hdg)
  refine ⟨"str", _, F.plainAttrs_str, F.slot_str_join, F.type_str_join, typeIs_str _ _ _, (fun _ e => nomatch e), ?_⟩
  refine Calls.callWith_builtin rfl (Calls.evalArgs_plain (Calls.spliced_cons (wpAny_Tuple ?_)))
  rw [hse]
  refine Calls.spliced_cons (name_local hkd hxa hn ha (Calls.spliced_cons (name_local hkd hxb hn hb' (Calls.spliced_nil ⟨by show 2 ≤ sizeLine; decide, ?_⟩) hdb)) hda)
  refine Calls.spliced_nil ?_
  refine join_tuple (ys := [a, b]) ⟨_, Heap.get?_push_size _ rfl, rfl, _, rfl⟩ (.cons _ _ (.cons _ _ .nil)) ?_ fun t' k => ⟨⟨t', ?_⟩, _, _, rfl, fun _ _ e => Heap.get?_push_of_some _ e⟩
  · have e20 : (2 : Nat) ^ 20 = 1048576 := by decide
    simp only [List.map_cons, List.map_nil, List.sum_cons, List.sum_nil, List.length_cons, List.length_nil]
    have : (⟨#[]⟩ : Str).length = 0 := rfl
    rw [this]
    lia
  · show Value.str (Txt.join ⟨#[]⟩ [a, b]) t' = _
    rw [txt_join, PyProof.Rows.join_nil_cons, PyProof.Rows.join_nil_cons]
    show Value.str (a ++ (b ++ Str.empty)) t' = _
    rw [Str.append_empty]
end
end Mine

end

section
open PySem PySem.W PyProof.Rows PySem.Calls
set_option Elab.async false
set_option maxRecDepth 100000
set_option maxHeartbeats 4000000
namespace Mine
noncomputable abbrev accO (d : Addr) (items : List Value) (n : Nat) : Obj := ⟨.ref 178, some d, .seq items.toArray n, #[]⟩
noncomputable abbrev szD (hs : Int) (tk : Tok) (k : Int) (tk' : Tok) (nd : Nat) : Obj := dictOf [⟨hs, .str (Str.ofString "_initial_size") tk, .int k tk'⟩] nd
noncomputable abbrev tupO (a : Str) (ta : Tok) (b : Str) (tb : Tok) : Obj := { cls := .type "tuple", data := .seq #[.str a ta, .str b tb] }

/-- the ledger bears the pieces -/
inductive PartsAre (own : List (Addr × Obj)) : List Value → List (Str × Str) → Prop
  | nil : PartsAre own [] []
  | cons {q : Addr} {a b : Str} {ta tb : Tok} {vs : List Value} {ps : List (Str × Str)} : (q, tupO a ta b tb) ∈ own → PartsAre own vs ps → PartsAre own (.ref q :: vs) ((a, b) :: ps)

namespace PartsAre
variable {own own' : List (Addr × Obj)} {vs us : List Value} {ps qs : List (Str × Str)}
theorem mono (x : PartsAre own vs ps) (h : ∀ p ∈ own, p ∈ own') : PartsAre own' vs ps := by
  induction x with
  | nil => exact .nil
  | cons hm _ ih => exact .cons (h _ hm) ih
theorem append (x : PartsAre own vs ps) (y : PartsAre own us qs) : PartsAre own (vs ++ us) (ps ++ qs) := by
  induction x with
  | nil => exact y
  | cons hm _ ih => exact .cons hm ih
theorem len (x : PartsAre own vs ps) : vs.length = ps.length := by
  induction x with
  | nil => rfl
  | cons _ _ ih => simp [ih]
theorem get (x : PartsAre own vs ps) : ∀ j, j < ps.length → ∃ q a b ta tb, vs[j]? = some (.ref q) ∧ ps[j]? = some (a, b) ∧ (q, tupO a ta b tb) ∈ own := by
  induction x with
  | nil => intro j hj; exact absurd hj (Nat.not_lt_zero _)
  | @cons q a b ta tb vs ps hm _ ih =>
    intro j hj
    cases j with
    | zero => exact ⟨q, a, b, ta, tb, rfl, rfl, hm⟩
    | succ j =>
      have hj' : j < ps.length := by simpa using hj
      obtain ⟨q, a, b, ta, tb, h1, h2, h3⟩ := ih j hj'
      exact ⟨q, a, b, ta, tb, by simpa using h1, by simpa using h2, h3⟩
theorem take (x : PartsAre own vs ps) : ∀ j, PartsAre own (vs.take j) (ps.take j) := by
  induction x with
  | nil => intro j; simp; exact .nil
  | cons hm _ ih =>
    intro j
    cases j with
    | zero => exact .nil
    | succ j => exact .cons hm (ih j)
theorem drop (x : PartsAre own vs ps) : ∀ j, PartsAre own (vs.drop j) (ps.drop j) := by
  induction x with
  | nil => intro j; simp; exact .nil
  | cons hm y ih =>
    intro j
    cases j with
    | zero => exact .cons hm y
    | succ j => exact ih j
end PartsAre

noncomputable def total (ps : List (Str × Str)) : Nat := (ps.map fun p => p.1.length + p.2.length).sum
noncomputable def flat (ps : List (Str × Str)) : Str := ps.foldr (fun p r => p.1 ++ p.2 ++ r) ⟨#[]⟩
/-- small enough -/
def Small (ps : List (Str × Str)) : Prop := ps.length ≤ 200 ∧ ∀ p ∈ ps, p.1.length ≤ 200 ∧ p.2.length ≤ 200

theorem ownOff_iff {own : List (Addr × Obj)} {adr : List Addr} : OwnOff own adr ↔ ∀ p ∈ own, ∀ a ∈ adr, p.1 ≠ a := by
  first | exact Iff.rfl | (constructor <;> intro h <;> simpa [OwnOff] using h)

/-- what a call leaves alone beside the heap -/
structure Kp (s s' : Shared) : Prop where
  os : s'.os = s.os
  bare : AllBare s.gens → AllBare s'.gens
theorem Kp.refl (s : Shared) : Kp s s := ⟨rfl, id⟩
theorem Kp.heap {s s' : Shared} (k : Kp s s') {h : Heap} {t : Nat} : Kp s { s' with heap := h, toks := t } := ⟨k.os, k.bare⟩
theorem Kp.trans {a b c : Shared} (x : Kp a b) (y : Kp b c) : Kp a c := ⟨y.os.trans x.os, fun g => y.bare (x.bare g)⟩
end Mine

end

section
open PySem PySem.W PyProof.Rows PySem.Calls
set_option Elab.async false
set_option maxRecDepth 100000
set_option maxHeartbeats 4000000
namespace Mine

/-- a generator at rest beside a frame and a ledger -/
def GenK (prog : Program) (w : World) (A : Around) (L : Addr) (news : List (Addr × Obj)) (a : Addr) (n : Nat) (F : Nat → Value → Prop) (s : Shared) : Prop :=
  ∃ K, GenL prog w A K a n F s ∧ L < K ∧ ∀ p ∈ news, p.1 < K

theorem GenK.toks {prog : Program} {w : World} {A : Around} {L a : Addr} {news : List (Addr × Obj)} {n t : Nat} {F : Nat → Value → Prop} {s : Shared} (X : GenK prog w A L news a n F s) (h : s.toks ≤ t) : GenK prog w A L news a n F { s with toks := t } := by
  obtain ⟨K, ⟨fp, wr, g, St, W, hst, h1, h2, h3, h4⟩, r⟩ := X
  exact ⟨K, ⟨fp, wr, g, St, W, W.frame 0 s s.heap t hst h fun _ _ _ e => e, h1, h2, h3, h4⟩, r⟩

section
variable {prog : Program} {w : World} {A : Around} {E : Value → Shared → Prop} {s : Shared} {h₀ : Heap} {L : Addr} {m mg mb : Str → Option Value} {K : Frag} {p : Program} {loose : List Str} {mean : ExcName → Option Value} {news : List (Addr × Obj)}

theorem genAcc {env : Env} {elt : Expr} {xs xa xb : Str} {px pa pb pt : Pos} {kt : Nat} {scope : Scope} {pos : Pos} {Q : Value → Shared → Prop} {c P x dx C : Addr} {ts : Array Value} {items : List Value} {n : Nat} {sl : Array (Option Value)} {dO : Obj} {own : List (Addr × Obj)} {ps : List (Str × Str)} {news' : Array Value → List (Addr × Obj)}
    (F : Fr h₀ L s.heap m) (X₀ : K.In h₀) (N : News h₀ L s.heap news) (T : Top p loose mean mg mb h₀) (hh : A.handled = none) (hroom : A.depth < recursionLimit)
    (hcode : env.code = .ref c) (hcd : codeHdIn K c P = true) (U : ∀ ts', Upd P (tabObj ts) (tabObj ts') news (news' ts')) (ht : TriplesOk ts.toList)
    (hL : env.locals = L) (hG : env.globals = mainGlobals) (hkd : env.scope.kind = .function) (hks : env.kindOf xs = some .local) (hds : (xs == ("__debug__" : Str)) = false) (hms : m xs = some (.ref x))
    (hx : (x, (⟨.ref C, some dx, .seq items.toArray n, sl⟩ : Obj)) ∈ news) (hd : (dx, dO) ∈ news) (hsub : subIn K (.ref C) (.type "list") = some true) (hf : findIn K (.ref C) "__iter__" = some (some (.builtin "list.__iter__")))
    (hp : PartsAre own items ps) (hown : ∀ q ∈ own, q ∈ news)
    (hco : scope.isCoroutine = false) (hclos : closureFor scope env = pure []) (hcell : ∀ y ∈ scope.names, y.2 ≠ .cell) (h0 : scope.names.lookup (".0" : Str) = some NameKind.local)
    (hxa : scope.names.lookup xa = some .local) (hxb : scope.names.lookup xb = some .local) (hab : xa ≠ xb) (hkind : scope.kind = .function)
    (G : Nat → Value → Prop)
    (hq : ∀ (code : Value) (C' : Addr) (A' : Around) E' i a b ta tb (t : Shared) m₂, A'.handled = none → ps[i]? = some (a, b) → t.heap.Ns C' m₂ → m₂ xa = some (.str a ta) → m₂ xb = some (.str b tb) → t.heap.Ns mainGlobals mg → t.heap.Ns builtinsNs mb →
          wpAny (model prog w) A' (eval elt (genEnv scope [] C' code builtinsNs env)) (fun y s₃ => G i y ∧ Keeps t s₃) E' t)
    (hQ : ∀ a s₅ more, Kp s s₅ → Fr h₀ L s₅.heap m → News h₀ L s₅.heap (news' (ts ++ more)) → TriplesOk (ts ++ more).toList → GenK prog w A L (news' (ts ++ more)) a ps.length G s₅ → Q (.ref a) s₅) :
    wpAny (model prog w) A (eval (.GeneratorExp elt [⟨.Tuple [.Name xa pa, .Name xb pb] kt pt, .Name xs px, [], 0⟩] scope pos) env) Q E s := by
  have X := X₀.keeps F.keep
  have T' := T.keeps F.keep
  obtain ⟨bm, ob, M⟩ := bmod_of_top T'
  obtain ⟨pre, post, e1, _, _, _⟩ := (U ts).split
  have hPm : (P, tabObj ts) ∈ news := by rw [e1]; exact List.mem_append.mpr (.inr (.head _))
  have hP := (N _ hPm).1
  have I : InstAt s.heap x ⟨.ref C, some dx, .seq items.toArray n, sl⟩ C (some dO) := instN N hx hd
  have hlen : items.length = ps.length := hp.len
  have hsz : items.toArray.size = ps.length := by simp [hlen]
  -- the pieces by their places
  let Ts : Nat → Addr := fun j => match items[j]? with | some (.ref q) => q | _ => 0
  let vals : Nat → Array Value := fun j => match s.heap.get? (Ts j) with | some ⟨_, _, .seq vs _, _⟩ => vs | _ => #[]
  have at_ : ∀ j, j < ps.length → ∃ q a b ta tb, items[j]? = some (.ref q) ∧ ps[j]? = some (a, b) ∧ Ts j = q ∧ s.heap.get? q = some (tupO a ta b tb) ∧ vals j = #[.str a ta, .str b tb] := by
    intro j hj
    obtain ⟨q, a, b, ta, tb, h1, h2, h3⟩ := hp.get j hj
    have e3 := (N _ (hown _ h3)).1
    have e2 : Ts j = q := by show (match items[j]? with | some (.ref q) => q | _ => 0) = q; rw [h1]
    refine ⟨q, a, b, ta, tb, h1, h2, e2, e3, ?_⟩
    show (match s.heap.get? (Ts j) with | some ⟨_, _, .seq vs _, _⟩ => vs | _ => #[]) = _
    rw [e2, e3]
  have nsP : ∀ {a : Addr} {mm : Str → Option Value}, s.heap.Ns a mm → a ≠ P := fun hn e => by
    obtain ⟨o, es, ep, ho, hd, _⟩ := hn
    rw [e, hP] at ho; cases ho; cases hd
  refine gen_acc (K := K) (x := x) (items := items.toArray) (P := P) (ps := ts) hh hco hclos hcell h0 hxa hxb hab hkind hroom hcode (codeHd_of_K X hcd) hP ht (hG ▸ M) T'.nolimit
    (fun Q' h => name_local hkd hks (hL ▸ F.ns) hms h hds) X I hsub hf ⟨_, _, I.at_, rfl⟩ Ts vals (fun j hj => ?_) (fun j hj => ?_) (fun j hj => ?_) G
    (fun code C' A' E' i va vb t m₂ hA _ _ hi hv hn hma hmb _ hkp => ?_) (fun a s₅ more hk hP' ht' hb hos hsz' hgen => ?_) (fun _ => rfl)
  · rw [hsz] at hj
    obtain ⟨q, a, b, ta, tb, h1, h2, h3, h4, h5⟩ := at_ j hj
    rw [h3]; simpa using h1
  · rw [hsz] at hj
    obtain ⟨q, a, b, ta, tb, h1, h2, h3, h4, h5⟩ := at_ j hj
    rw [h3, h5]; exact ⟨_, h4, rfl, _, rfl⟩
  · rw [hsz] at hj
    obtain ⟨q, a, b, ta, tb, h1, h2, h3, h4, h5⟩ := at_ j hj
    exact ⟨_, _, h5⟩
  · rw [hsz] at hi
    obtain ⟨q, a, b, ta, tb, h1, h2, h3, h4, h5⟩ := at_ i hi
    rw [h5] at hv
    obtain ⟨rfl, rfl⟩ : Value.str a ta = va ∧ Value.str b tb = vb := by simpa using hv
    have up : ∀ {a : Addr} {mm : Str → Option Value}, s.heap.Ns a mm → t.heap.Ns a mm := fun hn => by
      have hne := nsP hn
      obtain ⟨o, es, ep, ho, r⟩ := hn
      exact ⟨o, es, ep, hkp _ _ hne ho, r⟩
    exact hq code C' A' E' i a b ta tb t m₂ hA h2 hn hma hmb (up T'.g) (up T'.b)
  · have hLP : L ≠ P := Ne.symm (N _ hPm).2.1
    have F₅ : Fr h₀ L s₅.heap m := by
      refine ⟨?_, fun b o e => hk b o (fun e' => ?_) (F.keep b o e), F.above⟩
      · obtain ⟨o, es, ep, ho, r⟩ := F.ns
        exact ⟨o, es, ep, hk _ _ hLP ho, r⟩
      · have z := (N _ hPm).2.2
        rw [← e', e] at z; cases z
    obtain ⟨pre, post, e1, e2, a1, a2⟩ := (U (ts ++ more)).split
    have N₅ : News h₀ L s₅.heap (news' (ts ++ more)) := by
      rw [e2]
      intro q hq
      have other : q ∈ news → q.1 ≠ P → s₅.heap.get? q.1 = some q.2 ∧ q.1 ≠ L ∧ h₀.get? q.1 = none := fun h1 h2 => ⟨hk _ _ h2 (N _ h1).1, (N _ h1).2⟩
      rcases List.mem_append.mp hq with hq | hq
      · exact other (e1 ▸ List.mem_append.mpr (.inl hq)) (a1 _ hq)
      · rcases List.mem_cons.mp hq with rfl | hq
        · exact ⟨hP', (N _ hPm).2⟩
        · exact other (e1 ▸ List.mem_append.mpr (.inr (.tail _ hq))) (a2 _ hq)
    refine hQ a s₅ more ⟨hos, hb⟩ F₅ N₅ ht' ⟨s.heap.objs.size, hsz ▸ hgen, F.ns.lt, ?_⟩
    intro q hq
    rw [e2] at hq
    have old : ∀ {r : Addr × Obj}, r ∈ news → r.1 < s.heap.objs.size := fun h => Heap.lt_size (N _ h).1
    rcases List.mem_append.mp hq with hq | hq
    · exact old (e1 ▸ List.mem_append.mpr (.inl hq))
    · rcases List.mem_cons.mp hq with rfl | hq
      · exact Heap.lt_size hP
      · exact old (e1 ▸ List.mem_append.mpr (.inr (.tail _ hq)))

theorem after {s' : Shared} {k : Addr} (F : Fr h₀ L s.heap m) (N : News h₀ L s.heap news) (hL : L < k) (hn : ∀ p ∈ news, p.1 < k) (hk : ∀ b o, b < k → s.heap.get? b = some o → s'.heap.get? b = some o) :
    Fr h₀ L s'.heap m ∧ News h₀ L s'.heap news := by
  refine ⟨⟨?_, fun b o e => hk b o (Nat.lt_trans (Nat.lt_of_lt_of_le (Heap.lt_size e) F.above) hL) (F.keep b o e), F.above⟩, fun q hq => ⟨hk _ _ (hn q hq) (N q hq).1, (N q hq).2⟩⟩
  obtain ⟨o, es, ep, ho, r⟩ := F.ns
  exact ⟨o, es, ep, hk _ _ hL ho, r⟩

theorem sumK {a : Addr} {n : Nat} {G : Nat → Value → Prop} {k₀ : Int} {tk : Tok} {Q : Value → Shared → Prop} (F : Fr h₀ L s.heap m) (N : News h₀ L s.heap news) (X : GenK prog w A L news a n G s) (val : Nat → Int) (hk : InLong k₀) (hval : ∀ j v, G j v → ∃ t, v = .int (val j) t)
    (hfit : ∀ j, j < n → InLong (val j) ∧ InLong (preFrom k₀ val (j + 1)))
    (hQ : ∀ s' t', Kp s s' → Fr h₀ L s'.heap m → News h₀ L s'.heap news → Q (.int (preFrom k₀ val n) t') s') :
    wpAny (model prog w) A (call (.builtin "sum") [.ref a, .int k₀ tk]) Q E s := by
  obtain ⟨K', X, hL, hn⟩ := X
  exact gen_sum X val hk hval hfit fun s' t' h1 h2 h3 => hQ s' t' ⟨h3, h2⟩ (after F N hL hn h1).1 (after F N hL hn h1).2

theorem joinK {a : Addr} {n : Nat} {G : Nat → Value → Prop} {sep : Str} {t : Tok} {Q : Value → Shared → Prop} (F : Fr h₀ L s.heap m) (N : News h₀ L s.heap news) (X : GenK prog w A L news a n G s) (tx : Nat → Str) (htx : ∀ j v, G j v → ∃ u, v = .str (tx j) u)
    (hok : JoinOk sep ((List.range n).map tx) = true)
    (hQ : ∀ s' t', Kp s s' → Fr h₀ L s'.heap m → News h₀ L s'.heap news → Q (.str (Txt.join sep ((List.range n).map tx)) t') s') (hsz : n ≤ sizeLine) :
    wpAny (model prog w) A (call (.builtin "str.join") [.str sep t, .ref a]) Q E s := by
  obtain ⟨K', X, hL, hn⟩ := X
  exact gen_join X tx htx hok (fun s' t' h1 h2 h3 => hQ s' t' ⟨h3, h2⟩ (after F N hL hn h1).1 (after F N hL hn h1).2) hsz
end

-- the reckoning
theorem total_cons (p : Str × Str) (ps : List (Str × Str)) : total (p :: ps) = p.1.length + p.2.length + total ps := by simp [total]
theorem total_append (ps qs : List (Str × Str)) : total (ps ++ qs) = total ps + total qs := by simp [total]
noncomputable def lens (ps : List (Str × Str)) (j : Nat) : Int := match ps[j]? with
  | some (a, b) => (a.length : Int) + b.length
  | none => 0
theorem pre_lens (k : Int) (ps : List (Str × Str)) : ∀ j, j ≤ ps.length → preFrom k (lens ps) j = k + total (ps.take j) := by
  intro j
  induction j with
  | zero => intro _; simp [preFrom, total]
  | succ j ih =>
    intro hj
    have hj' : j < ps.length := by lia
    rw [preFrom, ih (by lia), List.take_succ, total_append, List.getElem?_eq_getElem hj']
    simp only [lens, List.getElem?_eq_getElem hj', Option.toList_some]
    rw [total_cons]
    simp only [total, List.map_nil, List.sum_nil]
    lia
theorem total_small {ps : List (Str × Str)} (h : Small ps) : ∀ j, total (ps.take j) ≤ 400 * 200 := by
  intro j
  have one : ∀ l : List (Str × Str), (∀ p ∈ l, p.1.length ≤ 200 ∧ p.2.length ≤ 200) → total l ≤ 400 * l.length := by
    intro l
    induction l with
    | nil => intro _; simp [total]
    | cons p r ih =>
      intro hl
      have h1 := hl p (.head _)
      have h2 := ih fun q hq => hl q (.tail _ hq)
      rw [total_cons, List.length_cons]; lia
  have h1 := one (ps.take j) fun p hp => h.2 p (List.mem_of_mem_take hp)
  have h2 : (ps.take j).length ≤ 200 := Nat.le_trans (by rw [List.length_take]; exact Nat.min_le_right _ _) h.1
  lia
end Mine

end

section
open PySem PySem.W PyProof.Rows PySem.Calls
set_option Elab.async false
set_option maxRecDepth 100000
set_option maxHeartbeats 4000000
namespace Mine
/-- a built-in's method, bound -/
noncomputable abbrev bndO (T id : String) (x : Addr) : Obj := { cls := .type T, data := .fields #[.builtin id, .ref x] }
theorem slot_mdg : Slot "method_descriptor" "__get__" "method_descriptor.__get__" :=
  .of (owner := "method_descriptor") (n := "__get__") (by rw [typeLookup_type, builtinLookup_eq_fast]; kernel_rfl) (by decide +kernel) (by decide +kernel) (by decide +kernel)
    (by first | exact .inl (by decide +kernel) | exact .inr (by decide +kernel)) (by rw [isSubtype_type]; kernel_rfl)
theorem slot_wdg : Slot "wrapper_descriptor" "__get__" "wrapper_descriptor.__get__" :=
  .of (owner := "wrapper_descriptor") (n := "__get__") (by rw [typeLookup_type, builtinLookup_eq_fast]; kernel_rfl) (by decide +kernel) (by decide +kernel) (by decide +kernel)
    (by first | exact .inl (by decide +kernel) | exact .inr (by decide +kernel)) (by rw [isSubtype_type]; kernel_rfl)
theorem entry_mdg : entryFor table "method_descriptor.__get__" = some Builtin.«method_descriptor.__get__» := entryFor_of_tree (by kernel_rfl)
theorem entry_wdg : entryFor table "wrapper_descriptor.__get__" = some Builtin.«wrapper_descriptor.__get__» := entryFor_of_tree (by kernel_rfl)
theorem args_mdg (a b c : Value) : argsOk "method_descriptor.__get__" ⟨[a, b, c], []⟩ := by unfold argsOk; kernel_rfl
theorem args_wdg (a b c : Value) : argsOk "wrapper_descriptor.__get__" ⟨[a, b, c], []⟩ := by unfold argsOk; kernel_rfl
theorem type_pop : typeOf (.builtin "list.pop") = pure (.type "method_descriptor") := by show builtinType _ = _; rw [builtinType_eq_fast]; kernel_rfl
theorem type_len : typeOf (.builtin "list.__len__") = pure (.type "wrapper_descriptor") := by show builtinType _ = _; rw [builtinType_eq_fast]; kernel_rfl
theorem type_init : typeOf (.builtin "list.__init__") = pure (.type "wrapper_descriptor") := by show builtinType _ = _; rw [builtinType_eq_fast]; kernel_rfl

section
variable {prog : Program} {w : World} {A : Around} {E : Value → Shared → Prop} {h : Heap} {g : Array GenState} {d : Drawn} {t : Nat} {os : OsState}

theorem run_mdg {x C : Addr} {P : Fin → Shared → Prop} (hi : Looks (model prog w) h (isInstance (.ref x) (.type "list")) true)
    (hq : P (.done (.ret (.ref h.objs.size))) ⟨h.push (bndO "builtin_function_or_method" "list.pop" x), g, d, t, os⟩) :
    wpAny (model prog w) A (Builtin.«method_descriptor.__get__» ⟨[.builtin "list.pop", .ref x, .ref C], []⟩) P E ⟨h, g, d, t, os⟩ := by
  unfold Builtin.«method_descriptor.__get__»
  refine wpAny_bind (wpAny_of_eq (a := (.builtin "list.pop", some (.ref x), some (.ref C))) (by first | rfl | kernel_rfl) ?_)
  dsimp only
  rw [if_neg (by decide +kernel)]
  refine wpAny_bind ?_
  refine wpAny_bind (wpAny_of_eq (a := (PySem.Str.ofString "pop", .type "list")) (by first | rfl | kernel_rfl) ?_)
  refine wpAny_bind (hi.at ?_)
  simp only [Bool.not_true, Bool.false_eq_true, if_false]
  refine wpAny_pure (wpAny_bind (wpAny_newObj_type (wpAny_pure hq)))

theorem run_wdg {id : String} {x C : Addr} {P : Fin → Shared → Prop} (hi : Looks (model prog w) h (isInstance (.ref x) (.type "list")) true)
    (hn : id = "list.__len__" ∨ id = "list.__init__")
    (hq : P (.done (.ret (.ref h.objs.size))) ⟨h.push (bndO "method-wrapper" id x), g, d, t, os⟩) :
    wpAny (model prog w) A (Builtin.«wrapper_descriptor.__get__» ⟨[.builtin id, .ref x, .ref C], []⟩) P E ⟨h, g, d, t, os⟩ := by
  unfold Builtin.«wrapper_descriptor.__get__»
  rcases hn with rfl | rfl
  · refine wpAny_bind (wpAny_of_eq (a := (.builtin "list.__len__", some (.ref x), some (.ref C))) (by first | rfl | kernel_rfl) ?_)
    refine wpAny_bind ?_
    refine wpAny_bind (wpAny_of_eq (a := (PySem.Str.ofString "__len__", .type "list")) (by first | rfl | kernel_rfl) ?_)
    refine wpAny_bind (hi.at ?_)
    simp only [Bool.not_true, Bool.false_eq_true, if_false]
    refine wpAny_pure (wpAny_bind (wpAny_newObj_type (wpAny_pure hq)))
  · refine wpAny_bind (wpAny_of_eq (a := (.builtin "list.__init__", some (.ref x), some (.ref C))) (by first | rfl | kernel_rfl) ?_)
    refine wpAny_bind ?_
    refine wpAny_bind (wpAny_of_eq (a := (PySem.Str.ofString "__init__", .type "list")) (by first | rfl | kernel_rfl) ?_)
    refine wpAny_bind (hi.at ?_)
    simp only [Bool.not_true, Bool.false_eq_true, if_false]
    refine wpAny_pure (wpAny_bind (wpAny_newObj_type (wpAny_pure hq)))

theorem superB_ga {so D x C : Addr} {l₀ l : List Value} {K : Frag} {name : Str} {tk : Tok} {id T idg : String} {b : Builtin} {bo : Obj} {Q : Fin → Shared → Prop}
    (hso : h.get? so = some { cls := .type "super", dict := none, data := .fields #[.ref D, .ref x, .ref C], slots := #[] }) (hno : Looks (model prog w) h (opaqueClassAbove (.ref C)) none)
    (hC : Looks (model prog w) h (mroOf (.ref C)) l₀) (hl : (l₀.dropWhile (· != .ref D)).drop 1 = l) (X : K.In h)
    (hf : alongIn K name l = some (some (.builtin id))) (ht : typeOf (.builtin id) = pure (.type T)) (hs : Slot T "__get__" idg) (he : entryFor table idg = some b) (ha : ∀ a b c, argsOk idg ⟨[a, b, c], []⟩)
    (hb : ∀ {A : Around} {E : Value → Shared → Prop} {P : Fin → Shared → Prop}, P (.done (.ret (.ref h.objs.size))) ⟨h.push bo, g, d, t, os⟩ → wpAny (model prog w) A (b ⟨[.builtin id, .ref x, .ref C], []⟩) P E ⟨h, g, d, t, os⟩)
    (hxC : x ≠ C) (hn : (name == ("__class__" : Str)) = false)
    (hq : Q (.done (.ret (.ref h.objs.size))) ⟨h.push bo, g, d, t, os⟩) :
    wpAny (model prog w) A (Builtin.«super.__getattribute__» ⟨[.ref so, .str name tk], []⟩) Q E ⟨h, g, d, t, os⟩ := by
  have hlk := hs.lookup
  have hne : (Value.ref x == Value.ref C) = false := by simp [hxC]
  have hdt : ({ cls := .type "super", dict := none, data := .fields #[.ref D, .ref x, .ref C], slots := #[] } : Obj).data = .fields #[.ref D, .ref x, .ref C] := rfl
  have f0 : (#[.ref D, .ref x, .ref C] : Array Value)[0]? = some (.ref D) := rfl
  have f1 : (#[.ref D, .ref x, .ref C] : Array Value)[1]? = some (.ref x) := rfl
  have f2 : (#[.ref D, .ref x, .ref C] : Array Value)[2]? = some (.ref C) := rfl
  unfold Builtin.«super.__getattribute__»
  repeat (first
    | (with_reducible refine wpAny_field hso hdt f0 ?_) | (with_reducible refine wpAny_field hso hdt f1 ?_) | (with_reducible refine wpAny_field hso hdt f2 ?_)
    | (with_reducible refine ks_wpAny_notOpaque hno ?_)
    | (with_reducible refine Looks.at hC ?_; rw [hl])
    | (refine ks_forIn_along X (fun _ _ => rfl) rfl ?_ hf)
    | (with_reducible refine wpAny_of_eq ht ?_)
    | (with_reducible refine wpAny_call_entry hs ht he ?_ (ha _ _ _))
    | (with_reducible refine hb ?_)
    | (with_reducible refine ⟨_, rfl, ?_⟩)
    | (simp only [hn, hne, Bool.or_false, Bool.false_eq_true, if_false])
    | wp_step
    | dsimp only)
  all_goals
    refine codeAny_call_builtin hs.plain he (hs.check _ _ _ _ _ _ _ _ ht (ha _ _ _) ?_)
    refine hb ?_
    exact wpAny_pure (wpAny_pure hq)

theorem superB_method {so D x C : Addr} {l₀ l : List Value} {K : Frag} {name : Str} {id T idg : String} {b : Builtin} {bo : Obj} {pl : Sem Bool} {Q : Value × List Value → Shared → Prop}
    (hso : h.get? so = some { cls := .type "super", dict := none, data := .fields #[.ref D, .ref x, .ref C], slots := #[] }) (hno : Looks (model prog w) h (opaqueClassAbove (.ref C)) none)
    (hC : Looks (model prog w) h (mroOf (.ref C)) l₀) (hl : (l₀.dropWhile (· != .ref D)).drop 1 = l) (X : K.In h)
    (hf : alongIn K name l = some (some (.builtin id))) (ht : typeOf (.builtin id) = pure (.type T)) (hs : Slot T "__get__" idg) (he : entryFor table idg = some b) (ha : ∀ a b c, argsOk idg ⟨[a, b, c], []⟩)
    (hb : ∀ {t' : Nat} {A : Around} {E : Value → Shared → Prop} {P : Fin → Shared → Prop}, P (.done (.ret (.ref h.objs.size))) ⟨h.push bo, g, d, t', os⟩ → wpAny (model prog w) A (b ⟨[.builtin id, .ref x, .ref C], []⟩) P E ⟨h, g, d, t', os⟩)
    (hxC : x ≠ C) (hn : (name == ("__class__" : Str)) = false)
    (hq : Q (.ref h.objs.size, []) ⟨h.push bo, g, d, t + 1, os⟩) :
    wpAny (model prog w) A (getMethod (.ref so) name pl) Q E ⟨h, g, d, t, os⟩ := by
  have hlk := F.ks_slot_super_ga.lookup
  have hcan := F.ks_canon_super_ga
  have hT : ∀ t', (⟨h, g, d, t', os⟩ : Shared).TypeIs (.ref so) "super" := fun _ => ⟨_, hso, rfl⟩
  unfold getMethod
  refine wpAny_bind (wpAny_specialOf (hT _) hlk ?_)
  show wpAny _ _ (if (Manifest.canonical "super.__getattribute__" != "object.__getattribute__") = true then _ else _) _ _ _
  rw [if_pos hcan]
  unfold getAttr getAttrBy
  refine wpAny_bind (wpAny_bind (wpAny_mkText (wpAny_holding (wpAny_bind (wpAny_typeOf (hT _) (wpAny_bind (wpAny_of_eq hlk ?_)))))))
  show wpAny _ _ (getAttrByItsOwn (.ref so) (.str name t) (.type "super") (.builtin "super.__getattribute__") true false) _ _ _
  unfold getAttrByItsOwn hookBefore callGetattribute boundAndCalled
  refine wpAny_bind (wpAny_of_eq (show (if onTheHeap (.type "super") then typeLookup (.type "super") "__getattr__" else pure none) = pure none from rfl) ?_)
  refine wpAny_bind (wpAny_attempt (wpAny_holding ?_))
  show wpAny _ _ (bindSpecial (.builtin "super.__getattribute__") (.ref so) >>= _) _ _ _
  refine wpAny_bind (wpAny_of_eq (F.ks_slot_super_ga.bind _) ?_)
  refine wpAny_mono (Q := fun v s' => v = .ref h.objs.size ∧ s' = ⟨h.push bo, g, d, t + 1, os⟩) (E := fun _ _ => False)
    (wpAny_call_entry F.ks_slot_super_ga (hT _) F.ks_entry_super_ga (superB_ga hso hno hC hl X hf ht hs he ha hb hxC hn ⟨_, rfl, rfl, rfl⟩) (F.ks_gaArgs_super _ _)) (fun v s' hv => ?_) fun _ _ z => z.elim
  obtain ⟨rfl, rfl⟩ := hv
  exact wpAny_pure (wpAny_pure hq)
end

section
variable {prog : Program} {w : World} {A : Around} {E : Value → Shared → Prop} {s : Shared} {h₀ : Heap} {L : Addr} {m : Str → Option Value} {news news' : List (Addr × Obj)} {K : Frag} {x C D so : Addr} {ox : Obj} {odx : Option Obj} {name : Str} {pl : Sem Bool} {Q : Value × List Value → Shared → Prop}

theorem supB {id T idg : String} {b : Builtin} {bo : Obj} (F : Fr h₀ L s.heap m) (X₀ : K.In h₀) (N : News h₀ L s.heap news) (hso : (so, ks_superObj D x C) ∈ news) (I : InstAt s.heap x ox C odx) (ho : nsIn K cStatics "thirdparty.any" = some none)
    (hm : ks_superIn K C D name = some (some (.builtin id))) (ht : typeOf (.builtin id) = pure (.type T)) (hs : Slot T "__get__" idg) (he : entryFor table idg = some b) (ha : ∀ a b c, argsOk idg ⟨[a, b, c], []⟩)
    (hb : ∀ {t' : Nat} {A : Around} {E : Value → Shared → Prop} {P : Fin → Shared → Prop}, P (.done (.ret (.ref s.heap.objs.size))) ⟨s.heap.push bo, s.gens, s.drawn, t', s.os⟩ → wpAny (model prog w) A (b ⟨[.builtin id, .ref x, .ref C], []⟩) P E ⟨s.heap, s.gens, s.drawn, t', s.os⟩)
    (hbf : bo.isFreed = false) (hn : (name == ("__class__" : Str)) = false)
    (h : ∀ q h', Fr h₀ L h' m → News h₀ L h' ((q, bo) :: news) → (∀ p ∈ news, p.1 < q) → Q (.ref q, []) { s with heap := h', toks := s.toks + 1 }) : wpAny (model prog w) A (getMethod (.ref so) name pl) Q E s := by
  have X : K.In s.heap := X₀.keeps F.keep
  obtain ⟨hh, g, d, t, os⟩ := s
  cases hc : clsIn K C with
  | none => unfold ks_superIn at hm; rw [hc] at hm; cases hm
  | some cd =>
    unfold ks_superIn at hm
    rw [hc] at hm
    refine superB_method (N _ hso).1 (looks_opaque X ho) (l₀ := cd.mro) (fun A Q E s k q => wpAny_bind ((looks_clsIn X hc) A _ E s k (wpAny_pure q))) rfl X hm ht hs he ha hb (ks_ne X I hc) hn ?_
    obtain ⟨F', N', l'⟩ := ks_newsPush (s := ⟨hh, g, d, t, os⟩) (o := bo) F N rfl (Heap.get?_push_size _ hbf) (fun b o e => Heap.get?_push_of_some _ e)
    exact h _ _ F' N' l'

theorem supPop (F : Fr h₀ L s.heap m) (X₀ : K.In h₀) (N : News h₀ L s.heap news) (hso : (so, ks_superObj D x C) ∈ news) (I : InstAt s.heap x ox C odx) (ho : nsIn K cStatics "thirdparty.any" = some none) (hsub : subIn K (.ref C) (.type "list") = some true)
    (hm : ks_superIn K C D name = some (some (.builtin "list.pop"))) (hn : (name == ("__class__" : Str)) = false)
    (h : ∀ q h', Fr h₀ L h' m → News h₀ L h' ((q, bndO "builtin_function_or_method" "list.pop" x) :: news) → (∀ p ∈ news, p.1 < q) → Q (.ref q, []) { s with heap := h', toks := s.toks + 1 }) : wpAny (model prog w) A (getMethod (.ref so) name pl) Q E s :=
  supB F X₀ N hso I ho hm type_pop slot_mdg entry_mdg args_mdg (fun hq => run_mdg (acc_isi (X₀.keeps F.keep) I hsub) hq) rfl hn h
theorem supLen (F : Fr h₀ L s.heap m) (X₀ : K.In h₀) (N : News h₀ L s.heap news) (hso : (so, ks_superObj D x C) ∈ news) (I : InstAt s.heap x ox C odx) (ho : nsIn K cStatics "thirdparty.any" = some none) (hsub : subIn K (.ref C) (.type "list") = some true)
    (hm : ks_superIn K C D name = some (some (.builtin "list.__len__"))) (hn : (name == ("__class__" : Str)) = false)
    (h : ∀ q h', Fr h₀ L h' m → News h₀ L h' ((q, bndO "method-wrapper" "list.__len__" x) :: news) → (∀ p ∈ news, p.1 < q) → Q (.ref q, []) { s with heap := h', toks := s.toks + 1 }) : wpAny (model prog w) A (getMethod (.ref so) name pl) Q E s :=
  supB F X₀ N hso I ho hm type_len slot_wdg entry_wdg args_wdg (fun hq => run_wdg (acc_isi (X₀.keeps F.keep) I hsub) (.inl rfl) hq) rfl hn h
theorem supInit (F : Fr h₀ L s.heap m) (X₀ : K.In h₀) (N : News h₀ L s.heap news) (hso : (so, ks_superObj D x C) ∈ news) (I : InstAt s.heap x ox C odx) (ho : nsIn K cStatics "thirdparty.any" = some none) (hsub : subIn K (.ref C) (.type "list") = some true)
    (hm : ks_superIn K C D name = some (some (.builtin "list.__init__"))) (hn : (name == ("__class__" : Str)) = false)
    (h : ∀ q h', Fr h₀ L h' m → News h₀ L h' ((q, bndO "method-wrapper" "list.__init__" x) :: news) → (∀ p ∈ news, p.1 < q) → Q (.ref q, []) { s with heap := h', toks := s.toks + 1 }) : wpAny (model prog w) A (getMethod (.ref so) name pl) Q E s :=
  supB F X₀ N hso I ho hm type_init slot_wdg entry_wdg args_wdg (fun hq => run_wdg (acc_isi (X₀.keeps F.keep) I hsub) (.inr rfl) hq) rfl hn h
end

section
variable {prog : Program} {w : World} {A : Around} {E : Value → Shared → Prop} {s : Shared} {h₀ : Heap} {L : Addr} {m : Str → Option Value} {news news' : List (Addr × Obj)} {news'' : Nat → List (Addr × Obj)} {K : Frag} {x C q : Addr} {odx : Option Obj} {dx : Addr} {its : Array Value} {n : Nat} {sl : Array (Option Value)} {Q : Value → Shared → Prop}

theorem callWith_b0 {T id : String} {pos : Pos} {env : Env} (hT : T = "builtin_function_or_method" ∨ T = "method-wrapper") (N : News h₀ L s.heap news) (hm : (q, bndO T id x) ∈ news) (h : wpAny (model prog w) A (call (.ref q) []) Q E s) :
    wpAny (model prog w) A (callWith pos (.ref q) [] (backTo pos (starEach [] env)) []) Q E s := by
  unfold callWith
  refine wpAny_bind (wpAny_holding (evalArgs_nil3 (wpAny_bind (wpAny_standAt ?_))))
  refine wpAny_bind (m := keeperOf (.ref q)) ?_
  unfold keeperOf
  refine wpAny_bind (wpAny_load (N _ hm).1 ?_)
  have fin : wpAny (model prog w) A (do let r ← call (.ref q) []; holding [r] point; pure r) Q E s :=
    wpAny_bind (wpAny_mono h (fun r s₂ hr => wpAny_bind (wpAny_holding (wpAny_point (wpAny_pure hr)))) fun _ _ x => x)
  rcases hT with rfl | rfl
  · exact wpAny_pure fin
  · exact wpAny_pure fin

theorem call_b {T id : String} {b : Builtin} (hT : T = "builtin_function_or_method" ∨ T = "method-wrapper") (N : News h₀ L s.heap news) (hm : (q, bndO T id x) ∈ news) (hck : ∀ (A : Around) (Q' : Unit → Shared → Prop) E', Q' () s → wpAny (model prog w) A (checkBoundCall id ⟨[.ref x], []⟩) Q' E' s)
    (hp : plainId id = true) (he : entryFor table id = some b) (hrun : ∀ A : Around, wpAny (model prog w) A (b ⟨[.ref x], []⟩) (fun fin s' => ∃ v, fin = .done (.ret v) ∧ Q v s') E s) : wpAny (model prog w) A (call (.ref q) []) Q E s := by
  refine wpAny_call (codeAny_of_tree ?_)
  show wpAny _ A.in1 (callAny (.ref q) ⟨[], []⟩) _ _ s
  simp only [callAny]
  refine wpAny_bind (wpAny_load (N _ hm).1 ?_)
  have fin : wpAny (model prog w) A.in1 (do checkBoundCall id ⟨[.ref x], []⟩; again (.builtin id ⟨[.ref x], []⟩)) (fun fin s' => match fin with
      | .done f => (match (Except.ok f : Result) with | .ok (.ret v) => Q v s' | .ok _ => False | .error e => E e s')
      | .again c' => c'.quiet = true ∧ codeAny (model prog w) A c' (fun r s' => match r with | .ok (.ret v) => Q v s' | .ok _ => False | .error e => E e s') s') E s := by
    refine wpAny_bind (hck _ _ _ (wpAny_pure ⟨plainId_quiet hp _, codeAny_builtin he (wpAny_mono (hrun _) (fun fin s' h' => ?_) fun _ _ z => z)⟩))
    obtain ⟨v, rfl, hv⟩ := h'
    exact hv
  rcases hT with rfl | rfl
  · dsimp only
    rw [if_pos (by decide)]
    show wpAny _ _ (if (Value.type "builtin_function_or_method" != Value.type "method") = true then _ else _) _ _ _
    rw [if_pos (by decide)]
    exact fin
  · dsimp only
    rw [if_pos (by decide)]
    show wpAny _ _ (if (Value.type "method-wrapper" != Value.type "method") = true then _ else _) _ _ _
    rw [if_pos (by decide)]
    exact fin

theorem chk_len {x : Addr} : checkBoundCall "list.__len__" ⟨[.ref x], []⟩ = pure () := by first | kernel_rfl | rfl
theorem chk_init {x : Addr} : checkBoundCall "list.__init__" ⟨[.ref x], []⟩ = pure () := by first | kernel_rfl | rfl
noncomputable def sgPop : Manifest.Signature := match Manifest.signature? "list.pop" with
  | some sg => sg
  | none => ⟨.constructor, "", "", .none, []⟩
theorem sig_pop : Manifest.signature? "list.pop" = some sgPop := by kernel_rfl
theorem chk_pop {x : Addr} : Bind.checkArgs "list.pop" { sgPop with full := s!"{(Str.ofString "_Accumulator").toString}.{Bind.lastOf "list.pop"}" } ⟨[.ref x], []⟩ = (pure () : Sem Unit) := by kernel_rfl
theorem kind_pop : builtinKind "list.pop" = some .method := by kernel_rfl
theorem va_pop : Manifest.varargsMethods.contains "list.pop" = false := by decide +kernel

theorem lenB (N : News h₀ L s.heap news) (hm : (q, bndO "method-wrapper" "list.__len__" x) ∈ news) (I : InstAt s.heap x ⟨.ref C, some dx, .seq its n, sl⟩ C odx) (h : Q (.int its.size s.toks) { s with toks := s.toks + 1 }) :
    wpAny (model prog w) A (call (.ref q) []) Q E s :=
  call_b (.inr rfl) N hm (fun _ _ _ q => wpAny_of_eq chk_len q) (by decide +kernel) PySem.F.entry_list_len fun _ => len_core I h

theorem initB (F : Fr h₀ L s.heap m) (N : News h₀ L s.heap news) (hm : (q, bndO "method-wrapper" "list.__init__" x) ∈ news) (I : InstAt s.heap x ⟨.ref C, some dx, .seq #[] n, sl⟩ C odx)
    (U : ∀ n', Upd x ⟨.ref C, some dx, .seq #[] n, sl⟩ ⟨.ref C, some dx, .seq #[] n', sl⟩ news (news'' n'))
    (h : ∀ h' n', Fr h₀ L h' m → News h₀ L h' (news'' n') → Q .none { s with heap := h' }) :
    wpAny (model prog w) A (call (.ref q) []) Q E s := by
  refine call_b (.inr rfl) N hm (fun _ _ _ q => wpAny_of_eq chk_init q) (by decide +kernel) PySem.F.entry_list_init fun _ => init_core I fun h' n' hs ho' => ?_
  obtain ⟨pre, post, e1, e2, a, b⟩ := (U n').split
  subst e1
  have z := N (x, _) (List.mem_append.mpr (.inr (.head _)))
  exact h h' n' (F.change hs z.2.1 z.2.2) (e2 ▸ news_set N a b hs ho')

theorem popB {y : Value} (F : Fr h₀ L s.heap m) (X₀ : K.In h₀) (N : News h₀ L s.heap news) (hm : (q, bndO "builtin_function_or_method" "list.pop" x) ∈ news) (I : InstAt s.heap x ⟨.ref C, some dx, .seq its n, sl⟩ C odx)
    (hnm : subIn K (.ref C) (.type "module") = some false) (hcd : (clsIn K C).map (·.qualname) = some (Str.ofString "_Accumulator")) (htc : typeIn K (.ref C) = some (.type "type"))
    (hy : its[its.size - 1]? = some y)
    (U : ∀ n', Upd x ⟨.ref C, some dx, .seq its n, sl⟩ ⟨.ref C, some dx, .seq its.pop n', sl⟩ news (news'' n'))
    (h : ∀ h' n', Fr h₀ L h' m → News h₀ L h' (news'' n') → Q y { s with heap := h' }) (hsz : its.size ≤ sizeLine) :
    wpAny (model prog w) A (call (.ref q) []) Q E s := by
  have X := X₀.keeps F.keep
  refine call_b (.inl rfl) N hm (fun A Q' E' hq => ?_) (by decide +kernel) PySem.F.entry_list_pop fun _ => pop_core I hy (fun h' n' hs ho' => ?_) hsz
  · unfold checkBoundCall
    have L0 := I.type (M := model prog w)
    rw [sig_pop, kind_pop]
    dsimp only
    rw [if_neg (by decide)]
    have HM : Looks (model prog w) s.heap (isInstance (.ref x) (.type "module")) false := I.type.andThen (looks_subIn X hnm)
    refine wpAny_bind (HM.here ?_)
    rw [va_pop]
    simp only [Bool.or_self, Bool.false_eq_true, if_false]
    have HT : Looks (model prog w) s.heap (isType (.ref x)) false := by
      intro A Q E s' k q
      exact ks_wpAny_isType_inst (k _ _ I.at_) (fun c e => by cases e) q
    refine wpAny_bind (m := isType (.ref x)) (HT.here ?_)
    simp only [Bool.false_eq_true, if_false]
    refine wpAny_bind (m := typeOf (.ref x)) (L0.here ?_)
    dsimp only
    cases hc : clsIn K C with
    | none => rw [hc] at hcd; cases hcd
    | some cd =>
      rw [hc] at hcd
      have hqn : cd.qualname = Str.ofString "_Accumulator" := Option.some.inj hcd
      refine wpAny_bind ((looks_clsIn X hc).here ?_)
      refine wpAny_bind ((looks_typeIn X htc).here ?_)
      rw [if_pos (by decide), hqn]
      exact wpAny_of_eq chk_pop hq
  · obtain ⟨pre, post, e1, e2, a, b⟩ := (U n').split
    subst e1
    have z := N (x, _) (List.mem_append.mpr (.inr (.head _)))
    exact h h' n' (F.change hs z.2.1 z.2.2) (e2 ▸ news_set N a b hs ho')
end
end Mine

end

section
open PySem PySem.W PyProof.Rows PySem.Calls
set_option Elab.async false
set_option maxRecDepth 100000
set_option maxHeartbeats 4000000
namespace Mine
theorem bounds_from {i n : Nat} (h : i ≤ n) : sliceBounds (some (i : Int)) none none n = ((i : Int), (n : Int), 1) := by
  simp only [sliceBounds, Option.getD_none, show (1 : Int) > 0 by decide, if_true]
  congr 1
  split <;> lia
theorem bounds_all {n : Nat} : sliceBounds none none none n = (((0 : Nat) : Int), (n : Int), 1) := by
  simp only [sliceBounds, Option.getD_none, show (1 : Int) > 0 by decide, if_true]; rfl
section
variable {prog : Program} {w : World} {A : Around} {E : Value → Shared → Prop} {s : Shared} {h₀ : Heap} {L : Addr} {m : Str → Option Value} {news : List (Addr × Obj)} {news'' : Nat → List (Addr × Obj)} {K : Frag} {x C : Addr} {dx : Addr} {dO : Obj} {its : List Value} {n : Nat} {sl : Array (Option Value)}

theorem subFrom {value : Expr} {loE hiE : Option Expr} {p : Pos} {i : Nat} {ti : Tok} {Q : Value → Shared → Prop} (F : Fr h₀ L s.heap m) (X₀ : K.In h₀) (N : News h₀ L s.heap news) (hx : (x, (⟨.ref C, some dx, .seq its.toArray n, sl⟩ : Obj)) ∈ news) (hd : (dx, dO) ∈ news)
    (hsub : subIn K (.ref C) (.type "list") = some true) (hq : noSeq K C = true) (hf : findIn K (.ref C) "__getitem__" = some (some (.builtin "list.__getitem__"))) (hi : i ≤ its.length) (hsz : its.length ≤ 200)
    (ht : ∀ r, letTemporaryGo value (.ref x) r = pure ())
    (h : ∀ D h', Fr h₀ L h' m → News h₀ L h' ((D, listOf (its.drop i).toArray 0) :: news) → (∀ p ∈ news, p.1 < D) → Q (.ref D) { s with heap := h' }) :
    wpAny (model prog w) A (subscriptTail value (.Slice loE hiE none p) (.ref x) (.ref s.heap.objs.size)) Q E { s with heap := s.heap.push { cls := .type "slice", data := .fields #[.int i ti, .none, .none] } } := by
  have k₁ : ∀ b o, s.heap.get? b = some o → (s.heap.push { cls := .type "slice", data := .fields #[.int i ti, .none, .none] }).get? b = some o := fun b o e => Heap.get?_push_of_some _ e
  have X := (X₀.keeps F.keep).keeps k₁
  have I : InstAt (s.heap.push { cls := .type "slice", data := .fields #[.int i ti, .none, .none] }) x ⟨.ref C, some dx, .seq its.toArray n, sl⟩ C (some dO) := ⟨k₁ _ _ (N _ hx).1, rfl, rfl, k₁ _ _ (N _ hd).1⟩
  unfold subscriptTail
  refine wpAny_bind ?_
  unfold getitemInPython specialOf
  refine wpAny_bind (wpAny_bind ((I.type (M := model prog w)).here ((looks_findIn X hf).here (wpAny_pure ?_))))
  show wpAny _ _ (operate _ (getItem (.ref x) (.ref s.heap.objs.size)) >>= _) _ _ _
  refine wpAny_bind (wpAny_operateT ?_)
  have hs : (s.heap.push { cls := .type "slice", data := .fields #[.int i ti, .none, .none] }).IsSliceOf s.heap.objs.size (.int i ti) .none .none := ⟨_, Heap.get?_push_size _ rfl, rfl, rfl⟩
  have hz : its.toArray.size ≤ sizeLine := by
    have : 200 ≤ sizeLine := by decide
    rw [List.size_toArray]; lia
  have hp : slicePick its.toArray (some (i : Int)) none none = (its.drop i).toArray := by
    rw [kmk_pick_nat its.toArray (a := i) (b := its.length) (by rw [List.size_toArray]; exact bounds_from hi)]
    rw [show its.toArray.toList = its from rfl, List.take_of_length_le (by rw [List.length_drop]; exact Nat.le_refl _)]
  refine acc_getSlice X I hsub hq hf hs (.int _ _) .none .none (by decide) ?_ hz
  rw [hp]
  refine wpAny_bind (wpAny_of_eq (ht _) (wpAny_pure ?_))
  have F₁ := F.push (o := { cls := .type "slice", data := .fields #[.int i ti, .none, .none] })
  have N₁ : News h₀ L (s.heap.push { cls := .type "slice", data := .fields #[.int i ti, .none, .none] }) news := fun p hp => ⟨k₁ _ _ (N p hp).1, (N p hp).2⟩
  exact h _ _ (F₁.push _) (News.push F₁ N₁ _ rfl) fun p hp => Nat.lt_of_lt_of_le (Heap.lt_size (N p hp).1) (by rw [Heap.size_push]; exact Nat.le_succ _)

theorem setSl {vl : Value} {lo : Option Int} {a : Nat} {l : Addr} {ys : List Value} {nl : Nat} {Q : Unit → Shared → Prop} (F : Fr h₀ L s.heap m) (X₀ : K.In h₀) (N : News h₀ L s.heap news) (hx : (x, (⟨.ref C, some dx, .seq its.toArray n, sl⟩ : Obj)) ∈ news) (hd : (dx, dO) ∈ news) (hl : (l, listOf ys.toArray nl) ∈ news)
    (hsub : subIn K (.ref C) (.type "list") = some true) (hq : noSeq K C = true) (hf : findIn K (.ref C) "__setitem__" = some (some (.builtin "list.__setitem__"))) (pl : IsPart vl lo) (hb : sliceBounds lo none none its.length = ((a : Int), (its.length : Int), 1)) (ha : a ≤ its.length)
    (U : ∀ n', Upd x ⟨.ref C, some dx, .seq its.toArray n, sl⟩ ⟨.ref C, some dx, .seq (its.take a ++ ys).toArray n', sl⟩ news (news'' n'))
    (h : ∀ h' n', Fr h₀ L h' m → News h₀ L h' (news'' n') → Q () { s with heap := h' }) (hsz : its.length + ys.length ≤ 600) :
    wpAny (model prog w) A (setItem (.ref x) (.ref s.heap.objs.size) (.ref l)) Q E { s with heap := s.heap.push { cls := .type "slice", data := .fields #[vl, .none, .none] } } := by
  have k₁ : ∀ b o, s.heap.get? b = some o → (s.heap.push { cls := .type "slice", data := .fields #[vl, .none, .none] }).get? b = some o := fun b o e => Heap.get?_push_of_some _ e
  have X := (X₀.keeps F.keep).keeps k₁
  have I : InstAt (s.heap.push { cls := .type "slice", data := .fields #[vl, .none, .none] }) x ⟨.ref C, some dx, .seq its.toArray n, sl⟩ C (some dO) := ⟨k₁ _ _ (N _ hx).1, rfl, rfl, k₁ _ _ (N _ hd).1⟩
  have hs : (s.heap.push { cls := .type "slice", data := .fields #[vl, .none, .none] }).IsSliceOf s.heap.objs.size vl .none .none := ⟨_, Heap.get?_push_size _ rfl, rfl, rfl⟩
  have F₁ := F.push (o := { cls := .type "slice", data := .fields #[vl, .none, .none] })
  have N₁ : News h₀ L (s.heap.push { cls := .type "slice", data := .fields #[vl, .none, .none] }) news := fun p hp => ⟨k₁ _ _ (N p hp).1, (N p hp).2⟩
  have hlx : l ≠ x := fun e => by
    have h1 := (N _ hl).1
    rw [e, (N _ hx).1] at h1
    cases h1
  have hz : its.toArray.size + ys.toArray.size ≤ sizeLine := by
    have : 600 ≤ sizeLine := by decide
    rw [List.size_toArray, List.size_toArray]; lia
  have hc : (its.toArray.extract 0 (a : Int).toNat ++ ys.toArray ++ its.toArray.extract (max (a : Int) (its.length : Int)).toNat its.length) = (its.take a ++ ys).toArray := by
    have h1 : (max (a : Int) (its.length : Int)).toNat = its.length := by lia
    rw [h1, Int.toNat_natCast]
    apply Array.ext'
    simp
  refine acc_setSlice X I hsub hq hf hs pl .none (k₁ _ _ (N _ hl).1) hlx (fun h' n' hsb ho' => ?_) hz
  rw [List.size_toArray, hb] at ho'
  dsimp only at ho'
  rw [hc] at ho'
  obtain ⟨pre, post, e1, e2, a1, b1⟩ := (U n').split
  subst e1
  have z := N (x, _) (List.mem_append.mpr (.inr (.head _)))
  exact h h' n' (F₁.change hsb z.2.1 z.2.2) (e2 ▸ news_set N₁ a1 b1 hsb ho')
end
end Mine

end

section
open PySem PySem.W PyProof.Rows PySem.Calls
set_option Elab.async false
set_option maxRecDepth 100000
set_option maxHeartbeats 4000000
namespace Mine
noncomputable def overList (K : Frag) (C : Addr) : Bool := match clsIn K C with
  | some cd => (match cd.mro with
    | [.ref _, .type n, .type o] => n == "list" && o == "object" && cd.hasDict
    | _ => false)
  | none => false
theorem refuse_list2 (self : Value) : refuseLoop self "__setattr__" [.type "list", .type "object"] = pure () := by
  first | rfl | kernel_rfl | with_unfolding_all rfl
section
variable {prog : Program} {w : World} {A : Around} {E : Value → Shared → Prop} {s : Shared} {h₀ : Heap} {L : Addr} {m : Str → Option Value} {news news' : List (Addr × Obj)} {K : Frag} {x C : Addr} {ox : Obj} {dx : Addr} {es es' : List DictEntry} {n n' : Nat} {v : Value} {name : Str} {R : Result → Shared → Prop}

theorem osaL {od od' : Obj} {tk : Tok} {pre post : List (Addr × Obj)} (F : Fr h₀ L s.heap m) (N : News h₀ L s.heap (pre ++ (dx, od) :: post)) (X : K.In s.heap)
    (I : InstAt s.heap x ox C (some od)) (hd : ox.dict = some dx) (hp : overList K C = true) (ha : findIn K (.ref C) name = some none)
    (hl : (lookIn name od).isSome = true) (h1 : ∀ p ∈ pre, p.1 ≠ dx) (h2 : ∀ p ∈ post, p.1 ≠ dx)
    (e : Obj.putName name (PyData.keyHash w.params name) (.str name s.toks) v od = od') (e' : od'.data = .dict es.toArray n) (hz : es.length ≤ 1000)
    (h : ∀ h', Fr h₀ L h' m → News h₀ L h' (pre ++ (dx, od') :: post) → R (.ok (.ret .none)) { s with heap := h', toks := s.toks + 1 }) :
    codeAny (model prog w) A (.call (.builtin "object.__setattr__") ⟨[.ref x, .str name tk, v], []⟩) R s := by
  have SF := PySem.F.store_object
  cases hc : clsIn K C with
  | none => unfold overList at hp; rw [hc] at hp; cases hp
  | some cd =>
    unfold overList at hp
    rw [hc] at hp
    dsimp only at hp
    split at hp
    · rename_i C' nl no hmro
      simp only [Bool.and_eq_true, beq_iff_eq] at hp
      obtain ⟨⟨rfl, rfl⟩, hdict⟩ := hp
      have sub : Looks (model prog w) s.heap (isInstance (.ref x) (.type "object")) true := I.type.andThen (looks_mroIn X (by unfold mroIn; rw [hc, Option.bind_some, hmro, if_neg (by simp)]; simp))
      refine codeAny_call_builtin SF.slot.plain SF.entry (@check_slot (model prog w) _ _ s "object.__setattr__" "object" "__setattr__" (.ref x) [.str name tk, v] [] _ SF.kind SF.split sub (SF.args (.ref x) (.str name tk) v) ?_)
      have hm : Looks (model prog w) s.heap (mroOf (.ref C)) cd.mro := (looks_clsIn X hc).andThen .now
      rw [osa_eq, refuse_eq]
      refine wpAny_bind (wpAny_bind (I.type.here (wpAny_bind (hm.here ?_))))
      rw [hmro, refuseLoop_ref, refuse_list2]
      refine wpAny_pure (wpAny_bind (I.type.here (wpAny_bind ((looks_findIn X ha).here (wpAny_bind (wpAny_pure ?_))))))
      obtain ⟨U1, U2⟩ := news_upd (f := Obj.putName name (PyData.keyHash w.params name) (.str name s.toks) v) F N h1 h2 e (by obtain ⟨_, _, dd, _⟩ := od'; cases e'; rfl)
      have D := (N (dx, od) (by simp)).1
      have D' := (U2 (dx, od') (by simp)).1
      obtain ⟨hx, hcl, hn, -⟩ := I
      obtain ⟨oc, odi, oda, osl⟩ := ox
      dsimp only at hcl hd
      subst hcl hd
      refine wpAny_bind (wpAny_pure (wpAny_bind (wpAny_bind (wpAny_loadPart hx (wpAny_bind ((looks_clsIn X hc).here ?_))))))
      rw [hdict]
      refine wpAny_pure (a := some dx) (wpAny_bind (wpAny_pure (wpAny_bind ?_)))
      unfold nsSet
      refine wpAny_bind (wpAny_bind (wpAny_askSetting (wpAny_pure (wpAny_bind (wpAny_mkText (wpAny_bind (wpAny_loadPart D ?_)))))))
      unfold lookIn at hl
      split at hl
      · rename_i es₀ n₀ q
        rw [q]
        dsimp only
        have c : (!es₀.any (·.key.isStr name) && es₀.any (·.refKey)) = false := by
          rw [← Array.any_toList, ← Array.any_toList]
          split at hl
          · rename_i en he
            rw [List.any_eq_true.mpr ⟨en, List.mem_of_find?_eq_some he, List.find?_some he⟩]; rfl
          · split at hl
            · cases hl
            · rename_i z; rw [Bool.not_eq_true] at z; rw [z, Bool.and_false]
        rw [aRefKeyMayBeTheName_at, c]
        refine wpAny_updatePart D ?_
        refine wpAny_bind (wpAny_lookBehind D' (by rw [e']; exact pastItsLine_dict (by rw [List.size_toArray, sizeLine_eq]; lia)) ?_)
        exact wpAny_pure (h _ U1 U2)
      · cases hl
    · cases hp

theorem setL {Q : Unit → Shared → Prop} (F : Fr h₀ L s.heap m) (X₀ : K.In h₀) (N : News h₀ L s.heap news) (I : InstAt s.heap x ox C (some (dictOf es n))) (hd : ox.dict = some dx)
    (hs : findIn K (.ref C) "__setattr__" = some (some (.builtin "object.__setattr__"))) (hp : overList K C = true) (ha : findIn K (.ref C) name = some none) (hl : (getL name es).isSome = true)
    (e : (putL name (PyData.keyHash w.params name) (.str name (s.toks + 1)) v es, putN name es n) = (es', n')) (U : Upd dx (dictOf es n) (dictOf es' n') news news') (hz : es'.length ≤ 1000)
    (h : ∀ h', Fr h₀ L h' m → News h₀ L h' news' → Q () { s with heap := h', toks := s.toks + 2 }) :
    wpAny (model prog w) A (setAttr (.ref x) name v) Q E s := by
  obtain ⟨pre, post, rfl, rfl, a, b⟩ := U.split
  obtain ⟨e1, e2⟩ := Prod.mk.inj e
  exact set_plain (X₀.keeps F.keep) I hs (osaL (s := { s with toks := s.toks + 1 }) F N (X₀.keeps F.keep) I hd hp ha (by rw [lookIn_dict]; exact hl) a b (by rw [putName_dict, e1, e2]) rfl hz fun h' F' N' => h h' F' N')
end
end Mine

end

section
open PySem PySem.W PyProof.Rows PySem.Calls
set_option Elab.async false
set_option maxRecDepth 100000
set_option maxHeartbeats 4000000
namespace Mine
section
variable {prog : Program} {w : World} {A : Around} {E : Value → Shared → Prop} {s : Shared} {h₀ : Heap} {L : Addr} {m : Str → Option Value} {K : Frag} {x C f : Addr} {ox : Obj} {od : Option Obj}
def TruBack (Q : Bool → Shared → Prop) (v : Value) (s' : Shared) : Prop := match v with
  | .int n _ => (0 ≤ n ∧ n < 2 ^ 63) ∧ Q (n != 0) { s' with toks := s'.toks + 1 }
  | _ => False
theorem truthy_len {Q : Bool → Shared → Prop} (F : Fr h₀ L s.heap m) (X₀ : K.In h₀) (I : InstAt s.heap x ox C od) (hb : findIn K (.ref C) "__bool__" = some none) (hs : findIn K (.ref C) "__len__" = some (some (.ref f))) (hf : isFn K (.ref f) = true)
    (h : wpAny (model prog w) A.in1 (call (.ref f) [.ref x]) (TruBack Q) E s) : wpAny (model prog w) A (truthy (.ref x)) Q E s := by
  have X := X₀.keeps F.keep
  unfold truthy
  refine wpAny_bind (m := callSpecial? (.ref x) (Str.ofString "__bool__")) (wpAny_bind (wpAny_bind (I.type.here ((looks_findIn X hb).here (wpAny_pure ?_)))))
  refine wpAny_bind (wpAny_bind (I.type.here ((looks_findIn X hs).here ?_)))
  simp only [Option.isNone_some, Bool.false_eq_true, if_false]
  refine wpAny_bind (wpAny_runValue (codeAny_builtin entry_len ?_))
  rw [Around.under_plainId plain_len _]
  unfold Builtin.«len»
  refine wpAny_bind (m := oneArg "len" _) (wpAny_pure ?_)
  refine wpAny_bind (m := callSpecial? (.ref x) (Str.ofString "__len__")) (special_fn X I hs (beq_iff_eq.mp hf) (wpAny_mono h (fun r s' hr => ?_) fun _ _ y => y))
  cases r <;> first | exact hr.elim | skip
  rename_i n u
  obtain ⟨⟨h0, h1⟩, hq⟩ := hr
  refine wpAny_bind (wpAny_holding (wpAny_pure ?_))
  refine wpAny_bind (wpAny_letGo ?_)
  show wpAny _ _ (if n < 0 then _ else _) _ _ _
  rw [if_neg (by lia)]
  show wpAny _ _ (if n ≥ 2 ^ 63 then _ else _) _ _ _
  rw [if_neg (by lia)]
  exact wpAny_bind (wpAny_mkInt (wpAny_pure (wpAny_pure hq)))
end
end Mine

end

section
open PySem PySem.W PyProof.Rows PySem.Calls
set_option Elab.async false
set_option maxRecDepth 100000
set_option maxHeartbeats 4000000
namespace Mine
section
variable {prog : Program} {w : World} {A : Around} {E : Value → Shared → Prop} {s : Shared} {h₀ : Heap} {L : Addr} {m : Str → Option Value} {news : List (Addr × Obj)} {K : Frag} {x C f : Addr} {ox : Obj} {es : List DictEntry} {nd : Nat} {name : Str}
theorem findObj_bind {od : Option Obj} {g a : Value} (hh : (clsIn K C).isSome = true) (ha : findIn K (.ref C) name = some (some a)) (hg : specialIn K a "__get__" = some (some g)) (ht : takesIn K a = some false) (ho : ∀ cd, clsIn K C = some cd → W.ownOf cd od name = some none) (hc : copiedNames.contains name = false) :
    findObj K C od name = some (.bind g a) := by
  cases h : clsIn K C with
  | none => rw [h] at hh; cases hh
  | some cd =>
    unfold findObj
    rw [h, Option.bind_some, ha, Option.bind_some]
    dsimp only
    rw [hg, Option.bind_some]
    dsimp only
    rw [ht, Option.bind_some]
    dsimp only
    rw [ho cd h, Option.bind_some]
    dsimp only
    rw [hc]
    simp

theorem ownOf_none {cd : ClassData} (hl : getL name es = some none) : W.ownOf cd (some (dictOf es nd)) name = some none := by
  unfold W.ownOf
  dsimp only
  rw [lookIn_dict, hl]
  split <;> rfl

theorem get_accM {expr : Bool} {Q : Value → Shared → Prop} (F : Fr h₀ L s.heap m) (X₀ : K.In h₀) (N : News h₀ L s.heap news) (I : InstAt s.heap x ox C (some (dictOf es nd))) (hga : findIn K (.ref C) "__getattribute__" = some (some (.builtin "list.__getattribute__"))) (hk : findIn K (.ref C) "__getattr__" = some none) (hsub : subIn K (.ref C) (.type "list") = some true)
    (hf : findObj K C (some (dictOf es nd)) name = some (.bind (.builtin "function.__get__") (.ref f))) (htf : typeIn K (.ref f) = some (.type "function"))
    (h : ∀ q h', Fr h₀ L h' m → News h₀ L h' ((q, methodObj (.ref f) (.ref x)) :: news) → (∀ p ∈ news, p.1 < q) → Q (.ref q) { s with heap := h', toks := s.toks + 1 }) :
    wpAny (model prog w) A (getAttr (.ref x) name expr) Q E s := by
  have X := X₀.keeps F.keep
  obtain ⟨hp, g, d, t, os⟩ := s
  have L0 := I.type (M := model prog w)
  have L1 := looks_findIn (M := model prog w) X hga
  have L2 := looks_findIn (M := model prog w) X hk
  have L3 := looks_find (M := model prog w) X I hf
  unfold getAttr getAttrBy
  refine wpAny_bind (wpAny_mkText (wpAny_holding (wpAny_bind (L0.at (wpAny_bind (L1.at ?_))))))
  dsimp only
  rw [show (Value.builtin "list.__getattribute__" == Value.builtin "object.__getattribute__") = false from by decide, Bool.and_false, if_neg Bool.false_ne_true]
  unfold getAttrByItsOwn hookBefore
  rw [if_pos (show onTheHeap (.ref C) = true from rfl)]
  refine wpAny_bind (L2.at ?_)
  refine wpAny_bind (wpAny_attempt (wpAny_holding ?_))
  unfold callGetattribute
  rw [if_neg (by rw [show onTheHeap (.builtin "list.__getattribute__") = false from rfl, Bool.and_false]; exact Bool.false_ne_true)]
  unfold boundAndCalled
  rw [PySem.F.slot_list_getattribute.bind]
  refine wpAny_bind (wpAny_pure ?_)
  refine call_sub (.inr (by decide +kernel)) (n := "__getattribute__") (by decide +kernel) (acc_isi (s := ⟨hp, g, d, t + 1, os⟩) X I hsub) PySem.F.entry_list_ga (by decide +kernel) ?_ (PySem.F.args_list_getattribute_2 _ _)
  refine wpAny_bind (wpAny_pure (wpAny_bind (wpAny_pure (wpAny_bind (L0.at (wpAny_bind (L3.at ?_)))))))
  show wpAny _ _ (Builtin.ObjectAttr.bindTo (.builtin "function.__get__") (.ref f) (.ref x) (.ref C)) _ _ _
  unfold Builtin.ObjectAttr.bindTo
  have fin := fun (h' : Heap) F' N' l' => h hp.objs.size h' F' N' l'
  have key : ∀ (A : Around) (E : Value → Shared → Prop), wpAny (model prog w) A (call (.builtin "function.__get__") [.ref f, .ref x, .ref C]) (fun v s' => v = .ref hp.objs.size ∧ s' = ⟨hp.push (methodObj (.ref f) (.ref x)), g, d, t + 1, os⟩) E ⟨hp, g, d, t + 1, os⟩ := fun A E => wpAny_call (fn_get (s := ⟨hp, g, d, t + 1, os⟩) X htf ⟨rfl, rfl⟩)
  show wpAny _ _ (holding [Value.ref f] (call (.builtin "function.__get__") [.ref f, .ref x, .ref C]) >>= fun r => ret r) _ _ _
  refine wpAny_bind (wpAny_holding (wpAny_mono (key _ _) (fun v s' hv => ?_) fun _ _ e => e))
  obtain ⟨rfl, rfl⟩ := hv
  refine wpAny_pure ⟨_, rfl, ?_⟩
  show wpAny _ _ (handedOut _) _ _ _
  rw [handedOut_of rfl]
  obtain ⟨F', N', l'⟩ := ks_newsPush (s := ⟨hp, g, d, t, os⟩) (o := methodObj (.ref f) (.ref x)) F N rfl (Heap.get?_push_size _ rfl) (fun b o e => Heap.get?_push_of_some _ e)
  exact wpAny_pure (fin _ F' N' l')

/-- a call by a method of its own with the items of a tuple -/
theorem star_call {env : Env} {o e : Expr} {name : Str} {apos sp pos : Pos} {Q : Value → Shared → Prop} (hbase : attributeBase o name env (eval o env) = eval o env)
    (hpos : methodCallPos false o env apos pos = pure pos) (hfn : fnIn K f = true)
    (h : wpAny (model prog w) A (eval o env) (fun ov s₁ => wpAny (model prog w) A (getAttr ov name true) (fun mv s₂ => ∃ q, mv = .ref q ∧ wpAny (model prog w) A (eval e env) (fun tv s₃ => StarOf (model prog w) A E tv (fun vs s₄ => s₄.heap.get? q = some (methodObj (.ref f) (.ref x)) ∧ K.In s₄.heap ∧ codeAny (model prog w) A (.call (.ref f) ⟨.ref x :: vs, []⟩) (fun r s' => match r with | .ok (.ret v) => Q v s' | .ok _ => False | .error e => E e s') s₄) s₃) E s₂) E s₁) E s) :
    wpAny (model prog w) A (eval (.Call (.Attribute o name apos) [.Starred e sp] [] pos) env) Q E s := by
  obtain ⟨oc, od, fd, osl, hfn⟩ : ∃ oc od fd osl, K.lookup f = some ⟨oc, od, .func fd, osl⟩ := by
    unfold fnIn at hfn
    split at hfn
    · rename_i oc od fd osl h; exact ⟨oc, od, fd, osl, h⟩
    · cases hfn
  rw [arm_eval_Call, hbase]
  refine wpAny_bind (wpAny_mono h (fun ov s₁ h₁ => ?_) fun _ _ e => e)
  refine wpAny_bind (wpAny_standAt ?_)
  have hform : methodCallForm (([.Starred e sp] : List Expr).length + ([] : List Keyword).length) (backTo pos (starEach [.Starred e sp] env)) (backToKw pos (keywordEach [] env)) = false := rfl
  unfold methodCall
  rw [hform]
  unfold calleeOf
  simp only [Bool.false_eq_true, if_false]
  refine wpAny_bind (wpAny_holding (wpAny_bind (wpAny_mono h₁ (fun mv s₂ h₂ => ?_) fun _ _ e => e)))
  obtain ⟨q, rfl, h₂⟩ := h₂
  refine wpAny_pure ?_
  refine wpAny_bind (wpAny_of_eq hpos ?_)
  refine ks_call (P := fun hh => hh.get? q = some (methodObj (.ref f) (.ref x)) ∧ K.In hh) (pos := pos) (first := []) rfl (fun hh hP => ⟨.boundFrame, .inr (.inr rfl), ?_⟩) ?_
  · intro A Q E s' k hq
    unfold keeperOf
    refine wpAny_bind (wpAny_load (k _ _ hP.1) ?_)
    refine wpAny_bind (wpAny_load (k _ _ (hP.2 _ _ hfn)) ?_)
    exact wpAny_pure hq
  · refine ks_lone (wpAny_mono h₂ (fun tv s₃ h₃ => ?_) fun _ _ e => e)
    unfold StarOf at h₃ ⊢
    refine wpAny_mono h₃ (fun b s₄ h₄ => ⟨h₄.1, wpAny_mono h₄.2 (fun vs s₅ h₅ => ?_) fun _ _ e => e⟩) fun _ _ e => e
    obtain ⟨ho, hX, hc⟩ := h₅
    refine ⟨⟨ho, hX⟩, ?_⟩
    show wpAny _ _ (call (.ref q) vs []) _ _ _
    exact wpAny_call (method_call ho hc)
end
end Mine

end

section
open PySem PySem.W PyProof.Rows
set_option Elab.async false
set_option maxRecDepth 100000
namespace Mine
theorem over178 (P : Params) : overList (KL P) 178 = true := by kernel_rfl
end Mine

end

section
open PySem PySem.W PyProof.Rows PySem.Calls
set_option Elab.async false
set_option maxRecDepth 100000
set_option maxHeartbeats 4000000
namespace Mine
section
variable {prog : Program} {w : World} {A : Around} {E : Value → Shared → Prop} {s : Shared} {h₀ : Heap} {env : Env}

/-- the loop's turn: what it must hand on -/
def TurnTo (h₀ : Heap) (L I : Addr) (oI : Obj) (J : (Str → Option Value) → List (Addr × Obj) → Prop) (s₀ : Shared) (Q : Flow → Shared → Prop) (f : Flow) (s₃ : Shared) : Prop := match f with
  | .next | .cont => ∃ m' news', Kp s₀ s₃ ∧ Fr h₀ L s₃.heap m' ∧ News h₀ L s₃.heap ((I, oI) :: news') ∧ (∀ p ∈ news', p.1 ≠ I) ∧ J m' news'
  | .brk => Q .next s₃
  | .ret v => Q (.ret v) s₃


end
end Mine

end

section
open PySem PySem.W PyProof.Rows PySem.Calls
set_option Elab.async false
set_option maxRecDepth 100000
set_option maxHeartbeats 8000000
set_option pp.deepTerms false
set_option pp.maxSteps 3000
namespace Mine

noncomputable abbrev qnD (hq : Int) (aq : Tok) (x : Str) (u : Tok) : Obj := dictOf [⟨hq, .str (Str.ofString "text") aq, .str x u⟩] 1
theorem news_subQ {h₀ h : Heap} {L : Addr} {l l' : List (Addr × Obj)} (N : News h₀ L h l) (k : ∀ p ∈ l', p ∈ l) : News h₀ L h l' := fun p hp => N p (k p hp)
theorem qname_new (w : World) (p : Program) (loose : List Str) (mean : ExcName → Option Value) (mg mb : Str → Option Value) (dp un : Nat) (gd : Option (List Code)) (cn : Str) (cs : Scope) (a : Addr) (ccd : Value) (cl : List (Str × Addr)) (outer : List Env) (A₀ : Around) (base h₀ : Heap) (L : Addr) (m : Str → Option Value) (s : Shared) (Q E : Value → Shared → Prop)
   (B : Below A₀ base outer h₀) (F : Fr h₀ L s.heap m) (X : (KL w.params).In h₀) (T : Top p loose mean mg mb h₀) (hk : cs.kind = .function) (hd1 : dp + 14 < recursionLimit) (hu : un + 8 * 14 < cLine)
   (x : Str) (u : Tok) (own : List (Addr × Obj)) (N : News h₀ L s.heap own)
   (hret : ∀ s' o d hq aq, Kp s s' → Fr h₀ L s'.heap m → News h₀ L s'.heap ((o, instObj 270 d) :: (d, qnD hq aq x u) :: own) → @LT.lt Nat _ d o → (∀ p ∈ own, p.1 < d) → Q (.ref o) s') :
   wpAny (model Challenge.rw_xi0019_01.row.prog w) (ktrTop dp un gd cn cs L a ccd cl outer) (call (.ref 270) [.str x u]) Q E s := by
  revert X; k_fill; intro X
  k_dflt (refine' call_cls (K := KL w.params) ?k1 ?k2 ?k3 ?k4 ?k5 ?k6 ?_; (case k1 => k_asm); (case k2 => k_asm); (case k3 => k_asm); (case k4 => k_is); (case k5 => k_is); (case k6 => k_is))
  intro f fd h1 F1 N1 l1 l2
  replace l2 : @LT.lt Nat _ fd f := l2
  k_dflt (refine' code_def ?k1 ?k2 ?k3 ?k4 ?k5 ?kA ?kF ?kK ?k6 ?k7 ?k8 ?k9 ?kB ?_ ?c2 ?c3 ?c4 ?c5; (case kA => exact rfl); (case kF => exact rfl); (case kK => first | exact rfl | assumption); (case k1 => k_asm); (case k2 => k_asm); (case k3 => k_asm); (case k4 => k_asm); (case k5 => k_asm); (case k6 => k_is); (case k7 => k_is); (case k8 => ktr_room); (case k9 => first | exact BindsTo.of_eq rfl | exact binds_K (by k_in) rfl (by k_is) rfl rfl rfl); (case c5 => decide); (case kB => exact locs rfl); (case c2 => exact rfl); (case c3 => exact rfl); (case c4 => exact rfl); k_whole; intro g' L' h' FG' F' N' B' X' T'; (try dsimp only); (try k_lift B'); (try k_fold))
  k_steps
  exact hret _ f fd _ _ ⟨rfl, id⟩ (by assumption) (news_subQ (by assumption) (by ((repeat refine List.forall_mem_cons.mpr ⟨by k_mem, ?_⟩); first | exact (fun _ h => absurd h List.not_mem_nil) | (intro _ h; repeat (first | exact h | refine List.Mem.tail _ ?_))))) l2 l1
theorem qname_gt (w : World) (p : Program) (loose : List Str) (mean : ExcName → Option Value) (mg mb : Str → Option Value) (dp un : Nat) (gd : Option (List Code)) (cn : Str) (cs : Scope) (a : Addr) (ccd : Value) (cl : List (Str × Addr)) (outer : List Env) (A₀ : Around) (base h₀ : Heap) (L : Addr) (m : Str → Option Value) (s : Shared) (Q E : Value → Shared → Prop)
   (B : Below A₀ base outer h₀) (F : Fr h₀ L s.heap m) (X : (KL w.params).In h₀) (T : Top p loose mean mg mb h₀) (hk : cs.kind = .function) (hd1 : dp + 14 < recursionLimit) (hu : un + 8 * 14 < cLine)
   (o d : Addr) (hq : Int) (aq : Tok) (x y : Str) (u v : Tok) (own : List (Addr × Obj)) (N : News h₀ L s.heap ((o, instObj 270 d) :: (d, qnD hq aq x u) :: own))
   (hret : ∀ s', Kp s s' → Fr h₀ L s'.heap m → News h₀ L s'.heap ((o, instObj 270 d) :: (d, qnD hq aq x u) :: own) → Q (.bool (decide (y.cps.toList < x.cps.toList))) s') :
   wpAny (model Challenge.rw_xi0019_01.row.prog w) (ktrTop dp un gd cn cs L a ccd cl outer) (call (.ref 260) [.ref o, .str y v]) Q E s := by
  revert X; k_fill; intro X
  refine wpAny_call ?_
  k_dflt (refine' code_def (binds := [(Str.ofString "self", .ref o), (Str.ofString "other", .str y v)]) ?k1 ?k2 ?k3 ?k4 ?k5 ?kA ?kF ?kK ?k6 ?k7 ?k8 ?k9 ?kB ?_ ?c2 ?c3 ?c4 ?c5; (case kA => exact rfl); (case kF => exact rfl); (case kK => first | exact rfl | assumption); (case k1 => k_asm); (case k2 => k_asm); (case k3 => k_asm); (case k4 => k_asm); (case k5 => k_asm); (case k6 => k_is); (case k7 => k_is); (case k8 => ktr_room); (case k9 => exact BindsTo.of_eq rfl); (case c5 => decide); (case kB => exact locs rfl); (case c2 => exact rfl); (case c3 => exact rfl); (case c4 => exact rfl); k_whole; intro g' L' h' FG' F' N' B' X' T'; (try dsimp only); (try k_lift B'); (try k_fold))
  k_steps
  exact hret _ ⟨rfl, id⟩ (by assumption) (by assumption)

theorem qname2_lt (w : World) (p : Program) (loose : List Str) (mean : ExcName → Option Value) (mg mb : Str → Option Value) (dp un : Nat) (gd : Option (List Code)) (cn : Str) (cs : Scope) (a : Addr) (ccd : Value) (cl : List (Str × Addr)) (outer : List Env) (A₀ : Around) (base h₀ : Heap) (L : Addr) (m : Str → Option Value) (s : Shared) (Q E : Value → Shared → Prop)
   (B : Below A₀ base outer h₀) (F : Fr h₀ L s.heap m) (X : (KL w.params).In h₀) (T : Top p loose mean mg mb h₀) (hk : cs.kind = .function) (hd1 : dp + 14 < recursionLimit) (hu : un + 8 * 14 < cLine)
   (o d o2 d2 : Addr) (hq hq2 : Int) (aq aq2 : Tok) (x y : Str) (u v : Tok) (own : List (Addr × Obj)) (N : News h₀ L s.heap ((o, instObj 270 d) :: (d, qnD hq aq x u) :: (o2, instObj 270 d2) :: (d2, qnD hq2 aq2 y v) :: own))
   (hret : ∀ s', Kp s s' → Fr h₀ L s'.heap m → News h₀ L s'.heap ((o, instObj 270 d) :: (d, qnD hq aq x u) :: (o2, instObj 270 d2) :: (d2, qnD hq2 aq2 y v) :: own) → Q (.bool (decide (x.cps.toList < y.cps.toList))) s') :
   wpAny (model Challenge.rw_xi0019_01.row.prog w) (ktrTop dp un gd cn cs L a ccd cl outer) (call (.ref 246) [.ref o, .ref o2]) Q E s := by
  revert X; k_fill; intro X
  refine wpAny_call ?_
  k_dflt (refine' code_def (binds := [(Str.ofString "self", .ref o), (Str.ofString "other", .ref o2)]) ?k1 ?k2 ?k3 ?k4 ?k5 ?kA ?kF ?kK ?k6 ?k7 ?k8 ?k9 ?kB ?_ ?c2 ?c3 ?c4 ?c5; (case kA => exact rfl); (case kF => exact rfl); (case kK => first | exact rfl | assumption); (case k1 => k_asm); (case k2 => k_asm); (case k3 => k_asm); (case k4 => k_asm); (case k5 => k_asm); (case k6 => k_is); (case k7 => k_is); (case k8 => ktr_room); (case k9 => exact BindsTo.of_eq rfl); (case c5 => decide); (case kB => exact locs rfl); (case c2 => exact rfl); (case c3 => exact rfl); (case c4 => exact rfl); k_whole; intro g' L' h' FG' F' N' B' X' T'; (try dsimp only); (try k_lift B'); (try k_fold))
  k_steps
  exact hret _ ⟨rfl, id⟩ (by assumption) (by assumption)

theorem qname2_le (w : World) (p : Program) (loose : List Str) (mean : ExcName → Option Value) (mg mb : Str → Option Value) (dp un : Nat) (gd : Option (List Code)) (cn : Str) (cs : Scope) (a : Addr) (ccd : Value) (cl : List (Str × Addr)) (outer : List Env) (A₀ : Around) (base h₀ : Heap) (L : Addr) (m : Str → Option Value) (s : Shared) (Q E : Value → Shared → Prop)
   (B : Below A₀ base outer h₀) (F : Fr h₀ L s.heap m) (X : (KL w.params).In h₀) (T : Top p loose mean mg mb h₀) (hk : cs.kind = .function) (hd1 : dp + 14 < recursionLimit) (hu : un + 8 * 14 < cLine)
   (o d o2 d2 : Addr) (hq hq2 : Int) (aq aq2 : Tok) (x y : Str) (u v : Tok) (own : List (Addr × Obj)) (N : News h₀ L s.heap ((o, instObj 270 d) :: (d, qnD hq aq x u) :: (o2, instObj 270 d2) :: (d2, qnD hq2 aq2 y v) :: own))
   (hret : ∀ s', Kp s s' → Fr h₀ L s'.heap m → News h₀ L s'.heap ((o, instObj 270 d) :: (d, qnD hq aq x u) :: (o2, instObj 270 d2) :: (d2, qnD hq2 aq2 y v) :: own) → Q (.bool (!decide (y.cps.toList < x.cps.toList))) s') :
   wpAny (model Challenge.rw_xi0019_01.row.prog w) (ktrTop dp un gd cn cs L a ccd cl outer) (call (.ref 239) [.ref o, .ref o2]) Q E s := by
  revert X; k_fill; intro X
  refine wpAny_call ?_
  k_dflt (refine' code_def (binds := [(Str.ofString "self", .ref o), (Str.ofString "other", .ref o2)]) ?k1 ?k2 ?k3 ?k4 ?k5 ?kA ?kF ?kK ?k6 ?k7 ?k8 ?k9 ?kB ?_ ?c2 ?c3 ?c4 ?c5; (case kA => exact rfl); (case kF => exact rfl); (case kK => first | exact rfl | assumption); (case k1 => k_asm); (case k2 => k_asm); (case k3 => k_asm); (case k4 => k_asm); (case k5 => k_asm); (case k6 => k_is); (case k7 => k_is); (case k8 => ktr_room); (case k9 => exact BindsTo.of_eq rfl); (case c5 => decide); (case kB => exact locs rfl); (case c2 => exact rfl); (case c3 => exact rfl); (case c4 => exact rfl); k_whole; intro g' L' h' FG' F' N' B' X' T'; (try dsimp only); (try k_lift B'); (try k_fold))
  k_steps
  exact hret _ ⟨rfl, id⟩ (by assumption) (by assumption)

theorem qname2_eq (w : World) (p : Program) (loose : List Str) (mean : ExcName → Option Value) (mg mb : Str → Option Value) (dp un : Nat) (gd : Option (List Code)) (cn : Str) (cs : Scope) (a : Addr) (ccd : Value) (cl : List (Str × Addr)) (outer : List Env) (A₀ : Around) (base h₀ : Heap) (L : Addr) (m : Str → Option Value) (s : Shared) (Q E : Value → Shared → Prop)
   (B : Below A₀ base outer h₀) (F : Fr h₀ L s.heap m) (X : (KL w.params).In h₀) (T : Top p loose mean mg mb h₀) (hk : cs.kind = .function) (hd1 : dp + 14 < recursionLimit) (hu : un + 8 * 14 < cLine)
   (o d o2 d2 : Addr) (hq hq2 : Int) (aq aq2 : Tok) (x y : Str) (u v : Tok) (own : List (Addr × Obj)) (N : News h₀ L s.heap ((o, instObj 270 d) :: (d, qnD hq aq x u) :: (o2, instObj 270 d2) :: (d2, qnD hq2 aq2 y v) :: own))
   (hret : ∀ s', Kp s s' → Fr h₀ L s'.heap m → News h₀ L s'.heap ((o, instObj 270 d) :: (d, qnD hq aq x u) :: (o2, instObj 270 d2) :: (d2, qnD hq2 aq2 y v) :: own) → Q (.bool (x == y)) s') :
   wpAny (model Challenge.rw_xi0019_01.row.prog w) (ktrTop dp un gd cn cs L a ccd cl outer) (call (.ref 267) [.ref o, .ref o2]) Q E s := by
  revert X; k_fill; intro X
  refine wpAny_call ?_
  k_dflt (refine' code_def (binds := [(Str.ofString "self", .ref o), (Str.ofString "other", .ref o2)]) ?k1 ?k2 ?k3 ?k4 ?k5 ?kA ?kF ?kK ?k6 ?k7 ?k8 ?k9 ?kB ?_ ?c2 ?c3 ?c4 ?c5; (case kA => exact rfl); (case kF => exact rfl); (case kK => first | exact rfl | assumption); (case k1 => k_asm); (case k2 => k_asm); (case k3 => k_asm); (case k4 => k_asm); (case k5 => k_asm); (case k6 => k_is); (case k7 => k_is); (case k8 => ktr_room); (case k9 => exact BindsTo.of_eq rfl); (case c5 => decide); (case kB => exact locs rfl); (case c2 => exact rfl); (case c3 => exact rfl); (case c4 => exact rfl); k_whole; intro g' L' h' FG' F' N' B' X' T'; (try dsimp only); (try k_lift B'); (try k_fold))
  k_steps
  exact hret _ ⟨rfl, id⟩ (by assumption) (by assumption)

theorem qname2_ge (w : World) (p : Program) (loose : List Str) (mean : ExcName → Option Value) (mg mb : Str → Option Value) (dp un : Nat) (gd : Option (List Code)) (cn : Str) (cs : Scope) (a : Addr) (ccd : Value) (cl : List (Str × Addr)) (outer : List Env) (A₀ : Around) (base h₀ : Heap) (L : Addr) (m : Str → Option Value) (s : Shared) (Q E : Value → Shared → Prop)
   (B : Below A₀ base outer h₀) (F : Fr h₀ L s.heap m) (X : (KL w.params).In h₀) (T : Top p loose mean mg mb h₀) (hk : cs.kind = .function) (hd1 : dp + 14 < recursionLimit) (hu : un + 8 * 14 < cLine)
   (o d o2 d2 : Addr) (hq hq2 : Int) (aq aq2 : Tok) (x y : Str) (u v : Tok) (own : List (Addr × Obj)) (N : News h₀ L s.heap ((o, instObj 270 d) :: (d, qnD hq aq x u) :: (o2, instObj 270 d2) :: (d2, qnD hq2 aq2 y v) :: own))
   (hret : ∀ s', Kp s s' → Fr h₀ L s'.heap m → News h₀ L s'.heap ((o, instObj 270 d) :: (d, qnD hq aq x u) :: (o2, instObj 270 d2) :: (d2, qnD hq2 aq2 y v) :: own) → Q (.bool (!decide (x.cps.toList < y.cps.toList))) s') :
   wpAny (model Challenge.rw_xi0019_01.row.prog w) (ktrTop dp un gd cn cs L a ccd cl outer) (call (.ref 253) [.ref o, .ref o2]) Q E s := by
  revert X; k_fill; intro X
  refine wpAny_call ?_
  k_dflt (refine' code_def (binds := [(Str.ofString "self", .ref o), (Str.ofString "other", .ref o2)]) ?k1 ?k2 ?k3 ?k4 ?k5 ?kA ?kF ?kK ?k6 ?k7 ?k8 ?k9 ?kB ?_ ?c2 ?c3 ?c4 ?c5; (case kA => exact rfl); (case kF => exact rfl); (case kK => first | exact rfl | assumption); (case k1 => k_asm); (case k2 => k_asm); (case k3 => k_asm); (case k4 => k_asm); (case k5 => k_asm); (case k6 => k_is); (case k7 => k_is); (case k8 => ktr_room); (case k9 => exact BindsTo.of_eq rfl); (case c5 => decide); (case kB => exact locs rfl); (case c2 => exact rfl); (case c3 => exact rfl); (case c4 => exact rfl); k_whole; intro g' L' h' FG' F' N' B' X' T'; (try dsimp only); (try k_lift B'); (try k_fold))
  k_steps
  exact hret _ ⟨rfl, id⟩ (by assumption) (by assumption)

theorem qname2_gt (w : World) (p : Program) (loose : List Str) (mean : ExcName → Option Value) (mg mb : Str → Option Value) (dp un : Nat) (gd : Option (List Code)) (cn : Str) (cs : Scope) (a : Addr) (ccd : Value) (cl : List (Str × Addr)) (outer : List Env) (A₀ : Around) (base h₀ : Heap) (L : Addr) (m : Str → Option Value) (s : Shared) (Q E : Value → Shared → Prop)
   (B : Below A₀ base outer h₀) (F : Fr h₀ L s.heap m) (X : (KL w.params).In h₀) (T : Top p loose mean mg mb h₀) (hk : cs.kind = .function) (hd1 : dp + 14 < recursionLimit) (hu : un + 8 * 14 < cLine)
   (o d o2 d2 : Addr) (hq hq2 : Int) (aq aq2 : Tok) (x y : Str) (u v : Tok) (own : List (Addr × Obj)) (N : News h₀ L s.heap ((o, instObj 270 d) :: (d, qnD hq aq x u) :: (o2, instObj 270 d2) :: (d2, qnD hq2 aq2 y v) :: own))
   (hret : ∀ s', Kp s s' → Fr h₀ L s'.heap m → News h₀ L s'.heap ((o, instObj 270 d) :: (d, qnD hq aq x u) :: (o2, instObj 270 d2) :: (d2, qnD hq2 aq2 y v) :: own) → Q (.bool (decide (y.cps.toList < x.cps.toList))) s') :
   wpAny (model Challenge.rw_xi0019_01.row.prog w) (ktrTop dp un gd cn cs L a ccd cl outer) (call (.ref 260) [.ref o, .ref o2]) Q E s := by
  revert X; k_fill; intro X
  refine wpAny_call ?_
  k_dflt (refine' code_def (binds := [(Str.ofString "self", .ref o), (Str.ofString "other", .ref o2)]) ?k1 ?k2 ?k3 ?k4 ?k5 ?kA ?kF ?kK ?k6 ?k7 ?k8 ?k9 ?kB ?_ ?c2 ?c3 ?c4 ?c5; (case kA => exact rfl); (case kF => exact rfl); (case kK => first | exact rfl | assumption); (case k1 => k_asm); (case k2 => k_asm); (case k3 => k_asm); (case k4 => k_asm); (case k5 => k_asm); (case k6 => k_is); (case k7 => k_is); (case k8 => ktr_room); (case k9 => exact BindsTo.of_eq rfl); (case c5 => decide); (case kB => exact locs rfl); (case c2 => exact rfl); (case c3 => exact rfl); (case c4 => exact rfl); k_whole; intro g' L' h' FG' F' N' B' X' T'; (try dsimp only); (try k_lift B'); (try k_fold))
  k_steps
  exact hret _ ⟨rfl, id⟩ (by assumption) (by assumption)

end Mine

end

namespace Mine
section
open PySem PySem.W PyProof.Rows PySem.Calls
local macro_rules | `(tactic| k_inst) => `(tactic| (refine' instN (by k_asm) (by k_mem) (by k_mem)))
local macro_rules | `(tactic| walk_at "getMethod ref") => `(tactic| (k_here; k_dflt (refine' meth_acc (by k_asm) (by k_asm) (by k_inst) (by k_is) (by k_is) (by k_is) (by k_is) (by decide) (by k_get) ?_; k_whole; (try dsimp only))))
local macro_rules | `(tactic| walk_at "call builtin:list.append") => `(tactic| (k_here; (with_reducible show wpAny _ _ (call (Value.builtin _) [Value.ref _, _]) _ _ _); k_dflt (refine' append_acc (by k_asm) (by k_asm) (by k_asm) (by k_inst) (by k_is) (by k_upd) ?_ (by size_fits); k_whole); intro h' F' N'; (try k_sweep)))
local macro_rules | `(tactic| walk_at "getAttr ref") => `(tactic| (k_here; k_dflt (refine' get_acc (by k_asm) (by k_asm) (by k_inst) (by k_is) (by k_is) (by k_is) (by k_is) (by k_is) (by k_is) (by k_get) (by rfl) ?_; k_whole)))
local macro_rules | `(tactic| walk_at "getMethod ref") => `(tactic| (k_here; k_dflt (first
  | (refine' supLen (by k_asm) (by k_asm) (by k_asm) (by k_mem) (by k_inst) (by k_is) (by k_is) (by ks_is) (by decide) ?_; intro q' h' F' N' l1; (try k_lt l1))
  | (refine' supPop (by k_asm) (by k_asm) (by k_asm) (by k_mem) (by k_inst) (by k_is) (by k_is) (by ks_is) (by decide) ?_; intro q' h' F' N' l1; (try k_lt l1))
  | (refine' supInit (by k_asm) (by k_asm) (by k_asm) (by k_mem) (by k_inst) (by k_is) (by k_is) (by ks_is) (by decide) ?_; intro q' h' F' N' l1; (try k_lt l1)))))
local macro_rules | `(tactic| walk_at "callWith ref") => `(tactic| (k_here; (with_reducible show wpAny _ _ (callWith _ (Value.ref _) [] _ []) _ _ _); k_dflt (refine' callWith_b0 ?k1 ?k2 ?k3 ?_; (case k2 => k_asm); (case k3 => k_mem); (case k1 => (first | exact .inr rfl | exact .inl rfl)))))
local macro_rules | `(tactic| walk_at "call ref") => `(tactic| (k_here; (with_reducible show wpAny _ _ (call (Value.ref _) []) _ _ _); k_dflt (first
  | (refine' lenB (by k_asm) (by k_mem) (by k_inst) ?_)
  | (refine' initB (by k_asm) (by k_asm) (by k_mem) (by k_inst) (by intro n'; k_upd) ?_; intro h' n' F' N'))))
local macro_rules | `(tactic| walk_at "execs nil") => `(tactic| (with_reducible refine wpAny_execs_nil ?_; dsimp only))
local macro_rules | `(tactic| walk_at "wpAt") => `(tactic| (ks_step "eval Call"; k_dflt (refine ks_wpAt_MethodCall ?_)))
local macro_rules | `(tactic| walk_at "setAttr ref") => `(tactic| (k_here; k_dflt (refine' setL (by k_asm) (by k_asm) (by k_asm) (by k_inst) (by exact rfl) (by k_is) (by exact over178 _) (by k_is) (by k_get) (by k_put) (by k_upd) (by exact Nat.le_of_ble_eq_true rfl) ?_; k_whole; intro h' F' N'; (try k_sweep))))
local macro_rules | `(tactic| walk_at "wpAt") => `(tactic| (dsimp only; ks_step "execs cons"; refine ks_wpAt_execs_cons ?_))
local macro_rules | `(tactic| walk_at "wpAt") => `(tactic| (ks_step "exec Expr"; k_dflt (refine ks_wpAt_Expr_any ?_)))
local macro_rules | `(tactic| walk_at "wpAt") => `(tactic| (ks_step "exec Return"; k_dflt (refine ks_wpAt_Return_some ?_)))

section
open PySem PySem.W PyProof.Rows PySem.Calls
set_option Elab.async false
set_option maxRecDepth 100000
set_option maxHeartbeats 8000000
set_option pp.deepTerms false
set_option pp.maxSteps 3000

theorem lens_fit {ps : List (Str × Str)} {k : Int} (hsm : Small ps) (hk0 : 0 ≤ k) (hk1 : k ≤ 2 ^ 20) : InLong k ∧ ∀ j, j < ps.length → InLong (lens ps j) ∧ InLong (preFrom k (lens ps) (j + 1)) := by
  have e20 : (2 : Int) ^ 20 = 1048576 := by decide
  have e63 : (2 : Int) ^ 63 = 9223372036854775808 := by decide
  refine ⟨⟨by lia, by lia⟩, fun j hj => ⟨?_, ?_⟩⟩
  · simp only [lens, List.getElem?_eq_getElem hj]
    have h1 := hsm.2 ps[j] (List.getElem_mem hj)
    unfold InLong
    lia
  · rw [pre_lens k ps (j + 1) hj]
    have := total_small hsm (j + 1)
    unfold InLong
    lia

theorem len_c (w : World) (p : Program) (loose : List Str) (mean : ExcName → Option Value) (mg mb : Str → Option Value) (dp un : Nat) (gd : Option (List Code)) (cn : Str) (cs : Scope) (a : Addr) (ccd : Value) (cl : List (Str × Addr)) (outer : List Env) (A₀ : Around) (base h₀ : Heap) (L : Addr) (m : Str → Option Value) (s : Shared) (Q E : Value → Shared → Prop)
   (B : Below A₀ base outer h₀) (F : Fr h₀ L s.heap m) (X : (KL w.params).In h₀) (T : Top p loose mean mg mb h₀) (hk : cs.kind = .function) (hd1 : dp + 8 < recursionLimit) (hu : un + 8 * 8 < cLine)
   (x d : Addr) (items : List Value) (n : Nat) (own : List (Addr × Obj)) (hs : Int) (tz : Tok) (k : Int) (tz' : Tok) (ts : Array Value) (ps : List (Str × Str))
   (N : News h₀ L s.heap ((x, accO d items n) :: (d, szD hs tz k tz' 1) :: (140, tabObj ts) :: own)) (hxd : @LT.lt Nat _ d x) (hd3 : @LT.lt Nat _ 140 d) (ho : OwnOff own [x, d, 140])
   (ht : TriplesOk ts.toList) (hp : PartsAre own items ps) (hsm : Small ps) (hk0 : 0 ≤ k) (hk1 : k ≤ 2 ^ 20)
   (hret : ∀ s' t' more, Kp s s' → Fr h₀ L s'.heap m → News h₀ L s'.heap ((x, accO d items n) :: (d, szD hs tz k tz' 1) :: (140, tabObj (ts ++ more)) :: own) → TriplesOk (ts ++ more).toList → Q (.int (k + total ps) t') s') :
   wpAny (model Challenge.rw_xi0019_01.row.prog w) (ktrTop dp un gd cn cs L a ccd cl outer) (call (.ref 145) [.ref x]) Q E s := by
  revert X; k_fill; intro X
  refine wpAny_call ?_
  k_dflt cell_enter
  k_steps
  refine genAcc (K := KL w.params) (c := 144) (P := 140) (x := x) (dx := d) (C := 178) (ts := ts) (ps := ps) (own := own) (xs := "self") (xa := "fws") (xb := "part") (news' := fun ts' => (x, accO d items n) :: (d, szD hs tz k tz' 1) :: (140, tabObj ts') :: own)
    (by assumption) (by assumption) (by assumption) (by assumption) rfl ?room rfl (by kernel_rfl) ?upd ht rfl rfl rfl rfl (by decide) ?ms (.head _) (.tail _ (.head _)) (by kernel_rfl) (by kernel_rfl) hp ?own rfl ?clos (by decide) (by decide) (by decide) (by decide) (by decide) rfl (fun i v => ∃ t, v = .int (lens ps i) t) ?hq ?hQ
  case room => simp only [depth_deeper]; (try dsimp only [ktrTop]); lia
  case upd =>
    intro ts'
    exact .tail (Nat.ne_of_gt (Nat.lt_trans hd3 hxd)) (.tail (Nat.ne_of_gt hd3) (.head fun p hp => ho p hp 140 (by simp)))
  case ms => rfl
  case own => intro q hq; exact .tail _ (.tail _ (.tail _ hq))
  case clos => rfl
  case hq =>
    intro code C' A' E' i a b ta tb t m₂ hA hi hn ha hb hg hbi
    have hmem := List.mem_of_getElem? hi
    have h1 := hsm.2 _ hmem
    have e20 : (2 : Nat) ^ 20 = 1048576 := by decide
    refine wpAny_mono (elt_len hg (mg_none_of X T.g (by kernel_rfl)) hbi ((T.builtins _ (by decide)).trans (by kernel_rfl)) hn rfl (by decide) (by decide) (by decide) ha hb (by dsimp only at h1; lia) (by dsimp only at h1; lia) (by decide) (by decide) (fun _ _ => rfl) (fun _ _ => rfl)) (fun y s₃ hy => ?_) fun _ _ e => e
    obtain ⟨⟨t', rfl⟩, hk⟩ := hy
    exact ⟨⟨t', by simp only [lens, hi]⟩, hk⟩
  case hQ =>
    intro a5 s5 more kp F5 N5 ht5 G5
    k_steps
    obtain ⟨hfit0, hfit⟩ := lens_fit hsm hk0 hk1
    refine sumK (by assumption) (by assumption) (GenK.toks G5 (Nat.le_succ _)) (lens ps) hfit0 (fun _ _ h => h) hfit fun s6 t6 kp6 F6 N6 => ?_
    rw [pre_lens k ps _ (Nat.le_refl _), List.take_length]
    k_steps
    exact hret s6 t6 more ⟨kp6.os.trans kp.os, fun g => kp6.bare (kp.bare g)⟩ (by assumption) (by assumption) ht5

theorem flat_cons (p : Str × Str) (ps : List (Str × Str)) : flat (p :: ps) = p.1 ++ p.2 ++ flat ps := rfl
noncomputable def texts (ps : List (Str × Str)) (j : Nat) : Str := match ps[j]? with
  | some (a, b) => a ++ b
  | none => ⟨#[]⟩
theorem map_texts : ∀ ps : List (Str × Str), (List.range ps.length).map (texts ps) = ps.map fun p => p.1 ++ p.2 := by
  intro ps
  apply List.ext_getElem?
  intro j
  by_cases hj : j < ps.length
  · simp [List.getElem?_map, List.getElem?_range hj, List.getElem?_eq_getElem hj, texts]
  · rw [List.getElem?_eq_none (by simpa using Nat.le_of_not_lt hj), List.getElem?_eq_none (by simpa using Nat.le_of_not_lt hj)]
theorem join_flat : ∀ ps : List (Str × Str), Str.join ⟨#[]⟩ (ps.map fun p => p.1 ++ p.2) = flat ps := by
  intro ps
  induction ps with
  | nil => rfl
  | cons p r ih => rw [List.map_cons, PyProof.Rows.join_nil_cons, ih, flat_cons]
theorem join_ok {ps : List (Str × Str)} (hsm : Small ps) : JoinOk ⟨#[]⟩ (ps.map fun p => p.1 ++ p.2) = true := by
  refine joinOk_of ?_
  have h0 : ((ps.map fun p => p.1 ++ p.2).map (·.length)).sum = total ps := by
    rw [List.map_map]; unfold total; congr 1; refine List.map_congr_left fun p _ => ?_; exact Str.length_append _ _
  have h1 := total_small hsm ps.length
  rw [List.take_length] at h1
  rw [h0, show (⟨#[]⟩ : Str).length = 0 from rfl]
  lia

theorem str_c (w : World) (p : Program) (loose : List Str) (mean : ExcName → Option Value) (mg mb : Str → Option Value) (dp un : Nat) (gd : Option (List Code)) (cn : Str) (cs : Scope) (a : Addr) (ccd : Value) (cl : List (Str × Addr)) (outer : List Env) (A₀ : Around) (base h₀ : Heap) (L : Addr) (m : Str → Option Value) (s : Shared) (Q E : Value → Shared → Prop)
   (B : Below A₀ base outer h₀) (F : Fr h₀ L s.heap m) (X : (KL w.params).In h₀) (T : Top p loose mean mg mb h₀) (hk : cs.kind = .function) (hd1 : dp + 8 < recursionLimit) (hu : un + 8 * 8 < cLine)
   (x d : Addr) (items : List Value) (n : Nat) (own : List (Addr × Obj)) (hs : Int) (tz : Tok) (k : Int) (tz' : Tok) (ts : Array Value) (ps : List (Str × Str))
   (N : News h₀ L s.heap ((x, accO d items n) :: (d, szD hs tz k tz' 1) :: (147, tabObj ts) :: own)) (hxd : @LT.lt Nat _ d x) (hd3 : @LT.lt Nat _ 147 d) (ho : OwnOff own [x, d, 147])
   (ht : TriplesOk ts.toList) (hp : PartsAre own items ps) (hsm : Small ps)
   (hret : ∀ s' t' more, Kp s s' → Fr h₀ L s'.heap m → News h₀ L s'.heap ((x, accO d items n) :: (d, szD hs tz k tz' 1) :: (147, tabObj (ts ++ more)) :: own) → TriplesOk (ts ++ more).toList → Q (.str (flat ps) t') s') :
   wpAny (model Challenge.rw_xi0019_01.row.prog w) (ktrTop dp un gd cn cs L a ccd cl outer) (call (.ref 152) [.ref x]) Q E s := by
  revert X; k_fill; intro X
  refine wpAny_call ?_
  k_dflt cell_enter
  k_steps
  refine genAcc (K := KL w.params) (c := 151) (P := 147) (x := x) (dx := d) (C := 178) (ts := ts) (ps := ps) (own := own) (xs := "self") (xa := "fws") (xb := "part") (news' := fun ts' => (x, accO d items n) :: (d, szD hs tz k tz' 1) :: (147, tabObj ts') :: own)
    (by assumption) (by assumption) (by assumption) (by assumption) rfl ?room rfl (by kernel_rfl) ?upd ht rfl rfl rfl rfl (by decide) ?ms (.head _) (.tail _ (.head _)) (by kernel_rfl) (by kernel_rfl) hp ?own rfl ?clos (by decide) (by decide) (by decide) (by decide) (by decide) rfl (fun i v => ∃ t, v = .str (texts ps i) t) ?hq ?hQ
  case room => simp only [depth_deeper]; (try dsimp only [ktrTop]); lia
  case upd =>
    intro ts'
    exact .tail (Nat.ne_of_gt (Nat.lt_trans hd3 hxd)) (.tail (Nat.ne_of_gt hd3) (.head fun p hp => ho p hp 147 (by simp)))
  case ms => rfl
  case own => intro q hq; exact .tail _ (.tail _ (.tail _ hq))
  case clos => rfl
  case hq =>
    intro code C' A' E' i a b ta tb t m₂ hA hi hn ha hb hg hbi
    have hmem := List.mem_of_getElem? hi
    have h1 := hsm.2 _ hmem
    have e20 : (2 : Nat) ^ 20 = 1048576 := by decide
    refine wpAny_mono (elt_join (g := "EMPTYSTRING") (te := 198) hg (mg_of X T.g (by kernel_rfl)) hn rfl (by decide) (by decide) (by decide) ha hb (by dsimp only at h1; lia) (by decide) (by decide) (by decide) (fun _ => rfl) (by decide) (fun _ => rfl) (fun _ => rfl)) (fun y s₃ hy => ?_) fun _ _ e => e
    obtain ⟨⟨t', rfl⟩, hk⟩ := hy
    exact ⟨⟨t', by simp only [texts, hi]⟩, hk⟩
  case hQ =>
    intro a5 s5 more kp F5 N5 ht5 G5
    k_steps
    rw [show Str.ofString "" = ⟨#[]⟩ from rfl]
    refine joinK (by assumption) (by assumption) G5 (texts ps) (fun _ _ h => h) (by rw [map_texts]; exact join_ok hsm) (fun s6 t6 kp6 F6 N6 => ?_) (Nat.le_trans hsm.1 (by decide))
    rw [map_texts, txt_join, join_flat]
    k_steps
    exact hret s6 t6 more ⟨kp6.os.trans kp.os, fun g => kp6.bare (kp.bare g)⟩ (by assumption) (by assumption) ht5


end

section
open PySem PySem.W PyProof.Rows PySem.Calls
set_option Elab.async false
set_option maxRecDepth 100000
set_option maxHeartbeats 8000000
set_option pp.deepTerms false
set_option pp.maxSteps 3000

theorem news_sub {h₀ h : Heap} {L : Addr} {l l' : List (Addr × Obj)} (N : News h₀ L h l) (k : ∀ p ∈ l', p ∈ l) : News h₀ L h l' := fun p hp => N p (k p hp)
theorem drop1 {h₀ h : Heap} {L : Addr} {a : Addr × Obj} {l : List (Addr × Obj)} (N : News h₀ L h (a :: l)) : News h₀ L h l := fun p hp => N p (.tail _ hp)
theorem count_c (w : World) (p : Program) (loose : List Str) (mean : ExcName → Option Value) (mg mb : Str → Option Value) (dp un : Nat) (gd : Option (List Code)) (cn : Str) (cs : Scope) (a : Addr) (ccd : Value) (cl : List (Str × Addr)) (outer : List Env) (A₀ : Around) (base h₀ : Heap) (L : Addr) (m : Str → Option Value) (s : Shared) (Q E : Value → Shared → Prop)
   (B : Below A₀ base outer h₀) (F : Fr h₀ L s.heap m) (X : (KL w.params).In h₀) (T : Top p loose mean mg mb h₀) (hk : cs.kind = .function) (hd1 : dp + 8 < recursionLimit) (hu : un + 8 * 8 < cLine)
   (x d : Addr) (items : List Value) (n : Nat) (own : List (Addr × Obj)) (hs : Int) (tz : Tok) (k : Int) (tz' : Tok)
   (N : News h₀ L s.heap ((x, accO d items n) :: (d, szD hs tz k tz' 1) :: own)) (hxd : @LT.lt Nat _ d x) (ho : OwnOff own [x, d])
   (hsz : items.length ≤ 200)
   (hret : ∀ s' t', Kp s s' → Fr h₀ L s'.heap m → News h₀ L s'.heap ((x, accO d items n) :: (d, szD hs tz k tz' 1) :: own) → Q (.int items.length t') s') :
   wpAny (model Challenge.rw_xi0019_01.row.prog w) (ktrTop dp un gd cn cs L a ccd cl outer) (call (.ref 175) [.ref x]) Q E s := by
  revert X; k_fill; intro X
  refine wpAny_call ?_
  k_dflt (refine' ks_code_super ?k1 ?k2 ?k3 ?k4 ?k5 ?kA ?kF ?kK ?k6 ?k7 ?k8 ?k9 ?kB ?_ ?c1 ?c2 ?c3 ?c4; (case kA => exact rfl); (case kF => exact rfl); (case kK => first | exact rfl | assumption); (case k1 => k_asm); (case k2 => k_asm); (case k3 => k_asm); (case k4 => k_asm); (case k5 => k_asm); (case k6 => k_is); (case k7 => k_is); (case k8 => ktr_room); (case k9 => first | exact BindsTo.of_eq rfl | exact binds_K (by k_in) rfl (by k_is) rfl rfl rfl); (case kB => exact locs rfl); (case c1 => decide); (case c2 => exact rfl); (case c3 => exact rfl); (case c4 => exact rfl); intro g' L' h' FG' F' N' B' X' T' l1; (try k_lt l1); (try dsimp only); (try k_lift B'))
  k_steps
  refine hret _ _ ⟨rfl, id⟩ (by assumption) (news_sub (by assumption) ?_)
  ((repeat refine List.forall_mem_cons.mpr ⟨by k_mem, ?_⟩); first | exact (fun _ h => absurd h List.not_mem_nil) | (intro _ h; repeat (first | exact h | refine List.Mem.tail _ ?_)))

theorem ret_push {h₀ h : Heap} {L x d q : Addr} {items : List Value} {n' : Nat} {D : Obj} {own : List (Addr × Obj)} {s1 s2 : Str} {t1 t2 : Tok} (kN : News h₀ L h ((q, tupO s1 t1 s2 t2) :: (x, ⟨.ref 178, some d, .seq (items.toArray.push (.ref q)) n', #[]⟩) :: (d, D) :: own)) :
    News h₀ L h ((x, accO d (items ++ [.ref q]) n') :: (d, D) :: (q, tupO s1 t1 s2 t2) :: own) := by
  simp only [List.push_toArray] at kN
  exact news_sub kN (List.forall_mem_cons.mpr ⟨.tail _ (.head _), List.forall_mem_cons.mpr ⟨.tail _ (.tail _ (.head _)), List.forall_mem_cons.mpr ⟨.head _, fun _ h => .tail _ (.tail _ (.tail _ h))⟩⟩⟩)

theorem push_code (w : World) (p : Program) (loose : List Str) (mean : ExcName → Option Value) (mg mb : Str → Option Value) (dp un : Nat) (gd : Option (List Code)) (cn : Str) (cs : Scope) (a : Addr) (ccd : Value) (cl : List (Str × Addr)) (outer : List Env) (A₀ : Around) (base h₀ : Heap) (L : Addr) (m : Str → Option Value) (s : Shared) (Q E : Value → Shared → Prop)
   (B : Below A₀ base outer h₀) (F : Fr h₀ L s.heap m) (X : (KL w.params).In h₀) (T : Top p loose mean mg mb h₀) (hk : cs.kind = .function) (hd1 : dp + 8 < recursionLimit) (hu : un + 8 * 8 < cLine)
   (x d : Addr) (items : List Value) (n : Nat) (own : List (Addr × Obj)) (hs : Int) (tz : Tok) (k : Int) (tz' : Tok)
   (N : News h₀ L s.heap ((x, accO d items n) :: (d, szD hs tz k tz' 1) :: own)) (hxd : @LT.lt Nat _ d x) (ho : OwnOff own [x, d])
   (s1 s2 : Str) (t1 t2 : Tok) (hsz : items.length ≤ 200)
   (hret : ∀ s' q n', Kp s s' → Fr h₀ L s'.heap m → News h₀ L s'.heap ((x, accO d (items ++ [.ref q]) n') :: (d, szD hs tz k tz' 1) :: (q, tupO s1 t1 s2 t2) :: own) → Q .none s') :
   codeAny (model Challenge.rw_xi0019_01.row.prog w) (ktrTop dp un gd cn cs L a ccd cl outer) (.call (.ref 122) ⟨[.ref x, .str s1 t1, .str s2 t2], []⟩) (fun r s' => match r with | .ok (.ret v) => Q v s' | .ok _ => False | .error e => E e s') s := by
  revert X; k_fill; intro X
  k_dflt cell_enter
  k_steps
  rename_i kF kN Tc kX
  exact hret _ _ _ ⟨rfl, id⟩ kF (ret_push kN)

theorem push_c (w : World) (p : Program) (loose : List Str) (mean : ExcName → Option Value) (mg mb : Str → Option Value) (dp un : Nat) (gd : Option (List Code)) (cn : Str) (cs : Scope) (a : Addr) (ccd : Value) (cl : List (Str × Addr)) (outer : List Env) (A₀ : Around) (base h₀ : Heap) (L : Addr) (m : Str → Option Value) (s : Shared) (Q E : Value → Shared → Prop)
   (B : Below A₀ base outer h₀) (F : Fr h₀ L s.heap m) (X : (KL w.params).In h₀) (T : Top p loose mean mg mb h₀) (hk : cs.kind = .function) (hd1 : dp + 8 < recursionLimit) (hu : un + 8 * 8 < cLine)
   (x d : Addr) (items : List Value) (n : Nat) (own : List (Addr × Obj)) (hs : Int) (tz : Tok) (k : Int) (tz' : Tok)
   (N : News h₀ L s.heap ((x, accO d items n) :: (d, szD hs tz k tz' 1) :: own)) (hxd : @LT.lt Nat _ d x) (ho : OwnOff own [x, d])
   (s1 s2 : Str) (t1 t2 : Tok) (hsz : items.length ≤ 200)
   (hret : ∀ s' q n', Kp s s' → Fr h₀ L s'.heap m → News h₀ L s'.heap ((x, accO d (items ++ [.ref q]) n') :: (d, szD hs tz k tz' 1) :: (q, tupO s1 t1 s2 t2) :: own) → Q .none s') :
   wpAny (model Challenge.rw_xi0019_01.row.prog w) (ktrTop dp un gd cn cs L a ccd cl outer) (call (.ref 122) [.ref x, .str s1 t1, .str s2 t2]) Q E s :=
  wpAny_call (push_code w p loose mean mg mb dp un gd cn cs a ccd cl outer A₀ base h₀ L m s Q E B F X T hk hd1 hu x d items n own hs tz k tz' N hxd ho s1 s2 t1 t2 hsz hret)

theorem popB1 {prog : Program} {w : World} {A : Around} {E : Value → Shared → Prop} {s : Shared} {h₀ : Heap} {L : Addr} {m : Str → Option Value} {news : List (Addr × Obj)} {news'' : Nat → List (Addr × Obj)} {K : Frag} {x C q : Addr} {odx : Option Obj} {dx : Addr} {its : List Value} {n : Nat} {sl : Array (Option Value)} {Q : Value → Shared → Prop} {y : Value}
    (F : Fr h₀ L s.heap m) (X₀ : K.In h₀) (N : News h₀ L s.heap news) (hm : (q, bndO "builtin_function_or_method" "list.pop" x) ∈ news) (I : InstAt s.heap x ⟨.ref C, some dx, .seq (its ++ [y]).toArray n, sl⟩ C odx)
    (hnm : subIn K (.ref C) (.type "module") = some false) (hcd : (clsIn K C).map (·.qualname) = some (Str.ofString "_Accumulator")) (htc : typeIn K (.ref C) = some (.type "type"))
    (U : ∀ n', Upd x ⟨.ref C, some dx, .seq (its ++ [y]).toArray n, sl⟩ ⟨.ref C, some dx, .seq its.toArray n', sl⟩ news (news'' n'))
    (h : ∀ h' n', Fr h₀ L h' m → News h₀ L h' (news'' n') → Q y { s with heap := h' }) (hsz : its.length ≤ 200) :
    wpAny (model prog w) A (call (.ref q) []) Q E s := by
  have e : ((its ++ [y]).toArray.pop) = its.toArray := by simp
  refine popB F X₀ N hm I hnm hcd htc (y := y) (by simp) (fun n' => by rw [e]; exact U n') h ?_
  have : 201 ≤ sizeLine := by decide
  simp only [List.size_toArray, List.length_append, List.length_cons, List.length_nil]
  lia

local macro_rules | `(tactic| walk_at "call ref") => `(tactic| (k_here; (with_reducible show wpAny _ _ (call (Value.ref _) []) _ _ _); k_dflt
  (refine' popB1 ?k1 ?k2 ?k3 ?k4 ?k5 ?k6 ?k7 ?k8 ?k9 ?_ ?kz; (case k1 => k_asm); (case k2 => k_asm); (case k3 => k_asm); (case k4 => k_mem); (case k5 => k_inst); (case k6 => k_is); (case k7 => kernel_rfl); (case k8 => k_is); (case k9 => (intro n'; k_upd)); (case kz => lia); intro h' n' F' N')))

theorem pop_c (w : World) (p : Program) (loose : List Str) (mean : ExcName → Option Value) (mg mb : Str → Option Value) (dp un : Nat) (gd : Option (List Code)) (cn : Str) (cs : Scope) (a : Addr) (ccd : Value) (cl : List (Str × Addr)) (outer : List Env) (A₀ : Around) (base h₀ : Heap) (L : Addr) (m : Str → Option Value) (s : Shared) (Q E : Value → Shared → Prop)
   (B : Below A₀ base outer h₀) (F : Fr h₀ L s.heap m) (X : (KL w.params).In h₀) (T : Top p loose mean mg mb h₀) (hk : cs.kind = .function) (hd1 : dp + 10 < recursionLimit) (hu : un + 8 * 10 < cLine)
   (x d : Addr) (items : List Value) (y : Value) (n : Nat) (own : List (Addr × Obj)) (hs : Int) (tz : Tok) (k : Int) (tz' : Tok)
   (N : News h₀ L s.heap ((x, accO d (items ++ [y]) n) :: (d, szD hs tz k tz' 1) :: own)) (hxd : @LT.lt Nat _ d x) (ho : OwnOff own [x, d])
   (hsz : items.length < 200)
   (hret : ∀ s' n', Kp s s' → Fr h₀ L s'.heap m → News h₀ L s'.heap ((x, accO d items n') :: (d, szD hs tz k tz' 1) :: own) → Q y s') :
   wpAny (model Challenge.rw_xi0019_01.row.prog w) (ktrTop dp un gd cn cs L a ccd cl outer) (call (.ref 138) [.ref x]) Q E s := by
  revert X; k_fill; intro X
  refine wpAny_call ?_
  k_dflt (refine' ks_code_super ?k1 ?k2 ?k3 ?k4 ?k5 ?kA ?kF ?kK ?k6 ?k7 ?k8 ?k9 ?kB ?_ ?c1 ?c2 ?c3 ?c4; (case kA => exact rfl); (case kF => exact rfl); (case kK => first | exact rfl | assumption); (case k1 => k_asm); (case k2 => k_asm); (case k3 => k_asm); (case k4 => k_asm); (case k5 => k_asm); (case k6 => k_is); (case k7 => k_is); (case k8 => ktr_room); (case k9 => first | exact BindsTo.of_eq rfl | exact binds_K (by k_in) rfl (by k_is) rfl rfl rfl); (case kB => exact locs rfl); (case c1 => decide); (case c2 => exact rfl); (case c3 => exact rfl); (case c4 => exact rfl); intro g' L' h' FG' F' N' B' X' T' l1; (try k_lt l1); (try dsimp only); (try k_lift B'))
  k_steps
  k_here
  k_dflt (refine' count_c _ _ _ _ _ _ _ _ _ _ _ _ _ _ _ _ _ _ _ _ _ _ _ ?cB ?cF ?cX ?cT ?ck ?cd ?cu _ _ _ _ _ _ _ _ _ ?N hxd ho ?z ?_; (case cB => k_asm); (case cF => k_asm); (case cX => k_asm); (case cT => k_asm); (case ck => first | exact rfl | assumption); (case cd => ktr_room); (case cu => ktr_units))
  case N => k_asm
  case z => simp only [List.length_append, List.length_cons, List.length_nil]; lia
  intro s1 t1 kp1 F1 N1
  have hpos : ¬ (((items ++ [y]).length : Int) = 0) := by simp only [List.length_append, List.length_cons, List.length_nil]; lia
  k_steps
  · exact absurd ‹((items ++ [y]).length : Int) = 0› hpos
  exact hret _ _ ⟨kp1.os, fun g => kp1.bare g⟩ (by assumption) (drop1 (drop1 (by assumption)))

theorem pop_nil_c (w : World) (p : Program) (loose : List Str) (mean : ExcName → Option Value) (mg mb : Str → Option Value) (dp un : Nat) (gd : Option (List Code)) (cn : Str) (cs : Scope) (a : Addr) (ccd : Value) (cl : List (Str × Addr)) (outer : List Env) (A₀ : Around) (base h₀ : Heap) (L : Addr) (m : Str → Option Value) (s : Shared) (Q E : Value → Shared → Prop)
   (B : Below A₀ base outer h₀) (F : Fr h₀ L s.heap m) (X : (KL w.params).In h₀) (T : Top p loose mean mg mb h₀) (hk : cs.kind = .function) (hd1 : dp + 10 < recursionLimit) (hu : un + 8 * 10 < cLine)
   (x d : Addr) (n : Nat) (own : List (Addr × Obj)) (hs : Int) (tz : Tok) (k : Int) (tz' : Tok)
   (N : News h₀ L s.heap ((x, accO d [] n) :: (d, szD hs tz k tz' 1) :: own)) (hxd : @LT.lt Nat _ d x) (ho : OwnOff own [x, d])
   (hret : ∀ s' q t1 t2, Kp s s' → Fr h₀ L s'.heap m → News h₀ L s'.heap ((q, tupO (Str.ofString "") t1 (Str.ofString "") t2) :: (x, accO d [] n) :: (d, szD hs tz k tz' 1) :: own) → Q (.ref q) s') :
   wpAny (model Challenge.rw_xi0019_01.row.prog w) (ktrTop dp un gd cn cs L a ccd cl outer) (call (.ref 138) [.ref x]) Q E s := by
  revert X; k_fill; intro X
  refine wpAny_call ?_
  k_dflt (refine' ks_code_super ?k1 ?k2 ?k3 ?k4 ?k5 ?kA ?kF ?kK ?k6 ?k7 ?k8 ?k9 ?kB ?_ ?c1 ?c2 ?c3 ?c4; (case kA => exact rfl); (case kF => exact rfl); (case kK => first | exact rfl | assumption); (case k1 => k_asm); (case k2 => k_asm); (case k3 => k_asm); (case k4 => k_asm); (case k5 => k_asm); (case k6 => k_is); (case k7 => k_is); (case k8 => ktr_room); (case k9 => first | exact BindsTo.of_eq rfl | exact binds_K (by k_in) rfl (by k_is) rfl rfl rfl); (case kB => exact locs rfl); (case c1 => decide); (case c2 => exact rfl); (case c3 => exact rfl); (case c4 => exact rfl); intro g' L' h' FG' F' N' B' X' T' l1; (try k_lt l1); (try dsimp only); (try k_lift B'))
  k_steps
  k_here
  k_dflt (refine' count_c _ _ _ _ _ _ _ _ _ _ _ _ _ _ _ _ _ _ _ _ _ _ _ ?cB ?cF ?cX ?cT ?ck ?cd ?cu _ _ _ _ _ _ _ _ _ ?N hxd ho ?z ?_; (case cB => k_asm); (case cF => k_asm); (case cX => k_asm); (case cT => k_asm); (case ck => first | exact rfl | assumption); (case cd => ktr_room); (case cu => ktr_units))
  case N => k_asm
  case z => decide
  intro s1 t1 kp1 F1 N1
  dsimp only [List.length_nil] at *
  k_steps
  exact hret _ _ _ _ ⟨kp1.os, fun g => kp1.bare g⟩ (by assumption) (by assumption)


end

section
open PySem PySem.W PyProof.Rows PySem.Calls
set_option Elab.async false
set_option maxRecDepth 100000
set_option maxHeartbeats 8000000
set_option pp.deepTerms false
set_option pp.maxSteps 3000

local macro_rules | `(tactic| walk_at "subscriptTail Name Slice ref ref") => `(tactic| (k_here; k_dflt (refine' subFrom (by k_asm) (by k_asm) (by k_asm) (by k_mem) (by k_mem) (by k_is) (by k_is) (by k_is) (by lia) (by lia) (by intro _; rfl) ?_); intro D' h' F' N' l1; (try k_lt l1); (try k_sweep)))
local macro_rules | `(tactic| walk_at "setItem ref ref") => `(tactic| (k_here; k_dflt (first
  | (refine' setSl (a := 0) (lo := none) (by k_asm) (by k_asm) (by k_asm) (by k_mem) (by k_mem) (by k_mem) (by k_is) (by k_is) (by k_is) (by exact .none) (by exact bounds_all) (by exact Nat.zero_le _) (by intro n'; k_upd) ?_ (by first | (simp only [List.length_nil, List.length_map]; lia) | lia))
  | (refine' setSl (by k_asm) (by k_asm) (by k_asm) (by k_mem) (by k_mem) (by k_mem) (by k_is) (by k_is) (by k_is) (by exact .int _ _) (by exact bounds_from (by lia)) (by lia) (by intro n'; k_upd) ?_ (by simp only [List.length_nil]; lia))); intro h' n' F' N'; (try k_sweep)))

theorem ret_pop_from {h₀ h : Heap} {L x d l l2 : Addr} {i n' : Nat} {items : List Value} {D o2 : Obj} {own : List (Addr × Obj)} (kN : News h₀ L h ((l2, o2) :: (l, listOf (items.drop i).toArray 0) :: (x, ⟨.ref 178, some d, .seq (items.take i ++ []).toArray n', #[]⟩) :: (d, D) :: own)) :
    News h₀ L h ((x, accO d (items.take i) n') :: (d, D) :: (l, listOf (items.drop i).toArray 0) :: own) := by
  rw [List.append_nil] at kN
  exact news_sub kN (List.forall_mem_cons.mpr ⟨.tail _ (.tail _ (.head _)), List.forall_mem_cons.mpr ⟨.tail _ (.tail _ (.tail _ (.head _))), List.forall_mem_cons.mpr ⟨.tail _ (.head _), fun _ h => .tail _ (.tail _ (.tail _ (.tail _ h)))⟩⟩⟩)
theorem pop_from_c (w : World) (p : Program) (loose : List Str) (mean : ExcName → Option Value) (mg mb : Str → Option Value) (dp un : Nat) (gd : Option (List Code)) (cn : Str) (cs : Scope) (a : Addr) (ccd : Value) (cl : List (Str × Addr)) (outer : List Env) (A₀ : Around) (base h₀ : Heap) (L : Addr) (m : Str → Option Value) (s : Shared) (Q E : Value → Shared → Prop)
   (B : Below A₀ base outer h₀) (F : Fr h₀ L s.heap m) (X : (KL w.params).In h₀) (T : Top p loose mean mg mb h₀) (hk : cs.kind = .function) (hd1 : dp + 8 < recursionLimit) (hu : un + 8 * 8 < cLine)
   (x d : Addr) (items : List Value) (n : Nat) (own : List (Addr × Obj)) (hs : Int) (tz : Tok) (k : Int) (tz' : Tok)
   (N : News h₀ L s.heap ((x, accO d items n) :: (d, szD hs tz k tz' 1) :: own)) (hxd : @LT.lt Nat _ d x) (ho : OwnOff own [x, d])
   (i : Nat) (ti : Tok) (hsz : items.length ≤ 200) (hi : i ≤ items.length)
   (hret : ∀ s' l n', Kp s s' → Fr h₀ L s'.heap m → News h₀ L s'.heap ((x, accO d (items.take i) n') :: (d, szD hs tz k tz' 1) :: (l, listOf (items.drop i).toArray 0) :: own) → @LT.lt Nat _ x l → Q (.ref l) s') :
   wpAny (model Challenge.rw_xi0019_01.row.prog w) (ktrTop dp un gd cn cs L a ccd cl outer) (call (.ref 130) [.ref x, .int i ti]) Q E s := by
  revert X; k_fill; intro X
  refine wpAny_call ?_
  k_dflt (refine' code_def ?k1 ?k2 ?k3 ?k4 ?k5 ?kA ?kF ?kK ?k6 ?k7 ?k8 ?k9 ?kB ?_ ?c2 ?c3 ?c4 ?c5; (case kA => exact rfl); (case kF => exact rfl); (case kK => first | exact rfl | assumption); (case k1 => k_asm); (case k2 => k_asm); (case k3 => k_asm); (case k4 => k_asm); (case k5 => k_asm); (case k6 => k_is); (case k7 => k_is); (case k8 => ktr_room); (case k9 => first | exact BindsTo.of_eq rfl | exact binds_K (by k_in) rfl (by k_is) rfl rfl rfl); (case c5 => decide); (case kB => exact locs rfl); (case c2 => exact rfl); (case c3 => exact rfl); (case c4 => exact rfl); k_whole; intro g' L' h' FG' F' N' B' X' T'; (try dsimp only); (try k_lift B'); (try k_fold))
  k_steps
  with_reducible rename (_ ∧ _ ∧ AllLt _ own) => lq
  exact hret _ _ _ ⟨rfl, id⟩ (by assumption) (ret_pop_from (by assumption)) lq.1

theorem ret_reset {h₀ h : Heap} {L x d l2 : Addr} {n' : Nat} {items : List Value} {D o2 : Obj} {own : List (Addr × Obj)} (kN : News h₀ L h ((l2, o2) :: (x, ⟨.ref 178, some d, .seq (items.take 0 ++ []).toArray n', #[]⟩) :: (d, D) :: own)) :
    News h₀ L h ((x, accO d [] n') :: (d, D) :: own) := drop1 kN

theorem reset_c (w : World) (p : Program) (loose : List Str) (mean : ExcName → Option Value) (mg mb : Str → Option Value) (dp un : Nat) (gd : Option (List Code)) (cn : Str) (cs : Scope) (a : Addr) (ccd : Value) (cl : List (Str × Addr)) (outer : List Env) (A₀ : Around) (base h₀ : Heap) (L : Addr) (m : Str → Option Value) (s : Shared) (Q E : Value → Shared → Prop)
   (B : Below A₀ base outer h₀) (F : Fr h₀ L s.heap m) (X : (KL w.params).In h₀) (T : Top p loose mean mg mb h₀) (hk : cs.kind = .function) (hd1 : dp + 8 < recursionLimit) (hu : un + 8 * 8 < cLine)
   (x d : Addr) (items : List Value) (n : Nat) (own : List (Addr × Obj)) (hs : Int) (tz : Tok) (k : Int) (tz' : Tok)
   (N : News h₀ L s.heap ((x, accO d items n) :: (d, szD hs tz k tz' 1) :: own)) (hxd : @LT.lt Nat _ d x) (ho : OwnOff own [x, d])
   (hsz : items.length ≤ 200)
   (hret : ∀ s' n' tz'', Kp s s' → Fr h₀ L s'.heap m → News h₀ L s'.heap ((x, accO d [] n') :: (d, szD hs tz 0 tz'' 1) :: own) → Q .none s') :
   wpAny (model Challenge.rw_xi0019_01.row.prog w) (ktrTop dp un gd cn cs L a ccd cl outer) (call (.ref 160) [.ref x]) Q E s := by
  revert X; k_fill; intro X
  refine wpAny_call ?_
  k_dflt (refine' code_def ?k1 ?k2 ?k3 ?k4 ?k5 ?kA ?kF ?kK ?k6 ?k7 ?k8 ?k9 ?kB ?_ ?c2 ?c3 ?c4 ?c5; (case kA => exact rfl); (case kF => exact rfl); (case kK => first | exact rfl | assumption); (case k1 => k_asm); (case k2 => k_asm); (case k3 => k_asm); (case k4 => k_asm); (case k5 => k_asm); (case k6 => k_is); (case k7 => k_is); (case k8 => ktr_room); (case k9 => first | exact BindsTo.of_eq rfl | exact binds_K (by k_in) rfl (by k_is) rfl rfl rfl); (case c5 => decide); (case kB => exact locs rfl); (case c2 => exact rfl); (case c3 => exact rfl); (case c4 => exact rfl); k_whole; intro g' L' h' FG' F' N' B' X' T'; (try dsimp only); (try k_lift B'); (try k_fold))
  k_steps
  exact hret _ _ _ ⟨rfl, id⟩ (by assumption) (ret_reset (by assumption))

theorem ret_reset_l {h₀ h : Heap} {L x d l : Addr} {n' : Nat} {items ys : List Value} {D o2 : Obj} {own : List (Addr × Obj)} (kN : News h₀ L h ((x, ⟨.ref 178, some d, .seq (items.take 0 ++ ys).toArray n', #[]⟩) :: (d, D) :: (l, o2) :: own)) :
    News h₀ L h ((x, accO d ys n') :: (d, D) :: own) := news_sub kN (List.forall_mem_cons.mpr ⟨.head _, List.forall_mem_cons.mpr ⟨.tail _ (.head _), fun _ h => .tail _ (.tail _ (.tail _ h))⟩⟩)

theorem reset_l_c (w : World) (p : Program) (loose : List Str) (mean : ExcName → Option Value) (mg mb : Str → Option Value) (dp un : Nat) (gd : Option (List Code)) (cn : Str) (cs : Scope) (a : Addr) (ccd : Value) (cl : List (Str × Addr)) (outer : List Env) (A₀ : Around) (base h₀ : Heap) (L : Addr) (m : Str → Option Value) (s : Shared) (Q E : Value → Shared → Prop)
   (B : Below A₀ base outer h₀) (F : Fr h₀ L s.heap m) (X : (KL w.params).In h₀) (T : Top p loose mean mg mb h₀) (hk : cs.kind = .function) (hd1 : dp + 8 < recursionLimit) (hu : un + 8 * 8 < cLine)
   (x d l : Addr) (items ys : List Value) (n nl : Nat) (own : List (Addr × Obj)) (hs : Int) (tz : Tok) (k : Int) (tz' : Tok)
   (N : News h₀ L s.heap ((x, accO d items n) :: (d, szD hs tz k tz' 1) :: (l, listOf ys.toArray nl) :: own)) (hxd : @LT.lt Nat _ d x) (hxl : @LT.lt Nat _ x l) (ho : OwnOff own [x, d])
   (hsz : items.length ≤ 200) (hsy : ys.length ≤ 200)
   (hret : ∀ s' n' tz'', Kp s s' → Fr h₀ L s'.heap m → News h₀ L s'.heap ((x, accO d ys n') :: (d, szD hs tz 0 tz'' 1) :: own) → Q .none s') :
   wpAny (model Challenge.rw_xi0019_01.row.prog w) (ktrTop dp un gd cn cs L a ccd cl outer) (call (.ref 160) [.ref x, .ref l]) Q E s := by
  revert X; k_fill; intro X
  refine wpAny_call ?_
  k_dflt (refine' code_def ?k1 ?k2 ?k3 ?k4 ?k5 ?kA ?kF ?kK ?k6 ?k7 ?k8 ?k9 ?kB ?_ ?c2 ?c3 ?c4 ?c5; (case kA => exact rfl); (case kF => exact rfl); (case kK => first | exact rfl | assumption); (case k1 => k_asm); (case k2 => k_asm); (case k3 => k_asm); (case k4 => k_asm); (case k5 => k_asm); (case k6 => k_is); (case k7 => k_is); (case k8 => ktr_room); (case k9 => first | exact BindsTo.of_eq rfl | exact binds_K (by k_in) rfl (by k_is) rfl rfl rfl); (case c5 => decide); (case kB => exact locs rfl); (case c2 => exact rfl); (case c3 => exact rfl); (case c4 => exact rfl); k_whole; intro g' L' h' FG' F' N' B' X' T'; (try dsimp only); (try k_lift B'); (try k_fold))
  k_steps
  exact hret _ _ _ ⟨rfl, id⟩ (by assumption) (ret_reset_l (by assumption))


end

section
open PySem PySem.W PyProof.Rows PySem.Calls
set_option Elab.async false
set_option maxRecDepth 100000
set_option maxHeartbeats 8000000
set_option pp.deepTerms false
set_option pp.maxSteps 3000

theorem make_accK {prog : Program} {w : World} {A : Around} {E : Value → Shared → Prop} {s : Shared} {h₀ : Heap} {L : Addr} {m : Str → Option Value} {news : List (Addr × Obj)} {K : Frag} {C : Addr} {Q : Value → Shared → Prop} {pos : List Value} {fI : Addr} (F : Fr h₀ L s.heap m) (X₀ : K.In h₀) (N : News h₀ L s.heap news) (hm : makesL K C = true) (hc : (clsIn K C).isSome = true) (hi : findIn K (.ref C) "__init__" = some (some (.ref fI))) (hf : isFn K (.ref fI) = true)
    (ha : argsOk "list.__new__" ⟨.ref C :: pos, []⟩)
    (h : ∀ x dx h', Fr h₀ L h' m → News h₀ L h' ((x, ⟨.ref C, some dx, .seq #[] 0, #[]⟩) :: (dx, dictOf [] 0) :: news) → (∀ p ∈ news, p.1 < dx) → OwnOff news [x, dx] → @LT.lt Nat _ dx x →
      codeAny (model prog w) (A.under (.builtin "type.__call__" ⟨.ref C :: pos, []⟩)) (.call (.ref fI) ⟨.ref x :: pos, []⟩) (InitBack x fun r s' => match r with | .ok (.ret v) => Q v s' | .ok _ => False | .error e => E e s') { s with heap := h' }) :
    wpAny (model prog w) A (call (.ref C) pos) Q E s := by
  have X := X₀.keeps F.keep
  obtain ⟨hh, g, d, t, os⟩ := s
  have hT : Looks (model prog w) hh (isType (.ref C)) true := by
    unfold clsIn at hc
    split at hc
    · rename_i c dd cd sl ho
      intro A Q E s k q
      unfold isType loadHead
      exact wpAny_bind (wpAny_loadPart_at (h := s.heap) (k _ _ (X _ _ ho)) (wpAny_pure q))
    · cases hc
  have l1 : ∀ p ∈ news, p.1 < hh.objs.size := fun p hp => Heap.lt_size (N p hp).1
  refine wpAny_call (make_acc (makesL_of X hm) hT ha (looks_findIn X hi) (fun self => bind_fn X self (beq_iff_eq.mp hf)) (h _ hh.objs.size _ ((F.push _).push _) ?_ l1 (fun p hp b hb => ?_) (Nat.lt_succ_self _)))
  · have := (N.push F emptyDict).push (F.push _) (accObj C hh.objs.size)
    rwa [Heap.size_push] at this
  · have := l1 p hp
    have h2 : @LT.lt Nat _ p.1 hh.objs.size := this
    rcases List.mem_cons.mp hb with rfl | hb
    · exact Nat.ne_of_lt (Nat.lt_succ_of_lt h2)
    · rcases List.mem_cons.mp hb with rfl | hb
      · exact Nat.ne_of_lt h2
      · cases hb

theorem acc_new_c (w : World) (p : Program) (loose : List Str) (mean : ExcName → Option Value) (mg mb : Str → Option Value) (dp un : Nat) (gd : Option (List Code)) (cn : Str) (cs : Scope) (a : Addr) (ccd : Value) (cl : List (Str × Addr)) (outer : List Env) (A₀ : Around) (base h₀ : Heap) (L : Addr) (m : Str → Option Value) (s : Shared) (Q E : Value → Shared → Prop)
   (B : Below A₀ base outer h₀) (F : Fr h₀ L s.heap m) (X : (KL w.params).In h₀) (T : Top p loose mean mg mb h₀) (hk : cs.kind = .function) (hd1 : dp + 12 < recursionLimit) (hu : un + 8 * 12 < cLine)
   (own : List (Addr × Obj)) (k : Int) (tk : Tok) (N : News h₀ L s.heap own)
   (hret : ∀ s' x d n' hs tz, Kp s s' → Fr h₀ L s'.heap m → News h₀ L s'.heap ((x, accO d [] n') :: (d, szD hs tz k tk 1) :: own) → (∀ p ∈ own, p.1 < d) → OwnOff own [x, d] → @LT.lt Nat _ d x → Q (.ref x) s') :
   wpAny (model Challenge.rw_xi0019_01.row.prog w) (ktrTop dp un gd cn cs L a ccd cl outer) (call (.ref 178) [.int k tk]) Q E s := by
  revert X; k_fill; intro X
  refine make_accK (K := KL w.params) (fI := 115) F X N (by kernel_rfl) (by kernel_rfl) (by kernel_rfl) (by kernel_rfl) (by unfold argsOk; kernel_rfl) fun x d h1 F1 N1 l1 ho hxd => ?_
  k_dflt (refine' ks_code_super ?k1 ?k2 ?k3 ?k4 ?k5 ?kA ?kF ?kK ?k6 ?k7 ?k8 ?k9 ?kB ?_ ?c1 ?c2 ?c3 ?c4; (case kA => exact rfl); (case kF => exact rfl); (case kK => first | exact rfl | assumption); (case k1 => k_asm); (case k2 => k_asm); (case k3 => k_asm); (case k4 => k_asm); (case k5 => k_asm); (case k6 => k_is); (case k7 => k_is); (case k8 => ktr_room); (case k9 => first | exact BindsTo.of_eq rfl | exact binds_K (by k_in) rfl (by k_is) rfl rfl rfl); (case kB => exact locs rfl); (case c1 => decide); (case c2 => exact rfl); (case c3 => exact rfl); (case c4 => exact rfl); intro g' L' h' FG' F' N' B' X' T' l1; (try k_lt l1); (try dsimp only); (try k_lift B'))
  k_steps
  exact hret _ _ _ _ _ _ ⟨rfl, id⟩ (by assumption) (drop1 (drop1 (by assumption))) (by assumption) (by assumption) (by assumption)

theorem acc_new0_c (w : World) (p : Program) (loose : List Str) (mean : ExcName → Option Value) (mg mb : Str → Option Value) (dp un : Nat) (gd : Option (List Code)) (cn : Str) (cs : Scope) (a : Addr) (ccd : Value) (cl : List (Str × Addr)) (outer : List Env) (A₀ : Around) (base h₀ : Heap) (L : Addr) (m : Str → Option Value) (s : Shared) (Q E : Value → Shared → Prop)
   (B : Below A₀ base outer h₀) (F : Fr h₀ L s.heap m) (X : (KL w.params).In h₀) (T : Top p loose mean mg mb h₀) (hk : cs.kind = .function) (hd1 : dp + 12 < recursionLimit) (hu : un + 8 * 12 < cLine)
   (own : List (Addr × Obj)) (N : News h₀ L s.heap own)
   (hret : ∀ s' x d n' hs tz tk, Kp s s' → Fr h₀ L s'.heap m → News h₀ L s'.heap ((x, accO d [] n') :: (d, szD hs tz 0 tk 1) :: own) → (∀ p ∈ own, p.1 < d) → OwnOff own [x, d] → @LT.lt Nat _ d x → Q (.ref x) s') :
   wpAny (model Challenge.rw_xi0019_01.row.prog w) (ktrTop dp un gd cn cs L a ccd cl outer) (call (.ref 178) []) Q E s := by
  revert X; k_fill; intro X
  refine make_accK (K := KL w.params) (fI := 115) F X N (by kernel_rfl) (by kernel_rfl) (by kernel_rfl) (by kernel_rfl) (by unfold argsOk; kernel_rfl) fun x d h1 F1 N1 l1 ho hxd => ?_
  k_dflt (refine' ks_code_super ?k1 ?k2 ?k3 ?k4 ?k5 ?kA ?kF ?kK ?k6 ?k7 ?k8 ?k9 ?kB ?_ ?c1 ?c2 ?c3 ?c4; (case kA => exact rfl); (case kF => exact rfl); (case kK => first | exact rfl | assumption); (case k1 => k_asm); (case k2 => k_asm); (case k3 => k_asm); (case k4 => k_asm); (case k5 => k_asm); (case k6 => k_is); (case k7 => k_is); (case k8 => ktr_room); (case k9 => first | exact BindsTo.of_eq rfl | exact binds_K (by k_in) rfl (by k_is) rfl rfl rfl); (case kB => exact locs rfl); (case c1 => decide); (case c2 => exact rfl); (case c3 => exact rfl); (case c4 => exact rfl); intro g' L' h' FG' F' N' B' X' T' l1; (try k_lt l1); (try dsimp only); (try k_lift B'))
  k_steps
  exact hret _ _ _ _ _ _ _ ⟨rfl, id⟩ (by assumption) (drop1 (drop1 (by assumption))) (by assumption) (by assumption) (by assumption)


end

section
open PySem PySem.W PyProof.Rows PySem.Calls
set_option Elab.async false
set_option maxRecDepth 100000
set_option maxHeartbeats 8000000
set_option pp.deepTerms false
set_option pp.maxSteps 3000

noncomputable abbrev accL (x d : Addr) (items : List Value) (n : Nat) (hs : Int) (tz : Tok) (k : Int) (tz' : Tok) (t1 t2 : Array Value) (own : List (Addr × Obj)) : List (Addr × Obj) :=
  (x, accO d items n) :: (d, szD hs tz k tz' 1) :: (140, tabObj t1) :: (147, tabObj t2) :: own
theorem off_cons {a : Addr} {o : Obj} {own : List (Addr × Obj)} {adr : List Addr} (h : ∀ b ∈ adr, a ≠ b) (x : OwnOff own adr) : OwnOff ((a, o) :: own) adr := fun p hp => by
  rcases List.mem_cons.mp hp with rfl | hp
  · exact h
  · exact x p hp
theorem off_sub {own : List (Addr × Obj)} {adr adr' : List Addr} (x : OwnOff own adr) (h : ∀ b ∈ adr', b ∈ adr) : OwnOff own adr' := fun p hp b hb => x p hp b (h b hb)
theorem off_tabs {x d : Addr} {t1 t2 : Array Value} {own : List (Addr × Obj)} (hxd : @LT.lt Nat _ d x) (hd3 : @LT.lt Nat _ 147 d) (ho : OwnOff own [x, d, 140, 147]) : OwnOff ((140, tabObj t1) :: (147, tabObj t2) :: own) [x, d] :=
  off_cons (fun b hb => by simp only [List.mem_cons, List.not_mem_nil, or_false] at hb; rcases hb with rfl | rfl <;> exact Nat.ne_of_lt (by lia)) (off_cons (fun b hb => by simp only [List.mem_cons, List.not_mem_nil, or_false] at hb; rcases hb with rfl | rfl <;> exact Nat.ne_of_lt (by lia)) (off_sub ho (by simp)))

theorem len2 (w : World) (p : Program) (loose : List Str) (mean : ExcName → Option Value) (mg mb : Str → Option Value) (dp un : Nat) (gd : Option (List Code)) (cn : Str) (cs : Scope) (a : Addr) (ccd : Value) (cl : List (Str × Addr)) (outer : List Env) (A₀ : Around) (base h₀ : Heap) (L : Addr) (m : Str → Option Value) (s : Shared) (Q E : Value → Shared → Prop)
   (B : Below A₀ base outer h₀) (F : Fr h₀ L s.heap m) (X : (KL w.params).In h₀) (T : Top p loose mean mg mb h₀) (hk : cs.kind = .function) (hd1 : dp + 8 < recursionLimit) (hu : un + 8 * 8 < cLine)
   (x d : Addr) (items : List Value) (n : Nat) (own : List (Addr × Obj)) (hs : Int) (tz : Tok) (k : Int) (tz' : Tok) (t1 t2 : Array Value) (ps : List (Str × Str))
   (N : News h₀ L s.heap (accL x d items n hs tz k tz' t1 t2 own)) (hxd : @LT.lt Nat _ d x) (hd3 : @LT.lt Nat _ 147 d) (ho : OwnOff own [x, d, 140, 147])(ht1 : TriplesOk t1.toList) (ht2 : TriplesOk t2.toList) (hp : PartsAre own items ps) (hsm : Small ps) (hk0 : 0 ≤ k) (hk1 : k ≤ 2 ^ 20)
   (hret : ∀ s' t' m1, Kp s s' → Fr h₀ L s'.heap m → News h₀ L s'.heap (accL x d items n hs tz k tz' m1 t2 own) → TriplesOk m1.toList → Q (.int (k + total ps) t') s') :
   wpAny (model Challenge.rw_xi0019_01.row.prog w) (ktrTop dp un gd cn cs L a ccd cl outer) (call (.ref 145) [.ref x]) Q E s :=
  len_c w p loose mean mg mb dp un gd cn cs a ccd cl outer A₀ base h₀ L m s Q E B F X T hk hd1 hu x d items n _ hs tz k tz' t1 ps N hxd (by lia) (off_cons (fun b hb => by simp only [List.mem_cons, List.not_mem_nil, or_false] at hb; rcases hb with rfl | rfl | rfl <;> first | exact Nat.ne_of_lt (by lia) | decide) (off_sub ho (by simp))) ht1 (hp.mono fun _ h => .tail _ h) hsm hk0 hk1
    fun s' t' more kp F' N' ht => hret s' t' _ kp F' N' ht

theorem str2 (w : World) (p : Program) (loose : List Str) (mean : ExcName → Option Value) (mg mb : Str → Option Value) (dp un : Nat) (gd : Option (List Code)) (cn : Str) (cs : Scope) (a : Addr) (ccd : Value) (cl : List (Str × Addr)) (outer : List Env) (A₀ : Around) (base h₀ : Heap) (L : Addr) (m : Str → Option Value) (s : Shared) (Q E : Value → Shared → Prop)
   (B : Below A₀ base outer h₀) (F : Fr h₀ L s.heap m) (X : (KL w.params).In h₀) (T : Top p loose mean mg mb h₀) (hk : cs.kind = .function) (hd1 : dp + 8 < recursionLimit) (hu : un + 8 * 8 < cLine)
   (x d : Addr) (items : List Value) (n : Nat) (own : List (Addr × Obj)) (hs : Int) (tz : Tok) (k : Int) (tz' : Tok) (t1 t2 : Array Value) (ps : List (Str × Str))
   (N : News h₀ L s.heap (accL x d items n hs tz k tz' t1 t2 own)) (hxd : @LT.lt Nat _ d x) (hd3 : @LT.lt Nat _ 147 d) (ho : OwnOff own [x, d, 140, 147])(ht1 : TriplesOk t1.toList) (ht2 : TriplesOk t2.toList) (hp : PartsAre own items ps) (hsm : Small ps) (hk0 : 0 ≤ k) (hk1 : k ≤ 2 ^ 20)
   (hret : ∀ s' t' m2, Kp s s' → Fr h₀ L s'.heap m → News h₀ L s'.heap (accL x d items n hs tz k tz' t1 m2 own) → TriplesOk m2.toList → Q (.str (flat ps) t') s') :
   wpAny (model Challenge.rw_xi0019_01.row.prog w) (ktrTop dp un gd cn cs L a ccd cl outer) (call (.ref 152) [.ref x]) Q E s :=
  str_c w p loose mean mg mb dp un gd cn cs a ccd cl outer A₀ base h₀ L m s Q E B F X T hk hd1 hu x d items n ((140, tabObj t1) :: own) hs tz k tz' t2 ps (news_sub N (by ((repeat refine List.forall_mem_cons.mpr ⟨by k_mem, ?_⟩); first | exact (fun _ h => absurd h List.not_mem_nil) | (intro _ h; repeat (first | exact h | refine List.Mem.tail _ ?_))))) hxd hd3 (off_cons (fun b hb => by simp only [List.mem_cons, List.not_mem_nil, or_false] at hb; rcases hb with rfl | rfl | rfl <;> first | exact Nat.ne_of_lt (by lia) | decide) (off_sub ho (by simp))) ht2 (hp.mono fun _ h => .tail _ h) hsm
    fun s' t' more kp F' N' ht => hret s' t' _ kp F' (news_sub N' (by ((repeat refine List.forall_mem_cons.mpr ⟨by k_mem, ?_⟩); first | exact (fun _ h => absurd h List.not_mem_nil) | (intro _ h; repeat (first | exact h | refine List.Mem.tail _ ?_))))) ht

theorem count2 (w : World) (p : Program) (loose : List Str) (mean : ExcName → Option Value) (mg mb : Str → Option Value) (dp un : Nat) (gd : Option (List Code)) (cn : Str) (cs : Scope) (a : Addr) (ccd : Value) (cl : List (Str × Addr)) (outer : List Env) (A₀ : Around) (base h₀ : Heap) (L : Addr) (m : Str → Option Value) (s : Shared) (Q E : Value → Shared → Prop)
   (B : Below A₀ base outer h₀) (F : Fr h₀ L s.heap m) (X : (KL w.params).In h₀) (T : Top p loose mean mg mb h₀) (hk : cs.kind = .function) (hd1 : dp + 8 < recursionLimit) (hu : un + 8 * 8 < cLine)
   (x d : Addr) (items : List Value) (n : Nat) (own : List (Addr × Obj)) (hs : Int) (tz : Tok) (k : Int) (tz' : Tok) (t1 t2 : Array Value) (ps : List (Str × Str))
   (N : News h₀ L s.heap (accL x d items n hs tz k tz' t1 t2 own)) (hxd : @LT.lt Nat _ d x) (hd3 : @LT.lt Nat _ 147 d) (ho : OwnOff own [x, d, 140, 147])(hsz : items.length ≤ 200)
   (hret : ∀ s' t', Kp s s' → Fr h₀ L s'.heap m → News h₀ L s'.heap (accL x d items n hs tz k tz' t1 t2 own) → Q (.int items.length t') s') :
   wpAny (model Challenge.rw_xi0019_01.row.prog w) (ktrTop dp un gd cn cs L a ccd cl outer) (call (.ref 175) [.ref x]) Q E s :=
  count_c w p loose mean mg mb dp un gd cn cs a ccd cl outer A₀ base h₀ L m s Q E B F X T hk hd1 hu x d items n _ hs tz k tz' N hxd (off_tabs hxd hd3 ho) hsz hret

theorem push2 (w : World) (p : Program) (loose : List Str) (mean : ExcName → Option Value) (mg mb : Str → Option Value) (dp un : Nat) (gd : Option (List Code)) (cn : Str) (cs : Scope) (a : Addr) (ccd : Value) (cl : List (Str × Addr)) (outer : List Env) (A₀ : Around) (base h₀ : Heap) (L : Addr) (m : Str → Option Value) (s : Shared) (Q E : Value → Shared → Prop)
   (B : Below A₀ base outer h₀) (F : Fr h₀ L s.heap m) (X : (KL w.params).In h₀) (T : Top p loose mean mg mb h₀) (hk : cs.kind = .function) (hd1 : dp + 8 < recursionLimit) (hu : un + 8 * 8 < cLine)
   (x d : Addr) (items : List Value) (n : Nat) (own : List (Addr × Obj)) (hs : Int) (tz : Tok) (k : Int) (tz' : Tok) (t1 t2 : Array Value) (ps : List (Str × Str))
   (N : News h₀ L s.heap (accL x d items n hs tz k tz' t1 t2 own)) (hxd : @LT.lt Nat _ d x) (hd3 : @LT.lt Nat _ 147 d) (ho : OwnOff own [x, d, 140, 147])(s1 s2 : Str) (u1 u2 : Tok) (hsz : items.length ≤ 200)
   (hret : ∀ s' q n', Kp s s' → Fr h₀ L s'.heap m → News h₀ L s'.heap (accL x d (items ++ [.ref q]) n' hs tz k tz' t1 t2 ((q, tupO s1 u1 s2 u2) :: own)) → Q .none s') :
   wpAny (model Challenge.rw_xi0019_01.row.prog w) (ktrTop dp un gd cn cs L a ccd cl outer) (call (.ref 122) [.ref x, .str s1 u1, .str s2 u2]) Q E s :=
  push_c w p loose mean mg mb dp un gd cn cs a ccd cl outer A₀ base h₀ L m s Q E B F X T hk hd1 hu x d items n _ hs tz k tz' N hxd (off_tabs hxd hd3 ho) s1 s2 u1 u2 hsz fun s' q n' kp F' N' => hret s' q n' kp F' (news_sub N' (by ((repeat refine List.forall_mem_cons.mpr ⟨by k_mem, ?_⟩); first | exact (fun _ h => absurd h List.not_mem_nil) | (intro _ h; repeat (first | exact h | refine List.Mem.tail _ ?_)))))

theorem push2_code (w : World) (p : Program) (loose : List Str) (mean : ExcName → Option Value) (mg mb : Str → Option Value) (dp un : Nat) (gd : Option (List Code)) (cn : Str) (cs : Scope) (a : Addr) (ccd : Value) (cl : List (Str × Addr)) (outer : List Env) (A₀ : Around) (base h₀ : Heap) (L : Addr) (m : Str → Option Value) (s : Shared) (Q E : Value → Shared → Prop)
   (B : Below A₀ base outer h₀) (F : Fr h₀ L s.heap m) (X : (KL w.params).In h₀) (T : Top p loose mean mg mb h₀) (hk : cs.kind = .function) (hd1 : dp + 8 < recursionLimit) (hu : un + 8 * 8 < cLine)
   (x d : Addr) (items : List Value) (n : Nat) (own : List (Addr × Obj)) (hs : Int) (tz : Tok) (k : Int) (tz' : Tok) (t1 t2 : Array Value) (ps : List (Str × Str))
   (N : News h₀ L s.heap (accL x d items n hs tz k tz' t1 t2 own)) (hxd : @LT.lt Nat _ d x) (hd3 : @LT.lt Nat _ 147 d) (ho : OwnOff own [x, d, 140, 147])(s1 s2 : Str) (u1 u2 : Tok) (hsz : items.length ≤ 200)
   (hret : ∀ s' q n', Kp s s' → Fr h₀ L s'.heap m → News h₀ L s'.heap (accL x d (items ++ [.ref q]) n' hs tz k tz' t1 t2 ((q, tupO s1 u1 s2 u2) :: own)) → Q .none s') :
   codeAny (model Challenge.rw_xi0019_01.row.prog w) (ktrTop dp un gd cn cs L a ccd cl outer) (.call (.ref 122) ⟨[.ref x, .str s1 u1, .str s2 u2], []⟩) (fun r s' => match r with | .ok (.ret v) => Q v s' | .ok _ => False | .error e => E e s') s :=
  push_code w p loose mean mg mb dp un gd cn cs a ccd cl outer A₀ base h₀ L m s Q E B F X T hk hd1 hu x d items n _ hs tz k tz' N hxd (off_tabs hxd hd3 ho) s1 s2 u1 u2 hsz fun s' q n' kp F' N' => hret s' q n' kp F' (news_sub N' (by ((repeat refine List.forall_mem_cons.mpr ⟨by k_mem, ?_⟩); first | exact (fun _ h => absurd h List.not_mem_nil) | (intro _ h; repeat (first | exact h | refine List.Mem.tail _ ?_)))))

theorem pop2 (w : World) (p : Program) (loose : List Str) (mean : ExcName → Option Value) (mg mb : Str → Option Value) (dp un : Nat) (gd : Option (List Code)) (cn : Str) (cs : Scope) (a : Addr) (ccd : Value) (cl : List (Str × Addr)) (outer : List Env) (A₀ : Around) (base h₀ : Heap) (L : Addr) (m : Str → Option Value) (s : Shared) (Q E : Value → Shared → Prop)
   (B : Below A₀ base outer h₀) (F : Fr h₀ L s.heap m) (X : (KL w.params).In h₀) (T : Top p loose mean mg mb h₀) (hk : cs.kind = .function) (hd1 : dp + 10 < recursionLimit) (hu : un + 8 * 10 < cLine)
   (x d : Addr) (items : List Value) (y : Value) (n : Nat) (own : List (Addr × Obj)) (hs : Int) (tz : Tok) (k : Int) (tz' : Tok) (t1 t2 : Array Value)
   (N : News h₀ L s.heap (accL x d (items ++ [y]) n hs tz k tz' t1 t2 own)) (hxd : @LT.lt Nat _ d x) (hd3 : @LT.lt Nat _ 147 d) (ho : OwnOff own [x, d, 140, 147]) (hsz : items.length < 200)
   (hret : ∀ s' n', Kp s s' → Fr h₀ L s'.heap m → News h₀ L s'.heap (accL x d items n' hs tz k tz' t1 t2 own) → Q y s') :
   wpAny (model Challenge.rw_xi0019_01.row.prog w) (ktrTop dp un gd cn cs L a ccd cl outer) (call (.ref 138) [.ref x]) Q E s :=
  pop_c w p loose mean mg mb dp un gd cn cs a ccd cl outer A₀ base h₀ L m s Q E B F X T hk hd1 hu x d items y n _ hs tz k tz' N hxd (off_tabs hxd hd3 ho) hsz hret

theorem pop_nil2 (w : World) (p : Program) (loose : List Str) (mean : ExcName → Option Value) (mg mb : Str → Option Value) (dp un : Nat) (gd : Option (List Code)) (cn : Str) (cs : Scope) (a : Addr) (ccd : Value) (cl : List (Str × Addr)) (outer : List Env) (A₀ : Around) (base h₀ : Heap) (L : Addr) (m : Str → Option Value) (s : Shared) (Q E : Value → Shared → Prop)
   (B : Below A₀ base outer h₀) (F : Fr h₀ L s.heap m) (X : (KL w.params).In h₀) (T : Top p loose mean mg mb h₀) (hk : cs.kind = .function) (hd1 : dp + 10 < recursionLimit) (hu : un + 8 * 10 < cLine)
   (x d : Addr) (n : Nat) (own : List (Addr × Obj)) (hs : Int) (tz : Tok) (k : Int) (tz' : Tok) (t1 t2 : Array Value)
   (N : News h₀ L s.heap (accL x d [] n hs tz k tz' t1 t2 own)) (hxd : @LT.lt Nat _ d x) (hd3 : @LT.lt Nat _ 147 d) (ho : OwnOff own [x, d, 140, 147])
   (hret : ∀ s' q u1 u2, Kp s s' → Fr h₀ L s'.heap m → News h₀ L s'.heap (accL x d [] n hs tz k tz' t1 t2 ((q, tupO (Str.ofString "") u1 (Str.ofString "") u2) :: own)) → Q (.ref q) s') :
   wpAny (model Challenge.rw_xi0019_01.row.prog w) (ktrTop dp un gd cn cs L a ccd cl outer) (call (.ref 138) [.ref x]) Q E s :=
  pop_nil_c w p loose mean mg mb dp un gd cn cs a ccd cl outer A₀ base h₀ L m s Q E B F X T hk hd1 hu x d n _ hs tz k tz' N hxd (off_tabs hxd hd3 ho) fun s' q u1 u2 kp F' N' => hret s' q u1 u2 kp F' (news_sub N' (by ((repeat refine List.forall_mem_cons.mpr ⟨by k_mem, ?_⟩); first | exact (fun _ h => absurd h List.not_mem_nil) | (intro _ h; repeat (first | exact h | refine List.Mem.tail _ ?_)))))

theorem pop_from2 (w : World) (p : Program) (loose : List Str) (mean : ExcName → Option Value) (mg mb : Str → Option Value) (dp un : Nat) (gd : Option (List Code)) (cn : Str) (cs : Scope) (a : Addr) (ccd : Value) (cl : List (Str × Addr)) (outer : List Env) (A₀ : Around) (base h₀ : Heap) (L : Addr) (m : Str → Option Value) (s : Shared) (Q E : Value → Shared → Prop)
   (B : Below A₀ base outer h₀) (F : Fr h₀ L s.heap m) (X : (KL w.params).In h₀) (T : Top p loose mean mg mb h₀) (hk : cs.kind = .function) (hd1 : dp + 8 < recursionLimit) (hu : un + 8 * 8 < cLine)
   (x d : Addr) (items : List Value) (n : Nat) (own : List (Addr × Obj)) (hs : Int) (tz : Tok) (k : Int) (tz' : Tok) (t1 t2 : Array Value) (ps : List (Str × Str))
   (N : News h₀ L s.heap (accL x d items n hs tz k tz' t1 t2 own)) (hxd : @LT.lt Nat _ d x) (hd3 : @LT.lt Nat _ 147 d) (ho : OwnOff own [x, d, 140, 147])(i : Nat) (ti : Tok) (hsz : items.length ≤ 200) (hi : i ≤ items.length)
   (hret : ∀ s' l n', Kp s s' → Fr h₀ L s'.heap m → News h₀ L s'.heap (accL x d (items.take i) n' hs tz k tz' t1 t2 ((l, listOf (items.drop i).toArray 0) :: own)) → @LT.lt Nat _ x l → Q (.ref l) s') :
   wpAny (model Challenge.rw_xi0019_01.row.prog w) (ktrTop dp un gd cn cs L a ccd cl outer) (call (.ref 130) [.ref x, .int i ti]) Q E s :=
  pop_from_c w p loose mean mg mb dp un gd cn cs a ccd cl outer A₀ base h₀ L m s Q E B F X T hk hd1 hu x d items n _ hs tz k tz' N hxd (off_tabs hxd hd3 ho) i ti hsz hi fun s' l n' kp F' N' l1 => hret s' l n' kp F' (news_sub N' (by ((repeat refine List.forall_mem_cons.mpr ⟨by k_mem, ?_⟩); first | exact (fun _ h => absurd h List.not_mem_nil) | (intro _ h; repeat (first | exact h | refine List.Mem.tail _ ?_))))) l1

theorem reset2 (w : World) (p : Program) (loose : List Str) (mean : ExcName → Option Value) (mg mb : Str → Option Value) (dp un : Nat) (gd : Option (List Code)) (cn : Str) (cs : Scope) (a : Addr) (ccd : Value) (cl : List (Str × Addr)) (outer : List Env) (A₀ : Around) (base h₀ : Heap) (L : Addr) (m : Str → Option Value) (s : Shared) (Q E : Value → Shared → Prop)
   (B : Below A₀ base outer h₀) (F : Fr h₀ L s.heap m) (X : (KL w.params).In h₀) (T : Top p loose mean mg mb h₀) (hk : cs.kind = .function) (hd1 : dp + 8 < recursionLimit) (hu : un + 8 * 8 < cLine)
   (x d : Addr) (items : List Value) (n : Nat) (own : List (Addr × Obj)) (hs : Int) (tz : Tok) (k : Int) (tz' : Tok) (t1 t2 : Array Value) (ps : List (Str × Str))
   (N : News h₀ L s.heap (accL x d items n hs tz k tz' t1 t2 own)) (hxd : @LT.lt Nat _ d x) (hd3 : @LT.lt Nat _ 147 d) (ho : OwnOff own [x, d, 140, 147])(hsz : items.length ≤ 200)
   (hret : ∀ s' n' tz'', Kp s s' → Fr h₀ L s'.heap m → News h₀ L s'.heap (accL x d [] n' hs tz 0 tz'' t1 t2 own) → Q .none s') :
   wpAny (model Challenge.rw_xi0019_01.row.prog w) (ktrTop dp un gd cn cs L a ccd cl outer) (call (.ref 160) [.ref x]) Q E s :=
  reset_c w p loose mean mg mb dp un gd cn cs a ccd cl outer A₀ base h₀ L m s Q E B F X T hk hd1 hu x d items n _ hs tz k tz' N hxd (off_tabs hxd hd3 ho) hsz hret

theorem reset_l2 (w : World) (p : Program) (loose : List Str) (mean : ExcName → Option Value) (mg mb : Str → Option Value) (dp un : Nat) (gd : Option (List Code)) (cn : Str) (cs : Scope) (a : Addr) (ccd : Value) (cl : List (Str × Addr)) (outer : List Env) (A₀ : Around) (base h₀ : Heap) (L : Addr) (m : Str → Option Value) (s : Shared) (Q E : Value → Shared → Prop)
   (B : Below A₀ base outer h₀) (F : Fr h₀ L s.heap m) (X : (KL w.params).In h₀) (T : Top p loose mean mg mb h₀) (hk : cs.kind = .function) (hd1 : dp + 8 < recursionLimit) (hu : un + 8 * 8 < cLine)
   (x d l : Addr) (items ys : List Value) (n nl : Nat) (own : List (Addr × Obj)) (hs : Int) (tz : Tok) (k : Int) (tz' : Tok) (t1 t2 : Array Value)
   (N : News h₀ L s.heap (accL x d items n hs tz k tz' t1 t2 ((l, listOf ys.toArray nl) :: own))) (hxd : @LT.lt Nat _ d x) (hd3 : @LT.lt Nat _ 147 d) (hlx : @LT.lt Nat _ x l) (ho : OwnOff own [x, d, 140, 147]) (hsz : items.length ≤ 200) (hsy : ys.length ≤ 200)
   (hret : ∀ s' n' tz'', Kp s s' → Fr h₀ L s'.heap m → News h₀ L s'.heap (accL x d ys n' hs tz 0 tz'' t1 t2 own) → Q .none s') :
   wpAny (model Challenge.rw_xi0019_01.row.prog w) (ktrTop dp un gd cn cs L a ccd cl outer) (call (.ref 160) [.ref x, .ref l]) Q E s :=
  reset_l_c w p loose mean mg mb dp un gd cn cs a ccd cl outer A₀ base h₀ L m s Q E B F X T hk hd1 hu x d l items ys n nl ((140, tabObj t1) :: (147, tabObj t2) :: own) hs tz k tz' (news_sub N (by ((repeat refine List.forall_mem_cons.mpr ⟨by k_mem, ?_⟩); first | exact (fun _ h => absurd h List.not_mem_nil) | (intro _ h; repeat (first | exact h | refine List.Mem.tail _ ?_))))) hxd hlx (off_tabs hxd hd3 ho) hsz hsy hret


end

section
open PySem PySem.W PyProof.Rows PySem.Calls
set_option Elab.async false
set_option maxRecDepth 100000
set_option maxHeartbeats 8000000
set_option pp.deepTerms false
set_option pp.maxSteps 3000

local macro_rules | `(tactic| walk_at "own line") => `(tactic| skip)
theorem onlyws2 (w : World) (p : Program) (loose : List Str) (mean : ExcName → Option Value) (mg mb : Str → Option Value) (dp un : Nat) (gd : Option (List Code)) (cn : Str) (cs : Scope) (a : Addr) (ccd : Value) (cl : List (Str × Addr)) (outer : List Env) (A₀ : Around) (base h₀ : Heap) (L : Addr) (m : Str → Option Value) (s : Shared) (Q E : Value → Shared → Prop)
   (B : Below A₀ base outer h₀) (F : Fr h₀ L s.heap m) (X : (KL w.params).In h₀) (T : Top p loose mean mg mb h₀) (hk : cs.kind = .function) (hd1 : dp + 12 < recursionLimit) (hu : un + 8 * 12 < cLine)
   (x d : Addr) (items : List Value) (n : Nat) (own : List (Addr × Obj)) (hs : Int) (tz : Tok) (k : Int) (tz' : Tok) (t1 t2 : Array Value) (ps : List (Str × Str))
   (N : News h₀ L s.heap (accL x d items n hs tz k tz' t1 t2 own)) (hxd : @LT.lt Nat _ d x) (hd3 : @LT.lt Nat _ 147 d) (ho : OwnOff own [x, d, 140, 147])(ht1 : TriplesOk t1.toList) (ht2 : TriplesOk t2.toList) (hp : PartsAre own items ps) (hsm : Small ps) (hk0 : 0 ≤ k) (hk1 : k ≤ 2 ^ 20)
   (hret : ∀ s' m1 m2, Kp s s' → Fr h₀ L s'.heap m → News h₀ L s'.heap (accL x d items n hs tz k tz' m1 m2 own) → TriplesOk m1.toList → TriplesOk m2.toList → Q (.bool (decide (k = 0) && (decide (total ps = 0) || Txt.isspace (flat ps)))) s') :
   wpAny (model Challenge.rw_xi0019_01.row.prog w) (ktrTop dp un gd cn cs L a ccd cl outer) (call (.ref 167) [.ref x]) Q E s := by
  revert X; k_fill; intro X
  refine wpAny_call ?_
  k_dflt (refine' code_def ?k1 ?k2 ?k3 ?k4 ?k5 ?kA ?kF ?kK ?k6 ?k7 ?k8 ?k9 ?kB ?_ ?c2 ?c3 ?c4 ?c5; (case kA => exact rfl); (case kF => exact rfl); (case kK => first | exact rfl | assumption); (case k1 => k_asm); (case k2 => k_asm); (case k3 => k_asm); (case k4 => k_asm); (case k5 => k_asm); (case k6 => k_is); (case k7 => k_is); (case k8 => ktr_room); (case k9 => first | exact BindsTo.of_eq rfl | exact binds_K (by k_in) rfl (by k_is) rfl rfl rfl); (case c5 => decide); (case kB => exact locs rfl); (case c2 => exact rfl); (case c3 => exact rfl); (case c4 => exact rfl); k_whole; intro g' L' h' FG' F' N' B' X' T'; (try dsimp only); (try k_lift B'); (try k_fold))
  k_steps
  · k_here
    k_dflt (refine' truthy_len ?k1 ?k2 ?k3 ?k4 ?k5 ?k6 ?_; (case k1 => k_asm); (case k2 => k_asm); (case k3 => k_inst); (case k4 => k_is); (case k5 => k_is); (case k6 => k_is))
    k_here
    k_dflt (refine' len2 _ _ _ _ _ _ _ _ _ _ _ _ _ _ _ _ _ _ _ _ _ _ _ ?cB ?cF ?cX ?cT ?ck ?cd ?cu _ _ _ _ _ _ _ _ _ _ _ _ ?N hxd hd3 ho ht1 ht2 hp hsm hk0 hk1 ?_; (case cB => k_asm); (case cF => k_asm); (case cX => k_asm); (case cT => k_asm); (case ck => first | exact rfl | assumption); (case cd => ktr_room); (case cu => ktr_units))
    case N => k_asm
    intro s1 u1 m1 kp1 F1 N1 hm1
    have e20 : (2 : Int) ^ 20 = 1048576 := by decide
    have e63 : (2 : Int) ^ 63 = 9223372036854775808 := by decide
    have htot := total_small hsm ps.length
    rw [List.take_length] at htot
    refine ⟨⟨by lia, by lia⟩, ?_⟩
    k_steps
    · k_here
      k_dflt (refine' kso_call ?k1 ?k2 ?k3 ?k4 ?k5 ?_; (case k1 => ktr_units); (case k2 => k_in); (case k3 => k_inst); (case k4 => k_is); (case k5 => k_is); k_whole)
      k_here
      k_dflt (refine' str2 _ _ _ _ _ _ _ _ _ _ _ _ _ _ _ _ _ _ _ _ _ _ _ ?cB ?cF ?cX ?cT ?ck ?cd ?cu _ _ _ _ _ _ _ _ _ _ _ _ ?N hxd hd3 ho hm1 ht2 hp hsm hk0 hk1 ?_; (case cB => k_asm); (case cF => k_asm); (case cX => k_asm); (case cT => k_asm); (case ck => first | exact rfl | assumption); (case cd => ktr_room); (case cu => ktr_units))
      case N => k_asm
      intro s2 u2 m2 kp2 F2 N2 hm2
      dsimp only [StrBack]
      k_steps
      have hk' : k = 0 := by assumption
      have hne : ¬ total ps = 0 := by lia
      have hz := hret s2 m1 m2 ⟨kp2.os.trans kp1.os, fun g => kp2.bare (kp1.bare g)⟩ (by assumption) (by assumption) hm1 hm2
      rw [decide_eq_true hk', decide_eq_false hne] at hz
      exact hz
    · have hk' : k = 0 := by assumption
      have hne : total ps = 0 := by lia
      have hz := hret { s1 with toks := s1.toks + 1 } m1 t2 ⟨kp1.os, fun g => kp1.bare g⟩ (by assumption) (by assumption) hm1 ht2
      rw [decide_eq_true hk', decide_eq_true hne] at hz
      have e : (!((k + (total ps : Int)) != 0)) = true := by rw [hk', hne]; rfl
      rw [e]
      exact hz
  · have hk' : ¬ k = 0 := by assumption
    have e : (k == 0) = (decide (k = 0) && (decide (total ps = 0) || Txt.isspace (flat ps))) := by rw [decide_eq_false hk']; simpa using hk'
    rw [e]
    exact hret _ t1 t2 ⟨rfl, id⟩ (by assumption) (by assumption) ht1 ht2


end

section
open PySem PySem.W PyProof.Rows PySem.Calls
set_option Elab.async false
set_option maxRecDepth 100000
set_option maxHeartbeats 8000000
set_option pp.deepTerms false
set_option pp.maxSteps 3000

structure VP where
  (h1 h2 h3 h4 h5 h6 : Int)
  (a1 a2 a3 a4 a5 a6 b1 b2 b3 b4 : Tok)
  (mx : Int)
  (cw : Str)
  (cl : Int)
  (sp : Str)
noncomputable abbrev vfD (P : VP) (ln x : Addr) : Obj := dictOf [⟨P.h1, .str (Str.ofString "_maxlen") P.a1, .int P.mx P.b1⟩, ⟨P.h2, .str (Str.ofString "_continuation_ws") P.a2, .str P.cw P.b2⟩, ⟨P.h3, .str (Str.ofString "_continuation_ws_len") P.a3, .int P.cl P.b3⟩,
  ⟨P.h4, .str (Str.ofString "_splitchars") P.a4, .str P.sp P.b4⟩, ⟨P.h5, .str (Str.ofString "_lines") P.a5, .ref ln⟩, ⟨P.h6, .str (Str.ofString "_current_line") P.a6, .ref x⟩] 6
noncomputable abbrev vfL (P : VP) (f fd ln x d : Addr) (items : List Value) (n : Nat) (hs : Int) (tz : Tok) (k : Int) (tz' : Tok) (t1 t2 : Array Value) (lines : List Value) (nl : Nat) (own : List (Addr × Obj)) : List (Addr × Obj) :=
  accL x d items n hs tz k tz' t1 t2 ((f, instObj 94 fd) :: (fd, vfD P ln x) :: (ln, listOf lines.toArray nl) :: own)
structure VOrd (f fd ln x d : Addr) : Prop where
  o0 : @LT.lt Nat _ 147 fd
  o1 : @LT.lt Nat _ fd f
  o2 : @LT.lt Nat _ f ln
  o3 : @LT.lt Nat _ ln d
  o4 : @LT.lt Nat _ d x

theorem off_vf {f fd ln x d : Addr} {of ofd ol : Obj} {own : List (Addr × Obj)} (hor : VOrd f fd ln x d) (ho : OwnOff own [x, d, 140, 147, f, fd, ln]) : OwnOff ((f, of) :: (fd, ofd) :: (ln, ol) :: own) [x, d, 140, 147] := by
  obtain ⟨o0, o1, o2, o3, o4⟩ := hor
  refine off_cons ?_ (off_cons ?_ (off_cons ?_ (off_sub ho (by simp)))) <;>
  · intro b hb
    simp only [List.mem_cons, List.not_mem_nil, or_false] at hb
    rcases hb with rfl | rfl | rfl | rfl <;> first | exact Nat.ne_of_lt (by lia) | exact Nat.ne_of_gt (by lia)

theorem off_new {h₀ h : Heap} {L : Addr} {P : VP} {f fd ln x d q : Addr} {items : List Value} {n : Nat} {own : List (Addr × Obj)} {hs : Int} {tz : Tok} {k : Int} {tz' : Tok} {t1 t2 : Array Value} {lines : List Value} {nl : Nat} {a b : Str} {ta tb : Tok}
    (N : News h₀ L h (vfL P f fd ln x d items n hs tz k tz' t1 t2 lines nl own)) (hq : (q, tupO a ta b tb) ∈ own) : ∀ y ∈ [x, d, 140, 147, f, fd, ln], q ≠ y := by
  have hm : (q, tupO a ta b tb) ∈ vfL P f fd ln x d items n hs tz k tz' t1 t2 lines nl own := .tail _ (.tail _ (.tail _ (.tail _ (.tail _ (.tail _ (.tail _ hq))))))
  have key : ∀ (y : Addr) (o : Obj), (y, o) ∈ vfL P f fd ln x d items n hs tz k tz' t1 t2 lines nl own → o.cls ≠ .type "tuple" → q ≠ y := fun y o h1 h2 e => by
    have e1 := (N _ hm).1
    have e2 := (N _ h1).1
    dsimp only at e1 e2
    rw [e, e2] at e1
    cases e1
    exact h2 rfl
  intro y hy
  simp only [List.mem_cons, List.not_mem_nil, or_false] at hy
  rcases hy with rfl | rfl | rfl | rfl | rfl | rfl | rfl
  · exact key _ _ (.head _) (by simp)
  · exact key _ _ (.tail _ (.head _)) (by simp)
  · exact key _ _ (.tail _ (.tail _ (.head _))) (by simp)
  · exact key _ _ (.tail _ (.tail _ (.tail _ (.head _)))) (by simp)
  · exact key _ _ (.tail _ (.tail _ (.tail _ (.tail _ (.head _))))) (by simp)
  · exact key _ _ (.tail _ (.tail _ (.tail _ (.tail _ (.tail _ (.head _)))))) (by simp)
  · exact key _ _ (.tail _ (.tail _ (.tail _ (.tail _ (.tail _ (.tail _ (.head _))))))) (by simp)

theorem strs_snoc {lines : List Value} {rows : List Str} (h : StrsAre lines rows) (a : Str) (t : Tok) : StrsAre (lines ++ [.str a t]) (rows ++ [a]) := by
  induction h with
  | nil => exact .cons _ _ .nil
  | cons y t' _ ih => exact .cons _ _ ih
theorem shaped_pair {a b : Str} (ha : PyData.strOk a = true) (hb : PyData.strOk b = true) : SeqAt.shaped (.tuple [.str a, .str b]) = true := by
  simp [SeqAt.shaped, PyData.canLay0, PyData.canLayAll0, PyData.depth, PyData.depthAll, ha, hb]
local macro_rules | `(tactic| walk_at "own line") => `(tactic| skip)
local macro_rules | `(tactic| walk_at "compareOp NotEq ref ref") => `(tactic| (k_here; (with_reducible show wpAny _ _ (compareOp CmpOp.NotEq (Value.ref _) (Value.ref _)) _ _ _); k_dflt (refine ne_dataH (by ke_read) (by ke_read) (by first | exact shaped_pair (by assumption) (by assumption) | ke_shaped) (by first | exact shaped_pair (by decide) (by decide) | ke_shaped) (by ktr_units) ?_); ke_norm))
theorem newline_b (w : World) (p : Program) (loose : List Str) (mean : ExcName → Option Value) (mg mb : Str → Option Value) (dp un : Nat) (gd : Option (List Code)) (cn : Str) (cs : Scope) (a : Addr) (ccd : Value) (cl : List (Str × Addr)) (outer : List Env) (A₀ : Around) (base h₀ : Heap) (L : Addr) (m : Str → Option Value) (s : Shared) (Q E : Value → Shared → Prop)
   (B : Below A₀ base outer h₀) (F : Fr h₀ L s.heap m) (X : (KL w.params).In h₀) (T : Top p loose mean mg mb h₀) (hk : cs.kind = .function) (hd1 : dp + 16 < recursionLimit) (hu : un + 8 * 16 < cLine)
   (P : VP) (f fd ln x d q : Addr) (its : List Value) (n : Nat) (own : List (Addr × Obj)) (hs : Int) (tz : Tok) (k : Int) (tz' : Tok) (t1 t2 : Array Value) (qs : List (Str × Str)) (a1 b1 : Str) (ta tb : Tok) (lines : List Value) (nl : Nat) (rows : List Str)
   (N : News h₀ L s.heap (vfL P f fd ln x d (its ++ [.ref q]) n hs tz k tz' t1 t2 lines nl own)) (hor : VOrd f fd ln x d) (ho : OwnOff own [x, d, 140, 147, f, fd, ln])
   (ht1 : TriplesOk t1.toList) (ht2 : TriplesOk t2.toList) (hp : PartsAre own its qs) (hq : (q, tupO a1 ta b1 tb) ∈ own) (hsm : Small (qs ++ [(a1, b1)])) (hk0 : 0 ≤ k) (hk1 : k ≤ 2 ^ 20) (hl : StrsAre lines rows) (hlr : rows.length ≤ 200)
   (hok1 : PyData.strOk a1 = true) (hok2 : PyData.strOk b1 = true) (hab : ¬ (a1 = Str.ofString " " ∧ b1 = Str.ofString "")) (hpos : 0 < k + total (qs ++ [(a1, b1)])) (hws : k ≠ 0 ∨ (total (qs ++ [(a1, b1)]) ≠ 0 ∧ Txt.isspace (flat (qs ++ [(a1, b1)])) = false))
   (hret : ∀ s' own' n' tz'' nl' lines' m1 m2, Kp s s' → Fr h₀ L s'.heap m → News h₀ L s'.heap (vfL P f fd ln x d [] n' hs tz 0 tz'' m1 m2 lines' nl' own') → StrsAre lines' (rows ++ [flat (qs ++ [(a1, b1)])]) → TriplesOk m1.toList → TriplesOk m2.toList → OwnOff own' [x, d, 140, 147, f, fd, ln] → (∀ p ∈ own, p ∈ own') → Q .none s') :
   wpAny (model Challenge.rw_xi0019_01.row.prog w) (ktrTop dp un gd cn cs L a ccd cl outer) (call (.ref 56) [.ref f]) Q E s := by
  revert X; k_fill; intro X
  have o0 := hor.o0; have o1 := hor.o1; have o2 := hor.o2; have o3 := hor.o3; have o4 := hor.o4
  have hxd := o4
  have ho2 : OwnOff ((q, tupO a1 ta b1 tb) :: own) [x, d, 140, 147, f, fd, ln] := off_cons (fun b hb => ho _ hq b hb) ho
  have N0 : News h₀ L s.heap (vfL P f fd ln x d (its ++ [.ref q]) n hs tz k tz' t1 t2 lines nl ((q, tupO a1 ta b1 tb) :: own)) := news_sub N (by (iterate 7 refine sub_cons (by k_mem) ?_); exact sub_cons (.tail _ (.tail _ (.tail _ (.tail _ (.tail _ (.tail _ (.tail _ hq))))))) sub7)
  clear N; have N := N0; clear N0
  have hd3 : @LT.lt Nat _ 147 d := by lia
  have hlen : its.length = qs.length := hp.len
  have h200 := hsm.1
  rw [List.length_append, List.length_cons, List.length_nil] at h200
  refine wpAny_call ?_
  k_dflt (refine' code_def ?k1 ?k2 ?k3 ?k4 ?k5 ?kA ?kF ?kK ?k6 ?k7 ?k8 ?k9 ?kB ?_ ?c2 ?c3 ?c4 ?c5; (case kA => exact rfl); (case kF => exact rfl); (case kK => first | exact rfl | assumption); (case k1 => k_asm); (case k2 => k_asm); (case k3 => k_asm); (case k4 => k_asm); (case k5 => k_asm); (case k6 => k_is); (case k7 => k_is); (case k8 => ktr_room); (case k9 => first | exact BindsTo.of_eq rfl | exact binds_K (by k_in) rfl (by k_is) rfl rfl rfl); (case c5 => decide); (case kB => exact locs rfl); (case c2 => exact rfl); (case c3 => exact rfl); (case c4 => exact rfl); k_whole; intro g' L' h' FG' F' N' B' X' T'; (try dsimp only); (try k_lift B'); (try k_fold))
  k_steps
  k_here
  k_dflt (refine' pop2 _ _ _ _ _ _ _ _ _ _ _ _ _ _ _ _ _ _ _ _ _ _ _ ?cB ?cF ?cX ?cT ?ck ?cd ?cu _ _ _ _ _ _ _ _ _ _ _ _ ?N hxd hd3 ?ho ?hz ?_; (case cB => k_asm); (case cF => k_asm); (case cX => k_asm); (case cT => k_asm); (case ck => first | exact rfl | assumption); (case cd => ktr_room); (case cu => ktr_units))
  case N => k_asm
  case ho => exact off_vf ⟨o0, o1, o2, o3, o4⟩ ho2
  case hz => lia
  intro s1 n1 kp1 F1 N1
  k_steps
  · exact absurd (by assumption : (a1 == Str.ofString " " && b1 == Str.ofString "") = true) (by intro h; simp only [Bool.and_eq_true, beq_iff_eq] at h; exact hab h)
  k_here
  refine star_call (f := 122) (x := x) (K := KL w.params) rfl rfl (by kernel_rfl) ?_
  k_steps
  k_here
  k_dflt (refine' get_accM (f := 122) ?k1 ?k2 ?k3 ?k4 ?k5 ?k6 ?k7 ?k8 ?k9 ?_; (case k1 => k_asm); (case k2 => k_asm); (case k3 => k_asm); (case k4 => k_inst); (case k5 => k_is); (case k6 => k_is); (case k7 => k_is); (case k8 => exact findObj_bind (by kernel_rfl) (by kernel_rfl) (by kernel_rfl) (by kernel_rfl) (fun _ _ => ownOf_none rfl) (by decide)); (case k9 => k_is))
  intro mq hm Fm Nm lm
  refine ⟨_, rfl, ?_⟩
  k_steps
  · exact (News.get (by assumption) (.head _))
  k_here
  k_dflt (refine' push2_code _ _ _ _ _ _ _ _ _ _ _ _ _ _ _ _ _ _ _ _ _ _ _ ?cB ?cF ?cX ?cT ?ck ?cd ?cu _ _ _ _ _ _ _ _ _ _ _ [] (drop1 (drop1 ?N)) hxd hd3 ?ho _ _ _ _ ?hz ?_; (case cB => k_asm); (case cF => k_asm); (case cX => k_asm); (case cT => k_asm); (case ck => first | exact rfl | assumption); (case cd => ktr_room); (case cu => ktr_units))
  case N => k_asm
  case ho => exact off_vf ⟨o0, o1, o2, o3, o4⟩ ho2
  case hz => lia
  intro s2 q2 n2 kp2 F2 N2
  have N3 : News _ _ _ (vfL P f fd ln x d (its ++ [.ref q2]) n2 hs tz k tz' t1 t2 lines nl ((q2, tupO a1 ta b1 tb) :: (q, tupO a1 ta b1 tb) :: own)) := news_sub N2 (by ((repeat refine List.forall_mem_cons.mpr ⟨by k_mem, ?_⟩); first | exact (fun _ h => absurd h List.not_mem_nil) | (intro _ h; repeat (first | exact h | refine List.Mem.tail _ ?_))))
  clear N2
  have ho3 : OwnOff ((q2, tupO a1 ta b1 tb) :: (q, tupO a1 ta b1 tb) :: own) [x, d, 140, 147, f, fd, ln] := off_cons (off_new N3 (.head _)) ho2
  have hp3 : PartsAre ((f, instObj 94 fd) :: (fd, vfD P ln x) :: (ln, listOf lines.toArray nl) :: (q2, tupO a1 ta b1 tb) :: (q, tupO a1 ta b1 tb) :: own) (its ++ [.ref q2]) (qs ++ [(a1, b1)]) := (hp.mono (by ((repeat refine List.forall_mem_cons.mpr ⟨by k_mem, ?_⟩); first | exact (fun _ h => absurd h List.not_mem_nil) | (intro _ h; repeat (first | exact h | refine List.Mem.tail _ ?_))))).append (.cons (by k_mem) .nil)
  k_steps
  have hor' : VOrd f fd ln x d := ⟨o0, o1, o2, o3, o4⟩
  have ho4 := off_vf (of := instObj 94 fd) (ofd := vfD P ln x) (ol := listOf lines.toArray nl) hor' ho3
  k_here
  k_dflt (refine' len2 _ _ _ _ _ _ _ _ _ _ _ _ _ _ _ _ _ _ _ _ _ _ _ ?cB ?cF ?cX ?cT ?ck ?cd ?cu _ _ _ _ _ _ _ _ _ _ _ _ ?N hxd hd3 ho4 ht1 ht2 hp3 hsm hk0 hk1 ?_; (case cB => k_asm); (case cF => k_asm); (case cX => k_asm); (case cT => k_asm); (case ck => first | exact rfl | assumption); (case cd => ktr_room); (case cu => ktr_units))
  case N => k_asm
  intro s3 u3 m1 kp3 F3 N4 hm1
  have e20 : (2 : Int) ^ 20 = 1048576 := by decide
  have e63 : (2 : Int) ^ 63 = 9223372036854775808 := by decide
  have htot := total_small hsm (qs ++ [(a1, b1)]).length
  rw [List.take_length] at htot
  refine ⟨⟨by lia, by lia⟩, ?_⟩
  k_steps
  k_here
  k_dflt (refine' onlyws2 _ _ _ _ _ _ _ _ _ _ _ _ _ _ _ _ _ _ _ _ _ _ _ ?cB ?cF ?cX ?cT ?ck ?cd ?cu _ _ _ _ _ _ _ _ _ _ _ _ ?N hxd hd3 ho4 hm1 ht2 hp3 hsm hk0 hk1 ?_; (case cB => k_asm); (case cF => k_asm); (case cX => k_asm); (case cT => k_asm); (case ck => first | exact rfl | assumption); (case cd => ktr_room); (case cu => ktr_units))
  case N => k_asm
  intro s4 m1' m2' kp4 F4 N5 hm1b hm2b
  have hbool : (decide (k = 0) && (decide (total (qs ++ [(a1, b1)]) = 0) || Txt.isspace (flat (qs ++ [(a1, b1)])))) = false := by
    rcases hws with h | ⟨h, h'⟩
    · rw [decide_eq_false h]; rfl
    · rw [decide_eq_false h, h']; simp
  rw [hbool]
  k_steps
  k_here
  k_dflt (refine' kso_call ?k1 ?k2 ?k3 ?k4 ?k5 ?_; (case k1 => ktr_units); (case k2 => k_in); (case k3 => k_inst); (case k4 => k_is); (case k5 => k_is); k_whole)
  k_here
  k_dflt (refine' str2 _ _ _ _ _ _ _ _ _ _ _ _ _ _ _ _ _ _ _ _ _ _ _ ?cB ?cF ?cX ?cT ?ck ?cd ?cu _ _ _ _ _ _ _ _ _ _ _ _ ?N hxd hd3 ho4 hm1b hm2b hp3 hsm hk0 hk1 ?_; (case cB => k_asm); (case cF => k_asm); (case cX => k_asm); (case cT => k_asm); (case ck => first | exact rfl | assumption); (case cd => ktr_room); (case cu => ktr_units))
  case N => k_asm
  intro s5 u5 m2 kp5 F5 N6 hm2
  dsimp only [StrBack]
  k_steps
  have hsn : StrsAre (lines ++ [.str (flat (qs ++ [(a1, b1)])) u5]) (rows ++ [flat (qs ++ [(a1, b1)])]) := strs_snoc hl _ _
  simp only [List.push_toArray] at *
  k_here
  k_dflt (refine' reset2 _ _ _ _ _ _ _ _ _ _ _ _ _ _ _ _ _ _ _ _ _ _ _ ?cB ?cF ?cX ?cT ?ck ?cd ?cu _ _ _ _ _ _ _ _ _ _ _ [] ?N hxd hd3 ?ho ?hz ?_; (case cB => k_asm); (case cF => k_asm); (case cX => k_asm); (case cT => k_asm); (case ck => first | exact rfl | assumption); (case cd => ktr_room); (case cu => ktr_units))
  case N => k_asm
  case ho => exact off_vf hor' ho3
  case hz => (simp only [List.length_append, List.length_cons, List.length_nil]; lia)
  intro s6 n6 tz6 kp6 F6 N7
  k_steps
  exact hret s6 _ _ _ _ _ _ _ ⟨kp6.os.trans (kp5.os.trans (kp4.os.trans (kp3.os.trans (kp2.os.trans kp1.os)))), fun g => kp6.bare (kp5.bare (kp4.bare (kp3.bare (kp2.bare (kp1.bare g)))))⟩ (by assumption) (by assumption) hsn hm1b hm2 ho3 (fun _ h => .tail _ (.tail _ h))


end

section
open PySem PySem.W PyProof.Rows PySem.Calls
set_option Elab.async false
set_option maxRecDepth 100000
set_option maxHeartbeats 8000000
set_option pp.deepTerms false
set_option pp.maxSteps 3000
local macro_rules | `(tactic| walk_at "compareOp NotEq ref ref") => `(tactic| (k_here; (with_reducible show wpAny _ _ (compareOp CmpOp.NotEq (Value.ref _) (Value.ref _)) _ _ _); k_dflt (refine ne_dataH (by ke_read) (by ke_read) (by first | exact shaped_pair (by assumption) (by assumption) | exact shaped_pair (by decide) (by decide) | ke_shaped) (by first | exact shaped_pair (by decide) (by decide) | ke_shaped) (by ktr_units) ?_); ke_norm))

theorem newline_a (w : World) (p : Program) (loose : List Str) (mean : ExcName → Option Value) (mg mb : Str → Option Value) (dp un : Nat) (gd : Option (List Code)) (cn : Str) (cs : Scope) (a : Addr) (ccd : Value) (cl : List (Str × Addr)) (outer : List Env) (A₀ : Around) (base h₀ : Heap) (L : Addr) (m : Str → Option Value) (s : Shared) (Q E : Value → Shared → Prop)
   (B : Below A₀ base outer h₀) (F : Fr h₀ L s.heap m) (X : (KL w.params).In h₀) (T : Top p loose mean mg mb h₀) (hk : cs.kind = .function) (hd1 : dp + 16 < recursionLimit) (hu : un + 8 * 16 < cLine)
   (P : VP) (f fd ln x d : Addr) (n : Nat) (own : List (Addr × Obj)) (hs : Int) (tz : Tok) (tz' : Tok) (t1 t2 : Array Value) (lines : List Value) (nl : Nat) (rows : List Str)
   (N : News h₀ L s.heap (vfL P f fd ln x d [] n hs tz 0 tz' t1 t2 lines nl own)) (hor : VOrd f fd ln x d) (ho : OwnOff own [x, d, 140, 147, f, fd, ln])
   (ht1 : TriplesOk t1.toList) (ht2 : TriplesOk t2.toList) (hl : StrsAre lines rows) (hlr : rows.length ≤ 200)
   (hret : ∀ s' own' n' tz'' nl' lines' m1 m2, Kp s s' → Fr h₀ L s'.heap m → News h₀ L s'.heap (vfL P f fd ln x d [] n' hs tz 0 tz'' m1 m2 lines' nl' own') → StrsAre lines' rows → TriplesOk m1.toList → TriplesOk m2.toList → OwnOff own' [x, d, 140, 147, f, fd, ln] → (∀ p ∈ own, p ∈ own') → Q .none s') :
   wpAny (model Challenge.rw_xi0019_01.row.prog w) (ktrTop dp un gd cn cs L a ccd cl outer) (call (.ref 56) [.ref f]) Q E s := by
  revert X; k_fill; intro X
  have hor' := hor
  obtain ⟨o0, o1, o2, o3, o4⟩ := hor
  have hxd := o4
  have hd3 : @LT.lt Nat _ 147 d := by lia
  refine wpAny_call ?_
  k_dflt (refine' code_def ?k1 ?k2 ?k3 ?k4 ?k5 ?kA ?kF ?kK ?k6 ?k7 ?k8 ?k9 ?kB ?_ ?c2 ?c3 ?c4 ?c5; (case kA => exact rfl); (case kF => exact rfl); (case kK => first | exact rfl | assumption); (case k1 => k_asm); (case k2 => k_asm); (case k3 => k_asm); (case k4 => k_asm); (case k5 => k_asm); (case k6 => k_is); (case k7 => k_is); (case k8 => ktr_room); (case k9 => first | exact BindsTo.of_eq rfl | exact binds_K (by k_in) rfl (by k_is) rfl rfl rfl); (case c5 => decide); (case kB => exact locs rfl); (case c2 => exact rfl); (case c3 => exact rfl); (case c4 => exact rfl); k_whole; intro g' L' h' FG' F' N' B' X' T'; (try dsimp only); (try k_lift B'); (try k_fold))
  k_steps
  k_here
  k_dflt (refine' pop_nil2 _ _ _ _ _ _ _ _ _ _ _ _ _ _ _ _ _ _ _ _ _ _ _ ?cB ?cF ?cX ?cT ?ck ?cd ?cu _ _ _ _ _ _ _ _ _ _ ?N hxd hd3 ?ho ?_; (case cB => k_asm); (case cF => k_asm); (case cX => k_asm); (case cT => k_asm); (case ck => first | exact rfl | assumption); (case cd => ktr_room); (case cu => ktr_units))
  case N => k_asm
  case ho => exact off_vf hor' ho
  intro s1 q u1 u2 kp1 F1 N1
  have N1b : News _ _ _ (vfL P f fd ln x d [] n hs tz 0 tz' t1 t2 lines nl ((q, tupO (Str.ofString "") u1 (Str.ofString "") u2) :: own)) := news_sub N1 (by ((repeat refine List.forall_mem_cons.mpr ⟨by k_mem, ?_⟩); first | exact (fun _ h => absurd h List.not_mem_nil) | (intro _ h; repeat (first | exact h | refine List.Mem.tail _ ?_))))
  clear N1
  have ho2 : OwnOff ((q, tupO (Str.ofString "") u1 (Str.ofString "") u2) :: own) [x, d, 140, 147, f, fd, ln] := off_cons (off_new N1b (.head _)) ho
  k_steps

  k_here
  refine star_call (f := 122) (x := x) (K := KL w.params) rfl rfl (by kernel_rfl) ?_
  k_steps
  k_here
  k_dflt (refine' get_accM (f := 122) ?k1 ?k2 ?k3 ?k4 ?k5 ?k6 ?k7 ?k8 ?k9 ?_; (case k1 => k_asm); (case k2 => k_asm); (case k3 => k_asm); (case k4 => k_inst); (case k5 => k_is); (case k6 => k_is); (case k7 => k_is); (case k8 => exact findObj_bind (by kernel_rfl) (by kernel_rfl) (by kernel_rfl) (by kernel_rfl) (fun _ _ => ownOf_none rfl) (by decide)); (case k9 => k_is))
  intro mq hm Fm Nm lm
  refine ⟨_, rfl, ?_⟩
  k_steps
  · exact (News.get (by assumption) (.head _))
  k_here
  k_dflt (refine' push2_code _ _ _ _ _ _ _ _ _ _ _ _ _ _ _ _ _ _ _ _ _ _ _ ?cB ?cF ?cX ?cT ?ck ?cd ?cu _ _ _ _ _ _ _ _ _ _ _ [] (drop1 (drop1 ?N)) hxd hd3 ?ho _ _ _ _ ?hz ?_; (case cB => k_asm); (case cF => k_asm); (case cX => k_asm); (case cT => k_asm); (case ck => first | exact rfl | assumption); (case cd => ktr_room); (case cu => ktr_units))
  case N => k_asm

  case ho => exact off_vf hor' ho2
  case hz => decide
  intro s2 q2 n2 kp2 F2 N2
  have N3 : News _ _ _ (vfL P f fd ln x d [.ref q2] n2 hs tz 0 tz' t1 t2 lines nl ((q2, tupO (Str.ofString "") u1 (Str.ofString "") u2) :: (q, tupO (Str.ofString "") u1 (Str.ofString "") u2) :: own)) := news_sub N2 (by ((repeat refine List.forall_mem_cons.mpr ⟨by k_mem, ?_⟩); first | exact (fun _ h => absurd h List.not_mem_nil) | (intro _ h; repeat (first | exact h | refine List.Mem.tail _ ?_))))
  clear N2
  have ho3 : OwnOff ((q2, tupO (Str.ofString "") u1 (Str.ofString "") u2) :: (q, tupO (Str.ofString "") u1 (Str.ofString "") u2) :: own) [x, d, 140, 147, f, fd, ln] := off_cons (off_new N3 (.head _)) ho2
  have hp3 : PartsAre ((f, instObj 94 fd) :: (fd, vfD P ln x) :: (ln, listOf lines.toArray nl) :: (q2, tupO (Str.ofString "") u1 (Str.ofString "") u2) :: (q, tupO (Str.ofString "") u1 (Str.ofString "") u2) :: own) [.ref q2] [(Str.ofString "", Str.ofString "")] := .cons (by k_mem) .nil
  have ho4 := off_vf (of := instObj 94 fd) (ofd := vfD P ln x) (ol := listOf lines.toArray nl) hor' ho3
  have hsm : Small [(Str.ofString "", Str.ofString "")] := ⟨by decide, by intro p hp; simp only [List.mem_cons, List.not_mem_nil, or_false] at hp; subst hp; exact ⟨by decide, by decide⟩⟩
  k_steps
  k_here
  k_dflt (refine' len2 _ _ _ _ _ _ _ _ _ _ _ _ _ _ _ _ _ _ _ _ _ _ _ ?cB ?cF ?cX ?cT ?ck ?cd ?cu _ _ _ _ _ _ _ _ _ _ _ _ ?N hxd hd3 ho4 ht1 ht2 hp3 hsm (Int.le_refl 0) (by decide) ?_; (case cB => k_asm); (case cF => k_asm); (case cX => k_asm); (case cT => k_asm); (case ck => first | exact rfl | assumption); (case cd => ktr_room); (case cu => ktr_units))
  case N => k_asm
  intro s3 u3 m1 kp3 F3 N4 hm1
  have htot : total [(Str.ofString "", Str.ofString "")] = 0 := by decide
  rw [htot]
  refine ⟨⟨by decide, by decide⟩, ?_⟩
  k_steps
  k_here
  k_dflt (refine' reset2 _ _ _ _ _ _ _ _ _ _ _ _ _ _ _ _ _ _ _ _ _ _ _ ?cB ?cF ?cX ?cT ?ck ?cd ?cu _ _ _ _ _ _ _ _ _ _ _ [] ?N hxd hd3 ho4 ?hz ?_; (case cB => k_asm); (case cF => k_asm); (case cX => k_asm); (case cT => k_asm); (case ck => first | exact rfl | assumption); (case cd => ktr_room); (case cu => ktr_units))
  case N => k_asm
  case hz => (simp only [List.length_cons, List.length_nil]; lia)
  intro s6 n6 tz6 kp6 F6 N7
  k_steps
  exact hret s6 _ _ _ _ _ _ _ ⟨kp6.os.trans (kp3.os.trans (kp2.os.trans kp1.os)), fun g => kp6.bare (kp3.bare (kp2.bare (kp1.bare g)))⟩ (by assumption) (by assumption) hl hm1 ht2 ho3 (fun _ h => .tail _ (.tail _ h))


end

section
open PySem PySem.W PyProof.Rows PySem.Calls
set_option Elab.async false
set_option maxRecDepth 100000
set_option maxHeartbeats 8000000
set_option pp.deepTerms false
set_option pp.maxSteps 3000

theorem vf_str_a (w : World) (p : Program) (loose : List Str) (mean : ExcName → Option Value) (mg mb : Str → Option Value) (dp un : Nat) (gd : Option (List Code)) (cn : Str) (cs : Scope) (a : Addr) (ccd : Value) (cl : List (Str × Addr)) (outer : List Env) (A₀ : Around) (base h₀ : Heap) (L : Addr) (m : Str → Option Value) (s : Shared) (Q E : Value → Shared → Prop)
   (B : Below A₀ base outer h₀) (F : Fr h₀ L s.heap m) (X : (KL w.params).In h₀) (T : Top p loose mean mg mb h₀) (hk : cs.kind = .function) (hd1 : dp + 20 < recursionLimit) (hu : un + 8 * 20 < cLine)
   (P : VP) (f fd ln x d : Addr) (n : Nat) (own : List (Addr × Obj)) (hs : Int) (tz : Tok) (tz' : Tok) (t1 t2 : Array Value) (lines : List Value) (nl : Nat) (rows : List Str) (sep : Str) (ts : Tok)
   (N : News h₀ L s.heap (vfL P f fd ln x d [] n hs tz 0 tz' t1 t2 lines nl own)) (hor : VOrd f fd ln x d) (ho : OwnOff own [x, d, 140, 147, f, fd, ln])
   (ht1 : TriplesOk t1.toList) (ht2 : TriplesOk t2.toList) (hl : StrsAre lines rows) (hlr : rows.length ≤ 200) (hsep : sep.length ≤ 16) (hw : (rows.map (·.length)).sum + rows.length ≤ 1048576)
   (hret : ∀ s' t' own' n' tz'' nl' lines' m1 m2, Kp s s' → Fr h₀ L s'.heap m → News h₀ L s'.heap (vfL P f fd ln x d [] n' hs tz 0 tz'' m1 m2 lines' nl' own') → StrsAre lines' rows → TriplesOk m1.toList → TriplesOk m2.toList → OwnOff own' [x, d, 140, 147, f, fd, ln] → (∀ p ∈ own, p ∈ own') → Q (.str (Str.join sep rows) t') s') :
   wpAny (model Challenge.rw_xi0019_01.row.prog w) (ktrTop dp un gd cn cs L a ccd cl outer) (call (.ref 42) [.ref f, .str sep ts]) Q E s := by
  revert X; k_fill; intro X
  have hor' := hor
  obtain ⟨o0, o1, o2, o3, o4⟩ := hor
  refine wpAny_call ?_
  k_dflt (refine' code_def ?k1 ?k2 ?k3 ?k4 ?k5 ?kA ?kF ?kK ?k6 ?k7 ?k8 ?k9 ?kB ?_ ?c2 ?c3 ?c4 ?c5; (case kA => exact rfl); (case kF => exact rfl); (case kK => first | exact rfl | assumption); (case k1 => k_asm); (case k2 => k_asm); (case k3 => k_asm); (case k4 => k_asm); (case k5 => k_asm); (case k6 => k_is); (case k7 => k_is); (case k8 => ktr_room); (case k9 => first | exact BindsTo.of_eq rfl | exact binds_K (by k_in) rfl (by k_is) rfl rfl rfl); (case c5 => decide); (case kB => exact locs rfl); (case c2 => exact rfl); (case c3 => exact rfl); (case c4 => exact rfl); k_whole; intro g' L' h' FG' F' N' B' X' T'; (try dsimp only); (try k_lift B'); (try k_fold))
  k_steps
  k_here
  k_dflt (refine' newline_a _ _ _ _ _ _ _ _ _ _ _ _ _ _ _ _ _ _ _ _ _ _ _ ?cB ?cF ?cX ?cT ?ck ?cd ?cu _ _ _ _ _ _ _ _ _ _ _ _ _ _ _ _ ?N hor' ho ht1 ht2 hl hlr ?_; (case cB => k_asm); (case cF => k_asm); (case cX => k_asm); (case cT => k_asm); (case ck => first | exact rfl | assumption); (case cd => ktr_room); (case cu => ktr_units))
  case N => k_asm
  intro s1 own1 n1 tz1 nl1 lines1 m1 m2 kp1 F1 N1 hl1 hm1 hm2 ho1 hs1
  k_steps
  have hil : s1.heap.IsList ln lines1.toArray := ⟨_, (N1 (ln, listOf lines1.toArray nl1) (by k_mem)).1, rfl, nl1, rfl⟩
  refine join_listW (ys := rows) hil hl1 hsep hw fun t' tk' => ?_
  rw [txt_join]
  k_steps
  exact hret _ t' _ _ _ _ _ _ _ ⟨kp1.os, fun g => kp1.bare g⟩ (by assumption) (by assumption) hl1 hm1 hm2 ho1 hs1

theorem vf_str_b (w : World) (p : Program) (loose : List Str) (mean : ExcName → Option Value) (mg mb : Str → Option Value) (dp un : Nat) (gd : Option (List Code)) (cn : Str) (cs : Scope) (a : Addr) (ccd : Value) (cl : List (Str × Addr)) (outer : List Env) (A₀ : Around) (base h₀ : Heap) (L : Addr) (m : Str → Option Value) (s : Shared) (Q E : Value → Shared → Prop)
   (B : Below A₀ base outer h₀) (F : Fr h₀ L s.heap m) (X : (KL w.params).In h₀) (T : Top p loose mean mg mb h₀) (hk : cs.kind = .function) (hd1 : dp + 20 < recursionLimit) (hu : un + 8 * 20 < cLine)
   (P : VP) (f fd ln x d q : Addr) (its : List Value) (n : Nat) (own : List (Addr × Obj)) (hs : Int) (tz : Tok) (k : Int) (tz' : Tok) (t1 t2 : Array Value) (qs : List (Str × Str)) (a1 b1 : Str) (ta tb : Tok) (lines : List Value) (nl : Nat) (rows : List Str) (sep : Str) (ts : Tok)
   (N : News h₀ L s.heap (vfL P f fd ln x d (its ++ [.ref q]) n hs tz k tz' t1 t2 lines nl own)) (hor : VOrd f fd ln x d) (ho : OwnOff own [x, d, 140, 147, f, fd, ln])
   (ht1 : TriplesOk t1.toList) (ht2 : TriplesOk t2.toList) (hp : PartsAre own its qs) (hq : (q, tupO a1 ta b1 tb) ∈ own) (hsm : Small (qs ++ [(a1, b1)])) (hk0 : 0 ≤ k) (hk1 : k ≤ 2 ^ 20) (hl : StrsAre lines rows) (hlr : rows.length ≤ 200)
   (hok1 : PyData.strOk a1 = true) (hok2 : PyData.strOk b1 = true) (hab : ¬ (a1 = Str.ofString " " ∧ b1 = Str.ofString "")) (hpos : 0 < k + total (qs ++ [(a1, b1)])) (hws : k ≠ 0 ∨ (total (qs ++ [(a1, b1)]) ≠ 0 ∧ Txt.isspace (flat (qs ++ [(a1, b1)])) = false))
   (hsep : sep.length ≤ 16) (hw : ((rows ++ [flat (qs ++ [(a1, b1)])]).map (·.length)).sum + (rows ++ [flat (qs ++ [(a1, b1)])]).length ≤ 1048576)
   (hret : ∀ s' t' own' n' tz'' nl' lines' m1 m2, Kp s s' → Fr h₀ L s'.heap m → News h₀ L s'.heap (vfL P f fd ln x d [] n' hs tz 0 tz'' m1 m2 lines' nl' own') → StrsAre lines' (rows ++ [flat (qs ++ [(a1, b1)])]) → TriplesOk m1.toList → TriplesOk m2.toList → OwnOff own' [x, d, 140, 147, f, fd, ln] → (∀ p ∈ own, p ∈ own') → Q (.str (Str.join sep (rows ++ [flat (qs ++ [(a1, b1)])])) t') s') :
   wpAny (model Challenge.rw_xi0019_01.row.prog w) (ktrTop dp un gd cn cs L a ccd cl outer) (call (.ref 42) [.ref f, .str sep ts]) Q E s := by
  revert X; k_fill; intro X
  have hor' := hor
  obtain ⟨o0, o1, o2, o3, o4⟩ := hor
  refine wpAny_call ?_
  k_dflt (refine' code_def ?k1 ?k2 ?k3 ?k4 ?k5 ?kA ?kF ?kK ?k6 ?k7 ?k8 ?k9 ?kB ?_ ?c2 ?c3 ?c4 ?c5; (case kA => exact rfl); (case kF => exact rfl); (case kK => first | exact rfl | assumption); (case k1 => k_asm); (case k2 => k_asm); (case k3 => k_asm); (case k4 => k_asm); (case k5 => k_asm); (case k6 => k_is); (case k7 => k_is); (case k8 => ktr_room); (case k9 => first | exact BindsTo.of_eq rfl | exact binds_K (by k_in) rfl (by k_is) rfl rfl rfl); (case c5 => decide); (case kB => exact locs rfl); (case c2 => exact rfl); (case c3 => exact rfl); (case c4 => exact rfl); k_whole; intro g' L' h' FG' F' N' B' X' T'; (try dsimp only); (try k_lift B'); (try k_fold))
  k_steps
  k_here
  k_dflt (refine' newline_b _ _ _ _ _ _ _ _ _ _ _ _ _ _ _ _ _ _ _ _ _ _ _ ?cB ?cF ?cX ?cT ?ck ?cd ?cu _ _ _ _ _ _ _ _ _ _ _ _ _ _ _ _ _ _ _ _ _ _ _ _ ?N hor' ho ht1 ht2 hp hq hsm hk0 hk1 hl hlr hok1 hok2 hab hpos hws ?_; (case cB => k_asm); (case cF => k_asm); (case cX => k_asm); (case cT => k_asm); (case ck => first | exact rfl | assumption); (case cd => ktr_room); (case cu => ktr_units))
  case N => k_asm
  intro s1 own1 n1 tz1 nl1 lines1 m1 m2 kp1 F1 N1 hl1 hm1 hm2 ho1 hs1
  k_steps
  have hil : s1.heap.IsList ln lines1.toArray := ⟨_, (N1 (ln, listOf lines1.toArray nl1) (by k_mem)).1, rfl, nl1, rfl⟩
  refine join_listW (ys := rows ++ [flat (qs ++ [(a1, b1)])]) hil hl1 hsep hw fun t' tk' => ?_
  rw [txt_join]
  k_steps
  exact hret _ t' _ _ _ _ _ _ _ ⟨kp1.os, fun g => kp1.bare g⟩ (by assumption) (by assumption) hl1 hm1 hm2 ho1 hs1



end

section
open PySem PySem.W PyProof.Rows PySem.Calls
set_option Elab.async false
set_option maxRecDepth 100000
set_option maxHeartbeats 8000000
set_option pp.deepTerms false
set_option pp.maxSteps 3000

local macro_rules | `(tactic| walk_at "own line") => `(tactic| skip)
theorem lt_open {d : Addr} {a : Addr × Obj} {r : List (Addr × Obj)} (h : ∀ p ∈ a :: r, p.1 < d) : @LT.lt Nat _ a.1 d ∧ ∀ p ∈ r, p.1 < d := ⟨h a (.head _), fun p k => h p (.tail _ k)⟩
theorem off_ext {own : List (Addr × Obj)} {d : Addr} {as : List Addr} (h : ∀ p ∈ own, p.1 < d) (k : OwnOff own as) : OwnOff own (d :: as) := fun p hp b hb => by
  rcases List.mem_cons.mp hb with rfl | hb
  · exact Nat.ne_of_lt (h p hp)
  · exact k p hp b hb
theorem of_allLt {d : Addr} (l : List (Addr × Obj)) (h : AllLt d l) : ∀ p ∈ l, p.1 < d := by
  induction l with
  | nil => exact fun p hp => (List.not_mem_nil hp).elim
  | cons a r ih => exact fun p hp => (List.mem_cons.mp hp).elim (fun e => e ▸ h.1) (ih h.2 p)
theorem lt_step {own : List (Addr × Obj)} {d e : Addr} (h : ∀ p ∈ own, p.1 < d) (k : @LT.lt Nat _ d e) : ∀ p ∈ own, p.1 < e := fun p hp => @Nat.lt_trans p.1 d e (h p hp) k

theorem vf_new (w : World) (p : Program) (loose : List Str) (mean : ExcName → Option Value) (mg mb : Str → Option Value) (dp un : Nat) (gd : Option (List Code)) (cn : Str) (cs : Scope) (a : Addr) (ccd : Value) (cl : List (Str × Addr)) (outer : List Env) (A₀ : Around) (base h₀ : Heap) (L : Addr) (m : Str → Option Value) (s : Shared) (Q E : Value → Shared → Prop)
   (B : Below A₀ base outer h₀) (F : Fr h₀ L s.heap m) (X : (KL w.params).In h₀) (T : Top p loose mean mg mb h₀) (hk : cs.kind = .function) (hd1 : dp + 24 < recursionLimit) (hu : un + 8 * 24 < cLine)
   (own : List (Addr × Obj)) (t1 t2 : Array Value) (k mx : Int) (uk um : Tok) (sp : Str) (uc us : Tok)
   (N : News h₀ L s.heap ((140, tabObj t1) :: (147, tabObj t2) :: own)) (ho : OwnOff own [140, 147])
   (hret : ∀ s' P f fd ln x d n hs tz nl, Kp s s' → Fr h₀ L s'.heap m → News h₀ L s'.heap (vfL P f fd ln x d [] n hs tz k uk t1 t2 [] nl own) → VOrd f fd ln x d → P.mx = mx → P.sp = sp → OwnOff own [x, d, 140, 147, f, fd, ln] → Q (.ref f) s') :
   wpAny (model Challenge.rw_xi0019_01.row.prog w) (ktrTop dp un gd cn cs L a ccd cl outer) (call (.ref 94) [.int k uk, .int mx um, .str (Str.ofString " ") uc, .str sp us]) Q E s := by
  revert X; k_fill; intro X
  k_dflt (refine' call_cls (K := KL w.params) ?k1 ?k2 ?k3 ?k4 ?k5 ?k6 ?_; (case k1 => k_asm); (case k2 => k_asm); (case k3 => k_asm); (case k4 => k_is); (case k5 => k_is); (case k6 => k_is))
  intro f fd h1 F1 N1 l1 l2
  replace l2 : @LT.lt Nat _ fd f := l2
  obtain ⟨e1, l1⟩ := lt_open l1
  obtain ⟨e2, l1⟩ := lt_open l1
  dsimp only at e1 e2
  have ho1 := off_ext (lt_step l1 l2) (off_ext l1 ho)
  k_dflt (refine' code_def ?k1 ?k2 ?k3 ?k4 ?k5 ?kA ?kF ?kK ?k6 ?k7 ?k8 ?k9 ?kB ?_ ?c2 ?c3 ?c4 ?c5; (case kA => exact rfl); (case kF => exact rfl); (case kK => first | exact rfl | assumption); (case k1 => k_asm); (case k2 => k_asm); (case k3 => k_asm); (case k4 => k_asm); (case k5 => k_asm); (case k6 => k_is); (case k7 => k_is); (case k8 => ktr_room); (case k9 => first | exact BindsTo.of_eq rfl | exact binds_K (by k_in) rfl (by k_is) rfl rfl rfl); (case c5 => decide); (case kB => exact locs rfl); (case c2 => exact rfl); (case c3 => exact rfl); (case c4 => exact rfl); k_whole; intro g' L' h' FG' F' N' B' X' T'; (try dsimp only); (try k_lift B'); (try k_fold))
  k_steps
  with_reducible rename (_ ∧ _ ∧ _ ∧ _ ∧ AllLt _ own) => lq
  obtain ⟨b1, b2, b3, b4, b5⟩ := lq
  have b6 := of_allLt _ b5
  k_here
  k_dflt (refine' acc_new_c _ _ _ _ _ _ _ _ _ _ _ _ _ _ _ _ _ _ _ _ _ _ _ ?cB ?cF ?cX ?cT ?ck ?cd ?cu _ _ _ ?N ?_; (case cB => k_asm); (case cF => k_asm); (case cX => k_asm); (case cT => k_asm); (case ck => first | exact rfl | assumption); (case cd => ktr_room); (case cu => (show un + (1 + 3 * Code.frames _) + 3 + 8 * 12 < cLine; have e9 : ∀ x, Code.frames (.builtin "type.__call__" x) = 0 := fun _ => rfl; rw [e9]; lia)))
  case N => k_asm
  intro s1 x d n1 hs tz kp1 F1 N1 l3 l4 hxd
  obtain ⟨e3, l3⟩ := lt_open l3
  obtain ⟨e4, l3⟩ := lt_open l3
  obtain ⟨e5, l3⟩ := lt_open l3
  obtain ⟨e6, l3⟩ := lt_open l3
  obtain ⟨e7, l3⟩ := lt_open l3
  dsimp only at e3 e4 e5 e6 e7
  clear l4
  have ho3 := off_ext (lt_step l3 hxd) (off_ext l3 (off_ext b6 ho1))
  k_steps
  rename_i kN kT kX
  exact hret _ ⟨_, _, _, _, _, _, _, _, _, _, _, _, _, _, _, _, _, _, _, _⟩ f fd _ x d _ _ _ _ ⟨kp1.os, fun g => kp1.bare g⟩ (by assumption) (news_sub kN (by ((repeat refine List.forall_mem_cons.mpr ⟨by k_mem, ?_⟩); first | exact (fun _ h => absurd h List.not_mem_nil) | (intro _ h; repeat (first | exact h | refine List.Mem.tail _ ?_))))) ⟨e2, l2, b1, e3, hxd⟩ rfl rfl (off_sub ho3 (by simp))


end

section
open PySem PySem.W PyProof.Rows PySem.Calls
set_option Elab.async false
set_option maxRecDepth 100000
set_option maxHeartbeats 4000000
section
variable {prog : Program} {w : World} {A : Around} {E : Value → Shared → Prop} {s : Shared} {K : Frag} {x C L : Addr} {h₀ : Heap} {m : Str → Option Value} {news : List (Addr × Obj)} {ox dO : Obj} {dx : Addr} {its : Array Value} {n : Nat} {sl : Array (Option Value)}
/-- an item of an object of a list's subclass at an int -/
theorem subInt {value slice : Expr} {k : Int} {t : Tok} {y : Value} {Q : Value → Shared → Prop} (F : Fr h₀ L s.heap m) (X₀ : K.In h₀) (I : InstAt s.heap x ⟨.ref C, some dx, .seq its n, sl⟩ C (some dO))
    (hsub : subIn K (.ref C) (.type "list") = some true) (hq : noSeq K C = true) (hf : findIn K (.ref C) "__getitem__" = some (some (.builtin "list.__getitem__"))) (hs : subscripted slice false (.ref x) (.int k t) = operate [.ref x, .int k t] (getItem (.ref x) (.int k t)))
    (h0 : 0 ≤ k) (hfit : k < 2 ^ 63) (hx : its[k.toNat]? = some y) (h : Q y s) :
    wpAny (model prog w) A (subscriptTail value slice (.ref x) (.int k t)) Q E s := by
  have X := X₀.keeps F.keep
  unfold subscriptTail
  refine wpAny_bind ?_
  unfold getitemInPython specialOf
  refine wpAny_bind (wpAny_bind ((I.type (M := model prog w)).here ((looks_findIn X hf).here (wpAny_pure ?_))))
  show wpAny _ _ (subscripted slice false (.ref x) (.int k t) >>= _) _ _ _
  rw [hs]
  exact wpAny_bind (wpAny_operating (wpAny_mono (acc_getInt X I hsub hq hf h0 hfit hx h) (fun r s₃ h₃ => wpAny_bind (wpAny_letTemporaryGo (wpAny_pure h₃))) fun _ _ x => x))
end

end

section
open PySem PySem.W PyProof.Rows PySem.Calls
set_option Elab.async false
set_option maxRecDepth 100000
set_option maxHeartbeats 4000000
section
variable {prog : Program} {w : World} {A : Around} {E : Value → Shared → Prop} {s : Shared} {h₀ : Heap} {env : Env}

/-- a loop's iterator, ready to be walked: what must hold between the turns is chosen here -/
inductive LoopX (prog : Program) (w : World) (A : Around) (h₀ : Heap) (env : Env) (x : Str) (body orelse : List Stmt) (Q : Flow → Shared → Prop) (E : Value → Shared → Prop) (it : Value) (s₂ : Shared) : Prop
  | mk (J : Nat → (Str → Option Value) → List (Addr × Obj) → Prop) (I : Addr) (n : Nat) (P : Nat → Value → Prop) (St : Nat → Heap → Prop) (m : Str → Option Value) (news : List (Addr × Obj)) (f0 : it = .ref I) (f1 : Walks prog w A I [I] [I] n P St) (f2 : (∀ i h, St i h → ∃ oI, h.get? I = some oI)) (f3 : St 0 s₂.heap) (f4 : Fr h₀ env.locals s₂.heap m) (f5 : News h₀ env.locals s₂.heap news) (f6 : I ≠ env.locals) (f7 : h₀.get? I = none) (f8 : (∀ p ∈ news, p.1 ≠ I)) (f9 : J 0 m news) (f10 : (∀ i v m news s oI, i < n → P i v → Kp s₂ s → J i m news → (∀ p ∈ news, p.1 ≠ I) → St (i + 1) s.heap → Fr h₀ env.locals s.heap (fun y => if y = x then some v else m y) → News h₀ env.locals s.heap ((I, oI) :: news) → wpAny (model prog w) A (execs body env) (TurnTo h₀ env.locals I oI (J (i + 1)) s₂ Q) E s)) (f11 : (∀ m news s, Kp s₂ s → J n m news → Fr h₀ env.locals s.heap m → News h₀ env.locals s.heap news → wpAny (model prog w) A (execs orelse env) Q E s)) : LoopX prog w A h₀ env x body orelse Q E it s₂

inductive ForI (h₀ : Heap) (L I : Addr) (n : Nat) (St : Nat → Heap → Prop) (J : Nat → (Str → Option Value) → List (Addr × Obj) → Prop) (s₂ : Shared) (k : Nat) (s' : Shared) : Prop
  | mk (i : Nat) (m : Str → Option Value) (news : List (Addr × Obj)) (f0 : k = n - i) (f1 : i ≤ n) (f2 : Kp s₂ s') (f3 : St i s'.heap) (f4 : Fr h₀ L s'.heap m) (f5 : News h₀ L s'.heap news) (f6 : ∀ p ∈ news, p.1 ≠ I) (f7 : J i m news) : ForI h₀ L I n St J s₂ k s'
theorem forX {x : Str} {px pos : Pos} {iter : Expr} {body orelse : List Stmt} {Q : Flow → Shared → Prop} {m₉ : Str → Option Value} (_F : Fr h₀ env.locals s.heap m₉) (hx : env.kindOf x = some .local)
    (hp : (env.scope.kind == .class || (env.scope.kind == .module && env.locals != env.globals)) = false)
    (h : wpAny (model prog w) A (eval iter env) (fun xv s₁ => wpAny (model prog w) A (pyIter xv) (LoopX prog w A h₀ env x body orelse Q E) E s₁) E s)
    (hs : ∀ x, foldedSetIterable iter env x = pure x := by intro _; rfl)
    (hE : PassesOwn (model prog w) A env E := by passes_own) :
    wpAny (model prog w) A (exec (.For (.Name x px) iter body orelse pos) env) Q E s := by
  refine wpAny_For (wpAny_mono h (fun xv s₁ h₁ => wpAny_mono h₁ (fun it s₂ h₂ => ?_) fun _ _ e => e) fun _ _ e => e) hs
  obtain ⟨J, I, n, P, St, m, news, rfl, W, hat, hst, F, N, hIL, hI0, hnI, hJ, turn, done⟩ := h₂
  refine codeAny_forLoop (I := ForI h₀ env.locals I n St J s₂) ?_ (n - 0) ⟨0, m, news, rfl, Nat.zero_le _, Kp.refl _, hst, F, N, hnI, hJ⟩
  rintro k s' ⟨i, m, news, hkn, hi, hk, hst, F, N, hnI, hJ⟩
  have keepF : ∀ {h' : Heap} {m : Str → Option Value} {g : Heap}, Fr h₀ env.locals g m → (∀ b o, b ∉ [I] → g.get? b = some o → h'.get? b = some o) → Fr h₀ env.locals h' m := fun F hk => by
    refine ⟨?_, fun b o e => hk b o (fun hm => ?_) (F.keep b o e), F.above⟩
    · obtain ⟨o, es, ep, ho, r⟩ := F.ns
      exact ⟨o, es, ep, hk _ _ (fun hm => hIL (List.mem_singleton.mp hm).symm) ho, r⟩
    · rw [List.mem_singleton.mp hm, hI0] at e; cases e
  have keepN : ∀ {h' g : Heap} {news : List (Addr × Obj)}, News h₀ env.locals g news → (∀ p ∈ news, p.1 ≠ I) → (∀ b o, b ∉ [I] → g.get? b = some o → h'.get? b = some o) → News h₀ env.locals h' news := fun N hn hk p hp =>
    ⟨hk _ _ (fun hm => hn p hp (List.mem_singleton.mp hm)) (N p hp).1, (N p hp).2⟩
  by_cases hin : i < n
  · refine W.item i s' _ _ hin hst fun v h' tk hP hst' hkeep => ?_
    have F₁ := keepF F hkeep
    have N₁ := keepN N hnI hkeep
    refine wpAny_assign_Name (wpAny_storeName_local (s := { s' with heap := h', toks := tk }) hx F₁.ns (fun h₂ hn₂ hs₂ => ?_) hp)
    have F₂ : Fr h₀ env.locals h₂ (fun y => if y = x then some v else m y) := F₁.set hn₂ hs₂
    have hst₂ : St (i + 1) h₂ := W.frame _ _ _ hst' fun b hb o e => (hs₂.2 b (fun e' => hIL ((List.mem_singleton.mp hb).symm.trans e'))).trans e
    have N₂ : News h₀ env.locals h₂ news := fun p hp => ⟨(hs₂.2 _ (N₁ p hp).2.1).trans (N₁ p hp).1, (N₁ p hp).2⟩
    have hex : ∃ oI, h₂.get? I = some oI ∧ ∀ g : Heap, g.get? I = some oI → St (i + 1) g := by
      cases hq : h₂.get? I with
      | some oI => exact ⟨oI, rfl, fun g hg => W.frame _ _ _ hst₂ fun b hb o e => by
          rw [List.mem_singleton.mp hb] at e ⊢; rw [hq] at e; cases e; exact hg⟩
      | none => obtain ⟨o, ho⟩ := hat _ _ hst₂; rw [hq] at ho; cases ho
    obtain ⟨oI, hoI, hback⟩ := hex
    refine wpAny_mono (turn i v m news _ oI hin hP ⟨hk.os, hk.bare⟩ hJ hnI hst₂ F₂ fun p hp => ?_) (fun f s₃ hf => ?_) fun e s'' he => hE e s'' he
    · rcases List.mem_cons.mp hp with rfl | hp
      · exact ⟨hoI, hIL, hI0⟩
      · exact N₂ p hp
    · cases f with
      | brk => exact hf
      | ret v => exact hf
      | next =>
        obtain ⟨m', news', hk', F', N', hn', hJ'⟩ := hf
        exact ⟨n - (i + 1), by lia, .mk (i + 1) m' news' rfl hin hk' (hback _ (N' _ (.head _)).1) F' (fun p hp => N' p (.tail _ hp)) hn' hJ'⟩
      | cont =>
        obtain ⟨m', news', hk', F', N', hn', hJ'⟩ := hf
        exact ⟨n - (i + 1), by lia, .mk (i + 1) m' news' rfl hin hk' (hback _ (N' _ (.head _)).1) F' (fun p hp => N' p (.tail _ hp)) hn' hJ'⟩
  · have hi' : i = n := by lia
    subst hi'
    refine W.done s' _ _ hst fun h' tk hkeep => ?_
    exact wpAny_mono (done m news { s' with heap := h', toks := tk } ⟨hk.os, hk.bare⟩ hJ (keepF F hkeep) (keepN N hnI hkeep)) (fun f s₃ hf => hf) fun e s'' he => hE e s'' he

theorem loopX_range {x : Str} {body orelse : List Stmt} {Q : Flow → Shared → Prop} {r : Addr} {a₀ b₀ c : Int} {t₀ u₀ v₀ : Tok} {n : Nat} {m : Str → Option Value} {news : List (Addr × Obj)}
    (J : Nat → (Str → Option Value) → List (Addr × Obj) → Prop)
    (hh : A.handled = none) (hr : IsRange s.heap r a₀ b₀ c t₀ u₀ v₀) (hsmall : Builtin.Range.small a₀ b₀ c = true) (hn : Builtin.Range.rangeSize a₀ b₀ c = (n : Int)) (F : Fr h₀ env.locals s.heap m) (N : News h₀ env.locals s.heap news) (hJ : J 0 m news)
    (turn : ∀ I i v m news s' oI, i < n → (∃ t, v = .int (a₀ + i * c) t) → Kp s s' → J i m news → (∀ p ∈ news, p.1 ≠ I) → oI.cls = .type "range_iterator" → Fr h₀ env.locals s'.heap (fun y => if y = x then some v else m y) → News h₀ env.locals s'.heap ((I, oI) :: news) →
        wpAny (model prog w) A (execs body env) (TurnTo h₀ env.locals I oI (J (i + 1)) s Q) E s')
    (done : ∀ m news s', Kp s s' → J n m news → Fr h₀ env.locals s'.heap m → News h₀ env.locals s'.heap news → wpAny (model prog w) A (execs orelse env) Q E s') :
    wpAny (model prog w) A (pyIter (.ref r)) (LoopX prog w A h₀ env x body orelse Q E) E s := by
  refine wpAny_pyIter_range hr hsmall ?_
  refine ⟨J, _, n, _, _, m, news, rfl, Walks.range hh _ a₀ c n, fun i h hi => ⟨_, hi⟩, (by show IsRangeIter _ _ _ _ _; rw [hn]; simpa using Heap.get?_push_size _ rfl), F.push _, (fun p hp => ⟨Heap.get?_push_of_some _ (N p hp).1, (N p hp).2⟩), ?_, next_is_new F, ?_, hJ, ?_, ?_⟩
  · exact fun e => absurd F.ns.lt (e ▸ Nat.lt_irrefl _)
  · exact fun p hp e => absurd (Heap.lt_size (N p hp).1) (e ▸ Nat.lt_irrefl _)
  · intro i v m news s' oI hi hv k hj ho hst F' N'
    have hoJ : s'.heap.get? s.heap.objs.size = some oI := (N' (s.heap.objs.size, oI) (.head _)).1
    have hoI : oI.cls = .type "range_iterator" := by rw [Option.some.inj (hoJ.symm.trans hst)]
    exact wpAny_mono (turn _ i v m news s' oI hi hv ⟨k.os, k.bare⟩ hj ho hoI F' N') (fun f s₃ hf => by
      cases f with
      | brk => exact hf
      | ret v => exact hf
      | next => obtain ⟨m', news', hk', r⟩ := hf; exact ⟨m', news', ⟨hk'.os, hk'.bare⟩, r⟩
      | cont => obtain ⟨m', news', hk', r⟩ := hf; exact ⟨m', news', ⟨hk'.os, hk'.bare⟩, r⟩) fun _ _ e => e
  · exact fun m news s' k hj F' N' => done m news s' ⟨k.os, k.bare⟩ hj F' N'

theorem loopX_str {x : Str} {body orelse : List Stmt} {Q : Flow → Shared → Prop} {tx : Str} {t : Tok} {m : Str → Option Value} {news : List (Addr × Obj)}
    (J : Nat → (Str → Option Value) → List (Addr × Obj) → Prop)
    (hh : A.handled = none) (F : Fr h₀ env.locals s.heap m) (N : News h₀ env.locals s.heap news) (hJ : J 0 m news)
    (turn : ∀ I i v m news s' oI, i < tx.cps.size → SignAt tx i v → Kp s s' → J i m news → (∀ p ∈ news, p.1 ≠ I) → Fr h₀ env.locals s'.heap (fun y => if y = x then some v else m y) → News h₀ env.locals s'.heap ((I, oI) :: news) →
        wpAny (model prog w) A (execs body env) (TurnTo h₀ env.locals I oI (J (i + 1)) s Q) E s')
    (done : ∀ m news s', Kp s s' → J tx.cps.size m news → Fr h₀ env.locals s'.heap m → News h₀ env.locals s'.heap news → wpAny (model prog w) A (execs orelse env) Q E s') :
    wpAny (model prog w) A (pyIter (.str tx t)) (LoopX prog w A h₀ env x body orelse Q E) E s := by
  refine wpAny_pyIter_strU ?_
  have go : ∀ (T : String), Walks prog w A s.heap.objs.size [s.heap.objs.size] [s.heap.objs.size] tx.cps.size (SignAt tx) (fun i h => h.IsStrIter s.heap.objs.size T tx t i) → strIterType tx = T →
      LoopX prog w A h₀ env x body orelse Q E (.ref s.heap.objs.size) { s with heap := s.heap.push { cls := .type (strIterType tx), data := .fields #[.str tx t, .int 0 0] } } := by
    intro T W eT
    refine ⟨J, _, _, _, _, m, news, rfl, W, fun i h hi => let ⟨o, ho, _⟩ := hi; ⟨o, ho⟩, ⟨_, Heap.get?_push_size _ rfl, by rw [eT], rfl⟩, F.push _, (fun p hp => ⟨Heap.get?_push_of_some _ (N p hp).1, (N p hp).2⟩), ?_, next_is_new F, ?_, hJ, ?_, ?_⟩
    · exact fun e => absurd F.ns.lt (e ▸ Nat.lt_irrefl _)
    · exact fun p hp e => absurd (Heap.lt_size (N p hp).1) (e ▸ Nat.lt_irrefl _)
    · intro i v m news s' oI hi hv k hj ho _ F' N'
      exact wpAny_mono (turn _ i v m news s' oI hi hv ⟨k.os, k.bare⟩ hj ho F' N') (fun f s₃ hf => by
        cases f with
        | brk => exact hf
        | ret v => exact hf
        | next => obtain ⟨m', news', hk', r⟩ := hf; exact ⟨m', news', ⟨hk'.os, hk'.bare⟩, r⟩
        | cont => obtain ⟨m', news', hk', r⟩ := hf; exact ⟨m', news', ⟨hk'.os, hk'.bare⟩, r⟩) fun _ _ e => e
    · exact fun m news s' k hj F' N' => done m news s' ⟨k.os, k.bare⟩ hj F' N'
  cases ha : tx.cps.all (· < 128)
  · exact go "str_iterator" (Walks.strWide hh _ tx t) (by simp [strIterType, ha])
  · exact go "str_ascii_iterator" (Walks.strAscii hh _ tx t) (by simp [strIterType, ha])
end

end

section
open PySem PySem.W PyProof.Rows PySem.Calls
set_option Elab.async false
set_option maxRecDepth 100000
set_option maxHeartbeats 4000000
section
variable {prog : Program} {w : World} {A : Around} {E : Value → Shared → Prop} {s : Shared} {h₀ : Heap} {env : Env}

/-- the frame's names beside the stored ones -/
noncomputable abbrev mixM (stored : List Str) (u m₀ : Str → Option Value) : Str → Option Value := fun y => if stored.contains y then u y else m₀ y
theorem mixM_self (stored : List Str) (m₀ : Str → Option Value) : m₀ = mixM stored m₀ m₀ := by funext y; unfold mixM; split <;> rfl

/-- a turn's end, the ledger as it was -/
def TurnS (h₀ : Heap) (L I : Addr) (oI : Obj) (stored : List Str) (m₀ : Str → Option Value) (news : List (Addr × Obj)) (ok : Prop) (s₀ : Shared) (Q : Flow → Shared → Prop) (f : Flow) (s₃ : Shared) : Prop := match f with
  | .next | .cont => ok ∧ ∃ m', Kp s₀ s₃ ∧ Fr h₀ L s₃.heap m' ∧ News h₀ L s₃.heap ((I, oI) :: news) ∧ (∀ y, stored.contains y = false → m' y = m₀ y)
  | .brk => Q .next s₃
  | .ret v => Q (.ret v) s₃

theorem TurnS.to {L I : Addr} {oI : Obj} {stored : List Str} {m₀ : Str → Option Value} {news : List (Addr × Obj)} {ok : Prop} {s₀ : Shared} {Q : Flow → Shared → Prop} (R : Nat → Prop) (i : Nat) (hok : ok → R i) (hn : ∀ p ∈ news, p.1 ≠ I) {f : Flow} {s₃ : Shared} (h : TurnS h₀ L I oI stored m₀ news ok s₀ Q f s₃) :
    TurnTo h₀ L I oI (fun m nx => R i ∧ nx = news ∧ ∃ u, m = mixM stored u m₀) s₀ Q f s₃ := by
  have key : ∀ m' : Str → Option Value, (∀ y, stored.contains y = false → m' y = m₀ y) → m' = mixM stored m' m₀ := fun m' e => by
    funext y
    unfold mixM
    by_cases c : stored.contains y = true
    · rw [if_pos c]
    · rw [if_neg c]; exact e y (Bool.eq_false_iff.mpr c)
  cases f with
  | brk => exact h
  | ret v => exact h
  | next => obtain ⟨o, m', k, F, N, e⟩ := h; exact ⟨m', news, k, F, N, hn, hok o, rfl, m', key m' e⟩
  | cont => obtain ⟨o, m', k, F, N, e⟩ := h; exact ⟨m', news, k, F, N, hn, hok o, rfl, m', key m' e⟩

theorem loopS_range {x : Str} {body orelse : List Stmt} {Q : Flow → Shared → Prop} {r : Addr} {a₀ b₀ c : Int} {t₀ u₀ v₀ : Tok} {n : Nat} {m : Str → Option Value} {news : List (Addr × Obj)}
    (stored : List Str) (R : Nat → Prop) (hh : A.handled = none) (hr : IsRange s.heap r a₀ b₀ c t₀ u₀ v₀) (hsmall : Builtin.Range.small a₀ b₀ c = true) (hn : Builtin.Range.rangeSize a₀ b₀ c = (n : Int)) (F : Fr h₀ env.locals s.heap m) (N : News h₀ env.locals s.heap news) (hR : R 0)
    (turn : ∀ I i t u s' oI, i < n → R i → (∀ p ∈ news, p.1 ≠ I) → Kp s s' → Fr h₀ env.locals s'.heap (fun y => if y = x then some (.int (a₀ + i * c) t) else mixM stored u m y) → News h₀ env.locals s'.heap ((I, oI) :: news) →
        wpAny (model prog w) A (execs body env) (TurnS h₀ env.locals I oI stored m news (R (i + 1)) s Q) E s')
    (done : ∀ u s', Kp s s' → R n → Fr h₀ env.locals s'.heap (mixM stored u m) → News h₀ env.locals s'.heap news → wpAny (model prog w) A (execs orelse env) Q E s') :
    wpAny (model prog w) A (pyIter (.ref r)) (LoopX prog w A h₀ env x body orelse Q E) E s := by
  refine loopX_range (fun i m' nx => R i ∧ nx = news ∧ ∃ u, m' = mixM stored u m) hh hr hsmall hn F N ⟨hR, rfl, m, mixM_self _ _⟩ ?_ ?_
  · rintro I i v m' nx s' oI hi ⟨t, rfl⟩ k ⟨r1, rfl, u, rfl⟩ hn _ F' N'
    exact wpAny_mono (turn I i t u s' oI hi r1 hn k F' N') (fun f s₃ hf => hf.to R (i + 1) id hn) fun _ _ e => e
  · rintro m' nx s' k ⟨r1, rfl, u, rfl⟩ F' N'
    exact done u s' k r1 F' N'

theorem loopS_str {x : Str} {body orelse : List Stmt} {Q : Flow → Shared → Prop} {tx : Str} {t : Tok} {m : Str → Option Value} {news : List (Addr × Obj)}
    (stored : List Str) (R : Nat → Prop) (hh : A.handled = none) (F : Fr h₀ env.locals s.heap m) (N : News h₀ env.locals s.heap news) (hR : R 0)
    (turn : ∀ I i c t u s' oI, tx.cps[i]? = some c → R i → (∀ p ∈ news, p.1 ≠ I) → Kp s s' → Fr h₀ env.locals s'.heap (fun y => if y = x then some (.str ⟨#[c]⟩ t) else mixM stored u m y) → News h₀ env.locals s'.heap ((I, oI) :: news) →
        wpAny (model prog w) A (execs body env) (TurnS h₀ env.locals I oI stored m news (R (i + 1)) s Q) E s')
    (done : ∀ u s', Kp s s' → R tx.cps.size → Fr h₀ env.locals s'.heap (mixM stored u m) → News h₀ env.locals s'.heap news → wpAny (model prog w) A (execs orelse env) Q E s') :
    wpAny (model prog w) A (pyIter (.str tx t)) (LoopX prog w A h₀ env x body orelse Q E) E s := by
  refine loopX_str (fun i m' nx => R i ∧ nx = news ∧ ∃ u, m' = mixM stored u m) hh F N ⟨hR, rfl, m, mixM_self _ _⟩ ?_ ?_
  · rintro I i v m' nx s' oI hi ⟨c, t, hc, rfl⟩ k ⟨r1, rfl, u, rfl⟩ hn F' N'
    exact wpAny_mono (turn I i c t u s' oI hc r1 hn k F' N') (fun f s₃ hf => hf.to R (i + 1) id hn) fun _ _ e => e
  · rintro m' nx s' k ⟨r1, rfl, u, rfl⟩ F' N'
    exact done u s' k r1 F' N'

/-- a turn's end, the ledger as the word says -/
def TurnR (h₀ : Heap) (L I : Addr) (oI : Obj) (stored : List Str) (m₀ : Str → Option Value) (R : List (Addr × Obj) → Prop) (s₀ : Shared) (Q : Flow → Shared → Prop) (f : Flow) (s₃ : Shared) : Prop := match f with
  | .next | .cont => ∃ m' nx, Kp s₀ s₃ ∧ Fr h₀ L s₃.heap m' ∧ News h₀ L s₃.heap ((I, oI) :: nx) ∧ (∀ p ∈ nx, p.1 ≠ I) ∧ R nx ∧ (∀ y, stored.contains y = false → m' y = m₀ y)
  | .brk => Q .next s₃
  | .ret v => Q (.ret v) s₃
theorem mixM_of {stored : List Str} {m' m₀ : Str → Option Value} (e : ∀ y, stored.contains y = false → m' y = m₀ y) : m' = mixM stored m' m₀ := by
  funext y
  unfold mixM
  by_cases c : stored.contains y = true
  · rw [if_pos c]
  · rw [if_neg c]; exact e y (Bool.eq_false_iff.mpr c)
theorem TurnR.to {L I : Addr} {oI : Obj} {stored : List Str} {m₀ : Str → Option Value} {s₀ : Shared} {Q : Flow → Shared → Prop} {R : List (Addr × Obj) → Prop} {f : Flow} {s₃ : Shared} (h : TurnR h₀ L I oI stored m₀ R s₀ Q f s₃) :
    TurnTo h₀ L I oI (fun m nx => R nx ∧ ∃ u, m = mixM stored u m₀) s₀ Q f s₃ := by
  cases f with
  | brk => exact h
  | ret v => exact h
  | next => obtain ⟨m', nx, k, F, N, hn, r, e⟩ := h; exact ⟨m', nx, k, F, N, hn, r, m', mixM_of e⟩
  | cont => obtain ⟨m', nx, k, F, N, hn, r, e⟩ := h; exact ⟨m', nx, k, F, N, hn, r, m', mixM_of e⟩
theorem loopR_range {x : Str} {body orelse : List Stmt} {Q : Flow → Shared → Prop} {r : Addr} {a₀ b₀ c : Int} {t₀ u₀ v₀ : Tok} {n : Nat} {m : Str → Option Value} {news : List (Addr × Obj)}
    (stored : List Str) (R : Nat → List (Addr × Obj) → Prop) (hh : A.handled = none) (hr : IsRange s.heap r a₀ b₀ c t₀ u₀ v₀) (hsmall : Builtin.Range.small a₀ b₀ c = true) (hn : Builtin.Range.rangeSize a₀ b₀ c = (n : Int)) (F : Fr h₀ env.locals s.heap m) (N : News h₀ env.locals s.heap news) (hR : R 0 news)
    (turn : ∀ I i t u nx s' oI, i < n → R i nx → (∀ p ∈ nx, p.1 ≠ I) → oI.cls = .type "range_iterator" → Kp s s' → Fr h₀ env.locals s'.heap (fun y => if y = x then some (.int (a₀ + i * c) t) else mixM stored u m y) → News h₀ env.locals s'.heap ((I, oI) :: nx) →
        wpAny (model prog w) A (execs body env) (TurnR h₀ env.locals I oI stored m (R (i + 1)) s Q) E s')
    (done : ∀ u nx s', Kp s s' → R n nx → Fr h₀ env.locals s'.heap (mixM stored u m) → News h₀ env.locals s'.heap nx → wpAny (model prog w) A (execs orelse env) Q E s') :
    wpAny (model prog w) A (pyIter (.ref r)) (LoopX prog w A h₀ env x body orelse Q E) E s := by
  refine loopX_range (fun i m' nx => R i nx ∧ ∃ u, m' = mixM stored u m) hh hr hsmall hn F N ⟨hR, m, mixM_self _ _⟩ ?_ ?_
  · rintro I i v m' nx s' oI hi ⟨t, rfl⟩ k ⟨r1, u, rfl⟩ hn ho F' N'
    exact wpAny_mono (turn I i t u nx s' oI hi r1 hn ho k F' N') (fun f s₃ hf => hf.to) fun _ _ e => e
  · rintro m' nx s' k ⟨r1, u, rfl⟩ F' N'
    exact done u nx s' k r1 F' N'
end

end

section
open PySem PySem.W PyProof.Rows PySem.Calls
set_option Elab.async false
set_option maxRecDepth 100000
set_option maxHeartbeats 4000000
section
variable {prog : Program} {w : World} {A : Around} {E : Value → Shared → Prop} {Q : Flow → Shared → Prop} {s : Shared} {env : Env} {h₀ : Heap} {L : Addr}
/-- a while's turn: what it must hand on -/
def WTurn (h₀ : Heap) (L : Addr) (s : Shared) (J : Nat → (Str → Option Value) → List (Addr × Obj) → Prop) (n : Nat) (Q : Flow → Shared → Prop) (f : Flow) (s₃ : Shared) : Prop := match f with
  | .next | .cont => ∃ n' m₂ news₂, n' < n ∧ Kp s s₃ ∧ Fr h₀ L s₃.heap m₂ ∧ News h₀ L s₃.heap news₂ ∧ J n' m₂ news₂
  | .brk => Q .next s₃
  | .ret v => Q (.ret v) s₃

theorem whileX {test : Expr} {body orelse : List Stmt} {pos : Pos} {m : Str → Option Value} {news : List (Addr × Obj)} (J : Nat → (Str → Option Value) → List (Addr × Obj) → Prop) {n₀ : Nat}
    (F : Fr h₀ L s.heap m) (N : News h₀ L s.heap news) (hJ : J n₀ m news)
    (turn : ∀ n m₁ news₁ s', Kp s s' → Fr h₀ L s'.heap m₁ → News h₀ L s'.heap news₁ → J n m₁ news₁ →
      wpAny (model prog w) A (isTrue test env (eval test env)) (fun b s₂ =>
        if b = true then wpAny (model prog w) A (execs body env) (WTurn h₀ L s J n Q) E s₂ else wpAny (model prog w) A (execs orelse env) Q E s₂) E s')
    (hE : PassesOwn (model prog w) A env E := by passes_own) :
    wpAny (model prog w) A (exec (.While test body orelse pos) env) Q E s := by
  refine wpAny_While (codeAny_whileLoop (fun n s' => ∃ m₁ news₁, Kp s s' ∧ Fr h₀ L s'.heap m₁ ∧ News h₀ L s'.heap news₁ ∧ J n m₁ news₁) ?_ n₀ ⟨m, news, Kp.refl _, F, N, hJ⟩)
  rintro n s' ⟨m₁, news₁, k₁, F₁, N₁, J₁⟩
  refine wpAny_mono (turn n m₁ news₁ s' k₁ F₁ N₁ J₁) (fun b s₂ h₂ => ?_) hE
  cases b with
  | false =>
    simp only [Bool.false_eq_true, if_false] at h₂ ⊢
    exact wpAny_mono h₂ (fun f s₃ h₃ => h₃) hE
  | true =>
    simp only [if_true] at h₂ ⊢
    refine wpAny_mono h₂ (fun f s₃ h₃ => ?_) hE
    cases f with
    | brk => exact h₃
    | ret v => exact h₃
    | next => obtain ⟨n', m₂, news₂, hn, k, F₂, N₂, J₂⟩ := h₃; exact ⟨n', hn, m₂, news₂, k, F₂, N₂, J₂⟩
    | cont => obtain ⟨n', m₂, news₂, hn, k, F₂, N₂, J₂⟩ := h₃; exact ⟨n', hn, m₂, news₂, k, F₂, N₂, J₂⟩

/-- two names that hold ints -/
noncomputable abbrev upd2 (x₁ x₂ : Str) (a₁ : Int) (t₁ : Tok) (a₂ : Int) (t₂ : Tok) (m : Str → Option Value) : Str → Option Value := fun y => if y = x₂ then some (.int a₂ t₂) else if y = x₁ then some (.int a₁ t₁) else m y
def W2Turn (h₀ : Heap) (L : Addr) (s : Shared) (x₁ x₂ : Str) (R : Nat → Int → Int → Prop) (m : Str → Option Value) (news : List (Addr × Obj)) (n : Nat) (Q : Flow → Shared → Prop) (f : Flow) (s₃ : Shared) : Prop := match f with
  | .next | .cont => ∃ n' a₁ a₂ m', n' < n ∧ R n' a₁ a₂ ∧ Kp s s₃ ∧ Fr h₀ L s₃.heap m' ∧ News h₀ L s₃.heap news ∧ (∃ t₁, m' x₁ = some (.int a₁ t₁)) ∧ (∃ t₂, m' x₂ = some (.int a₂ t₂)) ∧ (∀ y, y ≠ x₁ → y ≠ x₂ → m' y = m y)
  | .brk => Q .next s₃
  | .ret v => Q (.ret v) s₃

theorem while2 {test : Expr} {body orelse : List Stmt} {pos : Pos} {m : Str → Option Value} {news : List (Addr × Obj)} (x₁ x₂ : Str) (R : Nat → Int → Int → Prop) {n₀ : Nat} {b₁ b₂ : Int} {u₁ u₂ : Tok}
    (F : Fr h₀ L s.heap m) (N : News h₀ L s.heap news) (h1 : m x₁ = some (.int b₁ u₁)) (h2 : m x₂ = some (.int b₂ u₂)) (hR : R n₀ b₁ b₂)
    (turn : ∀ n a₁ t₁ a₂ t₂ s', Kp s s' → R n a₁ a₂ → Fr h₀ L s'.heap (upd2 x₁ x₂ a₁ t₁ a₂ t₂ m) → News h₀ L s'.heap news →
      wpAny (model prog w) A (isTrue test env (eval test env)) (fun b s₂ =>
        if b = true then wpAny (model prog w) A (execs body env) (W2Turn h₀ L s x₁ x₂ R m news n Q) E s₂ else wpAny (model prog w) A (execs orelse env) Q E s₂) E s')
    (hE : PassesOwn (model prog w) A env E := by passes_own) :
    wpAny (model prog w) A (exec (.While test body orelse pos) env) Q E s := by
  have key : ∀ (m' : Str → Option Value) (b₁ b₂ : Int) (u₁ u₂ : Tok), m' x₁ = some (.int b₁ u₁) → m' x₂ = some (.int b₂ u₂) → (∀ y, y ≠ x₁ → y ≠ x₂ → m' y = m y) → m' = upd2 x₁ x₂ b₁ u₁ b₂ u₂ m := by
    intro m' b₁ b₂ u₁ u₂ h1 h2 h3
    funext y
    unfold upd2
    by_cases e2 : y = x₂
    · rw [if_pos e2, e2]; exact h2
    · rw [if_neg e2]
      by_cases e1 : y = x₁
      · rw [if_pos e1, e1]; exact h1
      · rw [if_neg e1]; exact h3 y e1 e2
  have start := key m _ _ _ _ h1 h2 fun _ _ _ => rfl
  refine whileX (fun n m' nx => nx = news ∧ ∃ a₁ t₁ a₂ t₂, R n a₁ a₂ ∧ m' = upd2 x₁ x₂ a₁ t₁ a₂ t₂ m) F N ⟨rfl, b₁, u₁, b₂, u₂, hR, start⟩ ?_ hE
  rintro n m' nx s' k F' N' ⟨rfl, a₁, t₁, a₂, t₂, r, rfl⟩
  refine wpAny_mono (turn n a₁ t₁ a₂ t₂ s' k r F' N') (fun b s₂ h => ?_) fun _ _ e => e
  cases b with
  | false => exact h
  | true =>
    rw [if_pos rfl] at h ⊢
    refine wpAny_mono h (fun f s₃ hf => ?_) fun _ _ e => e
    cases f with
    | brk => exact hf
    | ret v => exact hf
    | next => obtain ⟨n', a₁, a₂, m', hn, hr, kp, F₂, N₂, ⟨t₁, e1⟩, ⟨t₂, e2⟩, e3⟩ := hf; exact ⟨n', m', _, hn, kp, F₂, N₂, rfl, a₁, t₁, a₂, t₂, hr, key m' _ _ _ _ e1 e2 e3⟩
    | cont => obtain ⟨n', a₁, a₂, m', hn, hr, kp, F₂, N₂, ⟨t₁, e1⟩, ⟨t₂, e2⟩, e3⟩ := hf; exact ⟨n', m', _, hn, kp, F₂, N₂, rfl, a₁, t₁, a₂, t₂, hr, key m' _ _ _ _ e1 e2 e3⟩
end
/-- a step that the walk is to leave alone -/
def Hold (P : Prop) : Prop := P
theorem hold_ {P : Prop} (h : Hold P) : P := h
theorem Hold.go {P : Prop} (h : P) : Hold P := h

end

section
open PySem PySem.W PyProof.Rows PySem.Calls
set_option Elab.async false
set_option maxRecDepth 100000
set_option maxHeartbeats 4000000
section
variable {prog : Program} {w : World} {A : Around} {E : Value → Shared → Prop} {Q : Flow → Shared → Prop} {s : Shared} {env : Env} {h₀ : Heap} {L : Addr}
/-- a while that keeps two ints, forgets other names and changes the ledger -/
def WRTurn (h₀ : Heap) (L : Addr) (s : Shared) (x₁ x₂ : Str) (stored : List Str) (R : Nat → Int → Int → List (Addr × Obj) → Prop) (m : Str → Option Value) (n : Nat) (Q : Flow → Shared → Prop) (f : Flow) (s₃ : Shared) : Prop := match f with
  | .next | .cont => ∃ n' a₁ a₂ m' nx, n' < n ∧ R n' a₁ a₂ nx ∧ Kp s s₃ ∧ Fr h₀ L s₃.heap m' ∧ News h₀ L s₃.heap nx ∧ (∃ t₁, m' x₁ = some (.int a₁ t₁)) ∧ (∃ t₂, m' x₂ = some (.int a₂ t₂)) ∧ (∀ y, y ≠ x₁ → y ≠ x₂ → stored.contains y = false → m' y = m y)
  | .brk => Q .next s₃
  | .ret v => Q (.ret v) s₃
theorem whileR {test : Expr} {body orelse : List Stmt} {pos : Pos} {m : Str → Option Value} {news : List (Addr × Obj)} (x₁ x₂ : Str) (stored : List Str) (R : Nat → Int → Int → List (Addr × Obj) → Prop) {n₀ : Nat} {b₁ b₂ : Int} {u₁ u₂ : Tok}
    (F : Fr h₀ L s.heap m) (N : News h₀ L s.heap news) (h1 : m x₁ = some (.int b₁ u₁)) (h2 : m x₂ = some (.int b₂ u₂)) (hR : R n₀ b₁ b₂ news)
    (turn : ∀ n a₁ t₁ a₂ t₂ u nx s', Kp s s' → R n a₁ a₂ nx → Fr h₀ L s'.heap (upd2 x₁ x₂ a₁ t₁ a₂ t₂ (mixM stored u m)) → News h₀ L s'.heap nx →
      wpAny (model prog w) A (isTrue test env (eval test env)) (fun b s₂ =>
        if b = true then wpAny (model prog w) A (execs body env) (WRTurn h₀ L s x₁ x₂ stored R m n Q) E s₂ else wpAny (model prog w) A (execs orelse env) Q E s₂) E s')
    (hE : PassesOwn (model prog w) A env E := by passes_own) :
    wpAny (model prog w) A (exec (.While test body orelse pos) env) Q E s := by
  have key : ∀ (m' : Str → Option Value) (b₁ b₂ : Int) (u₁ u₂ : Tok), m' x₁ = some (.int b₁ u₁) → m' x₂ = some (.int b₂ u₂) → (∀ y, y ≠ x₁ → y ≠ x₂ → stored.contains y = false → m' y = m y) → m' = upd2 x₁ x₂ b₁ u₁ b₂ u₂ (mixM stored m' m) := by
    intro m' b₁ b₂ u₁ u₂ h1 h2 h3
    funext y
    unfold upd2
    by_cases e2 : y = x₂
    · rw [if_pos e2, e2]; exact h2
    · rw [if_neg e2]
      by_cases e1 : y = x₁
      · rw [if_pos e1, e1]; exact h1
      · rw [if_neg e1]
        unfold mixM
        by_cases c : stored.contains y = true
        · rw [if_pos c]
        · rw [if_neg c]; exact h3 y e1 e2 (Bool.eq_false_iff.mpr c)
  refine whileX (fun n m' nx => ∃ a₁ t₁ a₂ t₂ u, R n a₁ a₂ nx ∧ m' = upd2 x₁ x₂ a₁ t₁ a₂ t₂ (mixM stored u m)) F N ⟨b₁, u₁, b₂, u₂, m, hR, key m _ _ _ _ h1 h2 fun _ _ _ _ => rfl⟩ ?_ hE
  rintro n m' nx s' k F' N' ⟨a₁, t₁, a₂, t₂, u, r, rfl⟩
  refine wpAny_mono (turn n a₁ t₁ a₂ t₂ u nx s' k r F' N') (fun b s₂ h => ?_) fun _ _ e => e
  cases b with
  | false => exact h
  | true =>
    rw [if_pos rfl] at h ⊢
    refine wpAny_mono h (fun f s₃ hf => ?_) fun _ _ e => e
    cases f with
    | brk => exact hf
    | ret v => exact hf
    | next => obtain ⟨n', a₁, a₂, m', nx, hn, hr, kp, F₂, N₂, ⟨t₁, e1⟩, ⟨t₂, e2⟩, e3⟩ := hf; exact ⟨n', m', _, hn, kp, F₂, N₂, a₁, t₁, a₂, t₂, m', hr, key m' _ _ _ _ e1 e2 e3⟩
    | cont => obtain ⟨n', a₁, a₂, m', nx, hn, hr, kp, F₂, N₂, ⟨t₁, e1⟩, ⟨t₂, e2⟩, e3⟩ := hf; exact ⟨n', m', _, hn, kp, F₂, N₂, a₁, t₁, a₂, t₂, m', hr, key m' _ _ _ _ e1 e2 e3⟩
end

end

section
open PySem PySem.W PyProof.Rows PySem.Calls
set_option Elab.async false
set_option maxRecDepth 100000
set_option maxHeartbeats 4000000
section
variable {prog : Program} {w : World} {A : Around} {E : Value → Shared → Prop} {Q : Flow → Shared → Prop} {s : Shared} {env : Env} {h₀ : Heap} {L : Addr}
/-- one name that holds an object -/
noncomputable abbrev updR (x₁ : Str) (a : Addr) (m : Str → Option Value) : Str → Option Value := fun y => if y = x₁ then some (.ref a) else m y
def WFTurn (h₀ : Heap) (L : Addr) (s : Shared) (x₁ : Str) (stored : List Str) (R : Nat → Addr → List (Addr × Obj) → Prop) (m : Str → Option Value) (n : Nat) (Q : Flow → Shared → Prop) (f : Flow) (s₃ : Shared) : Prop := match f with
  | .next | .cont => ∃ n' a m' nx, n' < n ∧ R n' a nx ∧ Kp s s₃ ∧ Fr h₀ L s₃.heap m' ∧ News h₀ L s₃.heap nx ∧ m' x₁ = some (.ref a) ∧ (∀ y, y ≠ x₁ → stored.contains y = false → m' y = m y)
  | .brk => Q .next s₃
  | .ret v => Q (.ret v) s₃
theorem whileF {test : Expr} {body orelse : List Stmt} {pos : Pos} {m : Str → Option Value} {news : List (Addr × Obj)} (x₁ : Str) (stored : List Str) (R : Nat → Addr → List (Addr × Obj) → Prop) {n₀ : Nat} {a₀ : Addr}
    (F : Fr h₀ L s.heap m) (N : News h₀ L s.heap news) (h1 : m x₁ = some (.ref a₀)) (hR : R n₀ a₀ news)
    (turn : ∀ n a u nx s', Kp s s' → R n a nx → Fr h₀ L s'.heap (updR x₁ a (mixM stored u m)) → News h₀ L s'.heap nx →
      wpAny (model prog w) A (isTrue test env (eval test env)) (fun b s₂ =>
        if b = true then wpAny (model prog w) A (execs body env) (WFTurn h₀ L s x₁ stored R m n Q) E s₂ else wpAny (model prog w) A (execs orelse env) Q E s₂) E s')
    (hE : PassesOwn (model prog w) A env E := by passes_own) :
    wpAny (model prog w) A (exec (.While test body orelse pos) env) Q E s := by
  have key : ∀ (m' : Str → Option Value) (a : Addr), m' x₁ = some (.ref a) → (∀ y, y ≠ x₁ → stored.contains y = false → m' y = m y) → m' = updR x₁ a (mixM stored m' m) := by
    intro m' a h1 h3
    funext y
    unfold updR
    by_cases e1 : y = x₁
    · rw [if_pos e1, e1]; exact h1
    · rw [if_neg e1]
      unfold mixM
      by_cases c : stored.contains y = true
      · rw [if_pos c]
      · rw [if_neg c]; exact h3 y e1 (Bool.eq_false_iff.mpr c)
  refine whileX (fun n m' nx => ∃ a u, R n a nx ∧ m' = updR x₁ a (mixM stored u m)) F N ⟨a₀, m, hR, key m _ h1 fun _ _ _ => rfl⟩ ?_ hE
  rintro n m' nx s' k F' N' ⟨a, u, r, rfl⟩
  refine wpAny_mono (turn n a u nx s' k r F' N') (fun b s₂ h => ?_) fun _ _ e => e
  cases b with
  | false => exact h
  | true =>
    rw [if_pos rfl] at h ⊢
    refine wpAny_mono h (fun f s₃ hf => ?_) fun _ _ e => e
    cases f with
    | brk => exact hf
    | ret v => exact hf
    | next => obtain ⟨n', a, m', nx, hn, hr, kp, F₂, N₂, e1, e3⟩ := hf; exact ⟨n', m', _, hn, kp, F₂, N₂, a, m', hr, key m' _ e1 e3⟩
    | cont => obtain ⟨n', a, m', nx, hn, hr, kp, F₂, N₂, e1, e3⟩ := hf; exact ⟨n', m', _, hn, kp, F₂, N₂, a, m', hr, key m' _ e1 e3⟩

/-- a while that leaves the frame's names alone -/
def WKTurn (h₀ : Heap) (L : Addr) (s : Shared) (R : Nat → List (Addr × Obj) → Prop) (m : Str → Option Value) (n : Nat) (Q : Flow → Shared → Prop) (f : Flow) (s₃ : Shared) : Prop := match f with
  | .next | .cont => ∃ n' nx, n' < n ∧ R n' nx ∧ Kp s s₃ ∧ Fr h₀ L s₃.heap m ∧ News h₀ L s₃.heap nx
  | .brk => Q .next s₃
  | .ret v => Q (.ret v) s₃
theorem whileK {test : Expr} {body orelse : List Stmt} {pos : Pos} {m : Str → Option Value} {news : List (Addr × Obj)} (R : Nat → List (Addr × Obj) → Prop) {n₀ : Nat}
    (F : Fr h₀ L s.heap m) (N : News h₀ L s.heap news) (hR : R n₀ news)
    (turn : ∀ n nx s', Kp s s' → R n nx → Fr h₀ L s'.heap m → News h₀ L s'.heap nx →
      wpAny (model prog w) A (isTrue test env (eval test env)) (fun b s₂ =>
        if b = true then wpAny (model prog w) A (execs body env) (WKTurn h₀ L s R m n Q) E s₂ else wpAny (model prog w) A (execs orelse env) Q E s₂) E s')
    (hE : PassesOwn (model prog w) A env E := by passes_own) :
    wpAny (model prog w) A (exec (.While test body orelse pos) env) Q E s := by
  refine whileX (fun n m' nx => R n nx ∧ m' = m) F N ⟨hR, rfl⟩ ?_ hE
  rintro n m' nx s' k F' N' ⟨r, rfl⟩
  refine wpAny_mono (turn n nx s' k r F' N') (fun b s₂ h => ?_) fun _ _ e => e
  cases b with
  | false => exact h
  | true =>
    rw [if_pos rfl] at h ⊢
    refine wpAny_mono h (fun f s₃ hf => ?_) fun _ _ e => e
    cases f with
    | brk => exact hf
    | ret v => exact hf
    | next => obtain ⟨n', nx, hn, hr, kp, F₂, N₂⟩ := hf; exact ⟨n', _, _, hn, kp, F₂, N₂, hr, rfl⟩
    | cont => obtain ⟨n', nx, hn, hr, kp, F₂, N₂⟩ := hf; exact ⟨n', _, _, hn, kp, F₂, N₂, hr, rfl⟩
end

end

section
open PySem PySem.W PyProof.Rows PySem.Calls
set_option Elab.async false
theorem WRTurn.mk {h₀ : Heap} {L : Addr} {s : Shared} {x₁ x₂ : Str} {stored : List Str} {R : Nat → Int → Int → List (Addr × Obj) → Prop} {m : Str → Option Value} {n : Nat} {Q : Flow → Shared → Prop} {s₃ : Shared} (n' : Nat) (a₁ a₂ : Int) (m' : Str → Option Value) (nx : List (Addr × Obj)) (hn : n' < n) (hR : R n' a₁ a₂ nx) (k : Kp s s₃) (F : Fr h₀ L s₃.heap m') (N : News h₀ L s₃.heap nx) (e1 : ∃ t₁, m' x₁ = some (.int a₁ t₁)) (e2 : ∃ t₂, m' x₂ = some (.int a₂ t₂)) (e3 : ∀ y, y ≠ x₁ → y ≠ x₂ → stored.contains y = false → m' y = m y) : WRTurn h₀ L s x₁ x₂ stored R m n Q .next s₃ := ⟨n', a₁, a₂, m', nx, hn, hR, k, F, N, e1, e2, e3⟩
theorem TurnR.mk {h₀ : Heap} {L I : Addr} {oI : Obj} {stored : List Str} {m₀ : Str → Option Value} {R : List (Addr × Obj) → Prop} {s₀ : Shared} {Q : Flow → Shared → Prop} {s₃ : Shared} (m' : Str → Option Value) (nx : List (Addr × Obj)) (k : Kp s₀ s₃) (F : Fr h₀ L s₃.heap m') (N : News h₀ L s₃.heap ((I, oI) :: nx)) (hn : ∀ p ∈ nx, p.1 ≠ I) (hR : R nx) (e : ∀ y, stored.contains y = false → m' y = m₀ y) : TurnR h₀ L I oI stored m₀ R s₀ Q .next s₃ := ⟨m', nx, k, F, N, hn, hR, e⟩
theorem TurnR.mkc {h₀ : Heap} {L I : Addr} {oI : Obj} {stored : List Str} {m₀ : Str → Option Value} {R : List (Addr × Obj) → Prop} {s₀ : Shared} {Q : Flow → Shared → Prop} {s₃ : Shared} (m' : Str → Option Value) (nx : List (Addr × Obj)) (k : Kp s₀ s₃) (F : Fr h₀ L s₃.heap m') (N : News h₀ L s₃.heap ((I, oI) :: nx)) (hn : ∀ p ∈ nx, p.1 ≠ I) (hR : R nx) (e : ∀ y, stored.contains y = false → m' y = m₀ y) : TurnR h₀ L I oI stored m₀ R s₀ Q .cont s₃ := ⟨m', nx, k, F, N, hn, hR, e⟩
theorem TurnS.mk {h₀ : Heap} {L I : Addr} {oI : Obj} {stored : List Str} {m₀ : Str → Option Value} {news : List (Addr × Obj)} {ok : Prop} {s₀ : Shared} {Q : Flow → Shared → Prop} {s₃ : Shared} (hok : ok) (m' : Str → Option Value) (k : Kp s₀ s₃) (F : Fr h₀ L s₃.heap m') (N : News h₀ L s₃.heap ((I, oI) :: news)) (e : ∀ y, stored.contains y = false → m' y = m₀ y) : TurnS h₀ L I oI stored m₀ news ok s₀ Q .next s₃ := ⟨hok, m', k, F, N, e⟩
theorem TurnS.mkc {h₀ : Heap} {L I : Addr} {oI : Obj} {stored : List Str} {m₀ : Str → Option Value} {news : List (Addr × Obj)} {ok : Prop} {s₀ : Shared} {Q : Flow → Shared → Prop} {s₃ : Shared} (hok : ok) (m' : Str → Option Value) (k : Kp s₀ s₃) (F : Fr h₀ L s₃.heap m') (N : News h₀ L s₃.heap ((I, oI) :: news)) (e : ∀ y, stored.contains y = false → m' y = m₀ y) : TurnS h₀ L I oI stored m₀ news ok s₀ Q .cont s₃ := ⟨hok, m', k, F, N, e⟩
theorem WFTurn.mk {h₀ : Heap} {L : Addr} {s : Shared} {x₁ : Str} {stored : List Str} {R : Nat → Addr → List (Addr × Obj) → Prop} {m : Str → Option Value} {n : Nat} {Q : Flow → Shared → Prop} {s₃ : Shared} (n' : Nat) (a : Addr) (m' : Str → Option Value) (nx : List (Addr × Obj)) (hn : n' < n) (hR : R n' a nx) (k : Kp s s₃) (F : Fr h₀ L s₃.heap m') (N : News h₀ L s₃.heap nx) (e1 : m' x₁ = some (.ref a)) (e2 : ∀ y, y ≠ x₁ → stored.contains y = false → m' y = m y) : WFTurn h₀ L s x₁ stored R m n Q .next s₃ := ⟨n', a, m', nx, hn, hR, k, F, N, e1, e2⟩
theorem WKTurn.mk {h₀ : Heap} {L : Addr} {s : Shared} {R : Nat → List (Addr × Obj) → Prop} {m : Str → Option Value} {n : Nat} {Q : Flow → Shared → Prop} {s₃ : Shared} (n' : Nat) (nx : List (Addr × Obj)) (hn : n' < n) (hR : R n' nx) (k : Kp s s₃) (F : Fr h₀ L s₃.heap m) (N : News h₀ L s₃.heap nx) : WKTurn h₀ L s R m n Q .next s₃ := ⟨n', nx, hn, hR, k, F, N⟩
theorem W2Turn.mk {h₀ : Heap} {L : Addr} {s : Shared} {x₁ x₂ : Str} {R : Nat → Int → Int → Prop} {m : Str → Option Value} {news : List (Addr × Obj)} {n : Nat} {Q : Flow → Shared → Prop} {s₃ : Shared} (n' : Nat) (a₁ a₂ : Int) (m' : Str → Option Value) (hn : n' < n) (hR : R n' a₁ a₂) (k : Kp s s₃) (F : Fr h₀ L s₃.heap m') (N : News h₀ L s₃.heap news) (e1 : ∃ t₁, m' x₁ = some (.int a₁ t₁)) (e2 : ∃ t₂, m' x₂ = some (.int a₂ t₂)) (e3 : ∀ y, y ≠ x₁ → y ≠ x₂ → m' y = m y) : W2Turn h₀ L s x₁ x₂ R m news n Q .next s₃ := ⟨n', a₁, a₂, m', hn, hR, k, F, N, e1, e2, e3⟩

end

local macro_rules | `(tactic| walk_at "exec For") => `(tactic| (k_here; (with_reducible show wpAny _ _ (exec (Stmt.For _ _ _ _ _) _) _ _ _); k_dflt (refine' forX (by k_asm) rfl rfl ?_; k_whole)))

section
open PySem PySem.W PyProof.Rows PySem.Calls
set_option Elab.async false
set_option maxRecDepth 100000
set_option maxHeartbeats 8000000
set_option pp.deepTerms false
set_option pp.maxSteps 3000

local macro_rules | `(tactic| walk_at "own line") => `(tactic| skip)
theorem chunk_a (w : World) (p : Program) (loose : List Str) (mean : ExcName → Option Value) (mg mb : Str → Option Value) (dp un : Nat) (gd : Option (List Code)) (cn : Str) (cs : Scope) (a : Addr) (ccd : Value) (cl : List (Str × Addr)) (outer : List Env) (A₀ : Around) (base h₀ : Heap) (L : Addr) (m : Str → Option Value) (s : Shared) (Q E : Value → Shared → Prop)
   (B : Below A₀ base outer h₀) (F : Fr h₀ L s.heap m) (X : (KL w.params).In h₀) (T : Top p loose mean mg mb h₀) (hk : cs.kind = .function) (hd1 : dp + 12 < recursionLimit) (hu : un + 8 * 12 < cLine)
   (P : VP) (f fd ln x d : Addr) (items : List Value) (n : Nat) (own : List (Addr × Obj)) (hs : Int) (tz : Tok) (k : Int) (tz' : Tok) (t1 t2 : Array Value) (ps : List (Str × Str)) (lines : List Value) (nl : Nat) (rows : List Str)
   (N : News h₀ L s.heap (vfL P f fd ln x d items n hs tz k tz' t1 t2 lines nl own)) (hor : VOrd f fd ln x d) (ho : OwnOff own [x, d, 140, 147, f, fd, ln])
   (ht1 : TriplesOk t1.toList) (ht2 : TriplesOk t2.toList) (hp : PartsAre own items ps) (hsm : Small ps) (hk0 : 0 ≤ k) (hk1 : k ≤ 2 ^ 20) (hl : StrsAre lines rows) (hlr : rows.length ≤ 190)
   (s1 s2 : Str) (u1 u2 : Tok) (hsm' : Small (ps ++ [(s1, s2)])) (hmx : P.mx ≤ 2 ^ 20) (hle : k + total (ps ++ [(s1, s2)]) ≤ P.mx)
   (hret : ∀ s' q n' m1, Kp s s' → Fr h₀ L s'.heap m → News h₀ L s'.heap (vfL P f fd ln x d (items ++ [.ref q]) n' hs tz k tz' m1 t2 lines nl ((q, tupO s1 u1 s2 u2) :: own)) → TriplesOk m1.toList → OwnOff ((q, tupO s1 u1 s2 u2) :: own) [x, d, 140, 147, f, fd, ln] → Q .none s') :
   wpAny (model Challenge.rw_xi0019_01.row.prog w) (ktrTop dp un gd cn cs L a ccd cl outer) (call (.ref 91) [.ref f, .str s1 u1, .str s2 u2]) Q E s := by
  revert X; k_fill; intro X
  have hor' := hor
  obtain ⟨o0, o1, o2, o3, o4⟩ := hor
  have hxd := o4
  have hd3 : @LT.lt Nat _ 147 d := by lia
  have hlen : items.length = ps.length := hp.len
  have h200 := hsm'.1
  rw [List.length_append, List.length_cons, List.length_nil] at h200
  refine wpAny_call ?_
  k_dflt (refine' code_def (binds := [(Str.ofString "self", .ref f), (Str.ofString "fws", .str s1 u1), (Str.ofString "string", .str s2 u2)]) ?k1 ?k2 ?k3 ?k4 ?k5 ?kA ?kF ?kK ?k6 ?k7 ?k8 ?k9 ?kB ?_ ?c2 ?c3 ?c4 ?c5; (case kA => exact rfl); (case kF => exact rfl); (case kK => first | exact rfl | assumption); (case k1 => k_asm); (case k2 => k_asm); (case k3 => k_asm); (case k4 => k_asm); (case k5 => k_asm); (case k6 => k_is); (case k7 => k_is); (case k8 => ktr_room); (case k9 => exact BindsTo.of_eq rfl); (case c5 => decide); (case kB => exact locs rfl); (case c2 => exact rfl); (case c3 => exact rfl); (case c4 => exact rfl); k_whole; intro g' L' h' FG' F' N' B' X' T'; (try dsimp only); (try k_lift B'); (try k_fold))
  k_steps
  k_here
  k_dflt (refine' push2 _ _ _ _ _ _ _ _ _ _ _ _ _ _ _ _ _ _ _ _ _ _ _ ?cB ?cF ?cX ?cT ?ck ?cd ?cu _ _ _ _ _ _ _ _ _ _ _ [] ?N hxd hd3 ?ho _ _ _ _ ?hz ?_; (case cB => k_asm); (case cF => k_asm); (case cX => k_asm); (case cT => k_asm); (case ck => first | exact rfl | assumption); (case cd => ktr_room); (case cu => ktr_units))
  case N => k_asm
  case ho => exact off_vf hor' ho
  case hz => lia
  intro s1' q n1 kp1 F1 N1
  have N2 : News _ _ _ (vfL P f fd ln x d (items ++ [.ref q]) n1 hs tz k tz' t1 t2 lines nl ((q, tupO s1 u1 s2 u2) :: own)) := news_sub N1 (by ((repeat refine List.forall_mem_cons.mpr ⟨by k_mem, ?_⟩); first | exact (fun _ h => absurd h List.not_mem_nil) | (intro _ h; repeat (first | exact h | refine List.Mem.tail _ ?_))))
  clear N1
  have ho2 : OwnOff ((q, tupO s1 u1 s2 u2) :: own) [x, d, 140, 147, f, fd, ln] := off_cons (off_new N2 (.head _)) ho
  have hp2 : PartsAre ((f, instObj 94 fd) :: (fd, vfD P ln x) :: (ln, listOf lines.toArray nl) :: (q, tupO s1 u1 s2 u2) :: own) (items ++ [.ref q]) (ps ++ [(s1, s2)]) := (hp.mono (by ((repeat refine List.forall_mem_cons.mpr ⟨by k_mem, ?_⟩); first | exact (fun _ h => absurd h List.not_mem_nil) | (intro _ h; repeat (first | exact h | refine List.Mem.tail _ ?_))))).append (.cons (by k_mem) .nil)
  have ho4 := off_vf (of := instObj 94 fd) (ofd := vfD P ln x) (ol := listOf lines.toArray nl) hor' ho2
  k_steps
  k_here
  k_dflt (refine' len2 _ _ _ _ _ _ _ _ _ _ _ _ _ _ _ _ _ _ _ _ _ _ _ ?cB ?cF ?cX ?cT ?ck ?cd ?cu _ _ _ _ _ _ _ _ _ _ _ _ ?N hxd hd3 ho4 ht1 ht2 hp2 hsm' hk0 hk1 ?_; (case cB => k_asm); (case cF => k_asm); (case cX => k_asm); (case cT => k_asm); (case ck => first | exact rfl | assumption); (case cd => ktr_room); (case cu => ktr_units))
  case N => k_asm
  intro s2' u3 m1 kp2 F2 N3 hm1
  have e20 : (2 : Int) ^ 20 = 1048576 := by decide
  have e63 : (2 : Int) ^ 63 = 9223372036854775808 := by decide
  have htot := total_small hsm' (ps ++ [(s1, s2)]).length
  rw [List.take_length] at htot
  refine ⟨⟨by lia, by lia⟩, ?_⟩
  k_steps

  exact hret _ q _ m1 ⟨kp2.os.trans kp1.os, fun g => kp2.bare (kp1.bare g)⟩ (by assumption) (by assumption) hm1 ho2


end

section
open PySem PySem.W PyProof.Rows PySem.Calls
set_option Elab.async false
set_option maxRecDepth 100000
set_option maxHeartbeats 8000000
set_option pp.deepTerms false
set_option pp.maxSteps 3000

theorem off_I {P : VP} {f fd ln x d I : Addr} {items : List Value} {n : Nat} {hs : Int} {tz : Tok} {k : Int} {tz' : Tok} {t1 t2 : Array Value} {lines : List Value} {nl : Nat} {own : List (Addr × Obj)}
    (h : ∀ p ∈ vfL P f fd ln x d items n hs tz k tz' t1 t2 lines nl own, p.1 ≠ I) : ∀ b ∈ [x, d, 140, 147, f, fd, ln], I ≠ b := by
  intro b hb
  simp only [List.mem_cons, List.not_mem_nil, or_false] at hb
  rcases hb with rfl | rfl | rfl | rfl | rfl | rfl | rfl
  · exact (h _ (.head _)).symm
  · exact (h _ (.tail _ (.head _))).symm
  · exact (h _ (.tail _ (.tail _ (.head _)))).symm
  · exact (h _ (.tail _ (.tail _ (.tail _ (.head _))))).symm
  · exact (h _ (.tail _ (.tail _ (.tail _ (.tail _ (.head _)))))).symm
  · exact (h _ (.tail _ (.tail _ (.tail _ (.tail _ (.tail _ (.head _))))))).symm
  · exact (h _ (.tail _ (.tail _ (.tail _ (.tail _ (.tail _ (.tail _ (.head _)))))))).symm

theorem pick_b {i c : Nat} (hR : i ≤ 1) (hi : (Str.ofString ", ").cps[i]? = some c) : (i = 0 ∧ c = 44) ∨ (i = 1 ∧ c = 32) := by
  rcases Nat.le_one_iff_eq_zero_or_eq_one.mp hR with rfl | rfl
  · exact .inl ⟨rfl, by have : some 44 = some c := hi; exact (Option.some.inj this).symm⟩
  · exact .inr ⟨rfl, by have : some 32 = some c := hi; exact (Option.some.inj this).symm⟩
theorem chunk_b (w : World) (p : Program) (loose : List Str) (mean : ExcName → Option Value) (mg mb : Str → Option Value) (dp un : Nat) (gd : Option (List Code)) (cn : Str) (cs : Scope) (a : Addr) (ccd : Value) (cl : List (Str × Addr)) (outer : List Env) (A₀ : Around) (base h₀ : Heap) (L : Addr) (m : Str → Option Value) (s : Shared) (Q E : Value → Shared → Prop)
   (B : Below A₀ base outer h₀) (F : Fr h₀ L s.heap m) (X : (KL w.params).In h₀) (T : Top p loose mean mg mb h₀) (hk : cs.kind = .function) (hd1 : dp + 12 < recursionLimit) (hu : un + 8 * 12 < cLine)
   (P : VP) (f fd ln x d : Addr) (items : List Value) (n : Nat) (own : List (Addr × Obj)) (hs : Int) (tz : Tok) (k : Int) (tz' : Tok) (t1 t2 : Array Value) (ps : List (Str × Str)) (lines : List Value) (nl : Nat) (rows : List Str)
   (N : News h₀ L s.heap (vfL P f fd ln x d items n hs tz k tz' t1 t2 lines nl own)) (hor : VOrd f fd ln x d) (ho : OwnOff own [x, d, 140, 147, f, fd, ln])
   (ht1 : TriplesOk t1.toList) (ht2 : TriplesOk t2.toList) (hp : PartsAre own items ps) (hsm : Small ps) (hk0 : 0 ≤ k) (hk1 : k ≤ 2 ^ 20) (hl : StrsAre lines rows) (hlr : rows.length ≤ 190)
   (u1 u2 : Tok) (hsm' : Small (ps ++ [(Str.ofString " ", Str.ofString "x")])) (hmx : P.mx ≤ 2 ^ 20) (hov : P.mx < k + total (ps ++ [(Str.ofString " ", Str.ofString "x")])) (hsp : P.sp = Str.ofString ", ") (hne : 0 < ps.length) (hps : ∀ p ∈ ps, p.2 = Str.ofString "x" ∨ p.2 = Str.ofString ";")
   (hret : ∀ s' q n' u m1 m2 tz'' nl', Kp s s' → Fr h₀ L s'.heap m → News h₀ L s'.heap (vfL P f fd ln x d [.ref q] n' hs tz 0 tz'' m1 m2 (lines ++ [.str (flat ps) u]) nl' ((q, tupO (Str.ofString " ") u1 (Str.ofString "x") u2) :: own)) → TriplesOk m1.toList → TriplesOk m2.toList → OwnOff ((q, tupO (Str.ofString " ") u1 (Str.ofString "x") u2) :: own) [x, d, 140, 147, f, fd, ln] → Q .none s') :
   wpAny (model Challenge.rw_xi0019_01.row.prog w) (ktrTop dp un gd cn cs L a ccd cl outer) (call (.ref 91) [.ref f, .str (Str.ofString " ") u1, .str (Str.ofString "x") u2]) Q E s := by
  revert X; k_fill; intro X
  have hor' := hor
  have o0 := hor.o0; have o1 := hor.o1; have o2 := hor.o2; have o3 := hor.o3; have o4 := hor.o4
  clear hor
  have hxd := o4
  have hd3 : @LT.lt Nat _ 147 d := by lia
  have hlen : items.length = ps.length := hp.len
  have h200 := hsm'.1
  rw [List.length_append, List.length_cons, List.length_nil] at h200
  refine wpAny_call ?_
  k_dflt (refine' code_def (binds := [(Str.ofString "self", .ref f), (Str.ofString "fws", .str (Str.ofString " ") u1), (Str.ofString "string", .str (Str.ofString "x") u2)]) ?k1 ?k2 ?k3 ?k4 ?k5 ?kA ?kF ?kK ?k6 ?k7 ?k8 ?k9 ?kB ?_ ?c2 ?c3 ?c4 ?c5; (case kA => exact rfl); (case kF => exact rfl); (case kK => first | exact rfl | assumption); (case k1 => k_asm); (case k2 => k_asm); (case k3 => k_asm); (case k4 => k_asm); (case k5 => k_asm); (case k6 => k_is); (case k7 => k_is); (case k8 => ktr_room); (case k9 => exact BindsTo.of_eq rfl); (case c5 => decide); (case kB => exact locs rfl); (case c2 => exact rfl); (case c3 => exact rfl); (case c4 => exact rfl); k_whole; intro g' L' h' FG' F' N' B' X' T'; (try dsimp only); (try k_lift B'); (try k_fold))
  k_steps
  k_here
  k_dflt (refine' push2 _ _ _ _ _ _ _ _ _ _ _ _ _ _ _ _ _ _ _ _ _ _ _ ?cB ?cF ?cX ?cT ?ck ?cd ?cu _ _ _ _ _ _ _ _ _ _ _ [] ?N hxd hd3 ?ho _ _ _ _ ?hz ?_; (case cB => k_asm); (case cF => k_asm); (case cX => k_asm); (case cT => k_asm); (case ck => first | exact rfl | assumption); (case cd => ktr_room); (case cu => ktr_units))
  case N => k_asm
  case ho => exact off_vf hor' ho
  case hz => lia
  intro s1' q n1 kp1 F1 N1
  have N2 : News _ _ _ (vfL P f fd ln x d (items ++ [.ref q]) n1 hs tz k tz' t1 t2 lines nl ((q, tupO (Str.ofString " ") u1 (Str.ofString "x") u2) :: own)) := news_sub N1 (by ((repeat refine sub_cons (by k_mem) ?_); first | exact sub_nil | k_allIn))
  clear N1
  have ho2 : OwnOff ((q, tupO (Str.ofString " ") u1 (Str.ofString "x") u2) :: own) [x, d, 140, 147, f, fd, ln] := off_cons (off_new N2 (.head _)) ho
  have hp2 : PartsAre ((f, instObj 94 fd) :: (fd, vfD P ln x) :: (ln, listOf lines.toArray nl) :: (q, tupO (Str.ofString " ") u1 (Str.ofString "x") u2) :: own) (items ++ [.ref q]) (ps ++ [(Str.ofString " ", Str.ofString "x")]) := (hp.mono (by ((repeat refine sub_cons (by k_mem) ?_); first | exact sub_nil | k_allIn))).append (.cons (by k_mem) .nil)
  have ho4 := off_vf (of := instObj 94 fd) (ofd := vfD P ln x) (ol := listOf lines.toArray nl) hor' ho2
  k_steps
  k_here
  k_dflt (refine' len2 _ _ _ _ _ _ _ _ _ _ _ _ _ _ _ _ _ _ _ _ _ _ _ ?cB ?cF ?cX ?cT ?ck ?cd ?cu _ _ _ _ _ _ _ _ _ _ _ _ ?N hxd hd3 ho4 ht1 ht2 hp2 hsm' hk0 hk1 ?_; (case cB => k_asm); (case cF => k_asm); (case cX => k_asm); (case cT => k_asm); (case ck => first | exact rfl | assumption); (case cd => ktr_room); (case cu => ktr_units))
  case N => k_asm
  intro s2' u3 m1 kp2 F2 N3 hm1
  have e20 : (2 : Int) ^ 20 = 1048576 := by decide
  have e63 : (2 : Int) ^ 63 = 9223372036854775808 := by decide
  have htot := total_small hsm' (ps ++ [(Str.ofString " ", Str.ofString "x")]).length
  rw [List.take_length] at htot
  refine ⟨⟨by lia, by lia⟩, ?_⟩
  k_steps

  refine loopS_str ["ch", "i", "fws", "prevpart"] (fun i => i ≤ 1) rfl (by assumption) (by assumption) (Nat.zero_le _) ?_ ?_
  · intro I i c t u s4 oI hi hR hnI kp4 F4 N4
    refine gen_Q fun W1 hW1 => ?_
    have N4b : News _ _ _ (vfL P f fd ln x d (items ++ [.ref q]) n1 hs tz k tz' m1 t2 lines nl ((I, oI) :: (q, tupO (Str.ofString " ") u1 (Str.ofString "x") u2) :: own)) := news_sub N4 (by ((repeat refine sub_cons (by k_mem) ?_); first | exact sub_nil | k_allIn))
    clear N4
    have ho5 := off_cons (o := oI) (off_I hnI) ho2
    have ho6 := off_vf (of := instObj 94 fd) (ofd := vfD P ln x) (ol := listOf lines.toArray nl) hor' ho5
    rw [hsp] at hi
    have hi' := pick_b hR hi
    rcases hi' with ⟨rfl, rfl⟩ | ⟨rfl, rfl⟩
    · k_steps
      k_here
      k_dflt (refine' count2 _ _ _ _ _ _ _ _ _ _ _ _ _ _ _ _ _ _ _ _ _ _ _ ?cB ?cF ?cX ?cT ?ck ?cd ?cu _ _ _ _ _ _ _ _ _ _ _ [] ?N hxd hd3 ho6 ?hz ?_; (case cB => k_asm); (case cF => k_asm); (case cX => k_asm); (case cT => k_asm); (case ck => first | exact rfl | assumption); (case cd => ktr_room); (case cu => ktr_units))
      case N => k_asm
      case hz => simp only [List.length_append, List.length_cons, List.length_nil]; lia
      intro s5 t5 kp5 F5 N5
      k_steps
      have hnn : ((items ++ [Value.ref q]).length : Int) = (items.length : Int) + 1 := by simp only [List.length_append, List.length_cons, List.length_nil]; lia
      refine loopS_range (n := items.length) ["i", "fws", "prevpart"] (fun _ => True) rfl (by assumption) ?small ?size (by assumption) (by assumption) trivial ?turn ?done
      case small => rw [hnn]; exact small_down (by lia) (by lia) (by lia) (by lia)
      case size => rw [rangeSize_downNat, hnn]; lia
      case turn =>
        intro I2 i t2' u2' s6 oI2 hi _ hnI2 kp6 F6 N6
        refine gen_Q fun W2 hW2 => ?_
        refine ex5_el (hp.get (items.length - 1 - i) (by lia)) fun q' pa pb ta' tb' hz9 => ?_
        refine and3_el hz9 fun e1 e2 e3 => ?_
        clear hz9
        have hpb : pb = Str.ofString "x" ∨ pb = Str.ofString ";" := hps (pa, pb) (List.mem_of_getElem? e2)
        have N6b : News _ _ _ (vfL P f fd ln x d (items ++ [.ref q]) n1 hs tz k tz' m1 t2 lines nl ((q', tupO pa ta' pb tb') :: (I2, oI2) :: (I, oI) :: (q, tupO (Str.ofString " ") u1 (Str.ofString "x") u2) :: own)) := news_sub N6 (by
          (repeat refine sub_cons (by k_mem) ?_)
          refine List.forall_mem_cons.mpr ⟨.tail _ (.tail _ (.tail _ (.tail _ (.tail _ (.tail _ (.tail _ (.tail _ (.tail _ (.tail _ e3))))))))), ?_⟩
          ((repeat refine sub_cons (by k_mem) ?_); first | exact sub_nil | k_allIn))
        clear N6
        k_steps
        k_here
        k_dflt (refine' subInt (y := .ref q') ?k1 ?k2 ?k3 ?k4 ?k5 ?k6 ?k7 ?k8 ?k9 ?ka ?_; (case k1 => k_asm); (case k2 => k_asm); (case k3 => k_inst); (case k4 => k_is); (case k5 => k_is); (case k6 => k_is); (case k7 => rfl))
        case k8 => lia
        case k9 => lia
        case ka => rw [show ((((items ++ [Value.ref q]).length : Int) - 1) + (i : Int) * -1 - 1).toNat = items.length - 1 - i by rw [hnn]; lia, List.getElem?_toArray, List.getElem?_append_left (by lia)]; exact e1
        k_steps
        rcases hpb with rfl | rfl <;>
        · k_steps
          refine hW2 _ _ ?_
          first
            | refine TurnS.mk trivial _ ⟨kp6.os, fun g => kp6.bare g⟩ (by assumption) (news_sub (by assumption) ?sub) fun y hy => ?_
            | refine TurnS.mkc trivial _ ⟨kp6.os, fun g => kp6.bare g⟩ (by assumption) (news_sub (by assumption) ?sub) fun y hy => ?_
          case sub => exact (by ((repeat refine sub_cons (by k_mem) ?_); first | exact sub_nil | k_allIn))
          have y1 : y ≠ Str.ofString "prevpart" := by rintro rfl; exact absurd hy (by decide)
          have y2 : y ≠ Str.ofString "i" := by rintro rfl; exact absurd hy (by decide)
          show (if y = Str.ofString "prevpart" then _ else if y = Str.ofString "i" then _ else mixM _ _ _ y) = _
          rw [if_neg y1, if_neg y2, mixM, if_neg (by rw [hy]; exact Bool.false_ne_true)]
      case done =>
        intro u6 s6 kp6 _ F6 N6
        k_steps
        refine hW1 _ _ ?_
        first
          | refine TurnS.mk (Nat.le_refl _) _ ⟨kp6.os.trans (kp5.os.trans kp4.os), fun g => kp6.bare (kp5.bare (kp4.bare g))⟩ (by assumption) (news_sub (by assumption) ?sub) fun y hy => ?_
          | refine TurnS.mkc (Nat.le_refl _) _ ⟨kp6.os.trans (kp5.os.trans kp4.os), fun g => kp6.bare (kp5.bare (kp4.bare g))⟩ (by assumption) (news_sub (by assumption) ?sub) fun y hy => ?_
        case sub => exact (by ((repeat refine sub_cons (by k_mem) ?_); first | exact sub_nil | k_allIn))
        have y1 : y ≠ Str.ofString "ch" := by rintro rfl; exact absurd hy (by decide)
        have y2 : (["i", "fws", "prevpart"] : List Str).contains y = false := by
          cases h : (["i", "fws", "prevpart"] : List Str).contains y with
          | false => rfl
          | true =>
            simp only [List.contains_cons, List.contains_nil, Bool.or_false, Bool.or_eq_true, beq_iff_eq] at h
            rcases h with rfl | rfl | rfl <;> exact absurd hy (by decide)
        show mixM _ _ (fun y => if y = Str.ofString "ch" then _ else mixM _ _ _ y) y = _
        rw [mixM, if_neg (by rw [y2]; exact Bool.false_ne_true), if_neg y1, mixM, if_neg (by rw [hy]; exact Bool.false_ne_true)]
    · k_steps
      k_here
      k_dflt (refine' count2 _ _ _ _ _ _ _ _ _ _ _ _ _ _ _ _ _ _ _ _ _ _ _ ?cB ?cF ?cX ?cT ?ck ?cd ?cu _ _ _ _ _ _ _ _ _ _ _ [] ?N hxd hd3 ho6 ?hz ?_; (case cB => k_asm); (case cF => k_asm); (case cX => k_asm); (case cT => k_asm); (case ck => first | exact rfl | assumption); (case cd => ktr_room); (case cu => ktr_units))
      case N => k_asm
      case hz => simp only [List.length_append, List.length_cons, List.length_nil]; lia
      intro s5 t5 kp5 F5 N5
      k_steps
      have hnn : ((items ++ [Value.ref q]).length : Int) = (items.length : Int) + 1 := by simp only [List.length_append, List.length_cons, List.length_nil]; lia
      refine loopS_range (n := items.length) ["i", "fws", "prevpart"] (fun i => i = 0) rfl (by assumption) ?small ?size (by assumption) (by assumption) rfl ?turn ?done
      case small => rw [hnn]; exact small_down (by lia) (by lia) (by lia) (by lia)
      case size => rw [rangeSize_downNat, hnn]; lia
      case done => intro _ _ _ hR; lia
      case turn =>
        intro I2 i t2' u2' s6 oI2 hi hR hnI2 kp6 F6 N6
        refine gen_Q fun W2 hW2 => ?_
        subst hR
        rw [show (((items ++ [Value.ref q]).length : Int) - 1) + ((0 : Nat) : Int) * -1 = ((items.length : Nat) : Int) by lia] at F6
        have N6b : News _ _ _ (vfL P f fd ln x d (items ++ [.ref q]) n1 hs tz k tz' m1 t2 lines nl ((I2, oI2) :: (I, oI) :: (q, tupO (Str.ofString " ") u1 (Str.ofString "x") u2) :: own)) := news_sub N6 (by ((repeat refine sub_cons (by k_mem) ?_); first | exact sub_nil | k_allIn))
        clear N6
        k_steps
        k_here
        k_dflt (refine' subInt (y := .ref q) ?k1 ?k2 ?k3 ?k4 ?k5 ?k6 ?k7 ?k8 ?k9 ?ka ?_; (case k1 => k_asm); (case k2 => k_asm); (case k3 => k_inst); (case k4 => k_is); (case k5 => k_is); (case k6 => k_is); (case k7 => rfl))
        case k8 => lia
        case k9 => lia
        case ka => rw [Int.toNat_natCast, List.getElem?_toArray]; simp
        k_steps
        refine hW2 _ _ ?_
        dsimp only [TurnS]
        k_steps
        refine hW1 _ _ ?_
        dsimp only [TurnS]
        k_steps
        have N7 : News _ _ _ (vfL P f fd ln x d (items ++ [.ref q]) n1 hs tz k tz' m1 t2 lines nl ((q, tupO (Str.ofString " ") u1 (Str.ofString "x") u2) :: own)) := news_sub (by assumption) (by ((repeat refine sub_cons (by k_mem) ?_); first | exact sub_nil | k_allIn))
        k_here
        k_dflt (refine' pop_from2 _ _ _ _ _ _ _ _ _ _ _ _ _ _ _ _ _ _ _ _ _ _ _ ?cB ?cF ?cX ?cT ?ck ?cd ?cu _ _ _ _ _ _ _ _ _ _ _ [] ?N hxd hd3 ho4 _ _ ?hz ?hi ?_; (case cB => k_asm); (case cF => k_asm); (case cX => k_asm); (case cT => k_asm); (case ck => first | exact rfl | assumption); (case cd => ktr_room); (case cu => ktr_units))
        case N => exact N7
        case hz => simp only [List.length_append, List.length_cons, List.length_nil]; lia
        case hi => simp only [List.length_append, List.length_cons, List.length_nil]; lia
        intro s7 l n7 kp7 F7 N8 hxl
        rw [List.take_left, List.drop_left] at N8
        k_steps
        k_here
        k_dflt (refine' kso_call ?k1 ?k2 ?k3 ?k4 ?k5 ?_; (case k1 => ktr_units); (case k2 => k_in); (case k3 => k_inst); (case k4 => k_is); (case k5 => k_is); k_whole)
        have hol : ∀ b ∈ [x, d, 140, 147], l ≠ b := by
          intro b hb
          simp only [List.mem_cons, List.not_mem_nil, or_false] at hb
          rcases hb with rfl | rfl | rfl | rfl <;> exact Nat.ne_of_gt (by lia)
        have ho8 := off_cons (o := listOf ([Value.ref q] : List Value).toArray 0) hol ho4
        have hp8 : PartsAre ((l, listOf ([Value.ref q] : List Value).toArray 0) :: (f, instObj 94 fd) :: (fd, vfD P ln x) :: (ln, listOf lines.toArray nl) :: (q, tupO (Str.ofString " ") u1 (Str.ofString "x") u2) :: own) items ps := hp.mono (by ((repeat refine sub_cons (by k_mem) ?_); first | exact sub_nil | k_allIn))
        k_here
        k_dflt (refine' str2 _ _ _ _ _ _ _ _ _ _ _ _ _ _ _ _ _ _ _ _ _ _ _ ?cB ?cF ?cX ?cT ?ck ?cd ?cu _ _ _ _ _ _ _ _ _ _ _ _ ?N hxd hd3 ho8 hm1 ht2 hp8 hsm hk0 hk1 ?_; (case cB => k_asm); (case cF => k_asm); (case cX => k_asm); (case cT => k_asm); (case ck => first | exact rfl | assumption); (case cd => ktr_room); (case cu => ktr_units))
        case N => k_asm
        intro s8 u8 m2 kp8 F8 N9 hm2
        dsimp only [StrBack]
        k_steps
        simp only [List.push_toArray] at *
        k_here
        k_dflt (refine' reset_l2 _ _ _ _ _ _ _ _ _ _ _ _ _ _ _ _ _ _ _ _ _ _ _ ?cB ?cF ?cX ?cT ?ck ?cd ?cu _ _ _ _ _ _ _ _ _ _ _ _ _ _ ?N hxd hd3 hxl ?ho ?hz ?hy ?_; (case cB => k_asm); (case cF => k_asm); (case cX => k_asm); (case cT => k_asm); (case ck => first | exact rfl | assumption); (case cd => ktr_room); (case cu => ktr_units))
        case N => k_asm
        case ho => exact off_vf hor' ho2
        case hz => lia
        case hy => simp only [List.length_cons, List.length_nil]; lia
        intro s9 n9 tz9 kp9 F9 N10
        k_steps
        exact hret s9 q _ u8 _ _ _ _ ⟨kp9.os.trans (kp8.os.trans (kp7.os.trans (kp6.os.trans (kp5.os.trans (kp4.os.trans (kp2.os.trans kp1.os)))))), fun g => kp9.bare (kp8.bare (kp7.bare (kp6.bare (kp5.bare (kp4.bare (kp2.bare (kp1.bare g)))))))⟩ (by assumption) (by assumption) hm1 hm2 ho2
  · intro u s4 kp4 hR
    rw [hsp] at hR
    exact absurd hR (by decide)


end

section
open PySem PySem.W PyProof.Rows PySem.Calls
set_option Elab.async false
set_option maxRecDepth 100000
set_option maxHeartbeats 8000000
set_option pp.deepTerms false
set_option pp.maxSteps 3000

local macro_rules | `(tactic| walk_at "own line") => `(tactic| skip)
theorem pick_c {qs : List (Str × Str)} {a0 pa pb : Str} {n i : Nat} (hlen : n = qs.length) (hlast : qs[qs.length - 1]? = some (a0, Str.ofString ";")) (hpos : 0 < qs.length) (hR : i ≤ 1)
    (e2 : (qs ++ [(Str.ofString " ", Str.ofString "x")])[n - i]? = some (pa, pb)) : (i = 0 ∧ pb = Str.ofString "x") ∨ (i = 1 ∧ pb = Str.ofString ";") := by
  subst hlen
  rcases (show i = 0 ∨ i = 1 by lia) with rfl | rfl
  · left
    rw [Nat.sub_zero, List.getElem?_append_right (Nat.le_refl _), Nat.sub_self] at e2
    exact ⟨rfl, (congrArg Prod.snd (Option.some.inj e2)).symm⟩
  · right
    rw [List.getElem?_append_left (by lia), hlast] at e2
    exact ⟨rfl, (congrArg Prod.snd (Option.some.inj e2)).symm⟩

theorem chunk_c (w : World) (p : Program) (loose : List Str) (mean : ExcName → Option Value) (mg mb : Str → Option Value) (dp un : Nat) (gd : Option (List Code)) (cn : Str) (cs : Scope) (a : Addr) (ccd : Value) (cl : List (Str × Addr)) (outer : List Env) (A₀ : Around) (base h₀ : Heap) (L : Addr) (m : Str → Option Value) (s : Shared) (Q E : Value → Shared → Prop)
   (B : Below A₀ base outer h₀) (F : Fr h₀ L s.heap m) (X : (KL w.params).In h₀) (T : Top p loose mean mg mb h₀) (hk : cs.kind = .function) (hd1 : dp + 12 < recursionLimit) (hu : un + 8 * 12 < cLine)
   (P : VP) (f fd ln x d e : Addr) (its : List Value) (n : Nat) (own : List (Addr × Obj)) (hs : Int) (tz : Tok) (k : Int) (tz' : Tok) (t1 t2 : Array Value) (qs : List (Str × Str)) (a0 : Str) (ue ve : Tok) (lines : List Value) (nl : Nat) (rows : List Str)
   (N : News h₀ L s.heap (vfL P f fd ln x d (its ++ [Value.ref e]) n hs tz k tz' t1 t2 lines nl own)) (hor : VOrd f fd ln x d) (ho : OwnOff own [x, d, 140, 147, f, fd, ln])
   (ht1 : TriplesOk t1.toList) (ht2 : TriplesOk t2.toList) (hpq : PartsAre own its qs) (he : (e, tupO (Str.ofString " ") ue (Str.ofString "x") ve) ∈ own) (hlast : qs[qs.length - 1]? = some (a0, Str.ofString ";")) (hsm : Small qs) (hk0 : 0 ≤ k) (hk1 : k ≤ 2 ^ 20) (hl : StrsAre lines rows) (hlr : rows.length ≤ 190)
   (u1 u2 : Tok) (hsm' : Small ((qs ++ [(Str.ofString " ", Str.ofString "x")]) ++ [(Str.ofString "", Str.ofString ";")])) (hmx : P.mx ≤ 2 ^ 20) (hov : P.mx < k + total ((qs ++ [(Str.ofString " ", Str.ofString "x")]) ++ [(Str.ofString "", Str.ofString ";")])) (hsp : P.sp = Str.ofString ";x")
   (hret : ∀ s' q n' u m1 m2 tz'' nl', Kp s s' → Fr h₀ L s'.heap m → News h₀ L s'.heap (vfL P f fd ln x d [.ref e, .ref q] n' hs tz 0 tz'' m1 m2 (lines ++ [.str (flat qs) u]) nl' ((q, tupO (Str.ofString "") u1 (Str.ofString ";") u2) :: own)) → TriplesOk m1.toList → TriplesOk m2.toList → OwnOff ((q, tupO (Str.ofString "") u1 (Str.ofString ";") u2) :: own) [x, d, 140, 147, f, fd, ln] → Q .none s') :
   wpAny (model Challenge.rw_xi0019_01.row.prog w) (ktrTop dp un gd cn cs L a ccd cl outer) (call (.ref 91) [.ref f, .str (Str.ofString "") u1, .str (Str.ofString ";") u2]) Q E s := by
  revert X; k_fill; intro X
  have hor' := hor
  have o0 := hor.o0; have o1 := hor.o1; have o2 := hor.o2; have o3 := hor.o3; have o4 := hor.o4
  clear hor
  have hxd := o4
  have hd3 : @LT.lt Nat _ 147 d := by lia
  have hp : PartsAre own (its ++ [Value.ref e]) (qs ++ [(Str.ofString " ", Str.ofString "x")]) := hpq.append (.cons he .nil)
  have hlen : its.length = qs.length := hpq.len
  have h200 := hsm'.1
  simp only [List.length_append, List.length_cons, List.length_nil] at h200
  refine wpAny_call ?_
  k_dflt (refine' code_def (binds := [(Str.ofString "self", .ref f), (Str.ofString "fws", .str (Str.ofString "") u1), (Str.ofString "string", .str (Str.ofString ";") u2)]) ?k1 ?k2 ?k3 ?k4 ?k5 ?kA ?kF ?kK ?k6 ?k7 ?k8 ?k9 ?kB ?_ ?c2 ?c3 ?c4 ?c5; (case kA => exact rfl); (case kF => exact rfl); (case kK => first | exact rfl | assumption); (case k1 => k_asm); (case k2 => k_asm); (case k3 => k_asm); (case k4 => k_asm); (case k5 => k_asm); (case k6 => k_is); (case k7 => k_is); (case k8 => ktr_room); (case k9 => exact BindsTo.of_eq rfl); (case c5 => decide); (case kB => exact locs rfl); (case c2 => exact rfl); (case c3 => exact rfl); (case c4 => exact rfl); k_whole; intro g' L' h' FG' F' N' B' X' T'; (try dsimp only); (try k_lift B'); (try k_fold))
  k_steps
  k_here
  k_dflt (refine' push2 _ _ _ _ _ _ _ _ _ _ _ _ _ _ _ _ _ _ _ _ _ _ _ ?cB ?cF ?cX ?cT ?ck ?cd ?cu _ _ _ _ _ _ _ _ _ _ _ [] ?N hxd hd3 ?ho _ _ _ _ ?hz ?_; (case cB => k_asm); (case cF => k_asm); (case cX => k_asm); (case cT => k_asm); (case ck => first | exact rfl | assumption); (case cd => ktr_room); (case cu => ktr_units))
  case N => k_asm
  case ho => exact off_vf hor' ho
  case hz => simp only [List.length_append, List.length_cons, List.length_nil]; lia
  intro s1' q n1 kp1 F1 N1
  have N2 : News _ _ _ (vfL P f fd ln x d ((its ++ [Value.ref e]) ++ [.ref q]) n1 hs tz k tz' t1 t2 lines nl ((q, tupO (Str.ofString "") u1 (Str.ofString ";") u2) :: own)) := news_sub N1 (by ((repeat refine sub_cons (by k_mem) ?_); first | exact sub_nil | k_allIn))
  clear N1
  have ho2 : OwnOff ((q, tupO (Str.ofString "") u1 (Str.ofString ";") u2) :: own) [x, d, 140, 147, f, fd, ln] := off_cons (off_new N2 (.head _)) ho
  have hp2 : PartsAre ((f, instObj 94 fd) :: (fd, vfD P ln x) :: (ln, listOf lines.toArray nl) :: (q, tupO (Str.ofString "") u1 (Str.ofString ";") u2) :: own) ((its ++ [Value.ref e]) ++ [.ref q]) ((qs ++ [(Str.ofString " ", Str.ofString "x")]) ++ [(Str.ofString "", Str.ofString ";")]) := (hp.mono (by ((repeat refine sub_cons (by k_mem) ?_); first | exact sub_nil | k_allIn))).append (.cons (by k_mem) .nil)
  have ho4 := off_vf (of := instObj 94 fd) (ofd := vfD P ln x) (ol := listOf lines.toArray nl) hor' ho2
  k_steps
  k_here
  k_dflt (refine' len2 _ _ _ _ _ _ _ _ _ _ _ _ _ _ _ _ _ _ _ _ _ _ _ ?cB ?cF ?cX ?cT ?ck ?cd ?cu _ _ _ _ _ _ _ _ _ _ _ _ ?N hxd hd3 ho4 ht1 ht2 hp2 hsm' hk0 hk1 ?_; (case cB => k_asm); (case cF => k_asm); (case cX => k_asm); (case cT => k_asm); (case ck => first | exact rfl | assumption); (case cd => ktr_room); (case cu => ktr_units))
  case N => k_asm
  intro s2' u3 m1 kp2 F2 N3 hm1
  have e20 : (2 : Int) ^ 20 = 1048576 := by decide
  have e63 : (2 : Int) ^ 63 = 9223372036854775808 := by decide
  have htot := total_small hsm' ((qs ++ [(Str.ofString " ", Str.ofString "x")]) ++ [(Str.ofString "", Str.ofString ";")]).length
  rw [List.take_length] at htot
  refine ⟨⟨by lia, by lia⟩, ?_⟩
  k_steps

  refine loopS_str ["ch", "i", "fws", "prevpart"] (fun i => i = 0) rfl (by assumption) (by assumption) rfl ?_ ?_
  · intro I i c t u s4 oI hi hR hnI kp4 F4 N4
    refine gen_Q fun W1 hW1 => ?_
    have N4b : News _ _ _ (vfL P f fd ln x d ((its ++ [Value.ref e]) ++ [.ref q]) n1 hs tz k tz' m1 t2 lines nl ((I, oI) :: (q, tupO (Str.ofString "") u1 (Str.ofString ";") u2) :: own)) := news_sub N4 (by ((repeat refine sub_cons (by k_mem) ?_); first | exact sub_nil | k_allIn))
    clear N4
    have ho5 := off_cons (o := oI) (off_I hnI) ho2
    have ho6 := off_vf (of := instObj 94 fd) (ofd := vfD P ln x) (ol := listOf lines.toArray nl) hor' ho5
    rw [hsp] at hi
    subst hR
    have hc : c = 59 := by have : some 59 = some c := hi; exact (Option.some.inj this).symm
    subst hc
    k_steps
    k_here
    k_dflt (refine' count2 _ _ _ _ _ _ _ _ _ _ _ _ _ _ _ _ _ _ _ _ _ _ _ ?cB ?cF ?cX ?cT ?ck ?cd ?cu _ _ _ _ _ _ _ _ _ _ _ [] ?N hxd hd3 ho6 ?hz ?_; (case cB => k_asm); (case cF => k_asm); (case cX => k_asm); (case cT => k_asm); (case ck => first | exact rfl | assumption); (case cd => ktr_room); (case cu => ktr_units))
    case N => k_asm
    case hz => simp only [List.length_append, List.length_cons, List.length_nil]; lia
    intro s5 t5 kp5 F5 N5
    k_steps
    have hnn : (((its ++ [Value.ref e]) ++ [Value.ref q]).length : Int) = (its.length : Int) + 2 := by simp only [List.length_append, List.length_cons, List.length_nil]; lia
    have hpos : 0 < qs.length := by
      rcases Nat.eq_zero_or_pos qs.length with h | h
      · rw [List.length_eq_zero_iff.mp h] at hlast; exact absurd hlast (by simp)
      · exact h
    refine loopS_range (n := its.length + 1) ["i", "fws", "prevpart"] (fun i => i ≤ 1) rfl (by assumption) ?small ?size (by assumption) (by assumption) (Nat.zero_le _) ?turn ?done
    case small => rw [hnn]; exact small_down (by lia) (by lia) (by lia) (by lia)
    case size => rw [rangeSize_downNat, hnn]; lia
    case done => intro _ _ _ hR; lia
    case turn =>
      intro I2 i t2' u2' s6 oI2 hi hR hnI2 kp6 F6 N6
      refine gen_Q fun W2 hW2 => ?_
      refine ex5_el (hp.get (its.length - i) (by simp only [List.length_append, List.length_cons, List.length_nil]; lia)) fun q' pa pb ta' tb' hz9 => ?_
      refine and3_el hz9 fun e1 e2 e3 => ?_
      clear hz9
      have hpb := pick_c hlen hlast hpos hR e2
      have N6b : News _ _ _ (vfL P f fd ln x d ((its ++ [Value.ref e]) ++ [.ref q]) n1 hs tz k tz' m1 t2 lines nl ((q', tupO pa ta' pb tb') :: (I2, oI2) :: (I, oI) :: (q, tupO (Str.ofString "") u1 (Str.ofString ";") u2) :: own)) := news_sub N6 (by
        (repeat refine sub_cons (by k_mem) ?_)
        refine List.forall_mem_cons.mpr ⟨.tail _ (.tail _ (.tail _ (.tail _ (.tail _ (.tail _ (.tail _ (.tail _ (.tail _ (.tail _ e3))))))))), ?_⟩
        ((repeat refine sub_cons (by k_mem) ?_); first | exact sub_nil | k_allIn))
      clear N6
      k_steps
      k_here
      k_dflt (refine' subInt (y := .ref q') ?k1 ?k2 ?k3 ?k4 ?k5 ?k6 ?k7 ?k8 ?k9 ?ka ?_; (case k1 => k_asm); (case k2 => k_asm); (case k3 => k_inst); (case k4 => k_is); (case k5 => k_is); (case k6 => k_is); (case k7 => rfl))
      case k8 => lia
      case k9 => lia
      case ka => rw [show (((((its ++ [Value.ref e]) ++ [Value.ref q]).length : Int) - 1) + (i : Int) * -1 - 1).toNat = its.length - i by rw [hnn]; lia, List.getElem?_toArray, List.getElem?_append_left (by simp only [List.length_append, List.length_cons, List.length_nil]; lia)]; exact e1
      k_steps
      rcases hpb with ⟨rfl, rfl⟩ | ⟨rfl, rfl⟩
      · k_steps
        refine hW2 _ _ ?_
        first
          | refine TurnS.mk (Nat.le_refl _) _ ⟨kp6.os, fun g => kp6.bare g⟩ (by assumption) (news_sub (by assumption) ?sub) fun y hy => ?_
          | refine TurnS.mkc (Nat.le_refl _) _ ⟨kp6.os, fun g => kp6.bare g⟩ (by assumption) (news_sub (by assumption) ?sub) fun y hy => ?_
        case sub => exact (by ((repeat refine sub_cons (by k_mem) ?_); first | exact sub_nil | k_allIn))
        have y1 : y ≠ Str.ofString "prevpart" := by rintro rfl; exact absurd hy (by decide)
        have y2 : y ≠ Str.ofString "i" := by rintro rfl; exact absurd hy (by decide)
        show (if y = Str.ofString "prevpart" then _ else if y = Str.ofString "i" then _ else mixM _ _ _ y) = _
        rw [if_neg y1, if_neg y2, mixM, if_neg (by rw [hy]; exact Bool.false_ne_true)]
      · k_steps
        refine hW2 _ _ ?_
        dsimp only [TurnS]
        k_steps
        refine hW1 _ _ ?_
        dsimp only [TurnS]
        k_steps
        have hie : ((((its ++ [Value.ref e]) ++ [Value.ref q]).length : Int) - 1) + ((1 : Nat) : Int) * -1 = ((its.length : Nat) : Int) := by lia
        rw [hie]
        have N7 : News _ _ _ (vfL P f fd ln x d ((its ++ [Value.ref e]) ++ [.ref q]) n1 hs tz k tz' m1 t2 lines nl ((q, tupO (Str.ofString "") u1 (Str.ofString ";") u2) :: own)) := news_sub (by assumption) (by ((repeat refine sub_cons (by k_mem) ?_); first | exact sub_nil | k_allIn))
        k_here
        k_dflt (refine' pop_from2 _ _ _ _ _ _ _ _ _ _ _ _ _ _ _ _ _ _ _ _ _ _ _ ?cB ?cF ?cX ?cT ?ck ?cd ?cu _ _ _ _ _ _ _ _ _ _ _ [] ?N hxd hd3 ho4 _ _ ?hz ?hi ?_; (case cB => k_asm); (case cF => k_asm); (case cX => k_asm); (case cT => k_asm); (case ck => first | exact rfl | assumption); (case cd => ktr_room); (case cu => ktr_units))
        case N => exact N7
        case hz => simp only [List.length_append, List.length_cons, List.length_nil]; lia
        case hi => simp only [List.length_append, List.length_cons, List.length_nil]; lia
        intro s7 l n7 kp7 F7 N8 hxl
        rw [List.append_assoc, List.take_left, List.drop_left, List.singleton_append] at N8
        k_steps
        k_here
        k_dflt (refine' kso_call ?k1 ?k2 ?k3 ?k4 ?k5 ?_; (case k1 => ktr_units); (case k2 => k_in); (case k3 => k_inst); (case k4 => k_is); (case k5 => k_is); k_whole)
        have hol : ∀ b ∈ [x, d, 140, 147], l ≠ b := by
          intro b hb
          simp only [List.mem_cons, List.not_mem_nil, or_false] at hb
          rcases hb with rfl | rfl | rfl | rfl <;> exact Nat.ne_of_gt (by lia)
        have ho8 := off_cons (o := listOf ([Value.ref e, Value.ref q] : List Value).toArray 0) hol ho4
        have hp8 : PartsAre ((l, listOf ([Value.ref e, Value.ref q] : List Value).toArray 0) :: (f, instObj 94 fd) :: (fd, vfD P ln x) :: (ln, listOf lines.toArray nl) :: (q, tupO (Str.ofString "") u1 (Str.ofString ";") u2) :: own) its qs := hpq.mono (by ((repeat refine sub_cons (by k_mem) ?_); first | exact sub_nil | k_allIn))
        k_here
        k_dflt (refine' str2 _ _ _ _ _ _ _ _ _ _ _ _ _ _ _ _ _ _ _ _ _ _ _ ?cB ?cF ?cX ?cT ?ck ?cd ?cu _ _ _ _ _ _ _ _ _ _ _ _ ?N hxd hd3 ho8 hm1 ht2 hp8 hsm hk0 hk1 ?_; (case cB => k_asm); (case cF => k_asm); (case cX => k_asm); (case cT => k_asm); (case ck => first | exact rfl | assumption); (case cd => ktr_room); (case cu => ktr_units))
        case N => k_asm
        intro s8 u8 m2 kp8 F8 N9 hm2
        dsimp only [StrBack]
        k_steps
        simp only [List.push_toArray] at *
        k_here
        k_dflt (refine' reset_l2 _ _ _ _ _ _ _ _ _ _ _ _ _ _ _ _ _ _ _ _ _ _ _ ?cB ?cF ?cX ?cT ?ck ?cd ?cu _ _ _ _ _ _ _ _ _ _ _ _ _ _ ?N hxd hd3 hxl ?ho ?hz ?hy ?_; (case cB => k_asm); (case cF => k_asm); (case cX => k_asm); (case cT => k_asm); (case ck => first | exact rfl | assumption); (case cd => ktr_room); (case cu => ktr_units))
        case N => k_asm
        case ho => exact off_vf hor' ho2
        case hz => lia
        case hy => simp only [List.length_cons, List.length_nil]; lia
        intro s9 n9 tz9 kp9 F9 N10
        k_steps
        exact hret s9 q _ u8 _ _ _ _ ⟨kp9.os.trans (kp8.os.trans (kp7.os.trans (kp6.os.trans (kp5.os.trans (kp4.os.trans (kp2.os.trans kp1.os)))))), fun g => kp9.bare (kp8.bare (kp7.bare (kp6.bare (kp5.bare (kp4.bare (kp2.bare (kp1.bare g)))))))⟩ (by assumption) (by assumption) hm1 hm2 ho2
  · intro u s4 kp4 hR
    rw [hsp] at hR
    exact absurd hR (by decide)


end

section
open PySem PySem.W PyProof.Rows PySem.Calls
set_option Elab.async false
set_option maxRecDepth 100000
set_option maxHeartbeats 4000000
theorem band_low : ∀ (n : Nat) (r a : Int), 0 ≤ a → a < 2 ^ n → Builtin.bitAnd (r * 2 ^ n) a = 0 := by
  intro n
  induction n with
  | zero => intro r a h0 h1; have e : a = 0 := by simp at h1; lia
            subst e; have := bitAnd_range (r * 2 ^ 0) (Int.le_refl 0); lia
  | succ n ih =>
    intro r a h0 h1
    rw [kbt_halves]
    have e : r * 2 ^ (n + 1) = (r * 2 ^ n) * 2 := by rw [Int.pow_succ, Int.mul_assoc]
    have e1 : r * 2 ^ (n + 1) / 2 = r * 2 ^ n := by rw [e]; omega
    have e2 : r * 2 ^ (n + 1) % 2 = 0 := by rw [e]; lia
    have h2 : a / 2 < 2 ^ n := by rw [Int.pow_succ] at h1; lia
    rw [e1, e2, ih r (a / 2) (by lia) h2]
    simp
theorem bor_eq (x y : Int) : Builtin.bitOr x y = x + y - Builtin.bitAnd x y := by
  have h := bitXor_and x y
  have h2 : Builtin.bitXor x y = Builtin.bitOr x y - Builtin.bitAnd x y := rfl
  lia
theorem bor_add (n : Nat) (r a : Int) (h0 : 0 ≤ a) (h1 : a < 2 ^ n) : Builtin.bitOr (r * 2 ^ n) a = r * 2 ^ n + a := by
  rw [bor_eq, band_low n r a h0 h1]; lia
theorem bits_lt {a : Int} {n : Nat} (h0 : 0 ≤ a) (h : a < 2 ^ n) : Builtin.Int.intBits a ≤ n := by
  unfold Builtin.Int.intBits
  split
  · exact Nat.zero_le _
  · rename_i hz
    have hp : a.natAbs ≠ 0 := by intro e; apply hz; have : a = 0 := by lia
                                 simp [this]
    have h' : a.natAbs < 2 ^ n := by
      have : ((a.natAbs : Nat) : Int) < ((2 ^ n : Nat) : Int) := by push_cast; lia
      exact Int.ofNat_lt.mp this
    exact (Nat.log2_lt hp).mpr h'
theorem bits_neg (a : Int) : Builtin.Int.intBits (-a) = Builtin.Int.intBits a := by
  unfold Builtin.Int.intBits; simp
theorem lt_bits {a : Int} {n : Nat} (h0 : 0 ≤ a) (h : Builtin.Int.intBits a ≤ n) : a < 2 ^ n := by
  unfold Builtin.Int.intBits at h
  split at h
  · rename_i hz; have : a = 0 := by simpa using hz
    subst this; exact Int.pow_pos (by decide)
  · rename_i hz
    have h' : a.natAbs < 2 ^ n := (Nat.log2_lt (by intro e; apply hz; have : a = 0 := by lia
                                                   simp [this])).mp h
    have : ((a.natAbs : Nat) : Int) < ((2 ^ n : Nat) : Int) := Int.ofNat_lt.mpr h'
    push_cast at this; lia
theorem mul_ok {a b : Int} {i j : Nat} (ha : Builtin.Int.intBits a ≤ i) (hb : Builtin.Int.intBits b ≤ j) (h : i + j ≤ 100000) : IntMulOk a b := by
  unfold IntMulOk
  intro z
  simp only [Bool.and_eq_true, Builtin.Int.intTooBig, decide_eq_true_eq] at z
  have : ((PySem.bitsLine : Nat) : Int) ≥ 100000 := by decide
  lia

/-- the quotient and the rest, by what they are -/
theorem divmod_is {A b q r : Int} (h : A = q * b + r) (h0 : 0 ≤ r) (h1 : r < b) : A / b = q ∧ A % b = r := by
  have hb : 0 < b := by lia
  have e : A = r + q * b := by lia
  constructor
  · rw [e, Int.add_mul_ediv_right _ _ (by lia), Int.ediv_eq_zero_of_lt h0 h1]; lia
  · rw [e, Int.add_mul_emod_self_right, Int.emod_eq_of_lt h0 h1]

/-- a first guess by the upper half is not too small -/
theorem guess_hi {a12 a3 b b1 b2 q : Int} {P : Int} (hP : 0 < P) (hb : b = b1 * P + b2) (h2 : 0 ≤ b2) (h3 : a3 < P) (hq0 : 0 ≤ q) (hq : a12 < (q + 1) * b1) : a12 * P + a3 - q * b < b := by
  have h1 : a12 + 1 ≤ (q + 1) * b1 := hq
  have h4 : (a12 + 1) * P ≤ (q + 1) * b1 * P := Int.mul_le_mul_of_nonneg_right h1 (Int.le_of_lt hP)
  have h5 : 0 ≤ (q + 1) * b2 := Int.mul_nonneg (by lia) h2
  have e1 : (q + 1) * b = (q + 1) * b1 * P + (q + 1) * b2 := by rw [hb, Int.mul_add, Int.mul_assoc]
  have e2 : (q + 1) * b = q * b + b := by rw [Int.add_mul, Int.one_mul]
  have e3 : (a12 + 1) * P = a12 * P + P := by rw [Int.add_mul, Int.one_mul]
  lia
/-- the rest by a guess: (r * P + a3) - q * b2 with r = a12 - q * b1 -/
theorem guess_rest {a12 a3 b b1 b2 q r P : Int} (hb : b = b1 * P + b2) (hr : a12 = q * b1 + r) : r * P + a3 - q * b2 = a12 * P + a3 - q * b := by
  have e1 : q * b = q * b1 * P + q * b2 := by rw [hb, Int.mul_add, Int.mul_assoc]
  have e2 : a12 * P = q * b1 * P + r * P := by rw [hr, Int.add_mul]
  lia
theorem guess_top {A b P : Int} (h : A < b * P) : A - (P - 1) * b < b := by
  have e : (P - 1) * b = b * P - b := by rw [Int.sub_mul, Int.one_mul, Int.mul_comm]
  lia
/-- two halves make the whole -/
theorem halves {a b P q1 r1 q2 r2 lo mid hi : Int} (ha : a = (hi * P + mid) * P + lo) (h1 : hi * P + mid = q1 * b + r1) (h2 : r1 * P + lo = q2 * b + r2) : a = (q1 * P + q2) * b + r2 := by
  have e1 : (q1 * b + r1) * P = q1 * P * b + r1 * P := by rw [Int.add_mul, Int.mul_assoc, Int.mul_comm b P, Int.mul_assoc]
  have e2 : (q1 * P + q2) * b = q1 * P * b + q2 * b := Int.add_mul ..
  rw [ha, h1, e1, e2]; lia

end

section
open PySem PySem.W PyProof.Rows PySem.Calls
set_option Elab.async false
set_option maxRecDepth 100000
set_option maxHeartbeats 8000000
set_option pp.deepTerms false
set_option pp.maxSteps 3000

theorem div2_s (w : World) (p : Program) (loose : List Str) (mean : ExcName → Option Value) (mg mb : Str → Option Value) (dp un : Nat) (gd : Option (List Code)) (cn : Str) (cs : Scope) (a : Addr) (ccd : Value) (cl : List (Str × Addr)) (outer : List Env) (A₀ : Around) (base h₀ : Heap) (L : Addr) (m : Str → Option Value) (s : Shared) (Q E : Value → Shared → Prop)
   (B : Below A₀ base outer h₀) (F : Fr h₀ L s.heap m) (X : (KL w.params).In h₀) (T : Top p loose mean mg mb h₀) (hk : cs.kind = .function) (hd1 : dp + 110 < recursionLimit) (hu : un + 8 * 110 < cLine)
   (x y : Int) (n : Nat) (tx ty tn : Tok) (own : List (Addr × Obj)) (N : News h₀ L s.heap own) (him : importsNone p = true) (hb : 0 < y) (hs : Builtin.Int.intBits x ≤ 4000 + n)
   (hret : ∀ s' t9 u9 v9, Kp s s' → Fr h₀ L s'.heap m → News h₀ L s'.heap ((t9, { cls := .type "tuple", data := .seq #[.int (x / y) u9, .int (x % y) v9] }) :: own) → Q (.ref t9) s') :
   wpAny (model Challenge.rw_xi0019_01.row.prog w) (ktrTop dp un gd cn cs L a ccd cl outer) (call (.ref 189) [.int x tx, .int y ty, .int n tn]) Q E s := by
  revert X; k_fill; intro X
  refine wpAny_call ?_
  k_dflt (refine' code_def (binds := [(Str.ofString "a", .int x tx), (Str.ofString "b", .int y ty), (Str.ofString "n", .int n tn)]) ?k1 ?k2 ?k3 ?k4 ?k5 ?kA ?kF ?kK ?k6 ?k7 ?k8 ?k9 ?kB ?_ ?c2 ?c3 ?c4 ?c5; (case kA => exact rfl); (case kF => exact rfl); (case kK => first | exact rfl | assumption); (case k1 => k_asm); (case k2 => k_asm); (case k3 => k_asm); (case k4 => k_asm); (case k5 => k_asm); (case k6 => k_is); (case k7 => k_is); (case k8 => ktr_room); (case k9 => exact BindsTo.of_eq rfl); (case c5 => decide); (case kB => exact locs rfl); (case c2 => exact rfl); (case c3 => exact rfl); (case c4 => exact rfl); k_whole; intro g' L' h' FG' F' N' B' X' T'; (try dsimp only); (try k_lift B'); (try k_fold))
  k_steps
  have e1 : x.fdiv y = x / y := Int.fdiv_eq_ediv_of_nonneg _ (Int.le_of_lt hb)
  have e2 : x.fmod y = x % y := Int.fmod_eq_emod_of_nonneg _ (Int.le_of_lt hb)
  refine divmod_N (by assumption) (by assumption) (by lia) (fun h9 F9 N9 => ?_) (Or.inr (PySem.PylongRoom.of ?l ?d ?sr))
  case l => exact PySem.Heap.NoLimit.keeps T'.nolimit (PyProof.Rows.Fr.keep (by assumption))
  case d => (simp only [depth_deeper]; (try dsimp only [ktrTop]); show _ + 100 < _; lia)
  case sr => exact PySem.SeerAt.of (PySem.Heap.NoSeer.keeps (T'.seer him) (PyProof.Rows.Fr.keep (by assumption))) rfl rfl rfl rfl rfl rfl
  rw [e1, e2] at N9
  k_steps
  exact hret _ _ _ _ ⟨rfl, id⟩ (by assumption) (by assumption)


end

local macro_rules | `(tactic| walk_at "exec While") => `(tactic| (k_here; (with_reducible show wpAny _ _ (exec (Stmt.While _ _ _ _) _) _ _ _); refine hold_ ?_))
local macro_rules | `(tactic| walk_at "exec While Compare cons nil") => `(tactic| (k_here; (with_reducible show wpAny _ _ (exec (Stmt.While _ _ _ _) _) _ _ _); refine hold_ ?_))

section
open PySem PySem.W PyProof.Rows PySem.Calls
set_option Elab.async false
set_option maxRecDepth 100000
set_option maxHeartbeats 8000000
set_option pp.deepTerms false
set_option pp.maxSteps 3000

section
variable {prog : Program} {w : World} {A : Around} {E : Value → Shared → Prop} {s : Shared} {Q : Value → Shared → Prop} {t u : Tok}
theorem rsh {x : Int} {n : Nat} (h : Q (.int (x / 2 ^ n) s.toks) { s with toks := s.toks + 1 }) : wpAny (model prog w) A (binaryOp .RShift (.int x t) (.int (n : Int) u)) Q E s :=
  rshift_int (Int.natCast_nonneg n) (by rw [Int.toNat_natCast, Int.fdiv_eq_ediv_of_nonneg _ (Int.pow_nonneg (by decide))]; exact h)
theorem lsh {x : Int} {n : Nat} (h : Q (.int (x * 2 ^ n) s.toks) { s with toks := s.toks + 1 }) (hb : Builtin.Int.intBits x + n ≤ 134217728) : wpAny (model prog w) A (binaryOp .LShift (.int x t) (.int (n : Int) u)) Q E s :=
  lshift_int (Int.natCast_nonneg n) (by rw [show (2 : Int) ^ 27 = 134217728 by decide]; lia) (by rw [Int.toNat_natCast]; exact h)
theorem bits_abs {a : Int} {n : Nat} (h0 : -(2 ^ n) < a) (h : a < 2 ^ n) : Builtin.Int.intBits a ≤ n := by
  rcases Int.le_total 0 a with h1 | h1
  · exact bits_lt h1 h
  · rw [← bits_neg]; exact bits_lt (by lia) (by lia)
theorem or_low {r a : Int} {n : Nat} (h0 : 0 ≤ a) (h1 : a < 2 ^ n) (h : Q (.int (r * 2 ^ n + a) s.toks) { s with toks := s.toks + 1 }) : wpAny (model prog w) A (binaryOp .BitOr (.int (r * 2 ^ n) t) (.int a u)) Q E s :=
  or_int (by rw [bor_add n r a h0 h1]; exact h)
end

def Div2At (x y : Int) (n kk : Nat) : Prop := ∀ (w : World) (p : Program) (loose : List Str) (mean : ExcName → Option Value) (mg mb : Str → Option Value) (dp un : Nat) (gd : Option (List Code)) (cn : Str) (cs : Scope) (a : Addr) (ccd : Value) (cl : List (Str × Addr)) (outer : List Env) (A₀ : Around) (base h₀ : Heap) (L : Addr) (m : Str → Option Value) (s : Shared) (Q E : Value → Shared → Prop)
   (B : Below A₀ base outer h₀) (F : Fr h₀ L s.heap m) (X : (KL w.params).In h₀) (T : Top p loose mean mg mb h₀) (hk : cs.kind = .function) (hd1 : dp + kk < recursionLimit) (hu : un + 8 * kk < cLine)
   (tx ty tn : Tok) (own : List (Addr × Obj)) (N : News h₀ L s.heap own) (him : importsNone p = true)
   (hret : ∀ s' t9 u9 v9, Kp s s' → Fr h₀ L s'.heap m → News h₀ L s'.heap ((t9, { cls := .type "tuple", data := .seq #[.int (x / y) u9, .int (x % y) v9] }) :: own) → Q (.ref t9) s'),
   wpAny (model Challenge.rw_xi0019_01.row.prog w) (ktrTop dp un gd cn cs L a ccd cl outer) (call (.ref 189) [.int x tx, .int y ty, .int n tn]) Q E s
theorem div2_small {x y : Int} {n : Nat} (hb : 0 < y) (hs : Builtin.Int.intBits x ≤ 4000 + n) : Div2At x y n 110 :=
  fun w p loose mean mg mb dp un gd cn cs a ccd cl outer A₀ base h₀ L m s Q E B F X T hk hd1 hu tx ty tn own N him hret =>
    div2_s w p loose mean mg mb dp un gd cn cs a ccd cl outer A₀ base h₀ L m s Q E B F X T hk hd1 hu x y n tx ty tn own N him hb hs hret
local macro_rules | `(tactic| walk_at "binaryOp RShift int int") => `(tactic| (k_here; k_dflt (refine rsh ?_)))
local macro_rules | `(tactic| walk_at "binaryOp LShift int int") => `(tactic| (k_here; k_dflt (refine lsh ?_ ?lb); (case lb => first | lia)))
local macro_rules | `(tactic| walk_at "binaryOp BitOr int int") => `(tactic| (k_here; k_dflt (refine or_low ?ol ?oh ?_); (case ol => assumption); (case oh => assumption)))
local macro_rules | `(tactic| walk_at "binaryOp Mult int int") => `(tactic| (k_here; (refine mul_int ?_ ?mo; (case mo => exact mul_ok (by assumption) (by assumption) (by lia)))))

theorem top_rest (u12 v1 P : Int) : u12 = (1 * P - 1) * v1 + (u12 - v1 * P + v1) := by rw [Int.sub_mul, Int.one_mul, Int.one_mul, Int.mul_comm P v1]; lia
theorem top_lt {u12 u3 v P : Int} (hp0 : 0 < P) (ha1 : u12 < v) (h31 : u3 < P) : u12 * P + u3 < v * P := by
  have h : (u12 + 1) * P ≤ v * P := Int.mul_le_mul_of_nonneg_right ha1 (Int.le_of_lt hp0)
  rw [Int.add_mul, Int.one_mul] at h; lia
theorem div_rest (u12 v1 : Int) : u12 = u12 / v1 * v1 + u12 % v1 := (Int.ediv_mul_add_emod u12 v1).symm
theorem div3_of (kk : Nat) (w : World) (p : Program) (loose : List Str) (mean : ExcName → Option Value) (mg mb : Str → Option Value) (dp un : Nat) (gd : Option (List Code)) (cn : Str) (cs : Scope) (a : Addr) (ccd : Value) (cl : List (Str × Addr)) (outer : List Env) (A₀ : Around) (base h₀ : Heap) (L : Addr) (m : Str → Option Value) (s : Shared) (Q E : Value → Shared → Prop)
   (B : Below A₀ base outer h₀) (F : Fr h₀ L s.heap m) (X : (KL w.params).In h₀) (T : Top p loose mean mg mb h₀) (hk : cs.kind = .function) (hd1 : dp + (kk + 4) < recursionLimit) (hu : un + 8 * (kk + 4) < cLine)
   (u12 u3 v v1 v2 : Int) (n : Nat) (t1 t2 t3 t4 t5 t6 : Tok) (own : List (Addr × Obj)) (N : News h₀ L s.heap own) (him : importsNone p = true)
   (H : ¬ u12 / 2 ^ n = v1 → Div2At u12 v1 n kk)
   (hn : n ≤ 8000) (h1 : 0 < v1) (hb1 : v1 < 2 ^ n) (hv : v = v1 * 2 ^ n + v2) (h20 : 0 ≤ v2) (h21 : v2 < 2 ^ n) (h30 : 0 ≤ u3) (h31 : u3 < 2 ^ n) (ha0 : 0 ≤ u12) (ha1 : u12 < v)
   (hret : ∀ s' t9 u9 v9, Kp s s' → Fr h₀ L s'.heap m → News h₀ L s'.heap ((t9, { cls := .type "tuple", data := .seq #[.int ((u12 * 2 ^ n + u3) / v) u9, .int ((u12 * 2 ^ n + u3) % v) v9] }) :: own) → Q (.ref t9) s') :
   wpAny (model Challenge.rw_xi0019_01.row.prog w) (ktrTop dp un gd cn cs L a ccd cl outer) (call (.ref 196) [.int u12 t1, .int u3 t2, .int v t3, .int v1 t4, .int v2 t5, .int n t6]) Q E s := by
  revert X; k_fill; intro X
  have hbit1 : Builtin.Int.intBits 1 = 1 := by decide
  have hbitv : Builtin.Int.intBits v1 ≤ n := bits_lt (Int.le_of_lt h1) hb1
  have hbitw : Builtin.Int.intBits v2 ≤ n := bits_lt h20 h21
  have hpp : (2 : Int) ^ n * 2 ^ n = 2 ^ (2 * n) := by rw [← Int.pow_add]; congr 1; lia
  have hp0 : (0 : Int) < 2 ^ n := Int.pow_pos (by decide)
  have hv2 : v < 2 ^ (2 * n) := by
    have : (v1 + 1) * 2 ^ n ≤ 2 ^ n * 2 ^ n := Int.mul_le_mul_of_nonneg_right hb1 (Int.le_of_lt hp0)
    rw [Int.add_mul, Int.one_mul, hpp] at this
    lia
  have hpn : (2 : Int) ^ n ≤ 2 ^ (2 * n) := by have := Int.mul_le_mul_of_nonneg_left (show (1 : Int) ≤ 2 ^ n by lia) (Int.le_of_lt hp0); rw [hpp] at this; lia
  have hv0 : 0 ≤ v1 * 2 ^ n := Int.mul_nonneg (Int.le_of_lt h1) (Int.le_of_lt hp0)
  have hbitr : Builtin.Int.intBits (u12 - v1 * 2 ^ n + v1) ≤ 2 * n + 1 := by
    refine bits_abs ?_ ?_ <;> (rw [Int.pow_succ]; lia)
  have hbitr2 : Builtin.Int.intBits (u12 % v1) ≤ n := bits_lt (Int.emod_nonneg _ (by lia)) (Int.lt_trans (Int.emod_lt_of_pos _ h1) hb1)
  have hbitq : Builtin.Int.intBits (1 * 2 ^ n - 1) ≤ n := bits_lt (by lia) (by lia)
  have hbitq2 : Builtin.Int.intBits (u12 / v1) ≤ 2 * n := bits_lt (Int.ediv_nonneg ha0 (Int.le_of_lt h1)) (Int.lt_of_le_of_lt (Int.ediv_le_self _ ha0) (by lia))
  refine wpAny_call ?_
  k_dflt (refine' code_def (binds := [(Str.ofString "a12", .int u12 t1), (Str.ofString "a3", .int u3 t2), (Str.ofString "b", .int v t3), (Str.ofString "b1", .int v1 t4), (Str.ofString "b2", .int v2 t5), (Str.ofString "n", .int n t6)]) ?k1 ?k2 ?k3 ?k4 ?k5 ?kA ?kF ?kK ?k6 ?k7 ?k8 ?k9 ?kB ?_ ?c2 ?c3 ?c4 ?c5; (case kA => exact rfl); (case kF => exact rfl); (case kK => first | exact rfl | assumption); (case k1 => k_asm); (case k2 => k_asm); (case k3 => k_asm); (case k4 => k_asm); (case k5 => k_asm); (case k6 => k_is); (case k7 => k_is); (case k8 => ktr_room); (case k9 => exact BindsTo.of_eq rfl); (case c5 => decide); (case kB => exact locs rfl); (case c2 => exact rfl); (case c3 => exact rfl); (case c4 => exact rfl); k_whole; intro g' L' h' FG' F' N' B' X' T'; (try dsimp only); (try k_lift B'); (try k_fold))
  k_steps
  · refine Hold.go (while2 "q" "r" (fun k q r => (u12 * 2 ^ n + u3) = q * v + r ∧ r < v ∧ k = (-r).toNat) (by assumption) (by assumption) rfl rfl ⟨?w1, ?w2, rfl⟩ ?turn)
    case w1 => have := guess_rest (a3 := u3) hv (top_rest u12 v1 (2 ^ n)); lia
    case w2 => have := guess_rest (a3 := u3) hv (top_rest u12 v1 (2 ^ n)); have := guess_top (top_lt hp0 ha1 h31); rw [Int.one_mul] at *; lia
    case turn =>
      intro k q tq r tr s6 kp6 hR F6 N6
      refine gen_W fun W hW => ?_
      have hz91 := hR
      refine and3_el hz91 fun hA hlt hkr => ?_
      clear hz91
      clear hR
      k_steps
      · refine hW _ _ ?_
        refine W2Turn.mk (-(r + v)).toNat (q - 1) (r + v) _ ?x1 ⟨?x2, ?x3, rfl⟩ ⟨kp6.os, fun g => kp6.bare g⟩ (by assumption) (by assumption) ⟨_, rfl⟩ ⟨_, rfl⟩ ?x4
        case x1 => rw [hkr]; lia
        case x2 => rw [Int.sub_mul, Int.one_mul]; lia
        case x3 => lia
        case x4 =>
          intro y y1 y2
          show (if y = Str.ofString "r" then _ else if y = Str.ofString "q" then _ else if y = Str.ofString "r" then _ else if y = Str.ofString "q" then _ else _) = _
          rw [if_neg y2, if_neg y1, if_neg y2, if_neg y1]
      · have hz8 := divmod_is hA (by lia) hlt
        have e1 := hz8.1; have e2 := hz8.2
        clear hz8
        subst e1; subst e2
        exact hret _ _ _ _ ⟨kp6.os, fun g => kp6.bare g⟩ (by assumption) (news_sub (by assumption) (by ((repeat refine sub_cons (by k_mem) ?_); first | exact sub_nil | k_allIn)))

  · k_here
    k_dflt (refine' (H (by assumption)) _ _ _ _ _ _ _ _ _ _ _ _ _ _ _ _ _ _ _ _ _ _ _ ?cB ?cF ?cX ?cT ?ck ?cd ?cu _ _ _ _ ?N him ?_; (case cB => k_asm); (case cF => k_asm); (case cX => k_asm); (case cT => k_asm); (case ck => first | exact rfl | assumption); (case cd => ktr_room); (case cu => ktr_units))
    case N => k_asm
    intro s5 t5' u9 v9 kp5 F5 N5
    k_steps
    refine Hold.go (while2 "q" "r" (fun k q r => (u12 * 2 ^ n + u3) = q * v + r ∧ r < v ∧ k = (-r).toNat) (by assumption) (by assumption) rfl rfl ⟨?w1, ?w2, rfl⟩ ?turn)
    case w1 => have := guess_rest (a3 := u3) hv (div_rest u12 v1); lia
    case w2 => have := guess_rest (a3 := u3) hv (div_rest u12 v1); have := guess_hi hp0 hv h20 h31 (Int.ediv_nonneg ha0 (Int.le_of_lt h1)) (Int.lt_ediv_add_one_mul_self u12 h1); lia
    case turn =>
      intro k q tq r tr s6 kp6 hR F6 N6
      refine gen_W fun W hW => ?_
      have hz91 := hR
      refine and3_el hz91 fun hA hlt hkr => ?_
      clear hz91
      clear hR
      k_steps
      · refine hW _ _ ?_
        refine W2Turn.mk (-(r + v)).toNat (q - 1) (r + v) _ ?x1 ⟨?x2, ?x3, rfl⟩ ⟨kp6.os, fun g => kp6.bare g⟩ (by assumption) (by assumption) ⟨_, rfl⟩ ⟨_, rfl⟩ ?x4
        case x1 => rw [hkr]; lia
        case x2 => rw [Int.sub_mul, Int.one_mul]; lia
        case x3 => lia
        case x4 =>
          intro y y1 y2
          show (if y = Str.ofString "r" then _ else if y = Str.ofString "q" then _ else if y = Str.ofString "r" then _ else if y = Str.ofString "q" then _ else _) = _
          rw [if_neg y2, if_neg y1, if_neg y2, if_neg y1]
      · have hz8 := divmod_is hA (by lia) hlt
        have e1 := hz8.1; have e2 := hz8.2
        clear hz8
        subst e1; subst e2
        exact hret _ _ _ _ ⟨kp6.os.trans kp5.os, fun g => kp6.bare (kp5.bare g)⟩ (by assumption) (news_sub (by assumption) (by ((repeat refine sub_cons (by k_mem) ?_); first | exact sub_nil | k_allIn)))



end

section
open PySem PySem.W PyProof.Rows PySem.Calls
set_option Elab.async false
set_option maxRecDepth 100000
set_option maxHeartbeats 8000000
set_option pp.deepTerms false
set_option pp.maxSteps 3000

def RS (x k y : Int) : Prop := 0 ≤ k ∧ x.fdiv (2 ^ k.toNat) = y
def LS (x k y : Int) : Prop := 0 ≤ k ∧ x * 2 ^ k.toNat = y ∧ (Builtin.Int.intBits x : Int) + k ≤ 2 ^ 27
def AN (x k y : Int) : Prop := Builtin.bitAnd x k = y
def ORI (x k y : Int) : Prop := Builtin.bitOr x k = y
theorem RS.of {x k y : Int} (n : Nat) (hk : k = n) (h : x / 2 ^ n = y) : RS x k y := by
  subst hk; exact ⟨Int.natCast_nonneg n, by rw [Int.toNat_natCast, Int.fdiv_eq_ediv_of_nonneg _ (Int.pow_nonneg (by decide))]; exact h⟩
theorem LS.of {x k y : Int} (n : Nat) (hk : k = n) (h : x * 2 ^ n = y) (hb : Builtin.Int.intBits x + n ≤ 134217728) : LS x k y := by
  subst hk; exact ⟨Int.natCast_nonneg n, by rw [Int.toNat_natCast]; exact h, by rw [show (2 : Int) ^ 27 = 134217728 by decide]; lia⟩
section
variable {prog : Program} {w : World} {A : Around} {E : Value → Shared → Prop} {s : Shared} {Q : Value → Shared → Prop} {t u : Tok} {x k y : Int}
theorem rs_go (e : RS x k y) (h : Q (.int y s.toks) { s with toks := s.toks + 1 }) : wpAny (model prog w) A (binaryOp .RShift (.int x t) (.int k u)) Q E s := rshift_int e.1 (by rw [e.2]; exact h)
theorem irs_go (e : RS x k y) (h : Q (.int y s.toks) { s with toks := s.toks + 1 }) : wpAny (model prog w) A (inplaceOp .RShift (.int x t) (.int k u)) Q E s := irshift_int e.1 (by rw [e.2]; exact h)
theorem ls_go (e : LS x k y) (h : Q (.int y s.toks) { s with toks := s.toks + 1 }) : wpAny (model prog w) A (binaryOp .LShift (.int x t) (.int k u)) Q E s := lshift_int e.1 e.2.2 (by rw [e.2.1]; exact h)
theorem ils_go (e : LS x k y) (h : Q (.int y s.toks) { s with toks := s.toks + 1 }) : wpAny (model prog w) A (inplaceOp .LShift (.int x t) (.int k u)) Q E s := ilshift_int e.1 e.2.2 (by rw [e.2.1]; exact h)
theorem an_go (e : AN x k y) (h : Q (.int y s.toks) { s with toks := s.toks + 1 }) : wpAny (model prog w) A (binaryOp .BitAnd (.int x t) (.int k u)) Q E s := and_int (by rw [show Builtin.bitAnd x k = y from e]; exact h)
theorem or_go (e : ORI x k y) (h : Q (.int y s.toks) { s with toks := s.toks + 1 }) : wpAny (model prog w) A (binaryOp .BitOr (.int x t) (.int k u)) Q E s := or_int (by rw [show Builtin.bitOr x k = y from e]; exact h)
end
theorem big_lt {X Y : Int} {h : Nat} (hX : X < Y * 2 ^ (2 * h)) (hY : Y < 2 ^ (2 * h)) : X < 2 ^ (2 * h + 2 * h) := by
  rw [Int.pow_add]
  exact Int.lt_of_lt_of_le hX (Int.mul_le_mul_of_nonneg_right (Int.le_of_lt hY) (Int.le_of_lt (Int.pow_pos (by decide))))
theorem core_facts (X Y : Int) (h : Nat) (hh1 : 1 ≤ h) (hX0 : 0 ≤ X) (hX : X < Y * 2 ^ (2 * h)) (hY1 : Y < 2 ^ (2 * h)) (hY2 : 2 ^ (2 * h) ≤ 2 * Y) :
    ∃ hi mid lo v1 v2 : Int, X / 2 ^ (2 * h) = hi ∧ X / 2 ^ h % 2 ^ h = mid ∧ X % 2 ^ h = lo ∧ Y / 2 ^ h = v1 ∧ Y % 2 ^ h = v2 ∧ 0 ≤ hi ∧ hi < Y ∧ 0 ≤ mid ∧ mid < 2 ^ h ∧ 0 ≤ lo ∧ lo < 2 ^ h ∧ 0 < v1 ∧ v1 < 2 ^ h ∧ 0 ≤ v2 ∧ v2 < 2 ^ h ∧ Y = v1 * 2 ^ h + v2 ∧ X = (hi * 2 ^ h + mid) * 2 ^ h + lo := by
  have hP : (0 : Int) < 2 ^ h := Int.pow_pos (by decide)
  have hPP : (2 : Int) ^ (2 * h) = 2 ^ h * 2 ^ h := by rw [← Int.pow_add]; congr 1; lia
  have h2 : (2 : Int) ≤ 2 ^ h := by
    obtain ⟨k, rfl⟩ : ∃ k, h = k + 1 := ⟨h - 1, by lia⟩
    rw [Int.pow_succ]
    have : (0 : Int) < 2 ^ k := Int.pow_pos (by decide)
    lia
  have hdd : X / 2 ^ (2 * h) = X / 2 ^ h / 2 ^ h := by rw [hPP, ← Int.ediv_ediv_of_nonneg (Int.le_of_lt hP)]
  refine ⟨_, _, _, _, _, rfl, rfl, rfl, rfl, rfl, Int.ediv_nonneg hX0 (by rw [hPP]; exact Int.mul_nonneg (Int.le_of_lt hP) (Int.le_of_lt hP)), Int.ediv_lt_of_lt_mul (Int.pow_pos (by decide)) hX, Int.emod_nonneg _ (by lia), Int.emod_lt_of_pos _ hP, Int.emod_nonneg _ (by lia), Int.emod_lt_of_pos _ hP, ?_, Int.ediv_lt_of_lt_mul hP (by rw [← hPP]; exact hY1), Int.emod_nonneg _ (by lia), Int.emod_lt_of_pos _ hP, (Int.ediv_mul_add_emod _ _).symm, ?_⟩
  · refine Int.lt_of_lt_of_le (show (0 : Int) < 1 by decide) ((Int.le_ediv_iff_mul_le hP).mpr ?_)
    have : (2 : Int) * 2 ^ h ≤ 2 ^ h * 2 ^ h := Int.mul_le_mul_of_nonneg_right h2 (Int.le_of_lt hP)
    rw [← hPP] at this
    lia
  · rw [hdd, Int.ediv_mul_add_emod, Int.ediv_mul_add_emod]
theorem core_end {X Y hi mid lo P : Int} (hX : X = (hi * P + mid) * P + lo) (hY : 0 < Y) (i0 : 0 ≤ hi) (i1 : hi < Y) (m0 : 0 ≤ mid) (m1 : mid < P) (l0 : 0 ≤ lo) (l1 : lo < P) :
    ∃ q1 r1 q2 r2 : Int, (hi * P + mid) / Y = q1 ∧ (hi * P + mid) % Y = r1 ∧ (r1 * P + lo) / Y = q2 ∧ (r1 * P + lo) % Y = r2 ∧ X / Y = q1 * P + q2 ∧ r2 = X % Y ∧ 0 ≤ r1 ∧ r1 < Y ∧ 0 ≤ q2 ∧ q2 < P := by
  have hP : 0 < P := by lia
  have a0 : 0 ≤ (hi * P + mid) % Y := Int.emod_nonneg _ (by lia)
  have a1 : (hi * P + mid) % Y < Y := Int.emod_lt_of_pos _ hY
  have b0 : 0 ≤ (hi * P + mid) % Y * P + lo := Int.add_nonneg (Int.mul_nonneg a0 (Int.le_of_lt hP)) l0
  have b1 := top_lt hP a1 l1
  have c := divmod_is (halves hX (div_rest (hi * P + mid) Y) (div_rest ((hi * P + mid) % Y * P + lo) Y)) (Int.emod_nonneg _ (by lia)) (Int.emod_lt_of_pos _ hY)
  exact ⟨_, _, _, _, rfl, rfl, rfl, rfl, c.1, c.2.symm, a0, a1, Int.ediv_nonneg b0 (Int.le_of_lt hY), Int.ediv_lt_of_lt_mul hY (by rw [Int.mul_comm P Y]; exact b1)⟩
theorem core_q1 {Y hi mid q1 : Int} {h : Nat} (e : (hi * 2 ^ h + mid) / Y = q1) (i0 : 0 ≤ hi) (i1 : hi < Y) (m0 : 0 ≤ mid) (m1 : mid < 2 ^ h) (hY : 0 < Y) : Builtin.Int.intBits q1 ≤ h := by
  have hP : (0 : Int) < 2 ^ h := Int.pow_pos (by decide)
  subst e
  exact bits_lt (Int.ediv_nonneg (Int.add_nonneg (Int.mul_nonneg i0 (Int.le_of_lt hP)) m0) (Int.le_of_lt hY)) (Int.ediv_lt_of_lt_mul hY (by rw [Int.mul_comm _ Y]; exact top_lt hP i1 m1))
local macro_rules | `(tactic| walk_at "binaryOp RShift int int") => `(tactic| (k_here; k_dflt (refine rs_go (by assumption) ?_)))
local macro_rules | `(tactic| walk_at "binaryOp LShift int int") => `(tactic| (k_here; k_dflt (refine ls_go (by assumption) ?_)))
local macro_rules | `(tactic| walk_at "binaryOp BitOr int int") => `(tactic| (k_here; k_dflt (refine or_go (by assumption) ?_)))
local macro_rules | `(tactic| walk_at "binaryOp BitAnd int int") => `(tactic| (k_here; k_dflt (refine an_go (by assumption) ?_)))
local macro_rules | `(tactic| walk_at "inplaceOp RShift int int") => `(tactic| (k_here; k_dflt (refine irs_go (by assumption) ?_)))
local macro_rules | `(tactic| walk_at "inplaceOp LShift int int") => `(tactic| (k_here; k_dflt (refine ils_go (by assumption) ?_)))

theorem div2_ev (w : World) (p : Program) (loose : List Str) (mean : ExcName → Option Value) (mg mb : Str → Option Value) (dp un : Nat) (gd : Option (List Code)) (cn : Str) (cs : Scope) (a : Addr) (ccd : Value) (cl : List (Str × Addr)) (outer : List Env) (A₀ : Around) (base h₀ : Heap) (L : Addr) (m : Str → Option Value) (s : Shared) (Q E : Value → Shared → Prop)
   (B : Below A₀ base outer h₀) (F : Fr h₀ L s.heap m) (X : (KL w.params).In h₀) (T : Top p loose mean mg mb h₀) (hk : cs.kind = .function) (hd1 : dp + 116 < recursionLimit) (hu : un + 8 * 116 < cLine)
   (x y : Int) (h : Nat) (tx ty tn : Tok) (own : List (Addr × Obj)) (N : News h₀ L s.heap own) (him : importsNone p = true)
   (hh1 : 1 ≤ h) (hh : h ≤ 4000) (hx0 : 0 ≤ x) (hx : x < y * 2 ^ (2 * h)) (hy1 : y < 2 ^ (2 * h)) (hy2 : 2 ^ (2 * h) ≤ 2 * y) (hbig : ¬ Builtin.Int.intBits x ≤ 4000 + (2 * h))
   (hret : ∀ s' t9 u9 v9, Kp s s' → Fr h₀ L s'.heap m → News h₀ L s'.heap ((t9, { cls := .type "tuple", data := .seq #[.int (x / y) u9, .int (x % y) v9] }) :: own) → Q (.ref t9) s') :
   wpAny (model Challenge.rw_xi0019_01.row.prog w) (ktrTop dp un gd cn cs L a ccd cl outer) (call (.ref 189) [.int x tx, .int y ty, .int ((2 * h) : Nat) tn]) Q E s := by
  revert X; k_fill; intro X
  have z := core_facts x y h hh1 (by lia) hx hy1 hy2
  refine ex5_el (z) fun hi mid lo v1 v2 hz92 => ?_
  refine and8_el hz92 fun hhi hmid hlo hv1 hv2 i0 i1 hz92_0 => ?_
  refine and8_el hz92_0 fun m0 m1 l0 l1 p0 p1 w0 hz92_1 => ?_
  clear hz92_0
  refine and3_el hz92_1 fun w1 hY hX => ?_
  clear hz92_1
  clear hz92
  clear z
  refine ex4_el (core_end hX (show 0 < y by lia) i0 i1 m0 m1 l0 l1) fun q1 r1 q2 r2 hz94 => ?_
  refine and8_el hz94 fun eq1 er1 eq2 er2 hq hr r10 hz94_0 => ?_
  refine and3_el hz94_0 fun r11 q20 q21 => ?_
  clear hz94_0
  clear hz94
  have hP : (2 : Int) ^ 1 = 2 := rfl
  have hb1 : Builtin.Int.intBits 1 = 1 := by decide
  have hA1 : AN ((2 * h : Nat) : Int) 1 0 := by unfold AN; rw [bitAnd_m1]; lia
  have hR1 : RS ((2 * h : Nat) : Int) 1 h := RS.of 1 rfl (by rw [hP]; lia)
  have hL3 : LS 1 h (1 * 2 ^ h) := LS.of h rfl rfl (by have b9 := hb1; lia)
  have hR2 : RS y h v1 := RS.of h rfl hv1
  have hA2 : AN y (1 * 2 ^ h - 1) v2 := by unfold AN; rw [Int.one_mul, kbt_mask]; exact hv2
  have hR3 : RS x ((2 * h : Nat) : Int) hi := RS.of (2 * h) (by lia) hhi
  have hR4 : RS x h (x / 2 ^ h) := RS.of h rfl rfl
  have hA3 : AN (x / 2 ^ h) (1 * 2 ^ h - 1) mid := by unfold AN; rw [Int.one_mul, kbt_mask]; exact hmid
  have hA4 : AN x (1 * 2 ^ h - 1) lo := by unfold AN; rw [Int.one_mul, kbt_mask]; exact hlo
  have hL4 : LS q1 h (q1 * 2 ^ h) := LS.of h rfl rfl (by have := core_q1 eq1 i0 i1 m0 m1 (show 0 < y by lia); lia)
  have hO1 : ORI (q1 * 2 ^ h) q2 (q1 * 2 ^ h + q2) := bor_add h q1 q2 q20 q21
  have H3 : ∀ u, 0 ≤ u → u < y → Div2At u v1 h 110 := fun u u0 u1 => div2_small p0 (by have := bits_lt (n := 2 * h) u0 (by lia); lia)
  refine wpAny_call ?_
  k_dflt (refine' code_def (binds := [(Str.ofString "a", .int x tx), (Str.ofString "b", .int y ty), (Str.ofString "n", .int (((2 * h) : Nat) : Int) tn)]) ?k1 ?k2 ?k3 ?k4 ?k5 ?kA ?kF ?kK ?k6 ?k7 ?k8 ?k9 ?kB ?_ ?c2 ?c3 ?c4 ?c5; (case kA => exact rfl); (case kF => exact rfl); (case kK => first | exact rfl | assumption); (case k1 => k_asm); (case k2 => k_asm); (case k3 => k_asm); (case k4 => k_asm); (case k5 => k_asm); (case k6 => k_is); (case k7 => k_is); (case k8 => ktr_room); (case k9 => exact BindsTo.of_eq rfl); (case c5 => decide); (case kB => exact locs rfl); (case c2 => exact rfl); (case c3 => exact rfl); (case c4 => exact rfl); k_whole; intro g' L' h' FG' F' N' B' X' T'; (try dsimp only); (try k_lift B'); (try k_fold))
  k_steps
  k_here
  k_dflt (refine' div3_of 110 _ _ _ _ _ _ _ _ _ _ _ _ _ _ _ _ _ _ _ _ _ _ _ ?cB ?cF ?cX ?cT ?ck ?cd ?cu _ _ _ _ _ _ _ _ _ _ _ _ _ ?N him ?H ?hn p0 p1 hY w0 w1 m0 m1 i0 i1 ?_; (case cB => k_asm); (case cF => k_asm); (case cX => k_asm); (case cT => k_asm); (case ck => first | exact rfl | assumption); (case cd => ktr_room); (case cu => ktr_units))
  case N => k_asm
  case H => exact fun _ => H3 hi i0 i1
  case hn => lia
  intro s5 t5' u9 v9 kp5 F5 N5
  rw [eq1, er1] at N5
  k_steps
  k_here
  k_dflt (refine' div3_of 110 _ _ _ _ _ _ _ _ _ _ _ _ _ _ _ _ _ _ _ _ _ _ _ ?cB ?cF ?cX ?cT ?ck ?cd ?cu _ _ _ _ _ _ _ _ _ _ _ _ _ ?N him ?H ?hn p0 p1 hY w0 w1 l0 l1 r10 r11 ?_; (case cB => k_asm); (case cF => k_asm); (case cX => k_asm); (case cT => k_asm); (case ck => first | exact rfl | assumption); (case cd => ktr_room); (case cu => ktr_units))
  case N => k_asm
  case H => exact fun _ => H3 r1 r10 r11
  case hn => lia
  intro s6 t6' u10 v10 kp6 F6 N6
  rw [eq2, er2] at N6
  k_steps
  rw [hq, ← hr] at hret
  exact hret _ _ _ _ ⟨kp6.os.trans kp5.os, fun g => kp6.bare (kp5.bare g)⟩ (by assumption) (news_sub (by assumption) (by ((repeat refine List.forall_mem_cons.mpr ⟨by k_mem, ?_⟩); first | exact (fun _ h => absurd h List.not_mem_nil) | (intro _ h; repeat (first | exact h | refine List.Mem.tail _ ?_)))))

theorem div2_od (w : World) (p : Program) (loose : List Str) (mean : ExcName → Option Value) (mg mb : Str → Option Value) (dp un : Nat) (gd : Option (List Code)) (cn : Str) (cs : Scope) (a : Addr) (ccd : Value) (cl : List (Str × Addr)) (outer : List Env) (A₀ : Around) (base h₀ : Heap) (L : Addr) (m : Str → Option Value) (s : Shared) (Q E : Value → Shared → Prop)
   (B : Below A₀ base outer h₀) (F : Fr h₀ L s.heap m) (X : (KL w.params).In h₀) (T : Top p loose mean mg mb h₀) (hk : cs.kind = .function) (hd1 : dp + 116 < recursionLimit) (hu : un + 8 * 116 < cLine)
   (x y : Int) (h : Nat) (tx ty tn : Tok) (own : List (Addr × Obj)) (N : News h₀ L s.heap own) (him : importsNone p = true)
   (hh1 : 1 ≤ h) (hh : h ≤ 4000) (hx0 : 0 ≤ x) (hx : (x * 2) < (y * 2) * 2 ^ (2 * h)) (hy1 : (y * 2) < 2 ^ (2 * h)) (hy2 : 2 ^ (2 * h) ≤ 2 * (y * 2)) (hbig : ¬ Builtin.Int.intBits x ≤ 4000 + (2 * h - 1))
   (hret : ∀ s' t9 u9 v9, Kp s s' → Fr h₀ L s'.heap m → News h₀ L s'.heap ((t9, { cls := .type "tuple", data := .seq #[.int (x / y) u9, .int (x % y) v9] }) :: own) → Q (.ref t9) s') :
   wpAny (model Challenge.rw_xi0019_01.row.prog w) (ktrTop dp un gd cn cs L a ccd cl outer) (call (.ref 189) [.int x tx, .int y ty, .int ((2 * h - 1) : Nat) tn]) Q E s := by
  revert X; k_fill; intro X
  have z := core_facts (x * 2) (y * 2) h hh1 (by lia) hx hy1 hy2
  refine ex5_el (z) fun hi mid lo v1 v2 hz96 => ?_
  refine and8_el hz96 fun hhi hmid hlo hv1 hv2 i0 i1 hz96_0 => ?_
  refine and8_el hz96_0 fun m0 m1 l0 l1 p0 p1 w0 hz96_1 => ?_
  clear hz96_0
  refine and3_el hz96_1 fun w1 hY hX => ?_
  clear hz96_1
  clear hz96
  clear z
  refine ex4_el (core_end hX (show 0 < (y * 2) by lia) i0 i1 m0 m1 l0 l1) fun q1 r1 q2 r2 hz98 => ?_
  refine and8_el hz98 fun eq1 er1 eq2 er2 hq hr r10 hz98_0 => ?_
  refine and3_el hz98_0 fun r11 q20 q21 => ?_
  clear hz98_0
  clear hz98
  have hP : (2 : Int) ^ 1 = 2 := rfl
  have hb1 : Builtin.Int.intBits 1 = 1 := by decide
  have hA1 : AN ((2 * h - 1 : Nat) : Int) 1 1 := by unfold AN; rw [bitAnd_m1]; lia
  have hL1 : LS x 1 (x * 2) := LS.of 1 rfl (by rw [hP]) (by have := bits_lt (n := 2 * h + 2 * h) hx0 (by have := big_lt hx hy1; lia); lia)
  have hL2 : LS y 1 (y * 2) := LS.of 1 rfl (by rw [hP]) (by have := bits_lt (n := 2 * h) (show 0 ≤ y by lia) (by lia); lia)
  have hR1 : RS (((2 * h - 1 : Nat) : Int) + 1) 1 h := RS.of 1 rfl (by rw [hP]; lia)
  have hL3 : LS 1 h (1 * 2 ^ h) := LS.of h rfl rfl (by have b9 := hb1; lia)
  have hR2 : RS (y * 2) h v1 := RS.of h rfl hv1
  have hA2 : AN (y * 2) (1 * 2 ^ h - 1) v2 := by unfold AN; rw [Int.one_mul, kbt_mask]; exact hv2
  have hR3 : RS (x * 2) (((2 * h - 1 : Nat) : Int) + 1) hi := RS.of (2 * h) (by lia) hhi
  have hR4 : RS (x * 2) h ((x * 2) / 2 ^ h) := RS.of h rfl rfl
  have hA3 : AN ((x * 2) / 2 ^ h) (1 * 2 ^ h - 1) mid := by unfold AN; rw [Int.one_mul, kbt_mask]; exact hmid
  have hA4 : AN (x * 2) (1 * 2 ^ h - 1) lo := by unfold AN; rw [Int.one_mul, kbt_mask]; exact hlo
  have hL4 : LS q1 h (q1 * 2 ^ h) := LS.of h rfl rfl (by have := core_q1 eq1 i0 i1 m0 m1 (show 0 < (y * 2) by lia); lia)
  have hO1 : ORI (q1 * 2 ^ h) q2 (q1 * 2 ^ h + q2) := bor_add h q1 q2 q20 q21
  have hR5 : RS r2 1 (x % y) := RS.of 1 rfl (by rw [hP, hr, Int.mul_comm x 2, Int.mul_comm y 2, Int.mul_emod_mul_of_pos _ _ (by decide)]; lia)
  have H3 : ∀ u, 0 ≤ u → u < (y * 2) → Div2At u v1 h 110 := fun u u0 u1 => div2_small p0 (by have := bits_lt (n := 2 * h) u0 (by lia); lia)
  refine wpAny_call ?_
  k_dflt (refine' code_def (binds := [(Str.ofString "a", .int x tx), (Str.ofString "b", .int y ty), (Str.ofString "n", .int (((2 * h - 1) : Nat) : Int) tn)]) ?k1 ?k2 ?k3 ?k4 ?k5 ?kA ?kF ?kK ?k6 ?k7 ?k8 ?k9 ?kB ?_ ?c2 ?c3 ?c4 ?c5; (case kA => exact rfl); (case kF => exact rfl); (case kK => first | exact rfl | assumption); (case k1 => k_asm); (case k2 => k_asm); (case k3 => k_asm); (case k4 => k_asm); (case k5 => k_asm); (case k6 => k_is); (case k7 => k_is); (case k8 => ktr_room); (case k9 => exact BindsTo.of_eq rfl); (case c5 => decide); (case kB => exact locs rfl); (case c2 => exact rfl); (case c3 => exact rfl); (case c4 => exact rfl); k_whole; intro g' L' h' FG' F' N' B' X' T'; (try dsimp only); (try k_lift B'); (try k_fold))
  k_steps
  k_here
  k_dflt (refine' div3_of 110 _ _ _ _ _ _ _ _ _ _ _ _ _ _ _ _ _ _ _ _ _ _ _ ?cB ?cF ?cX ?cT ?ck ?cd ?cu _ _ _ _ _ _ _ _ _ _ _ _ _ ?N him ?H ?hn p0 p1 hY w0 w1 m0 m1 i0 i1 ?_; (case cB => k_asm); (case cF => k_asm); (case cX => k_asm); (case cT => k_asm); (case ck => first | exact rfl | assumption); (case cd => ktr_room); (case cu => ktr_units))
  case N => k_asm
  case H => exact fun _ => H3 hi i0 i1
  case hn => lia
  intro s5 t5' u9 v9 kp5 F5 N5
  rw [eq1, er1] at N5
  k_steps
  k_here
  k_dflt (refine' div3_of 110 _ _ _ _ _ _ _ _ _ _ _ _ _ _ _ _ _ _ _ _ _ _ _ ?cB ?cF ?cX ?cT ?ck ?cd ?cu _ _ _ _ _ _ _ _ _ _ _ _ _ ?N him ?H ?hn p0 p1 hY w0 w1 l0 l1 r10 r11 ?_; (case cB => k_asm); (case cF => k_asm); (case cX => k_asm); (case cT => k_asm); (case ck => first | exact rfl | assumption); (case cd => ktr_room); (case cu => ktr_units))
  case N => k_asm
  case H => exact fun _ => H3 r1 r10 r11
  case hn => lia
  intro s6 t6' u10 v10 kp6 F6 N6
  rw [eq2, er2] at N6
  k_steps
  have hfin : q1 * 2 ^ h + q2 = x / y := by rw [← hq, Int.mul_comm x 2, Int.mul_comm y 2, Int.mul_ediv_mul_of_pos _ _ (by decide)]
  rw [← hfin] at hret
  exact hret _ _ _ _ ⟨kp6.os.trans kp5.os, fun g => kp6.bare (kp5.bare g)⟩ (by assumption) (news_sub (by assumption) (by ((repeat refine List.forall_mem_cons.mpr ⟨by k_mem, ?_⟩); first | exact (fun _ h => absurd h List.not_mem_nil) | (intro _ h; repeat (first | exact h | refine List.Mem.tail _ ?_)))))


end

section
open PySem PySem.W PyProof.Rows PySem.Calls
set_option Elab.async false
set_option maxRecDepth 100000
set_option maxHeartbeats 8000000
set_option pp.deepTerms false
set_option pp.maxSteps 3000

theorem half_of (n : Nat) (h0 : 0 < n) : ∃ h, 1 ≤ h ∧ (n = 2 * h ∨ n = 2 * h - 1) := ⟨(n + 1) / 2, by lia, by lia⟩
theorem div2_big {x y : Int} {n : Nat} (hn : n ≤ 7999) (hx0 : 0 ≤ x) (hx : x < y * 2 ^ n) (hy1 : y < 2 ^ n) (hy2 : 2 ^ n ≤ 2 * y) : Div2At x y n 116 :=
  fun w p loose mean mg mb dp un gd cn cs a ccd cl outer A₀ base h₀ L m s Q E B F X T hk hd1 hu tx ty tn own N him hret => by
    have hP : (0 : Int) < 2 ^ n := Int.pow_pos (by decide)
    by_cases hs : Builtin.Int.intBits x ≤ 4000 + n
    · exact div2_s w p loose mean mg mb dp un gd cn cs a ccd cl outer A₀ base h₀ L m s Q E B F X T hk (by lia) (by lia) x y n tx ty tn own N him (by lia) hs hret
    · have hn0 : 0 < n := by
        rcases Nat.eq_zero_or_pos n with e | e
        · subst e; simp at hy1 hy2; lia
        · exact e
      obtain ⟨h, h1, e | e⟩ := half_of n hn0
      · subst e
        exact div2_ev w p loose mean mg mb dp un gd cn cs a ccd cl outer A₀ base h₀ L m s Q E B F X T hk hd1 hu x y h tx ty tn own N him h1 (by lia) hx0 hx hy1 hy2 hs hret
      · have e2 : (2 : Int) ^ (2 * h) = 2 ^ n * 2 := by rw [← Int.pow_succ]; congr 1; lia
        have hx2 : x * 2 < y * 2 * 2 ^ (2 * h) := by
          have e3 : y * 2 * 2 ^ (2 * h) = 4 * (y * 2 ^ n) := by rw [e2]; rw [Int.mul_assoc, Int.mul_left_comm 2, Int.mul_left_comm y]; rw [show (2 : Int) * 2 = 4 from rfl]; rw [Int.mul_comm (2 ^ n), Int.mul_assoc, Int.mul_left_comm]
          rw [e3]; lia
        have hy3 : y * 2 < 2 ^ (2 * h) := by rw [e2]; lia
        have hy4 : 2 ^ (2 * h) ≤ 2 * (y * 2) := by rw [e2]; lia
        subst e
        exact div2_od w p loose mean mg mb dp un gd cn cs a ccd cl outer A₀ base h₀ L m s Q E B F X T hk hd1 hu x y h tx ty tn own N him h1 (by lia) hx0 hx2 hy3 hy4 hs hret

theorem div3_full (w : World) (p : Program) (loose : List Str) (mean : ExcName → Option Value) (mg mb : Str → Option Value) (dp un : Nat) (gd : Option (List Code)) (cn : Str) (cs : Scope) (a : Addr) (ccd : Value) (cl : List (Str × Addr)) (outer : List Env) (A₀ : Around) (base h₀ : Heap) (L : Addr) (m : Str → Option Value) (s : Shared) (Q E : Value → Shared → Prop)
   (B : Below A₀ base outer h₀) (F : Fr h₀ L s.heap m) (X : (KL w.params).In h₀) (T : Top p loose mean mg mb h₀) (hk : cs.kind = .function) (hd1 : dp + 120 < recursionLimit) (hu : un + 8 * 120 < cLine)
   (u12 u3 v v1 v2 : Int) (n : Nat) (t1 t2 t3 t4 t5 t6 : Tok) (own : List (Addr × Obj)) (N : News h₀ L s.heap own) (him : importsNone p = true)
   (hn : n ≤ 7999) (hb1 : v1 < 2 ^ n) (hb2 : 2 ^ n ≤ 2 * v1) (hv : v = v1 * 2 ^ n + v2) (h20 : 0 ≤ v2) (h21 : v2 < 2 ^ n) (h30 : 0 ≤ u3) (h31 : u3 < 2 ^ n) (ha0 : 0 ≤ u12) (ha1 : u12 < v)
   (hret : ∀ s' t9 u9 v9, Kp s s' → Fr h₀ L s'.heap m → News h₀ L s'.heap ((t9, { cls := .type "tuple", data := .seq #[.int ((u12 * 2 ^ n + u3) / v) u9, .int ((u12 * 2 ^ n + u3) % v) v9] }) :: own) → Q (.ref t9) s') :
   wpAny (model Challenge.rw_xi0019_01.row.prog w) (ktrTop dp un gd cn cs L a ccd cl outer) (call (.ref 196) [.int u12 t1, .int u3 t2, .int v t3, .int v1 t4, .int v2 t5, .int n t6]) Q E s := by
  have hP : (0 : Int) < 2 ^ n := Int.pow_pos (by decide)
  refine div3_of 116 w p loose mean mg mb dp un gd cn cs a ccd cl outer A₀ base h₀ L m s Q E B F X T hk hd1 hu u12 u3 v v1 v2 n t1 t2 t3 t4 t5 t6 own N him (fun hne => ?_) (by lia) (by lia) hb1 hv h20 h21 h30 h31 ha0 ha1 hret
  refine div2_big hn ha0 ?_ hb1 hb2
  have h5 : u12 / 2 ^ n < v1 + 1 := Int.ediv_lt_of_lt_mul hP (by rw [Int.add_mul, Int.one_mul]; lia)
  exact (Int.ediv_lt_iff_lt_mul hP).mp (by lia)


end

section
open PySem PySem.W PyProof.Rows PySem.Calls
set_option Elab.async false
set_option maxRecDepth 100000
set_option maxHeartbeats 4000000
/-- k whole pieces, each in two chunks -/
noncomputable def pcs : Nat → List (Str × Str)
  | 0 => []
  | k + 1 => pcs k ++ [(Str.ofString " ", Str.ofString "x")] ++ [(Str.ofString "", Str.ofString ";")]
/-- the folding: the name's room, the pieces in the last row, the rows before -/
noncomputable def fst3 (W taken : Nat) : Nat → Nat × Nat × List Nat
  | 0 => (taken, 0, [])
  | j + 1 => match fst3 W taken j with
    | (t, c, rs) => if t + c < W then (t, c + 1, rs) else (0, 1, rs ++ [c])
noncomputable def rowS (c : Nat) : Str := flat (pcs c)
noncomputable def okSt (W taken j : Nat) (st : Nat × Nat × List Nat) : Bool := match st with
  | (t, c, rs) => decide (t + c ≤ W) && decide (t ≤ taken) && (j == 0 || decide (1 ≤ c)) && decide (c ≤ 11) && decide (rs.length ≤ 11) && rs.all (fun r => decide (r ≤ 11))
theorem okSt_all : ∀ W, W < 11 → ∀ taken, taken < W → ∀ j, j < 12 → okSt W taken j (fst3 W taken j) = true := by decide +kernel
theorem fst3_ok {W taken j t c : Nat} {rs : List Nat} (hW : W ≤ 10) (ht : taken < W) (hj : j ≤ 11) (h : fst3 W taken j = (t, c, rs)) :
    t + c ≤ W ∧ t ≤ taken ∧ (j = 0 ∨ 1 ≤ c) ∧ c ≤ 11 ∧ rs.length ≤ 11 ∧ ∀ r ∈ rs, r ≤ 11 := by
  have z := okSt_all W (by lia) taken ht j (by lia)
  rw [h] at z
  simp only [okSt, Bool.and_eq_true, Bool.or_eq_true, decide_eq_true_eq, beq_iff_eq, List.all_eq_true] at z
  obtain ⟨⟨⟨⟨⟨h1, h2⟩, h3⟩, h4⟩, h5⟩, h6⟩ := z
  exact ⟨h1, h2, h3, h4, h5, h6⟩
theorem fst3_go {W taken j t c : Nat} {rs : List Nat} (h : fst3 W taken j = (t, c, rs)) (hl : t + c < W) : fst3 W taken (j + 1) = (t, c + 1, rs) := by
  show (match fst3 W taken j with | (t, c, rs) => if t + c < W then (t, c + 1, rs) else (0, 1, rs ++ [c])) = _
  rw [h]; simp only [if_pos hl]
theorem fst3_fold {W taken j t c : Nat} {rs : List Nat} (h : fst3 W taken j = (t, c, rs)) (hl : ¬ t + c < W) : fst3 W taken (j + 1) = (0, 1, rs ++ [c]) := by
  show (match fst3 W taken j with | (t, c, rs) => if t + c < W then (t, c + 1, rs) else (0, 1, rs ++ [c])) = _
  rw [h]; simp only [if_neg hl]
theorem pcs_len (k : Nat) : (pcs k).length = 2 * k := by
  induction k with
  | zero => rfl
  | succ k ih => rw [pcs, List.length_append, List.length_append, ih]; simp only [List.length_cons, List.length_nil]; lia
theorem total_app (a b : List (Str × Str)) : total (a ++ b) = total a + total b := by
  unfold total; rw [List.map_append, List.sum_append]
theorem total_x : total [(Str.ofString " ", Str.ofString "x")] = 2 := by decide
theorem total_s : total [(Str.ofString "", Str.ofString ";")] = 1 := by decide
theorem pcs_total (k : Nat) : total (pcs k) = 3 * k := by
  induction k with
  | zero => rfl
  | succ k ih => rw [pcs, total_app, total_app, ih, total_x, total_s]; lia
theorem pcs_mem (k : Nat) : ∀ p ∈ pcs k, p = (Str.ofString " ", Str.ofString "x") ∨ p = (Str.ofString "", Str.ofString ";") := by
  induction k with
  | zero => intro p hp; exact absurd hp List.not_mem_nil
  | succ k ih =>
    intro p hp
    rw [pcs, List.mem_append, List.mem_append] at hp
    rcases hp with (hp | hp) | hp
    · exact ih p hp
    · exact .inl (List.mem_singleton.mp hp)
    · exact .inr (List.mem_singleton.mp hp)
theorem piece_small {p : Str × Str} (h : p = (Str.ofString " ", Str.ofString "x") ∨ p = (Str.ofString "", Str.ofString ";")) : p.1.length ≤ 200 ∧ p.2.length ≤ 200 := by
  rcases h with rfl | rfl <;> exact ⟨by decide, by decide⟩
theorem pcs_small (k : Nat) (hk : k ≤ 50) : Small (pcs k) := ⟨by rw [pcs_len]; lia, fun p hp => piece_small (pcs_mem k p hp)⟩
theorem pcs_small1 (k : Nat) (hk : k ≤ 50) : Small (pcs k ++ [(Str.ofString " ", Str.ofString "x")]) := ⟨by rw [List.length_append, pcs_len]; simp only [List.length_cons, List.length_nil]; lia, fun p hp => by
  rcases List.mem_append.mp hp with hp | hp
  · exact piece_small (pcs_mem k p hp)
  · exact piece_small (.inl (List.mem_singleton.mp hp))⟩
theorem pcs_last (k : Nat) (hk : 1 ≤ k) : (pcs k)[(pcs k).length - 1]? = some (Str.ofString "", Str.ofString ";") := by
  obtain ⟨j, rfl⟩ : ∃ j, k = j + 1 := ⟨k - 1, by lia⟩
  have e : pcs (j + 1) = pcs j ++ [(Str.ofString " ", Str.ofString "x"), (Str.ofString "", Str.ofString ";")] := by rw [pcs, List.append_assoc]; rfl
  rw [e, List.getElem?_append_right (by simp)]
  simp
theorem rowS_space : ∀ c, c < 12 → c = 0 ∨ Txt.isspace (rowS c) = false := by decide +kernel
theorem rowS_len : ∀ c, c < 12 → (rowS c).length ≤ 33 := by decide +kernel
theorem rows_w {rs : List Nat} (h1 : rs.length ≤ 12) (h2 : ∀ r ∈ rs, r ≤ 11) : ((rs.map rowS).map (·.length)).sum + (rs.map rowS).length ≤ 1048576 := by
  have key : ∀ l : List Nat, (∀ r ∈ l, r ≤ 11) → ((l.map rowS).map (·.length)).sum ≤ 33 * l.length := by
    intro l
    induction l with
    | nil => intro _; simp
    | cons a l ih =>
      intro h
      have := ih fun r hr => h r (.tail _ hr)
      have := rowS_len a (by have := h a (.head _); lia)
      simp only [List.map_cons, List.sum_cons, List.length_cons]
      lia
  have := key rs h2
  rw [List.length_map]
  lia
theorem PartsAre.snoc {own : List (Addr × Obj)} {vs : List Value} {ps : List (Str × Str)} {a b : Str} (x : PartsAre own vs (ps ++ [(a, b)])) : ∃ us q ta tb, vs = us ++ [.ref q] ∧ PartsAre own us ps ∧ (q, tupO a ta b tb) ∈ own := by
  induction ps generalizing vs with
  | nil =>
    cases x with
    | cons hm y => cases y; exact ⟨[], _, _, _, rfl, .nil, hm⟩
  | cons p ps ih =>
    cases x with
    | cons hm y =>
      obtain ⟨us, q, ta, tb, rfl, h2, h3⟩ := ih y
      exact ⟨_ :: us, q, ta, tb, rfl, .cons hm h2, h3⟩

end

section
open PySem PySem.W PyProof.Rows PySem.Calls
set_option Elab.async false
set_option maxRecDepth 100000
set_option maxHeartbeats 4000000
theorem cut_uniq {c : Nat} : ∀ (l1 l2 X Y : List Nat), c ∉ l1 → c ∉ l2 → l1 ++ c :: X = l2 ++ c :: Y → l1 = l2 ∧ X = Y := by
  intro l1
  induction l1 with
  | nil =>
    intro l2 X Y _ h2 e
    cases l2 with
    | nil => exact ⟨rfl, (List.cons.inj e).2⟩
    | cons b l2 => exact absurd ((List.cons.inj e).1 ▸ List.mem_cons_self) h2
  | cons a l1 ih =>
    intro l2 X Y h1 h2 e
    cases l2 with
    | nil => exact absurd ((List.cons.inj e).1 ▸ List.mem_cons_self) h1
    | cons b l2 =>
      obtain ⟨e1, e2⟩ := List.cons.inj e
      obtain ⟨e3, e4⟩ := ih l2 X Y (fun h => h1 (.tail _ h)) (fun h => h2 (.tail _ h)) e2
      exact ⟨by rw [e1, e3], e4⟩
theorem toList_app (a b : Str) : (a ++ b).cps.toList = a.cps.toList ++ b.cps.toList := by rw [Str.cps_append, Array.toList_append]
theorem ext_l {a b : Str} (h : a.cps.toList = b.cps.toList) : a = b := Str.ext' (Array.toList_inj.mp h)
theorem join_list (c : Nat) (a b : Str) (r : List Str) : (Str.join ⟨#[c]⟩ (a :: b :: r)).cps.toList = a.cps.toList ++ c :: (Str.join ⟨#[c]⟩ (b :: r)).cps.toList := by
  show (a ++ ⟨#[c]⟩ ++ Str.join ⟨#[c]⟩ (b :: r)).cps.toList = _
  rw [toList_app, toList_app, List.append_assoc]; rfl
theorem join_uniq (c : Nat) : ∀ A B : List Str, A ≠ [] → B ≠ [] → (∀ p ∈ A, c ∉ p.cps.toList) → (∀ p ∈ B, c ∉ p.cps.toList) → Str.join ⟨#[c]⟩ A = Str.join ⟨#[c]⟩ B → A = B := by
  intro A
  induction A with
  | nil => intro B h; exact absurd rfl h
  | cons a A ih =>
    intro B _ hB fA fB e
    cases B with
    | nil => exact absurd rfl hB
    | cons b B =>
      cases A with
      | nil =>
        cases B with
        | nil => rw [show a = b from e]
        | cons b2 B =>
          have e1 : a.cps.toList = (Str.join ⟨#[c]⟩ (b :: b2 :: B)).cps.toList := congrArg (·.cps.toList) e
          rw [join_list] at e1
          exact absurd (e1 ▸ List.mem_append.mpr (.inr List.mem_cons_self)) (fA a (.head _))
      | cons a2 A =>
        cases B with
        | nil =>
          have e1 : (Str.join ⟨#[c]⟩ (a :: a2 :: A)).cps.toList = b.cps.toList := congrArg (·.cps.toList) e
          rw [join_list] at e1
          exact absurd (e1 ▸ List.mem_append.mpr (.inr List.mem_cons_self)) (fB b (.head _))
        | cons b2 B =>
          have e1 : (Str.join ⟨#[c]⟩ (a :: a2 :: A)).cps.toList = (Str.join ⟨#[c]⟩ (b :: b2 :: B)).cps.toList := congrArg (·.cps.toList) e
          rw [join_list, join_list] at e1
          obtain ⟨e2, e3⟩ := cut_uniq _ _ _ _ (fA a (.head _)) (fB b (.head _)) e1
          rw [ext_l e2, ih (b2 :: B) (by simp) (by simp) (fun p hp => fA p (.tail _ hp)) (fun p hp => fB p (.tail _ hp)) (ext_l e3)]
theorem split_join (c : Nat) (A : List Str) (hA : A ≠ []) (fA : ∀ p ∈ A, c ∉ p.cps.toList) (h0 : 0 < (Str.join ⟨#[c]⟩ A).length) : Txt.split (Str.join ⟨#[c]⟩ A) ⟨#[c]⟩ = A := by
  have e := StrLaws.join_split (Str.join ⟨#[c]⟩ A) ⟨#[c]⟩
  refine join_uniq c _ _ (fun h => ?_) hA (StrLaws.split_free _ c) fA e
  rw [h] at e
  rw [← e] at h0
  exact absurd h0 (Nat.lt_irrefl 0)
theorem rowS_free : ∀ c, c < 12 → 46 ∉ (rowS c).cps.toList := by decide +kernel
theorem rowS_pos : ∀ c, c < 12 → c = 0 ∨ 0 < (rowS c).length := by decide +kernel
theorem join_pos (c : Nat) (l : List Str) (a : Str) (ha : 0 < a.length) : 0 < (Str.join ⟨#[c]⟩ (l ++ [a])).length := by
  induction l with
  | nil => exact ha
  | cons b l ih =>
    cases l with
    | nil => rw [show Str.join ⟨#[c]⟩ ([b] ++ [a]) = b ++ ⟨#[c]⟩ ++ Str.join ⟨#[c]⟩ [a] from rfl, Str.length_append]; exact Nat.add_pos_right _ ha
    | cons d l => rw [show Str.join ⟨#[c]⟩ ((b :: d :: l) ++ [a]) = b ++ ⟨#[c]⟩ ++ Str.join ⟨#[c]⟩ ((d :: l) ++ [a]) from rfl, Str.length_append]; exact Nat.add_pos_right _ ih
theorem rows_split {rs : List Nat} {c : Nat} (h : ∀ r ∈ rs, r ≤ 11) (hc : 1 ≤ c) (hc1 : c ≤ 11) :
    Txt.split (Str.join (Str.ofString ".") (rs.map rowS ++ [rowS c])) (Str.ofString ".") = rs.map rowS ++ [rowS c] := by
  rw [show Str.ofString "." = ⟨#[46]⟩ by decide]
  refine split_join 46 _ (by simp) (fun p hp => ?_) (join_pos 46 _ _ ((rowS_pos c (by lia)).resolve_left (by lia)))
  rcases List.mem_append.mp hp with hp | hp
  · obtain ⟨r, hr, rfl⟩ := List.mem_map.mp hp
    exact rowS_free r (by have := h r hr; lia)
  · rw [List.mem_singleton.mp hp]
    exact rowS_free c (by lia)

end

local macro_rules | `(tactic| walk_at "exec For Name Call cons nil") => `(tactic| (k_here; (with_reducible show wpAny _ _ (exec (Stmt.For _ _ _ _ _) _) _ _ _); k_dflt (refine' forX (by k_asm) rfl rfl ?_; k_whole)))
local macro_rules | `(tactic| walk_at "pyIter ref") => `(tactic| (k_here; (with_reducible show wpAny _ _ (pyIter (Value.ref _)) _ _ _); refine hold_ ?_))

section
open PySem PySem.W PyProof.Rows PySem.Calls
set_option Elab.async false
set_option maxRecDepth 100000
set_option maxHeartbeats 8000000
set_option pp.deepTerms false
set_option pp.maxSteps 3000

/-- the rows of a folding, by their pieces -/
noncomputable def finRows (W taken size : Nat) : List Nat := match fst3 W taken (size - taken) with
  | (_, c, rs) => rs ++ [c]
theorem parts_snoc {q : Addr} {a b : Str} {ta tb : Tok} {own : List (Addr × Obj)} {items : List Value} {ps : List (Str × Str)} {as : List Addr} (hp : PartsAre own items ps) (_ho : OwnOff ((q, tupO a ta b tb) :: own) as) :
    PartsAre ((q, tupO a ta b tb) :: own) (items ++ [.ref q]) (ps ++ [(a, b)]) := (hp.mono fun _ h => .tail _ h).append (.cons (.head _) .nil)
theorem drop_I1 {a1 aI : Addr × Obj} {own : List (Addr × Obj)} {as : List Addr} (ho : OwnOff (a1 :: aI :: own) as) : OwnOff (a1 :: own) as := fun p hp => ho p ((List.mem_cons.mp hp).elim (fun e => e ▸ .head _) fun h => .tail _ (.tail _ h))
theorem drop_I2 {a1 a2 aI : Addr × Obj} {own : List (Addr × Obj)} {as : List Addr} (ho : OwnOff (a1 :: a2 :: aI :: own) as) : OwnOff (a1 :: a2 :: own) as := fun p hp => ho p ((List.mem_cons.mp hp).elim (fun e => e ▸ .head _) fun h => .tail _ ((List.mem_cons.mp h).elim (fun e => e ▸ .head _) fun h => .tail _ (.tail _ h)))
theorem turn_end {h₀ h : Heap} {L : Addr} {P : VP} {f fd ln x d I : Addr} {oI : Obj} {items : List Value} {n : Nat} {hs : Int} {tz : Tok} {k : Int} {tz' : Tok} {t1 t2 : Array Value} {lines : List Value} {nl : Nat} {a1 a2 : Addr × Obj} {own : List (Addr × Obj)}
    (N : News h₀ L h (vfL P f fd ln x d items n hs tz k tz' t1 t2 lines nl (a1 :: a2 :: (I, oI) :: own))) : News h₀ L h ((I, oI) :: vfL P f fd ln x d items n hs tz k tz' t1 t2 lines nl (a1 :: a2 :: own)) := news_sub N (by ((repeat refine sub_cons (by k_mem) ?_); first | exact sub_nil | k_allIn))
theorem tup_ne_I {h₀ h : Heap} {L : Addr} {P : VP} {f fd ln x d I q : Addr} {oI : Obj} {items : List Value} {n : Nat} {hs : Int} {tz : Tok} {k : Int} {tz' : Tok} {t1 t2 : Array Value} {lines : List Value} {nl : Nat} {a b : Str} {ta tb : Tok} {a1 a2 : Addr × Obj} {own : List (Addr × Obj)}
    (N : News h₀ L h (vfL P f fd ln x d items n hs tz k tz' t1 t2 lines nl (a1 :: a2 :: (I, oI) :: own))) (hoI : oI.cls = .type "range_iterator") (hq : (q, tupO a ta b tb) ∈ (a1 :: a2 :: (I, oI) :: own)) : q ≠ I := by
  intro e
  have e1 := (N (q, tupO a ta b tb) (.tail _ (.tail _ (.tail _ (.tail _ (.tail _ (.tail _ (.tail _ hq)))))))).1
  have e2 := (N (I, oI) (.tail _ (.tail _ (.tail _ (.tail _ (.tail _ (.tail _ (.tail _ (.tail _ (.tail _ (.head _))))))))))).1
  dsimp only at e1 e2
  rw [e, e2] at e1
  have := congrArg Obj.cls (Option.some.inj e1)
  rw [hoI] at this
  exact absurd this (by simp)
theorem nI_of {P : VP} {f fd ln x d I : Addr} {items : List Value} {n : Nat} {hs : Int} {tz : Tok} {k : Int} {tz' : Tok} {t1 t2 : Array Value} {lines : List Value} {nl : Nat} {own : List (Addr × Obj)}
    (hI : ∀ b ∈ [x, d, 140, 147, f, fd, ln], I ≠ b) (ho : ∀ p ∈ own, p.1 ≠ I) : ∀ p ∈ vfL P f fd ln x d items n hs tz k tz' t1 t2 lines nl own, p.1 ≠ I := by
  (repeat refine List.forall_mem_cons.mpr ⟨(hI _ (by simp)).symm, ?_⟩)
  exact ho
def RR (own : List (Addr × Obj)) (P : VP) (f : Addr) (fd : Addr) (ln : Addr) (x : Addr) (d : Addr) (hs : Int) (tz : Tok) (W : Nat) (taken : Nat) (j : Nat) (nx : List (Addr × Obj)) : Prop := ∃ (items : List Value) (n1 : Nat) (tz1 : Tok) (m1 : Array Value) (m2 : Array Value) (lines : List Value) (nl1 : Nat) (own' : List (Addr × Obj)) (t : Nat) (c : Nat) (rs : List Nat), nx = vfL P f fd ln x d items n1 hs tz ((3 * t : Nat) : Int) tz1 m1 m2 lines nl1 own' ∧ fst3 W taken j = (t, c, rs) ∧ PartsAre own' items (pcs c) ∧ StrsAre lines (rs.map rowS) ∧ OwnOff own' [x, d, 140, 147, f, fd, ln] ∧ TriplesOk m1.toList ∧ TriplesOk m2.toList ∧ (∀ p ∈ own, p ∈ own')
theorem RR.mk {own : List (Addr × Obj)} {P : VP} {f : Addr} {fd : Addr} {ln : Addr} {x : Addr} {d : Addr} {hs : Int} {tz : Tok} {W : Nat} {taken : Nat} {j : Nat} (items : List Value) (n1 : Nat) (tz1 : Tok) (m1 : Array Value) (m2 : Array Value) (lines : List Value) (nl1 : Nat) (own' : List (Addr × Obj)) (t : Nat) (c : Nat) (rs : List Nat)  (r0 : fst3 W taken j = (t, c, rs)) (r1 : PartsAre own' items (pcs c)) (r2 : StrsAre lines (rs.map rowS)) (r3 : OwnOff own' [x, d, 140, 147, f, fd, ln]) (r4 : TriplesOk m1.toList) (r5 : TriplesOk m2.toList) (r6 : (∀ p ∈ own, p ∈ own')) :
    RR own P f fd ln x d hs tz W taken j (vfL P f fd ln x d items n1 hs tz ((3 * t : Nat) : Int) tz1 m1 m2 lines nl1 own') := ⟨items, n1, tz1, m1, m2, lines, nl1, own', t, c, rs, rfl, r0, r1, r2, r3, r4, r5, r6⟩
theorem RR.el {own : List (Addr × Obj)} {P : VP} {f : Addr} {fd : Addr} {ln : Addr} {x : Addr} {d : Addr} {hs : Int} {tz : Tok} {W : Nat} {taken : Nat} {j : Nat} {nx : List (Addr × Obj)} {h₀9 hp9 : Heap} {L9 : Addr} {c9 : Prop} {I9 : Addr} {oI9 : Obj} (h : RR own P f fd ln x d hs tz W taken j nx) (N : News h₀9 L9 hp9 ((I9, oI9) :: nx)) (hn : ∀ p ∈ nx, p.1 ≠ I9)
    (g : ∀ (items : List Value) (n1 : Nat) (tz1 : Tok) (m1 : Array Value) (m2 : Array Value) (lines : List Value) (nl1 : Nat) (own' : List (Addr × Obj)) (t : Nat) (c : Nat) (rs : List Nat), fst3 W taken j = (t, c, rs) → PartsAre own' items (pcs c) → StrsAre lines (rs.map rowS) → OwnOff own' [x, d, 140, 147, f, fd, ln] → TriplesOk m1.toList → TriplesOk m2.toList → (∀ p ∈ own, p ∈ own') → News h₀9 L9 hp9 ((I9, oI9) :: vfL P f fd ln x d items n1 hs tz ((3 * t : Nat) : Int) tz1 m1 m2 lines nl1 own') → (∀ p ∈ (vfL P f fd ln x d items n1 hs tz ((3 * t : Nat) : Int) tz1 m1 m2 lines nl1 own' : List (Addr × Obj)), p.1 ≠ I9) → c9) : c9 := by
  obtain ⟨items, n1, tz1, m1, m2, lines, nl1, own', t, c, rs, rfl, r0, r1, r2, r3, r4, r5, r6⟩ := h
  exact g items n1 tz1 m1 m2 lines nl1 own' t c rs r0 r1 r2 r3 r4 r5 r6 N hn
theorem RR.ew {own : List (Addr × Obj)} {P : VP} {f : Addr} {fd : Addr} {ln : Addr} {x : Addr} {d : Addr} {hs : Int} {tz : Tok} {W : Nat} {taken : Nat} {j : Nat} {nx : List (Addr × Obj)} {h₀9 hp9 : Heap} {L9 : Addr} {c9 : Prop} (h : RR own P f fd ln x d hs tz W taken j nx) (N : News h₀9 L9 hp9 (nx))
    (g : ∀ (items : List Value) (n1 : Nat) (tz1 : Tok) (m1 : Array Value) (m2 : Array Value) (lines : List Value) (nl1 : Nat) (own' : List (Addr × Obj)) (t : Nat) (c : Nat) (rs : List Nat), fst3 W taken j = (t, c, rs) → PartsAre own' items (pcs c) → StrsAre lines (rs.map rowS) → OwnOff own' [x, d, 140, 147, f, fd, ln] → TriplesOk m1.toList → TriplesOk m2.toList → (∀ p ∈ own, p ∈ own') → News h₀9 L9 hp9 (vfL P f fd ln x d items n1 hs tz ((3 * t : Nat) : Int) tz1 m1 m2 lines nl1 own') → c9) : c9 := by
  obtain ⟨items, n1, tz1, m1, m2, lines, nl1, own', t, c, rs, rfl, r0, r1, r2, r3, r4, r5, r6⟩ := h
  exact g items n1 tz1 m1 m2 lines nl1 own' t c rs r0 r1 r2 r3 r4 r5 r6 N
theorem rows_c (w : World) (p : Program) (loose : List Str) (mean : ExcName → Option Value) (mg mb : Str → Option Value) (dp un : Nat) (gd : Option (List Code)) (cn : Str) (cs : Scope) (a : Addr) (ccd : Value) (cl : List (Str × Addr)) (outer : List Env) (A₀ : Around) (base h₀ : Heap) (L : Addr) (m : Str → Option Value) (s : Shared) (Q E : Value → Shared → Prop)
   (B : Below A₀ base outer h₀) (F : Fr h₀ L s.heap m) (X : (KL w.params).In h₀) (T : Top p loose mean mg mb h₀) (hk : cs.kind = .function) (hd1 : dp + 30 < recursionLimit) (hu : un + 8 * 30 < cLine)
   (own : List (Addr × Obj)) (t1 t2 : Array Value) (size taken W : Nat) (room : Int) (sp : Str) (uz ut um us : Tok)
   (N : News h₀ L s.heap ((140, tabObj t1) :: (147, tabObj t2) :: own)) (ho : OwnOff own [140, 147]) (ht1 : TriplesOk t1.toList) (ht2 : TriplesOk t2.toList)
   (htk : taken < W) (hW : W ≤ 10) (hsz : W < size) (hsz2 : size ≤ 11) (hset : (sp = Str.ofString ", " ∧ room = 3 * W) ∨ (sp = Str.ofString ";x" ∧ room = 3 * W + 2))
   (hret : ∀ s' l vals nl m1 m2, Kp s s' → Fr h₀ L s'.heap m → News h₀ L s'.heap ((l, listOf vals.toArray nl) :: (140, tabObj m1) :: (147, tabObj m2) :: own) → StrsAre vals ((finRows W taken size).map rowS) → TriplesOk m1.toList → TriplesOk m2.toList → (∀ p ∈ own, p.1 < l) → @LT.lt Nat _ 147 l → Q (.ref l) s') :
   wpAny (model Challenge.rw_xi0019_01.row.prog w) (ktrTop dp un gd cn cs L a ccd cl outer) (call (.ref 298) [.int size uz, .int taken ut, .int room um, .str sp us]) Q E s := by
  revert X; k_fill; intro X
  refine wpAny_call ?_
  k_dflt (refine' code_def (binds := [(Str.ofString "size", .int size uz), (Str.ofString "taken", .int taken ut), (Str.ofString "room", .int room um), (Str.ofString "signs", .str sp us)]) ?k1 ?k2 ?k3 ?k4 ?k5 ?kA ?kF ?kK ?k6 ?k7 ?k8 ?k9 ?kB ?_ ?c2 ?c3 ?c4 ?c5; (case kA => exact rfl); (case kF => exact rfl); (case kK => first | exact rfl | assumption); (case k1 => k_asm); (case k2 => k_asm); (case k3 => k_asm); (case k4 => k_asm); (case k5 => k_asm); (case k6 => k_is); (case k7 => k_is); (case k8 => ktr_room); (case k9 => exact BindsTo.of_eq rfl); (case c5 => decide); (case kB => exact locs rfl); (case c2 => exact rfl); (case c3 => exact rfl); (case c4 => exact rfl); k_whole; intro g' L' h' FG' F' N' B' X' T'; (try dsimp only); (try k_lift B'); (try k_fold))
  k_steps
  k_here
  k_dflt (refine' vf_new _ _ _ _ _ _ _ _ _ _ _ _ _ _ _ _ _ _ _ _ _ _ _ ?cB ?cF ?cX ?cT ?ck ?cd ?cu _ _ _ _ _ _ _ _ _ _ ?N ho ?_; (case cB => k_asm); (case cF => k_asm); (case cX => k_asm); (case cT => k_asm); (case ck => first | exact rfl | assumption); (case cd => ktr_room); (case cu => ktr_units))
  case N => k_asm
  intro s1 P f fd ln x d n hs tz nl kp1 F1 N1 hor hPm hPs ho1
  k_steps
  have e3 : (3 : Int) * (taken : Int) = ((3 * taken : Nat) : Int) := by lia
  rw [e3] at *
  refine Hold.go (loopR_range (n := size - taken) ["k"] (RR own P f fd ln x d hs tz W taken) rfl (by assumption) ?small ?size (by assumption) (by assumption) ?start ?turn ?done)
  case small => exact small_one (by lia) (by lia) (by lia) (by lia)
  case size => rw [rangeSize_nat]; lia
  case start => exact .mk [] _ _ _ _ [] _ _ taken 0 [] rfl .nil .nil ho1 ht1 ht2 fun _ h => h
  case turn =>
    intro I i ti u nx s4 oI hi hR hnI hoI kp4 F4 N4
    refine gen_Q fun W9 hW9 => ?_
    refine RR.el hR N4 hnI ?_
    clear hR N4 hnI
    intro items n1 tz1 m1 m2 lines nl1 own' t c rs hst hp hl ho2 hm1 hm2 hsub N4 hnI
    k_steps
    have hz9 := fst3_ok hW htk (show i ≤ 11 by lia) hst
    refine and6_el hz9 fun htc htt hjc hc11 hrl hra => ?_
    clear hz9
    have hIx := off_I hnI
    have N5 : News _ _ _ (vfL P f fd ln x d items n1 hs tz ((3 * t : Nat) : Int) tz1 m1 m2 lines nl1 ((I, oI) :: own')) := news_sub N4 (by ((repeat refine sub_cons (by k_mem) ?_); first | exact sub_nil | k_allIn))
    clear N4
    have ho5 := off_cons (o := oI) hIx ho2
    have hp5 : PartsAre ((I, oI) :: own') items (pcs c) := hp.mono fun _ h => .tail _ h
    have hrl2 : (rs.map rowS).length ≤ 190 := by rw [List.length_map]; lia
    have e20 : (2 : Int) ^ 20 = 1048576 := by decide
    have hroom : room ≤ 2 ^ 20 := by rcases hset with ⟨_, h⟩ | ⟨_, h⟩ <;> lia
    have hroom3 : 3 * (W : Int) ≤ room := by rcases hset with ⟨_, h⟩ | ⟨_, h⟩ <;> lia
    have hnI' : ∀ p ∈ own', p.1 ≠ I := fun p hp => hnI p (.tail _ (.tail _ (.tail _ (.tail _ (.tail _ (.tail _ (.tail _ hp)))))))
    have et := pcs_total c
    have et1 := total_app (pcs c) [(Str.ofString " ", Str.ofString "x")]
    have et2 := total_app (pcs c ++ [(Str.ofString " ", Str.ofString "x")]) [(Str.ofString "", Str.ofString ";")]
    have etx := total_x
    have ets := total_s
    have sm1 := pcs_small1 c (by lia)
    have sm2 := pcs_small (c + 1) (by lia)
    by_cases hlt : t + c < W
    · k_here
      k_dflt (refine' chunk_a _ _ _ _ _ _ _ _ _ _ _ _ _ _ _ _ _ _ _ _ _ _ _ ?cB ?cF ?cX ?cT ?ck ?cd ?cu _ _ _ _ _ _ _ _ _ _ _ _ _ _ _ _ _ _ _ ?N hor ho5 hm1 hm2 hp5 ?sm0 ?k0 ?k1 hl hrl2 _ _ _ _ sm1 ?mx ?le ?_; (case cB => k_asm); (case cF => k_asm); (case cX => k_asm); (case cT => k_asm); (case ck => first | exact rfl | assumption); (case cd => ktr_room); (case cu => ktr_units))
      case N => k_asm
      case sm0 => exact pcs_small c (by lia)
      case k0 => lia
      case k1 => lia
      case mx => rw [hPm]; exact hroom
      case le => rw [hPm]; lia
      intro s5 q n2 m3 kp5 F5 N6 hm3 ho6
      have hp6 := parts_snoc hp5 ho6
      have hq6 := parts_snoc hp (drop_I1 ho6)
      k_steps
      k_here
      k_dflt (refine' chunk_a _ _ _ _ _ _ _ _ _ _ _ _ _ _ _ _ _ _ _ _ _ _ _ ?cB ?cF ?cX ?cT ?ck ?cd ?cu _ _ _ _ _ _ _ _ _ _ _ _ _ _ _ _ _ _ _ ?N hor ho6 hm3 hm2 hp6 sm1 ?k0 ?k1 hl hrl2 _ _ _ _ sm2 ?mx ?le ?_; (case cB => k_asm); (case cF => k_asm); (case cX => k_asm); (case cT => k_asm); (case ck => first | exact rfl | assumption); (case cd => ktr_room); (case cu => ktr_units))
      case N => k_asm
      case k0 => lia
      case k1 => lia
      case mx => rw [hPm]; exact hroom
      case le => rw [hPm]; lia
      intro s6 q2 n3 m4 kp6 F6 N7 hm4 ho7
      k_steps
      have ho8 := drop_I2 ho7
      refine hW9 _ _ ?_
      refine TurnR.mk _ _ ⟨kp6.os.trans (kp5.os.trans kp4.os), fun g => kp6.bare (kp5.bare (kp4.bare g))⟩ (by assumption) (turn_end N7) (nI_of hIx (List.forall_mem_cons.mpr ⟨tup_ne_I N7 hoI (.head _), List.forall_mem_cons.mpr ⟨tup_ne_I N7 hoI (.tail _ (.head _)), hnI'⟩⟩)) (.mk _ _ _ _ _ _ _ _ t _ _ (fst3_go hst hlt) (parts_snoc hq6 ho8) hl ho8 hm4 hm2 fun p h => .tail _ (.tail _ (hsub p h))) fun y hy => ?_
      have y1 : y ≠ Str.ofString "k" := by rintro rfl; exact absurd hy (by decide)
      show (if y = Str.ofString "k" then _ else mixM _ _ _ y) = _
      rw [if_neg y1, mixM, if_neg (by rw [hy]; exact Bool.false_ne_true)]
    · have hc1 : 1 ≤ c := by lia
      rcases hset with ⟨hs1, hr1⟩ | ⟨hs1, hr1⟩
      · k_here
        k_dflt (refine' chunk_b _ _ _ _ _ _ _ _ _ _ _ _ _ _ _ _ _ _ _ _ _ _ _ ?cB ?cF ?cX ?cT ?ck ?cd ?cu _ _ _ _ _ _ _ _ _ _ _ _ _ _ _ _ _ _ _ ?N hor ho5 hm1 hm2 hp5 ?sm0 ?k0 ?k1 hl hrl2 _ _ sm1 ?mx ?ov ?sp ?ne ?ps ?_; (case cB => k_asm); (case cF => k_asm); (case cX => k_asm); (case cT => k_asm); (case ck => first | exact rfl | assumption); (case cd => ktr_room); (case cu => ktr_units))
        case N => k_asm
        case sm0 => exact pcs_small c (by lia)
        case k0 => lia
        case k1 => lia
        case mx => rw [hPm]; exact hroom
        case ov => rw [hPm]; lia
        case sp => rw [hPs]; exact hs1
        case ne => rw [pcs_len]; lia
        case ps => exact fun p hp => (pcs_mem c p hp).elim (fun e => .inl (by rw [e])) (fun e => .inr (by rw [e]))
        intro s5 q n2 u5 m3 m4 tz5 nl5 kp5 F5 N6 hm3 hm4 ho6
        have hp6 := parts_snoc .nil ho6
        have hq6 := parts_snoc .nil (drop_I1 ho6)
        have hl5 := strs_snoc hl (flat (pcs c)) u5
        k_steps
        k_here
        k_dflt (refine' chunk_a _ _ _ _ _ _ _ _ _ _ _ _ _ _ _ _ _ _ _ _ _ _ _ ?cB ?cF ?cX ?cT ?ck ?cd ?cu _ _ _ _ _ _ _ _ _ _ _ _ _ _ _ _ _ _ _ ?N hor ho6 hm3 hm4 hp6 ?sm0 ?k0 ?k1 hl5 ?hr2 _ _ _ _ ?sm3 ?mx ?le ?_; (case cB => k_asm); (case cF => k_asm); (case cX => k_asm); (case cT => k_asm); (case ck => first | exact rfl | assumption); (case cd => ktr_room); (case cu => ktr_units))
        case N => k_asm
        case sm0 => exact pcs_small1 0 (by lia)
        case sm3 => exact pcs_small 1 (by lia)
        case k0 => lia
        case k1 => lia
        case hr2 => rw [List.length_append, List.length_map]; simp only [List.length_cons, List.length_nil]; lia
        case mx => rw [hPm]; exact hroom
        case le => rw [hPm, show total ([] ++ [(Str.ofString " ", Str.ofString "x")] ++ [(Str.ofString "", Str.ofString ";")]) = 3 by decide]; lia
        intro s6 q2 n3 m5 kp6 F6 N7 hm5 ho7
        k_steps
        have ho8 := drop_I2 ho7
        refine hW9 _ _ ?_
        refine TurnR.mk _ _ ⟨kp6.os.trans (kp5.os.trans kp4.os), fun g => kp6.bare (kp5.bare (kp4.bare g))⟩ (by assumption) (turn_end N7) (nI_of hIx (List.forall_mem_cons.mpr ⟨tup_ne_I N7 hoI (.head _), List.forall_mem_cons.mpr ⟨tup_ne_I N7 hoI (.tail _ (.head _)), hnI'⟩⟩)) (.mk _ _ _ _ _ _ _ _ 0 _ _ (fst3_fold hst hlt) (parts_snoc hq6 ho8) (by rw [List.map_append]; exact hl5) ho8 hm5 hm4 fun p h => .tail _ (.tail _ (hsub p h))) fun y hy => ?_
        have y1 : y ≠ Str.ofString "k" := by rintro rfl; exact absurd hy (by decide)
        show (if y = Str.ofString "k" then _ else mixM _ _ _ y) = _
        rw [if_neg y1, mixM, if_neg (by rw [hy]; exact Bool.false_ne_true)]

      · k_here
        k_dflt (refine' chunk_a _ _ _ _ _ _ _ _ _ _ _ _ _ _ _ _ _ _ _ _ _ _ _ ?cB ?cF ?cX ?cT ?ck ?cd ?cu _ _ _ _ _ _ _ _ _ _ _ _ _ _ _ _ _ _ _ ?N hor ho5 hm1 hm2 hp5 ?sm0 ?k0 ?k1 hl hrl2 _ _ _ _ sm1 ?mx ?le ?_; (case cB => k_asm); (case cF => k_asm); (case cX => k_asm); (case cT => k_asm); (case ck => first | exact rfl | assumption); (case cd => ktr_room); (case cu => ktr_units))
        case N => k_asm
        case sm0 => exact pcs_small c (by lia)
        case k0 => lia
        case k1 => lia
        case mx => rw [hPm]; exact hroom
        case le => rw [hPm]; lia
        intro s5 q n2 m3 kp5 F5 N6 hm3 ho6
        have hp6 := parts_snoc .nil ho6
        have hq6 := parts_snoc .nil (drop_I1 ho6)
        k_steps
        k_here
        k_dflt (refine' chunk_c _ _ _ _ _ _ _ _ _ _ _ _ _ _ _ _ _ _ _ _ _ _ _ ?cB ?cF ?cX ?cT ?ck ?cd ?cu _ _ _ _ _ _ _ _ _ _ _ _ _ _ _ _ _ _ _ _ _ _ _ ?N hor ho6 hm3 hm2 ?hpq (.head _) (pcs_last c hc1) ?sm0 ?k0 ?k1 hl hrl2 _ _ sm2 ?mx ?ov ?sp ?_; (case cB => k_asm); (case cF => k_asm); (case cX => k_asm); (case cT => k_asm); (case ck => first | exact rfl | assumption); (case cd => ktr_room); (case cu => ktr_units))
        case N => k_asm
        case hpq => exact hp5.mono fun _ h => .tail _ h
        case sm0 => exact pcs_small c (by lia)
        case k0 => lia
        case k1 => lia
        case mx => rw [hPm]; exact hroom
        case ov => rw [hPm]; lia
        case sp => rw [hPs]; exact hs1
        intro s6 q2 n3 u6 m4 m5 tz6 nl6 kp6 F6 N7 hm4 hm5 ho7
        have hl6 := strs_snoc hl (flat (pcs c)) u6
        k_steps
        have ho8 := drop_I2 ho7
        refine hW9 _ _ ?_
        refine TurnR.mk _ _ ⟨kp6.os.trans (kp5.os.trans kp4.os), fun g => kp6.bare (kp5.bare (kp4.bare g))⟩ (by assumption) (turn_end N7) (nI_of hIx (List.forall_mem_cons.mpr ⟨tup_ne_I N7 hoI (.head _), List.forall_mem_cons.mpr ⟨tup_ne_I N7 hoI (.tail _ (.head _)), hnI'⟩⟩)) (.mk _ _ _ _ _ _ _ _ 0 _ _ (fst3_fold hst hlt) (parts_snoc hq6 ho8) (by rw [List.map_append]; exact hl6) ho8 hm4 hm5 fun p h => .tail _ (.tail _ (hsub p h))) fun y hy => ?_
        have y1 : y ≠ Str.ofString "k" := by rintro rfl; exact absurd hy (by decide)
        show (if y = Str.ofString "k" then _ else mixM _ _ _ y) = _
        rw [if_neg y1, mixM, if_neg (by rw [hy]; exact Bool.false_ne_true)]

  case done =>
    intro u nx s4 kp4 hR F4 N4
    refine RR.ew hR N4 ?_
    clear hR N4
    intro items n1 tz1 m1 m2 lines nl1 own' t c rs hst hp hl ho2 hm1 hm2 hsub N4
    k_steps
    have hz9 := fst3_ok hW htk (show size - taken ≤ 11 by lia) hst
    refine and6_el hz9 fun htc htt hjc hc11 hrl hra => ?_
    clear hz9
    obtain ⟨c', rfl⟩ : ∃ c', c = c' + 1 := ⟨c - 1, by lia⟩
    refine ex4_el hp.snoc fun its q ta tb hz9 => ?_
    refine and3_el hz9 fun hits hpq hq => ?_
    clear hz9
    subst hits
    have hrl2 : (rs.map rowS).length ≤ 190 := by rw [List.length_map]; lia
    have e20 : (2 : Int) ^ 20 = 1048576 := by decide
    have htot := pcs_total (c' + 1)
    have hsp9 := (rowS_space (c' + 1) (by lia)).resolve_left (by lia)
    have hw := rows_w (rs := rs ++ [c' + 1]) (by simp only [List.length_append, List.length_cons, List.length_nil]; lia) (fun r hr => (List.mem_append.mp hr).elim (hra r) fun e => by rw [List.mem_singleton.mp e]; lia)
    rw [List.map_append] at hw
    k_here
    k_dflt (refine' vf_str_b _ _ _ _ _ _ _ _ _ _ _ _ _ _ _ _ _ _ _ _ _ _ _ ?cB ?cF ?cX ?cT ?ck ?cd ?cu _ _ _ _ _ _ _ _ _ _ _ _ _ _ _ _ _ _ _ _ _ _ _ _ _ _ ?N hor ho2 hm1 hm2 hpq hq (pcs_small (c' + 1) (by lia)) ?k0 ?k1 hl (Nat.le_trans hrl2 (by decide)) (by decide +kernel) (by decide +kernel) ?ab ?pos (.inr ⟨?tt, hsp9⟩) (by decide) hw ?_; (case cB => k_asm); (case cF => k_asm); (case cX => k_asm); (case cT => k_asm); (case ck => first | exact rfl | assumption); (case cd => ktr_room); (case cu => ktr_units))
    case N => k_asm
    case k0 => lia
    case k1 => lia
    case ab => exact fun h => absurd h.1 (by decide)
    case pos => show (0 : Int) < _ + ((total (pcs (c' + 1)) : Nat) : Int); lia
    case tt => show total (pcs (c' + 1)) ≠ 0; lia
    intro s5 u5 own2 n2 tz2 nl2 lines2 m3 m4 kp5 F5 N5 hl5 hm3 hm4 ho5 hs5
    k_steps
    k_here
    k_dflt (refine' vf_str_a _ _ _ _ _ _ _ _ _ _ _ _ _ _ _ _ _ _ _ _ _ _ _ ?cB ?cF ?cX ?cT ?ck ?cd ?cu _ _ _ _ _ _ _ _ _ _ _ _ _ _ _ _ _ _ ?N hor ho5 hm3 hm4 hl5 ?lr (by decide) hw ?_; (case cB => k_asm); (case cF => k_asm); (case cX => k_asm); (case cT => k_asm); (case ck => first | exact rfl | assumption); (case cd => ktr_room); (case cu => ktr_units))
    case N => k_asm
    case lr => rw [List.length_append, List.length_map]; simp only [List.length_cons, List.length_nil]; lia
    intro s6 u6 own3 n3 tz3 nl3 lines3 m5 m6 kp6 F6 N6 hl6 hm5 hm6 ho6 hs6
    k_steps
    · with_reducible rename ((_ != _) = true) => hne
      exact absurd hne (by simp)
    k_here
    have hjl := StrLaws.join_length_le (Str.ofString ".") (rs.map rowS ++ [rowS (c' + 1)])
    refine KSpl.split1 (by assumption) (by assumption) (by decide) (fun D l9 h9 k9 hl9 hs9 F9 N9 lt9 => ?_) ?sz
    case sz =>
      have e1 : (Str.ofString ".").length = 1 := by decide
      rw [e1] at hjl
      have e2 : 1048600 ≤ sizeLine := by decide
      have e3 : ((rs.map rowS ++ [rowS (c' + 1)]).map (·.length)).sum + (rs.map rowS ++ [rowS (c' + 1)]).length ≤ 1048576 := hw
      show (Str.join (Str.ofString ".") (rs.map rowS ++ [rowS (c' + 1)])).length + 2 ≤ sizeLine
      lia
    k_steps
    have hrows : l9.map (·.1) = (finRows W taken size).map rowS := by
      rw [hl9, finRows, hst]
      show Txt.split (Str.join (Str.ofString ".") (rs.map rowS ++ [rowS (c' + 1)])) (Str.ofString ".") = (rs ++ [c' + 1]).map rowS
      rw [rows_split hra (by lia) hc11, List.map_append]; rfl
    rw [hrows] at hs9
    have hsub9 : ∀ p ∈ own, p ∈ own3 := fun p hp => hs6 p (hs5 p (hsub p hp))
    have N10 := news_sub (l' := (D, listOf (strValues l9).toArray 0) :: (140, tabObj m5) :: (147, tabObj m6) :: own) (by assumption) (by
      (repeat refine sub_cons (by k_mem) ?_)
      exact fun p hp => .tail _ (.tail _ (.tail _ (.tail _ (.tail _ (.tail _ (.tail _ (.tail _ (hsub9 p hp)))))))))
    exact hret _ D _ 0 m5 m6 ⟨kp6.os.trans (kp5.os.trans (kp4.os.trans kp1.os)), fun g => kp6.bare (kp5.bare (kp4.bare (kp1.bare g)))⟩ (by assumption) N10 hs9 hm5 hm6 (fun p hp => lt9 p (.tail _ (.tail _ (.tail _ (.tail _ (.tail _ (.tail _ (.tail _ (hsub9 p hp))))))))) (lt9 (147, tabObj m6) (.tail _ (.tail _ (.tail _ (.head _)))))


end

section
open PySem PySem.W PyProof.Rows PySem.Calls
set_option Elab.async false
set_option maxRecDepth 100000
set_option maxHeartbeats 4000000
theorem reads_strs {h : Heap} {vs : List Value} {xs : List Str} (k : StrsAre vs xs) : ReadsAll h vs (xs.map .str) [] := by
  induction k with
  | nil => exact .nil
  | cons y t _ ih => exact .cons (as := []) (bs := []) (.str y t) ih
theorem reads_ints {h : Heap} {vs : List Value} {xs : List Int} (k : IntsAre vs xs) : ReadsAll h vs (xs.map .int) [] := by
  induction k with
  | nil => exact .nil
  | cons y t _ ih => exact .cons (as := []) (bs := []) (.int y t) ih
theorem reads_listS {h : Heap} {l : Addr} {vs : List Value} {n : Nat} {xs : List Str} (hl : h.get? l = some (listOf vs.toArray n)) (k : StrsAre vs xs) : Reads h (.ref l) (.list (xs.map .str)) [l] :=
  .list (as := []) hl rfl rfl (reads_strs k)
theorem reads_listI {h : Heap} {l : Addr} {vs : List Value} {n : Nat} {xs : List Int} (hl : h.get? l = some (listOf vs.toArray n)) (k : IntsAre vs xs) : Reads h (.ref l) (.list (xs.map .int)) [l] :=
  .list (as := []) hl rfl rfl (reads_ints k)
theorem eqvAll_strs (xs : List Str) : PyData.eqvAll (xs.map .str) (xs.map .str) = true := by
  induction xs with
  | nil => rfl
  | cons a r ih => simp only [List.map_cons, PyData.eqvAll, PyData.eqv, beq_self_eq_true, Bool.true_and]; exact ih
theorem eqvAll_ints (xs : List Int) : PyData.eqvAll (xs.map .int) (xs.map .int) = true := by
  induction xs with
  | nil => rfl
  | cons a r ih => simp only [List.map_cons, PyData.eqvAll, PyData.eqv, beq_self_eq_true, Bool.true_and]; exact ih
noncomputable def ptD (p : Int × Int) : PyData := .tuple [.int p.1, .int p.2]
theorem eqvAll_pts (xs : List (Int × Int)) : PyData.eqvAll (xs.map ptD) (xs.map ptD) = true := by
  induction xs with
  | nil => rfl
  | cons a r ih => simp only [List.map_cons, PyData.eqvAll, ptD, PyData.eqv, beq_self_eq_true, Bool.true_and, Bool.and_true]; exact ih
theorem lay_strs {xs : List Str} (h : ∀ x ∈ xs, PyData.strOk x = true) : PyData.canLayAll0 (xs.map .str) = true ∧ PyData.depthAll (xs.map .str) = 0 := by
  induction xs with
  | nil => exact ⟨rfl, rfl⟩
  | cons a r ih =>
    obtain ⟨h1, h2⟩ := ih fun x hx => h x (.tail _ hx)
    exact ⟨by simp only [List.map_cons, PyData.canLayAll0, PyData.canLay0, h a (.head _), h1]; rfl, by simp only [List.map_cons, PyData.depthAll, PyData.depth, h2]; rfl⟩
theorem lay_ints (xs : List Int) : PyData.canLayAll0 (xs.map .int) = true ∧ PyData.depthAll (xs.map .int) = 0 := by
  induction xs with
  | nil => exact ⟨rfl, rfl⟩
  | cons a r ih => exact ⟨by simp only [List.map_cons, PyData.canLayAll0, PyData.canLay0, ih.1]; rfl, by simp only [List.map_cons, PyData.depthAll, PyData.depth, ih.2]; rfl⟩
theorem lay_pts (xs : List (Int × Int)) : PyData.canLayAll0 (xs.map ptD) = true ∧ PyData.depthAll (xs.map ptD) ≤ 1 := by
  induction xs with
  | nil => exact ⟨rfl, Nat.zero_le _⟩
  | cons a r ih => exact ⟨by simp only [List.map_cons, PyData.canLayAll0, ptD, PyData.canLay0, ih.1]; rfl, by simp only [List.map_cons, PyData.depthAll, ptD, PyData.depth]; have := ih.2; lia⟩
theorem shaped_strs {xs : List Str} (h : ∀ x ∈ xs, PyData.strOk x = true) : SeqAt.shaped (.list (xs.map .str)) = true := by
  unfold SeqAt.shaped; simp only [PyData.canLay0, PyData.depth, (lay_strs h).1, (lay_strs h).2]; rfl
theorem shaped_ints (xs : List Int) : SeqAt.shaped (.list (xs.map .int)) = true := by
  unfold SeqAt.shaped; simp only [PyData.canLay0, PyData.depth, (lay_ints xs).1, (lay_ints xs).2]; rfl
theorem shaped_pts (xs : List (Int × Int)) : SeqAt.shaped (.list (xs.map ptD)) = true := by
  unfold SeqAt.shaped; simp only [PyData.canLay0, PyData.depth, (lay_pts xs).1, Bool.true_and]; exact decide_eq_true (by have := (lay_pts xs).2; lia)
theorem rowS_ok : ∀ c, c < 12 → PyData.strOk (rowS c) = true := by decide +kernel
section
variable {prog : Program} {w : World} {A : Around} {E : Value → Shared → Prop} {s : Shared} {Q : Value → Shared → Prop}
theorem ne_strs {l1 l2 : Addr} {v1 v2 : List Value} {n1 n2 : Nat} {xs : List Str} (h1 : s.heap.get? l1 = some (listOf v1.toArray n1)) (k1 : StrsAre v1 xs) (h2 : s.heap.get? l2 = some (listOf v2.toArray n2)) (k2 : StrsAre v2 xs) (hx : ∀ x ∈ xs, PyData.strOk x = true) (hu : A.units + 64 < cLine)
    (h : Q (.bool false) s) : wpAny (model prog w) A (compareOp .NotEq (.ref l1) (.ref l2)) Q E s :=
  ne_dataH (reads_listS h1 k1) (reads_listS h2 k2) (shaped_strs hx) (shaped_strs hx) hu (by rw [PyData.eqv, eqvAll_strs]; exact h)
theorem ne_ints {l1 l2 : Addr} {v1 v2 : List Value} {n1 n2 : Nat} {xs : List Int} (h1 : s.heap.get? l1 = some (listOf v1.toArray n1)) (k1 : IntsAre v1 xs) (h2 : s.heap.get? l2 = some (listOf v2.toArray n2)) (k2 : IntsAre v2 xs) (hu : A.units + 64 < cLine)
    (h : Q (.bool false) s) : wpAny (model prog w) A (compareOp .NotEq (.ref l1) (.ref l2)) Q E s :=
  ne_dataH (reads_listI h1 k1) (reads_listI h2 k2) (shaped_ints xs) (shaped_ints xs) hu (by rw [PyData.eqv, eqvAll_ints]; exact h)
end

end

section
open PySem PySem.W PyProof.Rows PySem.Calls
set_option Elab.async false
set_option maxRecDepth 100000
set_option maxHeartbeats 4000000
theorem mul_row : ∀ c : Nat, c < 12 → Txt.mul (Str.ofString " x;") (c : Int) = rowS c := by decide +kernel
theorem flat_one (v : Value) (n : Nat) : List.foldl (fun x1 x2 => x1 ++ x2) #[] (List.replicate n #[v]) = (List.replicate n v).toArray := by
  have key : ∀ n (a : List Value), List.foldl (fun x1 x2 => x1 ++ x2) a.toArray (List.replicate n #[v]) = (a ++ List.replicate n v).toArray := by
    intro n
    induction n with
    | zero => intro a; simp
    | succ n ih =>
      intro a
      rw [List.replicate_succ, List.foldl_cons]
      have e : a.toArray ++ #[v] = (a ++ [v]).toArray := by simp
      rw [e, ih, List.append_assoc, List.replicate_succ]; rfl
  simpa using key n []
theorem strs_rep (y : Str) (t : Tok) (n : Nat) : StrsAre (List.replicate n (.str y t)) (List.replicate n y) := by
  induction n with
  | zero => exact .nil
  | succ n ih => exact .cons y t ih
theorem strs_app {a b : List Value} {x y : List Str} (h : StrsAre a x) (k : StrsAre b y) : StrsAre (a ++ b) (x ++ y) := by
  induction h with
  | nil => exact k
  | cons z t _ ih => exact .cons z t ih
section
variable {prog : Program} {w : World} {A : Around} {E : Value → Shared → Prop} {s : Shared} {Q : Value → Shared → Prop} {h₀ : Heap} {L : Addr} {m : Str → Option Value} {news : List (Addr × Obj)}
theorem mulRow {i : Int} {c : Nat} {t u : Tok} (hi : i = (c : Int)) (hc : c ≤ 11) (h : ∀ t' k, Q (.str (rowS c) t') { s with toks := k }) : wpAny (model prog w) A (binaryOp .Mult (.str (Str.ofString " x;") t) (.int i u)) Q E s := by
  subst hi
  refine SB.mul (mulOk_of 16 1048576 (by decide) (by lia) (by lia) (by decide) (by decide)) ?_
  rw [mul_row c (by lia)]
  exact h
theorem mulList1 {l : Addr} {v : Value} {x : Int} {n nl : Nat} {u : Tok} (F : Fr h₀ L s.heap m) (N : News h₀ L s.heap news) (hl : (l, listOf ([v] : List Value).toArray nl) ∈ news) (hx : x = (n : Int)) (hn : n ≤ 1000)
    (h : ∀ D h', Fr h₀ L h' m → News h₀ L h' ((D, listOf (List.replicate n v).toArray 0) :: news) → (∀ p ∈ news, p.1 < D) → Q (.ref D) { s with heap := h' }) :
    wpAny (model prog w) A (binaryOp .Mult (.ref l) (.int x u)) Q E s := by
  subst hx
  refine mul_list (items := #[v]) F N (N _ hl).1 (by lia) (by lia) (by simp; lia) fun h' F' N' => ?_
  refine h _ h' F' ?_ fun p hp => Heap.lt_size (N p hp).1
  have e : (if (#[v] : Array Value).isEmpty = true then 0 else ((n : Nat) : Int).toNat) = n := by simp
  rw [e, flat_one] at N'
  exact N'
theorem addList {l1 l2 : Addr} {a b : List Value} {n1 n2 : Nat} (F : Fr h₀ L s.heap m) (N : News h₀ L s.heap news) (h1 : (l1, listOf a.toArray n1) ∈ news) (h2 : (l2, listOf b.toArray n2) ∈ news) (hz : a.length + b.length ≤ 1000)
    (h : ∀ D h', Fr h₀ L h' m → News h₀ L h' ((D, listOf (a ++ b).toArray 0) :: news) → (∀ p ∈ news, p.1 < D) → Q (.ref D) { s with heap := h' }) :
    wpAny (model prog w) A (binaryOp .Add (.ref l1) (.ref l2)) Q E s :=
  add_arrays F N ⟨_, (N _ h1).1, rfl, n1, rfl⟩ ⟨_, (N _ h2).1, rfl, n2, rfl⟩ (fun h' F' N' => h _ h' F' N' fun p hp => Heap.lt_size (N p hp).1) (by
    have : 1000 ≤ sizeLine := by decide
    rw [List.size_toArray, List.size_toArray]; lia)
end

end

local macro_rules | `(tactic| walk_at "binaryOp Mult str int") => `(tactic| (k_here; (with_reducible show wpAny _ _ (binaryOp Operator.Mult (Value.str _ _) (Value.int _ _)) _ _ _); refine hold_ ?_))
local macro_rules | `(tactic| walk_at "binaryOp Add ref ref") => `(tactic| (k_here; (with_reducible show wpAny _ _ (binaryOp Operator.Add (Value.ref _) (Value.ref _)) _ _ _); refine hold_ ?_))

section
open PySem PySem.W PyProof.Rows PySem.Calls
set_option Elab.async false
set_option maxRecDepth 100000
set_option maxHeartbeats 8000000
set_option pp.deepTerms false
set_option pp.maxSteps 3000
local macro_rules | `(tactic| walk_at "binaryOp Mult ref int") => `(tactic| (k_here; (with_reducible show wpAny _ _ (binaryOp Operator.Mult (Value.ref _) (Value.int _ _)) _ _ _); refine hold_ ?_))
local macro_rules | `(tactic| walk_at "compareOp NotEq ref ref") => `(tactic| (k_here; (with_reducible show wpAny _ _ (compareOp CmpOp.NotEq (Value.ref _) (Value.ref _)) _ _ _); refine hold_ ?_))
local macro_rules | `(tactic| walk_at "call builtin:list.append") => `(tactic| (k_here; (with_reducible show wpAny _ _ (call (Value.builtin "list.append") [Value.ref _, _]) _ _ _); refine hold_ ?_))


section
variable {prog : Program} {w : World} {A : Around} {E : Value → Shared → Prop} {s : Shared} {Q : Value → Shared → Prop} {h₀ : Heap} {L : Addr} {m : Str → Option Value} {news : List (Addr × Obj)}
theorem negItem1 {value : Expr} {e : Expr} {pz : Pos} {lp : Addr} {pp : List Value} {r1 r2 : Value} {np : Nat} {u : Tok} (N : News h₀ L s.heap news) (hm : (lp, listOf (pp ++ [r2, r1]).toArray np) ∈ news) (h : Q r1 s) :
    wpAny (model prog w) A (subscriptTail value (.UnaryOp .USub e pz) (.ref lp) (.int (-1) u)) Q E s :=
  kde_neg (j := pp.length + 1) (v := r1) ⟨_, (N _ hm).1, rfl, np, rfl⟩ (by decide) (by decide) (by rw [List.length_append]; simp [seqIndex?]; lia) (by rw [List.getElem?_append_right (by lia)]; simp) h
theorem negItem2 {value : Expr} {e : Expr} {pz : Pos} {lp : Addr} {pp : List Value} {r1 r2 : Value} {np : Nat} {u : Tok} (N : News h₀ L s.heap news) (hm : (lp, listOf (pp ++ [r2, r1]).toArray np) ∈ news) (h : Q r2 s) :
    wpAny (model prog w) A (subscriptTail value (.UnaryOp .USub e pz) (.ref lp) (.int (-2) u)) Q E s :=
  kde_neg (j := pp.length) (v := r2) ⟨_, (N _ hm).1, rfl, np, rfl⟩ (by decide) (by decide) (by rw [List.length_append]; simp [seqIndex?]; lia) (by rw [List.getElem?_append_right (by lia)]; simp) h
theorem tupI0 {value : Expr} {pz : Pos} {r : Addr} {a b : Int} {ta tb u : Tok} {ck : Nat} (N : News h₀ L s.heap news) (hm : (r, ({ cls := .type "tuple", data := .seq #[.int a ta, .int b tb] } : Obj)) ∈ news) (h : Q (.int a ta) s) :
    wpAny (model prog w) A (subscriptTail value (.Constant (.int 0) ck pz) (.ref r) (.int 0 u)) Q E s := item_tupleT (News.isTup N hm) (by decide) (by decide) rfl rfl h
theorem tupI1 {value : Expr} {pz : Pos} {r : Addr} {a b : Int} {ta tb u : Tok} {ck : Nat} (N : News h₀ L s.heap news) (hm : (r, ({ cls := .type "tuple", data := .seq #[.int a ta, .int b tb] } : Obj)) ∈ news) (h : Q (.int b tb) s) :
    wpAny (model prog w) A (subscriptTail value (.Constant (.int 1) ck pz) (.ref r) (.int 1 u)) Q E s := item_tupleT (News.isTup N hm) (by decide) (by decide) rfl rfl h
theorem appendL {D : Addr} {its : List Value} {n : Nat} {x : Value} {rest : List (Addr × Obj)} (F : Fr h₀ L s.heap m) (N : News h₀ L s.heap ((D, listOf its.toArray n) :: rest)) (ho : ∀ p ∈ rest, p.1 ≠ D) (hz : its.length ≤ 1000)
    (h : ∀ h', Fr h₀ L h' m → News h₀ L h' ((D, listOf (its ++ [x]).toArray (n + 1)) :: rest) → Q .none { s with heap := h' }) : wpAny (model prog w) A (call (.builtin "list.append") [.ref D, x]) Q E s :=
  append_K F N (.head ho) (fun h' F' N' => h h' F' (by rw [List.push_toArray] at N'; exact N')) (by
    have : 1000 ≤ sizeLine := by decide
    rw [List.size_toArray]; lia)
end
theorem ints_snoc {vs : List Value} {xs : List Int} (h : IntsAre vs xs) (a : Int) (t : Tok) : IntsAre (vs ++ [.int a t]) (xs ++ [a]) := by
  induction h with
  | nil => exact .cons a t .nil
  | cons z u _ ih => exact .cons z u ih
theorem ints_len {vs : List Value} {xs : List Int} (h : IntsAre vs xs) : vs.length = xs.length := by
  induction h with
  | nil => rfl
  | cons _ _ _ ih => rw [List.length_cons, List.length_cons, ih]
local macro_rules | `(tactic| walk_at "subscriptTail") => `(tactic| (k_here; (with_reducible show wpAny _ _ (subscriptTail _ _ (Value.ref _) (Value.int _ _)) _ _ _); refine hold_ ?_))
local macro_rules | `(tactic| walk_at "subscriptTail Name UnaryOp ref int") => `(tactic| (k_here; (with_reducible show wpAny _ _ (subscriptTail _ _ (Value.ref _) (Value.int _ _)) _ _ _); refine hold_ ?_))
local macro_rules | `(tactic| walk_at "subscriptTail Name Constant ref int") => `(tactic| (k_here; (with_reducible show wpAny _ _ (subscriptTail _ _ (Value.ref _) (Value.int _ _)) _ _ _); refine hold_ ?_))
local macro_rules | `(tactic| walk_at "subscriptTail Subscript Constant ref int") => `(tactic| (k_here; (with_reducible show wpAny _ _ (subscriptTail _ _ (Value.ref _) (Value.int _ _)) _ _ _); refine hold_ ?_))
local macro_rules | `(tactic| walk_at "subscriptTail Name") => `(tactic| (k_here; (with_reducible show wpAny _ _ (subscriptTail _ _ (Value.ref _) (Value.int _ _)) _ _ _); refine hold_ ?_))
local macro_rules | `(tactic| walk_at "subscriptTail Subscript") => `(tactic| (k_here; (with_reducible show wpAny _ _ (subscriptTail _ _ (Value.ref _) (Value.int _ _)) _ _ _); refine hold_ ?_))

/-- the ledger bears the points -/
inductive PtsAre (own : List (Addr × Obj)) : List Value → List (Int × Int) → Prop
  | nil : PtsAre own [] []
  | cons {q : Addr} {a b : Int} {ta tb : Tok} {vs : List Value} {ps : List (Int × Int)} : (q, { cls := .type "tuple", data := .seq #[.int a ta, .int b tb] }) ∈ own → PtsAre own vs ps → PtsAre own (.ref q :: vs) ((a, b) :: ps)
namespace PtsAre
theorem mono {own own' : List (Addr × Obj)} {vs : List Value} {ps : List (Int × Int)} (x : PtsAre own vs ps) (h : ∀ p ∈ own, p ∈ own') : PtsAre own' vs ps := by
  induction x with
  | nil => exact .nil
  | cons hm _ ih => exact .cons (h _ hm) ih
theorem append {own : List (Addr × Obj)} {vs us : List Value} {ps qs : List (Int × Int)} (x : PtsAre own vs ps) (y : PtsAre own us qs) : PtsAre own (vs ++ us) (ps ++ qs) := by
  induction x with
  | nil => exact y
  | cons hm _ ih => exact .cons hm ih
inductive Snoc2 (own : List (Addr × Obj)) (vs : List Value) (n : Nat) (p2 p1 : Int × Int) : Prop
  | mk (us : List Value) (q2 q1 : Addr) (ta tb ta1 tb1 : Tok) (e : vs = us ++ [.ref q2, .ref q1]) (l : us.length = n) (h2 : (q2, ({ cls := .type "tuple", data := .seq #[.int p2.1 ta, .int p2.2 tb] } : Obj)) ∈ own) (h1 : (q1, ({ cls := .type "tuple", data := .seq #[.int p1.1 ta1, .int p1.2 tb1] } : Obj)) ∈ own) : Snoc2 own vs n p2 p1
theorem Snoc2.el {own : List (Addr × Obj)} {vs : List Value} {n : Nat} {p2 p1 : Int × Int} {c : Prop} (x : Snoc2 own vs n p2 p1) (f : ∀ (us : List Value) (q2 q1 : Addr) (ta tb ta1 tb1 : Tok), vs = us ++ [.ref q2, .ref q1] → us.length = n → (q2, ({ cls := .type "tuple", data := .seq #[.int p2.1 ta, .int p2.2 tb] } : Obj)) ∈ own → (q1, ({ cls := .type "tuple", data := .seq #[.int p1.1 ta1, .int p1.2 tb1] } : Obj)) ∈ own → c) : c := by
  cases x with
  | mk us q2 q1 ta tb ta1 tb1 e l h2 h1 => exact f us q2 q1 ta tb ta1 tb1 e l h2 h1
theorem snoc2 {own : List (Addr × Obj)} {vs : List Value} {ps : List (Int × Int)} {p2 p1 : Int × Int} (x : PtsAre own vs (ps ++ [p2, p1])) : Snoc2 own vs ps.length p2 p1 := by
  induction ps generalizing vs with
  | nil =>
    cases x with
    | cons hm y =>
      cases y with
      | cons hm2 z => cases z; exact .mk [] _ _ _ _ _ _ rfl rfl hm hm2
  | cons p ps ih =>
    cases x with
    | cons hm y =>
      refine (ih y).el fun us q2 q1 ta tb ta1 tb1 e hl h2 h3 => ?_
      exact .mk (_ :: us) q2 q1 ta tb ta1 tb1 (by rw [e]; rfl) (by rw [List.length_cons, List.length_cons, hl]) h2 h3
end PtsAre
theorem pts_next {own : List (Addr × Obj)} {D : Addr} {a b : Int} {ta tb : Tok} {vs : List Value} {pre : List (Int × Int)} {p2 p1 : Int × Int} (h : PtsAre own vs (pre ++ [p2, p1])) :
    PtsAre ((D, { cls := .type "tuple", data := .seq #[.int a ta, .int b tb] }) :: own) (vs ++ [.ref D]) (pre ++ [p2] ++ [p1, (a, b)]) := by
  have z := (h.mono (own' := (D, { cls := .type "tuple", data := .seq #[.int a ta, .int b tb] }) :: own) fun _ h => .tail _ h).append (.cons (.head _) .nil)
  have e : pre ++ [p2] ++ [p1, (a, b)] = pre ++ [p2, p1] ++ [(a, b)] := by simp
  rw [e]; exact z
/-- the folding's chain -/
noncomputable def foldP : Nat → Nat → Nat → List (Int × Int) → Int × Int → Int × Int → List Int → List (Int × Int) × List Int
  | 0, _, _, pre, p2, p1, cs => (pre ++ [p2, p1], cs)
  | f + 1, a, b, pre, p2, p1, cs => if b = 0 then (pre ++ [p2, p1], cs) else
      foldP f b ((a + b - 1) / b * b - a) (pre ++ [p2]) p1 (((a + b - 1) / b : Nat) * p1.1 - p2.1, ((a + b - 1) / b : Nat) * p1.2 - p2.2) (cs ++ [(((a + b - 1) / b : Nat) : Int)])
noncomputable def foldR (n q : Nat) : List (Int × Int) × List Int := foldP 11 n (n - q) [] (0, 1) (1, 1) []
theorem foldP_end (f a : Nat) (pre : List (Int × Int)) (p2 p1 : Int × Int) (cs : List Int) : foldP f a 0 pre p2 p1 cs = (pre ++ [p2, p1], cs) := by cases f <;> rfl
theorem strs_len {vs : List Value} {xs : List Str} (h : StrsAre vs xs) : vs.length = xs.length := by
  induction h with
  | nil => rfl
  | cons _ _ _ ih => rw [List.length_cons, List.length_cons, ih]
noncomputable def cntP (a b : Nat) : Nat := (a + b - 1) / b
noncomputable def okF (W a t : Nat) : Bool := !decide (W < a) || (finRows W t a == (W - t) :: (List.replicate (cntP a W - 2) W ++ [W - (cntP a W * W - a)]) && decide (2 ≤ cntP a W) && decide (cntP a W ≤ 11) && decide (a ≤ cntP a W * W) && decide (cntP a W * W - a < W))
theorem okF_all : ∀ W, W < 11 → ∀ a, a < 12 → ∀ t, t < W → okF W a t = true := by decide +kernel
theorem finRows_is {W t a : Nat} (h1 : W ≤ 10) (h2 : t < W) (h3 : a ≤ 11) (h4 : W < a) : finRows W t a = (W - t) :: (List.replicate (cntP a W - 2) W ++ [W - (cntP a W * W - a)]) ∧ 2 ≤ cntP a W ∧ cntP a W ≤ 11 ∧ a ≤ cntP a W * W ∧ cntP a W * W - a < W := by
  have z := okF_all W (by lia) a (by lia) t h2
  simp only [okF, decide_eq_true h4, Bool.not_true, Bool.false_or, Bool.and_eq_true, beq_iff_eq, decide_eq_true_eq] at z
  obtain ⟨⟨⟨⟨z1, z2⟩, z3⟩, z4⟩, z5⟩ := z
  exact ⟨z1, z2, z3, z4, z5⟩
theorem finRows_len {W t a : Nat} (h1 : W ≤ 10) (h2 : t < W) (h3 : a ≤ 11) (h4 : W < a) : (finRows W t a).length = cntP a W := by
  obtain ⟨e, h, _⟩ := finRows_is h1 h2 h3 h4
  rw [e, List.length_cons, List.length_append, List.length_replicate]; simp only [List.length_cons, List.length_nil]; lia
theorem ne_cls {h₀ h : Heap} {L a b : Addr} {o1 o2 : Obj} {l : List (Addr × Obj)} (N : News h₀ L h l) (h1 : (a, o1) ∈ l) (h2 : (b, o2) ∈ l) (hc : o1.cls ≠ o2.cls) : a ≠ b := by
  intro e
  have e1 := (N _ h1).1
  have e2 := (N _ h2).1
  dsimp only at e1 e2
  rw [e, e2] at e1
  exact hc (congrArg Obj.cls (Option.some.inj e1)).symm
def RF (n q : Nat) (lp lc : Addr) (own : List (Addr × Obj)) (k : Nat) (sz wd : Int) (nx : List (Addr × Obj)) : Prop := ∃ (a : Nat) (pits : List Value) (np : Nat) (cits : List Value) (nc : Nat) (m1 m2 : Array Value) (own' : List (Addr × Obj)) (pre : List (Int × Int)) (p2 p1 : Int × Int) (cnts : List Int) (f : Nat),
    sz = a ∧ wd = k ∧ k < a ∧ a ≤ 11 ∧ nx = (lp, listOf pits.toArray np) :: (lc, listOf cits.toArray nc) :: (140, tabObj m1) :: (147, tabObj m2) :: own' ∧ PtsAre own' pits (pre ++ [p2, p1]) ∧ IntsAre cits cnts ∧ OwnOff own' [140, 147, lp, lc] ∧ TriplesOk m1.toList ∧ TriplesOk m2.toList ∧ (∀ p ∈ own, p ∈ own') ∧
    cnts.length + k ≤ 11 ∧ pre.length + k ≤ 11 ∧ k ≤ f ∧ foldP f a k pre p2 p1 cnts = foldR n q
theorem RF.mk {n q : Nat} {lp lc : Addr} {own : List (Addr × Obj)} {k : Nat} (a : Nat) (pits : List Value) (np : Nat) (cits : List Value) (nc : Nat) (m1 m2 : Array Value) (own' : List (Addr × Obj)) (pre : List (Int × Int)) (p2 p1 : Int × Int) (cnts : List Int) (f : Nat)
    {wd : Int} (hw : wd = k) (h1 : k < a) (h2 : a ≤ 11) (h3 : PtsAre own' pits (pre ++ [p2, p1])) (h4 : IntsAre cits cnts) (h5 : OwnOff own' [140, 147, lp, lc]) (h6 : TriplesOk m1.toList) (h7 : TriplesOk m2.toList) (h8 : ∀ p ∈ own, p ∈ own') (h9 : cnts.length + k ≤ 11) (h10 : pre.length + k ≤ 11) (h11 : k ≤ f) (h12 : foldP f a k pre p2 p1 cnts = foldR n q) :
    RF n q lp lc own k a wd ((lp, listOf pits.toArray np) :: (lc, listOf cits.toArray nc) :: (140, tabObj m1) :: (147, tabObj m2) :: own') := ⟨a, pits, np, cits, nc, m1, m2, own', pre, p2, p1, cnts, f, rfl, hw, h1, h2, rfl, h3, h4, h5, h6, h7, h8, h9, h10, h11, h12⟩
theorem RF.el {n q : Nat} {lp lc : Addr} {own : List (Addr × Obj)} {k : Nat} {sz wd : Int} {nx : List (Addr × Obj)} {h₀ hp : Heap} {L : Addr} {x y : Str} {t1 t2 : Tok} {mm : Str → Option Value} {c : Prop} (h : RF n q lp lc own k sz wd nx) (F : Fr h₀ L hp (upd2 x y sz t1 wd t2 mm)) (N : News h₀ L hp nx)
    (g : ∀ (a : Nat) (pits : List Value) (np : Nat) (cits : List Value) (nc : Nat) (m1 m2 : Array Value) (own' : List (Addr × Obj)) (pre : List (Int × Int)) (p2 p1 : Int × Int) (cnts : List Int) (f : Nat), k < a → a ≤ 11 → PtsAre own' pits (pre ++ [p2, p1]) → IntsAre cits cnts → OwnOff own' [140, 147, lp, lc] → TriplesOk m1.toList → TriplesOk m2.toList → (∀ p ∈ own, p ∈ own') → cnts.length + k ≤ 11 → pre.length + k ≤ 11 → k ≤ f → foldP f a k pre p2 p1 cnts = foldR n q →
      Fr h₀ L hp (upd2 x y a t1 k t2 mm) → News h₀ L hp ((lp, listOf pits.toArray np) :: (lc, listOf cits.toArray nc) :: (140, tabObj m1) :: (147, tabObj m2) :: own') → c) : c := by
  obtain ⟨a, pits, np, cits, nc, m1, m2, own', pre, p2, p1, cnts, f, rfl, rfl, h1, h2, rfl, h3, h4, h5, h6, h7, h8, h9, h10, h11, h12⟩ := h
  exact g a pits np cits nc m1 m2 own' pre p2 p1 cnts f h1 h2 h3 h4 h5 h6 h7 h8 h9 h10 h11 h12 F N
theorem folded_c (w : World) (p : Program) (loose : List Str) (mean : ExcName → Option Value) (mg mb : Str → Option Value) (dp un : Nat) (gd : Option (List Code)) (cn : Str) (cs : Scope) (a : Addr) (ccd : Value) (cl : List (Str × Addr)) (outer : List Env) (A₀ : Around) (base h₀ : Heap) (L : Addr) (m : Str → Option Value) (s : Shared) (Q E : Value → Shared → Prop)
   (B : Below A₀ base outer h₀) (F : Fr h₀ L s.heap m) (X : (KL w.params).In h₀) (T : Top p loose mean mg mb h₀) (hk : cs.kind = .function) (hd1 : dp + 40 < recursionLimit) (hu : un + 8 * 40 < cLine)
   (own : List (Addr × Obj)) (t1 t2 : Array Value) (n q : Nat) (head : Int) (un' uq uh : Tok)
   (N : News h₀ L s.heap ((140, tabObj t1) :: (147, tabObj t2) :: own)) (ho : OwnOff own [140, 147]) (ht1 : TriplesOk t1.toList) (ht2 : TriplesOk t2.toList)
   (hn : n ≤ 11) (hq1 : 1 ≤ q) (hq2 : q < n)
   (hret : ∀ s' l pl cl pits np cits nc m1 m2 own', Kp s s' → Fr h₀ L s'.heap m → News h₀ L s'.heap ((l, { cls := .type "tuple", data := .seq #[.ref pl, .ref cl] }) :: (pl, listOf pits.toArray np) :: (cl, listOf cits.toArray nc) :: (140, tabObj m1) :: (147, tabObj m2) :: own') → PtsAre own' pits (foldR n q).1 → IntsAre cits (foldR n q).2 → OwnOff ((l, { cls := .type "tuple", data := .seq #[.ref pl, .ref cl] }) :: (pl, listOf pits.toArray np) :: (cl, listOf cits.toArray nc) :: own') [140, 147] → TriplesOk m1.toList → TriplesOk m2.toList → (∀ p ∈ own, p ∈ own') → Q (.ref l) s') :
   wpAny (model Challenge.rw_xi0019_01.row.prog w) (ktrTop dp un gd cn cs L a ccd cl outer) (call (.ref 305) [.int n un', .int q uq, .int head uh]) Q E s := by
  revert X; k_fill; intro X
  refine wpAny_call ?_
  k_dflt (refine' code_def (binds := [(Str.ofString "n", .int n un'), (Str.ofString "q", .int q uq), (Str.ofString "head", .int head uh)]) ?k1 ?k2 ?k3 ?k4 ?k5 ?kA ?kF ?kK ?k6 ?k7 ?k8 ?k9 ?kB ?_ ?c2 ?c3 ?c4 ?c5; (case kA => exact rfl); (case kF => exact rfl); (case kK => first | exact rfl | assumption); (case k1 => k_asm); (case k2 => k_asm); (case k3 => k_asm); (case k4 => k_asm); (case k5 => k_asm); (case k6 => k_is); (case k7 => k_is); (case k8 => ktr_room); (case k9 => exact BindsTo.of_eq rfl); (case c5 => decide); (case kB => exact locs rfl); (case c2 => exact rfl); (case c3 => exact rfl); (case c4 => exact rfl); k_whole; intro g' L' h' FG' F' N' B' X' T'; (try dsimp only); (try k_lift B'); (try k_fold))
  k_steps
  rename_i D1 h7 l1a D2 h6 l1b lp h5 l1c h4 _ lc h3 l1d h2 _ h1 _ _ h0 F0 N0 _
  have hlp : @LT.lt Nat _ lp lc := l1d.1
  have hl140 : @LT.lt Nat _ 147 lp := l1c.2.2.2.1
  have hol : ∀ p ∈ own, p.1 < lp := of_allLt _ l1c.2.2.2.2
  have hol2 : ∀ p ∈ own, p.1 < lc := fun p hp => @Nat.lt_trans p.1 lp lc (hol p hp) hlp
  have hD1 : @LT.lt Nat _ D1 lp := l1c.2.1
  have hD2 : @LT.lt Nat _ D2 lp := l1c.1
  have h1D : @LT.lt Nat _ 147 D1 := l1a.2.1
  have h12 : @LT.lt Nat _ D1 D2 := l1b.1
  have hbig : ∀ p ∈ own, p.1 ≠ lp ∧ p.1 ≠ lc := fun p hp => ⟨Nat.ne_of_lt (hol p hp), Nat.ne_of_lt (hol2 p hp)⟩
  have e1 : (W.listOf #[Value.ref D1, Value.ref D2] 0) = listOf ([Value.ref D1, Value.ref D2] : List Value).toArray 0 := rfl
  have e2 : (W.listOf #[] 0) = listOf ([] : List Value).toArray 0 := rfl
  have N1 := news_sub (l' := (lp, listOf ([Value.ref D1, Value.ref D2] : List Value).toArray 0) :: (lc, listOf ([] : List Value).toArray 0) :: (140, tabObj t1) :: (147, tabObj t2) :: (D1, { cls := .type "tuple", data := .seq #[.int 0 _, .int 1 _] }) :: (D2, { cls := .type "tuple", data := .seq #[.int 1 _, .int 1 _] }) :: own) N0 (by ((repeat refine sub_cons (by k_mem) ?_); first | exact sub_nil | k_allIn))
  refine Hold.go (whileR "size" "width" ["taken", "rows", "count", "lack"] (RF n q lp lc own) (n₀ := n - q) (by assumption) N1 rfl rfl ?start ?turn)
  case start =>
    refine RF.mk n [.ref D1, .ref D2] _ [] _ _ _ _ [] (0, 1) (1, 1) [] 11 (by lia) (by lia) hn (.cons (.head _) (.cons (.tail _ (.head _)) .nil)) .nil ?_ ht1 ht2 (fun _ h => .tail _ (.tail _ h)) (by simp only [List.length_nil]; lia) (by simp only [List.length_nil]; lia) (by lia) rfl
    refine off_cons ?_ (off_cons ?_ ?_)
    · intro b hb
      simp only [List.mem_cons, List.not_mem_nil, or_false] at hb
      rcases hb with rfl | rfl | rfl | rfl <;> first | exact Nat.ne_of_gt (by lia) | exact Nat.ne_of_lt (by lia)
    · intro b hb
      simp only [List.mem_cons, List.not_mem_nil, or_false] at hb
      rcases hb with rfl | rfl | rfl | rfl <;> first | exact Nat.ne_of_gt (by lia) | exact Nat.ne_of_lt (by lia)
    · intro p hp b hb
      simp only [List.mem_cons, List.not_mem_nil, or_false] at hb
      rcases hb with rfl | rfl | rfl | rfl
      · exact ho p hp _ (.head _)
      · exact ho p hp _ (.tail _ (.head _))
      · exact (hbig p hp).1
      · exact (hbig p hp).2
  case turn =>
    intro k sz tsz wd twd u nx s4 kp4 hR F4 N4
    refine RF.el hR F4 N4 ?_
    clear hR F4 N4
    intro a9 pits np cits nc m1 m2 own' pre p2 p1 cnts f hba ha hpp hcc ho' hm1 hm2 hsub hcl1 hpl1 hf hfold F4 N4
    refine gen_W fun W hW => ?_
    have hlc140 : @LT.lt Nat _ 147 lc := by lia
    have hoL : OwnOff ((lp, listOf pits.toArray np) :: (lc, listOf cits.toArray nc) :: own') [140, 147] := by
      refine off_cons ?_ (off_cons ?_ (off_sub ho' (by simp)))
      · intro b hb; simp only [List.mem_cons, List.not_mem_nil, or_false] at hb; rcases hb with rfl | rfl <;> exact Nat.ne_of_gt (by lia)
      · intro b hb; simp only [List.mem_cons, List.not_mem_nil, or_false] at hb; rcases hb with rfl | rfl <;> exact Nat.ne_of_gt (by lia)
    k_steps
    · have hk0 : 0 < (k : Int) := by assumption
      obtain ⟨t9, ht9⟩ : ∃ t : Nat, head.fmod (k : Int) = t := ⟨(head.fmod k).toNat, (Int.toNat_of_nonneg (Int.fmod_nonneg_of_pos head hk0)).symm⟩
      have htl := Int.fmod_lt_of_pos head hk0
      rw [ht9] at htl
      rw [ht9]
      k_here
      k_dflt (refine' rows_c _ _ _ _ _ _ _ _ _ _ _ _ _ _ _ _ _ _ _ _ _ _ _ ?cB ?cF ?cX ?cT ?ck ?cd ?cu ((lp, listOf pits.toArray np) :: (lc, listOf cits.toArray nc) :: own') _ _ _ _ _ _ _ _ _ _ _ ?N hoL hm1 hm2 ?htk ?hW ?hsz ?hsz2 (.inl ⟨rfl, rfl⟩) ?_; (case cB => k_asm); (case cF => k_asm); (case cX => k_asm); (case cT => k_asm); (case ck => first | exact rfl | assumption); (case cd => ktr_room); (case cu => ktr_units))
      case N => exact news_sub (by assumption) (by ((repeat refine sub_cons (by k_mem) ?_); first | exact sub_nil | k_allIn))
      case htk => lia
      case hW => lia
      case hsz => lia
      case hsz2 => lia
      intro s5 l vals nl m3 m4 kp5 F5 N5 hs5 hm3 hm4 hlt5 hl5
      have hlpl : @LT.lt Nat _ lp l := hlt5 _ (.head _)
      have hlcl : @LT.lt Nat _ lc l := hlt5 _ (.tail _ (.head _))
      k_steps
      have hvl : vals.length = (finRows k t9 a9).length := by rw [strs_len hs5, List.length_map]
      obtain ⟨hfr, hc2, hc11, hca, hcl⟩ := finRows_is (show k ≤ 10 by lia) (show t9 < k by lia) (show a9 ≤ 11 by lia) (show k < a9 by lia)
      rw [finRows_len (show k ≤ 10 by lia) (show t9 < k by lia) (show a9 ≤ 11 by lia) (show k < a9 by lia)] at hvl
      k_here
      rename News _ _ _ _ => N6
      refine len_list (s := _) ⟨_, (N6 _ (.head _)).1, rfl, nl, rfl⟩ ?fit ?_
      case fit => rw [List.size_toArray, hvl]; lia
      rw [List.size_toArray, hvl]
      have hI1 : (a9 : Int) ≤ ((cntP a9 k : Nat) : Int) * (k : Int) := by exact_mod_cast hca
      have hI2 : ((cntP a9 k : Nat) : Int) * (k : Int) - (a9 : Int) < (k : Int) := by
        have : (((cntP a9 k * k : Nat) : Int)) = ((cntP a9 k : Nat) : Int) * (k : Int) := by push_cast; rfl
        lia
      k_steps
      refine Hold.go (mulRow (c := k - t9) (by rw [ht9]; lia) (by lia) fun u7 k7 => ?_)
      k_steps
      refine Hold.go (mulRow (c := k) rfl (by lia) fun u8 k8 => ?_)
      k_steps
      refine Hold.go (mulList1 (n := cntP a9 k - 2) (by assumption) (by assumption) (.head _) (by lia) (by lia) fun D7 h7' F7 N7 l7 => ?_)
      k_steps
      refine Hold.go (addList (a := [_]) (by assumption) N7 (.tail _ (.tail _ (.head _))) (.head _) (by simp; lia) fun D8 h8' F8 N8 l8 => ?_)
      k_steps
      refine Hold.go (mulRow (c := k - (cntP a9 k * k - a9)) (by push_cast; lia) (by lia) fun u9 k9 => ?_)
      k_steps
      rename News _ _ _ _ => N9
      refine Hold.go (addList (b := [_]) (by assumption) N9 (.tail _ (.head _)) (.head _) (by simp; lia) fun D9 h9' F9 N10 l10 => ?_)
      k_steps
      have hs9 : StrsAre ([Value.str (rowS (k - t9)) u7] ++ List.replicate (cntP a9 k - 2) (Value.str (rowS k) u8) ++ [Value.str (rowS (k - (cntP a9 k * k - a9))) u9]) ((finRows k t9 a9).map rowS) := by
        rw [hfr, List.map_cons, List.map_append, List.map_replicate]
        exact strs_app (strs_app (.cons _ _ .nil) (strs_rep _ _ _)) (.cons _ _ .nil)
      have hok : ∀ x ∈ (finRows k t9 a9).map rowS, PyData.strOk x = true := by
        intro x hx
        obtain ⟨r, hr, rfl⟩ := List.mem_map.mp hx
        refine rowS_ok r ?_
        rw [hfr] at hr
        rcases List.mem_cons.mp hr with rfl | hr
        · lia
        · rcases List.mem_append.mp hr with hr | hr
          · rw [(List.mem_replicate.mp hr).2]; lia
          · rw [List.mem_singleton.mp hr]; lia
      refine Hold.go (ne_strs (N10 (l, _) (by k_mem)).1 hs5 (N10 (D9, _) (.head _)).1 hs9 hok (by ktr_units) ?_)
      k_steps
      have N11 : News _ _ _ ((l, listOf vals.toArray nl) :: (140, tabObj m3) :: (147, tabObj m4) :: (lp, listOf pits.toArray np) :: (lc, listOf cits.toArray nc) :: own') := news_sub (by assumption) (by ((repeat refine sub_cons (by k_mem) ?_); first | exact sub_nil | k_allIn))
      have hl0 : ∀ b ∈ [140, 147], l ≠ b := by
        intro b hb
        simp only [List.mem_cons, List.not_mem_nil, or_false] at hb
        rcases hb with rfl | rfl
        · exact ne_cls N11 (.head _) (.tail _ (.head _)) (by simp)
        · exact ne_cls N11 (.head _) (.tail _ (.tail _ (.head _))) (by simp)
      rw [ht9]
      k_here
      k_dflt (refine' rows_c _ _ _ _ _ _ _ _ _ _ _ _ _ _ _ _ _ _ _ _ _ _ _ ?cB ?cF ?cX ?cT ?ck ?cd ?cu ((l, listOf vals.toArray nl) :: (lp, listOf pits.toArray np) :: (lc, listOf cits.toArray nc) :: own') _ _ _ _ _ _ _ _ _ _ _ ?N (off_cons hl0 hoL) hm3 hm4 ?htk ?hW ?hsz ?hsz2 (.inr ⟨rfl, rfl⟩) ?_; (case cB => k_asm); (case cF => k_asm); (case cX => k_asm); (case cT => k_asm); (case ck => first | exact rfl | assumption); (case cd => ktr_room); (case cu => ktr_units))
      case N => exact news_sub N11 (by ((repeat refine sub_cons (by k_mem) ?_); first | exact sub_nil | k_allIn))
      case htk => lia
      case hW => lia
      case hsz => lia
      case hsz2 => lia
      intro s6 l2 vals2 nl2 m5 m6 kp6 F6 N12 hs6 hm5 hm6 hlt6 hl6
      have hll2 : @LT.lt Nat _ l l2 := hlt6 _ (.head _)
      have hlpl2 : @LT.lt Nat _ lp l2 := hlt6 _ (.tail _ (.head _))
      have hlcl2 : @LT.lt Nat _ lc l2 := hlt6 _ (.tail _ (.tail _ (.head _)))
      k_steps
      rename News _ _ _ _ => N13
      refine Hold.go (ne_strs (N13 (l2, _) (by k_mem)).1 hs6 (N13 (l, _) (by k_mem)).1 hs5 hok (by ktr_units) ?_)
      k_steps
      refine hpp.snoc2.el fun pp r2 r1 u21 u22 u11 u12 hpits hppl hr2 hr1 => ?_
      rw [hpits] at N13
      have N14 : News _ _ _ ((lc, listOf cits.toArray nc) :: (lp, listOf (pp ++ [Value.ref r2, Value.ref r1]).toArray np) :: (140, tabObj m5) :: (147, tabObj m6) :: (r2, { cls := .type "tuple", data := .seq #[.int p2.1 u21, .int p2.2 u22] }) :: (r1, { cls := .type "tuple", data := .seq #[.int p1.1 u11, .int p1.2 u12] }) :: own') := news_sub N13 (by
        (repeat refine sub_cons (by k_mem) ?_)
        exact List.forall_mem_cons.mpr ⟨.tail _ (.tail _ (.tail _ (.tail _ (.tail _ (.tail _ hr2))))), List.forall_mem_cons.mpr ⟨.tail _ (.tail _ (.tail _ (.tail _ (.tail _ (.tail _ hr1))))), fun _ h => .tail _ (.tail _ (.tail _ (.tail _ (.tail _ (.tail _ h)))))⟩⟩)
      have hcz : cits.length ≤ 11 := by rw [ints_len hcc]; lia
      have off1 : ∀ b ∈ [140, 147, lp, lc], r1 ≠ b := fun b hb => ho' _ hr1 b hb
      have off2 : ∀ b ∈ [140, 147, lp, lc], r2 ≠ b := fun b hb => ho' _ hr2 b hb
      refine Hold.go (appendL (by assumption) N14 (List.forall_mem_cons.mpr ⟨Nat.ne_of_lt hlp, List.forall_mem_cons.mpr ⟨Nat.ne_of_lt (by lia), List.forall_mem_cons.mpr ⟨Nat.ne_of_lt (by lia), List.forall_mem_cons.mpr ⟨off2 _ (by simp), List.forall_mem_cons.mpr ⟨off1 _ (by simp), fun p hp => ho' p hp _ (by simp)⟩⟩⟩⟩⟩) (by lia) fun h15 F15 N15 => ?_)
      k_steps
      refine Hold.go (negItem1 (by assumption) (.tail _ (.head _)) ?_)
      k_steps
      refine Hold.go (tupI0 (by assumption) (.tail _ (.tail _ (.tail _ (.tail _ (.tail _ (.head _)))))) ?_)
      k_steps
      refine Hold.go (negItem2 (by assumption) (.tail _ (.head _)) ?_)
      k_steps
      refine Hold.go (tupI0 (by assumption) (.tail _ (.tail _ (.tail _ (.tail _ (.head _))))) ?_)
      k_steps
      refine Hold.go (negItem1 (by assumption) (.tail _ (.head _)) ?_)
      k_steps
      refine Hold.go (tupI1 (by assumption) (.tail _ (.tail _ (.tail _ (.tail _ (.tail _ (.head _)))))) ?_)
      k_steps
      refine Hold.go (negItem2 (by assumption) (.tail _ (.head _)) ?_)
      k_steps
      refine Hold.go (tupI1 (by assumption) (.tail _ (.tail _ (.tail _ (.tail _ (.head _))))) ?_)
      k_steps
      rename News _ _ _ _ => N16
      with_reducible rename (_ ∧ _ ∧ _ ∧ _ ∧ _ ∧ _ ∧ AllLt _ own') => lD
      have d1 := lD.1; have d2 := lD.2.1; have d3 := lD.2.2.1; have d4 := lD.2.2.2.1
      have N17 := news_sub (l' := (lp, listOf (pp ++ [Value.ref r2, Value.ref r1]).toArray np) :: (lc, listOf (cits ++ [Value.int ((cntP a9 k : Nat) : Int) _]).toArray (nc + 1)) :: (140, tabObj m5) :: (147, tabObj m6) :: (_, { cls := .type "tuple", data := .seq #[.int (((cntP a9 k : Nat) : Int) * p1.1 - p2.1) _, .int (((cntP a9 k : Nat) : Int) * p1.2 - p2.2) _] }) :: own') N16 (by ((repeat refine sub_cons (by k_mem) ?_); first | exact sub_nil | k_allIn))
      refine Hold.go (appendL (by assumption) N17 (List.forall_mem_cons.mpr ⟨Nat.ne_of_gt hlp, List.forall_mem_cons.mpr ⟨Nat.ne_of_lt (by lia), List.forall_mem_cons.mpr ⟨Nat.ne_of_lt (by lia), List.forall_mem_cons.mpr ⟨Nat.ne_of_gt d2, fun p hp => ho' p hp _ (by simp)⟩⟩⟩⟩) (by simp only [List.length_append, List.length_cons, List.length_nil]; lia) fun h18 F18 N18 => ?_)
      k_steps
      rename News _ _ _ _ => N19
      rw [show f = (f - 1) + 1 by lia, foldP, if_neg (by lia)] at hfold
      have hcast : (((cntP a9 k * k : Nat) : Int)) = ((cntP a9 k : Nat) : Int) * (k : Int) := by push_cast; rfl
      refine hW _ _ ?_
      refine WRTurn.mk (cntP a9 k * k - a9) (k : Int) (((cntP a9 k : Nat) : Int) * (k : Int) - (a9 : Int)) _ _ hcl (RF.mk k _ _ _ _ m5 m6 _ (pre ++ [p2]) p1 (((cntP a9 k : Nat) : Int) * p1.1 - p2.1, ((cntP a9 k : Nat) : Int) * p1.2 - p2.2) (cnts ++ [((cntP a9 k : Nat) : Int)]) (f - 1) (by lia) hcl (by lia) ?pts (ints_snoc hcc _ _) ?off hm5 hm6 (fun p hp => .tail _ (hsub p hp)) (by simp only [List.length_append, List.length_cons, List.length_nil]; lia) (by simp only [List.length_append, List.length_cons, List.length_nil]; lia) (by lia) hfold) ⟨kp6.os.trans (kp5.os.trans kp4.os), fun g => kp6.bare (kp5.bare (kp4.bare g))⟩ (by assumption) N19 ⟨_, rfl⟩ ⟨_, rfl⟩ ?nm
      case pts => rw [hpits] at hpp; exact pts_next hpp
      case off =>
        refine off_cons (fun b hb => ?_) ho'
        simp only [List.mem_cons, List.not_mem_nil, or_false] at hb
        rcases hb with rfl | rfl | rfl | rfl
        · exact Nat.ne_of_gt d3
        · exact Nat.ne_of_gt d4
        · exact Nat.ne_of_gt d2
        · exact Nat.ne_of_gt d1
      case nm =>
        intro y y1 y2 hy
        have y3 : y ≠ Str.ofString "lack" := by rintro rfl; exact absurd hy (by decide)
        have y4 : y ≠ Str.ofString "count" := by rintro rfl; exact absurd hy (by decide)
        have y5 : y ≠ Str.ofString "rows" := by rintro rfl; exact absurd hy (by decide)
        have y6 : y ≠ Str.ofString "taken" := by rintro rfl; exact absurd hy (by decide)
        show (if y = Str.ofString "width" then _ else if y = Str.ofString "size" then _ else if y = Str.ofString "lack" then _ else if y = Str.ofString "count" then _ else if y = Str.ofString "rows" then _ else if y = Str.ofString "taken" then _ else if y = Str.ofString "width" then _ else if y = Str.ofString "size" then _ else mixM _ _ _ y) = _
        rw [if_neg y2, if_neg y1, if_neg y3, if_neg y4, if_neg y5, if_neg y6, if_neg y2, if_neg y1, mixM, if_neg (by rw [hy]; exact Bool.false_ne_true)]
    · have hk0 : k = 0 := by lia
      subst hk0
      rw [foldP_end] at hfold
      rename News _ _ _ _ => N19
      with_reducible rename (_ ∧ _ ∧ _ ∧ _ ∧ AllLt _ own') => lD
      have d3 := lD.2.2.1; have d4 := lD.2.2.2.1
      rw [← hfold] at hret
      refine hret _ _ lp lc pits np cits nc m1 m2 own' ⟨kp4.os, fun g => kp4.bare g⟩ (by assumption) (news_sub N19 (by ((repeat refine sub_cons (by k_mem) ?_); first | exact sub_nil | k_allIn))) hpp hcc (off_cons (fun b hb => ?_) hoL) hm1 hm2 hsub
      simp only [List.mem_cons, List.not_mem_nil, or_false] at hb
      rcases hb with rfl | rfl
      · exact Nat.ne_of_gt d3
      · exact Nat.ne_of_gt d4


end

section
open PySem PySem.W PyProof.Rows PySem.Calls
set_option Elab.async false
set_option maxRecDepth 100000
set_option maxHeartbeats 8000000
set_option pp.deepTerms false
set_option pp.maxSteps 3000

def PW (x k y : Int) : Prop := 0 ≤ k ∧ (Builtin.Int.intBits x : Int) * k ≤ 2 ^ 27 ∧ x ^ k.toNat = y
def MU (x k y : Int) : Prop := IntMulOk x k ∧ x * k = y
def FD (x k y : Int) : Prop := k ≠ 0 ∧ x.fdiv k = y
def MD (x k y : Int) : Prop := k ≠ 0 ∧ x.fmod k = y
section
variable {prog : Program} {w : World} {A : Around} {E : Value → Shared → Prop} {s : Shared} {Q : Value → Shared → Prop} {t u : Tok} {x k y : Int}
theorem pw_go (e : PW x k y) (h : Q (.int y s.toks) { s with toks := s.toks + 1 }) : wpAny (model prog w) A (binaryOp .Pow (.int x t) (.int k u)) Q E s := pow_int e.1 e.2.1 (by rw [e.2.2]; exact h)
theorem mu_go (e : MU x k y) (h : Q (.int y s.toks) { s with toks := s.toks + 1 }) : wpAny (model prog w) A (binaryOp .Mult (.int x t) (.int k u)) Q E s := PyProof.Rows.mul_int (by rw [e.2]; exact h) e.1
theorem md_go (e : MD x k y) (h : Q (.int y s.toks) { s with toks := s.toks + 1 }) : wpAny (model prog w) A (binaryOp .Mod (.int x t) (.int k u)) Q E s := mod_int' e.1 (by rw [e.2]; exact h)
theorem fd_go (e : FD x k y) (hp : PySem.PylongRoom (model prog w) A s) (h : Q (.int y s.toks) { s with toks := s.toks + 1 }) : wpAny (model prog w) A (binaryOp .FloorDiv (.int x t) (.int k u)) Q E s :=
  floordiv_int e.1 (by rw [e.2]; exact h) (.inr hp)
end
theorem FD.of {x k y : Int} (h : 0 < k) (e : x / k = y) : FD x k y := ⟨by lia, by rw [Int.fdiv_eq_ediv_of_nonneg _ (Int.le_of_lt h)]; exact e⟩
theorem MD.of {x k y : Int} (h : 0 < k) (e : x % k = y) : MD x k y := ⟨by lia, by rw [Int.fmod_eq_emod_of_nonneg _ (Int.le_of_lt h)]; exact e⟩
theorem PW.of2 {n : Nat} (h : n ≤ 100000) : PW 2 (n : Int) (2 ^ n) := by
  have e : Builtin.Int.intBits 2 = 2 := by decide
  refine ⟨Int.natCast_nonneg n, ?_, by rw [Int.toNat_natCast]⟩
  rw [e, show (2 : Int) ^ 27 = 134217728 by decide]; lia
/-- what the law's numbers are -/
structure HF (n q p : Nat) (m1 fa qp wh dv a12 a3 b1 b2 : Int) : Prop where
  w2 : PW 2 (p : Int) (2 ^ p)
  d2 : FD (2 ^ p) 2 (2 ^ (p - 1))
  d3 : FD (p : Int) 2 ((p / 2 : Nat) : Int)
  w3 : PW 2 ((p / 2 : Nat) : Int) (2 ^ (p / 2))
  e1 : MU (2 ^ p) (2 ^ (p - 1) + 2 ^ (p / 2)) m1
  e2 : FD (m1 - 1) n fa
  e3 : MU q (2 ^ p) qp
  e4 : MU (qp - 1) fa wh
  e5 : MU n fa dv
  r1 : RS wh p a12
  r2 : MD wh (2 ^ p) a3
  r3 : RS dv p b1
  r4 : MD dv (2 ^ p) b2
  c1 : b1 < 2 ^ p
  c2 : 2 ^ p ≤ 2 * b1
  c3 : dv = b1 * 2 ^ p + b2
  c4 : 0 ≤ b2
  c5 : b2 < 2 ^ p
  c6 : 0 ≤ a3
  c7 : a3 < 2 ^ p
  c8 : 0 ≤ a12
  c9 : a12 < dv
  x1 : wh = a12 * 2 ^ p + a3
  x2 : wh / dv = (q * 2 ^ p - 1) / n
  x3 : 0 < dv
  y1 : MU (wh / dv) dv (wh / dv * dv)
  y2 : Builtin.Int.intBits ((q * 2 ^ p - 1) / n : Int) ≤ 20000
theorem hf_of (n q p : Nat) (hn3 : 3 ≤ n) (hn : n ≤ 11) (hq1 : 1 ≤ q) (hq2 : q < n) (hp7 : 7 ≤ p) (hp8 : p ≤ 7906) : ∃ m1 fa qp wh dv a12 a3 b1 b2 : Int, HF n q p m1 fa qp wh dv a12 a3 b1 b2 := by
  have hP : (0 : Int) < 2 ^ p := Int.pow_pos (by decide)
  have hP7 : (128 : Int) ≤ 2 ^ p := by
    obtain ⟨j, rfl⟩ : ∃ j, p = 7 + j := ⟨p - 7, by lia⟩
    rw [Int.pow_add]
    have : (0 : Int) < 2 ^ j := Int.pow_pos (by decide)
    rw [show (2 : Int) ^ 7 = 128 by decide]; lia
  have hpp : (2 : Int) ^ p = 2 ^ (p - 1) * 2 := by rw [← Int.pow_succ]; congr 1; lia
  have hh0 : (0 : Int) < 2 ^ (p / 2) := Int.pow_pos (by decide)
  have hh : (2 : Int) ^ (p / 2) ≤ 2 ^ (p - 1) := by
    obtain ⟨j, hj⟩ : ∃ j, p - 1 = p / 2 + j := ⟨p - 1 - p / 2, by lia⟩
    rw [hj, Int.pow_add]
    have : (0 : Int) < 2 ^ j := Int.pow_pos (by decide)
    have z := Int.mul_le_mul_of_nonneg_left (show (1 : Int) ≤ 2 ^ j by lia) (Int.le_of_lt hh0)
    lia
  have hh8 : (8 : Int) ≤ 2 ^ (p / 2) := by
    obtain ⟨j, hj⟩ : ∃ j, p / 2 = 3 + j := ⟨p / 2 - 3, by lia⟩
    rw [hj, Int.pow_add]
    have : (0 : Int) < 2 ^ j := Int.pow_pos (by decide)
    rw [show (2 : Int) ^ 3 = 8 by decide]; lia
  generalize hPd : (2 : Int) ^ p = P at *
  generalize hHd : (2 : Int) ^ (p - 1) = H at *
  generalize hSd : (2 : Int) ^ (p / 2) = S at *
  have hn0 : (0 : Int) < n := by lia
  have m1a : P * H + P * 8 ≤ P * (H + S) := by rw [Int.mul_add]; have := Int.mul_le_mul_of_nonneg_left hh8 (Int.le_of_lt hP); lia
  have m1b : P * (H + S) ≤ P * P := Int.mul_le_mul_of_nonneg_left (by lia) (Int.le_of_lt hP)
  have hPH : P * 64 ≤ P * H := Int.mul_le_mul_of_nonneg_left (by lia) (Int.le_of_lt hP)
  have hfa0 : 0 < (P * (H + S) - 1) / n := by
    refine Int.lt_of_lt_of_le (show (0 : Int) < 1 by decide) ((Int.le_ediv_iff_mul_le hn0).mpr ?_)
    lia
  have hfa1 := Int.ediv_mul_le (P * (H + S) - 1) (Int.ne_of_gt hn0)
  have hfa2 := Int.lt_ediv_add_one_mul_self (P * (H + S) - 1) hn0
  generalize hfd : (P * (H + S) - 1) / (n : Int) = fa at *
  have hdv : (n : Int) * fa < P * P := by rw [Int.mul_comm]; lia
  have hdv2 : P * H + P ≤ (n : Int) * fa := by
    rw [Int.add_mul, Int.one_mul, Int.mul_comm fa] at hfa2
    lia
  have hqP : (q : Int) * P ≤ (n : Int) * P - P := by
    have := Int.mul_le_mul_of_nonneg_right (show (q : Int) ≤ (n : Int) - 1 by lia) (Int.le_of_lt hP)
    rw [Int.sub_mul, Int.one_mul] at this; exact this
  have hqP1 : P ≤ (q : Int) * P := by
    have := Int.mul_le_mul_of_nonneg_right (show (1 : Int) ≤ (q : Int) by lia) (Int.le_of_lt hP)
    lia
  have hwh0 : 0 ≤ ((q : Int) * P - 1) * fa := Int.mul_nonneg (by lia) (Int.le_of_lt hfa0)
  have hwh1 : ((q : Int) * P - 1) * fa < (n : Int) * fa * P := by
    have := Int.mul_le_mul_of_nonneg_right (show (q : Int) * P - 1 ≤ (n : Int) * P - 1 by lia) (Int.le_of_lt hfa0)
    rw [Int.sub_mul ((n : Int) * P), Int.one_mul] at this
    have e : (n : Int) * fa * P = (n : Int) * P * fa := by rw [Int.mul_assoc, Int.mul_comm fa, ← Int.mul_assoc]
    lia
  have hdv0 : 0 < (n : Int) * fa := Int.mul_pos hn0 hfa0
  have hPP2 : P * P = 2 ^ (p + p) := by rw [Int.pow_add, hPd]
  have hb1 : (n : Int) * fa / P < P := Int.ediv_lt_of_lt_mul hP hdv
  have hb2 : H + 1 ≤ (n : Int) * fa / P := (Int.le_ediv_iff_mul_le hP).mpr (by rw [Int.add_mul, Int.one_mul, Int.mul_comm]; exact hdv2)
  have hT : ((q : Int) * P - 1) * fa / ((n : Int) * fa) = ((q : Int) * P - 1) / n := Int.mul_ediv_mul_of_pos_left _ _ hfa0
  have hTb : Builtin.Int.intBits (((q : Int) * P - 1) / n) ≤ p := by
    refine bits_lt (Int.ediv_nonneg (by lia) (by lia)) ?_
    rw [hPd]
    exact Int.ediv_lt_of_lt_mul hn0 (by rw [Int.mul_comm P]; lia)
  have bP : Builtin.Int.intBits P ≤ p + 1 := bits_lt (by lia) (by rw [Int.pow_succ, hPd]; lia)
  have bHS : Builtin.Int.intBits (H + S) ≤ p + 1 := bits_lt (by lia) (by rw [Int.pow_succ, hPd]; lia)
  have bq : Builtin.Int.intBits (q : Int) ≤ 4 := bits_lt (by lia) (by rw [show (2 : Int) ^ 4 = 16 by decide]; lia)
  have bn : Builtin.Int.intBits (n : Int) ≤ 4 := bits_lt (by lia) (by rw [show (2 : Int) ^ 4 = 16 by decide]; lia)
  have bfa : Builtin.Int.intBits fa ≤ p + p := bits_lt (by lia) (by rw [← hPP2]; have := Int.mul_le_mul_of_nonneg_right (show (1 : Int) ≤ (n : Int) by lia) (Int.le_of_lt hfa0); lia)
  have bdv : Builtin.Int.intBits ((n : Int) * fa) ≤ p + p := bits_lt (by lia) (by rw [← hPP2]; exact hdv)
  have bqp : Builtin.Int.intBits ((q : Int) * P - 1) ≤ p + 4 := bits_lt (by lia) (by rw [Int.pow_add, hPd, show (2 : Int) ^ 4 = 16 by decide]; have := Int.mul_le_mul_of_nonneg_right (show (q : Int) ≤ 16 by lia) (Int.le_of_lt hP); rw [Int.mul_comm P]; lia)
  refine ⟨_, _, _, _, _, _, _, _, _, {
    w2 := PW.of2 (by lia), d2 := FD.of (by decide) (by lia), d3 := FD.of (by decide) (by lia), w3 := PW.of2 (by lia),
    e1 := ⟨by rw [hPd, hHd, hSd]; exact mul_ok bP bHS (by lia), rfl⟩, e2 := FD.of hn0 (by rw [hPd, hHd, hSd]; exact hfd), e3 := ⟨mul_ok bq (by rw [hPd]; exact bP) (by lia), rfl⟩, e4 := ⟨mul_ok (by rw [hPd]; exact bqp) bfa (by lia), rfl⟩, e5 := ⟨mul_ok bn bfa (by lia), rfl⟩,
    r1 := RS.of p rfl rfl, r2 := MD.of (by rw [hPd]; exact hP) rfl, r3 := RS.of p rfl rfl, r4 := MD.of (by rw [hPd]; exact hP) rfl, c1 := ?_, c2 := ?_, c3 := (Int.ediv_mul_add_emod _ _).symm, c4 := Int.emod_nonneg _ (by rw [hPd]; lia), c5 := Int.emod_lt_of_pos _ (by rw [hPd]; exact hP),
    c6 := Int.emod_nonneg _ (by rw [hPd]; lia), c7 := Int.emod_lt_of_pos _ (by rw [hPd]; exact hP), c8 := ?_, c9 := ?_, x1 := (Int.ediv_mul_add_emod _ _).symm, x2 := ?_, x3 := hdv0, y1 := ⟨?_, rfl⟩, y2 := ?_ }⟩
  all_goals rw [hPd]
  · exact hb1
  · lia
  · exact Int.ediv_nonneg hwh0 (Int.le_of_lt hP)
  · exact Int.ediv_lt_of_lt_mul hP hwh1
  · exact hT
  · rw [hT]; exact mul_ok hTb bdv (by lia)
  · exact Nat.le_trans hTb (by lia)


end

section
open PySem PySem.W PyProof.Rows PySem.Calls PyProof.Rows.LCg
set_option Elab.async false
set_option maxRecDepth 100000
set_option maxHeartbeats 4000000
section
variable {prog : Program} {w : World} {A : Around} {E : Value → Shared → Prop} {s : Shared} {h₀ : Heap} {L : Addr} {m : Str → Option Value} {env : Env}
/-- an element's end: what it is, the ledger as it was -/
def EltEnd (h₀ : Heap) (L : Addr) (m : Str → Option Value) (s : Shared) (led : List (Addr × Obj)) (ok : Value → Prop) (y : Value) (s' : Shared) : Prop := ok y ∧ ∃ h' tk', s' = { s with heap := h', toks := tk' } ∧ Fr h₀ L h' m ∧ News h₀ L h' led
theorem compRest_of {elt : Expr} {x : Str} {scope : Scope} {cl : List (Str × Addr)} {P : Nat → Value → Prop} {Fin : List Value → List (Addr × Obj) → Prop} {n : Nat} {news : List (Addr × Obj)} {S : List (Addr × Obj) → Prop} (hS : S news) (ok : Nat → Value → Prop)
    (turn : ∀ i v I oI C oC D ys m₂ h tk (E' : Value → Shared → Prop), i < n → P i v → NsObj oC m₂ → m₂ x = some v → Fr h₀ L h m → News h₀ L h ((I, oI) :: (C, oC) :: (D, lst ys) :: news) → Off3 I C D news → ((@Ne Nat I C) ∧ (@Ne Nat I D) ∧ (@Ne Nat C D)) →
      wpAny (model prog w) A (eval elt (compEnvC scope cl C env)) (EltEnd h₀ L m s ((I, oI) :: (C, oC) :: (D, lst ys) :: news) (ok i)) E' { s with heap := h, toks := tk })
    (fin : ∀ ys : List Value, ys.length = n → (∀ i y, ys[i]? = some y → ok i y) → Fin ys news) : CompRest prog w A h₀ L m env elt x scope cl s S P Fin n 0 [] news := by
  have key : ∀ k i ys, i + k = n → ys.length = i → (∀ j y, ys[j]? = some y → ok j y) → CompRest prog w A h₀ L m env elt x scope cl s S P Fin k i ys news := by
    intro k
    induction k with
    | zero => intro i ys hi hl ho; exact .zero (fin ys (by lia) ho)
    | succ k ih =>
      intro i ys hi hl ho
      refine .succ fun v I oI C oC D m₂ h tk E' hP hns hm F N off ne => ?_
      refine wpAny_mono (turn i v I oI C oC D ys m₂ h tk E' (by lia) hP hns hm F N off ne) (fun y s' hy => ?_) fun _ _ e => e
      obtain ⟨ho1, h', tk', e, F', N'⟩ := hy
      refine ⟨h', tk', news, e, F', N', off, hS, ih (i + 1) (ys ++ [y]) (by lia) (by rw [List.length_append, hl]; rfl) fun j z hz => ?_⟩
      by_cases hj : j < ys.length
      · rw [List.getElem?_append_left hj] at hz; exact ho j z hz
      · rw [List.getElem?_append_right (Nat.not_lt.mp hj)] at hz
        have e1 : j - ys.length = 0 := by
          rcases Nat.eq_zero_or_pos (j - ys.length) with e | e
          · exact e
          · rw [List.getElem?_eq_none (by simp; lia)] at hz; cases hz
        rw [e1] at hz
        have e2 : j = i := by lia
        rw [e2]
        cases hz
        exact ho1
  exact key n 0 [] (by lia) rfl fun j y h => by simp at h
end

end

local macro_rules | `(tactic| walk_at "binaryOp FloorDiv int int") => `(tactic| (k_here; (with_reducible show wpAny _ _ (binaryOp Operator.FloorDiv (Value.int _ _) (Value.int _ _)) _ _ _); refine hold_ ?_))
local macro_rules | `(tactic| walk_at "eval ListComp") => `(tactic| (k_here; (with_reducible show wpAny _ _ (eval (Expr.ListComp _ _ _ _) _) _ _ _); refine hold_ ?_))

section
open PySem PySem.W PyProof.Rows PySem.Calls
set_option Elab.async false
set_option maxRecDepth 100000
set_option maxHeartbeats 8000000
set_option pp.deepTerms false
set_option pp.maxSteps 3000

open PyProof.Rows.LCg
local macro_rules | `(tactic| walk_at "binaryOp RShift int int") => `(tactic| (k_here; k_dflt (refine rs_go (by assumption) ?_)))
local macro_rules | `(tactic| walk_at "binaryOp Pow int int") => `(tactic| (k_here; k_dflt (refine pw_go (by assumption) ?_)))
local macro_rules | `(tactic| walk_at "binaryOp Mult int int") => `(tactic| (k_here; k_dflt (refine mu_go (by assumption) ?_)))
local macro_rules | `(tactic| walk_at "binaryOp Mod int int") => `(tactic| (k_here; k_dflt (refine md_go (by assumption) ?_)))
local macro_rules | `(tactic| walk_at "CompSrc") => `(tactic| ((with_reducible show CompSrc _ _ _ _ _ _ _ _ _ _ _ _ _ _); refine hold_ ?_))

/-- the heights -/
noncomputable def lowL (n q : Nat) : List Int := 1 :: (List.range n).map (fun i : Nat => ((1 + (i : Int)) * q + n - 1) / n)
theorem ints_of {n : Nat} {f : Nat → Int} {ys : List Value} (hl : ys.length = n) (h : ∀ (i : Nat) (y : Value), ys[i]? = some y → ∃ t, y = Value.int (f i) t) : IntsAre ys ((List.range n).map f) := by
  have key : ∀ (k i : Nat) (zs : List Value), zs.length = k → (∀ (j : Nat) (y : Value), zs[j]? = some y → ∃ t, y = Value.int (f (i + j)) t) → IntsAre zs ((List.range' i k).map f) := by
    intro k
    induction k with
    | zero => intro i zs hz _; rw [List.length_eq_zero_iff.mp hz]; exact .nil
    | succ k ih =>
      intro i zs hz ho
      cases zs with
      | nil => cases hz
      | cons z zs =>
        obtain ⟨t, e⟩ := ho 0 z rfl
        rw [e]
        refine .cons _ t (ih (i + 1) zs (by simpa using hz) fun j y hy => ?_)
        have := ho (j + 1) y (by simpa using hy)
        rw [show i + 1 + j = i + (j + 1) by lia]; exact this
  rw [List.range_eq_range']
  exact key n 0 ys hl (fun j y hy => by rw [Nat.zero_add]; exact h j y hy)
theorem hgt {x q n p : Nat} {i : Nat} (hx1 : x = x) (hi : i < 11) (hn : (n : Int) ≤ 11) (hn0 : 0 < (n : Int)) (hp : 7 ≤ p) : -((-(1 + (i : Int)) * (((q : Int) * 2 ^ p - 1) / n)).fdiv (2 ^ p)) = ((1 + (i : Int)) * q + n - 1) / n := by
  have hP7 : (128 : Int) ≤ 2 ^ p := by
    obtain ⟨j, rfl⟩ : ∃ j, p = 7 + j := ⟨p - 7, by lia⟩
    rw [Int.pow_add]
    have : (0 : Int) < 2 ^ j := Int.pow_pos (by decide)
    rw [show (2 : Int) ^ 7 = 128 by decide]; lia
  generalize (2 : Int) ^ p = P at *
  have hP : 0 < P := by lia
  rw [Int.fdiv_eq_ediv_of_nonneg _ (Int.le_of_lt hP)]
  have hT := Int.ediv_mul_add_emod ((q : Int) * P - 1) n
  have hr0 := Int.emod_nonneg ((q : Int) * P - 1) (Int.ne_of_gt hn0)
  have hr1 := Int.emod_lt_of_pos ((q : Int) * P - 1) hn0
  generalize ((q : Int) * P - 1) / (n : Int) = T at *
  generalize ((q : Int) * P - 1) % (n : Int) = r at *
  have hL := Int.ediv_mul_add_emod ((1 + (i : Int)) * q + n - 1) n
  have hs0 := Int.emod_nonneg ((1 + (i : Int)) * q + n - 1) (Int.ne_of_gt hn0)
  have hs1 := Int.emod_lt_of_pos ((1 + (i : Int)) * q + n - 1) hn0
  generalize ((1 + (i : Int)) * q + n - 1) / (n : Int) = l at *
  generalize ((1 + (i : Int)) * q + n - 1) % (n : Int) = s at *
  generalize hX : (1 + (i : Int)) = X at *
  have hX1 : 1 ≤ X := by lia
  have hX2 : X ≤ 11 := by lia
  -- n * (X * T) = X * q * P - X * (1 + r)
  have e1 : X * T * n = X * q * P - X * (1 + r) := by
    have : X * (T * n + r) = X * ((q : Int) * P - 1) := by rw [hT]
    rw [Int.mul_add, Int.mul_sub, Int.mul_one, ← Int.mul_assoc, ← Int.mul_assoc] at this
    rw [Int.mul_add, Int.mul_one]; lia
  have b1 : X * (1 + r) ≤ 11 * 11 := Int.le_trans (Int.mul_le_mul_of_nonneg_right hX2 (by lia)) (Int.mul_le_mul_of_nonneg_left (by lia) (by decide))
  have b2 : 0 < X * (1 + r) := Int.mul_pos (by lia) (by lia)
  have e2 : X * q = l * n + s - n + 1 := by lia
  have e3 : X * q * P = l * P * n + (s - n + 1) * P := by
    rw [e2, show l * n + s - n + 1 = l * n + (s - n + 1) by lia, Int.add_mul, Int.mul_assoc, Int.mul_comm (n : Int) P, ← Int.mul_assoc]
  have c1 : (s - n + 1) * P ≤ 0 := Int.mul_nonpos_of_nonpos_of_nonneg (by lia) (Int.le_of_lt hP)
  have c2 : P - n * P ≤ (s - n + 1) * P := by
    have : (1 - (n : Int)) * P ≤ (s - n + 1) * P := Int.mul_le_mul_of_nonneg_right (by lia) (Int.le_of_lt hP)
    rw [Int.sub_mul, Int.one_mul] at this; exact this
  have u1 : X * T ≤ l * P := by
    refine Int.le_of_mul_le_mul_right ?_ hn0
    lia
  have u2 : l * P - P < X * T := by
    refine Int.lt_of_mul_lt_mul_right (a := (n : Int)) ?_ (Int.le_of_lt hn0)
    rw [Int.sub_mul, Int.mul_comm P]
    lia
  have d1 : -X * T / P = -l := by
    rw [Int.neg_mul]
    refine Int.le_antisymm ?_ ?_
    · have : -(X * T) / P < -l + 1 := Int.ediv_lt_of_lt_mul hP (by rw [Int.add_mul, Int.one_mul, Int.neg_mul]; lia)
      lia
    · exact (Int.le_ediv_iff_mul_le hP).mpr (by rw [Int.neg_mul]; lia)
  rw [d1]; lia
theorem ne_data {h₀ h : Heap} {L a b : Addr} {o1 o2 : Obj} {l : List (Addr × Obj)} (N : News h₀ L h l) (h1 : (a, o1) ∈ l) (h2 : (b, o2) ∈ l) (hc : o1.data ≠ o2.data) : @Ne Nat a b := by
  intro e
  have e1 := (N _ h1).1
  have e2 := (N _ h2).1
  dsimp only at e1 e2
  rw [show a = b from e, e2] at e1
  exact hc (congrArg Obj.data (Option.some.inj e1)).symm
theorem heights_c (w : World) (p : Program) (loose : List Str) (mean : ExcName → Option Value) (mg mb : Str → Option Value) (dp un : Nat) (gd : Option (List Code)) (cn : Str) (cs : Scope) (a : Addr) (ccd : Value) (cl : List (Str × Addr)) (outer : List Env) (A₀ : Around) (base h₀ : Heap) (L : Addr) (m : Str → Option Value) (s : Shared) (Q E : Value → Shared → Prop)
   (B : Below A₀ base outer h₀) (F : Fr h₀ L s.heap m) (X : (KL w.params).In h₀) (T : Top p loose mean mg mb h₀) (hk : cs.kind = .function) (hd1 : dp + 140 < recursionLimit) (hu : un + 8 * 140 < cLine)
   (own : List (Addr × Obj)) (n q p' : Nat) (u1 u2 u3 : Tok) (N : News h₀ L s.heap own) (him : importsNone p = true)
   (hn3 : 3 ≤ n) (hn : n ≤ 11) (hq1 : 1 ≤ q) (hq2 : q < n) (hp7 : 7 ≤ p') (hp8 : p' ≤ 7906)
   (hret : ∀ s' l vals nl, Kp s s' → Fr h₀ L s'.heap m → News h₀ L s'.heap ((l, listOf vals.toArray nl) :: own) → IntsAre vals (lowL n q) → (∀ p ∈ own, p.1 < l) → Q (.ref l) s') :
   wpAny (model Challenge.rw_xi0019_01.row.prog w) (ktrTop dp un gd cn cs L a ccd cl outer) (call (.ref 284) [.int n u1, .int q u2, .int p' u3]) Q E s := by
  revert X; k_fill; intro X
  refine ex5_el (hf_of n q p' hn3 hn hq1 hq2 hp7 hp8) fun m1 fa qp wh dv hz8 => ?_
  refine ex4_el hz8 fun a12 a3 b1 b2 hf => ?_
  clear hz8
  have g1 := hf.w2
  have g2 := hf.d2
  have g3 := hf.d3
  have g4 := hf.w3
  have g5 := hf.e1
  have g6 := hf.e2
  have g7 := hf.e3
  have g8 := hf.e4
  have g9 := hf.e5
  have g10 := hf.r1
  have g11 := hf.r2
  have g12 := hf.r3
  have g13 := hf.r4
  have c1 := hf.c1
  have c2 := hf.c2
  have c3 := hf.c3
  have c4 := hf.c4
  have c5 := hf.c5
  have c6 := hf.c6
  have c7 := hf.c7
  have c8 := hf.c8
  have c9 := hf.c9
  have x1 := hf.x1
  have x2 := hf.x2
  have x3 := hf.x3
  have y1 := hf.y1
  have y2 := hf.y2
  clear hf
  refine wpAny_call ?_
  k_dflt (refine' code_defC (binds := [(Str.ofString "n", .int n u1), (Str.ofString "q", .int q u2), (Str.ofString "places", .int p' u3)]) ?k1 ?k2 ?k3 ?k4 ?k5 ?kA ?kF ?kK ?k6 ?k7 ?k8 ?k9 ?kB ?kD ?_ ?c2 ?c3 ?c4; (case kA => exact rfl); (case kF => exact rfl); (case kK => first | exact rfl | assumption); (case k1 => k_asm); (case k2 => k_asm); (case k3 => k_asm); (case k4 => k_asm); (case k5 => k_asm); (case k6 => k_is); (case k7 => k_is); (case k8 => ktr_room); (case k9 => exact BindsTo.of_eq rfl); (case kB => exact rfl); (case kD => decide +kernel); (case c2 => exact rfl); (case c3 => exact rfl); (case c4 => exact rfl); k_whole; intro g' L' h' tk' cells' FG' F' N' Y' B' X' T' l1; (try k_lt l1); k_cells Y'; (try simp only [List.cons_append, List.nil_append] at N'); (try dsimp only); (try k_lift B'); (try k_fold))
  have hl9 : ∀ p ∈ own, p.1 < L' := by first | exact l1 | exact of_allLt _ l1
  have ho9 : OwnOff own [L' + 1 + 1, L' + 1] := fun p hp b hb => by
    have h9 : @LT.lt Nat _ p.1 L' := hl9 p hp
    simp only [List.mem_cons, List.not_mem_nil, or_false] at hb
    rcases hb with rfl | rfl
    · exact Nat.ne_of_lt (show @LT.lt Nat _ p.1 (L' + 1 + 1) by lia)
    · exact Nat.ne_of_lt (show @LT.lt Nat _ p.1 (L' + 1) by lia)
  k_steps
  refine Hold.go (fd_go (by assumption) (PySem.PylongRoom.of (PySem.Heap.NoLimit.keeps T'.nolimit (PyProof.Rows.Fr.keep (by assumption))) (by (simp only [depth_deeper]; (try dsimp only [ktrTop]); show _ + 100 < _; lia)) (PySem.SeerAt.of (PySem.Heap.NoSeer.keeps (T'.seer him) (PyProof.Rows.Fr.keep (by assumption))) rfl rfl rfl rfl rfl rfl)) ?_)
  k_steps
  refine Hold.go (fd_go (by assumption) (PySem.PylongRoom.of (PySem.Heap.NoLimit.keeps T'.nolimit (PyProof.Rows.Fr.keep (by assumption))) (by (simp only [depth_deeper]; (try dsimp only [ktrTop]); show _ + 100 < _; lia)) (PySem.SeerAt.of (PySem.Heap.NoSeer.keeps (T'.seer him) (PyProof.Rows.Fr.keep (by assumption))) rfl rfl rfl rfl rfl rfl)) ?_)
  k_steps
  refine Hold.go (fd_go (by assumption) (PySem.PylongRoom.of (PySem.Heap.NoLimit.keeps T'.nolimit (PyProof.Rows.Fr.keep (by assumption))) (by (simp only [depth_deeper]; (try dsimp only [ktrTop]); show _ + 100 < _; lia)) (PySem.SeerAt.of (PySem.Heap.NoSeer.keeps (T'.seer him) (PyProof.Rows.Fr.keep (by assumption))) rfl rfl rfl rfl rfl rfl)) ?_)
  k_steps
  k_here
  k_dflt (refine' div3_full _ _ _ _ _ _ _ _ _ _ _ _ _ _ _ _ _ _ _ _ _ _ _ ?cB ?cF ?cX ?cT ?ck ?cd ?cu _ _ _ _ _ _ _ _ _ _ _ _ _ ?N him (show p' ≤ 7999 by lia) c1 c2 c3 c4 c5 c6 c7 c8 c9 ?_; (case cB => k_asm); (case cF => k_asm); (case cX => k_asm); (case cT => k_asm); (case ck => first | exact rfl | assumption); (case cd => ktr_room); (case cu => ktr_units))
  case N => k_asm
  intro s5 t5 u9 v9 kp5 F5 N5
  rw [← x1] at N5
  have md : FD (wh % dv) dv 0 := FD.of x3 (Int.ediv_eq_zero_of_lt (Int.emod_nonneg _ (by lia)) (Int.emod_lt_of_pos _ x3))
  have sb : wh - wh / dv * dv = wh % dv := by have := Int.ediv_mul_add_emod wh dv; lia
  rename_i o0 o1 dd1 dd2 _ h0a o3 dd3 _ _ h0b _ _ h0c _ _ h0d Fq Nq _
  have nt1 : @Ne Nat t5 (L' + 1 + 1) := ne_data N5 (.head _) (.tail _ (.head _)) (by rw [dd1]; simp)
  have nt2 : @Ne Nat t5 (L' + 1) := ne_data N5 (.head _) (.tail _ (.tail _ (.head _))) (by rw [dd3]; simp)
  k_steps
  · refine Hold.go (fd_go (by assumption) (PySem.PylongRoom.of (PySem.Heap.NoLimit.keeps T'.nolimit (PyProof.Rows.Fr.keep (by assumption))) (by (simp only [depth_deeper]; (try dsimp only [ktrTop]); show _ + 100 < _; lia)) (PySem.SeerAt.of (PySem.Heap.NoSeer.keeps (T'.seer him) (PyProof.Rows.Fr.keep (by assumption))) rfl rfl rfl rfl rfl rfl)) ?_)
    k_steps
    refine Hold.go (ListComp_U (by assumption) rfl (by decide) rfl (by decide) rfl ?_)
    k_steps
    refine Hold.go (CompSrc.range (n := n) rfl (by assumption) (by assumption) (by assumption) (small_one (by lia) (by lia) (by lia) (by lia)) (by rw [rangeSize_nat]; lia) (Nat.le_trans (show n ≤ 200 by lia) (by decide)) fun g9 => ?_)
    refine compRest_of trivial (fun i y => ∃ t, y = .int (-((-(1 + (i : Int)) * (wh / dv)).fdiv (2 ^ p'))) t) ?_ ?_
    · intro i v I oI C oC D ys m₂ h8 tk8 E8 hi hv8 hns hm8 F8 N8 off8 ne8
      refine gen_Q fun W hW => ?_
      refine ex1_el hv8 fun t8 hv9 => ?_
      clear hv8
      subst hv9
      have f1 : MU (-(1 + (i : Int))) (wh / dv) (-(1 + (i : Int)) * (wh / dv)) := ⟨IntMulOk.of_left (intBits_le_64 (by lia) (by lia)), rfl⟩
      have f2 : FD (-(1 + (i : Int)) * (wh / dv)) (2 ^ p') ((-(1 + (i : Int)) * (wh / dv)).fdiv (2 ^ p')) := ⟨Int.ne_of_gt (Int.pow_pos (by decide)), rfl⟩
      k_steps
      refine Hold.go (fd_go (by assumption) (PySem.PylongRoom.of (PySem.Heap.NoLimit.keeps T'.nolimit (PyProof.Rows.Fr.keep (by assumption))) (by (simp only [depth_deeper]; (try dsimp only [ktrTop]); show _ + 100 < _; lia)) (PySem.SeerAt.of (PySem.Heap.NoSeer.keeps (T'.seer him) (PyProof.Rows.Fr.keep (by assumption))) rfl rfl rfl rfl rfl rfl)) ?_)
      k_steps
      refine hW _ _ ?_
      refine ⟨⟨_, rfl⟩, ex2_in _ _ ⟨rfl, by assumption, ?_⟩⟩
      rename News _ _ _ _ => N9
      exact news_sub N9 (by ((repeat refine sub_cons (by k_mem) ?_); first | exact sub_nil | k_allIn))
    · intro ys hyl hyo
      k_steps
      rename News _ _ _ _ => N9
      refine Hold.go (addList (a := [_]) (b := ys) (by assumption) N9 (.tail _ (.head _)) (.head _) (by rw [hyl]; simp only [List.length_cons, List.length_nil]; lia) fun D9 h9 F9 N10 l10 => ?_)
      k_steps
      have hys := ints_of (n := n) (f := fun i => -((-(1 + (i : Int)) * (wh / dv)).fdiv (2 ^ p'))) hyl hyo
      have hlow : (List.range n).map (fun i : Nat => -((-(1 + (i : Int)) * (wh / dv)).fdiv (2 ^ p'))) = (List.range n).map (fun i : Nat => ((1 + (i : Int)) * q + n - 1) / n) := by
        refine List.map_congr_left fun i hi => ?_
        rw [x2]
        exact hgt (x := 0) rfl (by have := List.mem_range.mp hi; lia) (by lia) (by lia) hp7
      rw [hlow] at hys
      refine hret _ D9 _ 0 ⟨kp5.os, fun g => kp5.bare g⟩ (by assumption) (news_sub (by assumption) (by ((repeat refine sub_cons (by k_mem) ?_); first | exact sub_nil | k_allIn))) (.cons 1 _ hys) (fun p hp => l10 p ?_)
      exact .tail _ (.tail _ (.tail _ (.tail _ (.tail _ (.tail _ hp)))))
  · exact absurd sb.symm (by assumption)


end

section
set_option Elab.async false
set_option maxRecDepth 100000
set_option maxHeartbeats 4000000
open PySem PySem.W PyProof.Rows PySem.Calls
namespace RV
theorem owner_r : Manifest.owners.lookup (String.ofList ['d', 'e', 's', 'r', 'e', 'v', 'e', 'r'].reverse) = some Manifest.sig_reversed := by kernel_rfl
theorem slot_next : Slot "reversed" "__next__" "reversed.__next__" :=
  .of (owner := "reversed") (n := "__next__") (by rw [typeLookup_type, builtinLookup_eq_fast]; kernel_rfl) (by decide +kernel) (by decide +kernel) (by decide +kernel)
    (by first | exact .inl (by decide +kernel) | exact .inr (by decide +kernel)) (by rw [isSubtype_type]; kernel_rfl)
theorem entry_next : entryFor table "reversed.__next__" = some Builtin.«reversed.__next__» := entryFor_of_tree (by kernel_rfl)
theorem args_next (a : Value) : argsOk "reversed.__next__" ⟨[a], []⟩ := by
  unfold argsOk; kernel_rfl
theorem slot_iter : Slot "reversed" "__iter__" "reversed.__iter__" :=
  .of (owner := "reversed") (n := "__iter__") (by rw [typeLookup_type, builtinLookup_eq_fast]; kernel_rfl) (by decide +kernel) (by decide +kernel) (by decide +kernel)
    (by first | exact .inl (by decide +kernel) | exact .inr (by decide +kernel)) (by rw [isSubtype_type]; kernel_rfl)
theorem args_iter (a : Value) : argsOk "reversed.__iter__" ⟨[a], []⟩ := by
  unfold argsOk; kernel_rfl
theorem entry_iter : entryFor table "reversed.__iter__" = some Builtin.«dict_keyiterator.__iter__» :=
  entryFor_alias (id' := "dict_keyiterator.__iter__") (by kernel_rfl) (by first | rfl | decide +kernel | (unfold String.splitOn; simp +decide [String.splitOnAux])) (by decide +kernel) (by kernel_rfl)
theorem slot_init : Slot "reversed" "__init__" "object.__init__" :=
  .of (owner := "object") (n := "__init__") (by rw [typeLookup_type, builtinLookup_eq_fast]; kernel_rfl) (by decide +kernel) (by decide +kernel) (by decide +kernel)
    (by first | exact .inl (by decide +kernel) | exact .inr (by decide +kernel)) (by rw [isSubtype_type]; kernel_rfl)
theorem called : TypeCalled "reversed" "reversed.__new__" "object.__init__" :=
  ⟨by decide +kernel, by decide +kernel, ⟨_, _, F.mro_reversed⟩, F.made_reversed, by decide +kernel, by rw [isSubtype_type]; kernel_rfl, slot_init⟩
noncomputable def revO (x : Str) (t : Tok) (i : Int) : Obj := { cls := .type "reversed", data := .fields #[.str x t, rawInt i] }
theorem no_rev : typeLookup (.type "str") "__reversed__" = pure none := by rw [typeLookup_type, builtinLookup_eq_fast]; kernel_rfl
theorem str_dict : isSubtype (.type "str") (.type "dict") = pure false := by rw [isSubtype_type]; kernel_rfl
theorem meets_new (x : Str) (t : Tok) (hx : x.length ≤ 1000000) : Meets (Builtin.«reversed.__new__» ⟨[.type "reversed", .str x t], []⟩) (fun _ R s => ∀ k, R (.ok (.ret (.ref s.heap.objs.size))) { s with heap := s.heap.push (revO x t ((x.length : Int) - 1)), toks := k }) :=
  .of_wp fun prog w A R s h => by
    unfold Builtin.«reversed.__new__»
    refine wpAny_bind (wpAny_of_eq (newClass_reversed _) ?_)
    try dsimp only
    refine wpAny_bind (wpAny_of_eq (a := ()) (by first | rfl | kernel_rfl) ?_)
    refine wpAny_bind (wpAny_of_eq (a := ()) (by first | rfl | kernel_rfl) ?_)
    try dsimp only
    refine wpAny_bind (wpAny_specialOf (typeIs_str s x t) no_rev ?_)
    try dsimp only
    refine wpAny_bind ?_
    show wpAny _ _ (isInstance (.str x t) (.type "dict") >>= _) _ _ s
    refine wpAny_bind (wpAny_isInstance (T := "str") (b := false) (typeIs_str s x t) str_dict ?_)
    try dsimp only
    rw [if_neg Bool.false_ne_true]
    refine wpAny_bind (wpAny_specialOf (typeIs_str s x t) F.slot_str_getitem.lookup ?_)
    try dsimp only
    rw [if_pos (by decide)]
    refine wpAny_pure ?_
    try dsimp only
    rw [if_neg (by decide)]
    refine wpAny_bind (PyProof.Rows.len_str (by lia) ?_)
    refine wpAny_bind (wpAny_pure ?_)
    try dsimp only
    unfold Builtin.SmallTypes.newRecord
    refine wpAny_bind (wpAny_newObj_type ?_ (by size_fits))
    exact wpAny_pure ⟨_, rfl, h _⟩
theorem call_rev {prog : Program} {w : World} {A : Around} {E : Value → Shared → Prop} {s : Shared} {x : Str} {t : Tok} {Q : Value → Shared → Prop} (hx : x.length ≤ 1000000)
    (h : ∀ k, Q (.ref s.heap.objs.size) { s with heap := s.heap.push (revO x t ((x.length : Int) - 1)), toks := k }) : wpAny (model prog w) A (call (.type "reversed") [.str x t]) Q E s :=
  callType_new called (by decide) (F.typeCall_reversed_1 _) (F.newCall_reversed_1 _) (fun obj => F.args_object_init_2 obj _) F.entry_reversed_new (meets_new x t hx) fun k => ⟨⟨_, Heap.get?_push_size _ rfl, rfl⟩, h k⟩
def IsRev (h : Heap) (a : Addr) (x : Str) (t : Tok) (i : Int) : Prop := ∃ o, h.get? a = some o ∧ o.cls = .type "reversed" ∧ o.data = .fields #[.str x t, rawInt i]
section
variable {prog : Program} {w : World} {A : Around} {E : Value → Shared → Prop} {s : Shared}
theorem IsRev.typeIs {a : Addr} {x : Str} {t : Tok} {i : Int} (h : IsRev s.heap a x t i) : s.TypeIs (.ref a) "reversed" := let ⟨o, ho, hc, _⟩ := h; ⟨o, ho, hc⟩
theorem IsRev.at {h h' : Heap} {a : Addr} {x : Str} {t : Tok} {i : Int} (y : IsRev h a x t i) (e : ∀ o, h.get? a = some o → h'.get? a = some o) : IsRev h' a x t i := let ⟨o, ho, r⟩ := y; ⟨o, e _ ho, r⟩
theorem next_item {it : Addr} {x : Str} {t : Tok} {i c : Nat} {Q : Option Value → Shared → Prop} (hit : IsRev s.heap it x t (i : Int)) (hx : x.cps[i]? = some c) (hi : i < 1000000)
    (hQ : ∀ h' u k, IsRev h' it x t ((i : Int) - 1) → Heap.SameBut it s.heap h' → Q (some (.str ⟨#[c]⟩ u)) { s with heap := h', toks := k }) : wpAny (model prog w) A (pyNext (.ref it)) Q E s := by
  obtain ⟨o, ho, hc, hd⟩ := id hit
  unfold pyNext
  refine wpAny_bind (wpAny_attempt (wpAny_callSpecial?_slot (name := Str.ofString "__next__") hit.typeIs slot_next
    (wpAny_call_entry slot_next hit.typeIs entry_next ?_ (args_next _))))
  unfold Builtin.«reversed.__next__»
  refine wpAny_bind (wpAny_of_eq (a := (Value.ref it, [])) rfl ?_)
  try dsimp only
  refine wpAny_bind (wpAny_field ho hd (x := .str x t) rfl ?_)
  refine wpAny_bind (wpAny_field ho hd (x := rawInt (i : Int)) rfl ?_)
  show wpAny _ _ (if (i : Int) < 0 then _ else _) _ _ s
  rw [if_neg (by lia)]
  refine wpAny_bind (wpAny_specialOf (typeIs_str s x t) F.slot_str_getitem.lookup ?_)
  rw [if_neg (by decide)]
  refine wpAny_bind (wpAny_mkInt ?_)
  have hlt : i < x.length := by
    have := Array.getElem?_eq_some_iff.mp hx
    exact this.1
  have hcc : (seqIndex? (i : Int) x.length).bind (x.cps[·]?) = some c := by
    have e1 : seqIndex? (i : Int) x.length = some i := by unfold seqIndex?; simp; lia
    rw [e1]; exact hx
  refine wpAny_bind (wpAny_attempt (getItem_str (by simp; lia) hcc ?_))
  try dsimp only
  refine wpAny_bind (wpAny_field ho hd (x := rawInt (i : Int)) rfl ?_)
  show wpAny _ _ (setField (.ref it) 1 (rawInt ((i : Int) - 1)) >>= _) _ _ _
  refine wpAny_bind (wpAny_setField ho hd (by simp) (wpAny_pure ⟨_, rfl, wpAny_pure (hQ _ _ _ ?_ (Heap.SameBut.update ..))⟩))
  exact ⟨_, Heap.get?_update_self _ ho (Obj.isFreed_of_fields (Obj.data_mapFields hd _)), (Obj.cls_mapFields ..).trans hc, by
    rw [Obj.data_mapFields hd]; simp⟩
theorem next_end {it : Addr} {x : Str} {t : Tok} {Q : Option Value → Shared → Prop} (hh : A.handled = none) (hit : IsRev s.heap it x t (-1))
    (hQ : ∀ h', Heap.ExtBut it s.heap h' → Q none { s with heap := h' }) : wpAny (model prog w) A (pyNext (.ref it)) Q E s := by
  obtain ⟨o, ho, hc, hd⟩ := id hit
  unfold pyNext
  refine wpAny_bind (wpAny_attempt (wpAny_callSpecial?_slot (name := Str.ofString "__next__") hit.typeIs slot_next
    (wpAny_call_entry slot_next hit.typeIs entry_next ?_ (args_next _))))
  unfold Builtin.«reversed.__next__»
  refine wpAny_bind (wpAny_of_eq (a := (Value.ref it, [])) rfl ?_)
  try dsimp only
  refine wpAny_bind (wpAny_field ho hd (x := .str x t) rfl ?_)
  refine wpAny_bind (wpAny_field ho hd (x := rawInt (-1)) rfl ?_)
  show wpAny _ _ (if (-1 : Int) < 0 then _ else _) _ _ s
  rw [if_pos (by decide)]
  refine wpAny_bind (wpAny_rule ?_)
  refine wpAny_bind ?_
  show wpAny _ _ (setField (.ref it) 1 (rawInt (-1)) >>= fun _ => setField (.ref it) 0 .none) _ _ _
  refine wpAny_bind (wpAny_setField ho hd (by simp) ?_)
  have ho2 := Heap.get?_update_self (Obj.mapFields (·.setIfInBounds 1 (rawInt (-1)))) ho (Obj.isFreed_of_fields (Obj.data_mapFields hd _))
  refine wpAny_setField ho2 (Obj.data_mapFields hd _) (by simp) ?_
  refine wpAny_bind ?_
  show wpAny _ _ (newExc (.type "StopIteration") [] >>= _) _ _ _
  refine wpAny_bind ?_
  simp only [newExc, newTuple]
  refine wpAny_bind (wpAny_newObj_type ?_ (by size_fits))
  refine wpAny_bind (m := firstArgMember _ _) (wpAny_of_eq (a := Value.none) (by first | rfl | (simp only [firstArgMember]; rfl)) ?_)
  refine wpAny_newObj_type ?_ (by size_fits)
  simp only [raiseNew]
  refine wpAny_bind (wpAny_handled ?_)
  first | rw [show A.in1.handled = none from hh] | rw [hh]
  refine wpAny_bind (wpAny_pure (wpAny_throw ?_))
  refine wpAny_bind (wpAny_isInstance (T := "StopIteration") (b := true) ⟨_, Heap.get?_push_size _ rfl, rfl⟩ isSubtype_stop ?_)
  exact wpAny_pure (hQ _ (((Heap.SameBut.trans (Heap.SameBut.update ..) (Heap.SameBut.update ..)).extBut.push _).push _))
theorem iter_rev {it : Addr} {x : Str} {t : Tok} {i : Int} {Q : Value → Shared → Prop} (hit : IsRev s.heap it x t i) (h : Q (.ref it) s) : wpAny (model prog w) A (pyIter (.ref it)) Q E s := by
  refine wpAny_pyIter_slot hit.typeIs slot_iter (wpAny_call_entry slot_iter hit.typeIs entry_iter ?_ (args_iter _))
  show wpAny _ _ (ret (.ref it)) _ _ s
  exact wpAny_pure ⟨_, rfl, "reversed", _, hit.typeIs, slot_next.lookup, h⟩
end
theorem walks {prog : Program} {w : World} {A : Around} (hh : A.handled = none) (I : Addr) (x : Str) (t : Tok) (hx : x.length ≤ 1000000) :
    Walks prog w A I [I] [I] x.cps.size (fun i v => ∃ c u, x.cps[x.cps.size - 1 - i]? = some c ∧ v = .str ⟨#[c]⟩ u) (fun i h => i ≤ x.cps.size ∧ IsRev h I x t ((x.cps.size : Int) - 1 - (i : Int))) where
  sub := fun b hb => hb
  frame := fun _ _ _ y hk => ⟨y.1, y.2.at fun o e => hk I (by simp) o e⟩
  item := fun i s Q E hi y hQ => by
    have e : (x.cps.size : Int) - 1 - (i : Int) = ((x.cps.size - 1 - i : Nat) : Int) := by lia
    have hit := y.2
    rw [e] at hit
    have hx1 : x.cps[x.cps.size - 1 - i]? = some (x.cps[x.cps.size - 1 - i]'(by lia)) := Array.getElem?_eq_getElem (by lia)
    have hx2 : x.cps.size ≤ 1000000 := hx
    refine next_item hit hx1 (by lia) fun h' u k hit' hs' => ?_
    have e2 : ((x.cps.size - 1 - i : Nat) : Int) - 1 = (x.cps.size : Int) - 1 - ((i + 1 : Nat) : Int) := by lia
    rw [e2] at hit'
    exact hQ _ h' k ⟨_, _, hx1, rfl⟩ ⟨hi, hit'⟩ fun b o hb eo => hs'.extBut b o (fun h => hb (by simp [h])) eo
  done := fun s Q E y hQ => by
    have e : (x.cps.size : Int) - 1 - (x.cps.size : Int) = -1 := by lia
    have hit := y.2
    rw [e] at hit
    exact next_end hh hit fun h' he' => hQ h' s.toks fun b o hb eo => he' b o (fun h => hb (by simp [h])) eo
  self := fun _ _ _ _ y hQ => iter_rev y.2 hQ
end RV
section
variable {prog : Program} {w : World} {A : Around} {E : Value → Shared → Prop} {s : Shared} {h₀ : Heap} {env : Env}
theorem loopR_rev {x : Str} {body orelse : List Stmt} {Q : Flow → Shared → Prop} {tx : Str} {t : Tok} {m : Str → Option Value} {news : List (Addr × Obj)}
    (stored : List Str) (R : Nat → List (Addr × Obj) → Prop) (hh : A.handled = none) (F : Fr h₀ env.locals s.heap m) (N : News h₀ env.locals s.heap news) (hR : R 0 news) (hx : tx.length ≤ 1000000)
    (turn : ∀ I i c t u nx s' oI, i < tx.cps.size → tx.cps[tx.cps.size - 1 - i]? = some c → R i nx → (∀ p ∈ nx, p.1 ≠ I) → oI.cls = .type "reversed" → Kp s s' → Fr h₀ env.locals s'.heap (fun y => if y = x then some (.str ⟨#[c]⟩ t) else mixM stored u m y) → News h₀ env.locals s'.heap ((I, oI) :: nx) →
        wpAny (model prog w) A (execs body env) (TurnR h₀ env.locals I oI stored m (R (i + 1)) s Q) E s')
    (done : ∀ u nx s', Kp s s' → R tx.cps.size nx → Fr h₀ env.locals s'.heap (mixM stored u m) → News h₀ env.locals s'.heap nx → wpAny (model prog w) A (execs orelse env) Q E s') :
    wpAny (model prog w) A (call (.type "reversed") [.str tx t]) (fun xv s₁ => wpAny (model prog w) A (pyIter xv) (LoopX prog w A h₀ env x body orelse Q E) E s₁) E s := by
  refine RV.call_rev hx fun k => RV.iter_rev (x := tx) (t := t) (i := (tx.length : Int) - 1) ⟨_, Heap.get?_push_size _ rfl, rfl, rfl⟩ ?_
  refine ⟨fun i m' nx => R i nx ∧ ∃ u, m' = mixM stored u m, _, _, _, _, m, news, rfl, RV.walks hh _ tx t hx, fun i h hi => let ⟨_, o, ho, _⟩ := hi; ⟨o, ho⟩, ⟨Nat.zero_le _, _, Heap.get?_push_size _ rfl, rfl, ?_⟩, F.push _, (fun p hp => ⟨Heap.get?_push_of_some _ (N p hp).1, (N p hp).2⟩), ?_, next_is_new F, ?_, ⟨hR, m, mixM_self _ _⟩, ?_, ?_⟩
  · show Data.fields #[.str tx t, rawInt ((tx.length : Int) - 1)] = Data.fields #[.str tx t, rawInt ((tx.cps.size : Int) - 1 - ((0 : Nat) : Int))]
    rw [show (tx.cps.size : Int) - 1 - ((0 : Nat) : Int) = (tx.length : Int) - 1 from by show (tx.length : Int) - 1 - ((0 : Nat) : Int) = _; lia]
  · exact fun e => absurd F.ns.lt (e ▸ Nat.lt_irrefl _)
  · exact fun p hp e => absurd (Heap.lt_size (N p hp).1) (e ▸ Nat.lt_irrefl _)
  · rintro i v m' nx s' oI hi ⟨c, u9, hc, rfl⟩ kp ⟨r1, u, rfl⟩ hn hst F' N'
    have hoJ : s'.heap.get? s.heap.objs.size = some oI := (N' (s.heap.objs.size, oI) (.head _)).1
    have hoI : oI.cls = .type "reversed" := by
      obtain ⟨_, o, ho, hc', _⟩ := hst
      rw [Option.some.inj (hoJ.symm.trans ho)]; exact hc'
    refine wpAny_mono (turn _ i c u9 u nx s' oI hi hc r1 hn hoI ⟨kp.os, kp.bare⟩ F' N') (fun f s₃ hf => ?_) fun _ _ e => e
    have z := hf.to
    cases f with
    | brk => exact z
    | ret v => exact z
    | next => obtain ⟨m', news', hk', r⟩ := z; exact ⟨m', news', ⟨hk'.os, hk'.bare⟩, r⟩
    | cont => obtain ⟨m', news', hk', r⟩ := z; exact ⟨m', news', ⟨hk'.os, hk'.bare⟩, r⟩
  · rintro m' nx s' kp ⟨r1, u, rfl⟩ F' N'
    exact done u nx s' ⟨kp.os, kp.bare⟩ r1 F' N'
end

end

section
open PySem PySem.W PyProof.Rows PySem.Calls
set_option Elab.async false
set_option maxRecDepth 100000
set_option maxHeartbeats 4000000
noncomputable def jw (p : Str × Str) : Str := p.1 ++ p.2
noncomputable def wless (a b : Str) : Bool := decide (a.cps.toList < b.cps.toList)
/-- a word is laid upon the pile (the topmost piece first) -/
noncomputable def wmerge : List (Str × Str) → (Str × Str) → List (Str × Str)
  | [], w => [w]
  | p :: r, w => if wless (jw w) (jw p) = true then wmerge r (jw w, jw p) else w :: p :: r
noncomputable def wst (l : List Nat) : List (Str × Str) := l.foldl (fun st c => wmerge st (Str.ofString "", ⟨#[c]⟩)) []
theorem wst_snoc (l : List Nat) (c : Nat) : wst (l ++ [c]) = wmerge (wst l) (Str.ofString "", ⟨#[c]⟩) := by unfold wst; rw [List.foldl_append]; rfl
theorem jw_len (p : Str × Str) : (jw p).length = p.1.length + p.2.length := Str.length_append _ _
theorem total_consW (p : Str × Str) (r : List (Str × Str)) : total (p :: r) = p.1.length + p.2.length + total r := by unfold total; rw [List.map_cons, List.sum_cons]
theorem wmerge_total : ∀ (st : List (Str × Str)) (w : Str × Str), total (wmerge st w) = total st + (w.1.length + w.2.length) := by
  intro st
  induction st with
  | nil => intro w; rw [wmerge, total_consW]; simp [total]
  | cons p r ih =>
    intro w
    rw [wmerge]
    split
    · rw [ih, total_consW, jw_len, jw_len]; lia
    · rw [total_consW, total_consW]; lia
theorem wmerge_len : ∀ (st : List (Str × Str)) (w : Str × Str), (wmerge st w).length ≤ st.length + 1 := by
  intro st
  induction st with
  | nil => intro w; rw [wmerge]; simp
  | cons p r ih =>
    intro w
    rw [wmerge]
    split
    · have := ih (jw w, jw p); simp only [List.length_cons]; lia
    · simp only [List.length_cons]; lia
theorem wst_total (l : List Nat) : total (wst l) = l.length ∧ (wst l).length ≤ l.length := by
  have key : ∀ (l : List Nat) (st : List (Str × Str)), total (l.foldl (fun st c => wmerge st (Str.ofString "", ⟨#[c]⟩)) st) = total st + l.length ∧ (l.foldl (fun st c => wmerge st (Str.ofString "", ⟨#[c]⟩)) st).length ≤ st.length + l.length := by
    intro l
    induction l with
    | nil => intro st; exact ⟨rfl, Nat.le_refl _⟩
    | cons c l ih =>
      intro st
      rw [List.foldl_cons]
      obtain ⟨h1, h2⟩ := ih (wmerge st (Str.ofString "", ⟨#[c]⟩))
      have h3 := wmerge_total st (Str.ofString "", ⟨#[c]⟩)
      have h4 := wmerge_len st (Str.ofString "", ⟨#[c]⟩)
      have e0 : (Str.ofString "").length = 0 := by decide
      have e1 : (⟨#[c]⟩ : Str).length = 1 := rfl
      simp only [List.length_cons]
      dsimp only at h3
      constructor <;> lia
  have := key l []
  simpa [wst, total] using this
theorem piece_le {ps : List (Str × Str)} {p : Str × Str} (h : p ∈ ps) : p.1.length + p.2.length ≤ total ps := by
  induction ps with
  | nil => exact absurd h List.not_mem_nil
  | cons a r ih =>
    rw [total_consW]
    rcases List.mem_cons.mp h with rfl | h
    · lia
    · have := ih h; lia
theorem small_total {ps : List (Str × Str)} (h1 : total ps ≤ 100) (h2 : ps.length ≤ 100) : Small ps := ⟨by lia, fun p hp => by have := piece_le hp; lia⟩
theorem total_rev (ps : List (Str × Str)) : total ps.reverse = total ps := by
  induction ps with
  | nil => rfl
  | cons a r ih => rw [List.reverse_cons, total_app, ih, total_consW, total_consW]; simp [total]; lia

end

section
open PySem PySem.W PyProof.Rows PySem.Calls
set_option Elab.async false
set_option maxRecDepth 100000
set_option maxHeartbeats 8000000
set_option pp.deepTerms false
set_option pp.maxSteps 3000
local macro_rules | `(tactic| walk_at "call type:reversed") => `(tactic| (k_here; refine hold_ ?_))
local macro_rules | `(tactic| walk_at "call builtin:list.append") => `(tactic| (k_here; (with_reducible show wpAny _ _ (call (Value.builtin "list.append") [Value.ref _, _]) _ _ _); refine hold_ ?_))

theorem off_Ix {x d I : Addr} {items : List Value} {n : Nat} {hs : Int} {tz : Tok} {k : Int} {tz' : Tok} {t1 t2 : Array Value} {own : List (Addr × Obj)} (h : ∀ p ∈ accL x d items n hs tz k tz' t1 t2 own, p.1 ≠ I) : ∀ b ∈ [x, d, 140, 147], I ≠ b := by
  intro b hb
  simp only [List.mem_cons, List.not_mem_nil, or_false] at hb
  rcases hb with rfl | rfl | rfl | rfl
  · exact (h _ (.head _)).symm
  · exact (h _ (.tail _ (.head _))).symm
  · exact (h _ (.tail _ (.tail _ (.head _)))).symm
  · exact (h _ (.tail _ (.tail _ (.tail _ (.head _))))).symm
theorem tup_offA {h₀ h : Heap} {L x d q : Addr} {items : List Value} {n : Nat} {hs : Int} {tz : Tok} {k : Int} {tz' : Tok} {t1 t2 : Array Value} {a b : Str} {ta tb : Tok} {own : List (Addr × Obj)}
    (N : News h₀ L h (accL x d items n hs tz k tz' t1 t2 ((q, tupO a ta b tb) :: own))) : ∀ y ∈ [x, d, 140, 147], q ≠ y := by
  have key : ∀ (y : Addr) (o : Obj), (y, o) ∈ accL x d items n hs tz k tz' t1 t2 ((q, tupO a ta b tb) :: own) → o.cls ≠ .type "tuple" → q ≠ y := fun y o h1 h2 e => by
    have e1 := (N (q, tupO a ta b tb) (.tail _ (.tail _ (.tail _ (.tail _ (.head _)))))).1
    have e2 := (N _ h1).1
    dsimp only at e1 e2
    rw [e, e2] at e1
    cases e1
    exact h2 rfl
  intro y hy
  simp only [List.mem_cons, List.not_mem_nil, or_false] at hy
  rcases hy with rfl | rfl | rfl | rfl
  · exact key _ _ (.head _) (by simp)
  · exact key _ _ (.tail _ (.head _)) (by simp)
  · exact key _ _ (.tail _ (.tail _ (.head _))) (by simp)
  · exact key _ _ (.tail _ (.tail _ (.tail _ (.head _)))) (by simp)
theorem nI_A {x d I : Addr} {items : List Value} {n : Nat} {hs : Int} {tz : Tok} {k : Int} {tz' : Tok} {t1 t2 : Array Value} {own : List (Addr × Obj)} (hI : ∀ b ∈ [x, d, 140, 147], I ≠ b) (ho : ∀ p ∈ own, p.1 ≠ I) : ∀ p ∈ accL x d items n hs tz k tz' t1 t2 own, p.1 ≠ I := by
  (repeat refine List.forall_mem_cons.mpr ⟨(hI _ (by simp)).symm, ?_⟩)
  exact ho
theorem ne_clsW {h₀ h : Heap} {L a b : Addr} {o1 o2 : Obj} {l : List (Addr × Obj)} (N : News h₀ L h l) (h1 : (a, o1) ∈ l) (h2 : (b, o2) ∈ l) (hc : o1.cls ≠ o2.cls) : a ≠ b := by
  intro e
  have e1 := (N _ h1).1
  have e2 := (N _ h2).1
  dsimp only at e1 e2
  rw [e, e2] at e1
  exact hc (congrArg Obj.cls (Option.some.inj e1)).symm
section
variable {prog : Program} {w : World} {A : Around} {E : Value → Shared → Prop} {s : Shared} {Q : Value → Shared → Prop} {h₀ : Heap} {L : Addr} {news : List (Addr × Obj)}
theorem join_two (a b : Str) : Txt.join (Str.ofString "") [a, b] = jw (a, b) := by
  rw [txt_join]
  show a ++ Str.ofString "" ++ b = a ++ b
  exact Str.ext' (by rw [Str.cps_append, Str.cps_append, Str.cps_append]; simp [show (Str.ofString "").cps = #[] from rfl])
theorem joinT {q : Addr} {a b : Str} {ta tb t : Tok} (N : News h₀ L s.heap news) (hm : (q, tupO a ta b tb) ∈ news) (hl : a.length + b.length ≤ 1000) (h : ∀ t' k, Q (.str (jw (a, b)) t') { s with toks := k }) :
    wpAny (model prog w) A (call (.builtin "str.join") [.str (Str.ofString "") t, .ref q]) Q E s :=
  join_tupleW (ys := [a, b]) (News.isTup N hm) (.cons _ _ (.cons _ _ .nil)) (by decide) (by simp only [List.map_cons, List.map_nil, List.sum_cons, List.sum_nil, List.length_cons, List.length_nil]; lia) (by rw [join_two]; exact h)
end
def RW (own : List (Addr × Obj)) (x : Addr) (d : Addr) (hs : Int) (tz : Tok) (tgt : List Str) (lw : Addr) (k : Nat) (nx : List (Addr × Obj)) : Prop := ∃ (st : List (Str × Str)) (its : List Value) (n3 : Nat) (tz2 : Tok) (m3 : Array Value) (m4 : Array Value) (ws : List Value) (nw : Nat) (o2 : List (Addr × Obj)) (dn : List Str), k = st.length ∧ nx = accL x d its n3 hs tz 0 tz2 m3 m4 ((lw, listOf ws.toArray nw) :: o2) ∧ PartsAre o2 its st.reverse ∧ StrsAre ws dn ∧ dn ++ st.map jw = tgt ∧ OwnOff ((lw, listOf ws.toArray nw) :: o2) [x, d, 140, 147] ∧ (∀ p ∈ o2, p.1 ≠ lw) ∧ total st ≤ 60 ∧ st.length ≤ 60 ∧ dn.length + st.length ≤ 60 ∧ TriplesOk m3.toList ∧ TriplesOk m4.toList ∧ (∀ p ∈ own, p ∈ o2) ∧ @LT.lt Nat _ x lw
theorem RW.mk {own : List (Addr × Obj)} {x : Addr} {d : Addr} {hs : Int} {tz : Tok} {tgt : List Str} {lw : Addr} {k : Nat} (st : List (Str × Str)) (its : List Value) (n3 : Nat) (tz2 : Tok) (m3 : Array Value) (m4 : Array Value) (ws : List Value) (nw : Nat) (o2 : List (Addr × Obj)) (dn : List Str) (q0 : k = st.length) (r0 : PartsAre o2 its st.reverse) (r1 : StrsAre ws dn) (r2 : dn ++ st.map jw = tgt) (r3 : OwnOff ((lw, listOf ws.toArray nw) :: o2) [x, d, 140, 147]) (r4 : (∀ p ∈ o2, p.1 ≠ lw)) (r5 : total st ≤ 60) (r6 : st.length ≤ 60) (r7 : dn.length + st.length ≤ 60) (r8 : TriplesOk m3.toList) (r9 : TriplesOk m4.toList) (r10 : (∀ p ∈ own, p ∈ o2)) (r11 : @LT.lt Nat _ x lw) :
    RW own x d hs tz tgt lw k (accL x d its n3 hs tz 0 tz2 m3 m4 ((lw, listOf ws.toArray nw) :: o2)) := ⟨st, its, n3, tz2, m3, m4, ws, nw, o2, dn, q0, rfl, r0, r1, r2, r3, r4, r5, r6, r7, r8, r9, r10, r11⟩
theorem RW.el {own : List (Addr × Obj)} {x : Addr} {d : Addr} {hs : Int} {tz : Tok} {tgt : List Str} {lw : Addr} {k : Nat} {nx : List (Addr × Obj)} {h₀9 hp9 : Heap} {L9 : Addr} {c9 : Prop} (h : RW own x d hs tz tgt lw k nx) (N : News h₀9 L9 hp9 (nx))
    (g : ∀ (st : List (Str × Str)) (its : List Value) (n3 : Nat) (tz2 : Tok) (m3 : Array Value) (m4 : Array Value) (ws : List Value) (nw : Nat) (o2 : List (Addr × Obj)) (dn : List Str), k = st.length → PartsAre o2 its st.reverse → StrsAre ws dn → dn ++ st.map jw = tgt → OwnOff ((lw, listOf ws.toArray nw) :: o2) [x, d, 140, 147] → (∀ p ∈ o2, p.1 ≠ lw) → total st ≤ 60 → st.length ≤ 60 → dn.length + st.length ≤ 60 → TriplesOk m3.toList → TriplesOk m4.toList → (∀ p ∈ own, p ∈ o2) → @LT.lt Nat _ x lw → News h₀9 L9 hp9 (accL x d its n3 hs tz 0 tz2 m3 m4 ((lw, listOf ws.toArray nw) :: o2)) → c9) : c9 := by
  obtain ⟨st, its, n3, tz2, m3, m4, ws, nw, o2, dn, q0, rfl, r0, r1, r2, r3, r4, r5, r6, r7, r8, r9, r10, r11⟩ := h
  exact g st its n3 tz2 m3 m4 ws nw o2 dn q0 r0 r1 r2 r3 r4 r5 r6 r7 r8 r9 r10 r11 N
def RA (own : List (Addr × Obj)) (x : Addr) (d : Addr) (hs : Int) (tz : Tok) (tgt : Nat → List (Str × Str)) (i : Nat) (nx : List (Addr × Obj)) : Prop := ∃ (items : List Value) (n2 : Nat) (tz1 : Tok) (m1 : Array Value) (m2 : Array Value) (own' : List (Addr × Obj)), nx = accL x d items n2 hs tz 0 tz1 m1 m2 own' ∧ PartsAre own' items (tgt i).reverse ∧ OwnOff own' [x, d, 140, 147] ∧ TriplesOk m1.toList ∧ TriplesOk m2.toList ∧ (∀ p ∈ own, p ∈ own')
theorem RA.mk {own : List (Addr × Obj)} {x : Addr} {d : Addr} {hs : Int} {tz : Tok} {tgt : Nat → List (Str × Str)} {i : Nat} (items : List Value) (n2 : Nat) (tz1 : Tok) (m1 : Array Value) (m2 : Array Value) (own' : List (Addr × Obj))  (r0 : PartsAre own' items (tgt i).reverse) (r1 : OwnOff own' [x, d, 140, 147]) (r2 : TriplesOk m1.toList) (r3 : TriplesOk m2.toList) (r4 : (∀ p ∈ own, p ∈ own')) :
    RA own x d hs tz tgt i (accL x d items n2 hs tz 0 tz1 m1 m2 own') := ⟨items, n2, tz1, m1, m2, own', rfl, r0, r1, r2, r3, r4⟩
theorem RA.el {own : List (Addr × Obj)} {x : Addr} {d : Addr} {hs : Int} {tz : Tok} {tgt : Nat → List (Str × Str)} {i : Nat} {nx : List (Addr × Obj)} {h₀9 hp9 : Heap} {L9 : Addr} {c9 : Prop} {I9 : Addr} {oI9 : Obj} (h : RA own x d hs tz tgt i nx) (N : News h₀9 L9 hp9 ((I9, oI9) :: nx)) (hn : ∀ p ∈ nx, p.1 ≠ I9)
    (g : ∀ (items : List Value) (n2 : Nat) (tz1 : Tok) (m1 : Array Value) (m2 : Array Value) (own' : List (Addr × Obj)), PartsAre own' items (tgt i).reverse → OwnOff own' [x, d, 140, 147] → TriplesOk m1.toList → TriplesOk m2.toList → (∀ p ∈ own, p ∈ own') → News h₀9 L9 hp9 ((I9, oI9) :: accL x d items n2 hs tz 0 tz1 m1 m2 own') → (∀ p ∈ (accL x d items n2 hs tz 0 tz1 m1 m2 own' : List (Addr × Obj)), p.1 ≠ I9) → c9) : c9 := by
  obtain ⟨items, n2, tz1, m1, m2, own', rfl, r0, r1, r2, r3, r4⟩ := h
  exact g items n2 tz1 m1 m2 own' r0 r1 r2 r3 r4 N hn
theorem RA.ew {own : List (Addr × Obj)} {x : Addr} {d : Addr} {hs : Int} {tz : Tok} {tgt : Nat → List (Str × Str)} {i : Nat} {nx : List (Addr × Obj)} {h₀9 hp9 : Heap} {L9 : Addr} {c9 : Prop} (h : RA own x d hs tz tgt i nx) (N : News h₀9 L9 hp9 (nx))
    (g : ∀ (items : List Value) (n2 : Nat) (tz1 : Tok) (m1 : Array Value) (m2 : Array Value) (own' : List (Addr × Obj)), PartsAre own' items (tgt i).reverse → OwnOff own' [x, d, 140, 147] → TriplesOk m1.toList → TriplesOk m2.toList → (∀ p ∈ own, p ∈ own') → News h₀9 L9 hp9 (accL x d items n2 hs tz 0 tz1 m1 m2 own') → c9) : c9 := by
  obtain ⟨items, n2, tz1, m1, m2, own', rfl, r0, r1, r2, r3, r4⟩ := h
  exact g items n2 tz1 m1 m2 own' r0 r1 r2 r3 r4 N
def RB (own : List (Addr × Obj)) (x : Addr) (d : Addr) (I : Addr) (oI : Obj) (hs : Int) (tz : Tok) (tgt : List (Str × Str)) (k : Nat) (wq : Addr) (nx : List (Addr × Obj)) : Prop := ∃ (st : List (Str × Str)) (w9 : Str × Str) (ta : Tok) (tb : Tok) (its : List Value) (n3 : Nat) (tz2 : Tok) (m3 : Array Value) (m4 : Array Value) (o2 : List (Addr × Obj)), k = st.length ∧ nx = accL x d its n3 hs tz 0 tz2 m3 m4 ((wq, tupO w9.1 ta w9.2 tb) :: (I, oI) :: o2) ∧ PartsAre o2 its st.reverse ∧ OwnOff ((wq, tupO w9.1 ta w9.2 tb) :: (I, oI) :: o2) [x, d, 140, 147] ∧ wmerge st w9 = tgt ∧ total st + (w9.1.length + w9.2.length) ≤ 60 ∧ st.length ≤ 60 ∧ TriplesOk m3.toList ∧ TriplesOk m4.toList ∧ (∀ p ∈ own, p ∈ o2) ∧ (∀ p ∈ o2, p.1 ≠ I)
theorem RB.mk {own : List (Addr × Obj)} {x : Addr} {d : Addr} {I : Addr} {oI : Obj} {hs : Int} {tz : Tok} {tgt : List (Str × Str)} {k : Nat} {wq : Addr} (st : List (Str × Str)) (w9 : Str × Str) (ta : Tok) (tb : Tok) (its : List Value) (n3 : Nat) (tz2 : Tok) (m3 : Array Value) (m4 : Array Value) (o2 : List (Addr × Obj)) (q0 : k = st.length) (r0 : PartsAre o2 its st.reverse) (r1 : OwnOff ((wq, tupO w9.1 ta w9.2 tb) :: (I, oI) :: o2) [x, d, 140, 147]) (r2 : wmerge st w9 = tgt) (r3 : total st + (w9.1.length + w9.2.length) ≤ 60) (r4 : st.length ≤ 60) (r5 : TriplesOk m3.toList) (r6 : TriplesOk m4.toList) (r7 : (∀ p ∈ own, p ∈ o2)) (r8 : (∀ p ∈ o2, p.1 ≠ I)) :
    RB own x d I oI hs tz tgt k wq (accL x d its n3 hs tz 0 tz2 m3 m4 ((wq, tupO w9.1 ta w9.2 tb) :: (I, oI) :: o2)) := ⟨st, w9, ta, tb, its, n3, tz2, m3, m4, o2, q0, rfl, r0, r1, r2, r3, r4, r5, r6, r7, r8⟩
theorem RB.el {own : List (Addr × Obj)} {x : Addr} {d : Addr} {I : Addr} {oI : Obj} {hs : Int} {tz : Tok} {tgt : List (Str × Str)} {k : Nat} {wq : Addr} {nx : List (Addr × Obj)} {h₀9 hp9 : Heap} {L9 : Addr} {c9 : Prop} (h : RB own x d I oI hs tz tgt k wq nx) (N : News h₀9 L9 hp9 (nx))
    (g : ∀ (st : List (Str × Str)) (w9 : Str × Str) (ta : Tok) (tb : Tok) (its : List Value) (n3 : Nat) (tz2 : Tok) (m3 : Array Value) (m4 : Array Value) (o2 : List (Addr × Obj)), k = st.length → PartsAre o2 its st.reverse → OwnOff ((wq, tupO w9.1 ta w9.2 tb) :: (I, oI) :: o2) [x, d, 140, 147] → wmerge st w9 = tgt → total st + (w9.1.length + w9.2.length) ≤ 60 → st.length ≤ 60 → TriplesOk m3.toList → TriplesOk m4.toList → (∀ p ∈ own, p ∈ o2) → (∀ p ∈ o2, p.1 ≠ I) → News h₀9 L9 hp9 (accL x d its n3 hs tz 0 tz2 m3 m4 ((wq, tupO w9.1 ta w9.2 tb) :: (I, oI) :: o2)) → c9) : c9 := by
  obtain ⟨st, w9, ta, tb, its, n3, tz2, m3, m4, o2, q0, rfl, r0, r1, r2, r3, r4, r5, r6, r7, r8⟩ := h
  exact g st w9 ta tb its n3 tz2 m3 m4 o2 q0 r0 r1 r2 r3 r4 r5 r6 r7 r8 N
theorem take_rev {tx : Str} {i c : Nat} (hi : i < tx.cps.size) (hc : tx.cps[tx.cps.size - 1 - i]? = some c) : tx.cps.toList.reverse.take i ++ [c] = tx.cps.toList.reverse.take (i + 1) := by
  have e : tx.cps.toList.reverse[i]? = some c := by
    rw [List.getElem?_reverse (by simpa using hi)]
    simpa using hc
  rw [List.take_add_one, e]; rfl
theorem words_c (w : World) (p : Program) (loose : List Str) (mean : ExcName → Option Value) (mg mb : Str → Option Value) (dp un : Nat) (gd : Option (List Code)) (cn : Str) (cs : Scope) (a : Addr) (ccd : Value) (cl : List (Str × Addr)) (outer : List Env) (A₀ : Around) (base h₀ : Heap) (L : Addr) (m : Str → Option Value) (s : Shared) (Q E : Value → Shared → Prop)
   (B : Below A₀ base outer h₀) (F : Fr h₀ L s.heap m) (X : (KL w.params).In h₀) (T : Top p loose mean mg mb h₀) (hk : cs.kind = .function) (hd1 : dp + 40 < recursionLimit) (hu : un + 8 * 40 < cLine)
   (own : List (Addr × Obj)) (t1 t2 : Array Value) (tx : Str) (ut : Tok)
   (N : News h₀ L s.heap ((140, tabObj t1) :: (147, tabObj t2) :: own)) (ho : OwnOff own [140, 147]) (ht1 : TriplesOk t1.toList) (ht2 : TriplesOk t2.toList) (htx : tx.length ≤ 50)
   (hret : ∀ s' l vals nl m1 m2, Kp s s' → Fr h₀ L s'.heap m → News h₀ L s'.heap ((l, listOf vals.toArray nl) :: (140, tabObj m1) :: (147, tabObj m2) :: own) → StrsAre vals ((wst tx.cps.toList.reverse).map jw) → TriplesOk m1.toList → TriplesOk m2.toList → (∀ p ∈ own, p.1 < l) → @LT.lt Nat _ 147 l → Q (.ref l) s') :
   wpAny (model Challenge.rw_xi0019_01.row.prog w) (ktrTop dp un gd cn cs L a ccd cl outer) (call (.ref 291) [.str tx ut]) Q E s := by
  revert X; k_fill; intro X
  refine wpAny_call ?_
  k_dflt (refine' code_def (binds := [(Str.ofString "way", .str tx ut)]) ?k1 ?k2 ?k3 ?k4 ?k5 ?kA ?kF ?kK ?k6 ?k7 ?k8 ?k9 ?kB ?_ ?c2 ?c3 ?c4 ?c5; (case kA => exact rfl); (case kF => exact rfl); (case kK => first | exact rfl | assumption); (case k1 => k_asm); (case k2 => k_asm); (case k3 => k_asm); (case k4 => k_asm); (case k5 => k_asm); (case k6 => k_is); (case k7 => k_is); (case k8 => ktr_room); (case k9 => exact BindsTo.of_eq rfl); (case c5 => decide); (case kB => exact locs rfl); (case c2 => exact rfl); (case c3 => exact rfl); (case c4 => exact rfl); k_whole; intro g' L' h' FG' F' N' B' X' T'; (try dsimp only); (try k_lift B'); (try k_fold))
  k_steps
  k_here
  k_dflt (refine' acc_new0_c _ _ _ _ _ _ _ _ _ _ _ _ _ _ _ _ _ _ _ _ _ _ _ ?cB ?cF ?cX ?cT ?ck ?cd ?cu _ ?N ?_; (case cB => k_asm); (case cF => k_asm); (case cX => k_asm); (case cT => k_asm); (case ck => first | exact rfl | assumption); (case cd => ktr_room); (case cu => ktr_units))
  case N => k_asm
  intro s1 x d n1 hs tz tk1 kp1 F1 N1 hlt hoA hxd
  have hd3 : @LT.lt Nat _ 147 d := hlt (147, tabObj t2) (.tail _ (.head _))
  k_steps
  have hl140 : @LT.lt Nat _ 140 x := by lia
  have hoX : OwnOff own [x, d, 140, 147] := fun p hp b hb => by
    simp only [List.mem_cons, List.not_mem_nil, or_false] at hb
    rcases hb with rfl | rfl | rfl | rfl
    · exact hoA p (.tail _ (.tail _ hp)) _ (.head _)
    · exact hoA p (.tail _ (.tail _ hp)) _ (.tail _ (.head _))
    · exact ho p hp _ (.head _)
    · exact ho p hp _ (.tail _ (.head _))
  refine Hold.go (loopR_rev ["sign", "word", "later"] (RA own x d hs tz (fun i => wst (tx.cps.toList.reverse.take i))) rfl (by assumption) (by assumption) (.mk [] _ _ _ _ own .nil hoX ht1 ht2 fun _ h => h) (by lia) ?turn ?done)
  case turn =>
    intro I i c t9 u nx s4 oI hi hc hR hnI hoI kp4 F4 N4
    refine gen_Q fun W hW => ?_
    refine RA.el hR N4 hnI ?_
    clear hR N4 hnI
    intro items n2 tz1 m1 m2 own' hp ho2 hm1 hm2 hsub N4 hnI
    try dsimp only at hp
    have hix : I ≠ x := fun e => hnI _ (.head _) e.symm
    have hst := wst_total (tx.cps.toList.reverse.take i)
    have hnext : wst (tx.cps.toList.reverse.take (i + 1)) = wmerge (wst (tx.cps.toList.reverse.take i)) (Str.ofString "", ⟨#[c]⟩) := by
      rw [← wst_snoc, take_rev hi hc]
    k_steps
    rename_i kTc
    rename News _ _ _ _ => N5
    have htot : total (wst (tx.cps.toList.reverse.take i)) ≤ 50 ∧ (wst (tx.cps.toList.reverse.take i)).length ≤ 50 := by
      have hz9 : tx.cps.toList.length ≤ 50 := (show tx.cps.toList.length = tx.length from Array.length_toList) ▸ htx
      have z1 : (tx.cps.toList.reverse.take i).length ≤ 50 := by
        rw [List.length_take, List.length_reverse]
        lia
      lia
    have e0 : (Str.ofString "").length = 0 := by decide
    have e1 : (⟨#[c]⟩ : Str).length = 1 := rfl
    have hox := off_Ix hnI
    have N6 := news_sub (l' := accL x d items n2 hs tz 0 tz1 m1 m2 ((_, tupO (Str.ofString "") _ ⟨#[c]⟩ _) :: (I, oI) :: own')) N5 (by ((repeat refine sub_cons (by k_mem) ?_); first | exact sub_nil | k_allIn))
    refine Hold.go (whileF "word" ["later"] (RB own x d I oI hs tz (wmerge (wst (tx.cps.toList.reverse.take i)) (Str.ofString "", ⟨#[c]⟩))) (n₀ := (wst (tx.cps.toList.reverse.take i)).length) (by assumption) N6 rfl ?wstart ?wturn)
    case wstart => exact .mk (wst (tx.cps.toList.reverse.take i)) (Str.ofString "", ⟨#[c]⟩) _ _ items n2 tz1 m1 m2 own' rfl hp (off_cons (tup_offA N6) (off_cons hox ho2)) rfl (by dsimp only; lia) (by lia) hm1 hm2 hsub fun p hp => hnI p (.tail _ (.tail _ (.tail _ (.tail _ hp))))
    case wturn =>
      intro k wq u9 nx s7 kp7 hR7 F7 N7
      refine gen_W fun W2 hW2 => ?_
      refine RB.el hR7 N7 ?_
      clear hR7 N7
      intro st w9 ta tb its n3 tz2 m3 m4 o2 hkst hp7 ho7 htg htt hsl hm3 hm4 hsub7 hI7 N7
      have hlen7 : its.length = st.length := by rw [hp7.len, List.length_reverse]
      have hd3' := hd3
      cases st with
      | nil =>
        obtain rfl : its = [] := List.length_eq_zero_iff.mp hlen7
        k_steps
        k_here
        k_dflt (refine' count2 _ _ _ _ _ _ _ _ _ _ _ _ _ _ _ _ _ _ _ _ _ _ _ ?cB ?cF ?cX ?cT ?ck ?cd ?cu _ _ _ _ _ _ _ _ _ _ _ [] ?N hxd hd3 ho7 ?hz ?_; (case cB => k_asm); (case cF => k_asm); (case cX => k_asm); (case cT => k_asm); (case ck => first | exact rfl | assumption); (case cd => ktr_room); (case cu => ktr_units))
        case N => k_asm
        case hz => simp
        intro s8 t8 kp8 F8 N8
        k_steps
        k_here
        k_dflt (refine' push2 _ _ _ _ _ _ _ _ _ _ _ _ _ _ _ _ _ _ _ _ _ _ _ ?cB ?cF ?cX ?cT ?ck ?cd ?cu _ _ _ _ _ _ _ _ _ _ _ [] ?N hxd hd3 ho7 _ _ _ _ ?hz ?_; (case cB => k_asm); (case cF => k_asm); (case cX => k_asm); (case cT => k_asm); (case ck => first | exact rfl | assumption); (case cd => ktr_room); (case cu => ktr_units))
        case N => k_asm
        case hz => simp
        intro s9 q9 n9 kp9 F9 N9
        k_steps
        rename News _ _ _ _ => N10
        have N11 : News _ _ _ (accL x d (([] : List Value) ++ [Value.ref q9]) n9 hs tz 0 tz2 m3 m4 ((q9, tupO w9.1 ta w9.2 tb) :: (I, oI) :: o2)) := news_sub N10 (by ((repeat refine sub_cons (by k_mem) ?_); first | exact sub_nil | k_allIn))
        have nq : q9 ≠ I := ne_clsW N11 (.tail _ (.tail _ (.tail _ (.tail _ (.head _))))) (.tail _ (.tail _ (.tail _ (.tail _ (.tail _ (.head _)))))) (by rw [hoI]; simp)
        refine hW _ _ ?_
        refine TurnR.mk _ (accL x d (([] : List Value) ++ [Value.ref q9]) n9 hs tz 0 tz2 m3 m4 ((q9, tupO w9.1 ta w9.2 tb) :: o2)) ⟨kp9.os.trans (kp8.os.trans (kp7.os.trans kp4.os)), fun g => kp9.bare (kp8.bare (kp7.bare (kp4.bare g)))⟩ (by assumption) (news_sub N11 (by ((repeat refine sub_cons (by k_mem) ?_); first | exact sub_nil | k_allIn))) (nI_A hox (List.forall_mem_cons.mpr ⟨nq, hI7⟩)) (.mk _ _ _ _ _ _ ?pts (off_cons (tup_offA N11) (fun p hp => ho7 p (.tail _ (.tail _ hp)))) hm3 hm4 fun p hp => .tail _ (hsub7 p hp)) fun y hy => ?_
        case pts =>
          rw [hnext, ← htg, wmerge]
          exact (PartsAre.nil).append (.cons (.head _) .nil)
        have y1 : y ≠ Str.ofString "word" := by rintro rfl; exact absurd hy (by decide)
        have y2 : y ≠ Str.ofString "later" := by rintro rfl; exact absurd hy (by decide)
        have y3 : y ≠ Str.ofString "sign" := by rintro rfl; exact absurd hy (by decide)
        have c1 : (["later"] : List Str).contains y = false := by simp [y2]
        simp only [updR, mixM, if_neg y1, if_neg y2, if_neg y3, c1, hy, Bool.false_eq_true, if_false]
      | cons p9 r9 =>
        obtain ⟨pa, pb⟩ := p9
        rw [List.reverse_cons] at hp7
        obtain ⟨its, pq, pta, ptb, rfl, hp8, hpq⟩ := hp7.snoc
        have hz9 : its.length = r9.length := by rw [hp8.len, List.length_reverse]
        have N7b : News _ _ _ (accL x d (its ++ [Value.ref pq]) n3 hs tz 0 tz2 m3 m4 ((pq, tupO pa pta pb ptb) :: (wq, tupO w9.1 ta w9.2 tb) :: (I, oI) :: o2)) := news_sub N7 (by
          (repeat refine sub_cons (by k_mem) ?_)
          exact List.forall_mem_cons.mpr ⟨.tail _ (.tail _ (.tail _ (.tail _ (.tail _ (.tail _ hpq))))), List.forall_mem_cons.mpr ⟨by k_mem, List.forall_mem_cons.mpr ⟨by k_mem, fun _ h => .tail _ (.tail _ (.tail _ (.tail _ (.tail _ (.tail _ h)))))⟩⟩⟩)
        clear N7
        have ho8 := off_cons (o := tupO pa pta pb ptb) (tup_offA N7b) ho7
        k_steps
        k_here
        k_dflt (refine' count2 _ _ _ _ _ _ _ _ _ _ _ _ _ _ _ _ _ _ _ _ _ _ _ ?cB ?cF ?cX ?cT ?ck ?cd ?cu _ _ _ _ _ _ _ _ _ _ _ [] ?N hxd hd3 ho8 ?hz ?_; (case cB => k_asm); (case cF => k_asm); (case cX => k_asm); (case cT => k_asm); (case ck => first | exact rfl | assumption); (case cd => ktr_room); (case cu => ktr_units))
        case N => k_asm
        case hz => simp only [List.length_cons] at hsl; simp only [List.length_append, List.length_cons, List.length_nil]; lia
        intro s8 t8 kp8 F8 N8
        have hcnt : ((its ++ [Value.ref pq]).length : Int) = (its.length : Int) + 1 := by simp only [List.length_append, List.length_cons, List.length_nil]; lia
        rw [hcnt]
        k_steps
        k_here
        k_dflt (refine' pop2 _ _ _ _ _ _ _ _ _ _ _ _ _ _ _ _ _ _ _ _ _ _ _ ?cB ?cF ?cX ?cT ?ck ?cd ?cu _ _ _ _ _ _ _ _ _ _ _ _ ?N hxd hd3 ho8 ?hz ?_; (case cB => k_asm); (case cF => k_asm); (case cX => k_asm); (case cT => k_asm); (case ck => first | exact rfl | assumption); (case cd => ktr_room); (case cu => ktr_units))
        case N => k_asm
        case hz => simp only [List.length_cons] at hsl; lia
        intro s9 n4 kp9 F9 N9
        k_steps
        have htt2 := htt
        rw [total_cons] at htt2
        dsimp only at htt2
        have hla : pa.length + pb.length ≤ 60 := by lia
        have hlw : w9.1.length + w9.2.length ≤ 60 := by lia
        rename News _ _ _ _ => M9
        k_here
        refine joinT M9 (.tail _ (.tail _ (.tail _ (.tail _ (.head _))))) (by lia) fun u10 k10 => ?_
        k_steps
        k_here
        k_dflt (refine' qname_new _ _ _ _ _ _ _ _ _ _ _ _ _ _ _ _ _ _ _ _ _ _ _ ?cB ?cF ?cX ?cT ?ck ?cd ?cu _ _ _ ?N ?_; (case cB => k_asm); (case cF => k_asm); (case cX => k_asm); (case cT => k_asm); (case ck => first | exact rfl | assumption); (case cd => ktr_room); (case cu => ktr_units))
        case N => k_asm
        intro s10 oq dq hq aq kp10 F10 N10 hdo hlt10
        k_steps
        rename News _ _ _ _ => M10
        k_here
        refine joinT M10 (.tail _ (.tail _ (.tail _ (.tail _ (.tail _ (.tail _ (.tail _ (.head _)))))))) (by lia) fun u11 k11 => ?_
        k_steps
        k_here
        refine cmp_ofGt ?_
        k_dflt (refine' cmp_K (K := KL w.params) ?k1 ?k2 ?k3 ?k4 ?k5 ?k6 ?k7 ?k8 ?_; (case k1 => ktr_units); (case k2 => k_asm); (case k3 => k_asm); (case k4 => (refine' InstAt.of_news ?N ?h1 ?h2; (case N => k_asm); (case h1 => k_mem); (case h2 => k_mem))); (case k5 => k_typeOf); (case k6 => k_is); (case k7 => k_is); (case k8 => k_is); k_whole)
        k_here
        k_dflt (refine' qname_gt _ _ _ _ _ _ _ _ _ _ _ _ _ _ _ _ _ _ _ _ _ _ _ ?cB ?cF ?cX ?cT ?ck ?cd ?cu _ _ _ _ _ _ _ _ _ ?N ?_; (case cB => k_asm); (case cF => k_asm); (case cX => k_asm); (case cT => k_asm); (case ck => first | exact rfl | assumption); (case cd => ktr_room); (case cu => ktr_units))
        case N => k_asm
        intro s11 kp11 F11 N11
        dsimp only [PySem.W.CmpBack]
        rw [show decide ((jw (w9.1, w9.2)).cps.toList < (jw (pa, pb)).cps.toList) = wless (jw w9) (jw (pa, pb)) from rfl]
        cases hb : wless (jw w9) (jw (pa, pb)) with
        | true =>
          k_steps
          rename News _ _ _ _ => M12
          k_here
          refine joinT M12 (.tail _ (.tail _ (.tail _ (.tail _ (.tail _ (.tail _ (.tail _ (.head _)))))))) (by lia) fun u12 k12 => ?_
          k_steps
          rename News _ _ _ _ => M13
          k_here
          refine joinT M13 (.tail _ (.tail _ (.tail _ (.tail _ (.tail _ (.tail _ (.head _))))))) (by lia) fun u13 k13 => ?_
          k_steps
          rename News _ _ _ _ => M14
          have N13 := news_sub (l' := accL x d its n4 hs tz 0 tz2 m3 m4 ((_, tupO (jw (w9.1, w9.2)) _ (jw (pa, pb)) _) :: (I, oI) :: o2)) M14 (by ((repeat refine sub_cons (by k_mem) ?_); first | exact sub_nil | k_allIn))
          rw [wmerge, if_pos hb] at htg
          have hj1 := jw_len w9
          have hj2 := jw_len (pa, pb)
          dsimp only at hj2
          refine hW2 _ _ ?_
          refine WFTurn.mk r9.length _ _ _ (by rw [hkst]; exact Nat.lt_succ_self _) (.mk r9 (jw w9, jw (pa, pb)) _ _ its n4 tz2 m3 m4 o2 rfl hp8 (off_cons (tup_offA N13) (fun p hp => ho7 p (.tail _ hp))) htg (by dsimp only; lia) (by simp only [List.length_cons] at hsl; lia) hm3 hm4 hsub7 hI7) ⟨kp11.os.trans (kp10.os.trans (kp9.os.trans (kp8.os.trans (kp7.os)))), fun g => kp11.bare (kp10.bare (kp9.bare (kp8.bare (kp7.bare g))))⟩ (by assumption) N13 rfl fun y y1 hy => ?_
          have y2 : y ≠ Str.ofString "later" := by rintro rfl; exact absurd hy (by decide)
          simp only [updR, mixM, if_neg y1, if_neg y2, hy, Bool.false_eq_true, if_false]
        | false =>
          k_steps
          rename News _ _ _ _ => M12
          have N12 : News _ _ _ (accL x d its n4 hs tz 0 tz2 m3 m4 ((pq, tupO pa pta pb ptb) :: (wq, tupO w9.1 ta w9.2 tb) :: (I, oI) :: o2)) := news_sub M12 (by ((repeat refine sub_cons (by k_mem) ?_); first | exact sub_nil | k_allIn))
          k_here
          k_dflt (refine' push2 _ _ _ _ _ _ _ _ _ _ _ _ _ _ _ _ _ _ _ _ _ _ _ ?cB ?cF ?cX ?cT ?ck ?cd ?cu _ _ _ _ _ _ _ _ _ _ _ [] ?N hxd hd3 ho8 _ _ _ _ ?hz ?_; (case cB => k_asm); (case cF => k_asm); (case cX => k_asm); (case cT => k_asm); (case ck => first | exact rfl | assumption); (case cd => ktr_room); (case cu => ktr_units))
          case N => exact N12
          case hz => simp only [List.length_cons] at hsl; lia
          intro s12 q8 n8 kp12 F12 N13
          have off13 := tup_offA N13
          k_steps
          refine hW2 _ _ ?_
          dsimp only [WFTurn]
          k_steps
          rename News _ _ _ _ => M14
          have ho14 := off_cons (o := tupO pa pta pb ptb) off13 ho8
          k_here
          k_dflt (refine' push2 _ _ _ _ _ _ _ _ _ _ _ _ _ _ _ _ _ _ _ _ _ _ _ ?cB ?cF ?cX ?cT ?ck ?cd ?cu _ _ _ _ _ _ _ _ _ _ _ [] ?N hxd hd3 ho14 _ _ _ _ ?hz ?_; (case cB => k_asm); (case cF => k_asm); (case cX => k_asm); (case cT => k_asm); (case ck => first | exact rfl | assumption); (case cd => ktr_room); (case cu => ktr_units))
          case N => k_asm
          case hz => simp only [List.length_cons] at hsl; simp only [List.length_append, List.length_cons, List.length_nil]; lia
          intro s14 q9 n9 kp14 F14 N14
          k_steps
          rename News _ _ _ _ => M15
          have N16 : News _ _ _ (accL x d (its ++ [Value.ref q8] ++ [Value.ref q9]) n9 hs tz 0 tz2 m3 m4 ((q9, tupO w9.1 ta w9.2 tb) :: (q8, tupO pa pta pb ptb) :: (I, oI) :: o2)) := news_sub M15 (by ((repeat refine sub_cons (by k_mem) ?_); first | exact sub_nil | k_allIn))
          have nq : q9 ≠ I := ne_clsW N16 (.tail _ (.tail _ (.tail _ (.tail _ (.head _))))) (.tail _ (.tail _ (.tail _ (.tail _ (.tail _ (.tail _ (.head _))))))) (by rw [hoI]; simp)
          have nq8 : q8 ≠ I := ne_clsW N16 (.tail _ (.tail _ (.tail _ (.tail _ (.tail _ (.head _)))))) (.tail _ (.tail _ (.tail _ (.tail _ (.tail _ (.tail _ (.head _))))))) (by rw [hoI]; simp)
          have o9 := tup_offA N16
          refine hW _ _ ?_
          refine TurnR.mk _ (accL x d (its ++ [Value.ref q8] ++ [Value.ref q9]) n9 hs tz 0 tz2 m3 m4 ((q9, tupO w9.1 ta w9.2 tb) :: (q8, tupO pa pta pb ptb) :: o2)) ⟨kp14.os.trans (kp12.os.trans (kp11.os.trans (kp10.os.trans (kp9.os.trans (kp8.os.trans (kp7.os.trans (kp4.os))))))), fun g => kp14.bare (kp12.bare (kp11.bare (kp10.bare (kp9.bare (kp8.bare (kp7.bare (kp4.bare g)))))))⟩ (by assumption) (news_sub N16 (by ((repeat refine sub_cons (by k_mem) ?_); first | exact sub_nil | k_allIn))) (nI_A hox (List.forall_mem_cons.mpr ⟨nq, List.forall_mem_cons.mpr ⟨nq8, hI7⟩⟩)) (.mk _ _ _ _ _ _ ?pts (off_cons o9 (off_cons (o := tupO pa pta pb ptb) off13 (fun p hp => ho7 p (.tail _ (.tail _ hp))))) hm3 hm4 fun p hp => .tail _ (.tail _ (hsub7 p hp))) fun y hy => ?_
          case pts =>
            rw [hnext, ← htg, wmerge, if_neg (by rw [hb]; exact Bool.false_ne_true), List.reverse_cons, List.reverse_cons]
            exact ((hp8.mono fun _ h => .tail _ (.tail _ h)).append (.cons (.tail _ (.head _)) .nil)).append (.cons (.head _) .nil)
          have y1 : y ≠ Str.ofString "word" := by rintro rfl; exact absurd hy (by decide)
          have y2 : y ≠ Str.ofString "later" := by rintro rfl; exact absurd hy (by decide)
          have y3 : y ≠ Str.ofString "sign" := by rintro rfl; exact absurd hy (by decide)
          have c1 : (["later"] : List Str).contains y = false := by simp [y2]
          simp only [updR, mixM, if_neg y1, if_neg y2, if_neg y3, c1, hy, Bool.false_eq_true, if_false]
  case done =>
    intro u nx s4 kp4 hR F4 N4
    refine RA.ew hR N4 ?_
    clear hR N4
    intro items n2 tz1 m1 m2 own' hp ho2 hm1 hm2 hsub N4
    try dsimp only at hp
    have hlen9 : tx.cps.toList.reverse.length = tx.length := by rw [List.length_reverse, Array.length_toList]; rfl
    rw [List.take_of_length_le (by rw [hlen9]; exact Nat.le_refl _)] at hp
    have hst := wst_total tx.cps.toList.reverse
    rw [hlen9] at hst
    have htr := total_rev (wst tx.cps.toList.reverse)
    have hsm := small_total (ps := (wst tx.cps.toList.reverse).reverse) (by lia) (by rw [List.length_reverse]; lia)
    k_steps
    k_here
    k_dflt (refine' len2 _ _ _ _ _ _ _ _ _ _ _ _ _ _ _ _ _ _ _ _ _ _ _ ?cB ?cF ?cX ?cT ?ck ?cd ?cu _ _ _ _ _ _ _ _ _ _ _ _ ?N hxd hd3 ho2 hm1 hm2 hp hsm (Int.le_refl 0) (by decide) ?_; (case cB => k_asm); (case cF => k_asm); (case cX => k_asm); (case cT => k_asm); (case ck => first | exact rfl | assumption); (case cd => ktr_room); (case cu => ktr_units))
    case N => k_asm
    intro s5 u5 m3 kp5 F5 N5 hm3
    rw [show (0 : Int) + ((total (wst tx.cps.toList.reverse).reverse : Nat) : Int) = (tx.length : Int) by rw [htr, hst.1]; lia]
    refine ⟨⟨by lia, by lia⟩, ?_⟩
    k_steps
    · exfalso
      first
        | lia
        | (with_reducible rename ((_ != _) = true) => hne; simp at hne)
    rename News _ _ _ _ => M6
    with_reducible rename (_ ∧ _ ∧ _ ∧ _ ∧ AllLt _ own') => lW
    have N6 := news_sub (l' := accL x d items n2 hs tz 0 tz1 m3 m2 ((_, listOf ([] : List Value).toArray 0) :: own')) M6 (by ((repeat refine sub_cons (by k_mem) ?_); first | exact sub_nil | k_allIn))
    refine and5_el lW fun g1 g2 g3 g4 g5 => ?_
    clear lW
    rename_i hA9 eqA9 lw hB9 hC9 FC9 _
    have hown9 : ∀ p ∈ own, p.1 < lw := fun p hp => of_allLt _ g5 p (hsub p hp)
    refine Hold.go (whileK (RW own x d hs tz ((wst tx.cps.toList.reverse).map jw) lw) (n₀ := (wst tx.cps.toList.reverse).length) (by assumption) N6 ?wh ?wt)
    case wh =>
      refine .mk (wst tx.cps.toList.reverse) items n2 tz1 m3 m2 [] 0 own' [] rfl hp .nil rfl (off_cons (fun b hb => ?_) ho2) (fun p hp => Nat.ne_of_lt (of_allLt _ g5 p hp)) (by lia) (by lia) (by simp only [List.length_nil]; lia) hm3 hm2 hsub g1
      simp only [List.mem_cons, List.not_mem_nil, or_false] at hb
      rcases hb with rfl | rfl | rfl | rfl
      · exact Nat.ne_of_gt g1
      · exact Nat.ne_of_gt g2
      · exact Nat.ne_of_gt g3
      · exact Nat.ne_of_gt g4
    case wt =>
      intro k nx s7 kp7 hR7 F7 N7
      refine gen_W fun W3 hW3 => ?_
      refine RW.el hR7 N7 ?_
      clear hR7 N7
      intro st its n3 tz2 m5 m6 ws nw o2 dn hkst hp7 hws htg ho7 hlw htt hsl hdl hm5 hm6 hsub7 hxl N7
      have hlen7 : its.length = st.length := by rw [hp7.len, List.length_reverse]
      have hwl := strs_len hws
      cases st with
      | nil =>
        obtain rfl : its = [] := List.length_eq_zero_iff.mp hlen7
        k_steps
        k_here
        k_dflt (refine' count2 _ _ _ _ _ _ _ _ _ _ _ _ _ _ _ _ _ _ _ _ _ _ _ ?cB ?cF ?cX ?cT ?ck ?cd ?cu _ _ _ _ _ _ _ _ _ _ _ [] ?N hxd hd3 ho7 ?hz ?_; (case cB => k_asm); (case cF => k_asm); (case cX => k_asm); (case cT => k_asm); (case ck => first | exact rfl | assumption); (case cd => ktr_room); (case cu => ktr_units))
        case N => k_asm
        case hz => simp
        intro s8 t8 kp8 F8 N8
        k_steps
        rename News _ _ _ _ => M8
        rw [List.map_nil, List.append_nil] at htg
        rw [htg] at hws
        exact hret _ lw ws nw m5 m6 ⟨kp8.os.trans (kp7.os.trans (kp5.os.trans (kp4.os.trans (kp1.os)))), fun g => kp8.bare (kp7.bare (kp5.bare (kp4.bare (kp1.bare g))))⟩ (by assumption) (news_sub M8 (by
          (repeat refine sub_cons (by k_mem) ?_)
          exact fun p hp => .tail _ (.tail _ (.tail _ (.tail _ (.tail _ (hsub7 p hp))))))) hws hm5 hm6 hown9 g4
      | cons p9 r9 =>
        obtain ⟨pa, pb⟩ := p9
        rw [List.reverse_cons] at hp7
        obtain ⟨its, pq, pta, ptb, rfl, hp8, hpq⟩ := hp7.snoc
        have hz9 : its.length = r9.length := by rw [hp8.len, List.length_reverse]
        have N7b : News _ _ _ (accL x d (its ++ [Value.ref pq]) n3 hs tz 0 tz2 m5 m6 ((lw, listOf ws.toArray nw) :: (pq, tupO pa pta pb ptb) :: o2)) := news_sub N7 (by
          (repeat refine sub_cons (by k_mem) ?_)
          exact List.forall_mem_cons.mpr ⟨.tail _ (.tail _ (.tail _ (.tail _ (.tail _ hpq)))), fun _ h => .tail _ (.tail _ (.tail _ (.tail _ (.tail _ h))))⟩)
        clear N7
        have ho8 : OwnOff ((lw, listOf ws.toArray nw) :: (pq, tupO pa pta pb ptb) :: o2) [x, d, 140, 147] := off_cons (fun b hb => ho7 _ (.head _) b hb) (off_cons (fun b hb => ho7 _ (.tail _ hpq) b hb) (fun p hp => ho7 p (.tail _ hp)))
        k_steps
        k_here
        k_dflt (refine' count2 _ _ _ _ _ _ _ _ _ _ _ _ _ _ _ _ _ _ _ _ _ _ _ ?cB ?cF ?cX ?cT ?ck ?cd ?cu _ _ _ _ _ _ _ _ _ _ _ [] ?N hxd hd3 ho8 ?hz ?_; (case cB => k_asm); (case cF => k_asm); (case cX => k_asm); (case cT => k_asm); (case ck => first | exact rfl | assumption); (case cd => ktr_room); (case cu => ktr_units))
        case N => k_asm
        case hz => simp only [List.length_cons] at hsl; simp only [List.length_append, List.length_cons, List.length_nil]; lia
        intro s8 t8 kp8 F8 N8
        have hcnt : ((its ++ [Value.ref pq]).length : Int) = (its.length : Int) + 1 := by simp only [List.length_append, List.length_cons, List.length_nil]; lia
        rw [hcnt]
        k_steps
        k_here
        k_dflt (refine' pop2 _ _ _ _ _ _ _ _ _ _ _ _ _ _ _ _ _ _ _ _ _ _ _ ?cB ?cF ?cX ?cT ?ck ?cd ?cu _ _ _ _ _ _ _ _ _ _ _ _ ?N hxd hd3 ho8 ?hz ?_; (case cB => k_asm); (case cF => k_asm); (case cX => k_asm); (case cT => k_asm); (case ck => first | exact rfl | assumption); (case cd => ktr_room); (case cu => ktr_units))
        case N => k_asm
        case hz => simp only [List.length_cons] at hsl; lia
        intro s9 n4 kp9 F9 N9
        k_steps
        have htt2 := htt
        rw [total_cons] at htt2
        dsimp only at htt2
        rename News _ _ _ _ => M9
        k_here
        refine joinT M9 (.tail _ (.tail _ (.tail _ (.tail _ (.tail _ (.head _)))))) (by lia) fun u10 k10 => ?_
        k_steps
        rename News _ _ _ _ => M10
        have N10 : News _ _ _ ((lw, listOf ws.toArray nw) :: (x, accO d its n4) :: (d, szD hs tz 0 tz2 1) :: (140, tabObj m5) :: (147, tabObj m6) :: o2) := news_sub M10 (by ((repeat refine sub_cons (by k_mem) ?_); first | exact sub_nil | k_allIn))
        refine Hold.go (appendL (by assumption) N10 (List.forall_mem_cons.mpr ⟨(ho7 _ (.head _) x (by simp)).symm, List.forall_mem_cons.mpr ⟨(ho7 _ (.head _) d (by simp)).symm, List.forall_mem_cons.mpr ⟨(ho7 _ (.head _) 140 (by simp)).symm, List.forall_mem_cons.mpr ⟨(ho7 _ (.head _) 147 (by simp)).symm, hlw⟩⟩⟩⟩) (by lia) fun h11 F11 N11 => ?_)
        k_steps
        rename News _ _ _ _ => M12
        refine hW3 _ _ ?_
        refine WKTurn.mk r9.length _ (by rw [hkst]; exact Nat.lt_succ_self _) (.mk r9 its n4 tz2 m5 m6 (ws ++ [Value.str (jw (pa, pb)) u10]) (nw + 1) o2 (dn ++ [jw (pa, pb)]) rfl hp8 (strs_snoc hws _ _) (by rw [← htg, List.map_cons, List.append_assoc]; rfl) (off_cons (fun b hb => ho7 _ (.head _) b hb) (fun p hp => ho7 p (.tail _ hp))) hlw (by lia) (by simp only [List.length_cons] at hsl; lia) (by simp only [List.length_cons] at hdl; simp only [List.length_append, List.length_cons, List.length_nil]; lia) hm5 hm6 hsub7 hxl) ⟨kp9.os.trans (kp8.os.trans (kp7.os)), fun g => kp9.bare (kp8.bare (kp7.bare g))⟩ (by assumption) (news_sub M12 (by ((repeat refine sub_cons (by k_mem) ?_); first | exact sub_nil | k_allIn)))


end

section
open PySem PySem.W PyProof.Rows PySem.Calls PyProof.Rows.LCg PyProof.Rows.LCt
set_option Elab.async false
set_option maxRecDepth 100000
set_option maxHeartbeats 4000000
section
variable {prog : Program} {w : World} {A : Around} {E : Value → Shared → Prop} {s : Shared} {h₀ : Heap} {L : Addr} {m : Str → Option Value} {env : Env}
/-- a comprehension with a test: what holds of the list so far -/
theorem compRestT_of {ct elt : Expr} {x : Str} {scope : Scope} {cl : List (Str × Addr)} {P : Nat → Value → Prop} {Fin : List Value → List (Addr × Obj) → Prop} {n : Nat} {news : List (Addr × Obj)} {S : List (Addr × Obj) → Prop} (hS : S news) (Inv : Nat → List Value → Prop) (h0 : Inv 0 [])
    (turn : ∀ i v I oI C oC D ys m₂ h tk (E' : Value → Shared → Prop), i < n → Inv i ys → P i v → NsObj oC m₂ → m₂ x = some v → Fr h₀ L h m → News h₀ L h ((I, oI) :: (C, oC) :: (D, lst ys) :: news) → Off3 I C D news → ((@Ne Nat I C) ∧ (@Ne Nat I D) ∧ (@Ne Nat C D)) →
      wpAny (model prog w) A (isTrue ct (compEnvC scope cl C env) (eval ct (compEnvC scope cl C env))) (fun ok s' => if ok = true then
        wpAny (model prog w) A (eval elt (compEnvC scope cl C env)) (EltEnd h₀ L m s ((I, oI) :: (C, oC) :: (D, lst ys) :: news) (fun y => Inv (i + 1) (ys ++ [y]))) E' s'
        else EltEnd h₀ L m s ((I, oI) :: (C, oC) :: (D, lst ys) :: news) (fun _ => Inv (i + 1) ys) Value.none s') E' { s with heap := h, toks := tk })
    (fin : ∀ ys : List Value, Inv n ys → Fin ys news) : CompRestT prog w A h₀ L m env ct elt x scope cl s S P Fin n 0 [] news := by
  have key : ∀ k i ys, i + k = n → Inv i ys → CompRestT prog w A h₀ L m env ct elt x scope cl s S P Fin k i ys news := by
    intro k
    induction k with
    | zero =>
      intro i ys hi ho
      refine .zero (fin ys ?_)
      rw [show n = i by lia]; exact ho
    | succ k ih =>
      intro i ys hi ho
      refine .succ fun v I oI C oC D m₂ h tk E' hP hns hm F N off ne => ?_
      refine wpAny_mono (turn i v I oI C oC D ys m₂ h tk E' (by lia) ho hP hns hm F N off ne) (fun ok s' hy => ?_) fun _ _ e => e
      cases ok with
      | true =>
        simp only [if_true] at hy ⊢
        refine wpAny_mono hy (fun y s' hy => ?_) fun _ _ e => e
        obtain ⟨ho1, h', tk', e, F', N'⟩ := hy
        exact ⟨h', tk', news, e, F', N', off, hS, ih (i + 1) (ys ++ [y]) (by lia) ho1⟩
      | false =>
        simp only [Bool.false_eq_true, if_false] at hy ⊢
        obtain ⟨ho1, h', tk', e, F', N'⟩ := hy
        exact ⟨h', tk', news, e, F', N', off, hS, ih (i + 1) ys (by lia) ho1⟩
  exact key n 0 [] (by lia) h0
end

end

section
open PySem PySem.W PyProof.Rows PySem.Calls PyProof.Rows.LCg PyProof.Rows.LCt
set_option Elab.async false
set_option maxRecDepth 100000
set_option maxHeartbeats 4000000
section
variable {prog : Program} {w : World} {A : Around} {E : Value → Shared → Prop} {s : Shared} {h₀ : Heap} {L : Addr} {m : Str → Option Value} {env : Env}
/-- the block's own frame, with its cells -/
theorem newEnv_around {scope : Scope} {globals : Addr} {closure : List (Str × Addr)} {qual : Str} {func : Option Addr} {code : Value} {outer : Env} {builtins : Addr} {Q : Env → Shared → Prop}
    (h : Q (newEnv scope s.heap.objs.size globals (cellsFrom (s.heap.objs.size + 1) scope.names closure) qual func code (some outer) builtins) { s with heap := pushCells (s.heap.push { cls := .type "dict", data := .dict #[] }) scope.names }) :
    wpAny (model prog w) A (newFunctionEnv scope globals closure [] qual func code (some outer) builtins) Q E s := by
  simp only [newFunctionEnv, Option.isSome_some, if_true]
  refine wpAny_bind (wpAny_alloc ?_)
  refine wpAny_bind (wpAny_layCells _ (fun name kind cells => by cases hkc : kind == NameKind.cell <;> simp [hkc]) _ _ _ _ ?_)
  rw [show ({ s with heap := s.heap.push { cls := .type "dict", data := .dict #[] } } : Shared).heap.objs.size = s.heap.objs.size + 1 from Heap.size_push ..]
  rw [List.forIn_nil]
  exact wpAny_bind (wpAny_pure (wpAny_pure h))
/-- a turn of a comprehension whose name is a cell -/
def TurnC (prog : Program) (w : World) (A : Around) (h₀ : Heap) (L : Addr) (m : Str → Option Value) (env : Env) (ifs : List Expr) (elt : Expr) (x : Str) (scope : Scope) (cl : List (Str × Addr)) (s : Shared) (P : Nat → Value → Prop) (n : Nat) (news : List (Addr × Obj)) (Inv : Nat → List Value → Prop) : Prop :=
  ∀ i v I oI K oK C oC D ys h tk (E' : Value → Shared → Prop), i < n → Inv i ys → P i v → oK.data = .cell (some v) → Fr h₀ L h m → News h₀ L h ((I, oI) :: (K, oK) :: (C, oC) :: (D, lst ys) :: news) →
    wpAny (model prog w) A (forIn ifs true fun c r => if r = true then do let ok ← isTrue c (compEnvC scope ((x, K) :: cl) C env) (eval c (compEnvC scope ((x, K) :: cl) C env)); pure (ForInStep.yield ok) else pure (ForInStep.yield r)) (fun ok s' => if ok = true then
      wpAny (model prog w) A (eval elt (compEnvC scope ((x, K) :: cl) C env)) (EltEnd h₀ L m s ((I, oI) :: (K, oK) :: (C, oC) :: (D, lst ys) :: news) (fun y => Inv (i + 1) (ys ++ [y]))) E' s'
      else EltEnd h₀ L m s ((I, oI) :: (K, oK) :: (C, oC) :: (D, lst ys) :: news) (fun _ => Inv (i + 1) ys) Value.none s') E' { s with heap := h, toks := tk }

/-- four addresses apart from a ledger's -/
def Off4 (I K C D : Addr) (l : List (Addr × Obj)) : Prop := ∀ p ∈ l, p.1 ≠ I ∧ p.1 ≠ C ∧ p.1 ≠ D ∧ p.1 ≠ K
/-- an element's end, the ledger as a word says -/
def EltG (h₀ : Heap) (L : Addr) (m : Str → Option Value) (s : Shared) (I : Addr) (oI : Obj) (K : Addr) (oK : Obj) (C : Addr) (oC : Obj) (D : Addr) (oD : Obj) (ok : Value → List (Addr × Obj) → Prop) (y : Value) (s' : Shared) : Prop :=
  ∃ h' tk' nx, s' = { s with heap := h', toks := tk' } ∧ Fr h₀ L h' m ∧ News h₀ L h' ((I, oI) :: (K, oK) :: (C, oC) :: (D, oD) :: nx) ∧ Off4 I K C D nx ∧ ok y nx
/-- a turn, the ledger as a word says -/
def TurnG (prog : Program) (w : World) (A : Around) (h₀ : Heap) (L : Addr) (m : Str → Option Value) (env : Env) (ifs : List Expr) (elt : Expr) (x : Str) (scope : Scope) (cl : List (Str × Addr)) (s : Shared) (P : Nat → Value → Prop) (n : Nat) (Inv : Nat → List Value → List (Addr × Obj) → Prop) : Prop :=
  ∀ i v I oI K oK C oC D ys nx h tk (E' : Value → Shared → Prop), i < n → Inv i ys nx → P i v → oK.data = .cell (some v) → Fr h₀ L h m → News h₀ L h ((I, oI) :: (K, oK) :: (C, oC) :: (D, lst ys) :: nx) → Off4 I K C D nx →
    wpAny (model prog w) A (forIn ifs true fun c r => if r = true then do let ok ← isTrue c (compEnvC scope ((x, K) :: cl) C env) (eval c (compEnvC scope ((x, K) :: cl) C env)); pure (ForInStep.yield ok) else pure (ForInStep.yield r)) (fun ok s' => if ok = true then
      wpAny (model prog w) A (eval elt (compEnvC scope ((x, K) :: cl) C env)) (EltG h₀ L m s I oI K oK C oC D (lst ys) (fun y nx' => Inv (i + 1) (ys ++ [y]) nx')) E' s'
      else EltG h₀ L m s I oI K oK C oC D (lst ys) (fun _ nx' => Inv (i + 1) ys nx') Value.none s') E' { s with heap := h, toks := tk }
theorem TurnC.gen {ifs : List Expr} {elt : Expr} {x : Str} {scope : Scope} {cl : List (Str × Addr)} {P : Nat → Value → Prop} {n : Nat} {news : List (Addr × Obj)} {Inv : Nat → List Value → Prop}
    (t : TurnC prog w A h₀ L m env ifs elt x scope cl s P n news Inv) : TurnG prog w A h₀ L m env ifs elt x scope cl s P n (fun i ys nx => nx = news ∧ Inv i ys) := by
  rintro i v I oI K oK C oC D ys nx h tk E' hi ⟨rfl, hinv⟩ hP hd F N off
  refine wpAny_mono (t i v I oI K oK C oC D ys h tk E' hi hinv hP hd F N) (fun ok s' hy => ?_) fun _ _ e => e
  cases ok with
  | true =>
    simp only [if_true] at hy ⊢
    refine wpAny_mono hy (fun y s' hy => ?_) fun _ _ e => e
    obtain ⟨ho1, h', tk', e, F', N'⟩ := hy
    exact ⟨h', tk', _, e, F', N', off, rfl, ho1⟩
  | false =>
    simp only [Bool.false_eq_true, if_false] at hy ⊢
    obtain ⟨ho1, h', tk', e, F', N'⟩ := hy
    exact ⟨h', tk', _, e, F', N', off, rfl, ho1⟩

def BCI (h₀ : Heap) (L : Addr) (m : Str → Option Value) (s₂ : Shared) (I K C D : Addr) (n : Nat) (St : Nat → Heap → Prop) (Inv : Nat → List Value → List (Addr × Obj) → Prop) (k : Nat) (s' : Shared) : Prop :=
  ∃ h' tk i ys m' v₀ nx, s' = { s₂ with heap := h', toks := tk } ∧ i ≤ n ∧ k = n + 1 - i ∧ ys.length ≤ i ∧ Inv i ys nx ∧ Off4 I K C D nx ∧ St i h' ∧ Fr h₀ L h' m ∧ h'.Ns C m' ∧ h'.IsCell K v₀ ∧ News h₀ L h' ((D, lst ys) :: nx)
theorem BCI.mk {m : Str → Option Value} {s₂ : Shared} {I K C D : Addr} {n : Nat} {St : Nat → Heap → Prop} {Inv : Nat → List Value → List (Addr × Obj) → Prop} {k : Nat} {h' : Heap} {tk : Tok} {i : Nat} {ys : List Value} {m' : Str → Option Value} {v₀ : Option Value} {nx : List (Addr × Obj)} (a : i ≤ n) (b : k = n + 1 - i) (c : ys.length ≤ i) (d : Inv i ys nx) (e : Off4 I K C D nx) (f : St i h') (g : Fr h₀ L h' m) (x : h'.Ns C m') (y : h'.IsCell K v₀) (z : News h₀ L h' ((D, lst ys) :: nx)) : BCI h₀ L m s₂ I K C D n St Inv k { s₂ with heap := h', toks := tk } :=
  ⟨h', tk, i, ys, m', v₀, nx, rfl, a, b, c, d, e, f, g, x, y, z⟩
theorem BCI.el {m : Str → Option Value} {s₂ s' : Shared} {I K C D : Addr} {n : Nat} {St : Nat → Heap → Prop} {Inv : Nat → List Value → List (Addr × Obj) → Prop} {k : Nat} {G : Shared → Prop} (w : BCI h₀ L m s₂ I K C D n St Inv k s') (q : ∀ (h' : Heap) (tk : Tok) (i : Nat) (ys : List Value) (m' : Str → Option Value) (v₀ : Option Value) (nx : List (Addr × Obj)), i ≤ n → k = n + 1 - i → ys.length ≤ i → Inv i ys nx → Off4 I K C D nx → St i h' → Fr h₀ L h' m → h'.Ns C m' → h'.IsCell K v₀ → News h₀ L h' ((D, lst ys) :: nx) → G { s₂ with heap := h', toks := tk }) : G s' := by
  obtain ⟨h', tk, i, ys, m', v₀, nx, rfl, a, b, c, d, e, f, g, x, y, z⟩ := w
  exact q h' tk i ys m' v₀ nx a b c d e f g x y z
theorem EltG.el {m : Str → Option Value} {s s' : Shared} {I K C D : Addr} {oI oK oC oD : Obj} {ok : Value → List (Addr × Obj) → Prop} {y : Value} {G : Shared → Prop} (w : EltG h₀ L m s I oI K oK C oC D oD ok y s') (q : ∀ (h' : Heap) (tk : Tok) (nx : List (Addr × Obj)), Fr h₀ L h' m → News h₀ L h' ((I, oI) :: (K, oK) :: (C, oC) :: (D, oD) :: nx) → Off4 I K C D nx → ok y nx → G { s with heap := h', toks := tk }) : G s' := by
  obtain ⟨h', tk, nx, rfl, a, b, c, d⟩ := w
  exact q h' tk nx a b c d
theorem block_C {ifs : List Expr} {elt iter : Expr} {x : Str} {px : Pos} {scope : Scope} {cl : List (Str × Addr)} {pos : Pos} {s₂ : Shared} {I : Addr} {fp : List Addr} {n : Nat} {P : Nat → Value → Prop} {St : Nat → Heap → Prop} {news : List (Addr × Obj)}
    {RR : Value → Addr → Result → Shared → Prop} (Inv : Nat → List Value → List (Addr × Obj) → Prop) (h0 : Inv 0 [] news)
    (W : Walks prog w A I fp [I] n P St) (hsz : n ≤ sizeLine) (hIo : ∀ i h, St i h → ∃ o, h.get? I = some o)
    (hSt : ∀ i h h' o, St i h → h.get? I = some o → h'.get? I = some o → St i h')
    (hxc : ∀ n, cellsFrom n scope.names cl = (x, n) :: cl) (hpc : ∀ h : Heap, pushCells h scope.names = h.push { cls := .type "cell", data := .cell none }) (hkind : scope.kind = .function)
    (hx : ∀ c C, (compEnvC scope c C env).kindOf x = some .cell) (hst : St 0 s₂.heap) (hfp : ∀ b ∈ fp, b < s₂.heap.objs.size)
    (F : Fr h₀ L s₂.heap m) (N : News h₀ L s₂.heap news) (hIL : L ≠ I) (hI₀ : h₀.get? I = none) (off : ∀ p ∈ news, p.1 ≠ I)
    (turn : TurnG prog w A h₀ L m env ifs elt x scope cl s₂ P n Inv)
    (hRR : ∀ D C h tk m' ys nx, Inv n ys nx → Fr h₀ L h m → News h₀ L h ((D, lst ys) :: nx) → (∀ p ∈ news, p.1 < D) → (∀ p ∈ nx, p.1 ≠ D) → h.Ns C m' → h₀.get? C = none → C ≠ L → C ≠ D → (∀ p ∈ nx, p.1 ≠ C) → RR (.ref D) C (.ok .next) { s₂ with heap := h, toks := tk }) :
    wpAny (model prog w) A (newList []) (fun acc s₃ => wpAny (model prog w) A (newFunctionEnv scope env.globals cl [] env.qual none .none (some env)) (fun cenv s₄ =>
      codeAny (model prog w) A (.compStart (.ListComp elt [⟨.Name x px, iter, ifs, 0⟩] scope pos) 0 (.ref I) acc { cenv with scope := relabel scope env }) (RR acc cenv.locals) s₄) E s₃) E s₂ := by
  refine wpAny_newObj_type (newEnv_around ?_)
  dsimp only
  generalize hH2 : s₂.heap.push { cls := .type "list", dict := none, data := .seq ([] : List Value).toArray } = H2
  rw [hxc, hpc]
  generalize hH3 : H2.push { cls := .type "dict", dict := none, data := .dict #[] } = H3
  generalize hH4 : H3.push { cls := .type "cell", dict := none, data := .cell none } = H4
  have hC : H2.objs.size = s₂.heap.objs.size + 1 := by rw [← hH2, Heap.size_push]
  have hK : H3.objs.size = s₂.heap.objs.size + 2 := by rw [← hH3, Heap.size_push, hC]
  rw [show H2.objs.size + 1 = H3.objs.size by lia]
  have below : ∀ b, b < s₂.heap.objs.size → b ≠ H2.objs.size ∧ b ≠ s₂.heap.objs.size ∧ b ≠ H3.objs.size := fun b hb => ⟨Nat.ne_of_lt (show @LT.lt Nat _ b H2.objs.size by have : @LT.lt Nat _ b s₂.heap.objs.size := hb; lia), Nat.ne_of_lt hb, Nat.ne_of_lt (show @LT.lt Nat _ b H3.objs.size by have : @LT.lt Nat _ b s₂.heap.objs.size := hb; lia)⟩
  have hDC : @Ne Nat s₂.heap.objs.size H2.objs.size := by lia
  have hDK : @Ne Nat s₂.heap.objs.size H3.objs.size := by lia
  have hCK : @Ne Nat H2.objs.size H3.objs.size := by lia
  have hDf : s₂.heap.objs.size ∉ fp := fun hm => Nat.lt_irrefl _ (hfp _ hm)
  have hKf : H3.objs.size ∉ fp := fun hm => (below _ (hfp _ hm)).2.2 rfl
  have hIf : I ∈ fp := W.sub I (List.mem_singleton.mpr rfl)
  have hIlt : I < s₂.heap.objs.size := hfp I hIf
  have up2 : ∀ b o, H2.get? b = some o → H4.get? b = some o := fun b o e => hH4 ▸ Heap.get?_push_of_some _ (hH3 ▸ Heap.get?_push_of_some _ e)
  have old : ∀ b o, s₂.heap.get? b = some o → H4.get? b = some o := fun b o e => up2 _ _ (hH2 ▸ Heap.get?_push_of_some _ e)
  have hacc : H4.get? s₂.heap.objs.size = some (lst []) := up2 _ _ (hH2 ▸ Heap.get?_push_size _ rfl)
  have hns₁ : H4.Ns H2.objs.size (fun _ => none) := by
    have := Heap.Ns.new H2 (.type "dict")
    rw [hH3] at this
    exact this.at' fun o e => hH4 ▸ Heap.get?_push_of_some _ e
  have hcel : H4.IsCell H3.objs.size none := ⟨_, hH4 ▸ Heap.get?_push_size _ rfl, rfl⟩
  have hst₁ : St 0 H4 := W.frame _ _ _ hst fun b _ o e => old b o e
  have fresh₀ : ∀ a, s₂.heap.objs.size ≤ a → h₀.get? a = none := fun a ha => by
    cases e : h₀.get? a with
    | none => rfl
    | some o' => exact absurd (Heap.lt_size (F.keep a o' e)) (Nat.not_lt.mpr ha)
  have hD₀ : h₀.get? s₂.heap.objs.size = none := fresh₀ _ (Nat.le_refl _)
  have hC₀ : h₀.get? H2.objs.size = none := fresh₀ _ (by rw [hC]; exact Nat.le_succ _)
  have hK₀ : h₀.get? H3.objs.size = none := fresh₀ _ (by rw [hK]; exact Nat.le_add_right _ _)
  have hLlt : L < s₂.heap.objs.size := F.ns.lt
  have hDL : s₂.heap.objs.size ≠ L := Ne.symm (below L hLlt).2.1
  have hCL : H2.objs.size ≠ L := Ne.symm (below L hLlt).1
  have hKL : H3.objs.size ≠ L := Ne.symm (below L hLlt).2.2
  have hCI : I ≠ H2.objs.size := (below I hIlt).1
  have hDI : I ≠ s₂.heap.objs.size := (below I hIlt).2.1
  have hKI : I ≠ H3.objs.size := (below I hIlt).2.2
  have off3 : ∀ p ∈ news, p.1 ≠ I ∧ p.1 ≠ H2.objs.size ∧ p.1 ≠ s₂.heap.objs.size ∧ p.1 ≠ H3.objs.size := fun p hp => ⟨off p hp, below _ (Heap.lt_size (N p hp).1)⟩
  have ltD : ∀ p ∈ news, p.1 < s₂.heap.objs.size := fun p hp => Heap.lt_size (N p hp).1
  have loop : ∀ s₃ : Shared, (∃ tk, s₃ = { s₂ with heap := H4, toks := tk }) →
      codeAny (model prog w) A (.compLoop (.ListComp elt [⟨.Name x px, iter, ifs, 0⟩] scope pos) 0 (.ref I) (.ref s₂.heap.objs.size) (compEnvC scope ((x, H3.objs.size) :: cl) H2.objs.size env))
        (RR (.ref s₂.heap.objs.size) H2.objs.size) s₃ := by
    rintro s₃ ⟨tk₀, rfl⟩
    refine codeAny_compLoop_tests
      (BCI h₀ L m s₂ I H3.objs.size H2.objs.size s₂.heap.objs.size n St Inv) ?_ (n + 1)
      (.mk (i := 0) (ys := []) (Nat.zero_le _) rfl (Nat.le_refl _) h0 off3 hst₁ (F.keeps old) hns₁ hcel fun p hp => ?_)
    · intro k s' hR
      refine hR.el ?_
      clear hR
      intro h' tk i ys m' v₀ nx hi hkn hyl hinv offx hst' F' hn' hc' N'
      by_cases hlt : i < n
      · refine W.item i _ _ _ hlt hst' fun v h₂ tk₂ hPv hst₂ hk₂ => ?_
        have hc₂ : h₂.IsCell H3.objs.size v₀ := let ⟨o, e, d⟩ := hc'; ⟨o, hk₂ _ o (by simpa using Ne.symm hKI) e, d⟩
        have hn₂ := hn'.at' fun o e => hk₂ _ o (by simpa using Ne.symm hCI) e
        refine wpAny_assign_Name (wpAny_storeName_cell (c := H3.objs.size) (by simp [compEnvC, relabel, hkind]) (hx _ _) (by simp [compEnvC]) hc₂ fun h₃ hc₃ hs₃ => ?_)
        have hst₃ : St (i + 1) h₃ := W.frame _ _ _ hst₂ fun b hb o e => hs₃.extBut b o (fun q => hKf (by have q' : b = H3.objs.size := q; rw [← q']; exact hb)) e
        have hn₃ := hn₂.sameBut hs₃ hCK
        refine ex1_el (hIo _ _ hst₃) fun oI hz91 => ?_
        have heI := hz91
        clear hz91
        refine ex1_el (ns_obj hn₃) fun oC hz93 => ?_
        have heC := hz93.1
        have hoC := hz93.2
        clear hz93
        refine ex1_el (hc₃) fun oK hz95 => ?_
        have heK := hz95.1
        have hoK := hz95.2
        clear hz95
        have F₃ : Fr h₀ L h₃ m := (fr_but F' hk₂ hIL hI₀).change hs₃ hKL hK₀
        have N₂ : News h₀ L h₂ ((s₂.heap.objs.size, lst ys) :: nx) := news_but N' hk₂ fun p hp => by
          rcases List.mem_cons.mp hp with rfl | hp
          · exact Ne.symm hDI
          · exact (offx p hp).1
        have N₃ : News h₀ L h₃ ((I, oI) :: (H3.objs.size, oK) :: (H2.objs.size, oC) :: (s₂.heap.objs.size, lst ys) :: nx) := fun p hp => by
          rcases List.mem_cons.mp hp with rfl | hp
          · exact ⟨heI, Ne.symm hIL, hI₀⟩
          · rcases List.mem_cons.mp hp with rfl | hp
            · exact ⟨heK, hKL, hK₀⟩
            · rcases List.mem_cons.mp hp with rfl | hp
              · exact ⟨heC, hCL, hC₀⟩
              · have z := N₂ p hp
                refine ⟨hs₃.extBut _ _ ?_ z.1, z.2⟩
                rcases List.mem_cons.mp hp with rfl | hp
                · exact hDK
                · exact (offx p hp).2.2.2
        refine wpAny_mono (turn i v I oI H3.objs.size oK H2.objs.size oC s₂.heap.objs.size ys nx h₃ _ _ hlt hinv hPv hoK F₃ N₃ offx) (fun ok s₄ h₄ => ?_) fun _ _ e => e
        cases ok with
        | true =>
          simp only [if_true] at h₄ ⊢
          refine wpAny_mono h₄ (fun y s₅ h₅ => ?_) fun _ _ e => e
          refine h₅.el ?_
          clear h₅
          intro h₄ tk₄ nx₄ F₄ N₄ off₄ hi₄
          have zI := (N₄ (I, oI) List.mem_cons_self).1
          have zK := (N₄ (H3.objs.size, oK) (List.mem_cons_of_mem _ List.mem_cons_self)).1
          have zC := (N₄ (H2.objs.size, oC) (List.mem_cons_of_mem _ (List.mem_cons_of_mem _ List.mem_cons_self))).1
          have zD := (N₄ (s₂.heap.objs.size, lst ys) (List.mem_cons_of_mem _ (List.mem_cons_of_mem _ (List.mem_cons_of_mem _ List.mem_cons_self)))).1
          have N₄' : News h₀ L h₄ nx₄ := fun p hp => N₄ p (List.mem_cons_of_mem _ (List.mem_cons_of_mem _ (List.mem_cons_of_mem _ (List.mem_cons_of_mem _ hp))))
          have hst₄ : St (i + 1) h₄ := hSt _ _ _ _ hst₃ heI zI
          refine append_at (hsz := by show ys.toArray.size ≤ sizeLine; rw [List.size_toArray]; exact Nat.le_trans (Nat.le_trans hyl hi) hsz) zD fun h₅ hs₅ hD₅ => ?_
          refine ⟨n + 1 - (i + 1), by lia, .mk (ys := ys ++ [y]) hlt rfl (by rw [List.length_append, List.length_singleton]; exact Nat.succ_le_succ hyl) hi₄ off₄ (W.frame _ _ _ hst₄ fun b hb o e => hs₅.extBut b o (fun q => hDf (q ▸ hb)) e) (F₄.change hs₅ hDL hD₀)
            ((hoC.ns zC).sameBut hs₅ (Ne.symm hDC)) ⟨oK, hs₅.extBut _ _ (Ne.symm hDK) zK, hoK⟩ fun p hp => ?_⟩
          rcases List.mem_cons.mp hp with rfl | hp
          · exact ⟨hD₅.trans (congrArg some (lst_snoc ys y)), hDL, hD₀⟩
          · exact ⟨hs₅.extBut _ _ (off₄ p hp).2.2.1 (N₄' p hp).1, (N₄' p hp).2⟩
        | false =>
          simp only [Bool.false_eq_true, if_false] at h₄ ⊢
          refine h₄.el (G := fun s₉ => ∃ k₉, k₉ < k ∧ BCI h₀ L m s₂ I H3.objs.size H2.objs.size s₂.heap.objs.size n St Inv k₉ s₉) ?_
          clear h₄
          intro h₅ tk₄ nx₄ F₄ N₄ off₄ hi₄
          have zI := (N₄ (I, oI) List.mem_cons_self).1
          have zK := (N₄ (H3.objs.size, oK) (List.mem_cons_of_mem _ List.mem_cons_self)).1
          have zC := (N₄ (H2.objs.size, oC) (List.mem_cons_of_mem _ (List.mem_cons_of_mem _ List.mem_cons_self))).1
          have hst₄ : St (i + 1) h₅ := hSt _ _ _ _ hst₃ heI zI
          refine ⟨n + 1 - (i + 1), by lia, .mk hlt rfl (Nat.le_succ_of_le hyl) hi₄ off₄ hst₄ F₄ (hoC.ns zC) ⟨oK, zK, hoK⟩ fun p hp => ?_⟩
          exact N₄ p (List.mem_cons_of_mem _ (List.mem_cons_of_mem _ (List.mem_cons_of_mem _ hp)))
      · obtain rfl : i = n := Nat.le_antisymm hi (Nat.not_lt.mp hlt)
        refine W.done _ _ _ hst' fun h₂ tk₂ hk₂ => ?_
        exact hRR _ _ h₂ tk₂ _ ys nx hinv (fr_but F' hk₂ hIL hI₀) (news_but N' hk₂ fun p hp => by
          rcases List.mem_cons.mp hp with rfl | hp
          · exact Ne.symm hDI
          · exact (offx p hp).1) ltD (fun p hp => (offx p hp).2.2.1) (hn'.at' fun o e => hk₂ _ o (by simpa using Ne.symm hCI) e) hC₀ hCL (Ne.symm hDC) (fun p hp => (offx p hp).2.1)
    · rcases List.mem_cons.mp hp with rfl | hp
      · exact ⟨hacc, hDL, hD₀⟩
      · exact ⟨old _ _ (N p hp).1, (N p hp).2⟩
  exact codeAny_compStart_list (loop _ ⟨_, rfl⟩) (W.self 0 _ _ _ hst₁ (loop _ ⟨_, rfl⟩))

/-- the comprehension's source, its turns and its end -/
inductive SrcC (prog : Program) (w : World) (A : Around) (h₀ : Heap) (L : Addr) (m : Str → Option Value) (env : Env) (ifs : List Expr) (elt : Expr) (x : Str) (scope : Scope) (cl : List (Str × Addr)) (Fin : Shared → List Value → List (Addr × Obj) → List (Addr × Obj) → Prop) (xv : Value) (s₁ : Shared) : Prop
  | mk (r : Addr) (a b : Int) (t u v : Tok) (n : Nat) (news : List (Addr × Obj)) (f0 : xv = .ref r) (f1 : A.handled = none) (f2 : Fr h₀ L s₁.heap m) (f3 : News h₀ L s₁.heap news) (f4 : IsRange s₁.heap r a b 1 t u v) (f5 : Builtin.Range.small a b 1 = true) (f6 : Builtin.Range.rangeSize a b 1 = ((n : Nat) : Int)) (f7 : n ≤ sizeLine)
    (f8 : ∀ s₂ : Shared, (∃ h, s₂ = { s₁ with heap := h }) → ∃ Inv : Nat → List Value → List (Addr × Obj) → Prop, Inv 0 [] news ∧ TurnG prog w A h₀ L m env ifs elt x scope cl s₂ (fun i v => ∃ t, v = .int (a + (i : Int)) t) n Inv ∧ ∀ ys nx, Inv n ys nx → Fin s₂ ys news nx) : SrcC prog w A h₀ L m env ifs elt x scope cl Fin xv s₁
theorem SrcC.range {ifs : List Expr} {elt : Expr} {x : Str} {scope : Scope} {cl : List (Str × Addr)} {Fin : Shared → List Value → List (Addr × Obj) → List (Addr × Obj) → Prop} {r : Addr} {a b : Int} {t u v : Tok} {n : Nat} {news : List (Addr × Obj)} {s₁ : Shared} (Inv : Nat → List Value → Prop)
    (hh : A.handled = none) (F : Fr h₀ L s₁.heap m) (N : News h₀ L s₁.heap news) (hr : IsRange s₁.heap r a b 1 t u v) (hsm : Builtin.Range.small a b 1 = true) (hn : Builtin.Range.rangeSize a b 1 = ((n : Nat) : Int)) (hsz : n ≤ sizeLine) (h0 : Inv 0 [])
    (turn : ∀ g, TurnC prog w A h₀ L m env ifs elt x scope cl { s₁ with heap := g } (fun i v => ∃ t, v = .int (a + (i : Int)) t) n news Inv)
    (fin : ∀ g ys, Inv n ys → Fin { s₁ with heap := g } ys news news) : SrcC prog w A h₀ L m env ifs elt x scope cl Fin (.ref r) s₁ :=
  ⟨r, a, b, t, u, v, n, news, rfl, hh, F, N, hr, hsm, hn, hsz, fun _ ⟨g, e⟩ => e ▸ ⟨fun i ys nx => nx = news ∧ Inv i ys, ⟨rfl, h0⟩, (turn g).gen, fun ys nx h => h.1 ▸ fin g ys h.2⟩⟩
theorem SrcC.rangeG {ifs : List Expr} {elt : Expr} {x : Str} {scope : Scope} {cl : List (Str × Addr)} {Fin : Shared → List Value → List (Addr × Obj) → List (Addr × Obj) → Prop} {r : Addr} {a b : Int} {t u v : Tok} {n : Nat} {news : List (Addr × Obj)} {s₁ : Shared} (Inv : Nat → List Value → List (Addr × Obj) → Prop)
    (hh : A.handled = none) (F : Fr h₀ L s₁.heap m) (N : News h₀ L s₁.heap news) (hr : IsRange s₁.heap r a b 1 t u v) (hsm : Builtin.Range.small a b 1 = true) (hn : Builtin.Range.rangeSize a b 1 = ((n : Nat) : Int)) (hsz : n ≤ sizeLine) (h0 : Inv 0 [] news)
    (turn : ∀ g, TurnG prog w A h₀ L m env ifs elt x scope cl { s₁ with heap := g } (fun i v => ∃ t, v = .int (a + (i : Int)) t) n Inv)
    (fin : ∀ g ys nx, Inv n ys nx → Fin { s₁ with heap := g } ys news nx) : SrcC prog w A h₀ L m env ifs elt x scope cl Fin (.ref r) s₁ :=
  ⟨r, a, b, t, u, v, n, news, rfl, hh, F, N, hr, hsm, hn, hsz, fun _ ⟨g, e⟩ => e ▸ ⟨Inv, h0, turn g, fin g⟩⟩
def FinCE (h₀ : Heap) (L : Addr) (m : Str → Option Value) (s : Shared) (Q : Value → Shared → Prop) (ys : List Value) (news nx : List (Addr × Obj)) : Prop :=
  ∀ D h tk, Fr h₀ L h m → News h₀ L h ((D, lst ys) :: nx) → (∀ p ∈ news, p.1 < D) → (∀ p ∈ nx, p.1 ≠ D) → Q (.ref D) { s with heap := h, toks := tk }
def FinCA (h₀ : Heap) (L : Addr) (m : Str → Option Value) (s : Shared) (y : Str) (Q : Flow → Shared → Prop) (ys : List Value) (news nx : List (Addr × Obj)) : Prop :=
  ∀ D h tk, Fr h₀ L h (fun z => if z = y then some (.ref D) else m z) → News h₀ L h ((D, lst ys) :: nx) → (∀ p ∈ news, p.1 < D) → (∀ p ∈ nx, p.1 ≠ D) → Q .next { s with heap := h, toks := tk }
theorem rng_st {I : Addr} {a : Int} {n : Nat} : ∀ i (h h' : Heap) (o : Obj), IsRangeIter h I (a + (i : Nat) * 1) ((n : Int) - (i : Nat)) 1 → h.get? I = some o → h'.get? I = some o → IsRangeIter h' I (a + (i : Nat) * 1) ((n : Int) - (i : Nat)) 1 :=
  fun i h h' o st e e' => by
    have st' : h.get? I = some _ := st
    show h'.get? I = some _
    rw [e', ← e]; exact st'
theorem ListComp_C {ifs : List Expr} {elt iter : Expr} {x : Str} {px : Pos} {scope : Scope} {cl : List (Str × Addr)} {pos : Pos} {Q : Value → Shared → Prop} (_F₀ : Fr h₀ L s.heap m)
    (hclos : closureFor scope env = pure cl) (hkind : scope.kind = .function)
    (hnames : ∀ y ∈ scope.names, y.2 = .local → scope.names.lookup y.1 = some .local)
    (hxc : ∀ n, cellsFrom n scope.names cl = (x, n) :: cl) (hpc : ∀ h : Heap, pushCells h scope.names = h.push { cls := .type "cell", data := .cell none }) (hx : ∀ c C, (compEnvC scope c C env).kindOf x = some .cell)
    (h : wpAny (model prog w) A (eval iter env) (SrcC prog w A h₀ L m env ifs elt x scope cl (fun s₂ => FinCE h₀ L m s₂ Q)) E s)
    (hs : ∀ x, foldedSetIterable iter env x = pure x := by intro _; rfl) :
    wpAny (model prog w) A (eval (.ListComp elt [⟨.Name x px, iter, ifs, 0⟩] scope pos) env) Q E s := by
  rw [eval_ListComp]
  refine wpAny_comprehension_free (use := none) rfl hs hclos hkind hnames (wpAny_mono h (fun xv s₁ h₁ => ?_) fun _ _ e => e)
  obtain ⟨r, a, b, t, u, v, n, news, rfl, hh, F, N, hr, hsm, hn, hsz, R⟩ := h₁
  refine wpAny_pyIter_range hr hsm ?_
  obtain ⟨Inv, h0, turn, fin⟩ := R _ ⟨_, rfl⟩
  refine block_C Inv h0 (range_walks hh a n) hsz (fun i h st => ⟨_, st⟩) rng_st hxc hpc hkind hx (by show IsRangeIter _ _ _ _ _; rw [hn]; simpa using Heap.get?_push_size _ rfl) (fun b hb => ?_)
    (F.keeps fun _ _ e => Heap.get?_push_of_some _ e) (N.grown fun _ _ e => Heap.get?_push_of_some _ e) (Nat.ne_of_lt F.ns.lt) (next_is_new F) (fun p hp => Nat.ne_of_lt (Heap.lt_size (N p hp).1)) turn ?_
  · rw [List.mem_singleton.mp hb]
    show s₁.heap.objs.size < (s₁.heap.push _).objs.size
    rw [Heap.size_push]; exact Nat.lt_succ_self _
  · intro D C h tk m' ys nx hi F' N' o1 o2 hn hC₀ hCL hCD offC
    refine ⟨m', hn, fun h'' hs'' => fin ys nx hi D h'' tk (F'.change hs'' hCL hC₀) (fun p hp => ?_) o1 o2⟩
    refine ⟨hs''.extBut _ _ ?_ (N' p hp).1, (N' p hp).2⟩
    rcases List.mem_cons.mp hp with rfl | hp
    · exact Ne.symm hCD
    · exact offC p hp
theorem Assign_ListComp_C {ifs : List Expr} {elt iter : Expr} {x y : Str} {px py : Pos} {scope : Scope} {cl : List (Str × Addr)} {pos spos : Pos} {Q : Flow → Shared → Prop} (_F₀ : Fr h₀ L s.heap m) (hLe : env.locals = L)
    (hsw : swapsWith (.ListComp elt [⟨.Name x px, iter, ifs, 0⟩] scope pos) (some (.Name y py)) spos.line env = pure true)
    (hclos : closureFor scope env = pure cl) (hkind : scope.kind = .function)
    (hnames : ∀ z ∈ scope.names, z.2 = .local → scope.names.lookup z.1 = some .local)
    (hxc : ∀ n, cellsFrom n scope.names cl = (x, n) :: cl) (hpc : ∀ h : Heap, pushCells h scope.names = h.push { cls := .type "cell", data := .cell none }) (hx : ∀ c C, (compEnvC scope c C env).kindOf x = some .cell)
    (hy : env.kindOf y = some .local) (hp : (env.scope.kind == .class || (env.scope.kind == .module && env.locals != env.globals)) = false)
    (h : wpAny (model prog w) A (eval iter env) (SrcC prog w A h₀ L m env ifs elt x scope cl (fun s₂ => FinCA h₀ L m s₂ y Q)) E s)
    (hs : ∀ x, foldedSetIterable iter env x = pure x := by intro _; rfl) :
    wpAny (model prog w) A (exec (.Assign [.Name y py] (.ListComp elt [⟨.Name x px, iter, ifs, 0⟩] scope pos) spos) env) Q E s := by
  subst hLe
  rw [exec_Assign_Name_used _ _ _ _ hsw]
  refine wpAny_bind (wpAny_standAt (wpAny_bind ?_))
  show wpAny _ A (do let _ ← comprehension (.ListComp elt [⟨.Name x px, iter, ifs, 0⟩] scope pos) scope env _ (newList []) false (eval iter env) (some (assign (.Name y py) env))) _ _ s
  refine wpAny_bind (wpAny_mono (wpAny_comprehension_free (use := some (assign (.Name y py) env)) (Q := fun _ s' => Q .next s') rfl hs hclos hkind hnames
    (wpAny_mono h (fun xv s₁ h₁ => ?_) fun _ _ e => e)) (fun _ s' hq => wpAny_pure (wpAny_pure hq)) fun _ _ e => e)
  obtain ⟨r, a, b, t, u, v, n, news, rfl, hh, F, N, hr, hsm, hn, hsz, R⟩ := h₁
  refine wpAny_pyIter_range hr hsm ?_
  obtain ⟨Inv, h0, turn, fin⟩ := R _ ⟨_, rfl⟩
  refine block_C Inv h0 (range_walks hh a n) hsz (fun i h st => ⟨_, st⟩) rng_st hxc hpc hkind hx (by show IsRangeIter _ _ _ _ _; rw [hn]; simpa using Heap.get?_push_size _ rfl) (fun b hb => ?_)
    (F.keeps fun _ _ e => Heap.get?_push_of_some _ e) (N.grown fun _ _ e => Heap.get?_push_of_some _ e) (Nat.ne_of_lt F.ns.lt) (next_is_new F) (fun p hp => Nat.ne_of_lt (Heap.lt_size (N p hp).1)) turn ?_
  · rw [List.mem_singleton.mp hb]
    show s₁.heap.objs.size < (s₁.heap.push _).objs.size
    rw [Heap.size_push]; exact Nat.lt_succ_self _
  · intro D C h' tk m' ys nx hi F' N' o1 o2 hn hC₀ hCL hCD offC
    show wpAny _ A (assign (.Name y py) env (.ref D)) _ _ _
    refine wpAny_assign_Name (wpAny_storeName_local hy F'.ns (fun h₂ hn₂ hs₂ => ?_) hp)
    have hL₀ : h₀.get? env.locals = none := Heap.get?_none_of_le F'.above
    have F₂ : Fr h₀ env.locals h₂ (fun z => if z = y then some (.ref D) else m z) := ⟨hn₂, fun b o e => hs₂.extBut b o (fun q => by rw [q, hL₀] at e; cases e) (F'.keep b o e), F'.above⟩
    refine ⟨m', hn.sameBut hs₂ hCL, fun h'' hs'' => fin ys nx hi D h'' _ (F₂.change hs'' hCL hC₀) (fun p hp => ?_) o1 o2⟩
    have z : h₂.get? p.1 = some p.2 := hs₂.extBut _ _ (N' p hp).2.1 (N' p hp).1
    refine ⟨hs''.extBut _ _ ?_ z, (N' p hp).2⟩
    rcases List.mem_cons.mp hp with rfl | hp
    · exact Ne.symm hCD
    · exact offC p hp
end

end

section
open PySem PySem.W PyProof.Rows PySem.Calls
set_option Elab.async false
theorem gen_T {M : Model} {A : Around} {t : Sem Bool} {o : Sem Value} {T1 : Value → Shared → Prop} {T2 : Shared → Prop} {E E' : Value → Shared → Prop} {s : Shared} (h : ∀ (W1 : Value → Shared → Prop) (W2 : Shared → Prop), (∀ a s, T1 a s → W1 a s) → (∀ s, T2 s → W2 s) → wpAny M A t (fun b s₂ => if b = true then wpAny M A o W1 E' s₂ else W2 s₂) E s) : wpAny M A t (fun b s₂ => if b = true then wpAny M A o T1 E' s₂ else T2 s₂) E s := h T1 T2 (fun _ _ h => h) (fun _ h => h)

end

section
open PySem PySem.W PyProof.Rows PySem.Calls PyProof.Rows.LCg PyProof.Rows.LCt
set_option Elab.async false
set_option maxRecDepth 100000
set_option maxHeartbeats 4000000
theorem ki_setL_of {v : Value} : ∀ {l : List Value} {k : Nat}, k < l.length → ki_setL l k v = some (l.set k v)
  | [], k, h => absurd h (Nat.not_lt_zero k)
  | _ :: _, 0, _ => rfl
  | a :: r, k + 1, h => by
    unfold ki_setL
    rw [ki_setL_of (l := r) (k := k) (by simpa using h)]
    rfl
theorem nI2 {D I : Addr} {o o' : Obj} {r : List (Addr × Obj)} (h : ∀ p ∈ (D, o) :: r, p.1 ≠ I) : ∀ p ∈ (D, o') :: r, p.1 ≠ I :=
  List.forall_mem_cons.mpr ⟨h (D, o) (.head _), fun p hp => h p (.tail _ hp)⟩
/-- three numbers -/
def I3 (xs : List Value) : Prop := ∃ c0 c1 c2 t0 t1 t2, xs = [.int c0 t0, .int c1 t1, .int c2 t2]
theorem I3.get {xs : List Value} (h : I3 xs) {k : Nat} (hk : k < 3) : ∃ c t, xs.toArray[k]? = some (.int c t) := by
  obtain ⟨c0, c1, c2, t0, t1, t2, rfl⟩ := h
  match k, hk with
  | 0, _ => exact ⟨_, _, rfl⟩
  | 1, _ => exact ⟨_, _, rfl⟩
  | 2, _ => exact ⟨_, _, rfl⟩
theorem I3.set {xs : List Value} (h : I3 xs) {k : Nat} (hk : k < 3) (c : Int) (t : Tok) : I3 (xs.set k (.int c t)) := by
  obtain ⟨c0, c1, c2, t0, t1, t2, rfl⟩ := h
  match k, hk with
  | 0, _ => exact ⟨_, _, _, _, _, _, rfl⟩
  | 1, _ => exact ⟨_, _, _, _, _, _, rfl⟩
  | 2, _ => exact ⟨_, _, _, _, _, _, rfl⟩
theorem I3.len {xs : List Value} (h : I3 xs) : xs.length = 3 := by obtain ⟨c0, c1, c2, t0, t1, t2, rfl⟩ := h; rfl
theorem mod3 (i : Nat) : ∃ k : Nat, k < 3 ∧ ((0 : Int) + (i : Int) * 1).fmod 3 = (k : Int) := ⟨i % 3, Nat.mod_lt _ (by decide), by rw [Int.fmod_eq_emod_of_nonneg _ (by decide)]; lia⟩
theorem nOf (c : Int) : ∃ n : Nat, 3 ≤ n ∧ n ≤ 11 ∧ 3 + c.fmod 9 = (n : Int) := by
  rw [Int.fmod_eq_emod_of_nonneg _ (by decide)]
  exact ⟨(3 + c % 9).toNat, by lia, by lia, by lia⟩
theorem fm0 (n j : Nat) : (n : Int).fmod (2 + (j : Int)) = 0 ↔ n % (2 + j) = 0 := by
  rw [Int.fmod_eq_emod_of_nonneg _ (by lia), show (2 : Int) + j = ((2 + j : Nat) : Int) by lia, ← Int.natCast_emod]
  lia
theorem fm1 (i j : Nat) : (1 + (i : Int)).fmod (2 + (j : Int)) = 0 ↔ (i + 1) % (2 + j) = 0 := by
  rw [show (1 : Int) + i = ((i + 1 : Nat) : Int) by lia]; exact fm0 _ _
/-- the six pairs -/
noncomputable def pairsP : List (Str × Str) := [(Str.ofString "&", Str.ofString "<"), (Str.ofString " ", Str.ofString "x"), (Str.ofString "A", Str.ofString "a"), (Str.ofString "\t", Str.ofString " "), (Str.ofString "\"", Str.ofString ">"), (Str.ofString "a", Str.ofString "é")]
/-- a pair's object -/
noncomputable abbrev tup2 (a : Str) (ta : Tok) (b : Str) (tb : Tok) : Obj := { cls := .type "tuple", data := .seq #[.str a ta, .str b tb] }
theorem pick6 {h₀ h : Heap} {L lp P0 P1 P2 P3 P4 P5 : Addr} {rest own : List (Addr × Obj)} {u0 u1 u2 u3 u4 u5 v0 v1 v2 v3 v4 v5 : Tok}
  {a00 a01 a02 a10 a11 a12 a13 a20 a21 a22 a23 a24 a30 a31 a32 a33 a34 a35 a40 a41 a42 a43 a44 a45 a46 a50 a51 a52 a53 a54 a55 a56 a57 : Prop}
  (N : News h₀ L h ((lp, listOf #[.ref P0, .ref P1, .ref P2, .ref P3, .ref P4, .ref P5] 0) :: (P5, tup2 (Str.ofString "a") u5 (Str.ofString "é") v5) :: (P4, tup2 (Str.ofString "\"") u4 (Str.ofString ">") v4) :: (P3, tup2 (Str.ofString "\t") u3 (Str.ofString " ") v3) :: (P2, tup2 (Str.ofString "A") u2 (Str.ofString "a") v2) :: (P1, tup2 (Str.ofString " ") u1 (Str.ofString "x") v1) :: (P0, tup2 (Str.ofString "&") u0 (Str.ofString "<") v0) :: rest))
  (sub : ∀ p ∈ own, p ∈ rest)
  (g0 : a00 ∧ a01 ∧ a02 ∧ AllLt P0 own) (g1 : a10 ∧ a11 ∧ a12 ∧ a13 ∧ AllLt P1 own) (g2 : a20 ∧ a21 ∧ a22 ∧ a23 ∧ a24 ∧ AllLt P2 own) (g3 : a30 ∧ a31 ∧ a32 ∧ a33 ∧ a34 ∧ a35 ∧ AllLt P3 own) (g4 : a40 ∧ a41 ∧ a42 ∧ a43 ∧ a44 ∧ a45 ∧ a46 ∧ AllLt P4 own) (g5 : a50 ∧ a51 ∧ a52 ∧ a53 ∧ a54 ∧ a55 ∧ a56 ∧ a57 ∧ AllLt P5 own) {k : Nat} (hk : k < 6) :
  ∃ P a b ta tb, (#[Value.ref P0, .ref P1, .ref P2, .ref P3, .ref P4, .ref P5] : Array Value)[k]? = some (.ref P) ∧ (a, b) ∈ pairsP ∧ News h₀ L h ((P, tup2 a ta b tb) :: own) ∧ (∀ p ∈ own, p.1 < P) := by
  have key : ∀ {P : Addr} {o : Obj}, (P, o) ∈ ((lp, listOf #[.ref P0, .ref P1, .ref P2, .ref P3, .ref P4, .ref P5] 0) :: (P5, tup2 (Str.ofString "a") u5 (Str.ofString "é") v5) :: (P4, tup2 (Str.ofString "\"") u4 (Str.ofString ">") v4) :: (P3, tup2 (Str.ofString "\t") u3 (Str.ofString " ") v3) :: (P2, tup2 (Str.ofString "A") u2 (Str.ofString "a") v2) :: (P1, tup2 (Str.ofString " ") u1 (Str.ofString "x") v1) :: (P0, tup2 (Str.ofString "&") u0 (Str.ofString "<") v0) :: rest) → News h₀ L h ((P, o) :: own) := fun hm p hp => by
    rcases List.mem_cons.mp hp with rfl | hp
    · exact N _ hm
    · exact N p (.tail _ (.tail _ (.tail _ (.tail _ (.tail _ (.tail _ (.tail _ (sub p hp))))))))
  match k, hk with
  | 0, _ => exact ⟨P0, _, _, u0, v0, rfl, .head _, key (.tail _ (.tail _ (.tail _ (.tail _ (.tail _ (.tail _ (.head _))))))), of_allLt _ g0.2.2.2⟩
  | 1, _ => exact ⟨P1, _, _, u1, v1, rfl, .tail _ (.head _), key (.tail _ (.tail _ (.tail _ (.tail _ (.tail _ (.head _)))))), of_allLt _ g1.2.2.2.2⟩
  | 2, _ => exact ⟨P2, _, _, u2, v2, rfl, .tail _ (.tail _ (.head _)), key (.tail _ (.tail _ (.tail _ (.tail _ (.head _))))), of_allLt _ g2.2.2.2.2.2⟩
  | 3, _ => exact ⟨P3, _, _, u3, v3, rfl, .tail _ (.tail _ (.tail _ (.head _))), key (.tail _ (.tail _ (.tail _ (.head _)))), of_allLt _ g3.2.2.2.2.2.2⟩
  | 4, _ => exact ⟨P4, _, _, u4, v4, rfl, .tail _ (.tail _ (.tail _ (.tail _ (.head _)))), key (.tail _ (.tail _ (.head _))), of_allLt _ g4.2.2.2.2.2.2.2⟩
  | 5, _ => exact ⟨P5, _, _, u5, v5, rfl, .tail _ (.tail _ (.tail _ (.tail _ (.tail _ (.head _))))), key (.tail _ (.head _)), of_allLt _ g5.2.2.2.2.2.2.2.2⟩
theorem fmodN (c : Int) {l : Nat} (h : 1 ≤ l) : ∃ k : Nat, k < l ∧ c.fmod (l : Int) = (k : Int) := by
  rw [Int.fmod_eq_emod_of_nonneg _ (by lia)]
  have h1 := Int.emod_nonneg c (show (l : Int) ≠ 0 by lia)
  have h2 := Int.emod_lt_of_pos c (show 0 < (l : Int) by lia)
  exact ⟨(c % (l : Int)).toNat, by lia, by lia⟩
/-- no number from 2 on divides both -/
def cop (n q : Nat) : Prop := ∀ d : Nat, 2 ≤ d → d < q + 1 → ¬ (n % d = 0 ∧ q % d = 0)
section
variable {prog : Program} {w : World} {A : Around} {E : Value → Shared → Prop} {s : Shared} {h₀ : Heap} {L : Addr} {m : Str → Option Value}
theorem store3 {k : Nat} {t tv : Tok} {v : Int} {xs : List Value} {I D : Addr} {oI : Obj} {own : List (Addr × Obj)} {Q : Unit → Shared → Prop} (F : Fr h₀ L s.heap m) (N : News h₀ L s.heap ((I, oI) :: (D, listOf xs.toArray 0) :: own)) (hk : k < 3) (h3 : I3 xs) (hI : I ≠ D) (ho : ∀ p ∈ own, p.1 ≠ D)
    (h : ∀ h' ys, I3 ys → Fr h₀ L h' m → News h₀ L h' ((I, oI) :: (D, listOf ys.toArray 0) :: own) → Q () { s with heap := h' }) : wpAny (model prog w) A (setItem (.ref D) (.int (k : Int) t) (.int v tv)) Q E s :=
  ki_set (its := xs.toArray) (q := xs.set k (.int v tv)) F N (by lia) (by lia) (by show ki_setL xs _ _ = _; rw [Int.toNat_natCast]; exact ki_setL_of (by rw [h3.len]; exact hk)) (.tail hI (.head ho)) fun h' F' N' => h h' _ (h3.set hk v tv) F' N'
theorem eq_nil {l1 l2 : Addr} {v1 : List Value} {n1 n2 : Nat} {xs : List Int} {Q : Value → Shared → Prop} (h1 : s.heap.get? l1 = some (listOf v1.toArray n1)) (k1 : IntsAre v1 xs) (h2 : s.heap.get? l2 = some (listOf #[] n2)) (hu : A.units + 64 < cLine)
    (h : Q (.bool xs.isEmpty) s) : wpAny (model prog w) A (compareOp .Eq (.ref l1) (.ref l2)) Q E s :=
  eq_dataH (reads_listI h1 k1) (reads_listI (vs := []) h2 .nil) (shaped_ints xs) (shaped_ints []) hu (by
    have e : PyData.eqv (.list (xs.map .int)) (.list ([].map .int)) = xs.isEmpty := by cases xs <;> rfl
    rw [e]; exact h)
end
theorem ints_snoc' {vs : List Value} {xs : List Int} (h : IntsAre vs xs) (a : Int) (t : Tok) : IntsAre (vs ++ [.int a t]) (xs ++ [a]) := by
  induction h with
  | nil => exact .cons a t .nil
  | cons b u _ ih => exact .cons b u ih
theorem ints_len' {vs : List Value} {xs : List Int} (h : IntsAre vs xs) : vs.length = xs.length := by
  induction h with
  | nil => rfl
  | cons b u _ ih => simp [ih]
theorem ints_at {vs : List Value} {xs : List Int} (h : IntsAre vs xs) : ∀ k, k < xs.length → ∃ a t, vs[k]? = some (.int a t) ∧ a ∈ xs := by
  induction h with
  | nil => intro k hk; exact absurd hk (Nat.not_lt_zero k)
  | cons b u _ ih =>
    intro k hk
    cases k with
    | zero => exact ⟨b, u, rfl, .head _⟩
    | succ k =>
      obtain ⟨a, t, e, hm⟩ := ih k (by simpa using hk)
      exact ⟨a, t, by simpa using e, .tail _ hm⟩
/-- the inner list: the common divisors -/
def InvD (n q i : Nat) (ys : List Value) : Prop := ∃ zs : List Int, IntsAre ys zs ∧ (zs = [] ↔ ∀ d : Nat, 2 ≤ d → d < i + 2 → ¬ (n % d = 0 ∧ q % d = 0))
theorem InvD.nil (n q : Nat) : InvD n q 0 [] := ⟨[], .nil, by simp; intro d h1 h2; lia⟩
theorem InvD.yes {n q i : Nat} {ys : List Value} (h : InvD n q i ys) (h1 : n % (2 + i) = 0) (h2 : q % (2 + i) = 0) (a : Int) (t : Tok) : InvD n q (i + 1) (ys ++ [.int a t]) := by
  obtain ⟨zs, hz, _⟩ := h
  refine ⟨zs ++ [a], ints_snoc' hz a t, ?_⟩
  constructor
  · intro e; simp at e
  · intro e; exact absurd ⟨h1, h2⟩ (e (2 + i) (by lia) (by lia))
theorem InvD.no {n q i : Nat} {ys : List Value} (h : InvD n q i ys) (h1 : ¬ (n % (2 + i) = 0 ∧ q % (2 + i) = 0)) : InvD n q (i + 1) ys := by
  obtain ⟨zs, hz, e⟩ := h
  refine ⟨zs, hz, e.trans ⟨fun k d hd1 hd2 => ?_, fun k d hd1 hd2 => k d hd1 (by lia)⟩⟩
  by_cases hd : d = 2 + i
  · rw [hd]; exact h1
  · exact k d hd1 (by lia)
theorem InvD.end_ {n q i : Nat} {ys : List Value} (h : InvD n q i ys) (hi : i + 2 = q + 1) : ∃ zs, IntsAre ys zs ∧ (zs.isEmpty = true ↔ cop n q) := by
  obtain ⟨zs, hz, e⟩ := h
  exact ⟨zs, hz, by rw [List.isEmpty_iff, e, hi]; exact Iff.rfl⟩
/-- the outer list: the numbers without a common divisor -/
def InvQ (n i : Nat) (ys : List Value) : Prop := ∃ zs : List Int, IntsAre ys zs ∧ zs.length ≤ i ∧ (1 ≤ i → zs ≠ []) ∧ ∀ z ∈ zs, ∃ q : Nat, z = (q : Int) ∧ 1 ≤ q ∧ q ≤ i ∧ cop n q
theorem InvQ.nil (n : Nat) : InvQ n 0 [] := ⟨[], .nil, Nat.le_refl _, fun h => by lia, fun z hz => nomatch hz⟩
theorem InvQ.yes {n i : Nat} {ys : List Value} (h : InvQ n i ys) (hc : cop n (i + 1)) (t : Tok) : InvQ n (i + 1) (ys ++ [.int (1 + (i : Int)) t]) := by
  obtain ⟨zs, hz, hl, _, ha⟩ := h
  refine ⟨zs ++ [1 + (i : Int)], ints_snoc' hz _ t, by rw [List.length_append, List.length_singleton]; lia, fun _ => by simp, fun z hm => ?_⟩
  rcases List.mem_append.mp hm with hm | hm
  · obtain ⟨q, e, h1, h2, h3⟩ := ha z hm
    exact ⟨q, e, h1, by lia, h3⟩
  · rw [List.mem_singleton] at hm
    exact ⟨i + 1, by rw [hm]; lia, by lia, by lia, hc⟩
theorem cop_one (n : Nat) : cop n 1 := fun d h1 h2 => by lia
theorem InvQ.no {n i : Nat} {ys : List Value} (h : InvQ n i ys) (hc : ¬ cop n (i + 1)) : InvQ n (i + 1) ys := by
  obtain ⟨zs, hz, hl, hn, ha⟩ := h
  refine ⟨zs, hz, by lia, fun _ => hn ?_, fun z hm => ?_⟩
  · rcases Nat.eq_zero_or_pos i with rfl | h
    · exact absurd (cop_one n) hc
    · exact h
  · obtain ⟨q, e, h1, h2, h3⟩ := ha z hm
    exact ⟨q, e, h1, by lia, h3⟩

end

local macro_rules | `(tactic| walk_at "getItem ref int") => `(tactic| (k_here; (with_reducible show wpAny _ _ (getItem (Value.ref _) (Value.int _ _)) _ _ _); refine hold_ ?_))
local macro_rules | `(tactic| walk_at "getItem ref ref") => `(tactic| (k_here; (with_reducible show wpAny _ _ (getItem (Value.ref _) (Value.ref _)) _ _ _); refine hold_ ?_))
local macro_rules | `(tactic| walk_at "subscriptTail Name Name ref int") => `(tactic| (k_here; (with_reducible show wpAny _ _ (subscriptTail _ _ (Value.ref _) (Value.int _ _)) _ _ _); refine hold_ ?_))
local macro_rules | `(tactic| walk_at "subscriptTail Name BinOp ref int") => `(tactic| (k_here; (with_reducible show wpAny _ _ (subscriptTail _ _ (Value.ref _) (Value.int _ _)) _ _ _); refine hold_ ?_))
local macro_rules | `(tactic| walk_at "exec Assign cons ListComp") => `(tactic| (k_here; (with_reducible show wpAny _ _ (exec (Stmt.Assign _ (Expr.ListComp _ _ _ _) _) _) _ _ _); refine hold_ ?_))
local macro_rules | `(tactic| walk_at "compareOp Eq ref ref") => `(tactic| (k_here; (with_reducible show wpAny _ _ (compareOp CmpOp.Eq (Value.ref _) (Value.ref _)) _ _ _); refine hold_ ?_))
local macro_rules | `(tactic| walk_at "SrcC") => `(tactic| ((with_reducible show SrcC _ _ _ _ _ _ _ _ _ _ _ _ _ _ _); refine hold_ ?_))

section
open PySem PySem.W PyProof.Rows PySem.Calls
set_option Elab.async false
set_option maxRecDepth 100000
set_option maxHeartbeats 8000000
set_option pp.deepTerms false
set_option pp.maxSteps 3000

open PyProof.Rows.LCg PyProof.Rows.LCt
local macro_rules | `(tactic| walk_at "setItem ref int") => `(tactic| (k_here; (with_reducible show wpAny _ _ (setItem (Value.ref _) (Value.int _ _) _) _ _ _); refine hold_ ?_))
local macro_rules | `(tactic| walk_at "subscriptTail Name Constant ref int") => `(tactic| (k_here; (with_reducible show wpAny _ _ (subscriptTail _ _ (Value.ref _) (Value.int _ _)) _ _ _); refine hold_ ?_))
local macro_rules | `(tactic| walk_at "CompSrcT") => `(tactic| ((with_reducible show CompSrcT _ _ _ _ _ _ _ _ _ _ _ _ _ _ _); refine hold_ ?_))

theorem draws_c (w : World) (p : Program) (loose : List Str) (mean : ExcName → Option Value) (mg mb : Str → Option Value) (dp un : Nat) (gd : Option (List Code)) (cn : Str) (cs : Scope) (a : Addr) (ccd : Value) (cl : List (Str × Addr)) (outer : List Env) (A₀ : Around) (base h₀ : Heap) (L : Addr) (m : Str → Option Value) (s : Shared) (Q E : Value → Shared → Prop)
   (B : Below A₀ base outer h₀) (F : Fr h₀ L s.heap m) (X : (KL w.params).In h₀) (T : Top p loose mean mg mb h₀) (hk : cs.kind = .function) (hd1 : dp + 130 < recursionLimit) (hu : un + 8 * 130 < cLine)
   (own : List (Addr × Obj)) (sc : Addr) (its : Array Value) (N : News h₀ L s.heap own) (him : importsNone p = true) (hsc : h₀.IsList sc its) (hsz : its.size ≤ 63) (hit : ∀ i : Nat, i < its.size → ∃ v t, its[i]? = some (.int v t))
   (hret : ∀ s' D P n q p' head a b t1 t2 t3 t4 ta tb, Kp s s' → Fr h₀ L s'.heap m → News h₀ L s'.heap ((D, ({ cls := .type "tuple", data := .seq #[.int (n : Nat) t1, .int (q : Nat) t2, .int head t3, .ref P, .int (p' : Nat) t4] } : Obj)) :: (P, tup2 a ta b tb) :: own) → (∀ p ∈ own, p.1 < P) → @LT.lt Nat _ P D → 3 ≤ n → n ≤ 11 → 1 ≤ q → q < n → cop n q → 7 ≤ p' → p' ≤ 7906 → (a, b) ∈ pairsP → Q (.ref D) s') :
   wpAny (model Challenge.rw_xi0019_01.row.prog w) (ktrTop dp un gd cn cs L a ccd cl outer) (call (.ref 279) [.ref sc]) Q E s := by
  revert X; k_fill; intro X
  refine wpAny_call ?_
  k_dflt (refine' code_defC (binds := [(Str.ofString "script", .ref sc)]) ?k1 ?k2 ?k3 ?k4 ?k5 ?kA ?kF ?kK ?k6 ?k7 ?k8 ?k9 ?kB ?kD ?_ ?c2 ?c3 ?c4; (case kA => exact rfl); (case kF => exact rfl); (case kK => first | exact rfl | assumption); (case k1 => k_asm); (case k2 => k_asm); (case k3 => k_asm); (case k4 => k_asm); (case k5 => k_asm); (case k6 => k_is); (case k7 => k_is); (case k8 => ktr_room); (case k9 => exact BindsTo.of_eq rfl); (case kB => exact rfl); (case kD => decide +kernel); (case c2 => exact rfl); (case c3 => exact rfl); (case c4 => exact rfl); k_whole; intro g' L' h' tk' cells' FG' F' N' Y' B' X' T' l1; (try k_lt l1); k_cells Y'; (try simp only [List.cons_append, List.nil_append] at N'); (try dsimp only); (try k_lift B'); (try k_fold))
  have hl9 : ∀ p ∈ own, p.1 < L' := by first | exact l1 | exact of_allLt _ l1
  have hsg : g'.IsList sc its := by obtain ⟨o, e, r⟩ := hsc; exact ⟨o, FG'.keep _ _ e, r⟩
  k_steps
  have hz118 := ‹_ ∧ AllLt _ own›
  have q1 := hz118.1
  have q2 := hz118.2
  clear hz118
  refine Hold.go (loopR_range (n := its.size) ["place"] (fun _ nx => ∃ xs, I3 xs ∧ nx = (_, listOf xs.toArray 0) :: (L' + 1, _) :: own) rfl (by assumption) ?small ?size (by assumption) (by assumption) ⟨_, ⟨_, _, _, _, _, _, rfl⟩, rfl⟩ ?turn ?done)
  case small => exact small_one (by lia) (by lia) (by lia) (by lia)
  case size => rw [rangeSize_nat]; lia
  case turn =>
    intro I i ti u nx s4 oI hi hR hnI hoI kp4 F4 N4
    refine gen_Q fun W hW => ?_
    refine ex1_el (hR) fun xs hz91 => ?_
    have hx3 := hz91.1
    have hr2_1 := hz91.2
    clear hz91
    subst hr2_1
    clear hR
    k_steps
    refine ex2_el (hit i hi) fun v tv hv => ?_
    have hlc := (N4 _ (.tail _ (.head _))).1
    have hsi : s4.heap.IsList sc its := by obtain ⟨o, e, r⟩ := hsg; exact ⟨o, F4.keep _ _ e, r⟩
    refine ex1_el (mod3 i) fun k hz93 => ?_
    have hk := hz93.1
    have hm := hz93.2
    clear hz93
    rw [hm]
    refine ex2_el (hx3.get hk) fun c tc hc => ?_
    refine Hold.go (wpAny_getItem_list (x := .int c tc) ⟨_, hlc, rfl, _, rfl⟩ (by lia) (by lia) (by rw [Int.toNat_natCast]; exact hc) ?_)
    k_steps
    refine Hold.go (subscriptTail_builtin (T := "list") hsi.typeIs slot_list_getitem.lookup <| wpAny_getItem_list hsi (by lia) (by lia) (show its[((0 : Int) + (i : Int) * 1).toNat]? = _ by rw [show ((0 : Int) + (i : Int) * 1).toNat = i by lia]; exact hv) ?_)
    k_steps
    refine Hold.go (store3 (by assumption) (by assumption) hk hx3 (hnI _ (.head _)).symm (List.forall_mem_cons.mpr ⟨Nat.ne_of_lt q1, fun p hp => Nat.ne_of_lt (of_allLt _ q2 p hp)⟩) ?_)
    intro h9 ys hy3 F9 N9
    k_steps
    refine hW _ _ ?_
    refine TurnR.mk _ _ ⟨kp4.os, fun g => kp4.bare g⟩ F9 N9 (nI2 hnI) ⟨ys, hy3, rfl⟩ fun y hy => ?_
    have y1 : y ≠ Str.ofString "place" := by rintro rfl; exact absurd hy (by decide)
    show (if y = Str.ofString "place" then _ else mixM _ _ _ y) = _
    rw [if_neg y1, mixM, if_neg (by rw [hy]; exact Bool.false_ne_true)]
  case done =>
    intro u nx s4 kp4 hR F4 N4
    refine ex1_el (hR) fun xs hz95 => ?_
    have hx3 := hz95.1
    have hr6_1 := hz95.2
    clear hz95
    subst hr6_1
    clear hR
    refine ex5_el (hx3) fun c0 c1 c2 t0 t1 hz97 => ?_
    refine ex1_el hz97 fun t2 hz98 => ?_
    clear hz97
    subst hz98
    have hl4 : s4.heap.IsList _ _ := ⟨_, (N4 _ (.head _)).1, rfl, _, rfl⟩
    k_steps
    refine Hold.go (subscriptTail_builtin (T := "list") hl4.typeIs slot_list_getitem.lookup <| wpAny_getItem_list (x := .int c0 t0) hl4 (by decide) (by decide) rfl ?_)
    k_steps
    refine ex1_el (nOf c0) fun n hz100 => ?_
    refine and3_el hz100 fun hn3 hn11 en => ?_
    clear hz100
    rw [en]
    refine' storeX_C ?F ?N ?c ?U ?d ?h ?k ?x
    case F => k_asm
    case N => k_asm
    case c => exact rfl
    case d => k_asm
    case k => exact rfl
    case x => exact rfl
    case U => exact .tail (Nat.ne_of_gt q1) (.head fun p hp => Nat.ne_of_lt (Nat.lt_succ_of_lt (hl9 p hp)))
    intro h9 o9 F9 N9 hd9
    (try dsimp only at N9)
    k_steps
    refine Hold.go (Assign_ListComp_C (by assumption) rfl (by with_unfolding_all rfl) (by with_unfolding_all rfl) rfl (by decide) (fun _ => rfl) (fun _ => rfl) (fun _ _ => rfl) (by rfl) (by rfl) ?_)
    k_steps
    refine Hold.go (SrcC.range (n := n - 1) (InvQ n) rfl (by assumption) (by assumption) (by assumption) ?small ?size (Nat.le_trans (show n - 1 ≤ 200 by lia) (by decide)) (InvQ.nil n) ?turn ?fin)
    case small => exact small_one (by lia) (by lia) (by lia) (by lia)
    case size => rw [rangeSize_nat]; lia
    case turn =>
      intro g i v I oI K oK C oC D ys h tk E8 hi hinv hv8 hdK F8 N8
      refine ex1_el hv8 fun t8 hv9 => ?_
      clear hv8
      subst hv9
      refine wpAny_tests_one ?_
      refine gen_T fun W1 W2 hW1 hW2 => ?_
      k_steps
      refine Hold.go (ListComp_T (by assumption) rfl (by decide) rfl (by decide) rfl ?_)
      k_steps
      refine Hold.go (CompSrcT.range (n := i) rfl (by assumption) (by assumption) (by assumption) ?small ?size (Nat.le_trans (show i ≤ 200 by lia) (by decide)) fun g9 => ?_)
      case small => exact small_one (by lia) (by lia) (by lia) (by lia)
      case size => rw [rangeSize_nat]; lia
      refine compRestT_of trivial (InvD n (i + 1)) (InvD.nil _ _) ?turn2 ?fin2
      case turn2 =>
        intro j v I2 oI2 C2 oC2 D2 ys2 m2 h9 tk9 E9 hj hinv2 hv8 hns hm9 F9 N9 off9 ne9
        refine ex1_el hv8 fun t9 hv9 => ?_
        clear hv8
        subst hv9
        refine gen_T fun W3 W4 hW3 hW4 => ?_
        k_steps
        · rename_i u1 u2
          exact hW3 _ _ ⟨hinv2.yes ((fm0 _ _).mp u1) ((fm1 _ _).mp u2) _ _, _, _, rfl, by assumption, by assumption⟩
        · rename_i u1 u2
          exact hW4 _ ⟨hinv2.no fun k => u2 ((fm1 _ _).mpr k.2), _, _, rfl, by assumption, by assumption⟩
        · rename_i u1
          exact hW4 _ ⟨hinv2.no fun k => u1 ((fm0 _ _).mpr k.1), _, _, rfl, by assumption, by assumption⟩
      case fin2 =>
        intro ys2 hys2
        refine ex1_el (hys2.end_ (by lia)) fun zs hz102 => ?_
        have hz := hz102.1
        have hze := hz102.2
        clear hz102
        k_steps
        rename News _ _ _ _ => N9
        refine Hold.go (eq_nil (N9 _ (.tail _ (.head _))).1 hz (N9 _ (.head _)).1 (by ktr_units) ?_)
        k_steps
        · rename_i u1
          exact hW1 _ _ ⟨hinv.yes (hze.mp u1) _, _, _, rfl, by assumption, news_sub N9 (by ((repeat refine sub_cons (by k_mem) ?_); first | exact sub_nil | k_allIn))⟩
        · rename_i u1
          exact hW2 _ ⟨hinv.no (fun k => by rw [hze.mpr k] at u1; cases u1), _, _, rfl, by assumption, news_sub N9 (by ((repeat refine sub_cons (by k_mem) ?_); first | exact sub_nil | k_allIn))⟩
    case fin =>
      rintro g ys ⟨zs, hz, hzl, hzn, hza⟩ D h tk F8 N8 l8 o8
      have hy0 := ints_len' hz
      have hy1 : 1 ≤ ys.length := by
        rw [hy0]
        exact List.length_pos_iff.mpr (hzn (by lia))
      have hy2 : ys.length ≤ 10 := by lia
      k_steps
      rename News _ _ _ _ => N9
      have hc9 : Heap.IsList _ _ _ := ⟨_, (N9 _ (.tail _ (.tail _ (.tail _ (.tail _ (.tail _ (.tail _ (.tail _ (.tail _ (.head _)))))))))).1, rfl, _, rfl⟩
      refine Hold.go (subscriptTail_builtin (T := "list") hc9.typeIs slot_list_getitem.lookup <| wpAny_getItem_list (x := .int c1 t1) hc9 (by decide) (by decide) rfl ?_)
      k_steps
      refine ex1_el (fmodN c1 (l := zs.length) (by lia)) fun k hz93 => ?_
      have hkl := hz93.1
      have ek := hz93.2
      clear hz93
      rw [ek]
      refine ex2_el (ints_at hz k hkl) fun a9 t9 hz95 => ?_
      have e9 := hz95.1
      have m9 := hz95.2
      clear hz95
      refine ex1_el (hza a9 m9) fun q hz97 => ?_
      refine and4_el hz97 fun hr8_0 hq1 hq2 hqc => ?_
      clear hz97
      subst hr8_0
      have hf9 : Heap.IsList _ _ _ := ⟨_, (N9 _ (.tail _ (.tail _ (.tail _ (.tail _ (.tail _ (.tail _ (.tail _ (.head _))))))))).1, rfl, _, rfl⟩
      refine Hold.go (subscriptTail_builtin (T := "list") hf9.typeIs slot_list_getitem.lookup <| wpAny_getItem_list (x := .int q t9) hf9 (by lia) (by lia) (by rw [Int.toNat_natCast, List.getElem?_toArray]; exact e9) ?_)
      k_steps
      refine Hold.go (subscriptTail_builtin (T := "list") hc9.typeIs slot_list_getitem.lookup <| wpAny_getItem_list (x := .int c1 t1) hc9 (by decide) (by decide) rfl ?_)
      k_steps
      have hfd1 : FD c1 zs.length (c1.fdiv zs.length) := ⟨by lia, rfl⟩
      have hfd2 : FD c2 7900 (c2.fdiv 7900) := ⟨by decide, rfl⟩
      refine Hold.go (fd_go (by assumption) (PySem.PylongRoom.of (PySem.Heap.NoLimit.keeps T'.nolimit (PyProof.Rows.Fr.keep (by assumption))) (by (simp only [depth_deeper]; (try dsimp only [ktrTop]); show _ + 100 < _; lia)) (PySem.SeerAt.of (PySem.Heap.NoSeer.keeps (T'.seer him) (PyProof.Rows.Fr.keep (by assumption))) rfl rfl rfl rfl rfl rfl)) ?_)
      k_steps
      refine Hold.go (subscriptTail_builtin (T := "list") hc9.typeIs slot_list_getitem.lookup <| wpAny_getItem_list (x := .int c2 t2) hc9 (by decide) (by decide) rfl ?_)
      k_steps
      refine Hold.go (fd_go (by assumption) (PySem.PylongRoom.of (PySem.Heap.NoLimit.keeps T'.nolimit (PyProof.Rows.Fr.keep (by assumption))) (by (simp only [depth_deeper]; (try dsimp only [ktrTop]); show _ + 100 < _; lia)) (PySem.SeerAt.of (PySem.Heap.NoSeer.keeps (T'.seer him) (PyProof.Rows.Fr.keep (by assumption))) rfl rfl rfl rfl rfl rfl)) ?_)
      k_steps
      refine ex1_el (fmodN (c2.fdiv 7900) (l := 6) (by decide)) fun k6 hz99 => ?_
      have hk6 := hz99.1
      have ek6 := hz99.2
      clear hz99
      rw [show ((6 : Nat) : Int) = 6 from rfl] at ek6
      rw [ek6]
      have hp9 : Heap.IsList _ _ _ := ⟨_, (N9 _ (.head _)).1, rfl, _, rfl⟩
      refine ex5_el (pick6 (own := own) N9 (fun p hp => .tail _ (.tail _ (.tail _ hp))) (by assumption) (by assumption) (by assumption) (by assumption) (by assumption) (by assumption) hk6) fun P pa pb ta tb hz101 => ?_
      refine and4_el hz101 fun eP hab N10 hlP => ?_
      clear hz101
      clear N9
      refine Hold.go (subscriptTail_builtin (T := "list") hp9.typeIs slot_list_getitem.lookup <| wpAny_getItem_list (x := .ref P) hp9 (by lia) (by lia) (by rw [Int.toNat_natCast]; exact eP) ?_)
      k_steps
      refine Hold.go (subscriptTail_builtin (T := "list") hc9.typeIs slot_list_getitem.lookup <| wpAny_getItem_list (x := .int c2 t2) hc9 (by decide) (by decide) rfl ?_)
      k_steps
      refine ex1_el (fmodN c2 (l := 7900) (by decide)) fun r hz103 => ?_
      have hr := hz103.1
      have er := hz103.2
      clear hz103
      have er' : 7 + c2.fmod 7900 = ((7 + r : Nat) : Int) := by rw [show (7900 : Int) = ((7900 : Nat) : Int) from rfl, er]; lia
      rename News _ _ _ _ => N11
      rw [er'] at N11
      refine hret _ _ P n q (7 + r) _ pa pb _ _ _ _ ta tb ⟨kp4.os, fun g => kp4.bare g⟩ (by assumption) N11 hlP ?lt hn3 hn11 hq1 (by lia) hqc (by lia) (by lia) hab
      case lt => exact And.left (b := AllLt _ own) (by assumption)


end

section
open PySem PySem.W PyProof.Rows PySem.Calls PyProof.Rows.LCg PyProof.Rows.LCt
set_option Elab.async false
set_option maxRecDepth 100000
set_option maxHeartbeats 4000000
theorem news_drop {h₀ h : Heap} {L : Addr} {a b : Addr × Obj} {r : List (Addr × Obj)} (N : News h₀ L h (a :: b :: r)) : News h₀ L h (a :: r) := fun p hp => by
  rcases List.mem_cons.mp hp with rfl | hp
  · exact N _ (.head _)
  · exact N p (.tail _ (.tail _ hp))
theorem news_drop3 {h₀ h : Heap} {L : Addr} {a b c d : Addr × Obj} {r : List (Addr × Obj)} (N : News h₀ L h (a :: b :: c :: d :: r)) : News h₀ L h (a :: r) := news_drop (news_drop (news_drop N))
/-- the inner list: the heights that are high enough -/
def InvY (n q i : Nat) (j : Nat) (ys : List Value) : Prop := ∃ zs : List Int, IntsAre ys zs ∧ (∀ z ∈ zs, ∃ y : Nat, z = (y : Int) ∧ (q : Int) * (1 + (i : Int)) ≤ (n : Int) * (y : Int)) ∧ ∀ y : Nat, y < j → (q : Int) * (1 + (i : Int)) ≤ (n : Int) * (y : Int) → (y : Int) ∈ zs
theorem InvY.nil (n q i : Nat) : InvY n q i 0 [] := ⟨[], .nil, (fun z h => nomatch h), fun y h => absurd h (Nat.not_lt_zero y)⟩
theorem InvY.yes {n q i j : Nat} {ys : List Value} (h : InvY n q i j ys) (h1 : (q : Int) * (1 + (i : Int)) ≤ (n : Int) * (0 + (j : Int))) (t : Tok) : InvY n q i (j + 1) (ys ++ [.int (0 + (j : Int)) t]) := by
  obtain ⟨zs, hz, ha, hb⟩ := h
  rw [Int.zero_add] at h1 ⊢
  refine ⟨zs ++ [(j : Int)], ints_snoc' hz _ t, fun z hm => ?_, fun y hy h2 => ?_⟩
  · rcases List.mem_append.mp hm with hm | hm
    · exact ha z hm
    · exact ⟨j, List.mem_singleton.mp hm, h1⟩
  · by_cases e : y = j
    · exact List.mem_append.mpr (.inr (by rw [e]; exact .head _))
    · exact List.mem_append.mpr (.inl (hb y (by lia) h2))
theorem InvY.no {n q i j : Nat} {ys : List Value} (h : InvY n q i j ys) (h1 : ¬ (q : Int) * (1 + (i : Int)) ≤ (n : Int) * (0 + (j : Int))) : InvY n q i (j + 1) ys := by
  obtain ⟨zs, hz, ha, hb⟩ := h
  rw [Int.zero_add] at h1
  refine ⟨zs, hz, ha, fun y hy h2 => ?_⟩
  by_cases e : y = j
  · rw [e] at h2; exact absurd h2 h1
  · exact hb y (by lia) h2
theorem InvY.end_ {n q i : Nat} {ys : List Value} (h : InvY n q i (q + 1) ys) (hn : 0 < n) (hi : i < n) : ∃ zs : List Int, IntsAre ys zs ∧ 0 < zs.length ∧ ∀ M ∈ zs, (∀ a, a ∈ zs → M ≤ a) → M = ((1 + (i : Int)) * q + n - 1) / n := by
  obtain ⟨zs, hz, ha, hb⟩ := h
  have hn' : (0 : Int) < (n : Int) := by lia
  have hq0 : (0 : Int) ≤ (q : Int) := Int.natCast_nonneg q
  have hX : (1 + (i : Int)) * q = (q : Int) * (1 + (i : Int)) := Int.mul_comm _ _
  have hle : (q : Int) * (1 + (i : Int)) ≤ (q : Int) * n := Int.mul_le_mul_of_nonneg_left (by lia) hq0
  have hp : (0 : Int) ≤ (q : Int) * (1 + (i : Int)) := Int.mul_nonneg hq0 (by lia)
  rw [hX]
  generalize (q : Int) * (1 + (i : Int)) = x at *
  have e1 := Int.ediv_mul_add_emod (x + n - 1) n
  have e2 := Int.emod_nonneg (x + n - 1) (Int.ne_of_gt hn')
  have e3 := Int.emod_lt_of_pos (x + n - 1) hn'
  generalize (x + n - 1) / (n : Int) = c at *
  generalize (x + n - 1) % (n : Int) = r at *
  have hc0 : 0 ≤ c := by
    refine Int.not_lt.mp fun h => ?_
    have : c * n ≤ (-1) * n := Int.mul_le_mul_of_nonneg_right (by lia) (by lia)
    lia
  have hcq : c ≤ q := by
    refine Int.not_lt.mp fun h => ?_
    have : ((q : Int) + 1) * n ≤ c * n := Int.mul_le_mul_of_nonneg_right (by lia) (by lia)
    rw [Int.add_mul] at this
    lia
  have hcz : c ∈ zs := by
    have := hb c.toNat (by lia) (by rw [Int.toNat_of_nonneg hc0, Int.mul_comm]; lia)
    rw [Int.toNat_of_nonneg hc0] at this
    exact this
  refine ⟨zs, hz, List.length_pos_of_mem hcz, fun M hM hm => ?_⟩
  refine Int.le_antisymm (hm c hcz) ?_
  obtain ⟨y, rfl, hy⟩ := ha M hM
  refine Int.not_lt.mp fun h => ?_
  have : (y : Int) * n ≤ (c - 1) * n := Int.mul_le_mul_of_nonneg_right (by lia) (by lia)
  rw [Int.sub_mul, Int.mul_comm (y : Int)] at this
  lia
/-- the outer list: the heights so far -/
def InvL (n q i : Nat) (ys : List Value) : Prop := IntsAre ys ((List.range i).map (fun i : Nat => ((1 + (i : Int)) * q + n - 1) / n))
theorem InvL.nil (n q : Nat) : InvL n q 0 [] := IntsAre.nil
theorem InvL.step {n q i : Nat} {ys : List Value} (h : InvL n q i ys) {M : Int} (hM : M = ((1 + (i : Int)) * q + n - 1) / n) (t : Tok) : InvL n q (i + 1) (ys ++ [.int M t]) := by
  unfold InvL
  rw [List.range_succ, List.map_append, hM]
  exact ints_snoc' h _ t
/-- the lowest point of a column -/
noncomputable def atL (n q k : Nat) : Int := (lowL n q).getD k 0
theorem ints_get {vs : List Value} {xs : List Int} (h : IntsAre vs xs) : ∀ k, k < xs.length → ∃ t, vs[k]? = some (.int (xs.getD k 0) t) := by
  induction h with
  | nil => intro k hk; exact absurd hk (Nat.not_lt_zero k)
  | cons b u _ ih =>
    intro k hk
    cases k with
    | zero => exact ⟨u, rfl⟩
    | succ k => obtain ⟨t, e⟩ := ih k (by simpa using hk); exact ⟨t, by simpa using e⟩
theorem lowL_len (n q : Nat) : (lowL n q).length = n + 1 := by simp [lowL]
section
variable {prog : Program} {w : World} {A : Around} {E : Value → Shared → Prop} {s : Shared}
theorem subL {value slice : Expr} {l : Addr} {lv : List Value} {n q : Nat} {z : Int} {u : Tok} {Q : Value → Shared → Prop} (hl : s.heap.IsList l lv.toArray) (hlv : IntsAre lv (lowL n q)) (k : Nat) (hz : z = (k : Int)) (hk : k < n + 1) (hn : n ≤ 100) (h : ∀ t, Q (.int (atL n q k) t) s)
    (hs : subscripted slice false (.ref l) (.int z u) = operate [.ref l, .int z u] (getItem (.ref l) (.int z u)) := by with_unfolding_all rfl) (ht : ∀ r, letTemporaryGo value (.ref l) r = pure () := by intro _; with_unfolding_all rfl) :
    wpAny (model prog w) A (subscriptTail value slice (.ref l) (.int z u)) Q E s := by
  obtain ⟨t, e⟩ := ints_get hlv k (by rw [lowL_len]; exact hk)
  exact subscriptTail_builtin hl.typeIs slot_list_getitem.lookup (wpAny_getItem_list hl (by lia) (by lia) (by rw [hz, Int.toNat_natCast, List.getElem?_toArray]; exact e) (h t)) hs ht
end
/-- a point that is no sum of two -/
noncomputable def dueOk (n q x : Nat) : Bool := (List.range x).all fun a => a == 0 || atL n q a + atL n q (x - a) != atL n q x
noncomputable def dueP (n q i : Nat) : List (Int × Int) := ((List.range i).filter (dueOk n q)).map fun x : Nat => ((x : Int), atL n q x)
def InvA (n q x j : Nat) (ys : List Value) : Prop := ∃ zs : List Int, IntsAre ys zs ∧ (zs = [] ↔ ∀ a : Nat, 1 ≤ a → a < 1 + j → atL n q a + atL n q (x - a) ≠ atL n q x)
theorem InvA.nil (n q x : Nat) : InvA n q x 0 [] := ⟨[], .nil, by simp; intro d h1 h2; lia⟩
theorem InvA.yes {n q x j : Nat} {ys : List Value} (h : InvA n q x j ys) (h1 : atL n q (1 + j) + atL n q (x - (1 + j)) = atL n q x) (a : Int) (t : Tok) : InvA n q x (j + 1) (ys ++ [.int a t]) := by
  obtain ⟨zs, hz, _⟩ := h
  refine ⟨zs ++ [a], ints_snoc' hz a t, ?_⟩
  constructor
  · intro e; simp at e
  · intro e; exact absurd h1 (e (1 + j) (by lia) (by lia))
theorem InvA.no {n q x j : Nat} {ys : List Value} (h : InvA n q x j ys) (h1 : atL n q (1 + j) + atL n q (x - (1 + j)) ≠ atL n q x) : InvA n q x (j + 1) ys := by
  obtain ⟨zs, hz, e⟩ := h
  refine ⟨zs, hz, e.trans ⟨fun k d hd1 hd2 => ?_, fun k d hd1 hd2 => k d hd1 (by lia)⟩⟩
  by_cases hd : d = 1 + j
  · rw [hd]; exact h1
  · exact k d hd1 (by lia)
theorem InvA.end_ {n q x : Nat} {ys : List Value} (h : InvA n q x (x - 1) ys) : ∃ zs, IntsAre ys zs ∧ zs.isEmpty = dueOk n q x := by
  obtain ⟨zs, hz, e⟩ := h
  refine ⟨zs, hz, ?_⟩
  rw [Bool.eq_iff_iff, List.isEmpty_iff, e, dueOk, List.all_eq_true]
  constructor
  · intro k a ha
    rcases Nat.eq_zero_or_pos a with rfl | h0
    · rfl
    · have := k a h0 (by have := List.mem_range.mp ha; lia)
      simp [this]
  · intro k a h1 h2
    have := k a (List.mem_range.mpr (by lia))
    simp only [Bool.or_eq_true, beq_iff_eq, bne_iff_ne] at this
    rcases this with h | h
    · lia
    · exact h
theorem dueP_yes {n q i : Nat} (h : dueOk n q i = true) : dueP n q (i + 1) = dueP n q i ++ [((i : Int), atL n q i)] := by
  simp [dueP, List.range_succ, List.filter_append, h]
theorem dueP_no {n q i : Nat} (h : dueOk n q i = false) : dueP n q (i + 1) = dueP n q i := by
  simp [dueP, List.range_succ, List.filter_append, h]
theorem off4_ins {I K C D T : Addr} {o : Obj} {l l' : List (Addr × Obj)} (h : Off4 I K C D l) (t1 : T ≠ I) (t2 : T ≠ C) (t3 : T ≠ D) (t4 : T ≠ K) (sub : ∀ p ∈ l', p = (T, o) ∨ p ∈ l) : Off4 I K C D l' := fun p hp => by
  rcases sub p hp with rfl | hp
  · exact ⟨t1, t2, t3, t4⟩
  · exact h p hp
theorem pts_snoc {own : List (Addr × Obj)} {T : Addr} {a b : Int} {ta tb : Tok} {vs : List Value} {ps : List (Int × Int)} (h : PtsAre own vs ps) :
    PtsAre ((T, { cls := .type "tuple", data := .seq #[.int a ta, .int b tb] }) :: own) (vs ++ [.ref T]) (ps ++ [(a, b)]) :=
  (h.mono fun _ h => .tail _ h).append (.cons (.head _) .nil)
theorem news_rot9 {h₀ h : Heap} {L : Addr} {a1 a2 a3 a4 a5 a6 a7 a8 a9 t1 t2 : Addr × Obj} {r : List (Addr × Obj)} (N : News h₀ L h (a1 :: a2 :: a3 :: a4 :: a5 :: a6 :: a7 :: a8 :: a9 :: t1 :: t2 :: r)) : News h₀ L h (t1 :: t2 :: a1 :: a2 :: a3 :: a4 :: a5 :: a6 :: a7 :: a8 :: a9 :: r) :=
  news_sub N (by ((repeat refine List.forall_mem_cons.mpr ⟨by k_mem, ?_⟩); first | exact (fun _ h => absurd h List.not_mem_nil) | (intro _ h; repeat (first | exact h | refine List.Mem.tail _ ?_))))
theorem news_more5 {h₀ h : Heap} {L : Addr} {b1 b2 b3 b4 b5 a1 a2 a3 a4 a5 a6 a7 a8 a9 : Addr × Obj} {r own : List (Addr × Obj)} (N : News h₀ L h (b1 :: b2 :: b3 :: b4 :: b5 :: r)) (hs : ∀ p ∈ (a1 :: a2 :: a3 :: a4 :: a5 :: a6 :: a7 :: a8 :: a9 :: own), p ∈ r) : News h₀ L h (b1 :: b2 :: b3 :: b4 :: b5 :: a1 :: a2 :: a3 :: a4 :: a5 :: a6 :: a7 :: a8 :: a9 :: r) :=
  news_sub N (by
    have key : ∀ p ∈ r, p ∈ b1 :: b2 :: b3 :: b4 :: b5 :: r := fun p h => .tail _ (.tail _ (.tail _ (.tail _ (.tail _ h))))
    (repeat refine List.forall_mem_cons.mpr ⟨by first | exact key _ (hs _ (by k_mem)) | k_mem, ?_⟩)
    exact key)
theorem reads_pts {h₀ h : Heap} {L : Addr} {own l : List (Addr × Obj)} (N : News h₀ L h l) (sub : ∀ p ∈ own, p ∈ l) {vs : List Value} {ps : List (Int × Int)} (k : PtsAre own vs ps) : ReadsAll h vs (ps.map ptD) [] := by
  induction k with
  | nil => exact .nil
  | cons hm _ ih =>
    exact .cons (as := []) (bs := []) (.tuple (N _ (sub _ hm)).1 rfl rfl (.cons (as := []) (bs := []) (.int _ _) (.cons (as := []) (bs := []) (.int _ _) .nil))) ih
section
variable {prog : Program} {w : World} {A : Around} {E : Value → Shared → Prop} {s : Shared} {Q : Value → Shared → Prop}
theorem ne_pts {h₀ : Heap} {L : Addr} {own own2 l : List (Addr × Obj)} {l1 l2 : Addr} {v1 v2 : List Value} {n1 n2 : Nat} {ps : List (Int × Int)} (N : News h₀ L s.heap l) (s1 : ∀ p ∈ own, p ∈ l) (s2 : ∀ p ∈ own2, p ∈ l) (h1 : (l1, listOf v1.toArray n1) ∈ l) (k1 : PtsAre own v1 ps) (h2 : (l2, listOf v2.toArray n2) ∈ l) (k2 : PtsAre own2 v2 ps) (hu : A.units + 64 < cLine)
    (h : Q (.bool false) s) : wpAny (model prog w) A (compareOp .NotEq (.ref l1) (.ref l2)) Q E s :=
  ne_dataH (.list (as := []) (N _ h1).1 rfl rfl (reads_pts N s1 k1)) (.list (as := []) (N _ h2).1 rfl rfl (reads_pts N s2 k2)) (shaped_pts ps) (shaped_pts ps) hu (by rw [PyData.eqv, eqvAll_pts]; exact h)
end

end

section
open PySem PySem.W PyProof.Rows PySem.Calls
set_option Elab.async false
set_option maxRecDepth 100000
set_option maxHeartbeats 4000000
noncomputable def copb (n q : Nat) : Bool := (List.range (q + 1)).all fun d => decide (d < 2) || !(n % d == 0 && q % d == 0)
theorem cop_b {n q : Nat} (h : cop n q) : copb n q = true := by
  refine List.all_eq_true.mpr fun d hd => ?_
  by_cases h2 : d < 2
  · simp [h2]
  · have := h d (by lia) (List.mem_range.mp hd)
    simp only [Bool.or_eq_true, decide_eq_true_eq, Bool.not_eq_true', Bool.and_eq_false_iff, beq_eq_false_iff_ne]
    lia
/-- the sizes and widths -/
noncomputable def nqs : List (Nat × Nat) := ((List.range 12).flatMap fun n => (List.range n).map fun q => (n, q)).filter fun p => decide (3 ≤ p.1) && decide (1 ≤ p.2) && copb p.1 p.2
theorem mem_nqs {n q : Nat} (h3 : 3 ≤ n) (hn : n ≤ 11) (h1 : 1 ≤ q) (hq : q < n) (hc : cop n q) : (n, q) ∈ nqs := by
  refine List.mem_filter.mpr ⟨List.mem_flatMap.mpr ⟨n, List.mem_range.mpr (by lia), List.mem_map.mpr ⟨q, List.mem_range.mpr hq, rfl⟩⟩, ?_⟩
  simp only [cop_b hc, Bool.and_true, Bool.and_eq_true, decide_eq_true_eq]
  exact ⟨h3, h1⟩
/-- the way's text -/
noncomputable def wayL (n q : Nat) (a b : Str) : List Str := (List.range n).map fun x => Txt.mul a (atL n q (x + 1) - atL n q x) ++ b
noncomputable def wayS (n q : Nat) (a b : Str) : Str := ⟨((wayL n q a b).flatMap fun s => s.cps.toList).toArray⟩
theorem join_nil : ∀ ys : List Str, (Str.join (Str.ofString "") ys).cps.toList = ys.flatMap fun s => s.cps.toList
  | [] => rfl
  | [x] => by simp [Str.join]
  | x :: y :: r => by
    have ih := join_nil (y :: r)
    have e : Str.join (Str.ofString "") (x :: y :: r) = x ++ Str.ofString "" ++ Str.join (Str.ofString "") (y :: r) := rfl
    have e0 : (Str.ofString "").cps.toList = [] := by decide
    rw [e, toList_app, toList_app, ih, e0, List.append_nil]; simp [List.flatMap_cons]
theorem way_join (n q : Nat) (a b : Str) : Str.join (Str.ofString "") (wayL n q a b) = wayS n q a b := ext_l (by rw [join_nil]; rfl)
/-- the words, and the points that they tell -/
noncomputable def wdL (n q : Nat) (a b : Str) : List Str := (wst (wayS n q a b).cps.toList.reverse).map jw
noncomputable def ptsW (a b : Str) (ws : List Str) : List (Int × Int) := ws.foldl (fun ps w => ps ++ [((ps.getLastD (0, 1)).1 + Txt.count w b, (ps.getLastD (0, 1)).2 + Txt.count w a)]) [(0, 1)]
/-- two words side by side -/
noncomputable def sideOk : List Str → List Int → Bool
  | w :: v :: r, c :: cs => !decide (w.cps.toList < v.cps.toList) && ((w == v) == (c == 2)) && sideOk (v :: r) cs
  | [_], _ => true
  | [], _ => true
  | _ :: _ :: _, [] => false
noncomputable def okNQ (p : Nat × Nat) : Bool := (foldR p.1 p.2).1 == dueP p.1 p.2 (p.1 + 1) && (List.range (p.1 + 1)).all fun x => decide (0 ≤ atL p.1 p.2 x) && decide (atL p.1 p.2 x ≤ 50)
theorem okNQ_all : nqs.all okNQ = true := by decide +kernel
noncomputable def okW (p : Nat × Nat) (ab : Str × Str) : Bool := ptsW ab.1 ab.2 (wdL p.1 p.2 ab.1 ab.2) == dueP p.1 p.2 (p.1 + 1) && sideOk (wdL p.1 p.2 ab.1 ab.2) (foldR p.1 p.2).2 && (decide ((wayS p.1 p.2 ab.1 ab.2).length ≤ 50) && decide (((wayL p.1 p.2 ab.1 ab.2).map (·.length)).sum + (wayL p.1 p.2 ab.1 ab.2).length ≤ 1000))
theorem okW_all : pairsP.all (fun ab => nqs.all fun p => okW p ab) = true := by decide +kernel
theorem pair_len {a b : Str} (hp : (a, b) ∈ pairsP) : a.length = 1 ∧ b.length = 1 ∧ PyData.strOk a = true ∧ PyData.strOk b = true := by
  have key : pairsP.all (fun p => p.1.length == 1 && p.2.length == 1 && PyData.strOk p.1 && PyData.strOk p.2) = true := by decide +kernel
  have := List.all_eq_true.mp key _ hp
  simp only [Bool.and_eq_true, beq_iff_eq] at this
  exact ⟨this.1.1.1, this.1.1.2, this.1.2, this.2⟩
section
variable {prog : Program} {w : World} {A : Around} {E : Value → Shared → Prop} {s : Shared} {Q : Value → Shared → Prop}
theorem mulPair {x : Str} {t u : Tok} {d : Int} (hx : x.length = 1) (h1 : -100 ≤ d) (h2 : d ≤ 100) (h : ∀ t' k, Q (.str (Txt.mul x d) t') { s with toks := k }) : wpAny (model prog w) A (binaryOp .Mult (.str x t) (.int d u)) Q E s :=
  SB.mul (mulOk_of 1 1048576 (by lia) (by lia) (by lia) (by decide) (by decide)) h
end
theorem fold_due {n q : Nat} (h : (n, q) ∈ nqs) : (foldR n q).1 = dueP n q (n + 1) := eq_of_beq (Bool.and_eq_true_iff.mp (List.all_eq_true.mp okNQ_all _ h)).1
theorem at_bd {n q : Nat} (h : (n, q) ∈ nqs) {x : Nat} (hx : x ≤ n) : 0 ≤ atL n q x ∧ atL n q x ≤ 50 := by
  have := List.all_eq_true.mp (Bool.and_eq_true_iff.mp (List.all_eq_true.mp okNQ_all _ h)).2 x (List.mem_range.mpr (by lia))
  simpa using this
theorem way_ok {n q : Nat} {a b : Str} (h : (n, q) ∈ nqs) (hp : (a, b) ∈ pairsP) : ptsW a b (wdL n q a b) = dueP n q (n + 1) ∧ sideOk (wdL n q a b) (foldR n q).2 = true ∧ (wayS n q a b).length ≤ 50 ∧ ((wayL n q a b).map (·.length)).sum + (wayL n q a b).length ≤ 1000 := by
  have := List.all_eq_true.mp (List.all_eq_true.mp okW_all _ hp) _ h
  simp only [okW, Bool.and_eq_true, decide_eq_true_eq, beq_iff_eq] at this
  exact ⟨this.1.1, this.1.2, this.2.1, this.2.2⟩
theorem news_mv0 {h₀ h : Heap} {L : Addr} {p t a b c d e f g : Addr × Obj} {own : List (Addr × Obj)} (N : News h₀ L h (p :: t :: a :: b :: c :: d :: e :: f :: g :: own)) : News h₀ L h (p :: a :: b :: c :: d :: e :: f :: g :: t :: own) := news_sub N (by ((repeat refine List.forall_mem_cons.mpr ⟨by k_mem, ?_⟩); first | exact (fun _ h => absurd h List.not_mem_nil) | (intro _ h; repeat (first | exact h | refine List.Mem.tail _ ?_))))
theorem news_mv7 {h₀ h : Heap} {L : Addr} {p t i a b c d e f g : Addr × Obj} {own : List (Addr × Obj)} (N : News h₀ L h (t :: i :: p :: a :: b :: c :: d :: e :: f :: g :: own)) : News h₀ L h (p :: i :: a :: b :: c :: d :: e :: f :: g :: t :: own) := news_sub N (by ((repeat refine List.forall_mem_cons.mpr ⟨by k_mem, ?_⟩); first | exact (fun _ h => absurd h List.not_mem_nil) | (intro _ h; repeat (first | exact h | refine List.Mem.tail _ ?_))))
theorem news_swap {h₀ h : Heap} {L : Addr} {p i : Addr × Obj} {own : List (Addr × Obj)} (N : News h₀ L h (p :: i :: own)) : News h₀ L h (i :: p :: own) := news_sub N (by ((repeat refine List.forall_mem_cons.mpr ⟨by k_mem, ?_⟩); first | exact (fun _ h => absurd h List.not_mem_nil) | (intro _ h; repeat (first | exact h | refine List.Mem.tail _ ?_))))
theorem nI_ins7 {I T lp : Addr} {o o' oT : Obj} {a b c d e f g : Addr × Obj} {own : List (Addr × Obj)} (h : ∀ x ∈ (lp, o) :: a :: b :: c :: d :: e :: f :: g :: own, x.1 ≠ I) (hT : T ≠ I) : ∀ x ∈ (lp, o') :: a :: b :: c :: d :: e :: f :: g :: (T, oT) :: own, x.1 ≠ I := by
  have h' := nI2 (o' := o') h
  (repeat refine List.forall_mem_cons.mpr ⟨by first | exact h' _ (by k_mem) | exact hT, ?_⟩)
  exact fun p hp => h' p (by repeat (first | exact hp | refine List.Mem.tail _ ?_))
theorem pts_last {own : List (Addr × Obj)} {vs : List Value} {ps : List (Int × Int)} {p1 : Int × Int} (x : PtsAre own vs (ps ++ [p1])) : ∃ us q1 ta tb, vs = us ++ [.ref q1] ∧ us.length = ps.length ∧ (q1, ({ cls := .type "tuple", data := .seq #[.int p1.1 ta, .int p1.2 tb] } : Obj)) ∈ own := by
  induction ps generalizing vs with
  | nil =>
    cases x with
    | cons hm y => cases y; exact ⟨[], _, _, _, rfl, rfl, hm⟩
  | cons p ps ih =>
    cases x with
    | cons hm y =>
      obtain ⟨us, q1, ta, tb, rfl, hl, h2⟩ := ih y
      exact ⟨_ :: us, q1, ta, tb, rfl, by rw [List.length_cons, List.length_cons, hl], h2⟩
noncomputable def lastP (a b : Str) (ws : List Str) : Int × Int := (ptsW a b ws).getLastD (0, 1)
theorem ptsW_snoc (a b : Str) (ws : List Str) (w : Str) : ptsW a b (ws ++ [w]) = ptsW a b ws ++ [((lastP a b ws).1 + Txt.count w b, (lastP a b ws).2 + Txt.count w a)] := by
  unfold ptsW lastP; rw [List.foldl_append]; rfl
theorem ptsW_last (a b : Str) (ws : List Str) : ∃ pre, ptsW a b ws = pre ++ [lastP a b ws] ∧ pre.length = ws.length := by
  have key : ∀ n (ws : List Str), ws.length = n → ∃ pre, ptsW a b ws = pre ++ [lastP a b ws] ∧ pre.length = ws.length := by
    intro n
    induction n with
    | zero => intro ws h; rw [List.length_eq_zero_iff.mp h]; exact ⟨[], rfl, rfl⟩
    | succ n ih =>
      intro ws h
      rcases List.eq_nil_or_concat ws with rfl | ⟨l, w, rfl⟩
      · cases h
      · rw [List.concat_eq_append] at h ⊢
        refine ⟨ptsW a b l, ?_, ?_⟩
        · unfold lastP; rw [ptsW_snoc]; simp
        · obtain ⟨pre, e, hl⟩ := ih l (by simpa using h)
          rw [e]; simp [hl]
  exact key _ ws rfl
theorem side_at : ∀ {ws : List Str} {cs : List Int}, sideOk ws cs = true → ∀ (i : Nat) (w v : Str), ws[i]? = some w → ws[i + 1]? = some v → ∃ c, cs[i]? = some c ∧ ¬ w.cps.toList < v.cps.toList ∧ ((w == v) = (c == 2))
  | w :: v :: r, c :: cs, h, i, w', v', h1, h2 => by
    simp only [sideOk, Bool.and_eq_true, beq_iff_eq, Bool.not_eq_true', decide_eq_false_iff_not] at h
    cases i with
    | zero =>
      simp only [List.getElem?_cons_zero, Option.some.injEq, Nat.zero_add, List.getElem?_cons_succ] at h1 h2
      subst h1; subst h2
      exact ⟨c, rfl, h.1.1, h.1.2⟩
    | succ i =>
      obtain ⟨c', e, r1, r2⟩ := side_at h.2 i w' v' (by simpa using h1) (by simpa using h2)
      exact ⟨c', by simpa using e, r1, r2⟩
  | [_], _, _, i, _, _, h1, h2 => by simp at h2
  | [], _, _, i, _, _, h1, _ => by simp at h1
  | _ :: _ :: _, [], h, _, _, _, _, _ => by cases h
theorem news_r4 {h₀ h : Heap} {L : Addr} {a b c d : Addr × Obj} {r : List (Addr × Obj)} (N : News h₀ L h (a :: b :: c :: d :: r)) : News h₀ L h (c :: d :: a :: b :: r) :=
  news_sub N (List.forall_mem_cons.mpr ⟨by k_mem, List.forall_mem_cons.mpr ⟨by k_mem, List.forall_mem_cons.mpr ⟨by k_mem, List.forall_mem_cons.mpr ⟨by k_mem, fun _ h => .tail _ (.tail _ (.tail _ (.tail _ h)))⟩⟩⟩⟩)
theorem tri : ∀ a b : List Nat, ¬ a < b → ¬ b < a → a = b
  | [], [], _, _ => rfl
  | [], _ :: _, h, _ => absurd (List.nil_lt_cons _ _) h
  | _ :: _, [], _, h => absurd (List.nil_lt_cons _ _) h
  | x :: a, y :: b, h, k => by
    have e : x = y := by
      refine Nat.le_antisymm (Nat.not_lt.mp fun q => k ?_) (Nat.not_lt.mp fun q => h ?_)
      · exact List.cons_lt_cons_iff.mpr (.inl q)
      · exact List.cons_lt_cons_iff.mpr (.inl q)
    subst e
    rw [tri a b (fun q => h (List.cons_lt_cons_iff.mpr (.inr ⟨rfl, q⟩))) (fun q => k (List.cons_lt_cons_iff.mpr (.inr ⟨rfl, q⟩)))]
theorem irr : ∀ a : List Nat, ¬ a < a
  | [], h => by cases h
  | x :: a, h => by
    rcases List.cons_lt_cons_iff.mp h with q | ⟨_, q⟩
    · exact Nat.lt_irrefl _ q
    · exact irr a q
theorem cmp_facts {w v : Str} {c : Int} (h : ¬ w.cps.toList < v.cps.toList) (e : (w == v) = (c == 2)) :
    decide (w.cps.toList < v.cps.toList) = false ∧ (!decide (v.cps.toList < w.cps.toList)) = (c == 2) ∧ (!decide (w.cps.toList < v.cps.toList)) = true ∧ decide (v.cps.toList < w.cps.toList) = !(c == 2) := by
  have h1 : decide (w.cps.toList < v.cps.toList) = false := decide_eq_false h
  have h2 : decide (v.cps.toList < w.cps.toList) = !(c == 2) := by
    rw [← e]
    by_cases k : v.cps.toList < w.cps.toList
    · have : w ≠ v := fun q => by rw [q] at k; exact irr _ k
      rw [decide_eq_true k, beq_eq_false_iff_ne.mpr this]; rfl
    · have : w = v := ext_l (tri _ _ h k)
      rw [decide_eq_false k, this, beq_self_eq_true]; rfl
  exact ⟨h1, by rw [h2, Bool.not_not], by rw [h1]; rfl, h2⟩
theorem nqs_le {n q : Nat} (h : (n, q) ∈ nqs) : n ≤ 11 := by
  have h1 := (List.mem_filter.mp h).1
  obtain ⟨m, hm, h2⟩ := List.mem_flatMap.mp h1
  obtain ⟨k, _, e⟩ := List.mem_map.mp h2
  cases e
  have := List.mem_range.mp hm
  lia
theorem wdL_len {n q : Nat} {a b : Str} (h : (n, q) ∈ nqs) (hp : (a, b) ∈ pairsP) : (wdL n q a b).length ≤ 11 := by
  obtain ⟨pre, e, hl⟩ := ptsW_last a b (wdL n q a b)
  have h1 := (way_ok h hp).1
  rw [e] at h1
  have h2 := congrArg List.length h1
  rw [List.length_append, List.length_singleton, hl] at h2
  have h3 : (dueP n q (n + 1)).length ≤ n + 1 := by
    unfold dueP
    rw [List.length_map]
    exact Nat.le_trans (List.length_filter_le _ _) (Nat.le_of_eq List.length_range)
  have := nqs_le h
  lia
theorem strs_val {vs : List Value} {ys : List Str} (h : StrsAre vs ys) : ∀ (i : Nat) (v : Value), vs[i]? = some v → ∃ y t, v = .str y t ∧ ys[i]? = some y := by
  induction h with
  | nil => intro i v h; simp at h
  | cons y t _ ih =>
    intro i v hv
    cases i with
    | zero => exact ⟨y, t, by simpa using hv.symm, rfl⟩
    | succ i => obtain ⟨z, u, e, h⟩ := ih i v (by simpa using hv); exact ⟨z, u, e, by simpa using h⟩
section
variable {prog : Program} {w : World} {A : Around} {E : Value → Shared → Prop} {s : Shared} {Q : Value → Shared → Prop}
theorem subS {value slice : Expr} {l : Addr} {vs : List Value} {ys : List Str} {z : Int} {u : Tok} {y : Str} (hl : s.heap.IsList l vs.toArray) (hi : StrsAre vs ys) (k : Nat) (hz : z = (k : Int)) (hy : ys[k]? = some y) (hk : k < 1000) (h : ∀ t, Q (.str y t) s)
    (hs : subscripted slice false (.ref l) (.int z u) = operate [.ref l, .int z u] (getItem (.ref l) (.int z u)) := by with_unfolding_all rfl) (ht : ∀ r, letTemporaryGo value (.ref l) r = pure () := by intro _; with_unfolding_all rfl) :
    wpAny (model prog w) A (subscriptTail value slice (.ref l) (.int z u)) Q E s := by
  obtain ⟨t, e⟩ := hi.at hy
  exact subscriptTail_builtin hl.typeIs slot_list_getitem.lookup (wpAny_getItem_list hl (by lia) (by lia) (by rw [hz, Int.toNat_natCast, List.getElem?_toArray]; exact e) (h t)) hs ht
theorem subI {value slice : Expr} {l : Addr} {vs : List Value} {ys : List Int} {z : Int} {u : Tok} {y : Int} (hl : s.heap.IsList l vs.toArray) (hi : IntsAre vs ys) (k : Nat) (hz : z = (k : Int)) (hy : ys[k]? = some y) (hk : k < 1000) (h : ∀ t, Q (.int y t) s)
    (hs : subscripted slice false (.ref l) (.int z u) = operate [.ref l, .int z u] (getItem (.ref l) (.int z u)) := by with_unfolding_all rfl) (ht : ∀ r, letTemporaryGo value (.ref l) r = pure () := by intro _; with_unfolding_all rfl) :
    wpAny (model prog w) A (subscriptTail value slice (.ref l) (.int z u)) Q E s := by
  have hlt : k < ys.length := (List.getElem?_eq_some_iff.mp hy).1
  obtain ⟨t, e⟩ := ints_get hi k hlt
  rw [show ys.getD k 0 = y by rw [List.getD_eq_getElem?_getD, hy]; rfl] at e
  exact subscriptTail_builtin hl.typeIs slot_list_getitem.lookup (wpAny_getItem_list hl (by lia) (by lia) (by rw [hz, Int.toNat_natCast, List.getElem?_toArray]; exact e) (h t)) hs ht
theorem negItem0 {h₀ : Heap} {L : Addr} {news : List (Addr × Obj)} {value : Expr} {e : Expr} {pz : Pos} {lp : Addr} {pp : List Value} {r1 : Value} {np : Nat} {u : Tok} (N : News h₀ L s.heap news) (hm : (lp, listOf (pp ++ [r1]).toArray np) ∈ news) (h : Q r1 s) :
    wpAny (model prog w) A (subscriptTail value (.UnaryOp .USub e pz) (.ref lp) (.int (-1) u)) Q E s :=
  kde_neg (j := pp.length) (v := r1) ⟨_, (N _ hm).1, rfl, np, rfl⟩ (by decide) (by decide) (by rw [List.length_append]; simp [seqIndex?]; lia) (by rw [List.getElem?_append_right (by lia)]; simp) h
end
noncomputable def boolsT (b1 b2 b3 b4 b5 : Bool) : Str := (PyData.list [.bool b1, .bool b2, .bool b3, .bool b4, .bool b5]).shown
theorem boolsT_dep : ∀ b1 b2 b3 b4 b5 : Bool, (PyData.list [.bool b1, .bool b2, .bool b3, .bool b4, .bool b5]).depth ≤ 3 := by decide +kernel
theorem boolsT_len : ∀ b1 b2 b3 b4 b5 : Bool, (boolsT b1 b2 b3 b4 b5).length ≤ 1000 := by decide +kernel
section
variable {prog : Program} {w : World} {A : Around} {E : Value → Shared → Prop} {s : Shared} {Q : Value → Shared → Prop} {h₀ : Heap} {L : Addr} {m : Str → Option Value} {news : List (Addr × Obj)}
theorem strBools {l : Addr} {nl : Nat} {b1 b2 b3 b4 b5 : Bool} (F : Fr h₀ L s.heap m) (N : News h₀ L s.heap news) (hm : (l, listOf #[.bool b1, .bool b2, .bool b3, .bool b4, .bool b5] nl) ∈ news) (hg : A.guards = some []) (hu : A.units + 64 < cLine)
    (h : ∀ h' u tk, Fr h₀ L h' m → News h₀ L h' news → Q (.str (boolsT b1 b2 b3 b4 b5) u) { s with heap := h', toks := tk }) : wpAny (model prog w) A (call (.type "str") [.ref l]) Q E s := by
  refine str_HN (d := .list [.bool b1, .bool b2, .bool b3, .bool b4, .bool b5]) F N (.list (as := []) (N _ hm).1 rfl rfl (.cons (as := []) (bs := []) (.bool _) (.cons (as := []) (bs := []) (.bool _) (.cons (as := []) (bs := []) (.bool _) (.cons (as := []) (bs := []) (.bool _) (.cons (as := []) (bs := []) (.bool _) .nil)))))) rfl rfl hg ?_ h (Nat.le_trans (boolsT_len b1 b2 b3 b4 b5) (by decide))
  have e := boolsT_dep b1 b2 b3 b4 b5
  lia
end
theorem le_sum {x : Nat} : ∀ {l : List Nat}, x ∈ l → x ≤ l.sum := by
  intro l
  induction l with
  | nil => intro h; cases h
  | cons a r ih =>
    intro h
    rw [List.sum_cons]
    rcases List.mem_cons.mp h with rfl | h
    · lia
    · have := ih h; lia
theorem way_len {n q : Nat} {a b : Str} (h : (n, q) ∈ nqs) (hp : (a, b) ∈ pairsP) {i : Nat} (hi : i < n) : (Txt.mul a (atL n q (i + 1) - atL n q i)).length + b.length ≤ 1000 := by
  have h1 := (way_ok h hp).2.2.2
  have h2 : (Txt.mul a (atL n q (i + 1) - atL n q i) ++ b).length ∈ (wayL n q a b).map (·.length) := List.mem_map_of_mem (List.mem_map.mpr ⟨i, List.mem_range.mpr hi, rfl⟩)
  have h3 := le_sum h2
  rw [Str.length_append] at h3
  lia
theorem strs_of {n : Nat} {f : Nat → Str} {ys : List Value} (hl : ys.length = n) (h : ∀ (i : Nat) (y : Value), ys[i]? = some y → ∃ t, y = Value.str (f i) t) : StrsAre ys ((List.range n).map f) := by
  have key : ∀ (k i : Nat) (zs : List Value), zs.length = k → (∀ (j : Nat) (y : Value), zs[j]? = some y → ∃ t, y = Value.str (f (i + j)) t) → StrsAre zs ((List.range' i k).map f) := by
    intro k
    induction k with
    | zero => intro i zs hz _; rw [List.length_eq_zero_iff.mp hz]; exact .nil
    | succ k ih =>
      intro i zs hz ho
      cases zs with
      | nil => cases hz
      | cons z zs =>
        obtain ⟨t, e⟩ := ho 0 z rfl
        rw [e]
        refine .cons _ t (ih (i + 1) zs (by simpa using hz) fun j y hy => ?_)
        have := ho (j + 1) y (by simpa using hy)
        rw [show i + 1 + j = i + (j + 1) by lia]; exact this
  rw [List.range_eq_range']
  exact key n 0 ys hl (fun j y hy => by rw [Nat.zero_add]; exact h j y hy)

end

section
open PySem PySem.W PyProof.Rows PySem.Calls
set_option Elab.async false
set_option maxRecDepth 100000
set_option maxHeartbeats 4000000
section
variable {prog : Program} {w : World} {A : Around} {E : Value → Shared → Prop} {s : Shared} {h₀ : Heap} {env : Env}
/-- a loop's iterator, ready to be walked: what must hold between the turns is chosen here -/
inductive LoopL (prog : Program) (w : World) (A : Around) (h₀ : Heap) (env : Env) (x : Str) (body orelse : List Stmt) (Q : Flow → Shared → Prop) (E : Value → Shared → Prop) (it : Value) (s₂ : Shared) : Prop
  | mk (J : Nat → (Str → Option Value) → List (Addr × Obj) → Prop) (I : Addr) (n : Nat) (P : Nat → Value → Prop) (St : Nat → Heap → Prop) (m : Str → Option Value) (news : List (Addr × Obj)) (ax : Addr) (oA : Obj) (f0 : it = .ref I) (f1 : (∀ i m nx, J i m nx → (ax, oA) ∈ nx)) (f2 : Walks prog w A I [I, ax] [I] n P St) (f3 : (∀ i h, St i h → ∃ oI, h.get? I = some oI)) (f4 : St 0 s₂.heap) (f5 : Fr h₀ env.locals s₂.heap m) (f6 : News h₀ env.locals s₂.heap news) (f7 : I ≠ env.locals) (f8 : h₀.get? I = none) (f9 : (∀ p ∈ news, p.1 ≠ I)) (f10 : J 0 m news) (f11 : (∀ i v m news s oI, i < n → P i v → Kp s₂ s → J i m news → (∀ p ∈ news, p.1 ≠ I) → St (i + 1) s.heap → Fr h₀ env.locals s.heap (fun y => if y = x then some v else m y) → News h₀ env.locals s.heap ((I, oI) :: news) → wpAny (model prog w) A (execs body env) (TurnTo h₀ env.locals I oI (J (i + 1)) s₂ Q) E s)) (f12 : (∀ m news s, Kp s₂ s → J n m news → Fr h₀ env.locals s.heap m → News h₀ env.locals s.heap news → wpAny (model prog w) A (execs orelse env) Q E s)) : LoopL prog w A h₀ env x body orelse Q E it s₂

theorem forL {x : Str} {px pos : Pos} {iter : Expr} {body orelse : List Stmt} {Q : Flow → Shared → Prop} {m₉ : Str → Option Value} (_F : Fr h₀ env.locals s.heap m₉) (hx : env.kindOf x = some .local)
    (hp : (env.scope.kind == .class || (env.scope.kind == .module && env.locals != env.globals)) = false)
    (h : wpAny (model prog w) A (eval iter env) (fun xv s₁ => wpAny (model prog w) A (pyIter xv) (LoopL prog w A h₀ env x body orelse Q E) E s₁) E s)
    (hs : ∀ x, foldedSetIterable iter env x = pure x := by intro _; rfl)
    (hE : PassesOwn (model prog w) A env E := by passes_own) :
    wpAny (model prog w) A (exec (.For (.Name x px) iter body orelse pos) env) Q E s := by
  refine wpAny_For (wpAny_mono h (fun xv s₁ h₁ => wpAny_mono h₁ (fun it s₂ h₂ => ?_) fun _ _ e => e) fun _ _ e => e) hs
  obtain ⟨J, I, n, P, St, m, news, ax, oA, rfl, hJm, W, hat, hst, F, N, hIL, hI0, hnI, hJ, turn, done⟩ := h₂
  refine codeAny_forLoop (I := ForI h₀ env.locals I n St J s₂) ?_ (n - 0) ⟨0, m, news, rfl, Nat.zero_le _, Kp.refl _, hst, F, N, hnI, hJ⟩
  rintro k s' ⟨i, m, news, hkn, hi, hk, hst, F, N, hnI, hJ⟩
  have keepF : ∀ {h' : Heap} {m : Str → Option Value} {g : Heap}, Fr h₀ env.locals g m → (∀ b o, b ∉ [I] → g.get? b = some o → h'.get? b = some o) → Fr h₀ env.locals h' m := fun F hk => by
    refine ⟨?_, fun b o e => hk b o (fun hm => ?_) (F.keep b o e), F.above⟩
    · obtain ⟨o, es, ep, ho, r⟩ := F.ns
      exact ⟨o, es, ep, hk _ _ (fun hm => hIL (List.mem_singleton.mp hm).symm) ho, r⟩
    · rw [List.mem_singleton.mp hm, hI0] at e; cases e
  have keepN : ∀ {h' g : Heap} {news : List (Addr × Obj)}, News h₀ env.locals g news → (∀ p ∈ news, p.1 ≠ I) → (∀ b o, b ∉ [I] → g.get? b = some o → h'.get? b = some o) → News h₀ env.locals h' news := fun N hn hk p hp =>
    ⟨hk _ _ (fun hm => hn p hp (List.mem_singleton.mp hm)) (N p hp).1, (N p hp).2⟩
  by_cases hin : i < n
  · refine W.item i s' _ _ hin hst fun v h' tk hP hst' hkeep => ?_
    have F₁ := keepF F hkeep
    have N₁ := keepN N hnI hkeep
    refine wpAny_assign_Name (wpAny_storeName_local (s := { s' with heap := h', toks := tk }) hx F₁.ns (fun h₂ hn₂ hs₂ => ?_) hp)
    have F₂ : Fr h₀ env.locals h₂ (fun y => if y = x then some v else m y) := F₁.set hn₂ hs₂
    have hst₂ : St (i + 1) h₂ := W.frame _ _ _ hst' fun b hb o e => (hs₂.2 b (fun e' => by
      rcases List.mem_cons.mp hb with hb | hb
      · exact hIL (hb.symm.trans e')
      · exact (N₁ _ (hJm _ _ _ hJ)).2.1 ((List.mem_singleton.mp hb).symm.trans e'))).trans e
    have N₂ : News h₀ env.locals h₂ news := fun p hp => ⟨(hs₂.2 _ (N₁ p hp).2.1).trans (N₁ p hp).1, (N₁ p hp).2⟩
    have hex : ∃ oI, h₂.get? I = some oI ∧ ∀ g : Heap, g.get? I = some oI → g.get? ax = some oA → St (i + 1) g := by
      cases hq : h₂.get? I with
      | some oI => exact ⟨oI, rfl, fun g hg hg2 => W.frame _ _ _ hst₂ fun b hb o e => by
          rcases List.mem_cons.mp hb with hb | hb
          · rw [hb] at e ⊢; rw [hq] at e; cases e; exact hg
          · rw [List.mem_singleton.mp hb] at e ⊢; rw [(N₂ _ (hJm _ _ _ hJ)).1] at e; cases e; exact hg2⟩
      | none => obtain ⟨o, ho⟩ := hat _ _ hst₂; rw [hq] at ho; cases ho
    obtain ⟨oI, hoI, hback⟩ := hex
    refine wpAny_mono (turn i v m news _ oI hin hP ⟨hk.os, hk.bare⟩ hJ hnI hst₂ F₂ fun p hp => ?_) (fun f s₃ hf => ?_) fun e s'' he => hE e s'' he
    · rcases List.mem_cons.mp hp with rfl | hp
      · exact ⟨hoI, hIL, hI0⟩
      · exact N₂ p hp
    · cases f with
      | brk => exact hf
      | ret v => exact hf
      | next =>
        obtain ⟨m', news', hk', F', N', hn', hJ'⟩ := hf
        exact ⟨n - (i + 1), by lia, .mk (i + 1) m' news' rfl hin hk' (hback _ (N' _ (.head _)).1 (N' _ (.tail _ (hJm _ _ _ hJ'))).1) F' (fun p hp => N' p (.tail _ hp)) hn' hJ'⟩
      | cont =>
        obtain ⟨m', news', hk', F', N', hn', hJ'⟩ := hf
        exact ⟨n - (i + 1), by lia, .mk (i + 1) m' news' rfl hin hk' (hback _ (N' _ (.head _)).1 (N' _ (.tail _ (hJm _ _ _ hJ'))).1) F' (fun p hp => N' p (.tail _ hp)) hn' hJ'⟩
  · have hi' : i = n := by lia
    subst hi'
    refine W.done s' _ _ hst fun h' tk hkeep => ?_
    exact wpAny_mono (done m news { s' with heap := h', toks := tk } ⟨hk.os, hk.bare⟩ hJ (keepF F hkeep) (keepN N hnI hkeep)) (fun f s₃ hf => hf) fun e s'' he => hE e s'' he


theorem loopL_list {x : Str} {body orelse : List Stmt} {Q : Flow → Shared → Prop} {ax : Addr} {vs : List Value} {nl : Nat} {m : Str → Option Value} {news : List (Addr × Obj)}
    (J : Nat → (Str → Option Value) → List (Addr × Obj) → Prop)
    (hh : A.handled = none) (F : Fr h₀ env.locals s.heap m) (N : News h₀ env.locals s.heap news) (hJm : ∀ i m nx, J i m nx → (ax, listOf vs.toArray nl) ∈ nx) (hJ : J 0 m news)
    (turn : ∀ I i v m news s' oI, vs[i]? = some v → Kp s s' → J i m news → (∀ p ∈ news, p.1 ≠ I) → Fr h₀ env.locals s'.heap (fun y => if y = x then some v else m y) → News h₀ env.locals s'.heap ((I, oI) :: news) →
        wpAny (model prog w) A (execs body env) (TurnTo h₀ env.locals I oI (J (i + 1)) s Q) E s')
    (done : ∀ m news s', Kp s s' → J vs.length m news → Fr h₀ env.locals s'.heap m → News h₀ env.locals s'.heap news → wpAny (model prog w) A (execs orelse env) Q E s') :
    wpAny (model prog w) A (pyIter (.ref ax)) (LoopL prog w A h₀ env x body orelse Q E) E s := by
  have hl : s.heap.IsList ax vs.toArray := ⟨_, (N _ (hJm _ _ _ hJ)).1, rfl, _, rfl⟩
  have hlt : ax < s.heap.objs.size := Heap.lt_size (N _ (hJm _ _ _ hJ)).1
  refine wpAny_pyIter_list hl ?_
  refine ⟨J, _, _, _, _, m, news, ax, _, rfl, hJm, Walks.list hh s.heap.objs.size ax (Nat.ne_of_lt hlt) vs.toArray, fun i h hi => let ⟨o, ho, _⟩ := hi.1; ⟨o, ho⟩, ⟨⟨_, Heap.get?_push_size _ rfl, rfl, rfl⟩, hl.push _⟩, F.push _, (fun p hp => ⟨Heap.get?_push_of_some _ (N p hp).1, (N p hp).2⟩), ?_, next_is_new F, ?_, hJ, ?_, ?_⟩
  · exact fun e => absurd F.ns.lt (e ▸ Nat.lt_irrefl _)
  · exact fun p hp e => absurd (Heap.lt_size (N p hp).1) (e ▸ Nat.lt_irrefl _)
  · intro i v m news s' oI hi hv k hj ho _ F' N'
    exact wpAny_mono (turn _ i v m news s' oI (by simpa using hv) ⟨k.os, k.bare⟩ hj ho F' N') (fun f s₃ hf => by
      cases f with
      | brk => exact hf
      | ret v => exact hf
      | next => obtain ⟨m', news', hk', r⟩ := hf; exact ⟨m', news', ⟨hk'.os, hk'.bare⟩, r⟩
      | cont => obtain ⟨m', news', hk', r⟩ := hf; exact ⟨m', news', ⟨hk'.os, hk'.bare⟩, r⟩) fun _ _ e => e
  · exact fun m news s' k hj F' N' => done m news s' ⟨k.os, k.bare⟩ (by simpa using hj) F' N'
theorem loopR_list {x : Str} {body orelse : List Stmt} {Q : Flow → Shared → Prop} {ax : Addr} {vs : List Value} {nl : Nat} {m : Str → Option Value} {news : List (Addr × Obj)}
    (stored : List Str) (R : Nat → List (Addr × Obj) → Prop) (hh : A.handled = none) (F : Fr h₀ env.locals s.heap m) (N : News h₀ env.locals s.heap news) (hm : ∀ i nx, R i nx → (ax, listOf vs.toArray nl) ∈ nx) (hR : R 0 news)
    (turn : ∀ I i v u nx s' oI, vs[i]? = some v → R i nx → (∀ p ∈ nx, p.1 ≠ I) → Kp s s' → Fr h₀ env.locals s'.heap (fun y => if y = x then some v else mixM stored u m y) → News h₀ env.locals s'.heap ((I, oI) :: nx) →
        wpAny (model prog w) A (execs body env) (TurnR h₀ env.locals I oI stored m (R (i + 1)) s Q) E s')
    (done : ∀ u nx s', Kp s s' → R vs.length nx → Fr h₀ env.locals s'.heap (mixM stored u m) → News h₀ env.locals s'.heap nx → wpAny (model prog w) A (execs orelse env) Q E s') :
    wpAny (model prog w) A (pyIter (.ref ax)) (LoopL prog w A h₀ env x body orelse Q E) E s := by
  refine loopL_list (fun i m' nx => R i nx ∧ ∃ u, m' = mixM stored u m) hh F N (fun i m nx h => hm i nx h.1) ⟨hR, m, mixM_self _ _⟩ ?_ ?_
  · rintro I i v m' nx s' oI hv k ⟨r1, u, rfl⟩ hn F' N'
    exact wpAny_mono (turn I i v u nx s' oI hv r1 hn k F' N') (fun f s₃ hf => hf.to) fun _ _ e => e
  · rintro m' nx s' k ⟨r1, u, rfl⟩ F' N'
    exact done u nx s' k r1 F' N'
end

end

section
open PySem PySem.W PyProof.Rows PySem.Calls
set_option Elab.async false
set_option maxRecDepth 100000
set_option maxHeartbeats 8000000
set_option pp.deepTerms false
set_option pp.maxSteps 3000

/-- a function's name, its names and its text -/
noncomputable def nmOf (o : Obj) : Str := match o.data with | .func fd => fd.qualname | _ => Str.ofString ""
noncomputable def scOf (o : Obj) : Scope := match o.data with | .func fd => fd.scope | _ => { kind := .function, names := [], isGenerator := false, isCoroutine := false, more := [] }
noncomputable def bdOf (o : Obj) : List Stmt := match o.data with | .func fd => (match fd.body with | .stmts b => b | _ => []) | _ => []


end

section
open PyProof.Rows.LCg PyProof.Rows.LCt
local macro_rules | `(tactic| walk_at "call builtin:str.count") => `(tactic| (k_here; (with_reducible show wpAny _ _ (call (Value.builtin _) [Value.str _ _, Value.str _ _]) _ _ _); refine hold_ ?_))
local macro_rules | `(tactic| walk_at "call builtin:list.append") => `(tactic| (k_here; (with_reducible show wpAny _ _ (call (Value.builtin _) [Value.ref _, _]) _ _ _); refine hold_ ?_))
local macro_rules | `(tactic| walk_at "subscriptTail Name UnaryOp ref int") => `(tactic| (k_here; (with_reducible show wpAny _ _ (subscriptTail _ _ (Value.ref _) (Value.int _ _)) _ _ _); refine hold_ ?_))
local macro_rules | `(tactic| walk_at "subscriptTail Subscript Constant ref int") => `(tactic| (k_here; (with_reducible show wpAny _ _ (subscriptTail _ _ (Value.ref _) (Value.int _ _)) _ _ _); refine hold_ ?_))
local macro_rules | `(tactic| walk_at "call builtin:min") => `(tactic| (k_here; (with_reducible show wpAny _ _ (call (Value.builtin _) [Value.ref _]) _ _ _); refine hold_ ?_))
local macro_rules | `(tactic| walk_at "compareOp NotEq ref ref") => `(tactic| (k_here; (with_reducible show wpAny _ _ (compareOp CmpOp.NotEq (Value.ref _) (Value.ref _)) _ _ _); refine hold_ ?_))
local macro_rules | `(tactic| walk_at "CompSrcT") => `(tactic| ((with_reducible show CompSrcT _ _ _ _ _ _ _ _ _ _ _ _ _ _ _); refine hold_ ?_))
local macro_rules | `(tactic| walk_at "CompSrc") => `(tactic| ((with_reducible show CompSrc _ _ _ _ _ _ _ _ _ _ _ _ _ _); refine hold_ ?_))
local macro_rules | `(tactic| walk_at "call ref") => `(tactic| (k_here; (with_reducible show wpAny _ _ (call (Value.ref _) (_ :: _)) _ _ _); refine hold_ ?_))
local macro_rules | `(tactic| walk_at "compareOp Lt ref ref") => `(tactic| (k_here; (with_reducible show wpAny _ _ (compareOp CmpOp.Lt (Value.ref _) (Value.ref _)) _ _ _); refine hold_ ?_))
local macro_rules | `(tactic| walk_at "compareOp LtE ref ref") => `(tactic| (k_here; (with_reducible show wpAny _ _ (compareOp CmpOp.LtE (Value.ref _) (Value.ref _)) _ _ _); refine hold_ ?_))
local macro_rules | `(tactic| walk_at "compareOp GtE ref ref") => `(tactic| (k_here; (with_reducible show wpAny _ _ (compareOp CmpOp.GtE (Value.ref _) (Value.ref _)) _ _ _); refine hold_ ?_))
local macro_rules | `(tactic| walk_at "compareOp Gt ref ref") => `(tactic| (k_here; (with_reducible show wpAny _ _ (compareOp CmpOp.Gt (Value.ref _) (Value.ref _)) _ _ _); refine hold_ ?_))
local macro_rules | `(tactic| walk_at "call type:str") => `(tactic| (k_here; (with_reducible show wpAny _ _ (call (Value.type _) [Value.ref _]) _ _ _); refine hold_ ?_))
local macro_rules | `(tactic| walk_at "exec For Name Name cons nil") => `(tactic| (k_here; (with_reducible show wpAny _ _ (exec (Stmt.For _ _ _ _ _) _) _ _ _); k_dflt (refine' forL (by k_asm) rfl rfl ?_ (hE := (by assumption)); k_whole)))
local macro_rules | `(tactic| walk_at "exec For Name Call cons nil") => `(tactic| (k_here; (with_reducible show wpAny _ _ (exec (Stmt.For _ _ _ _ _) _) _ _ _); k_dflt (refine' forX (by k_asm) rfl rfl ?_ (hE := (by assumption)); k_whole)))

section
open PySem PySem.W PyProof.Rows PySem.Calls
set_option Elab.async false
set_option maxRecDepth 100000
set_option maxHeartbeats 8000000
set_option pp.deepTerms false
set_option pp.maxSteps 3000

open PyProof.Rows.LCg PyProof.Rows.LCt

theorem law_t (w : World) (p : Program) (loose : List Str) (mean : ExcName → Option Value) (mg mb : Str → Option Value) (dp un : Nat) (gd : Option (List Code)) (a : Addr) (ccd : Value) (outer : List Env) (A₀ : Around) (base h₀ : Heap) (L : Addr) (s : Shared) (Q : Flow → Shared → Prop) (E : Value → Shared → Prop) (o : Obj)
   (hK : (KL w.params).lookup 310 = some o)
   (B : Below A₀ base outer h₀) (X : (KL w.params).In h₀) (T : Top p loose mean mg mb h₀) (hd1 : dp + 200 < recursionLimit) (hu : un + 8 * 200 < cLine) (him : importsNone p = true) (hgd : gd = some [])
   (sc : Addr) (its : Array Value) (hsc : h₀.IsList sc its) (hsz : its.size ≤ 63) (hit : ∀ i : Nat, i < its.size → ∃ v t, its[i]? = some (.int v t))
   (n q P lx cl6 D3 nlx nc : Nat) (pa pb : Str) (ta tb : Tok) (m0 : Str → Option Value) (mf : Option Value) (m3 m4 : Array Value) (wv cits ys3 : List Value) (oP : Obj) (own' : List (Addr × Obj))
   (F : Fr h₀ L s.heap (fun y => if y = Str.ofString "words" then some (.ref lx) else if y = Str.ofString "counts" then some (.ref cl6) else if y = Str.ofString "folded" then mf else if y = Str.ofString "due" then some (.ref D3) else m0 y))
   (N : News h₀ L s.heap ((lx, listOf wv.toArray nlx) :: (140, tabObj m3) :: (147, tabObj m4) :: (P, tup2 pa ta pb tb) :: (cl6, listOf cits.toArray nc) :: (D3, lst ys3) :: (L + 1 + 1 + 1, oP) :: own'))
   (dP : oP.data = .cell (some (.ref P))) (hL : @LT.lt Nat _ 147 L)
   (hlx : @LT.lt Nat _ P lx ∧ @LT.lt Nat _ cl6 lx ∧ @LT.lt Nat _ D3 lx ∧ @LT.lt Nat _ (L + 1 + 1 + 1) lx ∧ AllLt lx own')
   (hwv : StrsAre wv (wdL n q pa pb)) (hcc : IntsAre cits (foldR n q).2) (hdd : PtsAre own' ys3 (dueP n q (n + 1))) (hnq : (n, q) ∈ nqs) (hab : (pa, pb) ∈ pairsP) (hm3 : TriplesOk m3.toList) (hm4 : TriplesOk m4.toList)
   (hE : PassesOwn (model Challenge.rw_xi0019_01.row.prog w) (ktrTop dp un gd (nmOf o) (scOf o) L a ccd (cellsFrom (L + 1) (scOf o).names []) outer) (envX (nmOf o) (scOf o) L a ccd (cellsFrom (L + 1) (scOf o).names [])) E)
   (hret : ∀ s' m' m1 m2, Kp s s' → Fr h₀ L s'.heap m' → News h₀ L s'.heap [(140, tabObj m1), (147, tabObj m2)] → Q (.ret (.bool true)) s') :
   wpAny (model Challenge.rw_xi0019_01.row.prog w) (ktrTop dp un gd (nmOf o) (scOf o) L a ccd (cellsFrom (L + 1) (scOf o).names []) outer) (execs ((bdOf o).drop 7) (envX (nmOf o) (scOf o) L a ccd (cellsFrom (L + 1) (scOf o).names []))) Q E s := by
  revert X; k_fill; intro X
  have hK' := hK
  obtain rfl : o = _ := Option.some.inj (hK.symm.trans (by k_is))
  clear hK hK'
  dsimp only [bdOf, nmOf, scOf, List.drop] at hE ⊢
  have hway := way_ok hnq hab
  have hpl := pair_len hab
  have hwl := wdL_len hnq hab
  k_steps
  rename_i T0 hA lT0 lp hB llp hC FC N9 _
  have N10 := news_mv0 N9
  clear N9
  have hz91 := llp
  refine and8_el hz91 fun e1 e2 e3 e4 e5 e6 e7 hz91_0 => ?_
  refine and_el hz91_0 fun e8 e9 => ?_
  clear hz91_0
  clear hz91
  refine Hold.go (loopR_list (ax := lx) (vs := wv) (nl := nlx) ["word"] (fun i nx => ∃ ln pits own2, nx = (lp, listOf pits.toArray ln) :: (lx, listOf wv.toArray nlx) :: (140, tabObj m3) :: (147, tabObj m4) :: (P, tup2 pa ta pb tb) :: (cl6, listOf cits.toArray nc) :: (D3, lst ys3) :: (L + 1 + 1 + 1, oP) :: own2 ∧ PtsAre own2 pits (ptsW pa pb ((wdL n q pa pb).take i)) ∧ (∀ p ∈ own2, p.1 ≠ lp) ∧ (∀ p ∈ own', p ∈ own2)) rfl (by assumption) N10 ?mem ?start ?turn ?done)
  case mem => rintro i nx ⟨ln, pits, own2, rfl, _⟩; exact .tail _ (.head _)
  case start => exact ⟨0, [.ref T0], _, rfl, .cons (.head _) .nil, List.forall_mem_cons.mpr ⟨Nat.ne_of_lt e1, fun p hp => Nat.ne_of_lt (of_allLt _ e9 p hp)⟩, fun _ h => .tail _ h⟩
  case turn =>
    intro I i v u nx s9 oI hv hR hnI kp9 F9 N9
    refine gen_Q fun W hW => ?_
    refine ex3_el (hR) fun ln pits own2 hz92 => ?_
    refine and4_el hz92 fun hr3_0 hpt hof hsub => ?_
    clear hz92
    subst hr3_0
    clear hR
    refine ex2_el (strs_val hwv i v hv) fun y ty hz94 => ?_
    have hr5_0 := hz94.1
    have hy := hz94.2
    clear hz94
    subst hr5_0
    refine ex1_el (ptsW_last pa pb ((wdL n q pa pb).take i)) fun pre hz96 => ?_
    have hpre := hz96.1
    have hprel := hz96.2
    clear hz96
    rw [hpre] at hpt
    refine ex4_el (pts_last hpt) fun us r1 ta1 tb1 hz98 => ?_
    refine and3_el hz98 fun hr9_0 hul hr1 => ?_
    clear hz98
    subst hr9_0
    k_steps
    refine Hold.go (negItem0 N9 (by k_mem) ?_)
    k_steps
    refine Hold.go (tupI0 N9 (by repeat (first | exact hr1 | refine List.Mem.tail _ ?_)) ?_)
    k_steps
    refine Hold.go (KXw.count rfl fun t10 k10 => ?_)
    k_steps
    refine Hold.go (negItem0 N9 (by k_mem) ?_)
    k_steps
    refine Hold.go (tupI1 N9 (by repeat (first | exact hr1 | refine List.Mem.tail _ ?_)) ?_)
    k_steps
    refine Hold.go (KXw.count rfl fun t11 k11 => ?_)
    k_steps
    rename_i T hT FT NT lT
    have N11 := news_mv7 NT
    refine Hold.go (appendL (by assumption) N11 ?ho ?hz fun h12 F12 N12 => ?_)
    case ho =>
      refine List.forall_mem_cons.mpr ⟨(hnI _ (.head _)).symm, ?_⟩
      (repeat refine List.forall_mem_cons.mpr ⟨by k_ne, ?_⟩)
      exact hof
    case hz =>
      rw [List.length_append, hul, hprel, List.length_take]
      simp only [List.length_singleton]
      lia
    k_steps
    refine hW _ _ ?_
    refine TurnR.mk _ _ ⟨kp9.os, fun g => kp9.bare g⟩ F12 (news_swap N12) (nI_ins7 hnI (Nat.ne_of_gt lT.1)) (ex3_in _ _ _ ⟨rfl, ?pts, ?off, fun p hp => .tail _ (hsub p hp)⟩) fun z hz => ?_
    case pts =>
      have et : (wdL n q pa pb).take (i + 1) = (wdL n q pa pb).take i ++ [y] := by rw [List.take_add_one, hy]; rfl
      rw [et, ptsW_snoc, hpre]
      exact pts_snoc hpt
    case off => exact List.forall_mem_cons.mpr ⟨by k_ne, hof⟩
    have y1 : z ≠ Str.ofString "word" := by rintro rfl; exact absurd hz (by decide)
    show (if z = Str.ofString "word" then _ else mixM _ _ _ z) = _
    rw [if_neg y1, mixM, if_neg (by rw [hz]; exact Bool.false_ne_true)]
  case done =>
    intro u nx s9 kp9 hR F9 N9
    refine ex3_el (hR) fun ln pits own2 hz100 => ?_
    refine and4_el hz100 fun hr11_0 hpt hof hsub => ?_
    clear hz100
    subst hr11_0
    clear hR
    rw [strs_len hwv, List.take_length, hway.1] at hpt
    k_steps
    refine Hold.go (ne_pts N9 (by intro _ h; repeat (first | exact h | refine List.Mem.tail _ ?_)) (by intro _ h; repeat (first | exact h | refine List.Mem.tail _ ?_)) (l1 := lp) (by k_mem) hpt (l2 := D3) (by k_mem) (hdd.mono hsub) (by ktr_units) ?_)
    k_steps
    refine Hold.go (loopS_range (n := (wdL n q pa pb).length - 1) ["k", "name", "twin", "like"] (fun _ => True) rfl (by assumption) ?small ?size (by assumption) (by assumption) trivial ?turn2 ?done2)
    case small => exact small_one (by lia) (by lia) (by lia) (by lia)
    case size => rw [rangeSize_nat]; lia
    case turn2 =>
      intro I i ti u2 s10 oI hi _ hnI kp10 F10 N10
      refine gen_Q fun W2 hW2 => ?_
      have hl9 : s10.heap.IsList lx wv.toArray := ⟨_, (N10 (lx, _) (by k_mem)).1, rfl, _, rfl⟩
      have hc9 : s10.heap.IsList cl6 cits.toArray := ⟨_, (N10 (cl6, _) (by k_mem)).1, rfl, _, rfl⟩
      have hi1 : i < (wdL n q pa pb).length := by lia
      have hi2 : i + 1 < (wdL n q pa pb).length := by lia
      refine ex1_el (⟨_, List.getElem?_eq_getElem hi1⟩ : ∃ x, (wdL n q pa pb)[i]? = some x) fun w1 hw1 => ?_
      refine ex1_el (⟨_, List.getElem?_eq_getElem hi2⟩ : ∃ x, (wdL n q pa pb)[i + 1]? = some x) fun w2 hw2 => ?_
      refine ex1_el (side_at hway.2.1 i w1 w2 hw1 hw2) fun c hz102 => ?_
      refine and3_el hz102 fun hc hlt heq => ?_
      clear hz102
      k_steps
      refine Hold.go (subS (ys := wdL n q pa pb) hl9 (by assumption) i (by lia) hw1 (by lia) fun t11 => ?_)
      k_steps
      refine Hold.go ?_
      k_here
      k_dflt (refine' qname_new _ _ _ _ _ _ _ _ _ _ _ _ _ _ _ _ _ _ _ _ _ _ _ ?cB ?cF ?cX ?cT ?ck ?cd ?cu _ _ _ ?N ?_; (case cB => k_asm); (case cF => k_asm); (case cX => k_asm); (case cT => k_asm); (case ck => first | exact rfl | assumption); (case cd => ktr_room); (case cu => ktr_units))
      case N => k_asm
      intro s11 nm nd hq1 aq1 kp11 F11 N11 lnm lnd
      k_lt lnd
      k_steps
      rename News _ _ _ _ => N11'
      have hl10 : Heap.IsList _ lx wv.toArray := ⟨_, (N11' (lx, _) (by k_mem)).1, rfl, _, rfl⟩
      refine Hold.go (subS (ys := wdL n q pa pb) hl10 (by assumption) (i + 1) (by lia) hw2 (by lia) fun t12 => ?_)
      k_steps
      refine Hold.go ?_
      k_here
      k_dflt (refine' qname_new _ _ _ _ _ _ _ _ _ _ _ _ _ _ _ _ _ _ _ _ _ _ _ ?cB ?cF ?cX ?cT ?ck ?cd ?cu _ _ _ ?N ?_; (case cB => k_asm); (case cF => k_asm); (case cX => k_asm); (case cT => k_asm); (case ck => first | exact rfl | assumption); (case cd => ktr_room); (case cu => ktr_units))
      case N => k_asm
      intro s12 tw td hq2 aq2 kp12 F12 N12 ltw ltd
      k_lt ltd
      k_steps
      rename News _ _ _ _ => N12'
      have hc10 : Heap.IsList _ cl6 cits.toArray := ⟨_, (N12' (cl6, _) (by k_mem)).1, rfl, _, rfl⟩
      refine Hold.go (subI hc10 hcc i (by lia) hc (by lia) fun t13 => ?_)
      k_steps
      have hz104 := cmp_facts hlt heq
      refine and4_el hz104 fun f1 f2 f3 f4 => ?_
      clear hz104
      refine Hold.go ?_
      k_here
      refine cmp_ofLt ?_
      k_dflt (refine' cmp_K (K := KL w.params) ?k1 ?k2 ?k3 ?k4 ?k5 ?k6 ?k7 ?k8 ?_; (case k1 => ktr_units); (case k2 => k_asm); (case k3 => k_asm); (case k4 => (refine' InstAt.of_news ?N ?h1 ?h2; (case N => k_asm); (case h1 => k_mem); (case h2 => k_mem))); (case k5 => (refine' InstAt.type ?kI; (case kI => (refine' InstAt.of_news ?N ?h1 ?h2; (case N => k_asm); (case h1 => k_mem); (case h2 => k_mem))))); (case k6 => k_is); (case k7 => k_is); (case k8 => k_is); k_whole)
      refine Hold.go ?_
      k_here
      k_dflt (refine' qname2_lt _ _ _ _ _ _ _ _ _ _ _ _ _ _ _ _ _ _ _ _ _ _ _ ?cB ?cF ?cX ?cT ?ck ?cd ?cu _ _ _ _ _ _ _ _ _ _ _ _ _ ?N ?_; (case cB => k_asm); (case cF => k_asm); (case cX => k_asm); (case cT => k_asm); (case ck => first | exact rfl | assumption); (case cd => ktr_room); (case cu => ktr_units))
      case N => exact news_r4 (by assumption)
      intro s13 kp13lt F13 N13
      dsimp only [PySem.W.CmpBack]
      rw [f1]
      k_steps
      refine Hold.go ?_
      k_here
      refine cmp_ofLtE ?_
      k_dflt (refine' cmp_K (K := KL w.params) ?k1 ?k2 ?k3 ?k4 ?k5 ?k6 ?k7 ?k8 ?_; (case k1 => ktr_units); (case k2 => k_asm); (case k3 => k_asm); (case k4 => (refine' InstAt.of_news ?N ?h1 ?h2; (case N => k_asm); (case h1 => k_mem); (case h2 => k_mem))); (case k5 => (refine' InstAt.type ?kI; (case kI => (refine' InstAt.of_news ?N ?h1 ?h2; (case N => k_asm); (case h1 => k_mem); (case h2 => k_mem))))); (case k6 => k_is); (case k7 => k_is); (case k8 => k_is); k_whole)
      refine Hold.go ?_
      k_here
      k_dflt (refine' qname2_le _ _ _ _ _ _ _ _ _ _ _ _ _ _ _ _ _ _ _ _ _ _ _ ?cB ?cF ?cX ?cT ?ck ?cd ?cu _ _ _ _ _ _ _ _ _ _ _ _ _ ?N ?_; (case cB => k_asm); (case cF => k_asm); (case cX => k_asm); (case cT => k_asm); (case ck => first | exact rfl | assumption); (case cd => ktr_room); (case cu => ktr_units))
      case N => exact (by assumption)
      intro s13 kp13le F13 N13
      dsimp only [PySem.W.CmpBack]
      rw [f2]
      k_steps
      refine Hold.go ?_
      k_here
      refine cmp_ofEq ?_
      k_dflt (refine' cmp_K (K := KL w.params) ?k1 ?k2 ?k3 ?k4 ?k5 ?k6 ?k7 ?k8 ?_; (case k1 => ktr_units); (case k2 => k_asm); (case k3 => k_asm); (case k4 => (refine' InstAt.of_news ?N ?h1 ?h2; (case N => k_asm); (case h1 => k_mem); (case h2 => k_mem))); (case k5 => (refine' InstAt.type ?kI; (case kI => (refine' InstAt.of_news ?N ?h1 ?h2; (case N => k_asm); (case h1 => k_mem); (case h2 => k_mem))))); (case k6 => k_is); (case k7 => k_is); (case k8 => k_is); k_whole)
      refine Hold.go ?_
      k_here
      k_dflt (refine' qname2_eq _ _ _ _ _ _ _ _ _ _ _ _ _ _ _ _ _ _ _ _ _ _ _ ?cB ?cF ?cX ?cT ?ck ?cd ?cu _ _ _ _ _ _ _ _ _ _ _ _ _ ?N ?_; (case cB => k_asm); (case cF => k_asm); (case cX => k_asm); (case cT => k_asm); (case ck => first | exact rfl | assumption); (case cd => ktr_room); (case cu => ktr_units))
      case N => exact (by assumption)
      intro s13 kp13eq F13 N13
      dsimp only [PySem.W.CmpBack]
      rw [heq]
      k_steps
      refine Hold.go ?_
      k_here
      refine cmp_ofGtE ?_
      k_dflt (refine' cmp_K (K := KL w.params) ?k1 ?k2 ?k3 ?k4 ?k5 ?k6 ?k7 ?k8 ?_; (case k1 => ktr_units); (case k2 => k_asm); (case k3 => k_asm); (case k4 => (refine' InstAt.of_news ?N ?h1 ?h2; (case N => k_asm); (case h1 => k_mem); (case h2 => k_mem))); (case k5 => (refine' InstAt.type ?kI; (case kI => (refine' InstAt.of_news ?N ?h1 ?h2; (case N => k_asm); (case h1 => k_mem); (case h2 => k_mem))))); (case k6 => k_is); (case k7 => k_is); (case k8 => k_is); k_whole)
      refine Hold.go ?_
      k_here
      k_dflt (refine' qname2_ge _ _ _ _ _ _ _ _ _ _ _ _ _ _ _ _ _ _ _ _ _ _ _ ?cB ?cF ?cX ?cT ?ck ?cd ?cu _ _ _ _ _ _ _ _ _ _ _ _ _ ?N ?_; (case cB => k_asm); (case cF => k_asm); (case cX => k_asm); (case cT => k_asm); (case ck => first | exact rfl | assumption); (case cd => ktr_room); (case cu => ktr_units))
      case N => exact (by assumption)
      intro s13 kp13ge F13 N13
      dsimp only [PySem.W.CmpBack]
      rw [f3]
      k_steps
      refine Hold.go ?_
      k_here
      refine cmp_ofGt ?_
      k_dflt (refine' cmp_K (K := KL w.params) ?k1 ?k2 ?k3 ?k4 ?k5 ?k6 ?k7 ?k8 ?_; (case k1 => ktr_units); (case k2 => k_asm); (case k3 => k_asm); (case k4 => (refine' InstAt.of_news ?N ?h1 ?h2; (case N => k_asm); (case h1 => k_mem); (case h2 => k_mem))); (case k5 => (refine' InstAt.type ?kI; (case kI => (refine' InstAt.of_news ?N ?h1 ?h2; (case N => k_asm); (case h1 => k_mem); (case h2 => k_mem))))); (case k6 => k_is); (case k7 => k_is); (case k8 => k_is); k_whole)
      refine Hold.go ?_
      k_here
      k_dflt (refine' qname2_gt _ _ _ _ _ _ _ _ _ _ _ _ _ _ _ _ _ _ _ _ _ _ _ ?cB ?cF ?cX ?cT ?ck ?cd ?cu _ _ _ _ _ _ _ _ _ _ _ _ _ ?N ?_; (case cB => k_asm); (case cF => k_asm); (case cX => k_asm); (case cT => k_asm); (case ck => first | exact rfl | assumption); (case cd => ktr_room); (case cu => ktr_units))
      case N => exact (by assumption)
      intro s13 kp13gt F13 N13
      dsimp only [PySem.W.CmpBack]
      rw [f4]
      k_steps
      rename News _ _ _ _ => N14
      refine Hold.go (strBools (by assumption) N14 (.head _) hgd (by ktr_units) fun h15 t15 k15 F15 N15 => ?_)
      k_steps
      rename News _ _ _ _ => N16
      refine Hold.go (strBools (by assumption) N16 (.head _) hgd (by ktr_units) fun h17 t17 k17 F17 N17 => ?_)
      k_steps
      · rename_i u1
        rw [bne_self_eq_false] at u1
        cases u1
      · refine hW2 _ _ ?_
        refine TurnS.mk trivial _ ⟨kp13gt.os.trans (kp13ge.os.trans (kp13eq.os.trans (kp13le.os.trans (kp13lt.os.trans (kp12.os.trans (kp11.os.trans (kp10.os))))))), fun g => kp13gt.bare (kp13ge.bare (kp13eq.bare (kp13le.bare (kp13lt.bare (kp12.bare (kp11.bare (kp10.bare (g))))))))⟩ F17 (news_sub N17 (by ((repeat refine List.forall_mem_cons.mpr ⟨by k_mem, ?_⟩); first | exact (fun _ h => absurd h List.not_mem_nil) | (intro _ h; repeat (first | exact h | refine List.Mem.tail _ ?_))))) fun z hz => ?_
        have y1 : z ≠ Str.ofString "like" := by rintro rfl; exact absurd hz (by decide)
        have y2 : z ≠ Str.ofString "twin" := by rintro rfl; exact absurd hz (by decide)
        have y3 : z ≠ Str.ofString "name" := by rintro rfl; exact absurd hz (by decide)
        have y4 : z ≠ Str.ofString "k" := by rintro rfl; exact absurd hz (by decide)
        show (if z = Str.ofString "like" then _ else if z = Str.ofString "twin" then _ else if z = Str.ofString "name" then _ else if z = Str.ofString "k" then _ else mixM _ _ _ z) = _
        rw [if_neg y1, if_neg y2, if_neg y3, if_neg y4, mixM, if_neg (by rw [hz]; exact Bool.false_ne_true)]
    case done2 =>
      intro u2 s10 kp10 _ F10 N10
      k_steps
      show Q (.ret (.bool true)) s10
      exact hret s10 _ m3 m4 ⟨kp10.os.trans kp9.os, fun g => kp10.bare (kp9.bare g)⟩ F10 (news_sub N10 (by ((repeat refine List.forall_mem_cons.mpr ⟨by k_mem, ?_⟩); first | exact (fun _ h => absurd h List.not_mem_nil) | (intro _ h; repeat (first | exact h | refine List.Mem.tail _ ?_)))))


end

section
open PySem PySem.W PyProof.Rows PySem.Calls
set_option Elab.async false
set_option maxRecDepth 100000
set_option maxHeartbeats 8000000
set_option pp.deepTerms false
set_option pp.maxSteps 3000

open PyProof.Rows.LCg PyProof.Rows.LCt

local macro_rules | `(tactic| walk_at "own line") => `(tactic| skip)
theorem law_b (w : World) (p : Program) (loose : List Str) (mean : ExcName → Option Value) (mg mb : Str → Option Value) (dp un : Nat) (gd : Option (List Code)) (a : Addr) (ccd : Value) (outer : List Env) (A₀ : Around) (base h₀ : Heap) (L : Addr) (s : Shared) (Q : Flow → Shared → Prop) (E : Value → Shared → Prop) (o : Obj)
   (hK : (KL w.params).lookup 310 = some o)
   (B : Below A₀ base outer h₀) (X : (KL w.params).In h₀) (T : Top p loose mean mg mb h₀) (hd1 : dp + 200 < recursionLimit) (hu : un + 8 * 200 < cLine) (him : importsNone p = true) (hgd : gd = some [])
   (sc : Addr) (its : Array Value) (hsc : h₀.IsList sc its) (hsz : its.size ≤ 63) (hit : ∀ i : Nat, i < its.size → ∃ v t, its[i]? = some (.int v t))
   (o1 o2 o3 o4 o5 : Obj) (d1 : o1.data = .cell none) (d2 : o2.data = .cell none) (d3 : o3.data = .cell none) (d4 : o4.data = .cell none) (d5 : o5.data = .cell none) (hL : @LT.lt Nat _ 147 L)
   (F : Fr h₀ L s.heap (fun y => if y = Str.ofString "script" then some (.ref sc) else none))
   (N : News h₀ L s.heap [(L + 1 + 1 + 1 + 1 + 1, o5), (L + 1 + 1 + 1 + 1, o4), (L + 1 + 1 + 1, o3), (L + 1 + 1, o2), (L + 1, o1), (140, tabObj #[]), (147, tabObj #[])])
   (hE : PassesOwn (model Challenge.rw_xi0019_01.row.prog w) (ktrTop dp un gd (nmOf o) (scOf o) L a ccd (cellsFrom (L + 1) (scOf o).names []) outer) (envX (nmOf o) (scOf o) L a ccd (cellsFrom (L + 1) (scOf o).names [])) E)
   (hret : ∀ s' m' m1 m2, Kp s s' → Fr h₀ L s'.heap m' → News h₀ L s'.heap [(140, tabObj m1), (147, tabObj m2)] → Q (.ret (.bool true)) s') :
   wpAny (model Challenge.rw_xi0019_01.row.prog w) (ktrTop dp un gd (nmOf o) (scOf o) L a ccd (cellsFrom (L + 1) (scOf o).names []) outer) (execs (bdOf o) (envX (nmOf o) (scOf o) L a ccd (cellsFrom (L + 1) (scOf o).names []))) Q E s := by
  revert X; k_fill; intro X
  obtain rfl : o = _ := Option.some.inj (hK.symm.trans (by k_is))
  dsimp only [bdOf, nmOf, scOf] at hE ⊢
  k_steps
  refine Hold.go ?_
  k_here
  k_dflt (refine' draws_c _ _ _ _ _ _ _ _ _ _ _ _ _ _ _ _ _ _ _ _ _ _ _ ?cB ?cF ?cX ?cT ?ck ?cd ?cu _ _ _ ?N him hsc hsz hit ?_; (case cB => k_asm); (case cF => k_asm); (case cX => k_asm); (case cT => k_asm); (case ck => first | exact rfl | assumption); (case cd => ktr_room); (case cu => ktr_units))
  case N => k_asm
  intro s1 D P n q p' head pa pb t1 t2 t3 t4 ta tb kp1 F1 N1 hlP hPD hn3 hn11 hq1 hq2 hcop hp7 hp8 hab
  k_lt hlP
  k_steps
  refine Hold.go (ListComp_C (by assumption) (by with_unfolding_all rfl) rfl (by decide) (fun _ => rfl) (fun _ => rfl) (fun _ _ => rfl) ?_)
  k_steps
  refine Hold.go (SrcC.range (n := n) (InvL n q) rfl (by assumption) (by assumption) (by assumption) ?small ?size (Nat.le_trans (show n ≤ 200 by lia) (by decide)) (InvL.nil n q) ?turn ?fin)
  case small => exact small_one (by lia) (by lia) (by lia) (by lia)
  case size => rw [rangeSize_nat]; lia
  case turn =>
    intro g i v I oI K oK C oC D9 ys h tk E8 hi hinv hv8 hdK F8 N8
    refine ex1_el hv8 fun t8 hv9 => ?_
    clear hv8
    subst hv9
    refine wpAny_tests_nil ?_
    simp only [if_true]
    refine gen_Q fun W1 hW1 => ?_
    k_steps
    refine Hold.go (ListComp_T (by assumption) rfl (by decide) rfl (by decide) rfl ?_)
    k_steps
    refine Hold.go (CompSrcT.range (n := q + 1) rfl (by assumption) (by assumption) (by assumption) ?small2 ?size2 (Nat.le_trans (show q + 1 ≤ 200 by lia) (by decide)) fun g9 => ?_)
    case small2 => exact small_one (by lia) (by lia) (by lia) (by lia)
    case size2 => rw [rangeSize_nat]; lia
    refine compRestT_of trivial (InvY n q i) (InvY.nil _ _ _) ?turn2 ?fin2
    case turn2 =>
      intro j v I2 oI2 C2 oC2 D2 ys2 m2 h9 tk9 E9 hj hinv2 hv8 hns hm9 F9 N9 off9 ne9
      refine ex1_el hv8 fun t9 hv9 => ?_
      clear hv8
      subst hv9
      refine gen_T fun W3 W4 hW3 hW4 => ?_
      k_steps
      · rename_i u1
        exact hW3 _ _ ⟨hinv2.yes u1 _, _, _, rfl, by assumption, by assumption⟩
      · rename_i u1
        exact hW4 _ ⟨hinv2.no u1, _, _, rfl, by assumption, by assumption⟩
    case fin2 =>
      intro ys2 hys2
      refine ex1_el (hys2.end_ (by lia) hi) fun zs hz91 => ?_
      refine and3_el hz91 fun hz hpos hmin => ?_
      clear hz91
      k_steps
      rename News _ _ _ _ => N9
      refine Hold.go (kso_min (by assumption) N9 ⟨_, (N9 _ (.head _)).1, rfl, _, rfl⟩ hz hpos rfl ?_)
      intro h' M t9 k' F' N' hm1 hm2
      exact hW1 _ _ ⟨hinv.step (hmin M hm1 hm2) _, _, _, rfl, F', news_sub N' (by ((repeat refine List.forall_mem_cons.mpr ⟨by k_mem, ?_⟩); first | exact (fun _ h => absurd h List.not_mem_nil) | (intro _ h; repeat (first | exact h | refine List.Mem.tail _ ?_))))⟩
  case fin =>
    rintro g ys hys D9 h tk F8 N8 l8 o8
    k_lt l8
    clear o8
    k_steps
    refine Hold.go (addList (a := [_]) (b := ys) F8 N8 (.tail _ (.head _)) (.head _) (by have e9 := ints_len' hys; simp only [List.length_map, List.length_range] at e9; rw [e9]; simp only [List.length_cons, List.length_nil]; lia) fun lw h9 F9 N9 l9 => ?_)
    refine ex1_el (⟨_, IntsAre.cons 1 _ hys, news_drop3 N9⟩ : ∃ lv, IntsAre lv (lowL n q) ∧ News h₀ L h9 ((lw, listOf lv.toArray 0) :: _)) fun lv hz9 => ?_
    have hlv := hz9.1; have N10 := hz9.2
    clear hz9
    clear N9
    k_lt l9
    k_steps
    refine Hold.go (Assign_ListComp_C (by assumption) rfl (by with_unfolding_all rfl) (by with_unfolding_all rfl) rfl (by decide) (fun _ => rfl) (fun _ => rfl) (fun _ _ => rfl) (by rfl) (by rfl) ?_)
    k_steps
    refine Hold.go (SrcC.rangeG (n := n + 1) (fun i ys nx => ∃ own, nx = _ :: _ :: _ :: _ :: _ :: _ :: _ :: _ :: _ :: own ∧ PtsAre own ys (dueP n q i) ∧ OwnOff own [L + 1 + 1 + 1 + 1 + 1, 140, 147]) rfl (by assumption) (by assumption) (by assumption) ?small3 ?size3 (Nat.le_trans (show n + 1 ≤ 200 by lia) (by decide)) ⟨[], rfl, .nil, fun p h => nomatch h⟩ ?turn3 ?fin3)
    case small3 => exact small_one (by lia) (by lia) (by lia) (by lia)
    case size3 => rw [rangeSize_nat]; lia
    case turn3 =>
      intro g i v I oI K oK C oC D3 ys3 nx h3 tk3 E3 hi hR8 hv8 hdK F3 N3 off3
      refine ex1_el hv8 fun t8 hv9 => ?_
      clear hv8
      subst hv9
      refine wpAny_tests_one ?_
      refine gen_T fun W1 W2 hW1 hW2 => ?_
      refine ex1_el (hR8) fun own hz95 => ?_
      refine and3_el hz95 fun hr6_0 hpt hoff => ?_
      clear hz95
      subst hr6_0
      clear hR8
      k_steps
      refine Hold.go (ListComp_T (by assumption) rfl (by decide) rfl (by decide) rfl ?_)
      k_steps
      refine Hold.go (CompSrcT.range (n := i - 1) rfl (by assumption) (by assumption) (by assumption) ?small4 ?size4 (Nat.le_trans (show i - 1 ≤ 200 by lia) (by decide)) fun g9 => ?_)
      case small4 => exact small_one (by lia) (by lia) (by lia) (by lia)
      case size4 => rw [rangeSize_nat]; lia
      refine compRestT_of trivial (InvA n q i) (InvA.nil _ _ _) ?turn4 ?fin4
      case turn4 =>
        intro j v I2 oI2 C2 oC2 D2 ys2 m2 h9 tk9 E9 hj hinv2 hv8 hns hm9 F9 N9 off9 ne9
        refine ex1_el hv8 fun t9 hv9 => ?_
        clear hv8
        subst hv9
        refine gen_T fun W3 W4 hW3 hW4 => ?_
        have hl9 : h9.IsList lw lv.toArray := ⟨_, (N9 (lw, _) (by k_mem)).1, rfl, _, rfl⟩
        k_steps
        refine Hold.go (subL hl9 hlv (1 + j) (by lia) (by lia) (by lia) fun t10 => ?_)
        k_steps
        refine Hold.go (subL hl9 hlv (i - (1 + j)) (by lia) (by lia) (by lia) fun t11 => ?_)
        k_steps
        refine Hold.go (subL hl9 hlv i (by lia) (by lia) (by lia) fun t12 => ?_)
        k_steps
        · rename_i u1
          exact hW3 _ _ ⟨hinv2.yes u1 _ _, _, _, rfl, by assumption, by assumption⟩
        · rename_i u1
          exact hW4 _ ⟨hinv2.no u1, _, _, rfl, by assumption, by assumption⟩
      case fin4 =>
        intro ys2 hys2
        refine ex1_el (hys2.end_) fun zs hz93 => ?_
        have hz := hz93.1
        have hze := hz93.2
        clear hz93
        k_steps
        rename News _ _ _ _ => N9
        refine Hold.go (eq_nil (N9 _ (.tail _ (.head _))).1 hz (N9 _ (.head _)).1 (by ktr_units) ?_)
        rw [hze]
        k_steps
        · rename_i u1
          have hl9 : Heap.IsList _ lw lv.toArray := ⟨_, (N9 (lw, _) (by k_mem)).1, rfl, _, rfl⟩
          refine Hold.go (subL hl9 hlv i (by lia) (by lia) (by lia) fun t12 => ?_)
          k_steps
          rename_i T hT FT NT lT
          rw [Int.zero_add] at NT
          refine hW1 _ _ ?_
          refine ⟨_, _, _, rfl, FT, ?N5, ?off5, (T, { cls := .type "tuple", data := .seq #[.int (i : Int) t8, .int (atL n q i) t12] }) :: own, rfl, ?p5, ?o5⟩
          case N5 => exact news_sub NT (by ((repeat refine List.forall_mem_cons.mpr ⟨by k_mem, ?_⟩); first | exact (fun _ h => absurd h List.not_mem_nil) | (intro _ h; repeat (first | exact h | refine List.Mem.tail _ ?_))))
          case off5 => exact off4_ins off3 (Nat.ne_of_gt lT.2.2.1) (Nat.ne_of_gt lT.2.2.2.2.1) (Nat.ne_of_gt lT.2.2.2.2.2.1) (Nat.ne_of_gt lT.2.2.2.1) (by (repeat refine List.forall_mem_cons.mpr ⟨by first | exact .inl rfl | exact .inr (by k_mem), ?_⟩); exact fun p h => .inr (by repeat (first | exact h | refine List.Mem.tail _ ?_)))
          case p5 => rw [dueP_yes u1]; exact pts_snoc hpt
          case o5 =>
            refine off_cons (fun b hb => ?_) hoff
            simp only [List.mem_cons, List.not_mem_nil, or_false] at hb
            rcases hb with rfl | rfl | rfl <;> k_ne
        · rename_i u1
          exact hW2 _ ⟨_, _, _, rfl, by assumption, news_sub N9 (by ((repeat refine List.forall_mem_cons.mpr ⟨by k_mem, ?_⟩); first | exact (fun _ h => absurd h List.not_mem_nil) | (intro _ h; repeat (first | exact h | refine List.Mem.tail _ ?_)))), off3, own, rfl, dueP_no u1 ▸ hpt, hoff⟩
    case fin3 =>
      rintro g ys3 nx ⟨own, rfl, hpt, hoff⟩ D3 h3 tk3 F3 N3 l3 o3
      k_lt l3
      clear o3
      k_steps
      refine Hold.go ?_
      k_here
      k_dflt (refine' heights_c _ _ _ _ _ _ _ _ _ _ _ _ _ _ _ _ _ _ _ _ _ _ _ ?cB ?cF ?cX ?cT ?ck ?cd ?cu _ _ _ _ _ _ _ ?N him hn3 hn11 hq1 hq2 hp7 hp8 ?_; (case cB => k_asm); (case cF => k_asm); (case cX => k_asm); (case cT => k_asm); (case ck => first | exact rfl | assumption); (case cd => ktr_room); (case cu => ktr_units))
      case N => k_asm
      intro s5 l5 hv nl5 kp5 F5 N5 hhv hl5
      k_lt hl5
      k_steps
      refine Hold.go ?_
      k_here
      k_dflt (refine' folded_c _ _ _ _ _ _ _ _ _ _ _ _ _ _ _ _ _ _ _ _ _ _ _ ?cB ?cF ?cX ?cT ?ck ?cd ?cu _ _ _ _ _ _ _ _ _ ?N ?ho ?ht1 ?ht2 hn11 hq1 hq2 ?_; (case cB => k_asm); (case cF => k_asm); (case cX => k_asm); (case cT => k_asm); (case ck => first | exact rfl | assumption); (case cd => ktr_room); (case cu => ktr_units))
      case N => exact news_rot9 (by assumption)
      case ho =>
        (repeat refine off_cons (fun b hb => by simp only [List.mem_cons, List.not_mem_nil, or_false] at hb; rcases hb with rfl | rfl <;> k_ne) ?_)
        exact off_sub hoff (fun b hb => .tail _ hb)
      case ht1 => exact True.intro
      case ht2 => exact True.intro
      intro s6 l6 pl cl6 pits np cits nc m1 m2 own' kp6 F6 N6 hpp hcc hoF hm1 hm2 hsub
      have N7 := news_more5 N6 hsub
      have hdd : PtsAre own' ys3 (dueP n q (n + 1)) := hpt.mono (fun p hp => hsub p (.tail _ (.tail _ (.tail _ (.tail _ (.tail _ (.tail _ (.tail _ (.tail _ (.tail _ (hp)))))))))))
      clear N6
      k_steps
      rename News _ _ _ _ => N8
      refine Hold.go (ne_ints (N8 (l5, _) (by k_mem)).1 hhv (N8 (lw, _) (by k_mem)).1 hlv (by ktr_units) ?_)
      k_steps
      have hnq := mem_nqs hn3 hn11 hq1 hq2 hcop
      have hfd := fold_due hnq
      have hway := way_ok hnq hab
      have hpl := pair_len hab
      rw [hfd] at hpp
      refine Hold.go (ne_pts N8 (by intro _ h; repeat (first | exact h | refine List.Mem.tail _ ?_)) (by intro _ h; repeat (first | exact h | refine List.Mem.tail _ ?_)) (l1 := pl) (by k_mem) hpp (l2 := D3) (by k_mem) hdd (by ktr_units) ?_)
      k_steps
      refine Hold.go (ListComp_U (by assumption) rfl (by decide) rfl (by decide) rfl ?_)
      k_steps
      refine Hold.go (CompSrc.range (n := n) rfl (by assumption) (by assumption) (by assumption) (small_one (by lia) (by lia) (by lia) (by lia)) (by rw [rangeSize_nat]; lia) (Nat.le_trans (show n ≤ 200 by lia) (by decide)) fun g9 => ?_)
      refine compRest_of trivial (fun i y => ∃ t, y = .str (Txt.mul pa (atL n q (i + 1) - atL n q i) ++ pb) t) ?turn7 ?fin7
      case turn7 =>
        intro i v I oI C oC D9 ys m9 h9 tk9 E9 hi hv8 hns hm9 F9 N9 off9 ne9
        refine ex1_el hv8 fun t9 hv9 => ?_
        clear hv8
        subst hv9
        refine gen_Q fun W7 hW7 => ?_
        have hl9 : h9.IsList l5 hv.toArray := ⟨_, (N9 (l5, _) (by k_mem)).1, rfl, _, rfl⟩
        have hz7 := at_bd hnq (x := i + 1) (by lia)
        have hz8 := at_bd hnq (x := i) (by lia)
        have b1 := hz7.1; have b2 := hz7.2; have b3 := hz8.1; have b4 := hz8.2
        clear hz7 hz8
        k_steps
        refine Hold.go (subL hl9 hhv (i + 1) (by lia) (by lia) (by lia) fun t10 => ?_)
        k_steps
        refine Hold.go (subL hl9 hhv i (by lia) (by lia) (by lia) fun t11 => ?_)
        k_steps
        refine Hold.go (mulPair hpl.1 (by lia) (by lia) fun t12 k12 => ?_)
        k_steps
        refine SB.add (fun t13 k13 => ?_) (Nat.le_trans (way_len hnq hab hi) (by decide))
        exact hW7 _ _ ⟨⟨_, rfl⟩, _, _, rfl, by assumption, by assumption⟩
      case fin7 =>
        intro ys hyl hyo
        have hys := strs_of (n := n) (f := fun i => Txt.mul pa (atL n q (i + 1) - atL n q i) ++ pb) hyl hyo
        k_steps
        rename News _ _ _ _ => N9
        refine join_listW (ys := wayL n q pa pb) ⟨_, (N9 _ (.head _)).1, rfl, _, rfl⟩ hys (by decide) (by have := hway.2.2.2; lia) fun t9 k9 => ?_
        rw [txt_join, way_join]
        k_steps
        refine Hold.go ?_
        k_here
        k_dflt (refine' words_c _ _ _ _ _ _ _ _ _ _ _ _ _ _ _ _ _ _ _ _ _ _ _ ?cB ?cF ?cX ?cT ?ck ?cd ?cu ((P, tup2 pa ta pb tb) :: (cl6, listOf cits.toArray nc) :: (D3, lst ys3) :: (L + 1 + 1 + 1, _) :: own') _ _ _ _ ?N ?ho hm1 hm2 hway.2.2.1 ?_; (case cB => k_asm); (case cF => k_asm); (case cX => k_asm); (case cT => k_asm); (case ck => first | exact rfl | assumption); (case cd => ktr_room); (case cu => ktr_units))
        case N => exact news_sub N9 (by ((repeat refine List.forall_mem_cons.mpr ⟨by k_mem, ?_⟩); first | exact (fun _ h => absurd h List.not_mem_nil) | (intro _ h; repeat (first | exact h | refine List.Mem.tail _ ?_))))
        case ho => exact off_cons (fun b hb => by simp only [List.mem_cons, List.not_mem_nil, or_false] at hb; rcases hb with rfl | rfl <;> k_ne) (off_cons (fun b hb => hoF (cl6, _) (by k_mem) b hb) (off_cons (fun b hb => by simp only [List.mem_cons, List.not_mem_nil, or_false] at hb; rcases hb with rfl | rfl <;> k_ne) (off_cons (fun b hb => by simp only [List.mem_cons, List.not_mem_nil, or_false] at hb; rcases hb with rfl | rfl <;> k_ne) (fun p hp => hoF p (.tail _ (.tail _ (.tail _ hp)))))))
        intro s8 lx wv nlx m3 m4 kp8 F8 N8 hwv hm3 hm4 hlx hl8
        have hwv' : StrsAre wv (wdL n q pa pb) := hwv
        clear hwv N9
        k_lt hlx
        iterate 2 walk1
        refine law_t w p loose mean mg mb dp un gd a ccd outer A₀ base h₀ L _ Q E _ hK B X T hd1 hu him hgd sc its hsc hsz hit n q P lx cl6 D3 nlx nc pa pb ta tb _ _ m3 m4 wv cits ys3 _ own' (by assumption) (by assumption) ?dP hL hlx hwv' hcc hdd hnq hab hm3 hm4 hE ?hret
        case dP => assumption
        case hret => exact fun s' m' m1 m2 k F N => hret s' m' m1 m2 ⟨k.os.trans (kp8.os.trans (kp6.os.trans (kp5.os.trans kp1.os))), fun g => k.bare (kp8.bare (kp6.bare (kp5.bare (kp1.bare g))))⟩ F N


end

end

end
end Mine

section
open PySem PySem.W PySem.Calls PyProof.Rows
set_option Elab.async false
set_option maxRecDepth 100000
set_option maxHeartbeats 8000000
namespace Mine
/-- a text without a row -/
noncomputable def topP : Program := { (default : Program) with main := { (default : Module) with body := [] } }
theorem topP_imp : importsNone topP = true := rfl
section
variable {h₁ h : Heap} {L : Addr} {tabs : List (Addr × Addr)} {m mg mb : Str → Option Value} {p : Program} {loose : List Str} {mean : ExcName → Option Value}
theorem ghost_seer (hT : TabsAt tabs h₁) (x : h₁.NoSeer) : (ghostOf h₁ tabs).NoSeer where
  statics := let ⟨mc, a, b⟩ := x.statics; ⟨mc, ghost_ns hT a, b⟩
  mods := let ⟨mc, a, b⟩ := x.mods; ⟨mc, ghost_ns hT a, b⟩
  imp := let ⟨mc, a, b⟩ := x.imp; ⟨mc, ghost_ns hT a, b⟩
  main := let ⟨mg, bm, ob, a, b, c, d, e⟩ := x.main; ⟨mg, bm, ob, ghost_ns hT a, b, ghost_get hT c (fun q => by rw [q] at d; cases d), d, e⟩
theorem ghost_topN (hT : TabsAt tabs h₁) (T : Top p loose mean mg mb h₁) (him : importsNone p = true) :
    Top topP (loose ++ (recsOf p).map (·.name) ++ (litsOf p).map (·.1) ++ (clssOf p loose).map (·.name)) mean mg mb (ghostOf h₁ tabs) where
  g := ghost_ns hT T.g
  b := ghost_ns hT T.b
  nolimit := let ⟨mc, a, r⟩ := T.nolimit; ⟨mc, ghost_ns hT a, r⟩
  nodigits := let ⟨mc, a, r⟩ := T.nodigits; ⟨mc, ghost_ns hT a, r⟩
  fn := fun d hd => absurd (show d ∈ ([] : List DefRec) from hd) List.not_mem_nil
  own := fun o ho => absurd (show o ∈ ([] : List OwnSpec) from ho) List.not_mem_nil
  const := fun x d e => by cases (show (none : Option PyData) = some d from e)
  free := fun x h1 h2 _ _ _ => T.free x h1 (fun q => h2 (List.mem_append_left _ (List.mem_append_left _ (List.mem_append_left _ q))))
    (fun q => h2 (List.mem_append_left _ (List.mem_append_left _ (List.mem_append_right _ q)))) (fun q => h2 (List.mem_append_left _ (List.mem_append_right _ q))) fun q => h2 (List.mem_append_right _ q)
  builtins := T.builtins
  tab := fun d hd => absurd (show d ∈ ([] : List DefRec) from hd) List.not_mem_nil
  bmain := let ⟨bm, ob, a1, a2, a3, a4, r⟩ := T.bmain; ⟨bm, ob, a1, a2, ghost_get hT a3 (fun q => by rw [q] at a4; cases a4), a4, r⟩
  seer := fun _ => ghost_seer hT (T.seer him)
end
theorem good_end {c : ClaimW} {cl : Str → Option Addr} {mean : ExcName → Option Value} {args : List WData} {s₁ s' : Shared} {L : Addr} {m : Str → Option Value} {m1 m2 : Array Value} (hT : TabsAt [(144, 140), (151, 147)] s₁.heap)
    (F : Fr (ghostOf s₁.heap [(144, 140), (151, 147)]) L s'.heap m) (N : News (ghostOf s₁.heap [(144, 140), (151, 147)]) L s'.heap [(140, tabObj m1), (147, tabObj m2)]) (hos : s'.os = s₁.os) (hg : AllBare s'.gens)
    (hn : ∀ cls, c.raises args cls = false) (hp : c.post args (.bool true) args = true) : GoodWG c cl mean args s₁ (.ok (.ret (.bool true))) s' := by
  have hgr : GrownAll [(144, 140), (151, 147)] s'.heap := ⟨GrownAt.of N (.head _), GrownAt.of N (.tail _ (.head _)), trivial⟩
  have keep : ∀ b o, b ∉ ([(144, 140), (151, 147)] : List (Addr × Addr)).map (·.2) → s₁.heap.get? b = some o → s'.heap.get? b = some o := fun b o hb e => F.keep b o (ghost_ne e hb)
  have grown : ∀ b o, b ∈ ([(144, 140), (151, 147)] : List (Addr × Addr)).map (·.2) → s₁.heap.get? b = some o → isCodeTable s₁.heap b ∧ o = tabObj #[] ∧ ∃ ps, s'.heap.get? b = some (tabObj ps) := fun b o hb e => by
    obtain ⟨q, hq, rfl⟩ := List.mem_map.mp hb
    have e2 := (hT q hq).2
    rw [e] at e2
    exact ⟨((hT q hq).1.tab (hT q hq).2).isCodeTable, Option.some.inj e2, hgr.get q hq⟩
  refine ⟨.inl ⟨_, _, [], rfl, hn, .bool _, hp, fun _ => ⟨List.nodup_nil, fun a h => nomatch h⟩⟩, ⟨fun b o e => ?_, fun b o e => ?_⟩, hos, hg⟩
  · by_cases hb : b ∈ ([(144, 140), (151, 147)] : List (Addr × Addr)).map (·.2)
    · obtain ⟨ht, rfl, ps, hP⟩ := grown b o hb e
      exact .inr (.inl ⟨ht, rfl, #[], ps, rfl, by rw [Array.empty_append]; exact hP⟩)
    · exact .inl (keep b o hb e)
  · by_cases hb : b ∈ ([(144, 140), (151, 147)] : List (Addr × Addr)).map (·.2)
    · obtain ⟨_, _, ps, hP⟩ := grown b o hb e
      exact ⟨_, hP⟩
    · exact ⟨o, keep b o hb e⟩
theorem vw_imp : importsNone vw = true := by kernel_rfl
end Mine

end

section
open PySem PySem.W PyProof.Rows PySem.Calls
set_option Elab.async false
set_option maxRecDepth 100000
set_option maxHeartbeats 8000000
set_option pp.deepTerms false
set_option pp.maxSteps 3000
namespace Mine
theorem law_f (w : World) (p : Program) (loose : List Str) (mean : ExcName → Option Value) (mg mb : Str → Option Value) (dp un : Nat) (gd : Option (List Code)) (a : Addr) (ccd : Value) (outer : List Env) (A₀ : Around) (base h₀ : Heap) (L : Addr) (s : Shared) (Q : Flow → Shared → Prop) (E : Value → Shared → Prop) {name qual : Str} {params : Arguments} {body : List Stmt} {scope : Scope} {dV kV doc pm cdv ct oc : Value} {an od : Option Addr} {osl : Array (Option Value)}
   (hK : (KL w.params).lookup 310 = some ⟨oc, od, .func (fnOf name qual params body scope dV kV doc pm an cdv ct), osl⟩)
   (B : Below A₀ base outer h₀) (X : (KL w.params).In h₀) (T : Top p loose mean mg mb h₀) (hd1 : dp + 200 < recursionLimit) (hu : un + 8 * 200 < cLine) (him : importsNone p = true) (hgd : gd = some [])
   (sc : Addr) (its : Array Value) (hsc : h₀.IsList sc its) (hsz : its.size ≤ 63) (hit : ∀ i : Nat, i < its.size → ∃ v t, its[i]? = some (.int v t))
   (o1 o2 o3 o4 o5 : Obj) (d1 : o1.data = .cell none) (d2 : o2.data = .cell none) (d3 : o3.data = .cell none) (d4 : o4.data = .cell none) (d5 : o5.data = .cell none) (hL : @LT.lt Nat _ 147 L)
   (F : Fr h₀ L s.heap (fun y => if y = Str.ofString "script" then some (.ref sc) else none))
   (N : News h₀ L s.heap [(L + 1 + 1 + 1 + 1 + 1, o5), (L + 1 + 1 + 1 + 1, o4), (L + 1 + 1 + 1, o3), (L + 1 + 1, o2), (L + 1, o1), (140, tabObj #[]), (147, tabObj #[])])
   (hE : PassesOwn (model Challenge.rw_xi0019_01.row.prog w) (ktrTop dp un gd qual scope L a ccd (cellsFrom (L + 1) scope.names []) outer) (envX qual scope L a ccd (cellsFrom (L + 1) scope.names [])) E)
   (hret : ∀ s' m' m1 m2, Kp s s' → Fr h₀ L s'.heap m' → News h₀ L s'.heap [(140, tabObj m1), (147, tabObj m2)] → Q (.ret (.bool true)) s') :
   wpAny (model Challenge.rw_xi0019_01.row.prog w) (ktrTop dp un gd qual scope L a ccd (cellsFrom (L + 1) scope.names []) outer) (execs body (envX qual scope L a ccd (cellsFrom (L + 1) scope.names []))) Q E s :=
  law_b w p loose mean mg mb dp un gd a ccd outer A₀ base h₀ L s Q E _ hK B X T hd1 hu him hgd sc its hsc hsz hit o1 o2 o3 o4 o5 d1 d2 d3 d4 d5 hL F N hE hret
end Mine

end

open PySem PySem.W PyProof.Rows
open Mine
set_option Elab.async false
set_option maxRecDepth 100000 in
set_option maxHeartbeats 8000000 in
theorem PySem.Challenge.cw_xi0019_01_holds : PySem.Challenge.rw_xi0019_01.Holds := by
  w_on
  refine holds_law law_said fun said => ?_
  refine holds_open (q := vw) (loose := loo) (Xt := fun s => xlAt vw [] s && recOk (RowW.records PySem.Challenge.rw_xi0019_01.row.toRowW) s) (XP := XL vw []) (Yf := Hook.obs hk) (Ya := Hook.val hk) (YP := Hook.says hk) (N := 3800) ?hl (Hook.of hk) (Hook.keeps hk) (fun s e => xl_of s (Bool.and_eq_true_iff.mp e).1) XL.keeps (by rfl) (by rfl) (by rfl) (fun s e => recFacts_of (Bool.and_eq_true_iff.mp e).2) (by rfl) (by first | assumption | decide +kernel) (by decide +kernel) ⟨rfl, rfl, rfl, rfl, rfl, by decide +kernel⟩ ?hw ?hc
  case hl => exact head_hl
  case hw => exact head_hw
  case hc =>
    k_fill
    intro w s₀ s₁ mg mb G Y fa o pm cd doc dV kV ho hd hcd hD hmg hg args vals as hpre hlay hrd hwl hlo
    have KX := km_in_of Y
    have hT8 := km_tabs_of Y
    have X := (Ground.X G).1
    have V := (Ground.X G).2
    refine Ground.open G ?_
    intro T B D TE TW
    try (refine guard_noD D (by decide +kernel) ?_; clear D)
    have hT9 : TabsAt ([(144, 140), (151, 147)] : List (Addr × Addr)) s₁.heap := List.forall_mem_cons.mpr ⟨⟨codeHd_of_K (c := 144) (P := 140) KX (by kernel_rfl), hT8 140 (by k_mem)⟩, List.forall_mem_cons.mpr ⟨⟨codeHd_of_K (c := 151) (P := 147) KX (by kernel_rfl), hT8 147 (by k_mem)⟩, fun _ h => nomatch h⟩⟩
    clear hmg
    wrow_args hpre hlay hrd hwl hlo
    refine enter_call ?_
    w_top on
    w_call any ho hd hcd hD T F
    clear hd
    rename News _ _ _ _ => N
    have X9 := ghost_K hT9 KX (by kernel_rfl)
    have T9 := ghost_topN hT9 T vw_imp
    have B9 := ghost_below hT9
    have N9 := ghost_news hT9 F N
    have F9 := ghost_fr hT9 F
    have l0 := ghost_lt hT9 F
    revert X9
    k_fill
    intro X9
    rename_i h1 tk1 u5 u4 u3 u2 u1 e5 e4 e3 e2 e1 xx
    k_dflt (refine' law_f w topP _ (ExcName.means s₀.heap) mg mb _ _ _ fa cd [] callerA _ _ _ _ _ _ ?hK B9 X9 T9 ?hd1 ?hu topP_imp ?hgd _ _ ?hsc ?hsz ?hit _ _ _ _ _ ?d1 ?d2 ?d3 ?d4 ?d5 ?hL ?F ?N ?hE ?hret)
    case hK => k_is
    case hd1 => decide
    case hu => decide
    case hgd => rfl
    case hsc => exact ghost_list hT9 (by assumption)
    case N => exact N9
    case F => exact F9
    case d1 => exact e1
    case d2 => exact e2
    case d3 => exact e3
    case d4 => exact e4
    case d5 => exact e5
    case hsz =>
      rename IntsAre _ _ => hI
      rw [List.size_toArray, ints_len' hI]
      omega
    case hit =>
      intro i hi
      rename IntsAre _ _ => hI
      rw [List.size_toArray, ints_len' hI] at hi
      obtain ⟨t, e⟩ := ints_get hI i hi
      exact ⟨_, t, by rw [List.getElem?_toArray]; exact e⟩
    case hL => exact l0 (147, tabObj #[]) (.tail _ (.head _))
    case hE => with_unfolding_all passes_own
    case hret =>
      intro s' m' m1 m2 k F N
      exact good_end hT9 F N k.os (k.bare (.of_eq hg)) (fun _ => rfl) (by with_unfolding_all rfl)
