import PyProof.Rows.All
import Wide.All
import OpenK.AllK
import Wide.FinOn
import Lean
import PySem.Challenge.RW_pk0106_01
open PySem PySem.W PyProof.Rows
set_option Elab.async false
set_option maxRecDepth 100000
set_option linter.unusedVariables false
namespace Mine
noncomputable def topSt (i : Nat) : Stmt := PySem.Challenge.pw_pk0106_01.main.body.getD i default
noncomputable def inCls (s : Stmt) (j : Nat) : Stmt := match s with
  | .ClassDef _ _ _ body _ _ _ _ _ _ _ => body.getD j default
  | _ => default
noncomputable def mkFn (s : Stmt) (qn : PySem.Str) (cls : Value) (dict : Option Addr) (slots : Array (Option Value)) (gl : Addr) (clo : List (PySem.Str × Addr)) (dfl kwd doc mod : Value) (ann : Option Addr) (code ctup : Value) (bi : Addr) : Obj := match s with
  | .FunctionDef name params body _ _ _ scope _ _ _ => ⟨cls, dict, .func ⟨name, qn, params, .stmts body, scope, gl, clo, dfl, kwd, doc, mod, ann, code, ctup, bi⟩, slots⟩
  | _ => default
/-- the loader that the start-up's namespace names -/
noncomputable def ldr (P : Params) : Value := match (boot_o_3 P).data with
  | .dict es _ => (match es.toList.drop 3 with | e :: _ => e.val | [] => .none)
  | _ => .none
noncomputable def o211 (P : Params) : Obj := mkFn (topSt 12) (Str.ofString "law") (Value.type "function") (none) (#[]) (3) ([]) (Value.none) (Value.none) (Value.none) (Value.str (Str.ofString "law_pk0106_01") 423) (none) (Value.ref 210) (Value.none) (0)
noncomputable def o206 (P : Params) : Obj := mkFn (topSt 11) (Str.ofString "_law_marks") (Value.type "function") (none) (#[]) (3) ([]) (Value.none) (Value.none) (Value.none) (Value.str (Str.ofString "law_pk0106_01") 423) (none) (Value.ref 205) (Value.none) (0)
noncomputable def o201 (P : Params) : Obj := mkFn (topSt 10) (Str.ofString "_law_pair") (Value.type "function") (none) (#[]) (3) ([]) (Value.none) (Value.none) (Value.none) (Value.str (Str.ofString "law_pk0106_01") 423) (none) (Value.ref 200) (Value.none) (0)
noncomputable def o194 (P : Params) : Obj := mkFn (topSt 8) (Str.ofString "parse_http_list") (Value.type "function") (none) (#[]) (3) ([]) (Value.none) (Value.none) (Value.none) (Value.str (Str.ofString "cpy313.urllib.request") 404) (none) (Value.ref 193) (Value.none) (0)
noncomputable def o189 (P : Params) : Obj := mkFn (topSt 7) (Str.ofString "parse_keqv_list") (Value.type "function") (none) (#[]) (3) ([]) (Value.none) (Value.none) (Value.none) (Value.str (Str.ofString "cpy313.urllib.request") 404) (none) (Value.ref 188) (Value.none) (0)
noncomputable def o91 (P : Params) : Obj := mkFn (inCls (topSt 4) 8) (Str.ofString "_ValueFormatter._append_chunk") (Value.type "function") (none) (#[]) (3) ([]) (Value.none) (Value.none) (Value.none) (Value.str (Str.ofString "cpy313.email.header") 194) (none) (Value.ref 90) (Value.none) (0)
noncomputable def o42 (P : Params) : Obj := mkFn (inCls (topSt 4) 1) (Str.ofString "_ValueFormatter._str") (Value.type "function") (none) (#[]) (3) ([]) (Value.none) (Value.none) (Value.none) (Value.str (Str.ofString "cpy313.email.header") 194) (none) (Value.ref 41) (Value.none) (0)
noncomputable def o56 (P : Params) : Obj := mkFn (inCls (topSt 4) 3) (Str.ofString "_ValueFormatter.newline") (Value.type "function") (none) (#[]) (3) ([]) (Value.none) (Value.none) (Value.none) (Value.str (Str.ofString "cpy313.email.header") 194) (none) (Value.ref 55) (Value.none) (0)
noncomputable def o35 (P : Params) : Obj := mkFn (inCls (topSt 4) 0) (Str.ofString "_ValueFormatter.__init__") (Value.type "function") (none) (#[]) (3) ([]) (Value.none) (Value.none) (Value.none) (Value.str (Str.ofString "cpy313.email.header") 194) (none) (Value.ref 34) (Value.none) (0)
noncomputable def o115 (P : Params) : Obj := mkFn (inCls (topSt 5) 0) (Str.ofString "_Accumulator.__init__") (Value.type "function") (none) (#[]) (3) ([(Str.ofString "__class__", 102)]) (Value.ref 107) (Value.none) (Value.none) (Value.str (Str.ofString "cpy313.email.header") 194) (none) (Value.ref 114) (Value.ref 108) (0)
noncomputable def o122 (P : Params) : Obj := mkFn (inCls (topSt 5) 1) (Str.ofString "_Accumulator.push") (Value.type "function") (none) (#[]) (3) ([]) (Value.none) (Value.none) (Value.none) (Value.str (Str.ofString "cpy313.email.header") 194) (none) (Value.ref 121) (Value.none) (0)
noncomputable def o130 (P : Params) : Obj := mkFn (inCls (topSt 5) 2) (Str.ofString "_Accumulator.pop_from") (Value.type "function") (none) (#[]) (3) ([]) (Value.ref 123) (Value.none) (Value.none) (Value.str (Str.ofString "cpy313.email.header") 194) (none) (Value.ref 129) (Value.none) (0)
noncomputable def o138 (P : Params) : Obj := mkFn (inCls (topSt 5) 3) (Str.ofString "_Accumulator.pop") (Value.type "function") (none) (#[]) (3) ([(Str.ofString "__class__", 102)]) (Value.none) (Value.none) (Value.none) (Value.str (Str.ofString "cpy313.email.header") 194) (none) (Value.ref 137) (Value.ref 131) (0)
noncomputable def o145 (P : Params) : Obj := mkFn (inCls (topSt 5) 4) (Str.ofString "_Accumulator.__len__") (Value.type "function") (none) (#[]) (3) ([]) (Value.none) (Value.none) (Value.none) (Value.str (Str.ofString "cpy313.email.header") 194) (none) (Value.ref 144) (Value.none) (0)
noncomputable def o152 (P : Params) : Obj := mkFn (inCls (topSt 5) 5) (Str.ofString "_Accumulator.__str__") (Value.type "function") (none) (#[]) (3) ([]) (Value.none) (Value.none) (Value.none) (Value.str (Str.ofString "cpy313.email.header") 194) (none) (Value.ref 151) (Value.none) (0)
noncomputable def o160 (P : Params) : Obj := mkFn (inCls (topSt 5) 6) (Str.ofString "_Accumulator.reset") (Value.type "function") (none) (#[]) (3) ([]) (Value.ref 153) (Value.none) (Value.none) (Value.str (Str.ofString "cpy313.email.header") 194) (none) (Value.ref 159) (Value.none) (0)
noncomputable def o167 (P : Params) : Obj := mkFn (inCls (topSt 5) 7) (Str.ofString "_Accumulator.is_onlyws") (Value.type "function") (none) (#[]) (3) ([]) (Value.none) (Value.none) (Value.none) (Value.str (Str.ofString "cpy313.email.header") 194) (none) (Value.ref 166) (Value.none) (0)
noncomputable def o175 (P : Params) : Obj := mkFn (inCls (topSt 5) 8) (Str.ofString "_Accumulator.part_count") (Value.type "function") (none) (#[]) (3) ([(Str.ofString "__class__", 102)]) (Value.none) (Value.none) (Value.none) (Value.str (Str.ofString "cpy313.email.header") 194) (none) (Value.ref 174) (Value.ref 168) (0)
noncomputable def o94 (P : Params) : Obj := { cls := Value.type "type",   data :=     Data.cls       { name := Str.ofString "_ValueFormatter", bases := [Value.type "object"],         mro := [Value.ref 94, Value.type "object"], ns := 93, qualname := Str.ofString "_ValueFormatter" },   slots :=     #[none, none, some (Value.str (Str.ofString "_ValueFormatter") 200),       some (Value.str (Str.ofString "_ValueFormatter") 208), some (Value.builtin "object.__new__"),       some (Value.bool true)] }
noncomputable def o178 (P : Params) : Obj := { cls := Value.type "type",   data :=     Data.cls       { name := Str.ofString "_Accumulator", bases := [Value.type "list"],         mro := [Value.ref 178, Value.type "list", Value.type "object"], ns := 177,         qualname := Str.ofString "_Accumulator" },   slots :=     #[some (Value.ref 99), none, some (Value.str (Str.ofString "_Accumulator") 308),       some (Value.str (Str.ofString "_Accumulator") 316), some (Value.builtin "list.__new__"), some (Value.bool true)] }
noncomputable def o3 (P : Params) : Obj := { cls := Value.type "dict",   data :=     Data.dict       #[{ hash := PyData.keyHash P (Str.ofString "__name__"), key := Value.str (Str.ofString "__name__") 165,           val := Value.str (Str.ofString "law_pk0106_01") 423 },         { hash := PyData.keyHash P (Str.ofString "__doc__"), key := Value.str (Str.ofString "__doc__") 166,           val := Value.none },         { hash := PyData.keyHash P (Str.ofString "__package__"), key := Value.str (Str.ofString "__package__") 167,           val := Value.none },         { hash := PyData.keyHash P (Str.ofString "__loader__"), key := Value.str (Str.ofString "__loader__") 168,           val := ldr P },         { hash := PyData.keyHash P (Str.ofString "__spec__"), key := Value.str (Str.ofString "__spec__") 169,           val := Value.none },         { hash := PyData.keyHash P (Str.ofString "__annotations__"),           key := Value.str (Str.ofString "__annotations__") 170, val := Value.ref 6 },         { hash := PyData.keyHash P (Str.ofString "__builtins__"), key := Value.str (Str.ofString "__builtins__") 171,           val := Value.ref 4 },         { hash := PyData.keyHash P (Str.ofString "__file__"), key := Value.str (Str.ofString "__file__") 173,           val := Value.str (Str.ofString "/claim/cut.py") 172 },         { hash := PyData.keyHash P (Str.ofString "__cached__"), key := Value.str (Str.ofString "__cached__") 174,           val := Value.none },         { hash := PyData.keyHash P (Str.ofString "_wall"), key := Value.str (Str.ofString "_wall") 193,           val := Value.ref 21 },         { hash := PyData.keyHash P (Str.ofString "NL"), key := Value.str (Str.ofString "NL") 197,           val := Value.str (Str.ofString "\n") 196 },         { hash := PyData.keyHash P (Str.ofString "EMPTYSTRING"), key := Value.str (Str.ofString "EMPTYSTRING") 199,           val := Value.str (Str.ofString "") 198 },         { hash := PyData.keyHash P (Str.ofString "_ValueFormatter"),           key := Value.str (Str.ofString "_ValueFormatter") 307, val := Value.ref 94 },         { hash := PyData.keyHash P (Str.ofString "_Accumulator"), key := Value.str (Str.ofString "_Accumulator") 403,           val := Value.ref 178 },         { hash := PyData.keyHash P (Str.ofString "parse_keqv_list"),           key := Value.str (Str.ofString "parse_keqv_list") 416, val := Value.ref 189 },         { hash := PyData.keyHash P (Str.ofString "parse_http_list"),           key := Value.str (Str.ofString "parse_http_list") 422, val := Value.ref 194 },         { hash := PyData.keyHash P (Str.ofString "_law_pair"), key := Value.str (Str.ofString "_law_pair") 439,           val := Value.ref 201 },         { hash := PyData.keyHash P (Str.ofString "_law_marks"), key := Value.str (Str.ofString "_law_marks") 445,           val := Value.ref 206 },         { hash := PyData.keyHash P (Str.ofString "law"), key := Value.str (Str.ofString "law") 451,           val := Value.ref 211 }]       19 }
noncomputable def o93 (P : Params) : Obj := { cls := Value.type "dict",   data :=     Data.dict       #[{ hash := PyData.keyHash P (Str.ofString "__module__"), key := Value.str (Str.ofString "__module__") 207,           val := Value.str (Str.ofString "cpy313.email.header") 194 },         { hash := PyData.keyHash P (Str.ofString "__firstlineno__"),           key := Value.str (Str.ofString "__firstlineno__") 211, val := Value.int 7 210 },         { hash := PyData.keyHash P (Str.ofString "__init__"), key := Value.str (Str.ofString "__init__") 222,           val := Value.ref 35 },         { hash := PyData.keyHash P (Str.ofString "_str"), key := Value.str (Str.ofString "_str") 230,           val := Value.ref 42 },         { hash := PyData.keyHash P (Str.ofString "__str__"), key := Value.str (Str.ofString "__str__") 237,           val := Value.ref 49 },         { hash := PyData.keyHash P (Str.ofString "newline"), key := Value.str (Str.ofString "newline") 245,           val := Value.ref 56 },         { hash := PyData.keyHash P (Str.ofString "add_transition"),           key := Value.str (Str.ofString "add_transition") 252, val := Value.ref 63 },         { hash := PyData.keyHash P (Str.ofString "feed"), key := Value.str (Str.ofString "feed") 262,           val := Value.ref 70 },         { hash := PyData.keyHash P (Str.ofString "_maxlengths"), key := Value.str (Str.ofString "_maxlengths") 269,           val := Value.ref 77 },         { hash := PyData.keyHash P (Str.ofString "_ascii_split"), key := Value.str (Str.ofString "_ascii_split") 279,           val := Value.ref 84 },         { hash := PyData.keyHash P (Str.ofString "_append_chunk"), key := Value.str (Str.ofString "_append_chunk") 293,           val := Value.ref 91 },         { hash := PyData.keyHash P (Str.ofString "__static_attributes__"),           key := Value.str (Str.ofString "__static_attributes__") 300, val := Value.ref 92 },         { hash := PyData.keyHash P (Str.ofString "__dict__"), key := Value.str (Str.ofString "__dict__") 302,           val := Value.ref 95 },         { hash := PyData.keyHash P (Str.ofString "__weakref__"), key := Value.str (Str.ofString "__weakref__") 304,           val := Value.ref 96 },         { hash := PyData.keyHash P (Str.ofString "__doc__"), key := Value.str (Str.ofString "__doc__") 305,           val := Value.none }]       4 }
noncomputable def o177 (P : Params) : Obj := { cls := Value.type "dict",   data :=     Data.dict       #[{ hash := PyData.keyHash P (Str.ofString "__module__"), key := Value.str (Str.ofString "__module__") 315,           val := Value.str (Str.ofString "cpy313.email.header") 194 },         { hash := PyData.keyHash P (Str.ofString "__firstlineno__"),           key := Value.str (Str.ofString "__firstlineno__") 319, val := Value.int 73 318 },         { hash := PyData.keyHash P (Str.ofString "__init__"), key := Value.str (Str.ofString "__init__") 329,           val := Value.ref 115 },         { hash := PyData.keyHash P (Str.ofString "push"), key := Value.str (Str.ofString "push") 338,           val := Value.ref 122 },         { hash := PyData.keyHash P (Str.ofString "pop_from"), key := Value.str (Str.ofString "pop_from") 348,           val := Value.ref 130 },         { hash := PyData.keyHash P (Str.ofString "pop"), key := Value.str (Str.ofString "pop") 356,           val := Value.ref 138 },         { hash := PyData.keyHash P (Str.ofString "__len__"), key := Value.str (Str.ofString "__len__") 363,           val := Value.ref 145 },         { hash := PyData.keyHash P (Str.ofString "__str__"), key := Value.str (Str.ofString "__str__") 370,           val := Value.ref 152 },         { hash := PyData.keyHash P (Str.ofString "reset"), key := Value.str (Str.ofString "reset") 378,           val := Value.ref 160 },         { hash := PyData.keyHash P (Str.ofString "is_onlyws"), key := Value.str (Str.ofString "is_onlyws") 385,           val := Value.ref 167 },         { hash := PyData.keyHash P (Str.ofString "part_count"), key := Value.str (Str.ofString "part_count") 393,           val := Value.ref 175 },         { hash := PyData.keyHash P (Str.ofString "__static_attributes__"),           key := Value.str (Str.ofString "__static_attributes__") 395, val := Value.ref 176 },         { hash := PyData.keyHash P (Str.ofString "__dict__"), key := Value.str (Str.ofString "__dict__") 398,           val := Value.ref 179 },         { hash := PyData.keyHash P (Str.ofString "__weakref__"), key := Value.str (Str.ofString "__weakref__") 400,           val := Value.ref 180 },         { hash := PyData.keyHash P (Str.ofString "__doc__"), key := Value.str (Str.ofString "__doc__") 401,           val := Value.none }]       5 }
noncomputable def o34 (P : Params) : Obj := { cls := Value.type "code",   data :=     Data.fields       #[Value.str (Str.ofString "__init__") 212, Value.str (Str.ofString "_ValueFormatter.__init__") 213,         Value.str (Str.ofString "/claim/cut.py") 214, Value.int 9 0, Value.int 5 0, Value.int 0 0, Value.int 0 0,         Value.int 3 0, Value.ref 29, Value.bool true, Value.int 181 0, Value.ref 30, Value.none, Value.ref 31,         Value.ref 32, Value.ref 33, Value.int 220 0, Value.int 9 0, Value.str (Str.ofString "/claim/cut.py") 221] }
noncomputable def o41 (P : Params) : Obj := { cls := Value.type "code",   data :=     Data.fields       #[Value.str (Str.ofString "_str") 223, Value.str (Str.ofString "_ValueFormatter._str") 224,         Value.str (Str.ofString "/claim/cut.py") 225, Value.int 17 0, Value.int 2 0, Value.int 0 0, Value.int 0 0,         Value.int 3 0, Value.ref 36, Value.bool true, Value.int 181 0, Value.ref 37, Value.none, Value.ref 38,         Value.ref 39, Value.ref 40, Value.int 228 0, Value.int 17 0, Value.str (Str.ofString "/claim/cut.py") 229] }
noncomputable def o55 (P : Params) : Obj := { cls := Value.type "code",   data :=     Data.fields       #[Value.str (Str.ofString "newline") 238, Value.str (Str.ofString "_ValueFormatter.newline") 239,         Value.str (Str.ofString "/claim/cut.py") 240, Value.int 24 0, Value.int 1 0, Value.int 0 0, Value.int 0 0,         Value.int 3 0, Value.ref 50, Value.bool true, Value.int 181 0, Value.ref 51, Value.none, Value.ref 52,         Value.ref 53, Value.ref 54, Value.int 243 0, Value.int 24 0, Value.str (Str.ofString "/claim/cut.py") 244] }
noncomputable def o90 (P : Params) : Obj := { cls := Value.type "code",   data :=     Data.fields       #[Value.str (Str.ofString "_append_chunk") 280, Value.str (Str.ofString "_ValueFormatter._append_chunk") 281,         Value.str (Str.ofString "/claim/cut.py") 282, Value.int 47 0, Value.int 3 0, Value.int 0 0, Value.int 0 0,         Value.int 3 0, Value.ref 85, Value.bool true, Value.int 181 0, Value.ref 86, Value.none, Value.ref 87,         Value.ref 88, Value.ref 89, Value.int 291 0, Value.int 47 0, Value.str (Str.ofString "/claim/cut.py") 292] }
noncomputable def o114 (P : Params) : Obj := { cls := Value.type "code",   data :=     Data.fields       #[Value.str (Str.ofString "__init__") 321, Value.str (Str.ofString "_Accumulator.__init__") 322,         Value.str (Str.ofString "/claim/cut.py") 323, Value.int 75 0, Value.int 2 0, Value.int 0 0, Value.int 0 0,         Value.int 3 0, Value.ref 109, Value.bool true, Value.int 181 0, Value.ref 110, Value.none, Value.ref 111,         Value.ref 112, Value.ref 113, Value.int 327 0, Value.int 75 0, Value.str (Str.ofString "/claim/cut.py") 328] }
noncomputable def o121 (P : Params) : Obj := { cls := Value.type "code",   data :=     Data.fields       #[Value.str (Str.ofString "push") 330, Value.str (Str.ofString "_Accumulator.push") 331,         Value.str (Str.ofString "/claim/cut.py") 332, Value.int 79 0, Value.int 3 0, Value.int 0 0, Value.int 0 0,         Value.int 3 0, Value.ref 116, Value.bool true, Value.int 181 0, Value.ref 117, Value.none, Value.ref 118,         Value.ref 119, Value.ref 120, Value.int 336 0, Value.int 79 0, Value.str (Str.ofString "/claim/cut.py") 337] }
noncomputable def o129 (P : Params) : Obj := { cls := Value.type "code",   data :=     Data.fields       #[Value.str (Str.ofString "pop_from") 340, Value.str (Str.ofString "_Accumulator.pop_from") 341,         Value.str (Str.ofString "/claim/cut.py") 342, Value.int 82 0, Value.int 2 0, Value.int 0 0, Value.int 0 0,         Value.int 3 0, Value.ref 124, Value.bool true, Value.int 181 0, Value.ref 125, Value.none, Value.ref 126,         Value.ref 127, Value.ref 128, Value.int 346 0, Value.int 82 0, Value.str (Str.ofString "/claim/cut.py") 347] }
noncomputable def o137 (P : Params) : Obj := { cls := Value.type "code",   data :=     Data.fields       #[Value.str (Str.ofString "pop") 349, Value.str (Str.ofString "_Accumulator.pop") 350,         Value.str (Str.ofString "/claim/cut.py") 351, Value.int 87 0, Value.int 1 0, Value.int 0 0, Value.int 0 0,         Value.int 3 0, Value.ref 132, Value.bool true, Value.int 181 0, Value.ref 133, Value.none, Value.ref 134,         Value.ref 135, Value.ref 136, Value.int 354 0, Value.int 87 0, Value.str (Str.ofString "/claim/cut.py") 355] }
noncomputable def o144 (P : Params) : Obj := { cls := Value.type "code",   data :=     Data.fields       #[Value.str (Str.ofString "__len__") 357, Value.str (Str.ofString "_Accumulator.__len__") 358,         Value.str (Str.ofString "/claim/cut.py") 359, Value.int 92 0, Value.int 1 0, Value.int 0 0, Value.int 0 0,         Value.int 3 0, Value.ref 139, Value.bool true, Value.int 181 0, Value.ref 140, Value.none, Value.ref 141,         Value.ref 142, Value.ref 143, Value.int 361 0, Value.int 92 0, Value.str (Str.ofString "/claim/cut.py") 362] }
noncomputable def o151 (P : Params) : Obj := { cls := Value.type "code",   data :=     Data.fields       #[Value.str (Str.ofString "__str__") 364, Value.str (Str.ofString "_Accumulator.__str__") 365,         Value.str (Str.ofString "/claim/cut.py") 366, Value.int 95 0, Value.int 1 0, Value.int 0 0, Value.int 0 0,         Value.int 3 0, Value.ref 146, Value.bool true, Value.int 181 0, Value.ref 147, Value.none, Value.ref 148,         Value.ref 149, Value.ref 150, Value.int 368 0, Value.int 95 0, Value.str (Str.ofString "/claim/cut.py") 369] }
noncomputable def o159 (P : Params) : Obj := { cls := Value.type "code",   data :=     Data.fields       #[Value.str (Str.ofString "reset") 371, Value.str (Str.ofString "_Accumulator.reset") 372,         Value.str (Str.ofString "/claim/cut.py") 373, Value.int 98 0, Value.int 2 0, Value.int 0 0, Value.int 0 0,         Value.int 3 0, Value.ref 154, Value.bool true, Value.int 181 0, Value.ref 155, Value.none, Value.ref 156,         Value.ref 157, Value.ref 158, Value.int 376 0, Value.int 98 0, Value.str (Str.ofString "/claim/cut.py") 377] }
noncomputable def o166 (P : Params) : Obj := { cls := Value.type "code",   data :=     Data.fields       #[Value.str (Str.ofString "is_onlyws") 379, Value.str (Str.ofString "_Accumulator.is_onlyws") 380,         Value.str (Str.ofString "/claim/cut.py") 381, Value.int 104 0, Value.int 1 0, Value.int 0 0, Value.int 0 0,         Value.int 3 0, Value.ref 161, Value.bool true, Value.int 181 0, Value.ref 162, Value.none, Value.ref 163,         Value.ref 164, Value.ref 165, Value.int 383 0, Value.int 104 0, Value.str (Str.ofString "/claim/cut.py") 384] }
noncomputable def o174 (P : Params) : Obj := { cls := Value.type "code",   data :=     Data.fields       #[Value.str (Str.ofString "part_count") 386, Value.str (Str.ofString "_Accumulator.part_count") 387,         Value.str (Str.ofString "/claim/cut.py") 388, Value.int 107 0, Value.int 1 0, Value.int 0 0, Value.int 0 0,         Value.int 3 0, Value.ref 169, Value.bool true, Value.int 181 0, Value.ref 170, Value.none, Value.ref 171,         Value.ref 172, Value.ref 173, Value.int 391 0, Value.int 107 0, Value.str (Str.ofString "/claim/cut.py") 392] }
noncomputable def o188 (P : Params) : Obj := { cls := Value.type "code",   data :=     Data.fields       #[Value.str (Str.ofString "parse_keqv_list") 406, Value.str (Str.ofString "parse_keqv_list") 407,         Value.str (Str.ofString "/claim/cut.py") 408, Value.int 110 0, Value.int 1 0, Value.int 0 0, Value.int 0 0,         Value.int 3 0, Value.ref 183, Value.bool true, Value.int 181 0, Value.ref 184, Value.none, Value.ref 185,         Value.ref 186, Value.ref 187, Value.int 414 0, Value.int 110 0, Value.str (Str.ofString "/claim/cut.py") 415] }
noncomputable def o193 (P : Params) : Obj := { cls := Value.type "code",   data :=     Data.fields       #[Value.str (Str.ofString "parse_http_list") 417, Value.str (Str.ofString "parse_http_list") 418,         Value.str (Str.ofString "/claim/cut.py") 419, Value.int 118 0, Value.int 1 0, Value.int 0 0, Value.int 0 0,         Value.int 3 0, Value.ref 190, Value.bool true, Value.int 181 0, Value.ref 191, Value.none, Value.none,         Value.none, Value.ref 192, Value.int 420 0, Value.int 118 0, Value.str (Str.ofString "/claim/cut.py") 421] }
noncomputable def o200 (P : Params) : Obj := { cls := Value.type "code",   data :=     Data.fields       #[Value.str (Str.ofString "_law_pair") 425, Value.str (Str.ofString "_law_pair") 426,         Value.str (Str.ofString "/claim/cut.py") 427, Value.int 146 0, Value.int 3 0, Value.int 0 0, Value.int 0 0,         Value.int 3 0, Value.ref 195, Value.bool true, Value.int 181 0, Value.ref 196, Value.none, Value.ref 197,         Value.ref 198, Value.ref 199, Value.int 437 0, Value.int 146 0, Value.str (Str.ofString "/claim/cut.py") 438] }
noncomputable def o205 (P : Params) : Obj := { cls := Value.type "code",   data :=     Data.fields       #[Value.str (Str.ofString "_law_marks") 440, Value.str (Str.ofString "_law_marks") 441,         Value.str (Str.ofString "/claim/cut.py") 442, Value.int 159 0, Value.int 2 0, Value.int 0 0, Value.int 0 0,         Value.int 3 0, Value.ref 202, Value.bool true, Value.int 181 0, Value.ref 203, Value.none, Value.none,         Value.none, Value.ref 204, Value.int 443 0, Value.int 159 0, Value.str (Str.ofString "/claim/cut.py") 444] }
noncomputable def o210 (P : Params) : Obj := { cls := Value.type "code",   data :=     Data.fields       #[Value.str (Str.ofString "law") 446, Value.str (Str.ofString "law") 447,         Value.str (Str.ofString "/claim/cut.py") 448, Value.int 168 0, Value.int 1 0, Value.int 0 0, Value.int 0 0,         Value.int 3 0, Value.ref 207, Value.bool true, Value.int 181 0, Value.ref 208, Value.none, Value.none,         Value.none, Value.ref 209, Value.int 449 0, Value.int 168 0, Value.str (Str.ofString "/claim/cut.py") 450] }
noncomputable def o2 (P : Params) : Obj := { cls := Value.none, data := Data.dict #[] }
noncomputable def o95 (P : Params) : Obj := { cls := Value.type "getset_descriptor",   data :=     Data.fields       #[Value.str (Str.ofString "__dict__") 301, Value.ref 94, Value.builtin "function.__dict__",         Value.builtin "function.__dict__#set"] }
noncomputable def o96 (P : Params) : Obj := { cls := Value.type "getset_descriptor",   data :=     Data.fields       #[Value.str (Str.ofString "__weakref__") 303, Value.ref 94, Value.builtin "ExceptionGroup.__weakref__",         Value.none] }
noncomputable def o99 (P : Params) : Obj := { cls := Value.type "tuple", data := Data.seq #[Value.type "list"] }
noncomputable def o102 (P : Params) : Obj := { cls := Value.type "cell", data := Data.cell (some (Value.ref 178)) }
noncomputable def o107 (P : Params) : Obj := { cls := Value.type "tuple", data := Data.seq #[Value.int 0 320] }
noncomputable def o108 (P : Params) : Obj := { cls := Value.type "tuple", data := Data.seq #[Value.ref 102] }
noncomputable def o123 (P : Params) : Obj := { cls := Value.type "tuple", data := Data.seq #[Value.int 0 339] }
noncomputable def o131 (P : Params) : Obj := { cls := Value.type "tuple", data := Data.seq #[Value.ref 102] }
noncomputable def o153 (P : Params) : Obj := { cls := Value.type "tuple", data := Data.seq #[Value.none] }
noncomputable def o168 (P : Params) : Obj := { cls := Value.type "tuple", data := Data.seq #[Value.ref 102] }
noncomputable def o179 (P : Params) : Obj := { cls := Value.type "getset_descriptor",   data :=     Data.fields       #[Value.str (Str.ofString "__dict__") 397, Value.ref 178, Value.builtin "function.__dict__",         Value.builtin "function.__dict__#set"] }
noncomputable def o180 (P : Params) : Obj := { cls := Value.type "getset_descriptor",   data :=     Data.fields       #[Value.str (Str.ofString "__weakref__") 399, Value.ref 178, Value.builtin "ExceptionGroup.__weakref__",         Value.none] }
noncomputable def kk0 (P : Params) : Frag := [(211, o211 P), (206, o206 P), (201, o201 P), (194, o194 P), (189, o189 P), (91, o91 P), (42, o42 P), (56, o56 P), (35, o35 P), (115, o115 P), (122, o122 P), (130, o130 P)]
noncomputable def kk1 (P : Params) : Frag := [(138, o138 P), (145, o145 P), (152, o152 P), (160, o160 P), (167, o167 P), (175, o175 P), (94, o94 P), (178, o178 P), (3, o3 P), (93, o93 P), (177, o177 P), (34, o34 P)]
noncomputable def kk2 (P : Params) : Frag := [(41, o41 P), (55, o55 P), (90, o90 P), (114, o114 P), (121, o121 P), (129, o129 P), (137, o137 P), (144, o144 P), (151, o151 P), (159, o159 P), (166, o166 P), (174, o174 P)]
noncomputable def kk3 (P : Params) : Frag := [(188, o188 P), (193, o193 P), (200, o200 P), (205, o205 P), (210, o210 P), (2, o2 P), (95, o95 P), (96, o96 P), (99, o99 P), (102, o102 P), (107, o107 P), (108, o108 P)]
noncomputable def kk4 (P : Params) : Frag := [(123, o123 P), (131, o131 P), (153, o153 P), (168, o168 P), (179, o179 P), (180, o180 P)]
/-- the written part of the top's heap -/
noncomputable def KK (P : Params) : Frag := ((kk0 P ++ kk1 P) ++ (kk2 P ++ (kk3 P ++ kk4 P)))
end Mine
open PySem PySem.W PyProof.Rows PySem.Calls PySem.Spec
set_option Elab.async false
namespace Mine
noncomputable abbrev prog : Program := PySem.Challenge.rw_pk0106_01.row.prog
noncomputable def fdAt (P : Params) (a : Addr) : FuncData := match (KK P).lookup a with | some ⟨_, _, .func f, _⟩ => f | _ => default
noncomputable def bodyAt (P : Params) (a : Addr) : List Stmt := match (fdAt P a).body with | .stmts b => b | _ => []

/-- room enough for n more calls -/
structure Rm (A : Around) (n : Nat) : Prop where
  dep : A.depth + n ≤ 500
  uni : A.units + 20 * n ≤ 5000
  hnd : A.handled = none
  frs : ∃ l, A.frames = some l
theorem Rm.deeper {A : Around} {n : Nat} (h : Rm A (n + 1)) (env : Env) : Rm (A.deeper env) n := by
  obtain ⟨a, b, c, l, d⟩ := h
  exact ⟨by show A.depth + 1 + n ≤ 500; omega, by show A.units + 3 + 20 * n ≤ 5000; omega, c, env :: l, by show A.frames.map _ = _; rw [d]; rfl⟩
theorem Rm.in1 {A : Around} {n : Nat} (h : Rm A (n + 1)) : Rm A.in1 n := by
  obtain ⟨a, b, c, d⟩ := h
  exact ⟨by show A.depth + n ≤ 500; omega, by show A.units + 1 + 20 * n ≤ 5000; omega, c, d⟩
theorem Rm.mono {A : Around} {n m : Nat} (h : Rm A n) (hm : m ≤ n := by omega) : Rm A m := ⟨by have := h.dep; omega, by have := h.uni; omega, h.hnd, h.frs⟩
theorem Rm.room {A : Around} {n : Nat} (h : Rm A n) : A.depth < recursionLimit := by
  have := h.dep; show A.depth < 1000; omega
theorem Rm.units {A : Around} {n : Nat} (h : Rm A n) : A.units < cLine := by
  have := h.uni; show A.units < 9900; omega

/-- what the base heap (as the law's call finds it, the two code tables hidden) bears -/
structure Bs (w : World) (g : Heap) : Prop where
  kk : (KK w.params).In g
  lim : g.NoLimit
  glob : ∃ mg mb, g.Ns mainGlobals mg ∧ g.Ns builtinsNs mb ∧ (∀ x : PySem.Str, x ≠ "__name__" → mb x = bootBuiltins x) ∧
    ∃ bm ob, mg "__builtins__" = some (.ref bm) ∧ bm ≠ builtinsNs ∧ g.get? bm = some ob ∧ ob.cls = .type "module" ∧ ob.dict = some builtinsNs ∧ ob.data = .plain
  tabs : g.get? 140 = none ∧ g.get? 147 = none

/-- the code tables stand -/
structure Tb (h : Heap) : Prop where
  a : ∃ vs, h.IsCode 144 140 vs ∧ h.TableAt 144 140 vs
  b : ∃ vs, h.IsCode 151 147 vs ∧ h.TableAt 151 147 vs

/-- all of the heap but X is kept; nothing else of the state turns that matters -/
structure Up (X : List Addr) (s s' : Shared) : Prop where
  keep : ∀ b o, b ∉ X → s.heap.get? b = some o → s'.heap.get? b = some o
  gens : AllBare s.gens → AllBare s'.gens
  os : s'.os = s.os
theorem Up.refl (X : List Addr) (s : Shared) : Up X s s := ⟨fun _ _ _ e => e, id, rfl⟩
theorem Up.trans {X : List Addr} {s s' s'' : Shared} (a : Up X s s') (b : Up X s' s'') : Up X s s'' :=
  ⟨fun x o n e => b.keep x o n (a.keep x o n e), fun h => b.gens (a.gens h), b.os.trans a.os⟩
theorem Up.mono {X Y : List Addr} {s s' : Shared} (a : Up X s s') (h : ∀ x ∈ X, x ∈ Y) : Up Y s s' :=
  ⟨fun x o n e => a.keep x o (fun q => n (h x q)) e, a.gens, a.os⟩

/-- the frame at hand: the names; what was there at e but the frame itself stands -/
structure Fw (g e : Heap) (L : Addr) (h : Heap) (m : PySem.Str → Option Value) : Prop where
  ns : h.Ns L m
  base : ∀ b o, g.get? b = some o → h.get? b = some o
  new : g.get? L = none
  ext : ∀ b o, b ≠ L → e.get? b = some o → h.get? b = some o
theorem Fw.push {g e h : Heap} {L : Addr} {m : PySem.Str → Option Value} (F : Fw g e L h m) (o : Obj) : Fw g e L (h.push o) m :=
  ⟨F.ns.push o, fun b o' q => Heap.get?_push_of_some _ (F.base b o' q), F.new, fun b o' n q => Heap.get?_push_of_some _ (F.ext b o' n q)⟩
theorem Fw.set {g e h h' : Heap} {L : Addr} {m m' : PySem.Str → Option Value} (F : Fw g e L h m) (hn : h'.Ns L m') (hs : Heap.SameBut L h h') : Fw g e L h' m' :=
  ⟨hn, fun b o q => hs.extBut b o (fun z => by rw [z, F.new] at q; cases q) (F.base b o q), F.new, fun b o n q => hs.extBut b o n (F.ext b o n q)⟩
theorem Fw.keeps {g e h h' : Heap} {L : Addr} {m : PySem.Str → Option Value} (F : Fw g e L h m) (k : ∀ b o, h.get? b = some o → h'.get? b = some o) : Fw g e L h' m :=
  ⟨F.ns.keeps k, fun b o q => k b o (F.base b o q), F.new, fun b o n q => k b o (F.ext b o n q)⟩
/-- begin anew at the heap at hand -/
theorem Fw.now {g e h : Heap} {L : Addr} {m : PySem.Str → Option Value} (F : Fw g e L h m) : Fw g h L h m := ⟨F.ns, F.base, F.new, fun _ _ _ q => q⟩
/-- over a call that turns X -/
theorem Fw.up {g e h h' : Heap} {L : Addr} {m : PySem.Str → Option Value} {X : List Addr} (F : Fw g e L h m) (k : ∀ b o, b ∉ X → h.get? b = some o → h'.get? b = some o) (hL : L ∉ X) (hX : ∀ x ∈ X, g.get? x = none) : Fw g h' L h' m := by
  refine ⟨?_, fun b o q => k b o (fun z => by rw [hX b z] at q; cases q) (F.base b o q), F.new, fun _ _ _ q => q⟩
  obtain ⟨o, es, ep, ho, r⟩ := F.ns
  exact ⟨o, es, ep, k _ _ hL ho, r⟩
theorem Fw.lt {g e h : Heap} {L : Addr} {m : PySem.Str → Option Value} (F : Fw g e L h m) : L < h.objs.size := F.ns.lt
theorem Bs.at {w : World} {g h : Heap} (B : Bs w g) (k : ∀ b o, g.get? b = some o → h.get? b = some o) : (KK w.params).In h := B.kk.keeps k

section
variable {M : Model} {A : Around} {E : Value → Shared → Prop} {s : Shared} {g e : Heap} {m : PySem.Str → Option Value} {env : Env}

theorem lv {x : PySem.Str} {v : Value} {L : Addr} {pos : Pos} {Q : Value → Shared → Prop} (F : Fw g e L s.heap m) (hL : env.locals = L) (hk : env.scope.kind = .function) (hl : env.kindOf x = some .local) (hv : m x = some v) (h : Q v s)
    (hd : (x == ("__debug__" : PySem.Str)) = false := by decide) :
    wpAny M A (eval (.Name x pos) env) Q E s := wpAny_Name (wpAny_loadName_local hk hl (hL ▸ F.ns) hv h) hd
theorem sv {x : PySem.Str} {v : Value} {L : Addr} {Q : Unit → Shared → Prop} (F : Fw g e L s.heap m) (hL : env.locals = L) (hk : env.scope.kind = .function) (hl : env.kindOf x = some .local)
    (h : ∀ h', Fw g e L h' (fun y => if y = x then some v else m y) → (∀ b o, b ≠ L → s.heap.get? b = some o → h'.get? b = some o) → Q () { s with heap := h', toks := s.toks + 1 }) :
    wpAny M A (storeName env x v) Q E s := by
  subst hL
  exact wpAny_storeName_local hl F.ns (fun h' hn hs => h h' (F.set hn hs) fun b o nb q => hs.extBut b o nb q) (by rw [hk]; rfl)
end
end Mine
open PySem PySem.W PyProof.Rows PySem.Calls PySem.Spec
set_option Elab.async false
set_option maxRecDepth 100000
namespace Mine

/-- what is asked of a def to enter it -/
structure FnOk (P : Params) (f : Addr) : Prop where
  look : (KK P).lookup f = some ⟨.type "function", none, .func (fdAt P f), #[]⟩
  code : codeIn (KK P) (fdAt P f).code (fdAt P f).qualname = true
  body : (fdAt P f).body = .stmts (bodyAt P f)
  cell : ((fdAt P f).scope.names.all fun x => x.2 != .cell) = true
  co : (fdAt P f).scope.isCoroutine = false
  gen : (fdAt P f).scope.isGenerator = false
  kind : (fdAt P f).scope.kind = .function
section
variable {w : World} {A : Around} {E : Value → Shared → Prop} {s : Shared} {g e : Heap} {m : PySem.Str → Option Value} {env : Env}

/-- a plain def of the text is entered -/
theorem enterB {n : Nat} {R : Result → Shared → Prop} {f : Addr} {args : Args} {binds : List (PySem.Str × Value)}
    (fn : FnOk w.params f) (B : Bs w g) (kb : ∀ b o, g.get? b = some o → s.heap.get? b = some o) (rm : Rm A (n + 1)) (hb : BindsTo s (fdAt w.params f) args binds)
    (hloc : (binds.all fun x => decide ((fdAt w.params f).scope.names.lookup x.1 = some .local)) = true)
    (h : ∀ h₁ L, L = s.heap.objs.size → Fw g s.heap L h₁ (fun y => binds.reverse.lookup y) → (∀ b o, s.heap.get? b = some o → h₁.get? b = some o) → Rm (A.deeper (callEnv (fdAt w.params f) L f)) n →
      wpAny (model prog w) (A.deeper (callEnv (fdAt w.params f) L f)) (execs (bodyAt w.params f) (callEnv (fdAt w.params f) L f)) (fun fl s' => R (.ok (.ret (match fl with | .ret v => v | _ => .none))) s') (fun _ _ => False) { s with heap := h₁, toks := s.toks + binds.length }) :
    codeAny (model prog w) A (.call (.ref f) args) R s := by
  refine codeAny_call_def rm.room (kb _ _ (B.kk _ _ fn.look)) rfl (B.lim.keeps kb) (codeRec_of (B.kk.keeps kb) fn.code) fn.body @hb (fun x hx => by have := List.all_eq_true.mp fn.cell x hx; intro q; rw [q] at this; exact absurd this (by decide)) (locs hloc) (fun h₁ hns hk₁ => ?_) fn.co fn.gen fn.kind
  refine wpAny_mono (h h₁ _ rfl ⟨hns, fun b o q => hk₁ b o (kb b o q), ?_, fun b o _ q => hk₁ b o q⟩ hk₁ (rm.deeper _)) (fun _ _ x => x) (fun _ _ x => x.elim)
  cases q : g.get? s.heap.objs.size with
  | none => rfl
  | some o => exact absurd (Heap.lt_size (kb _ _ q)) (Nat.lt_irrefl _)
theorem enter {n : Nat} {R : Result → Shared → Prop} {f : Addr} {args : Args} {binds : List (PySem.Str × Value)}
    (fn : FnOk w.params f) (B : Bs w g) (kb : ∀ b o, g.get? b = some o → s.heap.get? b = some o) (rm : Rm A (n + 1)) (hb : bindArgs (fdAt w.params f) args = pure binds)
    (hloc : (binds.all fun x => decide ((fdAt w.params f).scope.names.lookup x.1 = some .local)) = true)
    (h : ∀ h₁ L, L = s.heap.objs.size → Fw g s.heap L h₁ (fun y => binds.reverse.lookup y) → (∀ b o, s.heap.get? b = some o → h₁.get? b = some o) → Rm (A.deeper (callEnv (fdAt w.params f) L f)) n →
      wpAny (model prog w) (A.deeper (callEnv (fdAt w.params f) L f)) (execs (bodyAt w.params f) (callEnv (fdAt w.params f) L f)) (fun fl s' => R (.ok (.ret (match fl with | .ret v => v | _ => .none))) s') (fun _ _ => False) { s with heap := h₁, toks := s.toks + binds.length }) :
    codeAny (model prog w) A (.call (.ref f) args) R s := enterB fn B kb rm (@BindsTo.of_eq _ _ _ _ hb) hloc h
theorem gv {x : PySem.Str} {v : Value} {L : Addr} {pos : Pos} {Q : Value → Shared → Prop} (B : Bs w g) (F : Fw g e L s.heap m) (he : nsIn (KK w.params) mainGlobals x = some (some v)) (hk : env.scope.kind = .function) (hx : env.kindOf x = some .globalImplicit)
    (hg : env.globals = mainGlobals) (h : Q v s) (hd : (x == ("__debug__" : PySem.Str)) = false := by decide) : wpAny (model prog w) A (eval (.Name x pos) env) Q E s := by
  obtain ⟨mg, mb, h1, h2, h3, _⟩ := B.glob
  exact Name_function_global hk hx (loadGlobal_global (hg ▸ h1.keeps F.base) (mg_of B.kk h1 he) h) hd
theorem bv {x : PySem.Str} {v : Value} {L : Addr} {pos : Pos} {Q : Value → Shared → Prop} (B : Bs w g) (F : Fw g e L s.heap m) (he : nsIn (KK w.params) mainGlobals x = some none) (hv : bootBuiltins x = some v) (hk : env.scope.kind = .function) (hx : env.kindOf x = some .globalImplicit)
    (hg : env.globals = mainGlobals) (hb : env.builtins = builtinsNs) (h : Q v s) (hn : x ≠ "__name__" := by decide) (hd : (x == ("__debug__" : PySem.Str)) = false := by decide) : wpAny (model prog w) A (eval (.Name x pos) env) Q E s := by
  obtain ⟨mg, mb, h1, h2, h3, _⟩ := B.glob
  exact Name_function_global hk hx (loadGlobal_builtin (hg ▸ h1.keeps F.base) (mg_none_of B.kk h1 he) (hb ▸ h2.keeps F.base) ((h3 x hn).trans hv) h) hd
end

inductive All2 {α β : Type} (R : α → β → Prop) : List α → List β → Prop where
  | nil : All2 R [] []
  | cons {a : α} {b : β} {l : List α} {r : List β} : R a b → All2 R l r → All2 R (a :: l) (b :: r)
theorem All2.mono {α β : Type} {R R' : α → β → Prop} {l : List α} {r : List β} (h : All2 R l r) (k : ∀ a b, R a b → R' a b) : All2 R' l r := by
  induction h with
  | nil => exact .nil
  | cons x _ ih => exact .cons (k _ _ x) ih
theorem All2.length {α β : Type} {R : α → β → Prop} {l : List α} {r : List β} (h : All2 R l r) : l.length = r.length := by
  induction h with
  | nil => rfl
  | cons _ _ ih => simp [ih]
theorem All2.append {α β : Type} {R : α → β → Prop} {l l' : List α} {r r' : List β} (h : All2 R l r) (h' : All2 R l' r') : All2 R (l ++ l') (r ++ r') := by
  induction h with
  | nil => exact h'
  | cons x _ ih => exact .cons x ih
theorem All2.at {α β : Type} {R : α → β → Prop} {l : List α} {r : List β} (h : All2 R l r) {i : Nat} {b : β} (e : r[i]? = some b) : ∃ a, l[i]? = some a ∧ R a b := by
  induction h generalizing i with
  | nil => cases e
  | cons x _ ih =>
    cases i with
    | zero => simp at e; subst e; exact ⟨_, rfl, x⟩
    | succ i => simp at e; obtain ⟨a, ha, hr⟩ := ih e; exact ⟨a, by simpa using ha, hr⟩

/-- a pair of texts as a tuple of the heap -/
noncomputable def TupIs (h : Heap) (v : Value) (p : PySem.Str × PySem.Str) : Prop := ∃ t ta tb n, v = .ref t ∧ h.get? t = some ⟨.type "tuple", none, .seq #[.str p.1 ta, .str p.2 tb] n, #[]⟩
theorem TupIs.ext {h h' : Heap} {v : Value} {p : PySem.Str × PySem.Str} {X : List Addr} (x : TupIs h v p) (k : ∀ b o, b ∉ X → h.get? b = some o → h'.get? b = some o)
    (hX : ∀ b ∈ X, ∀ o, h.get? b = some o → o.cls ≠ .type "tuple" ∨ ∃ es n, o.data = .dict es n) : TupIs h' v p := by
  obtain ⟨t, ta, tb, n, e, ht⟩ := x
  refine ⟨t, ta, tb, n, e, k _ _ (fun q => ?_) ht⟩
  rcases hX t q _ ht with z | ⟨es, n', z⟩
  · exact z rfl
  · cases z

abbrev accObj (dc : Addr) (items : Array Value) (n : Nat) : Obj := ⟨.ref 178, some dc, .seq items n, #[]⟩
abbrev accDict (P : Params) (k : Int) (t u : Tok) (n : Nat) : Obj := { cls := .type "dict", data := .dict #[⟨PyData.keyHash P "_initial_size", .str "_initial_size" t, .int k u⟩] n }
/-- an _Accumulator: its first size and its parts -/
structure AccAt (P : Params) (h : Heap) (c dc : Addr) (k : Int) (ps : List (PySem.Str × PySem.Str)) : Prop where
  obj : ∃ vs n, h.get? c = some (accObj dc vs.toArray n) ∧ All2 (TupIs h) vs ps
  dict : ∃ t u n, h.get? dc = some (accDict P k t u n)
theorem AccAt.ext {P : Params} {h h' : Heap} {c dc : Addr} {k : Int} {ps : List (PySem.Str × PySem.Str)} {X : List Addr} (x : AccAt P h c dc k ps) (kp : ∀ b o, b ∉ X → h.get? b = some o → h'.get? b = some o)
    (hX : ∀ b ∈ X, ∀ o, h.get? b = some o → o.cls ≠ .type "tuple" ∨ ∃ es n, o.data = .dict es n) (hc : c ∉ X) (hdc : dc ∉ X) : AccAt P h' c dc k ps := by
  obtain ⟨⟨vs, n, h1, h2⟩, t, u, n', h3⟩ := x
  exact ⟨⟨vs, n, kp _ _ hc h1, h2.mono fun a b r => r.ext kp hX⟩, t, u, n', kp _ _ hdc h3⟩

section
variable {w : World} {A : Around} {E : Value → Shared → Prop} {s : Shared} {g e : Heap} {m : PySem.Str → Option Value} {env : Env} {c dc : Addr} {items : Array Value} {n : Nat} {od : Obj}

theorem acc_inst (hc : s.heap.get? c = some (accObj dc items n)) (hd : s.heap.get? dc = some od) : PySem.W.InstAt s.heap c (accObj dc items n) 178 (some od) := ⟨hc, rfl, rfl, hd⟩

/-- a method of list's, met on an _Accumulator -/
theorem meth_bi {id : String} {name : PySem.Str} {pl : Sem Bool} {Q : Value × List Value → Shared → Prop} (X : (KK w.params).In s.heap) (I : PySem.W.InstAt s.heap c (accObj dc items n) 178 (some od))
    (hf : findIn (KK w.params) (.ref 178) name = some (some (.builtin id))) (ht : typeOf (.builtin id) = pure (.type "method_descriptor")) (hs : lookIn name od = some none) (h : Q (.builtin id, [.ref c]) s) :
    wpAny (model prog w) A (getMethod (.ref c) name pl) Q E s := by
  have hga : findIn (KK w.params) (.ref 178) "__getattribute__" = some (some (.builtin "list.__getattribute__")) := by kernel_rfl
  have hk : findIn (KK w.params) (.ref 178) "__getattr__" = some none := by kernel_rfl
  have hcan := canon_list_getattribute
  unfold getMethod specialOf
  refine wpAny_bind (wpAny_bind (I.type.here ((looks_findIn X hga).here ?_)))
  dsimp only
  rw [hcan, if_neg (by decide)]
  refine wpAny_bind (wpAny_bind (I.type.here ((looks_findIn X hk).here ?_)))
  refine wpAny_bind (wpAny_bind (I.type.here ((looks_findIn X hf).here (wpAny_bind (wpAny_of_eq ht ?_)))))
  rw [if_neg (by decide)]
  refine wpAny_bind (wpAny_loadPart I.at_ ?_)
  refine wpAny_bind (wpAny_bind (wpAny_loadPart I.dict ?_))
  rw [nsLook_of hs]
  exact wpAny_pure (wpAny_bind (wpAny_rule (wpAny_pure h)))
end
end Mine
open PySem PySem.W PyProof.Rows PySem.Calls PySem.Spec
set_option Elab.async false
set_option maxRecDepth 100000
namespace Mine
section
variable {w : World} {A : Around} {E : Value → Shared → Prop} {s : Shared} {c dc : Addr} {items : Array Value} {n : Nat} {od : Obj}

theorem acc_isList {M : Model} {Q : Bool → Shared → Prop} (X : (KK w.params).In s.heap) (I : PySem.W.InstAt s.heap c (accObj dc items n) 178 (some od)) (h : Q true s) : wpAny M A (isInstance (.ref c) (.type "list")) Q E s := by
  have hm : mroIn (KK w.params) 178 (.type "list") = some true := by kernel_rfl
  unfold isInstance
  exact wpAny_bind (I.type.here ((looks_mroIn X hm).here h))

theorem acc_check {M : Model} {id nm : String} {rest : List Value} {Q : Unit → Shared → Prop} (X : (KK w.params).In s.heap) (I : PySem.W.InstAt s.heap c (accObj dc items n) 178 (some od))
    (hsplit : splitId id = some ("list", nm)) (hk : builtinKind id = some .slot ∨ builtinKind id = some .method) (ha : argsOk id ⟨.ref c :: rest, []⟩) (h : Q () s) : wpAny M A (checkBuiltinCall id ⟨.ref c :: rest, []⟩) Q E s := by
  rcases hk with hk | hk <;>
  · simp only [checkBuiltinCall, hk, hsplit]
    refine wpAny_bind (acc_isList X I ?_)
    simp only [Bool.not_true, Bool.false_eq_true, if_false]
    cases hsig : Manifest.signature? id with
    | none => exact wpAny_pure h
    | some sig =>
      simp only [argsOk, hsig] at ha
      have h2 : Bind.checkArgs id sig ⟨.ref c :: rest, []⟩ = pure () := ha
      show wpAny M A (Bind.checkArgs id sig ⟨.ref c :: rest, []⟩) Q E s
      rw [h2]; exact wpAny_pure h

/-- a built-in of list's, called on an _Accumulator -/
theorem acc_call {id nm : String} {b : Builtin} {rest : List Value} {Q : Value → Shared → Prop} (X : (KK w.params).In s.heap) (I : PySem.W.InstAt s.heap c (accObj dc items n) 178 (some od))
    (hsplit : splitId id = some ("list", nm)) (hk : builtinKind id = some .slot ∨ builtinKind id = some .method) (hp : plainId id = true) (hb : entryFor table id = some b) (ha : argsOk id ⟨.ref c :: rest, []⟩)
    (hc : wpAny (model prog w) A.in1 (b ⟨.ref c :: rest, []⟩) (fun fin s' => ∃ v, fin = .done (.ret v) ∧ Q v s') E s) : wpAny (model prog w) A (call (.builtin id) (.ref c :: rest)) Q E s := by
  refine wpAny_call (codeAny_call_builtin hp hb (acc_check X I hsplit hk ha (wpAny_mono hc (fun fin s' h' => ?_) fun _ _ h' => h')))
  obtain ⟨v, rfl, hv⟩ := h'; exact hv

/-- list.append on an _Accumulator -/
theorem acc_append {x : Value} {Q : Value → Shared → Prop} (X : (KK w.params).In s.heap) (hc : s.heap.get? c = some (accObj dc items n)) (hd : s.heap.get? dc = some od) (hz : items.size ≤ 1000)
    (h : ∀ h' n', h'.get? c = some (accObj dc (items.push x) n') → Heap.SameBut c s.heap h' → Q .none { s with heap := h' }) : wpAny (model prog w) A (call (.builtin "list.append") [.ref c, x]) Q E s := by
  refine acc_call X (acc_inst hc hd) (nm := "append") (by decide +kernel) (.inr (by decide +kernel)) (by decide +kernel) entry_list_append (args_list_append _ _) ?_
  show wpAny _ _ (do let (self, y) ← selfAndOne "list.append" ⟨[.ref c, x], []⟩; PySem.Builtin.List.listUpdate self (·.push y); ret .none) _ _ s
  refine wpAny_bind (wpAny_pure ?_)
  have e := Heap.get?_update_self (Obj.mapSeq (·.push x)) hc rfl
  refine wpAny_bind (m := updateSeq c (·.push x)) (wpAny_updateSeq hc rfl (wpAny_pure ⟨_, rfl, h _ _ e (Heap.SameBut.update ..)⟩) (by rw [sizeLine_eq]; omega) (by rw [Array.size_push, sizeLine_eq]; omega))
end
end Mine
open PySem PySem.W PyProof.Rows PySem.Calls PySem.Spec
set_option Elab.async false
set_option maxRecDepth 100000
namespace Mine
theorem fn122 (P : Params) : FnOk P 122 := ⟨by kernel_rfl, by kernel_rfl, by kernel_rfl, by kernel_rfl, by kernel_rfl, by kernel_rfl, by kernel_rfl⟩

section
variable {w : World} {A : Around} {s : Shared} {g : Heap} {c dc : Addr} {k : Int} {ps : List (PySem.Str × PySem.Str)} {a b : PySem.Str} {ta tb : Tok} {R : Result → Shared → Prop}

theorem push_ct (B : Bs w g) (kb : ∀ b o, g.get? b = some o → s.heap.get? b = some o) (rm : Rm A 3) (ac : AccAt w.params s.heap c dc k ps) (hz : ps.length ≤ 500)
    (h : ∀ s', Up [c] s s' → AccAt w.params s'.heap c dc k (ps ++ [(a, b)]) → R (.ok (.ret .none)) s') :
    codeAny (model prog w) A (.call (.ref 122) ⟨[.ref c, .str a ta, .str b tb], []⟩) R s := by
  refine enter (binds := [("self", .ref c), ("fws", .str a ta), ("string", .str b tb)]) (fn122 _) B kb rm (by kernel_rfl) (by kernel_rfl) fun h₁ L hL F K₁ rm' => ?_
  obtain ⟨⟨vs, n, ho, hv⟩, t, u, n', hd⟩ := ac
  have hcd : c ≠ dc := fun q => by rw [q, hd] at ho; cases ho
  refine wpAny_execs_cons ?_
  refine wpAny_Expr ?_
  refine MethodCall_ ?_
  refine lv F rfl (fn122 w.params).kind rfl rfl ?_
  refine meth_bi (dc := dc) (B.at F.base) (acc_inst (K₁ _ _ ho) (K₁ _ _ hd)) (by kernel_rfl) type_list_append (by kernel_rfl) ?_
  (refine callWith_method1 ?_)
  (with_reducible refine args_cons ?_ (by with_unfolding_all rfl))
  (with_reducible refine Tuple_ ?_)
  (with_reducible refine args_cons ?_ (by with_unfolding_all rfl))
  refine lv F rfl (fn122 w.params).kind rfl rfl ?_
  with_reducible refine args_cons ?_ (by with_unfolding_all rfl)
  refine lv F rfl (fn122 w.params).kind rfl rfl ?_
  refine args_nil ?_
  unfold newTuple
  refine wpAny_newObj_type ?_
  refine args_nil ?_
  (refine acc_append (dc := dc) ((B.at F.base).keeps fun b o q => Heap.get?_push_of_some _ q) (Heap.get?_push_of_some _ (K₁ _ _ ho)) (Heap.get?_push_of_some _ (K₁ _ _ hd)) ?_ ?_)
  · have := hv.length
    rw [List.size_toArray]; omega
  intro h' n'' e hs
  refine wpAny_execs_nil ?_
  have keep : ∀ b o, b ∉ [c] → s.heap.get? b = some o → h'.get? b = some o := fun b o hb q => hs.extBut b o (by simpa using hb) (Heap.get?_push_of_some _ (K₁ _ _ q))
  refine h _ ⟨keep, fun q => q, rfl⟩ ⟨⟨vs ++ [.ref h₁.objs.size], n'', by simpa using e, ?_⟩, t, u, n', keep _ _ (by simpa using Ne.symm hcd) hd⟩
  refine All2.append (hv.mono fun v p r => r.ext keep fun b hb o q => ?_) (.cons ⟨h₁.objs.size, ta, tb, 0, rfl, hs.extBut _ _ (Nat.ne_of_gt (Heap.lt_size (K₁ _ _ ho))) (Heap.get?_push_size _ rfl)⟩ .nil)
  have hb : b = c := by simpa using hb
  subst hb
  rw [ho] at q; cases q
  exact .inl (fun z => by cases z)
end
end Mine
open PySem PySem.W PyProof.Rows PySem.Calls PySem.Spec
set_option Elab.async false
set_option maxRecDepth 100000
namespace Mine
section
variable {w : World} {A : Around} {E : Value → Shared → Prop} {s : Shared} {c dc : Addr} {items : Array Value} {n : Nat} {od : Obj}

theorem acc_get {name : PySem.Str} {v : Value} {expr : Bool} {Q : Value → Shared → Prop} (X : (KK w.params).In s.heap) (hc : s.heap.get? c = some (accObj dc items n)) (hd : s.heap.get? dc = some od)
    (hf : findObj (KK w.params) 178 (some od) name = some (.value v)) (hv : handedIn v = true) (h : Q v { s with toks := s.toks + 1 }) : wpAny (model prog w) A (getAttr (.ref c) name expr) Q E s := by
  obtain ⟨hp, g, d, tk, os⟩ := s
  have hga : findIn (KK w.params) (.ref 178) "__getattribute__" = some (some (.builtin "list.__getattribute__")) := by kernel_rfl
  have hk : findIn (KK w.params) (.ref 178) "__getattr__" = some none := by kernel_rfl
  have I : PySem.W.InstAt hp c (accObj dc items n) 178 (some od) := acc_inst (s := ⟨hp, g, d, tk, os⟩) hc hd
  have L0 := I.type (M := model prog w)
  have L1 := looks_findIn (M := model prog w) X hga
  have L2 := looks_findIn (M := model prog w) X hk
  unfold getAttr getAttrBy
  refine wpAny_bind (wpAny_mkText (wpAny_holding ?_))
  refine wpAny_bind (L0.at (wpAny_bind (L1.at ?_)))
  show wpAny _ _ (getAttrByItsOwn _ _ _ _ _ _) _ _ _
  unfold getAttrByItsOwn hookBefore
  refine wpAny_bind ?_
  show wpAny _ _ (typeLookup (.ref 178) "__getattr__") _ _ _
  refine L2.at ?_
  refine wpAny_bind (wpAny_attempt (wpAny_holding ?_))
  have hcg : callGetattribute (.ref c) (.str name tk) (.builtin "list.__getattribute__") expr = boundAndCalled (.builtin "list.__getattribute__") (.ref c) (.str name tk) := by cases expr <;> rfl
  rw [hcg]
  unfold boundAndCalled
  rw [F.slot_list_getattribute.bind]
  refine wpAny_bind (wpAny_pure ?_)
  refine acc_call (s := ⟨hp, g, d, tk + 1, os⟩) (rest := [.str name tk]) X I (nm := "__getattribute__") (by decide +kernel) (.inl (by decide +kernel)) (by decide +kernel) am_entry_list_getattribute (F.args_list_getattribute_2 _ _) ?_
  have L3 := looks_find (M := model prog w) X I hf
  unfold Builtin.«object.__getattribute__»
  refine wpAny_bind (wpAny_pure ?_)
  refine wpAny_bind (wpAny_pure ?_)
  refine wpAny_bind (L0.at (wpAny_bind (L3.at ?_)))
  refine wpAny_pure ⟨_, rfl, ?_⟩
  show wpAny _ _ (handedOut v) _ _ _
  rw [handedOut_of hv]
  exact wpAny_pure h
end
end Mine
open PySem PySem.W PyProof.Rows PySem.Calls PySem.Spec
set_option Elab.async false
set_option maxRecDepth 100000
namespace Mine
section
variable {w : World} {A : Around} {E : Value → Shared → Prop} {s : Shared} {c dc : Addr} {items : Array Value} {n : Nat} {od : Obj}

theorem refuse_acc : refuseLoop (.ref c) "__setattr__" [.ref 178, .type "list", .type "object"] = pure () := by kernel_rfl
theorem sa178 (P : Params) : findIn (KK P) (.ref 178) "__setattr__" = some (some (.builtin "object.__setattr__")) := by kernel_rfl
noncomputable def cd178 (P : Params) : ClassData := (clsIn (KK P) 178).getD default
theorem cls178 (P : Params) : clsIn (KK P) 178 = some (cd178 P) := by kernel_rfl
theorem mro178 (P : Params) : (cd178 P).mro = [.ref 178, .type "list", .type "object"] := by kernel_rfl
theorem dict178 (P : Params) : (cd178 P).hasDict = true := by kernel_rfl

theorem acc_set {name : PySem.Str} {v : Value} {od' : Obj} {es : List DictEntry} {n' : Nat} {Q : Unit → Shared → Prop} (X : (KK w.params).In s.heap) (hc : s.heap.get? c = some (accObj dc items n)) (hd : s.heap.get? dc = some od)
    (ht : takerIn (KK w.params) 178 name = some none) (hl : (lookIn name od).isSome = true)
    (e : Obj.putName name (PyData.keyHash w.params name) (.str name (s.toks + 1)) v od = od') (e' : od'.data = .dict es.toArray n') (hz : es.length ≤ 1000)
    (h : ∀ h', h'.get? dc = some od' → Heap.SameBut dc s.heap h' → Q () { s with heap := h', toks := s.toks + 2 }) : wpAny (model prog w) A (setAttr (.ref c) name v) Q E s := by
  have I := acc_inst hc hd
  refine set_plain X I (sa178 _) ?_
  have SF := PySem.F.store_object
  have hcl := cls178 w.params
  have hmro := mro178 w.params
  have hdict := dict178 w.params
  have sub : Looks (model prog w) s.heap (isInstance (.ref c) (.type "object")) true := I.type.andThen (looks_mroIn X (by unfold mroIn; rw [hcl, Option.bind_some, hmro]; rfl))
  refine codeAny_call_builtin SF.slot.plain SF.entry (@check_slot (model prog w) _ _ { s with toks := s.toks + 1 } "object.__setattr__" "object" "__setattr__" (.ref c) [.str name s.toks, v] [] _ SF.kind SF.split sub (SF.args (.ref c) (.str name s.toks) v) ?_)
  obtain ⟨attr, ha, hr⟩ := Option.bind_eq_some_iff.mp ht
  have hm : Looks (model prog w) s.heap (mroOf (.ref 178)) (cd178 w.params).mro := (looks_clsIn X hcl).andThen .now
  have L3 : Looks (model prog w) s.heap (Builtin.ObjectAttr.storeTaker? attr) none := by
    cases attr with
    | none => exact .now
    | some a =>
      obtain ⟨b, hb, hbn⟩ := Option.map_eq_some_iff.mp hr
      cases b with
      | true => cases hbn
      | false => exact (looks_takesIn X hb).andThen .now
  rw [osa_eq, refuse_eq]
  refine wpAny_bind (wpAny_bind (I.type.here (s := { s with toks := s.toks + 1 }) (wpAny_bind (hm.here (s := { s with toks := s.toks + 1 }) ?_))))
  rw [hmro, refuse_acc]
  refine wpAny_pure (wpAny_bind (I.type.here (s := { s with toks := s.toks + 1 }) (wpAny_bind ((looks_findIn X ha).here (s := { s with toks := s.toks + 1 }) (wpAny_bind (L3.here (s := { s with toks := s.toks + 1 }) ?_))))))
  refine wpAny_bind (wpAny_pure (wpAny_bind (wpAny_bind (wpAny_loadPart (s := { s with toks := s.toks + 1 }) hc (wpAny_bind ((looks_clsIn X hcl).here (s := { s with toks := s.toks + 1 }) ?_))))))
  rw [hdict]
  refine wpAny_pure (a := some dc) (wpAny_bind (wpAny_pure (wpAny_bind ?_)))
  unfold nsSet
  refine wpAny_bind (wpAny_bind (wpAny_askSetting (wpAny_pure (wpAny_bind (wpAny_mkText (wpAny_bind (wpAny_loadPart hd ?_)))))))
  have hf : od'.isFreed = false := by obtain ⟨_, _, dd, _⟩ := od'; cases e'; rfl
  have D' : (s.heap.update dc (Obj.putName name (PyData.keyHash w.params name) (.str name (s.toks + 1)) v)).get? dc = some od' := by
    rw [Heap.get?_update_self _ hd (by rw [e]; exact hf), e]
  unfold lookIn at hl
  split at hl
  · rename_i es₀ n₀ q
    rw [q]
    dsimp only
    have c : (!es₀.any (·.key.isStr name) && es₀.any (·.refKey)) = false := by
      rw [← Array.any_toList, ← Array.any_toList]
      split at hl
      · rename_i en he
        rw [List.any_eq_true.mpr ⟨en, List.mem_of_find?_eq_some he, List.find?_some he⟩]; rfl
      · split at hl
        · cases hl
        · rename_i z; rw [Bool.not_eq_true] at z; rw [z, Bool.and_false]
    rw [aRefKeyMayBeTheName_at, c]
    refine wpAny_updatePart hd ?_
    refine wpAny_bind (wpAny_lookBehind D' (by rw [e']; exact pastItsLine_dict (by rw [List.size_toArray, sizeLine_eq]; omega)) ?_)
    exact wpAny_pure (h _ D' (Heap.SameBut.update ..))
  · cases hl
end
end Mine
open PySem PySem.W PyProof.Rows PySem.Calls PySem.Spec
set_option Elab.async false
set_option maxRecDepth 100000
namespace Mine
section
variable {w : World} {A : Around} {E : Value → Shared → Prop} {s : Shared} {c dc : Addr} {items : Array Value} {n : Nat} {od : Obj}

theorem acc_special {name : PySem.Str} {id : String} {args : List Value} {Q : Option Value → Shared → Prop} (X : (KK w.params).In s.heap) (I : PySem.W.InstAt s.heap c (accObj dc items n) 178 (some od))
    (hf : findIn (KK w.params) (.ref 178) name = some (some (.builtin id))) (hb : ∀ self, bindSpecial (.builtin id) self = pure (.builtin id, [self]))
    (h : wpAny (model prog w) A (call (.builtin id) (.ref c :: args)) (fun v => Q (some v)) E s) : wpAny (model prog w) A (callSpecial? (.ref c) name args) Q E s := by
  unfold callSpecial? specialOf
  refine wpAny_bind (wpAny_bind (I.type.here ((looks_findIn X hf).here ?_)))
  refine wpAny_holding ?_
  rw [hb]
  exact wpAny_bind (wpAny_pure (wpAny_bind (wpAny_mono h (fun _ _ z => wpAny_pure z) fun _ _ z => z)))

theorem acc_seqKey {name : PySem.Str} {i : Value} {Q : Value → Shared → Prop} (X : (KK w.params).In s.heap) (I : PySem.W.InstAt s.heap c (accObj dc items n) 178 (some od)) (h : Q i s) :
    wpAny (model prog w) A (sequenceKey (.ref c) i name) Q E s := by
  have hq : noSeq (KK w.params) 178 = true := by kernel_rfl
  unfold sequenceKey
  refine wpAny_bind (I.type.here ?_)
  refine wpAny_bind ((anyM_none X hq).here ?_)
  rw [if_pos (show (!false) = true from rfl)]
  exact wpAny_pure h

theorem acc_slot {id nm : String} {b : Builtin} {name : PySem.Str} {rest : List Value} {Q : Option Value → Shared → Prop} (X : (KK w.params).In s.heap) (I : PySem.W.InstAt s.heap c (accObj dc items n) 178 (some od))
    (hf : findIn (KK w.params) (.ref 178) name = some (some (.builtin id))) (hb' : ∀ self, bindSpecial (.builtin id) self = pure (.builtin id, [self]))
    (hsplit : splitId id = some ("list", nm)) (hk : builtinKind id = some .slot ∨ builtinKind id = some .method) (hp : plainId id = true) (hb : entryFor table id = some b) (ha : argsOk id ⟨.ref c :: rest, []⟩)
    (hc : wpAny (model prog w) A.in1 (b ⟨.ref c :: rest, []⟩) (fun fin s' => ∃ v, fin = .done (.ret v) ∧ Q (some v) s') E s) : wpAny (model prog w) A (callSpecial? (.ref c) name rest) Q E s :=
  acc_special X I hf hb' (acc_call X I hsplit hk hp hb ha hc)

theorem slice_parts {M : Model} {sl : Addr} {vl vu vs : Value} {lo hi st : Option Int} {Q : Value × Value × Value → Shared → Prop} (hs : s.heap.IsSliceOf sl vl vu vs) (pl : IsPart vl lo) (pu : IsPart vu hi) (ps : IsPart vs st) (h0 : st ≠ some 0)
    (h : Q (rawPart lo, rawPart hi, rawPart st) s) : wpAny M A (Builtin.List.listSliceParts (.ref sl)) Q E s := by
  obtain ⟨os, hos, hcs, hds⟩ := hs
  rw [listSliceParts_eq]
  have hstep : ¬ ((rawPart st == rawInt 0) = true) := by
    cases st with
    | none => exact Bool.false_ne_true
    | some c =>
      intro hh
      have : c = 0 := by simpa [rawPart, rawInt] using hh
      exact h0 (by rw [this])
  refine wpAny_bind (wpAny_field hos hds (x := vs) rfl (wpAny_bind (wpAny_listPart ps ?_)))
  rw [if_neg hstep]
  refine wpAny_bind (wpAny_field hos hds (x := vl) rfl (wpAny_bind (wpAny_listPart pl ?_)))
  exact wpAny_bind (wpAny_field hos hds (x := vu) rfl (wpAny_bind (wpAny_listPart pu (wpAny_pure h))))

theorem noIdx {M : Model} {sl : Addr} {Q : Option Int → Shared → Prop} (hT : s.TypeIs (.ref sl) "slice") (h : Q none s) : wpAny M A (Builtin.List.listSubscript? (.ref sl)) Q E s := by
  unfold Builtin.List.listSubscript?
  refine wpAny_bind (wpAny_specialOf hT slice_no_index ?_)
  simp only [Option.isNone_none, if_true]
  exact wpAny_pure h

/-- acc[lo:hi] -/
theorem acc_getSlice {sl : Addr} {vl vu : Value} {lo hi : Option Int} {Q : Value → Shared → Prop} (X : (KK w.params).In s.heap) (hc : s.heap.get? c = some (accObj dc items n)) (hd : s.heap.get? dc = some od)
    (hs : s.heap.IsSliceOf sl vl vu .none) (pl : IsPart vl lo) (pu : IsPart vu hi) (hz : items.size ≤ 1000)
    (h : Q (.ref s.heap.objs.size) { s with heap := s.heap.push { cls := .type "list", data := .seq (slicePick items lo hi none) } }) : wpAny (model prog w) A (getItem (.ref c) (.ref sl)) Q E s := by
  have I := acc_inst hc hd
  have hT : s.TypeIs (.ref sl) "slice" := let ⟨os, a, b, _⟩ := hs; ⟨os, a, b⟩
  unfold getItem
  refine wpAny_holding (wpAny_bind (acc_seqKey X I ?_))
  refine wpAny_bind (acc_slot (nm := "__getitem__") X I (by kernel_rfl) slot_list_getitem.bind (by decide +kernel) (.inr (by decide +kernel)) (by decide +kernel) entry_list_getitem (args_list_getitem _ _) ?_)
  show wpAny _ _ (Builtin.List.listSubscript? (.ref sl) >>= _) _ _ s
  refine wpAny_bind (noIdx hT ?_)
  show wpAny _ _ (typeOf (.ref sl) >>= _) _ _ s
  refine wpAny_bind (wpAny_typeOf hT ?_)
  rw [if_neg (by decide)]
  refine wpAny_bind (slice_parts hs pl pu .none (by simp) ?_)
  refine wpAny_bind (m := Builtin.List.listItems (.ref c)) ?_
  unfold Builtin.List.listItems
  refine wpAny_bind (wpAny_seqItems hc rfl (wpAny_pure ?_))
  refine wpAny_bind (wpAny_of_eq (sliceIndices_raw lo hi none items.size (by simp)) ?_)
  exact wpAny_bind (wpAny_newObj_type (wpAny_pure ⟨_, rfl, wpAny_pure h⟩) (Nat.le_trans (slicePick_size_le items lo hi none) (by rw [sizeLine_eq]; omega)))

/-- acc[i] -/
theorem acc_getInt {i : Int} {t : Tok} {x : Value} {Q : Value → Shared → Prop} (X : (KK w.params).In s.heap) (hc : s.heap.get? c = some (accObj dc items n)) (hd : s.heap.get? dc = some od)
    (h0 : 0 ≤ i) (hfit : i < 2 ^ 63) (hx : items[i.toNat]? = some x) (h : Q x s) : wpAny (model prog w) A (getItem (.ref c) (.int i t)) Q E s := by
  have I := acc_inst hc hd
  unfold getItem
  refine wpAny_holding (wpAny_bind (acc_seqKey X I ?_))
  refine wpAny_bind (acc_slot (nm := "__getitem__") X I (by kernel_rfl) slot_list_getitem.bind (by decide +kernel) (.inr (by decide +kernel)) (by decide +kernel) entry_list_getitem (args_list_getitem _ _) ?_)
  show wpAny _ _ (Builtin.List.listSubscript? (.int i t) >>= _) _ _ s
  refine wpAny_bind (wpAny_listSubscript_int (fitsIndex_of h0 hfit) ?_)
  clear hfit
  obtain ⟨j, rfl⟩ := Int.eq_ofNat_of_zero_le h0
  have hx' : items[j]? = some x := hx
  show wpAny _ _ ((seqItemAt c j >>= fun r => pure (r.map (j, ·))) >>= _) _ _ s
  refine wpAny_bind (wpAny_bind (wpAny_seqItemAt hc rfl (wpAny_pure ?_)))
  rw [hx']
  exact wpAny_pure ⟨x, rfl, wpAny_pure h⟩

/-- acc[lo:] = new, new a plain list -/
theorem acc_setSlice {sl l : Addr} {vl : Value} {lo : Option Int} {new : Array Value} {Q : Unit → Shared → Prop} (X : (KK w.params).In s.heap) (hc : s.heap.get? c = some (accObj dc items n)) (hd : s.heap.get? dc = some od)
    (hs : s.heap.IsSliceOf sl vl .none .none) (pl : IsPart vl lo) (hl : s.heap.IsList l new) (hlc : l ≠ c) (hz : items.size ≤ 1000) (hz' : new.size ≤ 1000)
    (h : ∀ h' n', h'.get? c = some (accObj dc (items.extract 0 (sliceBounds lo none none items.size).1.toNat ++ new ++ items.extract (max (sliceBounds lo none none items.size).1 (items.size : Int)).toNat items.size) n') → Heap.SameBut c s.heap h' → Q () { s with heap := h' }) :
    wpAny (model prog w) A (setItem (.ref c) (.ref sl) (.ref l)) Q E s := by
  have I := acc_inst hc hd
  have hT : s.TypeIs (.ref sl) "slice" := let ⟨os, a, b, _⟩ := hs; ⟨os, a, b⟩
  unfold setItem
  refine wpAny_holding (wpAny_bind (acc_seqKey X I ?_))
  refine wpAny_bind (acc_slot (nm := "__setitem__") X I (by kernel_rfl) slot_list_setitem.bind (by decide +kernel) (.inl (by decide +kernel)) (by decide +kernel) entry_list_setitem (args_list_setitem _ _ _) ?_)
  show wpAny _ _ (Builtin.List.listSubscript? (.ref sl) >>= _) _ _ s
  refine wpAny_bind (noIdx hT ?_)
  show wpAny _ _ (typeOf (.ref sl) >>= _) _ _ s
  refine wpAny_bind (wpAny_typeOf hT ?_)
  rw [if_neg (by decide)]
  refine wpAny_bind (slice_parts hs pl .none .none (by simp) ?_)
  obtain ⟨ol, hol, hcl, nl, hdl⟩ := id hl
  have hns : Builtin.List.listSameRef (.ref c) (.ref l) = false := by
    show (c == l) = false
    simpa using Ne.symm hlc
  dsimp only
  rw [hns, if_neg (by decide)]
  refine wpAny_bind (m := Builtin.List.listAllItems _ _) ?_
  unfold Builtin.List.listAllItems
  refine wpAny_bind (wpAny_typeOf (T := "list") ⟨ol, hol, hcl⟩ ?_)
  rw [if_pos (by decide)]
  unfold Builtin.List.listItems
  refine wpAny_bind (wpAny_seqItems hol hdl (wpAny_pure ?_))
  refine wpAny_bind (wpAny_bind (wpAny_seqItems hc rfl (wpAny_pure ?_)))
  refine wpAny_bind (wpAny_of_eq (sliceIndices_raw lo none none items.size (by simp)) ?_)
  show wpAny _ _ (if ((1 : Int) == 1) = true then _ else _) _ _ _
  rw [if_pos (by decide)]
  refine wpAny_bind (wpAny_rule ?_)
  have hlong : Builtin.List.listTooLong (items.size + new.size) = false := by
    unfold Builtin.List.listTooLong
    rw [sizeLine_eq]
    exact decide_eq_false (by omega)
  rw [hlong, if_neg (by decide)]
  have e := Heap.get?_update_self (Obj.mapSeq fun xs => xs.extract 0 (sliceBounds lo none none items.size).1.toNat ++ new ++ xs.extract (max (sliceBounds lo none none items.size).1 (items.size : Int)).toNat xs.size) hc rfl
  refine wpAny_bind (m := updateSeq c _) (wpAny_updateSeq hc rfl (wpAny_bind (wpAny_letGo (wpAny_pure ⟨_, rfl, wpAny_pure (h _ _ e (Heap.SameBut.update ..))⟩))) (by rw [sizeLine_eq]; omega) (by simp only [Array.size_append, Array.size_extract]; rw [sizeLine_eq]; omega))
end
end Mine
open PySem PySem.W PyProof.Rows PySem.Calls PySem.Spec
set_option Elab.async false
set_option maxRecDepth 100000
set_option maxHeartbeats 1000000
namespace Mine
theorem fn160 (P : Params) : FnOk P 160 := ⟨by kernel_rfl, by kernel_rfl, by kernel_rfl, by kernel_rfl, by kernel_rfl, by kernel_rfl, by kernel_rfl⟩
theorem bd160 (P : Params) {s : Shared} (X : (KK P).In s.heap) (c : Addr) (v : Value) : BindsTo s (fdAt P 160) ⟨[.ref c, v], []⟩ [("self", .ref c), ("startval", v)] := by
  have hd : (fdAt P 160).defaults = .ref 153 := by kernel_rfl
  exact @binds_K s (KK P) (fdAt P 160) ⟨[.ref c, v], []⟩ [("self", .ref c), ("startval", v)] 153 ⟨.type "tuple", none, .seq #[.none] 0, #[]⟩ #[.none] 0 _ X hd (by kernel_rfl) rfl rfl (by kernel_rfl)
theorem bd160' (P : Params) {s : Shared} (X : (KK P).In s.heap) (c : Addr) : BindsTo s (fdAt P 160) ⟨[.ref c], []⟩ [("self", .ref c), ("startval", .none)] := by
  have hd : (fdAt P 160).defaults = .ref 153 := by kernel_rfl
  exact @binds_K s (KK P) (fdAt P 160) ⟨[.ref c], []⟩ [("self", .ref c), ("startval", .none)] 153 ⟨.type "tuple", none, .seq #[.none] 0, #[]⟩ #[.none] 0 _ X hd (by kernel_rfl) rfl rfl (by kernel_rfl)

theorem slice_all {items new : Array Value} : items.extract 0 (sliceBounds none none none items.size).1.toNat ++ new ++ items.extract (max (sliceBounds none none none items.size).1 (items.size : Int)).toNat items.size = new := by
  have h1 : (sliceBounds none none none items.size).1 = 0 := rfl
  have h2 : (max (0 : Int) (items.size : Int)).toNat = items.size := by omega
  rw [h1, h2]
  simp

section
variable {w : World} {A : Around} {s : Shared} {g e : Heap} {c dc l L : Addr} {k : Int} {m : PySem.Str → Option Value} {items : Array Value} {n : Nat} {vs : Array Value} {t u : Tok} {n' : Nat} {E : Value → Shared → Prop}

theorem reset_core {Q : Flow → Shared → Prop} (B : Bs w g) (F : Fw g e L s.heap m) (hm1 : m "self" = some (.ref c)) (hm2 : m "startval" = some (.ref l))
    (ho : s.heap.get? c = some (accObj dc items n)) (hd : s.heap.get? dc = some (accDict w.params k t u n')) (hl : s.heap.IsList l vs) (hlc : l ≠ c) (hz : items.size ≤ 1000) (hz' : vs.size ≤ 1000) (hcL : c ≠ L) (hdL : dc ≠ L) (hgc : g.get? c = none) (hgd : g.get? dc = none)
    (h : ∀ h' n₁ n₂ u' t', h'.get? c = some (accObj dc vs n₁) → h'.get? dc = some (accDict w.params 0 t u' n₂) → (∀ b o, b ≠ c → b ≠ dc → s.heap.get? b = some o → h'.get? b = some o) → Q .next { s with heap := h', toks := t' }) :
    wpAny (model prog w) A (execs (bodyAt w.params 160).tail (callEnv (fdAt w.params 160) L 160)) Q E s := by
  have hcd : c ≠ dc := fun q => by rw [q, hd] at ho; cases ho
  refine wpAny_execs_cons ?_
  (refine wpAny_Assign_Subscript ?_)
  refine lv F rfl (fn160 w.params).kind rfl hm2 ?_
  refine lv F rfl (fn160 w.params).kind rfl hm1 ?_
  (with_reducible refine wpAny_Slice ?_)
  refine evalPart_none_step (evalPart_none_step (evalPart_none_step ?_))
  have up : ∀ b o, s.heap.get? b = some o → (s.heap.push { cls := .type "slice", data := .fields #[.none, .none, .none] }).get? b = some o := fun b o q => Heap.get?_push_of_some _ q
  obtain ⟨ol, hol, r⟩ := id hl
  (refine acc_setSlice (dc := dc) (lo := none) ((B.at F.base).keeps up) (up _ _ ho) (up _ _ hd) (Heap.IsSliceOf.new ..) .none ⟨ol, up _ _ hol, r⟩ hlc hz hz' ?_)
  intro h₁ n₁ e₁ s₁
  rw [slice_all] at e₁
  have F₁ : Fw g h₁ L h₁ m := (F.push _).up (X := [c]) (fun b o nb q => s₁.extBut b o (by simpa using nb) q) (by simpa using Ne.symm hcL) (by simpa using hgc)
  have d₁ := s₁.extBut _ _ (Ne.symm hcd) (up _ _ hd)
  refine wpAny_execs_cons ?_
  (refine plainObj_wpAny_Assign_Attribute ?_)
  with_reducible refine wpAny_Constant_int ?_
  refine lv F₁ rfl (fn160 w.params).kind rfl hm1 ?_
  (refine acc_set (dc := dc) (B.at F₁.base) e₁ d₁ (by kernel_rfl) (by kernel_rfl) (od' := accDict w.params 0 t s.toks n') (es := [⟨PyData.keyHash w.params "_initial_size", .str "_initial_size" t, .int 0 s.toks⟩]) (n' := n') (by kernel_rfl) rfl (Nat.le_of_ble_eq_true rfl) ?_)
  intro h₂ e₂ s₂
  refine wpAny_execs_nil ?_
  refine h _ n₁ n' s.toks _ (s₂.extBut _ _ hcd e₁) e₂ fun b o hb hb' q => s₂.extBut b o hb' (s₁.extBut b o hb (up _ _ q))
end
section
variable {w : World} {A : Around} {s : Shared} {g : Heap} {c dc l : Addr} {k : Int} {ps ps' : List (PySem.Str × PySem.Str)} {vs : List Value} {R : Result → Shared → Prop}

theorem two_ne {a b : Addr} {x : Addr} (h : x ∉ [a, b]) : x ≠ a ∧ x ≠ b := by simpa using h

/-- reset(startval), startval a list of parts -/
theorem reset_ct (B : Bs w g) (kb : ∀ b o, g.get? b = some o → s.heap.get? b = some o) (rm : Rm A 3) (ac : AccAt w.params s.heap c dc k ps) (hl : s.heap.IsList l vs.toArray) (hv : All2 (TupIs s.heap) vs ps') (hz : ps.length ≤ 500) (hz' : ps'.length ≤ 500)
    (hgc : g.get? c = none) (hgd : g.get? dc = none)
    (h : ∀ s', Up [c, dc] s s' → AccAt w.params s'.heap c dc 0 ps' → R (.ok (.ret .none)) s') :
    codeAny (model prog w) A (.call (.ref 160) ⟨[.ref c, .ref l], []⟩) R s := by
  refine enterB (fn160 w.params) B kb rm (@bd160 _ _ (B.kk.keeps kb) c (.ref l)) (by kernel_rfl) fun h₁ L hL F K₁ rm' => ?_
  obtain ⟨⟨vs₀, n, ho, hv₀⟩, t, u, n', hd⟩ := ac
  have hcd : c ≠ dc := fun q => by rw [q, hd] at ho; cases ho
  obtain ⟨ol, hol, hocl, r⟩ := id hl
  have hlc : l ≠ c := fun q => by rw [q, ho] at hol; cases hol; cases hocl
  have ltL : ∀ b o, s.heap.get? b = some o → b ≠ L := fun b o q => by rw [hL]; exact Nat.ne_of_lt (Heap.lt_size q)
  refine wpAny_execs_cons ?_
  refine wpAny_If ?_
  refine wpAny_isTrue_Compare1 ?_
  refine lv F rfl (fn160 w.params).kind rfl rfl ?_
  with_reducible refine wpAny_Constant_none ?_
  refine is_ref_none ?_
  refine wpAny_truthy_bool ?_
  rw [if_neg (by decide)]
  refine wpAny_execs_nil ?_
  (refine reset_core (dc := dc) (vs := vs.toArray) B F rfl rfl (K₁ _ _ ho) (K₁ _ _ hd) ⟨ol, K₁ _ _ hol, hocl, r⟩ hlc ?_ ?_ (ltL _ _ ho) (ltL _ _ hd) hgc hgd ?_)
  · have := hv₀.length; rw [List.size_toArray]; omega
  · have := hv.length; rw [List.size_toArray]; omega
  intro h' n₁ n₂ u' t' e₁ e₂ kp
  have keep : ∀ b o, b ∉ [c, dc] → s.heap.get? b = some o → h'.get? b = some o := fun b o nb q => kp b o (two_ne nb).1 (two_ne nb).2 (K₁ _ _ q)
  refine h _ ⟨keep, fun q => q, rfl⟩ ⟨⟨vs, n₁, e₁, hv.mono fun v p r => r.ext keep fun b hb o q => ?_⟩, t, u', n₂, e₂⟩
  rcases List.mem_cons.mp hb with rfl | hb
  · rw [ho] at q; cases q; exact .inl fun z => by cases z
  · obtain rfl := List.mem_singleton.mp hb
    rw [hd] at q; cases q; exact .inr ⟨_, _, rfl⟩
/-- reset() -/
theorem reset0_ct (B : Bs w g) (kb : ∀ b o, g.get? b = some o → s.heap.get? b = some o) (rm : Rm A 3) (ac : AccAt w.params s.heap c dc k ps) (hz : ps.length ≤ 500) (hgc : g.get? c = none) (hgd : g.get? dc = none)
    (h : ∀ s', Up [c, dc] s s' → AccAt w.params s'.heap c dc 0 [] → R (.ok (.ret .none)) s') :
    codeAny (model prog w) A (.call (.ref 160) ⟨[.ref c], []⟩) R s := by
  refine enterB (fn160 w.params) B kb rm (@bd160' _ _ (B.kk.keeps kb) c) (by kernel_rfl) fun h₁ L hL F K₁ rm' => ?_
  obtain ⟨⟨vs₀, n, ho, hv₀⟩, t, u, n', hd⟩ := ac
  have hcd : c ≠ dc := fun q => by rw [q, hd] at ho; cases ho
  have ltL : ∀ b o, s.heap.get? b = some o → b ≠ L := fun b o q => by rw [hL]; exact Nat.ne_of_lt (Heap.lt_size q)
  refine wpAny_execs_cons ?_
  refine wpAny_If ?_
  refine wpAny_isTrue_Compare1 ?_
  refine lv F rfl (fn160 w.params).kind rfl rfl ?_
  with_reducible refine wpAny_Constant_none ?_
  refine is_none_none ?_
  refine wpAny_truthy_bool ?_
  rw [if_pos rfl]
  refine wpAny_execs_cons ?_
  refine wpAny_Assign_Name ?_
  with_reducible refine List_ ?_
  refine args_nil ?_
  unfold newList
  refine wpAny_newObj_type ?_
  refine sv (F.push _) rfl (fn160 w.params).kind rfl ?_
  intro h₂ F₂ k₂
  refine wpAny_execs_nil ?_
  have up : ∀ b o, s.heap.get? b = some o → h₂.get? b = some o := fun b o q => F₂.ext b o (ltL _ _ q) q
  have hlne : h₁.objs.size ≠ L := Nat.ne_of_gt F.lt
  have hl₂ := k₂ _ _ hlne (Heap.get?_push_size h₁ (o := { cls := .type "list", data := .seq #[] }) rfl)
  have hlc : h₁.objs.size ≠ c := Nat.ne_of_gt (Heap.lt_size (K₁ _ _ ho))
  refine reset_core (dc := dc) (vs := #[]) B F₂ rfl rfl (up _ _ ho) (up _ _ hd) ⟨_, hl₂, rfl, 0, rfl⟩ hlc ?_ (by decide) (ltL _ _ ho) (ltL _ _ hd) hgc hgd ?_
  · have := hv₀.length; rw [List.size_toArray]; omega
  intro h' n₁ n₂ u' t' e₁ e₂ kp
  have keep : ∀ b o, b ∉ [c, dc] → s.heap.get? b = some o → h'.get? b = some o := fun b o nb q => kp b o (two_ne nb).1 (two_ne nb).2 (up _ _ q)
  exact h _ ⟨keep, fun q => q, rfl⟩ ⟨⟨[], n₁, e₁, .nil⟩, t, u', n₂, e₂⟩
end
end Mine
open PySem PySem.W PyProof.Rows PySem.Calls PySem.Spec
set_option Elab.async false
set_option maxRecDepth 100000
set_option maxHeartbeats 1000000
set_option linter.unusedVariables false
namespace Mine
section
variable {w : World} {A : Around} {E : Value → Shared → Prop} {s : Shared} {c dc : Addr} {items : Array Value} {n : Nat} {od : Obj}
theorem acc_sub {value slice : PySem.Expr} {i : Value} {Q : Value → Shared → Prop} (X : (KK w.params).In s.heap) (hc : s.heap.get? c = some (accObj dc items n)) (hd : s.heap.get? dc = some od)
    (h : wpAny (model prog w) A (getItem (.ref c) i) (fun r s₃ => wpAny (model prog w) A (letTemporaryGo value (.ref c) r >>= fun _ => pure r) Q E s₃) E s)
    (hs : subscripted slice false (.ref c) i = operate [.ref c, i] (getItem (.ref c) i) ∨ subscripted slice false (.ref c) i = operate [i, .ref c] (getItem (.ref c) i)) : wpAny (model prog w) A (subscriptTail value slice (.ref c) i) Q E s := by
  have hg : findIn (KK w.params) (.ref 178) "__getitem__" = some (some (.builtin "list.__getitem__")) := by kernel_rfl
  have I := acc_inst hc hd
  unfold subscriptTail getitemInPython specialOf
  refine wpAny_bind (wpAny_bind (wpAny_bind (I.type.here ((looks_findIn X hg).here ?_))))
  rcases hs with hs | hs <;>
  · refine wpAny_pure (wpAny_bind ?_)
    rw [hs]
    exact wpAny_operating h
end
theorem fn130 (P : Params) : FnOk P 130 := ⟨by kernel_rfl, by kernel_rfl, by kernel_rfl, by kernel_rfl, by kernel_rfl, by kernel_rfl, by kernel_rfl⟩
theorem bd130 (P : Params) {s : Shared} (X : (KK P).In s.heap) (c : Addr) (i : Int) (t : Tok) : BindsTo s (fdAt P 130) ⟨[.ref c, .int i t], []⟩ [("self", .ref c), ("i", .int i t)] := by
  have hd : (fdAt P 130).defaults = .ref 123 := by kernel_rfl
  exact @binds_K s (KK P) (fdAt P 130) ⟨[.ref c, .int i t], []⟩ [("self", .ref c), ("i", .int i t)] 123 ((KK P).lookup 123).get! (match ((KK P).lookup 123).get!.data with | .seq xs _ => xs | _ => #[]) (match ((KK P).lookup 123).get!.data with | .seq _ n => n | _ => 0) _ X hd (by kernel_rfl) (by kernel_rfl) rfl (by kernel_rfl)
theorem All2.take {α β : Type} {R : α → β → Prop} {l : List α} {r : List β} (h : All2 R l r) (i : Nat) : All2 R (l.take i) (r.take i) := by
  induction h generalizing i with
  | nil => simp; exact .nil
  | cons x _ ih => cases i with
    | zero => exact .nil
    | succ i => exact .cons x (ih i)
theorem All2.drop {α β : Type} {R : α → β → Prop} {l : List α} {r : List β} (h : All2 R l r) (i : Nat) : All2 R (l.drop i) (r.drop i) := by
  induction h generalizing i with
  | nil => simp; exact .nil
  | cons x h ih => cases i with
    | zero => exact .cons x h
    | succ i => exact ih i
theorem slice_tail {vs : List Value} (a : Nat) : vs.toArray.extract 0 (sliceBounds (some (a : Int)) none none vs.toArray.size).1.toNat ++ #[] ++ vs.toArray.extract (max (sliceBounds (some (a : Int)) none none vs.toArray.size).1 (vs.toArray.size : Int)).toNat vs.toArray.size = (vs.take a).toArray := by
  rw [sliceBounds_plain]
  simp only [Option.elim, clipAt_nat, List.size_toArray]
  have : (max ((min a vs.length : Nat) : Int) (vs.length : Int)).toNat = vs.length := by omega
  rw [this]
  simp
theorem gn {M : Model} {A : Around} {α : Type} {m : Sem α} {Q : α → Shared → Prop} {E : Value → Shared → Prop} {s : Shared} (h : Heap) (G : _) (O : _) (eh : s.heap = h) (eg : s.gens = G) (eo : s.os = O)
    (k : ∀ s', s'.heap = h → s'.gens = G → s'.os = O → wpAny M A m Q E s') : wpAny M A m Q E s := k s eh eg eo
section
variable {M : Model} {A : Around} {E : Value → Shared → Prop} {s : Shared} {g e : Heap} {m : PySem.Str → Option Value} {env : Env}
theorem sw {x : PySem.Str} {v : Value} {L : Addr} {Q : Unit → Shared → Prop} (G : _) (O : _) (eg : s.gens = G) (eo : s.os = O) (F : Fw g e L s.heap m) (hL : env.locals = L) (hk : env.scope.kind = .function) (hl : env.kindOf x = some .local)
    (h : ∀ s', Fw g e L s'.heap (fun y => if y = x then some v else m y) → (∀ b o, b ≠ L → s.heap.get? b = some o → s'.heap.get? b = some o) → s'.gens = G → s'.os = O → Q () s') :
    wpAny M A (storeName env x v) Q E s := sv F hL hk hl fun h' F' k => h _ F' k eg eo
end
section
variable {w : World} {A : Around} {s : Shared} {g : Heap} {c dc l : Addr} {k : Int} {ps : List (PySem.Str × PySem.Str)} {R : Result → Shared → Prop}
/-- pop_from(i) -/
theorem pop_from_ct {i : Nat} {t₀ : Tok} (B : Bs w g) (kb : ∀ b o, g.get? b = some o → s.heap.get? b = some o) (rm : Rm A 3) (ac : AccAt w.params s.heap c dc k ps) (hz : ps.length ≤ 500) (hgc : g.get? c = none)
    (h : ∀ s' l vs, Up [c] s s' → AccAt w.params s'.heap c dc k (ps.take i) → l ≥ s.heap.objs.size → s'.heap.IsList l vs.toArray → All2 (TupIs s'.heap) vs (ps.drop i) → R (.ok (.ret (.ref l))) s') :
    codeAny (model prog w) A (.call (.ref 130) ⟨[.ref c, .int i t₀], []⟩) R s := by
  refine enterB (fn130 w.params) B kb rm (@bd130 _ _ (B.kk.keeps kb) c i t₀) (by kernel_rfl) fun h₁ L hL F K₁ rm' => ?_
  obtain ⟨⟨vs, n, ho, hv⟩, t, u, n', hd⟩ := ac
  have hcd : c ≠ dc := fun q => by rw [q, hd] at ho; cases ho
  have ltL : ∀ b o, s.heap.get? b = some o → b ≠ L := fun b o q => by rw [hL]; exact Nat.ne_of_lt (Heap.lt_size q)
  have hlen := hv.length
  have X₁ := B.at F.base
  refine wpAny_execs_cons ?_
  refine wpAny_Assign_Name ?_
  refine Subscript_ ?_
  refine lv F rfl (fn130 w.params).kind rfl rfl ?_
  with_reducible refine wpAny_Slice ?_
  refine evalPart_some_step ?_
  refine lv F rfl (fn130 w.params).kind rfl rfl ?_
  refine evalPart_none_step (evalPart_none_step ?_)
  have up₁ : ∀ b o, h₁.get? b = some o → (h₁.push { cls := .type "slice", data := .fields #[.int i t₀, .none, .none] }).get? b = some o := fun b o q => Heap.get?_push_of_some _ q
  have hcs := K₁ _ _ ho
  have hds := K₁ _ _ hd
  refine acc_sub (dc := dc) (X₁.keeps up₁) (up₁ _ _ hcs) (up₁ _ _ hds) ?_ (.inr rfl)
  refine acc_getSlice (dc := dc) (X₁.keeps up₁) (up₁ _ _ hcs) (up₁ _ _ hds) (Heap.IsSliceOf.new ..) (.int _ _) .none ?_ ?_
  · rw [List.size_toArray]; omega
  refine wpAny_bind (wpAny_letTemporaryGo (wpAny_pure ?_))
  rw [slicePick_from']
  refine sw s.gens s.os rfl rfl ((F.push _).push _) rfl (fn130 w.params).kind rfl ?_
  intro s₂ F₂ k₂ g₂ o₂
  dsimp only at k₂
  have up₂ : ∀ b o, h₁.get? b = some o → b ≠ L → s₂.heap.get? b = some o := fun b o q nb => k₂ b o nb (Heap.get?_push_of_some _ (up₁ _ _ q))
  have hlt := ((F.push { cls := .type "slice", data := .fields #[.int i t₀, .none, .none] })).lt
  have hl₂ := k₂ _ _ (Nat.ne_of_gt hlt) (Heap.get?_push_size _ (o := { cls := .type "list", data := .seq (vs.toArray.toList.drop i).toArray }) rfl)
  refine wpAny_execs_cons ?_
  refine wpAny_Assign_Subscript ?_
  with_reducible refine List_ ?_
  refine args_nil ?_
  unfold newList
  refine wpAny_newObj_type ?_
  refine lv (F₂.push _) rfl (fn130 w.params).kind rfl rfl ?_
  with_reducible refine wpAny_Slice ?_
  refine evalPart_some_step ?_
  refine lv (F₂.push _) rfl (fn130 w.params).kind rfl rfl ?_
  refine evalPart_none_step (evalPart_none_step ?_)
  have up₃ : ∀ b o, s₂.heap.get? b = some o → ((s₂.heap.push { cls := .type "list", data := .seq #[] }).push { cls := .type "slice", data := .fields #[.int i t₀, .none, .none] }).get? b = some o := fun b o q => Heap.get?_push_of_some _ (Heap.get?_push_of_some _ q)
  have hc₂ := up₂ _ _ hcs (ltL _ _ ho)
  have hd₂ := up₂ _ _ hds (ltL _ _ hd)
  refine acc_setSlice (dc := dc) (lo := some (i : Int)) ((B.at F₂.base).keeps up₃) (up₃ _ _ hc₂) (up₃ _ _ hd₂) (Heap.IsSliceOf.new ..) (.int _ _) (new := #[]) ⟨_, Heap.get?_push_of_some _ (Heap.get?_push_size _ (o := { cls := .type "list", data := .seq #[] }) rfl), rfl, 0, rfl⟩ (Nat.ne_of_gt (Heap.lt_size hc₂)) ?_ (by decide) ?_
  · rw [List.size_toArray]; omega
  intro h₃ n₃ e₃ s₃
  rw [slice_tail] at e₃
  have F₃ : Fw g h₃ L h₃ _ := ((F₂.push _).push _).up (X := [c]) (fun b o nb q => s₃.extBut b o (by simpa using nb) q) (by simpa using Ne.symm (ltL _ _ ho)) (by simpa using hgc)
  refine wpAny_execs_cons ?_
  refine wpAny_Return_some ?_
  refine lv F₃ rfl (fn130 w.params).kind rfl rfl ?_
  have kall : ∀ b o, b ∉ [c] → s.heap.get? b = some o → h₃.get? b = some o := fun b o nb q => s₃.extBut b o (by simpa using nb) (up₃ _ _ (up₂ _ _ (K₁ _ _ q) (ltL _ _ q)))
  have tk : ∀ v p, TupIs s.heap v p → TupIs h₃ v p := fun v p r => r.ext kall fun b hb o q => by
    obtain rfl := List.mem_singleton.mp hb
    rw [ho] at q; cases q; exact .inl fun z => by cases z
  have hsz : s.heap.objs.size < (h₁.push { cls := .type "slice", data := .fields #[.int i t₀, .none, .none] }).objs.size := hL ▸ hlt
  have hnc : (h₁.push { cls := .type "slice", data := .fields #[.int i t₀, .none, .none] }).objs.size ≠ c := Nat.ne_of_gt (Nat.lt_trans (Heap.lt_size ho) hsz)
  refine h _ _ (vs.drop i) ⟨kall, fun q => ?_, o₂⟩ ⟨⟨vs.take i, n₃, e₃, (hv.take i).mono tk⟩, t, u, n', s₃.extBut _ _ (Ne.symm hcd) (up₃ _ _ hd₂)⟩ (Nat.le_of_lt hsz) ⟨_, s₃.extBut _ _ hnc (up₃ _ _ hl₂), rfl, 0, rfl⟩ ((hv.drop i).mono tk)
  show AllBare s₂.gens
  rw [g₂]; exact q
end
end Mine
open PySem PySem.W PyProof.Rows PySem.Calls PySem.Spec
set_option Elab.async false
set_option maxRecDepth 100000
set_option maxHeartbeats 1000000
set_option linter.unusedVariables false
namespace Mine
theorem slot_wget : Slot "wrapper_descriptor" "__get__" "wrapper_descriptor.__get__" := .of (owner := "wrapper_descriptor") (n := "__get__") (by rw [typeLookup_type, builtinLookup_eq_fast]; kernel_rfl) (by decide +kernel) (by decide +kernel) (by decide +kernel) (by first | exact .inl (by decide +kernel) | exact .inr (by decide +kernel)) (by rw [isSubtype_type]; kernel_rfl)
theorem slot_mget : Slot "method_descriptor" "__get__" "method_descriptor.__get__" := .of (owner := "method_descriptor") (n := "__get__") (by rw [typeLookup_type, builtinLookup_eq_fast]; kernel_rfl) (by decide +kernel) (by decide +kernel) (by decide +kernel) (by first | exact .inl (by decide +kernel) | exact .inr (by decide +kernel)) (by rw [isSubtype_type]; kernel_rfl)
theorem entry_wget : entryFor table "wrapper_descriptor.__get__" = some Builtin.«wrapper_descriptor.__get__» := entryFor_of_tree (by kernel_rfl)
theorem entry_mget : entryFor table "method_descriptor.__get__" = some Builtin.«method_descriptor.__get__» := entryFor_of_tree (by kernel_rfl)
theorem args_wget (a b c : Value) : argsOk "wrapper_descriptor.__get__" ⟨[a, b, c], []⟩ := by unfold argsOk; kernel_rfl
theorem args_mget (a b c : Value) : argsOk "method_descriptor.__get__" ⟨[a, b, c], []⟩ := by unfold argsOk; kernel_rfl
theorem shape_len (c C : Addr) : ∃ bad : Sem Unit, Builtin.«wrapper_descriptor.__get__» ⟨[.builtin "list.__len__", .ref c, .ref C], []⟩ = ((isInstance (.ref c) (.type "list") >>= fun b => if (!b) = true then bad else pure ()) >>= fun _ => newFields "method-wrapper" [.builtin "list.__len__", .ref c] >>= fun v => ret v) := ⟨_, by with_unfolding_all rfl⟩
theorem shape_init (c C : Addr) : ∃ bad : Sem Unit, Builtin.«wrapper_descriptor.__get__» ⟨[.builtin "list.__init__", .ref c, .ref C], []⟩ = ((isInstance (.ref c) (.type "list") >>= fun b => if (!b) = true then bad else pure ()) >>= fun _ => newFields "method-wrapper" [.builtin "list.__init__", .ref c] >>= fun v => ret v) := ⟨_, by with_unfolding_all rfl⟩
theorem shape_pop (c C : Addr) : ∃ bad : Sem Unit, Builtin.«method_descriptor.__get__» ⟨[.builtin "list.pop", .ref c, .ref C], []⟩ = ((isInstance (.ref c) (.type "list") >>= fun b => if (!b) = true then bad else pure ()) >>= fun _ => newFields "builtin_function_or_method" [.builtin "list.pop", .ref c] >>= fun v => ret v) := ⟨_, by with_unfolding_all rfl⟩
theorem ty_len : typeOf (.builtin "list.__len__") = pure (.type "wrapper_descriptor") := by show builtinType _ = _; rw [builtinType_eq_fast]; kernel_rfl
theorem ty_init : typeOf (.builtin "list.__init__") = pure (.type "wrapper_descriptor") := by show builtinType _ = _; rw [builtinType_eq_fast]; kernel_rfl
theorem ty_pop : typeOf (.builtin "list.pop") = pure (.type "method_descriptor") := by show builtinType _ = _; rw [builtinType_eq_fast]; kernel_rfl
section
variable {w : World} {A : Around} {E : Value → Shared → Prop} {s : Shared} {c dc : Addr} {items : Array Value} {n : Nat} {od : Obj}
/-- a built-in of list's, bound to an _Accumulator -/
theorem acc_bind {id bt : String} {bi : Builtin} {Q : Fin → Shared → Prop} (X : (KK w.params).In s.heap) (I : PySem.W.InstAt s.heap c (accObj dc items n) 178 (some od))
    (hs : ∃ bad : Sem Unit, bi ⟨[.builtin id, .ref c, .ref 178], []⟩ = ((isInstance (.ref c) (.type "list") >>= fun b => if (!b) = true then bad else pure ()) >>= fun _ => newFields bt [.builtin id, .ref c] >>= fun v => ret v))
    (h : Q (.done (.ret (.ref s.heap.objs.size))) { s with heap := s.heap.push { cls := .type bt, data := .fields #[.builtin id, .ref c] } }) :
    wpAny (model prog w) A (bi ⟨[.builtin id, .ref c, .ref 178], []⟩) Q E s := by
  obtain ⟨bad, e⟩ := hs
  rw [e]
  refine wpAny_bind (wpAny_bind (acc_isList X I ?_))
  simp only [Bool.not_true, Bool.false_eq_true, if_false]
  refine wpAny_pure ?_
  unfold newFields
  exact wpAny_bind (wpAny_newObj_type (wpAny_pure h))
theorem super_ga {so : Addr} {name : PySem.Str} {id Td gid : String} {tk : Tok} {Q : Fin → Shared → Prop} (X : (KK w.params).In s.heap)
    (hso : s.heap.get? so = some { cls := .type "super", dict := none, data := .fields #[.ref 178, .ref c, .ref 178], slots := #[] }) (hc : c ≠ 178) (hn : (name == ("__class__" : PySem.Str)) = false)
    (hf : alongIn (KK w.params) name [.type "list", .type "object"] = some (some (.builtin id))) (ht : typeOf (.builtin id) = pure (.type Td)) (hg : typeLookup (.type Td) "__get__" = pure (some (.builtin gid)))
    (h : codeAny (model prog w) A (.call (.builtin gid) ⟨[.builtin id, .ref c, .ref 178], []⟩) (fun r s' => ∃ v, r = .ok (.ret v) ∧ Q (.done (.ret v)) s') s) :
    wpAny (model prog w) A (Builtin.«super.__getattribute__» ⟨[.ref so, .str name tk], []⟩) Q E s := by
  have hno : Looks (model prog w) s.heap (opaqueClassAbove (.ref 178)) none := looks_opaque X (by kernel_rfl)
  have hcl : clsIn (KK w.params) 178 = some (match ((KK w.params).lookup 178).get!.data with | .cls cd => cd | _ => default) := by kernel_rfl
  have hC : Looks (model prog w) s.heap (mroOf (.ref 178)) [.ref 178, .type "list", .type "object"] := by
    have e : (match ((KK w.params).lookup 178).get!.data with | .cls cd => cd | _ => default).mro = [.ref 178, .type "list", .type "object"] := by kernel_rfl
    have := fun A Q E s k q => wpAny_bind ((looks_clsIn (M := model prog w) X hcl) A (fun cd s' => wpAny (model prog w) A (pure cd.mro) Q E s') E s k (wpAny_pure (e ▸ q)))
    exact this
  obtain ⟨hh, g, d, t, os⟩ := s
  have hne : (Value.ref c == Value.ref 178) = false := by simp [hc]
  have hdt : ({ cls := .type "super", dict := none, data := .fields #[.ref 178, .ref c, .ref 178], slots := #[] } : Obj).data = .fields #[.ref 178, .ref c, .ref 178] := rfl
  have f0 : (#[.ref 178, .ref c, .ref 178] : Array Value)[0]? = some (.ref 178) := rfl
  have f1 : (#[.ref 178, .ref c, .ref 178] : Array Value)[1]? = some (.ref c) := rfl
  have f2 : (#[.ref 178, .ref c, .ref 178] : Array Value)[2]? = some (.ref 178) := rfl
  have hl : (([.ref 178, .type "list", .type "object"] : List Value).dropWhile (· != .ref 178)).drop 1 = [.type "list", .type "object"] := by decide
  unfold Builtin.«super.__getattribute__»
  repeat (first
    | (with_reducible refine wpAny_field hso hdt f0 ?_) | (with_reducible refine wpAny_field hso hdt f1 ?_) | (with_reducible refine wpAny_field hso hdt f2 ?_)
    | (with_reducible refine ks_wpAny_notOpaque hno ?_)
    | (with_reducible refine Looks.at hC ?_; rw [hl])
    | (refine ks_forIn_along X (fun _ _ => rfl) rfl ?_ hf)
    | (with_reducible refine wpAny_of_eq ht ?_)
    | (with_reducible refine wpAny_of_eq hg ?_)
    | (simp only [hn, hne, Bool.or_false, Bool.false_eq_true, if_false])
    | wp_step
    | dsimp only)
  refine codeAny_mono h fun r s' q => ?_
  obtain ⟨v, rfl, q⟩ := q
  exact wpAny_bind (wpAny_pure (wpAny_pure (wpAny_pure q)))
theorem super_meth {so : Addr} {name : PySem.Str} {id Td gid bt : String} {bi : Builtin} {pl : Sem Bool} {Q : Value × List Value → Shared → Prop} (X : (KK w.params).In s.heap) (ho : s.heap.get? c = some (accObj dc items n)) (hd : s.heap.get? dc = some od)
    (hso : s.heap.get? so = some { cls := .type "super", dict := none, data := .fields #[.ref 178, .ref c, .ref 178], slots := #[] }) (hc : c ≠ 178) (hn : (name == ("__class__" : PySem.Str)) = false)
    (hf : alongIn (KK w.params) name [.type "list", .type "object"] = some (some (.builtin id))) (ht : typeOf (.builtin id) = pure (.type Td)) (hg : Slot Td "__get__" gid) (he : entryFor table gid = some bi) (ha : argsOk gid ⟨[.builtin id, .ref c, .ref 178], []⟩)
    (hs : ∃ bad : Sem Unit, bi ⟨[.builtin id, .ref c, .ref 178], []⟩ = ((isInstance (.ref c) (.type "list") >>= fun b => if (!b) = true then bad else pure ()) >>= fun _ => newFields bt [.builtin id, .ref c] >>= fun v => ret v))
    (h : Q (.ref s.heap.objs.size, []) { s with heap := s.heap.push { cls := .type bt, data := .fields #[.builtin id, .ref c] }, toks := s.toks + 1 }) :
    wpAny (model prog w) A (getMethod (.ref so) name pl) Q E s := by
  have I := acc_inst ho hd
  have hlk := F.ks_slot_super_ga.lookup
  have hcan := F.ks_canon_super_ga
  obtain ⟨hh, g, d, t, os⟩ := s
  have hT : ∀ t', (⟨hh, g, d, t', os⟩ : Shared).TypeIs (.ref so) "super" := fun _ => ⟨_, hso, rfl⟩
  unfold getMethod
  refine wpAny_bind (wpAny_specialOf (hT _) hlk ?_)
  show wpAny _ _ (if (Manifest.canonical "super.__getattribute__" != "object.__getattribute__") = true then _ else _) _ _ _
  rw [if_pos hcan]
  unfold getAttr getAttrBy
  refine wpAny_bind (wpAny_bind (wpAny_mkText (wpAny_holding (wpAny_bind (wpAny_typeOf (hT _) (wpAny_bind (wpAny_of_eq hlk ?_)))))))
  show wpAny _ _ (getAttrByItsOwn (.ref so) (.str name t) (.type "super") (.builtin "super.__getattribute__") true false) _ _ _
  unfold getAttrByItsOwn hookBefore callGetattribute boundAndCalled
  refine wpAny_bind (wpAny_of_eq (show (if onTheHeap (.type "super") then typeLookup (.type "super") "__getattr__" else pure none) = pure none from rfl) ?_)
  refine wpAny_bind (wpAny_attempt (wpAny_holding ?_))
  show wpAny _ _ (bindSpecial (.builtin "super.__getattribute__") (.ref so) >>= _) _ _ _
  refine wpAny_bind (wpAny_of_eq (F.ks_slot_super_ga.bind _) ?_)
  refine wpAny_call_entry F.ks_slot_super_ga (hT _) F.ks_entry_super_ga (super_ga (s := ⟨hh, g, d, t + 1, os⟩) X hso hc hn hf ht hg.lookup ?_) (F.ks_gaArgs_super _ _)
  have hTb : (⟨hh, g, d, t + 1, os⟩ : Shared).TypeIs (.builtin id) Td := ht
  refine codeAny_call_builtin hg.plain he (hg.check _ _ _ _ _ _ _ _ hTb ha (acc_bind (s := ⟨hh, g, d, t + 1, os⟩) X I hs ⟨_, rfl, _, rfl, ?_⟩))
  exact wpAny_pure (wpAny_pure h)
end
end Mine
open PySem PySem.W PyProof.Rows PySem.Calls PySem.Spec
set_option Elab.async false
set_option maxRecDepth 100000
set_option maxHeartbeats 1000000
set_option linter.unusedVariables false
namespace Mine
section
variable {w : World} {A : Around} {E : Value → Shared → Prop} {s : Shared} {c dc : Addr} {items : Array Value} {n : Nat} {od : Obj} {g e : Heap} {m : PySem.Str → Option Value}
/-- a bound built-in called -/
theorem call_bound {q : Addr} {id bt : String} {b : Builtin} {R : Result → Shared → Prop} (hq : s.heap.get? q = some { cls := .type bt, dict := none, data := .fields #[.builtin id, .ref c], slots := #[] })
    (hbt : bt = "builtin_function_or_method" ∨ bt = "method-wrapper") (hp : plainId id = true) (hb : entryFor table id = some b)
    (hck : wpAny (model prog w) A.in1 (checkBoundCall id ⟨[.ref c], []⟩) (fun _ s₁ => wpAny (model prog w) A.in1 (b ⟨[.ref c], []⟩) (fun fin s' => ∃ v, fin = .done (.ret v) ∧ R (.ok (.ret v)) s') (fun e s' => R (.error e) s') s₁) (fun e s' => R (.error e) s') s) :
    codeAny (model prog w) A (.call (.ref q) ⟨[], []⟩) R s := by
  refine codeAny_of_tree ?_
  show wpAny _ A.in1 (callAny (.ref q) ⟨[], []⟩) _ _ _
  unfold callAny
  refine wpAny_bind (wpAny_load hq ?_)
  have key : ∀ s₁, wpAny (model prog w) A.in1 (b ⟨[.ref c], []⟩) (fun fin s' => ∃ v, fin = .done (.ret v) ∧ R (.ok (.ret v)) s') (fun e s' => R (.error e) s') s₁ → codeAny (model prog w) A (.builtin id ⟨[.ref c], []⟩) R s₁ := fun s₁ h => by
    refine codeAny_builtinAt hb (wpAt_of_wpAny ?_)
    rw [Around.under_plainId hp _]
    refine wpAny_mono h (fun fin s' hv => ?_) fun _ _ z => z
    obtain ⟨v, rfl, hv⟩ := hv
    exact hv
  rcases hbt with rfl | rfl <;>
  · refine wpAny_bind (wpAny_mono hck (fun _ s₁ h₁ => wpAny_pure ⟨?_, key _ h₁⟩) fun _ _ z => z)
    exact plainId_quiet hp _
theorem boundLen (c : Addr) : checkBoundCall "list.__len__" ⟨[.ref c], []⟩ = pure () := by kernel_rfl
theorem boundInit (c : Addr) : checkBoundCall "list.__init__" ⟨[.ref c], []⟩ = pure () := by kernel_rfl
/-- a def of the text is entered, its frame known (for super()) -/
theorem enterAt {n : Nat} {R : Result → Shared → Prop} {f : Addr} {args : Args} {binds : List (PySem.Str × Value)}
    (fn : FnOk w.params f) (B : Bs w g) (kb : ∀ b o, g.get? b = some o → s.heap.get? b = some o) (rm : Rm A (n + 1)) (hb : BindsTo s (fdAt w.params f) args binds)
    (hloc : (binds.all fun x => decide ((fdAt w.params f).scope.names.lookup x.1 = some .local)) = true)
    (h : ∀ h₁ L, L = s.heap.objs.size → Fw g s.heap L h₁ (fun y => binds.reverse.lookup y) → (∀ b o, s.heap.get? b = some o → h₁.get? b = some o) → Rm (A.deeper (callEnv (fdAt w.params f) L f)) n →
      PySem.wpAt (model prog w) (A.deeper (callEnv (fdAt w.params f) L f)) (.func (bodyAt w.params f) (callEnv (fdAt w.params f) L f)) (execs (bodyAt w.params f) (callEnv (fdAt w.params f) L f)) (fun fl s' => R (.ok (.ret (match fl with | .ret v => v | _ => .none))) s') (fun _ _ => False) { s with heap := h₁, toks := s.toks + binds.length }) :
    codeAny (model prog w) A (.call (.ref f) args) R s := by
  refine ks_codeAny_call_defAt rm.room (kb _ _ (B.kk _ _ fn.look)) rfl (B.lim.keeps kb) (codeRec_of (B.kk.keeps kb) fn.code) fn.body @hb (fun x hx => by have := List.all_eq_true.mp fn.cell x hx; intro q; rw [q] at this; exact absurd this (by decide)) (locs hloc) (fun h₁ hns hk₁ => ?_) fn.co fn.gen fn.kind
  refine ks_wpAt_mono (h h₁ _ rfl ⟨hns, fun b o q => hk₁ b o (kb b o q), ?_, fun b o _ q => hk₁ b o q⟩ hk₁ (rm.deeper _)) (fun _ _ x => x) (fun _ _ x => x.elim)
  cases q : g.get? s.heap.objs.size with
  | none => rfl
  | some o => exact absurd (Heap.lt_size (kb _ _ q)) (Nat.lt_irrefl _)
theorem fn175 (P : Params) : FnOk P 175 := ⟨by kernel_rfl, by kernel_rfl, by kernel_rfl, by kernel_rfl, by kernel_rfl, by kernel_rfl, by kernel_rfl⟩
theorem fn138 (P : Params) : FnOk P 138 := ⟨by kernel_rfl, by kernel_rfl, by kernel_rfl, by kernel_rfl, by kernel_rfl, by kernel_rfl, by kernel_rfl⟩
theorem fn115 (P : Params) : FnOk P 115 := ⟨by kernel_rfl, by kernel_rfl, by kernel_rfl, by kernel_rfl, by kernel_rfl, by kernel_rfl, by kernel_rfl⟩
/-- what the super() of a method of _Accumulator asks of the def -/
structure SupOk (P : Params) (f : Addr) : Prop where
  ks : (fdAt P f).scope.names.lookup ("super" : PySem.Str) = some .globalImplicit
  kc : (fdAt P f).scope.names.lookup ("__class__" : PySem.Str) = some .free
  ka : (fdAt P f).scope.names.lookup ("self" : PySem.Str) = some .local
  par : ((fdAt P f).params.posonlyargs ++ (fdAt P f).params.args).head?.map (·.arg) = some ("self" : PySem.Str)
  cell : (fdAt P f).closure = [(("__class__" : PySem.Str), 102)]
  code : ∃ cc oc vs file tf, (fdAt P f).code = .ref cc ∧ (KK P).lookup cc = some oc ∧ oc.data = .fields vs ∧ vs[2]? = some (.str file tf) ∧ ((prog.main.file : PySem.Str) == file) = true
theorem sup175 (P : Params) : SupOk P 175 := ⟨by kernel_rfl, by kernel_rfl, by kernel_rfl, by kernel_rfl, by kernel_rfl, 174, _, _, _, _, by kernel_rfl, by with_unfolding_all rfl, by with_unfolding_all rfl, by with_unfolding_all rfl, by kernel_rfl⟩
theorem sup138 (P : Params) : SupOk P 138 := ⟨by kernel_rfl, by kernel_rfl, by kernel_rfl, by kernel_rfl, by kernel_rfl, 137, _, _, _, _, by kernel_rfl, by with_unfolding_all rfl, by with_unfolding_all rfl, by with_unfolding_all rfl, by kernel_rfl⟩
theorem sup115 (P : Params) : SupOk P 115 := ⟨by kernel_rfl, by kernel_rfl, by kernel_rfl, by kernel_rfl, by kernel_rfl, 114, _, _, _, _, by kernel_rfl, by with_unfolding_all rfl, by with_unfolding_all rfl, by with_unfolding_all rfl, by kernel_rfl⟩
/-- super() in a method of _Accumulator -/
theorem sup_node {f L : Addr} {p0 p1 : Pos} {attr : PySem.Str} {whole : Sem Value} {body : List Stmt} {Q : Value → Shared → Prop} (ok : SupOk w.params f) (fn : FnOk w.params f) (B : Bs w g) (F : Fw g e L s.heap m) (hm : m "self" = some (.ref c))
    (ho : s.heap.get? c = some (accObj dc items n)) (hd : s.heap.get? dc = some od) (hat : (attr == ("__class__" : PySem.Str)) = false) (hgl : (fdAt w.params f).globals = mainGlobals) (hbl : (fdAt w.params f).builtins = builtinsNs)
    (h : ∀ h', h'.get? s.heap.objs.size = some { cls := .type "super", dict := none, data := .fields #[.ref 178, .ref c, .ref 178], slots := #[] } → (∀ y o, s.heap.get? y = some o → h'.get? y = some o) → Q (.ref s.heap.objs.size) { s with heap := h' }) :
    PySem.wpAt (model prog w) A (.func body (callEnv (fdAt w.params f) L f)) (attributeBase (.Call (.Name "super" p0) [] [] p1) attr (callEnv (fdAt w.params f) L f) whole) Q E s := by
  have X := B.at F.base
  obtain ⟨k1, k2, k3, k4, k5, cc, oc, vs, file, tf, k6, k7, k8, k9, k10⟩ := ok
  obtain ⟨ar, hp, har⟩ : ∃ ar, ((fdAt w.params f).params.posonlyargs ++ (fdAt w.params f).params.args).head? = some ar ∧ ar.arg = ("self" : PySem.Str) := by
    cases z : ((fdAt w.params f).params.posonlyargs ++ (fdAt w.params f).params.args).head? with
    | none => rw [z] at k4; cases k4
    | some ar => rw [z] at k4; exact ⟨ar, rfl, Option.some.inj k4⟩
  obtain ⟨hh, gg, d, t, os⟩ := s
  have hcl : (KK w.params).lookup 178 = some ((KK w.params).lookup 178).get! := by kernel_rfl
  have hcd : ((KK w.params).lookup 178).get!.data = .cls (match ((KK w.params).lookup 178).get!.data with | .cls cd => cd | _ => default) := by kernel_rfl
  have hcell : (KK w.params).lookup 102 = some ⟨.type "cell", none, .cell (some (.ref 178)), #[]⟩ := by kernel_rfl
  have hmro : mroIn (KK w.params) 178 (.ref 178) = some true := by kernel_rfl
  refine ks_wpAt_super_base (env := callEnv (fdAt w.params f) L f) k1 k2 hat rfl (X _ _ fn.look) rfl hp k6 (X _ _ k7) k8 k9 k10 (by kernel_rfl) ?_
  obtain ⟨mg, mb, h1, h2, h3, _⟩ := B.glob
  refine ks_loadName_global fn.kind k1 (loadGlobal_builtin (mg := mg) (mb := mb) (v := .type "super") ?_ ?_ ?_ ((h3 _ (by decide)).trans (by kernel_rfl)) ⟨rfl, ?_⟩)
  · show Heap.Ns _ (fdAt w.params f).globals mg
    rw [hgl]; exact h1.keeps F.base
  · exact mg_none_of B.kk h1 (by kernel_rfl)
  · show Heap.Ns _ (fdAt w.params f).builtins mb
    rw [hbl]; exact h2.keeps F.base
  refine wpAny_loadName_free (c := 102) fn.kind k2 ?_ ⟨_, X _ _ hcell, rfl⟩ ?_
  · show (fdAt w.params f).closure.lookup _ = _
    rw [k5]; rfl
  rw [har]
  refine wpAny_loadName_local fn.kind k3 F.ns hm ?_
  refine ks_wpAny_isType_cls (X _ _ hcl) hcd ⟨rfl, ?_⟩
  refine ks_wpAny_call_super (X _ _ hcl) hcd ho rfl (fun c e => by cases e) (looks_mroIn X hmro) (fun h' e k => ?_)
  exact h h' e k
end
end Mine
open PySem PySem.W PyProof.Rows PySem.Calls PySem.Spec
set_option Elab.async false
set_option maxRecDepth 100000
set_option maxHeartbeats 1000000
set_option linter.unusedVariables false
namespace Mine
section
variable {w : World} {A : Around} {E : Value → Shared → Prop} {s : Shared} {c dc : Addr} {items : Array Value} {n : Nat} {od : Obj} {g e : Heap} {m : PySem.Str → Option Value} {env : Env}
theorem keeps_bound {M : Model} {q : Addr} {f self : Value} {bt : String} (hbt : bt = "builtin_function_or_method" ∨ bt = "method-wrapper") (h : Heap) (hq : h.get? q = some { cls := .type bt, dict := none, data := .fields #[f, self], slots := #[] }) :
    ∃ k, (k = Keeper.frame ∨ k = Keeper.machine ∨ k = Keeper.boundFrame) ∧ Looks M h (keeperOf (.ref q)) k := by
  rcases hbt with rfl | rfl <;> exact ⟨.machine, .inr (.inl rfl), (Looks.ld (part := none) hq).andThen .now⟩
/-- a method of the text's, met on an _Accumulator -/
theorem meth_fn {f : Addr} {name : PySem.Str} {pl : Sem Bool} {Q : Value × List Value → Shared → Prop} (X : (KK w.params).In s.heap) (hc : s.heap.get? c = some (accObj dc items n)) (hd : s.heap.get? dc = some od)
    (hf : findIn (KK w.params) (.ref 178) name = some (some (.ref f))) (ht : typeIn (KK w.params) (.ref f) = some (.type "function")) (hs : lookIn name od = some none) (h : Q (.ref f, [.ref c]) s) :
    wpAny (model prog w) A (getMethod (.ref c) name pl) Q E s := by
  have hga : findIn (KK w.params) (.ref 178) "__getattribute__" = some (some (.builtin "list.__getattribute__")) := by kernel_rfl
  have hk : findIn (KK w.params) (.ref 178) "__getattr__" = some none := by kernel_rfl
  have hcan := canon_list_getattribute
  have I := acc_inst hc hd
  unfold getMethod specialOf
  refine wpAny_bind (wpAny_bind (I.type.here ((looks_findIn X hga).here ?_)))
  dsimp only
  rw [hcan, if_neg (by decide)]
  refine wpAny_bind (wpAny_bind (I.type.here ((looks_findIn X hk).here ?_)))
  refine wpAny_bind (wpAny_bind (I.type.here ((looks_findIn X hf).here (wpAny_bind ((looks_typeIn X ht).here ?_)))))
  rw [if_neg (by decide)]
  refine wpAny_bind (wpAny_loadPart I.at_ ?_)
  refine wpAny_bind (wpAny_bind (wpAny_loadPart I.dict ?_))
  rw [nsLook_of hs]
  exact wpAny_pure (wpAny_bind (wpAny_rule (wpAny_pure h)))
theorem callWith_bound0 {q : Addr} {id bt : String} {pos : Pos} {b : Builtin} {Q : Value → Shared → Prop} (hq : s.heap.get? q = some { cls := .type bt, dict := none, data := .fields #[.builtin id, .ref c], slots := #[] })
    (hbt : bt = "builtin_function_or_method" ∨ bt = "method-wrapper") (hp : plainId id = true) (hb : entryFor table id = some b)
    (hck : wpAny (model prog w) A.in1 (checkBoundCall id ⟨[.ref c], []⟩) (fun _ s₁ => wpAny (model prog w) A.in1 (b ⟨[.ref c], []⟩) (fun fin s' => ∃ v, fin = .done (.ret v) ∧ Q v s') E s₁) E s) :
    wpAny (model prog w) A (callWith pos (.ref q) [] (backTo pos (starEach [] env)) []) Q E s :=
  callWith_of rfl (keeps_bound hbt) (evalArgs_nil3 ⟨hq, wpAny_call (call_bound hq hbt hp hb hck)⟩)
end
section
variable {w : World} {A : Around} {s : Shared} {g : Heap} {c dc l : Addr} {k : Int} {ps : List (PySem.Str × PySem.Str)} {R : Result → Shared → Prop}
/-- part_count() -/
theorem part_count_ct (B : Bs w g) (kb : ∀ b o, g.get? b = some o → s.heap.get? b = some o) (rm : Rm A 3) (ac : AccAt w.params s.heap c dc k ps) 
    (h : ∀ s' t, Up [] s s' → R (.ok (.ret (.int ps.length t))) s') :
    codeAny (model prog w) A (.call (.ref 175) ⟨[.ref c], []⟩) R s := by
  refine enterAt (binds := [("self", .ref c)]) (fn175 w.params) B kb rm (@BindsTo.of_eq _ _ _ _ (by kernel_rfl)) (by kernel_rfl) fun h₁ L hL F K₁ rm' => ?_
  obtain ⟨⟨vs, n, ho, hv⟩, t, u, n', hd⟩ := ac
  have hlen := hv.length
  have X₁ := B.at F.base
  have hc : c ≠ 178 := fun q => by
    have h178 : (KK w.params).lookup 178 = some ((KK w.params).lookup 178).get! := by kernel_rfl
    have e1 := (B.kk.keeps kb) _ _ h178
    subst q
    rw [ho] at e1
    have e2 : ((KK w.params).lookup 178).get!.cls = .type "type" := by kernel_rfl
    rw [← Option.some.inj e1] at e2; cases e2
  refine ks_wpAt_execs_cons ?_
  refine ks_wpAt_Return_some ?_
  refine ks_wpAt_MethodCall ?_
  refine sup_node (sup175 _) (fn175 _) B F rfl (K₁ _ _ ho) (K₁ _ _ hd) rfl (by kernel_rfl) (by kernel_rfl) ?_
  intro h₂ e₂ k₂
  have X₂ := X₁.keeps k₂
  refine super_meth (dc := dc) X₂ (k₂ _ _ (K₁ _ _ ho)) (k₂ _ _ (K₁ _ _ hd)) e₂ hc rfl (id := "list.__len__") (by kernel_rfl) ty_len slot_wget entry_wget (args_wget _ _ _) (shape_len _ _) ?_
  refine callWith_bound0 (Heap.get?_push_size _ rfl) (.inr rfl) (by decide +kernel) entry_list_len ?_
  refine wpAny_of_eq (boundLen c) ?_
  show wpAny _ _ (do retInt (← seqSize c)) _ _ _
  unfold seqSize
  refine wpAny_bind (wpAny_bind (wpAny_load (Heap.get?_push_of_some _ (k₂ _ _ (K₁ _ _ ho))) ?_))
  refine wpAny_pure (wpAny_bind (wpAny_mkInt (wpAny_pure ⟨_, rfl, ?_⟩)))
  have e : ((vs.toArray.size : Nat) : Int) = ps.length := by rw [List.size_toArray, hlen]
  rw [e]
  exact h _ _ ⟨fun b o _ q => Heap.get?_push_of_some _ (k₂ _ _ (K₁ _ _ q)), fun q => q, rfl⟩
end
end Mine
open PySem PySem.W PyProof.Rows PySem.Calls PySem.Spec
set_option Elab.async false
set_option maxRecDepth 100000
set_option maxHeartbeats 1000000
set_option linter.unusedVariables false
namespace Mine
section
variable {w : World} {A : Around} {E : Value → Shared → Prop} {s : Shared} {c dc : Addr} {items : Array Value} {n : Nat} {od : Obj} {g e : Heap} {m : PySem.Str → Option Value} {env : Env}
theorem boundPop {Q : Unit → Shared → Prop} (X : (KK w.params).In s.heap) (hc : s.heap.get? c = some (accObj dc items n)) (hd : s.heap.get? dc = some od) (h : Q () s) :
    wpAny (model prog w) A (checkBoundCall "list.pop" ⟨[.ref c], []⟩) Q E s := by
  have I := acc_inst hc hd
  have hm : mroIn (KK w.params) 178 (.type "module") = some false := by kernel_rfl
  have hsig : ∃ sig, Manifest.signature? "list.pop" = some sig ∧ Bind.checkArgs "list.pop" { sig with full := toString (match ((KK w.params).lookup 178).get!.data with | .cls cd => cd | _ => default).qualname.toString ++ toString "." ++ toString (Bind.lastOf "list.pop") } ⟨[.ref c], []⟩ = pure () := ⟨_, by with_unfolding_all rfl, by kernel_rfl⟩
  obtain ⟨sig, e1, e2⟩ := hsig
  have ek : builtinKind "list.pop" = some .method := by decide +kernel
  have hcl : clsIn (KK w.params) 178 = some (match ((KK w.params).lookup 178).get!.data with | .cls cd => cd | _ => default) := by kernel_rfl
  have hty : typeIn (KK w.params) (.ref 178) = some (.type "type") := by kernel_rfl
  unfold checkBoundCall
  rw [e1]
  dsimp only
  rw [ek]
  dsimp only
  rw [if_neg (by decide)]
  refine wpAny_bind ?_
  unfold isInstance
  refine wpAny_bind (I.type.here ((looks_mroIn X hm).here ?_))
  rw [if_neg (by decide +kernel)]
  refine wpAny_bind ?_
  obtain ⟨hh, gg, d, t, os⟩ := s
  refine ks_wpAny_isType_inst hc (fun c e => by cases e) ?_
  rw [if_neg (by decide)]
  refine wpAny_bind (I.type.at ?_)
  dsimp only
  refine wpAny_bind ((looks_clsIn X hcl).at ?_)
  refine wpAny_bind ((looks_typeIn X hty).at ?_)
  rw [if_pos (by decide)]
  exact wpAny_of_eq e2 h
theorem accPop {y : Value} {Q : Fin → Shared → Prop} (hc : s.heap.get? c = some (accObj dc items n)) (hy : items[items.size - 1]? = some y) (hz : items.size ≤ 1000)
    (h : ∀ h' n', h'.get? c = some (accObj dc (items.eraseIdxIfInBounds (items.size - 1)) n') → Heap.SameBut c s.heap h' → Q (.done (.ret y)) { s with heap := h' }) :
    wpAny (model prog w) A (Builtin.«list.pop» ⟨[.ref c], []⟩) Q E s := by
  obtain ⟨hp, g, d, tk, os⟩ := s
  have hs1 : items.size ≤ sizeLine := by rw [sizeLine_eq]; omega
  have hpos : 0 < items.size := by
    rcases Nat.eq_zero_or_pos items.size with h0 | h0
    · simp [h0] at hy
    · exact h0
  have hne : ¬ items.isEmpty = true := by
    intro he; have : items.size = 0 := by simpa using he
    omega
  have hk : seqIndex? (-1) items.size = some (items.size - 1) := by
    rw [seqIndex_neg (by omega) (by omega)]; congr 1; omega
  have e := Heap.get?_update_self (Obj.mapSeq fun xs => xs.eraseIdxIfInBounds (items.size - 1)) hc rfl
  unfold Builtin.«list.pop»
  wp_walk using wpAny_loadPart' hc
  simp only [hk, hy, Option.bind_some, Option.map_some]
  have hz' : (items.eraseIdxIfInBounds (items.size - 1)).size ≤ sizeLine + 1 := Nat.le_trans (MeetsSeq.size_erased items _) (Nat.le_succ_of_le hs1)
  wp_walk using (wpAny_updateSeq hc rfl (hz := hs1) (_hz' := hz')), wpAny_loadPart' hc
  exact h _ _ e (Heap.SameBut.update ..)
end
end Mine
open PySem PySem.W PyProof.Rows PySem.Calls PySem.Spec
set_option Elab.async false
set_option maxRecDepth 100000
set_option maxHeartbeats 1000000
set_option linter.unusedVariables false
namespace Mine
section
variable {w : World} {A : Around} {s : Shared} {g : Heap} {c dc l : Addr} {k : Int} {ps : List (PySem.Str × PySem.Str)} {R : Result → Shared → Prop}
theorem AccAt.ne178 (B : Bs w g) (kb : ∀ b o, g.get? b = some o → s.heap.get? b = some o) (ac : AccAt w.params s.heap c dc k ps) : c ≠ 178 := fun q => by
  obtain ⟨⟨vs, n, ho, hv⟩, t, u, n', hd⟩ := ac
  have h178 : (KK w.params).lookup 178 = some ((KK w.params).lookup 178).get! := by kernel_rfl
  have e1 := (B.kk.keeps kb) _ _ h178
  subst q
  rw [ho] at e1
  have e2 : ((KK w.params).lookup 178).get!.cls = .type "type" := by kernel_rfl
  rw [← Option.some.inj e1] at e2; cases e2
/-- over a call that keeps the accumulator itself -/
theorem AccAt.up {s s' : Shared} {P : Params} (ac : AccAt P s.heap c dc k ps) (u : Up [] s s') : AccAt P s'.heap c dc k ps := ac.ext u.keep (fun b hb => by cases hb) (by simp) (by simp)
/-- pop() of an empty one -/
theorem pop0_ct (B : Bs w g) (kb : ∀ b o, g.get? b = some o → s.heap.get? b = some o) (rm : Rm A 4) (ac : AccAt w.params s.heap c dc k [])
    (h : ∀ s' v, Up [] s s' → AccAt w.params s'.heap c dc k [] → TupIs s'.heap v ("", "") → R (.ok (.ret v)) s') :
    codeAny (model prog w) A (.call (.ref 138) ⟨[.ref c], []⟩) R s := by
  refine enterAt (binds := [("self", .ref c)]) (fn138 w.params) B kb rm (@BindsTo.of_eq _ _ _ _ (by kernel_rfl)) (by kernel_rfl) fun h₁ L hL F K₁ rm' => ?_
  have X₁ := B.at F.base
  have ac₁ : AccAt w.params h₁ c dc k [] := ac.ext (X := []) (fun b o _ q => K₁ b o q) (fun b hb => by cases hb) (by simp) (by simp)
  obtain ⟨⟨vs, n, ho, hv⟩, t, u, n', hd⟩ := id ac₁
  refine ks_wpAt_execs_cons ?_
  refine ks_wpAt_If ?_
  refine wpAt_of_wpAny ?_
  refine wpAny_isTrue_Compare1 ?_
  refine MethodCall_ ?_
  refine lv F rfl (fn138 w.params).kind rfl rfl ?_
  refine meth_fn (f := 175) X₁ ho hd (by kernel_rfl) (by kernel_rfl) (by kernel_rfl) ?_
  refine callWith_K0 X₁ (by kernel_rfl) ?_
  refine wpAny_call (part_count_ct B F.base rm' ac₁ ?_)
  intro s₂ t₂ u₂
  with_reducible refine wpAny_Constant_int ?_
  refine eq_int ?_
  refine wpAny_truthy_bool ?_
  rw [if_pos (by decide)]
  refine ks_wpAt_execs_cons ?_
  refine ks_wpAt_Return_some ?_
  refine wpAt_of_wpAny ?_
  with_reducible refine Tuple_ ?_
  with_reducible refine args_cons ?_ (by with_unfolding_all rfl)
  with_reducible refine wpAny_Constant_str ?_
  with_reducible refine args_cons ?_ (by with_unfolding_all rfl)
  with_reducible refine wpAny_Constant_str ?_
  refine args_nil ?_
  unfold newTuple
  refine wpAny_newObj_type ?_
  have U : Up [] s { s₂ with heap := s₂.heap.push { cls := .type "tuple", data := .seq #[.str "" (s₂.toks + 1), .str "" (s₂.toks + 1 + 1)] } } := ⟨fun b o nb q => Heap.get?_push_of_some _ (u₂.keep b o nb (K₁ b o q)), u₂.gens, u₂.os⟩
  have U' : Up [] s { s₂ with toks := s₂.toks + 1 + 1 + 1, heap := s₂.heap.push { cls := .type "tuple", data := .seq #[.str "" (s₂.toks + 1), .str "" (s₂.toks + 1 + 1)] } } := ⟨U.keep, U.gens, U.os⟩
  exact h _ _ U' (ac.up U') ⟨_, _, _, _, rfl, Heap.get?_push_size _ rfl⟩
/-- pop() -/
theorem pop_ct {p : PySem.Str × PySem.Str} (B : Bs w g) (kb : ∀ b o, g.get? b = some o → s.heap.get? b = some o) (rm : Rm A 4) (ac : AccAt w.params s.heap c dc k (ps ++ [p])) (hz : ps.length ≤ 500) 
    (h : ∀ s' v, Up [c] s s' → AccAt w.params s'.heap c dc k ps → TupIs s'.heap v p → R (.ok (.ret v)) s') :
    codeAny (model prog w) A (.call (.ref 138) ⟨[.ref c], []⟩) R s := by
  have n178 := ac.ne178 B kb
  refine enterAt (binds := [("self", .ref c)]) (fn138 w.params) B kb rm (@BindsTo.of_eq _ _ _ _ (by kernel_rfl)) (by kernel_rfl) fun h₁ L hL F K₁ rm' => ?_
  have X₁ := B.at F.base
  have ac₁ : AccAt w.params h₁ c dc k (ps ++ [p]) := ac.ext (X := []) (fun b o _ q => K₁ b o q) (fun b hb => by cases hb) (by simp) (by simp)
  obtain ⟨⟨vs, n, ho, hv⟩, t, u, n', hd⟩ := id ac₁
  refine ks_wpAt_execs_cons ?_
  refine ks_wpAt_If ?_
  refine wpAt_of_wpAny ?_
  refine wpAny_isTrue_Compare1 ?_
  refine MethodCall_ ?_
  refine lv F rfl (fn138 w.params).kind rfl rfl ?_
  refine meth_fn (f := 175) X₁ ho hd (by kernel_rfl) (by kernel_rfl) (by kernel_rfl) ?_
  refine callWith_K0 X₁ (by kernel_rfl) ?_
  refine wpAny_call (part_count_ct B F.base rm' ac₁ ?_)
  intro s₂ t₂ u₂
  with_reducible refine wpAny_Constant_int ?_
  refine eq_int ?_
  refine wpAny_truthy_bool ?_
  rw [if_neg (by simp; omega)]
  refine wpAt_of_wpAny (wpAny_execs_nil ?_)
  refine ks_wpAt_execs_cons ?_
  refine ks_wpAt_Return_some ?_
  refine ks_wpAt_MethodCall ?_
  have F₂ := F.keeps (fun b o q => u₂.keep b o (by simp) q)
  refine sup_node (sup138 _) (fn138 _) B F₂ rfl (u₂.keep _ _ (by simp) ho) (u₂.keep _ _ (by simp) hd) rfl (by kernel_rfl) (by kernel_rfl) ?_
  intro h₃ e₃ k₃
  have X₃ := (B.at F₂.base).keeps k₃
  have ho₃ := k₃ _ _ (u₂.keep _ _ (by simp) ho)
  have hd₃ := k₃ _ _ (u₂.keep _ _ (by simp) hd)
  refine super_meth (dc := dc) X₃ ho₃ hd₃ e₃ n178 rfl (id := "list.pop") (by kernel_rfl) ty_pop slot_mget entry_mget (args_mget _ _ _) (shape_pop _ _) ?_
  refine callWith_bound0 (Heap.get?_push_size _ rfl) (.inl rfl) (by decide +kernel) PySem.F.entry_list_pop ?_
  have up : ∀ b o, h₃.get? b = some o → (h₃.push { cls := .type "builtin_function_or_method", data := .fields #[.builtin "list.pop", .ref c] }).get? b = some o := fun b o q => Heap.get?_push_of_some _ q
  refine boundPop (dc := dc) (X₃.keeps up) (up _ _ ho₃) (up _ _ hd₃) ?_
  obtain ⟨v, hvl, hvp⟩ := hv.at (i := ps.length) (b := p) (by simp)
  have hlen := hv.length
  rw [List.length_append, List.length_singleton] at hlen
  have hy : vs.toArray[vs.toArray.size - 1]? = some v := by simpa [hlen] using hvl
  refine accPop (up _ _ ho₃) hy (by simp; omega) ?_
  intro h₄ n₄ e₄ k₄
  have ee : vs.toArray.eraseIdxIfInBounds (vs.toArray.size - 1) = (vs.take ps.length).toArray := by
    have hlt : vs.toArray.size - 1 < vs.toArray.size := by rw [List.size_toArray]; omega
    unfold Array.eraseIdxIfInBounds
    rw [dif_pos hlt]
    simp only [List.eraseIdx_toArray, List.size_toArray, hlen]
    congr 1
    rw [List.eraseIdx_eq_take_drop_succ, List.drop_of_length_le (by omega), List.append_nil]
    rfl
  rw [ee] at e₄
  have keep : ∀ b o, b ∉ [c] → s.heap.get? b = some o → h₄.get? b = some o := fun b o nb q => k₄.extBut b o (by simpa using nb) (up _ _ (k₃ _ _ (u₂.keep b o (by simp) (K₁ _ _ q))))
  have keep₁ : ∀ b o, b ∉ [c] → h₁.get? b = some o → h₄.get? b = some o := fun b o nb q => k₄.extBut b o (by simpa using nb) (up _ _ (k₃ _ _ (u₂.keep b o (by simp) q)))
  have hX : ∀ b ∈ [c], ∀ o, h₁.get? b = some o → o.cls ≠ .type "tuple" ∨ ∃ es n, o.data = .dict es n := fun b hb o q => by
    obtain rfl := List.mem_singleton.mp hb
    rw [ho] at q; cases q; exact .inl fun z => by cases z
  have hcd : dc ≠ c := fun q => by rw [q, ho] at hd; cases hd
  have hv' := (hv.take ps.length).mono fun v p r => r.ext keep₁ hX
  rw [List.take_left] at hv'
  exact ⟨_, rfl, h _ _ ⟨keep, u₂.gens, u₂.os⟩ ⟨⟨_, n₄, e₄, hv'⟩, t, u, n', keep₁ _ _ (by simpa using hcd) hd⟩ (hvp.ext keep₁ hX)⟩
end
end Mine
open PySem PySem.W PyProof.Rows PySem.Calls PySem.Spec
set_option Elab.async false
set_option maxRecDepth 100000
set_option maxHeartbeats 1000000
set_option linter.unusedVariables false
namespace Mine
/-- the two code tables, grown from p and q -/
structure Tbs (p q : Array Value) (h : Heap) : Prop where
  a : ∃ m, h.IsCode 144 140 (p ++ m) ∧ h.TableAt 144 140 (p ++ m)
  b : ∃ m, h.IsCode 151 147 (q ++ m) ∧ h.TableAt 151 147 (q ++ m)
section
variable {M : Model} {A : Around} {E : Value → Shared → Prop} {s : Shared}
theorem gcode {env : Env} {c P : Addr} {p : Array Value} {pos : Pos} {qualname : PySem.Str} {scope : Scope} {Q : Value → Shared → Prop} (hc : env.code = .ref c) (hok : ∃ m, s.heap.IsCode c P (p ++ m) ∧ s.heap.TableAt c P (p ++ m))
    (hQ : ∀ code h' tk, Heap.ExtBut P s.heap h' → (∃ m, h'.IsCode c P (p ++ m) ∧ h'.TableAt c P (p ++ m)) → Q code { s with heap := h', toks := tk }) :
    wpAny M A (genexprCode env pos qualname scope) Q E s := by
  obtain ⟨m, hok, htab⟩ := hok
  cases hnf : codeAmong pos (p ++ m).toList with
  | none => exact wpAny_genexprCodeX hc hok htab hnf fun c' h' tk hx _ _ h1 _ h2 _ => hQ _ _ _ hx ⟨m ++ #[rawInt pos.line, rawInt pos.col, .ref c'], by rw [← Array.append_assoc]; exact ⟨h1, h2⟩⟩
  | some cv =>
    obtain ⟨o, vs, file, tf, flags, tg, inF, text, tt, op, ho, hd, h11, h2, h7, h9, h10, hop, hpd, htr, hne⟩ := id hok
    unfold genexprCode codeAt
    rw [hc, if_neg (show ¬ ((Value.ref c == Value.none) = true) from Bool.false_ne_true)]
    refine wpAny_bind (wpAny_fieldsOf ho hd ?_)
    rw [h11]
    refine wpAny_bind (wpAny_fieldsOf hop hpd ?_)
    rw [hnf]
    exact wpAny_pure (hQ cv s.heap s.toks (Heap.ExtBut.refl _ _) ⟨m, hok, htab⟩)
end
section
variable {w : World} {A : Around} {E : Value → Shared → Prop} {s : Shared} {c dc : Addr} {items : Array Value} {n : Nat} {od : Obj}
/-- iter() of an _Accumulator -/
theorem acc_iter {Q : Value → Shared → Prop} (X : (KK w.params).In s.heap) (hc : s.heap.get? c = some (accObj dc items n)) (hd : s.heap.get? dc = some od)
    (h : Q (.ref s.heap.objs.size) { s with heap := s.heap.push { cls := .type "list_iterator", data := .fields #[.ref c, .int 0 0] } }) : wpAny (model prog w) A (pyIter (.ref c)) Q E s := by
  have I := acc_inst hc hd
  have hf : findIn (KK w.params) (.ref 178) "__iter__" = some (some (.builtin "list.__iter__")) := by kernel_rfl
  unfold pyIter specialOf
  refine wpAny_bind (wpAny_bind (I.type.here ((looks_findIn X hf).here ?_)))
  show wpAny _ _ (callSpecialIfBoundUnlessNone? (.ref c) "__iter__" _ >>= _) _ _ _
  refine wpAny_bind ?_
  have key : wpAny (model prog w) A (call (.builtin "list.__iter__") [.ref c]) (fun it s' => s'.TypeIs it "list_iterator" ∧ Q it s') E s := by
    refine acc_call X I (nm := "__iter__") (rest := []) (by decide +kernel) (.inl (by decide +kernel)) (by decide +kernel) entry_list_iter (args_list_iter _) ?_
    show wpAny _ _ (do ret (← newFields "list_iterator" [.ref c, rawInt 0])) _ _ s
    exact wpAny_bind (wpAny_newObj_type (wpAny_pure ⟨_, rfl, ⟨_, Heap.get?_push_size _ rfl, rfl⟩, h⟩))
  simp only [callSpecialIfBoundUnlessNone?, bindSpecialIfBound?, specialOf]
  refine wpAny_holding (wpAny_bind (wpAny_bind (wpAny_bind (I.type.here ((looks_findIn X hf).here ?_)))))
  simp only [slot_list_iter.bind]
  refine wpAny_bind (wpAny_askSetting (wpAny_ite ?_))
  have fin : ∀ refuse : Sem Value, wpAny (model prog w) A (if (Value.builtin "list.__iter__" == Value.none) = true then (refuse >>= fun v => pure (some v)) else (call (.builtin "list.__iter__") [.ref c] >>= fun v => pure (some v)))
      (fun a s' => wpAny (model prog w) A (match a with
        | some it => (specialOf it "__next__" >>= fun x => match x with
          | none => (do rule "iter.non-iterator"; raiseError "TypeError" s!"iter() returned non-iterator of type '{← typeNameOf it}'")
          | some _ => pure it)
        | none => (do
          match ← bindSpecialIfBound? (.ref c) "__getitem__" with
          | none => rule "iter.not-iterable"; raiseError "TypeError" s!"'{← typeNameOf (.ref c)}' object is not iterable"
          | some _ => rule "iter.getitem-fallback"; newFields "iterator" [.ref c, ← mkInt 0])) Q E s') E s := fun refuse => by
    simp only [builtin_beq_none, Bool.false_eq_true, if_false]
    exact wpAny_bind (wpAny_mono key (fun v s' h' => wpAny_pure (wpAny_bind (wpAny_specialOf h'.1 slot_listiter_next.lookup (wpAny_pure h'.2)))) fun _ _ h' => h')
  split
  · exact wpAny_bind (wpAny_pure (wpAny_pure (fin _)))
  · exact wpAny_tryCatch (wpAny_bind (wpAny_pure (wpAny_pure (fin _))))
theorem accNext_item {it : Addr} {i : Nat} {x : Value} {Q : Option Value → Shared → Prop} (hit : s.heap.IsListIter it c i) (hc : s.heap.get? c = some (accObj dc items n)) (hx : items[i]? = some x)
    (hQ : ∀ h', h'.IsListIter it c (i + 1) → Heap.SameBut it s.heap h' → Q (some x) { s with heap := h' }) : wpAny (model prog w) A (pyNext (.ref it)) Q E s := by
  obtain ⟨o, ho, hcl, hd⟩ := id hit
  unfold pyNext
  refine wpAny_bind (wpAny_attempt (wpAny_callSpecial?_slot (name := PySem.Str.ofString "__next__") hit.typeIs slot_listiter_next (wpAny_call_entry slot_listiter_next hit.typeIs entry_listiter_next ?_ (args_listiter_next _))))
  show wpAny _ _ (field (.ref it) 0 >>= _) _ _ s
  refine wpAny_bind (wpAny_field ho hd (x := .ref c) rfl ?_)
  show wpAny _ _ (if (Value.ref c == Value.none) = true then _ else _) _ _ s
  rw [if_neg (show ¬ ((Value.ref c == Value.none) = true) from Bool.false_ne_true)]
  show wpAny _ _ (field (.ref it) 1 >>= _) _ _ s
  refine wpAny_bind (wpAny_field ho hd (x := .int i 0) rfl ?_)
  show wpAny _ _ (seqItems? (.ref c) >>= _) _ _ s
  refine wpAny_bind (wpAny_seqItems hc rfl ?_)
  simp only [Int.toNat_natCast, hx]
  refine wpAny_bind (wpAny_setField ho hd (by simp) (wpAny_pure ⟨x, rfl, wpAny_pure (hQ _ ?_ (Heap.SameBut.update ..))⟩))
  exact ⟨_, Heap.get?_update_self _ ho (Obj.isFreed_of_fields (Obj.data_mapFields hd _)), (Obj.cls_mapFields ..).trans hcl, by
    rw [Obj.data_mapFields hd]; simp [rawInt]⟩
theorem accNext_end {it : Addr} {i : Nat} {Q : Option Value → Shared → Prop} (hh : A.handled = none) (hit : s.heap.IsListIter it c i) (hc : s.heap.get? c = some (accObj dc items n)) (hx : items[i]? = none)
    (hQ : ∀ h', Heap.ExtBut it s.heap h' → Q none { s with heap := h' }) : wpAny (model prog w) A (pyNext (.ref it)) Q E s := by
  obtain ⟨o, ho, hcl, hd⟩ := id hit
  unfold pyNext
  refine wpAny_bind (wpAny_attempt (wpAny_callSpecial?_slot (name := PySem.Str.ofString "__next__") hit.typeIs slot_listiter_next (wpAny_call_entry slot_listiter_next hit.typeIs entry_listiter_next ?_ (args_listiter_next _))))
  show wpAny _ _ (field (.ref it) 0 >>= _) _ _ s
  refine wpAny_bind (wpAny_field ho hd (x := .ref c) rfl ?_)
  show wpAny _ _ (if (Value.ref c == Value.none) = true then _ else _) _ _ s
  rw [if_neg (show ¬ ((Value.ref c == Value.none) = true) from Bool.false_ne_true)]
  show wpAny _ _ (field (.ref it) 1 >>= _) _ _ s
  refine wpAny_bind (wpAny_field ho hd (x := .int i 0) rfl ?_)
  show wpAny _ _ (seqItems? (.ref c) >>= _) _ _ s
  refine wpAny_bind (wpAny_seqItems hc rfl ?_)
  simp only [Int.toNat_natCast, hx]
  refine wpAny_bind (wpAny_rule (wpAny_bind (wpAny_setField ho hd (by simp) ?_)))
  show wpAny _ _ (newExc (.type "StopIteration") [] >>= _) _ _ _
  refine wpAny_bind ?_
  simp only [newExc, newTuple]
  refine wpAny_bind (wpAny_newObj_type ?_ (by size_fits))
  refine wpAny_bind (m := firstArgMember _ _) (wpAny_of_eq (a := Value.none) (by first | rfl | (simp only [firstArgMember]; rfl)) ?_)
  refine wpAny_newObj_type ?_ (by size_fits)
  simp only [raiseNew]
  refine wpAny_bind (wpAny_handled ?_)
  rw [show A.in1.handled = none from hh]
  refine wpAny_bind (wpAny_pure (wpAny_throw ?_))
  refine wpAny_bind (wpAny_isInstance (T := "StopIteration") (b := true) ⟨_, Heap.get?_push_size _ rfl, rfl⟩ isSubtype_stop ?_)
  exact wpAny_pure (hQ _ (((Heap.SameBut.update ..).extBut.push _).push _))
end
end Mine
open PySem PySem.W PyProof.Rows PySem.Calls PySem.Spec
set_option Elab.async false
set_option maxRecDepth 100000
set_option maxHeartbeats 1000000
set_option linter.unusedVariables false
namespace Mine
noncomputable def refs (vs : List Value) : List Addr := vs.filterMap fun v => match v with | .ref t => some t | _ => none
theorem mem_refs {vs : List Value} {t : Addr} : t ∈ refs vs ↔ Value.ref t ∈ vs := by
  unfold refs
  rw [List.mem_filterMap]
  constructor
  · rintro ⟨v, hv, e⟩
    cases v <;> simp at e
    subst e; exact hv
  · intro h; exact ⟨_, h, rfl⟩
theorem All2.monoMem {α β : Type} {R R' : α → β → Prop} {l : List α} {r : List β} (h : All2 R l r) (k : ∀ a ∈ l, ∀ b, R a b → R' a b) : All2 R' l r := by
  induction h with
  | nil => exact .nil
  | cons x _ ih => exact .cons (k _ (by simp) _ x) (ih fun a ha b => k a (by simp [ha]) b)
theorem TupIs.at {h h' : Heap} {v : Value} {p : PySem.Str × PySem.Str} (x : TupIs h v p) (k : ∀ t, v = .ref t → ∀ o, h.get? t = some o → h'.get? t = some o) : TupIs h' v p := by
  obtain ⟨t, ta, tb, n, e, ht⟩ := x
  exact ⟨t, ta, tb, n, e, k t e _ ht⟩
/-- the walk over an _Accumulator's pairs -/
theorem accWalks {w : World} {A : Around} (hh : A.handled = none) (I c dc : Addr) (hne : c ≠ I) (vs : List Value) (n : Nat) (ps : List (PySem.Str × PySem.Str)) (hI : I ∉ refs vs) (hlen : vs.length = ps.length) :
    WalksU prog w A I (I :: c :: refs vs) [I] ps.length (fun j v => ∃ p ta tb, ps[j]? = some p ∧ v = #[.str p.1 ta, .str p.2 tb])
      (fun j h => h.IsListIter I c j ∧ h.get? c = some (accObj dc vs.toArray n) ∧ All2 (TupIs h) vs ps)
      (fun j T h => (j < ps.length ∧ vs[j]? = some (.ref T)) ∧ h.IsListIter I c (j + 1) ∧ h.get? c = some (accObj dc vs.toArray n) ∧ All2 (TupIs h) vs ps) where
  sub := fun b hb => by simp at hb; simp [hb]
  frame := fun _ _ _ st hk => ⟨st.1.at fun o e => hk I (by simp) o e, hk c (by simp) _ st.2.1, st.2.2.monoMem fun v hv p r => r.at fun t e o ho => hk t (by subst e; simp [mem_refs, hv]) o ho⟩
  item := fun i s Q E hi st hQ => by
    obtain ⟨p, hp⟩ : ∃ p, ps[i]? = some p := ⟨ps[i], by simp⟩
    obtain ⟨v, hv, t, ta, tb, n', rfl, ht⟩ := st.2.2.at hp
    refine accNext_item st.1 st.2.1 (x := .ref t) (by simpa using hv) fun h' hit' hs' => ?_
    have tI : ∀ t, Value.ref t ∈ vs → t ≠ I := fun t ht e => hI (by rw [← e]; exact mem_refs.mpr ht)
    have tup : All2 (TupIs h') vs ps := st.2.2.monoMem fun v hv p r => r.at fun t e o ho => hs'.extBut t o (tI t (e ▸ hv)) ho
    have hmem : Value.ref t ∈ vs := List.mem_of_getElem? hv
    have ht' := hs'.extBut _ _ (tI t hmem) ht
    exact hQ t #[.str p.1 ta, .str p.2 tb] h' s.toks ⟨p, ta, tb, hp, rfl⟩ ⟨_, ht', rfl, n', rfl⟩ ⟨⟨hi, hv⟩, hit', hs'.extBut _ _ hne st.2.1, tup⟩ fun b o hb e => hs'.extBut b o (fun h => hb (by simp [h])) e
  go := fun _ _ _ _ _ s Q _ hm hQ => wpAny_letOwnedTupleGo_listiter hm.2.1 (hQ s.heap hm.2 fun _ _ _ e => e)
  apart := fun j T _ hm hmem => by
    obtain rfl := List.mem_singleton.mp hmem
    exact hI (mem_refs.mpr (List.mem_of_getElem? hm.1.2))
  done := fun s Q E st hQ => accNext_end hh st.1 st.2.1 (by simp [hlen]) fun h' he' => hQ h' s.toks fun b o hb e => he' b o (fun h => hb (by simp [h])) e
  self := fun _ _ _ _ st hQ => wpAny_pyIter_listiter st.1 hQ
end Mine
open PySem PySem.W PyProof.Rows PySem.Calls PySem.Spec
set_option Elab.async false
set_option maxRecDepth 100000
set_option maxHeartbeats 1000000
set_option linter.unusedVariables false
namespace Mine
theorem args_sum2 (a b : Value) : argsOk "sum" ⟨[a, b], []⟩ := by unfold argsOk; kernel_rfl
theorem shiftW {w : World} {A : Around} {I : Addr} {fp wr : List Addr} {G : Array GenState → Array GenState → Prop} {n : Nat} {P : Nat → Value → Prop} {St : Nat → Shared → Prop} (W : WalksS prog w A I fp wr G n P St) :
    WalksS prog w A I fp wr G (n + 1) (fun i v => ∃ j, i = j + 1 ∧ P j v) (fun i s => ∃ j, i = j + 1 ∧ St j s) where
  sub := W.sub
  grefl := W.grefl
  gtrans := W.gtrans
  frame := fun i s h' tk ⟨j, e, st⟩ ht hk => ⟨j, e, W.frame j s h' tk st ht hk⟩
  item := fun i s Q E hi ⟨j, e, st⟩ hQ => W.item j s Q E (by omega) st fun v s' hP hst hm => hQ v s' ⟨j, e, hP⟩ ⟨j + 1, by omega, hst⟩ hm
  done := fun s Q E ⟨j, e, st⟩ hQ => W.done s Q E ((show j = n by omega) ▸ st) hQ
  self := fun i s Q E ⟨j, e, st⟩ hQ => W.self j s Q E st hQ
noncomputable def shiftV (k : Int) (val : Nat → Int) : Nat → Int
  | 0 => k
  | j + 1 => val j
theorem shift_sum (k : Int) (val : Nat → Int) (n : Nat) : preSum (shiftV k val) (n + 1) = k + preSum val n := by
  induction n with
  | zero => simp [preSum, shiftV]
  | succ n ih => rw [preSum, ih]; simp only [preSum, shiftV]; omega
section
variable {w : World} {A : Around} {E : Value → Shared → Prop} {s : Shared}
/-- sum(x, k) -/
theorem call_sum_from {x : Value} {k : Int} {u : Tok} {Q : Value → Shared → Prop}
    (h : wpAny (model prog w) A.in1 (pyIter x) (fun it s₂ => ∃ I fp wr G n P St val, it = .ref I ∧ WalksS prog w A.in1 I fp wr G n P St ∧ St 0 s₂ ∧ (∀ b ∈ fp, b < s₂.heap.objs.size) ∧
      (∀ i v, P i v → ∃ t, v = .int (val i) t) ∧ ∀ s' t', Moved wr G s₂ s' → Q (.int (k + preSum val n) t') s') E s) :
    wpAny (model prog w) A (call (.builtin "sum") [x, .int k u]) Q E s := by
  refine call_function_tree PySem.F.kind_sum PySem.F.plain_sum PySem.F.entry_sum (args_sum2 _ _) ?_
  unfold Builtin.«sum»
  simp only [List.length_cons, List.length_nil]
  rw [if_neg (by decide)]
  refine wpAny_bind (wpAny_of_eq (show Builtin.Builtins.bindParams "sum" ["start"] 0 ⟨[.int k u], []⟩ = pure [some (.int k u)] from rfl) ?_)
  refine wpAny_bind (wpAny_mono h (fun it s₂ h₂ => ?_) fun _ _ e => e)
  obtain ⟨I, fp, wr, G, n, P, St, val, rfl, W, hst, hfp, hval, hQ⟩ := h₂
  have hSf : s₂.heap.objs.size ∉ fp := fun hm => Nat.lt_irrefl _ (hfp _ hm)
  have tail : ∀ (t tk : Tok) (st : Int), (st = 0 ∨ st = 2) → s₂.toks ≤ tk → codeAny (model prog w) A (.builtin "sum.loop" ⟨[.ref I, .ref s₂.heap.objs.size, rawInt st, rawInt 0], []⟩)
      (fun r s' => match r with | .ok (.ret v) => Q v s' | .ok _ => False | .error e => E e s') { s₂ with heap := s₂.heap.push { cls := .type "list", data := .seq #[.int k t] }, toks := tk } := fun t tk st hs2 htk => by
    have e1 : preSum (shiftV k val) 1 = k := by simp [preSum, shiftV]
    refine codeAny_sum_loopAnyS (shiftW W) (shiftV k val) (fun i v ⟨j, e, hP⟩ => by subst e; exact hval j v hP) s₂.heap.objs.size hSf n 1 _ t 0 st hs2 (by omega) (by omega)
      ⟨0, rfl, W.frame 0 s₂ _ _ hst htk fun b _ o e => Heap.get?_push_of_some _ e⟩ (by rw [e1]; exact Heap.get?_push_size _ rfl) fun s' t' hm => ?_
    rw [shift_sum]
    refine hQ s' t' (hm.drop_new ?_)
    exact htk
  have fin : ∀ (t tk : Tok) (st : Int), (st = 0 ∨ st = 2) → s₂.toks ≤ tk → ∀ body : String × String × String → PUnit → Sem (ForInStep PUnit),
      (∀ x u, ∃ k', body x u = isInstance (.int k t) (.type x.1) >>= k' ∧ k' false = pure (ForInStep.yield PUnit.unit)) →
      wpAny (model prog w) A.in1 (forIn [("str", "strings", "''"), ("bytes", "bytes", "b''"), ("bytearray", "bytearray", "b''")] PUnit.unit body >>= fun _ => newList [.int k t] >>= fun l => again (.builtin "sum.loop" ⟨[.ref I, l, rawInt st, rawInt 0], []⟩))
        (fun fin s' => match fin with
          | .done f => (match (Except.ok f : Result) with | .ok (.ret v) => Q v s' | .ok _ => False | .error e => E e s')
          | .again c' => c'.quiet = true ∧ codeAny (model prog w) A c' (fun r s' => match r with | .ok (.ret v) => Q v s' | .ok _ => False | .error e => E e s') s') E { s₂ with toks := tk } := fun t tk st hs2 htk body hb => by
    obtain ⟨k1, e1, f1⟩ := hb ("str", "strings", "''") PUnit.unit
    obtain ⟨k2, e2, f2⟩ := hb ("bytes", "bytes", "b''") PUnit.unit
    obtain ⟨k3, e3, f3⟩ := hb ("bytearray", "bytearray", "b''") PUnit.unit
    simp only [List.forIn_cons, List.forIn_nil, e1, e2, e3]
    refine wpAny_bind (wpAny_bind (wpAny_bind (wpAny_isInstance (T := "int") (b := false) (typeIs_int _ _ _) PySem.sub_int_str ?_)))
    rw [f1]
    refine wpAny_pure (wpAny_bind (wpAny_bind (wpAny_isInstance (T := "int") (b := false) (typeIs_int _ _ _) PySem.sub_int_bytes ?_)))
    rw [f2]
    refine wpAny_pure (wpAny_bind (wpAny_bind (wpAny_isInstance (T := "int") (b := false) (typeIs_int _ _ _) PySem.sub_int_bytearray ?_)))
    rw [f3]
    refine wpAny_pure (wpAny_pure ?_)
    refine wpAny_bind (wpAny_newObj_type ?_)
    exact wpAny_pure ⟨plainId_quiet PySem.F.plain_sum_loop _, tail t tk st hs2 htk⟩
  dsimp only
  split
  · refine wpAny_bind (wpAny_rule (wpAny_bind (wpAny_mkInt (wpAny_bind (wpAny_pure ?_)))))
    exact fin _ _ 0 (.inl rfl) (Nat.le_succ _) _ fun x u => ⟨_, rfl, rfl⟩
  · refine wpAny_bind (wpAny_pure ?_)
    exact fin _ _ 2 (.inr rfl) (Nat.le_refl _) _ fun x u => ⟨_, rfl, rfl⟩
end
end Mine
open PySem PySem.W PyProof.Rows PySem.Calls PySem.Spec
set_option Elab.async false
set_option maxRecDepth 100000
set_option maxHeartbeats 1000000
set_option linter.unusedVariables false
namespace Mine
noncomputable def GenX (w : World) (A : Around) (K a : Addr) (n : Nat) (F : Nat → Value → Prop) (s : Shared) : Prop :=
  ∃ fp wr g St, WalksS prog w A.in4 a fp wr (GenOnlyQ g) n F St ∧ St 0 s ∧ (∀ i s', St i s' → s'.TypeIs (.ref a) "generator") ∧ a ∈ fp ∧ (∀ b ∈ fp, b < s.heap.objs.size) ∧ ∀ b ∈ wr, K ≤ b
theorem passing_all (n : Nat) : passing (fun _ => true) n 0 = List.range n := by
  unfold passing; simp
theorem walksS_re {w : World} {A : Around} {I : Addr} {fp wr : List Addr} {G : Array GenState → Array GenState → Prop} {n : Nat} {P P' : Nat → Value → Prop} {St : Nat → Shared → Prop} (W : WalksS prog w A I fp wr G n P St)
    (h : ∀ i v, i < n → P i v → P' i v) : WalksS prog w A I fp wr G n P' St :=
  { W with item := fun i s Q E hi st hQ => W.item i s Q E hi st fun v s' hP hst hm => hQ v s' (h i v hi hP) hst hm }
section
variable {w : World} {A : Around} {E : Value → Shared → Prop} {s : Shared} {g e : Heap} {m : PySem.Str → Option Value} {env : Env} {c dc : Addr} {k : Int} {ps : List (PySem.Str × PySem.Str)}

theorem acc_gen {elt : PySem.Expr} {xa xb : PySem.Str} {pa pb pt p1 pos : Pos} {kt : Nat} {scope : PySem.Scope} {cl : List (PySem.Str × Addr)} {Q : Value → Shared → Prop} {cc T L : Addr}
    (B : Bs w g) (F : Fw g e L s.heap m) (hgl : env.globals = mainGlobals) (hT : g.get? T = none) (hL : env.locals = L) (hkE : env.scope.kind = .function) (hlE : env.kindOf "self" = some .local) (hm : m "self" = some (.ref c))
    (ac : AccAt w.params s.heap c dc k ps) (tb : ∃ vs, s.heap.IsCode cc T vs ∧ s.heap.TableAt cc T vs) (hcode : env.code = .ref cc) (rm : Rm A 1)
    (hco : scope.isCoroutine = false) (hclos : closureFor scope env = pure cl) (hcell : (scope.names.all fun y => y.2 != .cell) = true) (h0 : scope.names.lookup (".0" : PySem.Str) = some NameKind.local)
    (hxa : scope.names.lookup xa = some .local) (hxb : scope.names.lookup xb = some .local) (hab : xa ≠ xb) (hkind : scope.kind = .function) (hs : ∀ x, genFold (.Name "self" p1) env x = pure x) (Fv : Nat → Value → Prop)
    (helt : ∀ (code : Value) (C : Addr) (A' : Around) (E' : Value → Shared → Prop) (i : Nat) (p : PySem.Str × PySem.Str) (ta tb : Tok) (t : Shared) (m₂ : PySem.Str → Option Value), A'.handled = none → A'.depth ≤ A.depth + 1 → A'.units ≤ A.units + 8 →
      ps[i]? = some p → Fw g t.heap C t.heap m₂ → m₂ xa = some (.str p.1 ta) → m₂ xb = some (.str p.2 tb) → wpAny (model prog w) A' (eval elt (genEnv scope cl C code builtinsNs env)) (fun y s₃ => Fv i y ∧ Keeps t s₃) E' t)
    (h : ∀ a s₅, (∀ b o, b ≠ T → s.heap.get? b = some o → s₅.heap.get? b = some o) → (∃ vs, s₅.heap.IsCode cc T vs ∧ s₅.heap.TableAt cc T vs) → (AllBare s.gens → AllBare s₅.gens) → s₅.os = s.os →
      GenX w A s.heap.objs.size a ps.length Fv s₅ → Q (.ref a) s₅) :
    wpAny (model prog w) A (eval (.GeneratorExp elt [⟨.Tuple [.Name xa pa, .Name xb pb] kt pt, .Name "self" p1, [], 0⟩] scope pos) env) Q E s := by
  have hh := rm.hnd
  obtain ⟨⟨vs, n, ho, hv⟩, t, u, n', hd⟩ := id ac
  have hlen := hv.length
  obtain ⟨tv, tcode, ttab⟩ := tb
  have ltT := Heap.lt_size ttab.2
  have ltc := Heap.lt_size ho
  have cT : c ≠ T := fun q => by rw [q, ttab.2] at ho; cases ho
  have rT : T ∉ refs vs := fun q => by
    have := mem_refs.mp q
    obtain ⟨i, hi⟩ := List.mem_iff_getElem?.mp this
    have hi' : i < ps.length := by rw [← hlen]; exact (List.getElem?_eq_some_iff.mp hi).1
    obtain ⟨a, ha, t, ta, tb, n', e', ht⟩ := hv.at (i := i) (b := ps[i]) (by simp)
    rw [hi] at ha; cases ha; cases e'
    rw [ttab.2] at ht; cases ht
  have rI : ∀ t, t ∈ refs vs → t < s.heap.objs.size := fun t q => by
    have := mem_refs.mp q
    obtain ⟨i, hi⟩ := List.mem_iff_getElem?.mp this
    have hi' : i < ps.length := by rw [← hlen]; exact (List.getElem?_eq_some_iff.mp hi).1
    obtain ⟨a, ha, t, ta, tb, n', e', ht⟩ := hv.at (i := i) (b := ps[i]) (by simp)
    rw [hi] at ha; cases ha; cases e'
    exact Heap.lt_size ht
  obtain ⟨mg, mb, hmg, hmb, hbb, bm, ob, gbm, gne, gob, gcls, gdict, gdat⟩ := B.glob
  have X := B.at F.base
  have lim := B.lim.keeps F.base
  have hcT : cStatics ≠ T := fun e => by
    obtain ⟨_, hns, _⟩ := lim
    obtain ⟨o, es, ep, ho, hd, _⟩ := hns
    rw [e, ttab.2] at ho; cases ho; cases hd
  refine wpAny_GeneratorExp_walksQTD hh hco hclos (fun x hx => by have := List.all_eq_true.mp hcell x hx; intro q; rw [q] at this; exact absurd this (by decide)) h0 hxa hxb hab hkind rm.room ?_ hs
  refine lv F hL hkE hlE hm ?_
  refine acc_iter (dc := dc) X ho hd ?_
  -- the iterator
  refine ⟨lim.push _, ?_⟩
  have ttab' := ttab.push { cls := .type "list_iterator", data := .fields #[.ref c, .int 0 0] }
  have tcode' := tcode.push { cls := .type "list_iterator", data := .fields #[.ref c, .int 0 0] }
  have fin : ∀ (code : Value) (h₃ : Heap) (tk₃ : Nat), Heap.ExtBut T (s.heap.push { cls := .type "list_iterator", data := .fields #[.ref c, .int 0 0] }) h₃ → s.heap.objs.size + 1 ≤ h₃.objs.size → (∃ vs, h₃.IsCode cc T vs ∧ h₃.TableAt cc T vs) →
      wpAny (model prog w) A (builtinsFor env.globals env.builtins) (fun bi s₄ =>
        ∃ I fp wr n₀ Pt St₀ Mid pz F, Value.ref s.heap.objs.size = .ref I ∧ (∀ A' : Around, A'.handled = none → WalksU prog w A' I fp wr n₀ Pt St₀ Mid) ∧ (∀ i vals, Pt i vals → ∃ va vb, vals = #[va, vb]) ∧ St₀ 0 s₄.heap ∧ (∀ b ∈ fp, b < s₄.heap.objs.size) ∧ s₄.heap.NoLimit ∧ cStatics ∉ wr ∧
          (∀ href : Heap, (∀ b o, s₄.heap.get? b = some o → href.get? b = some o) →
            QuietGenTD prog w (genEnv scope cl s₄.heap.objs.size code bi env) xa xb [] elt (List.range s₄.heap.objs.size) wr Pt pz F href (A.depth + 1) (A.units + 8)) ∧
          (∀ a h₅ tk gs, gs.bare = true → s₄.heap.objs.size < a → h₅.objs.size = a + 1 → (∀ b o, s₄.heap.get? b = some o → h₅.get? b = some o) →
            WalksS prog w A.in4 a (a :: s₄.heap.objs.size :: List.range s₄.heap.objs.size) (s₄.heap.objs.size :: wr) (GenOnlyQ s₄.gens.size) (passing pz n₀ 0).length
              (fun j y => ∃ i, (passing pz n₀ 0)[j]? = some i ∧ F i y) (GenAt prog w A.in4 a s₄.gens.size s₄.heap.objs.size (List.range s₄.heap.objs.size) wr pz n₀ F) →
            GenAt prog w A.in4 a s₄.gens.size s₄.heap.objs.size (List.range s₄.heap.objs.size) wr pz n₀ F 0 { s₄ with gens := s₄.gens.push gs, toks := tk, heap := h₅ } →
            Q (.ref a) { s₄ with gens := s₄.gens.push gs, toks := tk, heap := h₅ })) E
        { s with heap := h₃, toks := tk₃ } := fun code h₃ tk₃ hx₃ hge tb₃ => by
    have k₃ : ∀ b o, b ≠ T → s.heap.get? b = some o → h₃.get? b = some o := fun b o nb q => hx₃ b o nb (Heap.get?_push_of_some _ q)
    have g₃ : ∀ b o, g.get? b = some o → h₃.get? b = some o := fun b o q => k₃ b o (fun z => by rw [z, hT] at q; cases q) (F.base b o q)
    refine wpAny_builtinsFor (hgl ▸ hmg.keeps g₃) gbm gne (g₃ _ _ gob) gcls gdict gdat ?_
    have itNe : s.heap.objs.size ≠ T := Nat.ne_of_gt ltT
    refine ⟨s.heap.objs.size, s.heap.objs.size :: c :: refs vs, [s.heap.objs.size], ps.length, _, _, _, fun _ => true, Fv, rfl, fun A' hA => accWalks hA s.heap.objs.size c dc (Nat.ne_of_lt ltc) vs n ps (fun q => Nat.lt_irrefl _ (rI _ q)) hlen, ?_, ?_, ?_, B.lim.keeps g₃, ?_, ?_, ?_⟩
    · rintro i vals ⟨p, ta, tb, _, rfl⟩; exact ⟨_, _, rfl⟩
    · refine ⟨⟨_, hx₃ _ _ itNe (Heap.get?_push_size _ rfl), rfl, rfl⟩, k₃ _ _ cT ho, hv.monoMem fun v hvm p r => r.at fun t e o q => k₃ t o (fun z => rT (z ▸ mem_refs.mpr (e ▸ hvm))) q⟩
    · intro b hb
      show b < h₃.objs.size
      rcases List.mem_cons.mp hb with rfl | hb
      · exact hge
      · rcases List.mem_cons.mp hb with rfl | hb
        · exact Nat.lt_trans ltc hge
        · exact Nat.lt_trans (rI b hb) hge
    · intro q
      have := List.mem_singleton.mp q
      obtain ⟨_, hns, _⟩ := lim
      have := hns.lt
      exact absurd (‹cStatics = _› ▸ this) (Nat.lt_irrefl _)
    · intro href hhref
      have mk : ∀ (t : Shared) m₂, t.heap.Ns h₃.objs.size m₂ → (∀ b ∈ List.range h₃.objs.size, b ∉ [s.heap.objs.size] → ∀ o, href.get? b = some o → t.heap.get? b = some o) → Fw g t.heap h₃.objs.size t.heap m₂ := fun t m₂ hn hkp => by
        refine ⟨hn, fun b o q => ?_, ?_, fun _ _ _ q => q⟩
        · have h1 := Heap.lt_size (F.base b o q)
          exact hkp b (List.mem_range.mpr (Nat.lt_trans h1 hge)) (fun z => Nat.lt_irrefl _ (List.mem_singleton.mp z ▸ h1)) o (hhref b o (g₃ b o q))
        · cases q : g.get? h₃.objs.size with
          | none => rfl
          | some o => exact absurd (Nat.lt_trans (Heap.lt_size (F.base _ _ q)) hge) (Nat.lt_irrefl _)
      refine ⟨fun A' E' i va vb t m₂ hA hD hU hP hn hma hmb hkp => wpAny_pure ⟨rfl, ⟨t.heap, t.toks, rfl, fun _ _ q => q⟩⟩, fun A' E' i va vb t m₂ hA hD hU hP hp hn hma hmb hkp => ?_⟩
      obtain ⟨p, ta, tb, hp', e'⟩ := hP
      have e1 : va = .str p.1 ta := by injection e' with e'; injection e'
      have e2 : vb = .str p.2 tb := by injection e' with e'; injection e' with _ e'; injection e'
      subst e1 e2
      exact helt code h₃.objs.size A' E' i p ta tb t m₂ hA hD hU hp' (mk t m₂ hn hkp) hma hmb
    · intro a h₅ tk gs hgb hag hsz₅ hk₅ W hat
      rw [passing_all] at W
      have hag : h₃.objs.size < a := hag
      have hsz₅ : h₅.objs.size = a + 1 := hsz₅
      obtain ⟨vs₃, c₃, t₃⟩ := tb₃
      have e1 : (List.range ps.length).length = ps.length := by simp
      rw [e1] at W
      have W' := walksS_re (P' := Fv) W fun i v hi hP => by
        obtain ⟨j, hj, hF⟩ := hP
        have : j = i := by simpa [List.getElem?_range hi] using hj.symm
        exact this ▸ hF
      refine h a _ (fun b o nb q => hk₅ b o (k₃ b o nb q)) ⟨vs₃, c₃.keeps hk₅, t₃.keeps hk₅⟩ (fun q => AllBare.push q hgb) rfl ⟨_, _, _, _, W', hat, fun i s' st => st.1.typeIs, List.mem_cons_self, ?_, ?_⟩
      · intro b hb
        show b < h₅.objs.size
        have l1 : h₃.objs.size < h₅.objs.size := by omega
        rcases List.mem_cons.mp hb with rfl | hb
        · rw [hsz₅]; exact Nat.lt_succ_self _
        · rcases List.mem_cons.mp hb with rfl | hb
          · exact l1
          · exact Nat.lt_trans (List.mem_range.mp hb) l1
      · intro b hb
        rcases List.mem_cons.mp hb with rfl | hb
        · exact Nat.le_of_lt hge
        · obtain rfl := List.mem_singleton.mp hb; exact Nat.le_refl _
  cases q : codeAmong pos tv.toList with
  | some c' =>
    refine wpAny_genexprCode_hit (s := { s with heap := s.heap.push { cls := .type "list_iterator", data := .fields #[.ref c, .int 0 0] } }) hcode tcode' q ?_
    exact fin c' _ s.toks (fun b o _ q => q) (Nat.le_of_eq (Heap.size_push ..).symm) ⟨tv, tcode', ttab'⟩
  | none =>
    refine wpAny_genexprCodeX (s := { s with heap := s.heap.push { cls := .type "list_iterator", data := .fields #[.ref c, .int 0 0] } }) hcode tcode' ttab' q fun c' h₃ tk₃ hx₃ hge hlt hcode₃ _ htab₃ _ => ?_
    refine fin (.ref c') h₃ tk₃ hx₃ ?_ ⟨_, hcode₃, htab₃⟩
    have : (s.heap.push { cls := .type "list_iterator", data := .fields #[.ref c, .int 0 0] }).objs.size ≤ c' := hge
    rw [Heap.size_push] at this
    omega
end
end Mine
open PySem PySem.W PyProof.Rows PySem.Calls PySem.Spec
set_option Elab.async false
set_option maxRecDepth 100000
set_option maxHeartbeats 1000000
set_option linter.unusedVariables false
namespace Mine
theorem fn145 (P : Params) : FnOk P 145 := ⟨by kernel_rfl, by kernel_rfl, by kernel_rfl, by kernel_rfl, by kernel_rfl, by kernel_rfl, by kernel_rfl⟩
theorem fn152 (P : Params) : FnOk P 152 := ⟨by kernel_rfl, by kernel_rfl, by kernel_rfl, by kernel_rfl, by kernel_rfl, by kernel_rfl, by kernel_rfl⟩
noncomputable def sizeOf1 (p : PySem.Str × PySem.Str) : Int := (p.1.length : Int) + (p.2.length : Int)
noncomputable def sizeAll (ps : List (PySem.Str × PySem.Str)) : Int := (ps.map sizeOf1).sum
noncomputable def SmallT (ps : List (PySem.Str × PySem.Str)) : Prop := ∀ p ∈ ps, p.1.length ≤ 10000 ∧ p.2.length ≤ 10000
theorem preSum_all (ps : List (PySem.Str × PySem.Str)) (val : Nat → Int) (h : ∀ i p, ps[i]? = some p → val i = sizeOf1 p) : preSum val ps.length = sizeAll ps := by
  have : ∀ n, n ≤ ps.length → preSum val n = ((ps.take n).map sizeOf1).sum := by
    intro n
    induction n with
    | zero => intro _; simp [preSum]
    | succ n ih =>
      intro hn
      have hn' : n < ps.length := hn
      rw [preSum, ih (by omega), h n ps[n] (by simp)]
      rw [List.take_succ_eq_append_getElem hn', List.map_append, List.sum_append]; simp [sizeOf1]
  have := this ps.length (Nat.le_refl _)
  rw [this, List.take_length]; rfl
section
variable {w : World} {A : Around} {s : Shared} {g : Heap} {c dc : Addr} {k : Int} {ps : List (PySem.Str × PySem.Str)} {R : Result → Shared → Prop}
theorem len_ct (B : Bs w g) (kb : ∀ b o, g.get? b = some o → s.heap.get? b = some o) (rm : Rm A 3) (ac : AccAt w.params s.heap c dc k ps) (tb : Tb s.heap) (hz : SmallT ps)
    (h : ∀ s' t, Up [140] s s' → Tb s'.heap → R (.ok (.ret (.int (k + sizeAll ps) t))) s') :
    codeAny (model prog w) A (.call (.ref 145) ⟨[.ref c], []⟩) R s := by
  refine enter (binds := [("self", .ref c)]) (fn145 _) B kb rm (by kernel_rfl) (by kernel_rfl) fun h₁ L hL F K₁ rm' => ?_
  have ac₁ : AccAt w.params h₁ c dc k ps := ac.ext (X := []) (fun b o _ q => K₁ b o q) (fun b hb => by cases hb) (by simp) (by simp)
  obtain ⟨⟨tv, tc, tt⟩, tb2⟩ := tb
  refine wpAny_execs_cons ?_
  refine wpAny_Return_some ?_
  refine Call_ ?_
  refine bv B F (by kernel_rfl) (v := .builtin "sum") (by decide +kernel) (fn145 w.params).kind rfl (by kernel_rfl) (by kernel_rfl) ?_
  refine PyProof.Rows.callWith_builtin1 ?_
  with_reducible refine args_cons ?_ (by with_unfolding_all rfl)
  refine acc_gen (cc := 144) (T := 140) (L := L) (cl := []) B F (by kernel_rfl) B.tabs.1 rfl (fn145 w.params).kind rfl rfl ac₁ ⟨tv, tc.keeps K₁, tt.keeps K₁⟩ (by kernel_rfl) rm'.mono rfl (by with_unfolding_all rfl) (by kernel_rfl) rfl rfl rfl (by decide) rfl (fun x => by with_unfolding_all rfl) (fun i y => ∃ p t, ps[i]? = some p ∧ y = .int (sizeOf1 p) t) ?_ ?_
  · intro code C A' E' i p ta tb t m₂ hA hD hU hp F₂ ha hb
    have hz' := hz p (List.mem_of_getElem? hp)
    refine wpAny_BinOp ?_
    refine Call_ ?_
    refine bv B F₂ (by kernel_rfl) (v := .builtin "len") (by decide +kernel) rfl rfl (by kernel_rfl) rfl ?_
    refine PyProof.Rows.callWith_builtin1 ?_
    with_reducible refine args_cons ?_ (by with_unfolding_all rfl)
    refine lv F₂ rfl rfl rfl ha ?_
    refine args_nil ?_
    refine len_str (by omega) ?_
    refine Call_ ?_
    refine bv B (s := { t with toks := t.toks + 1 + 1 }) F₂ (by kernel_rfl) (v := .builtin "len") (by decide +kernel) rfl rfl (by kernel_rfl) rfl ?_
    refine PyProof.Rows.callWith_builtin1 ?_
    with_reducible refine args_cons ?_ (by with_unfolding_all rfl)
    refine lv (s := { t with toks := t.toks + 1 + 1 }) F₂ rfl rfl rfl hb ?_
    refine args_nil ?_
    refine len_str (by omega) ?_
    refine add_int ?_
    exact ⟨⟨p, _, hp, rfl⟩, ⟨t.heap, _, rfl, fun _ _ q => q⟩⟩
  · intro a s₅ k₅ tb₅ ab₅ os₅ G
    have F₅ : Fw g s₅.heap L s₅.heap (fun y => List.lookup y [("self", .ref c)]) := F.up (X := [140]) (fun b o nb q => k₅ b o (by simpa using nb) q) (fun z => by
      have e : L = 140 := by simpa using z
      have := Heap.lt_size tt.2
      rw [hL] at e; exact absurd (e ▸ this) (Nat.lt_irrefl _)) (fun x hx => (List.mem_singleton.mp hx) ▸ B.tabs.1)
    obtain ⟨⟨vs, n, ho, hv⟩, t, u, n', hd⟩ := ac₁
    have ho₅ := k₅ _ _ (fun q => by rw [q] at ho; rw [(tt.keeps K₁).2] at ho; cases ho) ho
    have hd₅ := k₅ _ _ (fun q => by rw [q] at hd; rw [(tt.keeps K₁).2] at hd; cases hd) hd
    with_reducible refine args_cons ?_ (by with_unfolding_all rfl)
    refine Attribute_any_ ?_
    refine lv F₅ rfl (fn145 w.params).kind rfl rfl ?_
    refine acc_get (dc := dc) (v := .int k u) (B.at F₅.base) ho₅ hd₅ (by kernel_rfl) rfl ?_
    refine args_nil ?_
    obtain ⟨fp, wr, gq, St, W, hst, hT, ha, hfp, hwr⟩ := G
    have W1 := W.in4_1
    have st1 : St 0 { s₅ with toks := s₅.toks + 1 } := W.frame 0 s₅ s₅.heap (s₅.toks + 1) hst (Nat.le_succ _) fun _ _ _ q => q
    refine call_sum_from (W1.self 0 _ _ _ st1 ⟨a, fp, wr, _, ps.length, _, St, fun i => match ps[i]? with | some p => sizeOf1 p | none => 0, rfl, W1, st1, hfp, ?_, ?_⟩)
    · rintro i v ⟨p, t, hp, rfl⟩; exact ⟨t, by simp [hp]⟩
    · intro s' t' hm
      rw [preSum_all ps _ (fun i p hp => by simp [hp])]
      have kk : ∀ b o, b ≠ 140 → s.heap.get? b = some o → s'.heap.get? b = some o := fun b o nb q => hm.heap b o (fun z => by
        have h1 := hwr b z
        have h2 := Heap.lt_size (K₁ _ _ q)
        exact absurd h2 (Nat.not_lt.mpr h1)) (k₅ b o nb (K₁ b o q))
      have tb' : ∀ cd T vs, T < h₁.objs.size → cd < h₁.objs.size → s₅.heap.IsCode cd T vs → s₅.heap.TableAt cd T vs → s'.heap.IsCode cd T vs ∧ s'.heap.TableAt cd T vs := fun cd T vs hT hc i1 i2 => by
        have mv : ∀ b o, b < h₁.objs.size → s₅.heap.get? b = some o → s'.heap.get? b = some o := fun b o hb q => hm.heap b o (fun z => absurd hb (Nat.not_lt.mpr (hwr b z))) q
        obtain ⟨o, vs', file, tf, flags, tg, inF, text, tt, op, z1, r1, r2, r3, r4, r5, r6, z2, r⟩ := i1
        obtain ⟨⟨o', vs'', y1, y2⟩, y3⟩ := i2
        exact ⟨⟨o, vs', file, tf, flags, tg, inF, text, tt, op, mv _ _ hc z1, r1, r2, r3, r4, r5, r6, mv _ _ hT z2, r⟩, ⟨o', vs'', mv _ _ hc y1, y2⟩, mv _ _ hT y3⟩
      refine h s' t' ⟨fun b o nb q => kk b o (by simpa using nb) q, fun q => AllBare.movedS (s := { s₅ with toks := s₅.toks + 1 }) (ab₅ q) hm, hm.os.trans os₅⟩ ⟨?_, ?_⟩
      · obtain ⟨vs₅, a1, a2⟩ := tb₅
        exact ⟨vs₅, tb' 144 140 vs₅ (Heap.lt_size (K₁ _ _ tt.2)) (tc.keeps K₁).lt.1 a1 a2⟩
      · obtain ⟨vs2, b1, b2⟩ := tb2
        have := (b1.keeps K₁).lt
        exact ⟨vs2, b1.extBut (a := 140) (fun b o nb q => kk b o nb q) (by decide) (by decide), b2.extBut (a := 140) (fun b o nb q => kk b o nb q) (by decide) (by decide)⟩
end
end Mine
open PySem PySem.W PyProof.Rows PySem.Calls PySem.Spec
set_option Elab.async false
set_option maxRecDepth 100000
set_option maxHeartbeats 1000000
set_option linter.unusedVariables false
namespace Mine
/-- texts by their signs -/
noncomputable def tx (l : List Nat) : PySem.Str := ⟨l.toArray⟩
noncomputable def sg (x : PySem.Str) : List Nat := x.cps.toList
theorem tx_sg (x : PySem.Str) : tx (sg x) = x := by cases x; rfl
theorem sg_tx (l : List Nat) : sg (tx l) = l := rfl
theorem sg_length (x : PySem.Str) : (sg x).length = x.length := by cases x; rfl
theorem sg_append (x y : PySem.Str) : sg (x ++ y) = sg x ++ sg y := by
  show (x.cps ++ y.cps).toList = _
  rw [Array.toList_append]; rfl
theorem sg_inj {x y : PySem.Str} (h : sg x = sg y) : x = y := by rw [← tx_sg x, ← tx_sg y, h]
theorem sg_glued_nil (l : List PySem.Str) : sg (Txt.join "" l) = l.flatMap sg := by
  unfold Txt.join Builtin.Str.glued
  have key : ∀ (r : List PySem.Str) (a : Array Nat), (r.foldl (fun acc p => acc ++ ("" : PySem.Str).cps ++ p.cps) a).toList = a.toList ++ r.flatMap sg := by
    intro r
    induction r with
    | nil => intro a; simp
    | cons x r ih =>
      intro a
      rw [List.foldl_cons, ih, List.flatMap_cons, ← List.append_assoc]
      congr 1
      rw [Array.toList_append, Array.toList_append]
      have : ("" : PySem.Str).cps.toList = [] := by decide +kernel
      rw [this, List.append_nil]; rfl
  cases l with
  | nil => rfl
  | cons x r => show (r.foldl _ x.cps).toList = _; rw [key]; rfl
noncomputable def catAll (ps : List (PySem.Str × PySem.Str)) : PySem.Str := tx (ps.flatMap fun p => sg p.1 ++ sg p.2)
theorem join_two (a b : PySem.Str) : Txt.join "" [a, b] = tx (sg a ++ sg b) := sg_inj (by rw [sg_glued_nil]; simp [sg_tx])
theorem join_cat (ps : List (PySem.Str × PySem.Str)) : Txt.join "" (ps.map fun p => tx (sg p.1 ++ sg p.2)) = catAll ps := sg_inj (by
  rw [sg_glued_nil, catAll, sg_tx, List.flatMap_map]
  simp [sg_tx])
section
variable {w : World} {A : Around} {s : Shared} {g : Heap} {c dc : Addr} {k : Int} {ps : List (PySem.Str × PySem.Str)} {R : Result → Shared → Prop}
theorem es_tok (P : Params) : ∃ t, nsIn (KK P) mainGlobals "EMPTYSTRING" = some (some (.str "" t)) := ⟨_, by with_unfolding_all rfl⟩
theorem tb_keep {s s' : Shared} {T : Addr} {wr : List Addr} {n : Nat} (hwr : ∀ b ∈ wr, n ≤ b) {c P : Addr} {vs : Array Value} (mv : ∀ b o, b ∉ wr → s.heap.get? b = some o → s'.heap.get? b = some o) (hc : c < n) (hP : P < n)
    (i1 : s.heap.IsCode c P vs) (i2 : s.heap.TableAt c P vs) : s'.heap.IsCode c P vs ∧ s'.heap.TableAt c P vs := by
  have mv : ∀ b o, b < n → s.heap.get? b = some o → s'.heap.get? b = some o := fun b o hb q => mv b o (fun z => absurd hb (Nat.not_lt.mpr (hwr b z))) q
  obtain ⟨o, vs', file, tf, flags, tg, inF, text, tt, op, z1, r1, r2, r3, r4, r5, r6, z2, r⟩ := i1
  obtain ⟨⟨o', vs'', y1, y2⟩, y3⟩ := i2
  exact ⟨⟨o, vs', file, tf, flags, tg, inF, text, tt, op, mv _ _ hc z1, r1, r2, r3, r4, r5, r6, mv _ _ hP z2, r⟩, ⟨o', vs'', mv _ _ hc y1, y2⟩, mv _ _ hP y3⟩
theorem str_ct (B : Bs w g) (kb : ∀ b o, g.get? b = some o → s.heap.get? b = some o) (rm : Rm A 3) (ac : AccAt w.params s.heap c dc k ps) (tb : Tb s.heap) (hz : SmallT ps) (hz' : ps.length ≤ 40)
    (h : ∀ s' t, Up [147] s s' → Tb s'.heap → R (.ok (.ret (.str (catAll ps) t))) s') :
    codeAny (model prog w) A (.call (.ref 152) ⟨[.ref c], []⟩) R s := by
  refine enter (binds := [("self", .ref c)]) (fn152 _) B kb rm (by kernel_rfl) (by kernel_rfl) fun h₁ L hL F K₁ rm' => ?_
  have ac₁ : AccAt w.params h₁ c dc k ps := ac.ext (X := []) (fun b o _ q => K₁ b o q) (fun b hb => by cases hb) (by simp) (by simp)
  obtain ⟨tb1, tv, tc, tt⟩ := tb
  obtain ⟨te, hte⟩ := es_tok w.params
  refine wpAny_execs_cons ?_
  refine wpAny_Return_some ?_
  refine MethodCall_ ?_
  refine gv B F hte (fn152 w.params).kind rfl (by kernel_rfl) ?_
  refine GM.join ?_
  refine callWith_method1 ?_
  with_reducible refine args_cons ?_ (by with_unfolding_all rfl)
  refine acc_gen (cc := 151) (T := 147) (L := L) (cl := []) B F (by kernel_rfl) B.tabs.2 rfl (fn152 w.params).kind rfl rfl ac₁ ⟨tv, tc.keeps K₁, tt.keeps K₁⟩ (by kernel_rfl) rm'.mono rfl (by with_unfolding_all rfl) (by kernel_rfl) rfl rfl rfl (by decide) rfl (fun x => by with_unfolding_all rfl) (fun i y => ∃ p t, ps[i]? = some p ∧ y = .str (tx (sg p.1 ++ sg p.2)) t) ?_ ?_
  · intro code C A' E' i p ta tb t m₂ hA hD hU hp F₂ ha hb
    have hz' := hz p (List.mem_of_getElem? hp)
    refine MethodCall_ ?_
    refine gv B F₂ hte rfl rfl (by kernel_rfl) ?_
    refine GM.join ?_
    refine callWith_method1 ?_
    with_reducible refine args_cons ?_ (by with_unfolding_all rfl)
    with_reducible refine Tuple_ ?_
    with_reducible refine args_cons ?_ (by with_unfolding_all rfl)
    refine lv F₂ rfl rfl rfl ha ?_
    with_reducible refine args_cons ?_ (by with_unfolding_all rfl)
    refine lv F₂ rfl rfl rfl hb ?_
    refine args_nil ?_
    unfold newTuple
    refine wpAny_newObj_type ?_
    refine args_nil ?_
    refine join_tupleW (ys := [p.1, p.2]) ⟨_, Heap.get?_push_size _ rfl, rfl, 0, rfl⟩ (.cons _ _ (.cons _ _ .nil)) (Nat.zero_le _) ?_ ?_
    · simp only [List.map_cons, List.map_nil, List.sum_cons, List.sum_nil, List.length_cons, List.length_nil]; omega
    intro t' k'
    refine ⟨⟨p, t', hp, by rw [join_two]⟩, ⟨_, _, rfl, fun b o q => Heap.get?_push_of_some _ q⟩⟩
  · intro a s₅ k₅ tb₅ ab₅ os₅ G
    refine args_nil ?_
    obtain ⟨fp, wr, gq, St, W, hst, hT, ha, hfp, hwr⟩ := G
    refine SC.joinGen W.in4_2 hT hst hfp ha (fun j v ⟨p, t, _, e⟩ => ⟨_, t, e⟩) (fun s' lt hm hacc => ?_) (by rw [sizeLine_eq]; omega)
    have hl : lt.map (·.1) = ps.map fun p => tx (sg p.1 ++ sg p.2) := by
      apply List.ext_getElem?
      intro j
      have hsz : lt.length = ps.length := by simpa [strValues] using hacc.1
      by_cases hj : j < ps.length
      · have hj' : j < lt.length := hsz ▸ hj
        obtain ⟨p, u, hp, hv⟩ := hacc.2 j (.str lt[j].1 lt[j].2) (by simp [strValues, List.getElem?_eq_getElem hj'])
        injection hv with h1 _
        rw [List.getElem?_map, List.getElem?_map, hp, List.getElem?_eq_getElem hj']
        simp [h1]
      · rw [List.getElem?_eq_none (by simpa [hsz] using Nat.le_of_not_lt hj), List.getElem?_eq_none (by simpa using Nat.le_of_not_lt hj)]
    rw [hl, join_cat]
    have kk : ∀ b o, b ≠ 147 → s.heap.get? b = some o → s'.heap.get? b = some o := fun b o nb q => hm.heap b o (fun z => by
        have h1 := hwr b z
        have h2 := Heap.lt_size (K₁ _ _ q)
        exact absurd h2 (Nat.not_lt.mpr h1)) (k₅ b o nb (K₁ b o q))
    refine ⟨joinOk_of_weight ?_ (Nat.zero_le _), fun t' k' => ?_⟩
    · have : ∀ (l : List (PySem.Str × PySem.Str)), SmallT l → (List.map (fun x => x.length) (l.map fun p => tx (sg p.1 ++ sg p.2))).sum ≤ 20000 * l.length := by
        intro l
        induction l with
        | nil => intro _; simp
        | cons p l ih =>
          intro hs
          have h1 := ih fun q hq => hs q (by simp [hq])
          have h2 := hs p (by simp)
          have h3 : (tx (sg p.1 ++ sg p.2)).length = p.1.length + p.2.length := by
            rw [← sg_length, sg_tx, List.length_append, sg_length, sg_length]
          simp only [List.map_cons, List.sum_cons, List.length_cons, h3]
          omega
      have h1 := this ps hz
      rw [List.length_map]
      omega
    refine h _ t' ⟨fun b o nb q => kk b o (by simpa using nb) q, fun q => AllBare.movedS (s' := s') (ab₅ q) hm, hm.os.trans os₅⟩ ⟨?_, ?_⟩
    · obtain ⟨vs2, b1, b2⟩ := tb1
      exact ⟨vs2, b1.extBut (a := 147) (fun b o nb q => kk b o nb q) (by decide) (by decide), b2.extBut (a := 147) (fun b o nb q => kk b o nb q) (by decide) (by decide)⟩
    · obtain ⟨vs₅, a1, a2⟩ := tb₅
      exact ⟨vs₅, tb_keep (s := s₅) (s' := s') (T := 0) hwr hm.heap (tc.keeps K₁).lt.1 (Heap.lt_size (K₁ _ _ tt.2)) a1 a2⟩
end
end Mine
open PySem PySem.W PyProof.Rows PySem.Calls PySem.Spec
set_option Elab.async false
set_option maxRecDepth 100000
set_option maxHeartbeats 1000000
set_option linter.unusedVariables false
namespace Mine
open Builtin.Str in
theorem occ_skip (x y : PySem.Str) (hi limit : Nat) : ∀ (l r : List Nat) (st : Array Nat × Nat), (∀ i ∈ l, ¬ (((st.fst.size < limit ∧ st.snd ≤ i) ∧ i + y.length ≤ hi) ∧ subAt x y i = true)) →
    forIn (m := Id) (l ++ r) st (StrLaws.occBody x y hi limit) = forIn (m := Id) r st (StrLaws.occBody x y hi limit)
  | [], r, st, _ => rfl
  | a :: l, r, st, h => by
    have ha := h a (by simp)
    rw [List.cons_append, List.forIn_cons]
    unfold StrLaws.occBody
    rw [if_neg ha]
    exact occ_skip x y hi limit l r st fun i hi' => h i (by simp [hi'])
theorem sub_one (l : List Nat) (c i : Nat) : (i + (⟨#[c]⟩ : PySem.Str).length ≤ (tx l).length ∧ Builtin.Str.subAt (tx l) ⟨#[c]⟩ i = true) ↔ l[i]? = some c := StrLaws.subAt_one (tx l) c i
theorem tx_length (l : List Nat) : (tx l).length = l.length := by rw [← sg_length, sg_tx]
theorem occ_first (k v : List Nat) (c : Nat) (hk : c ∉ k) : Builtin.Str.occurrences (tx (k ++ c :: v)) ⟨#[c]⟩ 0 (tx (k ++ c :: v)).length 1 = [k.length] := by
  rw [StrLaws.occ_eq]
  have hlen : (tx (k ++ c :: v)).length = k.length + 1 + v.length := by rw [tx_length]; simp; omega
  have hr : List.range' 0 ((tx (k ++ c :: v)).length + 1 - 0) = List.range' 0 k.length ++ k.length :: List.range' (k.length + 1) (v.length + 1) := by
    have e : (tx (k ++ c :: v)).length + 1 - 0 = k.length + (1 + (v.length + 1)) := by rw [hlen]; omega
    rw [e, ← List.range'_append_1, Nat.zero_add, Nat.add_comm 1, List.range'_succ]
  rw [hr, occ_skip _ _ _ _ _ _ _ (fun i hi hc => ?_)]
  · rw [List.forIn_cons]
    have hs := (sub_one (k ++ c :: v) c k.length).mpr (by simp)
    have c1 : ((((#[] : Array Nat), 0).fst.size < 1 ∧ ((#[] : Array Nat), 0).snd ≤ k.length) ∧ k.length + (⟨#[c]⟩ : PySem.Str).length ≤ (tx (k ++ c :: v)).length) ∧ Builtin.Str.subAt (tx (k ++ c :: v)) ⟨#[c]⟩ k.length = true := ⟨⟨⟨by simp, Nat.zero_le _⟩, hs.1⟩, hs.2⟩
    unfold StrLaws.occBody
    rw [if_pos c1]
    have := occ_skip (tx (k ++ c :: v)) ⟨#[c]⟩ (tx (k ++ c :: v)).length 1 (List.range' (k.length + 1) (v.length + 1)) [] ((#[] : Array Nat).push k.length, k.length + (⟨#[c]⟩ : PySem.Str).length) (fun i hi hc => by
      have := hc.1.1.1
      simp at this)
    rw [List.append_nil] at this
    show (forIn (m := Id) _ _ (StrLaws.occBody _ _ _ _)).run.fst.toList = _
    rw [this]
    rfl
  · have h1 := (sub_one (k ++ c :: v) c i).mp ⟨hc.1.2, hc.2⟩
    have h2 : i < k.length := by simpa [List.mem_range'] using hi
    rw [List.getElem?_append_left h2] at h1
    exact hk (List.mem_of_getElem? h1)
theorem strSub_tx (l : List Nat) (i j : Nat) : Builtin.Str.strSub (tx l) i j = tx ((l.drop i).take (j - i)) := by
  unfold Builtin.Str.strSub tx
  congr 1
  rw [List.extract_toArray, List.extract_eq_take_drop]
theorem split_first (k v : List Nat) (c : Nat) (hk : c ∉ k) : Builtin.Str.partsBetween (tx (k ++ c :: v)) (Builtin.Str.occurrences (tx (k ++ c :: v)) ⟨#[c]⟩ 0 (tx (k ++ c :: v)).length 1) 1 = [tx k, tx v] := by
  rw [occ_first k v c hk]
  unfold Builtin.Str.partsBetween
  simp only [List.map_cons, List.map_nil, List.cons_append, List.nil_append, List.zip_cons_cons, List.zip_nil_right]
  rw [strSub_tx, strSub_tx, tx_length]
  congr 1
  · congr 1; simp
  · congr 2
    have e : (k ++ c :: v).length - (k.length + 1) = v.length := by simp; omega
    rw [e]
    have : k ++ c :: v = (k ++ [c]) ++ v := by simp
    rw [this, List.drop_left' (by simp), List.take_length]
end Mine
open PySem PySem.W PyProof.Rows PySem.Calls PySem.Spec
set_option Elab.async false
set_option maxRecDepth 100000
set_option maxHeartbeats 1000000
set_option linter.unusedVariables false
namespace Mine
open Builtin.Str in
theorem mid_idx (n : Nat) : strSliceIndices (some 1) (some (-1)) 1 (n + 2) = (List.range n).map (· + 1) := by
  unfold strSliceIndices sliceRange
  simp only [show (1 : Int) > 0 by decide, if_true, Int.ediv_one]
  have e1 : (max (0 : Int) (min (if (1 : Int) < 0 then 1 + ((n + 2 : Nat) : Int) else 1) ((n + 2 : Nat) : Int))) = 1 := by simp; omega
  have e2 : (max (0 : Int) (min (if (-1 : Int) < 0 then -1 + ((n + 2 : Nat) : Int) else -1) ((n + 2 : Nat) : Int))) = (n : Int) + 1 := by simp; omega
  rw [e1, e2]
  have e3 : (if (1 : Int) < (n : Int) + 1 then (n : Int) + 1 - 1 + 1 - 1 else 0).toNat = n := by split <;> omega
  rw [e3]
  apply List.map_congr_left
  intro k _
  omega
theorem filterMap_some {α β : Type} {l : List α} {f : α → Option β} {g : α → β} (h : ∀ k ∈ l, f k = some (g k)) : l.filterMap f = l.map g := by
  induction l with
  | nil => rfl
  | cons a l ih => rw [List.filterMap_cons, h a (by simp), List.map_cons, ih fun k hk => h k (by simp [hk])]
theorem filterMap_mid (a b : Nat) (mid : List Nat) : ((List.range mid.length).map (· + 1)).filterMap ((a :: (mid ++ [b])).toArray[·]?) = mid := by
  rw [List.filterMap_map]
  have : ∀ k, k ∈ List.range mid.length → (((a :: (mid ++ [b])).toArray[·]?) ∘ (· + 1)) k = some (mid.getD k 0) := by
    intro k hk
    have hk := List.mem_range.mp hk
    simp [hk, List.getElem?_append_left]
  rw [filterMap_some this]
  apply List.ext_getElem
  · simp
  · intro i h1 h2
    simp at h1
    simp [h1]
theorem slice_mid (a b : Nat) (mid : List Nat) : Txt.slice (tx (a :: (mid ++ [b]))) (some 1) (some (-1)) = tx mid := by
  unfold Txt.slice
  have hl : (tx (a :: (mid ++ [b]))).length = mid.length + 2 := by rw [tx_length]; simp
  rw [hl, mid_idx]
  rw [if_neg (by simp)]
  unfold tx
  congr 2
  exact filterMap_mid a b mid
theorem item_first (a : Nat) (l : List Nat) : Txt.item (tx (a :: l)) 0 = ⟨#[a]⟩ := by
  unfold Txt.item Txt.charAt
  have hk : seqIndex? 0 (tx (a :: l)).length = some 0 := by rw [tx_length]; unfold seqIndex?; simp
  rw [hk]; rfl
theorem item_last (l : List Nat) (b : Nat) : Txt.item (tx (l ++ [b])) (-1) = ⟨#[b]⟩ := by
  unfold Txt.item Txt.charAt
  have hl : (tx (l ++ [b])).length = l.length + 1 := by rw [tx_length]; simp
  have hk : seqIndex? (-1) (tx (l ++ [b])).length = some l.length := by
    rw [hl, seqIndex_neg (by omega) (by omega)]; congr 1; omega
  have hg : (tx (l ++ [b])).cps[l.length]? = some b := by
    show (l ++ [b]).toArray[l.length]? = _
    simp
  rw [hk, Option.bind_some, hg]; rfl
end Mine
open PySem PySem.W PyProof.Rows PySem.Calls PySem.Spec
set_option Elab.async false
set_option maxRecDepth 100000
set_option maxHeartbeats 1000000
set_option linter.unusedVariables false
namespace Mine
noncomputable def signs6 : List Nat := [120, 44, 34, 92, 61, 32]
noncomputable def mstep (st : List Nat × Nat) : List Nat × Nat := (st.1 ++ [signs6.getD (st.2 % 6) 0], st.2 / 6)
noncomputable def miter (r : Nat) : Nat → List Nat × Nat
  | 0 => ([], r)
  | k + 1 => mstep (miter r k)
/-- what a number means -/
noncomputable def meantOf (n : Nat) : List Nat := (miter (n / 4) (n % 4)).1
theorem miter_len (r : Nat) : ∀ k, (miter r k).1.length = k
  | 0 => rfl
  | k + 1 => by simp [miter, mstep, miter_len r k]
theorem miter_snd_le (r : Nat) : ∀ k, (miter r k).2 ≤ r
  | 0 => Nat.le_refl _
  | k + 1 => Nat.le_trans (Nat.div_le_self _ _) (miter_snd_le r k)
theorem signs6_mem (i : Nat) (h : i < 6) : signs6.getD i 0 ∈ signs6 := by
  have : signs6.length = 6 := rfl
  rw [List.getD_eq_getElem?_getD, List.getElem?_eq_getElem (by omega)]
  exact List.getElem_mem _
theorem miter_mem (r : Nat) : ∀ k, ∀ c ∈ (miter r k).1, c ∈ signs6
  | 0, c, h => by simp [miter] at h
  | k + 1, c, h => by
    rcases List.mem_append.mp h with h | h
    · exact miter_mem r k c h
    · rw [List.mem_singleton.mp h]; exact signs6_mem _ (Nat.mod_lt _ (by decide))
theorem meant_mem (n : Nat) : ∀ c ∈ meantOf n, c ∈ signs6 := miter_mem _ _
theorem meant_len (n : Nat) : (meantOf n).length ≤ 3 := by
  unfold meantOf; rw [miter_len]; omega
/-- it may stand without quotes -/
noncomputable def bareOk (ms : List Nat) : Bool := decide (ms ≠ []) && !decide (44 ∈ ms) && !decide (34 ∈ ms) && !decide (32 ∈ ms)
noncomputable def pre2 (d : Nat) : List Nat := if d = 1 then [34, 34] else []
noncomputable def post2 (d : Nat) : List Nat := if d = 2 then [34, 34] else []
/-- pair[0] -/
noncomputable def pairM (n : Nat) : List Nat := if bareOk (meantOf n) = true then pre2 (n / 288) ++ meantOf n ++ post2 (n / 288) else meantOf n
noncomputable def esc1 (ms : List Nat) : List Nat := ms.flatMap fun c => if c = 92 then [92, 92] else if c = 34 then [92, 34] else [c]
noncomputable def headOf (p : Nat) : List Nat := [97 + p, 61]
/-- pair[1] -/
noncomputable def pairS (p n : Nat) : List Nat := if bareOk (meantOf n) = true then headOf p ++ pairM n else headOf p ++ [34] ++ meantOf n ++ [34]
/-- pair[2] -/
noncomputable def pairW (p n : Nat) (b : List Nat) : List Nat := if bareOk (meantOf n) = true then headOf p ++ pairM n ++ b else headOf p ++ [34] ++ esc1 (meantOf n) ++ [34] ++ b
/-- what is asked of a number: its quotes and backslashes are escaped as esc1 does, and it stays short -/
noncomputable def sp2 (n : Nat) : Bool := Txt.replace (Txt.replace (tx (meantOf n)) "\\" "\\\\") "\"" "\\\"" == tx (esc1 (meantOf n)) && decide ((Txt.replace (tx (meantOf n)) "\\" "\\\\").length ≤ 10)
theorem sp2_0 : ∀ i : Fin 108, sp2 (0 + i.1) = true := by decide +kernel
theorem sp2_1 : ∀ i : Fin 108, sp2 (108 + i.1) = true := by decide +kernel
theorem sp2_2 : ∀ i : Fin 108, sp2 (216 + i.1) = true := by decide +kernel
theorem sp2_3 : ∀ i : Fin 108, sp2 (324 + i.1) = true := by decide +kernel
theorem sp2_4 : ∀ i : Fin 108, sp2 (432 + i.1) = true := by decide +kernel
theorem sp2_5 : ∀ i : Fin 108, sp2 (540 + i.1) = true := by decide +kernel
theorem sp2_6 : ∀ i : Fin 108, sp2 (648 + i.1) = true := by decide +kernel
theorem sp2_7 : ∀ i : Fin 108, sp2 (756 + i.1) = true := by decide +kernel
theorem spelled2 : ∀ n, n < 864 → Txt.replace (Txt.replace (tx (meantOf n)) "\\" "\\\\") "\"" "\\\"" = tx (esc1 (meantOf n)) ∧ (Txt.replace (tx (meantOf n)) "\\" "\\\\").length ≤ 10 := by
  intro n hn
  have key : sp2 n = true := by
    have at_ : ∀ (b : Nat), (∀ i : Fin 108, sp2 (b + i.1) = true) → b ≤ n → n < b + 108 → sp2 n = true := by
      intro b h l u
      have := h ⟨n - b, by omega⟩
      rwa [show b + (n - b) = n by omega] at this
    by_cases c0 : n < 108
    · exact at_ 0 sp2_0 (by omega) (by omega)
    by_cases c1 : n < 216
    · exact at_ 108 sp2_1 (by omega) (by omega)
    by_cases c2 : n < 324
    · exact at_ 216 sp2_2 (by omega) (by omega)
    by_cases c3 : n < 432
    · exact at_ 324 sp2_3 (by omega) (by omega)
    by_cases c4 : n < 540
    · exact at_ 432 sp2_4 (by omega) (by omega)
    by_cases c5 : n < 648
    · exact at_ 540 sp2_5 (by omega) (by omega)
    by_cases c6 : n < 756
    · exact at_ 648 sp2_6 (by omega) (by omega)
    exact at_ 756 sp2_7 (by omega) (by omega)
  unfold sp2 at key
  simpa using key
end Mine
open PySem PySem.W PyProof.Rows PySem.Calls PySem.Spec
set_option Elab.async false
set_option maxRecDepth 100000
set_option maxHeartbeats 1000000
set_option linter.unusedVariables false
namespace Mine
/-- the strange ones ahead of j -/
noncomputable def strangeAt (W : Int) (lens : List Int) (j : Nat) : List Nat := (List.range j).filter fun i => decide (W < ((lens.drop i).take (j + 1 - i)).sum)
noncomputable def markAt (W : Int) (lens ms : List Int) (j : Nat) : Int := match (strangeAt W lens j).getLast? with
  | some i => ms.getD i 0 + W
  | none => min (lens.take (j + 1)).sum W - 1
noncomputable def marksOf (W : Int) (lens : List Int) : Nat → List Int
  | 0 => []
  | j + 1 => marksOf W lens j ++ [markAt W lens (marksOf W lens j) j]
theorem marksOf_len (W : Int) (lens : List Int) : ∀ j, (marksOf W lens j).length = j
  | 0 => rfl
  | j + 1 => by simp [marksOf, marksOf_len W lens j]
end Mine
open PySem PySem.W PyProof.Rows PySem.Calls PySem.Spec
set_option Elab.async false
set_option maxRecDepth 100000
set_option maxHeartbeats 1000000
set_option linter.unusedVariables false
namespace Mine
section
variable {w : World} {A : Around} {E : Value → Shared → Prop} {s : Shared} {g : Heap} {c dc : Addr} {k : Int} {ps : List (PySem.Str × PySem.Str)}
theorem AccAt.inst {P : Params} {h : Heap} (ac : AccAt P h c dc k ps) : ∃ ox od, PySem.W.InstAt h c ox 178 (some od) ∧ (∃ vs n, ox = accObj dc vs n) ∧ ∃ t u n, od = accDict P k t u n := by
  obtain ⟨⟨vs, n, ho, hv⟩, t, u, n', hd⟩ := ac
  exact ⟨_, _, ⟨ho, rfl, rfl, hd⟩, ⟨_, _, rfl⟩, t, u, n', rfl⟩
theorem len_tree {Q : Fin → Shared → Prop} (B : Bs w g) (kb : ∀ b o, g.get? b = some o → s.heap.get? b = some o) (rm : Rm A 3) (ac : AccAt w.params s.heap c dc k ps) (tb : Tb s.heap) (hz : SmallT ps) (h0 : 0 ≤ k + sizeAll ps) (h63 : k + sizeAll ps < 2 ^ 62)
    (h : ∀ s' t, Up [140] s s' → Tb s'.heap → Q (.done (.ret (.int (k + sizeAll ps) t))) s') : wpAny (model prog w) A (Builtin.«len» ⟨[.ref c], []⟩) Q E s := by
  obtain ⟨ox, od, I, _, _⟩ := ac.inst
  have X : (KK w.params).In s.heap := B.kk.keeps kb
  unfold Builtin.«len»
  refine wpAny_bind (m := oneArg "len" _) (wpAny_pure ?_)
  refine wpAny_bind (m := callSpecial? (.ref c) (Str.ofString "__len__")) (special_fn (f := 145) X I (by kernel_rfl) (by kernel_rfl) (wpAny_call (len_ct B kb rm ac tb hz ?_)))
  intro s' t u' tb'
  refine wpAny_bind (wpAny_holding (wpAny_pure ?_))
  refine wpAny_bind (wpAny_letGo ?_)
  show wpAny _ _ (if k + sizeAll ps < 0 then _ else _) _ _ _
  rw [if_neg (by omega)]
  show wpAny _ _ (if k + sizeAll ps ≥ 2 ^ 63 then _ else _) _ _ _
  rw [if_neg (by omega)]
  exact wpAny_bind (wpAny_mkInt (wpAny_pure (h _ _ ⟨u'.keep, u'.gens, u'.os⟩ tb')))
theorem call_len_acc {Q : Value → Shared → Prop} (B : Bs w g) (kb : ∀ b o, g.get? b = some o → s.heap.get? b = some o) (rm : Rm A 4) (ac : AccAt w.params s.heap c dc k ps) (tb : Tb s.heap) (hz : SmallT ps) (h0 : 0 ≤ k + sizeAll ps) (h63 : k + sizeAll ps < 2 ^ 62)
    (h : ∀ s' t, Up [140] s s' → Tb s'.heap → Q (.int (k + sizeAll ps) t) s') : wpAny (model prog w) A (call (.builtin "len") [.ref c]) Q E s := by
  refine Calls.call_function_entry kind_len plain_len entry_len (args_len1 _) ?_
  exact len_tree B kb rm.in1 ac tb hz h0 h63 fun s' t u tb' => ⟨_, rfl, h s' t u tb'⟩
theorem truthy_acc {Q : Bool → Shared → Prop} (B : Bs w g) (kb : ∀ b o, g.get? b = some o → s.heap.get? b = some o) (rm : Rm A 4) (ac : AccAt w.params s.heap c dc k ps) (tb : Tb s.heap) (hz : SmallT ps) (h0 : 0 ≤ k + sizeAll ps) (h63 : k + sizeAll ps < 2 ^ 62)
    (h : ∀ s', Up [140] s s' → Tb s'.heap → Q (k + sizeAll ps != 0) s') : wpAny (model prog w) A (truthy (.ref c)) Q E s := by
  obtain ⟨ox, od, I, _, _⟩ := ac.inst
  have X : (KK w.params).In s.heap := B.kk.keeps kb
  have hb : findIn (KK w.params) (.ref 178) "__bool__" = some none := by kernel_rfl
  have hl : findIn (KK w.params) (.ref 178) "__len__" = some (some (.ref 145)) := by kernel_rfl
  unfold truthy
  refine wpAny_bind (m := callSpecial? (.ref c) (Str.ofString "__bool__")) (wpAny_bind (wpAny_bind (I.type.here ((looks_findIn X hb).here (wpAny_pure ?_)))))
  refine wpAny_bind (wpAny_bind (I.type.here ((looks_findIn X hl).here ?_)))
  rw [if_neg (by decide)]
  refine wpAny_bind ?_
  refine runValue_entry entry_len ?_
  rw [Around.under_plainId plain_len _]
  refine len_tree B kb rm.in1 ac tb hz h0 h63 fun s' t u tb' => ⟨_, rfl, ?_⟩
  exact wpAny_pure (h s' u tb')
theorem call_str_acc {Q : Value → Shared → Prop} (B : Bs w g) (kb : ∀ b o, g.get? b = some o → s.heap.get? b = some o) (rm : Rm A 5) (ac : AccAt w.params s.heap c dc k ps) (tb : Tb s.heap) (hz : SmallT ps) (hz' : ps.length ≤ 40)
    (h : ∀ s' t, Up [147] s s' → Tb s'.heap → Q (.str (catAll ps) t) s') : wpAny (model prog w) A (call (.type "str") [.ref c]) Q E s := by
  obtain ⟨ox, od, I, _, _⟩ := ac.inst
  have X : (KK w.params).In s.heap := B.kk.keeps kb
  refine kso_call (f := 152) rm.in1.in1.units X I (by kernel_rfl) (by kernel_rfl) ?_
  exact wpAny_call (str_ct B kb rm.in1.in1 ac tb hz hz' fun s' t u tb' => h s' t u tb')
end
end Mine
open PySem PySem.W PyProof.Rows PySem.Calls PySem.Spec
set_option Elab.async false
set_option maxRecDepth 100000
set_option maxHeartbeats 1000000
set_option linter.unusedVariables false
namespace Mine
theorem fn167 (P : Params) : FnOk P 167 := ⟨by kernel_rfl, by kernel_rfl, by kernel_rfl, by kernel_rfl, by kernel_rfl, by kernel_rfl, by kernel_rfl⟩
section
variable {w : World} {A : Around} {E : Value → Shared → Prop} {s s' : Shared} {g e : Heap} {c dc L : Addr} {k : Int} {ps : List (PySem.Str × PySem.Str)} {X : List Addr} {m : PySem.Str → Option Value}
theorem Tb.cls {h : Heap} (tb : Tb h) {x : Addr} (hx : x = 140 ∨ x = 147) {o : Obj} (q : h.get? x = some o) : o.cls = .none := by
  obtain ⟨⟨v1, _, t1⟩, v2, _, t2⟩ := tb
  rcases hx with rfl | rfl
  · rw [t1.2] at q; cases q; rfl
  · rw [t2.2] at q; cases q; rfl
theorem AccAt.upT {P : Params} (ac : AccAt P s.heap c dc k ps) (tb : Tb s.heap) (u : Up X s s') (hX : ∀ x ∈ X, x = 140 ∨ x = 147) : AccAt P s'.heap c dc k ps := by
  obtain ⟨⟨vs, n, ho, hv⟩, t, u', n', hd⟩ := id ac
  refine ac.ext u.keep (fun b hb o q => .inl fun z => ?_) (fun z => ?_) (fun z => ?_)
  · have := tb.cls (hX b hb) q; rw [z] at this; cases this
  · have := tb.cls (hX _ z) ho; cases this
  · have := tb.cls (hX _ z) hd; cases this
theorem Fw.upT (F : Fw g e L s.heap m) (B : Bs w g) (tb : Tb s.heap) (u : Up X s s') (hX : ∀ x ∈ X, x = 140 ∨ x = 147) : Fw g s'.heap L s'.heap m := by
  refine F.up u.keep (fun z => ?_) fun x hx => ?_
  · obtain ⟨v1, _, t1⟩ := tb.a
    obtain ⟨v2, _, t2⟩ := tb.b
    obtain ⟨o, es, ep, ho, hd, _⟩ := F.ns
    rcases hX _ z with rfl | rfl
    · rw [t1.2] at ho; cases ho; cases hd
    · rw [t2.2] at ho; cases ho; cases hd
  · rcases hX x hx with rfl | rfl
    · exact B.tabs.1
    · exact B.tabs.2
theorem Tb.keeps {h h' : Heap} (tb : Tb h) (k : ∀ b o, h.get? b = some o → h'.get? b = some o) : Tb h' := by
  obtain ⟨⟨v1, a1, b1⟩, v2, a2, b2⟩ := tb
  exact ⟨⟨v1, a1.keeps k, b1.keeps k⟩, v2, a2.keeps k, b2.keeps k⟩
theorem Up.in1 {x y : Addr} (u : Up [x] s s') : Up [x, y] s s' := u.mono (by simp)
theorem Up.in2 {x y : Addr} (u : Up [y] s s') : Up [x, y] s s' := u.mono (by simp)
theorem Up.nil (u : Up [] s s') : Up X s s' := u.mono (by simp)
theorem Up.of_keeps {h₁ : Heap} {tk : Nat} (K : ∀ b o, s.heap.get? b = some o → h₁.get? b = some o) : Up X s { s with heap := h₁, toks := tk } := ⟨fun b o _ q => K b o q, fun q => q, rfl⟩
theorem onlyws_ct {R : Result → Shared → Prop} (B : Bs w g) (kb : ∀ b o, g.get? b = some o → s.heap.get? b = some o) (rm : Rm A 6) (ac : AccAt w.params s.heap c dc k ps) (tb : Tb s.heap) (hz : SmallT ps) (hz' : ps.length ≤ 40)
    (hf : k ≠ 0 ∨ (0 < k + sizeAll ps ∧ k + sizeAll ps < 2 ^ 62 ∧ Txt.isspace (catAll ps) = false)) (h : ∀ s', Up [140, 147] s s' → Tb s'.heap → R (.ok (.ret (.bool false))) s') :
    codeAny (model prog w) A (.call (.ref 167) ⟨[.ref c], []⟩) R s := by
  refine enter (binds := [("self", .ref c)]) (fn167 _) B kb rm (by kernel_rfl) (by kernel_rfl) fun h₁ L hL F K₁ rm' => ?_
  have ac₁ : AccAt w.params h₁ c dc k ps := ac.ext (X := []) (fun b o _ q => K₁ b o q) (fun b hb => by cases hb) (by simp) (by simp)
  have tb₁ : Tb h₁ := tb.keeps K₁
  obtain ⟨⟨vs, n, ho, hv⟩, t, u, n', hd⟩ := id ac₁
  have kf := (fn167 w.params).kind
  refine wpAny_execs_cons ?_
  refine wpAny_Return_some ?_
  refine BoolOp_and ?_
  refine wpAny_Compare1 ?_
  refine Attribute_any_ ?_
  refine lv F rfl kf rfl rfl ?_
  refine acc_get (dc := dc) (v := .int k u) (B.at F.base) ho hd (by kernel_rfl) rfl ?_
  with_reducible refine wpAny_Constant_int ?_
  refine eq_int ?_
  refine wpAny_truthy_bool ?_
  by_cases hk : k = 0
  · subst hk
    rw [if_pos (by decide)]
    obtain ⟨f1, f2, f3⟩ := hf.resolve_left (by simp)
    refine BoolOp_one ?_
    refine BoolOp_or ?_
    refine UnaryOp_ ?_
    refine lv (s := { s with heap := h₁, toks := s.toks + 1 + 1 + 1 }) F rfl kf rfl rfl ?_
    refine not_of ?_
    refine truthy_acc (s := { s with heap := h₁, toks := s.toks + 1 + 1 + 1 }) B F.base rm'.mono ac₁ tb₁ hz (by omega) f2 ?_
    intro s₂ u₂ tb₂
    have e1 : ((0 : Int) + sizeAll ps != 0) = true := by simpa using (by omega : (0 : Int) + sizeAll ps ≠ 0)
    rw [e1]
    refine wpAny_truthy_bool ?_
    rw [if_neg (by decide)]
    refine BoolOp_one ?_
    have F₂ := Fw.upT (s := { s with heap := h₁, toks := s.toks + 1 + 1 + 1 }) F B tb₁ u₂ (by simp)
    have ac₂ := AccAt.upT (s := { s with heap := h₁, toks := s.toks + 1 + 1 + 1 }) ac₁ tb₁ u₂ (by simp)
    refine MethodCall_ ?_
    refine Call_ ?_
    refine bv B F₂ (by kernel_rfl) (v := .type "str") (by decide +kernel) kf rfl (by kernel_rfl) (by kernel_rfl) ?_
    refine PyProof.Rows.callWith_type1 ?_
    with_reducible refine args_cons ?_ (by with_unfolding_all rfl)
    refine lv F₂ rfl kf rfl rfl ?_
    refine args_nil ?_
    refine call_str_acc B F₂.base rm'.mono ac₂ tb₂ hz hz' ?_
    intro s₃ t₃ u₃ tb₃
    refine GM.isspace ?_
    refine callWith_method0 ?_
    refine SC.isspace ?_
    rw [f3]
    have U1 : Up [140, 147] s { s with heap := h₁, toks := s.toks + 1 + 1 + 1 } := Up.of_keeps K₁
    exact h s₃ ((U1.trans u₂.in1).trans u₃.in2) tb₃
  · have e1 : (k == 0) = false := by simpa using hk
    rw [if_neg (by simpa using hk)]
    rw [e1]
    exact h _ (Up.of_keeps K₁) tb₁
end
end Mine
open PySem PySem.W PyProof.Rows PySem.Calls PySem.Spec
set_option Elab.async false
set_option maxRecDepth 100000
set_option maxHeartbeats 1000000
set_option linter.unusedVariables false
namespace Mine
abbrev splitCh : PySem.Str := ";, \t"
abbrev fmtEs (P : Params) (W : Int) (ln c : Addr) (t : Nat → Tok) : List DictEntry :=
  [⟨PyData.keyHash P "_maxlen", .str "_maxlen" (t 0), .int W (t 1)⟩, ⟨PyData.keyHash P "_continuation_ws", .str "_continuation_ws" (t 2), .str " " (t 3)⟩,
   ⟨PyData.keyHash P "_continuation_ws_len", .str "_continuation_ws_len" (t 4), .int 1 (t 5)⟩, ⟨PyData.keyHash P "_splitchars", .str "_splitchars" (t 6), .str splitCh (t 7)⟩,
   ⟨PyData.keyHash P "_lines", .str "_lines" (t 8), .ref ln⟩, ⟨PyData.keyHash P "_current_line", .str "_current_line" (t 9), .ref c⟩]
abbrev fmtDict (P : Params) (W : Int) (ln c : Addr) (t : Nat → Tok) (n : Nat) : Obj := PySem.W.dictOf (fmtEs P W ln c t) n
abbrev lstObj (vs : List Value) (n : Nat) : Obj := ⟨.type "list", none, .seq vs.toArray n, #[]⟩
/-- a list of texts -/
noncomputable def LnAt (h : Heap) (ln : Addr) (ls : List PySem.Str) : Prop := ∃ vs n, h.get? ln = some (lstObj vs n) ∧ StrsAre vs ls
/-- a _ValueFormatter -/
structure Fm (P : Params) (h : Heap) (f df c dc ln : Addr) (W k : Int) (ps : List (PySem.Str × PySem.Str)) (ls : List PySem.Str) : Prop where
  obj : h.get? f = some (PySem.W.instObj 94 df)
  dict : ∃ t n, h.get? df = some (fmtDict P W ln c t n)
  acc : AccAt P h c dc k ps
  lines : LnAt h ln ls
/-- the addresses that the methods of a formatter may turn -/
abbrev FX (c dc ln : Addr) : List Addr := [c, dc, ln, 140, 147]
section
variable {w : World} {A : Around} {E : Value → Shared → Prop} {s s' : Shared} {h h' g e : Heap} {f df c dc ln L : Addr} {W k k' : Int} {ps ps' : List (PySem.Str × PySem.Str)} {ls ls' : List PySem.Str} {X : List Addr} {m : PySem.Str → Option Value} {P : Params}
theorem Fm.keeps (x : Fm P h f df c dc ln W k ps ls) (kp : ∀ b o, h.get? b = some o → h'.get? b = some o) : Fm P h' f df c dc ln W k ps ls := by
  obtain ⟨a, ⟨t, n, b⟩, c', vs, n', d, e'⟩ := x
  exact ⟨kp _ _ a, ⟨t, n, kp _ _ b⟩, c'.ext (X := []) (fun b o _ q => kp b o q) (fun b hb => by cases hb) (by simp) (by simp), vs, n', kp _ _ d, e'⟩
/-- f, df and ln are none of those that the accumulator's methods turn -/
theorem Fm.apart (x : Fm P h f df c dc ln W k ps ls) (tb : Tb h) : f ∉ FX c dc ln ∧ df ∉ FX c dc ln ∧ ln ≠ c ∧ ln ≠ dc ∧ ln ≠ 140 ∧ ln ≠ 147 ∧ c ≠ dc ∧ c ≠ 140 ∧ c ≠ 147 ∧ dc ≠ 140 ∧ dc ≠ 147 := by
  obtain ⟨hf, ⟨t, n, hdf⟩, ⟨⟨vs, n1, hc, _⟩, t1, u1, n2, hdc⟩, vl, n3, hln, _⟩ := x
  obtain ⟨⟨v1, _, t1'⟩, v2, _, t2'⟩ := tb
  have ne : ∀ {a b : Addr} {o o' : Obj}, h.get? a = some o → h.get? b = some o' → o ≠ o' → a ≠ b := fun ha hb hne q => hne (by rw [q, hb] at ha; exact (Option.some.inj ha).symm)
  have e1 : f ≠ c := ne hf hc (fun q => by injection q with q; cases q)
  have e2 : f ≠ dc := ne hf hdc (fun q => by injection q with q; cases q)
  have e3 : f ≠ ln := ne hf hln (fun q => by injection q with q; cases q)
  have e4 : f ≠ 140 := ne hf t1'.2 (fun q => by injection q with q; cases q)
  have e5 : f ≠ 147 := ne hf t2'.2 (fun q => by injection q with q; cases q)
  have d1 : df ≠ c := ne hdf hc (fun q => by injection q with q; cases q)
  have d2 : df ≠ dc := ne hdf hdc (fun q => by injection q with _ _ q; injection q with q; have := congrArg Array.size q; simp at this)
  have d3 : df ≠ ln := ne hdf hln (fun q => by injection q with q; injection q with q; exact absurd q (by decide))
  have d4 : df ≠ 140 := ne hdf t1'.2 (fun q => by injection q with q; cases q)
  have d5 : df ≠ 147 := ne hdf t2'.2 (fun q => by injection q with q; cases q)
  refine ⟨by simp [e1, e2, e3, e4, e5], by simp [d1, d2, d3, d4, d5], ne hln hc (fun q => by injection q with q; cases q), ne hln hdc (fun q => by injection q with q; injection q with q; exact absurd q (by decide)), ne hln t1'.2 (fun q => by injection q with q; cases q), ne hln t2'.2 (fun q => by injection q with q; cases q),
    ne hc hdc (fun q => by injection q with q; cases q), ne hc t1'.2 (fun q => by injection q with q; cases q), ne hc t2'.2 (fun q => by injection q with q; cases q), ne hdc t1'.2 (fun q => by injection q with q; cases q), ne hdc t2'.2 (fun q => by injection q with q; cases q)⟩
/-- over a call of the accumulator's -/
theorem Fm.acc' (x : Fm P s.heap f df c dc ln W k ps ls) (tb : Tb s.heap) (u : Up X s s') (hX : ∀ x ∈ X, x = c ∨ x = dc ∨ x = 140 ∨ x = 147) (ac : AccAt P s'.heap c dc k' ps') : Fm P s'.heap f df c dc ln W k' ps' ls := by
  obtain ⟨a1, a2, b1, b2, b3, b4, _⟩ := x.apart tb
  obtain ⟨a, ⟨t, n, b⟩, c', vs, n', d, e'⟩ := x
  have sub : ∀ z, z ∉ FX c dc ln → z ∉ X := fun z hz q => hz (by rcases hX z q with rfl | rfl | rfl | rfl <;> simp)
  refine ⟨u.keep _ _ (sub _ a1) a, ⟨t, n, u.keep _ _ (sub _ a2) b⟩, ac, vs, n', u.keep _ _ (fun q => ?_) d, e'⟩
  rcases hX _ q with z | z | z | z
  · exact b1 z
  · exact b2 z
  · exact b3 z
  · exact b4 z
/-- the tables behind such a call -/
theorem Tb.up (tb : Tb s.heap) (u : Up X s s') (hX : ∀ x ∈ X, x ≠ 140 ∧ x ≠ 147 ∧ x ≠ 144 ∧ x ≠ 151) : Tb s'.heap := by
  have kp : ∀ b o, (b = 140 ∨ b = 147 ∨ b = 144 ∨ b = 151) → s.heap.get? b = some o → s'.heap.get? b = some o := fun b o hb q => u.keep b o (fun z => by
    have := hX b z
    rcases hb with rfl | rfl | rfl | rfl
    · exact this.1 rfl
    · exact this.2.1 rfl
    · exact this.2.2.1 rfl
    · exact this.2.2.2 rfl) q
  obtain ⟨⟨v1, i1, t1⟩, v2, i2, t2⟩ := tb
  have mv : ∀ c P vs, (c = 144 ∧ P = 140) ∨ (c = 151 ∧ P = 147) → s.heap.IsCode c P vs → s.heap.TableAt c P vs → s'.heap.IsCode c P vs ∧ s'.heap.TableAt c P vs := fun c P vs hcp i1 i2 => by
    have hc : c = 140 ∨ c = 147 ∨ c = 144 ∨ c = 151 := by rcases hcp with ⟨rfl, rfl⟩ | ⟨rfl, rfl⟩ <;> simp
    have hP : P = 140 ∨ P = 147 ∨ P = 144 ∨ P = 151 := by rcases hcp with ⟨rfl, rfl⟩ | ⟨rfl, rfl⟩ <;> simp
    obtain ⟨o, vs', file, tf, flags, tg, inF, text, tt, op, z1, r1, r2, r3, r4, r5, r6, z2, r⟩ := i1
    obtain ⟨⟨o', vs'', y1, y2⟩, y3⟩ := i2
    exact ⟨⟨o, vs', file, tf, flags, tg, inF, text, tt, op, kp _ _ hc z1, r1, r2, r3, r4, r5, r6, kp _ _ hP z2, r⟩, ⟨o', vs'', kp _ _ hc y1, y2⟩, kp _ _ hP y3⟩
  exact ⟨⟨v1, mv 144 140 v1 (.inl ⟨rfl, rfl⟩) i1 t1⟩, v2, mv 151 147 v2 (.inr ⟨rfl, rfl⟩) i2 t2⟩
theorem fm_get {name : PySem.Str} {v : Value} {expr : Bool} {Q : Value → Shared → Prop} {od : Obj} (X : (KK w.params).In s.heap) (hf : s.heap.get? f = some (PySem.W.instObj 94 df)) (hd : s.heap.get? df = some od)
    (hv : findObj (KK w.params) 94 (some od) name = some (.value v)) (hh : handedIn v = true) (h : Q v { s with toks := s.toks + 1 }) : wpAny (model prog w) A (getAttr (.ref f) name expr) Q E s :=
  get_value (ox := PySem.W.instObj 94 df) (od := some od) X ⟨hf, rfl, rfl, hd⟩ (by kernel_rfl) hv hh h
theorem fm_meth {name : PySem.Str} {fn : Addr} {pl : Sem Bool} {Q : Value × List Value → Shared → Prop} {od : Obj} (X : (KK w.params).In s.heap) (hf : s.heap.get? f = some (PySem.W.instObj 94 df)) (hd : s.heap.get? df = some od)
    (hfn : findIn (KK w.params) (.ref 94) name = some (some (.ref fn))) (ht : typeIn (KK w.params) (.ref fn) = some (.type "function")) (hs : shadowIn (some od) name = some false) (h : Q (.ref fn, [.ref f]) s) :
    wpAny (model prog w) A (getMethod (.ref f) name pl) Q E s :=
  method_fn (ox := PySem.W.instObj 94 df) (od := some od) X ⟨hf, rfl, rfl, hd⟩ (by kernel_rfl) (by kernel_rfl) hfn ht hs h
/-- self._current_line.NAME, a method -/
theorem fm_cur {Q : Value → Shared → Prop} {env : Env} {p1 p2 : Pos} {W} {P' : Params} (hP : P' = w.params) (B : Bs w g) (F : Fw g e L s.heap m) (hL : env.locals = L) (hk : env.scope.kind = .function) (hl : env.kindOf "self" = some .local) (hm : m "self" = some (.ref f))
    (x : Fm P' s.heap f df c dc ln W k ps ls) (h : Q (.ref c) { s with toks := s.toks + 1 }) : wpAny (model prog w) A (eval (.Attribute (.Name "self" p1) "_current_line" p2) env) Q E s := by
  subst hP
  obtain ⟨a, ⟨t, n, b⟩, _⟩ := x
  refine Attribute_any_ ?_
  refine lv F hL hk hl hm ?_
  exact fm_get (B.at F.base) a b (by kernel_rfl) rfl h
theorem fm_lines {Q : Value → Shared → Prop} {env : Env} {p1 p2 : Pos} {W} {P' : Params} (hP : P' = w.params) (B : Bs w g) (F : Fw g e L s.heap m) (hL : env.locals = L) (hk : env.scope.kind = .function) (hl : env.kindOf "self" = some .local) (hm : m "self" = some (.ref f))
    (x : Fm P' s.heap f df c dc ln W k ps ls) (h : Q (.ref ln) { s with toks := s.toks + 1 }) : wpAny (model prog w) A (eval (.Attribute (.Name "self" p1) "_lines" p2) env) Q E s := by
  subst hP
  obtain ⟨a, ⟨t, n, b⟩, _⟩ := x
  refine Attribute_any_ ?_
  refine lv F hL hk hl hm ?_
  exact fm_get (B.at F.base) a b (by kernel_rfl) rfl h
/-- a method met on the accumulator -/
theorem ac_meth {fn : Addr} {name : PySem.Str} {pl : Sem Bool} {Q : Value × List Value → Shared → Prop} (X : (KK w.params).In s.heap) (ac : AccAt w.params s.heap c dc k ps)
    (hf : findIn (KK w.params) (.ref 178) name = some (some (.ref fn))) (ht : typeIn (KK w.params) (.ref fn) = some (.type "function")) (hs : ∀ t u n, lookIn name (accDict w.params k t u n) = some none) (h : Q (.ref fn, [.ref c]) s) :
    wpAny (model prog w) A (getMethod (.ref c) name pl) Q E s := by
  obtain ⟨⟨vs, n, ho, hv⟩, t, u, n', hd⟩ := ac
  exact meth_fn X ho hd hf ht (hs t u n') h
theorem StrsAre.len {vs : List Value} {ls : List PySem.Str} (h : StrsAre vs ls) : vs.length = ls.length := by
  induction h with
  | nil => rfl
  | cons y t h ih => simp [ih]
theorem StrsAre.snoc {vs : List Value} {ls : List PySem.Str} (h : StrsAre vs ls) (x : PySem.Str) (t : Tok) : StrsAre (vs ++ [.str x t]) (ls ++ [x]) := by
  induction h with
  | nil => exact .cons _ _ .nil
  | cons y t h ih => exact .cons _ _ ih
/-- list.append, on a plain list -/
theorem lst_append {x : Value} {vs : List Value} {n : Nat} {Q : Value → Shared → Prop} (ho : s.heap.get? ln = some (lstObj vs n)) (hz : vs.length ≤ 1000) (h : ∀ h' n', h'.get? ln = some (lstObj (vs ++ [x]) n') → Heap.SameBut ln s.heap h' → Q .none { s with heap := h' }) :
    wpAny (model prog w) A (call (.builtin "list.append") [.ref ln, x]) Q E s := by
  have e := Heap.get?_update_self (Obj.mapSeq (·.push x)) ho rfl
  have e2 : ∃ n', Obj.mapSeq (·.push x) (lstObj vs n) = lstObj (vs ++ [x]) n' := ⟨_, by simp only [lstObj, Obj.mapSeq, List.push_toArray]; rfl⟩
  obtain ⟨n', e2⟩ := e2
  rw [e2] at e
  refine wpAny_call_entry slot_list_append ⟨_, ho, rfl⟩ entry_list_append ?_ (args_list_append _ _)
  show wpAny _ _ (updateSeq ln (·.push x) >>= fun _ => ret .none) _ _ s
  refine wpAny_bind (wpAny_updateSeq ho rfl (wpAny_pure ⟨.none, rfl, h _ n' e (Heap.SameBut.update ..)⟩) (by rw [sizeLine_eq, List.size_toArray]; omega) (by rw [Array.size_push, sizeLine_eq, List.size_toArray]; omega))
/-- list.append, on a list of texts -/
theorem ln_append {x : PySem.Str} {t : Tok} {Q : Value → Shared → Prop} (hl : LnAt s.heap ln ls) (hz : ls.length ≤ 1000) (h : ∀ h', LnAt h' ln (ls ++ [x]) → Heap.SameBut ln s.heap h' → Q .none { s with heap := h' }) :
    wpAny (model prog w) A (call (.builtin "list.append") [.ref ln, .str x t]) Q E s := by
  obtain ⟨vs, n, ho, hs⟩ := hl
  refine lst_append ho (by have := StrsAre.len hs; omega) fun h' n' e sb => h h' ⟨_, n', e, StrsAre.snoc hs x t⟩ sb
end
end Mine
open PySem PySem.W PyProof.Rows PySem.Calls PySem.Spec
set_option Elab.async false
set_option maxRecDepth 100000
set_option maxHeartbeats 1000000
set_option linter.unusedVariables false
namespace Mine
theorem fn56 (P : Params) : FnOk P 56 := ⟨by kernel_rfl, by kernel_rfl, by kernel_rfl, by kernel_rfl, by kernel_rfl, by kernel_rfl, by kernel_rfl⟩
section
variable {w : World} {A : Around} {E : Value → Shared → Prop} {s s' : Shared} {h h' g e : Heap} {f df c dc ln L : Addr} {W k k' : Int} {ps ps' : List (PySem.Str × PySem.Str)} {ls ls' : List PySem.Str} {X : List Addr} {m : PySem.Str → Option Value} {P : Params} {R : Result → Shared → Prop}
theorem popU_ct (B : Bs w g) (kb : ∀ b o, g.get? b = some o → s.heap.get? b = some o) (rm : Rm A 4) (ac : AccAt w.params s.heap c dc k ps) (hz : ps.length ≤ 500)
    (h : ∀ s' v, Up [c] s s' → AccAt w.params s'.heap c dc k ps.dropLast → TupIs s'.heap v (ps.getLastD ("", "")) → R (.ok (.ret v)) s') :
    codeAny (model prog w) A (.call (.ref 138) ⟨[.ref c], []⟩) R s := by
  rcases List.eq_nil_or_concat ps with rfl | ⟨qs, p, rfl⟩
  · exact pop0_ct B kb rm ac fun s' v u a t => h s' v u.nil a t
  · rw [List.concat_eq_append] at ac hz h
    rw [List.dropLast_concat] at h
    have e : (qs ++ [p]).getLastD ("", "") = p := by simp
    rw [e] at h
    exact pop_ct B kb rm ac (by simp at hz; omega) h
/-- what a call leaves to its caller: the frame, the formatter -/
theorem Fm.notL (x : Fm P s.heap f df c dc ln W k ps ls) (tb : Tb s.heap) (hL : L = s.heap.objs.size) : L ∉ FX c dc ln := by
  obtain ⟨hf, ⟨t, n, hdf⟩, ⟨⟨vs, n1, hc, _⟩, t1, u1, n2, hdc⟩, vl, n3, hln, _⟩ := x
  obtain ⟨⟨v1, _, t1'⟩, v2, _, t2'⟩ := tb
  have ne : ∀ a o, s.heap.get? a = some o → L ≠ a := fun a o q => by rw [hL]; exact Nat.ne_of_gt (Heap.lt_size q)
  simp [ne _ _ hc, ne _ _ hdc, ne _ _ hln, ne _ _ t1'.2, ne _ _ t2'.2]
theorem ne_tup {p q : PySem.Str × PySem.Str} {a b : Addr} {ta tb ua ub : Tok} {Q : Value → Shared → Prop} (hu : A.units < cLine) (ha : s.heap.IsTuple a #[.str p.1 ta, .str p.2 tb]) (hb : s.heap.IsTuple b #[.str q.1 ua, .str q.2 ub]) (h : Q (.bool (p != q)) s) :
    wpAny (model prog w) A (compareOp .NotEq (.ref a) (.ref b)) Q E s := by
  have key := SeqAt.RcNeAt.tuples (A := A) (s := s) (e := fun j => if j = 0 then p.1 == q.1 else p.2 == q.2) ha hb hu (fun j h1 h2 => by
    match j, h1, h2 with
    | 0, _, _ => exact SeqAt.EqAt.str_str _ _ _ _
    | 1, _, _ => exact SeqAt.EqAt.str_str _ _ _ _)
  have e : (!((List.range (min 2 2)).all (fun j => if j = 0 then p.1 == q.1 else p.2 == q.2) && (2 : Nat) == 2)) = (p != q) := by
    obtain ⟨p1, p2⟩ := p
    obtain ⟨q1, q2⟩ := q
    show (!((p1 == q1 && ((p2 == q2) && true)) && true)) = !((p1, p2) == (q1, q2))
    simp only [Bool.and_true]
    rfl
  exact key prog w E Q (by
    have e2 : (!((List.range (min (#[Value.str p.1 ta, .str p.2 tb].size) (#[Value.str q.1 ua, .str q.2 ub].size))).all (fun j => if j = 0 then p.1 == q.1 else p.2 == q.2) && (#[Value.str p.1 ta, .str p.2 tb].size) == (#[Value.str q.1 ua, .str q.2 ub].size))) = (p != q) := e
    rw [e2]; exact h)
theorem star_tup {p : PySem.Str × PySem.Str} {a : Addr} {ta tb : Tok} {Q : List Value → Shared → Prop} (ha : s.heap.IsTuple a #[.str p.1 ta, .str p.2 tb]) (h : ∀ h', (∀ b o, s.heap.get? b = some o → h'.get? b = some o) → Q [.str p.1 ta, .str p.2 tb] { s with heap := h' }) :
    StarOf (model prog w) A E (.ref a) Q s := by
  obtain ⟨o, ho, hc, n, hd⟩ := ha
  unfold StarOf notIterableAtAll
  refine wpAny_bind (wpAny_specialOf (T := "tuple") ⟨o, ho, hc⟩ PySem.F.slot_tuple_iter.lookup (wpAny_pure ⟨rfl, ?_⟩))
  exact wpAny_collect_seq a (.inr rfl) ho hc hd (fun h' hk => h h' hk) (by rw [sizeLine_eq]; exact Nat.le_of_ble_eq_true rfl)
end
end Mine
open PySem PySem.W PyProof.Rows PySem.Calls PySem.Spec
set_option Elab.async false
set_option maxRecDepth 100000
set_option maxHeartbeats 1000000
set_option linter.unusedVariables false
namespace Mine
/-- a frame's own dict is apart from the formatter and the tables -/
noncomputable def Apart (L f df c dc ln : Addr) : Prop := L ∉ [f, df, c, dc, ln, 140, 147, 144, 151]
section
variable {w : World} {A : Around} {E : Value → Shared → Prop} {s s' : Shared} {h h' g e : Heap} {f df c dc ln L : Addr} {W k k' : Int} {ps ps' : List (PySem.Str × PySem.Str)} {ls ls' : List PySem.Str} {X : List Addr} {m m' : PySem.Str → Option Value} {P : Params} {R : Result → Shared → Prop}
theorem Fm.newL (x : Fm P h f df c dc ln W k ps ls) (tb : Tb h) (hL : h.objs.size ≤ L) : Apart L f df c dc ln := by
  obtain ⟨hf, ⟨t, n, hdf⟩, ⟨⟨vs, n1, hc, _⟩, t1, u1, n2, hdc⟩, vl, n3, hln, _⟩ := x
  obtain ⟨⟨v1, i1, t1'⟩, v2, i2, t2'⟩ := tb
  have ne : ∀ a, a < h.objs.size → L ≠ a := fun a q e => absurd (e ▸ q) (Nat.not_lt.mpr hL)
  unfold Apart
  simp only [List.mem_cons, List.not_mem_nil, or_false, not_or]
  exact ⟨ne _ (Heap.lt_size hf), ne _ (Heap.lt_size hdf), ne _ (Heap.lt_size hc), ne _ (Heap.lt_size hdc), ne _ (Heap.lt_size hln), ne _ (Heap.lt_size t1'.2), ne _ (Heap.lt_size t2'.2), ne _ i1.lt.1, ne _ i2.lt.1⟩
theorem Fm.store (x : Fm P h f df c dc ln W k ps ls) (hn : h.Ns L m) (a : Apart L f df c dc ln) (kp : ∀ b o, b ≠ L → h.get? b = some o → h'.get? b = some o) : Fm P h' f df c dc ln W k ps ls := by
  simp only [Apart, List.mem_cons, List.not_mem_nil, or_false, not_or] at a
  obtain ⟨a1, a2, a3, a4, a5, _⟩ := a
  obtain ⟨hf, ⟨t, n, hdf⟩, ac, vs, n', hln, hs⟩ := x
  refine ⟨kp _ _ (Ne.symm a1) hf, ⟨t, n, kp _ _ (Ne.symm a2) hdf⟩, ac.ext (X := [L]) (fun b o nb q => kp b o (by simpa using nb) q) (fun b hb o q => ?_) (by simpa using Ne.symm a3) (by simpa using Ne.symm a4), vs, n', kp _ _ (Ne.symm a5) hln, hs⟩
  obtain rfl := List.mem_singleton.mp hb
  obtain ⟨o', es, ep, ho, hd, _⟩ := hn
  rw [ho] at q; cases q
  exact .inr ⟨_, _, hd⟩
theorem Tb.store (tb : Tb h) (a : Apart L f df c dc ln) (kp : ∀ b o, b ≠ L → h.get? b = some o → h'.get? b = some o) : Tb h' := by
  simp only [Apart, List.mem_cons, List.not_mem_nil, or_false, not_or] at a
  obtain ⟨_, _, _, _, _, a1, a2, a3, a4⟩ := a
  obtain ⟨⟨v1, i1, t1⟩, v2, i2, t2⟩ := tb
  have hx : Heap.ExtBut L h h' := fun b o nb q => kp b o nb q
  exact ⟨⟨v1, i1.extBut hx (Ne.symm a3) (Ne.symm a1), t1.extBut hx (Ne.symm a3) (Ne.symm a1)⟩, v2, i2.extBut hx (Ne.symm a4) (Ne.symm a2), t2.extBut hx (Ne.symm a4) (Ne.symm a2)⟩
theorem Apart.fx (a : Apart L f df c dc ln) : L ∉ FX c dc ln := by
  simp only [Apart, List.mem_cons, List.not_mem_nil, or_false, not_or] at a ⊢
  exact ⟨a.2.2.1, a.2.2.2.1, a.2.2.2.2.1, a.2.2.2.2.2.1, a.2.2.2.2.2.2.1⟩
/-- what of the base is apart -/
structure NewX (g : Heap) (c dc ln : Addr) : Prop where
  c : g.get? c = none
  dc : g.get? dc = none
  ln : g.get? ln = none
theorem NewX.fx (B : Bs w g) (n : NewX g c dc ln) : ∀ x ∈ FX c dc ln, g.get? x = none := by
  intro x hx
  simp only [List.mem_cons, List.not_mem_nil, or_false] at hx
  rcases hx with rfl | rfl | rfl | rfl | rfl
  · exact n.c
  · exact n.dc
  · exact n.ln
  · exact B.tabs.1
  · exact B.tabs.2
/-- codes of the base are none of these -/
theorem NewX.codes (B : Bs w g) (n : NewX g c dc ln) (x : Addr) (hx : x = c ∨ x = dc) : x ≠ 144 ∧ x ≠ 151 := by
  have h1 : ∃ o, (KK w.params).lookup 144 = some o := ⟨_, by with_unfolding_all rfl⟩
  have h2 : ∃ o, (KK w.params).lookup 151 = some o := ⟨_, by with_unfolding_all rfl⟩
  obtain ⟨o1, h1⟩ := h1
  obtain ⟨o2, h2⟩ := h2
  have k1 := B.kk _ _ h1
  have k2 := B.kk _ _ h2
  have hn : g.get? x = none := by rcases hx with rfl | rfl; exact n.c; exact n.dc
  refine ⟨fun q => ?_, fun q => ?_⟩
  · rw [q, k1] at hn; cases hn
  · rw [q, k2] at hn; cases hn
/-- the tables behind a call that turns the accumulator alone -/
theorem Tb.acc (tb : Tb s.heap) (x : Fm P s.heap f df c dc ln W k ps ls) (B : Bs w g) (n : NewX g c dc ln) (u : Up X s s') (hX : ∀ x ∈ X, x = c ∨ x = dc) : Tb s'.heap := by
  obtain ⟨_, _, _, _, _, _, _, a1, a2, a3, a4⟩ := x.apart tb
  refine tb.up u fun x hx => ?_
  have := n.codes B x (hX x hx)
  rcases hX x hx with rfl | rfl
  · exact ⟨a1, a2, this.1, this.2⟩
  · exact ⟨a3, a4, this.1, this.2⟩
theorem Up.fx1 (u : Up [c] s s') : Up (FX c dc ln) s s' := u.mono (by simp)
theorem Up.fx2 (u : Up [c, dc] s s') : Up (FX c dc ln) s s' := u.mono (by simp)
theorem Up.fxt (u : Up [140, 147] s s') : Up (FX c dc ln) s s' := u.mono (by simp)
theorem Up.fx140 (u : Up [140] s s') : Up (FX c dc ln) s s' := u.mono (by simp)
theorem Up.fx147 (u : Up [147] s s') : Up (FX c dc ln) s s' := u.mono (by simp)
theorem Up.fxl (u : Up [ln] s s') : Up (FX c dc ln) s s' := u.mono (by simp)
theorem Fw.fx (F : Fw g e L s.heap m) (B : Bs w g) (n : NewX g c dc ln) (a : Apart L f df c dc ln) (u : Up (FX c dc ln) s s') : Fw g s'.heap L s'.heap m := F.up u.keep a.fx (n.fx B)
end
end Mine
open PySem PySem.W PyProof.Rows PySem.Calls PySem.Spec
set_option Elab.async false
set_option maxRecDepth 100000
set_option maxHeartbeats 1000000
set_option linter.unusedVariables false
namespace Mine
section
variable {w : World} {A : Around} {E : Value → Shared → Prop} {s s' s'' : Shared} {h h' g e : Heap} {f df c dc ln L : Addr} {W k k' : Int} {ps ps' : List (PySem.Str × PySem.Str)} {ls ls' : List PySem.Str} {X : List Addr} {m m' : PySem.Str → Option Value} {P : Params} {R : Result → Shared → Prop}
theorem Up.store (u : Up X s s') (hL : s.heap.objs.size ≤ L) (kp : ∀ b o, b ≠ L → s'.heap.get? b = some o → s''.heap.get? b = some o) (g₂ : s''.gens = s'.gens) (o₂ : s''.os = s'.os) : Up X s s'' :=
  ⟨fun b o nb q => kp b o (fun z => absurd (Heap.lt_size q) (by rw [z]; exact Nat.not_lt.mpr hL)) (u.keep b o nb q), fun q => g₂ ▸ u.gens q, o₂.trans u.os⟩
theorem Up.of_eq (h1 : ∀ b o, s.heap.get? b = some o → s'.heap.get? b = some o) (g₂ : s'.gens = s.gens) (o₂ : s'.os = s.os) : Up X s s' := ⟨fun b o _ q => h1 b o q, fun q => g₂ ▸ q, o₂⟩
theorem MethodStar {M : Model} {env : Env} {o : PySem.Expr} {name : PySem.Str} {apos pos : Pos} {args : List PySem.Expr} {Q : Value → Shared → Prop}
    (h : wpAny M A (eval o env) (fun ov s₁ => wpAny M A (getAttr ov name true) (fun f s₂ => wpAny M A (callWith pos f [] (backTo pos (starEach args env)) []) Q E s₂) E s₁) E s)
    (he : eval (.Call (.Attribute o name apos) args [] pos) env = (eval o env >>= fun ov => standAt apos.atName >>= fun _ => holding [ov] (getAttr ov name true >>= fun f => pure (f, ([] : List Value))) >>= fun x => callWith pos x.1 x.2 (backTo pos (starEach args env)) []) := by rfl) :
    wpAny M A (eval (.Call (.Attribute o name apos) args [] pos) env) Q E s := by
  rw [he]
  exact wpAny_bind (wpAny_mono h (fun ov s₁ h₁ => wpAny_bind (wpAny_standAt (wpAny_bind (wpAny_holding (wpAny_bind (wpAny_mono h₁ (fun f s₂ h₂ => wpAny_pure h₂) fun _ _ x => x)))))) fun _ _ x => x)
/-- acc.NAME, a method of the text's, as a bound method -/
theorem acc_bound {name : PySem.Str} {fn : Addr} {expr : Bool} {Q : Value → Shared → Prop} (X : (KK w.params).In s.heap) (ac : AccAt w.params s.heap c dc k ps)
    (hf : ∀ t u n, findObj (KK w.params) 178 (some (accDict w.params k t u n)) name = some (.bind (.builtin "function.__get__") (.ref fn))) (ht : typeIn (KK w.params) (.ref fn) = some (.type "function"))
    (h : Q (.ref s.heap.objs.size) { s with heap := s.heap.push (methodObj (.ref fn) (.ref c)), toks := s.toks + 1 }) : wpAny (model prog w) A (getAttr (.ref c) name expr) Q E s := by
  obtain ⟨⟨vs, n, hc, hv⟩, t, u, n', hd⟩ := ac
  obtain ⟨hp, g, d, tk, os⟩ := s
  have hga : findIn (KK w.params) (.ref 178) "__getattribute__" = some (some (.builtin "list.__getattribute__")) := by kernel_rfl
  have hk : findIn (KK w.params) (.ref 178) "__getattr__" = some none := by kernel_rfl
  have I : PySem.W.InstAt hp c (accObj dc vs.toArray n) 178 (some (accDict w.params k t u n')) := acc_inst (s := ⟨hp, g, d, tk, os⟩) hc hd
  have L0 := I.type (M := model prog w)
  have L1 := looks_findIn (M := model prog w) X hga
  have L2 := looks_findIn (M := model prog w) X hk
  unfold getAttr getAttrBy
  refine wpAny_bind (wpAny_mkText (wpAny_holding ?_))
  refine wpAny_bind (L0.at (wpAny_bind (L1.at ?_)))
  show wpAny _ _ (getAttrByItsOwn _ _ _ _ _ _) _ _ _
  unfold getAttrByItsOwn hookBefore
  refine wpAny_bind ?_
  show wpAny _ _ (typeLookup (.ref 178) "__getattr__") _ _ _
  refine L2.at ?_
  refine wpAny_bind (wpAny_attempt (wpAny_holding ?_))
  have hcg : callGetattribute (.ref c) (.str name tk) (.builtin "list.__getattribute__") expr = boundAndCalled (.builtin "list.__getattribute__") (.ref c) (.str name tk) := by cases expr <;> rfl
  rw [hcg]
  unfold boundAndCalled
  rw [F.slot_list_getattribute.bind]
  refine wpAny_bind (wpAny_pure ?_)
  refine acc_call (s := ⟨hp, g, d, tk + 1, os⟩) (rest := [.str name tk]) X I (nm := "__getattribute__") (by decide +kernel) (.inl (by decide +kernel)) (by decide +kernel) am_entry_list_getattribute (F.args_list_getattribute_2 _ _) ?_
  have L3 := looks_find (M := model prog w) X I (hf t u n')
  unfold Builtin.«object.__getattribute__»
  refine wpAny_bind (wpAny_pure ?_)
  refine wpAny_bind (wpAny_pure ?_)
  refine wpAny_bind (L0.at (wpAny_bind (L3.at ?_)))
  show wpAny _ _ (holding [.ref fn] (call (.builtin "function.__get__") [.ref fn, .ref c, .ref 178]) >>= ret) _ _ _
  refine wpAny_bind (wpAny_holding (wpAny_call (fn_get (s := ⟨hp, g, d, tk + 1, os⟩) X ht ?_)))
  refine wpAny_pure ⟨_, rfl, ?_⟩
  show wpAny _ _ (handedOut (.ref _)) _ _ _
  rw [handedOut_of rfl]
  exact wpAny_pure h
theorem newline_ct (B : Bs w g) (kb : ∀ b o, g.get? b = some o → s.heap.get? b = some o) (rm : Rm A 8) (nx : NewX g c dc ln) (fm : Fm w.params s.heap f df c dc ln W k ps ls) (tb : Tb s.heap)
    (hz0 : ps.length ≤ 39) (hz1 : ls.length ≤ 900) (hp : ps.getLastD ("", "") ≠ ((" " : PySem.Str), ("" : PySem.Str))) (hz : SmallT (ps.dropLast ++ [ps.getLastD ("", "")])) (h0 : 0 < k + sizeAll (ps.dropLast ++ [ps.getLastD ("", "")])) (h62 : k + sizeAll (ps.dropLast ++ [ps.getLastD ("", "")]) < 2 ^ 62)
    (how : k ≠ 0 ∨ Txt.isspace (catAll (ps.dropLast ++ [ps.getLastD ("", "")])) = false)
    (h : ∀ s', Up (FX c dc ln) s s' → Fm w.params s'.heap f df c dc ln W 0 [] (ls ++ [catAll (ps.dropLast ++ [ps.getLastD ("", "")])]) → Tb s'.heap → R (.ok (.ret .none)) s') :
    codeAny (model prog w) A (.call (.ref 56) ⟨[.ref f], []⟩) R s := by
  have ap := fm.newL tb (Nat.le_refl _)
  have kf := (fn56 w.params).kind
  refine enter (binds := [("self", .ref f)]) (fn56 _) B kb rm (by kernel_rfl) (by kernel_rfl) fun h₁ L hL F K₁ rm' => ?_
  rw [← hL] at ap
  have hLs : s.heap.objs.size ≤ L := Nat.le_of_eq hL.symm
  have fm₁ := fm.keeps K₁
  have tb₁ := tb.keeps K₁
  refine gn h₁ s.gens s.os rfl rfl rfl fun s₁ e1 g1 o1 => ?_
  subst e1
  have U₁ : Up (FX c dc ln) s s₁ := .of_eq K₁ g1 o1
  -- end_of_line = self._current_line.pop()
  refine wpAny_execs_cons ?_
  refine wpAny_Assign_Name ?_
  refine MethodCall_ ?_
  refine fm_cur rfl B F rfl kf rfl rfl fm₁ ?_
  refine ac_meth (fn := 138) (dc := dc) (B.at F.base) fm₁.acc (by kernel_rfl) (by kernel_rfl) (fun t u n => by kernel_rfl) ?_
  refine callWith_K0 (B.at F.base) (by kernel_rfl) ?_
  refine wpAny_call (popU_ct (s := { s₁ with toks := s₁.toks + 1 }) B F.base rm'.mono fm₁.acc (by omega) ?_)
  intro s₂ v u₂ ac₂ tv₂
  have u₂' : Up [c] s₁ s₂ := ⟨u₂.keep, u₂.gens, u₂.os⟩
  have F₂ := F.fx B nx ap (u₂'.fx1 (dc := dc) (ln := ln))
  have fm₂ := fm₁.acc' tb₁ u₂' (by simp) ac₂
  have tb₂ := tb₁.acc fm₁ B nx u₂' (by simp)
  have U₂ := U₁.trans u₂'.fx1
  refine sw s₂.gens s₂.os rfl rfl F₂ rfl kf rfl ?_
  intro s₃ F₃ k₃ g₃ o₃
  have fm₃ := fm₂.store F₂.ns ap k₃
  have tb₃ := tb₂.store ap k₃
  have U₃ := U₂.store hLs k₃ g₃ o₃
  have F₃ := F₃.now
  obtain ⟨t, ta, tb', nt, rfl, ht⟩ := tv₂
  have ht₃ := k₃ _ _ (fun z => by
    obtain ⟨o, es, ep, ho, hd, _⟩ := F₂.ns
    rw [z, ho] at ht; cases ht; cases hd) ht
  -- if end_of_line != (' ', ''):
  refine wpAny_execs_cons ?_
  refine wpAny_If ?_
  refine wpAny_isTrue_Compare1 ?_
  refine lv F₃ rfl kf rfl rfl ?_
  with_reducible refine Tuple_ ?_
  with_reducible refine args_cons ?_ (by with_unfolding_all rfl)
  with_reducible refine wpAny_Constant_str ?_
  with_reducible refine args_cons ?_ (by with_unfolding_all rfl)
  with_reducible refine wpAny_Constant_str ?_
  refine args_nil ?_
  unfold newTuple
  refine wpAny_newObj_type ?_
  refine ne_tup (p := ps.getLastD ("", "")) (q := ((" " : PySem.Str), ("" : PySem.Str))) rm'.units ⟨_, Heap.get?_push_of_some _ ht₃, rfl, _, rfl⟩ ⟨_, Heap.get?_push_size _ rfl, rfl, _, rfl⟩ ?_
  refine wpAny_truthy_bool ?_
  rw [if_pos (by simpa using hp)]
  have K₄ : ∀ b o, s₃.heap.get? b = some o → (s₃.heap.push { cls := .type "tuple", data := .seq #[.str " " (s₃.toks), .str "" (s₃.toks + 1)] }).get? b = some o := fun b o q => Heap.get?_push_of_some _ q
  refine gn (s₃.heap.push { cls := .type "tuple", data := .seq #[.str " " (s₃.toks), .str "" (s₃.toks + 1)] }) s₃.gens s₃.os rfl rfl rfl fun s₄ e4 g4 o4 => ?_
  rw [← e4] at K₄
  have F₄ := (F₃.keeps K₄).now
  have fm₄ := fm₃.keeps K₄
  have tb₄ := tb₃.keeps K₄
  have U₄ := U₃.trans (.of_eq K₄ g4 o4)
  have ht₄ := K₄ _ _ ht₃
  -- self._current_line.push(*end_of_line)
  refine wpAny_execs_cons ?_
  refine wpAny_Expr ?_
  refine MethodStar ?_
  refine fm_cur rfl B F₄ rfl kf rfl rfl fm₄ ?_
  refine acc_bound (fn := 122) (dc := dc) (B.at F₄.base) fm₄.acc (fun t u n => by kernel_rfl) (by kernel_rfl) ?_
  have K₅ : ∀ b o, s₄.heap.get? b = some o → (s₄.heap.push (methodObj (.ref 122) (.ref c))).get? b = some o := fun b o q => Heap.get?_push_of_some _ q
  have F₅ := (F₄.keeps K₅).now
  have hq₅ : (s₄.heap.push (methodObj (.ref 122) (.ref c))).get? s₄.heap.objs.size = some (methodObj (.ref 122) (.ref c)) := Heap.get?_push_size _ rfl
  refine gn (s₄.heap.push (methodObj (.ref 122) (.ref c))) s₄.gens s₄.os rfl rfl rfl fun s₅ e5 g5 o5 => ?_
  rw [← e5] at K₅ F₅ hq₅
  have fm₅ := fm₄.keeps K₅
  have tb₅ := tb₄.keeps K₅
  refine ks_call (P := MethP (KK w.params) s₄.heap.objs.size 122 (.ref c)) rfl (keeps_M (by kernel_rfl)) (ks_lone ?_)
  refine lv F₅ rfl kf rfl rfl ?_
  refine star_tup (p := ps.getLastD ("", "")) ⟨_, K₅ _ _ ht₄, rfl, _, rfl⟩ ?_
  intro h₅ K₅'
  have F₅ := (F₅.keeps K₅').now
  have fm₅ := fm₅.keeps K₅'
  have tb₅ := tb₅.keeps K₅'
  refine ⟨⟨K₅' _ _ hq₅, B.at F₅.base⟩, ?_⟩
  refine wpAny_call (method_call (K₅' _ _ hq₅) (push_ct (dc := dc) B F₅.base rm'.mono fm₅.acc (by rw [List.length_dropLast]; omega) ?_))
  intro s₆ u₆ ac₆
  have ac₆ : AccAt w.params s₆.heap c dc k (ps.dropLast ++ [ps.getLastD ("", "")]) := ac₆
  have u₅ : Up (FX c dc ln) s₄ { s₅ with heap := h₅ } := .of_eq (fun b o q => K₅' b o (K₅ b o q)) g5 o5
  have F₆ := F₅.fx (s := { s₅ with heap := h₅ }) B nx ap (u₆.fx1 (dc := dc) (ln := ln))
  have fm₆ := fm₅.acc' (s := { s₅ with heap := h₅ }) tb₅ u₆ (by simp) ac₆
  have tb₆ := tb₅.acc (s := { s₅ with heap := h₅ }) fm₅ B nx u₆ (by simp)
  have U₆ := (U₄.trans u₅).trans u₆.fx1
  refine wpAny_execs_nil ?_
  -- if len(self._current_line) > 0:
  refine wpAny_execs_cons ?_
  refine wpAny_If ?_
  refine wpAny_isTrue_Compare1 ?_
  refine Call_ ?_
  refine bv B F₆ (by kernel_rfl) (v := .builtin "len") (by decide +kernel) kf rfl (by kernel_rfl) (by kernel_rfl) ?_
  refine PyProof.Rows.callWith_builtin1 ?_
  with_reducible refine args_cons ?_ (by with_unfolding_all rfl)
  refine fm_cur rfl B F₆ rfl kf rfl rfl fm₆ ?_
  refine args_nil ?_
  refine call_len_acc (s := { s₆ with toks := s₆.toks + 1 }) B F₆.base rm'.mono fm₆.acc tb₆ hz (by omega) h62 ?_
  intro s₇ t₇ u₇ tb₇
  have u₇ : Up [140] s₆ s₇ := ⟨u₇.keep, u₇.gens, u₇.os⟩
  have F₇ := F₆.fx B nx ap (u₇.fx140 (c := c) (dc := dc) (ln := ln))
  have fm₇ := fm₆.acc' tb₆ u₇ (by simp) (fm₆.acc.upT tb₆ u₇ (by simp))
  have U₇ := U₆.trans u₇.fx140
  with_reducible refine wpAny_Constant_int ?_
  refine gt_int ?_
  refine wpAny_truthy_bool ?_
  rw [if_pos (by simpa using h0)]
  -- if self._current_line.is_onlyws() and self._lines:
  refine wpAny_execs_cons ?_
  refine wpAny_If ?_
  with_reducible refine isTrue_and ?_
  refine isTrue_plain ?_
  refine MethodCall_ ?_
  refine fm_cur (s := { s₇ with toks := s₇.toks + 1 }) rfl B F₇ rfl kf rfl rfl fm₇ ?_
  refine ac_meth (fn := 167) (dc := dc) (B.at F₇.base) fm₇.acc (by kernel_rfl) (by kernel_rfl) (fun t u n => by kernel_rfl) ?_
  refine callWith_K0 (B.at F₇.base) (by kernel_rfl) ?_
  refine wpAny_call (onlyws_ct (s := { s₇ with toks := s₇.toks + 1 + 1 }) B F₇.base rm'.mono fm₇.acc tb₇ hz (by simp; omega) (how.imp id fun q => ⟨h0, h62, q⟩) ?_)
  intro s₈ u₈ tb₈
  have u₈ : Up [140, 147] s₇ s₈ := ⟨u₈.keep, u₈.gens, u₈.os⟩
  have F₈ := F₇.fx B nx ap (u₈.fxt (c := c) (dc := dc) (ln := ln))
  have fm₈ := fm₇.acc' tb₇ u₈ (by simp) (fm₇.acc.upT tb₇ u₈ (by simp))
  have U₈ := U₇.trans u₈.fxt
  refine wpAny_truthy_bool ?_
  rw [if_neg (by decide)]
  rw [if_neg (by decide)]
  -- self._lines.append(str(self._current_line))
  refine wpAny_execs_cons ?_
  refine wpAny_Expr ?_
  refine MethodCall_ ?_
  refine fm_lines rfl B F₈ rfl kf rfl rfl fm₈ ?_
  obtain ⟨vl, nl, hln, hsl⟩ := id fm₈.lines
  refine getMethod_list_append hln rfl rfl ?_
  refine callWith_method1 ?_
  with_reducible refine args_cons ?_ (by with_unfolding_all rfl)
  refine Call_ ?_
  refine bv (s := { s₈ with toks := s₈.toks + 1 }) B F₈ (by kernel_rfl) (v := .type "str") (by decide +kernel) kf rfl (by kernel_rfl) (by kernel_rfl) ?_
  refine PyProof.Rows.callWith_type1 ?_
  with_reducible refine args_cons ?_ (by with_unfolding_all rfl)
  refine fm_cur (s := { s₈ with toks := s₈.toks + 1 }) rfl B F₈ rfl kf rfl rfl fm₈ ?_
  refine args_nil ?_
  refine call_str_acc (s := { s₈ with toks := s₈.toks + 1 + 1 }) B F₈.base rm'.mono fm₈.acc tb₈ hz (by simp; omega) ?_
  intro s₉ t₉ u₉ tb₉
  have u₉ : Up [147] s₈ s₉ := ⟨u₉.keep, u₉.gens, u₉.os⟩
  have F₉ := F₈.fx B nx ap (u₉.fx147 (c := c) (dc := dc) (ln := ln))
  have fm₉ := fm₈.acc' tb₈ u₉ (by simp) (fm₈.acc.upT tb₈ u₉ (by simp))
  have U₉ := U₈.trans u₉.fx147
  refine args_nil ?_
  obtain ⟨_, _, q1, q2, q3, q4, _⟩ := fm₉.apart tb₉
  refine ln_append fm₉.lines (by omega) ?_
  intro h₁₀ la₁₀ sb₁₀
  have u₁₀ : Up [ln] s₉ { s₉ with heap := h₁₀ } := ⟨fun b o nb q => sb₁₀.extBut b o (by simpa using nb) q, fun q => q, rfl⟩
  have fm₁₀ : Fm w.params h₁₀ f df c dc ln W k (ps.dropLast ++ [ps.getLastD ("", "")]) (ls ++ [catAll (ps.dropLast ++ [ps.getLastD ("", "")])]) := by
    obtain ⟨a1, a2, _⟩ := fm₉.apart tb₉
    obtain ⟨x1, ⟨t, n, x2⟩, x3, x4⟩ := fm₉
    refine ⟨sb₁₀.extBut _ _ (fun z => a1 (by simp [z])) x1, ⟨t, n, sb₁₀.extBut _ _ (fun z => a2 (by simp [z])) x2⟩, x3.ext (X := [ln]) (fun b o nb q => sb₁₀.extBut b o (by simpa using nb) q) (fun b hb o q => ?_) (by simpa using Ne.symm q1) (by simpa using Ne.symm q2), la₁₀⟩
    obtain rfl := List.mem_singleton.mp hb
    obtain ⟨vs, n, y, _⟩ := x4
    rw [y] at q; cases q
    exact .inl (fun z => by injection z with z; exact absurd z (by decide))
  have tb₁₀ : Tb h₁₀ := by
    have hx : Heap.ExtBut ln s₉.heap h₁₀ := sb₁₀.extBut
    have c1 : ∃ o, (KK w.params).lookup 144 = some o := ⟨_, by with_unfolding_all rfl⟩
    have c2 : ∃ o, (KK w.params).lookup 151 = some o := ⟨_, by with_unfolding_all rfl⟩
    obtain ⟨_, c1⟩ := c1
    obtain ⟨_, c2⟩ := c2
    have n1 : (144 : Addr) ≠ ln := fun z => by have := B.kk _ _ c1; rw [z, nx.ln] at this; cases this
    have n2 : (151 : Addr) ≠ ln := fun z => by have := B.kk _ _ c2; rw [z, nx.ln] at this; cases this
    obtain ⟨⟨v1, i1, t1⟩, v2, i2, t2⟩ := tb₉
    exact ⟨⟨v1, i1.extBut hx n1 (Ne.symm q3), t1.extBut hx n1 (Ne.symm q3)⟩, v2, i2.extBut hx n2 (Ne.symm q4), t2.extBut hx n2 (Ne.symm q4)⟩
  have F₁₀ := F₉.fx B nx ap (u₁₀.fxl (c := c) (dc := dc))
  have U₁₀ := U₉.trans u₁₀.fxl
  refine wpAny_execs_nil ?_
  refine wpAny_execs_nil ?_
  -- self._current_line.reset()
  refine wpAny_execs_cons ?_
  refine wpAny_Expr ?_
  refine MethodCall_ ?_
  refine fm_cur (s := { s₉ with heap := h₁₀ }) rfl B F₁₀ rfl kf rfl rfl fm₁₀ ?_
  refine ac_meth (fn := 160) (dc := dc) (B.at F₁₀.base) fm₁₀.acc (by kernel_rfl) (by kernel_rfl) (fun t u n => by kernel_rfl) ?_
  refine callWith_K0 (B.at F₁₀.base) (by kernel_rfl) ?_
  refine wpAny_call (reset0_ct (dc := dc) B F₁₀.base rm'.mono fm₁₀.acc (by simp; omega) nx.c nx.dc ?_)
  intro s₁₁ u₁₁ ac₁₁
  have u₁₁ : Up [c, dc] { s₉ with heap := h₁₀ } s₁₁ := ⟨u₁₁.keep, u₁₁.gens, u₁₁.os⟩
  refine wpAny_execs_nil ?_
  exact h s₁₁ (U₁₀.trans u₁₁.fx2) (fm₁₀.acc' (s := { s₉ with heap := h₁₀ }) tb₁₀ u₁₁ (by simp) ac₁₁) (tb₁₀.acc (s := { s₉ with heap := h₁₀ }) fm₁₀ B nx u₁₁ (by simp))
end
end Mine
open PySem PySem.W PyProof.Rows PySem.Calls PySem.Spec
set_option Elab.async false
set_option maxRecDepth 100000
set_option maxHeartbeats 1000000
set_option linter.unusedVariables false
namespace Mine
/-- a for loop that raises nothing -/
noncomputable def ForW (w : World) (A : Around) (target : PySem.Expr) (it : Value) (body orelse : List Stmt) (env : Env) (Q : Flow → Shared → Prop) (s : Shared) : Prop :=
  codeAny (model prog w) A (.forLoop target it body orelse env) (fun r s' => match r with | .ok f => Q f s' | .error _ => False) s
section
variable {w : World} {A : Around} {E : Value → Shared → Prop} {s : Shared} {env : Env} {target : PySem.Expr} {it : Value} {body orelse : List Stmt} {Q : Flow → Shared → Prop}
theorem for1 (h : wpAny (model prog w) A (pyNext it) (fun r s₁ => match r with
      | none => wpAny (model prog w) A (execs orelse env) Q (fun _ _ => False) s₁
      | some v => wpAny (model prog w) A (assign target env v) (fun _ s₂ => wpAny (model prog w) A (execs body env) (fun f s₃ => match f with
          | .next | .cont => ForW w A target it body orelse env Q s₃
          | .brk => Q .next s₃
          | .ret v => Q (.ret v) s₃) (fun _ _ => False) s₂) (fun _ _ => False) s₁) (fun _ _ => False) s)
    (ht : ∀ v, letOwnedTupleGo target it v = pure () := by intro _; rfl) : ForW w A target it body orelse env Q s := by
  refine codeAny_of_tree ?_
  show wpAny _ A ((forTurn target it body orelse env).onRaise (fun x => do noteFrame x env; theTreesLotGoes x)) _ _ s
  refine wpAny_noted ?_
  simp only [forTurn]
  refine wpAny_bind (wpAny_standAt (wpAny_bind (wpAny_onRaise (wpAny_mono h (fun r s₁ h₁ => ?_) fun _ _ h' => h'.elim))))
  cases r with
  | none => exact wpAny_pure ⟨rfl, codeAny_block (wpAny_mono h₁ (fun _ _ x => x) fun _ _ h' => h'.elim)⟩
  | some v =>
    refine wpAny_bind (wpAny_of_eq (ht v) ?_)
    refine wpAny_bind (wpAny_mono h₁ (fun _ s₂ h₂ => wpAny_bind (wpAny_mono h₂ (fun f s₃ h₃ => ?_) fun _ _ h' => h'.elim)) fun _ _ h' => h'.elim)
    cases f with
    | next => exact wpAny_pure ⟨rfl, h₃⟩
    | cont => exact wpAny_pure ⟨rfl, h₃⟩
    | brk => exact wpAny_pure h₃
    | ret v => exact wpAny_pure h₃
theorem wpAny_ForW {iter : PySem.Expr} {pos : Pos} (h : wpAny (model prog w) A (eval iter env) (fun x s₁ => wpAny (model prog w) A (pyIter x) (fun it s₂ => ForW w A target it body orelse env Q s₂) E s₁) E s)
    (hs : ∀ x, foldedSetIterable iter env x = pure x := by intro _; rfl) : wpAny (model prog w) A (exec (.For target iter body orelse pos) env) Q E s :=
  wpAny_For (wpAny_mono h (fun x s₁ h₁ => wpAny_mono h₁ (fun it s₂ h₂ => codeAny_mono h₂ fun r s' q => by cases r with | ok f => exact q | error e => exact q.elim) fun _ _ x => x) fun _ _ x => x) hs
theorem ForW.mono {Q' : Flow → Shared → Prop} (h : ForW w A target it body orelse env Q s) (k : ∀ f s, Q f s → Q' f s) : ForW w A target it body orelse env Q' s :=
  codeAny_mono h fun r s' q => by cases r with | ok f => exact k f s' q | error e => exact q.elim
end
/-- objects that are neither a frame's, nor a formatter's, nor a table -/
noncomputable def Foreign (o : Obj) : Prop := (∃ vs, o.data = .fields vs) ∧ o.cls ≠ .none ∧ o.cls ≠ .type "code"
section
variable {w : World} {A : Around} {E : Value → Shared → Prop} {s s' s'' : Shared} {h h' g e : Heap} {f df c dc ln L : Addr} {W k k' : Int} {ps ps' : List (PySem.Str × PySem.Str)} {ls ls' : List PySem.Str} {X : List Addr} {m m' : PySem.Str → Option Value} {P : Params} {R : Result → Shared → Prop}
theorem Tb.frn (tb : Tb s.heap) (u : Up X s s') (hX : ∀ b ∈ X, ∀ o, s.heap.get? b = some o → Foreign o) : Tb s'.heap := by
  obtain ⟨⟨v1, i1, t1⟩, v2, i2, t2⟩ := tb
  have key : ∀ c P vs, s.heap.IsCode c P vs → s.heap.TableAt c P vs → s'.heap.IsCode c P vs ∧ s'.heap.TableAt c P vs := fun c P vs i1 i2 => by
    obtain ⟨⟨o', vs'', y1, y2, y3, y4⟩, z⟩ := i2
    have nc : c ∉ X := fun q => (hX c q _ y1).2.2 y2
    have nP : P ∉ X := fun q => (hX P q _ z).2.1 rfl
    obtain ⟨o, vs', file, tf, flags, tg, inF, text, tt, op, z1, r1, r2, r3, r4, r5, r6, z2, r⟩ := i1
    exact ⟨⟨o, vs', file, tf, flags, tg, inF, text, tt, op, u.keep _ _ nc z1, r1, r2, r3, r4, r5, r6, u.keep _ _ nP z2, r⟩, ⟨o', vs'', u.keep _ _ nc y1, y2, y3, y4⟩, u.keep _ _ nP z⟩
  exact ⟨⟨v1, key _ _ _ i1 t1⟩, v2, key _ _ _ i2 t2⟩
theorem Fm.frn (x : Fm P s.heap f df c dc ln W k ps ls) (u : Up X s s') (hX : ∀ b ∈ X, ∀ o, s.heap.get? b = some o → Foreign o) : Fm P s'.heap f df c dc ln W k ps ls := by
  obtain ⟨hf, ⟨t, n, hdf⟩, ac, vs, n', hln, hs⟩ := x
  have no : ∀ b o, s.heap.get? b = some o → (∀ vs, o.data ≠ .fields vs) → b ∉ X := fun b o q z y => by obtain ⟨⟨vs, e⟩, _⟩ := hX b y o q; exact z vs e
  obtain ⟨⟨vs₀, n₀, ho, hv⟩, t₀, u₀, n₁, hd⟩ := id ac
  refine ⟨u.keep _ _ (no _ _ hf fun _ e => by cases e) hf, ⟨t, n, u.keep _ _ (no _ _ hdf fun _ e => by cases e) hdf⟩, ?_, vs, n', u.keep _ _ (no _ _ hln fun _ e => by cases e) hln, hs⟩
  refine ⟨⟨vs₀, n₀, u.keep _ _ (no _ _ ho fun _ e => by cases e) ho, hv.mono fun v p r => ?_⟩, t₀, u₀, n₁, u.keep _ _ (no _ _ hd fun _ e => by cases e) hd⟩
  obtain ⟨t, ta, tb, n, rfl, ht⟩ := r
  exact ⟨t, ta, tb, n, rfl, u.keep _ _ (no _ _ ht fun _ e => by cases e) ht⟩
theorem Fw.frn (F : Fw g e L s.heap m) (u : Up X s s') (hX : ∀ b ∈ X, ∀ o, s.heap.get? b = some o → Foreign o) (hg : ∀ b ∈ X, g.get? b = none) : Fw g s'.heap L s'.heap m := by
  refine F.up u.keep (fun q => ?_) hg
  obtain ⟨o, es, ep, ho, hd, _⟩ := F.ns
  obtain ⟨⟨vs, e⟩, _⟩ := hX L q o ho
  rw [hd] at e; cases e
/-- all that is known in a method of the formatter's -/
structure Cx (w : World) (g : Heap) (S s : Shared) (L : Addr) (m : PySem.Str → Option Value) (f df c dc ln : Addr) (W k : Int) (ps : List (PySem.Str × PySem.Str)) (ls : List PySem.Str) : Prop where
  B : Bs w g
  nx : NewX g c dc ln
  ap : Apart L f df c dc ln
  hL : S.heap.objs.size ≤ L
  F : Fw g s.heap L s.heap m
  fm : Fm w.params s.heap f df c dc ln W k ps ls
  tb : Tb s.heap
  U : Up (FX c dc ln) S s
variable {S : Shared}
theorem Cx.re (C : Cx w g S s L m f df c dc ln W k ps ls) (e : s'.heap = s.heap) (g₂ : s'.gens = s.gens) (o₂ : s'.os = s.os) : Cx w g S s' L m f df c dc ln W k ps ls := by
  refine ⟨C.B, C.nx, C.ap, C.hL, e ▸ C.F, e ▸ C.fm, e ▸ C.tb, C.U.trans (.of_eq (fun b o q => e ▸ q) g₂ o₂)⟩
theorem Cx.tok (C : Cx w g S s L m f df c dc ln W k ps ls) {t : Nat} : Cx w g S { s with toks := t } L m f df c dc ln W k ps ls := C.re rfl rfl rfl
theorem Cx.store (C : Cx w g S s L m f df c dc ln W k ps ls) (F : Fw g e L s'.heap m') (kp : ∀ b o, b ≠ L → s.heap.get? b = some o → s'.heap.get? b = some o) (g₂ : s'.gens = s.gens) (o₂ : s'.os = s.os) : Cx w g S s' L m' f df c dc ln W k ps ls :=
  ⟨C.B, C.nx, C.ap, C.hL, F.now, C.fm.store C.F.ns C.ap kp, C.tb.store C.ap kp, C.U.store C.hL kp g₂ o₂⟩
theorem Cx.keeps (C : Cx w g S s L m f df c dc ln W k ps ls) (kp : ∀ b o, s.heap.get? b = some o → s'.heap.get? b = some o) (g₂ : s'.gens = s.gens) (o₂ : s'.os = s.os) : Cx w g S s' L m f df c dc ln W k ps ls :=
  ⟨C.B, C.nx, C.ap, C.hL, (C.F.keeps kp).now, C.fm.keeps kp, C.tb.keeps kp, C.U.trans (.of_eq kp g₂ o₂)⟩
theorem Cx.frn (C : Cx w g S s L m f df c dc ln W k ps ls) (u : Up X s s') (hX : ∀ b ∈ X, ∀ o, s.heap.get? b = some o → Foreign o) (hg : ∀ b ∈ X, g.get? b = none) (hS : ∀ b ∈ X, S.heap.objs.size ≤ b) : Cx w g S s' L m f df c dc ln W k ps ls :=
  ⟨C.B, C.nx, C.ap, C.hL, C.F.frn u hX hg, C.fm.frn u hX, C.tb.frn u hX, ⟨fun b o nb q => u.keep b o (fun z => absurd (Heap.lt_size q) (Nat.not_lt.mpr (hS b z))) (C.U.keep b o nb q), fun q => u.gens (C.U.gens q), u.os.trans C.U.os⟩⟩
/-- over a call of the accumulator's that leaves the tables in being -/
theorem Cx.acc (C : Cx w g S s L m f df c dc ln W k ps ls) (u : Up X s s') (hX : ∀ x ∈ X, x = c ∨ x = dc ∨ x = 140 ∨ x = 147) (ac : AccAt w.params s'.heap c dc k' ps') (tb : Tb s'.heap) : Cx w g S s' L m f df c dc ln W k' ps' ls := by
  have u' : Up (FX c dc ln) s s' := u.mono fun x hx => by rcases hX x hx with rfl | rfl | rfl | rfl <;> simp
  exact ⟨C.B, C.nx, C.ap, C.hL, C.F.fx C.B C.nx C.ap u', C.fm.acc' C.tb u hX ac, tb, C.U.trans u'⟩
theorem Cx.acc1 (C : Cx w g S s L m f df c dc ln W k ps ls) (u : Up X s s') (hX : ∀ x ∈ X, x = c ∨ x = dc) (ac : AccAt w.params s'.heap c dc k' ps') : Cx w g S s' L m f df c dc ln W k' ps' ls :=
  C.acc u (fun x hx => by rcases hX x hx with h | h <;> simp [h]) ac (C.tb.acc C.fm C.B C.nx u hX)
/-- over a call that leaves the accumulator as it was -/
theorem Cx.look (C : Cx w g S s L m f df c dc ln W k ps ls) (u : Up X s s') (hX : ∀ x ∈ X, x = 140 ∨ x = 147) (tb : Tb s'.heap) : Cx w g S s' L m f df c dc ln W k ps ls :=
  C.acc u (fun x hx => .inr (.inr (hX x hx))) (C.fm.acc.upT C.tb u hX) tb
/-- over a method of the formatter's own -/
theorem Cx.own (C : Cx w g S s L m f df c dc ln W k ps ls) (u : Up (FX c dc ln) s s') (fm : Fm w.params s'.heap f df c dc ln W k' ps' ls') (tb : Tb s'.heap) : Cx w g S s' L m f df c dc ln W k' ps' ls' :=
  ⟨C.B, C.nx, C.ap, C.hL, C.F.fx C.B C.nx C.ap u, fm, tb, C.U.trans u⟩
/-- over an append to the lines -/
theorem Cx.line (C : Cx w g S s L m f df c dc ln W k ps ls) (sb : Heap.SameBut ln s.heap s'.heap) (la : LnAt s'.heap ln ls') (g₂ : s'.gens = s.gens) (o₂ : s'.os = s.os) : Cx w g S s' L m f df c dc ln W k ps ls' := by
  obtain ⟨a1, a2, q1, q2, q3, q4, _⟩ := C.fm.apart C.tb
  have u : Up [ln] s s' := ⟨fun b o nb q => sb.extBut b o (by simpa using nb) q, fun q => g₂ ▸ q, o₂⟩
  have fm' : Fm w.params s'.heap f df c dc ln W k ps ls' := by
    obtain ⟨x1, ⟨t, n, x2⟩, x3, x4⟩ := C.fm
    refine ⟨sb.extBut _ _ (fun z => a1 (by simp [z])) x1, ⟨t, n, sb.extBut _ _ (fun z => a2 (by simp [z])) x2⟩, x3.ext (X := [ln]) (fun b o nb q => sb.extBut b o (by simpa using nb) q) (fun b hb o q => ?_) (by simpa using Ne.symm q1) (by simpa using Ne.symm q2), la⟩
    obtain rfl := List.mem_singleton.mp hb
    obtain ⟨vs, n, y, _⟩ := x4
    rw [y] at q; cases q
    exact .inl (fun z => by injection z with z; exact absurd z (by decide))
  have tb' : Tb s'.heap := by
    have hx : Heap.ExtBut ln s.heap s'.heap := sb.extBut
    have c1 : ∃ o, (KK w.params).lookup 144 = some o := ⟨_, by with_unfolding_all rfl⟩
    have c2 : ∃ o, (KK w.params).lookup 151 = some o := ⟨_, by with_unfolding_all rfl⟩
    obtain ⟨_, c1⟩ := c1
    obtain ⟨_, c2⟩ := c2
    have n1 : (144 : Addr) ≠ ln := fun z => by have := C.B.kk _ _ c1; rw [z, C.nx.ln] at this; cases this
    have n2 : (151 : Addr) ≠ ln := fun z => by have := C.B.kk _ _ c2; rw [z, C.nx.ln] at this; cases this
    obtain ⟨⟨v1, i1, t1⟩, v2, i2, t2⟩ := C.tb
    exact ⟨⟨v1, i1.extBut hx n1 (Ne.symm q3), t1.extBut hx n1 (Ne.symm q3)⟩, v2, i2.extBut hx n2 (Ne.symm q4), t2.extBut hx n2 (Ne.symm q4)⟩
  exact ⟨C.B, C.nx, C.ap, C.hL, C.F.fx C.B C.nx C.ap u.fxl, fm', tb', C.U.trans u.fxl⟩
end
end Mine
open PySem PySem.W PyProof.Rows PySem.Calls PySem.Spec
set_option Elab.async false
set_option maxRecDepth 100000
set_option maxHeartbeats 1000000
set_option linter.unusedVariables false
namespace Mine
theorem upd_ne {x y : PySem.Str} {a u o : Option Value} (h : a = o) (hn : x ≠ y := by decide) : (if x = y then u else a) = o := by
  rw [if_neg hn]; exact h
theorem upd_eq {x : PySem.Str} {a u : Option Value} : (if x = x then u else a) = u := if_pos rfl
section
variable {w : World} {A : Around} {s : Shared} {env : Env} {target : PySem.Expr} {it : Value} {body orelse : List Stmt} {Q : Flow → Shared → Prop}
theorem ForW.loop {n : Nat} (J : Nat → Shared → Prop)
    (turn : ∀ i s, i < n → J i s → wpAny (model prog w) A (pyNext it) (fun r s₁ => ∃ v, r = some v ∧ wpAny (model prog w) A (assign target env v) (fun _ s₂ => wpAny (model prog w) A (execs body env) (fun f s₃ => match f with
          | .next | .cont => J (i + 1) s₃
          | .brk => Q .next s₃
          | .ret v => Q (.ret v) s₃) (fun _ _ => False) s₂) (fun _ _ => False) s₁) (fun _ _ => False) s)
    (done : ∀ s, J n s → wpAny (model prog w) A (pyNext it) (fun r s₁ => r = none ∧ wpAny (model prog w) A (execs orelse env) Q (fun _ _ => False) s₁) (fun _ _ => False) s)
    (ht : ∀ v, letOwnedTupleGo target it v = pure ()) {i : Nat} (hi : i ≤ n) (h : J i s) : ForW w A target it body orelse env Q s := by
  obtain ⟨k, hk⟩ : ∃ k, k = n - i := ⟨_, rfl⟩
  induction k generalizing i s with
  | zero =>
    have : i = n := by omega
    subst this
    refine for1 (wpAny_mono (done s h) (fun r s₁ q => ?_) fun _ _ x => x) ht
    obtain ⟨rfl, q⟩ := q; exact q
  | succ k ih =>
    refine for1 (wpAny_mono (turn i s (by omega) h) (fun r s₁ q => ?_) fun _ _ x => x) ht
    obtain ⟨v, rfl, q⟩ := q
    refine wpAny_mono q (fun _ s₂ q => wpAny_mono q (fun f s₃ q => ?_) fun _ _ x => x) fun _ _ x => x
    cases f with
    | next => exact ih (by omega) q (by omega)
    | cont => exact ih (by omega) q (by omega)
    | brk => exact q
    | ret v => exact q
end
theorem sizeAll_le {ps : List (PySem.Str × PySem.Str)} (h : SmallT ps) : 0 ≤ sizeAll ps ∧ sizeAll ps ≤ 20000 * ps.length := by
  unfold sizeAll
  induction ps with
  | nil => simp
  | cons p ps ih =>
    have h1 := ih fun q hq => h q (by simp [hq])
    have h2 := h p (by simp)
    simp only [List.map_cons, List.sum_cons, sizeOf1, List.length_cons]
    omega
theorem fn91 (P : Params) : FnOk P 91 := ⟨by kernel_rfl, by kernel_rfl, by kernel_rfl, by kernel_rfl, by kernel_rfl, by kernel_rfl, by kernel_rfl⟩
/-- the turn of the inner loop of _append_chunk -/
noncomputable def turn91 (b : List Stmt) : List Stmt := match b with
  | [_, .If _ [.For _ _ [.For _ _ body _ _, _] _ _, _, _, _] _ _] => body
  | _ => []
section
variable {w : World} {A : Around} {E : Value → Shared → Prop} {S s s' s'' : Shared} {h h' g e : Heap} {f df c dc ln L : Addr} {W k k' : Int} {ps ps' : List (PySem.Str × PySem.Str)} {ls ls' : List PySem.Str} {X : List Addr} {m m' : PySem.Str → Option Value} {P : Params} {R : Result → Shared → Prop}
theorem turn91_ct {env : Env} {i cc : Nat} {ti tc : Tok} {y : List Nat} {last : Nat} {a : PySem.Str} {body : List Stmt} (hb : body = turn91 (bodyAt w.params 91)) (he : env = callEnv (fdAt w.params 91) L 91)
    (C : Cx w g S s L m f df c dc ln W k ps ls) (h1 : m "self" = some (.ref f)) (h2 : m "ch" = some (.str ⟨#[cc]⟩ tc)) (h3 : m "i" = some (.int (i + 1 : Nat) ti))
    (hsp : Txt.isspace ⟨#[cc]⟩ = false) (hi : i < 100) (hp : ps[i]? = some (a, tx (y ++ [last]))) (hy : y.length ≤ 100) {Q : Flow → Shared → Prop}
    (h : ∀ s' m', Cx w g S s' L m' f df c dc ln W k ps ls → (∀ x : PySem.Str, x ≠ "prevpart" → m' x = m x) → (∀ b o, b ≠ L → s.heap.get? b = some o → s'.heap.get? b = some o) → Q (if last = cc then .brk else .next) s') :
    wpAny (model prog w) A (execs body env) Q E s := by
  subst hb he
  have kf := (fn91 w.params).kind
  refine wpAny_execs_cons ?_
  refine wpAny_If ?_
  refine isTrue_plain ?_
  refine MethodCall_ ?_
  refine lv C.F rfl kf rfl h2 ?_
  refine GM.isspace ?_
  refine callWith_method0 ?_
  refine SC.isspace ?_
  rw [hsp]
  refine wpAny_truthy_bool ?_
  rw [if_neg (by decide)]
  refine wpAny_execs_nil ?_
  -- prevpart = self._current_line[i - 1][1]
  refine wpAny_execs_cons ?_
  refine wpAny_Assign_Name ?_
  refine Subscript_ ?_
  refine Subscript_ ?_
  refine fm_cur rfl C.B C.F rfl kf rfl h1 C.fm ?_
  refine wpAny_BinOp ?_
  refine lv (s := { s with toks := s.toks + 1 }) C.F rfl kf rfl h3 ?_
  with_reducible refine wpAny_Constant_int ?_
  refine sub_int ?_
  obtain ⟨⟨vs, n, hc, hv⟩, t, u, n', hd⟩ := id C.fm.acc
  obtain ⟨v, hvi, t₁, ta, tb, nt, rfl, ht⟩ := hv.at hp
  refine acc_sub (dc := dc) (C.B.at C.F.base) hc hd ?_ (.inl rfl)
  refine acc_getInt (dc := dc) (x := .ref t₁) (C.B.at C.F.base) hc hd (by omega) (by omega) (by
    have : ((i + 1 : Nat) : Int) - 1 = (i : Int) := by omega
    rw [this]; simpa using hvi) ?_
  refine wpAny_bind (wpAny_letTemporaryGo (wpAny_pure ?_))
  with_reducible refine wpAny_Constant_int ?_
  refine item_tupleT (l := [.str a ta, .str (tx (y ++ [last])) tb]) ⟨_, ht, rfl, nt, rfl⟩ (by decide) (by decide) (j := 1) (by rfl) rfl ?_
  refine sw s.gens s.os rfl rfl C.F rfl kf rfl ?_
  intro s₂ F₂ k₂ g₂ o₂
  dsimp only at k₂
  have C₂ := C.store F₂ k₂ g₂ o₂
  have q0 : (fun (z : PySem.Str) => if z = "prevpart" then some (Value.str (tx (y ++ [last])) tb) else m z) "prevpart" = some (Value.str (tx (y ++ [last])) tb) := upd_eq
  refine wpAny_execs_cons ?_
  refine wpAny_If ?_
  with_reducible refine isTrue_and ?_
  refine isTrue_plain ?_
  refine lv C₂.F rfl kf rfl q0 ?_
  have hlen : (tx (y ++ [last])).length = y.length + 1 := by rw [← sg_length, sg_tx]; simp
  refine PySem.P.truthy_str (by rw [hlen]; omega) ?_
  have e1 : (((tx (y ++ [last])).length : Int) != 0) = true := by rw [hlen]; simpa using (by omega : ((y.length + 1 : Nat) : Int) ≠ 0)
  rw [e1, if_pos rfl]
  with_reducible refine isTrue_and ?_
  refine wpAny_isTrue_Compare1 ?_
  refine Subscript_ ?_
  refine lv (s := { s₂ with toks := s₂.toks + 1 + 1 }) C₂.F rfl kf rfl q0 ?_
  refine UnaryOp_ ?_
  with_reducible refine wpAny_Constant_int ?_
  refine neg_int ?_
  refine item_str (i := -1) (by decide) (by rw [hlen]; omega) (by rw [hlen]; omega) ?_
  intro _
  have hit : Txt.item (tx (y ++ [last])) (-1) = ⟨#[last]⟩ := by
    have hl' : (y ++ [last]).toArray.size = y.length + 1 := by simp
    unfold Txt.item Txt.charAt
    have hk : seqIndex? (-1) (tx (y ++ [last])).length = some y.length := by
      rw [hlen, seqIndex_neg (by omega) (by omega)]; congr 1; omega
    have hg : (tx (y ++ [last])).cps[y.length]? = some last := by
      show (y ++ [last]).toArray[y.length]? = _
      simp
    rw [hk, Option.bind_some, hg]; rfl
  rw [hit]
  refine lv (s := { s₂ with toks := s₂.toks + 1 + 1 + 1 + 1 + 1 }) C₂.F rfl kf rfl (upd_ne h2) ?_
  refine eq_str ?_
  refine wpAny_truthy_bool ?_
  have fin : ∀ t, Cx w g S { s₂ with toks := t } L (fun z => if z = "prevpart" then some (.str (tx (y ++ [last])) tb) else m z) f df c dc ln W k ps ls := fun t => C₂.tok
  by_cases hcc : last = cc
  · subst hcc
    have e2 : ((⟨#[last]⟩ : PySem.Str) == ⟨#[last]⟩) = true := by simp
    rw [e2, if_pos rfl]
    refine isTrue_and_nil ?_
    rw [if_pos rfl]
    refine wpAny_execs_cons ?_
    refine wpAny_Break ?_
    have := h _ _ (fin (s₂.toks + 1 + 1 + 1 + 1 + 1)) (fun x hx => if_neg hx) k₂
    rw [if_pos rfl] at this
    exact this
  · have e2 : ((⟨#[last]⟩ : PySem.Str) == ⟨#[cc]⟩) = false := by simp [hcc]
    rw [e2, if_neg (by decide), if_neg (by decide)]
    refine wpAny_execs_nil ?_
    refine wpAny_execs_nil ?_
    have := h _ _ (fin (s₂.toks + 1 + 1 + 1 + 1 + 1)) (fun x hx => if_neg hx) k₂
    rw [if_neg hcc] at this
    exact this
end
end Mine
open PySem PySem.W PyProof.Rows PySem.Calls PySem.Spec
set_option Elab.async false
set_option maxRecDepth 100000
set_option maxHeartbeats 1000000
set_option linter.unusedVariables false
namespace Mine
section
variable {w : World} {A : Around} {E : Value → Shared → Prop} {S s s' s'' : Shared} {h h' g e : Heap} {f df c dc ln L l : Addr} {W k k' : Int} {ps ps' : List (PySem.Str × PySem.Str)} {ls ls' : List PySem.Str} {X : List Addr} {m m' : PySem.Str → Option Value} {P : Params} {R : Result → Shared → Prop} {env : Env} {Q : Flow → Shared → Prop} {vs : List Value}
noncomputable def push91a (b : List Stmt) : Stmt := match b with | st :: _ => st | _ => default
noncomputable def push91b (b : List Stmt) : Stmt := match b with
  | [_, .If _ [.For _ _ _ [_, _, st, _] _, _, _, _] _ _] => st
  | _ => default
noncomputable def row91 (b : List Stmt) : Stmt := match b with
  | [_, .If _ [_, _, st, _] _ _] => st
  | _ => default
/-- self._current_line.push(fws, NAME) -/
theorem cx_push {a b nm : PySem.Str} {ta tb : Tok} {st : Stmt} (hst : (st = push91a (bodyAt w.params 91) ∧ nm = "string") ∨ (st = push91b (bodyAt w.params 91) ∧ nm = "part")) (he : env = callEnv (fdAt w.params 91) L 91) (C : Cx w g S s L m f df c dc ln W k ps ls) (hl3 : env.kindOf nm = some .local)
    (rm : Rm A 3) (h1 : m "self" = some (.ref f)) (h2 : m "fws" = some (.str a ta)) (h3 : m nm = some (.str b tb)) (hz : ps.length ≤ 500)
    (h : ∀ s', Cx w g S s' L m f df c dc ln W k (ps ++ [(a, b)]) ls → Up [c] s s' → Q .next s') :
    wpAny (model prog w) A (exec st env) Q E s := by
  subst he
  have hL : (callEnv (fdAt w.params 91) L 91).locals = L := rfl
  have hk := (fn91 w.params).kind
  have hl1 : (callEnv (fdAt w.params 91) L 91).kindOf "self" = some .local := rfl
  have hl2 : (callEnv (fdAt w.params 91) L 91).kindOf "fws" = some .local := rfl
  have hls : (callEnv (fdAt w.params 91) L 91).kindOf "str" = some .globalImplicit := rfl
  rcases hst with ⟨rfl, rfl⟩ | ⟨rfl, rfl⟩
  · refine wpAny_Expr ?_
    refine MethodCall_ ?_
    refine fm_cur rfl C.B C.F hL hk hl1 h1 C.fm ?_
    refine ac_meth (fn := 122) (dc := dc) (C.B.at C.F.base) C.fm.acc (by kernel_rfl) (by kernel_rfl) (fun t u n => by kernel_rfl) ?_
    refine callWith_K (C.B.at C.F.base) (by kernel_rfl) ?_
    with_reducible refine args_cons ?_ (by with_unfolding_all rfl)
    refine lv (s := { s with toks := s.toks + 1 }) C.F hL hk hl2 h2 ?_
    with_reducible refine args_cons ?_ (by with_unfolding_all rfl)
    refine lv (s := { s with toks := s.toks + 1 }) C.F hL hk hl3 h3 ?_
    refine args_nil ?_
    refine ⟨C.B.at C.F.base, ?_⟩
    refine wpAny_call (push_ct (s := { s with toks := s.toks + 1 }) C.B C.F.base rm C.fm.acc hz ?_)
    intro s₂ u₂ ac₂
    have u₂ : Up [c] s s₂ := ⟨u₂.keep, u₂.gens, u₂.os⟩
    exact h s₂ (C.acc1 u₂ (by simp) ac₂) u₂
  · refine wpAny_Expr ?_
    refine MethodCall_ ?_
    refine fm_cur rfl C.B C.F hL hk hl1 h1 C.fm ?_
    refine ac_meth (fn := 122) (dc := dc) (C.B.at C.F.base) C.fm.acc (by kernel_rfl) (by kernel_rfl) (fun t u n => by kernel_rfl) ?_
    refine callWith_K (C.B.at C.F.base) (by kernel_rfl) ?_
    with_reducible refine args_cons ?_ (by with_unfolding_all rfl)
    refine lv (s := { s with toks := s.toks + 1 }) C.F hL hk hl2 h2 ?_
    with_reducible refine args_cons ?_ (by with_unfolding_all rfl)
    refine lv (s := { s with toks := s.toks + 1 }) C.F hL hk hl3 h3 ?_
    refine args_nil ?_
    refine ⟨C.B.at C.F.base, ?_⟩
    refine wpAny_call (push_ct (s := { s with toks := s.toks + 1 }) C.B C.F.base rm C.fm.acc hz ?_)
    intro s₂ u₂ ac₂
    have u₂ : Up [c] s s₂ := ⟨u₂.keep, u₂.gens, u₂.os⟩
    exact h s₂ (C.acc1 u₂ (by simp) ac₂) u₂
/-- self._lines.append(str(self._current_line)) -/
theorem cx_row {st : Stmt} (hst : st = row91 (bodyAt w.params 91)) (he : env = callEnv (fdAt w.params 91) L 91) (C : Cx w g S s L m f df c dc ln W k ps ls)
    (rm : Rm A 5) (h1 : m "self" = some (.ref f)) (hz : SmallT ps) (hz' : ps.length ≤ 40) (hzl : ls.length ≤ 900)
    (h : ∀ s', Cx w g S s' L m f df c dc ln W k ps (ls ++ [catAll ps]) → Up [147, ln] s s' → Q .next s') :
    wpAny (model prog w) A (exec st env) Q E s := by
  subst he hst
  have hL : (callEnv (fdAt w.params 91) L 91).locals = L := rfl
  have hk := (fn91 w.params).kind
  have hl1 : (callEnv (fdAt w.params 91) L 91).kindOf "self" = some .local := rfl
  have hl2 : (callEnv (fdAt w.params 91) L 91).kindOf "fws" = some .local := rfl
  have hls : (callEnv (fdAt w.params 91) L 91).kindOf "str" = some .globalImplicit := rfl
  refine wpAny_Expr ?_
  refine MethodCall_ ?_
  refine fm_lines rfl C.B C.F hL hk hl1 h1 C.fm ?_
  obtain ⟨vl, nl, hln, hsl⟩ := id C.fm.lines
  refine getMethod_list_append hln rfl rfl ?_
  refine callWith_method1 ?_
  with_reducible refine args_cons ?_ (by with_unfolding_all rfl)
  refine Call_ ?_
  refine bv (s := { s with toks := s.toks + 1 }) C.B C.F (by kernel_rfl) (v := .type "str") (by decide +kernel) hk hls (by kernel_rfl) (by kernel_rfl) ?_
  refine PyProof.Rows.callWith_type1 ?_
  with_reducible refine args_cons ?_ (by with_unfolding_all rfl)
  refine fm_cur (s := { s with toks := s.toks + 1 }) rfl C.B C.F hL hk hl1 h1 C.fm ?_
  refine args_nil ?_
  refine call_str_acc (s := { s with toks := s.toks + 1 + 1 }) C.B C.F.base rm C.fm.acc C.tb hz hz' ?_
  intro s₂ t₂ u₂ tb₂
  have u₂ : Up [147] s s₂ := ⟨u₂.keep, u₂.gens, u₂.os⟩
  have C₂ := C.look u₂ (by simp) tb₂
  refine args_nil ?_
  refine ln_append C₂.fm.lines (by omega) ?_
  intro h₃ la sb
  have u₃ : Up [ln] s₂ { s₂ with heap := h₃ } := ⟨fun b o nb q => sb.extBut b o (by simpa using nb) q, fun q => q, rfl⟩
  exact h { s₂ with heap := h₃ } (C₂.line (s' := { s₂ with heap := h₃ }) sb la rfl rfl) ((u₂.mono (by simp)).trans (u₃.mono (by simp)))
theorem All2.upT {vs : List Value} (a : All2 (TupIs s.heap) vs ps) (u : Up X s s') (hX : ∀ b ∈ X, ∀ o, s.heap.get? b = some o → o.cls ≠ .type "tuple" ∨ ∃ es n, o.data = .dict es n) : All2 (TupIs s'.heap) vs ps :=
  a.mono fun v p r => r.ext u.keep hX
noncomputable def tail91 (b : List Stmt) : List Stmt := match b with
  | [_, .If _ (_ :: t) _ _] => t
  | _ => []
theorem tail91_ct {i : Nat} {ti : Tok} {body : List Stmt} (hb : body = tail91 (bodyAt w.params 91)) (he : env = callEnv (fdAt w.params 91) L 91)
    (C : Cx w g S s L m f df c dc ln W k ps ls) (rm : Rm A 8) (h1 : m "self" = some (.ref f)) (h3 : m "i" = some (.int i ti)) (hz : SmallT ps) (hz' : ps.length ≤ 40) (hzl : ls.length ≤ 900)
    (h : ∀ s' m', Cx w g S s' L m' f df c dc ln W 0 (ps.drop i) (ls ++ [catAll (ps.take i)]) → Q .next s') :
    wpAny (model prog w) A (execs body env) Q E s := by
  subst hb he
  have kf := (fn91 w.params).kind
  refine wpAny_execs_cons ?_
  refine wpAny_Assign_Name ?_
  refine MethodCall_ ?_
  refine fm_cur rfl C.B C.F rfl kf rfl h1 C.fm ?_
  refine ac_meth (fn := 130) (dc := dc) (C.B.at C.F.base) C.fm.acc (by kernel_rfl) (by kernel_rfl) (fun t u n => by kernel_rfl) ?_
  refine callWith_K (C.B.at C.F.base) (by kernel_rfl) ?_
  with_reducible refine args_cons ?_ (by with_unfolding_all rfl)
  refine lv (s := { s with toks := s.toks + 1 }) C.F rfl kf rfl h3 ?_
  refine args_nil ?_
  refine ⟨C.B.at C.F.base, ?_⟩
  refine wpAny_call (pop_from_ct (s := { s with toks := s.toks + 1 }) (dc := dc) C.B C.F.base rm.mono C.fm.acc (by omega) C.nx.c ?_)
  intro s₂ l vs u₂ ac₂ hl isl hvs
  have u₂ : Up [c] s s₂ := ⟨u₂.keep, u₂.gens, u₂.os⟩
  have C₂ := C.acc1 u₂ (by simp) ac₂
  have hlL : l ≠ L := fun z => absurd C.F.lt (Nat.not_lt.mpr (z ▸ hl))
  have hlln : l ≠ ln := fun z => by
    obtain ⟨vl, nl, hln, _⟩ := C.fm.lines
    exact absurd (Heap.lt_size hln) (Nat.not_lt.mpr (z ▸ hl))
  have hl147 : l ≠ 147 := fun z => by
    obtain ⟨v2, _, t2⟩ := C.tb.b
    exact absurd (Heap.lt_size t2.2) (Nat.not_lt.mpr (z ▸ hl))
  refine sw s₂.gens s₂.os rfl rfl C₂.F rfl kf rfl ?_
  intro s₃ F₃ k₃ g₃ o₃
  have C₃ := C₂.store F₃ k₃ g₃ o₃
  obtain ⟨oL, eL, nL, hoL, hdL, _⟩ := C₂.F.ns
  have hvs₃ : All2 (TupIs s₃.heap) vs (ps.drop i) := hvs.mono fun v p r => r.ext (X := [L]) (fun b o nb q => k₃ b o (by simpa using nb) q) fun b hb o q => by
    obtain rfl := List.mem_singleton.mp hb
    rw [hoL] at q; cases q
    exact .inr ⟨_, _, hdL⟩
  obtain ⟨ol, hol, r⟩ := isl
  have hol₃ := k₃ _ _ hlL hol
  refine wpAny_execs_cons ?_
  refine cx_row (by kernel_rfl) rfl C₃ rm.mono (upd_ne h1) (fun p hp => hz p (List.mem_of_mem_take hp)) (by rw [List.length_take]; omega) hzl ?_
  intro s₄ C₄ u₄
  have hol₄ := u₄.keep _ _ (by simp [hlln, hl147]) hol₃
  have hvs₄ := hvs₃.upT u₄ fun b hb o q => by
    rcases List.mem_cons.mp hb with rfl | hb
    · have := C₃.tb.cls (.inr rfl) q
      exact .inl (fun z => by rw [this] at z; cases z)
    · obtain rfl := List.mem_singleton.mp hb
      obtain ⟨vl, nl, hln, _⟩ := C₃.fm.lines
      rw [hln] at q; cases q
      exact .inl (fun z => by injection z with z; exact absurd z (by decide))
  refine wpAny_execs_cons ?_
  refine wpAny_Expr ?_
  refine MethodCall_ ?_
  refine fm_cur rfl C₄.B C₄.F rfl kf rfl (upd_ne h1) C₄.fm ?_
  refine ac_meth (fn := 160) (dc := dc) (C₄.B.at C₄.F.base) C₄.fm.acc (by kernel_rfl) (by kernel_rfl) (fun t u n => by kernel_rfl) ?_
  refine callWith_K (C₄.B.at C₄.F.base) (by kernel_rfl) ?_
  with_reducible refine args_cons ?_ (by with_unfolding_all rfl)
  refine lv (s := { s₄ with toks := s₄.toks + 1 }) C₄.F rfl kf rfl upd_eq ?_
  refine args_nil ?_
  refine ⟨C₄.B.at C₄.F.base, ?_⟩
  refine wpAny_call (reset_ct (s := { s₄ with toks := s₄.toks + 1 }) (dc := dc) C₄.B C₄.F.base rm.mono C₄.fm.acc ⟨ol, hol₄, r⟩ hvs₄ (by rw [List.length_take]; omega) (by rw [List.length_drop]; omega) C.nx.c C.nx.dc ?_)
  intro s₅ u₅ ac₅
  have u₅ : Up [c, dc] s₄ s₅ := ⟨u₅.keep, u₅.gens, u₅.os⟩
  refine wpAny_execs_nil ?_
  exact h s₅ _ (C₄.acc1 u₅ (by simp) ac₅)
end
end Mine
open PySem PySem.W PyProof.Rows PySem.Calls PySem.Spec
set_option Elab.async false
set_option maxRecDepth 100000
set_option maxHeartbeats 1000000
set_option linter.unusedVariables false
namespace Mine
theorem ext_new {a : Addr} {h h' : Heap} (e : Heap.ExtBut a h h') (ha : a = h.objs.size) : ∀ b o, h.get? b = some o → h'.get? b = some o :=
  fun b o q => e b o (fun z => by rw [z, ha] at q; exact absurd (Heap.lt_size q) (Nat.lt_irrefl _)) q
theorem sizeAll_append (a b : List (PySem.Str × PySem.Str)) : sizeAll (a ++ b) = sizeAll a + sizeAll b := by simp [sizeAll]
section
variable {w : World} {A : Around} {E : Value → Shared → Prop} {S s s' s'' : Shared} {h h' g e : Heap} {f df c dc ln L l : Addr} {W k k' : Int} {ps ps' : List (PySem.Str × PySem.Str)} {ls ls' : List PySem.Str} {X : List Addr} {m m' : PySem.Str → Option Value} {P : Params} {R : Result → Shared → Prop} {env : Env} {Q : Flow → Shared → Prop} {vs : List Value}
noncomputable def else91 (b : List Stmt) : List Stmt := match b with
  | [_, .If _ [.For _ _ _ el _, _, _, _] _ _] => el
  | _ => []
theorem else91_ct {x : PySem.Str} {body : List Stmt} (hb : body = else91 (bodyAt w.params 91)) (he : env = callEnv (fdAt w.params 91) L 91)
    (C : Cx w g S s L m f df c dc ln W k [(" ", x)] ls) (rm : Rm A 10) (h1 : m "self" = some (.ref f)) (hk0 : 0 ≤ k) (hk1 : k ≤ 1000) (hzl : ls.length ≤ 800)
    (h : ∀ s' m', Cx w g S s' L m' f df c dc ln W (if 0 < k then 0 else k) [(" ", x)] (if 0 < k then ls ++ [("" : PySem.Str)] else ls) → Q (.ret .none) s') :
    wpAny (model prog w) A (execs body env) Q E s := by
  subst hb he
  have kf := (fn91 w.params).kind
  refine wpAny_execs_cons ?_
  refine Assign_Tuple ?_
  refine MethodCall_ ?_
  refine fm_cur rfl C.B C.F rfl kf rfl h1 C.fm ?_
  refine ac_meth (fn := 138) (dc := dc) (C.B.at C.F.base) C.fm.acc (by kernel_rfl) (by kernel_rfl) (fun t u n => by kernel_rfl) ?_
  refine callWith_K0 (C.B.at C.F.base) (by kernel_rfl) ?_
  refine wpAny_call (pop_ct (ps := []) (s := { s with toks := s.toks + 1 }) C.B C.F.base rm.mono C.fm.acc (by simp) ?_)
  intro s₂ v u₂ ac₂ tv
  have u₂ : Up [c] s s₂ := ⟨u₂.keep, u₂.gens, u₂.os⟩
  have C₂ := C.acc1 u₂ (by simp) ac₂
  obtain ⟨t, ta, tb, nt, rfl, ht⟩ := tv
  refine wpAny_assign_Tuple rm.hnd (items := #[.str " " ta, .str x tb]) ⟨_, ht, rfl, nt, rfl⟩ rfl rfl ?_
  intro h₃ e₃
  have C₃ := C₂.keeps (s' := { s₂ with heap := h₃ }) (ext_new e₃ rfl) rfl rfl
  refine gn h₃ s₂.gens s₂.os rfl rfl rfl fun s₃ eh eg eo => ?_
  have C₃ := C₃.re (s' := s₃) eh eg eo
  refine assignInOrder_cons ?_
  refine assign_Name ?_
  refine sw s₃.gens s₃.os rfl rfl C₃.F rfl kf rfl ?_
  intro s₄ F₄ k₄ g₄ o₄
  have C₄ := C₃.store F₄ k₄ g₄ o₄
  refine assignInOrder_cons ?_
  refine assign_Name ?_
  refine sw s₄.gens s₄.os rfl rfl C₄.F rfl kf rfl ?_
  intro s₅ F₅ k₅ g₅ o₅
  have C₅ := C₄.store F₅ k₅ g₅ o₅
  obtain ⟨m₅, C₅, n1, n2, n3⟩ : ∃ m₅ : PySem.Str → Option Value, Cx w g S s₅ L m₅ f df c dc ln W k [] ls ∧ m₅ "self" = some (.ref f) ∧ m₅ "fws" = some (.str " " ta) ∧ m₅ "part" = some (.str x tb) := ⟨_, C₅, upd_ne (upd_ne h1), upd_ne upd_eq, upd_eq⟩
  refine assignInOrder_nil ?_
  -- if self._current_line._initial_size > 0:
  refine wpAny_execs_cons ?_
  refine wpAny_If ?_
  refine wpAny_isTrue_Compare1 ?_
  refine Attribute_any_ ?_
  refine fm_cur rfl C₅.B C₅.F rfl kf rfl n1 C₅.fm ?_
  obtain ⟨⟨vs, n, hc, hv⟩, t', u', n', hd⟩ := id C₅.fm.acc
  refine acc_get (s := { s₅ with toks := s₅.toks + 1 }) (dc := dc) (v := .int k u') (C₅.B.at C₅.F.base) hc hd (by kernel_rfl) rfl ?_
  with_reducible refine wpAny_Constant_int ?_
  refine gt_int ?_
  refine wpAny_truthy_bool ?_
  by_cases hk : 0 < k
  · rw [if_pos (by simpa using hk)]
    refine gn s₅.heap s₅.gens s₅.os rfl rfl rfl fun s₆ eh eg eo => ?_
    have C₆ := C₅.re (s' := s₆) eh eg eo
    refine wpAny_execs_cons ?_
    refine wpAny_Expr ?_
    refine MethodCall_ ?_
    refine lv C₆.F rfl kf rfl n1 ?_
    obtain ⟨ho, ⟨td, nd, hdf⟩, _⟩ := id C₆.fm
    refine fm_meth (fn := 56) (C₆.B.at C₆.F.base) ho hdf (by kernel_rfl) (by kernel_rfl) (by kernel_rfl) ?_
    refine callWith_K0 (C₆.B.at C₆.F.base) (by kernel_rfl) ?_
    refine wpAny_call (newline_ct C₆.B C₆.F.base rm.mono C₆.nx C₆.fm C₆.tb (by simp) (by omega) (by decide) ?_ ?_ ?_ (.inl (by omega)) ?_)
    · intro p hp
      simp at hp; subst hp
      exact ⟨Nat.zero_le _, Nat.zero_le _⟩
    · have : sizeAll ([] ++ [((("" : PySem.Str), ("" : PySem.Str)))]) = 0 := rfl
      simp only [List.dropLast, List.getLastD]
      rw [this]; omega
    · have : sizeAll ([] ++ [((("" : PySem.Str), ("" : PySem.Str)))]) = 0 := rfl
      simp only [List.dropLast, List.getLastD]
      rw [this]; omega
    intro s₇ u₇ fm₇ tb₇
    have el : catAll (([] : List (PySem.Str × PySem.Str)).dropLast ++ [([] : List (PySem.Str × PySem.Str)).getLastD ("", "")]) = "" := by decide +kernel
    rw [el] at fm₇
    have C₇ := C₆.own u₇ fm₇ tb₇
    refine wpAny_execs_cons ?_
    refine wpAny_If ?_
    refine isTrue_not ?_
    refine isTrue_plain ?_
    refine lv C₇.F rfl kf rfl n2 ?_
    refine PySem.P.truthy_str (by decide) ?_
    have e1 : ((((" " : PySem.Str).length : Nat) : Int) != 0) = true := by decide
    rw [e1]
    rw [if_neg (by decide)]
    refine wpAny_execs_nil ?_
    refine wpAny_execs_nil ?_
    refine wpAny_execs_cons ?_
    refine cx_push (s := { s₇ with toks := s₇.toks + 1 + 1 }) (.inr ⟨by kernel_rfl, rfl⟩) rfl C₇.tok rfl rm.mono n1 n2 n3 (by simp) ?_
    intro s₈ C₈ _
    refine wpAny_execs_cons ?_
    refine wpAny_Return_none ?_
    refine h s₈ m₅ ?_
    rw [if_pos hk, if_pos hk]
    exact C₈
  · rw [if_neg (by simpa using hk)]
    refine gn s₅.heap s₅.gens s₅.os rfl rfl rfl fun s₆ eh eg eo => ?_
    have C₆ := C₅.re (s' := s₆) eh eg eo
    refine wpAny_execs_nil ?_
    refine wpAny_execs_cons ?_
    refine cx_push (.inr ⟨by kernel_rfl, rfl⟩) rfl C₆ rfl rm.mono n1 n2 n3 (by simp) ?_
    intro s₈ C₈ _
    refine wpAny_execs_cons ?_
    refine wpAny_Return_none ?_
    refine h s₈ m₅ ?_
    rw [if_neg hk, if_neg hk]
    exact C₈
end
end Mine
open PySem PySem.W PyProof.Rows PySem.Calls PySem.Spec
set_option Elab.async false
set_option maxRecDepth 100000
set_option maxHeartbeats 1000000
set_option linter.unusedVariables false
namespace Mine
section
variable {w : World} {A : Around} {E : Value → Shared → Prop} {S s s' s'' : Shared} {h h' g e : Heap} {f df c dc ln L l : Addr} {W k k' : Int} {ps ps' : List (PySem.Str × PySem.Str)} {ls ls' : List PySem.Str} {X : List Addr} {m m' : PySem.Str → Option Value} {P : Params} {R : Result → Shared → Prop} {env : Env} {Q : Flow → Shared → Prop} {vs : List Value}
theorem Cx.start (B : Bs w g) (nx : NewX g c dc ln) (fm : Fm w.params s.heap f df c dc ln W k ps ls) (tb : Tb s.heap) (hL : L = s.heap.objs.size) (F : Fw g e L h m) (K : ∀ b o, s.heap.get? b = some o → h.get? b = some o) (hh : s'.heap = h) (hg : s'.gens = s.gens) (ho : s'.os = s.os) :
    Cx w g s s' L m f df c dc ln W k ps ls := by
  subst hh
  exact ⟨B, nx, fm.newL tb (Nat.le_of_eq hL.symm), Nat.le_of_eq hL.symm, F.now, fm.keeps K, tb.keeps K, .of_eq K hg ho⟩
/-- an iterator of the call's own -/
structure ItAt (g : Heap) (S : Shared) (L I : Addr) (h : Heap) : Prop where
  new : S.heap.objs.size ≤ I
  out : g.get? I = none
  ne : I ≠ L
  obj : ∃ o, h.get? I = some o ∧ Foreign o
theorem Cx.itNew (C : Cx w g S s L m f df c dc ln W k ps ls) (kb : ∀ b o, g.get? b = some o → S.heap.get? b = some o) {o : Obj} (hI : l = s.heap.objs.size) (ho : h'.get? l = some o) (fo : Foreign o) (hSs : S.heap.objs.size ≤ s.heap.objs.size) : ItAt g S L l h' := by
  subst hI
  refine ⟨hSs, ?_, Nat.ne_of_gt C.F.lt, o, ho, fo⟩
  cases q : g.get? s.heap.objs.size with
  | none => rfl
  | some o => exact absurd (Heap.lt_size (C.F.base _ _ q)) (Nat.lt_irrefl _)
theorem Cx.le (C : Cx w g S s L m f df c dc ln W k ps ls) : S.heap.objs.size ≤ s.heap.objs.size := Nat.le_trans C.hL (Nat.le_of_lt C.F.lt)
/-- the iterator goes on -/
theorem Cx.go (C : Cx w g S s L m f df c dc ln W k ps ls) (it : ItAt g S L l s.heap) (sb : Heap.ExtBut l s.heap s'.heap) (hg : s'.gens = s.gens) (ho : s'.os = s.os) : Cx w g S s' L m f df c dc ln W k ps ls := by
  obtain ⟨o, hl, fo⟩ := it.obj
  refine C.frn (X := [l]) ⟨fun b o nb q => sb b o (by simpa using nb) q, fun q => hg ▸ q, ho⟩ (fun b hb o' q => ?_) (fun b hb => ?_) (fun b hb => ?_)
  · obtain rfl := List.mem_singleton.mp hb
    rw [hl] at q; cases q; exact fo
  · obtain rfl := List.mem_singleton.mp hb
    exact it.out
  · obtain rfl := List.mem_singleton.mp hb
    exact it.new
theorem range3 {A : Around} {E : Value → Shared → Prop} {a b c : Int} {t u v : Tok} {Q : Value → Shared → Prop} (G : _) (O : _) (eg : s.gens = G) (eo : s.os = O) (hc : c ≠ 0) (hs : c.natAbs < 1073741824)
    (h : ∀ s' r, s'.gens = G → s'.os = O → (∀ b o, s.heap.get? b = some o → s'.heap.get? b = some o) → IsRange s'.heap r a b c t u v → r = s.heap.objs.size → Q (.ref r) s') :
    wpAny (model prog w) A (call (.type "range") [.int a t, .int b u, .int c v]) Q E s :=
  call_range_3 hc (h _ _ eg eo (fun _ _ e => Heap.get?_push_of_some _ e) (Heap.get?_push_size _ rfl) rfl) (.inl (PyProof.noPylong_small hs))
theorem iter_range {A : Around} {E : Value → Shared → Prop} {r : Addr} {a b c n : Int} {t u v : Tok} {Q : Value → Shared → Prop} (hr : IsRange s.heap r a b c t u v) (hs : Builtin.Range.small a b c = true) (hn : Builtin.Range.rangeSize a b c = n) (G : _) (O : _) (eg : s.gens = G) (eo : s.os = O)
    (h : ∀ s' I, s'.gens = G → s'.os = O → (∀ b o, s.heap.get? b = some o → s'.heap.get? b = some o) → IsRangeIter s'.heap I a n c → I = s.heap.objs.size → Q (.ref I) s') :
    wpAny (model prog w) A (pyIter (.ref r)) Q E s := by
  subst hn
  exact wpAny_pyIter_range hr hs (h _ _ eg eo (fun _ _ e => Heap.get?_push_of_some _ e) (Heap.get?_push_size _ rfl) rfl)
noncomputable def for91 (b : List Stmt) : Stmt := match b with
  | [_, .If _ [.For _ _ (st :: _) _ _, _, _, _] _ _] => st
  | _ => default
noncomputable def tgt91 (b : List Stmt) : PySem.Expr := match for91 b with
  | .For t _ _ _ _ => t
  | _ => default
noncomputable def or91 (b : List Stmt) : List Stmt := match for91 b with
  | .For _ _ _ o _ => o
  | _ => []
theorem inner91 {st : Stmt} (hst : st = for91 (bodyAt w.params 91)) (he : env = callEnv (fdAt w.params 91) L 91) (rm : Rm A 3)
    (C : Cx w g S s L m f df c dc ln W k ps ls) (kb : ∀ b o, g.get? b = some o → S.heap.get? b = some o) (h1 : m "self" = some (.ref f)) (hz : ps.length ≤ 500) (hz' : 1 ≤ ps.length)
    (h : ∀ s' I, Cx w g S s' L m f df c dc ln W k ps ls → ItAt g S L I s'.heap → IsRangeIter s'.heap I ((ps.length : Int) - 1) ((ps.length : Int) - 1) (-1) → (∀ b o, s.heap.get? b = some o → s'.heap.get? b = some o) →
      ForW w A (tgt91 (bodyAt w.params 91)) (.ref I) (turn91 (bodyAt w.params 91)) (or91 (bodyAt w.params 91)) env Q s') :
    wpAny (model prog w) A (exec st env) Q E s := by
  subst hst he
  have kf := (fn91 w.params).kind
  refine wpAny_ForW ?_
  refine Call_ ?_
  refine bv C.B C.F (by kernel_rfl) (v := .type "range") (by decide +kernel) kf rfl (by kernel_rfl) (by kernel_rfl) ?_
  refine PyProof.Rows.callWith_type1 ?_
  with_reducible refine args_cons ?_ (by with_unfolding_all rfl)
  refine wpAny_BinOp ?_
  refine MethodCall_ ?_
  refine fm_cur rfl C.B C.F rfl kf rfl h1 C.fm ?_
  refine ac_meth (fn := 175) (dc := dc) (C.B.at C.F.base) C.fm.acc (by kernel_rfl) (by kernel_rfl) (fun t u n => by kernel_rfl) ?_
  refine callWith_K0 (C.B.at C.F.base) (by kernel_rfl) ?_
  refine wpAny_call (part_count_ct (s := { s with toks := s.toks + 1 }) C.B C.F.base rm C.fm.acc ?_)
  intro s₂ t₂ u₂
  have u₂ : Up [] s s₂ := ⟨u₂.keep, u₂.gens, u₂.os⟩
  have C₂ := C.look u₂ (by simp) (C.tb.keeps fun b o q => u₂.keep b o (by simp) q)
  with_reducible refine wpAny_Constant_int ?_
  refine sub_int ?_
  with_reducible refine args_cons ?_ (by with_unfolding_all rfl)
  with_reducible refine wpAny_Constant_int ?_
  with_reducible refine args_cons ?_ (by with_unfolding_all rfl)
  refine UnaryOp_ ?_
  with_reducible refine wpAny_Constant_int ?_
  refine neg_int ?_
  refine args_nil ?_
  refine range3 s₂.gens s₂.os rfl rfl (by decide) (by omega) ?_
  intro s₃ r g₃ o₃ k₃ hr le₃
  have C₃ := C₂.keeps (s' := s₃) k₃ g₃ o₃
  refine iter_range hr (small_down (by omega) (by omega) (by decide) (by decide)) (n := (ps.length : Int) - 1) (by rw [rangeSize_down]; split <;> omega) s₂.gens s₂.os g₃ o₃ ?_
  intro s₄ I g₄ o₄ k₄ hI eI
  have it := C₃.itNew (h' := s₄.heap) kb eI hI ⟨⟨_, rfl⟩, by nofun, fun z => by injection z with z; exact absurd z (by decide)⟩ C₃.le
  have C₄ := C₃.keeps (s' := s₄) k₄ (g₄.trans g₃.symm) (o₄.trans o₃.symm)
  exact h _ _ C₄ it hI (fun b o q => k₄ _ _ (k₃ _ _ (u₂.keep b o (by simp) q)))
end
end Mine
open PySem PySem.W PyProof.Rows PySem.Calls PySem.Spec
set_option Elab.async false
set_option maxRecDepth 100000
set_option maxHeartbeats 1000000
set_option linter.unusedVariables false
namespace Mine
/-- all parts but the last one end in a comma -/
noncomputable def Commas (ps : List (PySem.Str × PySem.Str)) : Prop := ∀ i, i + 1 < ps.length → ∃ a y, ps[i]? = some (a, tx (y ++ [44])) ∧ y.length ≤ 100
theorem ItAt.ext {g : Heap} {S : Shared} {L I : Addr} {h h' : Heap} (x : ItAt g S L I h) (e : ∃ o, h'.get? I = some o ∧ Foreign o) : ItAt g S L I h' := ⟨x.new, x.out, x.ne, e⟩
theorem frn_range {a b c : Int} : Foreign { cls := .type "range_iterator", dict := none, data := .fields #[rawInt a, rawInt b, rawInt c], slots := #[] } := ⟨⟨_, rfl⟩, by nofun, fun z => by injection z with z; exact absurd z (by decide)⟩
section
variable {w : World} {A : Around} {E : Value → Shared → Prop} {S s s' s'' : Shared} {h h' g e : Heap} {f df c dc ln L l I : Addr} {W k k' : Int} {ps ps' : List (PySem.Str × PySem.Str)} {ls ls' : List PySem.Str} {X : List Addr} {m m' : PySem.Str → Option Value} {P : Params} {R : Result → Shared → Prop} {env : Env} {Q : Flow → Shared → Prop} {vs : List Value}
theorem turn_i {cc j : Nat} {tc : Tok} {Q' : Flow → Shared → Prop} (he : env = callEnv (fdAt w.params 91) L 91) (C : Cx w g S s L m f df c dc ln W k ps ls) (it : ItAt g S L I s.heap) (h1 : m "self" = some (.ref f)) (h2 : m "ch" = some (.str ⟨#[cc]⟩ tc))
    (hsp : Txt.isspace ⟨#[cc]⟩ = false) (hc : Commas ps) (hz : ps.length ≤ 40) (hI : IsRangeIter s.heap I ((j + 1 : Nat) : Int) ((j + 1 : Nat) : Int) (-1)) (hj : j + 1 < ps.length)
    (h : ∀ s' m' t, Cx w g S s' L m' f df c dc ln W k ps ls → (∀ x : PySem.Str, x ≠ "prevpart" → x ≠ "i" → m' x = m x) → m' "i" = some (.int ((j + 1 : Nat) : Int) t) → ItAt g S L I s'.heap → IsRangeIter s'.heap I ((j : Nat) : Int) ((j : Nat) : Int) (-1) →
      (∀ b o, b ≠ L → b ≠ I → s.heap.get? b = some o → s'.heap.get? b = some o) → Q' (if 44 = cc then .brk else .next) s') :
    wpAny (model prog w) A (pyNext (.ref I)) (fun r s₁ => ∃ v, r = some v ∧ wpAny (model prog w) A (assign (tgt91 (bodyAt w.params 91)) env v) (fun _ s₂ => wpAny (model prog w) A (execs (turn91 (bodyAt w.params 91)) env) Q' (fun _ _ => False) s₂) (fun _ _ => False) s₁) (fun _ _ => False) s := by
  subst he
  have kf := (fn91 w.params).kind
  obtain ⟨a, y, hp, hy⟩ := hc j hj
  refine wpAny_pyNext_range_item hI (by omega) ?_
  intro h₂ hI₂ sb
  have e1 : ((j + 1 : Nat) : Int) + -1 = (j : Int) := by omega
  have e2 : ((j + 1 : Nat) : Int) - 1 = (j : Int) := by omega
  rw [e1, e2] at hI₂
  have C₂ := C.go (s' := { s with heap := h₂, toks := s.toks + 1 }) it sb.extBut rfl rfl
  refine ⟨_, rfl, ?_⟩
  refine wpAny_assign_Name ?_
  refine sw s.gens s.os rfl rfl C₂.F rfl kf rfl ?_
  intro s₃ F₃ k₃ g₃ o₃
  have C₃ := C₂.store F₃ k₃ g₃ o₃
  have hI₃ := k₃ _ _ it.ne hI₂
  refine turn91_ct (i := j) rfl rfl C₃ (upd_ne h1) (upd_ne h2) upd_eq hsp (by omega) hp hy ?_
  intro s₄ m₄ C₄ e₄ k₄
  have hI₄ := k₄ _ _ it.ne hI₃
  exact h s₄ m₄ s.toks C₄ (fun x n1 n2 => (e₄ x n1).trans (if_neg n2)) ((e₄ _ (by decide)).trans (if_pos rfl)) (it.ext ⟨_, hI₄, frn_range⟩) hI₄ fun b o n1 n2 q => k₄ b o n1 (k₃ b o n1 (sb.extBut b o n2 q))
theorem inner_none {cc : Nat} {tc : Tok} (he : env = callEnv (fdAt w.params 91) L 91) (hh : A.handled = none) (C : Cx w g S s L m f df c dc ln W k ps ls) (it : ItAt g S L I s.heap) (h1 : m "self" = some (.ref f)) (h2 : m "ch" = some (.str ⟨#[cc]⟩ tc))
    (hsp : 1 < ps.length → Txt.isspace ⟨#[cc]⟩ = false ∧ cc ≠ 44) (hc : Commas ps) (hz : ps.length ≤ 40) (hz' : 1 ≤ ps.length) (hI : IsRangeIter s.heap I ((ps.length : Int) - 1) ((ps.length : Int) - 1) (-1))
    (h : ∀ s' m', Cx w g S s' L m' f df c dc ln W k ps ls → (∀ x : PySem.Str, x ≠ "prevpart" → x ≠ "i" → m' x = m x) → (∀ b o, b ≠ L → b ≠ I → s.heap.get? b = some o → s'.heap.get? b = some o) → Q .cont s') :
    ForW w A (tgt91 (bodyAt w.params 91)) (.ref I) (turn91 (bodyAt w.params 91)) (or91 (bodyAt w.params 91)) env Q s := by
  refine ForW.loop (n := ps.length - 1) (fun j s' => ∃ m', Cx w g S s' L m' f df c dc ln W k ps ls ∧ (∀ x : PySem.Str, x ≠ "prevpart" → x ≠ "i" → m' x = m x) ∧ ItAt g S L I s'.heap ∧ IsRangeIter s'.heap I (((ps.length - 1 - j : Nat) : Nat) : Int) (((ps.length - 1 - j : Nat) : Nat) : Int) (-1) ∧
    (∀ b o, b ≠ L → b ≠ I → s.heap.get? b = some o → s'.heap.get? b = some o)) ?_ ?_ (by intro _; rfl) (Nat.zero_le _) ⟨m, C, fun _ _ _ => rfl, it, ?_, fun _ _ _ _ q => q⟩
  · rintro j s₁ hj ⟨m₁, C₁, e₁, it₁, hI₁, k₁⟩
    obtain ⟨hs1, hs2⟩ := hsp (by omega)
    have ej : ps.length - 1 - j = (ps.length - 1 - (j + 1)) + 1 := by omega
    rw [ej] at hI₁
    refine turn_i he C₁ it₁ ((e₁ _ (by decide) (by decide)).trans h1) ((e₁ _ (by decide) (by decide)).trans h2) hs1 hc hz hI₁ (by omega) ?_
    intro s₂ m₂ t C₂ e₂ i₂ it₂ hI₂ k₂
    rw [if_neg (Ne.symm hs2)]
    exact ⟨m₂, C₂, fun x n1 n2 => (e₂ x n1 n2).trans (e₁ x n1 n2), it₂, hI₂, fun b o n1 n2 q => k₂ b o n1 n2 (k₁ b o n1 n2 q)⟩
  · rintro s₁ ⟨m₁, C₁, e₁, it₁, hI₁, k₁⟩
    refine wpAny_pyNext_range_end hh hI₁ (by omega) ?_
    intro h₂ eb
    refine ⟨rfl, ?_⟩
    refine wpAny_execs_cons ?_
    refine wpAny_Continue ?_
    exact h _ m₁ (C₁.go (s' := { s₁ with heap := h₂ }) it₁ eb rfl rfl) e₁ fun b o n1 n2 q => eb b o n2 (k₁ b o n1 n2 q)
  · have : ((ps.length - 1 - 0 : Nat) : Int) = (ps.length : Int) - 1 := by omega
    rw [this]; exact hI
theorem inner_first {tc : Tok} (he : env = callEnv (fdAt w.params 91) L 91) (C : Cx w g S s L m f df c dc ln W k ps ls) (it : ItAt g S L I s.heap) (h1 : m "self" = some (.ref f)) (h2 : m "ch" = some (.str ⟨#[44]⟩ tc))
    (hc : Commas ps) (hz : ps.length ≤ 40) (hz' : 2 ≤ ps.length) (hI : IsRangeIter s.heap I ((ps.length : Int) - 1) ((ps.length : Int) - 1) (-1))
    (h : ∀ s' m' t, Cx w g S s' L m' f df c dc ln W k ps ls → (∀ x : PySem.Str, x ≠ "prevpart" → x ≠ "i" → m' x = m x) → m' "i" = some (.int ((ps.length - 1 : Nat) : Int) t) → Q .next s') :
    ForW w A (tgt91 (bodyAt w.params 91)) (.ref I) (turn91 (bodyAt w.params 91)) (or91 (bodyAt w.params 91)) env Q s := by
  have e0 : (ps.length : Int) - 1 = ((ps.length - 2 + 1 : Nat) : Int) := by omega
  rw [e0] at hI
  refine for1 (wpAny_mono (turn_i he C it h1 h2 (by decide +kernel) hc hz hI (by omega) (Q' := fun f s₃ => match f with
          | .next | .cont => ForW w A (tgt91 (bodyAt w.params 91)) (.ref I) (turn91 (bodyAt w.params 91)) (or91 (bodyAt w.params 91)) env Q s₃
          | .brk => Q .next s₃
          | .ret v => Q (.ret v) s₃) ?_) (fun r s₁ q => ?_) fun _ _ x => x) (by intro _; rfl)
  · intro s₂ m₂ t C₂ e₂ i₂ it₂ hI₂ k₂
    rw [if_pos rfl]
    have e1 : ps.length - 2 + 1 = ps.length - 1 := by omega
    rw [e1] at i₂
    exact h s₂ m₂ t C₂ e₂ i₂
  · obtain ⟨v, rfl, q⟩ := q; exact q
end
end Mine
open PySem PySem.W PyProof.Rows PySem.Calls PySem.Spec
set_option Elab.async false
set_option maxRecDepth 100000
set_option maxHeartbeats 1000000
set_option linter.unusedVariables false
namespace Mine
abbrev Part := PySem.Str × PySem.Str
/-- a part behind a blank -/
abbrev bl (x : PySem.Str) : Part := ((" " : PySem.Str), x)
/-- what _append_chunk(' ', x) makes of a formatter -/
noncomputable def stepA (W : Int) (x : PySem.Str) (st : Int × List Part × List PySem.Str) : Int × List Part × List PySem.Str :=
  if W < st.1 + sizeAll (st.2.1 ++ [bl x]) then
    if st.2.1 = [] then (if 0 < st.1 then (0, [bl x], st.2.2 ++ [("" : PySem.Str)]) else (st.1, [bl x], st.2.2))
    else (0, [bl x], st.2.2 ++ [catAll st.2.1])
  else (st.1, st.2.1 ++ [bl x], st.2.2)
theorem frn_str {x : PySem.Str} {t : Tok} {i : Nat} {o : Obj} (hc : o.cls = .type "str_ascii_iterator") (hd : o.data = .fields #[.str x t, .int i 0]) : Foreign o := ⟨⟨_, hd⟩, by rw [hc]; nofun, fun z => by rw [hc] at z; injection z with z; exact absurd z (by decide)⟩
section
variable {w : World} {A : Around} {E : Value → Shared → Prop} {S s s' s'' : Shared} {h h' g e : Heap} {f df c dc ln L l I : Addr} {W k k' : Int} {ps ps' : List Part} {ls ls' : List PySem.Str} {X : List Addr} {m m' : PySem.Str → Option Value} {P : Params} {R : Result → Shared → Prop} {env : Env} {Q : Flow → Shared → Prop} {vs : List Value}
theorem ascii_it {i : Nat} {cc : Nat} {x : PySem.Str} {t : Tok} {Q' : Option Value → Shared → Prop} (C : Cx w g S s L m f df c dc ln W k ps ls) (it : ItAt g S L I s.heap) (hit : s.heap.IsStrIter I "str_ascii_iterator" x t i) (hx : x.cps[i]? = some cc)
    (h : ∀ s' u, Cx w g S s' L m f df c dc ln W k ps ls → s'.heap.IsStrIter I "str_ascii_iterator" x t (i + 1) → ItAt g S L I s'.heap → Q' (some (.str ⟨#[cc]⟩ u)) s') : wpAny (model prog w) A (pyNext (.ref I)) Q' E s := by
  refine wpAny_pyNext_ascii_item hit hx ?_
  intro h₂ hit₂ sb
  obtain ⟨o, ho, hc, hd⟩ := id hit₂
  exact h { s with heap := h₂, toks := s.toks + 1 } s.toks (C.go (s' := { s with heap := h₂, toks := s.toks + 1 }) it sb.extBut rfl rfl) hit₂ (it.ext ⟨o, ho, frn_str hc hd⟩)
theorem IsStrIter_keep {h h' : Heap} {a : Addr} {ty : String} {x : PySem.Str} {t : Tok} {i : Nat} (y : h.IsStrIter a ty x t i) (k : ∀ o, h.get? a = some o → h'.get? a = some o) : h'.IsStrIter a ty x t i := by
  obtain ⟨o, ho, r⟩ := y
  exact ⟨o, k o ho, r⟩
theorem it_ne {i : Nat} {x : PySem.Str} {t : Tok} {a b c : Int} {J : Addr} (hit : h.IsStrIter I "str_ascii_iterator" x t i) (hr : IsRangeIter h J a b c) : I ≠ J := by
  rintro rfl
  obtain ⟨o, ho, hc, _⟩ := hit
  rw [hr] at ho; cases ho
  injection hc with hc; exact absurd hc (by decide)
theorem append_ct {x : PySem.Str} {t1 t2 : Tok} (B : Bs w g) (kb : ∀ b o, g.get? b = some o → s.heap.get? b = some o) (rm : Rm A 12) (nx : NewX g c dc ln) (fm : Fm w.params s.heap f df c dc ln W k ps ls) (tb : Tb s.heap)
    (hk0 : 0 ≤ k) (hk1 : k ≤ 1000) (hps : ps.length ≤ 20) (hls : ls.length ≤ 500) (hcm : Commas (ps ++ [bl x])) (hz : SmallT (ps ++ [bl x]))
    (h : ∀ s', Up (FX c dc ln) s s' → Fm w.params s'.heap f df c dc ln W (stepA W x (k, ps, ls)).1 (stepA W x (k, ps, ls)).2.1 (stepA W x (k, ps, ls)).2.2 → Tb s'.heap → R (.ok (.ret .none)) s') :
    codeAny (model prog w) A (.call (.ref 91) ⟨[.ref f, .str " " t1, .str x t2], []⟩) R s := by
  have kf := (fn91 w.params).kind
  refine enter (binds := [("self", .ref f), ("fws", .str " " t1), ("string", .str x t2)]) (fn91 _) B kb rm (by kernel_rfl) (by kernel_rfl) fun h₁ L hL F K₁ rm' => ?_
  refine gn h₁ s.gens s.os rfl rfl rfl fun s₁ e1 g1 o1 => ?_
  have C₁ := Cx.start (s' := s₁) B nx fm tb hL F K₁ e1 g1 o1
  refine wpAny_execs_cons ?_
  refine cx_push (.inl ⟨by kernel_rfl, rfl⟩) rfl C₁ rfl rm'.mono rfl rfl rfl (by omega) ?_
  intro s₂ C₂ _
  have C₂ : Cx w g s s₂ L _ f df c dc ln W k (ps ++ [bl x]) ls := C₂
  have hsz := sizeAll_le hz
  have hln : (ps ++ [bl x]).length = ps.length + 1 := by simp
  rw [hln] at hsz
  -- if len(self._current_line) > self._maxlen:
  refine wpAny_execs_cons ?_
  refine wpAny_If ?_
  refine wpAny_isTrue_Compare1 ?_
  refine Call_ ?_
  refine bv C₂.B C₂.F (by kernel_rfl) (v := .builtin "len") (by decide +kernel) kf rfl (by kernel_rfl) (by kernel_rfl) ?_
  refine PyProof.Rows.callWith_builtin1 ?_
  with_reducible refine args_cons ?_ (by with_unfolding_all rfl)
  refine fm_cur rfl C₂.B C₂.F rfl kf rfl rfl C₂.fm ?_
  refine args_nil ?_
  refine call_len_acc (s := { s₂ with toks := s₂.toks + 1 }) B C₂.F.base rm'.mono C₂.fm.acc C₂.tb hz (by omega) (by omega) ?_
  intro s₃ t₃ u₃ tb₃
  have u₃ : Up [140] s₂ s₃ := ⟨u₃.keep, u₃.gens, u₃.os⟩
  have C₃ := C₂.look u₃ (by simp) tb₃
  refine Attribute_any_ ?_
  refine lv C₃.F rfl kf rfl rfl ?_
  obtain ⟨ho, ⟨td, nd, hdf⟩, _⟩ := id C₃.fm
  refine fm_get (v := .int W (td 1)) (C₃.B.at C₃.F.base) ho hdf (by kernel_rfl) rfl ?_
  refine gt_int ?_
  refine wpAny_truthy_bool ?_
  have hfin : ∀ {fl : Flow} {s' : Shared} {m'} {k' ps' ls'}, (fl = .next ∨ fl = .ret .none) → stepA W x (k, ps, ls) = (k', ps', ls') → Cx w g s s' L m' f df c dc ln W k' ps' ls' → R (.ok (.ret (match fl with | .ret v => v | _ => .none))) s' := fun {fl s' m' k' ps' ls'} hfl e C' => by
    have := h s' C'.U (by rw [e]; exact C'.fm) C'.tb
    rcases hfl with rfl | rfl <;> exact this
  by_cases hW : W < k + sizeAll (ps ++ [bl x])
  · rw [if_pos (by simpa using hW)]
    refine gn s₃.heap s₃.gens s₃.os rfl rfl rfl fun s₄ eh eg eo => ?_
    have C₄ := C₃.re (s' := s₄) eh eg eo
    refine wpAny_execs_cons ?_
    refine wpAny_ForW ?_
    refine Attribute_any_ ?_
    refine lv C₄.F rfl kf rfl rfl ?_
    obtain ⟨ho, ⟨td, nd, hdf⟩, _⟩ := id C₄.fm
    refine fm_get (v := .str splitCh (td 7)) (C₄.B.at C₄.F.base) ho hdf (by kernel_rfl) rfl ?_
    refine wpAny_pyIter_ascii (by decide +kernel) ?_
    have C₅ := C₄.keeps (s' := { s₄ with heap := s₄.heap.push { cls := .type "str_ascii_iterator", data := .fields #[.str splitCh (td 7), .int 0 0] }, toks := s₄.toks + 1 }) (fun b o q => Heap.get?_push_of_some _ q) rfl rfl
    have hit₅ : (s₄.heap.push { cls := .type "str_ascii_iterator", data := .fields #[.str splitCh (td 7), .int 0 0] }).IsStrIter s₄.heap.objs.size "str_ascii_iterator" splitCh (td 7) 0 := ⟨_, Heap.get?_push_size _ rfl, rfl, rfl⟩
    have it₅ := C₄.itNew (h' := s₄.heap.push { cls := .type "str_ascii_iterator", data := .fields #[.str splitCh (td 7), .int 0 0] }) kb rfl (Heap.get?_push_size _ rfl) (frn_str (x := splitCh) (t := td 7) (i := 0) rfl rfl) C₄.le
    obtain ⟨I, eI⟩ : ∃ I, I = s₄.heap.objs.size := ⟨_, rfl⟩
    rw [← eI] at hit₅ it₅
    show ForW w _ _ (.ref s₄.heap.objs.size) _ _ _ _ _
    rw [← eI]
    by_cases hp : ps = []
    · subst hp
      refine ForW.loop (n := 4) (fun j s' => ∃ m', Cx w g s s' L m' f df c dc ln W k [bl x] ls ∧ m' "self" = some (.ref f) ∧ ItAt g s L I s'.heap ∧ s'.heap.IsStrIter I "str_ascii_iterator" splitCh (td 7) j) ?_ ?_ (by intro _; rfl) (Nat.zero_le _) ⟨_, C₅, rfl, it₅, hit₅⟩
      · rintro j s₆ hj ⟨m₆, C₆, n₆, it₆, hit₆⟩
        obtain ⟨cc, hcc⟩ : ∃ cc, splitCh.cps[j]? = some cc := by
          have : splitCh.cps.size = 4 := by decide +kernel
          exact ⟨_, Array.getElem?_eq_getElem (by omega)⟩
        refine ascii_it C₆ it₆ hit₆ hcc ?_
        intro s₇ u₇ C₇ hit₇ it₇
        refine ⟨_, rfl, ?_⟩
        refine wpAny_assign_Name ?_
        refine sw s₇.gens s₇.os rfl rfl C₇.F rfl kf rfl ?_
        intro s₈ F₈ k₈ g₈ o₈
        have C₈ := C₇.store F₈ k₈ g₈ o₈
        have hit₈ := IsStrIter_keep hit₇ (fun o q => k₈ _ _ it₇.ne q)
        refine wpAny_execs_cons ?_
        refine inner91 (by kernel_rfl) rfl rm'.mono C₈ kb (upd_ne n₆) (by simp) (by simp) ?_
        intro s₉ J C₉ it₉ hJ k₉
        have hit₉ := IsStrIter_keep hit₈ (fun o q => k₉ _ _ q)
        have hIJ := it_ne hit₉ hJ
        refine inner_none rfl rm'.hnd C₉ it₉ (upd_ne n₆) upd_eq (by simp) (fun i hi => by simp at hi) (by simp) (by simp) hJ ?_
        intro s₁₀ m₁₀ C₁₀ e₁₀ k₁₀
        have hit₁₀ := IsStrIter_keep hit₉ (fun o q => k₁₀ _ _ it₇.ne hIJ q)
        obtain ⟨o, ho, hc, hd⟩ := id hit₁₀
        exact ⟨m₁₀, C₁₀, (e₁₀ _ (by decide) (by decide)).trans (upd_ne n₆), it₇.ext ⟨o, ho, frn_str hc hd⟩, hit₁₀⟩
      · rintro s₆ ⟨m₆, C₆, n₆, it₆, hit₆⟩
        refine wpAny_pyNext_ascii_end rm'.hnd hit₆ (by decide +kernel) ?_
        intro h₇ eb
        refine ⟨rfl, ?_⟩
        refine gn h₇ s₆.gens s₆.os rfl rfl rfl fun s₇ eh eg eo => ?_
        have C₇ := (C₆.go (s' := { s₆ with heap := h₇ }) it₆ eb rfl rfl).re (s' := s₇) eh eg eo
        refine else91_ct (by kernel_rfl) rfl C₇ rm'.mono n₆ hk0 hk1 (by omega) ?_
        intro s₈ m₈ C₈
        refine hfin (fl := .ret .none) (.inr rfl) ?_ C₈
        unfold stepA
        rw [if_pos hW, if_pos rfl]
        by_cases hk : 0 < k
        · rw [if_pos hk, if_pos hk, if_pos hk]
        · rw [if_neg hk, if_neg hk, if_neg hk]
    · have hne : 1 ≤ ps.length := List.length_pos_iff.mpr hp
      -- ch = ';'
      refine for1 ?_ (by intro _; rfl)
      refine ascii_it C₅ it₅ hit₅ (cc := 59) (by decide +kernel) ?_
      intro s₇ u₇ C₇ hit₇ it₇
      refine wpAny_assign_Name ?_
      refine sw s₇.gens s₇.os rfl rfl C₇.F rfl kf rfl ?_
      intro s₈ F₈ k₈ g₈ o₈
      have C₈ := C₇.store F₈ k₈ g₈ o₈
      have hit₈ := IsStrIter_keep hit₇ (fun o q => k₈ _ _ it₇.ne q)
      refine wpAny_execs_cons ?_
      refine inner91 (by kernel_rfl) rfl rm'.mono C₈ kb (upd_ne rfl) (by omega) (by omega) ?_
      intro s₉ J C₉ it₉ hJ k₉
      have hit₉ := IsStrIter_keep hit₈ (fun o q => k₉ _ _ q)
      have hIJ := it_ne hit₉ hJ
      refine inner_none rfl rm'.hnd C₉ it₉ (upd_ne rfl) upd_eq (fun _ => ⟨by decide +kernel, by decide⟩) hcm (by omega) (by omega) hJ ?_
      intro s₁₀ m₁₀ C₁₀ e₁₀ k₁₀
      have hit₁₀ := IsStrIter_keep hit₉ (fun o q => k₁₀ _ _ it₇.ne hIJ q)
      have n₁₀ : m₁₀ "self" = some (.ref f) := (e₁₀ _ (by decide) (by decide)).trans (upd_ne rfl)
      -- ch = ','
      obtain ⟨o, ho, hc, hd⟩ := id hit₁₀
      refine for1 ?_ (by intro _; rfl)
      refine ascii_it C₁₀ (it₇.ext ⟨o, ho, frn_str hc hd⟩) hit₁₀ (cc := 44) (by decide +kernel) ?_
      intro s₁₁ u₁₁ C₁₁ hit₁₁ it₁₁
      refine wpAny_assign_Name ?_
      refine sw s₁₁.gens s₁₁.os rfl rfl C₁₁.F rfl kf rfl ?_
      intro s₁₂ F₁₂ k₁₂ g₁₂ o₁₂
      have C₁₂ := C₁₁.store F₁₂ k₁₂ g₁₂ o₁₂
      refine wpAny_execs_cons ?_
      refine inner91 (by kernel_rfl) rfl rm'.mono C₁₂ kb (upd_ne n₁₀) (by omega) (by omega) ?_
      intro s₁₃ J' C₁₃ it₁₃ hJ' k₁₃
      refine inner_first rfl C₁₃ it₁₃ (upd_ne n₁₀) upd_eq hcm (by omega) (by omega) hJ' ?_
      intro s₁₄ m₁₄ t₁₄ C₁₄ e₁₄ i₁₄
      refine wpAny_execs_cons ?_
      refine wpAny_Break ?_
      refine tail91_ct (by kernel_rfl) rfl C₁₄ rm'.mono ((e₁₄ _ (by decide) (by decide)).trans (upd_ne n₁₀)) i₁₄ hz (by omega) (by omega) ?_
      intro s₁₅ m₁₅ C₁₅
      refine wpAny_execs_nil ?_
      refine hfin (fl := .next) (.inl rfl) ?_ C₁₅
      unfold stepA
      rw [if_pos hW, if_neg hp]
      have hl1 : (ps ++ [bl x]).length - 1 = ps.length := by omega
      rw [hl1, List.drop_left, List.take_left]
  · rw [if_neg (by simpa using hW)]
    refine wpAny_execs_nil ?_
    refine wpAny_execs_nil ?_
    refine hfin (fl := .next) (.inl rfl) ?_ (C₃.tok)
    unfold stepA
    rw [if_neg hW]
end
end Mine
open PySem PySem.W PyProof.Rows PySem.Calls PySem.Spec
set_option Elab.async false
set_option maxRecDepth 100000
set_option maxHeartbeats 1000000
set_option linter.unusedVariables false
namespace Mine
theorem fn42 (P : Params) : FnOk P 42 := ⟨by kernel_rfl, by kernel_rfl, by kernel_rfl, by kernel_rfl, by kernel_rfl, by kernel_rfl, by kernel_rfl⟩
section
variable {w : World} {A : Around} {E : Value → Shared → Prop} {S s s' s'' : Shared} {h h' g e : Heap} {f df c dc ln L l I : Addr} {W k k' : Int} {ps ps' : List Part} {ls ls' : List PySem.Str} {X : List Addr} {m m' : PySem.Str → Option Value} {P : Params} {R : Result → Shared → Prop} {env : Env} {Q : Flow → Shared → Prop} {vs : List Value}
theorem strU_ct {sep : PySem.Str} {t1 : Tok} (B : Bs w g) (kb : ∀ b o, g.get? b = some o → s.heap.get? b = some o) (rm : Rm A 12) (nx : NewX g c dc ln) (fm : Fm w.params s.heap f df c dc ln W k ps ls) (tb : Tb s.heap)
    (hps : ps ≠ []) (hps' : ps.length ≤ 39) (hls : ls.length ≤ 500) (hz : SmallT ps) (hlast : ps.getLastD ("", "") ≠ ((" " : PySem.Str), ("" : PySem.Str))) (hk1 : k ≤ 1000) (h0 : 0 < k + sizeAll ps) (hsp : Txt.isspace (catAll ps) = false)
    (hsep : sep.length ≤ 10) (hlen : ((ls ++ [catAll ps]).map (·.length)).sum ≤ 1000000)
    (h : ∀ s' t, Up (FX c dc ln) s s' → Tb s'.heap → R (.ok (.ret (.str (Txt.join sep (ls ++ [catAll ps])) t))) s') :
    codeAny (model prog w) A (.call (.ref 42) ⟨[.ref f, .str sep t1], []⟩) R s := by
  have kf := (fn42 w.params).kind
  refine enter (binds := [("self", .ref f), ("linesep", .str sep t1)]) (fn42 _) B kb rm (by kernel_rfl) (by kernel_rfl) fun h₁ L hL F K₁ rm' => ?_
  refine gn h₁ s.gens s.os rfl rfl rfl fun s₁ e1 g1 o1 => ?_
  have C₁ := Cx.start (s' := s₁) B nx fm tb hL F K₁ e1 g1 o1
  refine wpAny_execs_cons ?_
  refine wpAny_Expr ?_
  refine MethodCall_ ?_
  refine lv C₁.F rfl kf rfl rfl ?_
  obtain ⟨ho, ⟨td, nd, hdf⟩, _⟩ := id C₁.fm
  refine fm_meth (fn := 56) (C₁.B.at C₁.F.base) ho hdf (by kernel_rfl) (by kernel_rfl) (by kernel_rfl) ?_
  refine callWith_K0 (C₁.B.at C₁.F.base) (by kernel_rfl) ?_
  have el : ps.dropLast ++ [ps.getLastD ("", "")] = ps := by
    obtain ⟨qs, q, rfl⟩ := (List.eq_nil_or_concat ps).resolve_left hps
    simp
  have hs := sizeAll_le hz
  refine wpAny_call (newline_ct C₁.B C₁.F.base rm'.mono C₁.nx C₁.fm C₁.tb hps' (by omega) hlast (by rw [el]; exact hz) (by rw [el]; exact h0) (by rw [el]; omega) (by rw [el]; exact .inr hsp) ?_)
  intro s₂ u₂ fm₂ tb₂
  rw [el] at fm₂
  have C₂ := C₁.own u₂ fm₂ tb₂
  refine wpAny_execs_cons ?_
  refine wpAny_Return_some ?_
  refine MethodCall_ ?_
  refine lv C₂.F rfl kf rfl rfl ?_
  refine GM.join ?_
  refine callWith_method1 ?_
  with_reducible refine args_cons ?_ (by with_unfolding_all rfl)
  refine fm_lines rfl C₂.B C₂.F rfl kf rfl rfl C₂.fm ?_
  refine args_nil ?_
  obtain ⟨vl, nl, hln, hsl⟩ := id C₂.fm.lines
  refine join_list (items := vl.toArray) ⟨_, hln, rfl, nl, rfl⟩ hsl ?_ ?_
  · have hl2 : (ls ++ [catAll ps]).length ≤ 501 := by simp; omega
    have : (ls ++ [catAll ps]).length * sep.length ≤ 501 * 10 := Nat.mul_le_mul hl2 hsep
    omega
  intro t k
  have C₃ : Cx w g s { s₂ with toks := k } L _ f df c dc ln W 0 [] (ls ++ [catAll ps]) := C₂.tok
  exact h _ t C₃.U C₃.tb
end
end Mine
open PySem PySem.W PyProof.Rows PySem.Calls PySem.Spec
set_option Elab.async false
set_option maxRecDepth 100000
set_option maxHeartbeats 1000000
set_option linter.unusedVariables false
namespace Mine
/-- the object of the class _Accumulator -/
noncomputable def ob178 (P : Params) : Obj := ((KK P).lookup 178).get!
theorem lk178 (P : Params) : (KK P).lookup 178 = some (ob178 P) := by kernel_rfl
theorem da178 (P : Params) : (ob178 P).data = .cls (cd178 P) := by kernel_rfl
theorem sl178 (P : Params) : ((ob178 P).slots[4]?).join = some (.builtin "list.__new__") := by kernel_rfl
theorem ab178 (P : Params) : (cd178 P).abstract = false ∧ (cd178 P).hasDel = false := ⟨by kernel_rfl, by kernel_rfl⟩
section
variable {M : Model} {w : World} {h : Heap}
theorem made178 (X : (KK w.params).In h) : Looks M h (Bind.madeBy (.ref 178)) (some "list.__new__") := by
  intro A Q E s k q
  have hm : Looks M h (mroOf (.ref 178)) [.ref 178, .type "list", .type "object"] := mro178 w.params ▸ ((looks_clsIn X (cls178 w.params)).andThen .now)
  unfold Bind.madeBy
  refine wpAny_bind (hm A _ E s k ?_)
  rw [List.forIn_cons]
  refine wpAny_bind (wpAny_bind (wpAny_bind (wpAny_bind (wpAny_loadPart (k _ _ (X _ _ (lk178 _))) (wpAny_pure ?_)))))
  dsimp only
  rw [sl178]
  exact wpAny_pure (wpAny_pure (wpAny_pure q))
theorem base178 (X : (KK w.params).In h) : Looks M h (Bind.staticBase (.ref 178)) (.ref 178) := by
  intro A Q E s k q
  have hm : Looks M h (mroOf (.ref 178)) [.ref 178, .type "list", .type "object"] := mro178 w.params ▸ ((looks_clsIn X (cls178 w.params)).andThen .now)
  unfold Bind.staticBase
  refine wpAny_bind (hm A _ E s k ?_)
  rw [List.forIn_cons]
  exact wpAny_bind (wpAny_bind (wpAny_bind (made178 X A _ E s k (wpAny_pure (wpAny_pure (wpAny_pure q))))))
end
section
variable {w : World} {A : Around} {R : Result → Shared → Prop} {h : Heap} {g : Array GenState} {d : Drawn} {t : Nat} {os : OsState}
theorem kind_list_new : builtinKind "list.__new__" = some .builtinFn := by decide +kernel
theorem split_list_new : splitId "list.__new__" = some ("list", "__new__") := by decide +kernel
theorem row_list_new : ∃ sig, Manifest.signature? "list.__new__" = some sig ∧ ∀ args, Bind.checkArgs "list.__new__" sig ⟨.ref 178 :: args, []⟩ = pure () := ⟨_, by with_unfolding_all rfl, fun _ => by kernel_rfl⟩
theorem accNew {rest : List Value} (X : (KK w.params).In h)
    (hq : R (.ok (.ret (.ref (h.objs.size + 1)))) ⟨(h.push emptyDict).push (accObj h.objs.size #[] 0), g, d, t, os⟩) :
    codeAny (model prog w) A (.call (.builtin "list.__new__") ⟨.ref 178 :: rest, []⟩) R ⟨h, g, d, t, os⟩ := by
  have hsub : mroIn (KK w.params) 178 (.type "list") = some true := by kernel_rfl
  obtain ⟨sig, e1, e2⟩ := row_list_new
  have L1 := made178 (M := model prog w) X
  have L2 := base178 (M := model prog w) X
  have L3 := looks_mroIn (M := model prog w) X hsub
  have hC := X _ _ (lk178 _)
  have hdd := da178 w.params
  obtain ⟨hab, hdel⟩ := ab178 w.params
  have hC' : ∃ oc od sl, h.get? 178 = some ⟨oc, od, .cls (cd178 w.params), sl⟩ := by
    generalize ob178 w.params = ob at hC hdd
    obtain ⟨oc, od, dd, sl⟩ := ob
    dsimp only at hdd; subst hdd
    exact ⟨_, _, _, hC⟩
  obtain ⟨oc, od, sl, hC'⟩ := hC'
  refine codeAny_call_builtin_code (Code.quiet_builtin _ (by decide +kernel)) ?_
  simp only [checkBuiltinCall, kind_list_new, split_list_new, e1, e2]
  repeat (first | simp only [bne_self_eq_false, Bool.false_eq_true, if_false, Bool.not_true] | lk)
  refine codeAny_builtin_stack F.entry_list_new rfl fun p st => ?_
  rw [Around.under_plainId F.plain_list_new _]
  have hown := owner_list_new
  simp only [hown]
  repeat (first | simp only [bne_self_eq_false, Bool.false_eq_true, if_false, Bool.not_true] | lk)
  refine wpAny_load (Heap.get?_push_of_some _ (Heap.get?_push_of_some _ hC')) (wpAny_pure ?_)
  rw [hdel]
  refine wpAny_pure (wpAny_pure ?_)
  show R _ _
  rw [Heap.size_push]
  exact hq
theorem accMake {args : List Value} (X : (KK w.params).In h)
    (hq : codeAny (model prog w) (A.under (.builtin "type.__call__" ⟨.ref 178 :: args, []⟩)) (.call (.ref 115) ⟨.ref (h.objs.size + 1) :: args, []⟩) (InitBack (h.objs.size + 1) R) ⟨(h.push emptyDict).push (accObj h.objs.size #[] 0), g, d, t, os⟩) :
    codeAny (model prog w) A (.call (.ref 178) ⟨args, []⟩) R ⟨h, g, d, t, os⟩ := by
  have hdd := da178 w.params
  have hC := X _ _ (lk178 _)
  have hC' : ∃ oc od sl, h.get? 178 = some ⟨oc, od, .cls (cd178 w.params), sl⟩ := by
    generalize ob178 w.params = ob at hC hdd
    obtain ⟨oc, od, dd, sl⟩ := ob
    dsimp only at hdd; subst hdd
    exact ⟨_, _, _, hC⟩
  obtain ⟨oc, od, sl, hC'⟩ := hC'
  have made := made178 (M := model prog w) X
  have call := looks_specialIn (M := model prog w) X (show specialIn (KK w.params) (.ref 178) "__call__" = some (some (.builtin "type.__call__")) by kernel_rfl)
  have typ := looks_instIn (M := model prog w) X (show instIn (KK w.params) (.ref 178) (.type "type") = some true by kernel_rfl)
  have self := looks_mroIn (M := model prog w) X (show mroIn (KK w.params) 178 (.ref 178) = some true by kernel_rfl)
  have hi := looks_findIn (M := model prog w) X (show findIn (KK w.params) (.ref 178) "__init__" = some (some (.ref 115)) by kernel_rfl)
  have hb := fun self => bind_fn (M := model prog w) X (f := 115) self (by kernel_rfl)
  refine codeAny_of_tree ?_
  show wpAny _ _ (callAny (.ref 178) _) _ _ _
  refine nd_load hC' ?_
  show wpAny _ _ (callAny.viaDunder (.ref 178) _) _ _ _
  unfold callAny.viaDunder
  refine wpAny_bind (call.at ?_)
  dsimp only
  rw [tc_bind]
  refine wpAny_bind (wpAny_pure (wpAny_bind (wpAny_pure ?_)))
  refine wpAny_pure (a := Fin.again (.call (.builtin "type.__call__") ⟨.ref 178 :: args, []⟩)) (And.intro rfl ?_)
  refine codeAny_call_builtin_at (Code.quiet_builtin _ (by decide +kernel)) entry_typeCall (check_slot tc_kind tc_split typ (tc_args _ _ _) ?_)
  unfold Builtin.«type.__call__»
  have hm : Looks (model prog w) h (mroOf (.ref 178)) (cd178 w.params).mro := ((Looks.ld (part := none) hC').andThen .now).andThen .now
  have e4 : (cd178 w.params).mro.isEmpty = false := by kernel_rfl
  repeat (first | simp only [e4, Bool.false_eq_true, if_false] | with_reducible refine wpAny_call ?_ | lk)
  refine accNew X ?_
  have k : ∀ b o, h.get? b = some o → ((h.push emptyDict).push (accObj h.objs.size #[] 0)).get? b = some o := fun b o e => Heap.get?_push_of_some _ (Heap.get?_push_of_some _ e)
  have hx : ((h.push emptyDict).push (accObj h.objs.size #[] 0)).get? (h.objs.size + 1) = some (accObj h.objs.size #[] 0) := by heap_get
  have t1 : Looks (model prog w) ((h.push emptyDict).push (accObj h.objs.size #[] 0)) (typeOf (.ref (h.objs.size + 1))) (.ref 178) := (Looks.ld hx).andThen .now
  have s1 := self.keeps k
  have i1 := hi.keeps k
  have b1 := (hb (.ref (h.objs.size + 1))).keeps k
  unfold isInstance callSpecial? specialOf
  repeat (first | with_reducible refine wpAny_call ?_ | lk)
  refine codeAny_mono hq fun r s' z => ?_
  rcases r with e | (v | _ | _ | _) <;> first | exact z | exact z.elim | skip
  obtain ⟨rfl, z⟩ := z
  exact wpAny_pure (wpAny_pure z)
end
end Mine
open PySem PySem.W PyProof.Rows PySem.Calls PySem.Spec
set_option Elab.async false
set_option maxRecDepth 100000
set_option maxHeartbeats 1000000
set_option linter.unusedVariables false
namespace Mine
theorem Rm.make {A : Around} {n : Nat} {C : Addr} {args : List Value} (h : Rm A (n + 1)) : Rm (A.under (.builtin "type.__call__" ⟨.ref C :: args, []⟩)) n := by
  obtain ⟨a, b, c, l, d⟩ := h
  have hw : (Code.builtin "type.__call__" ⟨.ref C :: args, []⟩).weight = 1 := by kernel_rfl
  have hu : (Code.builtin "type.__call__" ⟨.ref C :: args, []⟩).cUnits = 1 := by kernel_rfl
  have he : (Code.builtin "type.__call__" ⟨.ref C :: args, []⟩).envs = [] := by kernel_rfl
  refine ⟨?_, ?_, c, l, ?_⟩
  · show A.depth + _ + n ≤ 500
    rw [hw]; omega
  · show A.units + _ + 20 * n ≤ 5000
    rw [hu]; omega
  · have hf : ∀ c : Code, (A.under c).frames = pushEnvs c.envs A.frames := fun _ => rfl
    rw [hf, he, d]; rfl
theorem dict_empty (P : Params) (k : Int) (t u : Tok) : Obj.putName "_initial_size" (PyData.keyHash P "_initial_size") (.str "_initial_size" t) (.int k u) emptyDict = accDict P k t u 1 := by kernel_rfl
theorem look_empty : lookIn "_initial_size" emptyDict = some none := by kernel_rfl
section
variable {w : World} {A : Around} {s : Shared} {g : Heap} {c dc : Addr} {k : Int} {u : Tok} {R : Result → Shared → Prop}
theorem accInit {n : Nat} {E : Value → Shared → Prop} {Q : Fin → Shared → Prop} (hc : s.heap.get? c = some (accObj dc #[] n)) (h : ∀ h' n', h'.get? c = some (accObj dc #[] n') → Heap.SameBut c s.heap h' → Q (.done (.ret .none)) { s with heap := h' }) :
    wpAny (model prog w) A (Builtin.«list.__init__» ⟨[.ref c], []⟩) Q E s := by
  unfold Builtin.«list.__init__» Builtin.List.listItems Builtin.List.listUpdate
  have e := Heap.get?_update_self (Obj.mapSeq fun _ => #[]) hc rfl
  dsimp only
  rw [if_neg (by decide), if_neg (by decide)]
  refine wpAny_bind (wpAny_bind (wpAny_seqItems hc rfl (wpAny_pure ?_)))
  refine wpAny_bind (wpAny_updateSeq hc rfl ?_ (by decide) (by decide))
  refine wpAny_bind (wpAny_letGo ?_)
  exact wpAny_pure (h _ _ e (Heap.SameBut.update ..))
theorem init115_ct {dc : Addr} (B : Bs w g) (kb : ∀ b o, g.get? b = some o → s.heap.get? b = some o) (rm : Rm A 3) (hc : s.heap.get? c = some (accObj dc #[] 0)) (hd : s.heap.get? dc = some emptyDict) (hgc : g.get? c = none) (hgd : g.get? dc = none) (hcn : c ≠ 178)
    (h : ∀ s', Up [c, dc] s s' → AccAt w.params s'.heap c dc k [] → R (.ok (.ret .none)) s') :
    codeAny (model prog w) A (.call (.ref 115) ⟨[.ref c, .int k u], []⟩) R s := by
  have X := B.kk.keeps kb
  have bd : BindsTo s (fdAt w.params 115) ⟨[.ref c, .int k u], []⟩ [("self", .ref c), ("initial_size", .int k u)] := by
    have hdf : (fdAt w.params 115).defaults = .ref 107 := by kernel_rfl
    exact @binds_K s (KK w.params) (fdAt w.params 115) ⟨[.ref c, .int k u], []⟩ [("self", .ref c), ("initial_size", .int k u)] 107 ((KK w.params).lookup 107).get! (match ((KK w.params).lookup 107).get!.data with | .seq xs _ => xs | _ => #[]) (match ((KK w.params).lookup 107).get!.data with | .seq _ n => n | _ => 0) _ X hdf (by kernel_rfl) (by kernel_rfl) rfl (by kernel_rfl)
  have kf := (fn115 w.params).kind
  refine enterAt (fn115 w.params) B kb rm @bd (by kernel_rfl) fun h₁ L hL F K₁ rm' => ?_
  have hcd : c ≠ dc := fun q => by rw [q, hd] at hc; cases hc
  have cL : c ≠ L := by rw [hL]; exact Nat.ne_of_lt (Heap.lt_size hc)
  have dL : dc ≠ L := by rw [hL]; exact Nat.ne_of_lt (Heap.lt_size hd)
  refine ks_wpAt_execs_cons ?_
  refine wpAt_of_wpAny ?_
  refine plainObj_wpAny_Assign_Attribute ?_
  refine lv F rfl kf rfl rfl ?_
  refine lv F rfl kf rfl rfl ?_
  refine acc_set (dc := dc) (B.at F.base) (K₁ _ _ hc) (K₁ _ _ hd) (by kernel_rfl) (by rw [look_empty]; rfl) (dict_empty _ _ _ _) rfl (Nat.le_of_ble_eq_true rfl) ?_
  intro h₂ e₂ sb₂
  have hc₂ := sb₂.extBut _ _ hcd (K₁ _ _ hc)
  have F₂ : Fw g h₂ L h₂ _ := F.up (X := [dc]) (fun b o nb q => sb₂.extBut b o (by simpa using nb) q) (by simpa using Ne.symm dL) (by simpa using hgd)
  refine ks_wpAt_execs_cons ?_
  refine ks_wpAt_Expr_any ?_
  refine ks_wpAt_MethodCall ?_
  refine sup_node (sup115 _) (fn115 _) B F₂ rfl hc₂ e₂ rfl (by kernel_rfl) (by kernel_rfl) ?_
  intro h₃ e₃ k₃
  have hc₃ := k₃ _ _ hc₂
  have hd₃ := k₃ _ _ e₂
  refine super_meth (dc := dc) ((B.at F₂.base).keeps k₃) hc₃ hd₃ e₃ hcn rfl (id := "list.__init__") (by kernel_rfl) ty_init slot_wget entry_wget (args_wget _ _ _) (shape_init _ _) ?_
  refine callWith_bound0 (Heap.get?_push_size _ rfl) (.inr rfl) (by decide +kernel) PySem.F.entry_list_init ?_
  refine wpAny_of_eq (boundInit c) ?_
  refine accInit (dc := dc) (Heap.get?_push_of_some _ hc₃) ?_
  intro h₄ n₄ e₄ sb₄
  refine ⟨_, rfl, ?_⟩
  refine wpAt_of_wpAny (wpAny_execs_nil ?_)
  have keep : ∀ b o, b ∉ [c, dc] → s.heap.get? b = some o → h₄.get? b = some o := fun b o nb q => by
    have n1 : b ≠ c := fun z => nb (by simp [z])
    have n2 : b ≠ dc := fun z => nb (by simp [z])
    exact sb₄.extBut b o n1 (Heap.get?_push_of_some _ (k₃ _ _ (sb₂.extBut b o n2 (K₁ _ _ q))))
  have hd₄ := sb₄.extBut _ _ (Ne.symm hcd) (Heap.get?_push_of_some _ hd₃)
  exact h _ ⟨keep, fun q => q, rfl⟩ ⟨⟨[], _, e₄, .nil⟩, _, _, _, hd₄⟩
end
end Mine
open PySem PySem.W PyProof.Rows PySem.Calls PySem.Spec
set_option Elab.async false
set_option maxRecDepth 100000
set_option maxHeartbeats 1000000
set_option linter.unusedVariables false
namespace Mine
section
variable {w : World} {A : Around} {E : Value → Shared → Prop} {s : Shared} {c dc : Addr} {od : Obj}

theorem refuse_fm : refuseLoop (.ref c) "__setattr__" [.ref 94, .type "object"] = pure () := by kernel_rfl
theorem sa94 (P : Params) : findIn (KK P) (.ref 94) "__setattr__" = some (some (.builtin "object.__setattr__")) := by kernel_rfl
noncomputable def cd94 (P : Params) : ClassData := (clsIn (KK P) 94).getD default
theorem cls94 (P : Params) : clsIn (KK P) 94 = some (cd94 P) := by kernel_rfl
theorem mro94 (P : Params) : (cd94 P).mro = [.ref 94, .type "object"] := by kernel_rfl
theorem dict94 (P : Params) : (cd94 P).hasDict = true := by kernel_rfl

theorem fm_set {name : PySem.Str} {v : Value} {od' : Obj} {es : List DictEntry} {n' : Nat} {Q : Unit → Shared → Prop} (X : (KK w.params).In s.heap) (hc : s.heap.get? c = some (PySem.W.instObj 94 dc)) (hd : s.heap.get? dc = some od)
    (ht : takerIn (KK w.params) 94 name = some none) (hl : (lookIn name od).isSome = true)
    (e : Obj.putName name (PyData.keyHash w.params name) (.str name (s.toks + 1)) v od = od') (e' : od'.data = .dict es.toArray n') (hz : es.length ≤ 1000)
    (h : ∀ h', h'.get? dc = some od' → Heap.SameBut dc s.heap h' → Q () { s with heap := h', toks := s.toks + 2 }) : wpAny (model prog w) A (setAttr (.ref c) name v) Q E s := by
  have I : PySem.W.InstAt s.heap c (PySem.W.instObj 94 dc) 94 (some od) := ⟨hc, rfl, rfl, hd⟩
  refine set_plain X I (sa94 _) ?_
  have SF := PySem.F.store_object
  have hcl := cls94 w.params
  have hmro := mro94 w.params
  have hdict := dict94 w.params
  have sub : Looks (model prog w) s.heap (isInstance (.ref c) (.type "object")) true := I.type.andThen (looks_mroIn X (by unfold mroIn; rw [hcl, Option.bind_some, hmro]; rfl))
  refine codeAny_call_builtin SF.slot.plain SF.entry (@check_slot (model prog w) _ _ { s with toks := s.toks + 1 } "object.__setattr__" "object" "__setattr__" (.ref c) [.str name s.toks, v] [] _ SF.kind SF.split sub (SF.args (.ref c) (.str name s.toks) v) ?_)
  obtain ⟨attr, ha, hr⟩ := Option.bind_eq_some_iff.mp ht
  have hm : Looks (model prog w) s.heap (mroOf (.ref 94)) (cd94 w.params).mro := (looks_clsIn X hcl).andThen .now
  have L3 : Looks (model prog w) s.heap (Builtin.ObjectAttr.storeTaker? attr) none := by
    cases attr with
    | none => exact .now
    | some a =>
      obtain ⟨b, hb, hbn⟩ := Option.map_eq_some_iff.mp hr
      cases b with
      | true => cases hbn
      | false => exact (looks_takesIn X hb).andThen .now
  rw [osa_eq, refuse_eq]
  refine wpAny_bind (wpAny_bind (I.type.here (s := { s with toks := s.toks + 1 }) (wpAny_bind (hm.here (s := { s with toks := s.toks + 1 }) ?_))))
  rw [hmro, refuse_fm]
  refine wpAny_pure (wpAny_bind (I.type.here (s := { s with toks := s.toks + 1 }) (wpAny_bind ((looks_findIn X ha).here (s := { s with toks := s.toks + 1 }) (wpAny_bind (L3.here (s := { s with toks := s.toks + 1 }) ?_))))))
  refine wpAny_bind (wpAny_pure (wpAny_bind (wpAny_bind (wpAny_loadPart (s := { s with toks := s.toks + 1 }) hc (wpAny_bind ((looks_clsIn X hcl).here (s := { s with toks := s.toks + 1 }) ?_))))))
  rw [hdict]
  refine wpAny_pure (a := some dc) (wpAny_bind (wpAny_pure (wpAny_bind ?_)))
  unfold nsSet
  refine wpAny_bind (wpAny_bind (wpAny_askSetting (wpAny_pure (wpAny_bind (wpAny_mkText (wpAny_bind (wpAny_loadPart hd ?_)))))))
  have hf : od'.isFreed = false := by obtain ⟨_, _, dd, _⟩ := od'; cases e'; rfl
  have D' : (s.heap.update dc (Obj.putName name (PyData.keyHash w.params name) (.str name (s.toks + 1)) v)).get? dc = some od' := by
    rw [Heap.get?_update_self _ hd (by rw [e]; exact hf), e]
  unfold lookIn at hl
  split at hl
  · rename_i es₀ n₀ q
    rw [q]
    dsimp only
    have c : (!es₀.any (·.key.isStr name) && es₀.any (·.refKey)) = false := by
      rw [← Array.any_toList, ← Array.any_toList]
      split at hl
      · rename_i en he
        rw [List.any_eq_true.mpr ⟨en, List.mem_of_find?_eq_some he, List.find?_some he⟩]; rfl
      · split at hl
        · cases hl
        · rename_i z; rw [Bool.not_eq_true] at z; rw [z, Bool.and_false]
    rw [aRefKeyMayBeTheName_at, c]
    refine wpAny_updatePart hd ?_
    refine wpAny_bind (wpAny_lookBehind D' (by rw [e']; exact pastItsLine_dict (by rw [List.size_toArray, sizeLine_eq]; omega)) ?_)
    exact wpAny_pure (h _ D' (Heap.SameBut.update ..))
  · cases hl
end
end Mine
open PySem PySem.W PyProof.Rows PySem.Calls PySem.Spec
set_option Elab.async false
set_option maxRecDepth 100000
set_option maxHeartbeats 1000000
set_option linter.unusedVariables false
namespace Mine
theorem fn35 (P : Params) : FnOk P 35 := ⟨by kernel_rfl, by kernel_rfl, by kernel_rfl, by kernel_rfl, by kernel_rfl, by kernel_rfl, by kernel_rfl⟩
abbrev dk (P : Params) (nm : PySem.Str) (t : Tok) (v : Value) : DictEntry := ⟨PyData.keyHash P nm, .str nm t, v⟩
theorem put1 (P : Params) (t : Tok) (v : Value) : Obj.putName "_maxlen" (PyData.keyHash P "_maxlen") (.str "_maxlen" t) v emptyDict = PySem.W.dictOf [dk P "_maxlen" t v] 1 := by kernel_rfl
theorem put2 (P : Params) (t t1 : Tok) (v v1 : Value) : Obj.putName "_continuation_ws" (PyData.keyHash P "_continuation_ws") (.str "_continuation_ws" t) v (PySem.W.dictOf [dk P "_maxlen" t1 v1] 1) = PySem.W.dictOf [dk P "_maxlen" t1 v1, dk P "_continuation_ws" t v] 2 := by kernel_rfl
theorem put3 (P : Params) (t t1 t2 : Tok) (v v1 v2 : Value) : Obj.putName "_continuation_ws_len" (PyData.keyHash P "_continuation_ws_len") (.str "_continuation_ws_len" t) v (PySem.W.dictOf [dk P "_maxlen" t1 v1, dk P "_continuation_ws" t2 v2] 2) = PySem.W.dictOf [dk P "_maxlen" t1 v1, dk P "_continuation_ws" t2 v2, dk P "_continuation_ws_len" t v] 3 := by kernel_rfl
theorem put4 (P : Params) (t t1 t2 t3 : Tok) (v v1 v2 v3 : Value) : Obj.putName "_splitchars" (PyData.keyHash P "_splitchars") (.str "_splitchars" t) v (PySem.W.dictOf [dk P "_maxlen" t1 v1, dk P "_continuation_ws" t2 v2, dk P "_continuation_ws_len" t3 v3] 3) = PySem.W.dictOf [dk P "_maxlen" t1 v1, dk P "_continuation_ws" t2 v2, dk P "_continuation_ws_len" t3 v3, dk P "_splitchars" t v] 4 := by kernel_rfl
theorem put5 (P : Params) (t t1 t2 t3 t4 : Tok) (v v1 v2 v3 v4 : Value) : Obj.putName "_lines" (PyData.keyHash P "_lines") (.str "_lines" t) v (PySem.W.dictOf [dk P "_maxlen" t1 v1, dk P "_continuation_ws" t2 v2, dk P "_continuation_ws_len" t3 v3, dk P "_splitchars" t4 v4] 4) = PySem.W.dictOf [dk P "_maxlen" t1 v1, dk P "_continuation_ws" t2 v2, dk P "_continuation_ws_len" t3 v3, dk P "_splitchars" t4 v4, dk P "_lines" t v] 5 := by kernel_rfl
theorem put6 (P : Params) (t t1 t2 t3 t4 t5 : Tok) (v v1 v2 v3 v4 v5 : Value) : Obj.putName "_current_line" (PyData.keyHash P "_current_line") (.str "_current_line" t) v (PySem.W.dictOf [dk P "_maxlen" t1 v1, dk P "_continuation_ws" t2 v2, dk P "_continuation_ws_len" t3 v3, dk P "_splitchars" t4 v4, dk P "_lines" t5 v5] 5) = PySem.W.dictOf [dk P "_maxlen" t1 v1, dk P "_continuation_ws" t2 v2, dk P "_continuation_ws_len" t3 v3, dk P "_splitchars" t4 v4, dk P "_lines" t5 v5, dk P "_current_line" t v] 6 := by kernel_rfl
section
variable {w : World} {A : Around} {E : Value → Shared → Prop} {S s : Shared} {g : Heap} {f df L : Addr} {k W : Int} {u : Tok} {R : Result → Shared → Prop} {m : PySem.Str → Option Value}
/-- while a formatter is made: the heap behind each store -/
structure Nw (w : World) (g : Heap) (S s : Shared) (L : Addr) (m : PySem.Str → Option Value) (f df : Addr) (es : List DictEntry) (n : Nat) : Prop where
  B : Bs w g
  F : Fw g s.heap L s.heap m
  fo : s.heap.get? f = some (PySem.W.instObj 94 df)
  dd : s.heap.get? df = some (PySem.W.dictOf es n)
  U : Up [df] S s
  hL : S.heap.objs.size ≤ L
  out : g.get? df = none
  dL : df ≠ L
  fL : f ≠ L
theorem Nw.set {es es' : List DictEntry} {n n' : Nat} {name : PySem.Str} {v : Value} {Q : Unit → Shared → Prop} (N : Nw w g S s L m f df es n)
    (ht : takerIn (KK w.params) 94 name = some none) (hl : (lookIn name (PySem.W.dictOf es n)).isSome = true)
    (e : ∀ t, Obj.putName name (PyData.keyHash w.params name) (.str name t) v (PySem.W.dictOf es n) = PySem.W.dictOf (es' ++ [dk w.params name t v]) n') (hz : es'.length ≤ 100)
    (h : ∀ s' t, Nw w g S s' L m f df (es' ++ [dk w.params name t v]) n' → (∀ b o, b ≠ df → s.heap.get? b = some o → s'.heap.get? b = some o) → Q () s') : wpAny (model prog w) A (setAttr (.ref f) name v) Q E s := by
  refine fm_set (dc := df) (N.B.at N.F.base) N.fo N.dd ht hl (e _) rfl (by simp; omega) ?_
  intro h' e' sb
  have hfd : f ≠ df := fun q => by have := N.fo; rw [q, N.dd] at this; cases this
  refine h { s with heap := h', toks := s.toks + 2 } _ ⟨N.B, ?_, sb.extBut _ _ hfd N.fo, e', N.U.trans ⟨fun b o nb q => sb.extBut b o (by simpa using nb) q, fun q => q, rfl⟩, N.hL, N.out, N.dL, N.fL⟩ (fun b o nb q => sb.extBut b o nb q)
  exact N.F.up (X := [df]) (fun b o nb q => sb.extBut b o (by simpa using nb) q) (by simpa using Ne.symm N.dL) (by simpa using N.out)
theorem Nw.up {es : List DictEntry} {n : Nat} {s' : Shared} (N : Nw w g S s L m f df es n) (u : Up [] s s') : Nw w g S s' L m f df es n :=
  ⟨N.B, (N.F.keeps fun b o q => u.keep b o (by simp) q).now, u.keep _ _ (by simp) N.fo, u.keep _ _ (by simp) N.dd, N.U.trans (u.mono (by simp)), N.hL, N.out, N.dL, N.fL⟩
end
end Mine
open PySem PySem.W PyProof.Rows PySem.Calls PySem.Spec
set_option Elab.async false
set_option maxRecDepth 100000
set_option maxHeartbeats 1000000
set_option linter.unusedVariables false
namespace Mine
section
variable {w : World} {A : Around} {E : Value → Shared → Prop} {S s : Shared} {g : Heap} {f df L : Addr} {k W : Int} {u : Tok} {R : Result → Shared → Prop} {m : PySem.Str → Option Value}
theorem new_none {g h : Heap} {a : Addr} (kb : ∀ b o, g.get? b = some o → h.get? b = some o) (ha : h.objs.size ≤ a) : g.get? a = none := by
  cases q : g.get? a with
  | none => rfl
  | some o => exact absurd (Heap.lt_size (kb _ _ q)) (Nat.not_lt.mpr ha)
/-- _Accumulator(k) -/
theorem accMake_ct {args : List Value} (B : Bs w g) (kb : ∀ b o, g.get? b = some o → s.heap.get? b = some o) (rm : Rm A 5)
    (h : ∀ s' c dc, Up [] s s' → AccAt w.params s'.heap c dc k [] → s.heap.objs.size ≤ c → s.heap.objs.size ≤ dc → R (.ok (.ret (.ref c))) s') :
    codeAny (model prog w) A (.call (.ref 178) ⟨[.int k u], []⟩) R s := by
  obtain ⟨hp, gg, d, t, os⟩ := s
  have X : (KK w.params).In hp := B.kk.keeps kb
  refine accMake X ?_
  have k1 : ∀ b o, hp.get? b = some o → ((hp.push emptyDict).push (accObj hp.objs.size #[] 0)).get? b = some o := fun b o q => Heap.get?_push_of_some _ (Heap.get?_push_of_some _ q)
  have hx : ((hp.push emptyDict).push (accObj hp.objs.size #[] 0)).get? (hp.objs.size + 1) = some (accObj hp.objs.size #[] 0) := by heap_get
  have hd : ((hp.push emptyDict).push (accObj hp.objs.size #[] 0)).get? hp.objs.size = some emptyDict := Heap.get?_push_of_some _ (Heap.get?_push_size _ rfl)
  refine init115_ct (s := ⟨(hp.push emptyDict).push (accObj hp.objs.size #[] 0), gg, d, t, os⟩) (dc := hp.objs.size) B (fun b o q => k1 b o (kb b o q)) rm.make.mono hx hd (new_none kb (Nat.le_succ _)) (new_none kb (Nat.le_refl _)) ?_ ?_
  · intro q
    have : (KK w.params).lookup 178 = some (ob178 w.params) := lk178 _
    have := Heap.lt_size (X _ _ this)
    exact absurd (Nat.lt_trans this (Nat.lt_succ_self _)) (by show ¬ (178 < hp.objs.size + 1); rw [q]; exact Nat.lt_irrefl _)
  intro s' u' ac
  refine ⟨rfl, h s' _ _ ⟨fun b o _ q => u'.keep b o (fun z => ?_) (k1 b o q), u'.gens, u'.os⟩ ac (Nat.le_succ _) (Nat.le_refl _)⟩
  have hl := Heap.lt_size q
  rcases List.mem_cons.mp z with z | z
  · rw [z] at hl
    exact absurd hl (Nat.not_lt.mpr (Nat.le_succ _))
  · rw [List.mem_singleton.mp z] at hl
    exact absurd hl (Nat.lt_irrefl _)
theorem init35_ct {t3 t4 u2 : Tok} (B : Bs w g) (kb : ∀ b o, g.get? b = some o → s.heap.get? b = some o) (rm : Rm A 10) (hf : s.heap.get? f = some (PySem.W.instObj 94 df)) (hd : s.heap.get? df = some emptyDict) (hgd : g.get? df = none)
    (h : ∀ s' c dc ln, Up [df] s s' → Fm w.params s'.heap f df c dc ln W k [] [] → s.heap.objs.size ≤ c → s.heap.objs.size ≤ dc → s.heap.objs.size ≤ ln → R (.ok (.ret .none)) s') :
    codeAny (model prog w) A (.call (.ref 35) ⟨[.ref f, .int k u, .int W u2, .str " " t3, .str splitCh t4], []⟩) R s := by
  have kf := (fn35 w.params).kind
  refine enter (binds := [("self", .ref f), ("headerlen", .int k u), ("maxlen", .int W u2), ("continuation_ws", .str " " t3), ("splitchars", .str splitCh t4)]) (fn35 _) B kb rm (by kernel_rfl) (by kernel_rfl) fun h₁ L hL F K₁ rm' => ?_
  refine gn h₁ s.gens s.os rfl rfl rfl fun s₁ e1 g1 o1 => ?_
  subst e1
  have N₁ := Nw.mk (w := w) (S := s) (s := s₁) (n := 0) (es := []) B F.now (K₁ _ _ hf) (K₁ _ _ hd) (.of_eq K₁ g1 o1) (Nat.le_of_eq hL.symm) hgd (by rw [hL]; exact Nat.ne_of_lt (Heap.lt_size hd)) (by rw [hL]; exact Nat.ne_of_lt (Heap.lt_size hf))
  -- self._maxlen = maxlen
  refine wpAny_execs_cons ?_
  refine plainObj_wpAny_Assign_Attribute ?_
  refine lv N₁.F rfl kf rfl rfl ?_
  refine lv N₁.F rfl kf rfl rfl ?_
  refine N₁.set (es' := []) (by kernel_rfl) (by kernel_rfl) (fun t => put1 _ t _) (by simp) ?_
  intro s₂ t₂ N₂ _
  -- self._continuation_ws = continuation_ws
  refine wpAny_execs_cons ?_
  refine plainObj_wpAny_Assign_Attribute ?_
  refine lv N₂.F rfl kf rfl rfl ?_
  refine lv N₂.F rfl kf rfl rfl ?_
  refine N₂.set (es' := [dk w.params "_maxlen" t₂ (.int W u2)]) (by kernel_rfl) (by kernel_rfl) (fun t => put2 _ t _ _ _) (by simp) ?_
  intro s₃ t₅ N₃ _
  -- self._continuation_ws_len = len(continuation_ws)
  refine wpAny_execs_cons ?_
  refine plainObj_wpAny_Assign_Attribute ?_
  refine Call_ ?_
  refine bv N₃.B N₃.F (by kernel_rfl) (v := .builtin "len") (by decide +kernel) kf rfl (by kernel_rfl) (by kernel_rfl) ?_
  refine PyProof.Rows.callWith_builtin1 ?_
  with_reducible refine args_cons ?_ (by with_unfolding_all rfl)
  refine lv N₃.F rfl kf rfl rfl ?_
  refine args_nil ?_
  refine len_str (by decide) ?_
  have e1 : (((" " : PySem.Str).length : Nat) : Int) = 1 := by decide
  rw [e1]
  have N₃' := N₃.up (s' := { s₃ with toks := s₃.toks + 1 + 1 }) (.of_eq (fun _ _ q => q) rfl rfl)
  refine lv N₃'.F rfl kf rfl rfl ?_
  refine N₃'.set (es' := [dk w.params "_maxlen" t₂ (.int W u2), dk w.params "_continuation_ws" t₅ (.str " " t3)]) (by kernel_rfl) (by kernel_rfl) (fun t => put3 _ t _ _ _ _ _) (by simp) ?_
  intro s₄ t₆ N₄ _
  -- self._splitchars = splitchars
  refine wpAny_execs_cons ?_
  refine plainObj_wpAny_Assign_Attribute ?_
  refine lv N₄.F rfl kf rfl rfl ?_
  refine lv N₄.F rfl kf rfl rfl ?_
  refine N₄.set (es' := [dk w.params "_maxlen" t₂ (.int W u2), dk w.params "_continuation_ws" t₅ (.str " " t3), dk w.params "_continuation_ws_len" t₆ (.int 1 _)]) (by kernel_rfl) (by kernel_rfl) (fun t => put4 _ t _ _ _ _ _ _ _) (by simp) ?_
  intro s₅ t₇ N₅ _
  -- self._lines = []
  refine wpAny_execs_cons ?_
  refine plainObj_wpAny_Assign_Attribute ?_
  with_reducible refine List_ ?_
  refine args_nil ?_
  unfold newList
  refine wpAny_newObj_type ?_
  have N₅' := N₅.up (s' := { s₅ with heap := s₅.heap.push { cls := .type "list", data := .seq #[] } }) (.of_eq (fun b o q => Heap.get?_push_of_some _ q) rfl rfl)
  have hln := Heap.get?_push_size s₅.heap (o := { cls := .type "list", data := .seq #[] }) rfl
  obtain ⟨ln, eln⟩ : ∃ ln, ln = s₅.heap.objs.size := ⟨_, rfl⟩
  refine lv N₅'.F rfl kf rfl rfl ?_
  rw [← eln] at hln ⊢
  refine N₅'.set (es' := [dk w.params "_maxlen" t₂ (.int W u2), dk w.params "_continuation_ws" t₅ (.str " " t3), dk w.params "_continuation_ws_len" t₆ (.int 1 _), dk w.params "_splitchars" t₇ (.str splitCh t4)]) (by kernel_rfl) (by kernel_rfl) (fun t => put5 _ t _ _ _ _ _ _ _ _ _) (by simp) ?_
  intro s₆ t₈ N₆ k₆
  have hsz : s.heap.objs.size ≤ s₅.heap.objs.size := Nat.le_trans N₅.hL (Nat.le_of_lt N₅.F.lt)
  have hln₆ := k₆ _ _ (fun z => by
    have := Heap.lt_size N₅.dd
    rw [← z, eln] at this
    exact absurd this (Nat.lt_irrefl _)) hln
  -- self._current_line = _Accumulator(headerlen)
  refine wpAny_execs_cons ?_
  refine plainObj_wpAny_Assign_Attribute ?_
  refine Call_ ?_
  refine gv N₆.B N₆.F (v := .ref 178) (by kernel_rfl) kf rfl (by kernel_rfl) ?_
  refine callWith_K (N₆.B.at N₆.F.base) (by kernel_rfl) ?_
  with_reducible refine args_cons ?_ (by with_unfolding_all rfl)
  refine lv N₆.F rfl kf rfl rfl ?_
  refine args_nil ?_
  refine ⟨N₆.B.at N₆.F.base, ?_⟩
  refine wpAny_call (accMake_ct (args := []) N₆.B N₆.F.base rm'.mono ?_)
  intro s₇ c dc u₇ ac₇ hc hdc
  have N₇ := N₆.up (s' := s₇) u₇
  dsimp only
  refine lv N₇.F rfl kf rfl rfl ?_
  refine N₇.set (es' := [dk w.params "_maxlen" t₂ (.int W u2), dk w.params "_continuation_ws" t₅ (.str " " t3), dk w.params "_continuation_ws_len" t₆ (.int 1 _), dk w.params "_splitchars" t₇ (.str splitCh t4), dk w.params "_lines" t₈ (.ref ln)]) (by kernel_rfl) (by kernel_rfl) (fun t => put6 _ t _ _ _ _ _ _ _ _ _ _ _) (by simp) ?_
  intro s₈ t₉ N₈ k₈
  refine wpAny_execs_nil ?_
  have ndf : ∀ a, s₅.heap.objs.size ≤ a → df ≠ a := fun a ha z => by
    have := Heap.lt_size N₅.dd
    exact absurd this (Nat.not_lt.mpr (z ▸ ha))
  have h5c : df ≠ c := fun z => absurd (Heap.lt_size N₆.dd) (Nat.not_lt.mpr (z ▸ hc))
  have h5d : df ≠ dc := fun z => absurd (Heap.lt_size N₆.dd) (Nat.not_lt.mpr (z ▸ hdc))
  have szc : s.heap.objs.size ≤ s₆.heap.objs.size := Nat.le_trans N₆.hL (Nat.le_of_lt N₆.F.lt)
  have hl₈ := k₈ _ _ (Ne.symm (ndf ln (Nat.le_of_eq eln.symm))) (u₇.keep _ _ (by simp) hln₆)
  refine h s₈ c dc ln N₈.U ⟨N₈.fo, ⟨fun i => [t₂, u2, t₅, t3, t₆, s₃.toks + 1, t₇, t4, t₈, t₉].getD i 0, 6, N₈.dd⟩, ?_, [], 0, hl₈, .nil⟩ (Nat.le_trans szc hc) (Nat.le_trans szc hdc) (by rw [eln]; exact hsz)
  refine ac₇.ext (X := [df]) (fun b o nb q => k₈ b o (by simpa using nb) q) (fun b hb o q => ?_) (by simpa using Ne.symm h5c) (by simpa using Ne.symm h5d)
  obtain rfl := List.mem_singleton.mp hb
  rw [N₇.dd] at q; cases q
  exact .inr ⟨_, _, rfl⟩
theorem looks_fmInit {h : Heap} (X : (KK w.params).In h) : Looks (model prog w) h (typeLookup (.ref 94) "__init__") (some (.ref 35)) := looks_findIn X (show findIn (KK w.params) (.ref 94) "__init__" = some (some (.ref 35)) by kernel_rfl)
/-- _ValueFormatter(k, W, ' ', ';, \t') -/
theorem fmMake_ct {t3 t4 u2 : Tok} (B : Bs w g) (kb : ∀ b o, g.get? b = some o → s.heap.get? b = some o) (rm : Rm A 12)
    (h : ∀ s' f df c dc ln, Up [] s s' → Fm w.params s'.heap f df c dc ln W k [] [] → NewX g c dc ln → (s.heap.objs.size ≤ f ∧ s.heap.objs.size ≤ df ∧ s.heap.objs.size ≤ c ∧ s.heap.objs.size ≤ dc ∧ s.heap.objs.size ≤ ln) → R (.ok (.ret (.ref f))) s') :
    codeAny (model prog w) A (.call (.ref 94) ⟨[.int k u, .int W u2, .str " " t3, .str splitCh t4], []⟩) R s := by
  obtain ⟨hp, gg, d, t, os⟩ := s
  have X : (KK w.params).In hp := B.kk.keeps kb
  refine make_core (makes_of X (by kernel_rfl)) (looks_fmInit X) (fun self => bind_fn X self (by kernel_rfl)) (.inl rfl) ?_
  have k1 : ∀ b o, hp.get? b = some o → ((hp.push emptyDict).push (PySem.W.instObj 94 hp.objs.size)).get? b = some o := fun b o q => Heap.get?_push_of_some _ (Heap.get?_push_of_some _ q)
  have hx : ((hp.push emptyDict).push (PySem.W.instObj 94 hp.objs.size)).get? (hp.objs.size + 1) = some (PySem.W.instObj 94 hp.objs.size) := by heap_get
  have hd : ((hp.push emptyDict).push (PySem.W.instObj 94 hp.objs.size)).get? hp.objs.size = some emptyDict := Heap.get?_push_of_some _ (Heap.get?_push_size _ rfl)
  refine init35_ct (s := ⟨(hp.push emptyDict).push (PySem.W.instObj 94 hp.objs.size), gg, d, t, os⟩) (df := hp.objs.size) B (fun b o q => k1 b o (kb b o q)) rm.make.mono hx hd (new_none kb (Nat.le_refl _)) ?_
  intro s' c dc ln u' fm hc hdc hln
  have sz : hp.objs.size ≤ ((hp.push emptyDict).push (PySem.W.instObj 94 hp.objs.size)).objs.size := by rw [Heap.size_push, Heap.size_push]; exact Nat.le_trans (Nat.le_succ _) (Nat.le_succ _)
  have hc := Nat.le_trans sz hc
  have hdc := Nat.le_trans sz hdc
  have hln := Nat.le_trans sz hln
  refine ⟨rfl, h s' _ _ c dc ln ⟨fun b o _ q => u'.keep b o (fun z => ?_) (k1 b o q), u'.gens, u'.os⟩ fm ⟨new_none kb hc, new_none kb hdc, new_none kb hln⟩ ⟨Nat.le_succ _, Nat.le_refl _, hc, hdc, hln⟩⟩
  have hl := Heap.lt_size q
  rw [List.mem_singleton.mp z] at hl
  exact absurd hl (Nat.lt_irrefl _)
end
end Mine
open PySem PySem.W PyProof.Rows PySem.Calls PySem.Spec
set_option Elab.async false
set_option maxRecDepth 100000
set_option maxHeartbeats 1000000
set_option linter.unusedVariables false
namespace Mine
/-- all that is known in a plain function of the text -/
structure Px (w : World) (g : Heap) (S s : Shared) (L : Addr) (m : PySem.Str → Option Value) : Prop where
  B : Bs w g
  kb : ∀ b o, g.get? b = some o → S.heap.get? b = some o
  F : Fw g s.heap L s.heap m
  hL : S.heap.objs.size ≤ L
  U : Up [] S s
section
variable {w : World} {A : Around} {E : Value → Shared → Prop} {S s s' : Shared} {g h e : Heap} {L : Addr} {m m' : PySem.Str → Option Value} {X : List Addr}
theorem Px.start (B : Bs w g) (kb : ∀ b o, g.get? b = some o → s.heap.get? b = some o) (hL : L = s.heap.objs.size) (F : Fw g e L h m) (K : ∀ b o, s.heap.get? b = some o → h.get? b = some o) (hh : s'.heap = h) (hg : s'.gens = s.gens) (ho : s'.os = s.os) : Px w g s s' L m := by
  subst hh
  exact ⟨B, kb, F.now, Nat.le_of_eq hL.symm, .of_eq K hg ho⟩
theorem Px.re (C : Px w g S s L m) (e : s'.heap = s.heap) (g₂ : s'.gens = s.gens) (o₂ : s'.os = s.os) : Px w g S s' L m :=
  ⟨C.B, C.kb, e ▸ C.F, C.hL, C.U.trans (.of_eq (fun b o q => e ▸ q) g₂ o₂)⟩
theorem Px.tok (C : Px w g S s L m) {t : Nat} : Px w g S { s with toks := t } L m := C.re rfl rfl rfl
theorem Px.store (C : Px w g S s L m) (F : Fw g e L s'.heap m') (kp : ∀ b o, b ≠ L → s.heap.get? b = some o → s'.heap.get? b = some o) (g₂ : s'.gens = s.gens) (o₂ : s'.os = s.os) : Px w g S s' L m' :=
  ⟨C.B, C.kb, F.now, C.hL, C.U.store C.hL kp g₂ o₂⟩
theorem Px.keeps (C : Px w g S s L m) (kp : ∀ b o, s.heap.get? b = some o → s'.heap.get? b = some o) (g₂ : s'.gens = s.gens) (o₂ : s'.os = s.os) : Px w g S s' L m :=
  ⟨C.B, C.kb, (C.F.keeps kp).now, C.hL, C.U.trans (.of_eq kp g₂ o₂)⟩
theorem Px.up (C : Px w g S s L m) (u : Up [] s s') : Px w g S s' L m :=
  ⟨C.B, C.kb, (C.F.keeps fun b o q => u.keep b o (by simp) q).now, C.hL, C.U.trans u⟩
/-- some objects of the call's own turn -/
theorem Px.own (C : Px w g S s L m) (u : Up X s s') (hX : ∀ x ∈ X, S.heap.objs.size ≤ x) (hL : L ∉ X) : Px w g S s' L m :=
  ⟨C.B, C.kb, C.F.up u.keep hL fun x hx => new_none C.kb (hX x hx), C.hL, ⟨fun b o _ q => u.keep b o (fun z => absurd (Heap.lt_size q) (Nat.not_lt.mpr (hX b z))) (C.U.keep b o (by simp) q), fun q => u.gens (C.U.gens q), u.os.trans C.U.os⟩⟩
theorem Px.own1 {x : Addr} (C : Px w g S s L m) (kp : ∀ b o, b ≠ x → s.heap.get? b = some o → s'.heap.get? b = some o) (g₂ : s'.gens = s.gens) (o₂ : s'.os = s.os) (hx : S.heap.objs.size ≤ x) (hL : x ≠ L) : Px w g S s' L m :=
  C.own (X := [x]) ⟨fun b o nb q => kp b o (by simpa using nb) q, fun q => g₂ ▸ q, o₂⟩ (fun y hy => by rw [List.mem_singleton.mp hy]; exact hx) (by simpa using Ne.symm hL)
theorem Px.le (C : Px w g S s L m) : S.heap.objs.size ≤ s.heap.objs.size := Nat.le_trans C.hL (Nat.le_of_lt C.F.lt)
theorem Px.kk (C : Px w g S s L m) : (KK w.params).In s.heap := C.B.at C.F.base
theorem Px.ltL (C : Px w g S s L m) : L < s.heap.objs.size := C.F.lt
/-- two items of a list, one for each name -/
theorem unpack_list2 {l : Addr} {a b : Value} {Q : List Value → Shared → Prop} (hh : A.handled = none) (hl : s.heap.IsList l #[a, b])
    (h : ∀ h', (∀ b o, s.heap.get? b = some o → h'.get? b = some o) → Q [a, b] { s with heap := h' }) : wpAny (model prog w) A (unpackItems (.ref l) 2 none) Q E s := by
  have hlt : l ≠ s.heap.objs.size := by obtain ⟨o, ho, _⟩ := hl; exact Nat.ne_of_lt (Heap.lt_size ho)
  unfold unpackItems
  refine wpAny_bind ?_
  unfold notIterableAtAll
  refine wpAny_bind (wpAny_specialOf hl.typeIs slot_list_iter.lookup ?_)
  refine wpAny_pure ?_
  simp only [Bool.false_eq_true, if_false]
  refine wpAny_bind (wpAny_holding (wpAny_pyIter_list hl ?_))
  refine wpAny_bind (wpAny_holding ?_)
  have hl₁ := hl.push { cls := .type "list_iterator", data := .fields #[.ref l, .int 0 0] }
  show wpAny _ _ (pyNext (.ref s.heap.objs.size) >>= _) _ _ _
  refine wpAny_bind (wpAny_pyNext_list_item (i := 0) ⟨_, Heap.get?_push_size _ rfl, rfl, rfl⟩ hl₁ (x := a) rfl fun h₁ hit₁ hs₁ => ?_)
  have hl₂ := hl₁.extBut hs₁.extBut hlt
  refine wpAny_bind (wpAny_holding ?_)
  show wpAny _ _ (pyNext (.ref s.heap.objs.size) >>= _) _ _ _
  refine wpAny_bind (wpAny_pyNext_list_item (i := 1) hit₁ hl₂ (x := b) rfl fun h₂ hit₂ hs₂ => ?_)
  have hl₃ := hl₂.extBut hs₂.extBut hlt
  refine wpAny_bind (wpAny_holding (wpAny_pure (wpAny_pure (wpAny_pure ?_))))
  rw [if_neg (by simp)]
  refine wpAny_bind (wpAny_holding (wpAny_pyNext_list_end hh (i := 2) hit₂ hl₃ rfl fun h₃ he => ?_))
  simp only [Option.isSome_none, Bool.false_eq_true, if_false]
  refine wpAny_pure (h h₃ fun b o q => ?_)
  have nb : b ≠ s.heap.objs.size := Nat.ne_of_lt (Heap.lt_size q)
  exact he b o nb (hs₂.extBut b o nb (hs₁.extBut b o nb (Heap.get?_push_of_some _ q)))
theorem assign_pair {env : Env} {x y : PySem.Expr} {kt : Nat} {pos : Pos} {l : Addr} {a b : Value} {Q : Unit → Shared → Prop} (hh : A.handled = none) (hl : s.heap.IsList l #[a, b])
    (h2 : (assignEach [x, y] env).length = 2) (hs : (assignEach [x, y] env).findIdx? (·.1) = none)
    (h : ∀ h', (∀ b o, s.heap.get? b = some o → h'.get? b = some o) → wpAny (model prog w) A (assignInOrder ((assignEach [x, y] env).map (·.2)) [a, b]) Q E { s with heap := h' }) :
    wpAny (model prog w) A (assign (.Tuple [x, y] kt pos) env (.ref l)) Q E s := by
  rw [arm_assign_Tuple]
  refine wpAny_bind (wpAny_standAt ?_)
  unfold unpack
  rw [h2, hs]
  exact wpAny_bind (wpAny_holding (unpack_list2 hh hl h))
end
end Mine
open PySem PySem.W PyProof.Rows PySem.Calls PySem.Spec
set_option Elab.async false
set_option maxRecDepth 100000
set_option maxHeartbeats 1000000
set_option linter.unusedVariables false
namespace Mine
theorem fn189 (P : Params) : FnOk P 189 := ⟨by kernel_rfl, by kernel_rfl, by kernel_rfl, by kernel_rfl, by kernel_rfl, by kernel_rfl, by kernel_rfl⟩
/-- a value as parse_keqv_list reads it -/
noncomputable def UnQ (v r : List Nat) : Prop := v = 34 :: (r ++ [34]) ∨ (r = v ∧ ∃ a l b, v = a :: l ∧ v.getLast? = some b ∧ ¬ (a = 34 ∧ b = 34))
/-- an item, its key, its value as read -/
structure KvItem where
  key : List Nat
  val : List Nat
  res : List Nat
structure KvItem.Ok (x : KvItem) : Prop where
  key : 61 ∉ x.key
  val : UnQ x.val x.res
  lens : x.key.length ≤ 100 ∧ x.val.length ≤ 100
  asc : (x.key ++ 61 :: x.val).all (· < 128) = true
noncomputable def KvItem.text (x : KvItem) : PySem.Str := tx (x.key ++ 61 :: x.val)
theorem str_small {l : List Nat} (h : l.all (· < 128) = true) : Builtin.Str.strKind (tx l) = 1 := by
  unfold Builtin.Str.strKind
  have : (tx l).cps.all (· < 256) = true := by
    rw [Array.all_eq_true_iff_forall_mem]
    intro c hc
    have hc' : c ∈ l := by simpa [tx] using hc
    have := List.all_eq_true.mp h c hc'
    simp at this ⊢; omega
  rw [if_pos this]
section
variable {w : World} {A : Around} {E : Value → Shared → Prop} {S s s' : Shared} {g h e : Heap} {L l : Addr} {m m' : PySem.Str → Option Value} {X : List Addr}
theorem split_one {x : KvItem} {t u v : Tok} {Q : Value → Shared → Prop} (ok : x.Ok) (h : ∀ s' D ta tb, (∀ b o, s.heap.get? b = some o → s'.heap.get? b = some o) → s'.gens = s.gens → s'.os = s.os → s'.heap.IsList D #[.str (tx x.key) ta, .str (tx x.val) tb] → Q (.ref D) s') :
    wpAny (model prog w) A (call (.builtin "str.split") [.str x.text t, .str "=" u, .int 1 v]) Q E s := by
  have hy : ("=" : PySem.Str) = ⟨#[61]⟩ := by decide +kernel
  obtain ⟨hl1, hl2⟩ := ok.lens
  have hlen : x.text.length = x.key.length + 1 + x.val.length := by
    show (tx _).length = _
    rw [tx_length]; simp; omega
  have hsp := split_first x.key x.val 61 ok.key
  have hlim : limitOf x.text 1 = 1 := rfl
  have hoc := occ_first x.key x.val 61 ok.key
  have hk : Builtin.Str.strKind x.text = 1 := str_small ok.asc
  rw [hy]
  refine call_meets F.slot_str_split (typeIs_str s _ _) F.entry_str_split (F.args_str_split_3 _ _ _) (meets_str_split_sep_max x.text ⟨#[61]⟩ 1 t u v (by decide) ?_ (by decide) ?_ (by rw [hlen, sizeLine_eq]; omega) ?_) ?_
  · rw [hk, hlen]
    have h1 : (⟨#[61]⟩ : PySem.Str).length = 1 := rfl
    have h2 : Builtin.Str.strKind ⟨#[61]⟩ = 1 := by decide +kernel
    rw [h1, h2]
    simp
  · rw [hlim, show x.text = tx (x.key ++ 61 :: x.val) from rfl, hoc]; rfl
  · rw [hlim, show x.text = tx (x.key ++ 61 :: x.val) from rfl, show (⟨#[61]⟩ : PySem.Str).length = 1 from rfl, hsp]; exact Nat.le_of_ble_eq_true rfl
  · rw [hlim, show x.text = tx (x.key ++ 61 :: x.val) from rfl, show (⟨#[61]⟩ : PySem.Str).length = 1 from rfl, hsp]
    exact h _ _ s.toks (s.toks + 1) (fun b o q => Heap.get?_push_of_some _ q) rfl rfl ⟨_, Heap.get?_push_size _ rfl, rfl, 0, rfl⟩
noncomputable def turn189 (b : List Stmt) : List Stmt := match b with
  | [_, .For _ _ body _ _, _] => body
  | _ => []
theorem stored_new {kvs : List (PySem.Str × Value)} {k : PySem.Str} {v : Value} (h : k ∉ kvs.map (·.1)) : stored kvs k v = kvs ++ [(k, v)] := by
  unfold stored
  rw [if_neg]
  intro q
  obtain ⟨kv, hm, he⟩ := List.any_eq_true.mp q
  exact h (List.mem_map.mpr ⟨kv, hm, by simpa using he⟩)
theorem keep_push {P : Heap → Prop} (h : ∀ (h : Heap) (ob : Obj), P h → P (h.push ob)) : KeptH P := h
theorem slice_v {value slice : PySem.Expr} {x : PySem.Str} {t ui uj : Tok} {i j : Int} {Q : Value → Shared → Prop} (G : _) (O : _) (eg : s.gens = G) (eo : s.os = O)
    (h : ∀ s' t', s'.gens = G → s'.os = O → (∀ b o, s.heap.get? b = some o → s'.heap.get? b = some o) → Q (.str (Txt.slice x (some i) (some j)) t') s')
    (hs : subscripted slice false (.str x t) (.ref s.heap.objs.size) = operate [.ref s.heap.objs.size, .str x t] (getItem (.str x t) (.ref s.heap.objs.size)))
    (ht : ∀ r, letTemporaryGo value (.str x t) r = pure ()) (hsz : x.length ≤ sizeLine) :
    wpAny (model prog w) A (subscriptTail value slice (.str x t) (.ref s.heap.objs.size)) Q E { s with heap := s.heap.push { cls := .type "slice", data := .fields #[.int i ui, .int j uj, .none] } } :=
  tail_of_ItemOn (SBH.sliceItem_ss (P := fun h' => ∀ b o, s.heap.get? b = some o → h'.get? b = some o) (fun h' ob k b o q => Heap.get?_push_of_some _ (k b o q)) (fun b o q => q) (fun h' t' k kp => h { s with heap := h', toks := k } t' eg eo kp) hsz) hs ht
theorem turn189_ct {env : Env} {x : KvItem} {tx' : Tok} {d : Addr} {kvs : List (PySem.Str × Value)} {body : List Stmt} (hb : body = turn189 (bodyAt w.params 189)) (he : env = callEnv (fdAt w.params 189) L 189)
    (C : Px w g S s L m) (hh : A.handled = none) (ok : x.Ok) (h1 : m "elt" = some (.str x.text tx')) (h2 : m "parsed" = some (.ref d)) (hd : s.heap.DictOf (PySem.strKind prog w) d kvs) (hS : S.heap.objs.size ≤ d) (hdL : d ≠ L) (hz : kvs.length ≤ 100) (hk : tx x.key ∉ kvs.map (·.1))
    {Q : Flow → Shared → Prop} (h : ∀ s' m' t, Px w g S s' L m' → (∀ y : PySem.Str, y ≠ "k" → y ≠ "v" → m' y = m y) → s'.heap.DictOf (PySem.strKind prog w) d (kvs ++ [(tx x.key, .str (tx x.res) t)]) → (∀ b o, b ≠ L → b ≠ d → s.heap.get? b = some o → s'.heap.get? b = some o) → Q .next s') :
    wpAny (model prog w) A (execs body env) Q E s := by
  subst hb he
  have kf := (fn189 w.params).kind
  refine wpAny_execs_cons ?_
  refine Assign_Tuple ?_
  refine MethodCall_ ?_
  refine lv C.F rfl kf rfl h1 ?_
  refine GM.split ?_
  refine callWith_method1 ?_
  with_reducible refine args_cons ?_ (by with_unfolding_all rfl)
  with_reducible refine wpAny_Constant_str ?_
  with_reducible refine args_cons ?_ (by with_unfolding_all rfl)
  with_reducible refine wpAny_Constant_int ?_
  refine args_nil ?_
  refine split_one ok ?_
  intro s₂ D ta tb k₂ g₂ o₂ hD
  dsimp only at k₂ g₂ o₂
  have C₂ := C.keeps k₂ g₂ o₂
  refine assign_pair hh hD rfl rfl ?_
  intro h₃ k₃
  have C₃' := C₂.keeps (s' := { s₂ with heap := h₃ }) k₃ rfl rfl
  refine gn h₃ s₂.gens s₂.os rfl rfl rfl fun s₃ eh eg eo => ?_
  have C₃ := C₃'.re (s' := s₃) eh eg eo
  refine assignInOrder_cons ?_
  refine assign_Name ?_
  refine sw s₃.gens s₃.os rfl rfl C₃.F rfl kf rfl ?_
  intro s₄ F₄ k₄ g₄ o₄
  have C₄ := C₃.store F₄ k₄ g₄ o₄
  refine assignInOrder_cons ?_
  refine assign_Name ?_
  refine sw s₄.gens s₄.os rfl rfl C₄.F rfl kf rfl ?_
  intro s₅ F₅ k₅ g₅ o₅
  have C₅ := C₄.store F₅ k₅ g₅ o₅
  refine assignInOrder_nil ?_
  have kk : ∀ b o, b ≠ L → s.heap.get? b = some o → s₅.heap.get? b = some o := fun b o nb q => k₅ b o nb (k₄ b o nb (by rw [eh]; exact k₃ _ _ (k₂ _ _ q)))
  obtain ⟨m₅, C₅, n1, n2, n3, n4⟩ : ∃ m₅ : PySem.Str → Option Value, Px w g S s₅ L m₅ ∧ m₅ "k" = some (.str (tx x.key) ta) ∧ m₅ "v" = some (.str (tx x.val) tb) ∧ m₅ "parsed" = some (.ref d) ∧ (∀ y : PySem.Str, y ≠ "k" → y ≠ "v" → m₅ y = m y) :=
    ⟨_, C₅, upd_ne upd_eq, upd_eq, upd_ne (upd_ne h2), fun y e1 e2 => upd_ne (upd_ne rfl e1) e2⟩
  -- the last statement
  have fin : ∀ s₆ m₆ t₆, Px w g S s₆ L m₆ → m₆ "k" = some (.str (tx x.key) ta) → m₆ "v" = some (.str (tx x.res) t₆) → m₆ "parsed" = some (.ref d) → (∀ y : PySem.Str, y ≠ "k" → y ≠ "v" → m₆ y = m y) → (∀ b o, b ≠ L → s.heap.get? b = some o → s₆.heap.get? b = some o) →
      wpAny (model prog w) A (execs ((turn189 (bodyAt w.params 189)).drop 2) (callEnv (fdAt w.params 189) L 189)) Q E s₆ := by
    intro s₆ m₆ t₆ C₆ n1 n2 n3 n4 k₆
    refine wpAny_execs_cons ?_
    refine wpAny_Assign_Subscript ?_
    refine lv C₆.F rfl kf rfl n2 ?_
    refine lv C₆.F rfl kf rfl n3 ?_
    refine lv C₆.F rfl kf rfl n1 ?_
    have hd₆ : s₆.heap.DictOf (PySem.strKind prog w) d kvs := by
      obtain ⟨o, es, ep, ho, r⟩ := hd
      exact ⟨o, es, ep, k₆ _ _ hdL ho, r⟩
    refine wpAny_setItem_pairs (strKind_is prog w _ _) hd₆ ?_ (by rw [sizeLine_eq]; omega)
    intro h₇ hd₇ sb
    rw [stored_new hk] at hd₇
    refine wpAny_execs_nil ?_
    exact h { s₆ with heap := h₇, toks := s₆.toks + 1 } m₆ t₆ (C₆.own1 (x := d) (s' := { s₆ with heap := h₇, toks := s₆.toks + 1 }) (fun b o nb q => sb.extBut b o nb q) rfl rfl hS hdL) n4 hd₇ fun b o e1 e2 q => sb.extBut b o e2 (k₆ b o e1 q)
  have q0 : ("\"" : PySem.Str) = ⟨#[34]⟩ := by decide +kernel
  refine wpAny_execs_cons ?_
  refine wpAny_If ?_
  with_reducible refine isTrue_and ?_
  refine wpAny_isTrue_Compare1 ?_
  refine Subscript_ ?_
  refine lv C₅.F rfl kf rfl n2 ?_
  with_reducible refine wpAny_Constant_int ?_
  have hv : ∃ a l, x.val = a :: l := by
    rcases ok.val with e | ⟨_, a, l, b, e, _⟩
    · exact ⟨_, _, e⟩
    · exact ⟨_, _, e⟩
  obtain ⟨a, l, ev⟩ := hv
  have hlv : (tx x.val).length = l.length + 1 := by rw [tx_length, ev]; simp
  have hll : x.val.length = l.length + 1 := by rw [ev]; simp
  have hlen := ok.lens
  refine item_str (i := 0) (by decide) (by rw [hlv]; omega) (by rw [hlv]; omega) ?_
  intro _
  rw [ev, item_first]
  with_reducible refine wpAny_Constant_str ?_
  refine eq_str ?_
  refine wpAny_truthy_bool ?_
  by_cases ha : a = 34
  · subst ha
    have e2 : ((⟨#[34]⟩ : PySem.Str) == "\"") = true := by rw [q0]; simp
    rw [e2, if_pos rfl]
    with_reducible refine isTrue_and ?_
    refine wpAny_isTrue_Compare1 ?_
    refine Subscript_ ?_
    have C₆ : ∀ k, Px w g S { s₅ with toks := k } L m₅ := fun k => C₅.tok
    refine lv (C₆ _).F rfl kf rfl n2 ?_
    refine UnaryOp_ ?_
    with_reducible refine wpAny_Constant_int ?_
    refine neg_int ?_
    refine item_str (i := -1) (by decide) (by rw [hlv]; omega) (by rw [hlv]; omega) ?_
    intro _
    have hlast : ∃ l₂ b, x.val = l₂ ++ [b] := by
      rcases List.eq_nil_or_concat x.val with e | ⟨l₂, b, e⟩
      · rw [e] at ev; cases ev
      · exact ⟨l₂, b, by rw [e, List.concat_eq_append]⟩
    obtain ⟨l₂, b, ev₂⟩ := hlast
    rw [ev₂, item_last]
    with_reducible refine wpAny_Constant_str ?_
    refine eq_str ?_
    refine wpAny_truthy_bool ?_
    by_cases hb : b = 34
    · subst hb
      rw [e2, if_pos rfl]
      refine isTrue_and_nil ?_
      rw [if_pos rfl]
      have er : x.val = 34 :: (x.res ++ [34]) := by
        rcases ok.val with e | ⟨_, a', l', b', e, e', ne⟩
        · exact e
        · exfalso
          rw [ev] at e
          injection e with e1 e3
          rw [ev₂] at e'
          simp at e'
          exact ne ⟨e1.symm, e'.symm⟩
      refine wpAny_execs_cons ?_
      refine wpAny_Assign_Name ?_
      refine Subscript_ ?_
      refine lv (C₆ _).F rfl kf rfl n2 ?_
      with_reducible refine wpAny_Slice ?_
      refine evalPart_some_step ?_
      with_reducible refine wpAny_Constant_int ?_
      refine evalPart_some_step ?_
      refine UnaryOp_ ?_
      with_reducible refine wpAny_Constant_int ?_
      refine neg_int ?_
      refine evalPart_none_step ?_
      refine slice_v s₅.gens s₅.os rfl rfl ?_ (by with_unfolding_all rfl) (by intro _; with_unfolding_all rfl) (by rw [hlv, sizeLine_eq]; omega)
      intro s₆ t₆ g₆ o₆ k₆
      dsimp only at k₆
      have C₆' := C₅.keeps (s' := s₆) k₆ g₆ o₆
      rw [er, slice_mid]
      refine sw s₆.gens s₆.os rfl rfl C₆'.F rfl kf rfl ?_
      intro s₇ F₇ k₇ g₇ o₇
      have C₇ := C₆'.store F₇ k₇ g₇ o₇
      refine wpAny_execs_nil ?_
      exact fin s₇ _ t₆ C₇ (upd_ne n1) upd_eq (upd_ne n3) (fun y e1 e2 => (if_neg e2).trans (n4 y e1 e2)) fun b o nb q => k₇ b o nb (k₆ b o (kk b o nb q))
    · have e3 : ((⟨#[b]⟩ : PySem.Str) == "\"") = false := by rw [q0]; simp [hb]
      rw [e3, if_neg (by decide), if_neg (by decide)]
      refine wpAny_execs_nil ?_
      have er : x.res = x.val := by
        rcases ok.val with e | ⟨e, _⟩
        · exfalso
          rw [ev₂] at e
          have := congrArg List.getLast? e
          simp [List.getLast?_cons] at this
          exact hb this
        · exact e
      exact fin _ m₅ tb (C₆ _) n1 (by rw [er, ev₂]; rw [← ev₂]; exact n2) n3 n4 kk
  · have e3 : ((⟨#[a]⟩ : PySem.Str) == "\"") = false := by rw [q0]; simp [ha]
    rw [e3, if_neg (by decide), if_neg (by decide)]
    refine wpAny_execs_nil ?_
    have er : x.res = x.val := by
      rcases ok.val with e | ⟨e, _⟩
      · exfalso
        rw [ev] at e
        injection e with e1 _
        exact ha e1
      · exact e
    exact fin _ m₅ tb C₅.tok n1 (by rw [er]; exact n2) n3 n4 kk
end
end Mine
open PySem PySem.W PyProof.Rows PySem.Calls PySem.Spec
set_option Elab.async false
set_option maxRecDepth 100000
set_option maxHeartbeats 1000000
set_option linter.unusedVariables false
namespace Mine
noncomputable def KvsAre (kvs : List (PySem.Str × Value)) (xs : List KvItem) : Prop := All2 (fun kv (x : KvItem) => kv.1 = tx x.key ∧ ∃ t, kv.2 = .str (tx x.res) t) kvs xs
theorem KvsAre.keys {kvs : List (PySem.Str × Value)} {xs : List KvItem} (h : KvsAre kvs xs) : kvs.map (·.1) = xs.map fun x => tx x.key := by
  induction h with
  | nil => rfl
  | cons x _ ih => rw [List.map_cons, List.map_cons, ih, x.1]
theorem StrsAre.at {vs : List Value} {ls : List PySem.Str} (h : StrsAre vs ls) {i : Nat} {x : PySem.Str} (e : ls[i]? = some x) : ∃ t, vs[i]? = some (.str x t) := by
  induction h generalizing i with
  | nil => cases e
  | cons y t h ih =>
    cases i with
    | zero => simp at e; subst e; exact ⟨t, rfl⟩
    | succ i => simp at e; obtain ⟨t, ht⟩ := ih e; exact ⟨t, by simpa using ht⟩
section
variable {w : World} {A : Around} {E : Value → Shared → Prop} {S s s' : Shared} {g h e : Heap} {L l : Addr} {m m' : PySem.Str → Option Value} {X : List Addr} {R : Result → Shared → Prop}
theorem LnAt.keep {h h' : Heap} {ln : Addr} {ls : List PySem.Str} (x : LnAt h ln ls) (k : ∀ o, h.get? ln = some o → h'.get? ln = some o) : LnAt h' ln ls := by
  obtain ⟨vs, n, ho, r⟩ := x
  exact ⟨vs, n, k _ ho, r⟩
theorem LnAt.isList {h : Heap} {ln : Addr} {ls : List PySem.Str} (x : LnAt h ln ls) : ∃ vs, StrsAre vs ls ∧ h.IsList ln vs.toArray := by
  obtain ⟨vs, n, ho, r⟩ := x
  exact ⟨vs, r, _, ho, rfl, n, rfl⟩
theorem DictOf.keep {h h' : Heap} {d : Addr} {kvs : List (PySem.Str × Value)} (x : h.DictOf (PySem.strKind prog w) d kvs) (k : ∀ o, h.get? d = some o → h'.get? d = some o) : h'.DictOf (PySem.strKind prog w) d kvs := by
  obtain ⟨o, es, ep, ho, r⟩ := x
  exact ⟨o, es, ep, k _ ho, r⟩
theorem ListIter.keep {h h' : Heap} {I l : Addr} {i : Nat} (x : h.IsListIter I l i) (k : ∀ o, h.get? I = some o → h'.get? I = some o) : h'.IsListIter I l i := by
  obtain ⟨o, ho, r⟩ := x
  exact ⟨o, k _ ho, r⟩
theorem keqv_ct {xs : List KvItem} (B : Bs w g) (kb : ∀ b o, g.get? b = some o → s.heap.get? b = some o) (rm : Rm A 4) (hl : LnAt s.heap l (xs.map KvItem.text)) (ok : ∀ x ∈ xs, x.Ok) (hnd : (xs.map fun x => tx x.key).Nodup) (hz : xs.length ≤ 90)
    (h : ∀ s' d kvs, Up [] s s' → s.heap.objs.size ≤ d → s'.heap.DictOf (PySem.strKind prog w) d kvs → KvsAre kvs xs → R (.ok (.ret (.ref d))) s') :
    codeAny (model prog w) A (.call (.ref 189) ⟨[.ref l], []⟩) R s := by
  have kf := (fn189 w.params).kind
  refine enter (binds := [("l", .ref l)]) (fn189 _) B kb rm (by kernel_rfl) (by kernel_rfl) fun h₁ L hL F K₁ rm' => ?_
  refine gn h₁ s.gens s.os rfl rfl rfl fun s₁ e1 g1 o1 => ?_
  have C₁ := Px.start (s' := s₁) B kb hL F K₁ e1 g1 o1
  -- parsed = {}
  refine wpAny_execs_cons ?_
  refine wpAny_Assign_Name ?_
  refine wpAny_Dict_empty ?_
  have C₂ := C₁.keeps (s' := { s₁ with heap := s₁.heap.push { cls := .type "dict", data := .dict #[] } }) (fun b o q => Heap.get?_push_of_some _ q) rfl rfl
  have hd₂ := Heap.DictOf.new (knd := PySem.strKind prog w) s₁.heap
  obtain ⟨d, ed⟩ : ∃ d, d = s₁.heap.objs.size := ⟨_, rfl⟩
  rw [← ed] at hd₂ ⊢
  have hdL : d ≠ L := by rw [ed]; exact Nat.ne_of_gt C₁.F.lt
  have hdS : s.heap.objs.size ≤ d := by rw [ed]; exact C₁.le
  refine sw s₁.gens s₁.os rfl rfl C₂.F rfl kf rfl ?_
  intro s₃ F₃ k₃ g₃ o₃
  have C₃ := C₂.store F₃ k₃ g₃ o₃
  have hd₃ := DictOf.keep hd₂ (fun o q => k₃ _ _ hdL q)
  -- for elt in l:
  refine wpAny_execs_cons ?_
  refine wpAny_ForW ?_
  refine lv C₃.F rfl kf rfl (upd_ne rfl) ?_
  obtain ⟨vs, hsv, isl⟩ := hl.isList
  have hlt : l < s.heap.objs.size := by obtain ⟨o, ho, _⟩ := isl; exact Heap.lt_size ho
  have isl₃ : s₃.heap.IsList l vs.toArray := by obtain ⟨o, ho, r⟩ := isl; exact ⟨o, C₃.U.keep _ _ (by simp) ho, r⟩
  refine wpAny_pyIter_list isl₃ ?_
  have C₄ := C₃.keeps (s' := { s₃ with heap := s₃.heap.push { cls := .type "list_iterator", data := .fields #[.ref l, .int 0 0] } }) (fun b o q => Heap.get?_push_of_some _ q) rfl rfl
  have hit₄ : (s₃.heap.push { cls := .type "list_iterator", data := .fields #[.ref l, .int 0 0] }).IsListIter s₃.heap.objs.size l 0 := ⟨_, Heap.get?_push_size _ rfl, rfl, rfl⟩
  have hd₄ := DictOf.keep hd₃ (fun o q => Heap.get?_push_of_some { cls := .type "list_iterator", data := .fields #[.ref l, .int 0 0] } q)
  have dlt : d < s₃.heap.objs.size := by obtain ⟨o, es, ep, ho, _⟩ := hd₃; exact Heap.lt_size ho
  obtain ⟨I, eI⟩ : ∃ I, I = s₃.heap.objs.size := ⟨_, rfl⟩
  rw [← eI] at hit₄ dlt ⊢
  have hIL : I ≠ L := by rw [eI]; exact Nat.ne_of_gt C₃.F.lt
  have hIS : s.heap.objs.size ≤ I := by rw [eI]; exact C₃.le
  have hId : I ≠ d := Nat.ne_of_gt dlt
  have hIl : l ≠ I := Nat.ne_of_lt (Nat.lt_of_lt_of_le hlt hIS)
  have hlenv := StrsAre.len hsv
  rw [List.length_map] at hlenv
  refine ForW.loop (n := xs.length) (fun i s' => ∃ m' kvs, Px w g s s' L m' ∧ m' "parsed" = some (.ref d) ∧ s'.heap.IsListIter I l i ∧ s'.heap.DictOf (PySem.strKind prog w) d kvs ∧ KvsAre kvs (xs.take i)) ?_ ?_ (by intro _; rfl) (Nat.zero_le _) ⟨_, [], C₄, upd_eq, hit₄, hd₄, by simp; exact .nil⟩
  · rintro i s₅ hi ⟨m₅, kvs, C₅, n₅, hit₅, hd₅, hkv⟩
    have hxi : xs[i]? = some xs[i] := List.getElem?_eq_getElem hi
    obtain ⟨t, ht⟩ := StrsAre.at hsv (i := i) (x := xs[i].text) (by simp [hxi])
    have isl₅ : s₅.heap.IsList l vs.toArray := by obtain ⟨o, ho, r⟩ := isl; exact ⟨o, C₅.U.keep _ _ (by simp) ho, r⟩
    refine wpAny_pyNext_list_item hit₅ isl₅ (x := .str xs[i].text t) (by simpa using ht) ?_
    intro h₆ hit₆ sb
    have C₆ := C₅.own1 (x := I) (s' := { s₅ with heap := h₆ }) (fun b o nb q => sb.extBut b o nb q) rfl rfl hIS hIL
    have hd₆ := DictOf.keep hd₅ (h' := h₆) (fun o q => sb.extBut _ _ (Ne.symm hId) q)
    refine ⟨_, rfl, ?_⟩
    refine wpAny_assign_Name ?_
    refine sw s₅.gens s₅.os rfl rfl C₆.F rfl kf rfl ?_
    intro s₇ F₇ k₇ g₇ o₇
    have C₇ := C₆.store F₇ k₇ g₇ o₇
    have hd₇ := DictOf.keep hd₆ (fun o q => k₇ _ _ hdL q)
    have hit₇ := ListIter.keep hit₆ (fun o q => k₇ _ _ hIL q)
    have hlk : kvs.length = i := by rw [All2.length hkv, List.length_take]; omega
    refine turn189_ct (x := xs[i]) (by kernel_rfl) rfl C₇ rm'.hnd (ok _ (List.getElem_mem hi)) upd_eq (upd_ne n₅) hd₇ hdS hdL (by omega) ?_ ?_
    · intro hm
      rw [hkv.keys] at hm
      have hn := hnd
      rw [← List.take_append_drop i xs, List.map_append, List.nodup_append] at hn
      exact hn.2.2 _ hm _ (List.mem_map.mpr ⟨xs[i], by rw [List.drop_eq_getElem_cons hi]; exact List.mem_cons_self, rfl⟩) rfl
    intro s₈ m₈ t₈ C₈ e₈ hd₈ k₈
    refine ⟨m₈, _, C₈, (e₈ _ (by decide) (by decide)).trans (upd_ne n₅), ListIter.keep hit₇ (fun o q => k₈ _ _ hIL hId q), hd₈, ?_⟩
    rw [List.take_succ_eq_append_getElem hi]
    exact All2.append hkv (.cons ⟨rfl, t₈, rfl⟩ .nil)
  · rintro s₅ ⟨m₅, kvs, C₅, n₅, hit₅, hd₅, hkv⟩
    have isl₅ : s₅.heap.IsList l vs.toArray := by obtain ⟨o, ho, r⟩ := isl; exact ⟨o, C₅.U.keep _ _ (by simp) ho, r⟩
    refine wpAny_pyNext_list_end rm'.hnd hit₅ isl₅ (by simp [hlenv]) ?_
    intro h₆ eb
    refine ⟨rfl, ?_⟩
    have C₆ := C₅.own1 (x := I) (s' := { s₅ with heap := h₆ }) (fun b o nb q => eb b o nb q) rfl rfl hIS hIL
    have hd₆ := DictOf.keep hd₅ (h' := h₆) (fun o q => eb _ _ (Ne.symm hId) q)
    refine wpAny_execs_nil ?_
    refine wpAny_execs_cons ?_
    refine wpAny_Return_some ?_
    refine lv C₆.F rfl kf rfl n₅ ?_
    rw [List.take_length] at hkv
    exact h _ d kvs C₆.U hdS hd₆ hkv
end
end Mine
open PySem PySem.W PyProof.Rows PySem.Calls PySem.Spec
set_option Elab.async false
set_option maxRecDepth 100000
set_option maxHeartbeats 1000000
set_option linter.unusedVariables false
namespace Mine
open PyProof.Rows.LCg (lst lst_snoc)
section
variable {w : World} {A : Around} {E : Value → Shared → Prop} {S s s' : Shared} {g h e : Heap} {L l : Addr} {m m' : PySem.Str → Option Value} {X : List Addr} {env : Env}
/-- a comprehension's source and turns, in a plain function -/
noncomputable def CompAt (w : World) (A : Around) (g : Heap) (S : Shared) (L : Addr) (m : PySem.Str → Option Value) (env : Env) (elt : PySem.Expr) (x : PySem.Str) (ifs : List PySem.Expr) (scope : Scope) (cl : List (PySem.Str × Addr)) (Fin : Addr → Shared → (PySem.Str → Option Value) → List Value → Prop) (it : Value) (s₂ : Shared) : Prop :=
  Px w g S s₂ L m ∧ ∃ I fp n P St, it = .ref I ∧ Walks prog w A I fp [I] n P St ∧ n ≤ 1000 ∧ St 0 s₂.heap ∧ (∀ b ∈ fp, b < s₂.heap.objs.size) ∧ S.heap.objs.size ≤ I ∧ I ≠ L ∧
    ∀ D C, D = s₂.heap.objs.size → C = D + 1 → ∃ K : Nat → List Value → Heap → Prop, (∀ h, (∀ b o, s₂.heap.get? b = some o → h.get? b = some o) → K 0 [] h) ∧
      (∀ i ys h h', K i ys h → (∀ b o, b ∉ [I, C, D, L] → h.get? b = some o → h'.get? b = some o) → K i ys h') ∧
      (∀ i ys s v m₃ E', i < n → Px w g S s L m → (∀ b o, b ≠ I → s₂.heap.get? b = some o → s.heap.get? b = some o) → K i ys s.heap → ys.length ≤ i → P i v → s.heap.Ns C m₃ → m₃ x = some v → (C < s.heap.objs.size ∧ D < s.heap.objs.size ∧ I < s.heap.objs.size) →
        wpAny (model prog w) A (forIn ifs true fun c r => if r = true then do let ok ← isTrue c (compEnvC scope cl C env) (eval c (compEnvC scope cl C env)); pure (ForInStep.yield ok) else pure (ForInStep.yield r))
          (fun ok s₄ => Up [] s s₄ ∧ if ok = true then wpAny (model prog w) A (eval elt (compEnvC scope cl C env)) (fun y s₅ => Up [] s₄ s₅ ∧ K (i + 1) (ys ++ [y]) s₅.heap) E' s₄ else K (i + 1) ys s₄.heap) E' s) ∧
      (∀ s' ys m', Px w g S s' L m' → (∀ b o, b ≠ I → b ≠ L → s₂.heap.get? b = some o → s'.heap.get? b = some o) → K n ys s'.heap → s'.heap.get? D = some (lst ys) → Fin D s' m' ys)
/-- what stands at a comprehension's end -/
structure CEnd (w : World) (g : Heap) (S : Shared) (L : Addr) (m : PySem.Str → Option Value) (Fin : Addr → Shared → (PySem.Str → Option Value) → List Value → Prop) (s₂ s' : Shared) (D C : Addr) (ys : List Value) : Prop where
  px : Px w g S s' L m
  ns : ∃ mC, s'.heap.Ns C mC
  lst : s'.heap.get? D = some (PyProof.Rows.LCg.lst ys)
  SC : S.heap.objs.size ≤ C
  DL : D ≠ L
  CL : C ≠ L
  DC : D ≠ C
  fin : ∀ s'' m', Px w g S s'' L m' → (∀ b o, b ≠ L → b ≠ C → s'.heap.get? b = some o → s''.heap.get? b = some o) → Fin D s'' m' ys
theorem comp_core {elt iter : PySem.Expr} {x : PySem.Str} {px : Pos} {ifs : List PySem.Expr} {scope : Scope} {cl : List (PySem.Str × Addr)} {pos : Pos} {it : Value} {Fin : Addr → Shared → (PySem.Str → Option Value) → List Value → Prop} {RR : Value → Addr → Result → Shared → Prop}
    (hcell : (scope.names.all fun y => y.2 != .cell) = true) (hkind : scope.kind = .function) (hx : scope.names.lookup x = some .local)
    (h : CompAt w A g S L m env elt x ifs scope cl Fin it s)
    (hRR : ∀ s' D C ys, CEnd w g S L m Fin s s' D C ys → RR (.ref D) C (.ok .next) s') :
    wpAny (model prog w) A (newList []) (fun acc s₃ => wpAny (model prog w) A (newFunctionEnv scope env.globals cl [] env.qual none .none (some env)) (fun cenv s₄ =>
      codeAny (model prog w) A (.compStart (.ListComp elt [⟨.Name x px, iter, ifs, 0⟩] scope pos) 0 it acc { cenv with scope := relabel scope env }) (RR acc cenv.locals) s₄) E s₃) E s := by
  obtain ⟨C₂, I, fp, n, P, St, rfl, W, hsz, hst, hfp, hIS, hIL, hK⟩ := h
  have hcell' : ∀ y ∈ scope.names, y.2 ≠ .cell := fun y hy => by have := List.all_eq_true.mp hcell y hy; intro q; rw [q] at this; exact absurd this (by decide)
  refine wpAny_newObj_type (wpAny_newFunctionEnv hcell' (by intro y hy; simp at hy) (fun h₁ hns₁ hsb₁ => ?_) hkind)
  dsimp only at hns₁ hsb₁ ⊢
  generalize hH2 : s.heap.push { cls := .type "list", dict := none, data := .seq ([] : List Value).toArray } = H2 at hns₁ hsb₁ ⊢
  obtain ⟨D, eD⟩ : ∃ D, D = s.heap.objs.size := ⟨_, rfl⟩
  obtain ⟨C, eC⟩ : ∃ C, C = H2.objs.size := ⟨_, rfl⟩
  have hC : C = D + 1 := by rw [eC, eD, ← hH2, Heap.size_push]
  rw [← eC] at hns₁ hsb₁
  rw [← eD, ← eC]
  have ltL := C₂.F.lt
  have hIfp : I ∈ fp := W.sub I (List.mem_singleton.mpr rfl)
  have hIlt : I < D := eD ▸ hfp I hIfp
  have LD : L < D := eD ▸ ltL
  have nDL : D ≠ L := Nat.ne_of_gt LD
  have nCL : C ≠ L := by rw [hC]; exact Nat.ne_of_gt (Nat.lt_succ_of_lt LD)
  have nDC : D ≠ C := by rw [hC]; exact Nat.ne_of_lt (Nat.lt_succ_self _)
  have nDI : D ≠ I := Nat.ne_of_gt hIlt
  have nCI : C ≠ I := by rw [hC]; exact Nat.ne_of_gt (Nat.lt_succ_of_lt hIlt)
  have SD : S.heap.objs.size ≤ D := eD ▸ C₂.le
  have SC : S.heap.objs.size ≤ C := by rw [hC]; exact Nat.le_succ_of_le SD
  have hDf : D ∉ fp := fun hm => Nat.lt_irrefl _ (eD ▸ hfp _ hm)
  have hCf : C ∉ fp := fun hm => by have := hfp _ hm; rw [← eD, hC] at this; exact Nat.lt_irrefl _ (Nat.lt_of_succ_lt this)
  have below : ∀ b o, s.heap.get? b = some o → b ≠ C ∧ b ≠ D := fun b o q => by
    have := Heap.lt_size q
    rw [← eD] at this
    exact ⟨by rw [hC]; exact Nat.ne_of_lt (Nat.lt_succ_of_lt this), Nat.ne_of_lt this⟩
  have old : ∀ b o, s.heap.get? b = some o → h₁.get? b = some o := fun b o q => hsb₁.extBut b o (below b o q).1 (Heap.get?_push_of_some _ (hH2 ▸ Heap.get?_push_of_some _ q))
  have hacc : h₁.get? D = some (lst []) := hsb₁.extBut _ _ nDC (Heap.get?_push_of_some _ (hH2 ▸ eD ▸ Heap.get?_push_size _ rfl))
  have hst₁ : St 0 h₁ := W.frame _ _ _ hst fun b _ o q => old b o q
  obtain ⟨K, K0, Kf, Kt, Kn⟩ := hK D C eD hC
  have inv : ∀ s₃ : Shared, s₃.heap = h₁ → s₃.gens = s.gens → s₃.os = s.os →
      codeAny (model prog w) A (.compLoop (.ListComp elt [⟨.Name x px, iter, ifs, 0⟩] scope pos) 0 (.ref I) (.ref D) (compEnvC scope cl C env)) (RR (.ref D) C) s₃ := by
    intro s₃ e₃ g₃ o₃
    refine codeAny_compLoop_tests
      (fun k s' => ∃ i ys mC, i ≤ n ∧ k = n + 1 - i ∧ ys.length ≤ i ∧ St i s'.heap ∧ Px w g S s' L m ∧ s'.heap.Ns C mC ∧ s'.heap.get? D = some (lst ys) ∧ K i ys s'.heap ∧ (∀ b o, b ≠ I → s.heap.get? b = some o → s'.heap.get? b = some o)) ?_ (n + 1)
      ⟨0, [], _, Nat.zero_le _, rfl, Nat.le_refl _, e₃ ▸ hst₁, C₂.keeps (fun b o q => e₃ ▸ old b o q) g₃ o₃, e₃ ▸ hns₁, e₃ ▸ hacc, K0 _ (fun b o q => e₃ ▸ old b o q), fun b o _ q => e₃ ▸ old b o q⟩
    rintro k s' ⟨i, ys, mC, hi, rfl, hyl, hst', C', hn', hD', K', old'⟩
    by_cases hlt : i < n
    · refine W.item i _ _ _ hlt hst' fun v h₂ tk₂ hPv hst₂ hk₂ => ?_
      have C₃ := C'.own1 (x := I) (s' := { s' with heap := h₂, toks := tk₂ }) (fun b o nb q => hk₂ b o (by simpa using nb) q) rfl rfl hIS hIL
      refine wpAny_assign_Name (wpAny_storeName_local (lookup_relabel_local hx) (hn'.at' fun o q => hk₂ _ o (by simpa using nCI) q) (fun h₃ hn₃ hs₃ => ?_) (by simp [compEnvC, relabel, hkind]))
      have hs₃ : Heap.SameBut C h₂ h₃ := hs₃
      have hn₃ : h₃.Ns C (fun y => if y = x then some v else mC y) := hn₃
      refine gn h₃ s'.gens s'.os rfl rfl rfl fun s₄ e4 g4 o4 => ?_
      have C₄ : Px w g S s₄ L m := (C₃.own1 (x := C) (s' := { s' with heap := h₃, toks := tk₂ + 1 }) (fun b o nb q => hs₃.extBut b o nb q) rfl rfl SC nCL).re e4 g4 o4
      have k34 : ∀ b o, b ≠ I → b ≠ C → s'.heap.get? b = some o → s₄.heap.get? b = some o := fun b o n1 n2 q => by rw [e4]; exact hs₃.extBut b o n2 (hk₂ b o (by simpa using n1) q)
      have hst₄ : St (i + 1) s₄.heap := e4 ▸ W.frame _ _ _ hst₂ fun b hb o q => hs₃.extBut b o (fun z => hCf (z ▸ hb)) q
      have hD₄ := k34 D _ nDI nDC hD'
      have hn₄ : s₄.heap.Ns C (fun y => if y = x then some v else mC y) := e4 ▸ hn₃
      have old₄ : ∀ b o, b ≠ I → s.heap.get? b = some o → s₄.heap.get? b = some o := fun b o n1 q => k34 b o n1 (below b o q).1 (old' b o n1 q)
      have hIob : I < s₄.heap.objs.size := Nat.lt_trans hIlt (Heap.lt_size hD₄)
      have K₄ : K i ys s₄.heap := Kf _ _ _ _ K' fun b o nb q => k34 b o (fun z => nb (by simp [z])) (fun z => nb (by simp [z])) q
      refine wpAny_mono (Kt i ys s₄ v _ _ hlt C₄ old₄ K₄ hyl hPv hn₄ (if_pos rfl) ⟨hn₄.lt, Heap.lt_size hD₄, hIob⟩) (fun ok s₅ q => ?_) fun _ _ z => z
      obtain ⟨u₅, q⟩ := q
      have keep5 : ∀ b o, s₄.heap.get? b = some o → s₅.heap.get? b = some o := fun b o q => u₅.keep b o (by simp) q
      cases ok with
      | false =>
        rw [if_neg (by decide)] at q ⊢
        exact ⟨n + 1 - (i + 1), by omega, i + 1, ys, _, hlt, rfl, Nat.le_succ_of_le hyl, W.frame _ _ _ hst₄ (fun b _ o q => keep5 b o q), C₄.up u₅, hn₄.keeps keep5, keep5 _ _ hD₄, q, fun b o n1 z => keep5 _ _ (old₄ b o n1 z)⟩
      | true =>
        rw [if_pos rfl] at q ⊢
        refine wpAny_mono q (fun y s₆ q => ?_) fun _ _ z => z
        obtain ⟨u₆, K₆⟩ := q
        have keep6 : ∀ b o, s₄.heap.get? b = some o → s₆.heap.get? b = some o := fun b o q => u₆.keep b o (by simp) (keep5 b o q)
        refine append_at (hsz := by show ys.toArray.size ≤ sizeLine; rw [List.size_toArray, sizeLine_eq]; omega) (keep6 _ _ hD₄) fun h₇ hs₇ hD₇ => ?_
        have C₆ := (C₄.up u₅).up u₆
        have hst₆ : St (i + 1) s₆.heap := W.frame _ _ _ hst₄ (fun b _ o q => keep6 b o q)
        refine ⟨n + 1 - (i + 1), by omega, i + 1, ys ++ [y], _, hlt, rfl, by simp; omega, W.frame _ _ _ hst₆ (fun b hb o q => hs₇.extBut b o (fun z => hDf (z ▸ hb)) q), C₆.own1 (x := D) (s' := { s₆ with heap := h₇ }) (fun b o nb q => hs₇.extBut b o nb q) rfl rfl SD nDL,
          (hn₄.keeps keep6).sameBut hs₇ (Ne.symm nDC), hD₇.trans (congrArg some (lst_snoc ys y)), Kf _ _ _ _ K₆ fun b o nb q => hs₇.extBut b o (fun z => nb (by simp [z])) q, fun b o n1 z => hs₇.extBut b o (below b o z).2 (keep6 _ _ (old₄ b o n1 z))⟩
    · obtain rfl : i = n := Nat.le_antisymm hi (Nat.not_lt.mp hlt)
      refine W.done _ _ _ hst' fun h₂ tk₂ hk₂ => ?_
      have kk : ∀ b o, b ≠ I → s'.heap.get? b = some o → h₂.get? b = some o := fun b o nb q => hk₂ b o (by simpa using nb) q
      have C₃ := C'.own1 (x := I) (s' := { s' with heap := h₂, toks := tk₂ }) kk rfl rfl hIS hIL
      have old₃ : ∀ b o, b ≠ I → s.heap.get? b = some o → h₂.get? b = some o := fun b o n1 q => kk b o n1 (old' b o n1 q)
      have K₃ := Kf _ _ _ h₂ K' fun b o nb q => kk b o (fun z => nb (by simp [z])) q
      have hD₃ := kk _ _ nDI hD'
      refine hRR { s' with heap := h₂, toks := tk₂ } D C ys ⟨C₃, ⟨_, hn'.at' fun o q => kk _ _ nCI q⟩, hD₃, SC, nDL, nCL, nDC, fun s'' m' C'' k'' => ?_⟩
      exact Kn s'' ys m' C'' (fun b o n1 n2 q => k'' b o n2 (below b o q).1 (old₃ b o n1 q)) (Kf _ _ _ _ K₃ fun b o nb q => k'' b o (fun z => nb (by simp [z])) (fun z => nb (by simp [z])) q) (k'' _ _ nDL nDC hD₃)
  exact codeAny_compStart_list (inv _ rfl rfl rfl) (W.self 0 _ _ _ hst₁ (inv _ rfl rfl rfl))
/-- [elt for x in iter] -/
theorem px_comp {elt iter : PySem.Expr} {x : PySem.Str} {px : Pos} {ifs : List PySem.Expr} {scope : Scope} {cl : List (PySem.Str × Addr)} {pos : Pos} {Q : Value → Shared → Prop}
    (hclos : closureFor scope env = pure cl) (hcell : (scope.names.all fun y => y.2 != .cell) = true) (hkind : scope.kind = .function) (hnames : ∀ y ∈ scope.names, y.2 = .local → scope.names.lookup y.1 = some .local) (hx : scope.names.lookup x = some .local)
    (h : wpAny (model prog w) A (eval iter env) (fun xv s₁ => wpAny (model prog w) A (pyIter xv) (CompAt w A g S L m env elt x ifs scope cl (fun D s' m' ys => m' = m → Q (.ref D) s')) E s₁) E s)
    (hs : ∀ x, foldedSetIterable iter env x = pure x) :
    wpAny (model prog w) A (eval (.ListComp elt [⟨.Name x px, iter, ifs, 0⟩] scope pos) env) Q E s := by
  rw [eval_ListComp]
  refine wpAny_comprehension_free (use := none) rfl hs hclos hkind hnames (wpAny_mono h (fun xv s₁ h₁ => wpAny_mono h₁ (fun it s₂ h₂ => ?_) fun _ _ e => e) fun _ _ e => e)
  refine comp_core (RR := fun acc C => compPost (model prog w) A E none Q acc C) hcell hkind hx h₂ ?_
  intro s' D C ys ce
  obtain ⟨mC, hn⟩ := ce.ns
  refine ⟨mC, hn, fun h' hs' => ?_⟩
  exact ce.fin { s' with heap := h' } m (ce.px.own1 (x := C) (s' := { s' with heap := h' }) (fun b o nb q => hs'.extBut b o nb q) rfl rfl ce.SC ce.CL) (fun b o _ n2 q => hs'.extBut b o n2 q) rfl
/-- y = [elt for x in iter] -/
theorem px_assign_comp {elt iter : PySem.Expr} {x y : PySem.Str} {px py : Pos} {ifs : List PySem.Expr} {scope : Scope} {cl : List (PySem.Str × Addr)} {pos spos : Pos} {Q : Flow → Shared → Prop}
    (hL : env.locals = L) (hk : env.scope.kind = .function) (hy : env.kindOf y = some .local)
    (hsw : swapsWith (.ListComp elt [⟨.Name x px, iter, ifs, 0⟩] scope pos) (some (.Name y py)) spos.line env = pure true)
    (hclos : closureFor scope env = pure cl) (hcell : (scope.names.all fun y => y.2 != .cell) = true) (hkind : scope.kind = .function) (hnames : ∀ y ∈ scope.names, y.2 = .local → scope.names.lookup y.1 = some .local) (hx : scope.names.lookup x = some .local)
    (h : wpAny (model prog w) A (eval iter env) (fun xv s₁ => wpAny (model prog w) A (pyIter xv) (CompAt w A g S L m env elt x ifs scope cl (fun D s' m' ys => m' = (fun z => if z = y then some (.ref D) else m z) → Q .next s')) E s₁) E s)
    (hs : ∀ x, foldedSetIterable iter env x = pure x) :
    wpAny (model prog w) A (exec (.Assign [.Name y py] (.ListComp elt [⟨.Name x px, iter, ifs, 0⟩] scope pos) spos) env) Q E s := by
  rw [exec_Assign_Name_used _ _ _ _ hsw]
  refine wpAny_bind (wpAny_standAt (wpAny_bind ?_))
  show wpAny _ A (do let _ ← comprehension (.ListComp elt [⟨.Name x px, iter, ifs, 0⟩] scope pos) scope env _ (newList []) false (eval iter env) (some (assign (.Name y py) env))) _ _ s
  refine wpAny_bind (wpAny_mono (wpAny_comprehension_free (use := some (assign (.Name y py) env)) (Q := fun _ s' => Q .next s') rfl hs hclos hkind hnames
    (wpAny_mono h (fun xv s₁ h₁ => wpAny_mono h₁ (fun it s₂ h₂ => ?_) fun _ _ e => e) fun _ _ e => e)) (fun _ s' hq => wpAny_pure (wpAny_pure hq)) fun _ _ e => e)
  refine comp_core (RR := fun acc C => compPost (model prog w) A E (some (assign (.Name y py) env)) (fun _ s' => Q .next s') acc C) hcell hkind hx h₂ ?_
  intro s' D C ys ce
  obtain ⟨mC, hn⟩ := ce.ns
  show wpAny _ A (assign (.Name y py) env (.ref D)) _ _ _
  refine wpAny_assign_Name ?_
  refine sw s'.gens s'.os rfl rfl ce.px.F hL hk hy ?_
  intro s₃ F₃ k₃ g₃ o₃
  have C₃ := ce.px.store F₃ k₃ g₃ o₃
  refine ⟨mC, hn.at' fun o q => k₃ _ _ ce.CL q, fun h' hs' => ?_⟩
  exact ce.fin { s₃ with heap := h' } _ (C₃.own1 (x := C) (s' := { s₃ with heap := h' }) (fun b o nb q => hs'.extBut b o nb q) rfl rfl ce.SC ce.CL) (fun b o n1 n2 q => hs'.extBut b o n2 (k₃ b o n1 q)) rfl
end
end Mine
open PySem PySem.W PyProof.Rows PySem.Calls PySem.Spec
set_option Elab.async false
set_option maxRecDepth 100000
set_option maxHeartbeats 1000000
set_option linter.unusedVariables false
namespace Mine
theorem fn194 (P : Params) : FnOk P 194 := ⟨by kernel_rfl, by kernel_rfl, by kernel_rfl, by kernel_rfl, by kernel_rfl, by kernel_rfl, by kernel_rfl⟩
noncomputable def turn194 (b : List Stmt) : List Stmt := match b with
  | [_, _, _, .For _ _ body _ _, _, _] => body
  | _ => []
noncomputable def add194a (b : List Stmt) : Stmt := match turn194 b with | (.If _ (st :: _) _ _) :: _ => st | _ => default
noncomputable def add194b (b : List Stmt) : Stmt := match turn194 b with | _ :: (.If _ [_, st, _] _ _) :: _ => st | _ => default
noncomputable def add194c (b : List Stmt) : Stmt := match turn194 b with | [_, _, _, _, st] => st | _ => default
theorem tx_append (a b : List Nat) : tx a ++ tx b = tx (a ++ b) := sg_inj (by rw [sg_append, sg_tx, sg_tx, sg_tx])
/-- the reader's state -/
structure HS where
  res : List (List Nat)
  part : List Nat
  esc : Bool
  quote : Bool
noncomputable def hstep (st : HS) (c : Nat) : HS :=
  if st.esc = true then { st with part := st.part ++ [c], esc := false }
  else if st.quote = true then
    if c = 92 then { st with esc := true }
    else if c = 34 then { st with part := st.part ++ [c], quote := false }
    else { st with part := st.part ++ [c] }
  else if c = 44 then { st with res := st.res ++ [st.part], part := [] }
  else if c = 34 then { st with part := st.part ++ [c], quote := true }
  else { st with part := st.part ++ [c] }
structure HN (m : PySem.Str → Option Value) (r : Addr) (st : HS) : Prop where
  res : m "res" = some (.ref r)
  part : ∃ t, m "part" = some (.str (tx st.part) t)
  esc : m "escape" = some (.bool st.esc)
  quote : m "quote" = some (.bool st.quote)
section
variable {w : World} {A : Around} {E : Value → Shared → Prop} {S s s' : Shared} {g h e : Heap} {L l r : Addr} {m m' : PySem.Str → Option Value} {X : List Addr} {R : Result → Shared → Prop} {env : Env} {Q : Flow → Shared → Prop}
theorem add194 {st : Stmt} {p : List Nat} {c : Nat} {t u : Tok} (hst : st = add194a (bodyAt w.params 194) ∨ st = add194b (bodyAt w.params 194) ∨ st = add194c (bodyAt w.params 194)) (he : env = callEnv (fdAt w.params 194) L 194)
    (C : Px w g S s L m) (h1 : m "part" = some (.str (tx p) t)) (h2 : m "cur" = some (.str ⟨#[c]⟩ u)) (hz : p.length ≤ 1000)
    (h : ∀ s' t', Px w g S s' L (fun y => if y = "part" then some (.str (tx (p ++ [c])) t') else m y) → (∀ b o, b ≠ L → s.heap.get? b = some o → s'.heap.get? b = some o) → Q .next s') :
    wpAny (model prog w) A (exec st env) Q E s := by
  subst he
  have kf := (fn194 w.params).kind
  have ea : tx p ++ (⟨#[c]⟩ : PySem.Str) = tx (p ++ [c]) := tx_append p [c]
  have hl : (tx p).length = p.length := tx_length p
  rcases hst with rfl | rfl | rfl
  · refine wpAny_AugAssign_Name ?_
    refine wpAny_loadName_local kf rfl C.F.ns h1 ?_
    refine lv C.F rfl kf rfl h2 ?_
    refine iadd_str ?_ (by show _ + 1 ≤ sizeLine; rw [hl, sizeLine_eq]; omega)
    intro t' tk
    rw [ea]
    refine sw s.gens s.os rfl rfl (C.tok (t := tk)).F rfl kf rfl ?_
    intro s' F' k' g' o'
    exact h s' t' (C.store F' k' g' o') k'
  · refine wpAny_AugAssign_Name ?_
    refine wpAny_loadName_local kf rfl C.F.ns h1 ?_
    refine lv C.F rfl kf rfl h2 ?_
    refine iadd_str ?_ (by show _ + 1 ≤ sizeLine; rw [hl, sizeLine_eq]; omega)
    intro t' tk
    rw [ea]
    refine sw s.gens s.os rfl rfl (C.tok (t := tk)).F rfl kf rfl ?_
    intro s' F' k' g' o'
    exact h s' t' (C.store F' k' g' o') k'
  · refine wpAny_AugAssign_Name ?_
    refine wpAny_loadName_local kf rfl C.F.ns h1 ?_
    refine lv C.F rfl kf rfl h2 ?_
    refine iadd_str ?_ (by show _ + 1 ≤ sizeLine; rw [hl, sizeLine_eq]; omega)
    intro t' tk
    rw [ea]
    refine sw s.gens s.os rfl rfl (C.tok (t := tk)).F rfl kf rfl ?_
    intro s' F' k' g' o'
    exact h s' t' (C.store F' k' g' o') k'
theorem turn194_ct {st : HS} {c : Nat} {u : Tok} {body : List Stmt} (hb : body = turn194 (bodyAt w.params 194)) (he : env = callEnv (fdAt w.params 194) L 194)
    (C : Px w g S s L m) (hn : HN m r st) (h2 : m "cur" = some (.str ⟨#[c]⟩ u)) (hr : LnAt s.heap r (st.res.map tx)) (hrS : S.heap.objs.size ≤ r) (hrL : r ≠ L) (hz : st.part.length ≤ 1000) (hz' : st.res.length ≤ 1000)
    (h : ∀ fl s' m', (fl = .next ∨ fl = .cont) → Px w g S s' L m' → HN m' r (hstep st c) → LnAt s'.heap r ((hstep st c).res.map tx) → (∀ b o, b ≠ L → b ≠ r → s.heap.get? b = some o → s'.heap.get? b = some o) → Q fl s') :
    wpAny (model prog w) A (execs body env) Q E s := by
  subst hb he
  have kf := (fn194 w.params).kind
  obtain ⟨n1, ⟨tp, n2⟩, n3, n4⟩ := hn
  have q92 : ("\\" : PySem.Str) = ⟨#[92]⟩ := by decide +kernel
  have q34 : ("\"" : PySem.Str) = ⟨#[34]⟩ := by decide +kernel
  have q44 : ("," : PySem.Str) = ⟨#[44]⟩ := by decide +kernel
  have eqs : ∀ (y : PySem.Str) (k : Nat), y = ⟨#[k]⟩ → ((⟨#[c]⟩ : PySem.Str) == y) = decide (c = k) := fun y k e => by
    rw [e, Bool.eq_iff_iff]; simp
  refine wpAny_execs_cons ?_
  refine wpAny_If ?_
  refine isTrue_plain ?_
  refine lv C.F rfl kf rfl n3 ?_
  refine wpAny_truthy_bool ?_
  by_cases he : st.esc = true
  · rw [if_pos he]
    refine wpAny_execs_cons ?_
    refine add194 (.inl (by kernel_rfl)) rfl C n2 h2 hz ?_
    intro s₂ t₂ C₂ k₂
    refine wpAny_execs_cons ?_
    refine wpAny_Assign_Name ?_
    with_reducible refine wpAny_Constant_bool ?_
    refine sw s₂.gens s₂.os rfl rfl C₂.F rfl kf rfl ?_
    intro s₃ F₃ k₃ g₃ o₃
    have C₃ := C₂.store F₃ k₃ g₃ o₃
    refine wpAny_execs_cons ?_
    refine wpAny_Continue ?_
    have e1 : hstep st c = { st with part := st.part ++ [c], esc := false } := by unfold hstep; rw [if_pos he]
    refine h .cont s₃ _ (.inr rfl) C₃ ?_ ?_ (fun b o b1 _ q => k₃ b o b1 (k₂ b o b1 q))
    · rw [e1]; exact ⟨upd_ne (upd_ne n1), ⟨t₂, upd_ne upd_eq⟩, upd_eq, upd_ne (upd_ne n4)⟩
    · rw [e1]; exact hr.keep fun o q => k₃ _ _ hrL (k₂ _ _ hrL q)
  · rw [if_neg he]
    refine wpAny_execs_nil ?_
    refine wpAny_execs_cons ?_
    refine wpAny_If ?_
    refine isTrue_plain ?_
    refine lv C.F rfl kf rfl n4 ?_
    refine wpAny_truthy_bool ?_
    by_cases hq : st.quote = true
    · rw [if_pos hq]
      refine wpAny_execs_cons ?_
      refine wpAny_If ?_
      refine wpAny_isTrue_Compare1 ?_
      refine lv C.F rfl kf rfl h2 ?_
      with_reducible refine wpAny_Constant_str ?_
      refine eq_str ?_
      refine wpAny_truthy_bool ?_
      rw [eqs _ 92 q92]
      by_cases h92 : c = 92
      · rw [if_pos (by simpa using h92)]
        refine wpAny_execs_cons ?_
        refine wpAny_Assign_Name ?_
        with_reducible refine wpAny_Constant_bool ?_
        refine sw s.gens s.os rfl rfl (C.tok (t := s.toks + 1)).F rfl kf rfl ?_
        intro s₃ F₃ k₃ g₃ o₃
        have C₃ := C.store F₃ k₃ g₃ o₃
        refine wpAny_execs_cons ?_
        refine wpAny_Continue ?_
        have e1 : hstep st c = { st with esc := true } := by unfold hstep; rw [if_neg he, if_pos hq, if_pos h92]
        refine h .cont s₃ _ (.inr rfl) C₃ ?_ ?_ (fun b o b1 _ q => k₃ b o b1 q)
        · rw [e1]; exact ⟨upd_ne n1, ⟨tp, upd_ne n2⟩, upd_eq, upd_ne n4⟩
        · rw [e1]; exact hr.keep fun o q => k₃ _ _ hrL q
      · rw [if_neg (by simpa using h92)]
        refine wpAny_execs_cons ?_
        refine wpAny_If ?_
        refine wpAny_isTrue_Compare1 ?_
        refine lv (C.tok (t := s.toks + 1)).F rfl kf rfl h2 ?_
        with_reducible refine wpAny_Constant_str ?_
        refine eq_str ?_
        refine wpAny_truthy_bool ?_
        rw [eqs _ 34 q34]
        by_cases h34 : c = 34
        · rw [if_pos (by simpa using h34)]
          refine wpAny_execs_cons ?_
          refine wpAny_Assign_Name ?_
          with_reducible refine wpAny_Constant_bool ?_
          refine sw s.gens s.os rfl rfl (C.tok (t := s.toks + 1 + 1)).F rfl kf rfl ?_
          intro s₃ F₃ k₃ g₃ o₃
          have C₃ := C.store F₃ k₃ g₃ o₃
          refine wpAny_execs_nil ?_
          refine wpAny_execs_nil ?_
          refine wpAny_execs_cons ?_
          refine add194 (.inr (.inl (by kernel_rfl))) rfl C₃ (upd_ne n2) (upd_ne h2) hz ?_
          intro s₄ t₄ C₄ k₄
          refine wpAny_execs_cons ?_
          refine wpAny_Continue ?_
          have e1 : hstep st c = { st with part := st.part ++ [c], quote := false } := by unfold hstep; rw [if_neg he, if_pos hq, if_neg h92, if_pos h34]
          refine h .cont s₄ _ (.inr rfl) C₄ ?_ ?_ (fun b o b1 _ q => k₄ b o b1 (k₃ b o b1 q))
          · rw [e1]; exact ⟨upd_ne (upd_ne n1), ⟨t₄, upd_eq⟩, upd_ne (upd_ne n3), upd_ne upd_eq⟩
          · rw [e1]; exact hr.keep fun o q => k₄ _ _ hrL (k₃ _ _ hrL q)
        · rw [if_neg (by simpa using h34)]
          refine wpAny_execs_nil ?_
          refine wpAny_execs_nil ?_
          refine wpAny_execs_cons ?_
          refine add194 (s := { s with toks := s.toks + 1 + 1 }) (.inr (.inl (by kernel_rfl))) rfl C.tok n2 h2 hz ?_
          intro s₄ t₄ C₄ k₄
          refine wpAny_execs_cons ?_
          refine wpAny_Continue ?_
          have e1 : hstep st c = { st with part := st.part ++ [c] } := by unfold hstep; rw [if_neg he, if_pos hq, if_neg h92, if_neg h34]
          refine h .cont s₄ _ (.inr rfl) C₄ ?_ ?_ (fun b o b1 _ q => k₄ b o b1 q)
          · rw [e1]; exact ⟨upd_ne n1, ⟨t₄, upd_eq⟩, upd_ne n3, upd_ne n4⟩
          · rw [e1]; exact hr.keep fun o q => k₄ _ _ hrL q
    · rw [if_neg hq]
      refine wpAny_execs_nil ?_
      refine wpAny_execs_cons ?_
      refine wpAny_If ?_
      refine wpAny_isTrue_Compare1 ?_
      refine lv C.F rfl kf rfl h2 ?_
      with_reducible refine wpAny_Constant_str ?_
      refine eq_str ?_
      refine wpAny_truthy_bool ?_
      rw [eqs _ 44 q44]
      by_cases h44 : c = 44
      · rw [if_pos (by simpa using h44)]
        refine wpAny_execs_cons ?_
        refine wpAny_Expr ?_
        refine MethodCall_ ?_
        refine lv (C.tok (t := s.toks + 1)).F rfl kf rfl n1 ?_
        obtain ⟨vl, nl, hln, hsl⟩ := id hr
        refine getMethod_list_append hln rfl rfl ?_
        refine callWith_method1 ?_
        with_reducible refine args_cons ?_ (by with_unfolding_all rfl)
        refine lv (C.tok (t := s.toks + 1)).F rfl kf rfl n2 ?_
        refine args_nil ?_
        refine ln_append (ls := st.res.map tx) hr (by simp; omega) ?_
        intro h₂ la sb
        have C₂ := C.own1 (x := r) (s' := { s with heap := h₂, toks := s.toks + 1 }) (fun b o nb q => sb.extBut b o nb q) rfl rfl hrS hrL
        refine wpAny_execs_cons ?_
        refine wpAny_Assign_Name ?_
        with_reducible refine wpAny_Constant_str ?_
        refine sw s.gens s.os rfl rfl (C₂.tok (t := s.toks + 1 + 1)).F rfl kf rfl ?_
        intro s₃ F₃ k₃ g₃ o₃
        have C₃ := C₂.store F₃ k₃ g₃ o₃
        refine wpAny_execs_cons ?_
        refine wpAny_Continue ?_
        have e1 : hstep st c = { st with res := st.res ++ [st.part], part := [] } := by unfold hstep; rw [if_neg he, if_neg hq, if_pos h44]
        have e0 : ("" : PySem.Str) = tx [] := by decide +kernel
        refine h .cont s₃ _ (.inr rfl) C₃ ?_ ?_ (fun b o b1 b2 q => k₃ b o b1 (sb.extBut b o b2 q))
        · rw [e1]; exact ⟨upd_ne n1, ⟨_, by rw [← e0]; exact upd_eq⟩, upd_ne n3, upd_ne n4⟩
        · rw [e1, List.map_append]; exact la.keep fun o q => k₃ _ _ hrL q
      · rw [if_neg (by simpa using h44)]
        refine wpAny_execs_nil ?_
        refine wpAny_execs_cons ?_
        refine wpAny_If ?_
        refine wpAny_isTrue_Compare1 ?_
        refine lv (C.tok (t := s.toks + 1)).F rfl kf rfl h2 ?_
        with_reducible refine wpAny_Constant_str ?_
        refine eq_str ?_
        refine wpAny_truthy_bool ?_
        rw [eqs _ 34 q34]
        by_cases h34 : c = 34
        · rw [if_pos (by simpa using h34)]
          refine wpAny_execs_cons ?_
          refine wpAny_Assign_Name ?_
          with_reducible refine wpAny_Constant_bool ?_
          refine sw s.gens s.os rfl rfl (C.tok (t := s.toks + 1 + 1)).F rfl kf rfl ?_
          intro s₃ F₃ k₃ g₃ o₃
          have C₃ := C.store F₃ k₃ g₃ o₃
          refine wpAny_execs_nil ?_
          refine wpAny_execs_cons ?_
          refine add194 (.inr (.inr (by kernel_rfl))) rfl C₃ (upd_ne n2) (upd_ne h2) hz ?_
          intro s₄ t₄ C₄ k₄
          refine wpAny_execs_nil ?_
          have e1 : hstep st c = { st with part := st.part ++ [c], quote := true } := by unfold hstep; rw [if_neg he, if_neg hq, if_neg h44, if_pos h34]
          refine h .next s₄ _ (.inl rfl) C₄ ?_ ?_ (fun b o b1 _ q => k₄ b o b1 (k₃ b o b1 q))
          · rw [e1]; exact ⟨upd_ne (upd_ne n1), ⟨t₄, upd_eq⟩, upd_ne (upd_ne n3), upd_ne upd_eq⟩
          · rw [e1]; exact hr.keep fun o q => k₄ _ _ hrL (k₃ _ _ hrL q)
        · rw [if_neg (by simpa using h34)]
          refine wpAny_execs_nil ?_
          refine wpAny_execs_cons ?_
          refine add194 (s := { s with toks := s.toks + 1 + 1 }) (.inr (.inr (by kernel_rfl))) rfl C.tok n2 h2 hz ?_
          intro s₄ t₄ C₄ k₄
          refine wpAny_execs_nil ?_
          have e1 : hstep st c = { st with part := st.part ++ [c] } := by unfold hstep; rw [if_neg he, if_neg hq, if_neg h44, if_neg h34]
          refine h .next s₄ _ (.inl rfl) C₄ ?_ ?_ (fun b o b1 _ q => k₄ b o b1 q)
          · rw [e1]; exact ⟨upd_ne n1, ⟨t₄, upd_eq⟩, upd_ne n3, upd_ne n4⟩
          · rw [e1]; exact hr.keep fun o q => k₄ _ _ hrL q
end
end Mine
open PySem PySem.W PyProof.Rows PySem.Calls PySem.Spec
set_option Elab.async false
set_option maxRecDepth 100000
set_option maxHeartbeats 1000000
set_option linter.unusedVariables false
namespace Mine
open PyProof.Rows.LCg (lst lst_snoc)
noncomputable def hstart : HS := ⟨[], [], false, false⟩
noncomputable def hend (st : HS) : List (List Nat) := if st.part = [] then st.res else st.res ++ [st.part]
/-- the items that parse_http_list reads -/
noncomputable def httpItems (l : List Nat) : List PySem.Str := (hend (l.foldl hstep hstart)).map fun p => Txt.strip (tx p)
structure HB (st : HS) (n : Nat) : Prop where
  part : st.part.length ≤ n
  res : st.res.length ≤ n
  all : ∀ p ∈ st.res, p.length ≤ n
theorem hstep_len (st : HS) (c : Nat) (n : Nat) (h : HB st n) : HB (hstep st c) (n + 1) := by
  obtain ⟨h1, h2, h3⟩ := h
  unfold hstep
  (repeat' split) <;> refine ⟨?_, ?_, fun p hp => ?_⟩ <;> simp at * <;> first | omega | (rcases hp with hp | rfl <;> first | (have := h3 p hp; omega) | omega) | (have := h3 p hp; omega)
theorem hfold_len (l : List Nat) : ∀ n, HB ((l.take n).foldl hstep hstart) n := by
  intro n
  induction n with
  | zero => simp [hstart]; exact ⟨by simp, by simp, by simp⟩
  | succ n ih =>
    by_cases h : n < l.length
    · rw [List.take_succ_eq_append_getElem h, List.foldl_append]
      exact hstep_len _ _ _ ih
    · rw [List.take_of_length_le (by omega)]
      rw [List.take_of_length_le (by omega)] at ih
      exact ⟨by have := ih.part; omega, by have := ih.res; omega, fun p hp => by have := ih.all p hp; omega⟩
section
variable {w : World} {A : Around} {E : Value → Shared → Prop} {S s s' : Shared} {g h e : Heap} {L l r : Addr} {m m' : PySem.Str → Option Value} {X : List Addr} {R : Result → Shared → Prop} {env : Env} {Q : Flow → Shared → Prop}
/-- a comprehension's own name -/
theorem lc {M : Model} {x : PySem.Str} {v : Value} {C : Addr} {pos : Pos} {Q : Value → Shared → Prop} (hn : s.heap.Ns C m) (hL : env.locals = C) (hk : env.scope.kind = .function) (hl : env.kindOf x = some .local) (hv : m x = some v) (h : Q v s)
    (hd : (x == ("__debug__" : PySem.Str)) = false := by decide) : wpAny M A (eval (.Name x pos) env) Q E s := wpAny_Name (wpAny_loadName_local hk hl (hL ▸ hn) hv h) hd
theorem http_ct {l : List Nat} {t : Tok} (B : Bs w g) (kb : ∀ b o, g.get? b = some o → s.heap.get? b = some o) (rm : Rm A 4) (ha : l.all (· < 128) = true) (hz : l.length ≤ 900)
    (h : ∀ s' r, Up [] s s' → s.heap.objs.size ≤ r → LnAt s'.heap r (httpItems l) → R (.ok (.ret (.ref r))) s') :
    codeAny (model prog w) A (.call (.ref 194) ⟨[.str (tx l) t], []⟩) R s := by
  have kf := (fn194 w.params).kind
  refine enter (binds := [("s", .str (tx l) t)]) (fn194 _) B kb rm (by kernel_rfl) (by kernel_rfl) fun h₁ L hL F K₁ rm' => ?_
  refine gn h₁ s.gens s.os rfl rfl rfl fun s₁ e1 g1 o1 => ?_
  have C₁ := Px.start (s' := s₁) B kb hL F K₁ e1 g1 o1
  -- res = []
  refine wpAny_execs_cons ?_
  refine wpAny_Assign_Name ?_
  with_reducible refine List_ ?_
  refine args_nil ?_
  unfold newList
  refine wpAny_newObj_type ?_
  have C₂ := C₁.keeps (s' := { s₁ with heap := s₁.heap.push { cls := .type "list", data := .seq #[] } }) (fun b o q => Heap.get?_push_of_some _ q) rfl rfl
  have hr₂ : LnAt (s₁.heap.push { cls := .type "list", data := .seq #[] }) s₁.heap.objs.size [] := ⟨[], 0, Heap.get?_push_size _ rfl, .nil⟩
  obtain ⟨r, er⟩ : ∃ r, r = s₁.heap.objs.size := ⟨_, rfl⟩
  rw [← er] at hr₂ ⊢
  have hrL : r ≠ L := by rw [er]; exact Nat.ne_of_gt C₁.F.lt
  have hrS : s.heap.objs.size ≤ r := by rw [er]; exact C₁.le
  refine sw s₁.gens s₁.os rfl rfl C₂.F rfl kf rfl ?_
  intro s₃ F₃ k₃ g₃ o₃
  have C₃ := C₂.store F₃ k₃ g₃ o₃
  have hr₃ := hr₂.keep fun o q => k₃ _ _ hrL q
  -- part = ''
  refine wpAny_execs_cons ?_
  refine wpAny_Assign_Name ?_
  with_reducible refine wpAny_Constant_str ?_
  refine sw s₃.gens s₃.os rfl rfl (C₃.tok (t := s₃.toks + 1)).F rfl kf rfl ?_
  intro s₄ F₄ k₄ g₄ o₄
  have C₄ := C₃.store F₄ k₄ g₄ o₄
  have hr₄ := hr₃.keep fun o q => k₄ _ _ hrL q
  -- escape = quote = False
  refine wpAny_execs_cons ?_
  refine wpAny_Assign_two ?_
  with_reducible refine wpAny_Constant_bool ?_
  refine wpAny_assign_Name ?_
  refine sw s₄.gens s₄.os rfl rfl C₄.F rfl kf rfl ?_
  intro s₅ F₅ k₅ g₅ o₅
  have C₅ := C₄.store F₅ k₅ g₅ o₅
  have hr₅ := hr₄.keep fun o q => k₅ _ _ hrL q
  refine wpAny_assign_Name ?_
  refine sw s₅.gens s₅.os rfl rfl C₅.F rfl kf rfl ?_
  intro s₆ F₆ k₆ g₆ o₆
  have C₆ := C₅.store F₆ k₆ g₆ o₆
  have hr₆ := hr₅.keep fun o q => k₆ _ _ hrL q
  -- for cur in s:
  refine wpAny_execs_cons ?_
  refine wpAny_ForW ?_
  refine lv C₆.F rfl kf rfl (v := .str (tx l) t) (upd_ne (upd_ne (upd_ne (upd_ne rfl)))) ?_
  have hall : (tx l).cps.all (· < 128) = true := by
    rw [Array.all_eq_true_iff_forall_mem]
    intro c hc
    exact List.all_eq_true.mp ha c (by simpa [tx] using hc)
  refine wpAny_pyIter_ascii hall ?_
  have e0 : ("" : PySem.Str) = tx [] := by decide +kernel
  have hn₆ : ∃ m₆, Px w g s s₆ L m₆ ∧ HN m₆ r hstart := ⟨_, C₆, ⟨upd_ne (upd_ne (upd_ne upd_eq)), ⟨_, by rw [show hstart.part = [] from rfl, ← e0]; exact upd_ne (upd_ne upd_eq)⟩, upd_ne upd_eq, upd_eq⟩⟩
  obtain ⟨m₆, C₆, hn₆⟩ := hn₆
  have C₇ := C₆.keeps (s' := { s₆ with heap := s₆.heap.push { cls := .type "str_ascii_iterator", data := .fields #[.str (tx l) t, .int 0 0] } }) (fun b o q => Heap.get?_push_of_some _ q) rfl rfl
  have hit₇ : (s₆.heap.push { cls := .type "str_ascii_iterator", data := .fields #[.str (tx l) t, .int 0 0] }).IsStrIter s₆.heap.objs.size "str_ascii_iterator" (tx l) t 0 := ⟨_, Heap.get?_push_size _ rfl, rfl, rfl⟩
  have hr₇ := hr₆.keep (h' := s₆.heap.push { cls := .type "str_ascii_iterator", data := .fields #[.str (tx l) t, .int 0 0] }) fun o q => Heap.get?_push_of_some _ q
  have rlt : r < s₆.heap.objs.size := by obtain ⟨_, _, q, _⟩ := hr₆; exact Heap.lt_size q
  obtain ⟨I, eI⟩ : ∃ I, I = s₆.heap.objs.size := ⟨_, rfl⟩
  rw [← eI] at hit₇ rlt ⊢
  have hIL : I ≠ L := by rw [eI]; exact Nat.ne_of_gt C₆.F.lt
  have hIS : s.heap.objs.size ≤ I := by rw [eI]; exact C₆.le
  have hIr : I ≠ r := Nat.ne_of_gt rlt
  refine ForW.loop (n := l.length) (fun i s' => ∃ m', Px w g s s' L m' ∧ HN m' r ((l.take i).foldl hstep hstart) ∧ s'.heap.IsStrIter I "str_ascii_iterator" (tx l) t i ∧ LnAt s'.heap r (((l.take i).foldl hstep hstart).res.map tx)) ?_ ?_ (by intro _; rfl) (Nat.zero_le _) ⟨m₆, C₇, by simpa using hn₆, hit₇, by simpa [hstart] using hr₇⟩
  · rintro i s₈ hi ⟨m₈, C₈, n₈, hit₈, hr₈⟩
    have hci : (tx l).cps[i]? = some l[i] := by simp [tx, hi]
    refine wpAny_pyNext_ascii_item hit₈ hci ?_
    intro h₉ hit₉ sb
    have C₉ := C₈.own1 (x := I) (s' := { s₈ with heap := h₉, toks := s₈.toks + 1 }) (fun b o nb q => sb.extBut b o nb q) rfl rfl hIS hIL
    have hr₉ := hr₈.keep (h' := h₉) (fun o q => sb.extBut _ _ (Ne.symm hIr) q)
    refine ⟨_, rfl, ?_⟩
    refine wpAny_assign_Name ?_
    refine sw s₈.gens s₈.os rfl rfl C₉.F rfl kf rfl ?_
    intro s₁₀ F₁₀ k₁₀ g₁₀ o₁₀
    have C₁₀ := C₉.store F₁₀ k₁₀ g₁₀ o₁₀
    have hr₁₀ := hr₉.keep (fun o q => k₁₀ _ _ hrL q)
    have hit₁₀ := IsStrIter_keep hit₉ (fun o q => k₁₀ _ _ hIL q)
    obtain ⟨n1, ⟨tp, n2⟩, n3, n4⟩ := n₈
    have hl := hfold_len l i
    refine turn194_ct (by kernel_rfl) rfl C₁₀ ⟨upd_ne n1, ⟨tp, upd_ne n2⟩, upd_ne n3, upd_ne n4⟩ upd_eq hr₁₀ hrS hrL (by have := hl.part; omega) (by have := hl.res; omega) ?_
    intro fl s₁₁ m₁₁ hfl C₁₁ n₁₁ hr₁₁ k₁₁
    have et : hstep ((l.take i).foldl hstep hstart) l[i] = (l.take (i + 1)).foldl hstep hstart := by rw [List.take_succ_eq_append_getElem hi, List.foldl_append]; rfl
    rw [et] at n₁₁ hr₁₁
    have fin : ∃ m', Px w g s s₁₁ L m' ∧ HN m' r ((l.take (i + 1)).foldl hstep hstart) ∧ s₁₁.heap.IsStrIter I "str_ascii_iterator" (tx l) t (i + 1) ∧ LnAt s₁₁.heap r (((l.take (i + 1)).foldl hstep hstart).res.map tx) := ⟨m₁₁, C₁₁, n₁₁, IsStrIter_keep hit₁₀ (fun o q => k₁₁ _ _ hIL hIr q), hr₁₁⟩
    rcases hfl with rfl | rfl <;> exact fin
  · rintro s₈ ⟨m₈, C₈, n₈, hit₈, hr₈⟩
    refine wpAny_pyNext_ascii_end rm'.hnd hit₈ (by simp [tx]) ?_
    intro h₉ eb
    refine ⟨rfl, ?_⟩
    have C₉' := C₈.own1 (x := I) (s' := { s₈ with heap := h₉ }) (fun b o nb q => eb b o nb q) rfl rfl hIS hIL
    have hr₉ := hr₈.keep (h' := h₉) (fun o q => eb _ _ (Ne.symm hIr) q)
    refine gn h₉ s₈.gens s₈.os rfl rfl rfl fun s₉ eh eg eo => ?_
    have C₉ := C₉'.re (s' := s₉) eh eg eo
    rw [← eh] at hr₉
    rw [List.take_length] at n₈ hr₉
    have hl := hfold_len l l.length
    rw [List.take_length] at hl
    generalize hst : l.foldl hstep hstart = st at *
    obtain ⟨n1, ⟨tp, n2⟩, n3, n4⟩ := n₈
    refine wpAny_execs_nil ?_
    -- if part: res.append(part)
    refine wpAny_execs_cons ?_
    refine wpAny_If ?_
    refine isTrue_plain ?_
    refine lv C₉.F rfl kf rfl n2 ?_
    obtain ⟨hl1, hl2, hl3⟩ := hl
    refine PySem.P.truthy_str (by rw [tx_length]; omega) ?_
    rw [tx_length]
    -- the end
    have fin : ∀ (s₁₀ : Shared) (ls : List (List Nat)), Px w g s s₁₀ L m₈ → LnAt s₁₀.heap r (ls.map tx) → ls.length ≤ 902 → ls.map (fun p => Txt.strip (tx p)) = httpItems l → (∀ p ∈ ls, p.length ≤ 900) →
        wpAny (model prog w) (A.deeper (callEnv (fdAt w.params 194) L 194)) (execs ((bodyAt w.params 194).drop 5) (callEnv (fdAt w.params 194) L 194)) (fun fl s' => R (.ok (.ret (match fl with | .ret v => v | _ => .none))) s') (fun _ _ => False) s₁₀ := by
      intro s₁₀ ls C₁₀ hr₁₀ hls heq hpl
      refine wpAny_execs_cons ?_
      refine wpAny_Return_some ?_
      refine px_comp (g := g) (S := s) (L := L) (m := m₈) (cl := []) rfl rfl rfl (by decide) rfl ?_ (by intro _; rfl)
      refine lv C₁₀.F rfl kf rfl n1 ?_
      obtain ⟨vs, hsv, isl⟩ := hr₁₀.isList
      have hlv := StrsAre.len hsv
      rw [List.length_map] at hlv
      refine wpAny_pyIter_list isl ?_
      have rlt : r < s₁₀.heap.objs.size := by obtain ⟨_, q, _⟩ := isl; exact Heap.lt_size q
      have up : ∀ b o, s₁₀.heap.get? b = some o → (s₁₀.heap.push { cls := .type "list_iterator", data := .fields #[.ref r, .int 0 0] }).get? b = some o := fun b o q => Heap.get?_push_of_some _ q
      have C₁₁ := C₁₀.keeps (s' := { s₁₀ with heap := s₁₀.heap.push { cls := .type "list_iterator", data := .fields #[.ref r, .int 0 0] } }) up rfl rfl
      refine ⟨C₁₁, s₁₀.heap.objs.size, _, _, _, _, rfl, Walks.list rm'.hnd s₁₀.heap.objs.size r (Nat.ne_of_lt rlt) vs.toArray, by rw [List.size_toArray]; omega, ⟨⟨_, Heap.get?_push_size _ rfl, rfl, rfl⟩, isl.push _⟩, fun b hb => ?_, C₁₀.le, Nat.ne_of_gt C₁₀.F.lt, fun D C eD eC => ⟨fun i ys _ => StrsAre ys ((ls.take i).map fun p => Txt.strip (tx p)), fun _ _ => by simp; exact .nil, fun _ _ _ _ q _ => q, ?_, ?_⟩⟩
      · show b < (s₁₀.heap.push _).objs.size
        rw [Heap.size_push]
        rcases List.mem_cons.mp hb with rfl | hb
        · exact Nat.lt_succ_self _
        · rw [List.mem_singleton.mp hb]; exact Nat.lt_succ_of_lt rlt
      · intro i ys s₁₂ v m₃ E' hi C₁₂ _ K hyl hP hns hv _
        have hi : i < ls.length := by rw [List.size_toArray] at hi; omega
        obtain ⟨t', ht'⟩ := StrsAre.at hsv (i := i) (x := tx ls[i]) (by simp [hi])
        have hP : vs[i]? = some v := by simpa using hP
        rw [ht'] at hP
        cases hP
        refine wpAny_tests_nil ?_
        refine ⟨.refl _ _, ?_⟩
        rw [if_pos rfl]
        refine MethodCall_ ?_
        refine lc hns rfl rfl rfl hv ?_
        refine GM.strip ?_
        refine callWith_method0 ?_
        refine SC.strip ?_ (by rw [tx_length, sizeLine_eq]; have := hpl _ (List.getElem_mem hi); omega)
        intro t'' k
        refine ⟨.of_eq (fun _ _ q => q) rfl rfl, ?_⟩
        show StrsAre _ ((ls.take (i + 1)).map fun p => Txt.strip (tx p))
        rw [List.take_succ_eq_append_getElem hi, List.map_append]
        exact StrsAre.snoc K _ _
      · intro s' ys m' C' _ K hD em
        subst em
        have K : StrsAre ys ((ls.take vs.toArray.size).map fun p => Txt.strip (tx p)) := K
        rw [List.size_toArray, hlv, List.take_length, heq] at K
        refine h s' D C'.U (Nat.le_trans C₁₁.le (Nat.le_of_eq eD.symm)) ⟨ys, _, hD, K⟩
    by_cases hp : st.part = []
    · rw [hp]
      rw [if_neg (by simp)]
      refine wpAny_execs_nil ?_
      exact fin _ st.res C₉.tok hr₉ (by omega) (by unfold httpItems hend; rw [hst, if_pos hp]) (fun p q => by have := hl3 p q; omega)
    · have hpl : (((st.part.length : Nat) : Int) != 0) = true := by
        have : 0 < st.part.length := List.length_pos_iff.mpr hp
        simpa using hp
      rw [hpl, if_pos rfl]
      refine wpAny_execs_cons ?_
      refine wpAny_Expr ?_
      refine MethodCall_ ?_
      refine lv (C₉.tok (t := s₉.toks + 1 + 1)).F rfl kf rfl n1 ?_
      obtain ⟨vl, nl, hln, hsl⟩ := id hr₉
      refine getMethod_list_append hln rfl rfl ?_
      refine callWith_method1 ?_
      with_reducible refine args_cons ?_ (by with_unfolding_all rfl)
      refine lv (C₉.tok (t := s₉.toks + 1 + 1)).F rfl kf rfl n2 ?_
      refine args_nil ?_
      refine ln_append (ls := st.res.map tx) hr₉ (by simp; omega) ?_
      intro h₁₀ la sb
      have C₁₀ := C₉.own1 (x := r) (s' := { s₉ with heap := h₁₀, toks := s₉.toks + 1 + 1 }) (fun b o nb q => sb.extBut b o nb q) rfl rfl hrS hrL
      refine wpAny_execs_nil ?_
      refine fin _ (st.res ++ [st.part]) C₁₀ (by rw [List.map_append]; exact la) (by simp; omega) (by unfold httpItems hend; rw [hst, if_neg hp]) (fun p q => ?_)
      rcases List.mem_append.mp q with q | q
      · have := hl3 p q; omega
      · rw [List.mem_singleton.mp q]; omega
end
end Mine
open PySem PySem.W PyProof.Rows PySem.Calls PySem.Spec
set_option Elab.async false
set_option maxRecDepth 100000
set_option maxHeartbeats 1000000
set_option linter.unusedVariables false
namespace Mine
section
variable {w : World} {A : Around} {E : Value → Shared → Prop} {S s s' : Shared} {g h e : Heap} {L l r I : Addr} {m m' : PySem.Str → Option Value} {X : List Addr} {R : Result → Shared → Prop} {env : Env} {Q : Flow → Shared → Prop}
open Builtin.Str in
theorem replaceK {x y z : PySem.Str} {t u v : Tok} {Q : Value → Shared → Prop} (hu : u ≠ 0) (hv : v ≠ 0) (huv : u ≠ v) (hyz : (y == z) = false) (hx : x.length ≤ 1000) (hz : z.length ≤ 14)
    (hq : ∀ t' k, s.toks ≤ k → Q (.str (Txt.replace x y z) t') { s with toks := k }) : wpAny (model prog w) A (call (.builtin "str.replace") [.str x t, .str y u, .str z v]) Q E s := by
  have h1 : (x.length + 1) * z.length ≤ (x.length + 1) * 14 := Nat.mul_le_mul_left _ hz
  have hb : x.length + (x.length + 1) * z.length ≤ 16777216 := by omega
  have e : (2 : Nat) ^ 24 = 16777216 := by decide
  have hl : tooLong (x.length + (occurrences x y 0 x.length (x.length + 1)).length * z.length) = false := by
    have h1 := StrLaws.occ_length_le x y 0 x.length (x.length + 1)
    have h2 : (occurrences x y 0 x.length (x.length + 1)).length * z.length ≤ (x.length + 1) * z.length := Nat.mul_le_mul_right _ h1
    unfold tooLong sizeLine
    exact decide_eq_false (by omega)
  refine call_gives F.slot_str_replace (typeIs_str _ _ _) F.entry_str_replace (F.args_str_replace_3 _ _ _)
    (gives_str_replace x y z t u v fun _ => ⟨by simp [hu, hv], by simp [huv], hyz, hl⟩) ?_
  have hq' := hq
  unfold Txt.replace at hq'
  cases hc : ((occurrences x y 0 x.length (x.length + 1)).isEmpty || (y.length == 0 && z.length == 0))
  · rw [hc] at hq'
    simp only [Bool.false_eq_true, if_false] at hq' ⊢
    exact ⟨fits_replaced y hb, hq' _ _ (Nat.le_succ _)⟩
  · rw [hc] at hq'
    simp only [if_true] at hq' ⊢
    exact hq' t s.toks (Nat.le_refl _)
theorem range1 {n : Int} {t : Tok} {Q : Value → Shared → Prop} (G : _) (O : _) (eg : s.gens = G) (eo : s.os = O)
    (h : ∀ s' r t₁ u₁ v₁, s'.gens = G → s'.os = O → (∀ b o, s.heap.get? b = some o → s'.heap.get? b = some o) → IsRange s'.heap r 0 n 1 t₁ u₁ v₁ → r = s.heap.objs.size → Q (.ref r) s') :
    wpAny (model prog w) A (call (.type "range") [.int n t]) Q E s :=
  call_range_1 (h _ _ _ _ _ eg eo (fun _ _ e => Heap.get?_push_of_some _ e) (Heap.get?_push_size _ rfl) rfl)
/-- `range(n)` and its iterator -/
theorem px_range {n : Nat} {t : Tok} {Q : Value → Shared → Prop} (C : Px w g S s L m) (hn : n ≤ 1000)
    (h : ∀ s' I, Px w g S s' L m → IsRangeIter s'.heap I 0 n 1 → (∀ b o, s.heap.get? b = some o → s'.heap.get? b = some o ∧ b ≠ I) → S.heap.objs.size ≤ I → I ≠ L → Q (.ref I) s') :
    wpAny (model prog w) A (call (.type "range") [.int (n : Int) t]) (fun x s₁ => wpAny (model prog w) A (pyIter x) Q E s₁) E s := by
  refine range1 s.gens s.os rfl rfl ?_
  intro s₁ r t₁ u₁ v₁ g₁ o₁ k₁ hr er
  have C₁ := C.keeps k₁ g₁ o₁
  refine iter_range hr (small_one (by decide) (by decide) (by omega) (by omega)) (n := (n : Int)) (by rw [rangeSize_one]; split <;> omega) s.gens s.os g₁ o₁ ?_
  intro s₂ I g₂ o₂ k₂ hI eI
  refine h s₂ I (C₁.keeps k₂ (g₂.trans g₁.symm) (o₂.trans o₁.symm)) hI (fun b o q => ⟨k₂ _ _ (k₁ _ _ q), fun z => ?_⟩) (by rw [eI]; exact C₁.le) (by rw [eI]; exact Nat.ne_of_gt C₁.F.lt)
  rw [z, eI] at q
  exact absurd (Heap.lt_size (k₁ _ _ q)) (Nat.lt_irrefl _)
/-- a turn of a loop over range(n) -/
theorem rng_next {i n : Nat} {x : PySem.Str} {px : Pos} {Qb : Shared → Prop} (C : Px w g S s L m) (hI : IsRangeIter s.heap I (i : Int) ((n - i : Nat) : Int) 1) (hi : i < n) (hIS : S.heap.objs.size ≤ I) (hIL : I ≠ L)
    (hL : env.locals = L) (hk : env.scope.kind = .function) (hx : env.kindOf x = some .local)
    (h : ∀ s' t, Px w g S s' L (fun y => if y = x then some (.int (i : Int) t) else m y) → IsRangeIter s'.heap I ((i + 1 : Nat) : Int) ((n - (i + 1) : Nat) : Int) 1 → (∀ b o, b ≠ I → b ≠ L → s.heap.get? b = some o → s'.heap.get? b = some o) → Qb s') :
    wpAny (model prog w) A (pyNext (.ref I)) (fun r s₁ => ∃ v, r = some v ∧ wpAny (model prog w) A (assign (.Name x px) env v) (fun _ s₂ => Qb s₂) (fun _ _ => False) s₁) (fun _ _ => False) s := by
  refine wpAny_pyNext_range_item hI (by omega) ?_
  intro h₂ hI₂ sb
  have C₂ := C.own1 (x := I) (s' := { s with heap := h₂, toks := s.toks + 1 }) (fun b o nb q => sb.extBut b o nb q) rfl rfl hIS hIL
  have e1 : (i : Int) + 1 = ((i + 1 : Nat) : Int) := by omega
  have e2 : ((n - i : Nat) : Int) - 1 = ((n - (i + 1) : Nat) : Int) := by omega
  rw [e1, e2] at hI₂
  refine ⟨_, rfl, ?_⟩
  refine wpAny_assign_Name ?_
  refine sw s.gens s.os rfl rfl C₂.F hL hk hx ?_
  intro s₃ F₃ k₃ g₃ o₃
  exact h s₃ s.toks (C₂.store F₃ k₃ g₃ o₃) (k₃ _ _ hIL hI₂) fun b o n1 n2 q => k₃ b o n2 (sb.extBut b o n1 q)
theorem rng_end {n : Nat} {Qb : Shared → Prop} (hh : A.handled = none) (C : Px w g S s L m) (hI : IsRangeIter s.heap I (n : Int) ((n - n : Nat) : Int) 1) (hIS : S.heap.objs.size ≤ I) (hIL : I ≠ L)
    (h : ∀ s', Px w g S s' L m → (∀ b o, b ≠ I → s.heap.get? b = some o → s'.heap.get? b = some o) → Qb s') :
    wpAny (model prog w) A (pyNext (.ref I)) (fun r s₁ => r = none ∧ Qb s₁) (fun _ _ => False) s := by
  refine wpAny_pyNext_range_end hh hI (by omega) ?_
  intro h₂ eb
  exact ⟨rfl, h { s with heap := h₂ } (C.own1 (x := I) (s' := { s with heap := h₂ }) (fun b o nb q => eb b o nb q) rfl rfl hIS hIL) fun b o nb q => eb b o nb q⟩
end
theorem fn201 (P : Params) : FnOk P 201 := ⟨by kernel_rfl, by kernel_rfl, by kernel_rfl, by kernel_rfl, by kernel_rfl, by kernel_rfl, by kernel_rfl⟩
theorem fdiv_nat (a b : Nat) : Int.fdiv (a : Int) (b : Int) = ((a / b : Nat) : Int) := by
  rw [Int.fdiv_eq_ediv_of_nonneg _ (by omega)]; rfl
theorem fmod_nat (a b : Nat) : Int.fmod (a : Int) (b : Int) = ((a % b : Nat) : Int) := by
  rw [Int.fmod_eq_emod_of_nonneg _ (by omega)]; rfl
end Mine
open PySem PySem.W PyProof.Rows PySem.Calls PySem.Spec
set_option Elab.async false
set_option maxRecDepth 100000
set_option maxHeartbeats 8000000
set_option linter.unusedVariables false
namespace Mine
structure PN (m : PySem.Str → Option Value) (p n : Nat) (b ms : List Nat) : Prop where
  place : ∃ t, m "place" = some (.int (p : Int) t)
  number : ∃ t, m "number" = some (.int (n : Int) t)
  behind : ∃ t, m "behind" = some (.str (tx b) t)
  meant : ∃ t, m "meant" = some (.str (tx ms) t)
noncomputable def turn201 (b : List Stmt) : List Stmt := match b with
  | [_, _, _, .For _ _ body _ _, _, _, _, _] => body
  | _ => []
theorem sg6 : signs6.map (fun c => (⟨#[c]⟩ : PySem.Str)) = [("x" : PySem.Str), ",", "\"", "\\", "=", " "] := by decide +kernel
section
variable {w : World} {A : Around} {E : Value → Shared → Prop} {S s s' : Shared} {g h e : Heap} {L l r I : Addr} {m m' : PySem.Str → Option Value} {X : List Addr} {R : Result → Shared → Prop} {env : Env} {Q : Flow → Shared → Prop}
theorem turn201_ct {sg p n rest : Nat} {b ms : List Nat} {tr : Tok} {body : List Stmt} (hb : body = turn201 (bodyAt w.params 201)) (he : env = callEnv (fdAt w.params 201) L 201)
    (C : Px w g S s L m) (hn : PN m p n b ms) (h1 : m "signs" = some (.ref sg)) (h2 : m "rest" = some (.int (rest : Int) tr)) (hsg : LnAt s.heap sg (signs6.map fun c => (⟨#[c]⟩ : PySem.Str))) (hsL : sg ≠ L) (hz : ms.length ≤ 100)
    (h : ∀ s' m' t', Px w g S s' L m' → PN m' p n b (mstep (ms, rest)).1 → m' "signs" = some (.ref sg) → m' "rest" = some (.int ((mstep (ms, rest)).2 : Int) t') → (∀ b o, b ≠ L → s.heap.get? b = some o → s'.heap.get? b = some o) → Q .next s') :
    wpAny (model prog w) A (execs body env) Q E s := by
  subst hb he
  have kf := (fn201 w.params).kind
  obtain ⟨⟨t1, n1⟩, ⟨t2, n2⟩, ⟨t3, n3⟩, ⟨t4, n4⟩⟩ := hn
  refine wpAny_execs_cons ?_
  refine wpAny_AugAssign_Name ?_
  refine wpAny_loadName_local kf rfl C.F.ns n4 ?_
  refine Subscript_ ?_
  refine lv C.F rfl kf rfl h1 ?_
  refine wpAny_BinOp ?_
  refine lv C.F rfl kf rfl h2 ?_
  with_reducible refine wpAny_Constant_int ?_
  refine mod_int' (by decide) ?_
  rw [show Int.fmod (rest : Int) 6 = ((rest % 6 : Nat) : Int) from fmod_nat rest 6]
  obtain ⟨vs, hsv, isl⟩ := hsg.isList
  have hlt : rest % 6 < 6 := Nat.mod_lt _ (by decide)
  obtain ⟨tc, htc⟩ := StrsAre.at hsv (i := rest % 6) (x := ⟨#[signs6.getD (rest % 6) 0]⟩) (by
    rw [List.getElem?_map, List.getD_eq_getElem?_getD, List.getElem?_eq_getElem (show rest % 6 < signs6.length from hlt)]; rfl)
  refine tail_any isl.typeIs slot_list_getitem.lookup (wpAny_getItem_list (x := .str ⟨#[signs6.getD (rest % 6) 0]⟩ tc) isl (by omega) (by omega) (by rw [Int.toNat_natCast, List.getElem?_toArray]; exact htc) ?_) (by with_unfolding_all rfl)
  refine iadd_str ?_ (by show _ + 1 ≤ sizeLine; rw [tx_length, sizeLine_eq]; omega)
  intro t' tk
  have ea : tx ms ++ (⟨#[signs6.getD (rest % 6) 0]⟩ : PySem.Str) = tx (mstep (ms, rest)).1 := tx_append ms _
  rw [ea]
  refine sw s.gens s.os rfl rfl (C.tok (t := tk)).F rfl kf rfl ?_
  intro s₂ F₂ k₂ g₂ o₂
  have C₂ := C.store F₂ k₂ g₂ o₂
  refine wpAny_execs_cons ?_
  refine wpAny_Assign_Name ?_
  refine wpAny_BinOp ?_
  refine lv C₂.F rfl kf rfl (upd_ne h2) ?_
  with_reducible refine wpAny_Constant_int ?_
  refine floordiv_int (by decide) ?_ (.inl (PyProof.noPylong_of_log2 (by decide +kernel)))
  rw [show Int.fdiv (rest : Int) 6 = ((rest / 6 : Nat) : Int) from fdiv_nat rest 6]
  refine sw s₂.gens s₂.os rfl rfl (C₂.tok (t := s₂.toks + 1 + 1)).F rfl kf rfl ?_
  intro s₃ F₃ k₃ g₃ o₃
  have C₃ := C₂.store F₃ k₃ g₃ o₃
  refine wpAny_execs_nil ?_
  exact h s₃ _ _ C₃ ⟨⟨t1, upd_ne (upd_ne n1)⟩, ⟨t2, upd_ne (upd_ne n2)⟩, ⟨t3, upd_ne (upd_ne n3)⟩, ⟨t', upd_ne upd_eq⟩⟩ (upd_ne (upd_ne h1)) upd_eq fun b o nb q => k₃ b o nb (k₂ b o nb q)
theorem gt1 {M : Model} {A : Around} {α : Type} {m : Sem α} {Q : α → Shared → Prop} {E : Value → Shared → Prop} {s : Shared} (h : Heap) (G : _) (O : _) (T : Nat) (eh : s.heap = h) (eg : s.gens = G) (eo : s.os = O) (et : T ≤ s.toks)
    (k : ∀ s', s'.heap = h → s'.gens = G → s'.os = O → T ≤ s'.toks → wpAny M A m Q E s') : wpAny M A m Q E s := k s eh eg eo et
noncomputable def tail201 (b : List Stmt) : List Stmt := b.drop 5
theorem in_one {x : List Nat} {c : Nat} : (!(!(Builtin.Str.occurrences (tx x) ⟨#[c]⟩ 0 (tx x).length 1).isEmpty)) = !decide (c ∈ x) := by
  rw [StrLaws.found_one]
  congr 1
noncomputable def tabA (d : Nat) : PySem.Str := tx (pre2 d)
noncomputable def tabB (d : Nat) : PySem.Str := tx (post2 d)
/-- the short tables beside a bare text -/
theorem tab_at {a b c : PySem.Str} {ta tb tc ti : Tok} {d : Nat} {T : Addr} {value slice : PySem.Expr} {Q : Value → Shared → Prop} {y : PySem.Str} (hT : s.heap.IsList T #[.str a ta, .str b tb, .str c tc]) (hd : d < 3) (hy : [a, b, c][d]? = some y)
    (h : ∀ t, Q (.str y t) s) (hs : subscripted slice false (.ref T) (.int (d : Int) ti) = operate [.ref T, .int (d : Int) ti] (getItem (.ref T) (.int (d : Int) ti))) :
    wpAny (model prog w) A (subscriptTail value slice (.ref T) (.int (d : Int) ti)) Q E s := by
  obtain ⟨t, ht⟩ : ∃ t, (#[.str a ta, .str b tb, .str c tc] : Array Value)[d]? = some (.str y t) := by
    match d, hd with
    | 0, _ => cases hy; exact ⟨_, rfl⟩
    | 1, _ => cases hy; exact ⟨_, rfl⟩
    | 2, _ => cases hy; exact ⟨_, rfl⟩
  exact tail_any hT.typeIs slot_list_getitem.lookup (wpAny_getItem_list hT (by omega) (by omega) (by simpa using ht) (h t)) hs
theorem pre_at (d : Nat) (hd : d < 3) : ([("" : PySem.Str), "\"\"", ""] : List PySem.Str)[d]? = some (tx (pre2 d)) := by
  match d, hd with
  | 0, _ => decide +kernel
  | 1, _ => decide +kernel
  | 2, _ => decide +kernel
theorem post_at (d : Nat) (hd : d < 3) : ([("" : PySem.Str), "", "\"\""] : List PySem.Str)[d]? = some (tx (post2 d)) := by
  match d, hd with
  | 0, _ => decide +kernel
  | 1, _ => decide +kernel
  | 2, _ => decide +kernel
theorem tail201_ct {p n : Nat} {b : List Nat} {th : Tok} {body : List Stmt} {Q : Flow → Shared → Prop} (hb : body = tail201 (bodyAt w.params 201)) (he : env = callEnv (fdAt w.params 201) L 201)
    (C : Px w g S s L m) (hN : PN m p n b (meantOf n)) (h1 : m "head" = some (.str (tx (headOf p)) th)) (hn : n < 864) (hbl : b.length ≤ 10)
    (h : ∀ s' r, Up [] S s' → S.heap.objs.size ≤ r → LnAt s'.heap r [tx (pairM n), tx (pairS p n), tx (pairW p n b)] → Q (.ret (.ref r)) s') :
    wpAny (model prog w) A (execs body env) Q E s := by
  subst hb he
  have kf := (fn201 w.params).kind
  obtain ⟨⟨t1, n1⟩, ⟨t2, n2⟩, ⟨t3, n3⟩, ⟨t4, n4⟩⟩ := hN
  have hml := meant_len n
  have z0 : ("" : PySem.Str) = tx [] := by decide +kernel
  have q34 : ("\"" : PySem.Str) = tx [34] := by decide +kernel
  -- the long way
  have long : ∀ s₁, s₁.heap = s.heap → s₁.gens = s.gens → s₁.os = s.os → 0 < s₁.toks → bareOk (meantOf n) = false → wpAny (model prog w) A (execs ((tail201 (bodyAt w.params 201)).drop 1) (callEnv (fdAt w.params 201) L 201)) Q E s₁ := by
    intro s₁ e1 g1 o1 tpos hbare
    have C₁ := C.re (s' := s₁) e1 g1 o1
    refine wpAny_execs_cons ?_
    refine wpAny_Assign_Name ?_
    refine MethodCall_ ?_
    refine MethodCall_ ?_
    refine lv C₁.F rfl kf rfl n4 ?_
    refine GM.replace ?_
    refine callWith_method1 ?_
    with_reducible refine args_cons ?_ (by with_unfolding_all rfl)
    with_reducible refine wpAny_Constant_str ?_
    with_reducible refine args_cons ?_ (by with_unfolding_all rfl)
    with_reducible refine wpAny_Constant_str ?_
    refine args_nil ?_
    refine replaceK (Nat.ne_of_gt tpos) (Nat.succ_ne_zero _) (Nat.ne_of_lt (Nat.lt_succ_self _)) (by decide +kernel) (by rw [tx_length]; omega) (by decide +kernel) ?_
    intro t5 k5 hk5
    dsimp only at hk5
    refine GM.replace ?_
    refine gt1 s₁.heap s₁.gens s₁.os 1 rfl rfl rfl (by dsimp only; omega) fun s₂ e2 g2 o2 tp2 => ?_
    refine callWith_method1 ?_
    with_reducible refine args_cons ?_ (by with_unfolding_all rfl)
    with_reducible refine wpAny_Constant_str ?_
    with_reducible refine args_cons ?_ (by with_unfolding_all rfl)
    with_reducible refine wpAny_Constant_str ?_
    refine args_nil ?_
    refine replaceK (Nat.ne_of_gt tp2) (Nat.succ_ne_zero _) (Nat.ne_of_lt (Nat.lt_succ_self _)) (by decide +kernel) (Nat.le_trans (spelled2 n hn).2 (by decide)) (by decide +kernel) ?_
    intro t6 k6 _
    rw [(spelled2 n hn).1]
    have C₂ := C₁.re (s' := s₂) e2 g2 o2
    refine sw s₂.gens s₂.os rfl rfl (C₂.tok (t := k6)).F rfl kf rfl ?_
    intro s₃ F₃ k₃ g₃ o₃
    have C₃ := C₂.store F₃ k₃ g₃ o₃
    refine wpAny_execs_cons ?_
    refine wpAny_Return_some ?_
    with_reducible refine List_ ?_
    with_reducible refine args_cons ?_ (by with_unfolding_all rfl)
    refine lv C₃.F rfl kf rfl (upd_ne n4) ?_
    with_reducible refine args_cons ?_ (by with_unfolding_all rfl)
    refine wpAny_BinOp ?_
    refine wpAny_BinOp ?_
    refine wpAny_BinOp ?_
    refine lv C₃.F rfl kf rfl (upd_ne h1) ?_
    with_reducible refine wpAny_Constant_str ?_
    have f1 : (tx (headOf p)).length = 2 := by rw [tx_length]; rfl
    have fm : (tx (meantOf n)).length ≤ 3 := by rw [tx_length]; exact hml
    have fq : ("\"" : PySem.Str).length = 1 := by decide +kernel
    have fl : ∀ x y : PySem.Str, (x ++ y).length = x.length + y.length := fun x y => by rw [← sg_length, sg_append, List.length_append, sg_length, sg_length]
    have fe : (tx (esc1 (meantOf n))).length ≤ 6 := by
      rw [tx_length]
      have : ∀ l : List Nat, (esc1 l).length ≤ 2 * l.length := by
        intro l
        induction l with
        | nil => simp [esc1]
        | cons c l ih =>
          have : esc1 (c :: l) = (if c = 92 then [92, 92] else if c = 34 then [92, 34] else [c]) ++ esc1 l := rfl
          rw [this, List.length_append, List.length_cons]
          have h2 : (if c = 92 then [92, 92] else if c = 34 then [92, 34] else [c]).length ≤ 2 := by split <;> (try split) <;> simp
          omega
      have := this (meantOf n)
      omega
    have fb : (tx b).length ≤ 10 := by rw [tx_length]; exact hbl
    have sl : (100 : Nat) ≤ sizeLine := by rw [sizeLine_eq]; decide
    refine add_str ?_ (by simp only [f1, fq]; omega)
    intro t7 k7
    refine lv (C₃.tok (t := k7)).F rfl kf rfl (upd_ne n4) ?_
    refine add_str ?_ (by simp only [fl, f1, fq]; omega)
    intro t8 k8
    with_reducible refine wpAny_Constant_str ?_
    refine add_str ?_ (by simp only [fl, f1, fq]; omega)
    intro t9 k9
    with_reducible refine args_cons ?_ (by with_unfolding_all rfl)
    refine wpAny_BinOp ?_
    refine wpAny_BinOp ?_
    refine wpAny_BinOp ?_
    refine wpAny_BinOp ?_
    refine lv (C₃.tok (t := k9)).F rfl kf rfl (upd_ne h1) ?_
    with_reducible refine wpAny_Constant_str ?_
    refine add_str ?_ (by simp only [f1, fq]; omega)
    intro t10 k10
    refine lv (C₃.tok (t := k10)).F rfl kf rfl upd_eq ?_
    refine add_str ?_ (by simp only [fl, f1, fq]; omega)
    intro t11 k11
    with_reducible refine wpAny_Constant_str ?_
    refine add_str ?_ (by simp only [fl, f1, fq]; omega)
    intro t12 k12
    refine lv (C₃.tok (t := k12)).F rfl kf rfl (upd_ne n3) ?_
    refine add_str ?_ (by simp only [fl, f1, fq]; omega)
    intro t13 k13
    refine args_nil ?_
    unfold newList
    refine wpAny_newObj_type ?_
    have eM : tx (pairM n) = tx (meantOf n) := by unfold pairM; rw [if_neg (by rw [hbare]; decide)]
    have eS : tx (pairS p n) = tx (headOf p) ++ "\"" ++ tx (meantOf n) ++ "\"" := by
      unfold pairS; rw [if_neg (by rw [hbare]; decide), q34, tx_append, tx_append, tx_append]
    have eW : tx (pairW p n b) = tx (headOf p) ++ "\"" ++ tx (esc1 (meantOf n)) ++ "\"" ++ tx b := by
      unfold pairW; rw [if_neg (by rw [hbare]; decide), q34, tx_append, tx_append, tx_append, tx_append]
    have C₄ := C₃.keeps (s' := { s₃ with heap := s₃.heap.push { cls := .type "list", data := .seq #[.str (tx (meantOf n)) t4, .str (tx (headOf p) ++ "\"" ++ tx (meantOf n) ++ "\"") t9, .str (tx (headOf p) ++ "\"" ++ tx (esc1 (meantOf n)) ++ "\"" ++ tx b) t13] }, toks := k13 }) (fun b o q => Heap.get?_push_of_some _ q) rfl rfl
    refine h _ _ C₄.U C₃.le ⟨[.str (tx (meantOf n)) t4, .str (tx (headOf p) ++ "\"" ++ tx (meantOf n) ++ "\"") t9, .str (tx (headOf p) ++ "\"" ++ tx (esc1 (meantOf n)) ++ "\"" ++ tx b) t13], 0, Heap.get?_push_size _ rfl, ?_⟩
    rw [eM, eS, eW]
    exact .cons _ _ (.cons _ _ (.cons _ _ .nil))
  have q44 : ("," : PySem.Str) = ⟨#[44]⟩ := by decide +kernel
  have q34' : ("\"" : PySem.Str) = ⟨#[34]⟩ := by decide +kernel
  have q32 : (" " : PySem.Str) = ⟨#[32]⟩ := by decide +kernel
  have ins : ∀ (y : PySem.Str) (k : Nat), y = ⟨#[k]⟩ → (!(!(Builtin.Str.occurrences (tx (meantOf n)) y 0 (tx (meantOf n)).length 1).isEmpty)) = !decide (k ∈ meantOf n) := fun y k e => by rw [e]; exact in_one
  refine wpAny_execs_cons ?_
  refine wpAny_If ?_
  with_reducible refine isTrue_and ?_
  refine wpAny_isTrue_Compare1 ?_
  refine lv C.F rfl kf rfl n4 ?_
  with_reducible refine wpAny_Constant_str ?_
  refine ne_str ?_
  refine wpAny_truthy_bool ?_
  have e0 : (tx (meantOf n) != ("" : PySem.Str)) = decide (meantOf n ≠ []) := by
    rw [z0, Bool.eq_iff_iff]
    simp only [bne_iff_ne, ne_eq, decide_eq_true_eq]
    refine not_congr ⟨fun q => ?_, fun q => by rw [q]⟩
    have := congrArg sg q
    rwa [sg_tx, sg_tx] at this
  rw [e0]
  by_cases c0 : meantOf n ≠ []
  · rw [if_pos (by simpa using c0)]
    with_reducible refine isTrue_and ?_
    refine wpAny_isTrue_Compare1 ?_
    with_reducible refine wpAny_Constant_str ?_
    refine lv (C.tok (t := s.toks + 1 + 1)).F rfl kf rfl n4 ?_
    refine notIn_str ?_
    refine wpAny_truthy_bool ?_
    rw [ins _ 44 q44]
    by_cases c1 : 44 ∈ meantOf n
    · rw [if_neg (by simpa using c1), if_neg (by decide)]
      refine wpAny_execs_nil ?_
      exact long _ rfl rfl rfl (Nat.succ_pos _) (by unfold bareOk; simp [c1])
    rw [if_pos (by simpa using c1)]
    with_reducible refine isTrue_and ?_
    refine wpAny_isTrue_Compare1 ?_
    with_reducible refine wpAny_Constant_str ?_
    refine lv (C.tok (t := s.toks + 1 + 1 + 1)).F rfl kf rfl n4 ?_
    refine notIn_str ?_
    refine wpAny_truthy_bool ?_
    rw [ins _ 34 q34']
    by_cases c2 : 34 ∈ meantOf n
    · rw [if_neg (by simpa using c2), if_neg (by decide)]
      refine wpAny_execs_nil ?_
      exact long _ rfl rfl rfl (Nat.succ_pos _) (by unfold bareOk; simp [c2])
    rw [if_pos (by simpa using c2)]
    with_reducible refine isTrue_and ?_
    refine wpAny_isTrue_Compare1 ?_
    with_reducible refine wpAny_Constant_str ?_
    refine lv (C.tok (t := s.toks + 1 + 1 + 1 + 1)).F rfl kf rfl n4 ?_
    refine notIn_str ?_
    refine wpAny_truthy_bool ?_
    rw [ins _ 32 q32]
    by_cases c3 : 32 ∈ meantOf n
    · rw [if_neg (by simpa using c3), if_neg (by decide)]
      refine wpAny_execs_nil ?_
      exact long _ rfl rfl rfl (Nat.succ_pos _) (by unfold bareOk; simp [c3])
    rw [if_pos (by simpa using c3)]
    refine isTrue_and_nil ?_
    rw [if_pos rfl]
    have hbare : bareOk (meantOf n) = true := by unfold bareOk; simp [c0, c1, c2, c3]
    refine gn s.heap s.gens s.os rfl rfl rfl fun s₁ e1 g1 o1 => ?_
    have C₁ := C.re (s' := s₁) e1 g1 o1
    have hd : n / 288 < 3 := by omega
    refine wpAny_execs_cons ?_
    refine wpAny_Assign_Name ?_
    refine wpAny_BinOp ?_
    refine wpAny_BinOp ?_
    refine Subscript_ ?_
    with_reducible refine List_ ?_
    with_reducible refine args_cons ?_ (by with_unfolding_all rfl)
    with_reducible refine wpAny_Constant_str ?_
    with_reducible refine args_cons ?_ (by with_unfolding_all rfl)
    with_reducible refine wpAny_Constant_str ?_
    with_reducible refine args_cons ?_ (by with_unfolding_all rfl)
    with_reducible refine wpAny_Constant_str ?_
    refine args_nil ?_
    unfold newList
    refine wpAny_newObj_type ?_
    have C₂' := C₁.keeps (s' := { s₁ with heap := s₁.heap.push { cls := .type "list", data := .seq #[.str "" s₁.toks, .str "\"\"" (s₁.toks + 1), .str "" (s₁.toks + 1 + 1)] } }) (fun b o q => Heap.get?_push_of_some _ q) rfl rfl
    have T₂' : (s₁.heap.push { cls := .type "list", data := .seq #[.str "" s₁.toks, .str "\"\"" (s₁.toks + 1), .str "" (s₁.toks + 1 + 1)] }).IsList s₁.heap.objs.size #[.str "" s₁.toks, .str "\"\"" (s₁.toks + 1), .str "" (s₁.toks + 1 + 1)] := ⟨_, Heap.get?_push_size _ rfl, rfl, 0, rfl⟩
    refine gn (s₁.heap.push { cls := .type "list", data := .seq #[.str "" s₁.toks, .str "\"\"" (s₁.toks + 1), .str "" (s₁.toks + 1 + 1)] }) s₁.gens s₁.os rfl rfl rfl fun s₂ e2 g2 o2 => ?_
    have C₂ := C₂'.re (s' := s₂) e2 g2 o2
    rw [← e2] at T₂'
    refine wpAny_BinOp ?_
    refine lv C₂.F rfl kf rfl n2 ?_
    with_reducible refine wpAny_Constant_int ?_
    refine floordiv_int (by decide) ?_ (.inl (PyProof.noPylong_of_log2 (by decide +kernel)))
    rw [show Int.fdiv (n : Int) 288 = ((n / 288 : Nat) : Int) from fdiv_nat n 288]
    refine tab_at (s := { s₂ with toks := s₂.toks + 1 + 1 }) T₂' hd (pre_at _ hd) ?_ (by with_unfolding_all rfl)
    intro t5
    refine lv (C₂.tok (t := s₂.toks + 1 + 1)).F rfl kf rfl n4 ?_
    have fm : (tx (meantOf n)).length ≤ 3 := by rw [tx_length]; exact hml
    have fl : ∀ x y : PySem.Str, (x ++ y).length = x.length + y.length := fun x y => by rw [← sg_length, sg_append, List.length_append, sg_length, sg_length]
    have fp : (tx (pre2 (n / 288))).length ≤ 2 := by rw [tx_length]; unfold pre2; split <;> simp
    have fp' : (tx (post2 (n / 288))).length ≤ 2 := by rw [tx_length]; unfold post2; split <;> simp
    have sl : (100 : Nat) ≤ sizeLine := by rw [sizeLine_eq]; decide
    refine add_str ?_ (by omega)
    intro t6 k6
    refine Subscript_ ?_
    with_reducible refine List_ ?_
    with_reducible refine args_cons ?_ (by with_unfolding_all rfl)
    with_reducible refine wpAny_Constant_str ?_
    with_reducible refine args_cons ?_ (by with_unfolding_all rfl)
    with_reducible refine wpAny_Constant_str ?_
    with_reducible refine args_cons ?_ (by with_unfolding_all rfl)
    with_reducible refine wpAny_Constant_str ?_
    refine args_nil ?_
    unfold newList
    refine wpAny_newObj_type ?_
    have C₃' := C₂.keeps (s' := { s₂ with heap := s₂.heap.push { cls := .type "list", data := .seq #[.str "" k6, .str "" (k6 + 1), .str "\"\"" (k6 + 1 + 1)] } }) (fun b o q => Heap.get?_push_of_some _ q) rfl rfl
    have T₃' : (s₂.heap.push { cls := .type "list", data := .seq #[.str "" k6, .str "" (k6 + 1), .str "\"\"" (k6 + 1 + 1)] }).IsList s₂.heap.objs.size #[.str "" k6, .str "" (k6 + 1), .str "\"\"" (k6 + 1 + 1)] := ⟨_, Heap.get?_push_size _ rfl, rfl, 0, rfl⟩
    refine gn (s₂.heap.push { cls := .type "list", data := .seq #[.str "" k6, .str "" (k6 + 1), .str "\"\"" (k6 + 1 + 1)] }) s₂.gens s₂.os rfl rfl rfl fun s₃ e3 g3 o3 => ?_
    have C₃ := C₃'.re (s' := s₃) e3 g3 o3
    rw [← e3] at T₃'
    refine wpAny_BinOp ?_
    refine lv C₃.F rfl kf rfl n2 ?_
    with_reducible refine wpAny_Constant_int ?_
    refine floordiv_int (by decide) ?_ (.inl (PyProof.noPylong_of_log2 (by decide +kernel)))
    rw [show Int.fdiv (n : Int) 288 = ((n / 288 : Nat) : Int) from fdiv_nat n 288]
    refine tab_at (s := { s₃ with toks := s₃.toks + 1 + 1 }) T₃' hd (post_at _ hd) ?_ (by with_unfolding_all rfl)
    intro t7
    refine add_str ?_ (by rw [fl]; omega)
    intro t8 k8
    have eM : tx (pre2 (n / 288)) ++ tx (meantOf n) ++ tx (post2 (n / 288)) = tx (pairM n) := by
      unfold pairM; rw [if_pos hbare, tx_append, tx_append]
    rw [eM]
    refine sw s₃.gens s₃.os rfl rfl (C₃.tok (t := k8)).F rfl kf rfl ?_
    intro s₄ F₄ k₄ g₄ o₄
    have C₄ := C₃.store F₄ k₄ g₄ o₄
    have fM : (tx (pairM n)).length ≤ 7 := by rw [← eM, fl, fl]; omega
    have f1 : (tx (headOf p)).length = 2 := by rw [tx_length]; rfl
    have fb : (tx b).length ≤ 10 := by rw [tx_length]; exact hbl
    refine wpAny_execs_cons ?_
    refine wpAny_Return_some ?_
    with_reducible refine List_ ?_
    with_reducible refine args_cons ?_ (by with_unfolding_all rfl)
    refine lv C₄.F rfl kf rfl upd_eq ?_
    with_reducible refine args_cons ?_ (by with_unfolding_all rfl)
    refine wpAny_BinOp ?_
    refine lv C₄.F rfl kf rfl (upd_ne h1) ?_
    refine lv C₄.F rfl kf rfl upd_eq ?_
    refine add_str ?_ (by omega)
    intro t9 k9
    with_reducible refine args_cons ?_ (by with_unfolding_all rfl)
    refine wpAny_BinOp ?_
    refine wpAny_BinOp ?_
    refine lv (C₄.tok (t := k9)).F rfl kf rfl (upd_ne h1) ?_
    refine lv (C₄.tok (t := k9)).F rfl kf rfl upd_eq ?_
    refine add_str ?_ (by omega)
    intro t10 k10
    refine lv (C₄.tok (t := k10)).F rfl kf rfl (upd_ne n3) ?_
    refine add_str ?_ (by rw [fl]; omega)
    intro t11 k11
    refine args_nil ?_
    unfold newList
    refine wpAny_newObj_type ?_
    have eS : tx (pairS p n) = tx (headOf p) ++ tx (pairM n) := by unfold pairS; rw [if_pos hbare, tx_append]
    have eW : tx (pairW p n b) = tx (headOf p) ++ tx (pairM n) ++ tx b := by unfold pairW; rw [if_pos hbare, tx_append, tx_append]
    have C₅ := C₄.keeps (s' := { s₄ with heap := s₄.heap.push { cls := .type "list", data := .seq #[.str (tx (pairM n)) t8, .str (tx (headOf p) ++ tx (pairM n)) t9, .str (tx (headOf p) ++ tx (pairM n) ++ tx b) t11] }, toks := k11 }) (fun b o q => Heap.get?_push_of_some _ q) rfl rfl
    refine h _ _ C₅.U C₄.le ⟨[.str (tx (pairM n)) t8, .str (tx (headOf p) ++ tx (pairM n)) t9, .str (tx (headOf p) ++ tx (pairM n) ++ tx b) t11], 0, Heap.get?_push_size _ rfl, ?_⟩
    rw [eS, eW]
    exact .cons _ _ (.cons _ _ (.cons _ _ .nil))
  · rw [if_neg (by simpa using c0), if_neg (by decide)]
    refine wpAny_execs_nil ?_
    exact long _ rfl rfl rfl (Nat.succ_pos _) (by unfold bareOk; simp at c0; simp [c0])
end
end Mine
open PySem PySem.W PyProof.Rows PySem.Calls PySem.Spec
set_option Elab.async false
set_option maxRecDepth 100000
set_option maxHeartbeats 1000000
set_option linter.unusedVariables false
namespace Mine
section
variable {w : World} {A : Around} {E : Value → Shared → Prop} {S s s' : Shared} {g h e : Heap} {L l r I : Addr} {m m' : PySem.Str → Option Value} {X : List Addr} {R : Result → Shared → Prop} {env : Env} {Q : Flow → Shared → Prop}
theorem pair_ct {p n : Nat} {b : List Nat} {t1 t2 t3 : Tok} (B : Bs w g) (kb : ∀ b o, g.get? b = some o → s.heap.get? b = some o) (rm : Rm A 4) (hp : p ≤ 20) (hn : n < 864) (hbl : b.length ≤ 10)
    (h : ∀ s' r, Up [] s s' → s.heap.objs.size ≤ r → LnAt s'.heap r [tx (pairM n), tx (pairS p n), tx (pairW p n b)] → R (.ok (.ret (.ref r))) s') :
    codeAny (model prog w) A (.call (.ref 201) ⟨[.int (p : Int) t1, .int (n : Int) t2, .str (tx b) t3], []⟩) R s := by
  have kf := (fn201 w.params).kind
  refine enter (binds := [("place", .int (p : Int) t1), ("number", .int (n : Int) t2), ("behind", .str (tx b) t3)]) (fn201 _) B kb rm (by kernel_rfl) (by kernel_rfl) fun h₁ L hL F K₁ rm' => ?_
  refine gn h₁ s.gens s.os rfl rfl rfl fun s₁ e1 g1 o1 => ?_
  have C₁ := Px.start (s' := s₁) B kb hL F K₁ e1 g1 o1
  -- signs = [..]
  refine wpAny_execs_cons ?_
  refine wpAny_Assign_Name ?_
  with_reducible refine List_ ?_
  with_reducible refine args_cons ?_ (by with_unfolding_all rfl)
  with_reducible refine wpAny_Constant_str ?_
  with_reducible refine args_cons ?_ (by with_unfolding_all rfl)
  with_reducible refine wpAny_Constant_str ?_
  with_reducible refine args_cons ?_ (by with_unfolding_all rfl)
  with_reducible refine wpAny_Constant_str ?_
  with_reducible refine args_cons ?_ (by with_unfolding_all rfl)
  with_reducible refine wpAny_Constant_str ?_
  with_reducible refine args_cons ?_ (by with_unfolding_all rfl)
  with_reducible refine wpAny_Constant_str ?_
  with_reducible refine args_cons ?_ (by with_unfolding_all rfl)
  with_reducible refine wpAny_Constant_str ?_
  refine args_nil ?_
  unfold newList
  refine wpAny_newObj_type ?_
  obtain ⟨vs, evs, hvs⟩ : ∃ vs : List Value, vs = [.str "x" s₁.toks, .str "," (s₁.toks + 1), .str "\"" (s₁.toks + 1 + 1), .str "\\" (s₁.toks + 1 + 1 + 1), .str "=" (s₁.toks + 1 + 1 + 1 + 1), .str " " (s₁.toks + 1 + 1 + 1 + 1 + 1)] ∧ StrsAre vs (signs6.map fun c => (⟨#[c]⟩ : PySem.Str)) := ⟨_, rfl, by
    rw [sg6]; exact .cons _ _ (.cons _ _ (.cons _ _ (.cons _ _ (.cons _ _ (.cons _ _ .nil)))))⟩
  have C₂ := C₁.keeps (s' := { s₁ with heap := s₁.heap.push { cls := .type "list", data := .seq vs.toArray } }) (fun b o q => Heap.get?_push_of_some _ q) rfl rfl
  have hs₂ : LnAt (s₁.heap.push { cls := .type "list", data := .seq vs.toArray }) s₁.heap.objs.size (signs6.map fun c => (⟨#[c]⟩ : PySem.Str)) := ⟨vs, 0, Heap.get?_push_size _ rfl, hvs⟩
  rw [evs] at C₂ hs₂
  obtain ⟨sg, esg⟩ : ∃ sg, sg = s₁.heap.objs.size := ⟨_, rfl⟩
  rw [← esg] at hs₂ ⊢
  have hsL : sg ≠ L := by rw [esg]; exact Nat.ne_of_gt C₁.F.lt
  refine sw s₁.gens s₁.os rfl rfl C₂.F rfl kf rfl ?_
  intro s₃ F₃ k₃ g₃ o₃
  have C₃ := C₂.store F₃ k₃ g₃ o₃
  have hs₃ := hs₂.keep fun o q => k₃ _ _ hsL q
  -- meant = ''
  refine wpAny_execs_cons ?_
  refine wpAny_Assign_Name ?_
  with_reducible refine wpAny_Constant_str ?_
  refine sw s₃.gens s₃.os rfl rfl (C₃.tok (t := s₃.toks + 1)).F rfl kf rfl ?_
  intro s₄ F₄ k₄ g₄ o₄
  have C₄ := C₃.store F₄ k₄ g₄ o₄
  have hs₄ := hs₃.keep fun o q => k₄ _ _ hsL q
  -- rest = number // 4
  refine wpAny_execs_cons ?_
  refine wpAny_Assign_Name ?_
  refine wpAny_BinOp ?_
  refine lv C₄.F rfl kf rfl (v := .int (n : Int) t2) (upd_ne (upd_ne rfl)) ?_
  with_reducible refine wpAny_Constant_int ?_
  refine floordiv_int (by decide) ?_ (.inl (PyProof.noPylong_of_log2 (by decide +kernel)))
  rw [show Int.fdiv (n : Int) 4 = ((n / 4 : Nat) : Int) from fdiv_nat n 4]
  refine sw s₄.gens s₄.os rfl rfl (C₄.tok (t := s₄.toks + 1 + 1)).F rfl kf rfl ?_
  intro s₅ F₅ k₅ g₅ o₅
  have C₅ := C₄.store F₅ k₅ g₅ o₅
  have hs₅ := hs₄.keep fun o q => k₅ _ _ hsL q
  have z0 : ("" : PySem.Str) = tx [] := by decide +kernel
  obtain ⟨m₅, C₅, n₅, n₅', t₅, n₅''⟩ : ∃ m₅, Px w g s s₅ L m₅ ∧ PN m₅ p n b [] ∧ m₅ "signs" = some (.ref sg) ∧ ∃ t, m₅ "rest" = some (.int ((n / 4 : Nat) : Int) t) :=
    ⟨_, C₅, ⟨⟨t1, upd_ne (upd_ne (upd_ne rfl))⟩, ⟨t2, upd_ne (upd_ne (upd_ne rfl))⟩, ⟨t3, upd_ne (upd_ne (upd_ne rfl))⟩, ⟨_, by rw [← z0]; exact upd_ne upd_eq⟩⟩, upd_ne (upd_ne upd_eq), _, upd_eq⟩
  -- for k in range(number % 4):
  refine wpAny_execs_cons ?_
  refine wpAny_ForW ?_
  refine Call_ ?_
  refine bv C₅.B C₅.F (by kernel_rfl) (v := .type "range") (by decide +kernel) kf rfl (by kernel_rfl) (by kernel_rfl) ?_
  refine PyProof.Rows.callWith_type1 ?_
  with_reducible refine args_cons ?_ (by with_unfolding_all rfl)
  refine wpAny_BinOp ?_
  obtain ⟨tn, ntn⟩ := n₅.number
  refine lv C₅.F rfl kf rfl ntn ?_
  with_reducible refine wpAny_Constant_int ?_
  refine mod_int' (by decide) ?_
  rw [show Int.fmod (n : Int) 4 = ((n % 4 : Nat) : Int) from fmod_nat n 4]
  refine args_nil ?_
  refine px_range (C₅.tok (t := s₅.toks + 1 + 1)) (by omega) ?_
  intro s₆ I C₆ hI k₆ hIS hIL
  have hs₆ := hs₅.keep fun o q => (k₆ _ _ q).1
  have hIs : I ≠ sg := fun z => by obtain ⟨_, _, q, _⟩ := hs₅; exact (k₆ _ _ q).2 z.symm
  refine ForW.loop (n := n % 4) (fun i s' => ∃ m', Px w g s s' L m' ∧ PN m' p n b (miter (n / 4) i).1 ∧ m' "signs" = some (.ref sg) ∧ (∃ t, m' "rest" = some (.int ((miter (n / 4) i).2 : Int) t)) ∧ IsRangeIter s'.heap I (i : Int) ((n % 4 - i : Nat) : Int) 1 ∧ LnAt s'.heap sg (signs6.map fun c => (⟨#[c]⟩ : PySem.Str))) ?_ ?_ (by intro _; rfl) (Nat.zero_le _) ⟨m₅, C₆, n₅, n₅', ⟨t₅, n₅''⟩, hI, hs₆⟩
  · rintro i s₇ hi ⟨m₇, C₇, n₇, n₇', ⟨t₇, n₇''⟩, hI₇, hs₇⟩
    refine rng_next C₇ hI₇ hi hIS hIL rfl kf rfl ?_
    intro s₈ t₈ C₈ hI₈ k₈
    obtain ⟨⟨a1, b1⟩, ⟨a2, b2⟩, ⟨a3, b3⟩, ⟨a4, b4⟩⟩ := n₇
    refine turn201_ct (by kernel_rfl) rfl C₈ ⟨⟨a1, upd_ne b1⟩, ⟨a2, upd_ne b2⟩, ⟨a3, upd_ne b3⟩, ⟨a4, upd_ne b4⟩⟩ (upd_ne n₇') (upd_ne n₇'') (hs₇.keep fun o q => k₈ _ _ (Ne.symm hIs) hsL q) hsL (by rw [miter_len]; omega) ?_
    intro s₉ m₉ t₉ C₉ n₉ n₉' n₉'' k₉
    exact ⟨m₉, C₉, n₉, n₉', ⟨t₉, n₉''⟩, k₉ _ _ hIL hI₈, (hs₇.keep fun o q => k₈ _ _ (Ne.symm hIs) hsL q).keep fun o q => k₉ _ _ hsL q⟩
  · rintro s₇ ⟨m₇, C₇, n₇, n₇', ⟨t₇, n₇''⟩, hI₇, hs₇⟩
    refine rng_end rm'.hnd C₇ hI₇ hIS hIL ?_
    intro s₈ C₈ k₈
    refine wpAny_execs_nil ?_
    -- head = chr(97 + place) + '='
    refine wpAny_execs_cons ?_
    refine wpAny_Assign_Name ?_
    refine wpAny_BinOp ?_
    refine Call_ ?_
    refine bv C₈.B C₈.F (by kernel_rfl) (v := .builtin "chr") (by decide +kernel) kf rfl (by kernel_rfl) (by kernel_rfl) ?_
    refine PyProof.Rows.callWith_builtin1 ?_
    with_reducible refine args_cons ?_ (by with_unfolding_all rfl)
    refine wpAny_BinOp ?_
    with_reducible refine wpAny_Constant_int ?_
    obtain ⟨⟨a1, b1⟩, ⟨a2, b2⟩, ⟨a3, b3⟩, ⟨a4, b4⟩⟩ := n₇
    refine lv (C₈.tok (t := s₈.toks + 1)).F rfl kf rfl b1 ?_
    refine add_int ?_
    refine args_nil ?_
    refine chr_of_range (by omega) (by omega) ?_
    with_reducible refine wpAny_Constant_str ?_
    refine add_str ?_ (by rw [sizeLine_eq]; exact Nat.le_of_ble_eq_true rfl)
    intro t' tk
    have q61 : ("=" : PySem.Str) = ⟨#[61]⟩ := by decide +kernel
    have eh : (⟨#[((97 : Int) + (p : Int)).toNat]⟩ : PySem.Str) ++ "=" = tx (headOf p) := by
      have : ((97 : Int) + (p : Int)).toNat = 97 + p := by omega
      rw [this, q61]
      exact tx_append [97 + p] [61]
    rw [eh]
    refine sw s₈.gens s₈.os rfl rfl (C₈.tok (t := tk)).F rfl kf rfl ?_
    intro s₉ F₉ k₉ g₉ o₉
    have C₉ := C₈.store F₉ k₉ g₉ o₉
    refine tail201_ct (by kernel_rfl) rfl C₉ ⟨⟨a1, upd_ne b1⟩, ⟨a2, upd_ne b2⟩, ⟨a3, upd_ne b3⟩, ⟨a4, upd_ne b4⟩⟩ upd_eq hn hbl ?_
    intro s' r u hr hln
    exact h s' r u hr hln
end
end Mine
open PySem PySem.W PyProof.Rows PySem.Calls PySem.Spec
set_option Elab.async false
set_option maxRecDepth 100000
set_option maxHeartbeats 1000000
set_option linter.unusedVariables false
namespace Mine
/-- what is asked of a def with captured names to enter it -/
structure FnOkC (P : Params) (f : Addr) : Prop where
  look : (KK P).lookup f = some ⟨.type "function", none, .func (fdAt P f), #[]⟩
  code : codeIn (KK P) (fdAt P f).code (fdAt P f).qualname = true
  body : (fdAt P f).body = .stmts (bodyAt P f)
  clos : (fdAt P f).closure = []
  co : (fdAt P f).scope.isCoroutine = false
  gen : (fdAt P f).scope.isGenerator = false
  kind : (fdAt P f).scope.kind = .function
noncomputable abbrev envC (P : Params) (f L : Addr) : Env := newEnv (fdAt P f).scope L (fdAt P f).globals (cellsFrom (L + 1) (fdAt P f).scope.names []) ((fdAt P f).qualname ++ ".<locals>.") (some f) (fdAt P f).code none (fdAt P f).builtins
section
variable {w : World} {A : Around} {E : Value → Shared → Prop} {S s s' : Shared} {g h e : Heap} {L l r I : Addr} {m m' : PySem.Str → Option Value} {X : List Addr} {R : Result → Shared → Prop} {env : Env} {Q : Flow → Shared → Prop}
theorem enterC {n : Nat} {f : Addr} {args : Args} {binds : List (PySem.Str × Value)}
    (fn : FnOkC w.params f) (B : Bs w g) (kb : ∀ b o, g.get? b = some o → s.heap.get? b = some o) (rm : Rm A (n + 1)) (hb : bindArgs (fdAt w.params f) args = pure binds)
    (hkind : ∀ n, ∀ x ∈ binds, (fdAt w.params f).scope.names.lookup x.1 = some .local ∨ ((fdAt w.params f).scope.names.lookup x.1 = some .cell ∧ ((cellsFrom n (fdAt w.params f).scope.names []).lookup x.1).isSome = true))
    (h : ∀ s₁ L, L = s.heap.objs.size → Px w g s s₁ L (bindL (envC w.params f L).kindOf binds fun _ => none) →
      (∀ n c, (cellsFrom (L + 1) (fdAt w.params f).scope.names []).lookup n = some c → s₁.heap.IsCell c (bindC (envC w.params f L).kindOf binds (fun _ => none) n) ∧ L < c) → Rm (A.deeper (envC w.params f L)) n →
      wpAny (model prog w) (A.deeper (envC w.params f L)) (execs (bodyAt w.params f) (envC w.params f L)) (fun fl s' => R (.ok (.ret (match fl with | .ret v => v | _ => .none))) s') (fun _ _ => False) s₁) :
    codeAny (model prog w) A (.call (.ref f) args) R s := by
  refine codeAny_call_function rm.room (kb _ _ (B.kk _ _ fn.look)) rfl fn.co fn.gen fn.body (codeRec_of (B.kk.keeps kb) fn.code) (wpAny_of_eq hb ?_)
  rw [fn.clos]
  refine wpAny_newFunctionEnv_cells fn.kind (hkind _) fun env' he s' x => ?_
  subst he
  refine ⟨(B.lim.keeps kb).keeps x.toInCall.keep, codeAny_func ?_⟩
  obtain ⟨h₁, tk, e₁, kp⟩ := x.done
  have C : Px w g s s' s.heap.objs.size _ := Px.start B kb rfl (h := s'.heap) (e := s.heap) ⟨x.toInCall.ns, fun b o q => x.toInCall.keep b o (kb b o q), new_none kb (Nat.le_refl _), fun b o _ q => x.toInCall.keep b o q⟩ x.toInCall.keep rfl (by rw [e₁]) (by rw [e₁])
  refine wpAny_mono (h s' _ rfl C (fun n c hc => ⟨x.cell n c hc, x.above n c (mem_of_lookup hc)⟩) (rm.deeper _)) (fun _ _ x => x) (fun _ _ x => x.elim)
end
theorem fn206 (P : Params) : FnOkC P 206 := ⟨by kernel_rfl, by kernel_rfl, by kernel_rfl, by kernel_rfl, by kernel_rfl, by kernel_rfl, by kernel_rfl⟩
theorem fn211 (P : Params) : FnOkC P 211 := ⟨by kernel_rfl, by kernel_rfl, by kernel_rfl, by kernel_rfl, by kernel_rfl, by kernel_rfl, by kernel_rfl⟩
theorem cells206 (P : Params) (n : Nat) : cellsFrom n (fdAt P 206).scope.names [] = [(("j" : PySem.Str), n + 2), ("room", n + 1), ("lengths", n)] := by kernel_rfl
theorem cells211 (P : Params) (n : Nat) : cellsFrom n (fdAt P 211).scope.names [] = [(("last" : PySem.Str), n + 2), ("numbers", n + 1), ("total", n)] := by kernel_rfl
end Mine
open PySem PySem.W PyProof.Rows PySem.Calls PySem.Spec
set_option Elab.async false
set_option maxRecDepth 100000
set_option maxHeartbeats 1000000
set_option linter.unusedVariables false
namespace Mine
/-- values that are these ints -/
noncomputable def IntAll (vs : List Value) (ns : List Int) : Prop := All2 (fun v n => ∃ t, v = .int n t) vs ns
theorem IntAll.of {vs : List Value} {ns : List Int} (h : IntsAre vs ns) : IntAll vs ns := by
  induction h with
  | nil => exact .nil
  | cons n t _ ih => exact .cons ⟨t, rfl⟩ ih
noncomputable def InAt (h : Heap) (l : Addr) (ns : List Int) : Prop := ∃ vs n, h.get? l = some (lstObj vs n) ∧ IntAll vs ns
theorem InAt.keep {h h' : Heap} {ln : Addr} {ls : List Int} (x : InAt h ln ls) (k : ∀ o, h.get? ln = some o → h'.get? ln = some o) : InAt h' ln ls := by
  obtain ⟨vs, n, ho, r⟩ := x
  exact ⟨vs, n, k _ ho, r⟩
theorem InAt.isList {h : Heap} {ln : Addr} {ls : List Int} (x : InAt h ln ls) : ∃ vs, IntAll vs ls ∧ h.IsList ln vs.toArray := by
  obtain ⟨vs, n, ho, r⟩ := x
  exact ⟨vs, r, _, ho, rfl, n, rfl⟩
theorem preSum_list (ns : List Int) : preSum (fun i => ns.getD i 0) ns.length = ns.sum := by
  have : ∀ n, n ≤ ns.length → preSum (fun i => ns.getD i 0) n = (ns.take n).sum := by
    intro n
    induction n with
    | zero => intro _; simp [preSum]
    | succ n ih =>
      intro hn
      rw [preSum, ih (by omega), List.take_succ_eq_append_getElem hn, List.sum_append]
      simp [List.getD_eq_getElem?_getD, List.getElem?_eq_getElem (show n < ns.length from hn)]
  have := this ns.length (Nat.le_refl _)
  rw [this, List.take_length]
section
variable {w : World} {A : Around} {E : Value → Shared → Prop} {S s s' : Shared} {g h e : Heap} {L l r I : Addr} {m m' : PySem.Str → Option Value} {X : List Addr} {R : Result → Shared → Prop} {env : Env}
theorem sum_ls {vs : List Value} {ns : List Int} {Q : Value → Shared → Prop} (hh : A.handled = none) (isl : s.heap.IsList l vs.toArray) (hi : IntAll vs ns) (G : _) (O : _) (eg : s.gens = G) (eo : s.os = O)
    (h : ∀ s' t', s'.gens = G → s'.os = O → (∀ b o, s.heap.get? b = some o → s'.heap.get? b = some o) → Q (.int ns.sum t') s') : wpAny (model prog w) A (call (.builtin "sum") [.ref l]) Q E s := by
  have hlt : l < s.heap.objs.size := by obtain ⟨_, q, _⟩ := isl; exact Heap.lt_size q
  have hlen := All2.length hi
  refine call_sum_walkG (wpAny_pyIter_list isl ?_)
  refine ⟨_, _, _, _, _, _, fun i => ns.getD i 0, rfl, Walks.list (A := A.in1) hh s.heap.objs.size l (Nat.ne_of_lt hlt) vs.toArray, ⟨⟨_, Heap.get?_push_size _ rfl, rfl, rfl⟩, isl.push _⟩, fun b hb => ?_, ?_, ?_⟩
  · show b < (s.heap.push _).objs.size
    rw [Heap.size_push]
    rcases List.mem_cons.mp hb with rfl | hb
    · exact Nat.lt_succ_self _
    · rw [List.mem_singleton.mp hb]; exact Nat.lt_succ_of_lt hlt
  · intro i v hv
    have hv : vs[i]? = some v := by simpa using hv
    have hi' : i < ns.length := by rw [← hlen]; exact (List.getElem?_eq_some_iff.mp hv).1
    obtain ⟨v', hv', t, e⟩ := hi.at (i := i) (b := ns[i]) (by simp [hi'])
    rw [hv] at hv'; cases hv'
    exact ⟨t, by rw [e]; simp [List.getD_eq_getElem?_getD, hi']⟩
  · intro h' tk t' kp
    have e1 : vs.toArray.size = ns.length := by rw [List.size_toArray, hlen]
    rw [e1, preSum_list]
    exact h _ t' eg eo fun b o q => kp b o (by simpa using Nat.ne_of_lt (Heap.lt_size q)) (Heap.get?_push_of_some _ q)
theorem min_ints {a b : Int} {t u : Tok} {Q : Value → Shared → Prop} (hh : A.handled = none) (G : _) (O : _) (eg : s.gens = G) (eo : s.os = O)
    (h : ∀ s' t', s'.gens = G → s'.os = O → (∀ b o, s.heap.get? b = some o → s'.heap.get? b = some o) → Q (.int (min a b) t') s') : wpAny (model prog w) A (call (.builtin "min") [.int a t, .int b u]) Q E s := by
  refine Flt.min_two_num hh (.int a t) (.int b u) fun h' tk kp => ?_
  by_cases hc : b < a
  · have e1 : Flt.ltV (.int b u) (.int a t) = true := by simp [Flt.ltV, hc]
    rw [e1, if_pos rfl]
    have := h { s with heap := h', toks := tk } u eg eo kp
    rwa [show min a b = b by omega] at this
  · have e1 : Flt.ltV (.int b u) (.int a t) = false := by simp [Flt.ltV]; omega
    rw [e1, if_neg (by decide)]
    have := h { s with heap := h', toks := tk } t eg eo kp
    rwa [show min a b = a by omega] at this
/-- l[a:b], ints or parts missing -/
theorem ls_slice {value slice : PySem.Expr} {vs : List Value} {vl vu : Value} {lo hi : Option Int} {res : List Value} {Q : Value → Shared → Prop} (isl : s.heap.IsList l vs.toArray) (pl : IsPart vl lo) (pu : IsPart vu hi) (hr : slicePick vs.toArray lo hi none = res.toArray) (hz : vs.length ≤ 1000)
    (G : _) (O : _) (eg : s.gens = G) (eo : s.os = O)
    (h : ∀ s' D, s'.gens = G → s'.os = O → (∀ b o, s.heap.get? b = some o → s'.heap.get? b = some o) → s'.heap.get? D = some (lstObj res 0) → s.heap.objs.size ≤ D → Q (.ref D) s')
    (hs : subscripted slice false (.ref l) (.ref s.heap.objs.size) = operate [.ref s.heap.objs.size, .ref l] (getItem (.ref l) (.ref s.heap.objs.size))) :
    wpAny (model prog w) A (subscriptTail value slice (.ref l) (.ref s.heap.objs.size)) Q E { s with heap := s.heap.push { cls := .type "slice", data := .fields #[vl, vu, .none] } } := by
  have isl' := isl.push { cls := .type "slice", data := .fields #[vl, vu, .none] }
  refine tail_any (s := { s with heap := s.heap.push { cls := .type "slice", data := .fields #[vl, vu, .none] } }) isl'.typeIs slot_list_getitem.lookup (wpAny_getItem_list_slice isl' (Heap.IsSliceOf.new ..) pl pu .none (by simp) ?_ (by rw [List.size_toArray, sizeLine_eq]; omega)) hs
  rw [hr]
  exact h _ _ eg eo (fun b o q => Heap.get?_push_of_some _ (Heap.get?_push_of_some _ q)) (Heap.get?_push_size _ rfl) (by show _ ≤ (s.heap.push _).objs.size; rw [Heap.size_push]; exact Nat.le_succ _)
theorem in_append {x : Int} {t : Tok} {ls : List Int} {ln : Addr} {Q : Value → Shared → Prop} (hl : InAt s.heap ln ls) (hz : ls.length ≤ 1000) (h : ∀ h', InAt h' ln (ls ++ [x]) → Heap.SameBut ln s.heap h' → Q .none { s with heap := h' }) :
    wpAny (model prog w) A (call (.builtin "list.append") [.ref ln, .int x t]) Q E s := by
  obtain ⟨vs, n, ho, hs⟩ := hl
  refine lst_append ho (by have := All2.length hs; omega) fun h' n' e sb => h h' ⟨_, n', e, All2.append hs (.cons ⟨t, rfl⟩ .nil)⟩ sb
theorem in_item {value slice : PySem.Expr} {ls : List Int} {i : Nat} {x : Int} {ti : Tok} {Q : Value → Shared → Prop} (hl : InAt s.heap l ls) (hx : ls[i]? = some x) (hz : ls.length ≤ 1000) (h : ∀ t, Q (.int x t) s)
    (hs : subscripted slice false (.ref l) (.int (i : Int) ti) = operate [.ref l, .int (i : Int) ti] (getItem (.ref l) (.int (i : Int) ti))) :
    wpAny (model prog w) A (subscriptTail value slice (.ref l) (.int (i : Int) ti)) Q E s := by
  obtain ⟨vs, hv, isl⟩ := hl.isList
  obtain ⟨v, hvi, t, rfl⟩ := hv.at hx
  have := (List.getElem?_eq_some_iff.mp hx).1
  exact tail_any isl.typeIs slot_list_getitem.lookup (wpAny_getItem_list (x := .int x t) isl (by omega) (by omega) (by rw [Int.toNat_natCast, List.getElem?_toArray]; exact hvi) (h t)) hs
theorem in_last {value slice : PySem.Expr} {ls : List Int} {x : Int} {ti : Tok} {Q : Value → Shared → Prop} (hl : InAt s.heap l (ls ++ [x])) (hz : ls.length ≤ 1000) (h : ∀ t, Q (.int x t) s)
    (hs : subscripted slice false (.ref l) (.int (-1) ti) = operate [.ref l, .int (-1) ti] (getItem (.ref l) (.int (-1) ti))) :
    wpAny (model prog w) A (subscriptTail value slice (.ref l) (.int (-1) ti)) Q E s := by
  obtain ⟨vs, hv, isl⟩ := hl.isList
  obtain ⟨v, hvi, t, rfl⟩ := hv.at (i := ls.length) (b := x) (by simp)
  have hlen := All2.length hv
  rw [List.length_append, List.length_singleton] at hlen
  refine tail_any isl.typeIs slot_list_getitem.lookup (wpAny_getItem_list_neg (x := .int x t) isl (by decide) (by rw [List.size_toArray]; omega) (by decide) ?_ (h t)) hs
  rw [List.size_toArray, hlen, List.getElem?_toArray]
  have : ((-1 : Int) + ((ls.length + 1 : Nat) : Int)).toNat = ls.length := by omega
  rw [this]; exact hvi
/-- two lists of ints compared -/
theorem ne_nil {a b : Addr} {vs : List Value} {Q : Value → Shared → Prop} (hu : A.units < cLine) (ha : s.heap.IsList a vs.toArray) (hb : s.heap.IsList b #[]) (h : Q (.bool (decide (vs ≠ []))) s) :
    wpAny (model prog w) A (compareOp .NotEq (.ref a) (.ref b)) Q E s := by
  by_cases hv : vs = []
  · subst hv
    have key := SeqAt.RcNeAt.lists (A := A) (s := s) (e := fun _ => true) ha hb rfl hu (fun j h1 h2 => absurd h1 (by simp))
    refine key prog w E Q ?_
    have : decide (([] : List Value) ≠ []) = false := by simp
    rw [this] at h
    exact h
  · have key := SeqAt.RcNeAt.lists_lengths (A := A) (s := s) ha hb (by simpa using hv) hu
    refine key prog w E Q ?_
    have : decide (vs ≠ []) = true := by simp [hv]
    rw [this] at h
    exact h
end
end Mine
open PySem PySem.W PyProof.Rows PySem.Calls PySem.Spec
set_option Elab.async false
set_option maxRecDepth 100000
set_option maxHeartbeats 1000000
set_option linter.unusedVariables false
namespace Mine
noncomputable def turn206 (b : List Stmt) : List Stmt := match b with
  | [_, .For _ _ body _ _, _] => body
  | _ => []
noncomputable def st206 (b : List Stmt) : Stmt := match turn206 b with | st :: _ => st | _ => default
section
variable {w : World} {A : Around} {E : Value → Shared → Prop} {S s s' : Shared} {g h e : Heap} {L l r I : Addr} {m m' : PySem.Str → Option Value} {X : List Addr} {R : Result → Shared → Prop} {env : Env} {Q : Flow → Shared → Prop}
/-- a captured name -/
theorem lcell {M : Model} {x : PySem.Str} {v : Value} {c : Addr} {pos : Pos} {Q : Value → Shared → Prop} (hk : env.scope.kind = .function) (hl : env.kindOf x = some .cell) (hc : env.cells.lookup x = some c) (hv : s.heap.IsCell c (some v)) (h : Q v s)
    (hd : (x == ("__debug__" : PySem.Str)) = false := by decide) : wpAny M A (eval (.Name x pos) env) Q E s := wpAny_Name (wpAny_loadName_cell hk hl hc hv h) hd
theorem IsCell.keep {h h' : Heap} {c : Addr} {v : Option Value} (x : h.IsCell c v) (k : ∀ o, h.get? c = some o → h'.get? c = some o) : h'.IsCell c v := by
  obtain ⟨o, ho, r⟩ := x
  exact ⟨o, k _ ho, r⟩
theorem strange206 {j ll : Nat} {W : Int} {lens : List Int} {tW tj : Tok} {st : Stmt} (hst : st = st206 (bodyAt w.params 206)) (he : env = envC w.params 206 L)
    (C : Px w g S s L m) (hh : A.handled = none) (c1 : s.heap.IsCell (L + 1) (some (.ref ll))) (c2 : s.heap.IsCell (L + 2) (some (.int W tW))) (c3 : s.heap.IsCell (L + 3) (some (.int (j : Int) tj)))
    (hll : InAt s.heap ll lens) (hz : lens.length ≤ 100) (hj : j < lens.length)
    (h : ∀ s' D, Px w g S s' L (fun z => if z = "strange" then some (.ref D) else m z) → (∀ b o, b ≠ L → s.heap.get? b = some o → s'.heap.get? b = some o) → InAt s'.heap D ((strangeAt W lens j).map fun (i : Nat) => (i : Int)) → Q .next s') :
    wpAny (model prog w) A (exec st env) Q E s := by
  subst hst he
  have kf := (fn206 w.params).kind
  refine px_assign_comp (g := g) (S := S) (L := L) (m := m) (cl := [("room", L + 2), ("lengths", L + 1), ("j", L + 3)]) rfl kf rfl (by with_unfolding_all rfl) (by with_unfolding_all rfl) rfl rfl (by decide) rfl ?_ (by intro _; rfl)
  refine Call_ ?_
  refine bv C.B C.F (by kernel_rfl) (v := .type "range") (by decide +kernel) kf rfl (by kernel_rfl) (by kernel_rfl) ?_
  refine PyProof.Rows.callWith_type1 ?_
  with_reducible refine args_cons ?_ (by with_unfolding_all rfl)
  refine lcell kf rfl (by with_unfolding_all rfl) c3 ?_
  refine args_nil ?_
  refine px_range C (by omega) ?_
  intro s₁ I C₁ hI k₁ hIS hIL
  have hL1 : L + 1 ≠ I := by obtain ⟨_, q, _⟩ := c1; exact (k₁ _ _ q).2
  have hL2 : L + 2 ≠ I := by obtain ⟨_, q, _⟩ := c2; exact (k₁ _ _ q).2
  have hL3 : L + 3 ≠ I := by obtain ⟨_, q, _⟩ := c3; exact (k₁ _ _ q).2
  have hll1 : ll ≠ I := by obtain ⟨_, _, q, _⟩ := hll; exact (k₁ _ _ q).2
  have c1' := IsCell.keep c1 fun o q => (k₁ _ _ q).1
  have c2' := IsCell.keep c2 fun o q => (k₁ _ _ q).1
  have c3' := IsCell.keep c3 fun o q => (k₁ _ _ q).1
  have hll' := hll.keep fun o q => (k₁ _ _ q).1
  refine ⟨C₁, I, [I], j, _, _, rfl, PyProof.Rows.LCg.range_walks hh 0 j, by omega, by show IsRangeIter _ _ _ _ _; simpa using hI, fun b hb => by rw [List.mem_singleton.mp hb]; exact Heap.lt_size hI, hIS, hIL, fun D CC eD eC => ⟨fun i ys _ => IntAll ys (((List.range i).filter fun i => decide (W < ((lens.drop i).take (j + 1 - i)).sum)).map fun (i : Nat) => (i : Int)), fun _ _ => .nil, fun _ _ _ _ q _ => q, ?_, ?_⟩⟩
  · intro i ys s₂ v m₃ E' hi C₂ old K hyl hP hns hv _
    obtain ⟨tv, rfl⟩ := hP
    rw [Int.zero_add] at hv
    have d1 := IsCell.keep c1' fun o q => old _ _ hL1 q
    have d2 := IsCell.keep c2' fun o q => old _ _ hL2 q
    have d3 := IsCell.keep c3' fun o q => old _ _ hL3 q
    have dl := hll'.keep fun o q => old _ _ hll1 q
    obtain ⟨vs, hvs, isl⟩ := dl.isList
    have hlen := All2.length hvs
    refine wpAny_tests_one ?_
    refine wpAny_isTrue_Compare1 ?_
    refine Call_ ?_
    refine bv C₂.B C₂.F (by kernel_rfl) (v := .builtin "sum") (by decide +kernel) rfl rfl (by kernel_rfl) (by kernel_rfl) ?_
    refine PyProof.Rows.callWith_builtin1 ?_
    with_reducible refine args_cons ?_ (by with_unfolding_all rfl)
    refine Subscript_ ?_
    refine lcell rfl (by with_unfolding_all rfl) (by with_unfolding_all rfl) d1 ?_
    with_reducible refine wpAny_Slice ?_
    refine evalPart_some_step ?_
    refine lc hns rfl rfl rfl hv ?_
    refine evalPart_some_step ?_
    refine wpAny_BinOp ?_
    refine lcell rfl (by with_unfolding_all rfl) (by with_unfolding_all rfl) d3 ?_
    with_reducible refine wpAny_Constant_int ?_
    refine add_int ?_
    refine evalPart_none_step ?_
    rw [show (j : Int) + 1 = ((j + 1 : Nat) : Int) by omega]
    refine ls_slice (s := { s₂ with toks := s₂.toks + 1 + 1 }) (res := (vs.drop i).take (j + 1 - i)) isl (.int _ _) (.int _ _) (slicePick_run vs.toArray i (j + 1) (by rw [List.size_toArray]; omega) (by omega)) (by omega) s₂.gens s₂.os rfl rfl ?_ (by with_unfolding_all rfl)
    intro s₃ D₃ g₃ o₃ k₃ hD₃ _
    refine args_nil ?_
    refine sum_ls (vs := (vs.drop i).take (j + 1 - i)) (ns := (lens.drop i).take (j + 1 - i)) hh ⟨_, hD₃, rfl, 0, rfl⟩ ((hvs.drop i).take _) s₂.gens s₂.os g₃ o₃ ?_
    intro s₄ t₄ g₄ o₄ k₄
    have kk : ∀ b o, s₂.heap.get? b = some o → s₄.heap.get? b = some o := fun b o q => k₄ _ _ (k₃ _ _ q)
    refine lcell rfl (by with_unfolding_all rfl) (by with_unfolding_all rfl) (IsCell.keep d2 fun o q => kk _ _ q) ?_
    refine gt_int ?_
    refine wpAny_truthy_bool ?_
    refine ⟨.of_eq kk g₄ o₄, ?_⟩
    by_cases hc : W < ((lens.drop i).take (j + 1 - i)).sum
    · rw [if_pos (by simpa using hc)]
      refine lc (hns.keeps kk) rfl rfl rfl hv ?_
      refine ⟨.refl _ _, ?_⟩
      show IntAll _ (((List.range (i + 1)).filter _).map _)
      rw [List.range_succ, List.filter_append, List.map_append]
      refine All2.append K ?_
      rw [List.filter_cons, if_pos (by simpa using hc)]
      exact .cons ⟨tv, rfl⟩ .nil
    · rw [if_neg (by simpa using hc)]
      show IntAll _ (((List.range (i + 1)).filter _).map _)
      rw [List.range_succ, List.filter_append, List.map_append, List.filter_cons, if_neg (by simpa using hc)]
      simpa using K
  · intro s' ys m' C' old K hD em
    subst em
    exact h s' D C' (fun b o nb q => old _ _ (k₁ _ _ q).2 nb (k₁ _ _ q).1) ⟨ys, _, hD, K⟩
end
end Mine
open PySem PySem.W PyProof.Rows PySem.Calls PySem.Spec
set_option Elab.async false
set_option maxRecDepth 100000
set_option maxHeartbeats 1000000
set_option linter.unusedVariables false
namespace Mine
section
variable {w : World} {A : Around} {E : Value → Shared → Prop} {S s s' : Shared} {g h e : Heap} {L l r I : Addr} {m m' : PySem.Str → Option Value} {X : List Addr} {R : Result → Shared → Prop} {env : Env} {Q : Flow → Shared → Prop}
theorem turn206_ct {j ll mk : Nat} {W : Int} {lens : List Int} {tW tj : Tok} {body : List Stmt} (hb : body = turn206 (bodyAt w.params 206)) (he : env = envC w.params 206 L)
    (C : Px w g S s L m) (hh : A.handled = none) (hu : A.units < cLine) (n1 : m "marks" = some (.ref mk)) (c1 : s.heap.IsCell (L + 1) (some (.ref ll))) (c2 : s.heap.IsCell (L + 2) (some (.int W tW))) (c3 : s.heap.IsCell (L + 3) (some (.int (j : Int) tj)))
    (hll : InAt s.heap ll lens) (hmk : InAt s.heap mk (marksOf W lens j)) (hmS : S.heap.objs.size ≤ mk) (hmL : mk ≠ L) (hz : lens.length ≤ 100) (hj : j < lens.length)
    (h : ∀ s' m', Px w g S s' L m' → m' "marks" = some (.ref mk) → InAt s'.heap mk (marksOf W lens (j + 1)) → (∀ b o, b ≠ L → b ≠ mk → s.heap.get? b = some o → s'.heap.get? b = some o) → Q .next s') :
    wpAny (model prog w) A (execs body env) Q E s := by
  subst hb
  have kf := (fn206 w.params).kind
  have ml := marksOf_len W lens j
  refine wpAny_execs_cons ?_
  refine strange206 (ll := ll) (by kernel_rfl) he C hh c1 c2 c3 hll hz hj ?_
  subst he
  intro s₂ D C₂ k₂ hD
  have hne : ∀ a o, s.heap.get? a = some o → a ≠ L → s₂.heap.get? a = some o := fun a o q n => k₂ a o n q
  have nl : L + 1 ≠ L ∧ L + 2 ≠ L ∧ L + 3 ≠ L := ⟨Nat.succ_ne_self _, Nat.ne_of_gt (Nat.lt_add_of_pos_right (by decide)), Nat.ne_of_gt (Nat.lt_add_of_pos_right (by decide))⟩
  have d1 := IsCell.keep c1 fun o q => k₂ _ _ nl.1 q
  have d2 := IsCell.keep c2 fun o q => k₂ _ _ nl.2.1 q
  have d3 := IsCell.keep c3 fun o q => k₂ _ _ nl.2.2 q
  have hllL : ll ≠ L := fun z => by
    obtain ⟨vs, n, q, _⟩ := hll
    obtain ⟨o, es, ep, ho, hd, _⟩ := C.F.ns
    rw [z, ho] at q; cases q; cases hd
  have dl := hll.keep fun o q => k₂ _ _ hllL q
  have dm := hmk.keep fun o q => k₂ _ _ hmL q
  have fin : ∀ (s₃ s₄ : Shared) (x : Int) (h₄ : Heap), Px w g S s₃ L (fun z => if z = "strange" then some (.ref D) else m z) → s₄.heap = h₄ → s₄.gens = s₃.gens → s₄.os = s₃.os → InAt h₄ mk (marksOf W lens j ++ [x]) → Heap.SameBut mk s₃.heap h₄ → x = markAt W lens (marksOf W lens j) j → (∀ b o, b ≠ L → s.heap.get? b = some o → s₃.heap.get? b = some o) → Q .next s₄ := by
    intro s₃ s₄ x h₄ C₃ e4 g4 o4 im sb ex k₃
    subst e4
    have C₄ := C₃.own1 (x := mk) (s' := s₄) (fun b o nb q => sb.extBut b o nb q) g4 o4 hmS hmL
    refine h s₄ _ C₄ (upd_ne n1) ?_ fun b o b1 b2 q => sb.extBut b o b2 (k₃ b o b1 q)
    rw [ex] at im
    exact im
  refine wpAny_execs_cons ?_
  refine wpAny_If ?_
  refine wpAny_isTrue_Compare1 ?_
  refine lv C₂.F rfl kf rfl upd_eq ?_
  with_reducible refine List_ ?_
  refine args_nil ?_
  unfold newList
  refine wpAny_newObj_type ?_
  obtain ⟨vs, hvs, isl⟩ := hD.isList
  have hlen := All2.length hvs
  rw [List.length_map] at hlen
  refine ne_nil hu (isl.push _) ⟨_, Heap.get?_push_size _ rfl, rfl, 0, rfl⟩ ?_
  refine wpAny_truthy_bool ?_
  have C₃' := C₂.keeps (s' := { s₂ with heap := s₂.heap.push { cls := .type "list", data := .seq #[] } }) (fun b o q => Heap.get?_push_of_some _ q) rfl rfl
  by_cases hv : vs = []
  · have hst : strangeAt W lens j = [] := List.length_eq_zero_iff.mp (by rw [← hlen, hv]; rfl)
    rw [if_neg (by simpa using hv)]
    refine gn (s₂.heap.push { cls := .type "list", data := .seq #[] }) s₂.gens s₂.os rfl rfl rfl fun s₃ e3 g3 o3 => ?_
    have C₃ := C₃'.re (s' := s₃) e3 g3 o3
    have k₃ : ∀ b o, s₂.heap.get? b = some o → s₃.heap.get? b = some o := fun b o q => by rw [e3]; exact Heap.get?_push_of_some _ q
    have d1 := IsCell.keep d1 fun o q => k₃ _ _ q
    have d2 := IsCell.keep d2 fun o q => k₃ _ _ q
    have d3 := IsCell.keep d3 fun o q => k₃ _ _ q
    have dl := dl.keep fun o q => k₃ _ _ q
    have dm := dm.keep fun o q => k₃ _ _ q
    refine wpAny_execs_cons ?_
    refine wpAny_Expr ?_
    refine MethodCall_ ?_
    refine lv C₃.F rfl kf rfl (upd_ne n1) ?_
    obtain ⟨vm, nm, hmo, hmv⟩ := id dm
    refine getMethod_list_append hmo rfl rfl ?_
    refine callWith_method1 ?_
    with_reducible refine args_cons ?_ (by with_unfolding_all rfl)
    refine wpAny_BinOp ?_
    refine Call_ ?_
    refine bv C₃.B C₃.F (by kernel_rfl) (v := .builtin "min") (by decide +kernel) kf rfl (by kernel_rfl) (by kernel_rfl) ?_
    refine PyProof.Rows.callWith_builtin1 ?_
    with_reducible refine args_cons ?_ (by with_unfolding_all rfl)
    refine Call_ ?_
    refine bv C₃.B C₃.F (by kernel_rfl) (v := .builtin "sum") (by decide +kernel) kf rfl (by kernel_rfl) (by kernel_rfl) ?_
    refine PyProof.Rows.callWith_builtin1 ?_
    with_reducible refine args_cons ?_ (by with_unfolding_all rfl)
    refine Subscript_ ?_
    refine lcell kf rfl (by with_unfolding_all rfl) d1 ?_
    with_reducible refine wpAny_Slice ?_
    refine evalPart_none_step ?_
    refine evalPart_some_step ?_
    refine wpAny_BinOp ?_
    refine lcell kf rfl (by with_unfolding_all rfl) d3 ?_
    with_reducible refine wpAny_Constant_int ?_
    refine add_int ?_
    refine evalPart_none_step ?_
    rw [show (j : Int) + 1 = ((j + 1 : Nat) : Int) by omega]
    obtain ⟨vl, hvl, isl'⟩ := dl.isList
    have hll' := All2.length hvl
    refine ls_slice (s := { s₃ with toks := s₃.toks + 1 + 1 }) (res := vl.take (j + 1)) isl' .none (.int _ _) (slicePick_upto' vl.toArray (j + 1)) (by omega) s₃.gens s₃.os rfl rfl ?_ (by with_unfolding_all rfl)
    intro s₅ D₅ g₅ o₅ k₅ hD₅ _
    refine args_nil ?_
    refine sum_ls (vs := vl.take (j + 1)) (ns := lens.take (j + 1)) hh ⟨_, hD₅, rfl, 0, rfl⟩ (hvl.take _) s₃.gens s₃.os g₅ o₅ ?_
    intro s₆ t₆ g₆ o₆ k₆
    have k36 : ∀ b o, s₃.heap.get? b = some o → s₆.heap.get? b = some o := fun b o q => k₆ _ _ (k₅ _ _ q)
    have C₆ := C₃.keeps (s' := s₆) k36 g₆ o₆
    with_reducible refine args_cons ?_ (by with_unfolding_all rfl)
    refine lcell kf rfl (by with_unfolding_all rfl) (IsCell.keep d2 fun o q => k36 _ _ q) ?_
    refine args_nil ?_
    refine min_ints hh s₆.gens s₆.os rfl rfl ?_
    intro s₇ t₇ g₇ o₇ k₇
    have C₇ := C₆.keeps (s' := s₇) k₇ g₇ o₇
    with_reducible refine wpAny_Constant_int ?_
    refine sub_int ?_
    refine args_nil ?_
    refine in_append (s := { s₇ with toks := s₇.toks + 1 + 1 }) (dm.keep fun o q => k₇ _ _ (k36 _ _ q)) (by rw [ml]; omega) ?_
    intro h₈ im sb
    refine wpAny_execs_nil ?_
    refine wpAny_execs_nil ?_
    refine fin s₇ _ _ h₈ C₇ rfl rfl rfl im sb ?_ fun b o nb q => k₇ _ _ (k36 _ _ (k₃ _ _ (k₂ b o nb q)))
    unfold markAt
    rw [hst]; rfl
  · obtain ⟨l₂, i, hst⟩ : ∃ l₂ i, strangeAt W lens j = l₂ ++ [i] := by
      rcases List.eq_nil_or_concat (strangeAt W lens j) with q | ⟨l₂, i, q⟩
      · rw [q] at hlen; exact absurd (List.length_eq_zero_iff.mp hlen) hv
      · exact ⟨l₂, i, by rw [q, List.concat_eq_append]⟩
    have him : i < j := by
      have : i ∈ strangeAt W lens j := by rw [hst]; simp
      exact List.mem_range.mp (List.mem_filter.mp this).1
    rw [if_pos (by simpa using hv)]
    refine gn (s₂.heap.push { cls := .type "list", data := .seq #[] }) s₂.gens s₂.os rfl rfl rfl fun s₃ e3 g3 o3 => ?_
    have C₃ := C₃'.re (s' := s₃) e3 g3 o3
    have k₃ : ∀ b o, s₂.heap.get? b = some o → s₃.heap.get? b = some o := fun b o q => by rw [e3]; exact Heap.get?_push_of_some _ q
    have d2 := IsCell.keep d2 fun o q => k₃ _ _ q
    have dm := dm.keep fun o q => k₃ _ _ q
    have dD := hD.keep fun o q => k₃ _ _ q
    rw [hst, List.map_append] at dD
    refine wpAny_execs_cons ?_
    refine wpAny_Expr ?_
    refine MethodCall_ ?_
    refine lv C₃.F rfl kf rfl (upd_ne n1) ?_
    obtain ⟨vm, nm, hmo, hmv⟩ := id dm
    refine getMethod_list_append hmo rfl rfl ?_
    refine callWith_method1 ?_
    with_reducible refine args_cons ?_ (by with_unfolding_all rfl)
    refine wpAny_BinOp ?_
    refine Subscript_ ?_
    refine lv C₃.F rfl kf rfl (upd_ne n1) ?_
    refine Subscript_ ?_
    refine lv C₃.F rfl kf rfl upd_eq ?_
    refine UnaryOp_ ?_
    with_reducible refine wpAny_Constant_int ?_
    refine neg_int ?_
    have hl2 : l₂.length ≤ 200 := by
      have := congrArg List.length hst
      simp at this
      have hle : (strangeAt W lens j).length ≤ j := by
        unfold strangeAt
        exact Nat.le_trans (List.length_filter_le _ _) (by simp)
      omega
    refine in_last (s := { s₃ with toks := s₃.toks + 1 + 1 }) (ls := l₂.map fun (i : Nat) => (i : Int)) (x := (i : Int)) dD (by rw [List.length_map]; omega) ?_ (by with_unfolding_all rfl)
    intro t₄
    have hmi : (marksOf W lens j)[i]? = some ((marksOf W lens j).getD i 0) := by
      rw [List.getD_eq_getElem?_getD, List.getElem?_eq_getElem (by rw [ml]; exact him)]; rfl
    refine in_item (s := { s₃ with toks := s₃.toks + 1 + 1 }) dm hmi (by rw [ml]; omega) ?_ (by with_unfolding_all rfl)
    intro t₅
    refine lcell kf rfl (by with_unfolding_all rfl) d2 ?_
    refine add_int ?_
    refine args_nil ?_
    refine in_append (s := { s₃ with toks := s₃.toks + 1 + 1 + 1 }) dm (by rw [ml]; omega) ?_
    intro h₈ im sb
    refine wpAny_execs_nil ?_
    refine wpAny_execs_nil ?_
    refine fin s₃ _ _ h₈ C₃ rfl rfl rfl im sb ?_ fun b o nb q => k₃ _ _ (k₂ b o nb q)
    unfold markAt
    rw [hst]; simp
end
end Mine
open PySem PySem.W PyProof.Rows PySem.Calls PySem.Spec
set_option Elab.async false
set_option maxRecDepth 100000
set_option maxHeartbeats 1000000
set_option linter.unusedVariables false
namespace Mine
section
variable {w : World} {A : Around} {E : Value → Shared → Prop} {S s s' : Shared} {g h e : Heap} {L l r I : Addr} {m m' : PySem.Str → Option Value} {X : List Addr} {R : Result → Shared → Prop} {env : Env} {Q : Flow → Shared → Prop}
theorem marks_ct {W : Int} {lens : List Int} {tW : Tok} {ll : Addr} (B : Bs w g) (kb : ∀ b o, g.get? b = some o → s.heap.get? b = some o) (rm : Rm A 4) (hll : InAt s.heap ll lens) (hz : lens.length ≤ 50)
    (h : ∀ s' r, Up [] s s' → s.heap.objs.size ≤ r → InAt s'.heap r (marksOf W lens lens.length) → R (.ok (.ret (.ref r))) s') :
    codeAny (model prog w) A (.call (.ref 206) ⟨[.ref ll, .int W tW], []⟩) R s := by
  have kf := (fn206 w.params).kind
  refine enterC (binds := [("lengths", .ref ll), ("room", .int W tW)]) (fn206 _) B kb rm (by kernel_rfl) ?_ fun s₁ L hL C₁ cells rm' => ?_
  · intro n x hx
    rw [cells206]
    rcases List.mem_cons.mp hx with rfl | hx
    · exact .inr ⟨by kernel_rfl, rfl⟩
    · rw [List.mem_singleton.mp hx]
      exact .inr ⟨by kernel_rfl, rfl⟩
  have c1 : s₁.heap.IsCell (L + 1) (some (.ref ll)) := by
    have := (cells "lengths" (L + 1) (by rw [cells206]; rfl)).1
    have e : bindC (envC w.params 206 L).kindOf [("lengths", .ref ll), ("room", .int W tW)] (fun _ => none) "lengths" = some (.ref ll) := by kernel_rfl
    rwa [e] at this
  have c2 : s₁.heap.IsCell (L + 2) (some (.int W tW)) := by
    have := (cells "room" (L + 2) (by rw [cells206]; rfl)).1
    have e : bindC (envC w.params 206 L).kindOf [("lengths", .ref ll), ("room", .int W tW)] (fun _ => none) "room" = some (.int W tW) := by kernel_rfl
    rwa [e] at this
  have c3 : s₁.heap.IsCell (L + 3) none := by
    have := (cells "j" (L + 3) (by rw [cells206]; rfl)).1
    have e : bindC (envC w.params 206 L).kindOf [("lengths", .ref ll), ("room", .int W tW)] (fun _ => none) "j" = none := by kernel_rfl
    rwa [e] at this
  have nl : L + 1 ≠ L ∧ L + 2 ≠ L ∧ L + 3 ≠ L := ⟨Nat.succ_ne_self _, Nat.ne_of_gt (Nat.lt_add_of_pos_right (by decide)), Nat.ne_of_gt (Nat.lt_add_of_pos_right (by decide))⟩
  have n12 : L + 1 ≠ L + 3 := fun z => by have := Nat.add_left_cancel z; exact absurd this (by decide)
  have n23 : L + 2 ≠ L + 3 := fun z => by have := Nat.add_left_cancel z; exact absurd this (by decide)
  have LS : s.heap.objs.size ≤ L := Nat.le_of_eq hL.symm
  have S3 : s.heap.objs.size ≤ L + 3 := Nat.le_trans LS (Nat.le_add_right _ _)
  have hllS : ll < s.heap.objs.size := by obtain ⟨_, _, q, _⟩ := hll; exact Heap.lt_size q
  revert C₁
  generalize bindL (envC w.params 206 L).kindOf [("lengths", .ref ll), ("room", .int W tW)] (fun _ => none) = m₁
  intro C₁
  -- marks = []
  refine wpAny_execs_cons ?_
  refine wpAny_Assign_Name ?_
  with_reducible refine List_ ?_
  refine args_nil ?_
  unfold newList
  refine wpAny_newObj_type ?_
  have C₂ := C₁.keeps (s' := { s₁ with heap := s₁.heap.push { cls := .type "list", data := .seq #[] } }) (fun b o q => Heap.get?_push_of_some _ q) rfl rfl
  have hr₂ : InAt (s₁.heap.push { cls := .type "list", data := .seq #[] }) s₁.heap.objs.size [] := ⟨[], 0, Heap.get?_push_size _ rfl, .nil⟩
  obtain ⟨mk, er⟩ : ∃ r, r = s₁.heap.objs.size := ⟨_, rfl⟩
  rw [← er] at hr₂ ⊢
  have hrL : mk ≠ L := by rw [er]; exact Nat.ne_of_gt C₁.F.lt
  have hrS : s.heap.objs.size ≤ mk := by rw [er]; exact C₁.le
  have mk1 : L + 1 ≠ mk := by rw [er]; obtain ⟨_, q, _⟩ := c1; exact Nat.ne_of_lt (Heap.lt_size q)
  have mk2 : L + 2 ≠ mk := by rw [er]; obtain ⟨_, q, _⟩ := c2; exact Nat.ne_of_lt (Heap.lt_size q)
  have mk3 : L + 3 ≠ mk := by rw [er]; obtain ⟨_, q, _⟩ := c3; exact Nat.ne_of_lt (Heap.lt_size q)
  refine sw s₁.gens s₁.os rfl rfl C₂.F rfl kf rfl ?_
  intro s₃ F₃ k₃ g₃ o₃
  have C₃ := C₂.store F₃ k₃ g₃ o₃
  have hr₃ := hr₂.keep fun o q => k₃ _ _ hrL q
  have k13 : ∀ b o, b ≠ L → s₁.heap.get? b = some o → s₃.heap.get? b = some o := fun b o nb q => k₃ b o nb (Heap.get?_push_of_some _ q)
  have d1 := IsCell.keep c1 fun o q => k13 _ _ nl.1 q
  have d2 := IsCell.keep c2 fun o q => k13 _ _ nl.2.1 q
  have d3 := IsCell.keep c3 fun o q => k13 _ _ nl.2.2 q
  have hll₃ : InAt s₃.heap ll lens := hll.keep fun o q => C₃.U.keep _ _ (by simp) q
  -- for j in range(len(lengths)):
  refine wpAny_execs_cons ?_
  refine wpAny_ForW ?_
  refine Call_ ?_
  refine bv C₃.B C₃.F (by kernel_rfl) (v := .type "range") (by decide +kernel) kf rfl (by kernel_rfl) (by kernel_rfl) ?_
  refine PyProof.Rows.callWith_type1 ?_
  with_reducible refine args_cons ?_ (by with_unfolding_all rfl)
  refine Call_ ?_
  refine bv C₃.B C₃.F (by kernel_rfl) (v := .builtin "len") (by decide +kernel) kf rfl (by kernel_rfl) (by kernel_rfl) ?_
  refine PyProof.Rows.callWith_builtin1 ?_
  with_reducible refine args_cons ?_ (by with_unfolding_all rfl)
  refine lcell kf rfl (by with_unfolding_all rfl) d1 ?_
  refine args_nil ?_
  obtain ⟨vs, hvs, isl⟩ := hll₃.isList
  have hlen := All2.length hvs
  refine PyProof.Rows.len_list isl (by rw [List.size_toArray]; omega) ?_
  rw [List.size_toArray, hlen]
  refine args_nil ?_
  refine px_range (C₃.tok (t := s₃.toks + 1 + 1)) (by omega) ?_
  intro s₄ I C₄ hI k₄ hIS hIL
  have fresh : ∀ a, (∃ o, s₃.heap.get? a = some o) → a ≠ I := fun a ⟨o, q⟩ => (k₄ _ _ q).2
  have i1 : L + 1 ≠ I := fresh _ (by obtain ⟨o, q, _⟩ := d1; exact ⟨o, q⟩)
  have i2 : L + 2 ≠ I := fresh _ (by obtain ⟨o, q, _⟩ := d2; exact ⟨o, q⟩)
  have i3 : L + 3 ≠ I := fresh _ (by obtain ⟨o, q, _⟩ := d3; exact ⟨o, q⟩)
  have im : mk ≠ I := fresh _ (by obtain ⟨_, _, q, _⟩ := hr₃; exact ⟨_, q⟩)
  have J0 : ∀ (a : Nat), a ≠ I → ∀ (s s' : Shared) (o : Obj), (∀ b o, b ≠ I → s.heap.get? b = some o → s'.heap.get? b = some o) → s.heap.get? a = some o → s'.heap.get? a = some o := fun a n s s' o k q => k a o n q
  refine ForW.loop (n := lens.length) (fun i s' => ∃ m', Px w g s s' L m' ∧ m' "marks" = some (.ref mk) ∧ s'.heap.IsCell (L + 1) (some (.ref ll)) ∧ s'.heap.IsCell (L + 2) (some (.int W tW)) ∧ (∃ v₀, s'.heap.IsCell (L + 3) v₀) ∧ IsRangeIter s'.heap I (i : Int) ((lens.length - i : Nat) : Int) 1 ∧ InAt s'.heap mk (marksOf W lens i)) ?_ ?_ (by intro _; rfl) (Nat.zero_le _)
    ⟨_, C₄, upd_eq, IsCell.keep d1 fun o q => (k₄ _ _ q).1, IsCell.keep d2 fun o q => (k₄ _ _ q).1, ⟨_, IsCell.keep d3 fun o q => (k₄ _ _ q).1⟩, hI, hr₃.keep fun o q => (k₄ _ _ q).1⟩
  · rintro i s₅ hi ⟨m₅, C₅, n₅, e1, e2, ⟨v₀, e3⟩, hI₅, hm₅⟩
    refine wpAny_pyNext_range_item hI₅ (by omega) ?_
    intro h₆ hI₆ sb
    have C₆ := C₅.own1 (x := I) (s' := { s₅ with heap := h₆, toks := s₅.toks + 1 }) (fun b o nb q => sb.extBut b o nb q) rfl rfl hIS hIL
    have a1 : (i : Int) + 1 = ((i + 1 : Nat) : Int) := by omega
    have a2 : ((lens.length - i : Nat) : Int) - 1 = ((lens.length - (i + 1) : Nat) : Int) := by omega
    rw [a1, a2] at hI₆
    refine ⟨_, rfl, ?_⟩
    refine wpAny_assign_Name ?_
    refine wpAny_storeName_cell kf rfl (by with_unfolding_all rfl) (IsCell.keep e3 fun o q => sb.extBut _ _ i3 q) ?_
    intro h₇ c₇ sb₇
    have sb₇ : Heap.SameBut (L + 3) h₆ h₇ := sb₇
    refine gn h₇ s₅.gens s₅.os rfl rfl rfl fun s₈ eh eg eo => ?_
    have C₈ := (C₆.own1 (x := L + 3) (s' := { s₅ with heap := h₇, toks := s₅.toks + 1 }) (fun b o nb q => sb₇.extBut b o nb q) rfl rfl S3 nl.2.2).re (s' := s₈) eh eg eo
    subst eh
    have k58 : ∀ b o, b ≠ I → b ≠ L + 3 → s₅.heap.get? b = some o → s₈.heap.get? b = some o := fun b o n1 n2 q => sb₇.extBut b o n2 (sb.extBut b o n1 q)
    have hI₈ := sb₇.extBut _ _ (Ne.symm i3) hI₆
    refine turn206_ct (ll := ll) (by kernel_rfl) rfl C₈ rm'.hnd rm'.units n₅ (IsCell.keep e1 fun o q => k58 _ _ i1 n12 q) (IsCell.keep e2 fun o q => k58 _ _ i2 n23 q) c₇ (hll.keep fun o q => C₈.U.keep _ _ (by simp) q) (hm₅.keep fun o q => k58 _ _ im (Ne.symm mk3) q) hrS hrL (by omega) hi ?_
    intro s₉ m₉ C₉ n₉ hm₉ k₉
    exact ⟨m₉, C₉, n₉, IsCell.keep e1 fun o q => k₉ _ _ nl.1 mk1 (k58 _ _ i1 n12 q), IsCell.keep e2 fun o q => k₉ _ _ nl.2.1 mk2 (k58 _ _ i2 n23 q), ⟨_, IsCell.keep c₇ fun o q => k₉ _ _ nl.2.2 mk3 q⟩, k₉ _ _ hIL (Ne.symm im) hI₈, hm₉⟩
  · rintro s₅ ⟨m₅, C₅, n₅, e1, e2, ⟨v₀, e3⟩, hI₅, hm₅⟩
    refine rng_end rm'.hnd C₅ hI₅ hIS hIL ?_
    intro s₆ C₆ k₆
    refine wpAny_execs_nil ?_
    refine wpAny_execs_cons ?_
    refine wpAny_Return_some ?_
    refine lv C₆.F rfl kf rfl n₅ ?_
    exact h s₆ mk C₆.U hrS (hm₅.keep fun o q => k₆ _ _ im q)
end
end Mine
open PySem PySem.W PyProof.Rows PySem.Calls PySem.Spec
set_option Elab.async false
set_option maxRecDepth 100000
set_option maxHeartbeats 1000000
set_option linter.unusedVariables false
namespace Mine
/-- the sum ahead of i -/
noncomputable def preL (lens : List Int) (i : Nat) : Int := (lens.take i).sum
/-- how long the row at hand is, and how many were ended -/
noncomputable def crStep (W l : Int) (s : Int × Nat) : Int × Nat := if 0 < s.1 ∧ W < s.1 + l then (l, s.2 + 1) else (s.1 + l, s.2)
noncomputable def cr (W : Int) (lens : List Int) (name : Int) : Nat → Int × Nat
  | 0 => (name, 0)
  | i + 1 => crStep W (lens.getD i 0) (cr W lens name i)
theorem preL_succ (lens : List Int) (i : Nat) : preL lens (i + 1) = preL lens i + lens.getD i 0 := by
  unfold preL
  by_cases h : i < lens.length
  · rw [List.take_succ_eq_append_getElem h, List.sum_append]; simp [h]
  · rw [List.take_of_length_le (by omega), List.take_of_length_le (by omega)]
    simp [List.getElem?_eq_none (show lens.length ≤ i by omega)]
theorem sum_drop_take (lens : List Int) (i j : Nat) (h : i ≤ j) : ((lens.drop i).take (j - i)).sum = preL lens j - preL lens i := by
  have e : lens.take j = lens.take i ++ (lens.drop i).take (j - i) := by
    rw [← List.drop_take]
    have := List.take_append_drop i (lens.take j)
    rw [List.take_take, Nat.min_eq_left h] at this
    exact this.symm
  unfold preL
  rw [e, List.sum_append]; omega
theorem preL_mono {lens : List Int} (hl : ∀ i, 0 ≤ lens.getD i 0) : ∀ {i j}, i ≤ j → preL lens i ≤ preL lens j := by
  intro i j h
  induction h with
  | refl => exact Int.le_refl _
  | step _ ih => rw [preL_succ]; have := hl (‹Nat›); omega
section
variable {W name : Int} {lens : List Int}
theorem cr_cases (W : Int) (lens : List Int) (name : Int) (i : Nat) :
    (0 < (cr W lens name i).1 ∧ W < (cr W lens name i).1 + lens.getD i 0 ∧ (cr W lens name (i + 1)).1 = lens.getD i 0 ∧ (cr W lens name (i + 1)).2 = (cr W lens name i).2 + 1) ∨
    (¬ (0 < (cr W lens name i).1 ∧ W < (cr W lens name i).1 + lens.getD i 0) ∧ (cr W lens name (i + 1)).1 = (cr W lens name i).1 + lens.getD i 0 ∧ (cr W lens name (i + 1)).2 = (cr W lens name i).2) := by
  have e : cr W lens name (i + 1) = crStep W (lens.getD i 0) (cr W lens name i) := rfl
  rw [e]; unfold crStep
  by_cases h : 0 < (cr W lens name i).1 ∧ W < (cr W lens name i).1 + lens.getD i 0
  · rw [if_pos h]; exact .inl ⟨h.1, h.2, rfl, rfl⟩
  · rw [if_neg h]; exact .inr ⟨h, rfl, rfl⟩
theorem cr_up (W : Int) (lens : List Int) (name : Int) (i : Nat) : (cr W lens name i).2 ≤ (cr W lens name (i + 1)).2 ∧ (cr W lens name (i + 1)).2 ≤ (cr W lens name i).2 + 1 := by
  rcases cr_cases W lens name i with ⟨_, _, _, h⟩ | ⟨_, _, h⟩ <;> omega
theorem cr_mono (W : Int) (lens : List Int) (name : Int) {i j : Nat} (h : i ≤ j) : (cr W lens name i).2 ≤ (cr W lens name j).2 := by
  induction h with
  | refl => exact Nat.le_refl _
  | step _ ih => exact Nat.le_trans ih (cr_up _ _ _ _).1
theorem cr_le (W : Int) (lens : List Int) (name : Int) : ∀ i, (cr W lens name i).2 ≤ i
  | 0 => Nat.le_refl _
  | i + 1 => by have := cr_le W lens name i; have := (cr_up W lens name i).2; omega
theorem cr_some (W : Int) (lens : List Int) (name : Int) (i : Nat) : ∀ j, i ≤ j → (cr W lens name i).2 + 1 ≤ (cr W lens name (j + 1)).2 → ∃ p, i ≤ p ∧ p ≤ j ∧ (cr W lens name (j + 1)).1 = preL lens (j + 1) - preL lens p := by
  intro j
  induction j with
  | zero =>
    intro hij h
    have hi : i = 0 := by omega
    subst hi
    rcases cr_cases W lens name 0 with ⟨_, _, h1, h2⟩ | ⟨_, _, h2⟩
    · exact ⟨0, Nat.le_refl _, Nat.le_refl _, by rw [h1, preL_succ]; omega⟩
    · omega
  | succ j ih =>
    intro hij h
    rcases cr_cases W lens name (j + 1) with ⟨_, _, h1, h2⟩ | ⟨_, h1, h2⟩
    · exact ⟨j + 1, hij, Nat.le_refl _, by rw [h1, preL_succ]; omega⟩
    · by_cases hi : i = j + 1
      · subst hi; omega
      · obtain ⟨p, a, b, c⟩ := ih (by omega) (by omega)
        exact ⟨p, a, by omega, by rw [h1, c, preL_succ lens (j + 1)]; omega⟩
theorem cr_two (hl : ∀ i, 0 ≤ lens.getD i 0) (i : Nat) : ∀ j, i ≤ j → (cr W lens name i).2 + 2 ≤ (cr W lens name (j + 1)).2 → ∃ p, i ≤ p ∧ p < j ∧ W < preL lens (j + 1) - preL lens p := by
  intro j
  induction j with
  | zero =>
    intro hij h
    have hi : i = 0 := by omega
    subst hi
    have := (cr_up W lens name 0).2
    omega
  | succ j ih =>
    intro hij h
    by_cases hi : i = j + 1
    · subst hi
      have := (cr_up W lens name (j + 1)).2
      omega
    rcases cr_cases W lens name (j + 1) with ⟨_, hb, h1, h2⟩ | ⟨_, h1, h2⟩
    · obtain ⟨p, a, b, c⟩ := cr_some W lens name i j (by omega) (by omega)
      exact ⟨p, a, by omega, by rw [c] at hb; rw [preL_succ lens (j + 1)]; omega⟩
    · obtain ⟨p, a, b, c⟩ := ih (by omega) (by omega)
      have := hl (j + 1)
      exact ⟨p, a, by omega, by rw [preL_succ lens (j + 1)]; omega⟩
theorem cr_none (i : Nat) : ∀ j, i ≤ j → (cr W lens name (j + 1)).2 = (cr W lens name i).2 → (cr W lens name (j + 1)).1 = (cr W lens name i).1 + preL lens (j + 1) - preL lens i ∧ ¬ (0 < (cr W lens name j).1 ∧ W < (cr W lens name j).1 + lens.getD j 0) := by
  intro j
  induction j with
  | zero =>
    intro hij h
    have hi : i = 0 := by omega
    subst hi
    rcases cr_cases W lens name 0 with ⟨_, _, h1, h2⟩ | ⟨hn, h1, h2⟩
    · omega
    · exact ⟨by rw [h1, preL_succ]; omega, hn⟩
  | succ j ih =>
    intro hij h
    rcases cr_cases W lens name (j + 1) with ⟨_, _, h1, h2⟩ | ⟨hn, h1, h2⟩
    · have := cr_mono W lens name hij; omega
    · refine ⟨?_, hn⟩
      by_cases hi : i = j + 1
      · subst hi; rw [h1, preL_succ]; omega
      · obtain ⟨c, _⟩ := ih (by omega) (by omega)
        rw [h1, c, preL_succ lens (j + 1)]; omega
theorem cr_pos (hn : 0 ≤ name) {n : Nat} (hl : ∀ i, i < n → 2 ≤ lens.getD i 0) : ∀ j, j ≤ n → 0 ≤ (cr W lens name j).1 ∧ (0 < j → lens.getD (j - 1) 0 ≤ (cr W lens name j).1)
  | 0, _ => ⟨hn, fun h => absurd h (Nat.lt_irrefl _)⟩
  | j + 1, h => by
    have ih := (cr_pos hn hl j (by omega)).1
    have := hl j (by omega)
    rcases cr_cases W lens name j with ⟨_, _, h1, h2⟩ | ⟨_, h1, h2⟩ <;> rw [h1] <;> exact ⟨by omega, fun _ => by rw [Nat.add_sub_cancel]; omega⟩
theorem strange_mem {j i : Nat} : i ∈ strangeAt W lens j ↔ i < j ∧ W < preL lens (j + 1) - preL lens i := by
  unfold strangeAt
  rw [List.mem_filter, List.mem_range]
  constructor
  · rintro ⟨a, b⟩
    refine ⟨a, ?_⟩
    rw [sum_drop_take lens i (j + 1) (by omega)] at b
    simpa using b
  · rintro ⟨a, b⟩
    refine ⟨a, ?_⟩
    rw [sum_drop_take lens i (j + 1) (by omega)]
    simpa using b
theorem strange_last {j i : Nat} (h : (strangeAt W lens j).getLast? = some i) : i ∈ strangeAt W lens j ∧ ∀ p ∈ strangeAt W lens j, p ≤ i := by
  refine ⟨List.mem_of_getLast? h, ?_⟩
  have hs : (strangeAt W lens j).Pairwise (· < ·) := by
    unfold strangeAt
    exact List.Pairwise.filter _ List.pairwise_lt_range
  obtain ⟨l, e⟩ := List.getLast?_eq_some_iff.mp h
  intro p hp
  rw [e] at hs hp
  rcases List.mem_append.mp hp with q | q
  · have := (List.pairwise_append.mp hs).2.2 p q i (by simp)
    omega
  · rw [List.mem_singleton.mp q]; exact Nat.le_refl _
theorem marks_get (n : Nat) : ∀ j, j < n → (marksOf W lens n).getD j 0 = markAt W lens (marksOf W lens j) j := by
  induction n with
  | zero => intro j h; omega
  | succ n ih =>
    intro j h
    have e : marksOf W lens (n + 1) = marksOf W lens n ++ [markAt W lens (marksOf W lens n) n] := rfl
    have hlen := marksOf_len W lens n
    rw [e]
    by_cases hj : j = n
    · subst hj
      rw [List.getD_eq_getElem?_getD, List.getElem?_append_right (by omega), hlen]; simp
    · rw [List.getD_eq_getElem?_getD, List.getElem?_append_left (by omega), ← List.getD_eq_getElem?_getD]
      exact ih j (by omega)
theorem marks_rows (hW : 2 ≤ W) (hn : 0 ≤ name) {n : Nat} (hl : ∀ i, i < n → 2 ≤ lens.getD i 0) (hl0 : ∀ i, 0 ≤ lens.getD i 0) : ∀ j, j < n → ((marksOf W lens n).getD j 0 + min name (W - 1)) / W = ((cr W lens name (j + 1)).2 : Int) := by
  intro j
  induction j using Nat.strongRecOn with
  | ind j ih =>
    intro hj
    rw [marks_get n j hj]
    unfold markAt
    cases hs : (strangeAt W lens j).getLast? with
    | some i =>
      obtain ⟨hm, hlast⟩ := strange_last hs
      obtain ⟨hij, hw⟩ := strange_mem.mp hm
      have IH := ih i hij (by omega)
      rw [marks_get n i (by omega)] at IH
      have hmi : (marksOf W lens j).getD i 0 = markAt W lens (marksOf W lens i) i := marks_get j i hij
      show ((marksOf W lens j).getD i 0 + W + min name (W - 1)) / W = _
      rw [hmi]
      have e : markAt W lens (marksOf W lens i) i + W + min name (W - 1) = (markAt W lens (marksOf W lens i) i + min name (W - 1)) + W * 1 := by omega
      rw [e, Int.add_mul_ediv_left _ _ (by omega), IH]
      have h2 : ¬ (cr W lens name (i + 1)).2 + 2 ≤ (cr W lens name (j + 1)).2 := by
        intro q
        obtain ⟨p, a, b, c⟩ := cr_two hl0 (i + 1) j (by omega) q
        have := hlast p (strange_mem.mpr ⟨b, c⟩)
        omega
      have h1 : (cr W lens name (j + 1)).2 ≠ (cr W lens name (i + 1)).2 := by
        intro q
        obtain ⟨c, nb⟩ := cr_none (i + 1) j (by omega) q
        have p1 := (cr_pos (W := W) hn hl (i + 1) (by omega)).2 (by omega)
        rw [Nat.add_sub_cancel] at p1
        have p2 := (cr_pos (W := W) hn hl j (by omega)).2 (by omega)
        have p3 := hl (j - 1) (by omega)
        have p4 : (cr W lens name (j + 1)).1 = (cr W lens name j).1 + lens.getD j 0 := by
          rcases cr_cases W lens name j with ⟨_, _, _, h2⟩ | ⟨_, h1, _⟩
          · exact absurd ⟨‹_›, ‹_›⟩ nb
          · exact h1
        have p5 := preL_succ lens i
        omega
      have h3 := cr_mono W lens name (show i + 1 ≤ j + 1 by omega)
      omega
    | none =>
      have hno : ∀ p, p < j → ¬ W < preL lens (j + 1) - preL lens p := by
        intro p hp q
        have hm : p ∈ strangeAt W lens j := strange_mem.mpr ⟨hp, q⟩
        rw [List.getLast?_eq_none_iff.mp hs] at hm
        cases hm
      have hP0 : preL lens 0 = 0 := rfl
      show (min (preL lens (j + 1)) W - 1 + min name (W - 1)) / W = _
      have hS : 2 ≤ preL lens (j + 1) := by
        have := preL_mono hl0 (show 0 ≤ j by omega)
        rw [preL_succ]
        have := hl j hj
        omega
      have h2 : ¬ (cr W lens name 0).2 + 2 ≤ (cr W lens name (j + 1)).2 := by
        intro q
        obtain ⟨p, a, b, c⟩ := cr_two hl0 0 j (by omega) q
        exact hno p b c
      have hr0 : (cr W lens name 0).2 = 0 := rfl
      have hc0 : (cr W lens name 0).1 = name := rfl
      have hrow : (cr W lens name (j + 1)).2 = 1 ↔ (0 < name ∧ W < name + preL lens (j + 1)) := by
        constructor
        · intro q
          obtain ⟨p, a, b, c⟩ := cr_some W lens name 0 j (by omega) (by omega)
          -- the first break
          have fb : ∀ k, k ≤ j → (cr W lens name k).2 = 0 → (cr W lens name (k + 1)).2 = 1 → 0 < name ∧ W < name + preL lens (j + 1) := by
            intro k hk z0 z1
            have ck : (cr W lens name k).1 = name + preL lens k := by
              cases k with
              | zero => show name = name + preL lens 0; omega
              | succ k => have := (cr_none (W := W) (lens := lens) (name := name) 0 k (by omega) (by omega)).1; omega
            rcases cr_cases W lens name k with ⟨g1, g2, _, _⟩ | ⟨_, _, h2⟩
            · rw [ck] at g1 g2
              have m1 := preL_mono hl0 (show k + 1 ≤ j + 1 by omega)
              have m2 := preL_succ lens k
              refine ⟨?_, by omega⟩
              by_cases hk0 : k = 0
              · subst hk0; omega
              · have := hno 0 (by omega)
                omega
            · omega
          have ex : ∀ k, k ≤ j + 1 → (cr W lens name k).2 = 1 → ∃ k', k' < k ∧ (cr W lens name k').2 = 0 ∧ (cr W lens name (k' + 1)).2 = 1 := by
            intro k
            induction k with
            | zero => intro _ z; omega
            | succ k ihk =>
              intro hk z
              by_cases z0 : (cr W lens name k).2 = 0
              · exact ⟨k, by omega, z0, z⟩
              · have := (cr_up W lens name k).1
                obtain ⟨k', x, y⟩ := ihk (by omega) (by omega)
                exact ⟨k', by omega, y⟩
          obtain ⟨k, hk, z0, z1⟩ := ex (j + 1) (Nat.le_refl _) q
          exact fb k (by omega) z0 z1
        · rintro ⟨n0, hw⟩
          apply Classical.byContradiction
          intro q
          have z : (cr W lens name (j + 1)).2 = (cr W lens name 0).2 := by omega
          obtain ⟨c, nb⟩ := cr_none (W := W) (lens := lens) (name := name) 0 j (by omega) z
          have p4 : (cr W lens name (j + 1)).1 = (cr W lens name j).1 + lens.getD j 0 := by
            rcases cr_cases W lens name j with ⟨_, _, _, h2⟩ | ⟨_, h1, _⟩
            · exact absurd ⟨‹_›, ‹_›⟩ nb
            · exact h1
          have p5 : 0 < (cr W lens name j).1 := by
            by_cases hj0 : j = 0
            · subst hj0; rw [hc0]; exact n0
            · have p2 := (cr_pos (W := W) hn hl j (by omega)).2 (by omega)
              have p3 := hl (j - 1) (by omega)
              omega
          omega
      have hS' : preL lens (j + 1) ≤ W ∨ j = 0 := by
        by_cases hj0 : j = 0
        · exact .inr hj0
        · have := hno 0 (by omega); left; omega
      by_cases q : 0 < name ∧ W < name + preL lens (j + 1)
      · rw [hrow.mpr q]
        have lo : W ≤ min (preL lens (j + 1)) W - 1 + min name (W - 1) := by omega
        have hi : min (preL lens (j + 1)) W - 1 + min name (W - 1) < W + W := by omega
        have e : min (preL lens (j + 1)) W - 1 + min name (W - 1) = (min (preL lens (j + 1)) W - 1 + min name (W - 1) - W) + W * 1 := by omega
        rw [e, Int.add_mul_ediv_left _ _ (by omega), Int.ediv_eq_zero_of_lt (by omega) (by omega)]; rfl
      · have z : (cr W lens name (j + 1)).2 = 0 := by
          have : (cr W lens name (j + 1)).2 ≠ 1 := fun z => q (hrow.mp z)
          omega
        rw [z, Int.ediv_eq_zero_of_lt (by omega) (by omega)]; rfl
end
end Mine
open PySem PySem.W PyProof.Rows PySem.Calls PySem.Spec
set_option Elab.async false
set_option maxRecDepth 100000
set_option maxHeartbeats 1000000
set_option linter.unusedVariables false
namespace Mine
/-- the law's frame at a turn: what stood at s₀ stands, but the frame and the tables -/
structure Lx (w : World) (g : Heap) (S s₀ s : Shared) (L : Addr) (m : PySem.Str → Option Value) : Prop where
  px : Px w g S s L m
  tb : Tb s.heap
  hid : S.heap.get? 140 = none ∧ S.heap.get? 147 = none
  big : 152 ≤ S.heap.objs.size
  n0 : ∃ m₀, s₀.heap.Ns L m₀
  kp : ∀ b o, b ≠ L → b ≠ 140 → b ≠ 147 → s₀.heap.get? b = some o → s.heap.get? b = some o
/-- three texts each -/
noncomputable def PairsAt (h : Heap) (pl : Addr) (ts : List (PySem.Str × PySem.Str × PySem.Str)) : Prop := ∃ vs n, h.get? pl = some (lstObj vs n) ∧ All2 (fun v t => ∃ r : Nat, v = .ref r ∧ 148 ≤ r ∧ LnAt h r [t.1, t.2.1, t.2.2]) vs ts
section
variable {w : World} {A : Around} {E : Value → Shared → Prop} {S s₀ s s' : Shared} {g h h' e : Heap} {f df c dc ln L l r I pl : Addr} {W k : Int} {qs : List Part} {ls : List PySem.Str} {m m' : PySem.Str → Option Value} {X : List Addr} {R : Result → Shared → Prop} {env : Env} {Q : Flow → Shared → Prop}
theorem not_frame {vs : List Value} {n : Nat} (hn : h.Ns L m) (q : h.get? r = some (lstObj vs n)) : r ≠ L := fun z => by
  obtain ⟨o, es, ep, ho, hd, _⟩ := hn
  rw [z, ho] at q; cases q; cases hd
theorem Lx.start (C : Px w g S s L m) (tb : Tb s.heap) (hid : S.heap.get? 140 = none ∧ S.heap.get? 147 = none) (big : 152 ≤ S.heap.objs.size) : Lx w g S s s L m := ⟨C, tb, hid, big, ⟨m, C.F.ns⟩, fun _ _ _ _ _ q => q⟩
theorem Lx.lt0 (C : Lx w g S s₀ s L m) : L < s₀.heap.objs.size := by
  obtain ⟨m₀, n⟩ := C.n0
  exact n.lt
theorem Lx.l152 (C : Lx w g S s₀ s L m) : 152 ≤ L := Nat.le_trans C.big C.px.hL
theorem Lx.re (C : Lx w g S s₀ s L m) (e : s'.heap = s.heap) (g₂ : s'.gens = s.gens) (o₂ : s'.os = s.os) : Lx w g S s₀ s' L m :=
  ⟨C.px.re e g₂ o₂, e ▸ C.tb, C.hid, C.big, C.n0, fun b o a1 a2 a3 q => e ▸ C.kp b o a1 a2 a3 q⟩
theorem Lx.tok (C : Lx w g S s₀ s L m) {t : Nat} : Lx w g S s₀ { s with toks := t } L m := C.re rfl rfl rfl
theorem far {x : Nat} (h : 152 ≤ x) : x ≠ 140 ∧ x ≠ 147 ∧ x ≠ 144 ∧ x ≠ 151 := ⟨fun z => by subst z; exact absurd h (by decide), fun z => by subst z; exact absurd h (by decide), fun z => by subst z; exact absurd h (by decide), fun z => by subst z; exact absurd h (by decide)⟩
theorem Lx.store (C : Lx w g S s₀ s L m) (F : Fw g e L s'.heap m') (kp : ∀ b o, b ≠ L → s.heap.get? b = some o → s'.heap.get? b = some o) (g₂ : s'.gens = s.gens) (o₂ : s'.os = s.os) : Lx w g S s₀ s' L m' :=
  ⟨C.px.store F kp g₂ o₂, C.tb.up (X := [L]) ⟨fun b o nb q => kp b o (fun z => nb (by rw [z]; exact List.mem_singleton.mpr rfl)) q, fun q => g₂ ▸ q, o₂⟩ (fun x hx => by rw [List.mem_singleton.mp hx]; exact far C.l152), C.hid, C.big, C.n0, fun b o a1 a2 a3 q => kp b o a1 (C.kp b o a1 a2 a3 q)⟩
theorem Lx.keeps (C : Lx w g S s₀ s L m) (kp : ∀ b o, s.heap.get? b = some o → s'.heap.get? b = some o) (g₂ : s'.gens = s.gens) (o₂ : s'.os = s.os) : Lx w g S s₀ s' L m :=
  ⟨C.px.keeps kp g₂ o₂, C.tb.keeps kp, C.hid, C.big, C.n0, fun b o a1 a2 a3 q => kp b o (C.kp b o a1 a2 a3 q)⟩
theorem Lx.up (C : Lx w g S s₀ s L m) (u : Up [] s s') : Lx w g S s₀ s' L m :=
  have k : ∀ b o, s.heap.get? b = some o → s'.heap.get? b = some o := fun b o q => u.keep b o (by simp) q
  ⟨C.px.up u, C.tb.keeps k, C.hid, C.big, C.n0, fun b o a1 a2 a3 q => k b o (C.kp b o a1 a2 a3 q)⟩
/-- not of the turn's start -/
structure NewAt (S s₀ : Shared) (L x : Addr) : Prop where
  S : S.heap.objs.size ≤ x
  L : x ≠ L
  n : s₀.heap.get? x = none
theorem Lx.newAt {x : Addr} (C : Lx w g S s₀ s L m) (hx : s.heap.objs.size ≤ x) : NewAt S s₀ L x := by
  have h1 : L < x := Nat.lt_of_lt_of_le C.px.ltL hx
  have h2 : S.heap.objs.size ≤ x := Nat.le_trans C.px.hL (Nat.le_of_lt h1)
  refine ⟨h2, Nat.ne_of_gt h1, ?_⟩
  cases q : s₀.heap.get? x with
  | none => rfl
  | some o =>
    have fa := far (Nat.le_trans C.big h2)
    exact absurd (Heap.lt_size (C.kp _ _ (Nat.ne_of_gt h1) fa.1 fa.2.1 q)) (Nat.not_lt.mpr hx)
theorem Lx.own (C : Lx w g S s₀ s L m) (u : Up X s s') (hX : ∀ x ∈ X, NewAt S s₀ L x) : Lx w g S s₀ s' L m := by
  exact ⟨C.px.own u (fun x hx => (hX x hx).S) (fun q => (hX L q).L rfl), C.tb.up u fun x hx => far (Nat.le_trans C.big (hX x hx).S), C.hid, C.big, C.n0, fun b o a1 a2 a3 q => u.keep b o (fun z => by rw [(hX b z).n] at q; cases q) (C.kp b o a1 a2 a3 q)⟩
theorem Lx.own1 {x : Addr} (C : Lx w g S s₀ s L m) (kp : ∀ b o, b ≠ x → s.heap.get? b = some o → s'.heap.get? b = some o) (g₂ : s'.gens = s.gens) (o₂ : s'.os = s.os) (hx : NewAt S s₀ L x) : Lx w g S s₀ s' L m :=
  C.own (X := [x]) ⟨fun b o nb q => kp b o (fun z => nb (by rw [z]; exact List.mem_singleton.mpr rfl)) q, fun q => g₂ ▸ q, o₂⟩ fun y hy => by rw [List.mem_singleton.mp hy]; exact hx
theorem Lx.newX (C : Lx w g S s₀ s L m) (h1 : NewAt S s₀ L c) (h2 : NewAt S s₀ L dc) (h3 : NewAt S s₀ L ln) : NewX g c dc ln :=
  ⟨new_none C.px.kb h1.S, new_none C.px.kb h2.S, new_none C.px.kb h3.S⟩
theorem Lx.fx (C : Lx w g S s₀ s L m) (u : Up (FX c dc ln) s s') (tb : Tb s'.heap) (h1 : NewAt S s₀ L c) (h2 : NewAt S s₀ L dc) (h3 : NewAt S s₀ L ln) : Lx w g S s₀ s' L m := by
  have mem : ∀ x, x ∈ FX c dc ln → NewAt S s₀ L x ∨ x = 140 ∨ x = 147 := fun x hx => by
    simp only [List.mem_cons, List.not_mem_nil, or_false] at hx
    rcases hx with rfl | rfl | rfl | q
    · exact .inl h1
    · exact .inl h2
    · exact .inl h3
    · exact .inr q
  have hL : L ∉ FX c dc ln := fun q => by
    rcases mem L q with z | z | z
    · exact z.L rfl
    · exact (far C.l152).1 z
    · exact (far C.l152).2.1 z
  refine ⟨⟨C.px.B, C.px.kb, C.px.F.up u.keep hL ((C.newX h1 h2 h3).fx C.px.B), C.px.hL, ⟨fun b o _ q => u.keep b o (fun z => ?_) (C.px.U.keep b o (by simp) q), fun q => u.gens (C.px.U.gens q), u.os.trans C.px.U.os⟩⟩, tb, C.hid, C.big, C.n0, fun b o a1 a2 a3 q => u.keep b o (fun z => ?_) (C.kp b o a1 a2 a3 q)⟩
  · rcases mem b z with z | z | z
    · exact Nat.lt_irrefl _ (Nat.lt_of_lt_of_le (Heap.lt_size q) z.S)
    · rw [z, C.hid.1] at q; cases q
    · rw [z, C.hid.2] at q; cases q
  · rcases mem b z with z | z | z
    · rw [z.n] at q; cases q
    · exact a2 z
    · exact a3 z
theorem Lx.txt (C : Lx w g S s₀ s L m) (x : LnAt s₀.heap r ls) (hr : 148 ≤ r) : LnAt s.heap r ls := by
  obtain ⟨m₀, n⟩ := C.n0
  obtain ⟨vs, n', q, rest⟩ := x
  exact ⟨vs, n', C.kp _ _ (not_frame n q) (fun z => by subst z; exact absurd hr (by decide)) (fun z => by subst z; exact absurd hr (by decide)) q, rest⟩
theorem Lx.int {ns : List Int} (C : Lx w g S s₀ s L m) (x : InAt s₀.heap r ns) (hr : 148 ≤ r) : InAt s.heap r ns := by
  obtain ⟨m₀, n⟩ := C.n0
  obtain ⟨vs, n', q, rest⟩ := x
  exact ⟨vs, n', C.kp _ _ (not_frame n q) (fun z => by subst z; exact absurd hr (by decide)) (fun z => by subst z; exact absurd hr (by decide)) q, rest⟩
theorem Lx.pairs {ts : List (PySem.Str × PySem.Str × PySem.Str)} (C : Lx w g S s₀ s L m) (x : PairsAt s₀.heap pl ts) (hr : 148 ≤ pl) : PairsAt s.heap pl ts := by
  obtain ⟨m₀, n⟩ := C.n0
  obtain ⟨vs, n', q, rest⟩ := x
  refine ⟨vs, n', C.kp _ _ (not_frame n q) (fun z => by subst z; exact absurd hr (by decide)) (fun z => by subst z; exact absurd hr (by decide)) q, rest.mono fun v t y => ?_⟩
  obtain ⟨r, e, hr, y⟩ := y
  exact ⟨r, e, hr, C.txt y hr⟩
theorem PairsAt.isList {ts : List (PySem.Str × PySem.Str × PySem.Str)} (x : PairsAt h pl ts) : ∃ vs : List Value, vs.length = ts.length ∧ h.IsList pl vs.toArray ∧ ∀ i (hi : i < ts.length), ∃ r : Nat, vs[i]? = some (.ref r) ∧ 148 ≤ r ∧ LnAt h r [ts[i].1, ts[i].2.1, ts[i].2.2] := by
  obtain ⟨vs, n', q, rest⟩ := x
  refine ⟨vs, All2.length rest, ⟨_, q, rfl, n', rfl⟩, fun i hi => ?_⟩
  obtain ⟨v, hv, r, e, hr, y⟩ := rest.at (List.getElem?_eq_getElem hi)
  exact ⟨r, e ▸ hv, hr, y⟩
/-- with a formatter at hand -/
structure Lf (w : World) (g : Heap) (S s₀ s : Shared) (L : Addr) (m : PySem.Str → Option Value) (f df c dc ln : Addr) (W k : Int) (qs : List Part) (ls : List PySem.Str) : Prop where
  lx : Lx w g S s₀ s L m
  fm : Fm w.params s.heap f df c dc ln W k qs ls
  ap : Apart L f df c dc ln
  c0 : NewAt S s₀ L c
  d0 : NewAt S s₀ L dc
  l0 : NewAt S s₀ L ln
theorem Lf.nx (C : Lf w g S s₀ s L m f df c dc ln W k qs ls) : NewX g c dc ln := C.lx.newX C.c0 C.d0 C.l0
theorem Lf.store (C : Lf w g S s₀ s L m f df c dc ln W k qs ls) (F : Fw g e L s'.heap m') (kp : ∀ b o, b ≠ L → s.heap.get? b = some o → s'.heap.get? b = some o) (g₂ : s'.gens = s.gens) (o₂ : s'.os = s.os) : Lf w g S s₀ s' L m' f df c dc ln W k qs ls :=
  ⟨C.lx.store F kp g₂ o₂, C.fm.store C.lx.px.F.ns C.ap kp, C.ap, C.c0, C.d0, C.l0⟩
theorem Lf.keeps (C : Lf w g S s₀ s L m f df c dc ln W k qs ls) (kp : ∀ b o, s.heap.get? b = some o → s'.heap.get? b = some o) (g₂ : s'.gens = s.gens) (o₂ : s'.os = s.os) : Lf w g S s₀ s' L m f df c dc ln W k qs ls :=
  ⟨C.lx.keeps kp g₂ o₂, C.fm.keeps kp, C.ap, C.c0, C.d0, C.l0⟩
theorem Lf.re (C : Lf w g S s₀ s L m f df c dc ln W k qs ls) (e : s'.heap = s.heap) (g₂ : s'.gens = s.gens) (o₂ : s'.os = s.os) : Lf w g S s₀ s' L m f df c dc ln W k qs ls :=
  C.keeps (fun b o q => e ▸ q) g₂ o₂
/-- an iterator goes on -/
theorem Lf.itr {I : Addr} {o : Obj} (C : Lf w g S s₀ s L m f df c dc ln W k qs ls) (ho : s.heap.get? I = some o) (fo : Foreign o) (kp : ∀ b o, b ≠ I → s.heap.get? b = some o → s'.heap.get? b = some o) (g₂ : s'.gens = s.gens) (o₂ : s'.os = s.os) (hI : NewAt S s₀ L I) : Lf w g S s₀ s' L m f df c dc ln W k qs ls := by
  refine ⟨C.lx.own1 kp g₂ o₂ hI, C.fm.frn (X := [I]) ⟨fun b o nb q => kp b o (fun z => nb (by rw [z]; exact List.mem_singleton.mpr rfl)) q, fun q => g₂ ▸ q, o₂⟩ (fun b hb o' q => ?_), C.ap, C.c0, C.d0, C.l0⟩
  rw [List.mem_singleton.mp hb, ho] at q
  cases q; exact fo
theorem Lf.fx {k' : Int} {qs' : List Part} {ls' : List PySem.Str} (C : Lf w g S s₀ s L m f df c dc ln W k qs ls) (u : Up (FX c dc ln) s s') (fm : Fm w.params s'.heap f df c dc ln W k' qs' ls') (tb : Tb s'.heap) : Lf w g S s₀ s' L m f df c dc ln W k' qs' ls' :=
  ⟨C.lx.fx u tb C.c0 C.d0 C.l0, fm, C.ap, C.c0, C.d0, C.l0⟩
theorem Lf.start {k : Int} (C : Lx w g S s₀ s L m) (fm : Fm w.params s.heap f df c dc ln W k qs ls) (hf : NewAt S s₀ L f) (hdf : NewAt S s₀ L df) (h1 : NewAt S s₀ L c) (h2 : NewAt S s₀ L dc) (h3 : NewAt S s₀ L ln) : Lf w g S s₀ s L m f df c dc ln W k qs ls := by
  refine ⟨C, fm, ?_, h1, h2, h3⟩
  have fa := far C.l152
  unfold Apart
  simp only [List.mem_cons, List.not_mem_nil, or_false, not_or]
  exact ⟨Ne.symm hf.L, Ne.symm hdf.L, Ne.symm h1.L, Ne.symm h2.L, Ne.symm h3.L, fa.1, fa.2.1, fa.2.2.1, fa.2.2.2⟩
theorem frn_listit {i : Nat} (hit : h.IsListIter I l i) : ∃ o, h.get? I = some o ∧ Foreign o := by
  obtain ⟨o, ho, hc, hd⟩ := hit
  exact ⟨o, ho, ⟨_, hd⟩, by rw [hc]; nofun, fun z => by rw [hc] at z; injection z with z; exact absurd z (by decide)⟩
theorem ln_item {value slice : PySem.Expr} {i : Nat} {x : PySem.Str} {ti : Tok} {Q : Value → Shared → Prop} (hl : LnAt s.heap l ls) (hx : ls[i]? = some x) (hz : ls.length ≤ 1000) (h : ∀ t, Q (.str x t) s)
    (hs : subscripted slice false (.ref l) (.int (i : Int) ti) = operate [.ref l, .int (i : Int) ti] (getItem (.ref l) (.int (i : Int) ti))) :
    wpAny (model prog w) A (subscriptTail value slice (.ref l) (.int (i : Int) ti)) Q E s := by
  obtain ⟨vs, hv, isl⟩ := hl.isList
  obtain ⟨t, hvi⟩ := StrsAre.at hv hx
  have := (List.getElem?_eq_some_iff.mp hx).1
  exact tail_any isl.typeIs slot_list_getitem.lookup (wpAny_getItem_list (x := .str x t) isl (by omega) (by omega) (by rw [Int.toNat_natCast, List.getElem?_toArray]; exact hvi) (h t)) hs
end
end Mine
open PySem PySem.W PyProof.Rows PySem.Calls PySem.Spec
set_option Elab.async false
set_option maxRecDepth 100000
set_option maxHeartbeats 1000000
set_option linter.unusedVariables false
namespace Mine
noncomputable section
noncomputable def big211 (b : List Stmt) : List Stmt := match b with
  | [_, _, _, _, _, _, _, .For _ _ body _ _, _] => body
  | _ => []
noncomputable def ap211 (b : List Stmt) : Stmt := match big211 b with | _ :: st :: _ => st | _ => default
/-- the formatter behind i chunks -/
noncomputable def stA (W name : Int) (xs : List PySem.Str) (i : Nat) : Int × List Part × List PySem.Str := (xs.take i).foldl (fun st x => stepA W x st) (name, [], [])
theorem stA_succ {W name : Int} {xs : List PySem.Str} {i : Nat} (h : i < xs.length) : stA W name xs (i + 1) = stepA W xs[i] (stA W name xs i) := by
  unfold stA
  rw [List.take_succ_eq_append_getElem h, List.foldl_append]; rfl
structure FitA (x : PySem.Str) (st : Int × List Part × List PySem.Str) : Prop where
  k0 : 0 ≤ st.1
  k1 : st.1 ≤ 1000
  ps : st.2.1.length ≤ 20
  ls : st.2.2.length ≤ 500
  cm : Commas (st.2.1 ++ [bl x])
  sm : SmallT (st.2.1 ++ [bl x])
end
section
variable {w : World} {A : Around} {E : Value → Shared → Prop} {S s₀ s s' : Shared} {g h h' e : Heap} {f df c dc ln L l r I pl : Addr} {W name : Int} {qs : List Part} {ls : List PySem.Str} {m m' : PySem.Str → Option Value} {X : List Addr} {R : Result → Shared → Prop} {env : Env} {Q : Flow → Shared → Prop}
theorem Fm.lts {P : Params} {k : Int} (x : Fm P h f df c dc ln W k qs ls) : c < h.objs.size ∧ dc < h.objs.size ∧ ln < h.objs.size := by
  obtain ⟨_, _, ⟨⟨vs, n1, hc, _⟩, t1, u1, n2, hdc⟩, vl, n3, hln, _⟩ := x
  exact ⟨Heap.lt_size hc, Heap.lt_size hdc, Heap.lt_size hln⟩
theorem append211 {st : Stmt} {ts : List (PySem.Str × PySem.Str × PySem.Str)} (hst : st = ap211 (bodyAt w.params 211)) (he : env = envC w.params 211 L) (rm : Rm A 12)
    (C : Lf w g S s₀ s L m f df c dc ln W name [] []) (n1 : m "formatter" = some (.ref f)) (n2 : m "pairs" = some (.ref pl)) (hp : PairsAt s₀.heap pl ts) (hpl : 148 ≤ pl) (hz : ts.length ≤ 20)
    (fit : ∀ i (hi : i < (ts.map (·.2.2)).length), FitA (ts.map (·.2.2))[i] (stA W name (ts.map (·.2.2)) i))
    (h : ∀ s' m', Lf w g S s₀ s' L m' f df c dc ln W (stA W name (ts.map (·.2.2)) ts.length).1 (stA W name (ts.map (·.2.2)) ts.length).2.1 (stA W name (ts.map (·.2.2)) ts.length).2.2 → (∀ x : PySem.Str, x ≠ "pair" → m' x = m x) → Q .next s') :
    wpAny (model prog w) A (exec st env) Q E s := by
  subst hst he
  have kf := (fn211 w.params).kind
  have hxl : (ts.map (·.2.2)).length = ts.length := List.length_map ..
  refine wpAny_ForW ?_
  refine lv C.lx.px.F rfl kf rfl n2 ?_
  obtain ⟨vs, hvl, isl, _⟩ := (C.lx.pairs hp hpl).isList
  refine wpAny_pyIter_list isl ?_
  have hit : (s.heap.push { cls := .type "list_iterator", data := .fields #[.ref pl, .int 0 0] }).IsListIter s.heap.objs.size pl 0 := ⟨_, Heap.get?_push_size _ rfl, rfl, rfl⟩
  have C₁ := C.keeps (s' := { s with heap := s.heap.push { cls := .type "list_iterator", data := .fields #[.ref pl, .int 0 0] } }) (fun b o q => Heap.get?_push_of_some _ q) rfl rfl
  obtain ⟨I, eI⟩ : ∃ I, I = s.heap.objs.size := ⟨_, rfl⟩
  have nI : NewAt S s₀ L I := C.lx.newAt (Nat.le_of_eq eI.symm)
  have nfx : I ∉ FX c dc ln := by
    obtain ⟨l1, l2, l3⟩ := C.fm.lts
    have fa := far (Nat.le_trans C.lx.big nI.S)
    rw [← eI] at l1 l2 l3
    simp only [List.mem_cons, List.not_mem_nil, or_false, not_or]
    exact ⟨Nat.ne_of_gt l1, Nat.ne_of_gt l2, Nat.ne_of_gt l3, fa.1, fa.2.1⟩
  rw [← eI] at hit ⊢
  refine ForW.loop (n := ts.length) (fun i s' => ∃ m', Lf w g S s₀ s' L m' f df c dc ln W (stA W name (ts.map (·.2.2)) i).1 (stA W name (ts.map (·.2.2)) i).2.1 (stA W name (ts.map (·.2.2)) i).2.2 ∧ (∀ x : PySem.Str, x ≠ "pair" → m' x = m x) ∧ s'.heap.IsListIter I pl i) ?_ ?_ (by intro _; rfl) (Nat.zero_le _)
    ⟨m, C₁, fun _ _ => rfl, hit⟩
  · rintro i s₂ hi ⟨m₂, C₂, n₂, hit₂⟩
    obtain ⟨vs₂, hvl₂, isl₂, it₂⟩ := (C₂.lx.pairs hp hpl).isList
    obtain ⟨r, hv, hr, hln⟩ := it₂ i hi
    refine wpAny_pyNext_list_item hit₂ isl₂ (x := .ref r) (by simpa using hv) ?_
    intro h₃ hit₃ sb
    obtain ⟨oI, hoI, foI⟩ := frn_listit hit₂
    have C₃ := C₂.itr (s' := { s₂ with heap := h₃ }) hoI foI (fun b o nb q => sb.extBut b o nb q) rfl rfl nI
    have rI : r ≠ I := fun z => by
      obtain ⟨_, _, q, _⟩ := hln
      rw [z, hoI] at q; cases q
      obtain ⟨⟨_, e⟩, _⟩ := foI
      cases e
    refine ⟨_, rfl, ?_⟩
    refine wpAny_assign_Name ?_
    refine sw s₂.gens s₂.os rfl rfl C₃.lx.px.F rfl kf rfl ?_
    intro s₄ F₄ k₄ g₄ o₄
    have C₄ := C₃.store F₄ k₄ g₄ o₄
    have rL : r ≠ L := by obtain ⟨_, _, q, _⟩ := hln; exact not_frame C₂.lx.px.F.ns q
    have hln₄ : LnAt s₄.heap r [ts[i].1, ts[i].2.1, ts[i].2.2] := hln.keep fun o q => k₄ _ _ rL (sb.extBut _ _ rI q)
    have hit₄ := ListIter.keep hit₃ fun o q => k₄ _ _ nI.L q
    refine wpAny_execs_cons ?_
    refine wpAny_Expr ?_
    refine MethodCall_ ?_
    refine lv C₄.lx.px.F rfl kf rfl (upd_ne ((n₂ _ (by decide)).trans n1)) ?_
    obtain ⟨ho, ⟨td, nd, hdf⟩, _⟩ := id C₄.fm
    refine fm_meth (fn := 91) C₄.lx.px.kk ho hdf (by kernel_rfl) (by kernel_rfl) (by kernel_rfl) ?_
    refine callWith_K C₄.lx.px.kk (by kernel_rfl) ?_
    with_reducible refine args_cons ?_ (by with_unfolding_all rfl)
    with_reducible refine wpAny_Constant_str ?_
    with_reducible refine args_cons ?_ (by with_unfolding_all rfl)
    refine Subscript_ ?_
    have C₅ := C₄.re (s' := { s₄ with toks := s₄.toks + 1 }) rfl rfl rfl
    refine lv C₅.lx.px.F rfl kf rfl upd_eq ?_
    with_reducible refine wpAny_Constant_int ?_
    refine ln_item (i := 2) (x := ts[i].2.2) (s := { s₄ with toks := s₄.toks + 1 + 1 }) hln₄ rfl (Nat.le_of_ble_eq_true rfl) ?_ (by with_unfolding_all rfl)
    intro t
    refine args_nil ?_
    have C₆ := C₄.re (s' := { s₄ with toks := s₄.toks + 1 + 1 }) rfl rfl rfl
    have hi' : i < (ts.map (·.2.2)).length := hxl ▸ hi
    have ft := fit i hi'
    have ex : (ts.map (·.2.2))[i] = ts[i].2.2 := List.getElem_map ..
    refine ⟨C₆.lx.px.kk, ?_⟩
    refine wpAny_call (append_ct C₆.lx.px.B C₆.lx.px.F.base rm.mono C₆.nx C₆.fm C₆.lx.tb ft.k0 ft.k1 ft.ps ft.ls (ex ▸ ft.cm) (ex ▸ ft.sm) ?_)
    intro s₇ u₇ fm₇ tb₇
    have C₇ := C₆.fx u₇ fm₇ tb₇
    rw [← ex, ← stA_succ hi'] at C₇
    refine wpAny_execs_nil ?_
    refine ⟨_, C₇, fun x hx => (if_neg hx).trans (n₂ x hx), ?_⟩
    exact ListIter.keep hit₄ fun o q => u₇.keep _ _ nfx q
  · rintro s₂ ⟨m₂, C₂, n₂, hit₂⟩
    obtain ⟨vs₂, hvl₂, isl₂, it₂⟩ := (C₂.lx.pairs hp hpl).isList
    refine wpAny_pyNext_list_end rm.hnd hit₂ isl₂ (by simp [hvl₂]) ?_
    intro h₃ eb
    obtain ⟨oI, hoI, foI⟩ := frn_listit hit₂
    refine ⟨rfl, ?_⟩
    have C₃ := C₂.itr (s' := { s₂ with heap := h₃ }) hoI foI (fun b o nb q => eb b o nb q) rfl rfl nI
    refine wpAny_execs_nil ?_
    exact h _ m₂ C₃ n₂
end
end Mine
open PySem PySem.W PyProof.Rows PySem.Calls PySem.Spec
set_option Elab.async false
set_option maxRecDepth 100000
set_option maxHeartbeats 1000000
set_option linter.unusedVariables false
namespace Mine
noncomputable section
noncomputable def turn2 (b : List Stmt) : List Stmt := match big211 b with
  | [_, _, _, _, _, _, _, .For _ _ body _ _, _, _, _, _] => body
  | _ => []
noncomputable def tail2 (b : List Stmt) : List Stmt := match turn2 b with
  | [_, _, a, b, c] => [a, b, c]
  | _ => []
noncomputable def TupsAt (h : Heap) (rd : Addr) (ps : List (PySem.Str × PySem.Str)) : Prop := ∃ vs n, h.get? rd = some (lstObj vs n) ∧ All2 (TupIs h) vs ps
end
theorem str_len (x y : PySem.Str) : (x ++ y).length = x.length + y.length := by
  rw [← sg_length, sg_append, List.length_append, sg_length, sg_length]
section
variable {w : World} {A : Around} {E : Value → Shared → Prop} {S s₀ s s' : Shared} {g h h' e : Heap} {f df c dc ln L l r I pl sh rd : Addr} {W name : Int} {qs : List Part} {ls : List PySem.Str} {m m' : PySem.Str → Option Value} {X : List Addr} {R : Result → Shared → Prop} {env : Env} {Q : Flow → Shared → Prop} {ps : List (PySem.Str × PySem.Str)}
theorem TupsAt.keep (x : TupsAt h rd ps) (hr : rd ∉ X) (k : ∀ b o, b ∉ X → h.get? b = some o → h'.get? b = some o) (hX : ∀ b ∈ X, ∀ o, h.get? b = some o → o.cls ≠ .type "tuple" ∨ ∃ es n, o.data = .dict es n) : TupsAt h' rd ps := by
  obtain ⟨vs, n, q, rest⟩ := x
  exact ⟨vs, n, k _ _ hr q, rest.mono fun v p y => y.ext k hX⟩
theorem TupsAt.keeps (x : TupsAt h rd ps) (k : ∀ b o, h.get? b = some o → h'.get? b = some o) : TupsAt h' rd ps :=
  x.keep (X := []) (by simp) (fun b o _ q => k b o q) fun b hb => by cases hb
theorem pr_item {value slice : PySem.Expr} {ts : List (PySem.Str × PySem.Str × PySem.Str)} {i : Nat} {ti : Tok} {Q : Value → Shared → Prop} (hl : PairsAt s.heap pl ts) (hx : i < ts.length) (hz : ts.length ≤ 1000) (h : ∀ r : Nat, LnAt s.heap r [ts[i].1, ts[i].2.1, ts[i].2.2] → Q (.ref r) s)
    (hs : subscripted slice false (.ref pl) (.int (i : Int) ti) = operate [.ref pl, .int (i : Int) ti] (getItem (.ref pl) (.int (i : Int) ti))) :
    wpAny (model prog w) A (subscriptTail value slice (.ref pl) (.int (i : Int) ti)) Q E s := by
  obtain ⟨vs, hvl, isl, it⟩ := hl.isList
  obtain ⟨r, hv, _, hln⟩ := it i hx
  exact tail_any isl.typeIs slot_list_getitem.lookup (wpAny_getItem_list (x := .ref r) isl (Int.natCast_nonneg i) (by omega) (by rw [Int.toNat_natCast, List.getElem?_toArray]; exact hv) (h r hln)) hs
theorem ns_tuple (hn : h.Ns L m) (o : Obj) (q : h.get? L = some o) : o.cls ≠ .type "tuple" ∨ ∃ es n, o.data = .dict es n := by
  obtain ⟨o', es, ep, ho, hd, _⟩ := hn
  rw [ho] at q; cases q
  exact .inr ⟨_, _, hd⟩
theorem lst_tuple {vs : List Value} {n : Nat} (ho : h.get? l = some (lstObj vs n)) (o : Obj) (q : h.get? l = some o) : o.cls ≠ .type "tuple" ∨ ∃ es n, o.data = .dict es n := by
  rw [ho] at q; cases q
  exact .inl (fun z => by injection z with z; exact absurd z (by decide))
theorem tail2_ct {p : Nat} {bar d : PySem.Str} {shown : List PySem.Str} {ts : List (PySem.Str × PySem.Str × PySem.Str)} {td tb tp : Tok} {body : List Stmt} (hb : body = tail2 (bodyAt w.params 211)) (he : env = envC w.params 211 L) (C : Lx w g S s₀ s L m)
    (n1 : m "due" = some (.str d td)) (n2 : m "bar" = some (.str bar tb)) (n3 : m "p" = some (.int (p : Int) tp)) (n4 : m "pairs" = some (.ref pl)) (n5 : m "shown" = some (.ref sh)) (n6 : m "read" = some (.ref rd))
    (hsh : LnAt s.heap sh shown) (hrd : TupsAt s.heap rd ps) (nsh : NewAt S s₀ L sh) (nrd : NewAt S s₀ L rd) (hsr : sh ≠ rd) (hp : PairsAt s₀.heap pl ts) (hpl : 148 ≤ pl) (hi : p < ts.length) (hz : ts.length ≤ 20) (hlen : ts[p].2.1.length ≤ 100 ∧ ts[p].2.2.length ≤ 100) (hbar : bar.length ≤ 10) (hst : (Txt.strip bar).length ≤ 10) (hd : d.length ≤ 10000)
    (hs1 : shown.length ≤ 100) (hs2 : ps.length ≤ 100)
    (h : ∀ s' t', Lx w g S s₀ s' L (fun y => if y = "due" then some (.str (d ++ ((Txt.strip bar ++ " ") ++ ts[p].2.2)) t') else m y) → LnAt s'.heap sh (shown ++ [bar ++ ts[p].2.1]) → TupsAt s'.heap rd (ps ++ [(bar ++ ⟨#[97 + p]⟩, ts[p].1)]) →
      (∀ b o, b ≠ L → b ≠ sh → b ≠ rd → s.heap.get? b = some o → s'.heap.get? b = some o) → Q .next s') :
    wpAny (model prog w) A (execs body env) Q E s := by
  subst hb he
  have kf := (fn211 w.params).kind
  have shS : LnAt s.heap sh shown := hsh
  have e1 : (" " : PySem.Str).length = 1 := by decide +kernel
  -- due += bar.strip() + ' ' + pairs[p][2]
  refine wpAny_execs_cons ?_
  refine wpAny_AugAssign_Name ?_
  refine wpAny_loadName_local kf rfl C.px.F.ns n1 ?_
  refine wpAny_BinOp ?_
  refine wpAny_BinOp ?_
  refine MethodCall_ ?_
  refine lv C.px.F rfl kf rfl n2 ?_
  refine GM.strip ?_
  refine callWith_method0 ?_
  refine SC.strip ?_ (by rw [sizeLine_eq]; exact Nat.le_trans hbar (Nat.le_of_ble_eq_true rfl))
  intro t₁ k₁
  with_reducible refine wpAny_Constant_str ?_
  refine add_str ?_ (by rw [e1, sizeLine_eq]; exact Nat.le_trans (Nat.add_le_add_right hst 1) (Nat.le_of_ble_eq_true rfl))
  intro t₂ k₂
  refine gn s.heap s.gens s.os rfl rfl rfl fun s₁ e₁ g₁ o₁ => ?_
  have C₁ := C.re (s' := s₁) e₁ g₁ o₁
  refine Subscript_ ?_
  refine Subscript_ ?_
  refine lv C₁.px.F rfl kf rfl n4 ?_
  refine lv C₁.px.F rfl kf rfl n3 ?_
  refine pr_item (C₁.pairs hp hpl) hi (by omega) ?_ (by with_unfolding_all rfl)
  intro r₁ hr₁
  with_reducible refine wpAny_Constant_int ?_
  refine ln_item (i := 2) (x := ts[p].2.2) (s := { s₁ with toks := s₁.toks + 1 }) hr₁ rfl (Nat.le_of_ble_eq_true rfl) ?_ (by with_unfolding_all rfl)
  intro t₃
  have hx1 : (Txt.strip bar ++ (" " : PySem.Str)).length ≤ 11 := by rw [str_len, e1]; exact Nat.add_le_add_right hst 1
  refine add_str ?_ (by rw [sizeLine_eq]; exact Nat.le_trans (Nat.add_le_add hx1 hlen.2) (Nat.le_of_ble_eq_true rfl))
  intro t₄ k₄
  refine iadd_str ?_ (by rw [str_len, sizeLine_eq]; exact Nat.le_trans (Nat.add_le_add hd (Nat.add_le_add hx1 hlen.2)) (Nat.le_of_ble_eq_true rfl))
  intro t₅ k₅
  refine sw s₁.gens s₁.os rfl rfl C₁.px.F rfl kf rfl ?_
  intro s₂ F₂ q₂ g₂ o₂
  have C₂ := C₁.store F₂ q₂ g₂ o₂
  have k02 : ∀ b o, b ≠ L → s.heap.get? b = some o → s₂.heap.get? b = some o := fun b o nb q => q₂ b o nb (e₁ ▸ q)
  have hsh₂ : LnAt s₂.heap sh shown := hsh.keep fun o q => k02 _ _ nsh.L q
  have hrd₂ : TupsAt s₂.heap rd ps := hrd.keep (X := [L]) (fun q => nrd.L (List.mem_singleton.mp q)) (fun b o nb q => k02 b o (fun z => nb (by rw [z]; exact List.mem_singleton.mpr rfl)) q) fun b hb o q => by
    rw [List.mem_singleton.mp hb] at q
    exact ns_tuple C.px.F.ns o q
  -- shown.append(bar + pairs[p][1])
  refine wpAny_execs_cons ?_
  refine wpAny_Expr ?_
  refine MethodCall_ ?_
  refine lv C₂.px.F rfl kf rfl (upd_ne n5) ?_
  obtain ⟨vl, nl, hlo, hls⟩ := id hsh₂
  refine getMethod_list_append hlo rfl rfl ?_
  refine callWith_method1 ?_
  with_reducible refine args_cons ?_ (by with_unfolding_all rfl)
  refine wpAny_BinOp ?_
  refine lv C₂.px.F rfl kf rfl (upd_ne n2) ?_
  refine Subscript_ ?_
  refine Subscript_ ?_
  refine lv C₂.px.F rfl kf rfl (upd_ne n4) ?_
  refine lv C₂.px.F rfl kf rfl (upd_ne n3) ?_
  refine pr_item (C₂.pairs hp hpl) hi (by omega) ?_ (by with_unfolding_all rfl)
  intro r₂ hr₂
  with_reducible refine wpAny_Constant_int ?_
  refine ln_item (i := 1) (x := ts[p].2.1) (s := { s₂ with toks := s₂.toks + 1 }) hr₂ rfl (Nat.le_of_ble_eq_true rfl) ?_ (by with_unfolding_all rfl)
  intro t₆
  refine add_str ?_ (by rw [sizeLine_eq]; exact Nat.le_trans (Nat.add_le_add hbar hlen.1) (Nat.le_of_ble_eq_true rfl))
  intro t₇ k₇
  refine args_nil ?_
  refine ln_append (s := { s₂ with toks := k₇ }) hsh₂ (by omega) ?_
  intro h₃ la sb₃
  refine gn h₃ s₂.gens s₂.os rfl rfl rfl fun s₃ e₃ g₃ o₃ => ?_
  have k23 : ∀ b o, b ≠ sh → s₂.heap.get? b = some o → s₃.heap.get? b = some o := fun b o nb q => e₃ ▸ sb₃.extBut b o nb q
  have C₃ := C₂.own1 (s' := s₃) k23 g₃ o₃ nsh
  rw [← e₃] at la
  have hrd₃ : TupsAt s₃.heap rd ps := hrd₂.keep (X := [sh]) (fun q => hsr (List.mem_singleton.mp q).symm) (fun b o nb q => k23 b o (fun z => nb (by rw [z]; exact List.mem_singleton.mpr rfl)) q) fun b hb o q => by
    rw [List.mem_singleton.mp hb] at q
    exact lst_tuple hlo o q
  -- read.append((bar + chr(97 + p), pairs[p][0]))
  refine wpAny_execs_cons ?_
  refine wpAny_Expr ?_
  refine MethodCall_ ?_
  refine lv C₃.px.F rfl kf rfl (upd_ne n6) ?_
  obtain ⟨vr, nr, hro, hrs⟩ := id hrd₃
  refine getMethod_list_append hro rfl rfl ?_
  refine callWith_method1 ?_
  with_reducible refine args_cons ?_ (by with_unfolding_all rfl)
  with_reducible refine Tuple_ ?_
  with_reducible refine args_cons ?_ (by with_unfolding_all rfl)
  refine wpAny_BinOp ?_
  refine lv C₃.px.F rfl kf rfl (upd_ne n2) ?_
  refine Call_ ?_
  refine bv C₃.px.B C₃.px.F (by kernel_rfl) (v := .builtin "chr") (by decide +kernel) kf rfl (by kernel_rfl) (by kernel_rfl) ?_
  refine PyProof.Rows.callWith_builtin1 ?_
  with_reducible refine args_cons ?_ (by with_unfolding_all rfl)
  refine wpAny_BinOp ?_
  with_reducible refine wpAny_Constant_int ?_
  refine lv (C₃.tok (t := s₃.toks + 1)).px.F rfl kf rfl (upd_ne n3) ?_
  refine add_int ?_
  refine args_nil ?_
  refine chr_of_range (by omega) (by omega) ?_
  rw [show ((97 : Int) + (p : Int)).toNat = 97 + p by omega]
  refine add_str ?_ (by rw [sizeLine_eq]; exact Nat.le_trans (Nat.add_le_add_right hbar _) (Nat.le_of_ble_eq_true rfl))
  intro t₈ k₈
  with_reducible refine args_cons ?_ (by with_unfolding_all rfl)
  refine gn s₃.heap s₃.gens s₃.os rfl rfl rfl fun s₄ e₄ g₄ o₄ => ?_
  have C₄ := C₃.re (s' := s₄) e₄ g₄ o₄
  refine Subscript_ ?_
  refine Subscript_ ?_
  refine lv C₄.px.F rfl kf rfl (upd_ne n4) ?_
  refine lv C₄.px.F rfl kf rfl (upd_ne n3) ?_
  refine pr_item (C₄.pairs hp hpl) hi (by omega) ?_ (by with_unfolding_all rfl)
  intro r₄ hr₄
  with_reducible refine wpAny_Constant_int ?_
  refine ln_item (i := 0) (x := ts[p].1) (s := { s₄ with toks := s₄.toks + 1 }) hr₄ rfl (Nat.le_of_ble_eq_true rfl) ?_ (by with_unfolding_all rfl)
  intro t₉
  refine args_nil ?_
  unfold newTuple
  refine wpAny_newObj_type ?_
  refine args_nil ?_
  refine gn (s₄.heap.push { cls := .type "tuple", data := .seq #[.str (bar ++ ⟨#[97 + p]⟩) t₈, .str ts[p].1 t₉] }) s₄.gens s₄.os rfl rfl rfl fun s₅ e₅ g₅ o₅ => ?_
  have k45 : ∀ b o, s₄.heap.get? b = some o → s₅.heap.get? b = some o := fun b o q => e₅ ▸ Heap.get?_push_of_some _ q
  have ht₅ : s₅.heap.get? s₄.heap.objs.size = some ⟨.type "tuple", none, .seq #[.str (bar ++ ⟨#[97 + p]⟩) t₈, .str ts[p].1 t₉] 0, #[]⟩ := e₅ ▸ Heap.get?_push_size _ rfl
  have C₅ := C₄.keeps k45 g₅ o₅
  have k35 : ∀ b o, s₃.heap.get? b = some o → s₅.heap.get? b = some o := fun b o q => k45 b o (e₄ ▸ q)
  have hrd₅ := hrd₃.keeps k35
  have la₅ := la.keep fun o q => k35 _ _ q
  obtain ⟨vr₅, nr₅, hro₅, hrs₅⟩ := hrd₅
  refine lst_append (s := s₅) hro₅ (by rw [All2.length hrs₅]; omega) ?_
  intro h₆ n₆ e₆ sb₆
  refine gn h₆ s₅.gens s₅.os rfl rfl rfl fun s₆ e7 g₆ o₆ => ?_
  have k56 : ∀ b o, b ≠ rd → s₅.heap.get? b = some o → s₆.heap.get? b = some o := fun b o nb q => e7 ▸ sb₆.extBut b o nb q
  have C₆ := C₅.own1 (s' := s₆) k56 g₆ o₆ nrd
  refine wpAny_execs_nil ?_
  have tne : s₄.heap.objs.size ≠ rd := fun z => by
    rw [z] at ht₅
    rw [hro₅] at ht₅
    have q := congrArg Obj.cls (Option.some.inj ht₅)
    injection q with q
    exact absurd q (by decide)
  refine h s₆ t₅ C₆ (la₅.keep fun o q => k56 _ _ hsr q) ⟨_, n₆, e7 ▸ e₆, All2.append (hrs₅.mono fun v p y => y.ext (X := [rd]) (fun b o nb q => k56 b o (fun z => nb (by rw [z]; exact List.mem_singleton.mpr rfl)) q) fun b hb o q => by
      rw [List.mem_singleton.mp hb] at q
      exact lst_tuple hro₅ o q) (.cons ⟨_, t₈, t₉, 0, rfl, k56 _ _ tne ht₅⟩ .nil)⟩ fun b o b1 b2 b3 q => k56 b o b3 (k35 _ _ (k23 b o b2 (k02 b o b1 q)))
end
end Mine
open PySem PySem.W PyProof.Rows PySem.Calls PySem.Spec
set_option Elab.async false
set_option maxRecDepth 100000
set_option maxHeartbeats 1000000
set_option linter.unusedVariables false
namespace Mine
structure SecSt where
  due : PySem.Str
  shown : List PySem.Str
  read : List (PySem.Str × PySem.Str)
  row : Int
noncomputable section
noncomputable def barS (b : Bool) : PySem.Str := if b = true then "| " else ""
noncomputable def secB (W name x : Int) (st : SecSt) : Bool := decide ((x + min name (W - 1)).fdiv W > st.row)
noncomputable def secStep (W name x : Int) (t : PySem.Str × PySem.Str × PySem.Str) (p : Nat) (st : SecSt) : SecSt :=
  ⟨st.due ++ ((Txt.strip (barS (secB W name x st)) ++ " ") ++ t.2.2), st.shown ++ [barS (secB W name x st) ++ t.2.1], st.read ++ [(barS (secB W name x st) ++ ⟨#[97 + p]⟩, t.1)], if secB W name x st = true then st.row + 1 else st.row⟩
noncomputable def secAt (W name : Int) (tolds : List Int) (ts : List (PySem.Str × PySem.Str × PySem.Str)) : Nat → SecSt
  | 0 => ⟨"", [], [], 0⟩
  | i + 1 => secStep W name (tolds.getD i 0) (ts.getD i ("", "", "")) i (secAt W name tolds ts i)
end
theorem barS_len (b : Bool) : (barS b).length ≤ 10 ∧ (Txt.strip (barS b)).length ≤ 1 := by
  have : ∀ b, ((barS b).length ≤ 10 ∧ (Txt.strip (barS b)).length ≤ 1) := by decide +kernel
  exact this b
theorem secAt_len {W name : Int} {tolds : List Int} {ts : List (PySem.Str × PySem.Str × PySem.Str)} (hl : ∀ t ∈ ts, t.2.2.length ≤ 100) : ∀ i, i ≤ ts.length → (secAt W name tolds ts i).due.length ≤ 102 * i ∧ (secAt W name tolds ts i).shown.length = i ∧ (secAt W name tolds ts i).read.length = i
  | 0, _ => by refine ⟨?_, rfl, rfl⟩; show ("" : PySem.Str).length ≤ _; decide +kernel
  | i + 1, h => by
    obtain ⟨a, b, c⟩ := secAt_len (W := W) (name := name) (tolds := tolds) hl i (Nat.le_of_succ_le h)
    have e : ts.getD i ("", "", "") = ts[i] := by simp [List.getD_eq_getElem?_getD, List.getElem?_eq_getElem (show i < ts.length from h)]
    have hx := hl ts[i] (List.getElem_mem _)
    refine ⟨?_, by simp [secAt, secStep, b], by simp [secAt, secStep, c]⟩
    show (_ ++ ((Txt.strip (barS _) ++ " ") ++ _) : PySem.Str).length ≤ _
    have e1 : (" " : PySem.Str).length = 1 := by decide +kernel
    rw [str_len, str_len, str_len, e, e1]
    have := (barS_len (secB W name (tolds.getD i 0) (secAt W name tolds ts i))).2
    omega
section
variable {w : World} {A : Around} {E : Value → Shared → Prop} {S s₀ s s' : Shared} {g h h' e : Heap} {f df c dc ln L l r I pl sh rd tl : Addr} {W name : Int} {m m' : PySem.Str → Option Value} {X : List Addr} {R : Result → Shared → Prop} {env : Env} {Q : Flow → Shared → Prop} {tolds : List Int} {ts : List (PySem.Str × PySem.Str × PySem.Str)}
theorem turn2_ct {p : Nat} {st : SecSt} {tp td tr tn tW : Tok} {body : List Stmt} (hb : body = turn2 (bodyAt w.params 211)) (he : env = envC w.params 211 L) (C : Lx w g S s₀ s L m) (hh : A.handled = none)
    (n1 : m "due" = some (.str st.due td)) (n2 : m "row" = some (.int st.row tr)) (n3 : m "p" = some (.int (p : Int) tp)) (n4 : m "pairs" = some (.ref pl)) (n5 : m "shown" = some (.ref sh)) (n6 : m "read" = some (.ref rd)) (n7 : m "told" = some (.ref tl)) (n8 : m "name" = some (.int name tn)) (n9 : m "width" = some (.int W tW))
    (hsh : LnAt s.heap sh st.shown) (hrd : TupsAt s.heap rd st.read) (nsh : NewAt S s₀ L sh) (nrd : NewAt S s₀ L rd) (hsr : sh ≠ rd) (hp : PairsAt s₀.heap pl ts) (hpl : 148 ≤ pl) (htl : InAt s₀.heap tl tolds) (htl' : 148 ≤ tl) (hi : p < ts.length) (hz : ts.length ≤ 20) (hto : tolds.length = ts.length)
    (hlen : ∀ t ∈ ts, t.2.1.length ≤ 100 ∧ t.2.2.length ≤ 100) (hW : 0 < W) (hW' : W ≤ 1000) (hd : st.due.length ≤ 10000) (hs1 : st.shown.length ≤ 100) (hs2 : st.read.length ≤ 100)
    (h : ∀ s' m', Lx w g S s₀ s' L m' → (∀ x : PySem.Str, x ≠ "bar" → x ≠ "row" → x ≠ "due" → m' x = m x) → (∃ t, m' "due" = some (.str (secStep W name (tolds.getD p 0) (ts.getD p ("", "", "")) p st).due t)) → (∃ t, m' "row" = some (.int (secStep W name (tolds.getD p 0) (ts.getD p ("", "", "")) p st).row t)) →
      LnAt s'.heap sh (secStep W name (tolds.getD p 0) (ts.getD p ("", "", "")) p st).shown → TupsAt s'.heap rd (secStep W name (tolds.getD p 0) (ts.getD p ("", "", "")) p st).read → (∀ b o, b ≠ L → b ≠ sh → b ≠ rd → s.heap.get? b = some o → s'.heap.get? b = some o) → Q .next s') :
    wpAny (model prog w) A (execs body env) Q E s := by
  subst hb he
  have kf := (fn211 w.params).kind
  have et : ts.getD p ("", "", "") = ts[p] := by simp [List.getD_eq_getElem?_getD, List.getElem?_eq_getElem hi]
  have hi' : p < tolds.length := hto ▸ hi
  have el : tolds[p]? = some (tolds.getD p 0) := by simp [List.getD_eq_getElem?_getD, List.getElem?_eq_getElem hi']
  rw [et] at h
  have hlp := hlen ts[p] (List.getElem_mem _)
  -- bar = ''
  refine wpAny_execs_cons ?_
  refine wpAny_Assign_Name ?_
  with_reducible refine wpAny_Constant_str ?_
  refine sw s.gens s.os rfl rfl (C.tok (t := s.toks + 1)).px.F rfl kf rfl ?_
  intro s₁ F₁ k₁ g₁ o₁
  have C₁ := C.store F₁ k₁ g₁ o₁
  -- if ..
  refine wpAny_execs_cons ?_
  refine wpAny_If ?_
  refine wpAny_isTrue_Compare1 ?_
  refine wpAny_BinOp ?_
  refine wpAny_BinOp ?_
  refine Subscript_ ?_
  refine lv C₁.px.F rfl kf rfl (upd_ne n7) ?_
  refine lv C₁.px.F rfl kf rfl (upd_ne n3) ?_
  refine in_item (C₁.int htl htl') el (by omega) ?_ (by with_unfolding_all rfl)
  intro t₂
  refine Call_ ?_
  refine bv C₁.px.B C₁.px.F (by kernel_rfl) (v := .builtin "min") (by decide +kernel) kf rfl (by kernel_rfl) (by kernel_rfl) ?_
  refine PyProof.Rows.callWith_builtin1 ?_
  with_reducible refine args_cons ?_ (by with_unfolding_all rfl)
  refine lv C₁.px.F rfl kf rfl (upd_ne n8) ?_
  with_reducible refine args_cons ?_ (by with_unfolding_all rfl)
  refine wpAny_BinOp ?_
  refine lv C₁.px.F rfl kf rfl (upd_ne n9) ?_
  with_reducible refine wpAny_Constant_int ?_
  refine sub_int ?_
  refine args_nil ?_
  refine min_ints (s := { s₁ with toks := s₁.toks + 1 + 1 }) hh s₁.gens s₁.os rfl rfl ?_
  intro s₃ t₃ g₃ o₃ k₃
  have C₃ := C₁.keeps (s' := s₃) k₃ g₃ o₃
  refine add_int ?_
  refine lv (C₃.tok (t := s₃.toks + 1)).px.F rfl kf rfl (upd_ne n9) ?_
  refine floordiv_int (by omega) ?_ (.inl (PyProof.noPylong_small (by omega)))
  refine lv (C₃.tok (t := s₃.toks + 1 + 1)).px.F rfl kf rfl (upd_ne n2) ?_
  refine gt_int ?_
  refine wpAny_truthy_bool ?_
  -- the rest
  have rest : ∀ (b : Bool) (s₅ : Shared) (m₅ : PySem.Str → Option Value) (tb tr' : Tok), b = secB W name (tolds.getD p 0) st → Lx w g S s₀ s₅ L m₅ → (∀ x : PySem.Str, x ≠ "bar" → x ≠ "row" → m₅ x = m x) → m₅ "bar" = some (.str (barS b) tb) → m₅ "row" = some (.int (if b = true then st.row + 1 else st.row) tr') → (∀ b o, b ≠ L → s.heap.get? b = some o → s₅.heap.get? b = some o) →
      wpAny (model prog w) A (execs (tail2 (bodyAt w.params 211)) (envC w.params 211 L)) Q E s₅ := by
    intro b s₅ m₅ tb tr' eb C₅ nm nb nr k05
    subst eb
    have bl := barS_len (secB W name (tolds.getD p 0) st)
    have hrd₅ : TupsAt s₅.heap rd st.read := hrd.keep (X := [L]) (fun q => nrd.L (List.mem_singleton.mp q)) (fun b o nb q => k05 b o (fun z => nb (by rw [z]; exact List.mem_singleton.mpr rfl)) q) fun b hb o q => by
      rw [List.mem_singleton.mp hb] at q
      exact ns_tuple C.px.F.ns o q
    refine tail2_ct rfl rfl C₅ ((nm _ (by decide) (by decide)).trans n1) nb ((nm _ (by decide) (by decide)).trans n3) ((nm _ (by decide) (by decide)).trans n4) ((nm _ (by decide) (by decide)).trans n5) ((nm _ (by decide) (by decide)).trans n6)
      (hsh.keep fun o q => k05 _ _ nsh.L q) hrd₅ nsh nrd hsr hp hpl hi hz hlp bl.1 (Nat.le_trans bl.2 (by decide)) hd hs1 hs2 ?_
    intro s₆ t₆ C₆ la₆ hrd₆ k₆
    exact h s₆ _ C₆ (fun x h1 h2 h3 => (if_neg h3).trans (nm x h1 h2)) ⟨t₆, upd_eq⟩ ⟨tr', upd_ne nr⟩ la₆ hrd₆ fun b o b1 b2 b3 q => k₆ b o b1 b2 b3 (k05 b o b1 q)
  by_cases hc : (tolds.getD p 0 + min name (W - 1)).fdiv W > st.row
  · have hb : true = secB W name (tolds.getD p 0) st := (decide_eq_true hc).symm
    rw [if_pos (decide_eq_true hc)]
    refine gn s₃.heap s₁.gens s₁.os rfl g₃ o₃ fun s₄ e₄ g₄ o₄ => ?_
    have C₄ := C₁.keeps (s' := s₄) (fun b o q => e₄ ▸ k₃ b o q) g₄ o₄
    have k04 : ∀ b o, b ≠ L → s.heap.get? b = some o → s₄.heap.get? b = some o := fun b o nb q => e₄ ▸ k₃ b o (k₁ b o nb q)
    refine wpAny_execs_cons ?_
    refine wpAny_Assign_Name ?_
    with_reducible refine wpAny_Constant_str ?_
    refine sw s₄.gens s₄.os rfl rfl (C₄.tok (t := s₄.toks + 1)).px.F rfl kf rfl ?_
    intro s₅ F₅ k₅ g₅ o₅
    have C₅ := C₄.store F₅ k₅ g₅ o₅
    refine wpAny_execs_cons ?_
    refine wpAny_AugAssign_Name ?_
    refine wpAny_loadName_local kf rfl C₅.px.F.ns (upd_ne (upd_ne n2)) ?_
    with_reducible refine wpAny_Constant_int ?_
    refine iadd_int ?_
    refine sw s₅.gens s₅.os rfl rfl (C₅.tok (t := s₅.toks + 1 + 1)).px.F rfl kf rfl ?_
    intro s₆ F₆ k₆ g₆ o₆
    have C₆ := C₅.store F₆ k₆ g₆ o₆
    refine wpAny_execs_nil ?_
    exact rest true s₆ _ _ _ hb C₆ (fun x h1 h2 => (if_neg h2).trans ((if_neg h1).trans (if_neg h1))) (upd_ne upd_eq) upd_eq fun b o b1 q => k₆ b o b1 (k₅ b o b1 (k04 b o b1 q))
  · have hb : false = secB W name (tolds.getD p 0) st := (decide_eq_false hc).symm
    rw [if_neg (by simpa using hc)]
    refine gn s₃.heap s₁.gens s₁.os rfl g₃ o₃ fun s₄ e₄ g₄ o₄ => ?_
    have C₄ := C₁.keeps (s' := s₄) (fun b o q => e₄ ▸ k₃ b o q) g₄ o₄
    have k04 : ∀ b o, b ≠ L → s.heap.get? b = some o → s₄.heap.get? b = some o := fun b o nb q => e₄ ▸ k₃ b o (k₁ b o nb q)
    refine wpAny_execs_nil ?_
    exact rest false s₄ _ _ _ hb C₄ (fun x h1 _ => if_neg h1) upd_eq (upd_ne n2) k04
end
end Mine
open PySem PySem.W PyProof.Rows PySem.Calls PySem.Spec
set_option Elab.async false
set_option maxRecDepth 100000
set_option maxHeartbeats 1000000
set_option linter.unusedVariables false
namespace Mine
noncomputable section
noncomputable def lp2 (b : List Stmt) : Stmt := match big211 b with
  | [_, _, _, _, _, _, _, st, _, _, _, _] => st
  | _ => default
end
section
variable {w : World} {A : Around} {E : Value → Shared → Prop} {S s₀ s s' : Shared} {g h h' e : Heap} {f df c dc ln L l r I pl sh rd tl : Addr} {W name : Int} {m m' : PySem.Str → Option Value} {X : List Addr} {R : Result → Shared → Prop} {env : Env} {Q : Flow → Shared → Prop} {tolds : List Int} {ts : List (PySem.Str × PySem.Str × PySem.Str)}
theorem Lx.go (C : Lx w g S s₀ s L m) (P : Px w g S s' L m') (nI : NewAt S s₀ L I) (k : ∀ b o, b ≠ I → b ≠ L → s.heap.get? b = some o → s'.heap.get? b = some o) : Lx w g S s₀ s' L m' := by
  have fa := far (Nat.le_trans C.big nI.S)
  refine ⟨P, C.tb.up (X := [I, L]) (s' := { s with heap := s'.heap }) ⟨fun b o nb q => k b o (fun z => nb (by rw [z]; exact List.mem_cons_self)) (fun z => nb (by rw [z]; exact List.mem_cons_of_mem _ (List.mem_singleton.mpr rfl))) q, fun q => q, rfl⟩ (fun x hx => ?_), C.hid, C.big, C.n0, fun b o a1 a2 a3 q => k b o (fun z => ?_) a1 (C.kp b o a1 a2 a3 q)⟩
  · rcases List.mem_cons.mp hx with rfl | hx
    · exact fa
    · rw [List.mem_singleton.mp hx]; exact far C.l152
  · rw [z, nI.n] at q; cases q
theorem loop2_ct {st : Stmt} {td tr tn tW : Tok} (hst : st = lp2 (bodyAt w.params 211)) (he : env = envC w.params 211 L) (C : Lx w g S s₀ s L m) (hh : A.handled = none)
    (n1 : m "due" = some (.str "" td)) (n2 : m "row" = some (.int 0 tr)) (n4 : m "pairs" = some (.ref pl)) (n5 : m "shown" = some (.ref sh)) (n6 : m "read" = some (.ref rd)) (n7 : m "told" = some (.ref tl)) (n8 : m "name" = some (.int name tn)) (n9 : m "width" = some (.int W tW))
    (hsh : LnAt s.heap sh []) (hrd : TupsAt s.heap rd []) (nsh : NewAt S s₀ L sh) (nrd : NewAt S s₀ L rd) (hsr : sh ≠ rd) (hp : PairsAt s₀.heap pl ts) (hpl : 148 ≤ pl) (htl : InAt s₀.heap tl tolds) (htl' : 148 ≤ tl) (hz : ts.length ≤ 20) (hto : tolds.length = ts.length)
    (hlen : ∀ t ∈ ts, t.2.1.length ≤ 100 ∧ t.2.2.length ≤ 100) (hW : 0 < W) (hW' : W ≤ 1000)
    (h : ∀ s' m', Lx w g S s₀ s' L m' → (∀ x : PySem.Str, x ≠ "p" → x ≠ "bar" → x ≠ "row" → x ≠ "due" → m' x = m x) → (∃ t, m' "due" = some (.str (secAt W name tolds ts ts.length).due t)) →
      LnAt s'.heap sh (secAt W name tolds ts ts.length).shown → TupsAt s'.heap rd (secAt W name tolds ts ts.length).read → Q .next s') :
    wpAny (model prog w) A (exec st env) Q E s := by
  subst hst he
  have kf := (fn211 w.params).kind
  refine wpAny_ForW ?_
  refine Call_ ?_
  refine bv C.px.B C.px.F (by kernel_rfl) (v := .type "range") (by decide +kernel) kf rfl (by kernel_rfl) (by kernel_rfl) ?_
  refine PyProof.Rows.callWith_type1 ?_
  with_reducible refine args_cons ?_ (by with_unfolding_all rfl)
  refine Call_ ?_
  refine bv C.px.B C.px.F (by kernel_rfl) (v := .builtin "len") (by decide +kernel) kf rfl (by kernel_rfl) (by kernel_rfl) ?_
  refine PyProof.Rows.callWith_builtin1 ?_
  with_reducible refine args_cons ?_ (by with_unfolding_all rfl)
  refine lv C.px.F rfl kf rfl n4 ?_
  refine args_nil ?_
  obtain ⟨vs, hvl, isl, _⟩ := (C.pairs hp hpl).isList
  refine PyProof.Rows.len_list isl (by rw [List.size_toArray]; omega) ?_
  rw [List.size_toArray, hvl]
  refine args_nil ?_
  refine px_range (C.tok (t := s.toks + 1 + 1)).px (by omega) ?_
  intro s₁ I P₁ hI k₁ hIS hIL
  have nI : NewAt S s₀ L I := ⟨hIS, hIL, by
    cases q : s₀.heap.get? I with
    | none => rfl
    | some o =>
      have fa := far (Nat.le_trans C.big hIS)
      exact absurd rfl (k₁ _ _ (C.kp _ _ hIL fa.1 fa.2.1 q)).2⟩
  have C₁ := C.go P₁ nI fun b o _ _ q => (k₁ _ _ q).1
  have ne : ∀ {a : Nat} {vs n}, s.heap.get? a = some (lstObj vs n) → a ≠ I := fun q => (k₁ _ _ q).2
  have sI : sh ≠ I := by obtain ⟨_, _, q, _⟩ := hsh; exact ne q
  have rI : rd ≠ I := by obtain ⟨_, _, q, _⟩ := hrd; exact ne q
  have e0 : ("" : PySem.Str) = (secAt W name tolds ts 0).due := rfl
  refine ForW.loop (n := ts.length) (fun i s' => ∃ m', Lx w g S s₀ s' L m' ∧ (∀ x : PySem.Str, x ≠ "p" → x ≠ "bar" → x ≠ "row" → x ≠ "due" → m' x = m x) ∧ (∃ t, m' "due" = some (.str (secAt W name tolds ts i).due t)) ∧ (∃ t, m' "row" = some (.int (secAt W name tolds ts i).row t)) ∧ IsRangeIter s'.heap I (i : Int) ((ts.length - i : Nat) : Int) 1 ∧
      LnAt s'.heap sh (secAt W name tolds ts i).shown ∧ TupsAt s'.heap rd (secAt W name tolds ts i).read) ?_ ?_ (by intro _; rfl) (Nat.zero_le _)
    ⟨m, C₁, fun _ _ _ _ _ => rfl, ⟨td, n1⟩, ⟨tr, n2⟩, hI, hsh.keep fun o q => (k₁ _ _ q).1, hrd.keeps fun b o q => (k₁ _ _ q).1⟩
  · rintro i s₂ hi ⟨m₂, C₂, nm, ⟨td₂, nd⟩, ⟨tr₂, nr⟩, hI₂, hsh₂, hrd₂⟩
    have tups : ∀ {s₃ : Shared}, (∀ b o, b ≠ I → b ≠ L → s₂.heap.get? b = some o → s₃.heap.get? b = some o) → TupsAt s₃.heap rd (secAt W name tolds ts i).read := fun {s₃} k => by
      refine hrd₂.keep (X := [I, L]) (fun q => ?_) (fun b o nb q => k b o (fun z => nb (by rw [z]; exact List.mem_cons_self)) (fun z => nb (by rw [z]; exact List.mem_cons_of_mem _ (List.mem_singleton.mpr rfl))) q) (fun b hb o q => ?_)
      · rcases List.mem_cons.mp q with q | q
        · exact rI q
        · exact nrd.L (List.mem_singleton.mp q)
      · rcases List.mem_cons.mp hb with rfl | hb
        · rw [show s₂.heap.get? _ = some _ from hI₂] at q; cases q
          exact .inl (fun z => by injection z with z; exact absurd z (by decide))
        · rw [List.mem_singleton.mp hb] at q
          exact ns_tuple C₂.px.F.ns o q
    refine rng_next C₂.px hI₂ hi hIS hIL rfl kf rfl ?_
    intro s₃ t₃ P₃ hI₃ k₃
    have C₃ := C₂.go P₃ nI k₃
    obtain ⟨l1, l2, l3⟩ := secAt_len (W := W) (name := name) (tolds := tolds) (fun t ht => (hlen t ht).2) i (Nat.le_of_lt hi)
    refine turn2_ct (st := secAt W name tolds ts i) (by kernel_rfl) rfl C₃ hh (upd_ne nd) (upd_ne nr) upd_eq (upd_ne ((nm _ (by decide) (by decide) (by decide) (by decide)).trans n4)) (upd_ne ((nm _ (by decide) (by decide) (by decide) (by decide)).trans n5)) (upd_ne ((nm _ (by decide) (by decide) (by decide) (by decide)).trans n6))
      (upd_ne ((nm _ (by decide) (by decide) (by decide) (by decide)).trans n7)) (upd_ne ((nm _ (by decide) (by decide) (by decide) (by decide)).trans n8)) (upd_ne ((nm _ (by decide) (by decide) (by decide) (by decide)).trans n9)) (hsh₂.keep fun o q => k₃ _ _ sI nsh.L q) (tups k₃) nsh nrd hsr hp hpl htl htl' hi hz hto hlen hW hW' (by omega) (by omega) (by omega) ?_
    intro s₄ m₄ C₄ nm₄ nd₄ nr₄ hsh₄ hrd₄ k₄
    refine ⟨m₄, C₄, fun x h1 h2 h3 h4 => (nm₄ x h2 h3 h4).trans ((if_neg h1).trans (nm x h1 h2 h3 h4)), nd₄, nr₄, ?_, hsh₄, hrd₄⟩
    exact k₄ _ _ hIL (Ne.symm sI) (Ne.symm rI) hI₃
  · rintro s₂ ⟨m₂, C₂, nm, ⟨td₂, nd⟩, ⟨tr₂, nr⟩, hI₂, hsh₂, hrd₂⟩
    refine rng_end hh C₂.px hI₂ hIS hIL ?_
    intro s₃ P₃ k₃
    have C₃ := C₂.go P₃ nI fun b o b1 _ q => k₃ b o b1 q
    refine wpAny_execs_nil ?_
    refine h s₃ m₂ C₃ nm ⟨td₂, nd⟩ (hsh₂.keep fun o q => k₃ _ _ sI q) (hrd₂.keep (X := [I]) (fun q => rI (List.mem_singleton.mp q)) (fun b o nb q => k₃ b o (fun z => nb (by rw [z]; exact List.mem_singleton.mpr rfl)) q) (fun b hb o q => ?_))
    rw [List.mem_singleton.mp hb] at q
    rw [show s₂.heap.get? _ = some _ from hI₂] at q; cases q
    exact .inl (fun z => by injection z with z; exact absurd z (by decide))
end
end Mine
open PySem PySem.W PyProof.Rows PySem.Calls PySem.Spec
set_option Elab.async false
set_option maxRecDepth 100000
set_option maxHeartbeats 1000000
set_option linter.unusedVariables false
namespace Mine
section
variable {w : World} {A : Around} {E : Value → Shared → Prop} {S s₀ s s' : Shared} {g h h' e : Heap} {f df c dc ln L l r I pl sh rd tl a b d : Addr} {W name : Int} {m m' : PySem.Str → Option Value} {X : List Addr} {R : Result → Shared → Prop} {env : Env} {Q : Value → Shared → Prop} {ls : List PySem.Str} {ps : List (PySem.Str × PySem.Str)}
theorem ne_lists (hu : A.units < cLine) (ha : LnAt s.heap a ls) (hb : LnAt s.heap b ls) (h : Q (.bool false) s) : wpAny (model prog w) A (compareOp .NotEq (.ref a) (.ref b)) Q E s := by
  obtain ⟨va, hva, ia⟩ := ha.isList
  obtain ⟨vb, hvb, ib⟩ := hb.isList
  have la := StrsAre.len hva
  have lb := StrsAre.len hvb
  have key := SeqAt.RcNeAt.lists (A := A) (s := s) (e := fun _ => true) ia ib (by rw [List.size_toArray, List.size_toArray, la, lb]) hu (fun j h1 h2 => by
    rw [List.size_toArray] at h1 h2
    have hj : j < ls.length := la ▸ h1
    obtain ⟨t, ht⟩ := StrsAre.at hva (List.getElem?_eq_getElem hj)
    obtain ⟨u, hu⟩ := StrsAre.at hvb (List.getElem?_eq_getElem hj)
    have e1 : va.toArray[j] = .str ls[j] t := by
      rw [List.getElem_toArray]; exact (List.getElem?_eq_some_iff.mp ht).2
    have e2 : vb.toArray[j] = .str ls[j] u := by
      rw [List.getElem_toArray]; exact (List.getElem?_eq_some_iff.mp hu).2
    rw [e1, e2]
    have := SeqAt.EqAt.str_str (A := A.in1) (s := s) ls[j] t ls[j] u
    rwa [beq_self_eq_true] at this)
  refine key prog w E Q ?_
  have : (!(List.range va.toArray.size).all fun _ => true) = false := by simp
  rw [this]
  exact h
/-- the pairs of a table, listed, against tuples that stood before -/
theorem ne_items {kvs : List (PySem.Str × Value)} {as : List Addr} {acc : Array Value} {cc lo : Nat} (hu : A.units < cLine) (hu2 : A.in1.units < cLine) (hg : KdxG (PySem.strKind prog w) kvs lo s.heap as) (hl : as.length = kvs.length) (hacc : acc.toList = as.map Value.ref)
    (ha : s.heap.get? a = some { cls := .type "list", dict := none, data := .seq acc cc, slots := #[] }) (hb : TupsAt h rd ps) (hk : ∀ b o, h.get? b = some o → s.heap.get? b = some o) (hlo : h.objs.size ≤ lo) (hp : All2 (fun (kv : PySem.Str × Value) (p : PySem.Str × PySem.Str) => kv.1 = p.1 ∧ ∃ t, kv.2 = .str p.2 t) kvs ps)
    (hq : Q (.bool false) s) : wpAny (model prog w) A (compareOp .NotEq (.ref a) (.ref rd)) Q E s := by
  obtain ⟨vb, nb, ho, hvb⟩ := hb
  have l1 := All2.length hvb
  have l2 := All2.length hp
  have l3 : acc.size = as.length := by rw [← Array.length_toList, hacc, List.length_map]
  have key := SeqAt.RcNeAt.lists (A := A) (s := s) (e := fun _ => true) (l := a) (b := rd) (items := acc) (items2 := vb.toArray) ⟨_, ha, rfl, _, rfl⟩ ⟨_, hk _ _ ho, rfl, nb, rfl⟩ (show acc.size = vb.toArray.size by rw [l3, hl, l2, ← l1]; exact List.size_toArray.symm) hu (fun j h1 h2 => by
    rw [List.size_toArray] at h2
    have hj : j < ps.length := l1 ▸ h2
    have hj' : j < as.length := l3 ▸ h1
    have e1 : acc[j] = .ref as[j] := by
      have : acc[j] = acc.toList[j]'(by rw [Array.length_toList]; exact h1) := by rw [Array.getElem_toList]
      rw [this]
      simp only [hacc, List.getElem_map]
    obtain ⟨v, hv, t, ta, tb, n, rfl, ht⟩ := hvb.at (List.getElem?_eq_getElem hj)
    have e2 : vb.toArray[j] = .ref t := by
      rw [List.getElem_toArray]; exact (List.getElem?_eq_some_iff.mp hv).2
    obtain ⟨key, k, x, q1, q2, q3⟩ := hg.pairs j as[j] (List.getElem?_eq_getElem hj')
    obtain ⟨kv, p1, p2, u, p3⟩ := hp.at (List.getElem?_eq_getElem hj)
    rw [q1] at p1; cases p1
    obtain ⟨tk, rfl⟩ := Value.isStrOf_shape q2
    have p2 : k = ps[j].1 := p2
    have p3 : x = .str ps[j].2 u := p3
    subst p2 p3
    rw [e1, e2]
    refine SeqAt.EqAt.of_refs (fun z => ?_) ?_
    · have g1 := hg.above as[j] (List.getElem_mem _)
      have g2 := Heap.lt_size ht
      rw [z] at g1
      exact absurd (Nat.lt_of_lt_of_le g2 hlo) (Nat.lt_asymm g1)
    · have key := SeqAt.RcAt.tuples (A := A.in1) (s := s) (l := as[j]) (b := t) (items := #[.str ps[j].1 tk, .str ps[j].2 u]) (items2 := #[.str ps[j].1 ta, .str ps[j].2 tb]) (e := fun _ => true) ⟨_, q3, rfl, 0, rfl⟩ ⟨_, hk _ _ ht, rfl, n, rfl⟩ hu2 (fun i i1 i2 => by
        match i, i1, i2 with
        | 0, _, _ =>
          have := SeqAt.EqAt.str_str (A := A.in1.in1) (s := s) ps[j].1 tk ps[j].1 ta
          rwa [beq_self_eq_true] at this
        | 1, _, _ =>
          have := SeqAt.EqAt.str_str (A := A.in1.in1) (s := s) ps[j].2 u ps[j].2 tb
          rwa [beq_self_eq_true] at this)
      exact key)
  refine key prog w E Q ?_
  have : (!(List.range acc.size).all fun _ => true) = false := by simp
  rw [this]
  exact hq
end
end Mine
open PySem PySem.W PyProof.Rows PySem.Calls PySem.Spec
set_option Elab.async false
set_option maxRecDepth 100000
set_option maxHeartbeats 1000000
set_option linter.unusedVariables false
namespace Mine
noncomputable section
noncomputable def end211 (b : List Stmt) : List Stmt := match big211 b with
  | [_, _, _, _, _, _, _, _, a, b, c, d] => [a, b, c, d]
  | _ => []
end
section
variable {w : World} {A : Around} {E : Value → Shared → Prop} {S s₀ s s' : Shared} {g h h' e : Heap} {f df c dc ln L l r I pl sh rd tl a b d : Addr} {W name : Int} {m m' : PySem.Str → Option Value} {X : List Addr} {R : Result → Shared → Prop} {env : Env} {Q : Flow → Shared → Prop} {ls : List PySem.Str} {ps : List (PySem.Str × PySem.Str)}
theorem All2.comp {α β γ : Type} {R : α → β → Prop} {T : β → γ → Prop} {U : α → γ → Prop} (k : ∀ a b c, R a b → T b c → U a c) {l : List α} {r : List β} (x : All2 R l r) : ∀ {z : List γ}, All2 T r z → All2 U l z := by
  induction x with
  | nil => intro z y; cases y; exact .nil
  | cons a _ ih => intro z y; cases y with | cons b y => exact .cons (k _ _ _ a b) (ih y)
theorem end211_ct {wr : List Nat} {xs : List KvItem} {t1 t2 : Tok} {body : List Stmt} (hb : body = end211 (bodyAt w.params 211)) (he : env = envC w.params 211 L) (rm : Rm A 5) (C : Lx w g S s₀ s L m)
    (n1 : m "written" = some (.str (tx wr) t1)) (n2 : m "due" = some (.str (tx wr) t2)) (n3 : m "shown" = some (.ref sh)) (n4 : m "read" = some (.ref rd)) (hsh : LnAt s.heap sh ls) (hrd : TupsAt s.heap rd ps) (nsh : sh ≠ L) (nrd : rd ≠ L)
    (ha : wr.all (· < 128) = true) (hz : wr.length ≤ 900) (hi : httpItems wr = ls) (hx : xs.map KvItem.text = ls) (ok : ∀ x ∈ xs, x.Ok) (hnd : (xs.map fun x => tx x.key).Nodup) (hz' : xs.length ≤ 90)
    (hr : All2 (fun (x : KvItem) (p : PySem.Str × PySem.Str) => tx x.key = p.1 ∧ tx x.res = p.2) xs ps)
    (h : ∀ s' m', Lx w g S s₀ s' L m' → (∀ x : PySem.Str, x ≠ "items" → m' x = m x) → Q .next s') :
    wpAny (model prog w) A (execs body env) Q E s := by
  subst hb he
  have kf := (fn211 w.params).kind
  -- if written != due
  refine wpAny_execs_cons ?_
  refine wpAny_If ?_
  refine wpAny_isTrue_Compare1 ?_
  refine lv C.px.F rfl kf rfl n1 ?_
  refine lv C.px.F rfl kf rfl n2 ?_
  refine PyProof.Rows.ne_str ?_
  refine wpAny_truthy_bool ?_
  rw [if_neg (by simp)]
  refine wpAny_execs_nil ?_
  -- items = parse_http_list(written)
  refine wpAny_execs_cons ?_
  refine wpAny_Assign_Name ?_
  refine Call_ ?_
  refine gv C.px.B C.px.F (v := .ref 194) (by kernel_rfl) kf (by kernel_rfl) (by kernel_rfl) ?_
  refine callWith_K C.px.kk (by kernel_rfl) ?_
  with_reducible refine args_cons ?_ (by with_unfolding_all rfl)
  refine lv C.px.F rfl kf rfl n1 ?_
  refine args_nil ?_
  refine ⟨C.px.kk, ?_⟩
  refine wpAny_call (http_ct C.px.B C.px.F.base rm.mono ha hz ?_)
  intro s₁ it u₁ hit hln₁
  have C₁ := C.up u₁
  have u₁' : ∀ b o, s.heap.get? b = some o → s₁.heap.get? b = some o := fun b o q => u₁.keep b o (by simp) q
  refine sw s₁.gens s₁.os rfl rfl C₁.px.F rfl kf rfl ?_
  intro s₂ F₂ k₂ g₂ o₂
  have C₂ := C₁.store F₂ k₂ g₂ o₂
  have hiL : it ≠ L := Nat.ne_of_gt (Nat.lt_of_lt_of_le C.px.ltL hit)
  have hln₂ := hln₁.keep fun o q => k₂ _ _ hiL q
  rw [hi] at hln₂
  have hsh₂ : LnAt s₂.heap sh ls := hsh.keep fun o q => k₂ _ _ nsh (u₁' _ _ q)
  have hrd₂ : TupsAt s₂.heap rd ps := (hrd.keeps u₁').keep (X := [L]) (fun q => nrd (List.mem_singleton.mp q)) (fun b o nb q => k₂ b o (fun z => nb (by rw [z]; exact List.mem_singleton.mpr rfl)) q) fun b hb o q => by
    rw [List.mem_singleton.mp hb] at q
    exact ns_tuple C₁.px.F.ns o q
  -- if items != shown
  refine wpAny_execs_cons ?_
  refine wpAny_If ?_
  refine wpAny_isTrue_Compare1 ?_
  refine lv C₂.px.F rfl kf rfl upd_eq ?_
  refine lv C₂.px.F rfl kf rfl (upd_ne n3) ?_
  refine ne_lists rm.units hln₂ hsh₂ ?_
  refine wpAny_truthy_bool ?_
  rw [if_neg (by decide)]
  refine wpAny_execs_nil ?_
  -- if list(parse_keqv_list(items).items()) != read
  refine wpAny_execs_cons ?_
  refine wpAny_If ?_
  refine wpAny_isTrue_Compare1 ?_
  refine Call_ ?_
  refine bv C₂.px.B C₂.px.F (by kernel_rfl) (v := .type "list") (by decide +kernel) kf rfl (by kernel_rfl) (by kernel_rfl) ?_
  refine PyProof.Rows.callWith_type1 ?_
  with_reducible refine args_cons ?_ (by with_unfolding_all rfl)
  refine MethodCall_ ?_
  refine Call_ ?_
  refine gv C₂.px.B C₂.px.F (v := .ref 189) (by kernel_rfl) kf (by kernel_rfl) (by kernel_rfl) ?_
  refine callWith_K C₂.px.kk (by kernel_rfl) ?_
  with_reducible refine args_cons ?_ (by with_unfolding_all rfl)
  refine lv C₂.px.F rfl kf rfl upd_eq ?_
  refine args_nil ?_
  refine ⟨C₂.px.kk, ?_⟩
  refine wpAny_call (keqv_ct (xs := xs) C₂.px.B C₂.px.F.base rm.mono (hx ▸ hln₂) ok hnd hz' ?_)
  intro s₃ d kvs u₃ hd hdo hkv
  have C₃ := C₂.up u₃
  have u₃' : ∀ b o, s₂.heap.get? b = some o → s₃.heap.get? b = some o := fun b o q => u₃.keep b o (by simp) q
  have hlk := All2.length hkv
  refine getMethod_builtin hdo.typeIs PySem.F.plainAttrs_dict PySem.F.slot_dict_items PySem.F.type_dict_items hdo.mapOf.noDict ?_
  refine callWith_method0 ?_
  refine call_meetsIn PySem.F.slot_dict_items hdo.typeIs PySem.F.entry_dict_items (PySem.F.args_dict_items_1 _) (meets_dict_items (PySem.strKind prog w) d (by
    have : 152 ≤ d := Nat.le_trans C.big (Nat.le_trans C₂.px.le hd)
    exact beq_false_of_ne fun z => by rw [z] at this; exact absurd this (by decide))) ⟨⟨kvs, hdo⟩, ?_⟩
  refine args_nil ?_
  refine gn (s₃.heap.push { cls := .type "dict_items", data := .fields #[.ref d] }) s₃.gens s₃.os rfl rfl rfl fun s₄ e₄ g₄ o₄ => ?_
  have k34 : ∀ b o, s₃.heap.get? b = some o → s₄.heap.get? b = some o := fun b o q => e₄ ▸ Heap.get?_push_of_some _ q
  have C₄ := C₃.keeps k34 g₄ o₄
  have hv : s₄.heap.IsItemsView s₃.heap.objs.size d := ⟨_, e₄ ▸ Heap.get?_push_size _ rfl, rfl, rfl⟩
  obtain ⟨ep, hat⟩ := hdo.dictAt
  have hrd₄ := (hrd₂.keeps u₃').keeps k34
  refine kdx_call (knd := PySem.strKind prog w) (kvs := kvs) (ep := ep) rm.hnd hv (e₄ ▸ hat.push _) (by rw [sizeLine_eq]; omega) ?_
  intro h₅ tk acc c as k₅ hS hl hG hacc
  refine gn h₅ s₄.gens s₄.os rfl rfl rfl fun s₅ e₅ g₅ o₅ => ?_
  have C₅ := C₄.keeps (s' := s₅) (fun b o q => e₅ ▸ k₅ b o q) g₅ o₅
  refine lv C₅.px.F rfl kf rfl (upd_ne n4) ?_
  refine ne_items (h := s₄.heap) rm.units (Rm.in1 (n := 4) rm).units (e₅ ▸ hG) hl hacc (e₅ ▸ hS) hrd₄ (fun b o q => e₅ ▸ k₅ b o q) (Nat.le_refl _) (All2.comp (fun kv x p y z => ⟨y.1.trans z.1, let ⟨t, q⟩ := y.2; ⟨t, by rw [q, z.2]⟩⟩) hkv hr) ?_
  refine wpAny_truthy_bool ?_
  rw [if_neg (by decide)]
  refine wpAny_execs_nil ?_
  refine wpAny_execs_nil ?_
  exact h s₅ _ C₅ fun x hx => if_neg hx
end
end Mine
open PySem PySem.W PyProof.Rows PySem.Calls PySem.Spec
set_option Elab.async false
set_option maxRecDepth 100000
set_option maxHeartbeats 1000000
set_option linter.unusedVariables false
namespace Mine
/-- what the plain laws must say of a turn -/
structure Good (W name : Int) (tolds : List Int) (ts : List (PySem.Str × PySem.Str × PySem.Str)) (st : Int × List Part × List PySem.Str) (se : SecSt) (wr : List Nat) (xs : List KvItem) : Prop where
  est : st = stA W name (ts.map (·.2.2)) ts.length
  ese : se = secAt W name tolds ts ts.length
  fit : ∀ i (hi : i < (ts.map (·.2.2)).length), FitA (ts.map (·.2.2))[i] (stA W name (ts.map (·.2.2)) i)
  ne : st.2.1 ≠ []
  len1 : st.2.1.length ≤ 39
  len2 : st.2.2.length ≤ 500
  sm : SmallT st.2.1
  last : st.2.1.getLastD ("", "") ≠ ((" " : PySem.Str), ("" : PySem.Str))
  k1 : st.1 ≤ 1000
  h0 : 0 < st.1 + sizeAll st.2.1
  sp : Txt.isspace (catAll st.2.1) = false
  sum : ((st.2.2 ++ [catAll st.2.1]).map (·.length)).sum ≤ 1000000
  join : Txt.join "|" (st.2.2 ++ [catAll st.2.1]) = tx wr
  due : se.due = tx wr
  asc : wr.all (· < 128) = true
  short : wr.length ≤ 900
  items : httpItems wr = se.shown
  text : xs.map KvItem.text = se.shown
  ok : ∀ x ∈ xs, x.Ok
  nd : (xs.map fun x => tx x.key).Nodup
  few : xs.length ≤ 90
  read : All2 (fun (x : KvItem) (p : PySem.Str × PySem.Str) => tx x.key = p.1 ∧ tx x.res = p.2) xs se.read
section
variable {w : World} {A : Around} {E : Value → Shared → Prop} {S s₀ s s' : Shared} {g h h' e : Heap} {f df c dc ln L l r I pl sh rd tl a b d : Addr} {W name : Int} {m m' : PySem.Str → Option Value} {X : List Addr} {R : Result → Shared → Prop} {env : Env} {Q : Flow → Shared → Prop} {ls : List PySem.Str} {ps : List (PySem.Str × PySem.Str)} {tolds : List Int} {ts : List (PySem.Str × PySem.Str × PySem.Str)}
theorem turn211_ct {st : Int × List Part × List PySem.Str} {se : SecSt} {wr : List Nat} {xs : List KvItem} {tn tW : Tok} {body : List Stmt} (hb : body = big211 (bodyAt w.params 211)) (he : env = envC w.params 211 L) (rm : Rm A 14) (C : Lx w g S s s L m)
    (n1 : m "name" = some (.int name tn)) (n2 : m "width" = some (.int W tW)) (n3 : m "pairs" = some (.ref pl)) (n4 : m "told" = some (.ref tl)) (hp : PairsAt s.heap pl ts) (hpl : 148 ≤ pl) (htl : InAt s.heap tl tolds) (htl' : 148 ≤ tl) (hz : ts.length ≤ 20) (hto : tolds.length = ts.length)
    (hlen : ∀ t ∈ ts, t.2.1.length ≤ 100 ∧ t.2.2.length ≤ 100) (hW : 0 < W) (hW' : W ≤ 1000) (G : Good W name tolds ts st se wr xs)
    (h : ∀ s' m', Lx w g S s s' L m' → m' "width" = m "width" → m' "pairs" = m "pairs" → m' "told" = m "told" → Q .next s') :
    wpAny (model prog w) A (execs body env) Q E s := by
  subst hb he
  have kf := (fn211 w.params).kind
  -- formatter = _ValueFormatter(name, width, ' ', ';, \t')
  refine wpAny_execs_cons ?_
  refine wpAny_Assign_Name ?_
  refine Call_ ?_
  refine gv C.px.B C.px.F (v := .ref 94) (by kernel_rfl) kf (by kernel_rfl) (by kernel_rfl) ?_
  refine callWith_K C.px.kk (by kernel_rfl) ?_
  with_reducible refine args_cons ?_ (by with_unfolding_all rfl)
  refine lv C.px.F rfl kf rfl n1 ?_
  with_reducible refine args_cons ?_ (by with_unfolding_all rfl)
  refine lv C.px.F rfl kf rfl n2 ?_
  with_reducible refine args_cons ?_ (by with_unfolding_all rfl)
  with_reducible refine wpAny_Constant_str ?_
  with_reducible refine args_cons ?_ (by with_unfolding_all rfl)
  with_reducible refine wpAny_Constant_str ?_
  refine args_nil ?_
  refine ⟨C.px.kk, ?_⟩
  refine gn s.heap s.gens s.os rfl rfl rfl fun s₁ e₁ g₁ o₁ => ?_
  have C₁ := C.re (s' := s₁) e₁ g₁ o₁
  refine wpAny_call (fmMake_ct C₁.px.B C₁.px.F.base rm.mono ?_)
  intro s₂ f df c dc ln u₂ fm₂ nx₂ lo
  obtain ⟨lo1, lo2, lo3, lo4, lo5⟩ := lo
  have C₂ := Lf.start (C₁.up u₂) fm₂ (C₁.newAt lo1) (C₁.newAt lo2) (C₁.newAt lo3) (C₁.newAt lo4) (C₁.newAt lo5)
  refine sw s₂.gens s₂.os rfl rfl C₂.lx.px.F rfl kf rfl ?_
  intro s₃ F₃ k₃ g₃ o₃
  have C₃ := C₂.store F₃ k₃ g₃ o₃
  -- for pair in pairs
  refine wpAny_execs_cons ?_
  refine append211 (by kernel_rfl) rfl rm.mono C₃ upd_eq (upd_ne n3) hp hpl hz G.fit ?_
  intro s₄ m₄ C₄ nm₄
  rw [← G.est] at C₄
  -- written = formatter._str('|')
  refine wpAny_execs_cons ?_
  refine wpAny_Assign_Name ?_
  refine MethodCall_ ?_
  refine lv C₄.lx.px.F rfl kf rfl ((nm₄ _ (by decide)).trans upd_eq) ?_
  obtain ⟨ho, ⟨td, nd, hdf⟩, _⟩ := id C₄.fm
  refine fm_meth (fn := 42) C₄.lx.px.kk ho hdf (by kernel_rfl) (by kernel_rfl) (by kernel_rfl) ?_
  refine callWith_K C₄.lx.px.kk (by kernel_rfl) ?_
  with_reducible refine args_cons ?_ (by with_unfolding_all rfl)
  with_reducible refine wpAny_Constant_str ?_
  refine args_nil ?_
  have C₅ := C₄.re (s' := { s₄ with toks := s₄.toks + 1 }) rfl rfl rfl
  refine ⟨C₅.lx.px.kk, ?_⟩
  refine wpAny_call (strU_ct C₅.lx.px.B C₅.lx.px.F.base rm.mono C₅.nx C₅.fm C₅.lx.tb G.ne G.len1 G.len2 G.sm G.last G.k1 G.h0 G.sp (by decide +kernel) G.sum ?_)
  intro s₆ t₆ u₆ tb₆
  have C₆ := C₅.lx.fx u₆ tb₆ C₅.c0 C₅.d0 C₅.l0
  rw [G.join]
  refine sw s₆.gens s₆.os rfl rfl C₆.px.F rfl kf rfl ?_
  intro s₇ F₇ k₇ g₇ o₇
  have C₇ := C₆.store F₇ k₇ g₇ o₇
  have nm₇ : ∀ x : PySem.Str, x ≠ "pair" → x ≠ "formatter" → x ≠ "written" → (fun y : PySem.Str => if y = "written" then some (.str (tx wr) t₆) else m₄ y) x = m x := fun x h1 h2 h3 => (if_neg h3).trans ((nm₄ x h1).trans (if_neg h2))
  have nw₇ : (fun y : PySem.Str => if y = "written" then some (.str (tx wr) t₆) else m₄ y) "written" = some (.str (tx wr) t₆) := upd_eq
  revert C₇ nm₇ nw₇
  generalize (fun y : PySem.Str => if y = "written" then some (.str (tx wr) t₆) else m₄ y) = m₇
  intro C₇ nm₇ nw₇
  -- due = ''
  refine wpAny_execs_cons ?_
  refine wpAny_Assign_Name ?_
  with_reducible refine wpAny_Constant_str ?_
  refine sw s₇.gens s₇.os rfl rfl (C₇.tok (t := s₇.toks + 1)).px.F rfl kf rfl ?_
  intro s₈ F₈ k₈ g₈ o₈
  have C₈ := C₇.store F₈ k₈ g₈ o₈
  -- shown = []
  refine wpAny_execs_cons ?_
  refine wpAny_Assign_Name ?_
  with_reducible refine List_ ?_
  refine args_nil ?_
  unfold newList
  refine wpAny_newObj_type ?_
  obtain ⟨sh, esh⟩ : ∃ sh, sh = s₈.heap.objs.size := ⟨_, rfl⟩
  have nsh : NewAt S s L sh := C₈.newAt (Nat.le_of_eq esh.symm)
  have hsh : LnAt (s₈.heap.push { cls := .type "list", data := .seq #[] }) sh [] := ⟨[], 0, esh ▸ Heap.get?_push_size _ rfl, .nil⟩
  have C₉ := C₈.keeps (s' := { s₈ with heap := s₈.heap.push { cls := .type "list", data := .seq #[] } }) (fun b o q => Heap.get?_push_of_some _ q) rfl rfl
  rw [← esh]
  refine sw s₈.gens s₈.os rfl rfl C₉.px.F rfl kf rfl ?_
  intro s₁₀ F₁₀ k₁₀ g₁₀ o₁₀
  have C₁₀ := C₉.store F₁₀ k₁₀ g₁₀ o₁₀
  have hsh₁₀ := hsh.keep fun o q => k₁₀ _ _ nsh.L q
  -- read = []
  refine wpAny_execs_cons ?_
  refine wpAny_Assign_Name ?_
  with_reducible refine List_ ?_
  refine args_nil ?_
  unfold newList
  refine wpAny_newObj_type ?_
  obtain ⟨rd, erd⟩ : ∃ rd, rd = s₁₀.heap.objs.size := ⟨_, rfl⟩
  have nrd : NewAt S s L rd := C₁₀.newAt (Nat.le_of_eq erd.symm)
  have hrd : TupsAt (s₁₀.heap.push { cls := .type "list", data := .seq #[] }) rd [] := ⟨[], 0, erd ▸ Heap.get?_push_size _ rfl, .nil⟩
  have hsr : sh ≠ rd := by
    obtain ⟨_, _, q, _⟩ := hsh₁₀
    rw [erd]; exact Nat.ne_of_lt (Heap.lt_size q)
  have hsh₁₁ := hsh₁₀.keep (h' := s₁₀.heap.push { cls := .type "list", data := .seq #[] }) fun o q => Heap.get?_push_of_some _ q
  have C₁₁ := C₁₀.keeps (s' := { s₁₀ with heap := s₁₀.heap.push { cls := .type "list", data := .seq #[] } }) (fun b o q => Heap.get?_push_of_some _ q) rfl rfl
  rw [← erd]
  refine sw s₁₀.gens s₁₀.os rfl rfl C₁₁.px.F rfl kf rfl ?_
  intro s₁₂ F₁₂ k₁₂ g₁₂ o₁₂
  have C₁₂ := C₁₁.store F₁₂ k₁₂ g₁₂ o₁₂
  have keepT : ∀ {s s' : Shared} {m : PySem.Str → Option Value}, s.heap.Ns L m → TupsAt s.heap rd [] → (∀ b o, b ≠ L → s.heap.get? b = some o → s'.heap.get? b = some o) → TupsAt s'.heap rd [] := fun hn ht k =>
    ht.keep (X := [L]) (fun q => nrd.L (List.mem_singleton.mp q)) (fun b o nb q => k b o (fun z => nb (by rw [z]; exact List.mem_singleton.mpr rfl)) q) fun b hb o q => by
      rw [List.mem_singleton.mp hb] at q
      exact ns_tuple hn o q
  have hsh₁₂ := hsh₁₁.keep fun o q => k₁₂ _ _ nsh.L q
  have hrd₁₂ := keepT C₁₁.px.F.ns hrd k₁₂
  -- row = 0
  refine wpAny_execs_cons ?_
  refine wpAny_Assign_Name ?_
  with_reducible refine wpAny_Constant_int ?_
  refine sw s₁₂.gens s₁₂.os rfl rfl (C₁₂.tok (t := s₁₂.toks + 1)).px.F rfl kf rfl ?_
  intro s₁₃ F₁₃ k₁₃ g₁₃ o₁₃
  have C₁₃ := C₁₂.store F₁₃ k₁₃ g₁₃ o₁₃
  have hsh₁₃ := hsh₁₂.keep fun o q => k₁₃ _ _ nsh.L q
  have hrd₁₃ := keepT C₁₂.px.F.ns hrd₁₂ k₁₃
  -- for p in range(len(pairs))
  refine wpAny_execs_cons ?_
  refine loop2_ct (by kernel_rfl) rfl C₁₃ rm.hnd (upd_ne (upd_ne (upd_ne upd_eq))) upd_eq (upd_ne (upd_ne (upd_ne (upd_ne ((nm₇ _ (by decide) (by decide) (by decide)).trans n3))))) (upd_ne (upd_ne upd_eq)) (upd_ne upd_eq) (upd_ne (upd_ne (upd_ne (upd_ne ((nm₇ _ (by decide) (by decide) (by decide)).trans n4)))))
    (upd_ne (upd_ne (upd_ne (upd_ne ((nm₇ _ (by decide) (by decide) (by decide)).trans n1))))) (upd_ne (upd_ne (upd_ne (upd_ne ((nm₇ _ (by decide) (by decide) (by decide)).trans n2))))) hsh₁₃ hrd₁₃ nsh nrd hsr hp hpl htl htl' hz hto hlen hW hW' ?_
  intro s₁₄ m₁₄ C₁₄ nm₁₄ nd₁₄ hsh₁₄ hrd₁₄
  rw [← G.ese] at nd₁₄ hsh₁₄ hrd₁₄
  obtain ⟨td, nd₁₄⟩ := nd₁₄
  rw [G.due] at nd₁₄
  refine end211_ct (by kernel_rfl) rfl rm.mono C₁₄ ((nm₁₄ _ (by decide) (by decide) (by decide) (by decide)).trans (upd_ne (upd_ne (upd_ne (upd_ne nw₇))))) nd₁₄ ((nm₁₄ _ (by decide) (by decide) (by decide) (by decide)).trans (upd_ne (upd_ne upd_eq))) ((nm₁₄ _ (by decide) (by decide) (by decide) (by decide)).trans (upd_ne upd_eq)) hsh₁₄ hrd₁₄ nsh.L nrd.L
    G.asc G.short G.items G.text G.ok G.nd G.few G.read ?_
  intro s₁₅ m₁₅ C₁₅ nm₁₅
  refine h s₁₅ m₁₅ C₁₅ ?_ ?_ ?_
  · exact (nm₁₅ _ (by decide)).trans ((nm₁₄ _ (by decide) (by decide) (by decide) (by decide)).trans (upd_ne (upd_ne (upd_ne (upd_ne (nm₇ _ (by decide) (by decide) (by decide)))))))
  · exact (nm₁₅ _ (by decide)).trans ((nm₁₄ _ (by decide) (by decide) (by decide) (by decide)).trans (upd_ne (upd_ne (upd_ne (upd_ne (nm₇ _ (by decide) (by decide) (by decide)))))))
  · exact (nm₁₅ _ (by decide)).trans ((nm₁₄ _ (by decide) (by decide) (by decide) (by decide)).trans (upd_ne (upd_ne (upd_ne (upd_ne (nm₇ _ (by decide) (by decide) (by decide)))))))
end
end Mine
open PySem PySem.W PyProof.Rows PySem.Calls PySem.Spec
set_option Elab.async false
set_option maxRecDepth 100000
set_option maxHeartbeats 1000000
set_option linter.unusedVariables false
namespace Mine
noncomputable section
noncomputable def outer211 (b : List Stmt) : Stmt := match b with
  | [_, _, _, _, _, _, _, st, _] => st
  | _ => default
noncomputable def namesOf (W T : Int) : List Int := [0, W - 1, (8 + T.fdiv 20).fmod W, W + T.fdiv 400]
end
section
variable {w : World} {A : Around} {E : Value → Shared → Prop} {S s₀ s s' : Shared} {g h h' e : Heap} {f df c dc ln L l r I pl sh rd tl a b d : Addr} {W T : Int} {m m' : PySem.Str → Option Value} {X : List Addr} {R : Result → Shared → Prop} {env : Env} {Q : Flow → Shared → Prop} {tolds : List Int} {ts : List (PySem.Str × PySem.Str × PySem.Str)}
theorem Lx.trans (C : Lx w g S s₀ s L m) (C' : Lx w g S s s' L m') : Lx w g S s₀ s' L m' := ⟨C'.px, C'.tb, C.hid, C.big, C.n0, fun b o a1 a2 a3 q => C'.kp b o a1 a2 a3 (C.kp b o a1 a2 a3 q)⟩
theorem Lx.here (C : Lx w g S s₀ s L m) : Lx w g S s s L m := Lx.start C.px C.tb C.hid C.big
theorem outer_ct {tW tT : Tok} {st : Stmt} (hb : st = outer211 (bodyAt w.params 211)) (he : env = envC w.params 211 L) (rm : Rm A 14) (C : Lx w g S s s L m)
    (n2 : m "width" = some (.int W tW)) (n3 : m "pairs" = some (.ref pl)) (n4 : m "told" = some (.ref tl)) (cT : s.heap.IsCell (L + 1) (some (.int T tT))) (hp : PairsAt s.heap pl ts) (hpl : 148 ≤ pl) (htl : InAt s.heap tl tolds) (htl' : 148 ≤ tl) (hz : ts.length ≤ 20) (hto : tolds.length = ts.length)
    (hlen : ∀ t ∈ ts, t.2.1.length ≤ 100 ∧ t.2.2.length ≤ 100) (hW : 0 < W) (hW' : W ≤ 1000) (G : ∀ n ∈ namesOf W T, ∃ st se wr xs, Good W n tolds ts st se wr xs)
    (h : ∀ s' m', Px w g S s' L m' → Tb s'.heap → Q .next s') :
    wpAny (model prog w) A (exec st env) Q E s := by
  subst hb he
  have kf := (fn211 w.params).kind
  have W0 : W ≠ 0 := Int.ne_of_gt hW
  refine wpAny_ForW ?_
  with_reducible refine List_ ?_
  with_reducible refine args_cons ?_ (by with_unfolding_all rfl)
  with_reducible refine wpAny_Constant_int ?_
  with_reducible refine args_cons ?_ (by with_unfolding_all rfl)
  refine wpAny_BinOp ?_
  refine lv (C.tok (t := s.toks + 1)).px.F rfl kf rfl n2 ?_
  with_reducible refine wpAny_Constant_int ?_
  refine sub_int ?_
  with_reducible refine args_cons ?_ (by with_unfolding_all rfl)
  refine gn s.heap s.gens s.os rfl rfl rfl fun s₁ e₁ g₁ o₁ => ?_
  have C₁ := C.re (s' := s₁) e₁ g₁ o₁
  refine wpAny_BinOp ?_
  refine wpAny_BinOp ?_
  with_reducible refine wpAny_Constant_int ?_
  refine wpAny_BinOp ?_
  refine lcell kf rfl (by with_unfolding_all rfl) (e₁ ▸ cT) ?_
  with_reducible refine wpAny_Constant_int ?_
  refine floordiv_int (by decide) ?_ (.inl (PyProof.noPylong_of_log2 (by decide +kernel)))
  refine add_int ?_
  refine gn s₁.heap s₁.gens s₁.os rfl rfl rfl fun s₂ e₂ g₂ o₂ => ?_
  have C₂ := C₁.re (s' := s₂) e₂ g₂ o₂
  refine lv C₂.px.F rfl kf rfl n2 ?_
  refine mod_int' W0 ?_
  with_reducible refine args_cons ?_ (by with_unfolding_all rfl)
  refine wpAny_BinOp ?_
  refine lv (C₂.tok (t := s₂.toks + 1)).px.F rfl kf rfl n2 ?_
  refine wpAny_BinOp ?_
  refine lcell kf rfl (by with_unfolding_all rfl) (s := { s₂ with toks := s₂.toks + 1 }) (e₂ ▸ e₁ ▸ cT) ?_
  with_reducible refine wpAny_Constant_int ?_
  refine floordiv_int (by decide) ?_ (.inl (PyProof.noPylong_of_log2 (by decide +kernel)))
  refine add_int ?_
  refine args_nil ?_
  unfold newList
  refine wpAny_newObj_type ?_
  obtain ⟨vs, evs, hvs⟩ : ∃ vs : List Value, vs = [.int 0 s.toks, .int (W - 1) (s.toks + 1 + 1), .int ((8 + T.fdiv 20).fmod W) s₂.toks, .int (W + T.fdiv 400) (s₂.toks + 1 + 1 + 1)] ∧ IntAll vs (namesOf W T) := ⟨_, rfl, .cons ⟨_, rfl⟩ (.cons ⟨_, rfl⟩ (.cons ⟨_, rfl⟩ (.cons ⟨_, rfl⟩ .nil)))⟩
  have hl : InAt (s₂.heap.push { cls := .type "list", data := .seq vs.toArray }) s₂.heap.objs.size (namesOf W T) := ⟨vs, 0, Heap.get?_push_size _ rfl, hvs⟩
  rw [evs] at hl
  obtain ⟨ll, ell⟩ : ∃ ll, ll = s₂.heap.objs.size := ⟨_, rfl⟩
  have nll := C₂.newAt (Nat.le_of_eq ell.symm)
  rw [← ell] at hl ⊢
  refine gn (s₂.heap.push { cls := .type "list", data := .seq [.int 0 s.toks, .int (W - 1) (s.toks + 1 + 1), .int ((8 + T.fdiv 20).fmod W) s₂.toks, .int (W + T.fdiv 400) (s₂.toks + 1 + 1 + 1)].toArray }) s₂.gens s₂.os rfl rfl rfl fun s₃ e₃ g₃ o₃ => ?_
  have C₃ := C₂.keeps (s' := s₃) (fun b o q => e₃ ▸ Heap.get?_push_of_some _ q) g₃ o₃
  rw [← e₃] at hl
  obtain ⟨vl, hvl, isl⟩ := hl.isList
  have hlen4 := All2.length hvl
  refine wpAny_pyIter_list isl ?_
  have hit : (s₃.heap.push { cls := .type "list_iterator", data := .fields #[.ref ll, .int 0 0] }).IsListIter s₃.heap.objs.size ll 0 := ⟨_, Heap.get?_push_size _ rfl, rfl, rfl⟩
  have C₄ := C₃.keeps (s' := { s₃ with heap := s₃.heap.push { cls := .type "list_iterator", data := .fields #[.ref ll, .int 0 0] } }) (fun b o q => Heap.get?_push_of_some _ q) rfl rfl
  have hl₄ := hl.keep (h' := s₃.heap.push { cls := .type "list_iterator", data := .fields #[.ref ll, .int 0 0] }) fun o q => Heap.get?_push_of_some _ q
  obtain ⟨I, eI⟩ : ∃ I, I = s₃.heap.objs.size := ⟨_, rfl⟩
  have nI := C₃.newAt (Nat.le_of_eq eI.symm)
  have faI := far (Nat.le_trans C.big nI.S)
  have fal := far (Nat.le_trans C.big nll.S)
  have lI : ll ≠ I := by
    obtain ⟨_, _, q, _⟩ := hl
    rw [eI]; exact Nat.ne_of_lt (Heap.lt_size q)
  rw [← eI] at hit ⊢
  refine ForW.loop (n := (namesOf W T).length) (fun i s' => ∃ m', Lx w g S s s' L m' ∧ m' "width" = some (.int W tW) ∧ m' "pairs" = some (.ref pl) ∧ m' "told" = some (.ref tl) ∧ s'.heap.IsListIter I ll i ∧ InAt s'.heap ll (namesOf W T)) ?_ ?_ (by intro _; rfl) (Nat.zero_le _)
    ⟨m, C₄, n2, n3, n4, hit, hl₄⟩
  · rintro i s₅ hi ⟨m₅, C₅, a2, a3, a4, hit₅, hl₅⟩
    obtain ⟨vl, hvl, isl⟩ := hl₅.isList
    obtain ⟨v, hv, tv, rfl⟩ := hvl.at (List.getElem?_eq_getElem hi)
    refine wpAny_pyNext_list_item hit₅ isl (x := .int (namesOf W T)[i] tv) (by simpa using hv) ?_
    intro h₆ hit₆ sb
    refine ⟨_, rfl, ?_⟩
    refine wpAny_assign_Name ?_
    have C₆ := C₅.own1 (s' := { s₅ with heap := h₆ }) (fun b o nb q => sb.extBut b o nb q) rfl rfl nI
    refine sw s₅.gens s₅.os rfl rfl C₆.px.F rfl kf rfl ?_
    intro s₇ F₇ k₇ g₇ o₇
    have C₇ := C₆.store F₇ k₇ g₇ o₇
    have hit₇ := ListIter.keep hit₆ fun o q => k₇ _ _ nI.L q
    have hl₇ := hl₅.keep fun o q => k₇ _ _ nll.L (sb.extBut _ _ lI q)
    obtain ⟨st, se, wr, xs, gd⟩ := G _ (List.getElem_mem hi)
    refine turn211_ct (by kernel_rfl) rfl rm C₇.here upd_eq (upd_ne a2) (upd_ne a3) (upd_ne a4) (C₇.pairs hp hpl) hpl (C₇.int htl htl') htl' hz hto hlen hW hW' gd ?_
    intro s₈ m₈ C₈ b2 b3 b4
    exact ⟨m₈, C₇.trans C₈, b2.trans (upd_ne a2), b3.trans (upd_ne a3), b4.trans (upd_ne a4), ListIter.keep hit₇ fun o q => C₈.kp _ _ nI.L faI.1 faI.2.1 q, hl₇.keep fun o q => C₈.kp _ _ nll.L fal.1 fal.2.1 q⟩
  · rintro s₅ ⟨m₅, C₅, a2, a3, a4, hit₅, hl₅⟩
    obtain ⟨vl, hvl, isl⟩ := hl₅.isList
    refine wpAny_pyNext_list_end rm.hnd hit₅ isl (by simp [All2.length hvl]) ?_
    intro h₆ eb
    refine ⟨rfl, ?_⟩
    have C₆ := C₅.own1 (s' := { s₅ with heap := h₆ }) (fun b o nb q => eb b o nb q) rfl rfl nI
    refine wpAny_execs_nil ?_
    exact h _ m₅ C₆.px C₆.tb
end
end Mine
open PySem PySem.W PyProof.Rows PySem.Calls PySem.Spec
set_option Elab.async false
set_option maxRecDepth 100000
set_option maxHeartbeats 1000000
set_option linter.unusedVariables false
namespace Mine
noncomputable section
noncomputable def s0_211 (b : List Stmt) : Stmt := match b with | st :: _ => st | _ => default
noncomputable def drawnOf (ns : List Int) : List Int := (ns.take 5).map fun x => x.fmod 864
end
section
variable {w : World} {A : Around} {E : Value → Shared → Prop} {S s₀ s s' : Shared} {g h h' e : Heap} {f df c dc ln L l r I pl sh rd tl a b d sc : Addr} {W T : Int} {m m' : PySem.Str → Option Value} {X : List Addr} {R : Result → Shared → Prop} {env : Env} {Q : Flow → Shared → Prop}
theorem add_ls {vs ws : List Value} {Q : Value → Shared → Prop} (hl : s.heap.IsList l vs.toArray) (hb : s.heap.IsList b ws.toArray) (hsz : vs.length + ws.length ≤ 1000)
    (h : Q (.ref s.heap.objs.size) { s with heap := s.heap.push { cls := .type "list", data := .seq (vs ++ ws).toArray } }) : wpAny (model prog w) A (binaryOp .Add (.ref l) (.ref b)) Q E s := by
  obtain ⟨⟨cls, dd, data, sl⟩, ho, hc, n, hd⟩ := id hl
  obtain ⟨⟨cls2, dd2, data2, sl2⟩, ho2, hc2, n2, hd2⟩ := id hb
  simp only at hc hd hc2 hd2
  subst hc hd hc2 hd2
  have e : vs.toArray ++ ws.toArray = (vs ++ ws).toArray := by simp
  refine concat_meets ⟨_, ho, rfl⟩ ⟨_, ho2, rfl⟩ noFill_list_add seq_list_add PySem.F.slot_list_add PySem.F.entry_list_add (PySem.F.args_list_add_2 _ _) (list_addW l b vs.toArray ws.toArray n n2 dd dd2 sl sl2 (by rw [List.size_toArray, List.size_toArray, sizeLine_eq]; omega)) ⟨ho, ho2, ?_⟩
  rw [e]
  exact h
/-- the tables hidden -/
theorem Px.hide (C : Px w g s s' L m) : Px w g { s with heap := hideAll s.heap [140, 147] } s' L m :=
  ⟨C.B, fun b o q => hideAll_get _ (C.kb b o q) (fun z => by
    rcases List.mem_cons.mp z with rfl | z
    · rw [C.B.tabs.1] at q; cases q
    · rw [List.mem_singleton.mp z, C.B.tabs.2] at q; cases q), C.F, by
    show (hideAll s.heap [140, 147]).objs.size ≤ L
    rw [hideAll_size]; exact C.hL, ⟨fun b o nb q => C.U.keep b o nb (of_hideAll _ q), C.U.gens, C.U.os⟩⟩
theorem Up.unhide (u : Up [] { s with heap := hideAll s.heap [140, 147] } s') : Up [140, 147] s s' :=
  ⟨fun b o nb q => u.keep b o (by simp) (hideAll_get _ q nb), u.gens, u.os⟩
theorem drawn211 {vs : List Value} {ns : List Int} {st : Stmt} (hst : st = s0_211 (bodyAt w.params 211)) (he : env = envC w.params 211 L) (C : Px w g S s L m) (hh : A.handled = none) (n1 : m "script" = some (.ref sc)) (isl : s.heap.IsList sc vs.toArray) (hv : IntAll vs ns) (hz : vs.length ≤ 1000)
    (h : ∀ s' D, Px w g S s' L (fun z => if z = "drawn" then some (.ref D) else m z) → (∀ b o, b ≠ L → s.heap.get? b = some o → s'.heap.get? b = some o) → InAt s'.heap D (drawnOf ns) → Q .next s') :
    wpAny (model prog w) A (exec st env) Q E s := by
  subst hst he
  have kf := (fn211 w.params).kind
  refine px_assign_comp (g := g) (S := S) (L := L) (m := m) (cl := []) rfl kf rfl (by with_unfolding_all rfl) (by with_unfolding_all rfl) rfl rfl (by decide) rfl ?_ (by intro _; rfl)
  refine Subscript_ ?_
  refine lv C.F rfl kf rfl n1 ?_
  with_reducible refine wpAny_Slice ?_
  refine evalPart_none_step ?_
  refine evalPart_some_step ?_
  with_reducible refine wpAny_Constant_int ?_
  refine evalPart_none_step ?_
  refine ls_slice (s := { s with toks := s.toks + 1 }) (res := vs.take 5) isl .none (.int _ _) (slicePick_upto' vs.toArray 5) hz s.gens s.os rfl rfl ?_ (by with_unfolding_all rfl)
  intro s₁ D g₁ o₁ k₁ hD hDs
  have C₁ := C.keeps (s' := s₁) k₁ g₁ o₁
  have islD : s₁.heap.IsList D (vs.take 5).toArray := ⟨_, hD, rfl, 0, rfl⟩
  have hv5 := hv.take 5
  have hl5 : (vs.take 5).length = (ns.take 5).length := All2.length hv5
  have h5 : (vs.take 5).length ≤ 5 := by rw [List.length_take]; omega
  refine wpAny_pyIter_list islD ?_
  have Dlt : D < s₁.heap.objs.size := Heap.lt_size hD
  have up : ∀ b o, s₁.heap.get? b = some o → (s₁.heap.push { cls := .type "list_iterator", data := .fields #[.ref D, .int 0 0] }).get? b = some o := fun b o q => Heap.get?_push_of_some _ q
  have C₂ := C₁.keeps (s' := { s₁ with heap := s₁.heap.push { cls := .type "list_iterator", data := .fields #[.ref D, .int 0 0] } }) up rfl rfl
  refine ⟨C₂, s₁.heap.objs.size, _, _, _, _, rfl, Walks.list hh s₁.heap.objs.size D (Nat.ne_of_lt Dlt) (vs.take 5).toArray, by rw [List.size_toArray]; omega, ⟨⟨_, Heap.get?_push_size _ rfl, rfl, rfl⟩, islD.push _⟩, fun b hb => ?_, C₁.le, Nat.ne_of_gt C₁.F.lt, fun D' CC eD eC => ⟨fun i ys _ => IntAll ys (((ns.take 5).take i).map fun (x : Int) => x.fmod 864), fun _ _ => by simp; exact .nil, fun _ _ _ _ q _ => q, ?_, ?_⟩⟩
  · show b < (s₁.heap.push _).objs.size
    rw [Heap.size_push]
    rcases List.mem_cons.mp hb with rfl | hb
    · exact Nat.lt_succ_self _
    · rw [List.mem_singleton.mp hb]; exact Nat.lt_succ_of_lt Dlt
  · intro i ys s₃ v m₃ E' hi C₃ _ K hyl hP hns hx _
    rw [List.size_toArray, hl5] at hi
    obtain ⟨v', hv', t', e'⟩ := hv5.at (List.getElem?_eq_getElem hi)
    have hP : (vs.take 5)[i]? = some v := by simpa using hP
    rw [hv'] at hP
    cases hP
    subst e'
    refine wpAny_tests_nil ?_
    refine ⟨.refl _ _, ?_⟩
    rw [if_pos rfl]
    refine wpAny_BinOp ?_
    refine lc hns rfl rfl rfl hx ?_
    with_reducible refine wpAny_Constant_int ?_
    refine mod_int' (by decide) ?_
    refine ⟨.of_eq (fun _ _ q => q) rfl rfl, ?_⟩
    show IntAll _ _
    rw [List.take_succ_eq_append_getElem hi, List.map_append]
    exact All2.append K (.cons ⟨_, rfl⟩ .nil)
  · intro s' ys m' C' old K hD' em
    subst em
    have K : IntAll ys (((ns.take 5).take (vs.take 5).toArray.size).map fun (x : Int) => x.fmod 864) := K
    rw [List.size_toArray, hl5, List.take_length] at K
    exact h s' D' C' (fun b o nb q => old _ _ (Nat.ne_of_lt (Heap.lt_size (k₁ _ _ q))) nb (up _ _ (k₁ _ _ q))) ⟨ys, _, hD', K⟩
end
end Mine
open PySem PySem.W PyProof.Rows PySem.Calls PySem.Spec
set_option Elab.async false
set_option maxRecDepth 100000
set_option maxHeartbeats 1000000
set_option linter.unusedVariables false
namespace Mine
noncomputable section
noncomputable def s5_211 (b : List Stmt) : Stmt := match b with | [_, _, _, _, _, st, _, _, _] => st | _ => default
noncomputable def behindOf (T : Int) (n p : Nat) : List Nat := if (p : Int) = (n : Int) - 1 ∧ T.fmod 3 = 2 then [] else [44]
noncomputable def tri (T : Int) (nums : List Nat) (p : Nat) : PySem.Str × PySem.Str × PySem.Str := (tx (pairM (nums.getD p 0)), tx (pairS p (nums.getD p 0)), tx (pairW p (nums.getD p 0) (behindOf T nums.length p)))
end
section
variable {w : World} {A : Around} {E : Value → Shared → Prop} {S s₀ s s' : Shared} {g h h' e : Heap} {f df c dc ln L l r I pl sh rd tl a b d sc nl : Addr} {W T : Int} {m m' : PySem.Str → Option Value} {X : List Addr} {R : Result → Shared → Prop} {env : Env} {Q : Flow → Shared → Prop}
theorem pairs211 {nums : List Nat} {tT tl' : Tok} {st : Stmt} (hst : st = s5_211 (bodyAt w.params 211)) (he : env = envC w.params 211 L) (C : Px w g S s L m) (rm : Rm A 6) (big : 152 ≤ S.heap.objs.size) (c1 : s.heap.IsCell (L + 1) (some (.int T tT))) (c2 : s.heap.IsCell (L + 2) (some (.ref nl))) (c3 : s.heap.IsCell (L + 3) (some (.int ((nums.length : Int) - 1) tl')))
    (hnl : InAt s.heap nl (nums.map fun (n : Nat) => (n : Int))) (hz : nums.length ≤ 20) (hn : ∀ n ∈ nums, n < 864)
    (h : ∀ s' D, Px w g S s' L (fun z => if z = "pairs" then some (.ref D) else m z) → (∀ b o, b ≠ L → s.heap.get? b = some o → s'.heap.get? b = some o) → PairsAt s'.heap D ((List.range nums.length).map (tri T nums)) → 148 ≤ D → Q .next s') :
    wpAny (model prog w) A (exec st env) Q E s := by
  subst hst he
  have kf := (fn211 w.params).kind
  refine px_assign_comp (g := g) (S := S) (L := L) (m := m) (cl := [("total", L + 1), ("numbers", L + 2), ("last", L + 3)]) rfl kf rfl (by with_unfolding_all rfl) (by with_unfolding_all rfl) rfl rfl (by decide) rfl ?_ (by intro _; rfl)
  refine Call_ ?_
  refine bv C.B C.F (by kernel_rfl) (v := .type "range") (by decide +kernel) kf rfl (by kernel_rfl) (by kernel_rfl) ?_
  refine PyProof.Rows.callWith_type1 ?_
  with_reducible refine args_cons ?_ (by with_unfolding_all rfl)
  refine Call_ ?_
  refine bv C.B C.F (by kernel_rfl) (v := .builtin "len") (by decide +kernel) kf rfl (by kernel_rfl) (by kernel_rfl) ?_
  refine PyProof.Rows.callWith_builtin1 ?_
  with_reducible refine args_cons ?_ (by with_unfolding_all rfl)
  refine lcell kf rfl (by with_unfolding_all rfl) c2 ?_
  refine args_nil ?_
  obtain ⟨vs, hvs, isl⟩ := hnl.isList
  have hlen : vs.length = nums.length := (All2.length hvs).trans (List.length_map ..)
  refine PyProof.Rows.len_list isl (by rw [List.size_toArray]; omega) ?_
  rw [List.size_toArray, hlen]
  refine args_nil ?_
  refine px_range (C.tok (t := s.toks + 1 + 1)) (by omega) ?_
  intro s₁ I C₁ hI k₁ hIS hIL
  have ne : ∀ a, (∃ o, s.heap.get? a = some o) → a ≠ I := fun a ⟨o, q⟩ => (k₁ _ _ q).2
  have i1 : L + 1 ≠ I := ne _ (by obtain ⟨o, q, _⟩ := c1; exact ⟨o, q⟩)
  have i2 : L + 2 ≠ I := ne _ (by obtain ⟨o, q, _⟩ := c2; exact ⟨o, q⟩)
  have i3 : L + 3 ≠ I := ne _ (by obtain ⟨o, q, _⟩ := c3; exact ⟨o, q⟩)
  have inl : nl ≠ I := ne _ (by obtain ⟨_, _, q, _⟩ := hnl; exact ⟨_, q⟩)
  refine ⟨C₁, I, [I], nums.length, _, _, rfl, PyProof.Rows.LCg.range_walks rm.hnd 0 nums.length, by omega, by show IsRangeIter _ _ _ _ _; simpa using hI, fun b hb => by rw [List.mem_singleton.mp hb]; exact Heap.lt_size hI, hIS, hIL, fun D CC eD eC => ⟨fun i ys h => All2 (fun (v : Value) (t : PySem.Str × PySem.Str × PySem.Str) => ∃ r : Nat, v = .ref r ∧ 148 ≤ r ∧ r ∉ [I, CC, D, L] ∧ LnAt h r [t.1, t.2.1, t.2.2]) ys ((List.range i).map (tri T nums)), fun _ _ => .nil, fun i ys h h' K k => K.mono fun v t x => ?_, ?_, ?_⟩⟩
  · obtain ⟨r, e, h1, h2, h3⟩ := x
    exact ⟨r, e, h1, h2, h3.keep fun o q => k _ _ h2 q⟩
  · intro i ys s₂ v m₃ E' hi C₂ old K hyl hP hns hv lts
    obtain ⟨tv, rfl⟩ := hP
    rw [Int.zero_add] at hv
    have d1 := IsCell.keep c1 fun o q => old _ _ i1 (k₁ _ _ q).1
    have d2 := IsCell.keep c2 fun o q => old _ _ i2 (k₁ _ _ q).1
    have d3 := IsCell.keep c3 fun o q => old _ _ i3 (k₁ _ _ q).1
    have dn := hnl.keep fun o q => old _ _ inl (k₁ _ _ q).1
    have hni : (nums.map fun (n : Nat) => (n : Int))[i]? = some ((nums.getD i 0 : Nat) : Int) := by simp [List.getD_eq_getElem?_getD, List.getElem?_eq_getElem hi]
    have hnb : nums.getD i 0 < 864 := by
      have e : nums.getD i 0 = nums[i] := by simp [List.getD_eq_getElem?_getD, List.getElem?_eq_getElem hi]
      rw [e]; exact hn _ (List.getElem_mem _)
    refine wpAny_tests_nil ?_
    refine ⟨.refl _ _, ?_⟩
    rw [if_pos rfl]
    refine Call_ ?_
    refine gv C₂.B C₂.F (v := .ref 201) (by kernel_rfl) rfl (by kernel_rfl) (by kernel_rfl) ?_
    refine callWith_K C₂.kk (by kernel_rfl) ?_
    with_reducible refine args_cons ?_ (by with_unfolding_all rfl)
    refine lc hns rfl rfl rfl hv ?_
    with_reducible refine args_cons ?_ (by with_unfolding_all rfl)
    refine Subscript_ ?_
    refine lcell rfl (by with_unfolding_all rfl) (by with_unfolding_all rfl) d2 ?_
    refine lc hns rfl rfl rfl hv ?_
    refine in_item dn hni (by simp; omega) ?_ (by with_unfolding_all rfl)
    intro t₃
    with_reducible refine args_cons ?_ (by with_unfolding_all rfl)
    refine IfExp_ ?_
    refine isTrue_and ?_
    refine wpAny_isTrue_Compare1 ?_
    refine lc hns rfl rfl rfl hv ?_
    refine lcell rfl (by with_unfolding_all rfl) (by with_unfolding_all rfl) d3 ?_
    refine eq_int ?_
    refine wpAny_truthy_bool ?_
    have done : ∀ (s₄ : Shared) (x : PySem.Str) (u₁ u₂ u₃ : Tok), s₄.heap = s₂.heap → s₄.gens = s₂.gens → s₄.os = s₂.os → x = tx (behindOf T nums.length i) →
        wpAny (model prog w) A (call (.ref 201) [.int (i : Int) u₁, .int ((nums.getD i 0 : Nat) : Int) u₂, .str x u₃]) (fun y s₅ => Up [] s₂ s₅ ∧ All2 (fun (v : Value) (t : PySem.Str × PySem.Str × PySem.Str) => ∃ r : Nat, v = .ref r ∧ 148 ≤ r ∧ r ∉ [I, CC, D, L] ∧ LnAt s₅.heap r [t.1, t.2.1, t.2.2]) (ys ++ [y]) ((List.range (i + 1)).map (tri T nums))) E' s₄ := by
      intro s₄ x u₁ u₂ u₃ e₄ g₄ o₄ ex
      subst ex
      have u24 : Up [] s₂ s₄ := .of_eq (fun b o q => e₄ ▸ q) g₄ o₄
      have C₄ := C₂.up u24
      refine wpAny_call (pair_ct C₄.B C₄.F.base rm.mono (by omega) hnb (by unfold behindOf; split <;> decide) ?_)
      intro s₅ r u₅ hr hln
      refine ⟨u24.trans u₅, ?_⟩
      rw [List.range_succ, List.map_append]
      have hr2 : s₂.heap.objs.size ≤ r := e₄ ▸ hr
      refine All2.append (K.mono fun v t x => ?_) (.cons ⟨r, rfl, Nat.le_trans (by decide) (Nat.le_trans big (Nat.le_trans C₂.le hr2)), ?_, hln⟩ .nil)
      · obtain ⟨r, e, h1, h2, h3⟩ := x
        exact ⟨r, e, h1, h2, h3.keep fun o q => (u24.trans u₅).keep _ _ (by simp) q⟩
      · have ll := C₂.ltL
        obtain ⟨l1, l2, l3⟩ := lts
        simp only [List.mem_cons, List.not_mem_nil, or_false, not_or]
        exact ⟨Nat.ne_of_gt (Nat.lt_of_lt_of_le l3 hr2), Nat.ne_of_gt (Nat.lt_of_lt_of_le l1 hr2), Nat.ne_of_gt (Nat.lt_of_lt_of_le l2 hr2), Nat.ne_of_gt (Nat.lt_of_lt_of_le ll hr2)⟩
    have ec : ("," : PySem.Str) = tx [44] := by decide +kernel
    have e0 : ("" : PySem.Str) = tx [] := by decide +kernel
    by_cases hc1 : (i : Int) = (nums.length : Int) - 1
    · rw [if_pos (beq_iff_eq.mpr hc1)]
      refine isTrue_and ?_
      refine wpAny_isTrue_Compare1 ?_
      refine wpAny_BinOp ?_
      refine lcell rfl (by with_unfolding_all rfl) (by with_unfolding_all rfl) d1 ?_
      with_reducible refine wpAny_Constant_int ?_
      refine mod_int' (by decide) ?_
      with_reducible refine wpAny_Constant_int ?_
      refine eq_int ?_
      refine wpAny_truthy_bool ?_
      by_cases hc2 : T.fmod 3 = 2
      · rw [if_pos (beq_iff_eq.mpr hc2)]
        refine isTrue_and_nil ?_
        rw [if_pos rfl]
        with_reducible refine wpAny_Constant_str ?_
        refine args_nil ?_
        refine ⟨C₂.kk, ?_⟩
        refine gn s₂.heap s₂.gens s₂.os rfl rfl rfl fun s₄ e₄ g₄ o₄ => ?_
        exact done s₄ _ _ _ _ e₄ g₄ o₄ (by unfold behindOf; rw [if_pos ⟨hc1, hc2⟩, e0])
      · rw [if_neg (fun z => hc2 (beq_iff_eq.mp z))]
        rw [if_neg (by decide)]
        with_reducible refine wpAny_Constant_str ?_
        refine args_nil ?_
        refine ⟨C₂.kk, ?_⟩
        refine gn s₂.heap s₂.gens s₂.os rfl rfl rfl fun s₄ e₄ g₄ o₄ => ?_
        exact done s₄ _ _ _ _ e₄ g₄ o₄ (by unfold behindOf; rw [if_neg (fun z => hc2 z.2), ec])
    · rw [if_neg (fun z => hc1 (beq_iff_eq.mp z))]
      rw [if_neg (by decide)]
      with_reducible refine wpAny_Constant_str ?_
      refine args_nil ?_
      refine ⟨C₂.kk, ?_⟩
      refine gn s₂.heap s₂.gens s₂.os rfl rfl rfl fun s₄ e₄ g₄ o₄ => ?_
      exact done s₄ _ _ _ _ e₄ g₄ o₄ (by unfold behindOf; rw [if_neg (fun z => hc1 z.1), ec])
  · intro s' ys m' C' old K hD em
    subst em
    refine h s' D C' (fun b o nb q => old _ _ (k₁ _ _ q).2 nb (k₁ _ _ q).1) ⟨ys, _, hD, K.mono fun v t x => ?_⟩ ?_
    · obtain ⟨r, e, h1, h2, h3⟩ := x
      exact ⟨r, e, h1, h3⟩
    · rw [eD]
      exact Nat.le_trans (by decide) (Nat.le_trans big C₁.le)
end
end Mine
open PySem PySem.W PyProof.Rows PySem.Calls PySem.Spec
set_option Elab.async false
set_option maxRecDepth 100000
set_option maxHeartbeats 1000000
set_option linter.unusedVariables false
namespace Mine
noncomputable section
noncomputable def s6_211 (b : List Stmt) : Stmt := match b with | [_, _, _, _, _, _, st, _, _] => st | _ => default
noncomputable def lensOf (ts : List (PySem.Str × PySem.Str × PySem.Str)) : List Int := ts.map fun t => (t.2.2.length : Int) + 1
end
section
variable {w : World} {A : Around} {E : Value → Shared → Prop} {S s₀ s s' : Shared} {g h h' e : Heap} {f df c dc ln L l r I pl sh rd tl a b d sc nl : Addr} {W T : Int} {m m' : PySem.Str → Option Value} {X : List Addr} {R : Result → Shared → Prop} {env : Env} {Q : Flow → Shared → Prop} {ts : List (PySem.Str × PySem.Str × PySem.Str)}
theorem told211 {tW : Tok} {st : Stmt} (hst : st = s6_211 (bodyAt w.params 211)) (he : env = envC w.params 211 L) (C : Px w g S s L m) (rm : Rm A 6) (big : 152 ≤ S.heap.objs.size) (n1 : m "pairs" = some (.ref pl)) (n2 : m "width" = some (.int W tW)) (hp : PairsAt s.heap pl ts) (hz : ts.length ≤ 20) (hlen : ∀ t ∈ ts, t.2.2.length ≤ 100)
    (h : ∀ s' D, Px w g S s' L (fun z => if z = "told" then some (.ref D) else m z) → (∀ b o, b ≠ L → s.heap.get? b = some o → s'.heap.get? b = some o) → InAt s'.heap D (marksOf W (lensOf ts) ts.length) → 148 ≤ D → Q .next s') :
    wpAny (model prog w) A (exec st env) Q E s := by
  subst hst he
  have kf := (fn211 w.params).kind
  refine wpAny_Assign_Name ?_
  refine Call_ ?_
  refine gv C.B C.F (v := .ref 206) (by kernel_rfl) kf (by kernel_rfl) (by kernel_rfl) ?_
  refine callWith_K C.kk (by kernel_rfl) ?_
  with_reducible refine args_cons ?_ (by with_unfolding_all rfl)
  refine px_comp (g := g) (S := S) (L := L) (m := m) (cl := []) rfl rfl rfl (by decide) rfl ?_ (by intro _; rfl)
  refine lv C.F rfl kf rfl n1 ?_
  obtain ⟨vs, hvl, isl, it⟩ := hp.isList
  refine wpAny_pyIter_list isl ?_
  have Dlt : pl < s.heap.objs.size := by obtain ⟨_, q, _⟩ := isl; exact Heap.lt_size q
  have up : ∀ b o, s.heap.get? b = some o → (s.heap.push { cls := .type "list_iterator", data := .fields #[.ref pl, .int 0 0] }).get? b = some o := fun b o q => Heap.get?_push_of_some _ q
  have C₂ := C.keeps (s' := { s with heap := s.heap.push { cls := .type "list_iterator", data := .fields #[.ref pl, .int 0 0] } }) up rfl rfl
  refine ⟨C₂, s.heap.objs.size, _, _, _, _, rfl, Walks.list rm.hnd s.heap.objs.size pl (Nat.ne_of_lt Dlt) vs.toArray, by rw [List.size_toArray]; omega, ⟨⟨_, Heap.get?_push_size _ rfl, rfl, rfl⟩, isl.push _⟩, fun b hb => ?_, C.le, Nat.ne_of_gt C.F.lt, fun D CC eD eC => ⟨fun i ys _ => IntAll ys ((lensOf ts).take i), fun _ _ => by simp; exact .nil, fun _ _ _ _ q _ => q, ?_, ?_⟩⟩
  · show b < (s.heap.push _).objs.size
    rw [Heap.size_push]
    rcases List.mem_cons.mp hb with rfl | hb
    · exact Nat.lt_succ_self _
    · rw [List.mem_singleton.mp hb]; exact Nat.lt_succ_of_lt Dlt
  · intro i ys s₃ v m₃ E' hi C₃ old K hyl hP hns hx _
    rw [List.size_toArray, hvl] at hi
    obtain ⟨r, hv', h148, hln⟩ := it i hi
    have hP : vs[i]? = some v := by simpa using hP
    rw [hv'] at hP
    cases hP
    have hln₃ : LnAt s₃.heap r [ts[i].1, ts[i].2.1, ts[i].2.2] := hln.keep fun o q => old _ _ (Nat.ne_of_lt (Heap.lt_size q)) (up _ _ q)
    refine wpAny_tests_nil ?_
    refine ⟨.refl _ _, ?_⟩
    rw [if_pos rfl]
    refine wpAny_BinOp ?_
    refine Call_ ?_
    refine bv C₃.B C₃.F (by kernel_rfl) (v := .builtin "len") (by decide +kernel) rfl rfl (by kernel_rfl) (by kernel_rfl) ?_
    refine PyProof.Rows.callWith_builtin1 ?_
    with_reducible refine args_cons ?_ (by with_unfolding_all rfl)
    refine Subscript_ ?_
    refine lc hns rfl rfl rfl hx ?_
    with_reducible refine wpAny_Constant_int ?_
    refine ln_item (i := 2) (x := ts[i].2.2) (s := { s₃ with toks := s₃.toks + 1 }) hln₃ rfl (Nat.le_of_ble_eq_true rfl) ?_ (by with_unfolding_all rfl)
    intro t₄
    refine args_nil ?_
    have hl := hlen _ (List.getElem_mem (h := hi))
    refine len_str (by omega) ?_
    with_reducible refine wpAny_Constant_int ?_
    refine add_int ?_
    refine ⟨.of_eq (fun _ _ q => q) rfl rfl, ?_⟩
    show IntAll _ _
    have hi' : i < (lensOf ts).length := by unfold lensOf; rw [List.length_map]; exact hi
    have ex : (lensOf ts)[i] = (ts[i].2.2.length : Int) + 1 := by simp [lensOf]
    rw [List.take_succ_eq_append_getElem hi', ex]
    exact All2.append K (.cons ⟨_, rfl⟩ .nil)
  · intro s₃ ys m₃ C₃ old K hD em
    subst em
    have K : IntAll ys ((lensOf ts).take vs.toArray.size) := K
    have hl : (lensOf ts).length = ts.length := List.length_map ..
    rw [List.size_toArray, hvl, ← hl, List.take_length] at K
    with_reducible refine args_cons ?_ (by with_unfolding_all rfl)
    refine lv C₃.F rfl kf rfl n2 ?_
    refine args_nil ?_
    refine ⟨C₃.kk, ?_⟩
    refine wpAny_call (marks_ct (lens := lensOf ts) C₃.B C₃.F.base rm.mono ⟨ys, _, hD, K⟩ (by omega) ?_)
    intro s₄ r u₄ hr hin
    have C₄ := C₃.up u₄
    refine sw s₄.gens s₄.os rfl rfl C₄.F rfl kf rfl ?_
    intro s₅ F₅ k₅ g₅ o₅
    have C₅ := C₄.store F₅ k₅ g₅ o₅
    have rL : r ≠ L := Nat.ne_of_gt (Nat.lt_of_lt_of_le C₃.ltL hr)
    rw [hl] at hin
    exact h s₅ r C₅ (fun b o nb q => k₅ b o nb (u₄.keep b o (by simp) (old _ _ (Nat.ne_of_lt (Heap.lt_size q)) nb (up _ _ q)))) (hin.keep fun o q => k₅ _ _ rL q) (Nat.le_trans (by decide) (Nat.le_trans big (Nat.le_trans C₃.le hr)))
end
end Mine
open PySem PySem.W PyProof.Rows PySem.Calls PySem.Spec
set_option Elab.async false
set_option maxRecDepth 100000
set_option maxHeartbeats 1000000
set_option linter.unusedVariables false
namespace Mine
noncomputable section
noncomputable def totalOf (ns : List Int) : Int := (drawnOf ns).sum
noncomputable def widthOf (ns : List Int) : Int := 7 + (12 + totalOf ns).fmod 20
noncomputable def numsOf (ns : List Int) : List Nat := 487 :: 1 :: 6 :: (drawnOf ns).map Int.toNat
noncomputable def trisOf (ns : List Int) : List (PySem.Str × PySem.Str × PySem.Str) := (List.range (numsOf ns).length).map (tri (totalOf ns) (numsOf ns))
end
theorem drawn_mem {ns : List Int} : ∀ x ∈ drawnOf ns, 0 ≤ x ∧ x < 864 := by
  intro x hx
  obtain ⟨y, _, rfl⟩ := List.mem_map.mp hx
  rw [Int.fmod_eq_emod_of_nonneg _ (by omega)]
  exact ⟨Int.emod_nonneg _ (by omega), Int.emod_lt_of_pos _ (by omega)⟩
theorem drawn_len (ns : List Int) : (drawnOf ns).length ≤ 5 := by
  unfold drawnOf; rw [List.length_map, List.length_take]; omega
theorem nums_len (ns : List Int) : (numsOf ns).length ≤ 8 := by
  have := drawn_len ns
  simp [numsOf]; omega
theorem nums_lt {ns : List Int} : ∀ n ∈ numsOf ns, n < 864 := by
  intro n hn
  simp only [numsOf, List.mem_cons, List.mem_map] at hn
  rcases hn with rfl | rfl | rfl | ⟨x, hx, rfl⟩
  · decide
  · decide
  · decide
  · have := drawn_mem x hx; omega
theorem nums_int (ns : List Int) : (numsOf ns).map (fun (n : Nat) => (n : Int)) = [487, 1, 6] ++ drawnOf ns := by
  simp only [numsOf, List.map_cons, List.map_map, List.cons_append, List.nil_append]
  congr 3
  have : ∀ x ∈ drawnOf ns, ((fun (n : Nat) => (n : Int)) ∘ Int.toNat) x = x := fun x hx => Int.toNat_of_nonneg (drawn_mem x hx).1
  rw [List.map_congr_left this, List.map_id']
theorem width_bound (ns : List Int) : 7 ≤ widthOf ns ∧ widthOf ns ≤ 26 := by
  unfold widthOf
  rw [Int.fmod_eq_emod_of_nonneg _ (by omega)]
  have h1 := Int.emod_nonneg (12 + totalOf ns) (b := 20) (by omega)
  have h2 := Int.emod_lt_of_pos (12 + totalOf ns) (b := 20) (by omega)
  omega
section
variable {w : World} {A : Around} {E : Value → Shared → Prop} {S s₀ s s' : Shared} {g h h' e : Heap} {f df c dc ln L l r I pl sh rd tl a b d sc nl : Addr} {W T : Int} {m m' : PySem.Str → Option Value} {X : List Addr} {R : Result → Shared → Prop} {env : Env} {Q : Flow → Shared → Prop} {ts : List (PySem.Str × PySem.Str × PySem.Str)}
theorem not_cell {v : Option Value} {vs : List Value} {n : Nat} (x : h.IsCell c v) (q : h.get? r = some (lstObj vs n)) : r ≠ c := fun z => by
  obtain ⟨o, ho, hd⟩ := x
  rw [z, ho] at q; cases q; cases hd
theorem PairsAt.keepL (x : PairsAt h pl ts) (hn : h.Ns L m) (k : ∀ b o, b ≠ L → h.get? b = some o → h'.get? b = some o) : PairsAt h' pl ts := by
  obtain ⟨vs, n, q, rest⟩ := x
  refine ⟨vs, n, k _ _ (not_frame hn q) q, rest.mono fun v t y => ?_⟩
  obtain ⟨r, e, hr, y⟩ := y
  refine ⟨r, e, hr, y.keep fun o z => k _ _ ?_ z⟩
  obtain ⟨_, _, w, _⟩ := y
  exact not_frame hn w
theorem law_ct {vs : List Value} {ns : List Int} (B : Bs w g) (kb : ∀ b o, g.get? b = some o → s.heap.get? b = some o) (rm : Rm A 15) (tb : Tb s.heap) (isl : s.heap.IsList sc vs.toArray) (hv : IntAll vs ns) (hz : vs.length ≤ 1000)
    (GL : ∀ t ∈ trisOf ns, t.2.1.length ≤ 100 ∧ t.2.2.length ≤ 100)
    (GD : ∀ nm ∈ namesOf (widthOf ns) (totalOf ns), ∃ st se wr xs, Good (widthOf ns) nm (marksOf (widthOf ns) (lensOf (trisOf ns)) (trisOf ns).length) (trisOf ns) st se wr xs)
    (h : ∀ s', Up [140, 147] s s' → Tb s'.heap → R (.ok (.ret (.bool true))) s') :
    codeAny (model prog w) A (.call (.ref 211) ⟨[.ref sc], []⟩) R s := by
  have kf := (fn211 w.params).kind
  refine enterC (binds := [("script", .ref sc)]) (fn211 _) B kb rm (by kernel_rfl) ?_ fun s₁ L hL C₁' cells rm' => ?_
  · intro n x hx
    rw [cells211]
    rw [List.mem_singleton.mp hx]
    exact .inl (by kernel_rfl)
  have c1 : s₁.heap.IsCell (L + 1) none := by
    have := (cells "total" (L + 1) (by rw [cells211]; rfl)).1
    have e : bindC (envC w.params 211 L).kindOf [("script", .ref sc)] (fun _ => none) "total" = none := by kernel_rfl
    rwa [e] at this
  have c2 : s₁.heap.IsCell (L + 2) none := by
    have := (cells "numbers" (L + 2) (by rw [cells211]; rfl)).1
    have e : bindC (envC w.params 211 L).kindOf [("script", .ref sc)] (fun _ => none) "numbers" = none := by kernel_rfl
    rwa [e] at this
  have c3 : s₁.heap.IsCell (L + 3) none := by
    have := (cells "last" (L + 3) (by rw [cells211]; rfl)).1
    have e : bindC (envC w.params 211 L).kindOf [("script", .ref sc)] (fun _ => none) "last" = none := by kernel_rfl
    rwa [e] at this
  have nl1 : L + 1 ≠ L := Nat.succ_ne_self _
  have nl2 : L + 2 ≠ L := Nat.ne_of_gt (Nat.lt_add_of_pos_right (by decide))
  have nl3 : L + 3 ≠ L := Nat.ne_of_gt (Nat.lt_add_of_pos_right (by decide))
  have n12 : L + 1 ≠ L + 2 := fun z => absurd (Nat.add_left_cancel z) (by decide)
  have n13 : L + 1 ≠ L + 3 := fun z => absurd (Nat.add_left_cancel z) (by decide)
  have n23 : L + 2 ≠ L + 3 := fun z => absurd (Nat.add_left_cancel z) (by decide)
  have hs1 : bindL (envC w.params 211 L).kindOf [("script", .ref sc)] (fun _ => none) "script" = some (.ref sc) := by kernel_rfl
  have big : 152 ≤ s.heap.objs.size := by
    have := Heap.lt_size (kb _ _ (B.kk _ _ (fn211 w.params).look))
    exact Nat.le_trans (by decide) this
  have tb₁ : Tb s₁.heap := tb.keeps fun b o q => C₁'.U.keep b o (by simp) q
  have isl₁ : s₁.heap.IsList sc vs.toArray := by obtain ⟨o, ho, r⟩ := isl; exact ⟨o, C₁'.U.keep _ _ (by simp) ho, r⟩
  have C₁ := C₁'.hide
  have bigS : 152 ≤ (hideAll s.heap [140, 147]).objs.size := by rw [hideAll_size]; exact big
  have LS : (hideAll s.heap [140, 147]).objs.size ≤ L := C₁.hL
  clear C₁'
  revert C₁
  generalize bindL (envC w.params 211 L).kindOf [("script", .ref sc)] (fun _ => none) = m₁ at hs1 ⊢
  intro C₁
  -- drawn
  refine wpAny_execs_cons ?_
  refine drawn211 (by kernel_rfl) rfl C₁ rm'.hnd hs1 isl₁ hv hz ?_
  intro s₂ D C₂ k₂ hD
  have c1₂ := IsCell.keep c1 fun o q => k₂ _ _ nl1 q
  have c2₂ := IsCell.keep c2 fun o q => k₂ _ _ nl2 q
  have c3₂ := IsCell.keep c3 fun o q => k₂ _ _ nl3 q
  have hD2 := hD
  obtain ⟨vd, nd, hDo, hvd⟩ := hD2
  have dL : D ≠ L := not_frame C₂.F.ns hDo
  have d1 : D ≠ L + 1 := not_cell c1₂ hDo
  have d2 : D ≠ L + 2 := not_cell c2₂ hDo
  have d3 : D ≠ L + 3 := not_cell c3₂ hDo
  have hlv := All2.length hvd
  have hdl := drawn_len ns
  -- total = sum(drawn)
  refine wpAny_execs_cons ?_
  refine wpAny_Assign_Name ?_
  refine Call_ ?_
  refine bv C₂.B C₂.F (by kernel_rfl) (v := .builtin "sum") (by decide +kernel) kf rfl (by kernel_rfl) (by kernel_rfl) ?_
  refine PyProof.Rows.callWith_builtin1 ?_
  with_reducible refine args_cons ?_ (by with_unfolding_all rfl)
  refine lv C₂.F rfl kf rfl upd_eq ?_
  refine args_nil ?_
  refine sum_ls (vs := vd) (ns := drawnOf ns) rm'.hnd ⟨_, hDo, rfl, nd, rfl⟩ hvd s₂.gens s₂.os rfl rfl ?_
  intro s₃ tT g₃ o₃ k₃
  have C₃ := C₂.keeps k₃ g₃ o₃
  refine wpAny_storeName_cell kf rfl (by with_unfolding_all rfl) (IsCell.keep c1₂ fun o q => k₃ _ _ q) ?_
  intro h₄ c1₄ sb₄
  refine gn h₄ s₃.gens s₃.os rfl rfl rfl fun s₄ e₄ g₄ o₄ => ?_
  have k34 : ∀ b o, b ≠ L + 1 → s₃.heap.get? b = some o → s₄.heap.get? b = some o := fun b o nb q => e₄ ▸ sb₄.extBut b o nb q
  have C₄ := C₃.own1 (s' := s₄) k34 g₄ o₄ (Nat.le_trans LS (Nat.le_succ _)) nl1
  rw [← e₄] at c1₄
  have c2₄ := IsCell.keep c2₂ fun o q => k34 _ _ (Ne.symm n12) (k₃ _ _ q)
  have c3₄ := IsCell.keep c3₂ fun o q => k34 _ _ (Ne.symm n13) (k₃ _ _ q)
  have hD₄ := hD.keep fun o q => k34 _ _ d1 (k₃ _ _ q)
  have c1₄ : s₄.heap.IsCell (L + 1) (some (.int (totalOf ns) tT)) := c1₄
  -- width = 7 + (12 + total) % 20
  refine wpAny_execs_cons ?_
  refine wpAny_Assign_Name ?_
  refine wpAny_BinOp ?_
  with_reducible refine wpAny_Constant_int ?_
  refine wpAny_BinOp ?_
  refine wpAny_BinOp ?_
  with_reducible refine wpAny_Constant_int ?_
  refine lcell kf rfl (by with_unfolding_all rfl) c1₄ ?_
  refine add_int ?_
  with_reducible refine wpAny_Constant_int ?_
  refine mod_int' (by decide) ?_
  refine add_int ?_
  refine gn s₄.heap s₄.gens s₄.os rfl rfl rfl fun s₅ e₅ g₅ o₅ => ?_
  have C₅ := C₄.re (s' := s₅) e₅ g₅ o₅
  refine sw s₅.gens s₅.os rfl rfl C₅.F rfl kf rfl ?_
  intro s₆ F₆ k₆ g₆ o₆
  have C₆ := C₅.store F₆ k₆ g₆ o₆
  have k46 : ∀ b o, b ≠ L → s₄.heap.get? b = some o → s₆.heap.get? b = some o := fun b o nb q => k₆ b o nb (e₅ ▸ q)
  have c1₆ := IsCell.keep c1₄ fun o q => k46 _ _ nl1 q
  have c2₆ := IsCell.keep c2₄ fun o q => k46 _ _ nl2 q
  have c3₆ := IsCell.keep c3₄ fun o q => k46 _ _ nl3 q
  have hD₆ := hD₄.keep fun o q => k46 _ _ dL q
  -- numbers = [487, 1, 6] + drawn
  refine wpAny_execs_cons ?_
  refine wpAny_Assign_Name ?_
  refine wpAny_BinOp ?_
  with_reducible refine List_ ?_
  with_reducible refine args_cons ?_ (by with_unfolding_all rfl)
  with_reducible refine wpAny_Constant_int ?_
  with_reducible refine args_cons ?_ (by with_unfolding_all rfl)
  with_reducible refine wpAny_Constant_int ?_
  with_reducible refine args_cons ?_ (by with_unfolding_all rfl)
  with_reducible refine wpAny_Constant_int ?_
  refine args_nil ?_
  unfold newList
  refine wpAny_newObj_type ?_
  obtain ⟨v3, ev3, hv3⟩ : ∃ vs : List Value, vs = [.int 487 s₆.toks, .int 1 (s₆.toks + 1), .int 6 (s₆.toks + 1 + 1)] ∧ IntAll vs [487, 1, 6] := ⟨_, rfl, .cons ⟨_, rfl⟩ (.cons ⟨_, rfl⟩ (.cons ⟨_, rfl⟩ .nil))⟩
  have isl3' : (s₆.heap.push { cls := .type "list", data := .seq v3.toArray }).IsList s₆.heap.objs.size v3.toArray := ⟨_, Heap.get?_push_size _ rfl, rfl, 0, rfl⟩
  rw [ev3] at isl3'
  refine gn (s₆.heap.push { cls := .type "list", data := .seq [.int 487 s₆.toks, .int 1 (s₆.toks + 1), .int 6 (s₆.toks + 1 + 1)].toArray }) s₆.gens s₆.os rfl rfl rfl fun s₇ e₇ g₇ o₇ => ?_
  have k67 : ∀ b o, s₆.heap.get? b = some o → s₇.heap.get? b = some o := fun b o q => e₇ ▸ Heap.get?_push_of_some _ q
  have C₇ := C₆.keeps (s' := s₇) k67 g₇ o₇
  have isl3 : s₇.heap.IsList s₆.heap.objs.size v3.toArray := by rw [ev3, e₇]; exact isl3'
  have hD₇ := hD₆.keep fun o q => k67 _ _ q
  have l3 := All2.length hv3
  refine lv C₇.F rfl kf rfl (upd_ne upd_eq) ?_
  obtain ⟨vd7, hvd7, isl7⟩ := hD₇.isList
  have lv7 := All2.length hvd7
  refine add_ls isl3 isl7 (by rw [l3, lv7]; exact Nat.le_trans (Nat.add_le_add_left hdl _) (by decide)) ?_
  obtain ⟨nm, enm⟩ : ∃ nm, nm = s₇.heap.objs.size := ⟨_, rfl⟩
  have hnm₇ : InAt (s₇.heap.push { cls := .type "list", data := .seq (v3 ++ vd7).toArray }) nm ((numsOf ns).map fun (n : Nat) => (n : Int)) := ⟨_, 0, enm ▸ Heap.get?_push_size _ rfl, by rw [nums_int]; exact All2.append hv3 hvd7⟩
  rw [← enm]
  refine gn (s₇.heap.push { cls := .type "list", data := .seq (v3 ++ vd7).toArray }) s₇.gens s₇.os rfl rfl rfl fun s₈ e₈ g₈ o₈ => ?_
  have k78 : ∀ b o, s₇.heap.get? b = some o → s₈.heap.get? b = some o := fun b o q => e₈ ▸ Heap.get?_push_of_some _ q
  have C₈ := C₇.keeps (s' := s₈) k78 g₈ o₈
  rw [← e₈] at hnm₇
  have c1₈ := IsCell.keep c1₆ fun o q => k78 _ _ (k67 _ _ q)
  have c2₈ := IsCell.keep c2₆ fun o q => k78 _ _ (k67 _ _ q)
  have c3₈ := IsCell.keep c3₆ fun o q => k78 _ _ (k67 _ _ q)
  have nmL : nm ≠ L := by obtain ⟨_, _, q, _⟩ := hnm₇; exact not_frame C₈.F.ns q
  have nm2 : nm ≠ L + 2 := by obtain ⟨_, _, q, _⟩ := hnm₇; exact not_cell c2₈ q
  have nm3 : nm ≠ L + 3 := by obtain ⟨_, _, q, _⟩ := hnm₇; exact not_cell c3₈ q
  refine wpAny_storeName_cell kf rfl (by with_unfolding_all rfl) c2₈ ?_
  intro h₉ c2₉ sb₉
  refine gn h₉ s₈.gens s₈.os rfl rfl rfl fun s₉ e₉ g₉ o₉ => ?_
  have k89 : ∀ b o, b ≠ L + 2 → s₈.heap.get? b = some o → s₉.heap.get? b = some o := fun b o nb q => e₉ ▸ sb₉.extBut b o nb q
  have C₉ := C₈.own1 (s' := s₉) k89 g₉ o₉ (Nat.le_trans LS (Nat.le_add_right _ _)) nl2
  rw [← e₉] at c2₉
  have c1₉ := IsCell.keep c1₈ fun o q => k89 _ _ n12 q
  have c3₉ := IsCell.keep c3₈ fun o q => k89 _ _ (Ne.symm n23) q
  have hnm₉ := hnm₇.keep fun o q => k89 _ _ nm2 q
  -- last = len(numbers) - 1
  refine wpAny_execs_cons ?_
  refine wpAny_Assign_Name ?_
  refine wpAny_BinOp ?_
  refine Call_ ?_
  refine bv C₉.B C₉.F (by kernel_rfl) (v := .builtin "len") (by decide +kernel) kf rfl (by kernel_rfl) (by kernel_rfl) ?_
  refine PyProof.Rows.callWith_builtin1 ?_
  with_reducible refine args_cons ?_ (by with_unfolding_all rfl)
  refine lcell kf rfl (by with_unfolding_all rfl) c2₉ ?_
  refine args_nil ?_
  obtain ⟨vn, hvn, isln⟩ := hnm₉.isList
  have hln := All2.length hvn
  rw [List.length_map] at hln
  have h8 := nums_len ns
  refine PyProof.Rows.len_list isln (by rw [List.size_toArray]; omega) ?_
  rw [List.size_toArray, hln]
  with_reducible refine wpAny_Constant_int ?_
  refine sub_int ?_
  refine gn s₉.heap s₉.gens s₉.os rfl rfl rfl fun s₁₀ e₁₀ g₁₀ o₁₀ => ?_
  have C₁₀ := C₉.re (s' := s₁₀) e₁₀ g₁₀ o₁₀
  refine wpAny_storeName_cell kf rfl (by with_unfolding_all rfl) (e₁₀ ▸ c3₉) ?_
  intro h₁₁ c3₁₁ sb₁₁
  refine gn h₁₁ s₁₀.gens s₁₀.os rfl rfl rfl fun s₁₁ e₁₁ g₁₁ o₁₁ => ?_
  have k9 : ∀ b o, b ≠ L + 3 → s₉.heap.get? b = some o → s₁₁.heap.get? b = some o := fun b o nb q => e₁₁ ▸ sb₁₁.extBut b o nb (e₁₀ ▸ q)
  have C₁₁ := C₁₀.own1 (s' := s₁₁) (fun b o nb q => e₁₁ ▸ sb₁₁.extBut b o nb q) g₁₁ o₁₁ (Nat.le_trans LS (Nat.le_add_right _ _)) nl3
  rw [← e₁₁] at c3₁₁
  have c1₁₁ := IsCell.keep c1₉ fun o q => k9 _ _ n13 q
  have c2₁₁ := IsCell.keep c2₉ fun o q => k9 _ _ n23 q
  have hnm₁₁ := hnm₉.keep fun o q => k9 _ _ nm3 q
  -- pairs
  refine wpAny_execs_cons ?_
  refine pairs211 (T := totalOf ns) (nums := numsOf ns) (by kernel_rfl) rfl C₁₁ rm'.mono bigS c1₁₁ c2₁₁ c3₁₁ hnm₁₁ (Nat.le_trans h8 (by decide)) nums_lt ?_
  intro s₁₂ pl C₁₂ k₁₂ hp₁₂ hpl
  have hp₁₂ : PairsAt s₁₂.heap pl (trisOf ns) := hp₁₂
  have tl : (trisOf ns).length = (numsOf ns).length := by unfold trisOf; rw [List.length_map, List.length_range]
  have tl20 : (trisOf ns).length ≤ 20 := by rw [tl]; exact Nat.le_trans h8 (by decide)
  have wb := width_bound ns
  -- told
  refine wpAny_execs_cons ?_
  refine told211 (W := widthOf ns) (by kernel_rfl) rfl C₁₂ rm'.mono bigS upd_eq (upd_ne upd_eq) hp₁₂ tl20 (fun t ht => (GL t ht).2) ?_
  intro s₁₃ td C₁₃ k₁₃ htd htd'
  have c1₁₃ := IsCell.keep c1₁₁ fun o q => k₁₃ _ _ nl1 (k₁₂ _ _ nl1 q)
  have hp₁₃ := hp₁₂.keepL C₁₂.F.ns k₁₃
  have L152 : 152 ≤ L := Nat.le_trans bigS LS
  have tb₁₃ : Tb s₁₃.heap := by
    refine tb₁.up (X := [L, L + 1, L + 2, L + 3]) (s' := { s₁ with heap := s₁₃.heap }) ⟨fun b o nb q => ?_, fun q => q, rfl⟩ fun x hx => ?_
    · simp only [List.mem_cons, List.not_mem_nil, or_false, not_or] at nb
      obtain ⟨b0, b1, b2, b3⟩ := nb
      exact k₁₃ _ _ b0 (k₁₂ _ _ b0 (k9 _ _ b3 (k89 _ _ b2 (k78 _ _ (k67 _ _ (k46 _ _ b0 (k34 _ _ b1 (k₃ _ _ (k₂ _ _ b0 q)))))))))
    · simp only [List.mem_cons, List.not_mem_nil, or_false] at hx
      rcases hx with rfl | rfl | rfl | rfl
      · exact far L152
      · exact far (Nat.le_trans L152 (Nat.le_add_right _ _))
      · exact far (Nat.le_trans L152 (Nat.le_add_right _ _))
      · exact far (Nat.le_trans L152 (Nat.le_add_right _ _))
  have ml : (marksOf (widthOf ns) (lensOf (trisOf ns)) (trisOf ns).length).length = (trisOf ns).length := marksOf_len _ _ _
  -- for name in ..
  refine wpAny_execs_cons ?_
  refine outer_ct (W := widthOf ns) (T := totalOf ns) (ts := trisOf ns) (by kernel_rfl) rfl rm' (Lx.start C₁₃ tb₁₃ ⟨hideAll_none _ (by simp), hideAll_none _ (by simp)⟩ bigS) (upd_ne (upd_ne upd_eq)) (upd_ne upd_eq) upd_eq c1₁₃ hp₁₃ hpl htd htd' tl20 ml GL (by omega) (by omega) GD ?_
  intro s₁₄ m₁₄ C₁₄ tb₁₄
  refine wpAny_execs_cons ?_
  refine wpAny_Return_some ?_
  with_reducible refine wpAny_Constant_bool ?_
  exact h _ C₁₄.U.unhide tb₁₄
end
end Mine
open PySem PySem.W PyProof.Rows PySem.Calls PySem.Spec
set_option Elab.async false
set_option maxRecDepth 100000
set_option maxHeartbeats 1000000
set_option linter.unusedVariables false
namespace Mine
/-- it ends in no blank -/
noncomputable def Ends (l : List Nat) : Prop := ∃ b, l.getLast? = some b ∧ Unicode.isSpace b = false
theorem strip_tx (sp l : List Nat) (a : Nat) (hsp : ∀ c ∈ sp, Unicode.isSpace c = true) (ha : Unicode.isSpace a = false) (he : Ends (a :: l)) : Txt.strip (tx (sp ++ a :: l)) = tx (a :: l) := by
  obtain ⟨b, hb, hb'⟩ := he
  have h1 : stripLo Unicode.isSpace true (tx (sp ++ a :: l)) = sp.length := by
    show ((sp ++ a :: l).takeWhile _).length = _
    rw [List.takeWhile_append_of_pos hsp, List.takeWhile_cons, ha]; simp
  have h2 : stripHi Unicode.isSpace true (tx (sp ++ a :: l)) sp.length = (tx (sp ++ a :: l)).length := by
    show _ - (((sp ++ a :: l).drop sp.length).reverse.takeWhile _).length = _
    rw [List.drop_left]
    obtain ⟨r, e⟩ := List.getLast?_eq_some_iff.mp hb
    rw [e, List.reverse_append, List.reverse_singleton, List.singleton_append, List.takeWhile_cons, hb']
    simp
  unfold Txt.strip Txt.stripBy stripSame PySem.stripped
  rw [h1, h2]
  split
  · rename_i h
    rw [beq_self_eq_true, Bool.and_true, beq_iff_eq] at h
    rw [List.length_eq_zero_iff.mp h]; rfl
  · rw [strSub_tx, List.drop_left, tx_length, List.length_append]
    congr 1
    rw [Nat.add_sub_cancel_left, List.take_length]
/-- what stands behind the '=' -/
noncomputable def valOf (n : Nat) : List Nat := if bareOk (meantOf n) = true then pairM n else 34 :: (meantOf n ++ [34])
/-- what is written behind the '=' -/
noncomputable def outOf (n : Nat) : List Nat := if bareOk (meantOf n) = true then pairM n else 34 :: (esc1 (meantOf n) ++ [34])
theorem pairS_eq (p n : Nat) : pairS p n = headOf p ++ valOf n := by
  unfold pairS valOf; split <;> simp
theorem pairW_eq (p n : Nat) (b : List Nat) : pairW p n b = headOf p ++ outOf n ++ b := by
  unfold pairW outOf; split <;> simp
theorem bare_mem {n : Nat} (h : bareOk (meantOf n) = true) : meantOf n ≠ [] ∧ ∀ c ∈ meantOf n, c = 120 ∨ c = 92 ∨ c = 61 := by
  unfold bareOk at h
  simp only [Bool.and_eq_true, decide_eq_true_eq, Bool.not_eq_true', decide_eq_false_iff_not] at h
  obtain ⟨⟨⟨h0, h1⟩, h2⟩, h3⟩ := h
  refine ⟨h0, fun c hc => ?_⟩
  have := meant_mem n c hc
  simp only [signs6, List.mem_cons, List.not_mem_nil, or_false] at this
  rcases this with rfl | rfl | rfl | rfl | rfl | rfl
  · exact .inl rfl
  · exact absurd hc h1
  · exact absurd hc h2
  · exact .inr (.inl rfl)
  · exact .inr (.inr rfl)
  · exact absurd hc h3
theorem prepost (d : Nat) : (pre2 d = [] ∨ pre2 d = [34, 34]) ∧ (post2 d = [] ∨ post2 d = [34, 34]) ∧ (pre2 d = [] ∨ post2 d = []) := by
  unfold pre2 post2
  by_cases h1 : d = 1
  · subst h1; simp
  · rw [if_neg h1]
    by_cases h2 : d = 2 <;> simp [h2]
theorem bare_eq {n : Nat} (h : bareOk (meantOf n) = true) : pairM n = pre2 (n / 288) ++ meantOf n ++ post2 (n / 288) := by unfold pairM; rw [if_pos h]
theorem quoted_eq {n : Nat} (h : ¬ bareOk (meantOf n) = true) : pairM n = meantOf n := by unfold pairM; rw [if_neg h]
theorem unq (n : Nat) : UnQ (valOf n) (pairM n) := by
  unfold valOf UnQ
  by_cases h : bareOk (meantOf n) = true
  · right
    rw [if_pos h, bare_eq h]
    obtain ⟨h0, hm⟩ := bare_mem h
    obtain ⟨x, r, e⟩ : ∃ x r, meantOf n = x :: r := by cases q : meantOf n with | nil => exact absurd q h0 | cons x r => exact ⟨x, r, rfl⟩
    obtain ⟨r', y, e'⟩ : ∃ r' y, meantOf n = r' ++ [y] := by
      rcases List.eq_nil_or_concat (meantOf n) with q | ⟨r', y, q⟩
      · exact absurd q h0
      · exact ⟨r', y, by rw [q, List.concat_eq_append]⟩
    have x34 : x ≠ 34 := by have := hm x (by rw [e]; simp); rcases this with rfl | rfl | rfl <;> decide
    have y34 : y ≠ 34 := by have := hm y (by rw [e']; simp); rcases this with rfl | rfl | rfl <;> decide
    refine ⟨rfl, ?_⟩
    obtain ⟨p1, p2, p3⟩ := prepost (n / 288)
    rcases p3 with q | q
    · rw [q, List.nil_append]
      rcases p2 with z | z
      · rw [z, List.append_nil]
        exact ⟨x, r, y, e, by rw [e']; simp, fun w => x34 w.1⟩
      · rw [z]
        exact ⟨x, r ++ [34, 34], 34, by rw [e]; rfl, by simp, fun w => x34 w.1⟩
    · rw [q, List.append_nil]
      rcases p1 with z | z
      · rw [z, List.nil_append]
        exact ⟨x, r, y, e, by rw [e']; simp, fun w => x34 w.1⟩
      · rw [z]
        exact ⟨34, 34 :: meantOf n, y, rfl, by rw [List.getLast?_append, e', List.getLast?_append]; rfl, fun w => y34 w.2⟩
  · left
    rw [if_neg h, quoted_eq h]
theorem val_ends (n : Nat) (p : Nat) : Ends (headOf p ++ valOf n) := by
  have key : ∃ b, (valOf n).getLast? = some b ∧ Unicode.isSpace b = false := by
    unfold valOf
    by_cases h : bareOk (meantOf n) = true
    · rw [if_pos h, bare_eq h]
      obtain ⟨h0, hm⟩ := bare_mem h
      obtain ⟨r', y, e'⟩ : ∃ r' y, meantOf n = r' ++ [y] := by
        rcases List.eq_nil_or_concat (meantOf n) with q | ⟨r', y, q⟩
        · exact absurd q h0
        · exact ⟨r', y, by rw [q, List.concat_eq_append]⟩
      rcases (prepost (n / 288)).2.1 with z | z
      · refine ⟨y, by rw [z, e', List.append_nil, ← List.append_assoc]; simp, ?_⟩
        have := hm y (by rw [e']; simp)
        rcases this with rfl | rfl | rfl <;> decide +kernel
      · exact ⟨34, by rw [z]; simp, by decide +kernel⟩
    · rw [if_neg h]
      exact ⟨34, by rw [show (34 :: (meantOf n ++ [34])) = (34 :: meantOf n) ++ [34] from rfl, List.getLast?_append]; rfl, by decide +kernel⟩
  obtain ⟨b, hb, hb'⟩ := key
  refine ⟨b, ?_, hb'⟩
  rw [List.getLast?_append, hb]; rfl
end Mine
open PySem PySem.W PyProof.Rows PySem.Calls PySem.Spec
set_option Elab.async false
set_option maxRecDepth 100000
set_option maxHeartbeats 1000000
set_option linter.unusedVariables false
namespace Mine
theorem fold_plain (res : List (List Nat)) : ∀ (l part : List Nat), (∀ c ∈ l, c ≠ 44 ∧ c ≠ 34) → l.foldl hstep ⟨res, part, false, false⟩ = ⟨res, part ++ l, false, false⟩
  | [], part, _ => by rw [List.append_nil]; rfl
  | c :: l, part, h => by
    obtain ⟨h1, h2⟩ := h c List.mem_cons_self
    have e : hstep ⟨res, part, false, false⟩ c = ⟨res, part ++ [c], false, false⟩ := by unfold hstep; simp [h1, h2]
    rw [List.foldl_cons, e, fold_plain res l _ fun c hc => h c (List.mem_cons_of_mem _ hc), List.append_assoc]; rfl
theorem fold_qq (res : List (List Nat)) (part : List Nat) : [34, 34].foldl hstep ⟨res, part, false, false⟩ = ⟨res, part ++ [34, 34], false, false⟩ := by
  simp [hstep]
theorem fold_esc (res : List (List Nat)) : ∀ (l part : List Nat), (esc1 l).foldl hstep ⟨res, part, false, true⟩ = ⟨res, part ++ l, false, true⟩
  | [], part => by rw [List.append_nil]; rfl
  | c :: l, part => by
    have e : esc1 (c :: l) = (if c = 92 then [92, 92] else if c = 34 then [92, 34] else [c]) ++ esc1 l := by unfold esc1; rw [List.flatMap_cons]
    have k : (if c = 92 then [92, 92] else if c = 34 then [92, 34] else [c]).foldl hstep ⟨res, part, false, true⟩ = ⟨res, part ++ [c], false, true⟩ := by
      by_cases h1 : c = 92
      · subst h1; simp [hstep]
      · rw [if_neg h1]
        by_cases h2 : c = 34
        · subst h2; simp [hstep]
        · rw [if_neg h2]; simp [hstep, h1, h2]
    rw [e, List.foldl_append, k, fold_esc res l, List.append_assoc]; rfl
theorem fold_out (res : List (List Nat)) (part : List Nat) (n : Nat) : (outOf n).foldl hstep ⟨res, part, false, false⟩ = ⟨res, part ++ valOf n, false, false⟩ := by
  unfold outOf valOf
  by_cases h : bareOk (meantOf n) = true
  · rw [if_pos h, if_pos h, bare_eq h]
    obtain ⟨h0, hm⟩ := bare_mem h
    have qq : ∀ (x : List Nat) (part : List Nat), x = [] ∨ x = [34, 34] → x.foldl hstep ⟨res, part, false, false⟩ = ⟨res, part ++ x, false, false⟩ := by
      rintro x part (rfl | rfl)
      · rw [List.append_nil]; rfl
      · exact fold_qq _ _
    obtain ⟨p1, p2, _⟩ := prepost (n / 288)
    rw [List.foldl_append, List.foldl_append, qq _ _ p1, fold_plain res _ _ (fun c hc => by rcases hm c hc with rfl | rfl | rfl <;> decide), qq _ _ p2, List.append_assoc, List.append_assoc, List.append_assoc]
  · rw [if_neg h, if_neg h]
    have e1 : hstep ⟨res, part, false, false⟩ 34 = ⟨res, part ++ [34], false, true⟩ := by simp [hstep]
    have e2 : ∀ part, hstep ⟨res, part, false, true⟩ 34 = ⟨res, part ++ [34], false, false⟩ := by intro part; simp [hstep]
    rw [List.foldl_cons, e1, List.foldl_append, fold_esc, List.foldl_cons, e2, List.append_assoc, List.append_assoc]; rfl
noncomputable def barL (b : Bool) : List Nat := if b = true then [124] else []
/-- a piece as it is written, without what is behind -/
theorem fold_piece (res : List (List Nat)) (b : Bool) (p n : Nat) (hp : p < 8) : (barL b ++ 32 :: (headOf p ++ outOf n)).foldl hstep ⟨res, [], false, false⟩ = ⟨res, barL b ++ 32 :: (headOf p ++ valOf n), false, false⟩ := by
  have e : barL b ++ 32 :: (headOf p ++ outOf n) = (barL b ++ 32 :: headOf p) ++ outOf n := by simp
  rw [e, List.foldl_append, fold_plain res _ _ (fun c hc => ?_), fold_out]
  · simp
  · rcases List.mem_append.mp hc with hc | hc
    · have : c = 124 := by cases b <;> simp [barL] at hc; exact hc
      subst this; decide
    · simp only [headOf, List.mem_cons, List.not_mem_nil, or_false] at hc
      rcases hc with rfl | rfl | rfl
      · decide
      · omega
      · decide
/-- the text, as it is due -/
noncomputable def dueL (brk : Nat → Bool) (X : Nat → List Nat) : Nat → List Nat
  | 0 => []
  | i + 1 => dueL brk X i ++ (barL (brk i) ++ 32 :: X i)
noncomputable def partL (brk : Nat → Bool) (nf : Nat → Nat) (p : Nat) : List Nat := barL (brk p) ++ 32 :: (headOf p ++ valOf (nf p))
theorem due_fold {brk : Nat → Bool} {nf : Nat → Nat} {bf : Nat → List Nat} : ∀ i, i ≤ 8 → (∀ p, p < i → bf p = [44]) → (dueL brk (fun p => pairW p (nf p) (bf p)) i).foldl hstep hstart = ⟨(List.range i).map (partL brk nf), [], false, false⟩
  | 0, _, _ => rfl
  | i + 1, h8, hb => by
    show (dueL brk _ i ++ _).foldl hstep hstart = _
    have ex : barL (brk i) ++ 32 :: pairW i (nf i) (bf i) = (barL (brk i) ++ 32 :: (headOf i ++ outOf (nf i))) ++ [44] := by rw [pairW_eq, hb i (Nat.lt_succ_self _)]; simp
    have e44 : ∀ res part, hstep ⟨res, part, false, false⟩ 44 = ⟨res ++ [part], [], false, false⟩ := by intro res part; simp [hstep]
    rw [List.foldl_append, due_fold i (Nat.le_of_succ_le h8) fun p hp => hb p (Nat.lt_succ_of_lt hp), ex, List.foldl_append, fold_piece _ _ _ _ h8, List.foldl_cons, e44, List.range_succ, List.map_append]; rfl
theorem due_items {brk : Nat → Bool} {nf : Nat → Nat} {bf : Nat → List Nat} (k : Nat) (h8 : k < 8) (hb : ∀ p, p < k → bf p = [44]) (hk : bf k = [44] ∨ bf k = []) :
    hend ((dueL brk (fun p => pairW p (nf p) (bf p)) (k + 1)).foldl hstep hstart) = (List.range (k + 1)).map (partL brk nf) := by
  rcases hk with hk | hk
  · rw [due_fold (k + 1) h8 fun p hp => by
      rcases Nat.lt_or_eq_of_le (Nat.le_of_lt_succ hp) with q | q
      · exact hb p q
      · rw [q]; exact hk]
    unfold hend
    rw [if_pos rfl]
  · show hend ((dueL brk _ k ++ _).foldl hstep hstart) = _
    have ex : barL (brk k) ++ 32 :: pairW k (nf k) (bf k) = barL (brk k) ++ 32 :: (headOf k ++ outOf (nf k)) := by rw [pairW_eq, hk]; simp
    rw [List.foldl_append, due_fold k (Nat.le_of_lt h8) hb, ex, fold_piece _ _ _ _ h8]
    unfold hend
    rw [if_neg (by simp), List.range_succ, List.map_append]; rfl
end Mine
open PySem PySem.W PyProof.Rows PySem.Calls PySem.Spec
set_option Elab.async false
set_option maxRecDepth 100000
set_option maxHeartbeats 1000000
set_option linter.unusedVariables false
namespace Mine
theorem sg_join (sep x : PySem.Str) (r : List PySem.Str) : sg (Txt.join sep (x :: r)) = sg x ++ r.flatMap fun y => sg sep ++ sg y := by
  unfold Txt.join Builtin.Str.glued
  have key : ∀ (r : List PySem.Str) (a : Array Nat), (r.foldl (fun acc p => acc ++ sep.cps ++ p.cps) a).toList = a.toList ++ r.flatMap fun y => sg sep ++ sg y := by
    intro r
    induction r with
    | nil => intro a; simp
    | cons x r ih =>
      intro a
      rw [List.foldl_cons, ih, List.flatMap_cons, ← List.append_assoc]
      congr 1
      rw [Array.toList_append, Array.toList_append, List.append_assoc]; rfl
  show (r.foldl _ x.cps).toList = _
  rw [key]; rfl
theorem sg_join_snoc (sep a : PySem.Str) (l : List PySem.Str) : ∃ y, ∀ a, sg (Txt.join sep (l ++ [a])) = y ++ sg a := by
  cases l with
  | nil => exact ⟨[], fun a => by rw [List.nil_append, sg_join]; simp⟩
  | cons x r => exact ⟨sg x ++ (r.flatMap fun y => sg sep ++ sg y) ++ sg sep, fun a => by rw [List.cons_append, sg_join, List.flatMap_append]; simp⟩
theorem sg_join_two (sep a b : PySem.Str) (l : List PySem.Str) : sg (Txt.join sep (l ++ [a] ++ [b])) = sg (Txt.join sep (l ++ [a])) ++ (sg sep ++ sg b) := by
  cases l with
  | nil => rw [List.nil_append, List.singleton_append, sg_join, sg_join]; simp
  | cons x r => rw [List.cons_append, List.cons_append, sg_join, sg_join, List.flatMap_append]; simp
theorem sizeAll_app (a b : List Part) : sizeAll (a ++ b) = sizeAll a + sizeAll b := by
  unfold sizeAll; rw [List.map_append, List.sum_append]
theorem sizeAll_one (x : List Nat) : sizeAll [bl (tx x)] = (x.length : Int) + 1 := by
  have e1 : (" " : PySem.Str).length = 1 := by decide +kernel
  show sizeOf1 (bl (tx x)) + 0 = _
  show (((" " : PySem.Str).length : Int) + ((tx x).length : Int)) + 0 = _
  rw [e1, tx_length]; omega
theorem sizeAll_pos (a : List Part) : 0 ≤ sizeAll a := by
  unfold sizeAll
  induction a with
  | nil => exact Int.le_refl _
  | cons x r ih =>
    rw [List.map_cons, List.sum_cons]
    have : 0 ≤ sizeOf1 x := by unfold sizeOf1; omega
    omega
theorem catAll_app (a : List Part) (x : List Nat) : sg (catAll (a ++ [bl (tx x)])) = sg (catAll a) ++ 32 :: x := by
  have e : sg (" " : PySem.Str) = [32] := by decide +kernel
  unfold catAll
  rw [sg_tx, sg_tx, List.flatMap_append]
  congr 1
  show (sg (" " : PySem.Str) ++ sg (tx x)) ++ [] = _
  rw [e, sg_tx]; simp
noncomputable def brkOf (W : Int) (lens : List Int) (name : Int) (i : Nat) : Bool := decide ((cr W lens name i).2 < (cr W lens name (i + 1)).2)
/-- what is known of the formatter behind i chunks -/
structure Inv (W name : Int) (lens : List Int) (X : Nat → List Nat) (st : Int × List Part × List PySem.Str) (i q : Nat) : Prop where
  le : q ≤ i
  lt : 0 < i → q < i
  ps : st.2.1 = ((List.range i).drop q).map fun p => bl (tx (X p))
  k : st.1 = name ∨ st.1 = 0
  ls : st.2.2.length ≤ i
  c : st.1 + sizeAll st.2.1 = (cr W lens name i).1
  join : Txt.join "|" (st.2.2 ++ [catAll st.2.1]) = tx (dueL (brkOf W lens name) X i)
theorem range_drop {i q : Nat} (h : q ≤ i) : (List.range (i + 1)).drop q = (List.range i).drop q ++ [i] := by
  rw [List.range_succ, List.drop_append_of_le_length (by rw [List.length_range]; exact h)]
theorem inv_step {W name : Int} {lens : List Int} {X : Nat → List Nat} {st : Int × List Part × List PySem.Str} {i q : Nat} (hn : 0 ≤ name) (hl : lens.getD i 0 = ((X i).length : Int) + 1) (V : Inv W name lens X st i q) :
    ∃ q', Inv W name lens X (stepA W (tx (X i)) st) (i + 1) q' := by
  obtain ⟨k, ps, ls⟩ := st
  obtain ⟨le, lt, eps, hk, hls, hc, hj⟩ := V
  dsimp only at eps hk hls hc hj
  have hk0 : 0 ≤ k := by rcases hk with rfl | rfl; exact hn; exact Int.le_refl _
  have hsz : sizeAll (ps ++ [bl (tx (X i))]) = sizeAll ps + ((X i).length + 1) := by rw [sizeAll_app, sizeAll_one]
  have hbar : sg ("|" : PySem.Str) = [124] := by decide +kernel
  have due1 : dueL (brkOf W lens name) X (i + 1) = dueL (brkOf W lens name) X i ++ (barL (brkOf W lens name i) ++ 32 :: X i) := rfl
  have one : catAll [bl (tx (X i))] = tx (32 :: X i) := sg_inj (by
    have := catAll_app [] (X i)
    rw [List.nil_append] at this
    rw [this]; rfl)
  -- the end of a row
  have fin1 : ∀ a : PySem.Str, (cr W lens name (i + 1)).1 = lens.getD i 0 → brkOf W lens name i = true → Txt.join "|" (ls ++ [a]) = tx (dueL (brkOf W lens name) X i) → ∃ q', Inv W name lens X (0, [bl (tx (X i))], ls ++ [a]) (i + 1) q' := by
    intro a h1 hb ha
    refine ⟨i, Nat.le_succ _, fun _ => Nat.lt_succ_self _, ?_, .inr rfl, ?_, ?_, ?_⟩
    · show [bl (tx (X i))] = _
      rw [range_drop (Nat.le_refl _), List.drop_of_length_le (by rw [List.length_range]; exact Nat.le_refl _)]; rfl
    · show (ls ++ [a]).length ≤ _
      rw [List.length_append]; exact Nat.succ_le_succ hls
    · show 0 + sizeAll [bl (tx (X i))] = _
      rw [h1, hl, sizeAll_one, Int.zero_add]
    · show Txt.join "|" (ls ++ [a] ++ [catAll [bl (tx (X i))]]) = _
      refine sg_inj ?_
      rw [sg_join_two, ha, due1, hb, one, hbar]; rfl
  -- the row goes on
  have fin2 : (cr W lens name (i + 1)).1 = (cr W lens name i).1 + lens.getD i 0 → brkOf W lens name i = false → ∃ q', Inv W name lens X (k, ps ++ [bl (tx (X i))], ls) (i + 1) q' := by
    intro h1 hb
    refine ⟨q, Nat.le_succ_of_le le, fun _ => Nat.lt_succ_of_le le, ?_, hk, Nat.le_succ_of_le hls, ?_, ?_⟩
    · show ps ++ [bl (tx (X i))] = _
      rw [range_drop le, List.map_append, eps]; rfl
    · show k + sizeAll (ps ++ [bl (tx (X i))]) = _
      rw [hsz, h1, ← hc, hl]; omega
    · show Txt.join "|" (ls ++ [catAll (ps ++ [bl (tx (X i))])]) = _
      refine sg_inj ?_
      obtain ⟨y, hy⟩ := sg_join_snoc "|" (catAll ps) ls
      have e := hy (catAll ps)
      rw [hj] at e
      rw [hy, catAll_app, ← List.append_assoc, ← e, due1, hb]; rfl
  unfold stepA
  rw [show sizeAll ((k, ps, ls).2.1 ++ [bl (tx (X i))]) = sizeAll ps + ((X i).length + 1) from hsz]
  dsimp only
  rcases cr_cases W lens name i with ⟨c1, c2, c3, c4⟩ | ⟨c1, c3, c4⟩
  · have hb : brkOf W lens name i = true := decide_eq_true (by omega)
    rw [if_pos (by omega)]
    by_cases hp : ps = []
    · rw [if_pos hp]
      have hs : sizeAll ps = 0 := by rw [hp]; rfl
      rw [if_pos (by omega)]
      refine fin1 "" c3 hb ?_
      rw [hp] at hj
      exact hj
    · rw [if_neg hp]
      exact fin1 _ c3 hb hj
  · have hb : brkOf W lens name i = false := decide_eq_false (by omega)
    by_cases hw : W < k + (sizeAll ps + ((X i).length + 1))
    · rw [if_pos hw]
      have hc0 : ¬ 0 < (cr W lens name i).1 := fun z => c1 ⟨z, by omega⟩
      have hsp := sizeAll_pos ps
      have hp : ps = [] := by
        cases e : ps with
        | nil => rfl
        | cons x r =>
          exfalso
          rw [eps] at e
          have hx : x ∈ ((List.range i).drop q).map fun p => bl (tx (X p)) := by rw [e]; exact List.mem_cons_self
          obtain ⟨p, _, rfl⟩ := List.mem_map.mp hx
          rw [eps, e] at hc
          have h1 := sizeAll_pos r
          have h2 : sizeAll (bl (tx (X p)) :: r) = sizeAll [bl (tx (X p))] + sizeAll r := sizeAll_app [_] r
          rw [h2, sizeAll_one] at hc
          omega
      rw [if_pos hp]
      have hs : sizeAll ps = 0 := by rw [hp]; rfl
      rw [if_neg (by omega)]
      have := fin2 c3 hb
      rw [hp] at this
      exact this
    · rw [if_neg hw]
      exact fin2 c3 hb
theorem inv_all {W name : Int} {lens : List Int} {X : Nat → List Nat} {xs : List PySem.Str} (hn : 0 ≤ name) (hx : ∀ i, i < xs.length → xs[i]? = some (tx (X i))) (hl : ∀ i, i < xs.length → lens.getD i 0 = ((X i).length : Int) + 1) : ∀ i, i ≤ xs.length → ∃ q, Inv W name lens X (stA W name xs i) i q
  | 0, _ => ⟨0, Nat.le_refl _, fun h => absurd h (Nat.lt_irrefl _), rfl, .inl rfl, Nat.le_refl _, by show name + 0 = name; omega, by show Txt.join "|" ([] ++ [catAll []]) = tx []; decide +kernel⟩
  | i + 1, h => by
    obtain ⟨q, V⟩ := inv_all (W := W) hn hx hl i (Nat.le_of_succ_le h)
    have e : xs[i] = tx (X i) := (List.getElem?_eq_some_iff.mp (hx i h)).2
    rw [stA_succ h, e]
    exact inv_step hn (hl i h) V
end Mine
open PySem PySem.W PyProof.Rows PySem.Calls PySem.Spec
set_option Elab.async false
set_option maxRecDepth 100000
set_option maxHeartbeats 1000000
set_option linter.unusedVariables false
namespace Mine
theorem esc1_len : ∀ l : List Nat, (esc1 l).length ≤ 2 * l.length
  | [] => Nat.le_refl _
  | c :: l => by
    have e : esc1 (c :: l) = (if c = 92 then [92, 92] else if c = 34 then [92, 34] else [c]) ++ esc1 l := by unfold esc1; rw [List.flatMap_cons]
    have ih := esc1_len l
    rw [e, List.length_append, List.length_cons]
    have : (if c = 92 then [92, 92] else if c = 34 then [92, 34] else [c]).length ≤ 2 := by split; decide; split <;> simp
    omega
theorem pairM_len (n : Nat) : (pairM n).length ≤ 7 := by
  unfold pairM pre2 post2
  have := meant_len n
  (repeat' split) <;> simp <;> omega
theorem outOf_len (n : Nat) : (outOf n).length ≤ 8 := by
  unfold outOf
  have h1 := meant_len n
  have h2 := esc1_len (meantOf n)
  split
  · exact Nat.le_succ_of_le (pairM_len n)
  · simp; omega
theorem valOf_len (n : Nat) : (valOf n).length ≤ 8 := by
  unfold valOf
  have h1 := meant_len n
  split
  · exact Nat.le_succ_of_le (pairM_len n)
  · simp; omega
theorem pairM_asc (n : Nat) : ∀ c ∈ pairM n, c < 128 := by
  have hm : ∀ c ∈ meantOf n, c < 128 := fun c hc => by
    have := meant_mem n c hc
    simp only [signs6, List.mem_cons, List.not_mem_nil, or_false] at this
    rcases this with rfl | rfl | rfl | rfl | rfl | rfl <;> decide
  have hq : ∀ (x : List Nat), x = [] ∨ x = [34, 34] → ∀ c ∈ x, c < 128 := by
    rintro x (rfl | rfl) c hc
    · cases hc
    · simp at hc; subst hc; decide
  obtain ⟨p1, p2, _⟩ := prepost (n / 288)
  unfold pairM
  intro c hc
  split at hc
  · rcases List.mem_append.mp hc with hc | hc
    · rcases List.mem_append.mp hc with hc | hc
      · exact hq _ p1 c hc
      · exact hm c hc
    · exact hq _ p2 c hc
  · exact hm c hc
theorem meant_asc (n : Nat) : ∀ c ∈ meantOf n, c < 128 := fun c hc => by
  have := meant_mem n c hc
  simp only [signs6, List.mem_cons, List.not_mem_nil, or_false] at this
  rcases this with rfl | rfl | rfl | rfl | rfl | rfl <;> decide
theorem valOf_asc (n : Nat) : ∀ c ∈ valOf n, c < 128 := by
  unfold valOf
  intro c hc
  split at hc
  · exact pairM_asc n c hc
  · rcases List.mem_cons.mp hc with rfl | hc
    · decide
    · rcases List.mem_append.mp hc with hc | hc
      · exact meant_asc n c hc
      · rw [List.mem_singleton.mp hc]; decide
theorem outOf_asc (n : Nat) : ∀ c ∈ outOf n, c < 128 := by
  unfold outOf
  intro c hc
  split at hc
  · exact pairM_asc n c hc
  · rcases List.mem_cons.mp hc with rfl | hc
    · decide
    · rcases List.mem_append.mp hc with hc | hc
      · obtain ⟨d, hd, hc⟩ := List.mem_flatMap.mp hc
        have := meant_asc n d hd
        split at hc
        · simp at hc; subst hc; decide
        · split at hc
          · simp at hc; rcases hc with rfl | rfl <;> decide
          · rw [List.mem_singleton.mp hc]; exact this
      · rw [List.mem_singleton.mp hc]; decide
theorem headOf_asc {p : Nat} (hp : p < 8) : ∀ c ∈ headOf p, c < 128 := by
  intro c hc
  simp only [headOf, List.mem_cons, List.not_mem_nil, or_false] at hc
  rcases hc with rfl | rfl <;> omega
theorem pairW_len {p n : Nat} {b : List Nat} (hb : b.length ≤ 1) : (pairW p n b).length ≤ 11 := by
  rw [pairW_eq, List.length_append, List.length_append]
  have := outOf_len n
  have : (headOf p).length = 2 := rfl
  omega
theorem pairS_len (p n : Nat) : (pairS p n).length ≤ 10 := by
  rw [pairS_eq, List.length_append]
  have := valOf_len n
  have : (headOf p).length = 2 := rfl
  omega
theorem pairW_asc {p n : Nat} {b : List Nat} (hp : p < 8) (hb : b = [44] ∨ b = []) : ∀ c ∈ pairW p n b, c < 128 := by
  intro c hc
  rw [pairW_eq] at hc
  rcases List.mem_append.mp hc with hc | hc
  · rcases List.mem_append.mp hc with hc | hc
    · exact headOf_asc hp c hc
    · exact outOf_asc n c hc
  · rcases hb with rfl | rfl
    · rw [List.mem_singleton.mp hc]; decide
    · cases hc
theorem due_small {brk : Nat → Bool} {X : Nat → List Nat} {N : Nat} (hl : ∀ p, p < N → (X p).length ≤ 11) (ha : ∀ p, p < N → ∀ c ∈ X p, c < 128) : ∀ i, i ≤ N → (dueL brk X i).length ≤ 13 * i ∧ ∀ c ∈ dueL brk X i, c < 128
  | 0, _ => ⟨Nat.le_refl _, fun c hc => by cases hc⟩
  | i + 1, h => by
    obtain ⟨a, b⟩ := due_small (brk := brk) hl ha i (Nat.le_of_succ_le h)
    have hx := hl i h
    have hb : (barL (brk i)).length ≤ 1 := by cases brk i <;> decide
    refine ⟨?_, fun c hc => ?_⟩
    · show (dueL brk X i ++ (barL (brk i) ++ 32 :: X i)).length ≤ _
      rw [List.length_append, List.length_append, List.length_cons]; omega
    · rcases List.mem_append.mp hc with hc | hc
      · exact b c hc
      · rcases List.mem_append.mp hc with hc | hc
        · cases hb : brk i <;> rw [hb] at hc <;> simp [barL] at hc
          subst hc; decide
        · rcases List.mem_cons.mp hc with rfl | hc
          · decide
          · exact ha i h c hc
theorem behind_cases (T : Int) (n p : Nat) : behindOf T n p = [44] ∨ behindOf T n p = [] := by
  unfold behindOf; split <;> simp
theorem behind_mid {T : Int} {n p : Nat} (h : p + 1 < n) : behindOf T n p = [44] := by
  unfold behindOf
  rw [if_neg (fun z => by have := z.1; omega)]
theorem All2.map {α β γ : Type} {R : α → β → Prop} {f : γ → α} {k : γ → β} : ∀ (l : List γ), (∀ x ∈ l, R (f x) (k x)) → All2 R (l.map f) (l.map k)
  | [], _ => .nil
  | x :: l, h => .cons (h x List.mem_cons_self) (All2.map l fun y hy => h y (List.mem_cons_of_mem _ hy))
end Mine
open PySem PySem.W PyProof.Rows PySem.Calls PySem.Spec
set_option Elab.async false
set_option maxRecDepth 100000
set_option maxHeartbeats 1000000
set_option linter.unusedVariables false
namespace Mine
noncomputable section
noncomputable def nfOf (ns : List Int) (p : Nat) : Nat := (numsOf ns).getD p 0
noncomputable def bfOf (ns : List Int) (p : Nat) : List Nat := behindOf (totalOf ns) (numsOf ns).length p
noncomputable def XOf (ns : List Int) (p : Nat) : List Nat := pairW p (nfOf ns p) (bfOf ns p)
noncomputable def kvOf (b : Bool) (p n : Nat) : KvItem := ⟨(if b = true then [124, 32] else []) ++ [97 + p], valOf n, pairM n⟩
end
theorem tris_len (ns : List Int) : (trisOf ns).length = (numsOf ns).length := by unfold trisOf; rw [List.length_map, List.length_range]
theorem nums_ge (ns : List Int) : 3 ≤ (numsOf ns).length := by simp [numsOf]
theorem tris_get {ns : List Int} {p : Nat} (h : p < (numsOf ns).length) : (trisOf ns)[p]? = some (tx (pairM (nfOf ns p)), tx (pairS p (nfOf ns p)), tx (XOf ns p)) := by
  unfold trisOf
  rw [List.getElem?_map, List.getElem?_range h]; rfl
theorem GL_all (ns : List Int) : ∀ t ∈ trisOf ns, t.2.1.length ≤ 100 ∧ t.2.2.length ≤ 100 := by
  intro t ht
  obtain ⟨p, hp, rfl⟩ := List.mem_map.mp ht
  have hb : (bfOf ns p).length ≤ 1 := by rcases behind_cases (totalOf ns) (numsOf ns).length p with q | q <;> (unfold bfOf; rw [q]; decide)
  refine ⟨?_, ?_⟩
  · show (tx (pairS _ _)).length ≤ 100
    rw [tx_length]; exact Nat.le_trans (pairS_len _ _) (by decide)
  · show (tx (XOf ns p)).length ≤ 100
    rw [tx_length]; exact Nat.le_trans (pairW_len hb) (by decide)
theorem lens_get {ns : List Int} {p : Nat} (h : p < (numsOf ns).length) : (lensOf (trisOf ns)).getD p 0 = ((XOf ns p).length : Int) + 1 := by
  unfold lensOf
  rw [List.getD_eq_getElem?_getD, List.getElem?_map, tris_get h]
  show (((tx (XOf ns p)).length : Int) + 1) = _
  rw [tx_length]
theorem lens_pos {ns : List Int} : ∀ i, 0 ≤ (lensOf (trisOf ns)).getD i 0 := by
  intro i
  by_cases h : i < (numsOf ns).length
  · rw [lens_get h]; omega
  · rw [List.getD_eq_getElem?_getD, List.getElem?_eq_none (by unfold lensOf; rw [List.length_map, tris_len]; omega)]
    exact Int.le_refl _
theorem X_ne (ns : List Int) (p : Nat) : ∃ l, XOf ns p = (97 + p) :: l := ⟨61 :: (outOf (nfOf ns p) ++ bfOf ns p), by unfold XOf; rw [pairW_eq]; rfl⟩
theorem lens_two {ns : List Int} : ∀ i, i < (numsOf ns).length → 2 ≤ (lensOf (trisOf ns)).getD i 0 := by
  intro i h
  obtain ⟨l, e⟩ := X_ne ns i
  rw [lens_get h, e, List.length_cons]; omega
section
variable {ns : List Int} {name : Int}
theorem strip_bar (b : Bool) : Txt.strip (barS b) = tx (barL b) := by cases b <;> decide +kernel
theorem sec_inv (hn : 0 ≤ name) : ∀ i, i ≤ (numsOf ns).length → secAt (widthOf ns) name (marksOf (widthOf ns) (lensOf (trisOf ns)) (trisOf ns).length) (trisOf ns) i =
    ⟨tx (dueL (brkOf (widthOf ns) (lensOf (trisOf ns)) name) (XOf ns) i), (List.range i).map (fun p => barS (brkOf (widthOf ns) (lensOf (trisOf ns)) name p) ++ tx (pairS p (nfOf ns p))), (List.range i).map (fun p => (barS (brkOf (widthOf ns) (lensOf (trisOf ns)) name p) ++ ⟨#[97 + p]⟩, tx (pairM (nfOf ns p)))), ((cr (widthOf ns) (lensOf (trisOf ns)) name i).2 : Int)⟩
  | 0, _ => rfl
  | i + 1, h => by
    have wb := width_bound ns
    have hm := marks_rows (W := widthOf ns) (lens := lensOf (trisOf ns)) (name := name) (n := (trisOf ns).length) (by omega) hn (fun i hi => lens_two i (tris_len ns ▸ hi)) lens_pos i (tris_len ns ▸ h)
    show secStep _ _ _ _ _ (secAt _ _ _ _ i) = _
    rw [sec_inv hn i (Nat.le_of_succ_le h)]
    have et : (trisOf ns).getD i ("", "", "") = (tx (pairM (nfOf ns i)), tx (pairS i (nfOf ns i)), tx (XOf ns i)) := by rw [List.getD_eq_getElem?_getD, tris_get h]; rfl
    rw [et]
    generalize hst : (SecSt.mk (tx (dueL (brkOf (widthOf ns) (lensOf (trisOf ns)) name) (XOf ns) i)) _ _ _ : SecSt) = st
    have hb : secB (widthOf ns) name ((marksOf (widthOf ns) (lensOf (trisOf ns)) (trisOf ns).length).getD i 0) st = brkOf (widthOf ns) (lensOf (trisOf ns)) name i := by
      unfold secB brkOf
      rw [← hst, Int.fdiv_eq_ediv_of_nonneg _ (by omega), hm]
      show decide (_ > ((cr (widthOf ns) (lensOf (trisOf ns)) name i).2 : Int)) = _
      congr 1
      exact propext ⟨fun z => Int.ofNat_lt.mp z, fun z => Int.ofNat_lt.mpr z⟩
    unfold secStep
    rw [hb, ← hst]
    have es : (" " : PySem.Str) = tx [32] := by decide +kernel
    have e1 : tx (dueL (brkOf (widthOf ns) (lensOf (trisOf ns)) name) (XOf ns) i) ++ ((Txt.strip (barS (brkOf (widthOf ns) (lensOf (trisOf ns)) name i)) ++ " ") ++ tx (XOf ns i)) = tx (dueL (brkOf (widthOf ns) (lensOf (trisOf ns)) name) (XOf ns) (i + 1)) := by
      rw [strip_bar, es, tx_append, tx_append, tx_append]
      show _ = tx (_ ++ (_ ++ 32 :: _))
      rw [List.append_assoc]; rfl
    have e4 : (if brkOf (widthOf ns) (lensOf (trisOf ns)) name i = true then ((cr (widthOf ns) (lensOf (trisOf ns)) name i).2 : Int) + 1 else ((cr (widthOf ns) (lensOf (trisOf ns)) name i).2 : Int)) = ((cr (widthOf ns) (lensOf (trisOf ns)) name (i + 1)).2 : Int) := by
      rcases cr_cases (widthOf ns) (lensOf (trisOf ns)) name i with ⟨_, _, _, q⟩ | ⟨_, _, q⟩
      · rw [if_pos (show brkOf (widthOf ns) (lensOf (trisOf ns)) name i = true from decide_eq_true (by omega)), q]; rfl
      · rw [if_neg (show ¬ brkOf (widthOf ns) (lensOf (trisOf ns)) name i = true from fun z => by have := of_decide_eq_true z; omega), q]
    rw [SecSt.mk.injEq]
    refine ⟨e1, ?_, ?_, e4⟩
    · rw [List.range_succ, List.map_append]; rfl
    · rw [List.range_succ, List.map_append]; rfl
theorem strip_part (b : Bool) {p : Nat} (n : Nat) (hp : p < 8) : Txt.strip (tx (barL b ++ 32 :: (headOf p ++ valOf n))) = barS b ++ tx (pairS p n) := by
  have ep := pairS_eq p n
  have he := val_ends n p
  have hsp : Unicode.isSpace (97 + p) = false := by
    have : ∀ p : Fin 8, Unicode.isSpace (97 + p.1) = false := by decide +kernel
    exact this ⟨p, hp⟩
  cases b with
  | false =>
    have := strip_tx [32] (61 :: valOf n) (97 + p) (by intro c hc; rw [List.mem_singleton.mp hc]; decide +kernel) hsp he
    have e0 : barS false = tx [] := by decide +kernel
    rw [e0, tx_append, ep]
    exact this
  | true =>
    have h2 : Ends (124 :: 32 :: (headOf p ++ valOf n)) := by
      obtain ⟨b, hb, hb'⟩ := he
      refine ⟨b, ?_, hb'⟩
      rw [show 124 :: 32 :: (headOf p ++ valOf n) = [124, 32] ++ (headOf p ++ valOf n) from rfl, List.getLast?_append, hb]; rfl
    have := strip_tx [] (32 :: (headOf p ++ valOf n)) 124 (by intro c hc; cases hc) (by decide +kernel) h2
    have e0 : barS true = tx [124, 32] := by decide +kernel
    rw [e0, tx_append, ep]
    exact this
theorem kv_text (b : Bool) (p n : Nat) : (kvOf b p n).text = barS b ++ tx (pairS p n) := by
  have e0 : barS b = tx (if b = true then [124, 32] else []) := by cases b <;> decide +kernel
  rw [e0, tx_append, pairS_eq]
  show tx (_ ++ 61 :: valOf n) = _
  congr 1
  show ((if b = true then [124, 32] else []) ++ [97 + p]) ++ 61 :: valOf n = _
  rw [List.append_assoc]; rfl
theorem kv_ok (b : Bool) {p : Nat} (n : Nat) (hp : p < 8) : (kvOf b p n).Ok := by
  have hv := valOf_len n
  refine ⟨?_, unq n, ⟨?_, Nat.le_trans hv (by decide)⟩, ?_⟩
  · show 61 ∉ (if b = true then [124, 32] else []) ++ [97 + p]
    intro z
    rcases List.mem_append.mp z with z | z
    · cases b <;> simp at z
    · have := List.mem_singleton.mp z; omega
  · show ((if b = true then [124, 32] else []) ++ [97 + p]).length ≤ 100
    cases b <;> simp
  · show (((if b = true then [124, 32] else []) ++ [97 + p]) ++ 61 :: valOf n).all (· < 128) = true
    rw [List.all_eq_true]
    intro c hc
    rw [decide_eq_true_eq]
    rcases List.mem_append.mp hc with hc | hc
    · rcases List.mem_append.mp hc with hc | hc
      · cases b <;> simp at hc
        rcases hc with rfl | rfl <;> decide
      · have := List.mem_singleton.mp hc; omega
    · rcases List.mem_cons.mp hc with rfl | hc
      · decide
      · exact valOf_asc n c hc
theorem kv_key {b b' : Bool} {p p' n n' : Nat} (h : tx (kvOf b p n).key = tx (kvOf b' p' n').key) : p = p' := by
  have h2 : (kvOf b p n).key = (kvOf b' p' n').key := by rw [← sg_tx (kvOf b p n).key, h, sg_tx]
  have h3 := congrArg List.getLast? h2
  have e : ∀ (b : Bool) (p n : Nat), (kvOf b p n).key.getLast? = some (97 + p) := fun b p n => by
    show ((if b = true then [124, 32] else []) ++ [97 + p]).getLast? = _
    rw [List.getLast?_append]; rfl
  rw [e, e] at h3
  have := Option.some.inj h3
  omega
end
end Mine
open PySem PySem.W PyProof.Rows PySem.Calls PySem.Spec
set_option Elab.async false
set_option maxRecDepth 100000
set_option maxHeartbeats 1000000
set_option linter.unusedVariables false
namespace Mine
section
variable {ns : List Int} {name : Int}
theorem X_len (p : Nat) : (XOf ns p).length ≤ 11 := pairW_len (by rcases behind_cases (totalOf ns) (numsOf ns).length p with q | q <;> (unfold bfOf; rw [q]; decide))
theorem X_mid {p : Nat} (h : p + 1 < (numsOf ns).length) : ∃ y, XOf ns p = y ++ [44] ∧ y.length ≤ 100 := by
  refine ⟨headOf p ++ outOf (nfOf ns p), ?_, ?_⟩
  · unfold XOf bfOf; rw [pairW_eq, behind_mid h]
  · rw [List.length_append]
    have := outOf_len (nfOf ns p)
    have : (headOf p).length = 2 := rfl
    omega
theorem parts_small {q i : Nat} : SmallT (((List.range i).drop q).map fun p => bl (tx (XOf ns p))) := by
  intro x hx
  obtain ⟨p, _, rfl⟩ := List.mem_map.mp hx
  refine ⟨?_, ?_⟩
  · show (" " : PySem.Str).length ≤ 10000
    decide +kernel
  · show (tx (XOf ns p)).length ≤ 10000
    rw [tx_length]; exact Nat.le_trans (X_len p) (by decide)
theorem parts_commas {q i : Nat} (hi : i ≤ (numsOf ns).length) : Commas (((List.range i).drop q).map fun p => bl (tx (XOf ns p))) := by
  intro j hj
  rw [List.length_map, List.length_drop, List.length_range] at hj
  obtain ⟨y, hy, hl⟩ := X_mid (ns := ns) (p := q + j) (by omega)
  refine ⟨" ", y, ?_, hl⟩
  rw [List.getElem?_map, List.getElem?_drop, List.getElem?_range (by omega)]
  show some (bl (tx (XOf ns (q + j)))) = _
  rw [hy]
theorem xs_get {i : Nat} (h : i < ((trisOf ns).map (·.2.2)).length) : ((trisOf ns).map (·.2.2))[i]? = some (tx (XOf ns i)) := by
  rw [List.length_map, tris_len] at h
  rw [List.getElem?_map, tris_get h]; rfl
theorem inv_at (hn : 0 ≤ name) (i : Nat) (h : i ≤ (numsOf ns).length) : ∃ q, Inv (widthOf ns) name (lensOf (trisOf ns)) (XOf ns) (stA (widthOf ns) name ((trisOf ns).map (·.2.2)) i) i q := by
  have hx : ((trisOf ns).map (·.2.2)).length = (numsOf ns).length := by rw [List.length_map, tris_len]
  exact inv_all hn (fun i hi => xs_get hi) (fun i hi => lens_get (hx ▸ hi)) i (hx ▸ h)
theorem inv_k {W : Int} {lens : List Int} {X : Nat → List Nat} {st : Int × List Part × List PySem.Str} {i q : Nat} (hn : 0 ≤ name) (hn' : name ≤ 1000) (V : Inv W name lens X st i q) : 0 ≤ st.1 ∧ st.1 ≤ 1000 ∧ st.2.1.length ≤ i := by
  have h1 : 0 ≤ st.1 ∧ st.1 ≤ 1000 := by rcases V.k with e | e <;> rw [e] <;> omega
  refine ⟨h1.1, h1.2, ?_⟩
  rw [V.ps, List.length_map, List.length_drop, List.length_range]; omega
theorem join_sum (sep : PySem.Str) (l : List PySem.Str) : (l.map (·.length)).sum ≤ (Txt.join sep l).length := by
  have := size_glued sep l
  show _ ≤ (Builtin.Str.glued sep l).length
  rw [this]; exact Nat.le_add_right _ _
theorem good_all (hn : 0 ≤ name) (hn' : name ≤ 1000) : ∃ st se wr xs, Good (widthOf ns) name (marksOf (widthOf ns) (lensOf (trisOf ns)) (trisOf ns).length) (trisOf ns) st se wr xs := by
  have hN := nums_len ns
  have hN3 := nums_ge ns
  obtain ⟨k, hk⟩ : ∃ k, (numsOf ns).length = k + 1 := ⟨(numsOf ns).length - 1, by omega⟩
  have htl := tris_len ns
  have hx : ((trisOf ns).map (·.2.2)).length = (numsOf ns).length := by rw [List.length_map, htl]
  obtain ⟨q, V⟩ := inv_at (ns := ns) hn (numsOf ns).length (Nat.le_refl _)
  obtain ⟨k0, k1, pl⟩ := inv_k hn hn' V
  have hq : q ≤ k := by have := V.lt (by omega); omega
  have eps : (stA (widthOf ns) name ((trisOf ns).map (·.2.2)) (numsOf ns).length).2.1 = (((List.range k).drop q).map fun p => bl (tx (XOf ns p))) ++ [bl (tx (XOf ns k))] := by
    rw [V.ps, hk, range_drop hq, List.map_append]; rfl
  have small := due_small (brk := brkOf (widthOf ns) (lensOf (trisOf ns)) name) (X := XOf ns) (N := (numsOf ns).length) (fun p _ => X_len p) (fun p hp => pairW_asc (by omega) (behind_cases _ _ _)) (numsOf ns).length (Nat.le_refl _)
  have SE := sec_inv (ns := ns) hn (numsOf ns).length (Nat.le_refl _)
  rw [htl] at SE
  obtain ⟨lx, ex⟩ := X_ne ns k
  have hp8 : ∀ {p}, p ∈ List.range (numsOf ns).length → p < 8 := fun hp => Nat.lt_of_lt_of_le (List.mem_range.mp hp) hN
  refine ⟨_, _, dueL (brkOf (widthOf ns) (lensOf (trisOf ns)) name) (XOf ns) (numsOf ns).length, (List.range (numsOf ns).length).map fun p => kvOf (brkOf (widthOf ns) (lensOf (trisOf ns)) name p) p (nfOf ns p), rfl, rfl, ?_, ?_, ?_, ?_, ?_, ?_, ?_, ?_, ?_, ?_, ?_, ?_, ?_, ?_, ?_, ?_, ?_, ?_, ?_, ?_⟩
  · intro i hi
    obtain ⟨q, V⟩ := inv_at (ns := ns) hn i (Nat.le_of_lt (hx ▸ hi))
    obtain ⟨a, b, c⟩ := inv_k hn hn' V
    have hi' : i < (numsOf ns).length := hx ▸ hi
    have e1 : ((trisOf ns).map (·.2.2))[i] = tx (XOf ns i) := (List.getElem?_eq_some_iff.mp (xs_get hi)).2
    have e2 : (stA (widthOf ns) name ((trisOf ns).map (·.2.2)) i).2.1 ++ [bl (tx (XOf ns i))] = ((List.range (i + 1)).drop q).map fun p => bl (tx (XOf ns p)) := by
      rw [V.ps, range_drop V.le, List.map_append]; rfl
    rw [e1]
    exact ⟨a, b, by omega, Nat.le_trans V.ls (by omega), e2 ▸ parts_commas hi', e2 ▸ parts_small⟩
  · rw [htl, eps]; simp
  · rw [htl]; omega
  · rw [htl]; exact Nat.le_trans V.ls (by omega)
  · rw [htl, V.ps]; exact parts_small
  · rw [htl, eps, List.getLastD_eq_getLast?, List.getLast?_append]
    show bl (tx (XOf ns k)) ≠ _
    intro z
    have z2 := congrArg sg (Prod.mk.inj z).2
    have e0 : sg ("" : PySem.Str) = [] := by decide +kernel
    rw [sg_tx, ex, e0] at z2
    cases z2
  · rw [htl]; exact k1
  · rw [htl, V.c]
    have p1 := (cr_pos (W := widthOf ns) (lens := lensOf (trisOf ns)) hn (n := (numsOf ns).length) (fun i hi => lens_two i hi) (numsOf ns).length (Nat.le_refl _)).2 (by omega)
    have p2 := lens_two (ns := ns) ((numsOf ns).length - 1) (by omega)
    omega
  · rw [htl]
    cases hs : Txt.isspace (catAll (stA (widthOf ns) name ((trisOf ns).map (·.2.2)) (numsOf ns).length).2.1) with
    | false => rfl
    | true =>
      exfalso
      unfold Txt.isspace at hs
      have hs := (Bool.and_eq_true_iff.mp hs).2
      rw [Array.all_eq_true_iff_forall_mem] at hs
      have hm : 97 + k ∈ sg (catAll (stA (widthOf ns) name ((trisOf ns).map (·.2.2)) (numsOf ns).length).2.1) := by
        rw [eps, catAll_app, ex]; simp
      have := hs (97 + k) (Array.mem_toList_iff.mp hm)
      have h8 : ∀ p : Fin 8, Unicode.isSpace (97 + p.1) = false := by decide +kernel
      rw [h8 ⟨k, by omega⟩] at this
      cases this
  · rw [htl]
    refine Nat.le_trans (join_sum "|" _) ?_
    rw [V.join, tx_length]
    have := small.1
    omega
  · rw [htl]; exact V.join
  · rw [htl, SE]
  · rw [List.all_eq_true]
    intro c hc
    exact decide_eq_true (small.2 c hc)
  · have := small.1; omega
  · rw [htl, SE]
    unfold httpItems
    have := due_items (brk := brkOf (widthOf ns) (lensOf (trisOf ns)) name) (nf := nfOf ns) (bf := bfOf ns) k (by omega) (fun p hp => by unfold bfOf; exact behind_mid (by omega)) (behind_cases _ _ _)
    rw [hk]
    rw [show XOf ns = fun p => pairW p (nfOf ns p) (bfOf ns p) from rfl, this, List.map_map]
    refine List.map_congr_left fun p hp => ?_
    exact strip_part _ _ (hp8 (hk ▸ hp))
  · rw [htl, SE, List.map_map]
    exact List.map_congr_left fun p hp => kv_text _ _ _
  · intro x hx
    obtain ⟨p, hp, rfl⟩ := List.mem_map.mp hx
    exact kv_ok _ _ (hp8 hp)
  · rw [List.map_map]
    refine List.pairwise_map.mpr (List.pairwise_lt_range.imp fun {a b} h e => ?_)
    have := kv_key e
    omega
  · rw [List.length_map, List.length_range]; omega
  · rw [htl, SE]
    refine All2.map _ fun p hp => ⟨?_, rfl⟩
    have e0 : ∀ b : Bool, barS b = tx (if b = true then [124, 32] else []) := by intro b; cases b <;> decide +kernel
    show tx ((if brkOf (widthOf ns) (lensOf (trisOf ns)) name p = true then [124, 32] else []) ++ [97 + p]) = barS _ ++ tx [97 + p]
    rw [e0, tx_append]
theorem sum_bound {l : List Int} (h : ∀ x ∈ l, 0 ≤ x ∧ x < 864) : 0 ≤ l.sum ∧ l.sum ≤ 864 * l.length := by
  induction l with
  | nil => exact ⟨Int.le_refl _, Int.le_refl _⟩
  | cons x l ih =>
    have h1 := h x List.mem_cons_self
    have h2 := ih fun y hy => h y (List.mem_cons_of_mem _ hy)
    rw [List.sum_cons, List.length_cons]
    omega
theorem names_bound : ∀ nm ∈ namesOf (widthOf ns) (totalOf ns), 0 ≤ nm ∧ nm ≤ 1000 := by
  have wb := width_bound ns
  have hs := sum_bound (l := drawnOf ns) drawn_mem
  have hl := drawn_len ns
  have hT : 0 ≤ totalOf ns ∧ totalOf ns ≤ 4320 := ⟨hs.1, by unfold totalOf; omega⟩
  intro nm hm
  simp only [namesOf, List.mem_cons, List.not_mem_nil, or_false] at hm
  rw [Int.fdiv_eq_ediv_of_nonneg _ (by omega), Int.fdiv_eq_ediv_of_nonneg _ (by omega), Int.fmod_eq_emod_of_nonneg _ (by omega)] at hm
  rcases hm with rfl | rfl | rfl | rfl
  · omega
  · omega
  · have h1 := Int.emod_nonneg (8 + totalOf ns / 20) (b := widthOf ns) (by omega)
    have h2 := Int.emod_lt_of_pos (8 + totalOf ns / 20) (b := widthOf ns) (by omega)
    omega
  · omega
theorem GD_all : ∀ nm ∈ namesOf (widthOf ns) (totalOf ns), ∃ st se wr xs, Good (widthOf ns) nm (marksOf (widthOf ns) (lensOf (trisOf ns)) (trisOf ns).length) (trisOf ns) st se wr xs := fun nm hm => good_all (names_bound nm hm).1 (names_bound nm hm).2
end
end Mine
open PySem PySem.W PyProof.Rows PySem.Calls PySem.Spec
set_option Elab.async false
set_option maxRecDepth 100000
set_option maxHeartbeats 1000000
set_option linter.unusedVariables false
namespace Mine
/-- the written part, with the two tables -/
noncomputable def K2 : Params → Frag := fun P => KK P ++ [(140, { cls := .none, data := .fields #[] }), (147, { cls := .none, data := .fields #[] })]
theorem l140 (P : Params) : (KK P).lookup 140 = none := by kernel_rfl
theorem l147 (P : Params) : (KK P).lookup 147 = none := by kernel_rfl
theorem look_left {K T : Frag} {a : Addr} {o : Obj} (h : K.lookup a = some o) : (K ++ T).lookup a = some o := by
  induction K with
  | nil => cases h
  | cons p K ih =>
    obtain ⟨b, x⟩ := p
    rw [List.cons_append]
    by_cases e : (a == b) = true
    · simp only [List.lookup, e] at h ⊢; exact h
    · have e : (a == b) = false := by simpa using e
      simp only [List.lookup, e] at h ⊢; exact ih h
theorem look_right {K T : Frag} {a : Addr} (h : K.lookup a = none) : (K ++ T).lookup a = T.lookup a := by
  induction K with
  | nil => rfl
  | cons p K ih =>
    obtain ⟨b, x⟩ := p
    rw [List.cons_append]
    by_cases e : (a == b) = true
    · simp only [List.lookup, e] at h; cases h
    · have e : (a == b) = false := by simpa using e
      simp only [List.lookup, e] at h ⊢; exact ih h
section
variable {w : World} {h : Heap}
theorem KX_left (KX : (K2 w.params).In h) : (KK w.params).In h := fun a o q => KX a o (look_left q)
theorem KX_140 (KX : (K2 w.params).In h) : h.get? 140 = some { cls := .none, data := .fields #[] } := KX _ _ ((look_right (l140 _)).trans rfl)
theorem KX_147 (KX : (K2 w.params).In h) : h.get? 147 = some { cls := .none, data := .fields #[] } := KX _ _ ((look_right (l147 _)).trans rfl)
theorem tb_of (KX : (K2 w.params).In h) : h.TableAt 144 140 #[] ∧ h.TableAt 151 147 #[] ∧ Tb h := by
  have X := KX_left KX
  have a := KX_140 KX
  have b := KX_147 KX
  have l1 : ∃ o, (KK w.params).lookup 144 = some o := ⟨_, by with_unfolding_all rfl⟩
  have t1 : h.TableAt 144 140 #[] := ⟨⟨((KK w.params).lookup 144).get!, _, X _ _ (by kernel_rfl), by kernel_rfl, (by with_unfolding_all rfl), by with_unfolding_all rfl⟩, a⟩
  have t2 : h.TableAt 151 147 #[] := ⟨⟨((KK w.params).lookup 151).get!, _, X _ _ (by kernel_rfl), by kernel_rfl, (by with_unfolding_all rfl), by with_unfolding_all rfl⟩, b⟩
  have i1 : h.IsCode 144 140 #[] := ⟨((KK w.params).lookup 144).get!, _, _, _, _, _, _, _, _, _, X _ _ (by kernel_rfl), (by with_unfolding_all rfl), by with_unfolding_all rfl, by with_unfolding_all rfl, by with_unfolding_all rfl, by with_unfolding_all rfl, by with_unfolding_all rfl, a, rfl, by trivial, by decide⟩
  have i2 : h.IsCode 151 147 #[] := ⟨((KK w.params).lookup 151).get!, _, _, _, _, _, _, _, _, _, X _ _ (by kernel_rfl), (by with_unfolding_all rfl), by with_unfolding_all rfl, by with_unfolding_all rfl, by with_unfolding_all rfl, by with_unfolding_all rfl, by with_unfolding_all rfl, b, rfl, by trivial, by decide⟩
  exact ⟨t1, t2, ⟨#[], i1, t1⟩, #[], i2, t2⟩
end
end Mine
open PySem PySem.W PyProof.Rows PySem.Calls PySem.Spec
set_option Elab.async false
set_option maxRecDepth 100000
set_option maxHeartbeats 1000000
set_option linter.unusedVariables false
namespace Mine
section
variable {w : World} {h h' : Heap} {s₁ s' : Shared} {mg mb : PySem.Str → Option Value} {p : Program} {loose : List PySem.Str} {mean mean' : ExcName → Option Value} {cl : PySem.Str → Option Addr} {c : ClaimW} {args : List WData} {sc : Addr} {vs : List Value} {ns : List Int} {E : Value → Shared → Prop}
theorem ns_hide {a : Addr} {m : PySem.Str → Option Value} (hn : h.Ns a m) (ha : a ∉ [140, 147]) : (hideAll h [140, 147]).Ns a m := hn.at' fun o q => hideAll_get _ q ha
theorem bs_of (KX : (K2 w.params).In h) (T : Top p loose mean mg mb h) : Bs w (hideAll h [140, 147]) := by
  have X := KX_left KX
  refine ⟨fun a o q => hideAll_get _ (X a o q) fun z => ?_, ?_, ?_, hideAll_none _ (by decide), hideAll_none _ (by decide)⟩
  · rcases List.mem_cons.mp z with rfl | z
    · rw [l140] at q; cases q
    · rw [List.mem_singleton.mp z, l147] at q; cases q
  · obtain ⟨mc, hn, e⟩ := T.nolimit
    exact ⟨mc, ns_hide hn (by decide), e⟩
  · obtain ⟨bm, ob, e1, e2, e3, e4, e5, e6⟩ := T.bmain
    refine ⟨mg, mb, ns_hide T.g (by decide), ns_hide T.b (by decide), T.builtins, bm, ob, e1, e2, hideAll_get _ e3 fun z => ?_, e4, e5, e6⟩
    rcases List.mem_cons.mp z with rfl | z
    · rw [KX_140 KX] at e3; cases e3; cases e4
    · rw [List.mem_singleton.mp z, KX_147 KX] at e3; cases e3; cases e4
theorem oldK_of (KX : (K2 w.params).In s₁.heap) (u : Up [140, 147] s₁ s') (tb : Tb s'.heap) : OldK s₁.heap s'.heap := by
  obtain ⟨t1, t2, _⟩ := tb_of KX
  obtain ⟨⟨v1, _, a1⟩, v2, _, a2⟩ := tb
  have key : ∀ b o, s₁.heap.get? b = some o → b ≠ 140 → b ≠ 147 → s'.heap.get? b = some o := fun b o q n1 n2 => u.keep b o (by simp [n1, n2]) q
  refine ⟨fun b o q => ?_, fun b o q => ?_⟩
  · by_cases h1 : b = 140
    · subst h1
      rw [KX_140 KX] at q; cases q
      exact .inr (.inl ⟨t1.isCodeTable, rfl, #[], v1, rfl, by rw [a1.2]; simp⟩)
    · by_cases h2 : b = 147
      · subst h2
        rw [KX_147 KX] at q; cases q
        exact .inr (.inl ⟨t2.isCodeTable, rfl, #[], v2, rfl, by rw [a2.2]; simp⟩)
      · exact .inl (key b o q h1 h2)
  · by_cases h1 : b = 140
    · exact ⟨_, h1 ▸ a1.2⟩
    · by_cases h2 : b = 147
      · exact ⟨_, h2 ▸ a2.2⟩
      · exact ⟨o, key b o q h1 h2⟩
theorem fin_of (KX : (K2 w.params).In s₁.heap) (T : Top p loose mean mg mb s₁.heap) (hL : s₁.heap.IsList sc vs.toArray) (hI : IntsAre vs ns) (hz : ns.length ≤ 63) (hg : s₁.gens = #[])
    (hr : ∀ cls, c.raises args cls = false) (hp : c.post args (.bool true) args = true) :
    wpAny (model prog w) callerA (call (.ref 211) [.ref sc]) (fun v s' => GoodWG c cl mean' args s₁ (.ok (.ret v)) s') E s₁ := by
  have hv := IntAll.of hI
  have hlv := All2.length hv
  refine wpAny_call (law_ct (g := hideAll s₁.heap [140, 147]) (bs_of KX T) (fun b o q => of_hideAll _ q) ⟨by decide, by decide, rfl, [], rfl⟩ (tb_of KX).2.2 hL hv (by rw [hlv]; exact Nat.le_trans hz (by decide)) (GL_all ns) GD_all ?_)
  intro s' u tb
  exact ⟨.inl ⟨_, _, [], rfl, hr, ReadsW.bool true, hp, fun _ => ⟨List.nodup_nil, fun _ hm => (nomatch hm)⟩⟩, oldK_of KX u tb, u.os, u.gens (hg ▸ AllBare.empty)⟩
end
end Mine
open PySem PySem.W PyProof.Rows PySem.Calls PySem.Spec
set_option Elab.async false
set_option maxRecDepth 100000
set_option maxHeartbeats 8000000
namespace Mine
noncomputable def rr : RowW := OpenRow.toRowW PySem.Challenge.rw_pk0106_01.row
noncomputable def rp : Program := rr.prog
noncomputable def vw : Program := { rp with main := { rp.main with body := [0,2,3,4,5,7,8,10,11,12].filterMap fun i => rp.main.body[i]? } }
noncomputable def HK : Hook := kHook Mine.K2 [211,206,201,194,189,91,42,56,35,115,122,130,138,145,152,160,167,175,94,178,3,93,177,34,41,55,90,114,121,129,137,144,151,159,166,174,188,193,200,205,210,2,95,96,99,102,107,108,123,131,153,168,179,180,140,147] (fun _ => by kernel_rfl)
noncomputable def xx (s : Shared) : Bool := xlAt vw [] s && recOk (RowW.records rr) s
noncomputable def q43 (P : Params) : Obj := { cls := Value.type "tuple", data := Data.seq #[] }
noncomputable def q44 (P : Params) : Obj := { cls := Value.none, data := Data.fields #[] }
noncomputable def q45 (P : Params) : Obj := { cls := Value.type "code", data := Data.fields #[Value.str (Str.ofString "<module>") 182, Value.str (Str.ofString "<module>") 183, Value.str (Str.ofString "/claim/cut.py") 184, Value.int 1 0, Value.int 0 0, Value.int 0 0, Value.int 0 0, Value.int 0 0, Value.ref 11, Value.bool false, Value.int 181 0, Value.ref 12, Value.none, Value.none, Value.none, Value.none, Value.int 185 0, Value.int 1 0, Value.str (Str.ofString "/claim/cut.py") 186] }
noncomputable def q46 (P : Params) : Obj := { cls := Value.type "frame", slots := #[some (Value.ref 13), some (Value.ref 3), some (Value.ref 3), none, some (Value.str (Str.ofString "__main__") 164), none, some (Value.ref 0)] }
noncomputable def q49 (P : Params) : Obj := { cls := Value.type "dict", data := Data.dict #[{ hash := PyData.keyHash P (Str.ofString "__name__"), key := Value.str (Str.ofString "__name__") 165, val := Value.str (Str.ofString "cpy313.email.header") 194 }, { hash := PyData.keyHash P (Str.ofString "__doc__"), key := Value.str (Str.ofString "__doc__") 166, val := Value.none }, { hash := PyData.keyHash P (Str.ofString "__package__"), key := Value.str (Str.ofString "__package__") 167, val := Value.none }, { hash := PyData.keyHash P (Str.ofString "__loader__"), key := Value.str (Str.ofString "__loader__") 168, val := ldr P }, { hash := PyData.keyHash P (Str.ofString "__spec__"), key := Value.str (Str.ofString "__spec__") 169, val := Value.none }, { hash := PyData.keyHash P (Str.ofString "__annotations__"), key := Value.str (Str.ofString "__annotations__") 170, val := Value.ref 6 }, { hash := PyData.keyHash P (Str.ofString "__builtins__"), key := Value.str (Str.ofString "__builtins__") 171, val := Value.ref 4 }, { hash := PyData.keyHash P (Str.ofString "__file__"), key := Value.str (Str.ofString "__file__") 173, val := Value.str (Str.ofString "/claim/cut.py") 172 }, { hash := PyData.keyHash P (Str.ofString "__cached__"), key := Value.str (Str.ofString "__cached__") 174, val := Value.none }, { hash := PyData.keyHash P (Str.ofString "_wall"), key := Value.str (Str.ofString "_wall") 193, val := Value.ref 21 }, { hash := PyData.keyHash P (Str.ofString "NL"), key := Value.str (Str.ofString "NL") 197, val := Value.str (Str.ofString "\n") 196 }, { hash := PyData.keyHash P (Str.ofString "EMPTYSTRING"), key := Value.str (Str.ofString "EMPTYSTRING") 199, val := Value.str (Str.ofString "") 198 }] 12 }
noncomputable def q51 (P : Params) : Obj := { cls := Value.type "tuple", data := Data.seq #[] }
noncomputable def q55 (P : Params) : Obj := mkFn (topSt 0) (Str.ofString "_wall") (Value.none) (none) (#[]) (0) ([]) (Value.none) (Value.none) (Value.none) (Value.none) (none) (Value.none) (Value.none) (0)
noncomputable def q53 (P : Params) : Obj := { cls := Value.type "tuple", data := Data.seq #[Value.str (Str.ofString "k") 190] }
noncomputable def q57 (P : Params) : Obj := mkFn (topSt 0) (Str.ofString "_wall") (Value.type "function") (none) (#[]) (3) ([]) (Value.none) (Value.none) (Value.none) (Value.str (Str.ofString "__main__") 164) (none) (Value.ref 20) (Value.none) (0)
noncomputable def q52 (P : Params) : Obj := { cls := Value.none, data := Data.fields #[] }
noncomputable def q50 (P : Params) : Obj := { cls := Value.none, data := Data.fields #[Value.int 1 0, Value.int 0 0, Value.ref 20] }
noncomputable def q56 (P : Params) : Obj := { cls := Value.type "code", data := Data.fields #[Value.str (Str.ofString "_wall") 187, Value.str (Str.ofString "_wall") 188, Value.str (Str.ofString "/claim/cut.py") 189, Value.int 1 0, Value.int 1 0, Value.int 0 0, Value.int 0 0, Value.int 3 0, Value.ref 15, Value.bool true, Value.int 181 0, Value.ref 16, Value.none, Value.ref 17, Value.ref 18, Value.ref 19, Value.int 191 0, Value.int 1 0, Value.str (Str.ofString "/claim/cut.py") 192] }
noncomputable def q54 (P : Params) : Obj := { cls := Value.type "tuple", data := Data.seq #[] }
noncomputable def q58 (P : Params) : Obj := { cls := Value.type "dict", data := Data.dict #[{ hash := PyData.keyHash P (Str.ofString "__name__"), key := Value.str (Str.ofString "__name__") 165, val := Value.str (Str.ofString "cpy313.email.header") 194 }, { hash := PyData.keyHash P (Str.ofString "__doc__"), key := Value.str (Str.ofString "__doc__") 166, val := Value.none }, { hash := PyData.keyHash P (Str.ofString "__package__"), key := Value.str (Str.ofString "__package__") 167, val := Value.none }, { hash := PyData.keyHash P (Str.ofString "__loader__"), key := Value.str (Str.ofString "__loader__") 168, val := ldr P }, { hash := PyData.keyHash P (Str.ofString "__spec__"), key := Value.str (Str.ofString "__spec__") 169, val := Value.none }, { hash := PyData.keyHash P (Str.ofString "__annotations__"), key := Value.str (Str.ofString "__annotations__") 170, val := Value.ref 6 }, { hash := PyData.keyHash P (Str.ofString "__builtins__"), key := Value.str (Str.ofString "__builtins__") 171, val := Value.ref 4 }, { hash := PyData.keyHash P (Str.ofString "__file__"), key := Value.str (Str.ofString "__file__") 173, val := Value.str (Str.ofString "/claim/cut.py") 172 }, { hash := PyData.keyHash P (Str.ofString "__cached__"), key := Value.str (Str.ofString "__cached__") 174, val := Value.none }, { hash := PyData.keyHash P (Str.ofString "_wall"), key := Value.str (Str.ofString "_wall") 193, val := Value.ref 21 }, { hash := PyData.keyHash P (Str.ofString "NL"), key := Value.str (Str.ofString "NL") 197, val := Value.str (Str.ofString "\n") 196 }, { hash := PyData.keyHash P (Str.ofString "EMPTYSTRING"), key := Value.str (Str.ofString "EMPTYSTRING") 199, val := Value.str (Str.ofString "") 198 }, { hash := PyData.keyHash P (Str.ofString "_ValueFormatter"), key := Value.str (Str.ofString "_ValueFormatter") 307, val := Value.ref 94 }] 13 }
noncomputable def q69 (P : Params) : Obj := { cls := Value.type "tuple", data := Data.seq #[Value.str (Str.ofString "self") 215, Value.str (Str.ofString "headerlen") 216, Value.str (Str.ofString "maxlen") 217, Value.str (Str.ofString "continuation_ws") 218, Value.str (Str.ofString "splitchars") 219] }
noncomputable def q101 (P : Params) : Obj := mkFn (inCls (topSt 4) 4) (Str.ofString "_ValueFormatter.add_transition") (Value.type "function") (none) (#[]) (3) ([]) (Value.none) (Value.none) (Value.none) (Value.str (Str.ofString "cpy313.email.header") 194) (none) (Value.ref 62) (Value.none) (0)
noncomputable def q133 (P : Params) : Obj := { cls := Value.type "getset_descriptor", data := Data.fields #[Value.str (Str.ofString "__dict__") 301, Value.ref 94, Value.builtin "function.__dict__", Value.builtin "function.__dict__#set"] }
noncomputable def q85 (P : Params) : Obj := mkFn (inCls (topSt 4) 2) (Str.ofString "_ValueFormatter.__str__") (Value.none) (none) (#[]) (0) ([]) (Value.none) (Value.none) (Value.none) (Value.none) (none) (Value.none) (Value.none) (0)
noncomputable def q117 (P : Params) : Obj := { cls := Value.none, data := Data.fields #[] }
noncomputable def q61 (P : Params) : Obj := { cls := Value.type "builtin_function_or_method", data := Data.fields #[Value.builtin "type.__prepare__", Value.type "type"] }
noncomputable def q77 (P : Params) : Obj := { cls := Value.type "tuple", data := Data.seq #[] }
noncomputable def q109 (P : Params) : Obj := { cls := Value.type "tuple", data := Data.seq #[] }
noncomputable def q93 (P : Params) : Obj := { cls := Value.type "code", data := Data.fields #[Value.str (Str.ofString "newline") 238, Value.str (Str.ofString "_ValueFormatter.newline") 239, Value.str (Str.ofString "/claim/cut.py") 240, Value.int 24 0, Value.int 1 0, Value.int 0 0, Value.int 0 0, Value.int 3 0, Value.ref 50, Value.bool true, Value.int 181 0, Value.ref 51, Value.none, Value.ref 52, Value.ref 53, Value.ref 54, Value.int 243 0, Value.int 24 0, Value.str (Str.ofString "/claim/cut.py") 244] }
noncomputable def q125 (P : Params) : Obj := { cls := Value.type "tuple", data := Data.seq #[Value.str (Str.ofString "self") 283, Value.str (Str.ofString "fws") 284, Value.str (Str.ofString "string") 285, Value.str (Str.ofString "ch") 286, Value.str (Str.ofString "i") 287, Value.str (Str.ofString "prevpart") 288, Value.str (Str.ofString "part") 289, Value.str (Str.ofString "remainder") 290] }
noncomputable def q73 (P : Params) : Obj := mkFn (inCls (topSt 4) 0) (Str.ofString "_ValueFormatter.__init__") (Value.type "function") (none) (#[]) (3) ([]) (Value.none) (Value.none) (Value.none) (Value.str (Str.ofString "cpy313.email.header") 194) (none) (Value.ref 34) (Value.none) (0)
noncomputable def q105 (P : Params) : Obj := { cls := Value.type "tuple", data := Data.seq #[] }
noncomputable def q89 (P : Params) : Obj := { cls := Value.none, data := Data.fields #[] }
noncomputable def q121 (P : Params) : Obj := { cls := Value.type "code", data := Data.fields #[Value.str (Str.ofString "_ascii_split") 270, Value.str (Str.ofString "_ValueFormatter._ascii_split") 271, Value.str (Str.ofString "/claim/cut.py") 272, Value.int 44 0, Value.int 4 0, Value.int 0 0, Value.int 0 0, Value.int 3 0, Value.ref 78, Value.bool true, Value.int 181 0, Value.ref 79, Value.none, Value.ref 80, Value.ref 81, Value.ref 82, Value.int 277 0, Value.int 44 0, Value.str (Str.ofString "/claim/cut.py") 278] }
noncomputable def q65 (P : Params) : Obj := { cls := Value.type "code", data := Data.fields #[Value.str (Str.ofString "_ValueFormatter") 202, Value.str (Str.ofString "_ValueFormatter") 203, Value.str (Str.ofString "/claim/cut.py") 204, Value.int 7 0, Value.int 0 0, Value.int 0 0, Value.int 0 0, Value.int 0 0, Value.ref 25, Value.bool false, Value.int 181 0, Value.ref 26, Value.none, Value.none, Value.none, Value.none, Value.int 205 0, Value.int 7 0, Value.str (Str.ofString "/claim/cut.py") 206] }
noncomputable def q81 (P : Params) : Obj := { cls := Value.type "tuple", data := Data.seq #[] }
noncomputable def q113 (P : Params) : Obj := mkFn (inCls (topSt 4) 6) (Str.ofString "_ValueFormatter._maxlengths") (Value.none) (none) (#[]) (0) ([]) (Value.none) (Value.none) (Value.none) (Value.none) (none) (Value.none) (Value.none) (0)
noncomputable def q97 (P : Params) : Obj := { cls := Value.type "tuple", data := Data.seq #[Value.str (Str.ofString "self") 249] }
noncomputable def q129 (P : Params) : Obj := mkFn (inCls (topSt 4) 8) (Str.ofString "_ValueFormatter._append_chunk") (Value.type "function") (none) (#[]) (3) ([]) (Value.none) (Value.none) (Value.none) (Value.str (Str.ofString "cpy313.email.header") 194) (none) (Value.ref 90) (Value.none) (0)
noncomputable def q71 (P : Params) : Obj := mkFn (inCls (topSt 4) 0) (Str.ofString "_ValueFormatter.__init__") (Value.none) (none) (#[]) (0) ([]) (Value.none) (Value.none) (Value.none) (Value.none) (none) (Value.none) (Value.none) (0)
noncomputable def q103 (P : Params) : Obj := { cls := Value.none, data := Data.fields #[] }
noncomputable def q135 (P : Params) : Obj := { cls := Value.type "super", data := Data.fields #[Value.ref 94, Value.ref 94, Value.ref 94] }
noncomputable def q87 (P : Params) : Obj := mkFn (inCls (topSt 4) 2) (Str.ofString "_ValueFormatter.__str__") (Value.type "function") (none) (#[]) (3) ([]) (Value.none) (Value.none) (Value.none) (Value.str (Str.ofString "cpy313.email.header") 194) (none) (Value.ref 48) (Value.none) (0)
noncomputable def q119 (P : Params) : Obj := { cls := Value.type "tuple", data := Data.seq #[] }
noncomputable def q63 (P : Params) : Obj := { cls := Value.type "tuple", data := Data.seq #[] }
noncomputable def q79 (P : Params) : Obj := { cls := Value.type "code", data := Data.fields #[Value.str (Str.ofString "_str") 223, Value.str (Str.ofString "_ValueFormatter._str") 224, Value.str (Str.ofString "/claim/cut.py") 225, Value.int 17 0, Value.int 2 0, Value.int 0 0, Value.int 0 0, Value.int 3 0, Value.ref 36, Value.bool true, Value.int 181 0, Value.ref 37, Value.none, Value.ref 38, Value.ref 39, Value.ref 40, Value.int 228 0, Value.int 17 0, Value.str (Str.ofString "/claim/cut.py") 229] }
noncomputable def q111 (P : Params) : Obj := { cls := Value.type "tuple", data := Data.seq #[Value.str (Str.ofString "self") 266] }
noncomputable def q95 (P : Params) : Obj := { cls := Value.type "tuple", data := Data.seq #[] }
noncomputable def q127 (P : Params) : Obj := mkFn (inCls (topSt 4) 8) (Str.ofString "_ValueFormatter._append_chunk") (Value.none) (none) (#[]) (0) ([]) (Value.none) (Value.none) (Value.none) (Value.none) (none) (Value.none) (Value.none) (0)
noncomputable def q75 (P : Params) : Obj := { cls := Value.none, data := Data.fields #[] }
noncomputable def q107 (P : Params) : Obj := { cls := Value.type "code", data := Data.fields #[Value.str (Str.ofString "feed") 253, Value.str (Str.ofString "_ValueFormatter.feed") 254, Value.str (Str.ofString "/claim/cut.py") 255, Value.int 38 0, Value.int 4 0, Value.int 0 0, Value.int 0 0, Value.int 3 0, Value.ref 64, Value.bool true, Value.int 181 0, Value.ref 65, Value.none, Value.ref 66, Value.ref 67, Value.ref 68, Value.int 260 0, Value.int 38 0, Value.str (Str.ofString "/claim/cut.py") 261] }
noncomputable def q91 (P : Params) : Obj := { cls := Value.type "tuple", data := Data.seq #[] }
noncomputable def q123 (P : Params) : Obj := { cls := Value.type "tuple", data := Data.seq #[] }
noncomputable def q67 (P : Params) : Obj := { cls := Value.type "tuple", data := Data.seq #[] }
noncomputable def q83 (P : Params) : Obj := { cls := Value.type "tuple", data := Data.seq #[Value.str (Str.ofString "self") 234] }
noncomputable def q115 (P : Params) : Obj := mkFn (inCls (topSt 4) 6) (Str.ofString "_ValueFormatter._maxlengths") (Value.type "function") (none) (#[]) (3) ([]) (Value.none) (Value.none) (Value.none) (Value.str (Str.ofString "cpy313.email.header") 194) (none) (Value.ref 76) (Value.none) (0)
noncomputable def q99 (P : Params) : Obj := mkFn (inCls (topSt 4) 4) (Str.ofString "_ValueFormatter.add_transition") (Value.none) (none) (#[]) (0) ([]) (Value.none) (Value.none) (Value.none) (Value.none) (none) (Value.none) (Value.none) (0)
noncomputable def q131 (P : Params) : Obj := { cls := Value.type "dict", data := Data.dict #[{ hash := PyData.keyHash P (Str.ofString "__module__"), key := Value.str (Str.ofString "__module__") 207, val := Value.str (Str.ofString "cpy313.email.header") 194 }, { hash := PyData.keyHash P (Str.ofString "__firstlineno__"), key := Value.str (Str.ofString "__firstlineno__") 211, val := Value.int 7 210 }, { hash := PyData.keyHash P (Str.ofString "__init__"), key := Value.str (Str.ofString "__init__") 222, val := Value.ref 35 }, { hash := PyData.keyHash P (Str.ofString "_str"), key := Value.str (Str.ofString "_str") 230, val := Value.ref 42 }, { hash := PyData.keyHash P (Str.ofString "__str__"), key := Value.str (Str.ofString "__str__") 237, val := Value.ref 49 }, { hash := PyData.keyHash P (Str.ofString "newline"), key := Value.str (Str.ofString "newline") 245, val := Value.ref 56 }, { hash := PyData.keyHash P (Str.ofString "add_transition"), key := Value.str (Str.ofString "add_transition") 252, val := Value.ref 63 }, { hash := PyData.keyHash P (Str.ofString "feed"), key := Value.str (Str.ofString "feed") 262, val := Value.ref 70 }, { hash := PyData.keyHash P (Str.ofString "_maxlengths"), key := Value.str (Str.ofString "_maxlengths") 269, val := Value.ref 77 }, { hash := PyData.keyHash P (Str.ofString "_ascii_split"), key := Value.str (Str.ofString "_ascii_split") 279, val := Value.ref 84 }, { hash := PyData.keyHash P (Str.ofString "_append_chunk"), key := Value.str (Str.ofString "_append_chunk") 293, val := Value.ref 91 }, { hash := PyData.keyHash P (Str.ofString "__static_attributes__"), key := Value.str (Str.ofString "__static_attributes__") 300, val := Value.ref 92 }, { hash := PyData.keyHash P (Str.ofString "__dict__"), key := Value.str (Str.ofString "__dict__") 302, val := Value.ref 95 }, { hash := PyData.keyHash P (Str.ofString "__weakref__"), key := Value.str (Str.ofString "__weakref__") 304, val := Value.ref 96 }, { hash := PyData.keyHash P (Str.ofString "__doc__"), key := Value.str (Str.ofString "__doc__") 305, val := Value.none }] 4 }
noncomputable def q70 (P : Params) : Obj := { cls := Value.type "tuple", data := Data.seq #[] }
noncomputable def q102 (P : Params) : Obj := { cls := Value.type "tuple", data := Data.seq #[] }
noncomputable def q134 (P : Params) : Obj := { cls := Value.type "getset_descriptor", data := Data.fields #[Value.str (Str.ofString "__weakref__") 303, Value.ref 94, Value.builtin "ExceptionGroup.__weakref__", Value.none] }
noncomputable def q86 (P : Params) : Obj := { cls := Value.type "code", data := Data.fields #[Value.str (Str.ofString "__str__") 231, Value.str (Str.ofString "_ValueFormatter.__str__") 232, Value.str (Str.ofString "/claim/cut.py") 233, Value.int 21 0, Value.int 1 0, Value.int 0 0, Value.int 0 0, Value.int 3 0, Value.ref 43, Value.bool true, Value.int 181 0, Value.ref 44, Value.none, Value.ref 45, Value.ref 46, Value.ref 47, Value.int 235 0, Value.int 21 0, Value.str (Str.ofString "/claim/cut.py") 236] }
noncomputable def q118 (P : Params) : Obj := { cls := Value.type "tuple", data := Data.seq #[Value.str (Str.ofString "self") 273, Value.str (Str.ofString "fws") 274, Value.str (Str.ofString "string") 275, Value.str (Str.ofString "splitchars") 276] }
noncomputable def q62 (P : Params) : Obj := { cls := Value.type "dict", data := Data.dict #[{ hash := PyData.keyHash P (Str.ofString "__module__"), key := Value.str (Str.ofString "__module__") 207, val := Value.str (Str.ofString "cpy313.email.header") 194 }, { hash := PyData.keyHash P (Str.ofString "__qualname__"), key := Value.str (Str.ofString "__qualname__") 209, val := Value.str (Str.ofString "_ValueFormatter") 208 }, { hash := PyData.keyHash P (Str.ofString "__firstlineno__"), key := Value.str (Str.ofString "__firstlineno__") 211, val := Value.int 7 210 }, { hash := PyData.keyHash P (Str.ofString "__init__"), key := Value.str (Str.ofString "__init__") 222, val := Value.ref 35 }, { hash := PyData.keyHash P (Str.ofString "_str"), key := Value.str (Str.ofString "_str") 230, val := Value.ref 42 }, { hash := PyData.keyHash P (Str.ofString "__str__"), key := Value.str (Str.ofString "__str__") 237, val := Value.ref 49 }, { hash := PyData.keyHash P (Str.ofString "newline"), key := Value.str (Str.ofString "newline") 245, val := Value.ref 56 }, { hash := PyData.keyHash P (Str.ofString "add_transition"), key := Value.str (Str.ofString "add_transition") 252, val := Value.ref 63 }, { hash := PyData.keyHash P (Str.ofString "feed"), key := Value.str (Str.ofString "feed") 262, val := Value.ref 70 }, { hash := PyData.keyHash P (Str.ofString "_maxlengths"), key := Value.str (Str.ofString "_maxlengths") 269, val := Value.ref 77 }, { hash := PyData.keyHash P (Str.ofString "_ascii_split"), key := Value.str (Str.ofString "_ascii_split") 279, val := Value.ref 84 }, { hash := PyData.keyHash P (Str.ofString "_append_chunk"), key := Value.str (Str.ofString "_append_chunk") 293, val := Value.ref 91 }, { hash := PyData.keyHash P (Str.ofString "__static_attributes__"), key := Value.str (Str.ofString "__static_attributes__") 300, val := Value.ref 92 }] 13 }
noncomputable def q78 (P : Params) : Obj := mkFn (inCls (topSt 4) 1) (Str.ofString "_ValueFormatter._str") (Value.none) (none) (#[]) (0) ([]) (Value.none) (Value.none) (Value.none) (Value.none) (none) (Value.none) (Value.none) (0)
noncomputable def q110 (P : Params) : Obj := { cls := Value.none, data := Data.fields #[] }
noncomputable def q94 (P : Params) : Obj := mkFn (inCls (topSt 4) 3) (Str.ofString "_ValueFormatter.newline") (Value.type "function") (none) (#[]) (3) ([]) (Value.none) (Value.none) (Value.none) (Value.str (Str.ofString "cpy313.email.header") 194) (none) (Value.ref 55) (Value.none) (0)
noncomputable def q126 (P : Params) : Obj := { cls := Value.type "tuple", data := Data.seq #[] }
noncomputable def q59 (P : Params) : Obj := { cls := Value.none, data := Data.fields #[Value.int 1 0, Value.int 0 0, Value.ref 20, Value.int 7 0, Value.int 0 0, Value.ref 27] }
noncomputable def q74 (P : Params) : Obj := { cls := Value.type "tuple", data := Data.seq #[] }
noncomputable def q106 (P : Params) : Obj := mkFn (inCls (topSt 4) 5) (Str.ofString "_ValueFormatter.feed") (Value.none) (none) (#[]) (0) ([]) (Value.none) (Value.none) (Value.none) (Value.none) (none) (Value.none) (Value.none) (0)
noncomputable def q90 (P : Params) : Obj := { cls := Value.type "tuple", data := Data.seq #[Value.str (Str.ofString "self") 241, Value.str (Str.ofString "end_of_line") 242] }
noncomputable def q122 (P : Params) : Obj := mkFn (inCls (topSt 4) 7) (Str.ofString "_ValueFormatter._ascii_split") (Value.type "function") (none) (#[]) (3) ([]) (Value.none) (Value.none) (Value.none) (Value.str (Str.ofString "cpy313.email.header") 194) (none) (Value.ref 83) (Value.none) (0)
noncomputable def q66 (P : Params) : Obj := { cls := Value.type "frame", slots := #[some (Value.ref 27), some (Value.ref 3), some (Value.ref 24), none, some (Value.str (Str.ofString "cpy313.email.header") 194), none, some (Value.ref 0)] }
noncomputable def q82 (P : Params) : Obj := { cls := Value.none, data := Data.fields #[] }
noncomputable def q114 (P : Params) : Obj := { cls := Value.type "code", data := Data.fields #[Value.str (Str.ofString "_maxlengths") 263, Value.str (Str.ofString "_ValueFormatter._maxlengths") 264, Value.str (Str.ofString "/claim/cut.py") 265, Value.int 41 0, Value.int 1 0, Value.int 0 0, Value.int 0 0, Value.int 3 0, Value.ref 71, Value.bool true, Value.int 181 0, Value.ref 72, Value.none, Value.ref 73, Value.ref 74, Value.ref 75, Value.int 267 0, Value.int 41 0, Value.str (Str.ofString "/claim/cut.py") 268] }
noncomputable def q98 (P : Params) : Obj := { cls := Value.type "tuple", data := Data.seq #[] }
noncomputable def q130 (P : Params) : Obj := { cls := Value.type "tuple", data := Data.seq #[Value.str (Str.ofString "_continuation_ws") 294, Value.str (Str.ofString "_continuation_ws_len") 295, Value.str (Str.ofString "_current_line") 296, Value.str (Str.ofString "_lines") 297, Value.str (Str.ofString "_maxlen") 298, Value.str (Str.ofString "_splitchars") 299] }
noncomputable def q72 (P : Params) : Obj := { cls := Value.type "code", data := Data.fields #[Value.str (Str.ofString "__init__") 212, Value.str (Str.ofString "_ValueFormatter.__init__") 213, Value.str (Str.ofString "/claim/cut.py") 214, Value.int 9 0, Value.int 5 0, Value.int 0 0, Value.int 0 0, Value.int 3 0, Value.ref 29, Value.bool true, Value.int 181 0, Value.ref 30, Value.none, Value.ref 31, Value.ref 32, Value.ref 33, Value.int 220 0, Value.int 9 0, Value.str (Str.ofString "/claim/cut.py") 221] }
noncomputable def q104 (P : Params) : Obj := { cls := Value.type "tuple", data := Data.seq #[Value.str (Str.ofString "self") 256, Value.str (Str.ofString "fws") 257, Value.str (Str.ofString "string") 258, Value.str (Str.ofString "charset") 259] }
noncomputable def q136 (P : Params) : Obj := { cls := Value.type "builtin_function_or_method", data := Data.fields #[Value.builtin "object.__init_subclass__", Value.ref 94] }
noncomputable def q88 (P : Params) : Obj := { cls := Value.type "tuple", data := Data.seq #[] }
noncomputable def q120 (P : Params) : Obj := mkFn (inCls (topSt 4) 7) (Str.ofString "_ValueFormatter._ascii_split") (Value.none) (none) (#[]) (0) ([]) (Value.none) (Value.none) (Value.none) (Value.none) (none) (Value.none) (Value.none) (0)
noncomputable def q64 (P : Params) : Obj := { cls := Value.none, data := Data.fields #[Value.int 9 0, Value.int 4 0, Value.ref 34, Value.int 17 0, Value.int 4 0, Value.ref 41, Value.int 21 0, Value.int 4 0, Value.ref 48, Value.int 24 0, Value.int 4 0, Value.ref 55, Value.int 35 0, Value.int 4 0, Value.ref 62, Value.int 38 0, Value.int 4 0, Value.ref 69, Value.int 41 0, Value.int 4 0, Value.ref 76, Value.int 44 0, Value.int 4 0, Value.ref 83, Value.int 47 0, Value.int 4 0, Value.ref 90] }
noncomputable def q80 (P : Params) : Obj := mkFn (inCls (topSt 4) 1) (Str.ofString "_ValueFormatter._str") (Value.type "function") (none) (#[]) (3) ([]) (Value.none) (Value.none) (Value.none) (Value.str (Str.ofString "cpy313.email.header") 194) (none) (Value.ref 41) (Value.none) (0)
noncomputable def q112 (P : Params) : Obj := { cls := Value.type "tuple", data := Data.seq #[] }
noncomputable def q96 (P : Params) : Obj := { cls := Value.none, data := Data.fields #[] }
noncomputable def q128 (P : Params) : Obj := { cls := Value.type "code", data := Data.fields #[Value.str (Str.ofString "_append_chunk") 280, Value.str (Str.ofString "_ValueFormatter._append_chunk") 281, Value.str (Str.ofString "/claim/cut.py") 282, Value.int 47 0, Value.int 3 0, Value.int 0 0, Value.int 0 0, Value.int 3 0, Value.ref 85, Value.bool true, Value.int 181 0, Value.ref 86, Value.none, Value.ref 87, Value.ref 88, Value.ref 89, Value.int 291 0, Value.int 47 0, Value.str (Str.ofString "/claim/cut.py") 292] }
noncomputable def q60 (P : Params) : Obj := { cls := Value.type "tuple", data := Data.seq #[] }
noncomputable def q76 (P : Params) : Obj := { cls := Value.type "tuple", data := Data.seq #[Value.str (Str.ofString "self") 226, Value.str (Str.ofString "linesep") 227] }
noncomputable def q108 (P : Params) : Obj := mkFn (inCls (topSt 4) 5) (Str.ofString "_ValueFormatter.feed") (Value.type "function") (none) (#[]) (3) ([]) (Value.none) (Value.none) (Value.none) (Value.str (Str.ofString "cpy313.email.header") 194) (none) (Value.ref 69) (Value.none) (0)
noncomputable def q92 (P : Params) : Obj := mkFn (inCls (topSt 4) 3) (Str.ofString "_ValueFormatter.newline") (Value.none) (none) (#[]) (0) ([]) (Value.none) (Value.none) (Value.none) (Value.none) (none) (Value.none) (Value.none) (0)
noncomputable def q124 (P : Params) : Obj := { cls := Value.none, data := Data.fields #[] }
noncomputable def q68 (P : Params) : Obj := { cls := Value.none, data := Data.fields #[] }
noncomputable def q84 (P : Params) : Obj := { cls := Value.type "tuple", data := Data.seq #[] }
noncomputable def q116 (P : Params) : Obj := { cls := Value.type "tuple", data := Data.seq #[] }
noncomputable def q100 (P : Params) : Obj := { cls := Value.type "code", data := Data.fields #[Value.str (Str.ofString "add_transition") 246, Value.str (Str.ofString "_ValueFormatter.add_transition") 247, Value.str (Str.ofString "/claim/cut.py") 248, Value.int 35 0, Value.int 1 0, Value.int 0 0, Value.int 0 0, Value.int 3 0, Value.ref 57, Value.bool true, Value.int 181 0, Value.ref 58, Value.none, Value.ref 59, Value.ref 60, Value.ref 61, Value.int 250 0, Value.int 35 0, Value.str (Str.ofString "/claim/cut.py") 251] }
noncomputable def q132 (P : Params) : Obj := { cls := Value.type "type", data := Data.cls { name := Str.ofString "_ValueFormatter", bases := [Value.type "object"], mro := [Value.ref 94, Value.type "object"], ns := 93, qualname := Str.ofString "_ValueFormatter" }, slots := #[none, none, some (Value.str (Str.ofString "_ValueFormatter") 200), some (Value.str (Str.ofString "_ValueFormatter") 208), some (Value.builtin "object.__new__"), some (Value.bool true)] }
noncomputable def q137 (P : Params) : Obj := { cls := Value.type "dict", data := Data.dict #[{ hash := PyData.keyHash P (Str.ofString "__name__"), key := Value.str (Str.ofString "__name__") 165, val := Value.str (Str.ofString "cpy313.email.header") 194 }, { hash := PyData.keyHash P (Str.ofString "__doc__"), key := Value.str (Str.ofString "__doc__") 166, val := Value.none }, { hash := PyData.keyHash P (Str.ofString "__package__"), key := Value.str (Str.ofString "__package__") 167, val := Value.none }, { hash := PyData.keyHash P (Str.ofString "__loader__"), key := Value.str (Str.ofString "__loader__") 168, val := ldr P }, { hash := PyData.keyHash P (Str.ofString "__spec__"), key := Value.str (Str.ofString "__spec__") 169, val := Value.none }, { hash := PyData.keyHash P (Str.ofString "__annotations__"), key := Value.str (Str.ofString "__annotations__") 170, val := Value.ref 6 }, { hash := PyData.keyHash P (Str.ofString "__builtins__"), key := Value.str (Str.ofString "__builtins__") 171, val := Value.ref 4 }, { hash := PyData.keyHash P (Str.ofString "__file__"), key := Value.str (Str.ofString "__file__") 173, val := Value.str (Str.ofString "/claim/cut.py") 172 }, { hash := PyData.keyHash P (Str.ofString "__cached__"), key := Value.str (Str.ofString "__cached__") 174, val := Value.none }, { hash := PyData.keyHash P (Str.ofString "_wall"), key := Value.str (Str.ofString "_wall") 193, val := Value.ref 21 }, { hash := PyData.keyHash P (Str.ofString "NL"), key := Value.str (Str.ofString "NL") 197, val := Value.str (Str.ofString "\n") 196 }, { hash := PyData.keyHash P (Str.ofString "EMPTYSTRING"), key := Value.str (Str.ofString "EMPTYSTRING") 199, val := Value.str (Str.ofString "") 198 }, { hash := PyData.keyHash P (Str.ofString "_ValueFormatter"), key := Value.str (Str.ofString "_ValueFormatter") 307, val := Value.ref 94 }, { hash := PyData.keyHash P (Str.ofString "_Accumulator"), key := Value.str (Str.ofString "_Accumulator") 403, val := Value.ref 178 }] 14 }
noncomputable def q167 (P : Params) : Obj := { cls := Value.type "tuple", data := Data.seq #[] }
noncomputable def q199 (P : Params) : Obj := { cls := Value.type "code", data := Data.fields #[Value.str (Str.ofString "reset") 371, Value.str (Str.ofString "_Accumulator.reset") 372, Value.str (Str.ofString "/claim/cut.py") 373, Value.int 98 0, Value.int 2 0, Value.int 0 0, Value.int 0 0, Value.int 3 0, Value.ref 154, Value.bool true, Value.int 181 0, Value.ref 155, Value.none, Value.ref 156, Value.ref 157, Value.ref 158, Value.int 376 0, Value.int 98 0, Value.str (Str.ofString "/claim/cut.py") 377] }
noncomputable def q183 (P : Params) : Obj := mkFn (inCls (topSt 5) 4) (Str.ofString "_Accumulator.__len__") (Value.none) (none) (#[]) (0) ([]) (Value.none) (Value.none) (Value.none) (Value.none) (none) (Value.none) (Value.none) (0)
noncomputable def q151 (P : Params) : Obj := { cls := Value.type "tuple", data := Data.seq #[Value.str (Str.ofString "self") 325, Value.str (Str.ofString "initial_size") 326] }
noncomputable def q215 (P : Params) : Obj := mkFn (inCls (topSt 5) 8) (Str.ofString "_Accumulator.part_count") (Value.type "function") (none) (#[]) (3) ([(Str.ofString "__class__", 102)]) (Value.none) (Value.none) (Value.none) (Value.str (Str.ofString "cpy313.email.header") 194) (none) (Value.ref 174) (Value.ref 168) (0)
noncomputable def q175 (P : Params) : Obj := { cls := Value.type "tuple", data := Data.seq #[] }
noncomputable def q143 (P : Params) : Obj := { cls := Value.type "tuple", data := Data.seq #[] }
noncomputable def q207 (P : Params) : Obj := mkFn (inCls (topSt 5) 7) (Str.ofString "_Accumulator.is_onlyws") (Value.type "function") (none) (#[]) (3) ([]) (Value.none) (Value.none) (Value.none) (Value.str (Str.ofString "cpy313.email.header") 194) (none) (Value.ref 166) (Value.none) (0)
noncomputable def q191 (P : Params) : Obj := { cls := Value.type "code", data := Data.fields #[Value.str (Str.ofString "__str__") 364, Value.str (Str.ofString "_Accumulator.__str__") 365, Value.str (Str.ofString "/claim/cut.py") 366, Value.int 95 0, Value.int 1 0, Value.int 0 0, Value.int 0 0, Value.int 3 0, Value.ref 146, Value.bool true, Value.int 181 0, Value.ref 147, Value.none, Value.ref 148, Value.ref 149, Value.ref 150, Value.int 368 0, Value.int 95 0, Value.str (Str.ofString "/claim/cut.py") 369] }
noncomputable def q159 (P : Params) : Obj := { cls := Value.type "tuple", data := Data.seq #[] }
noncomputable def q171 (P : Params) : Obj := { cls := Value.type "tuple", data := Data.seq #[Value.ref 102] }
noncomputable def q139 (P : Params) : Obj := { cls := Value.type "tuple", data := Data.seq #[Value.type "list"] }
noncomputable def q203 (P : Params) : Obj := { cls := Value.type "tuple", data := Data.seq #[Value.str (Str.ofString "self") 382] }
noncomputable def q187 (P : Params) : Obj := { cls := Value.none, data := Data.fields #[] }
noncomputable def q155 (P : Params) : Obj := mkFn (inCls (topSt 5) 0) (Str.ofString "_Accumulator.__init__") (Value.type "function") (none) (#[]) (3) ([(Str.ofString "__class__", 102)]) (Value.ref 107) (Value.none) (Value.none) (Value.str (Str.ofString "cpy313.email.header") 194) (none) (Value.ref 114) (Value.ref 108) (0)
noncomputable def q219 (P : Params) : Obj := { cls := Value.type "getset_descriptor", data := Data.fields #[Value.str (Str.ofString "__dict__") 397, Value.ref 178, Value.builtin "function.__dict__", Value.builtin "function.__dict__#set"] }
noncomputable def q179 (P : Params) : Obj := { cls := Value.type "tuple", data := Data.seq #[] }
noncomputable def q147 (P : Params) : Obj := { cls := Value.type "tuple", data := Data.seq #[Value.int 0 320] }
noncomputable def q211 (P : Params) : Obj := { cls := Value.type "tuple", data := Data.seq #[Value.str (Str.ofString "self") 390] }
noncomputable def q195 (P : Params) : Obj := { cls := Value.none, data := Data.fields #[] }
noncomputable def q163 (P : Params) : Obj := { cls := Value.type "tuple", data := Data.seq #[Value.int 0 339] }
noncomputable def q169 (P : Params) : Obj := { cls := Value.type "code", data := Data.fields #[Value.str (Str.ofString "pop_from") 340, Value.str (Str.ofString "_Accumulator.pop_from") 341, Value.str (Str.ofString "/claim/cut.py") 342, Value.int 82 0, Value.int 2 0, Value.int 0 0, Value.int 0 0, Value.int 3 0, Value.ref 124, Value.bool true, Value.int 181 0, Value.ref 125, Value.none, Value.ref 126, Value.ref 127, Value.ref 128, Value.int 346 0, Value.int 82 0, Value.str (Str.ofString "/claim/cut.py") 347] }
noncomputable def q201 (P : Params) : Obj := { cls := Value.type "tuple", data := Data.seq #[] }
noncomputable def q185 (P : Params) : Obj := mkFn (inCls (topSt 5) 4) (Str.ofString "_Accumulator.__len__") (Value.type "function") (none) (#[]) (3) ([]) (Value.none) (Value.none) (Value.none) (Value.str (Str.ofString "cpy313.email.header") 194) (none) (Value.ref 144) (Value.none) (0)
noncomputable def q153 (P : Params) : Obj := mkFn (inCls (topSt 5) 0) (Str.ofString "_Accumulator.__init__") (Value.none) (none) (#[]) (0) ([]) (Value.none) (Value.none) (Value.none) (Value.none) (none) (Value.none) (Value.none) (0)
noncomputable def q217 (P : Params) : Obj := { cls := Value.type "dict", data := Data.dict #[{ hash := PyData.keyHash P (Str.ofString "__module__"), key := Value.str (Str.ofString "__module__") 315, val := Value.str (Str.ofString "cpy313.email.header") 194 }, { hash := PyData.keyHash P (Str.ofString "__firstlineno__"), key := Value.str (Str.ofString "__firstlineno__") 319, val := Value.int 73 318 }, { hash := PyData.keyHash P (Str.ofString "__init__"), key := Value.str (Str.ofString "__init__") 329, val := Value.ref 115 }, { hash := PyData.keyHash P (Str.ofString "push"), key := Value.str (Str.ofString "push") 338, val := Value.ref 122 }, { hash := PyData.keyHash P (Str.ofString "pop_from"), key := Value.str (Str.ofString "pop_from") 348, val := Value.ref 130 }, { hash := PyData.keyHash P (Str.ofString "pop"), key := Value.str (Str.ofString "pop") 356, val := Value.ref 138 }, { hash := PyData.keyHash P (Str.ofString "__len__"), key := Value.str (Str.ofString "__len__") 363, val := Value.ref 145 }, { hash := PyData.keyHash P (Str.ofString "__str__"), key := Value.str (Str.ofString "__str__") 370, val := Value.ref 152 }, { hash := PyData.keyHash P (Str.ofString "reset"), key := Value.str (Str.ofString "reset") 378, val := Value.ref 160 }, { hash := PyData.keyHash P (Str.ofString "is_onlyws"), key := Value.str (Str.ofString "is_onlyws") 385, val := Value.ref 167 }, { hash := PyData.keyHash P (Str.ofString "part_count"), key := Value.str (Str.ofString "part_count") 393, val := Value.ref 175 }, { hash := PyData.keyHash P (Str.ofString "__static_attributes__"), key := Value.str (Str.ofString "__static_attributes__") 395, val := Value.ref 176 }, { hash := PyData.keyHash P (Str.ofString "__dict__"), key := Value.str (Str.ofString "__dict__") 398, val := Value.ref 179 }, { hash := PyData.keyHash P (Str.ofString "__weakref__"), key := Value.str (Str.ofString "__weakref__") 400, val := Value.ref 180 }, { hash := PyData.keyHash P (Str.ofString "__doc__"), key := Value.str (Str.ofString "__doc__") 401, val := Value.none }] 5 }
noncomputable def q177 (P : Params) : Obj := { cls := Value.type "code", data := Data.fields #[Value.str (Str.ofString "pop") 349, Value.str (Str.ofString "_Accumulator.pop") 350, Value.str (Str.ofString "/claim/cut.py") 351, Value.int 87 0, Value.int 1 0, Value.int 0 0, Value.int 0 0, Value.int 3 0, Value.ref 132, Value.bool true, Value.int 181 0, Value.ref 133, Value.none, Value.ref 134, Value.ref 135, Value.ref 136, Value.int 354 0, Value.int 87 0, Value.str (Str.ofString "/claim/cut.py") 355] }
noncomputable def q145 (P : Params) : Obj := { cls := Value.type "code", data := Data.fields #[Value.str (Str.ofString "_Accumulator") 310, Value.str (Str.ofString "_Accumulator") 311, Value.str (Str.ofString "/claim/cut.py") 312, Value.int 73 0, Value.int 0 0, Value.int 0 0, Value.int 0 0, Value.int 0 0, Value.ref 103, Value.bool false, Value.int 181 0, Value.ref 104, Value.none, Value.none, Value.none, Value.none, Value.int 313 0, Value.int 73 0, Value.str (Str.ofString "/claim/cut.py") 314] }
noncomputable def q209 (P : Params) : Obj := { cls := Value.type "tuple", data := Data.seq #[Value.str (Str.ofString "__class__") 389] }
noncomputable def q193 (P : Params) : Obj := { cls := Value.type "tuple", data := Data.seq #[Value.none] }
noncomputable def q161 (P : Params) : Obj := { cls := Value.type "code", data := Data.fields #[Value.str (Str.ofString "push") 330, Value.str (Str.ofString "_Accumulator.push") 331, Value.str (Str.ofString "/claim/cut.py") 332, Value.int 79 0, Value.int 3 0, Value.int 0 0, Value.int 0 0, Value.int 3 0, Value.ref 116, Value.bool true, Value.int 181 0, Value.ref 117, Value.none, Value.ref 118, Value.ref 119, Value.ref 120, Value.int 336 0, Value.int 79 0, Value.str (Str.ofString "/claim/cut.py") 337] }
noncomputable def q173 (P : Params) : Obj := { cls := Value.none, data := Data.fields #[] }
noncomputable def q141 (P : Params) : Obj := { cls := Value.type "dict", data := Data.dict #[{ hash := PyData.keyHash P (Str.ofString "__module__"), key := Value.str (Str.ofString "__module__") 315, val := Value.str (Str.ofString "cpy313.email.header") 194 }, { hash := PyData.keyHash P (Str.ofString "__qualname__"), key := Value.str (Str.ofString "__qualname__") 317, val := Value.str (Str.ofString "_Accumulator") 316 }, { hash := PyData.keyHash P (Str.ofString "__firstlineno__"), key := Value.str (Str.ofString "__firstlineno__") 319, val := Value.int 73 318 }, { hash := PyData.keyHash P (Str.ofString "__init__"), key := Value.str (Str.ofString "__init__") 329, val := Value.ref 115 }, { hash := PyData.keyHash P (Str.ofString "push"), key := Value.str (Str.ofString "push") 338, val := Value.ref 122 }, { hash := PyData.keyHash P (Str.ofString "pop_from"), key := Value.str (Str.ofString "pop_from") 348, val := Value.ref 130 }, { hash := PyData.keyHash P (Str.ofString "pop"), key := Value.str (Str.ofString "pop") 356, val := Value.ref 138 }, { hash := PyData.keyHash P (Str.ofString "__len__"), key := Value.str (Str.ofString "__len__") 363, val := Value.ref 145 }, { hash := PyData.keyHash P (Str.ofString "__str__"), key := Value.str (Str.ofString "__str__") 370, val := Value.ref 152 }, { hash := PyData.keyHash P (Str.ofString "reset"), key := Value.str (Str.ofString "reset") 378, val := Value.ref 160 }, { hash := PyData.keyHash P (Str.ofString "is_onlyws"), key := Value.str (Str.ofString "is_onlyws") 385, val := Value.ref 167 }, { hash := PyData.keyHash P (Str.ofString "part_count"), key := Value.str (Str.ofString "part_count") 393, val := Value.ref 175 }, { hash := PyData.keyHash P (Str.ofString "__static_attributes__"), key := Value.str (Str.ofString "__static_attributes__") 395, val := Value.ref 176 }, { hash := PyData.keyHash P (Str.ofString "__classcell__"), key := Value.str (Str.ofString "__classcell__") 396, val := Value.ref 102 }] 14 }
noncomputable def q205 (P : Params) : Obj := mkFn (inCls (topSt 5) 7) (Str.ofString "_Accumulator.is_onlyws") (Value.none) (none) (#[]) (0) ([]) (Value.none) (Value.none) (Value.none) (Value.none) (none) (Value.none) (Value.none) (0)
noncomputable def q189 (P : Params) : Obj := { cls := Value.type "tuple", data := Data.seq #[] }
noncomputable def q157 (P : Params) : Obj := { cls := Value.none, data := Data.fields #[] }
noncomputable def q221 (P : Params) : Obj := { cls := Value.type "super", data := Data.fields #[Value.ref 178, Value.ref 178, Value.ref 178] }
noncomputable def q181 (P : Params) : Obj := { cls := Value.type "tuple", data := Data.seq #[Value.str (Str.ofString "self") 360] }
noncomputable def q149 (P : Params) : Obj := { cls := Value.type "tuple", data := Data.seq #[Value.str (Str.ofString "__class__") 324] }
noncomputable def q213 (P : Params) : Obj := mkFn (inCls (topSt 5) 8) (Str.ofString "_Accumulator.part_count") (Value.none) (none) (#[]) (0) ([]) (Value.none) (Value.none) (Value.none) (Value.none) (none) (Value.none) (Value.none) (0)
noncomputable def q197 (P : Params) : Obj := { cls := Value.type "tuple", data := Data.seq #[] }
noncomputable def q165 (P : Params) : Obj := { cls := Value.none, data := Data.fields #[] }
noncomputable def q168 (P : Params) : Obj := mkFn (inCls (topSt 5) 2) (Str.ofString "_Accumulator.pop_from") (Value.none) (none) (#[]) (0) ([]) (Value.none) (Value.none) (Value.none) (Value.none) (none) (Value.none) (Value.none) (0)
noncomputable def q200 (P : Params) : Obj := mkFn (inCls (topSt 5) 6) (Str.ofString "_Accumulator.reset") (Value.type "function") (none) (#[]) (3) ([]) (Value.ref 153) (Value.none) (Value.none) (Value.str (Str.ofString "cpy313.email.header") 194) (none) (Value.ref 159) (Value.none) (0)
noncomputable def q184 (P : Params) : Obj := { cls := Value.type "code", data := Data.fields #[Value.str (Str.ofString "__len__") 357, Value.str (Str.ofString "_Accumulator.__len__") 358, Value.str (Str.ofString "/claim/cut.py") 359, Value.int 92 0, Value.int 1 0, Value.int 0 0, Value.int 0 0, Value.int 3 0, Value.ref 139, Value.bool true, Value.int 181 0, Value.ref 140, Value.none, Value.ref 141, Value.ref 142, Value.ref 143, Value.int 361 0, Value.int 92 0, Value.str (Str.ofString "/claim/cut.py") 362] }
noncomputable def q152 (P : Params) : Obj := { cls := Value.type "tuple", data := Data.seq #[] }
noncomputable def q216 (P : Params) : Obj := { cls := Value.type "tuple", data := Data.seq #[Value.str (Str.ofString "_initial_size") 394] }
noncomputable def q176 (P : Params) : Obj := mkFn (inCls (topSt 5) 3) (Str.ofString "_Accumulator.pop") (Value.none) (none) (#[]) (0) ([]) (Value.none) (Value.none) (Value.none) (Value.none) (none) (Value.none) (Value.none) (0)
noncomputable def q144 (P : Params) : Obj := { cls := Value.none, data := Data.fields #[Value.int 75 0, Value.int 4 0, Value.ref 114, Value.int 79 0, Value.int 4 0, Value.ref 121, Value.int 82 0, Value.int 4 0, Value.ref 129, Value.int 87 0, Value.int 4 0, Value.ref 137, Value.int 92 0, Value.int 4 0, Value.ref 144, Value.int 95 0, Value.int 4 0, Value.ref 151, Value.int 98 0, Value.int 4 0, Value.ref 159, Value.int 104 0, Value.int 4 0, Value.ref 166, Value.int 107 0, Value.int 4 0, Value.ref 174] }
noncomputable def q208 (P : Params) : Obj := { cls := Value.type "tuple", data := Data.seq #[Value.ref 102] }
noncomputable def q192 (P : Params) : Obj := mkFn (inCls (topSt 5) 5) (Str.ofString "_Accumulator.__str__") (Value.type "function") (none) (#[]) (3) ([]) (Value.none) (Value.none) (Value.none) (Value.str (Str.ofString "cpy313.email.header") 194) (none) (Value.ref 151) (Value.none) (0)
noncomputable def q160 (P : Params) : Obj := mkFn (inCls (topSt 5) 1) (Str.ofString "_Accumulator.push") (Value.none) (none) (#[]) (0) ([]) (Value.none) (Value.none) (Value.none) (Value.none) (none) (Value.none) (Value.none) (0)
noncomputable def q138 (P : Params) : Obj := { cls := Value.none, data := Data.fields #[Value.int 1 0, Value.int 0 0, Value.ref 20, Value.int 7 0, Value.int 0 0, Value.ref 27, Value.int 73 0, Value.int 0 0, Value.ref 105] }
noncomputable def q172 (P : Params) : Obj := { cls := Value.type "tuple", data := Data.seq #[Value.str (Str.ofString "__class__") 352] }
noncomputable def q140 (P : Params) : Obj := { cls := Value.type "builtin_function_or_method", data := Data.fields #[Value.builtin "type.__prepare__", Value.type "type"] }
noncomputable def q204 (P : Params) : Obj := { cls := Value.type "tuple", data := Data.seq #[] }
noncomputable def q188 (P : Params) : Obj := { cls := Value.type "tuple", data := Data.seq #[Value.str (Str.ofString "self") 367] }
noncomputable def q156 (P : Params) : Obj := { cls := Value.type "tuple", data := Data.seq #[] }
noncomputable def q220 (P : Params) : Obj := { cls := Value.type "getset_descriptor", data := Data.fields #[Value.str (Str.ofString "__weakref__") 399, Value.ref 178, Value.builtin "ExceptionGroup.__weakref__", Value.none] }
noncomputable def q180 (P : Params) : Obj := { cls := Value.none, data := Data.fields #[] }
noncomputable def q148 (P : Params) : Obj := { cls := Value.type "tuple", data := Data.seq #[Value.ref 102] }
noncomputable def q212 (P : Params) : Obj := { cls := Value.type "tuple", data := Data.seq #[] }
noncomputable def q196 (P : Params) : Obj := { cls := Value.type "tuple", data := Data.seq #[Value.str (Str.ofString "self") 374, Value.str (Str.ofString "startval") 375] }
noncomputable def q164 (P : Params) : Obj := { cls := Value.type "tuple", data := Data.seq #[] }
noncomputable def q170 (P : Params) : Obj := mkFn (inCls (topSt 5) 2) (Str.ofString "_Accumulator.pop_from") (Value.type "function") (none) (#[]) (3) ([]) (Value.ref 123) (Value.none) (Value.none) (Value.str (Str.ofString "cpy313.email.header") 194) (none) (Value.ref 129) (Value.none) (0)
noncomputable def q202 (P : Params) : Obj := { cls := Value.none, data := Data.fields #[] }
noncomputable def q186 (P : Params) : Obj := { cls := Value.type "tuple", data := Data.seq #[] }
noncomputable def q154 (P : Params) : Obj := { cls := Value.type "code", data := Data.fields #[Value.str (Str.ofString "__init__") 321, Value.str (Str.ofString "_Accumulator.__init__") 322, Value.str (Str.ofString "/claim/cut.py") 323, Value.int 75 0, Value.int 2 0, Value.int 0 0, Value.int 0 0, Value.int 3 0, Value.ref 109, Value.bool true, Value.int 181 0, Value.ref 110, Value.none, Value.ref 111, Value.ref 112, Value.ref 113, Value.int 327 0, Value.int 75 0, Value.str (Str.ofString "/claim/cut.py") 328] }
noncomputable def q218 (P : Params) : Obj := { cls := Value.type "type", data := Data.cls { name := Str.ofString "_Accumulator", bases := [Value.type "list"], mro := [Value.ref 178, Value.type "list", Value.type "object"], ns := 177, qualname := Str.ofString "_Accumulator" }, slots := #[some (Value.ref 99), none, some (Value.str (Str.ofString "_Accumulator") 308), some (Value.str (Str.ofString "_Accumulator") 316), some (Value.builtin "list.__new__"), some (Value.bool true)] }
noncomputable def q178 (P : Params) : Obj := mkFn (inCls (topSt 5) 3) (Str.ofString "_Accumulator.pop") (Value.type "function") (none) (#[]) (3) ([(Str.ofString "__class__", 102)]) (Value.none) (Value.none) (Value.none) (Value.str (Str.ofString "cpy313.email.header") 194) (none) (Value.ref 137) (Value.ref 131) (0)
noncomputable def q146 (P : Params) : Obj := { cls := Value.type "frame", slots := #[some (Value.ref 105), some (Value.ref 3), some (Value.ref 101), none, some (Value.str (Str.ofString "cpy313.email.header") 194), none, some (Value.ref 0)] }
noncomputable def q210 (P : Params) : Obj := { cls := Value.none, data := Data.fields #[] }
noncomputable def q194 (P : Params) : Obj := { cls := Value.type "tuple", data := Data.seq #[] }
noncomputable def q162 (P : Params) : Obj := mkFn (inCls (topSt 5) 1) (Str.ofString "_Accumulator.push") (Value.type "function") (none) (#[]) (3) ([]) (Value.none) (Value.none) (Value.none) (Value.str (Str.ofString "cpy313.email.header") 194) (none) (Value.ref 121) (Value.none) (0)
noncomputable def q174 (P : Params) : Obj := { cls := Value.type "tuple", data := Data.seq #[Value.str (Str.ofString "self") 353] }
noncomputable def q142 (P : Params) : Obj := { cls := Value.type "cell", data := Data.cell (some (Value.ref 178)) }
noncomputable def q206 (P : Params) : Obj := { cls := Value.type "code", data := Data.fields #[Value.str (Str.ofString "is_onlyws") 379, Value.str (Str.ofString "_Accumulator.is_onlyws") 380, Value.str (Str.ofString "/claim/cut.py") 381, Value.int 104 0, Value.int 1 0, Value.int 0 0, Value.int 0 0, Value.int 3 0, Value.ref 161, Value.bool true, Value.int 181 0, Value.ref 162, Value.none, Value.ref 163, Value.ref 164, Value.ref 165, Value.int 383 0, Value.int 104 0, Value.str (Str.ofString "/claim/cut.py") 384] }
noncomputable def q190 (P : Params) : Obj := mkFn (inCls (topSt 5) 5) (Str.ofString "_Accumulator.__str__") (Value.none) (none) (#[]) (0) ([]) (Value.none) (Value.none) (Value.none) (Value.none) (none) (Value.none) (Value.none) (0)
noncomputable def q158 (P : Params) : Obj := { cls := Value.type "tuple", data := Data.seq #[Value.str (Str.ofString "self") 333, Value.str (Str.ofString "fws") 334, Value.str (Str.ofString "string") 335] }
noncomputable def q222 (P : Params) : Obj := { cls := Value.type "builtin_function_or_method", data := Data.fields #[Value.builtin "object.__init_subclass__", Value.ref 178] }
noncomputable def q182 (P : Params) : Obj := { cls := Value.type "tuple", data := Data.seq #[] }
noncomputable def q150 (P : Params) : Obj := { cls := Value.none, data := Data.fields #[] }
noncomputable def q214 (P : Params) : Obj := { cls := Value.type "code", data := Data.fields #[Value.str (Str.ofString "part_count") 386, Value.str (Str.ofString "_Accumulator.part_count") 387, Value.str (Str.ofString "/claim/cut.py") 388, Value.int 107 0, Value.int 1 0, Value.int 0 0, Value.int 0 0, Value.int 3 0, Value.ref 169, Value.bool true, Value.int 181 0, Value.ref 170, Value.none, Value.ref 171, Value.ref 172, Value.ref 173, Value.int 391 0, Value.int 107 0, Value.str (Str.ofString "/claim/cut.py") 392] }
noncomputable def q198 (P : Params) : Obj := mkFn (inCls (topSt 5) 6) (Str.ofString "_Accumulator.reset") (Value.none) (none) (#[]) (0) ([]) (Value.none) (Value.none) (Value.none) (Value.none) (none) (Value.none) (Value.none) (0)
noncomputable def q166 (P : Params) : Obj := { cls := Value.type "tuple", data := Data.seq #[Value.str (Str.ofString "self") 343, Value.str (Str.ofString "i") 344, Value.str (Str.ofString "popped") 345] }
noncomputable def q223 (P : Params) : Obj := { cls := Value.type "dict", data := Data.dict #[{ hash := PyData.keyHash P (Str.ofString "__name__"), key := Value.str (Str.ofString "__name__") 165, val := Value.str (Str.ofString "law_pk0106_01") 423 }, { hash := PyData.keyHash P (Str.ofString "__doc__"), key := Value.str (Str.ofString "__doc__") 166, val := Value.none }, { hash := PyData.keyHash P (Str.ofString "__package__"), key := Value.str (Str.ofString "__package__") 167, val := Value.none }, { hash := PyData.keyHash P (Str.ofString "__loader__"), key := Value.str (Str.ofString "__loader__") 168, val := ldr P }, { hash := PyData.keyHash P (Str.ofString "__spec__"), key := Value.str (Str.ofString "__spec__") 169, val := Value.none }, { hash := PyData.keyHash P (Str.ofString "__annotations__"), key := Value.str (Str.ofString "__annotations__") 170, val := Value.ref 6 }, { hash := PyData.keyHash P (Str.ofString "__builtins__"), key := Value.str (Str.ofString "__builtins__") 171, val := Value.ref 4 }, { hash := PyData.keyHash P (Str.ofString "__file__"), key := Value.str (Str.ofString "__file__") 173, val := Value.str (Str.ofString "/claim/cut.py") 172 }, { hash := PyData.keyHash P (Str.ofString "__cached__"), key := Value.str (Str.ofString "__cached__") 174, val := Value.none }, { hash := PyData.keyHash P (Str.ofString "_wall"), key := Value.str (Str.ofString "_wall") 193, val := Value.ref 21 }, { hash := PyData.keyHash P (Str.ofString "NL"), key := Value.str (Str.ofString "NL") 197, val := Value.str (Str.ofString "\n") 196 }, { hash := PyData.keyHash P (Str.ofString "EMPTYSTRING"), key := Value.str (Str.ofString "EMPTYSTRING") 199, val := Value.str (Str.ofString "") 198 }, { hash := PyData.keyHash P (Str.ofString "_ValueFormatter"), key := Value.str (Str.ofString "_ValueFormatter") 307, val := Value.ref 94 }, { hash := PyData.keyHash P (Str.ofString "_Accumulator"), key := Value.str (Str.ofString "_Accumulator") 403, val := Value.ref 178 }, { hash := PyData.keyHash P (Str.ofString "parse_keqv_list"), key := Value.str (Str.ofString "parse_keqv_list") 416, val := Value.ref 189 }, { hash := PyData.keyHash P (Str.ofString "parse_http_list"), key := Value.str (Str.ofString "parse_http_list") 422, val := Value.ref 194 }, { hash := PyData.keyHash P (Str.ofString "_law_pair"), key := Value.str (Str.ofString "_law_pair") 439, val := Value.ref 201 }, { hash := PyData.keyHash P (Str.ofString "_law_marks"), key := Value.str (Str.ofString "_law_marks") 445, val := Value.ref 206 }, { hash := PyData.keyHash P (Str.ofString "law"), key := Value.str (Str.ofString "law") 451, val := Value.ref 211 }] 19 }
noncomputable def q233 (P : Params) : Obj := { cls := Value.none, data := Data.fields #[] }
noncomputable def q249 (P : Params) : Obj := { cls := Value.type "tuple", data := Data.seq #[] }
noncomputable def q241 (P : Params) : Obj := mkFn (topSt 10) (Str.ofString "_law_pair") (Value.none) (none) (#[]) (0) ([]) (Value.none) (Value.none) (Value.none) (Value.none) (none) (Value.none) (Value.none) (0)
noncomputable def q225 (P : Params) : Obj := { cls := Value.type "tuple", data := Data.seq #[] }
noncomputable def q237 (P : Params) : Obj := { cls := Value.type "tuple", data := Data.seq #[] }
noncomputable def q253 (P : Params) : Obj := mkFn (topSt 12) (Str.ofString "law") (Value.type "function") (none) (#[]) (3) ([]) (Value.none) (Value.none) (Value.none) (Value.str (Str.ofString "law_pk0106_01") 423) (none) (Value.ref 210) (Value.none) (0)
noncomputable def q245 (P : Params) : Obj := { cls := Value.none, data := Data.fields #[] }
noncomputable def q229 (P : Params) : Obj := mkFn (topSt 7) (Str.ofString "parse_keqv_list") (Value.none) (none) (#[]) (0) ([]) (Value.none) (Value.none) (Value.none) (Value.none) (none) (Value.none) (Value.none) (0)
noncomputable def q235 (P : Params) : Obj := { cls := Value.type "code", data := Data.fields #[Value.str (Str.ofString "parse_http_list") 417, Value.str (Str.ofString "parse_http_list") 418, Value.str (Str.ofString "/claim/cut.py") 419, Value.int 118 0, Value.int 1 0, Value.int 0 0, Value.int 0 0, Value.int 3 0, Value.ref 190, Value.bool true, Value.int 181 0, Value.ref 191, Value.none, Value.none, Value.none, Value.ref 192, Value.int 420 0, Value.int 118 0, Value.str (Str.ofString "/claim/cut.py") 421] }
noncomputable def q251 (P : Params) : Obj := mkFn (topSt 12) (Str.ofString "law") (Value.none) (none) (#[]) (0) ([]) (Value.none) (Value.none) (Value.none) (Value.none) (none) (Value.none) (Value.none) (0)
noncomputable def q243 (P : Params) : Obj := mkFn (topSt 10) (Str.ofString "_law_pair") (Value.type "function") (none) (#[]) (3) ([]) (Value.none) (Value.none) (Value.none) (Value.str (Str.ofString "law_pk0106_01") 423) (none) (Value.ref 200) (Value.none) (0)
noncomputable def q227 (P : Params) : Obj := { cls := Value.type "tuple", data := Data.seq #[Value.str (Str.ofString "l") 409, Value.str (Str.ofString "parsed") 410, Value.str (Str.ofString "elt") 411, Value.str (Str.ofString "k") 412, Value.str (Str.ofString "v") 413] }
noncomputable def q239 (P : Params) : Obj := { cls := Value.type "tuple", data := Data.seq #[Value.str (Str.ofString "place") 428, Value.str (Str.ofString "number") 429, Value.str (Str.ofString "behind") 430, Value.str (Str.ofString "signs") 431, Value.str (Str.ofString "meant") 432, Value.str (Str.ofString "rest") 433, Value.str (Str.ofString "k") 434, Value.str (Str.ofString "head") 435, Value.str (Str.ofString "spelled") 436] }
noncomputable def q247 (P : Params) : Obj := { cls := Value.type "code", data := Data.fields #[Value.str (Str.ofString "_law_marks") 440, Value.str (Str.ofString "_law_marks") 441, Value.str (Str.ofString "/claim/cut.py") 442, Value.int 159 0, Value.int 2 0, Value.int 0 0, Value.int 0 0, Value.int 3 0, Value.ref 202, Value.bool true, Value.int 181 0, Value.ref 203, Value.none, Value.none, Value.none, Value.ref 204, Value.int 443 0, Value.int 159 0, Value.str (Str.ofString "/claim/cut.py") 444] }
noncomputable def q231 (P : Params) : Obj := mkFn (topSt 7) (Str.ofString "parse_keqv_list") (Value.type "function") (none) (#[]) (3) ([]) (Value.none) (Value.none) (Value.none) (Value.str (Str.ofString "cpy313.urllib.request") 404) (none) (Value.ref 188) (Value.none) (0)
noncomputable def q234 (P : Params) : Obj := mkFn (topSt 8) (Str.ofString "parse_http_list") (Value.none) (none) (#[]) (0) ([]) (Value.none) (Value.none) (Value.none) (Value.none) (none) (Value.none) (Value.none) (0)
noncomputable def q250 (P : Params) : Obj := { cls := Value.none, data := Data.fields #[] }
noncomputable def q242 (P : Params) : Obj := { cls := Value.type "code", data := Data.fields #[Value.str (Str.ofString "_law_pair") 425, Value.str (Str.ofString "_law_pair") 426, Value.str (Str.ofString "/claim/cut.py") 427, Value.int 146 0, Value.int 3 0, Value.int 0 0, Value.int 0 0, Value.int 3 0, Value.ref 195, Value.bool true, Value.int 181 0, Value.ref 196, Value.none, Value.ref 197, Value.ref 198, Value.ref 199, Value.int 437 0, Value.int 146 0, Value.str (Str.ofString "/claim/cut.py") 438] }
noncomputable def q226 (P : Params) : Obj := { cls := Value.none, data := Data.fields #[] }
noncomputable def q224 (P : Params) : Obj := { cls := Value.none, data := Data.fields #[Value.int 1 0, Value.int 0 0, Value.ref 20, Value.int 7 0, Value.int 0 0, Value.ref 27, Value.int 73 0, Value.int 0 0, Value.ref 105, Value.int 110 0, Value.int 0 0, Value.ref 188, Value.int 118 0, Value.int 0 0, Value.ref 193, Value.int 146 0, Value.int 0 0, Value.ref 200, Value.int 159 0, Value.int 0 0, Value.ref 205, Value.int 168 0, Value.int 0 0, Value.ref 210] }
noncomputable def q238 (P : Params) : Obj := { cls := Value.none, data := Data.fields #[] }
noncomputable def q246 (P : Params) : Obj := mkFn (topSt 11) (Str.ofString "_law_marks") (Value.none) (none) (#[]) (0) ([]) (Value.none) (Value.none) (Value.none) (Value.none) (none) (Value.none) (Value.none) (0)
noncomputable def q230 (P : Params) : Obj := { cls := Value.type "code", data := Data.fields #[Value.str (Str.ofString "parse_keqv_list") 406, Value.str (Str.ofString "parse_keqv_list") 407, Value.str (Str.ofString "/claim/cut.py") 408, Value.int 110 0, Value.int 1 0, Value.int 0 0, Value.int 0 0, Value.int 3 0, Value.ref 183, Value.bool true, Value.int 181 0, Value.ref 184, Value.none, Value.ref 185, Value.ref 186, Value.ref 187, Value.int 414 0, Value.int 110 0, Value.str (Str.ofString "/claim/cut.py") 415] }
noncomputable def q236 (P : Params) : Obj := mkFn (topSt 8) (Str.ofString "parse_http_list") (Value.type "function") (none) (#[]) (3) ([]) (Value.none) (Value.none) (Value.none) (Value.str (Str.ofString "cpy313.urllib.request") 404) (none) (Value.ref 193) (Value.none) (0)
noncomputable def q252 (P : Params) : Obj := { cls := Value.type "code", data := Data.fields #[Value.str (Str.ofString "law") 446, Value.str (Str.ofString "law") 447, Value.str (Str.ofString "/claim/cut.py") 448, Value.int 168 0, Value.int 1 0, Value.int 0 0, Value.int 0 0, Value.int 3 0, Value.ref 207, Value.bool true, Value.int 181 0, Value.ref 208, Value.none, Value.none, Value.none, Value.ref 209, Value.int 449 0, Value.int 168 0, Value.str (Str.ofString "/claim/cut.py") 450] }
noncomputable def q244 (P : Params) : Obj := { cls := Value.type "tuple", data := Data.seq #[] }
noncomputable def q228 (P : Params) : Obj := { cls := Value.type "tuple", data := Data.seq #[] }
noncomputable def q240 (P : Params) : Obj := { cls := Value.type "tuple", data := Data.seq #[] }
noncomputable def q248 (P : Params) : Obj := mkFn (topSt 11) (Str.ofString "_law_marks") (Value.type "function") (none) (#[]) (3) ([]) (Value.none) (Value.none) (Value.none) (Value.str (Str.ofString "law_pk0106_01") 423) (none) (Value.ref 205) (Value.none) (0)
noncomputable def q232 (P : Params) : Obj := { cls := Value.type "tuple", data := Data.seq #[] }
noncomputable def t47 (P : Params) : BT := (.node (PySem.W.boot_o_0 P) (.node (PySem.W.boot_o_1 P) (.node (PySem.W.boot_o_3 P) (.node (PySem.W.boot_o_7 P) .nil .nil) (.node (q43 P) .nil .nil)) (.node (PySem.W.boot_o_5 P) (.node (PySem.W.boot_o_9 P) .nil .nil) (.node (q45 P) .nil .nil))) (.node (PySem.W.boot_o_2 P) (.node (PySem.W.boot_o_4 P) (.node (PySem.W.boot_o_8 P) .nil .nil) (.node (q44 P) .nil .nil)) (.node (PySem.W.boot_o_6 P) (.node (PySem.W.boot_o_10 P) .nil .nil) (.node (q46 P) .nil .nil))))
noncomputable def t57 (P : Params) : BT := (.node (PySem.W.boot_o_0 P) (.node (PySem.W.boot_o_1 P) (.node (q49 P) (.node (PySem.W.boot_o_7 P) (.node (q51 P) .nil .nil) .nil) (.node (q43 P) (.node (q55 P) .nil .nil) .nil)) (.node (PySem.W.boot_o_5 P) (.node (PySem.W.boot_o_9 P) (.node (q53 P) .nil .nil) .nil) (.node (q45 P) (.node (q57 P) .nil .nil) .nil))) (.node (PySem.W.boot_o_2 P) (.node (PySem.W.boot_o_4 P) (.node (PySem.W.boot_o_8 P) (.node (q52 P) .nil .nil) .nil) (.node (q50 P) (.node (q56 P) .nil .nil) .nil)) (.node (PySem.W.boot_o_6 P) (.node (PySem.W.boot_o_10 P) (.node (q54 P) .nil .nil) .nil) (.node (q46 P) .nil .nil))))
noncomputable def t136 (P : Params) : BT := (.node (PySem.W.boot_o_0 P) (.node (PySem.W.boot_o_1 P) (.node (q58 P) (.node (PySem.W.boot_o_7 P) (.node (q51 P) (.node (q69 P) (.node (q101 P) .nil .nil) (.node (q133 P) .nil .nil)) (.node (q85 P) (.node (q117 P) .nil .nil) .nil)) (.node (q61 P) (.node (q77 P) (.node (q109 P) .nil .nil) .nil) (.node (q93 P) (.node (q125 P) .nil .nil) .nil))) (.node (q43 P) (.node (q55 P) (.node (q73 P) (.node (q105 P) .nil .nil) .nil) (.node (q89 P) (.node (q121 P) .nil .nil) .nil)) (.node (q65 P) (.node (q81 P) (.node (q113 P) .nil .nil) .nil) (.node (q97 P) (.node (q129 P) .nil .nil) .nil)))) (.node (PySem.W.boot_o_5 P) (.node (PySem.W.boot_o_9 P) (.node (q53 P) (.node (q71 P) (.node (q103 P) .nil .nil) (.node (q135 P) .nil .nil)) (.node (q87 P) (.node (q119 P) .nil .nil) .nil)) (.node (q63 P) (.node (q79 P) (.node (q111 P) .nil .nil) .nil) (.node (q95 P) (.node (q127 P) .nil .nil) .nil))) (.node (q45 P) (.node (q57 P) (.node (q75 P) (.node (q107 P) .nil .nil) .nil) (.node (q91 P) (.node (q123 P) .nil .nil) .nil)) (.node (q67 P) (.node (q83 P) (.node (q115 P) .nil .nil) .nil) (.node (q99 P) (.node (q131 P) .nil .nil) .nil))))) (.node (PySem.W.boot_o_2 P) (.node (PySem.W.boot_o_4 P) (.node (PySem.W.boot_o_8 P) (.node (q52 P) (.node (q70 P) (.node (q102 P) .nil .nil) (.node (q134 P) .nil .nil)) (.node (q86 P) (.node (q118 P) .nil .nil) .nil)) (.node (q62 P) (.node (q78 P) (.node (q110 P) .nil .nil) .nil) (.node (q94 P) (.node (q126 P) .nil .nil) .nil))) (.node (q59 P) (.node (q56 P) (.node (q74 P) (.node (q106 P) .nil .nil) .nil) (.node (q90 P) (.node (q122 P) .nil .nil) .nil)) (.node (q66 P) (.node (q82 P) (.node (q114 P) .nil .nil) .nil) (.node (q98 P) (.node (q130 P) .nil .nil) .nil)))) (.node (PySem.W.boot_o_6 P) (.node (PySem.W.boot_o_10 P) (.node (q54 P) (.node (q72 P) (.node (q104 P) .nil .nil) (.node (q136 P) .nil .nil)) (.node (q88 P) (.node (q120 P) .nil .nil) .nil)) (.node (q64 P) (.node (q80 P) (.node (q112 P) .nil .nil) .nil) (.node (q96 P) (.node (q128 P) .nil .nil) .nil))) (.node (q46 P) (.node (q60 P) (.node (q76 P) (.node (q108 P) .nil .nil) .nil) (.node (q92 P) (.node (q124 P) .nil .nil) .nil)) (.node (q68 P) (.node (q84 P) (.node (q116 P) .nil .nil) .nil) (.node (q100 P) (.node (q132 P) .nil .nil) .nil))))))
noncomputable def t222 (P : Params) : BT := (.node (PySem.W.boot_o_0 P) (.node (PySem.W.boot_o_1 P) (.node (q137 P) (.node (PySem.W.boot_o_7 P) (.node (q51 P) (.node (q69 P) (.node (q101 P) (.node (q167 P) .nil .nil) .nil) (.node (q133 P) (.node (q199 P) .nil .nil) .nil)) (.node (q85 P) (.node (q117 P) (.node (q183 P) .nil .nil) .nil) (.node (q151 P) (.node (q215 P) .nil .nil) .nil))) (.node (q61 P) (.node (q77 P) (.node (q109 P) (.node (q175 P) .nil .nil) .nil) (.node (q143 P) (.node (q207 P) .nil .nil) .nil)) (.node (q93 P) (.node (q125 P) (.node (q191 P) .nil .nil) .nil) (.node (q159 P) .nil .nil)))) (.node (q43 P) (.node (q55 P) (.node (q73 P) (.node (q105 P) (.node (q171 P) .nil .nil) .nil) (.node (q139 P) (.node (q203 P) .nil .nil) .nil)) (.node (q89 P) (.node (q121 P) (.node (q187 P) .nil .nil) .nil) (.node (q155 P) (.node (q219 P) .nil .nil) .nil))) (.node (q65 P) (.node (q81 P) (.node (q113 P) (.node (q179 P) .nil .nil) .nil) (.node (q147 P) (.node (q211 P) .nil .nil) .nil)) (.node (q97 P) (.node (q129 P) (.node (q195 P) .nil .nil) .nil) (.node (q163 P) .nil .nil))))) (.node (PySem.W.boot_o_5 P) (.node (PySem.W.boot_o_9 P) (.node (q53 P) (.node (q71 P) (.node (q103 P) (.node (q169 P) .nil .nil) .nil) (.node (q135 P) (.node (q201 P) .nil .nil) .nil)) (.node (q87 P) (.node (q119 P) (.node (q185 P) .nil .nil) .nil) (.node (q153 P) (.node (q217 P) .nil .nil) .nil))) (.node (q63 P) (.node (q79 P) (.node (q111 P) (.node (q177 P) .nil .nil) .nil) (.node (q145 P) (.node (q209 P) .nil .nil) .nil)) (.node (q95 P) (.node (q127 P) (.node (q193 P) .nil .nil) .nil) (.node (q161 P) .nil .nil)))) (.node (q45 P) (.node (q57 P) (.node (q75 P) (.node (q107 P) (.node (q173 P) .nil .nil) .nil) (.node (q141 P) (.node (q205 P) .nil .nil) .nil)) (.node (q91 P) (.node (q123 P) (.node (q189 P) .nil .nil) .nil) (.node (q157 P) (.node (q221 P) .nil .nil) .nil))) (.node (q67 P) (.node (q83 P) (.node (q115 P) (.node (q181 P) .nil .nil) .nil) (.node (q149 P) (.node (q213 P) .nil .nil) .nil)) (.node (q99 P) (.node (q131 P) (.node (q197 P) .nil .nil) .nil) (.node (q165 P) .nil .nil)))))) (.node (PySem.W.boot_o_2 P) (.node (PySem.W.boot_o_4 P) (.node (PySem.W.boot_o_8 P) (.node (q52 P) (.node (q70 P) (.node (q102 P) (.node (q168 P) .nil .nil) .nil) (.node (q134 P) (.node (q200 P) .nil .nil) .nil)) (.node (q86 P) (.node (q118 P) (.node (q184 P) .nil .nil) .nil) (.node (q152 P) (.node (q216 P) .nil .nil) .nil))) (.node (q62 P) (.node (q78 P) (.node (q110 P) (.node (q176 P) .nil .nil) .nil) (.node (q144 P) (.node (q208 P) .nil .nil) .nil)) (.node (q94 P) (.node (q126 P) (.node (q192 P) .nil .nil) .nil) (.node (q160 P) .nil .nil)))) (.node (q138 P) (.node (q56 P) (.node (q74 P) (.node (q106 P) (.node (q172 P) .nil .nil) .nil) (.node (q140 P) (.node (q204 P) .nil .nil) .nil)) (.node (q90 P) (.node (q122 P) (.node (q188 P) .nil .nil) .nil) (.node (q156 P) (.node (q220 P) .nil .nil) .nil))) (.node (q66 P) (.node (q82 P) (.node (q114 P) (.node (q180 P) .nil .nil) .nil) (.node (q148 P) (.node (q212 P) .nil .nil) .nil)) (.node (q98 P) (.node (q130 P) (.node (q196 P) .nil .nil) .nil) (.node (q164 P) .nil .nil))))) (.node (PySem.W.boot_o_6 P) (.node (PySem.W.boot_o_10 P) (.node (q54 P) (.node (q72 P) (.node (q104 P) (.node (q170 P) .nil .nil) .nil) (.node (q136 P) (.node (q202 P) .nil .nil) .nil)) (.node (q88 P) (.node (q120 P) (.node (q186 P) .nil .nil) .nil) (.node (q154 P) (.node (q218 P) .nil .nil) .nil))) (.node (q64 P) (.node (q80 P) (.node (q112 P) (.node (q178 P) .nil .nil) .nil) (.node (q146 P) (.node (q210 P) .nil .nil) .nil)) (.node (q96 P) (.node (q128 P) (.node (q194 P) .nil .nil) .nil) (.node (q162 P) .nil .nil)))) (.node (q46 P) (.node (q60 P) (.node (q76 P) (.node (q108 P) (.node (q174 P) .nil .nil) .nil) (.node (q142 P) (.node (q206 P) .nil .nil) .nil)) (.node (q92 P) (.node (q124 P) (.node (q190 P) .nil .nil) .nil) (.node (q158 P) (.node (q222 P) .nil .nil) .nil))) (.node (q68 P) (.node (q84 P) (.node (q116 P) (.node (q182 P) .nil .nil) .nil) (.node (q150 P) (.node (q214 P) .nil .nil) .nil)) (.node (q100 P) (.node (q132 P) (.node (q198 P) .nil .nil) .nil) (.node (q166 P) .nil .nil)))))))
noncomputable def t253 (P : Params) : BT := (.node (PySem.W.boot_o_0 P) (.node (PySem.W.boot_o_1 P) (.node (q223 P) (.node (PySem.W.boot_o_7 P) (.node (q51 P) (.node (q69 P) (.node (q101 P) (.node (q167 P) .nil .nil) (.node (q233 P) .nil .nil)) (.node (q133 P) (.node (q199 P) .nil .nil) .nil)) (.node (q85 P) (.node (q117 P) (.node (q183 P) .nil .nil) (.node (q249 P) .nil .nil)) (.node (q151 P) (.node (q215 P) .nil .nil) .nil))) (.node (q61 P) (.node (q77 P) (.node (q109 P) (.node (q175 P) .nil .nil) (.node (q241 P) .nil .nil)) (.node (q143 P) (.node (q207 P) .nil .nil) .nil)) (.node (q93 P) (.node (q125 P) (.node (q191 P) .nil .nil) .nil) (.node (q159 P) (.node (q225 P) .nil .nil) .nil)))) (.node (q43 P) (.node (q55 P) (.node (q73 P) (.node (q105 P) (.node (q171 P) .nil .nil) (.node (q237 P) .nil .nil)) (.node (q139 P) (.node (q203 P) .nil .nil) .nil)) (.node (q89 P) (.node (q121 P) (.node (q187 P) .nil .nil) (.node (q253 P) .nil .nil)) (.node (q155 P) (.node (q219 P) .nil .nil) .nil))) (.node (q65 P) (.node (q81 P) (.node (q113 P) (.node (q179 P) .nil .nil) (.node (q245 P) .nil .nil)) (.node (q147 P) (.node (q211 P) .nil .nil) .nil)) (.node (q97 P) (.node (q129 P) (.node (q195 P) .nil .nil) .nil) (.node (q163 P) (.node (q229 P) .nil .nil) .nil))))) (.node (PySem.W.boot_o_5 P) (.node (PySem.W.boot_o_9 P) (.node (q53 P) (.node (q71 P) (.node (q103 P) (.node (q169 P) .nil .nil) (.node (q235 P) .nil .nil)) (.node (q135 P) (.node (q201 P) .nil .nil) .nil)) (.node (q87 P) (.node (q119 P) (.node (q185 P) .nil .nil) (.node (q251 P) .nil .nil)) (.node (q153 P) (.node (q217 P) .nil .nil) .nil))) (.node (q63 P) (.node (q79 P) (.node (q111 P) (.node (q177 P) .nil .nil) (.node (q243 P) .nil .nil)) (.node (q145 P) (.node (q209 P) .nil .nil) .nil)) (.node (q95 P) (.node (q127 P) (.node (q193 P) .nil .nil) .nil) (.node (q161 P) (.node (q227 P) .nil .nil) .nil)))) (.node (q45 P) (.node (q57 P) (.node (q75 P) (.node (q107 P) (.node (q173 P) .nil .nil) (.node (q239 P) .nil .nil)) (.node (q141 P) (.node (q205 P) .nil .nil) .nil)) (.node (q91 P) (.node (q123 P) (.node (q189 P) .nil .nil) .nil) (.node (q157 P) (.node (q221 P) .nil .nil) .nil))) (.node (q67 P) (.node (q83 P) (.node (q115 P) (.node (q181 P) .nil .nil) (.node (q247 P) .nil .nil)) (.node (q149 P) (.node (q213 P) .nil .nil) .nil)) (.node (q99 P) (.node (q131 P) (.node (q197 P) .nil .nil) .nil) (.node (q165 P) (.node (q231 P) .nil .nil) .nil)))))) (.node (PySem.W.boot_o_2 P) (.node (PySem.W.boot_o_4 P) (.node (PySem.W.boot_o_8 P) (.node (q52 P) (.node (q70 P) (.node (q102 P) (.node (q168 P) .nil .nil) (.node (q234 P) .nil .nil)) (.node (q134 P) (.node (q200 P) .nil .nil) .nil)) (.node (q86 P) (.node (q118 P) (.node (q184 P) .nil .nil) (.node (q250 P) .nil .nil)) (.node (q152 P) (.node (q216 P) .nil .nil) .nil))) (.node (q62 P) (.node (q78 P) (.node (q110 P) (.node (q176 P) .nil .nil) (.node (q242 P) .nil .nil)) (.node (q144 P) (.node (q208 P) .nil .nil) .nil)) (.node (q94 P) (.node (q126 P) (.node (q192 P) .nil .nil) .nil) (.node (q160 P) (.node (q226 P) .nil .nil) .nil)))) (.node (q224 P) (.node (q56 P) (.node (q74 P) (.node (q106 P) (.node (q172 P) .nil .nil) (.node (q238 P) .nil .nil)) (.node (q140 P) (.node (q204 P) .nil .nil) .nil)) (.node (q90 P) (.node (q122 P) (.node (q188 P) .nil .nil) .nil) (.node (q156 P) (.node (q220 P) .nil .nil) .nil))) (.node (q66 P) (.node (q82 P) (.node (q114 P) (.node (q180 P) .nil .nil) (.node (q246 P) .nil .nil)) (.node (q148 P) (.node (q212 P) .nil .nil) .nil)) (.node (q98 P) (.node (q130 P) (.node (q196 P) .nil .nil) .nil) (.node (q164 P) (.node (q230 P) .nil .nil) .nil))))) (.node (PySem.W.boot_o_6 P) (.node (PySem.W.boot_o_10 P) (.node (q54 P) (.node (q72 P) (.node (q104 P) (.node (q170 P) .nil .nil) (.node (q236 P) .nil .nil)) (.node (q136 P) (.node (q202 P) .nil .nil) .nil)) (.node (q88 P) (.node (q120 P) (.node (q186 P) .nil .nil) (.node (q252 P) .nil .nil)) (.node (q154 P) (.node (q218 P) .nil .nil) .nil))) (.node (q64 P) (.node (q80 P) (.node (q112 P) (.node (q178 P) .nil .nil) (.node (q244 P) .nil .nil)) (.node (q146 P) (.node (q210 P) .nil .nil) .nil)) (.node (q96 P) (.node (q128 P) (.node (q194 P) .nil .nil) .nil) (.node (q162 P) (.node (q228 P) .nil .nil) .nil)))) (.node (q46 P) (.node (q60 P) (.node (q76 P) (.node (q108 P) (.node (q174 P) .nil .nil) (.node (q240 P) .nil .nil)) (.node (q142 P) (.node (q206 P) .nil .nil) .nil)) (.node (q92 P) (.node (q124 P) (.node (q190 P) .nil .nil) .nil) (.node (q158 P) (.node (q222 P) .nil .nil) .nil))) (.node (q68 P) (.node (q84 P) (.node (q116 P) (.node (q182 P) .nil .nil) (.node (q248 P) .nil .nil)) (.node (q150 P) (.node (q214 P) .nil .nil) .nil)) (.node (q100 P) (.node (q132 P) (.node (q198 P) .nil .nil) .nil) (.node (q166 P) (.node (q232 P) .nil .nil) .nil)))))))
noncomputable def h46 (P : Params) : Heap := ⟨#[PySem.W.boot_o_0 P, PySem.W.boot_o_1 P, PySem.W.boot_o_2 P, PySem.W.boot_o_3 P, PySem.W.boot_o_4 P, PySem.W.boot_o_5 P, PySem.W.boot_o_6 P, PySem.W.boot_o_7 P, PySem.W.boot_o_8 P, PySem.W.boot_o_9 P, PySem.W.boot_o_10 P, q43 P, q44 P, q45 P, q46 P], {}⟩
noncomputable def h254 (P : Params) : Heap := ⟨#[PySem.W.boot_o_0 P, PySem.W.boot_o_1 P, PySem.W.boot_o_2 P, q223 P, PySem.W.boot_o_4 P, PySem.W.boot_o_5 P, PySem.W.boot_o_6 P, PySem.W.boot_o_7 P, PySem.W.boot_o_8 P, PySem.W.boot_o_9 P, PySem.W.boot_o_10 P, q43 P, q224 P, q45 P, q46 P, q51 P, q52 P, q53 P, q54 P, q55 P, q56 P, q57 P, q60 P, q61 P, q62 P, q63 P, q64 P, q65 P, q66 P, q67 P, q68 P, q69 P, q70 P, q71 P, q72 P, q73 P, q74 P, q75 P, q76 P, q77 P, q78 P, q79 P, q80 P, q81 P, q82 P, q83 P, q84 P, q85 P, q86 P, q87 P, q88 P, q89 P, q90 P, q91 P, q92 P, q93 P, q94 P, q95 P, q96 P, q97 P, q98 P, q99 P, q100 P, q101 P, q102 P, q103 P, q104 P, q105 P, q106 P, q107 P, q108 P, q109 P, q110 P, q111 P, q112 P, q113 P, q114 P, q115 P, q116 P, q117 P, q118 P, q119 P, q120 P, q121 P, q122 P, q123 P, q124 P, q125 P, q126 P, q127 P, q128 P, q129 P, q130 P, q131 P, q132 P, q133 P, q134 P, q135 P, q136 P, q139 P, q140 P, q141 P, q142 P, q143 P, q144 P, q145 P, q146 P, q147 P, q148 P, q149 P, q150 P, q151 P, q152 P, q153 P, q154 P, q155 P, q156 P, q157 P, q158 P, q159 P, q160 P, q161 P, q162 P, q163 P, q164 P, q165 P, q166 P, q167 P, q168 P, q169 P, q170 P, q171 P, q172 P, q173 P, q174 P, q175 P, q176 P, q177 P, q178 P, q179 P, q180 P, q181 P, q182 P, q183 P, q184 P, q185 P, q186 P, q187 P, q188 P, q189 P, q190 P, q191 P, q192 P, q193 P, q194 P, q195 P, q196 P, q197 P, q198 P, q199 P, q200 P, q201 P, q202 P, q203 P, q204 P, q205 P, q206 P, q207 P, q208 P, q209 P, q210 P, q211 P, q212 P, q213 P, q214 P, q215 P, q216 P, q217 P, q218 P, q219 P, q220 P, q221 P, q222 P, q225 P, q226 P, q227 P, q228 P, q229 P, q230 P, q231 P, q232 P, q233 P, q234 P, q235 P, q236 P, q237 P, q238 P, q239 P, q240 P, q241 P, q242 P, q243 P, q244 P, q245 P, q246 P, q247 P, q248 P, q249 P, q250 P, q251 P, q252 P, q253 P], {}⟩
noncomputable def tEnv : Env := { scope := rp.main.scope, locals := mainNs, globals := mainNs, cells := [], code := Value.ref 13, frame := some 14 }
noncomputable def tCode : Code := .body (behindTheImports rp) tEnv
noncomputable def tB : List Frame := [topFrame ⟨0, 0, 0, 0⟩]
noncomputable def g0 : List Stmt := ((behindTheImports rp).drop 0).take 4
noncomputable def g1 : List Stmt := ((behindTheImports rp).drop 4).take 1
noncomputable def g2 : List Stmt := ((behindTheImports rp).drop 5).take 1
noncomputable def g3 : List Stmt := ((behindTheImports rp).drop 6).take 7
noncomputable def s47 (w : World) (os : OsState) : SharedT := ⟨t47 w.params, 15, {}, #[], {}, 187, os⟩
noncomputable def s57 (w : World) (os : OsState) : SharedT := ⟨t57 w.params, 22, {}, #[], {}, 200, os⟩
noncomputable def s136 (w : World) (os : OsState) : SharedT := ⟨t136 w.params, 99, {}, #[], {}, 308, os⟩
noncomputable def s222 (w : World) (os : OsState) : SharedT := ⟨t222 w.params, 183, {}, #[], {}, 404, os⟩
noncomputable def s253 (w : World) (os : OsState) : SharedT := ⟨t253 w.params, 212, {}, #[], {}, 452, os⟩
theorem hpre (w : World) (os : OsState) : topGo treeTable rp w 11 (some (.ref 6)) 12 ⟨boot_heap w.params, #[], boot_drawn, boot_toks, os⟩ (topStub rp) = some (⟨h46 w.params, #[], {}, 187, os⟩, ⟨denote treeTable tCode, tCode, ⟨0, 0, 0, 0⟩, tB⟩) := by kernel_rfl
theorem hblk (w : World) (os : OsState) : segRun treeTable rp w 11 (some (.ref 6)) 1 1 ⟨h46 w.params, #[], {}, 187, os⟩ (blockOf (behindTheImports rp) tEnv tCode ⟨0, 0, 0, 0⟩ tB) = some (.next, (s47 w os).abs, tCode, ⟨0, 0, 0, 0⟩) := by kernel_rfl
theorem hg0 (w : World) (os : OsState) : segRunT treeTable rp w 11 (some (.ref 6)) 1 57 (s47 w os) (piecesOf g0 tEnv tCode ⟨0, 0, 0, 0⟩ tB) = some (.next, s57 w os, tCode, ⟨6, 0, 6, 11⟩) := by
  rw [PySem.W.Fast.te10110043849684766642, PySem.W.Fast.te14364793385576792824]
  kernel_rfl
theorem hg1 (w : World) (os : OsState) : segRunT treeTable rp w 11 (some (.ref 6)) 1 494 (s57 w os) (piecesOf g1 tEnv tCode ⟨6, 0, 6, 11⟩ tB) = some (.next, s136 w os, tCode, ⟨7, 0, 72, 47⟩) := by
  rw [PySem.W.Fast.te10110043849684766642, PySem.W.Fast.te14364793385576792824]
  kernel_rfl
theorem hg2 (w : World) (os : OsState) : segRunT treeTable rp w 11 (some (.ref 6)) 1 505 (s136 w os) (piecesOf g2 tEnv tCode ⟨7, 0, 72, 47⟩ tB) = some (.next, s222 w os, tCode, ⟨73, 0, 108, 32⟩) := by
  rw [PySem.W.Fast.te10110043849684766642, PySem.W.Fast.te14364793385576792824]
  kernel_rfl
theorem hg3 (w : World) (os : OsState) : segRunT treeTable rp w 11 (some (.ref 6)) 1 167 (s222 w os) (piecesOf g3 tEnv tCode ⟨73, 0, 108, 32⟩ tB) = some (.next, s253 w os, tCode, ⟨168, 0, 200, 15⟩) := by
  rw [PySem.W.Fast.te10110043849684766642, PySem.W.Fast.te14364793385576792824]
  kernel_rfl
theorem hfin (w : World) (os : OsState) : topRun treeTable rp w 11 (some (.ref 6)) 2 (s253 w os).abs ⟨doneF .next, tCode, ⟨168, 0, 200, 15⟩, tB⟩ = some ⟨h254 w.params, #[], {}, 452, os⟩ := by kernel_rfl
theorem hbody : behindTheImports rp = g0 ++ (g1 ++ (g2 ++ (g3 ++ []))) := by kernel_rfl
theorem hrun (w : World) (os : OsState) : topRun treeTable rp w 11 (some (.ref 6)) (12 + (1 + (57 + (494 + (505 + (167 + 2)))))) ⟨boot_heap w.params, #[], boot_drawn, boot_toks, os⟩ (topStub rp) = some ⟨h254 w.params, #[], {}, 452, os⟩ := by
  refine go_top (hpre w os) (piece_block (hblk w os) ?_)
  have e : restOf (behindTheImports rp) tEnv tCode ⟨0, 0, 0, 0⟩ [topFrame ⟨0, 0, 0, 0⟩] = restOf (g0 ++ (g1 ++ (g2 ++ (g3 ++ [])))) tEnv tCode ⟨0, 0, 0, 0⟩ [topFrame ⟨0, 0, 0, 0⟩] := congrArg (fun l => restOf l tEnv tCode ⟨0, 0, 0, 0⟩ [topFrame ⟨0, 0, 0, 0⟩]) hbody
  rw [e]
  exact piece_app (segRun_of (hg0 w os)) (piece_app (segRun_of (hg1 w os)) (piece_app (segRun_of (hg2 w os)) (piece_app (segRun_of (hg3 w os)) (piece_nil (hfin w os)))))
theorem hsize (w : World) : ((boot_heap w.params).isNs mainGlobals && (#[] : Array GenState).size == 0, (boot_heap w.params).objs.size, (boot_heap w.params).nsMap mainGlobals "__annotations__") = (true, 11, some (.ref 6)) := by kernel_rfl
abbrev lo : List PySem.Str := [Str.ofString "_Accumulator"]
theorem hl1 (w : World) (os : OsState) : (staticsOk (importedModules rp.main.body) (boot_heap w.params) (h254 w.params) && namesBound rp (h254 w.params) && gensDone ⟨h254 w.params, #[], {}, 452, os⟩ && laidKept (boot_heap w.params) (h254 w.params)) = true := by kernel_rfl
noncomputable abbrev fs (w : World) (os : OsState) : Shared := ⟨h254 w.params, #[], {}, 452, os⟩
theorem hs1 (w : World) (os : OsState) : seen ((recsOf vw).map (·.name)) (ownsOf vw) [] { fs w os with gens := #[] } = expectedOf vw := by kernel_rfl
theorem hs2 (w : World) (os : OsState) : (fs w os).heap.bltView = bltViewBooted := by kernel_rfl
theorem hs3 (w : World) (os : OsState) : ((fs w os).heap.keysOk (looseW vw lo) ((recsOf vw).map (·.name)) ((litsOf vw).map (·.1)) ((clssOf vw (looseW vw lo)).map (·.name)) && (fs w os).heap.accountedOkI (importedModules rp.main.body) && (fs w os).heap.isNs mainGlobals && (fs w os).heap.isNs builtinsNs && tablesOk vw (fs w os).heap && xx (fs w os) && (if true then (fs w os).gens.size == 0 else !leftWithCleanup (fs w os).gens)) = true := by kernel_rfl
theorem hs4 (w : World) (os : OsState) : tabsOk vw (fs w os) = true := by kernel_rfl
theorem hs5 (w : World) (os : OsState) : pinSeenD vw (drecsOf vw) (fs w os) = pinGoodD (drecsOf vw) := by kernel_rfl
theorem hs6 (w : World) (os : OsState) : plainSeenE vw (looseW vw lo) (fs w os) = plainGoodE vw (looseW vw lo) := by kernel_rfl
theorem hs7 (w : World) (os : OsState) : plainSeenD vw lo (fs w os) = plainGoodD vw lo := by kernel_rfl
theorem hs8 (w : World) (os : OsState) : wideSeen vw (fs w os) = wideGood vw := by kernel_rfl
theorem hs9 (w : World) (os : OsState) : clsSeenW vw lo (fs w os) = clsGoodW vw lo := by kernel_rfl
theorem hY (w : World) (os : OsState) : Hook.obs HK (fs w os) = Hook.val HK w := by kernel_rfl
theorem whole : LeftO rp vw lo xx (Hook.obs HK) (Hook.val HK) 2564 := by
  refine LeftO.of_pieces (boot_open (by kernel_rfl) (by decide) (fun s => rfl)) hsize hrun (by decide +kernel) fun w => funext fun os => ?_
  unfold openSeen openGood
  exact looks_pair (hl1 w os) (looks_pair (looks_pair (hs1 w os) (looks_pair (hs2 w os) (looks_pair (hs3 w os) (looks_pair (hs4 w os) (looks_pair (hs5 w os) (looks_pair (hs6 w os) (looks_pair (hs7 w os) (looks_pair (hs8 w os) (hs9 w os))))))))) (hY w os))
end Mine
open PySem PySem.W PyProof.Rows PySem.Calls PySem.Spec
set_option Elab.async false
set_option maxRecDepth 100000 in
set_option maxHeartbeats 8000000 in
theorem PySem.Challenge.cw_pk0106_01_holds : PySem.Challenge.rw_pk0106_01.Holds := by
  w_on
  o_law
  refine holds_open (r := PySem.Challenge.rw_pk0106_01.row) (q := Mine.vw) (loose := [Str.ofString "_Accumulator"]) (Xt := fun s => xlAt Mine.vw [] s && recOk (RowW.records Mine.rr) s) (XP := XL Mine.vw []) (Yf := Hook.obs Mine.HK) (Ya := Hook.val Mine.HK) (YP := Hook.says Mine.HK) (N := 2564) Mine.whole (Hook.of Mine.HK) (Hook.keeps Mine.HK) (fun s e => xl_of s (Bool.and_eq_true_iff.mp e).1) XL.keeps (by rfl) (by rfl) (by rfl) (fun s e => recFacts_of (Bool.and_eq_true_iff.mp e).2) (by rfl) (by assumption) (by decide +kernel) ⟨rfl, rfl, rfl, rfl, rfl, by decide +kernel⟩ ?hw ?hc
  (case hw => w_witness2)
  intro w s₀ s₁ mg mb G Y fa o pm cd doc dV kV ho hd hcd hD hmg hg args vals as hpre hlay hrd hwl hlo
  have KX := kIn_of Y
  refine Ground.open G ?_
  intro T B D TE TW
  wrow_args hpre hlay hrd hwl hlo
  x_fa T KX hmg
  exact Mine.fin_of KX T (by assumption) (by assumption) (by omega) hg (fun _ => rfl) (by first | rfl | wrow_post)
