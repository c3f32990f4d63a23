import PyProof.Rows.All
import Wide.All
import OpenK.AllK
import Wide.FinOn
import PySem.Challenge.RW_mr0230_01
open PySem PySem.W PyProof.Rows
set_option Elab.async false
set_option maxRecDepth 100000
set_option linter.unusedVariables false
set_option linter.unusedSimpArgs false
namespace Mine

/-! text Hk -/
/-! the head: the top is run by the kernel at once; the heap's written part, with the defs' parts taken from the row's program -/
abbrev pw : Program := PySem.Challenge.pw_mr0230_01
def sAt : List Stmt → Nat → Stmt
  | s :: _, 0 => s
  | _ :: r, n + 1 => sAt r n
  | [], _ => .Pass ⟨0, 0, 0, 0⟩
def inCls : Stmt → List Stmt
  | .ClassDef _ _ _ b .. => b
  | _ => []
def topS (i : Nat) : Stmt := sAt pw.main.body i
def methS (j : Nat) : Stmt := sAt (inCls (topS 1)) j
def dPar : Stmt → Arguments
  | .FunctionDef _ p .. => p
  | _ => ⟨[], [], none, [], [], none, []⟩
def dBody : Stmt → List Stmt
  | .FunctionDef _ _ b .. => b
  | _ => []
def dScope : Stmt → Scope
  | .FunctionDef _ _ _ _ _ _ s .. => s
  | _ => default
set_option maxHeartbeats 4000000 in
noncomputable def kRaw (P : Params) : Frag :=
  [ (2, { cls := PySem.Value.none, data := PySem.Data.dict #[] })
  , (3,
  { cls := PySem.Value.type "dict",
    data :=
      PySem.Data.dict
        #[{ hash := PySem.PyData.keyHash P (PySem.Str.ofString "__name__"),
            key := PySem.Value.str (PySem.Str.ofString "__name__") 165,
            val := PySem.Value.str (PySem.Str.ofString "law_mr0230_01") 357 },
          { hash := PySem.PyData.keyHash P (PySem.Str.ofString "__doc__"),
            key := PySem.Value.str (PySem.Str.ofString "__doc__") 166, val := PySem.Value.none },
          { hash := PySem.PyData.keyHash P (PySem.Str.ofString "__package__"),
            key := PySem.Value.str (PySem.Str.ofString "__package__") 167, val := PySem.Value.none },
          { hash := PySem.PyData.keyHash P (PySem.Str.ofString "__loader__"),
            key := PySem.Value.str (PySem.Str.ofString "__loader__") 168,
            val := PySem.Value.builtin "__main__.__loader__#opaque" },
          { hash := PySem.PyData.keyHash P (PySem.Str.ofString "__spec__"),
            key := PySem.Value.str (PySem.Str.ofString "__spec__") 169, val := PySem.Value.none },
          { hash := PySem.PyData.keyHash P (PySem.Str.ofString "__annotations__"),
            key := PySem.Value.str (PySem.Str.ofString "__annotations__") 170, val := PySem.Value.ref 6 },
          { hash := PySem.PyData.keyHash P (PySem.Str.ofString "__builtins__"),
            key := PySem.Value.str (PySem.Str.ofString "__builtins__") 171, val := PySem.Value.ref 4 },
          { hash := PySem.PyData.keyHash P (PySem.Str.ofString "__file__"),
            key := PySem.Value.str (PySem.Str.ofString "__file__") 173,
            val := PySem.Value.str (PySem.Str.ofString "/claim/cut.py") 172 },
          { hash := PySem.PyData.keyHash P (PySem.Str.ofString "__cached__"),
            key := PySem.Value.str (PySem.Str.ofString "__cached__") 174, val := PySem.Value.none },
          { hash := PySem.PyData.keyHash P (PySem.Str.ofString "Whitespace"),
            key := PySem.Value.str (PySem.Str.ofString "Whitespace") 294, val := PySem.Value.ref 76 },
          { hash := PySem.PyData.keyHash P (PySem.Str.ofString "format_witnesses"),
            key := PySem.Value.str (PySem.Str.ofString "format_witnesses") 303, val := PySem.Value.ref 87 },
          { hash := PySem.PyData.keyHash P (PySem.Str.ofString "_ctoi"),
            key := PySem.Value.str (PySem.Str.ofString "_ctoi") 312, val := PySem.Value.ref 94 },
          { hash := PySem.PyData.keyHash P (PySem.Str.ofString "isdigit"),
            key := PySem.Value.str (PySem.Str.ofString "isdigit") 319, val := PySem.Value.ref 101 },
          { hash := PySem.PyData.keyHash P (PySem.Str.ofString "isgraph"),
            key := PySem.Value.str (PySem.Str.ofString "isgraph") 326, val := PySem.Value.ref 108 },
          { hash := PySem.PyData.keyHash P (PySem.Str.ofString "isprint"),
            key := PySem.Value.str (PySem.Str.ofString "isprint") 333, val := PySem.Value.ref 115 },
          { hash := PySem.PyData.keyHash P (PySem.Str.ofString "ctrl"),
            key := PySem.Value.str (PySem.Str.ofString "ctrl") 340, val := PySem.Value.ref 122 },
          { hash := PySem.PyData.keyHash P (PySem.Str.ofString "alt"),
            key := PySem.Value.str (PySem.Str.ofString "alt") 347, val := PySem.Value.ref 129 },
          { hash := PySem.PyData.keyHash P (PySem.Str.ofString "unctrl"),
            key := PySem.Value.str (PySem.Str.ofString "unctrl") 356, val := PySem.Value.ref 136 },
          { hash := PySem.PyData.keyHash P (PySem.Str.ofString "_law_front"),
            key := PySem.Value.str (PySem.Str.ofString "_law_front") 364, val := PySem.Value.ref 141 },
          { hash := PySem.PyData.keyHash P (PySem.Str.ofString "_law_keys"),
            key := PySem.Value.str (PySem.Str.ofString "_law_keys") 370, val := PySem.Value.ref 146 },
          { hash := PySem.PyData.keyHash P (PySem.Str.ofString "_law_sign"),
            key := PySem.Value.str (PySem.Str.ofString "_law_sign") 379, val := PySem.Value.ref 153 },
          { hash := PySem.PyData.keyHash P (PySem.Str.ofString "_law_blank"),
            key := PySem.Value.str (PySem.Str.ofString "_law_blank") 387, val := PySem.Value.ref 160 },
          { hash := PySem.PyData.keyHash P (PySem.Str.ofString "_law_echo"),
            key := PySem.Value.str (PySem.Str.ofString "_law_echo") 396, val := PySem.Value.ref 167 },
          { hash := PySem.PyData.keyHash P (PySem.Str.ofString "_law_row"),
            key := PySem.Value.str (PySem.Str.ofString "_law_row") 408, val := PySem.Value.ref 174 },
          { hash := PySem.PyData.keyHash P (PySem.Str.ofString "_law_column"),
            key := PySem.Value.str (PySem.Str.ofString "_law_column") 416, val := PySem.Value.ref 181 },
          { hash := PySem.PyData.keyHash P (PySem.Str.ofString "_law_read"),
            key := PySem.Value.str (PySem.Str.ofString "_law_read") 427, val := PySem.Value.ref 188 },
          { hash := PySem.PyData.keyHash P (PySem.Str.ofString "law"),
            key := PySem.Value.str (PySem.Str.ofString "law") 433, val := PySem.Value.ref 193 }]
        27 })
  , (25, { cls := PySem.Value.type "tuple", data := PySem.Data.seq #[] })
  , (27,
  { cls := PySem.Value.type "tuple",
    data :=
      PySem.Data.seq
        #[PySem.Value.str (PySem.Str.ofString "self") 209, PySem.Value.str (PySem.Str.ofString "ws") 210,
          PySem.Value.str (PySem.Str.ofString "S") 211, PySem.Value.str (PySem.Str.ofString "T") 212,
          PySem.Value.str (PySem.Str.ofString "count") 213, PySem.Value.str (PySem.Str.ofString "b") 214,
          PySem.Value.str (PySem.Str.ofString "n") 215, PySem.Value.str (PySem.Str.ofString "nt") 216,
          PySem.Value.str (PySem.Str.ofString "ch") 217] })
  , (28, { cls := PySem.Value.type "tuple", data := PySem.Data.seq #[] })
  , (30,
  { cls := PySem.Value.type "code",
    data :=
      PySem.Data.fields
        #[PySem.Value.str (PySem.Str.ofString "__init__") 206,
          PySem.Value.str (PySem.Str.ofString "Whitespace.__init__") 207,
          PySem.Value.str (PySem.Str.ofString "/claim/cut.py") 208, PySem.Value.int 5 0, PySem.Value.int 2 0,
          PySem.Value.int 0 0, PySem.Value.int 0 0, PySem.Value.int 3 0, PySem.Value.ref 25, PySem.Value.bool true,
          PySem.Value.int 181 0, PySem.Value.ref 26, PySem.Value.none, PySem.Value.ref 27, PySem.Value.ref 28,
          PySem.Value.ref 29, PySem.Value.int 218 0, PySem.Value.int 5 0,
          PySem.Value.str (PySem.Str.ofString "/claim/cut.py") 219] })
  , (31,
  { cls := PySem.Value.type "function",
    data :=
      PySem.Data.func
        { name := PySem.Str.ofString "__init__", qualname := PySem.Str.ofString "Whitespace.__init__", params := dPar (methS 1),
          body := .stmts (dBody (methS 1)), scope := dScope (methS 1), globals := 3, closure := [], defaults := PySem.Value.none,
          kwdefaults := PySem.Value.none, pyModule := PySem.Value.str (PySem.Str.ofString "cpy313.tabnanny") 187,
          code := PySem.Value.ref 30 } })
  , (32, { cls := PySem.Value.type "tuple", data := PySem.Data.seq #[] })
  , (34,
  { cls := PySem.Value.type "tuple",
    data :=
      PySem.Data.seq
        #[PySem.Value.str (PySem.Str.ofString "self") 224, PySem.Value.str (PySem.Str.ofString "count") 225,
          PySem.Value.str (PySem.Str.ofString "trailing") 226] })
  , (35, { cls := PySem.Value.type "tuple", data := PySem.Data.seq #[] })
  , (37,
  { cls := PySem.Value.type "code",
    data :=
      PySem.Data.fields
        #[PySem.Value.str (PySem.Str.ofString "longest_run_of_spaces") 221,
          PySem.Value.str (PySem.Str.ofString "Whitespace.longest_run_of_spaces") 222,
          PySem.Value.str (PySem.Str.ofString "/claim/cut.py") 223, PySem.Value.int 28 0, PySem.Value.int 1 0,
          PySem.Value.int 0 0, PySem.Value.int 0 0, PySem.Value.int 3 0, PySem.Value.ref 32, PySem.Value.bool true,
          PySem.Value.int 181 0, PySem.Value.ref 33, PySem.Value.none, PySem.Value.ref 34, PySem.Value.ref 35,
          PySem.Value.ref 36, PySem.Value.int 227 0, PySem.Value.int 28 0,
          PySem.Value.str (PySem.Str.ofString "/claim/cut.py") 228] })
  , (38,
  { cls := PySem.Value.type "function",
    data :=
      PySem.Data.func
        { name := PySem.Str.ofString "longest_run_of_spaces",
          qualname := PySem.Str.ofString "Whitespace.longest_run_of_spaces", params := dPar (methS 2), body := .stmts (dBody (methS 2)),
          scope := dScope (methS 2), globals := 3, closure := [], defaults := PySem.Value.none, kwdefaults := PySem.Value.none,
          pyModule := PySem.Value.str (PySem.Str.ofString "cpy313.tabnanny") 187, code := PySem.Value.ref 37 } })
  , (39, { cls := PySem.Value.type "tuple", data := PySem.Data.seq #[] })
  , (41,
  { cls := PySem.Value.type "tuple",
    data :=
      PySem.Data.seq
        #[PySem.Value.str (PySem.Str.ofString "self") 233, PySem.Value.str (PySem.Str.ofString "tabsize") 234,
          PySem.Value.str (PySem.Str.ofString "count") 235, PySem.Value.str (PySem.Str.ofString "trailing") 236,
          PySem.Value.str (PySem.Str.ofString "il") 237, PySem.Value.str (PySem.Str.ofString "i") 238] })
  , (42, { cls := PySem.Value.type "tuple", data := PySem.Data.seq #[] })
  , (44,
  { cls := PySem.Value.type "code",
    data :=
      PySem.Data.fields
        #[PySem.Value.str (PySem.Str.ofString "indent_level") 230,
          PySem.Value.str (PySem.Str.ofString "Whitespace.indent_level") 231,
          PySem.Value.str (PySem.Str.ofString "/claim/cut.py") 232, PySem.Value.int 32 0, PySem.Value.int 2 0,
          PySem.Value.int 0 0, PySem.Value.int 0 0, PySem.Value.int 3 0, PySem.Value.ref 39, PySem.Value.bool true,
          PySem.Value.int 181 0, PySem.Value.ref 40, PySem.Value.none, PySem.Value.ref 41, PySem.Value.ref 42,
          PySem.Value.ref 43, PySem.Value.int 239 0, PySem.Value.int 32 0,
          PySem.Value.str (PySem.Str.ofString "/claim/cut.py") 240] })
  , (45,
  { cls := PySem.Value.type "function",
    data :=
      PySem.Data.func
        { name := PySem.Str.ofString "indent_level", qualname := PySem.Str.ofString "Whitespace.indent_level",
          params := dPar (methS 3), body := .stmts (dBody (methS 3)), scope := dScope (methS 3), globals := 3, closure := [], defaults := PySem.Value.none,
          kwdefaults := PySem.Value.none, pyModule := PySem.Value.str (PySem.Str.ofString "cpy313.tabnanny") 187,
          code := PySem.Value.ref 44 } })
  , (46, { cls := PySem.Value.type "tuple", data := PySem.Data.seq #[] })
  , (48,
  { cls := PySem.Value.type "tuple",
    data :=
      PySem.Data.seq
        #[PySem.Value.str (PySem.Str.ofString "self") 245, PySem.Value.str (PySem.Str.ofString "other") 246] })
  , (49, { cls := PySem.Value.type "tuple", data := PySem.Data.seq #[] })
  , (51,
  { cls := PySem.Value.type "code",
    data :=
      PySem.Data.fields
        #[PySem.Value.str (PySem.Str.ofString "equal") 242, PySem.Value.str (PySem.Str.ofString "Whitespace.equal") 243,
          PySem.Value.str (PySem.Str.ofString "/claim/cut.py") 244, PySem.Value.int 39 0, PySem.Value.int 2 0,
          PySem.Value.int 0 0, PySem.Value.int 0 0, PySem.Value.int 3 0, PySem.Value.ref 46, PySem.Value.bool true,
          PySem.Value.int 181 0, PySem.Value.ref 47, PySem.Value.none, PySem.Value.ref 48, PySem.Value.ref 49,
          PySem.Value.ref 50, PySem.Value.int 247 0, PySem.Value.int 39 0,
          PySem.Value.str (PySem.Str.ofString "/claim/cut.py") 248] })
  , (52,
  { cls := PySem.Value.type "function",
    data :=
      PySem.Data.func
        { name := PySem.Str.ofString "equal", qualname := PySem.Str.ofString "Whitespace.equal", params := dPar (methS 4),
          body := .stmts (dBody (methS 4)), scope := dScope (methS 4), globals := 3, closure := [], defaults := PySem.Value.none,
          kwdefaults := PySem.Value.none, pyModule := PySem.Value.str (PySem.Str.ofString "cpy313.tabnanny") 187,
          code := PySem.Value.ref 51 } })
  , (53, { cls := PySem.Value.type "tuple", data := PySem.Data.seq #[] })
  , (55,
  { cls := PySem.Value.type "tuple",
    data :=
      PySem.Data.seq
        #[PySem.Value.str (PySem.Str.ofString "self") 253, PySem.Value.str (PySem.Str.ofString "other") 254,
          PySem.Value.str (PySem.Str.ofString "n") 255, PySem.Value.str (PySem.Str.ofString "a") 256,
          PySem.Value.str (PySem.Str.ofString "ts") 257] })
  , (56, { cls := PySem.Value.type "tuple", data := PySem.Data.seq #[] })
  , (58,
  { cls := PySem.Value.type "code",
    data :=
      PySem.Data.fields
        #[PySem.Value.str (PySem.Str.ofString "not_equal_witness") 250,
          PySem.Value.str (PySem.Str.ofString "Whitespace.not_equal_witness") 251,
          PySem.Value.str (PySem.Str.ofString "/claim/cut.py") 252, PySem.Value.int 42 0, PySem.Value.int 2 0,
          PySem.Value.int 0 0, PySem.Value.int 0 0, PySem.Value.int 3 0, PySem.Value.ref 53, PySem.Value.bool true,
          PySem.Value.int 181 0, PySem.Value.ref 54, PySem.Value.none, PySem.Value.ref 55, PySem.Value.ref 56,
          PySem.Value.ref 57, PySem.Value.int 258 0, PySem.Value.int 42 0,
          PySem.Value.str (PySem.Str.ofString "/claim/cut.py") 259] })
  , (59,
  { cls := PySem.Value.type "function",
    data :=
      PySem.Data.func
        { name := PySem.Str.ofString "not_equal_witness", qualname := PySem.Str.ofString "Whitespace.not_equal_witness",
          params := dPar (methS 5), body := .stmts (dBody (methS 5)), scope := dScope (methS 5), globals := 3, closure := [], defaults := PySem.Value.none,
          kwdefaults := PySem.Value.none, pyModule := PySem.Value.str (PySem.Str.ofString "cpy313.tabnanny") 187,
          code := PySem.Value.ref 58 } })
  , (60, { cls := PySem.Value.type "tuple", data := PySem.Data.seq #[] })
  , (62,
  { cls := PySem.Value.type "tuple",
    data :=
      PySem.Data.seq
        #[PySem.Value.str (PySem.Str.ofString "self") 264, PySem.Value.str (PySem.Str.ofString "other") 265,
          PySem.Value.str (PySem.Str.ofString "n") 266, PySem.Value.str (PySem.Str.ofString "ts") 267] })
  , (63, { cls := PySem.Value.type "tuple", data := PySem.Data.seq #[] })
  , (65,
  { cls := PySem.Value.type "code",
    data :=
      PySem.Data.fields
        #[PySem.Value.str (PySem.Str.ofString "less") 261, PySem.Value.str (PySem.Str.ofString "Whitespace.less") 262,
          PySem.Value.str (PySem.Str.ofString "/claim/cut.py") 263, PySem.Value.int 50 0, PySem.Value.int 2 0,
          PySem.Value.int 0 0, PySem.Value.int 0 0, PySem.Value.int 3 0, PySem.Value.ref 60, PySem.Value.bool true,
          PySem.Value.int 181 0, PySem.Value.ref 61, PySem.Value.none, PySem.Value.ref 62, PySem.Value.ref 63,
          PySem.Value.ref 64, PySem.Value.int 268 0, PySem.Value.int 50 0,
          PySem.Value.str (PySem.Str.ofString "/claim/cut.py") 269] })
  , (66,
  { cls := PySem.Value.type "function",
    data :=
      PySem.Data.func
        { name := PySem.Str.ofString "less", qualname := PySem.Str.ofString "Whitespace.less", params := dPar (methS 6),
          body := .stmts (dBody (methS 6)), scope := dScope (methS 6), globals := 3, closure := [], defaults := PySem.Value.none,
          kwdefaults := PySem.Value.none, pyModule := PySem.Value.str (PySem.Str.ofString "cpy313.tabnanny") 187,
          code := PySem.Value.ref 65 } })
  , (67, { cls := PySem.Value.type "tuple", data := PySem.Data.seq #[] })
  , (69,
  { cls := PySem.Value.type "tuple",
    data :=
      PySem.Data.seq
        #[PySem.Value.str (PySem.Str.ofString "self") 274, PySem.Value.str (PySem.Str.ofString "other") 275,
          PySem.Value.str (PySem.Str.ofString "n") 276, PySem.Value.str (PySem.Str.ofString "a") 277,
          PySem.Value.str (PySem.Str.ofString "ts") 278] })
  , (70, { cls := PySem.Value.type "tuple", data := PySem.Data.seq #[] })
  , (72,
  { cls := PySem.Value.type "code",
    data :=
      PySem.Data.fields
        #[PySem.Value.str (PySem.Str.ofString "not_less_witness") 271,
          PySem.Value.str (PySem.Str.ofString "Whitespace.not_less_witness") 272,
          PySem.Value.str (PySem.Str.ofString "/claim/cut.py") 273, PySem.Value.int 61 0, PySem.Value.int 2 0,
          PySem.Value.int 0 0, PySem.Value.int 0 0, PySem.Value.int 3 0, PySem.Value.ref 67, PySem.Value.bool true,
          PySem.Value.int 181 0, PySem.Value.ref 68, PySem.Value.none, PySem.Value.ref 69, PySem.Value.ref 70,
          PySem.Value.ref 71, PySem.Value.int 279 0, PySem.Value.int 61 0,
          PySem.Value.str (PySem.Str.ofString "/claim/cut.py") 280] })
  , (73,
  { cls := PySem.Value.type "function",
    data :=
      PySem.Data.func
        { name := PySem.Str.ofString "not_less_witness", qualname := PySem.Str.ofString "Whitespace.not_less_witness",
          params := dPar (methS 7), body := .stmts (dBody (methS 7)), scope := dScope (methS 7), globals := 3, closure := [], defaults := PySem.Value.none,
          kwdefaults := PySem.Value.none, pyModule := PySem.Value.str (PySem.Str.ofString "cpy313.tabnanny") 187,
          code := PySem.Value.ref 72 } })
  , (74,
  { cls := PySem.Value.type "tuple",
    data :=
      PySem.Data.seq
        #[PySem.Value.str (PySem.Str.ofString "is_simple") 282, PySem.Value.str (PySem.Str.ofString "n") 283,
          PySem.Value.str (PySem.Str.ofString "norm") 284, PySem.Value.str (PySem.Str.ofString "nt") 285,
          PySem.Value.str (PySem.Str.ofString "raw") 286] })
  , (75,
  { cls := PySem.Value.type "dict",
    data :=
      PySem.Data.dict
        #[{ hash := PySem.PyData.keyHash P (PySem.Str.ofString "__module__"),
            key := PySem.Value.str (PySem.Str.ofString "__module__") 196,
            val := PySem.Value.str (PySem.Str.ofString "cpy313.tabnanny") 187 },
          { hash := PySem.PyData.keyHash P (PySem.Str.ofString "__firstlineno__"),
            key := PySem.Value.str (PySem.Str.ofString "__firstlineno__") 200, val := PySem.Value.int 2 199 },
          { hash := PySem.PyData.keyHash P (PySem.Str.ofString "S"),
            key := PySem.Value.str (PySem.Str.ofString "S") 204, val := PySem.Value.str (PySem.Str.ofString " ") 202 },
          { hash := PySem.PyData.keyHash P (PySem.Str.ofString "T"),
            key := PySem.Value.str (PySem.Str.ofString "T") 205, val := PySem.Value.str (PySem.Str.ofString "\t") 203 },
          { hash := PySem.PyData.keyHash P (PySem.Str.ofString "__init__"),
            key := PySem.Value.str (PySem.Str.ofString "__init__") 220, val := PySem.Value.ref 31 },
          { hash := PySem.PyData.keyHash P (PySem.Str.ofString "longest_run_of_spaces"),
            key := PySem.Value.str (PySem.Str.ofString "longest_run_of_spaces") 229, val := PySem.Value.ref 38 },
          { hash := PySem.PyData.keyHash P (PySem.Str.ofString "indent_level"),
            key := PySem.Value.str (PySem.Str.ofString "indent_level") 241, val := PySem.Value.ref 45 },
          { hash := PySem.PyData.keyHash P (PySem.Str.ofString "equal"),
            key := PySem.Value.str (PySem.Str.ofString "equal") 249, val := PySem.Value.ref 52 },
          { hash := PySem.PyData.keyHash P (PySem.Str.ofString "not_equal_witness"),
            key := PySem.Value.str (PySem.Str.ofString "not_equal_witness") 260, val := PySem.Value.ref 59 },
          { hash := PySem.PyData.keyHash P (PySem.Str.ofString "less"),
            key := PySem.Value.str (PySem.Str.ofString "less") 270, val := PySem.Value.ref 66 },
          { hash := PySem.PyData.keyHash P (PySem.Str.ofString "not_less_witness"),
            key := PySem.Value.str (PySem.Str.ofString "not_less_witness") 281, val := PySem.Value.ref 73 },
          { hash := PySem.PyData.keyHash P (PySem.Str.ofString "__static_attributes__"),
            key := PySem.Value.str (PySem.Str.ofString "__static_attributes__") 287, val := PySem.Value.ref 74 },
          { hash := PySem.PyData.keyHash P (PySem.Str.ofString "__dict__"),
            key := PySem.Value.str (PySem.Str.ofString "__dict__") 289, val := PySem.Value.ref 77 },
          { hash := PySem.PyData.keyHash P (PySem.Str.ofString "__weakref__"),
            key := PySem.Value.str (PySem.Str.ofString "__weakref__") 291, val := PySem.Value.ref 78 },
          { hash := PySem.PyData.keyHash P (PySem.Str.ofString "__doc__"),
            key := PySem.Value.str (PySem.Str.ofString "__doc__") 292, val := PySem.Value.none }]
        4 })
  , (76,
  { cls := PySem.Value.type "type",
    data :=
      PySem.Data.cls
        { name := PySem.Str.ofString "Whitespace", bases := [PySem.Value.type "object"],
          mro := [PySem.Value.ref 76, PySem.Value.type "object"], ns := 75,
          qualname := PySem.Str.ofString "Whitespace" },
    slots :=
      #[none, none, some (PySem.Value.str (PySem.Str.ofString "Whitespace") 189),
        some (PySem.Value.str (PySem.Str.ofString "Whitespace") 197), some (PySem.Value.builtin "object.__new__"),
        some (PySem.Value.bool true)] })
  , (77,
  { cls := PySem.Value.type "getset_descriptor",
    data :=
      PySem.Data.fields
        #[PySem.Value.str (PySem.Str.ofString "__dict__") 288, PySem.Value.ref 76,
          PySem.Value.builtin "function.__dict__", PySem.Value.builtin "function.__dict__#set"] })
  , (78,
  { cls := PySem.Value.type "getset_descriptor",
    data :=
      PySem.Data.fields
        #[PySem.Value.str (PySem.Str.ofString "__weakref__") 290, PySem.Value.ref 76,
          PySem.Value.builtin "ExceptionGroup.__weakref__", PySem.Value.none] })
  , (81, { cls := PySem.Value.type "tuple", data := PySem.Data.seq #[] })
  , (83,
  { cls := PySem.Value.type "tuple",
    data :=
      PySem.Data.seq
        #[PySem.Value.str (PySem.Str.ofString "w") 298, PySem.Value.str (PySem.Str.ofString "firsts") 299,
          PySem.Value.str (PySem.Str.ofString "prefix") 300] })
  , (84, { cls := PySem.Value.type "tuple", data := PySem.Data.seq #[] })
  , (86,
  { cls := PySem.Value.type "code",
    data :=
      PySem.Data.fields
        #[PySem.Value.str (PySem.Str.ofString "format_witnesses") 295,
          PySem.Value.str (PySem.Str.ofString "format_witnesses") 296,
          PySem.Value.str (PySem.Str.ofString "/claim/cut.py") 297, PySem.Value.int 68 0, PySem.Value.int 1 0,
          PySem.Value.int 0 0, PySem.Value.int 0 0, PySem.Value.int 3 0, PySem.Value.ref 81, PySem.Value.bool true,
          PySem.Value.int 181 0, PySem.Value.ref 82, PySem.Value.none, PySem.Value.ref 83, PySem.Value.ref 84,
          PySem.Value.ref 85, PySem.Value.int 301 0, PySem.Value.int 68 0,
          PySem.Value.str (PySem.Str.ofString "/claim/cut.py") 302] })
  , (87,
  { cls := PySem.Value.type "function",
    data :=
      PySem.Data.func
        { name := PySem.Str.ofString "format_witnesses", qualname := PySem.Str.ofString "format_witnesses",
          params := dPar (topS 2), body := .stmts (dBody (topS 2)), scope := dScope (topS 2), globals := 3, closure := [], defaults := PySem.Value.none,
          kwdefaults := PySem.Value.none, pyModule := PySem.Value.str (PySem.Str.ofString "cpy313.tabnanny") 187,
          code := PySem.Value.ref 86 } })
  , (88, { cls := PySem.Value.type "tuple", data := PySem.Data.seq #[] })
  , (90, { cls := PySem.Value.type "tuple", data := PySem.Data.seq #[PySem.Value.str (PySem.Str.ofString "c") 309] })
  , (91, { cls := PySem.Value.type "tuple", data := PySem.Data.seq #[] })
  , (93,
  { cls := PySem.Value.type "code",
    data :=
      PySem.Data.fields
        #[PySem.Value.str (PySem.Str.ofString "_ctoi") 306, PySem.Value.str (PySem.Str.ofString "_ctoi") 307,
          PySem.Value.str (PySem.Str.ofString "/claim/cut.py") 308, PySem.Value.int 75 0, PySem.Value.int 1 0,
          PySem.Value.int 0 0, PySem.Value.int 0 0, PySem.Value.int 3 0, PySem.Value.ref 88, PySem.Value.bool true,
          PySem.Value.int 181 0, PySem.Value.ref 89, PySem.Value.none, PySem.Value.ref 90, PySem.Value.ref 91,
          PySem.Value.ref 92, PySem.Value.int 310 0, PySem.Value.int 75 0,
          PySem.Value.str (PySem.Str.ofString "/claim/cut.py") 311] })
  , (94,
  { cls := PySem.Value.type "function",
    data :=
      PySem.Data.func
        { name := PySem.Str.ofString "_ctoi", qualname := PySem.Str.ofString "_ctoi", params := dPar (topS 4), body := .stmts (dBody (topS 4)),
          scope := dScope (topS 4), globals := 3, closure := [], defaults := PySem.Value.none, kwdefaults := PySem.Value.none,
          pyModule := PySem.Value.str (PySem.Str.ofString "cpy313.curses.ascii") 304, code := PySem.Value.ref 93 } })
  , (95, { cls := PySem.Value.type "tuple", data := PySem.Data.seq #[] })
  , (97, { cls := PySem.Value.type "tuple", data := PySem.Data.seq #[PySem.Value.str (PySem.Str.ofString "c") 316] })
  , (98, { cls := PySem.Value.type "tuple", data := PySem.Data.seq #[] })
  , (100,
  { cls := PySem.Value.type "code",
    data :=
      PySem.Data.fields
        #[PySem.Value.str (PySem.Str.ofString "isdigit") 313, PySem.Value.str (PySem.Str.ofString "isdigit") 314,
          PySem.Value.str (PySem.Str.ofString "/claim/cut.py") 315, PySem.Value.int 80 0, PySem.Value.int 1 0,
          PySem.Value.int 0 0, PySem.Value.int 0 0, PySem.Value.int 3 0, PySem.Value.ref 95, PySem.Value.bool true,
          PySem.Value.int 181 0, PySem.Value.ref 96, PySem.Value.none, PySem.Value.ref 97, PySem.Value.ref 98,
          PySem.Value.ref 99, PySem.Value.int 317 0, PySem.Value.int 80 0,
          PySem.Value.str (PySem.Str.ofString "/claim/cut.py") 318] })
  , (101,
  { cls := PySem.Value.type "function",
    data :=
      PySem.Data.func
        { name := PySem.Str.ofString "isdigit", qualname := PySem.Str.ofString "isdigit", params := dPar (topS 5), body := .stmts (dBody (topS 5)),
          scope := dScope (topS 5), globals := 3, closure := [], defaults := PySem.Value.none, kwdefaults := PySem.Value.none,
          pyModule := PySem.Value.str (PySem.Str.ofString "cpy313.curses.ascii") 304, code := PySem.Value.ref 100 } })
  , (102, { cls := PySem.Value.type "tuple", data := PySem.Data.seq #[] })
  , (104, { cls := PySem.Value.type "tuple", data := PySem.Data.seq #[PySem.Value.str (PySem.Str.ofString "c") 323] })
  , (105, { cls := PySem.Value.type "tuple", data := PySem.Data.seq #[] })
  , (107,
  { cls := PySem.Value.type "code",
    data :=
      PySem.Data.fields
        #[PySem.Value.str (PySem.Str.ofString "isgraph") 320, PySem.Value.str (PySem.Str.ofString "isgraph") 321,
          PySem.Value.str (PySem.Str.ofString "/claim/cut.py") 322, PySem.Value.int 82 0, PySem.Value.int 1 0,
          PySem.Value.int 0 0, PySem.Value.int 0 0, PySem.Value.int 3 0, PySem.Value.ref 102, PySem.Value.bool true,
          PySem.Value.int 181 0, PySem.Value.ref 103, PySem.Value.none, PySem.Value.ref 104, PySem.Value.ref 105,
          PySem.Value.ref 106, PySem.Value.int 324 0, PySem.Value.int 82 0,
          PySem.Value.str (PySem.Str.ofString "/claim/cut.py") 325] })
  , (108,
  { cls := PySem.Value.type "function",
    data :=
      PySem.Data.func
        { name := PySem.Str.ofString "isgraph", qualname := PySem.Str.ofString "isgraph", params := dPar (topS 6), body := .stmts (dBody (topS 6)),
          scope := dScope (topS 6), globals := 3, closure := [], defaults := PySem.Value.none, kwdefaults := PySem.Value.none,
          pyModule := PySem.Value.str (PySem.Str.ofString "cpy313.curses.ascii") 304, code := PySem.Value.ref 107 } })
  , (109, { cls := PySem.Value.type "tuple", data := PySem.Data.seq #[] })
  , (111, { cls := PySem.Value.type "tuple", data := PySem.Data.seq #[PySem.Value.str (PySem.Str.ofString "c") 330] })
  , (112, { cls := PySem.Value.type "tuple", data := PySem.Data.seq #[] })
  , (114,
  { cls := PySem.Value.type "code",
    data :=
      PySem.Data.fields
        #[PySem.Value.str (PySem.Str.ofString "isprint") 327, PySem.Value.str (PySem.Str.ofString "isprint") 328,
          PySem.Value.str (PySem.Str.ofString "/claim/cut.py") 329, PySem.Value.int 84 0, PySem.Value.int 1 0,
          PySem.Value.int 0 0, PySem.Value.int 0 0, PySem.Value.int 3 0, PySem.Value.ref 109, PySem.Value.bool true,
          PySem.Value.int 181 0, PySem.Value.ref 110, PySem.Value.none, PySem.Value.ref 111, PySem.Value.ref 112,
          PySem.Value.ref 113, PySem.Value.int 331 0, PySem.Value.int 84 0,
          PySem.Value.str (PySem.Str.ofString "/claim/cut.py") 332] })
  , (115,
  { cls := PySem.Value.type "function",
    data :=
      PySem.Data.func
        { name := PySem.Str.ofString "isprint", qualname := PySem.Str.ofString "isprint", params := dPar (topS 7), body := .stmts (dBody (topS 7)),
          scope := dScope (topS 7), globals := 3, closure := [], defaults := PySem.Value.none, kwdefaults := PySem.Value.none,
          pyModule := PySem.Value.str (PySem.Str.ofString "cpy313.curses.ascii") 304, code := PySem.Value.ref 114 } })
  , (116, { cls := PySem.Value.type "tuple", data := PySem.Data.seq #[] })
  , (118, { cls := PySem.Value.type "tuple", data := PySem.Data.seq #[PySem.Value.str (PySem.Str.ofString "c") 337] })
  , (119, { cls := PySem.Value.type "tuple", data := PySem.Data.seq #[] })
  , (121,
  { cls := PySem.Value.type "code",
    data :=
      PySem.Data.fields
        #[PySem.Value.str (PySem.Str.ofString "ctrl") 334, PySem.Value.str (PySem.Str.ofString "ctrl") 335,
          PySem.Value.str (PySem.Str.ofString "/claim/cut.py") 336, PySem.Value.int 86 0, PySem.Value.int 1 0,
          PySem.Value.int 0 0, PySem.Value.int 0 0, PySem.Value.int 3 0, PySem.Value.ref 116, PySem.Value.bool true,
          PySem.Value.int 181 0, PySem.Value.ref 117, PySem.Value.none, PySem.Value.ref 118, PySem.Value.ref 119,
          PySem.Value.ref 120, PySem.Value.int 338 0, PySem.Value.int 86 0,
          PySem.Value.str (PySem.Str.ofString "/claim/cut.py") 339] })
  , (122,
  { cls := PySem.Value.type "function",
    data :=
      PySem.Data.func
        { name := PySem.Str.ofString "ctrl", qualname := PySem.Str.ofString "ctrl", params := dPar (topS 8), body := .stmts (dBody (topS 8)),
          scope := dScope (topS 8), globals := 3, closure := [], defaults := PySem.Value.none, kwdefaults := PySem.Value.none,
          pyModule := PySem.Value.str (PySem.Str.ofString "cpy313.curses.ascii") 304, code := PySem.Value.ref 121 } })
  , (123, { cls := PySem.Value.type "tuple", data := PySem.Data.seq #[] })
  , (125, { cls := PySem.Value.type "tuple", data := PySem.Data.seq #[PySem.Value.str (PySem.Str.ofString "c") 344] })
  , (126, { cls := PySem.Value.type "tuple", data := PySem.Data.seq #[] })
  , (128,
  { cls := PySem.Value.type "code",
    data :=
      PySem.Data.fields
        #[PySem.Value.str (PySem.Str.ofString "alt") 341, PySem.Value.str (PySem.Str.ofString "alt") 342,
          PySem.Value.str (PySem.Str.ofString "/claim/cut.py") 343, PySem.Value.int 91 0, PySem.Value.int 1 0,
          PySem.Value.int 0 0, PySem.Value.int 0 0, PySem.Value.int 3 0, PySem.Value.ref 123, PySem.Value.bool true,
          PySem.Value.int 181 0, PySem.Value.ref 124, PySem.Value.none, PySem.Value.ref 125, PySem.Value.ref 126,
          PySem.Value.ref 127, PySem.Value.int 345 0, PySem.Value.int 91 0,
          PySem.Value.str (PySem.Str.ofString "/claim/cut.py") 346] })
  , (129,
  { cls := PySem.Value.type "function",
    data :=
      PySem.Data.func
        { name := PySem.Str.ofString "alt", qualname := PySem.Str.ofString "alt", params := dPar (topS 9), body := .stmts (dBody (topS 9)),
          scope := dScope (topS 9), globals := 3, closure := [], defaults := PySem.Value.none, kwdefaults := PySem.Value.none,
          pyModule := PySem.Value.str (PySem.Str.ofString "cpy313.curses.ascii") 304, code := PySem.Value.ref 128 } })
  , (130, { cls := PySem.Value.type "tuple", data := PySem.Data.seq #[] })
  , (132,
  { cls := PySem.Value.type "tuple",
    data :=
      PySem.Data.seq
        #[PySem.Value.str (PySem.Str.ofString "c") 351, PySem.Value.str (PySem.Str.ofString "bits") 352,
          PySem.Value.str (PySem.Str.ofString "rep") 353] })
  , (133, { cls := PySem.Value.type "tuple", data := PySem.Data.seq #[] })
  , (135,
  { cls := PySem.Value.type "code",
    data :=
      PySem.Data.fields
        #[PySem.Value.str (PySem.Str.ofString "unctrl") 348, PySem.Value.str (PySem.Str.ofString "unctrl") 349,
          PySem.Value.str (PySem.Str.ofString "/claim/cut.py") 350, PySem.Value.int 96 0, PySem.Value.int 1 0,
          PySem.Value.int 0 0, PySem.Value.int 0 0, PySem.Value.int 3 0, PySem.Value.ref 130, PySem.Value.bool true,
          PySem.Value.int 181 0, PySem.Value.ref 131, PySem.Value.none, PySem.Value.ref 132, PySem.Value.ref 133,
          PySem.Value.ref 134, PySem.Value.int 354 0, PySem.Value.int 96 0,
          PySem.Value.str (PySem.Str.ofString "/claim/cut.py") 355] })
  , (136,
  { cls := PySem.Value.type "function",
    data :=
      PySem.Data.func
        { name := PySem.Str.ofString "unctrl", qualname := PySem.Str.ofString "unctrl", params := dPar (topS 10), body := .stmts (dBody (topS 10)),
          scope := dScope (topS 10), globals := 3, closure := [], defaults := PySem.Value.none, kwdefaults := PySem.Value.none,
          pyModule := PySem.Value.str (PySem.Str.ofString "cpy313.curses.ascii") 304, code := PySem.Value.ref 135 } })
  , (137, { cls := PySem.Value.type "tuple", data := PySem.Data.seq #[] })
  , (140,
  { cls := PySem.Value.type "code",
    data :=
      PySem.Data.fields
        #[PySem.Value.str (PySem.Str.ofString "_law_front") 359, PySem.Value.str (PySem.Str.ofString "_law_front") 360,
          PySem.Value.str (PySem.Str.ofString "/claim/cut.py") 361, PySem.Value.int 108 0, PySem.Value.int 3 0,
          PySem.Value.int 0 0, PySem.Value.int 0 0, PySem.Value.int 3 0, PySem.Value.ref 137, PySem.Value.bool true,
          PySem.Value.int 181 0, PySem.Value.ref 138, PySem.Value.none, PySem.Value.none, PySem.Value.none,
          PySem.Value.ref 139, PySem.Value.int 362 0, PySem.Value.int 108 0,
          PySem.Value.str (PySem.Str.ofString "/claim/cut.py") 363] })
  , (141,
  { cls := PySem.Value.type "function",
    data :=
      PySem.Data.func
        { name := PySem.Str.ofString "_law_front", qualname := PySem.Str.ofString "_law_front", params := dPar (topS 12),
          body := .stmts (dBody (topS 12)), scope := dScope (topS 12), globals := 3, closure := [], defaults := PySem.Value.none,
          kwdefaults := PySem.Value.none, pyModule := PySem.Value.str (PySem.Str.ofString "law_mr0230_01") 357,
          code := PySem.Value.ref 140 } })
  , (142, { cls := PySem.Value.type "tuple", data := PySem.Data.seq #[] })
  , (145,
  { cls := PySem.Value.type "code",
    data :=
      PySem.Data.fields
        #[PySem.Value.str (PySem.Str.ofString "_law_keys") 365, PySem.Value.str (PySem.Str.ofString "_law_keys") 366,
          PySem.Value.str (PySem.Str.ofString "/claim/cut.py") 367, PySem.Value.int 116 0, PySem.Value.int 1 0,
          PySem.Value.int 0 0, PySem.Value.int 0 0, PySem.Value.int 3 0, PySem.Value.ref 142, PySem.Value.bool true,
          PySem.Value.int 181 0, PySem.Value.ref 143, PySem.Value.none, PySem.Value.none, PySem.Value.none,
          PySem.Value.ref 144, PySem.Value.int 368 0, PySem.Value.int 116 0,
          PySem.Value.str (PySem.Str.ofString "/claim/cut.py") 369] })
  , (146,
  { cls := PySem.Value.type "function",
    data :=
      PySem.Data.func
        { name := PySem.Str.ofString "_law_keys", qualname := PySem.Str.ofString "_law_keys", params := dPar (topS 13),
          body := .stmts (dBody (topS 13)), scope := dScope (topS 13), globals := 3, closure := [], defaults := PySem.Value.none,
          kwdefaults := PySem.Value.none, pyModule := PySem.Value.str (PySem.Str.ofString "law_mr0230_01") 357,
          code := PySem.Value.ref 145 } })
  , (147, { cls := PySem.Value.type "tuple", data := PySem.Data.seq #[] })
  , (149,
  { cls := PySem.Value.type "tuple",
    data :=
      PySem.Data.seq
        #[PySem.Value.str (PySem.Str.ofString "key") 374, PySem.Value.str (PySem.Str.ofString "held") 375,
          PySem.Value.str (PySem.Str.ofString "sign") 376] })
  , (150, { cls := PySem.Value.type "tuple", data := PySem.Data.seq #[] })
  , (152,
  { cls := PySem.Value.type "code",
    data :=
      PySem.Data.fields
        #[PySem.Value.str (PySem.Str.ofString "_law_sign") 371, PySem.Value.str (PySem.Str.ofString "_law_sign") 372,
          PySem.Value.str (PySem.Str.ofString "/claim/cut.py") 373, PySem.Value.int 118 0, PySem.Value.int 2 0,
          PySem.Value.int 0 0, PySem.Value.int 0 0, PySem.Value.int 3 0, PySem.Value.ref 147, PySem.Value.bool true,
          PySem.Value.int 181 0, PySem.Value.ref 148, PySem.Value.none, PySem.Value.ref 149, PySem.Value.ref 150,
          PySem.Value.ref 151, PySem.Value.int 377 0, PySem.Value.int 118 0,
          PySem.Value.str (PySem.Str.ofString "/claim/cut.py") 378] })
  , (153,
  { cls := PySem.Value.type "function",
    data :=
      PySem.Data.func
        { name := PySem.Str.ofString "_law_sign", qualname := PySem.Str.ofString "_law_sign", params := dPar (topS 14),
          body := .stmts (dBody (topS 14)), scope := dScope (topS 14), globals := 3, closure := [], defaults := PySem.Value.none,
          kwdefaults := PySem.Value.none, pyModule := PySem.Value.str (PySem.Str.ofString "law_mr0230_01") 357,
          code := PySem.Value.ref 152 } })
  , (154, { cls := PySem.Value.type "tuple", data := PySem.Data.seq #[] })
  , (156,
  { cls := PySem.Value.type "tuple",
    data :=
      PySem.Data.seq
        #[PySem.Value.str (PySem.Str.ofString "key") 383, PySem.Value.str (PySem.Str.ofString "held") 384] })
  , (157, { cls := PySem.Value.type "tuple", data := PySem.Data.seq #[] })
  , (159,
  { cls := PySem.Value.type "code",
    data :=
      PySem.Data.fields
        #[PySem.Value.str (PySem.Str.ofString "_law_blank") 380, PySem.Value.str (PySem.Str.ofString "_law_blank") 381,
          PySem.Value.str (PySem.Str.ofString "/claim/cut.py") 382, PySem.Value.int 121 0, PySem.Value.int 2 0,
          PySem.Value.int 0 0, PySem.Value.int 0 0, PySem.Value.int 3 0, PySem.Value.ref 154, PySem.Value.bool true,
          PySem.Value.int 181 0, PySem.Value.ref 155, PySem.Value.none, PySem.Value.ref 156, PySem.Value.ref 157,
          PySem.Value.ref 158, PySem.Value.int 385 0, PySem.Value.int 121 0,
          PySem.Value.str (PySem.Str.ofString "/claim/cut.py") 386] })
  , (160,
  { cls := PySem.Value.type "function",
    data :=
      PySem.Data.func
        { name := PySem.Str.ofString "_law_blank", qualname := PySem.Str.ofString "_law_blank", params := dPar (topS 15),
          body := .stmts (dBody (topS 15)), scope := dScope (topS 15), globals := 3, closure := [], defaults := PySem.Value.none,
          kwdefaults := PySem.Value.none, pyModule := PySem.Value.str (PySem.Str.ofString "law_mr0230_01") 357,
          code := PySem.Value.ref 159 } })
  , (161, { cls := PySem.Value.type "tuple", data := PySem.Data.seq #[] })
  , (163,
  { cls := PySem.Value.type "tuple",
    data :=
      PySem.Data.seq
        #[PySem.Value.str (PySem.Str.ofString "key") 391, PySem.Value.str (PySem.Str.ofString "held") 392,
          PySem.Value.str (PySem.Str.ofString "shown") 393] })
  , (164, { cls := PySem.Value.type "tuple", data := PySem.Data.seq #[] })
  , (166,
  { cls := PySem.Value.type "code",
    data :=
      PySem.Data.fields
        #[PySem.Value.str (PySem.Str.ofString "_law_echo") 388, PySem.Value.str (PySem.Str.ofString "_law_echo") 389,
          PySem.Value.str (PySem.Str.ofString "/claim/cut.py") 390, PySem.Value.int 123 0, PySem.Value.int 2 0,
          PySem.Value.int 0 0, PySem.Value.int 0 0, PySem.Value.int 3 0, PySem.Value.ref 161, PySem.Value.bool true,
          PySem.Value.int 181 0, PySem.Value.ref 162, PySem.Value.none, PySem.Value.ref 163, PySem.Value.ref 164,
          PySem.Value.ref 165, PySem.Value.int 394 0, PySem.Value.int 123 0,
          PySem.Value.str (PySem.Str.ofString "/claim/cut.py") 395] })
  , (167,
  { cls := PySem.Value.type "function",
    data :=
      PySem.Data.func
        { name := PySem.Str.ofString "_law_echo", qualname := PySem.Str.ofString "_law_echo", params := dPar (topS 16),
          body := .stmts (dBody (topS 16)), scope := dScope (topS 16), globals := 3, closure := [], defaults := PySem.Value.none,
          kwdefaults := PySem.Value.none, pyModule := PySem.Value.str (PySem.Str.ofString "law_mr0230_01") 357,
          code := PySem.Value.ref 166 } })
  , (168, { cls := PySem.Value.type "tuple", data := PySem.Data.seq #[] })
  , (170,
  { cls := PySem.Value.type "tuple",
    data :=
      PySem.Data.seq
        #[PySem.Value.str (PySem.Str.ofString "typed") 400, PySem.Value.str (PySem.Str.ofString "size") 401,
          PySem.Value.str (PySem.Str.ofString "row") 402, PySem.Value.str (PySem.Str.ofString "front") 403,
          PySem.Value.str (PySem.Str.ofString "key") 404, PySem.Value.str (PySem.Str.ofString "held") 405] })
  , (171, { cls := PySem.Value.type "tuple", data := PySem.Data.seq #[] })
  , (173,
  { cls := PySem.Value.type "code",
    data :=
      PySem.Data.fields
        #[PySem.Value.str (PySem.Str.ofString "_law_row") 397, PySem.Value.str (PySem.Str.ofString "_law_row") 398,
          PySem.Value.str (PySem.Str.ofString "/claim/cut.py") 399, PySem.Value.int 131 0, PySem.Value.int 2 0,
          PySem.Value.int 0 0, PySem.Value.int 0 0, PySem.Value.int 3 0, PySem.Value.ref 168, PySem.Value.bool true,
          PySem.Value.int 181 0, PySem.Value.ref 169, PySem.Value.none, PySem.Value.ref 170, PySem.Value.ref 171,
          PySem.Value.ref 172, PySem.Value.int 406 0, PySem.Value.int 131 0,
          PySem.Value.str (PySem.Str.ofString "/claim/cut.py") 407] })
  , (174,
  { cls := PySem.Value.type "function",
    data :=
      PySem.Data.func
        { name := PySem.Str.ofString "_law_row", qualname := PySem.Str.ofString "_law_row", params := dPar (topS 17),
          body := .stmts (dBody (topS 17)), scope := dScope (topS 17), globals := 3, closure := [], defaults := PySem.Value.none,
          kwdefaults := PySem.Value.none, pyModule := PySem.Value.str (PySem.Str.ofString "law_mr0230_01") 357,
          code := PySem.Value.ref 173 } })
  , (175, { cls := PySem.Value.type "tuple", data := PySem.Data.seq #[] })
  , (177,
  { cls := PySem.Value.type "tuple",
    data :=
      PySem.Data.seq
        #[PySem.Value.str (PySem.Str.ofString "row") 412, PySem.Value.str (PySem.Str.ofString "place") 413] })
  , (178, { cls := PySem.Value.type "tuple", data := PySem.Data.seq #[] })
  , (180,
  { cls := PySem.Value.type "code",
    data :=
      PySem.Data.fields
        #[PySem.Value.str (PySem.Str.ofString "_law_column") 409,
          PySem.Value.str (PySem.Str.ofString "_law_column") 410,
          PySem.Value.str (PySem.Str.ofString "/claim/cut.py") 411, PySem.Value.int 140 0, PySem.Value.int 1 0,
          PySem.Value.int 0 0, PySem.Value.int 0 0, PySem.Value.int 3 0, PySem.Value.ref 175, PySem.Value.bool true,
          PySem.Value.int 181 0, PySem.Value.ref 176, PySem.Value.none, PySem.Value.ref 177, PySem.Value.ref 178,
          PySem.Value.ref 179, PySem.Value.int 414 0, PySem.Value.int 140 0,
          PySem.Value.str (PySem.Str.ofString "/claim/cut.py") 415] })
  , (181,
  { cls := PySem.Value.type "function",
    data :=
      PySem.Data.func
        { name := PySem.Str.ofString "_law_column", qualname := PySem.Str.ofString "_law_column", params := dPar (topS 18),
          body := .stmts (dBody (topS 18)), scope := dScope (topS 18), globals := 3, closure := [], defaults := PySem.Value.none,
          kwdefaults := PySem.Value.none, pyModule := PySem.Value.str (PySem.Str.ofString "law_mr0230_01") 357,
          code := PySem.Value.ref 180 } })
  , (182, { cls := PySem.Value.type "tuple", data := PySem.Data.seq #[] })
  , (184,
  { cls := PySem.Value.type "tuple",
    data :=
      PySem.Data.seq
        #[PySem.Value.str (PySem.Str.ofString "words") 420, PySem.Value.str (PySem.Str.ofString "sizes") 421,
          PySem.Value.str (PySem.Str.ofString "left") 422, PySem.Value.str (PySem.Str.ofString "inside") 423,
          PySem.Value.str (PySem.Str.ofString "sign") 424] })
  , (185, { cls := PySem.Value.type "tuple", data := PySem.Data.seq #[] })
  , (187,
  { cls := PySem.Value.type "code",
    data :=
      PySem.Data.fields
        #[PySem.Value.str (PySem.Str.ofString "_law_read") 417, PySem.Value.str (PySem.Str.ofString "_law_read") 418,
          PySem.Value.str (PySem.Str.ofString "/claim/cut.py") 419, PySem.Value.int 145 0, PySem.Value.int 1 0,
          PySem.Value.int 0 0, PySem.Value.int 0 0, PySem.Value.int 3 0, PySem.Value.ref 182, PySem.Value.bool true,
          PySem.Value.int 181 0, PySem.Value.ref 183, PySem.Value.none, PySem.Value.ref 184, PySem.Value.ref 185,
          PySem.Value.ref 186, PySem.Value.int 425 0, PySem.Value.int 145 0,
          PySem.Value.str (PySem.Str.ofString "/claim/cut.py") 426] })
  , (188,
  { cls := PySem.Value.type "function",
    data :=
      PySem.Data.func
        { name := PySem.Str.ofString "_law_read", qualname := PySem.Str.ofString "_law_read", params := dPar (topS 19),
          body := .stmts (dBody (topS 19)), scope := dScope (topS 19), globals := 3, closure := [], defaults := PySem.Value.none,
          kwdefaults := PySem.Value.none, pyModule := PySem.Value.str (PySem.Str.ofString "law_mr0230_01") 357,
          code := PySem.Value.ref 187 } })
  , (189, { cls := PySem.Value.type "tuple", data := PySem.Data.seq #[] })
  , (192,
  { cls := PySem.Value.type "code",
    data :=
      PySem.Data.fields
        #[PySem.Value.str (PySem.Str.ofString "law") 428, PySem.Value.str (PySem.Str.ofString "law") 429,
          PySem.Value.str (PySem.Str.ofString "/claim/cut.py") 430, PySem.Value.int 156 0, PySem.Value.int 1 0,
          PySem.Value.int 0 0, PySem.Value.int 0 0, PySem.Value.int 3 0, PySem.Value.ref 189, PySem.Value.bool true,
          PySem.Value.int 181 0, PySem.Value.ref 190, PySem.Value.none, PySem.Value.none, PySem.Value.none,
          PySem.Value.ref 191, PySem.Value.int 431 0, PySem.Value.int 156 0,
          PySem.Value.str (PySem.Str.ofString "/claim/cut.py") 432] })
  , (193,
  { cls := PySem.Value.type "function",
    data :=
      PySem.Data.func
        { name := PySem.Str.ofString "law", qualname := PySem.Str.ofString "law", params := dPar (topS 20), body := .stmts (dBody (topS 20)),
          scope := dScope (topS 20), globals := 3, closure := [], defaults := PySem.Value.none, kwdefaults := PySem.Value.none,
          pyModule := PySem.Value.str (PySem.Str.ofString "law_mr0230_01") 357, code := PySem.Value.ref 192 } })
  ]
set_option maxHeartbeats 4000000 in
noncomputable def kLaid (P : Params) : { K : Frag // kRaw P = K } := by
  unfold kRaw
  dsimp only [dPar, dBody, dScope, topS, methS, inCls, sAt, pw, PySem.Challenge.pw_mr0230_01]
  exact ⟨_, rfl⟩
noncomputable def heapK (P : Params) : Frag := (kLaid P).1
abbrev asK : List Addr := [2, 3, 25, 27, 28, 30, 31, 32, 34, 35, 37, 38, 39, 41, 42, 44, 45, 46, 48, 49, 51, 52, 53, 55, 56, 58, 59, 60, 62, 63, 65, 66, 67, 69, 70, 72, 73, 74, 75, 76, 77, 78, 81, 83, 84, 86, 87, 88, 90, 91, 93, 94, 95, 97, 98, 100, 101, 102, 104, 105, 107, 108, 109, 111, 112, 114, 115, 116, 118, 119, 121, 122, 123, 125, 126, 128, 129, 130, 132, 133, 135, 136, 137, 140, 141, 142, 145, 146, 147, 149, 150, 152, 153, 154, 156, 157, 159, 160, 161, 163, 164, 166, 167, 168, 170, 171, 173, 174, 175, 177, 178, 180, 181, 182, 184, 185, 187, 188, 189, 192, 193]
def viewK : Program := { pw with main := { pw.main with body := [topS 1, topS 2, topS 4, topS 5, topS 6, topS 7, topS 8, topS 9, topS 10, topS 12, topS 13, topS 14, topS 15, topS 16, topS 17, topS 18, topS 19, topS 20] } }
theorem asK_ok (P : Params) : asK = (heapK P).map (·.1) := by kernel_rfl
noncomputable abbrev hookK : Hook := kHook heapK asK asK_ok

/-! text Hl -/
set_option maxHeartbeats 0 in
theorem saidK : PySem.Challenge.rw_mr0230_01.wellSaid = true := by decide +kernel
abbrev LeftAt (w : World) : Prop := (openEnds treeTable PySem.Challenge.rw_mr0230_01.row.prog w 2182).map (fun s => (openSeen viewK [Str.ofString "Whitespace"] (importedModules PySem.Challenge.rw_mr0230_01.row.prog.main.body) (fun s => xlAt viewK [] s && recOk (RowW.records PySem.Challenge.rw_mr0230_01.row.toRowW) s) true s, Hook.obs hookK s)) = some (openGood viewK [Str.ofString "Whitespace"], Hook.val hookK w)
set_option maxHeartbeats 0 in
theorem leftF (w : World) : LeftAt (w.withFollow "special-get-raises" false) := by kernel_rfl
set_option maxHeartbeats 0 in
theorem leftT (w : World) : LeftAt (w.withFollow "special-get-raises" true) := by kernel_rfl
theorem leftK : LeftO PySem.Challenge.rw_mr0230_01.row.prog viewK [Str.ofString "Whitespace"] (fun s => xlAt viewK [] s && recOk (RowW.records PySem.Challenge.rw_mr0230_01.row.toRowW) s) (Hook.obs hookK) (Hook.val hookK) 2182 :=
  fun w => byRow2 "special-get-raises" (P := LeftAt) leftF leftT w
set_option maxHeartbeats 0 in
theorem witK : PySem.Challenge.rw_mr0230_01.row.toRowW.promised := by w_witness2
set_option maxHeartbeats 0 in
theorem hd (walk : ∀ d : DefRec, d.name = Str.ofString "law" → WalkO viewK [Str.ofString "Whitespace"] (XL viewK []) (Hook.says hookK) PySem.Challenge.rw_mr0230_01.row.toRowW d [] fun f vs => PySem.call f vs) : PySem.Challenge.rw_mr0230_01.Holds := by
  refine holds_law saidK fun said => ?_
  exact holds_open (q := viewK) (loose := [Str.ofString "Whitespace"]) (Xt := fun s => xlAt viewK [] s && recOk (RowW.records PySem.Challenge.rw_mr0230_01.row.toRowW) s) (XP := XL viewK []) (Yf := Hook.obs hookK) (Ya := Hook.val hookK) (YP := Hook.says hookK) (N := 2182) leftK (Hook.of hookK) (Hook.keeps hookK)
    (fun s e => xl_of s (Bool.and_eq_true_iff.mp e).1) XL.keeps (by rfl) (by rfl) (by rfl) (fun s e => recFacts_of (Bool.and_eq_true_iff.mp e).2) (by rfl) said (by decide +kernel) ⟨rfl, rfl, rfl, rfl, rfl, by decide +kernel⟩ witK (walk _ rfl)

/-! text L1 -/
/-! the layer: plain data, what a value shows, growth of the heap -/
abbrev Look := Addr → Option Obj
abbrev PT : Addr := 82
abbrev tupO (vs : List Value) (n : Nat) : Obj := { cls := .type "tuple", data := .seq vs.toArray n }
abbrev lstO (vs : List Value) (n : Nat) : Obj := { cls := .type "list", data := .seq vs.toArray n }
noncomputable abbrev KK (P : Params) : Frag := heapK P

inductive D where
  | none
  | bool (b : Bool)
  | int (i : Int)
  | str (x : Str)
  | tup (ds : List D)
  | lst (ds : List D)
  | rng (a b : Int)
  | typ (T : String)
  | ws (raw : Str) (n nt : Int) (cnt : List Int) (b : Int) (simple : Bool)
  | gen (a : Addr)
  /-- a Whitespace object that __init__ still fills -/
  | self (x dx : Addr) (od : Option Obj)

/-- the member names of a Whitespace object, in the order in which __init__ stores them -/
abbrev wsKeys : List Str := [Str.ofString "raw", Str.ofString "n", Str.ofString "nt", Str.ofString "norm", Str.ofString "is_simple"]

/-- the dict of an object holds the members' values -/
def WsDict (o : Obj) (raw n nt norm simple : Value) : Prop :=
  ∃ es ep, o = dictOf es ep ∧
    getL (Str.ofString "raw") es = some (some raw) ∧ getL (Str.ofString "n") es = some (some n) ∧ getL (Str.ofString "nt") es = some (some nt) ∧
    getL (Str.ofString "norm") es = some (some norm) ∧ getL (Str.ofString "is_simple") es = some (some simple) ∧
    ∀ x, x ∉ wsKeys → getL x es = some none

mutual
inductive Is (σ : Look) : Value → D → Prop
  | none : Is σ .none .none
  | bool (b : Bool) : Is σ (.bool b) (.bool b)
  | int (i : Int) (t : Tok) : Is σ (.int i t) (.int i)
  | str (x : Str) (t : Tok) : Is σ (.str x t) (.str x)
  | tup {a : Addr} {vs : List Value} {n : Nat} {ds : List D} : σ a = some (tupO vs n) → All σ vs ds → Is σ (.ref a) (.tup ds)
  | lst {a : Addr} {vs : List Value} {n : Nat} {ds : List D} : σ a = some (lstO vs n) → All σ vs ds → Is σ (.ref a) (.lst ds)
  | rng {r : Addr} {a b : Int} {t u v : Tok} : σ r = some { cls := .type "range", dict := none, data := .fields #[.int a t, .int b u, .int 1 v], slots := #[] } → Is σ (.ref r) (.rng a b)
  | typ (T : String) : Is σ (.type T) (.typ T)
  | gen (a : Addr) : Is σ (.ref a) (.gen a)
  | ws {x dx : Addr} {od : Obj} {raw : Str} {n nt b : Int} {cnt : List Int} {simple : Bool} {vr vn vt vm vb : Value} :
      σ x = some { cls := .ref 76, dict := some dx, data := .plain } → σ dx = some od → WsDict od vr vn vt vm vb →
      Is σ vr (.str raw) → Is σ vn (.int n) → Is σ vt (.int nt) → Is σ vm (.tup [.tup (cnt.map .int), .int b]) → Is σ vb (.bool simple) →
      Is σ (.ref x) (.ws raw n nt cnt b simple)
  | self {x dx : Addr} {od : Option Obj} : σ x = some { cls := .ref 76, dict := some dx, data := .plain } → (∀ o, od = some o → σ dx = some o) → Is σ (.ref x) (.self x dx od)
inductive All (σ : Look) : List Value → List D → Prop
  | nil : All σ [] []
  | cons {v : Value} {vs : List Value} {d : D} {ds : List D} : Is σ v d → All σ vs ds → All σ (v :: vs) (d :: ds)
end

abbrev LeL (σ σ' : Look) : Prop := ∀ a o, σ a = some o → σ' a = some o
mutual
theorem Is.mono {σ σ' : Look} (hs : LeL σ σ') : ∀ {v : Value} {d : D}, Is σ v d → Is σ' v d
  | _, _, .none => .none
  | _, _, .bool b => .bool b
  | _, _, .int i t => .int i t
  | _, _, .str x t => .str x t
  | _, _, .tup h r => .tup (hs _ _ h) (All.mono hs r)
  | _, _, .lst h r => .lst (hs _ _ h) (All.mono hs r)
  | _, _, .rng h => .rng (hs _ _ h)
  | _, _, .typ T => .typ T
  | _, _, .gen a => .gen a
  | _, _, .ws h1 h2 h3 a b c d e => .ws (hs _ _ h1) (hs _ _ h2) h3 (Is.mono hs a) (Is.mono hs b) (Is.mono hs c) (Is.mono hs d) (Is.mono hs e)
  | _, _, .self h k => .self (hs _ _ h) fun o e => hs _ _ (k o e)
theorem All.mono {σ σ' : Look} (hs : LeL σ σ') : ∀ {vs : List Value} {ds : List D}, All σ vs ds → All σ' vs ds
  | _, _, .nil => .nil
  | _, _, .cons h r => .cons (Is.mono hs h) (All.mono hs r)
end
section
variable {σ : Look} {v : Value} {vs ws : List Value} {d : D} {ds es : List D}
theorem All.length (h : All σ vs ds) : vs.length = ds.length := by
  induction vs generalizing ds with
  | nil => cases h; rfl
  | cons v vs ih => cases h with | cons _ r => rw [List.length_cons, List.length_cons, ih r]
theorem All.append (h : All σ vs ds) (k : All σ ws es) : All σ (vs ++ ws) (ds ++ es) := by
  induction vs generalizing ds with
  | nil => cases h; exact k
  | cons v vs ih => cases h with | cons h r => exact .cons h (ih r)
theorem All.one (h : Is σ v d) : All σ [v] [d] := .cons h .nil
theorem All.get (h : All σ vs ds) {k : Nat} {d : D} (hk : ds[k]? = some d) : ∃ v, vs[k]? = some v ∧ Is σ v d := by
  induction vs generalizing ds k with
  | nil => cases h; cases hk
  | cons v vs ih =>
    cases h with
    | cons h r =>
      cases k with
      | zero => cases hk; exact ⟨v, rfl, h⟩
      | succ k => exact ih r hk
theorem All.get' (h : All σ vs ds) {k : Nat} {v : Value} (hk : vs[k]? = some v) : ∃ d, ds[k]? = some d ∧ Is σ v d := by
  induction vs generalizing ds k with
  | nil => cases hk
  | cons v vs ih =>
    cases h with
    | cons h r =>
      cases k with
      | zero => cases hk; exact ⟨_, rfl, h⟩
      | succ k => exact ih r hk
end

structure Cx where
  prog : Program
  w : World
  H : Heap
abbrev Cx.M (c : Cx) : Model := model c.prog c.w

structure Cx.Ok (c : Cx) : Prop where
  k : (KK c.w.params).In c.H
  g : ∃ mg, c.H.Ns mainGlobals mg
  b : ∃ mb, c.H.Ns builtinsNs mb ∧ ∀ x : Str, x ≠ "__name__" → mb x = bootBuiltins x
  nolimit : c.H.NoLimit

/-- the heap's table of format_witnesses' own code stands well -/
def TabOk (h : Heap) : Prop := ∃ ps, h.IsCode 86 PT ps ∧ h.TableAt 86 PT ps

structure PreG (c : Cx) (σ : Look) (s : Shared) : Prop where
  sub : ∀ a o, σ a = some o → s.heap.get? a = some o
  base : ∀ a o, a ≠ PT → c.H.get? a = some o → σ a = some o
  pt : σ PT = none
  tab : TabOk s.heap
  gens : AllBare s.gens

/-- the world outside and the generators that are there -/
abbrev OG := OsState × Array GenState
structure OGle (a b : OG) : Prop where
  os : b.1 = a.1
  gk : ∀ (k : Nat) x, a.2[k]? = some x → b.2[k]? = some x
theorem OGle.same (a : OG) : OGle a a := ⟨rfl, fun _ _ e => e⟩
theorem OGle.trans {a b c : OG} (y : OGle b c) (x : OGle a b) : OGle a c := ⟨y.os.trans x.os, fun k v e => y.gk k v (x.gk k v e)⟩
structure Grow (σ : Look) (s : Shared) (σ' : Look) (s' : Shared) : Prop where
  keep : ∀ a o, a ≠ PT → s.heap.get? a = some o → s'.heap.get? a = some o
  le : LeL σ σ'
  sub : ∀ a o, σ' a = some o → s'.heap.get? a = some o
  new : ∀ a, σ' a ≠ none → σ a ≠ none ∨ s.heap.get? a = none
  os : OGle (s.os, s.gens) (s'.os, s'.gens)
  tab : TabOk s'.heap
  gens : AllBare s'.gens
  pt : σ' PT = none

theorem none_back {h h' : Heap} {a : Addr} (hk : ∀ o, h.get? a = some o → h'.get? a = some o) (e : h'.get? a = none) : h.get? a = none := by
  cases q : h.get? a with
  | none => rfl
  | some o => rw [hk o q] at e; cases e
theorem Grow.refl {c : Cx} {σ : Look} {s : Shared} (p : PreG c σ s) : Grow σ s σ s :=
  ⟨fun _ _ _ e => e, fun _ _ e => e, p.sub, fun _ h => .inl h, .same _, p.tab, p.gens, p.pt⟩
theorem Grow.pre {c : Cx} {σ σ' : Look} {s s' : Shared} (p : PreG c σ s) (g : Grow σ s σ' s') : PreG c σ' s' :=
  ⟨g.sub, fun a o h e => g.le _ _ (p.base a o h e), g.pt, g.tab, g.gens⟩
theorem Grow.trans {σ σ₁ σ₂ : Look} {s s₁ s₂ : Shared} (g : Grow σ s σ₁ s₁) (k : Grow σ₁ s₁ σ₂ s₂) : Grow σ s σ₂ s₂ :=
  ⟨fun a o h e => k.keep a o h (g.keep a o h e), fun a o e => k.le _ _ (g.le _ _ e), k.sub,
   fun a h => (k.new a h).elim (fun h => g.new a h) fun h' => .inr (none_back (fun o e => g.keep a o (fun q => h (q ▸ k.pt)) e) h'), k.os.trans g.os, k.tab, k.gens, k.pt⟩

theorem TabOk.keeps {h h' : Heap} (x : TabOk h) (hk : ∀ b o, h.get? b = some o → h'.get? b = some o) : TabOk h' :=
  let ⟨ps, a, b⟩ := x; ⟨ps, a.keeps hk, b.keeps hk⟩
theorem TabOk.lt {h : Heap} (x : TabOk h) : PT < h.objs.size := let ⟨_, _, b⟩ := x; Heap.lt_size b.2
theorem PreG.keepAll {c : Cx} {σ : Look} {s : Shared} (p : PreG c σ s) : ∀ a o, a ≠ PT → c.H.get? a = some o → s.heap.get? a = some o := fun a o h e => p.sub _ _ (p.base a o h e)

/-- the heap alone has grown, nothing is shown anew -/
theorem Grow.heap {c : Cx} {σ : Look} {s : Shared} {h' : Heap} {tk : Nat} (p : PreG c σ s) (hk : ∀ a o, s.heap.get? a = some o → h'.get? a = some o) :
    Grow σ s σ { s with heap := h', toks := tk } :=
  ⟨fun a o _ e => hk a o e, fun _ _ e => e, fun a o e => hk _ _ (p.sub _ _ e), fun _ h => .inl h, .same _, p.tab.keeps hk, p.gens, p.pt⟩
/-- a new object is shown -/
def put (σ : Look) (a : Addr) (o : Obj) : Look := fun b => if b = a then some o else σ b
theorem put_self {σ : Look} {a : Addr} {o : Obj} : put σ a o a = some o := by simp [put]
theorem put_le {c : Cx} {σ : Look} {s : Shared} {o : Obj} (p : PreG c σ s) : LeL σ (put σ s.heap.objs.size o) := fun a o' e => by
  unfold put
  rw [if_neg]
  · exact e
  · rintro rfl; exact Nat.lt_irrefl _ (Heap.lt_size (p.sub _ _ e))
theorem size_none (h : Heap) : h.get? h.objs.size = none := by
  cases q : h.get? h.objs.size with
  | none => rfl
  | some o => exact absurd (Heap.lt_size q) (Nat.lt_irrefl _)
theorem ge_none {h : Heap} {a : Addr} (hb : h.objs.size ≤ a) : h.get? a = none := by
  cases q : h.get? a with
  | none => rfl
  | some o => exact absurd (Heap.lt_size q) (Nat.not_lt.mpr hb)
theorem Grow.alloc {c : Cx} {σ : Look} {s : Shared} {o : Obj} {tk : Nat} (p : PreG c σ s) (hf : o.isFreed = false := by rfl) :
    Grow σ s (put σ s.heap.objs.size o) { s with heap := s.heap.push o, toks := tk } := by
  have hk : ∀ a o', s.heap.get? a = some o' → (s.heap.push o).get? a = some o' := fun a o' e => Heap.get?_push_of_some _ e
  refine ⟨fun a o' _ e => hk a o' e, put_le p, fun a o' e => ?_, fun a h => ?_, .same _, p.tab.keeps hk, p.gens, ?_⟩
  · unfold put at e
    split at e
    · rename_i h; subst h; cases e; exact Heap.get?_push_size _ hf
    · exact hk _ _ (p.sub _ _ e)
  · unfold put at h
    split at h
    · rename_i e; rw [e]; exact .inr (size_none _)
    · exact .inl h
  · unfold put
    rw [if_neg (Nat.ne_of_lt p.tab.lt)]
    exact p.pt

/-- what holds of a tree: it gives a value that shows d, and the heap only grows -/
abbrev Gives (c : Cx) (A : Around) (t : Sem Value) (d : D) (σ : Look) (s : Shared) : Prop :=
  ∀ (Q : Value → Shared → Prop) (E : Value → Shared → Prop), (∀ v s' σ', Grow σ s σ' s' → Is σ' v d → Q v s') → wpAny c.M A t Q E s

theorem gives_tuple {c : Cx} {A : Around} {σ : Look} {s : Shared} {vs : List Value} {ds : List D} (p : PreG c σ s) (h : All σ vs ds) (hz : vs.length ≤ sizeLine) : Gives c A (newTuple vs) (.tup ds) σ s := by
  intro Q E k
  refine wpAny_newObj_type ?_ (by show vs.toArray.size ≤ sizeLine; rw [List.size_toArray]; exact hz)
  exact k _ _ _ (Grow.alloc p) (.tup put_self (h.mono (put_le p)))
theorem gives_list {c : Cx} {A : Around} {σ : Look} {s : Shared} {vs : List Value} {ds : List D} (p : PreG c σ s) (h : All σ vs ds) (hz : vs.length ≤ sizeLine) : Gives c A (newList vs) (.lst ds) σ s := by
  intro Q E k
  refine wpAny_newObj_type ?_ (by show vs.toArray.size ≤ sizeLine; rw [List.size_toArray]; exact hz)
  exact k _ _ _ (Grow.alloc p) (.lst put_self (h.mono (put_le p)))

/-! text L2 -/
/-! frames, expressions -/
inductive B where
  | im (d : D)
  | ow (ds : List D)
abbrev Sto := Str → Option B
def upd (ρ : Sto) (x : Str) (b : B) : Sto := fun y => if y = x then some b else ρ y

def VarAt (env : Env) (h : Heap) (x : Str) (v : Value) : Prop :=
  env.scope.kind = .function ∧ ((env.kindOf x = some .local ∧ env.locals ≠ PT ∧ ∃ m, h.Ns env.locals m ∧ m x = some v) ∨
    (env.kindOf x = some .cell ∧ ∃ a, env.cells.lookup x = some a ∧ a ≠ PT ∧ h.IsCell a (some v)))
theorem VarAt.keeps {env : Env} {h h' : Heap} {x : Str} {v : Value} (x' : VarAt env h x v) (hk : ∀ a o, a ≠ PT → h.get? a = some o → h'.get? a = some o) : VarAt env h' x v := by
  obtain ⟨k, h1 | h1⟩ := x'
  · obtain ⟨a, n, m, ⟨o, es, ep, e, r⟩, b⟩ := h1
    exact ⟨k, .inl ⟨a, n, m, ⟨o, es, ep, hk _ _ n e, r⟩, b⟩⟩
  · obtain ⟨a, c, b, n, ⟨o, e, r⟩⟩ := h1
    exact ⟨k, .inr ⟨a, c, b, n, ⟨o, hk _ _ n e, r⟩⟩⟩

/-- an owned list: held by a name, no part of what is shown -/
structure Owned (σ : Look) (h : Heap) (a : Addr) (ds : List D) : Prop where
  at_ : ∃ vs n, h.get? a = some (lstO vs n) ∧ All σ vs ds
  off : σ a = none
  npt : a ≠ PT

def BAt (env : Env) (σ : Look) (h : Heap) (x : Str) : B → Prop
  | .im d => ∃ v, VarAt env h x v ∧ Is σ v d
  | .ow ds => ∃ a, VarAt env h x (.ref a) ∧ Owned σ h a ds

def Vars (env : Env) (ρ : Sto) (σ : Look) (h : Heap) : Prop := ∀ x b, ρ x = some b → BAt env σ h x b

theorem Owned.grow {σ σ' : Look} {s s' : Shared} {a : Addr} {ds : List D} (x : Owned σ s.heap a ds) (g : Grow σ s σ' s') : Owned σ' s'.heap a ds := by
  obtain ⟨⟨vs, n, e, al⟩, off, np⟩ := x
  refine ⟨⟨vs, n, g.keep _ _ np e, al.mono g.le⟩, ?_, np⟩
  cases h : σ' a with
  | none => rfl
  | some o' =>
    rcases g.new a (by rw [h]; exact Option.some_ne_none _) with h' | h'
    · exact absurd off h'
    · rw [e] at h'; cases h'
theorem BAt.grow {env : Env} {σ σ' : Look} {s s' : Shared} {x : Str} {b : B} (h : BAt env σ s.heap x b) (g : Grow σ s σ' s') : BAt env σ' s'.heap x b := by
  cases b with
  | im d => obtain ⟨v, hv, i⟩ := h; exact ⟨v, hv.keeps g.keep, i.mono g.le⟩
  | ow ds => obtain ⟨a, hv, o⟩ := h; exact ⟨a, hv.keeps g.keep, o.grow g⟩
theorem Vars.grow {env : Env} {ρ : Sto} {σ σ' : Look} {s s' : Shared} (h : Vars env ρ σ s.heap) (g : Grow σ s σ' s') : Vars env ρ σ' s'.heap := fun x b e => (h x b e).grow g

structure Room (A : Around) (k : Nat) : Prop where
  handled : A.handled = none
  depth : A.depth + k ≤ 900
  units : A.units + 40 * k ≤ 9000
theorem Room.mono {A : Around} {k n : Nat} (R : Room A n) (h : k ≤ n) : Room A k := ⟨R.handled, by have := R.depth; omega, by have := R.units; omega⟩
theorem Room.deeper {A : Around} {k : Nat} (R : Room A (k + 1)) (env : Env) : Room (A.deeper env) k := ⟨R.handled, by have := R.depth; show A.depth + 1 + k ≤ 900; omega, by have := R.units; show A.units + 3 + 40 * k ≤ 9000; omega⟩

/-- an expression's tree gives d -/
def Ev (c : Cx) (A : Around) (env : Env) (ρ : Sto) (t : Sem Value) (d : D) : Prop := ∀ s σ, PreG c σ s → Vars env ρ σ s.heap → Gives c A t d σ s
/-- a test's tree gives b -/
def Tst (c : Cx) (A : Around) (env : Env) (ρ : Sto) (e : Expr) (b : Bool) : Prop :=
  ∀ s σ, PreG c σ s → Vars env ρ σ s.heap → ∀ (Q : Bool → Shared → Prop) (E : Value → Shared → Prop), (∀ s' σ', Grow σ s σ' s' → Q b s') → wpAny c.M A (isTrue e env (eval e env)) Q E s
/-- expressions, from the left -/
def Evs (c : Cx) (A : Around) (env : Env) (ρ : Sto) (es : List Expr) (ds : List D) : Prop :=
  ∀ pos s σ, PreG c σ s → Vars env ρ σ s.heap → ∀ (Q : List Value → Shared → Prop) (E : Value → Shared → Prop), (∀ vs s' σ', Grow σ s σ' s' → All σ' vs ds → Q vs s') → wpAny c.M A (spliced (backTo pos (starEach es env))) Q E s
abbrev Op2 (c : Cx) (A : Around) (f : Value → Value → Sem Value) (d1 d2 d : D) : Prop := ∀ s σ v1 v2, PreG c σ s → Is σ v1 d1 → Is σ v2 d2 → Gives c A (f v1 v2) d σ s
abbrev Op1 (c : Cx) (A : Around) (f : Value → Sem Value) (d1 d : D) : Prop := ∀ s σ v1, PreG c σ s → Is σ v1 d1 → Gives c A (f v1) d σ s
/-- a call of f on data ds gives d, at every place with room k -/
def Fn (c : Cx) (k : Nat) (f : Value) (ds : List D) (d : D) : Prop := ∀ A s σ vs, Room A k → PreG c σ s → All σ vs ds → Gives c A (call f vs) d σ s

section
variable {c : Cx} {A : Around} {env : Env} {ρ : Sto}

theorem Ev.name {x : Str} {pos : Pos} {d : D} (h : ρ x = some (.im d)) (hd : (x == ("__debug__" : Str)) = false := by decide) : Ev c A env ρ (eval (.Name x pos) env) d := by
  intro s σ p V Q E k
  obtain ⟨v, ⟨hk, h1 | h1⟩, i⟩ := V _ _ h
  · obtain ⟨a, _, m, n, e⟩ := h1
    exact wpAny_Name (wpAny_loadName_local hk a n e (k _ _ _ (.refl p) i)) hd
  · obtain ⟨a, b, e, _, e'⟩ := h1
    exact wpAny_Name (wpAny_loadName_cell hk a e e' (k _ _ _ (.refl p) i)) hd
theorem grow_tok {σ : Look} {s : Shared} {tk : Nat} (p : PreG c σ s) : Grow σ s σ { s with toks := tk } := .heap p (fun _ _ e => e)
theorem Ev.int {i : Int} {k : Nat} {pos : Pos} : Ev c A env ρ (eval (.Constant (.int i) k pos) env) (.int i) := fun _ _ p _ _ _ k => wpAny_Constant_int (k _ _ _ (grow_tok p) (.int _ _))
theorem Ev.str {x : Str} {k : Nat} {pos : Pos} : Ev c A env ρ (eval (.Constant (.str x) k pos) env) (.str x) := fun _ _ p _ _ _ k => wpAny_Constant_str (k _ _ _ (grow_tok p) (.str _ _))
theorem Ev.bool {b : Bool} {k : Nat} {pos : Pos} : Ev c A env ρ (eval (.Constant (.bool b) k pos) env) (.bool b) := fun _ _ p _ _ _ k => wpAny_Constant_bool (k _ _ _ (.refl p) (.bool _))
theorem Ev.bin {l r : Expr} {op : Operator} {pos : Pos} {d1 d2 d : D} (hl : Ev c A env ρ (eval l env) d1) (hr : Ev c A env ρ (eval r env) d2) (ho : Op2 c A (binaryOp op) d1 d2 d) : Ev c A env ρ (eval (.BinOp l op r pos) env) d := by
  intro s σ p V Q E k
  refine wpAny_BinOp (hl s σ p V _ _ fun v s1 σ1 g1 i1 => hr s1 σ1 (g1.pre p) (V.grow g1) _ _ fun v2 s2 σ2 g2 i2 => ?_)
  exact ho s2 σ2 _ _ (g2.pre (g1.pre p)) (i1.mono g2.le) i2 _ _ fun v s' σ' g i => k _ _ _ ((g1.trans g2).trans g) i
theorem Ev.cmp {l r : Expr} {op : CmpOp} {pos : Pos} {d1 d2 d : D} (hl : Ev c A env ρ (eval l env) d1) (hr : Ev c A env ρ (eval r env) d2) (ho : Op2 c A (compareOp op) d1 d2 d) (hm : behindInMarks op r = false := by with_unfolding_all rfl) : Ev c A env ρ (eval (.Compare l [op] [r] pos) env) d := by
  intro s σ p V Q E k
  refine wpAny_Compare1 (hl s σ p V _ _ fun v s1 σ1 g1 i1 => hr s1 σ1 (g1.pre p) (V.grow g1) _ _ fun v2 s2 σ2 g2 i2 => ?_) hm
  exact ho s2 σ2 _ _ (g2.pre (g1.pre p)) (i1.mono g2.le) i2 _ _ fun v s' σ' g i => k _ _ _ ((g1.trans g2).trans g) i
theorem Tst.cmp {l r : Expr} {op : CmpOp} {pos : Pos} {d1 d2 : D} {b : Bool} (hl : Ev c A env ρ (eval l env) d1) (hr : Ev c A env ρ (eval r env) d2) (ho : Op2 c A (compareOp op) d1 d2 (.bool b)) (hm : behindInMarks op r = false := by with_unfolding_all rfl) : Tst c A env ρ (.Compare l [op] [r] pos) b := by
  intro s σ p V Q E k
  refine wpAny_isTrue_Compare1 (hl s σ p V _ _ fun v s1 σ1 g1 i1 => hr s1 σ1 (g1.pre p) (V.grow g1) _ _ fun v2 s2 σ2 g2 i2 => ?_) hm
  refine ho s2 σ2 _ _ (g2.pre (g1.pre p)) (i1.mono g2.le) i2 _ _ fun v s' σ' g i => ?_
  cases i
  exact wpAny_truthy_bool (k _ _ ((g1.trans g2).trans g))
/-- a op1 b op2 d, three operands -/
theorem Ev.chain {l r1 r2 : Expr} {o1 o2 : CmpOp} {pos : Pos} {d1 d2 d3 : D} {b1 b2 : Bool} (hl : Ev c A env ρ (eval l env) d1) (h1 : Ev c A env ρ (eval r1 env) d2) (h2 : Ev c A env ρ (eval r2 env) d3)
    (q1 : Op2 c A (compareOp o1) d1 d2 (.bool b1)) (q2 : Op2 c A (compareOp o2) d2 d3 (.bool b2)) (hm : lastMarks [o1, o2] [r1, r2] = false := by with_unfolding_all rfl) :
    Ev c A env ρ (eval (.Compare l [o1, o2] [r1, r2] pos) env) (.bool (b1 && b2)) := by
  intro s σ p V Q E k
  refine Compare_chain (rs := []) (hl s σ p V _ _ fun v s1 σ1 g1 i1 => chain_link (h1 s1 σ1 (g1.pre p) (V.grow g1) _ _ fun v2 s2 σ2 g2 i2 => ?_)) hm
  refine q1 s2 σ2 _ _ (g2.pre (g1.pre p)) (i1.mono g2.le) i2 _ _ fun v3 s3 σ3 g3 i3 => ?_
  have g := (g1.trans g2).trans g3
  cases i3
  refine wpAny_truthy_bool ?_
  cases b1 with
  | false => exact k _ _ _ g (.bool _)
  | true =>
    refine chain_last (h2 s3 σ3 (g.pre p) (V.grow g) _ _ fun v4 s4 σ4 g4 i4 => ?_)
    exact q2 s4 σ4 _ _ (g4.pre (g.pre p)) (i2.mono (fun a o e => g4.le _ _ (g3.le _ _ e))) i4 _ _ fun v5 s5 σ5 g5 i5 => k _ _ _ ((g.trans g4).trans g5) i5
theorem Tst.plain {e : Expr} {b : Bool} (h : Ev c A env ρ (eval e env) (.bool b)) (he : isTrue e env (eval e env) = (do let v ← eval e env; standAt e.pos; holding [v] (truthy v)) := by rfl) : Tst c A env ρ e b := by
  intro s σ p V Q E k
  refine isTrue_plain (h s σ p V _ _ fun v s1 σ1 g1 i1 => ?_) he
  cases i1
  exact wpAny_truthy_bool (k _ _ g1)
theorem Tst.not {e : Expr} {pos : Pos} {b : Bool} (h : Tst c A env ρ e b) : Tst c A env ρ (.UnaryOp .Not e pos) (!b) := by
  intro s σ p V Q E k
  exact wpAny_isTrue_Not (h s σ p V _ _ fun s1 σ1 g1 => k _ _ g1)
/-- an int's truth -/
theorem Tst.intT {e : Expr} {i : Int} (h : Ev c A env ρ (eval e env) (.int i)) (he : isTrue e env (eval e env) = (do let v ← eval e env; standAt e.pos; holding [v] (truthy v)) := by rfl) : Tst c A env ρ e (i != 0) := by
  intro s σ p V Q E k
  refine isTrue_plain (h s σ p V _ _ fun v s1 σ1 g1 i1 => ?_) he
  cases i1
  exact truthy_int (k _ _ g1)
/-- tests joined by and, or -/
theorem Tst.and2 {x y : Expr} {pos : Pos} {a b : Bool} (hx : Tst c A env ρ x a) (hy : a = true → Tst c A env ρ y b) : Tst c A env ρ (.BoolOp .And [x, y] pos) (a && b) := by
  intro s σ p V Q E k
  refine wpAny_isTrue_BoolOp (wpAny_allTrue_And_cons (hx s σ p V _ _ fun s1 σ1 g1 => ?_))
  cases a with
  | false => exact k _ _ g1
  | true =>
    refine wpAny_allTrue_And_cons (hy rfl s1 σ1 (g1.pre p) (V.grow g1) _ _ fun s2 σ2 g2 => ?_)
    cases b with
    | false => exact k _ _ (g1.trans g2)
    | true => exact wpAny_allTrue_And_nil (k _ _ (g1.trans g2))
theorem Tst.or2 {x y : Expr} {pos : Pos} {a b : Bool} (hx : Tst c A env ρ x a) (hy : a = false → Tst c A env ρ y b) : Tst c A env ρ (.BoolOp .Or [x, y] pos) (a || b) := by
  intro s σ p V Q E k
  refine wpAny_isTrue_BoolOp (wpAny_allTrue_Or_cons (hx s σ p V _ _ fun s1 σ1 g1 => ?_))
  cases a with
  | true => exact k _ _ g1
  | false =>
    refine wpAny_allTrue_Or_cons (hy rfl s1 σ1 (g1.pre p) (V.grow g1) _ _ fun s2 σ2 g2 => ?_)
    cases b with
    | true => exact k _ _ (g1.trans g2)
    | false => exact wpAny_allTrue_Or_nil (k _ _ (g1.trans g2))
theorem Ev.and2 {x y : Expr} {pos : Pos} {a b : Bool} (hx : Ev c A env ρ (eval x env) (.bool a)) (hy : a = true → Ev c A env ρ (eval y env) (.bool b)) : Ev c A env ρ (eval (.BoolOp .And [x, y] pos) env) (.bool (a && b)) := by
  intro s σ p V Q E k
  refine wpAny_And2 (hx s σ p V _ _ fun v s1 σ1 g1 i1 => ?_)
  cases i1
  refine wpAny_truthy_bool ?_
  cases a with
  | false => exact k _ _ _ g1 (.bool _)
  | true => exact hy rfl s1 σ1 (g1.pre p) (V.grow g1) _ _ fun v2 s2 σ2 g2 i2 => k _ _ _ (g1.trans g2) i2
theorem Ev.ite {t x y : Expr} {pos : Pos} {b : Bool} {d1 d2 : D} (ht : Tst c A env ρ t b) (hx : b = true → Ev c A env ρ (eval x env) d1) (hy : b = false → Ev c A env ρ (eval y env) d2) : Ev c A env ρ (eval (.IfExp t x y pos) env) (if b then d1 else d2) := by
  intro s σ p V Q E k
  refine wpAny_IfExp (ht s σ p V _ _ fun s1 σ1 g1 => ?_)
  cases b with
  | true => exact hx rfl s1 σ1 (g1.pre p) (V.grow g1) _ _ fun v2 s2 σ2 g2 i2 => k _ _ _ (g1.trans g2) i2
  | false => exact hy rfl s1 σ1 (g1.pre p) (V.grow g1) _ _ fun v2 s2 σ2 g2 i2 => k _ _ _ (g1.trans g2) i2
theorem Evs.nil : Evs c A env ρ [] [] := fun _ _ _ p _ _ _ k => Calls.spliced_nil (k _ _ _ (.refl p) .nil)
/-- no star ahead of it -/
def unstar : Expr → Bool
  | .Starred .. => false
  | _ => true
theorem starEach_un {e : Expr} {es : List Expr} (h : unstar e = true) : starEach (e :: es) env = (false, eval e env) :: starEach es env := by
  cases e <;> first | rfl | cases h
theorem Evs.cons {e : Expr} {es : List Expr} {d : D} {ds : List D} (h : Ev c A env ρ (eval e env) d) (hs : Evs c A env ρ es ds) (hu : unstar e = true := by rfl) : Evs c A env ρ (e :: es) (d :: ds) := by
  intro pos s σ p V Q E k
  have he := starEach_un (env := env) (es := es) hu
  exact spliced_more (h s σ p V _ _ fun v s1 σ1 g1 i1 => hs pos s1 σ1 (g1.pre p) (V.grow g1) _ _ fun vs s2 σ2 g2 a2 => k _ _ _ (g1.trans g2) (.cons (i1.mono g2.le) a2)) he
theorem Ev.tuple {es : List Expr} {k : Nat} {pos : Pos} {ds : List D} (h : Evs c A env ρ es ds) (hz : ds.length ≤ sizeLine := by exact Nat.le_of_ble_eq_true rfl) : Ev c A env ρ (eval (.Tuple es k pos) env) (.tup ds) := by
  intro s σ p V Q E k
  exact Tuple_ (h pos s σ p V _ _ fun vs s1 σ1 g1 a1 => gives_tuple (g1.pre p) a1 (by rw [a1.length]; exact hz) _ _ fun v s2 σ2 g2 i2 => k _ _ _ (g1.trans g2) i2)
theorem Ev.list {es : List Expr} {pos : Pos} {ds : List D} (h : Evs c A env ρ es ds) (hz : ds.length ≤ sizeLine := by exact Nat.le_of_ble_eq_true rfl) : Ev c A env ρ (eval (.List es pos) env) (.lst ds) := by
  intro s σ p V Q E k
  exact List_ (h pos s σ p V _ _ fun vs s1 σ1 g1 a1 => gives_list (g1.pre p) a1 (by rw [a1.length]; exact hz) _ _ fun v s2 σ2 g2 i2 => k _ _ _ (g1.trans g2) i2)
end

/-! names of the module and built-ins; calls -/
theorem PreG.kin {c : Cx} (O : c.Ok) {σ : Look} {s : Shared} (p : PreG c σ s) {a : Addr} {o : Obj} (e : (KK c.w.params).lookup a = some o) (ha : a ≠ PT) : s.heap.get? a = some o := p.keepAll _ _ ha (O.k _ _ e)
theorem kk_noPT (P : Params) : (KK P).lookup PT = none := rfl
theorem PreG.K {c : Cx} (O : c.Ok) {σ : Look} {s : Shared} (p : PreG c σ s) : (KK c.w.params).In s.heap := fun a o e => p.kin O e (by rintro rfl; rw [kk_noPT] at e; cases e)
theorem PreG.nsG {c : Cx} {σ : Look} {s : Shared} (p : PreG c σ s) {a : Addr} {m : Str → Option Value} (ha : a ≠ PT) (h : c.H.Ns a m) : s.heap.Ns a m :=
  let ⟨o, es, ep, e, r⟩ := h; ⟨o, es, ep, p.keepAll _ _ ha e, r⟩
theorem PreG.nolimit {c : Cx} (O : c.Ok) {σ : Look} {s : Shared} (p : PreG c σ s) : s.heap.NoLimit := let ⟨mc, h, e⟩ := O.nolimit; ⟨mc, p.nsG (by decide) h, e⟩

/-- a name of the module or a built-in holds v -/
def Glb (c : Cx) (A : Around) (env : Env) (x : Str) (v : Value) : Prop := ∀ pos s σ, PreG c σ s → ∀ (Q : Value → Shared → Prop) (E : Value → Shared → Prop), Q v s → wpAny c.M A (eval (.Name x pos) env) Q E s
section
variable {c : Cx} {A : Around} {env : Env} {ρ : Sto}
theorem Glb.own (O : c.Ok) {x : Str} {v : Value} (e : nsIn (KK c.w.params) mainGlobals x = some (some v)) (hk : env.scope.kind = .function := by rfl) (hx : env.kindOf x = some .globalImplicit := by rfl) (hg : env.globals = mainGlobals := by rfl) (hd : (x == ("__debug__" : Str)) = false := by decide) :
    Glb c A env x v := by
  intro pos s σ p Q E q
  obtain ⟨mg, g⟩ := O.g
  exact Calls.Name_function_global hk hx (Calls.loadGlobal_global (by rw [hg]; exact p.nsG (by decide) g) (mg_of O.k g e) q) hd
theorem Glb.blt (O : c.Ok) {x : Str} {v : Value} (e : nsIn (KK c.w.params) mainGlobals x = some none) (hv : bootBuiltins x = some v) (hn : x ≠ "__name__" := by decide) (hk : env.scope.kind = .function := by rfl) (hx : env.kindOf x = some .globalImplicit := by rfl) (hg : env.globals = mainGlobals := by rfl) (hb : env.builtins = builtinsNs := by rfl) (hd : (x == ("__debug__" : Str)) = false := by decide) :
    Glb c A env x v := by
  intro pos s σ p Q E q
  obtain ⟨mg, g⟩ := O.g
  obtain ⟨mb, b, hmb⟩ := O.b
  exact Calls.Name_function_global hk hx (Calls.loadGlobal_builtin (by rw [hg]; exact p.nsG (by decide) g) (mg_none_of O.k g e) (by rw [hb]; exact p.nsG (by decide) b) ((hmb x hn).trans hv) q) hd

/-- no argument with a star -/
def noStar : List Expr → Bool
  | [] => true
  | .Starred .. :: _ => false
  | _ :: r => noStar r
theorem noStar_mem {env : Env} : ∀ {es : List Expr}, noStar es = true → ∀ e ∈ es, starEach [e] env = [(false, eval e env)]
  | [], _, _, h => nomatch h
  | e :: r, hn, x, hx => by
    have hr : noStar r = true := by cases e <;> first | exact hn | cases hn
    rcases List.mem_cons.mp hx with rfl | hx
    · cases x <;> first | rfl | cases hn
    · exact noStar_mem hr x hx
theorem few_of {env : Env} {pos : Pos} {args : List Expr} (hs : noStar args = true) (hl : args.length < 30) : ((backTo pos (starEach args env)).all (fun x => !x.1) && (backToKw pos (keywordEach [] env)).all (fun x => x.1.isSome) && decide (args.length + ([] : List Keyword).length + (if ([] : List Keyword).isEmpty then 0 else 1) < 30)) = true := by
  have h1 : (backTo pos (starEach args env)).all (fun x => !x.1) = true := by
    clear hl
    induction args with
    | nil => rfl
    | cons e r ih =>
      have hu : unstar e = true := by cases e <;> first | rfl | cases hs
      have hr : noStar r = true := by cases e <;> first | exact hs | cases hs
      rw [starEach_un hu]
      simpa [backTo] using ih hr
  rw [h1]
  simpa [backToKw, keywordEach] using hl
/-- what a call's callee is kept by -/
def Kept (c : Cx) (f : Value) : Prop := ∀ σ s, PreG c σ s → ∃ k, (k = Keeper.frame ∨ k = Keeper.machine ∨ k = Keeper.boundFrame) ∧ Looks c.M s.heap (keeperOf f) k
theorem Kept.own (O : c.Ok) {f : Value} (h : keepIn (KK c.w.params) f = true) : Kept c f := fun _ _ p => keeps_K h _ (p.K O)
theorem Kept.builtin {id : String} : Kept c (.builtin id) := fun _ _ _ => ⟨.machine, .inr (.inl rfl), Looks.of_pure rfl⟩
theorem Kept.type {T : String} : Kept c (.type T) := fun _ _ _ => ⟨.machine, .inr (.inl rfl), Looks.of_pure rfl⟩

theorem callWith_D {f : Value} {first : List Value} {es : List Expr} {ds : List D} {pos : Pos} {s : Shared} {σ : Look} {Q : Value → Shared → Prop} {E : Value → Shared → Prop} (p : PreG c σ s) (V : Vars env ρ σ s.heap) (K : Kept c f) (h : Evs c A env ρ es ds)
    (k : ∀ vs s' σ', Grow σ s σ' s' → All σ' vs ds → wpAny c.M A (call f (first ++ vs)) Q E s')
    (hs : ∀ e ∈ es, starEach [e] env = [(false, eval e env)]) (hn : es = [] → ds = []) :
    wpAny c.M A (callWith pos f first (backTo pos (starEach es env)) []) Q E s := by
  have hst : ∀ (l : List Expr), (∀ e ∈ l, starEach [e] env = [(false, eval e env)]) → (backTo pos (starEach l env)).any (·.1) = false := by
    intro l
    induction l with
    | nil => intro _; rfl
    | cons e r ih =>
      intro hl
      have he := hl e List.mem_cons_self
      have hr := ih fun x hx => hl x (List.mem_cons_of_mem _ hx)
      have : starEach (e :: r) env = (false, eval e env) :: starEach r env := by
        cases e <;> first | rfl | (simp only [starEach] at he; cases he)
      rw [this]
      simpa [backTo] using hr
  refine callWith_of (P := fun h => ∃ σ s', s'.heap = h ∧ PreG c σ s') (by rw [hst es hs]; rfl) (fun h ⟨σ, s', e, p'⟩ => by rw [← e]; exact K σ s' p') ?_
  have main : wpAny c.M A (spliced (backTo pos (starEach es env))) (fun vs s₁ => (∃ σ s', s'.heap = s₁.heap ∧ PreG c σ s') ∧ wpAny c.M A (call f (first ++ vs)) Q E s₁) E s :=
    h pos s σ p V _ _ fun vs s' σ' g a => ⟨⟨σ', s', rfl, g.pre p⟩, k vs s' σ' g a⟩
  cases es with
  | nil => exact evalArgs_nil3 ⟨⟨σ, s, rfl, p⟩, k [] s σ (.refl p) (by rw [hn rfl]; exact .nil)⟩
  | cons e r =>
    have he := hs e List.mem_cons_self
    have : starEach (e :: r) env = (false, eval e env) :: starEach r env := by
      cases e <;> first | rfl | (simp only [starEach] at he; cases he)
    rw [this] at main ⊢
    exact Calls.evalArgs_plain main
theorem Ev.typ {x : Str} {pos : Pos} {T : String} (G : Glb c A env x (.type T)) : Ev c A env ρ (eval (.Name x pos) env) (.typ T) := fun s σ p _ Q E k => G pos s σ p _ _ (k _ _ _ (.refl p) (.typ T))
/-- f(e1, .., en), f a name of the module or a built-in -/
theorem Ev.call {x : Str} {np pos : Pos} {es : List Expr} {f : Value} {n : Nat} {ds : List D} {d : D} (G : Glb c A env x f) (K : Kept c f) (h : Evs c A env ρ es ds) (F : Fn c n f ds d) (R : Room A n)
    (hs : noStar es = true := by rfl) (hn : es.isEmpty = true → ds = [] := by exact fun h => nomatch h) : Ev c A env ρ (eval (.Call (.Name x np) es [] pos) env) d := by
  intro s σ p V Q E k
  refine wpAny_Call_ofName (G np s σ p _ _ ?_)
  exact callWith_D (first := []) p V K h (fun vs s' σ' g a => F A s' σ' vs R (g.pre p) a _ _ fun v s2 σ2 g2 i2 => k _ _ _ (g.trans g2) i2) (noStar_mem hs) (fun e => hn (by rw [e]; rfl))
end

/-! text L3 -/
/-! statements -/
structure Fm where
  A : Around
  env : Env
  cs : List (Str × Addr)
  hc : Heap
  σ₀ : Look
  os₀ : OG

/-- an address of the frame's own -/
def Fm.Mine (f : Fm) (a : Addr) : Prop := a = f.env.locals ∨ ∃ x, f.cs.lookup x = some a

structure St (c : Cx) (f : Fm) (res : List (Addr × Obj)) (ρ : Sto) (σ : Look) (s : Shared) : Prop where
  pre : PreG c σ s
  vars : Vars f.env ρ σ s.heap
  kind : f.env.scope.kind = .function
  ns : ∃ m, s.heap.Ns f.env.locals m
  cells : ∀ x a, f.cs.lookup x = some a → (∃ v, s.heap.IsCell a v) ∧ a ≠ f.env.locals ∧ f.env.cells.lookup x = some a
  eld : ∀ x a, f.env.cells.lookup x = some a → a ≠ f.env.locals ∧ (f.Mine a ∨ f.hc.get? a ≠ none)
  inj : ∀ x y a, f.cs.lookup x = some a → f.env.cells.lookup y = some a → x = y
  mine : ∀ a, f.Mine a → σ a = none ∧ f.hc.get? a = none
  own : ∀ x ds a, ρ x = some (.ow ds) → VarAt f.env s.heap x (.ref a) → ¬ f.Mine a ∧ f.hc.get? a = none ∧ ∀ p ∈ res, p.1 ≠ a
  ownInj : ∀ x y ds es a, ρ x = some (.ow ds) → ρ y = some (.ow es) → VarAt f.env s.heap x (.ref a) → VarAt f.env s.heap y (.ref a) → x = y
  res : ∀ p ∈ res, s.heap.get? p.1 = some p.2 ∧ σ p.1 = none ∧ ¬ f.Mine p.1 ∧ p.1 ≠ PT ∧ f.hc.get? p.1 = none
  keep : ∀ a o, a ≠ PT → f.hc.get? a = some o → s.heap.get? a = some o
  hcPT : f.hc.get? PT ≠ none ∧ f.hc.get? 86 ≠ none
  le : LeL f.σ₀ σ
  new : ∀ a, σ a ≠ none → f.σ₀ a ≠ none ∨ f.hc.get? a = none
  os : OGle f.os₀ (s.os, s.gens)

section
variable {c : Cx} {f : Fm} {res : List (Addr × Obj)} {ρ : Sto} {σ σ' : Look} {s s' : Shared}

theorem VarAt.inj {env : Env} {h : Heap} {x : Str} {v v' : Value} (a : VarAt env h x v) (b : VarAt env h x v') : v = v' := by
  obtain ⟨_, ⟨a1, _, m, ⟨o, es, ep, e, d, _, k⟩, q⟩ | ⟨a1, a, la, _, ⟨o, e, d⟩⟩⟩ := a
  · obtain ⟨_, ⟨_, _, m', ⟨o', es', ep', e', d', _, k'⟩, q'⟩ | ⟨b1, b, lb, _, _⟩⟩ := b
    · rw [e] at e'; cases e'; rw [d] at d'; cases d'
      rw [← k, ] at q; rw [← k'] at q'; rw [q] at q'; cases q'; rfl
    · rw [a1] at b1; cases b1
  · obtain ⟨_, ⟨b1, _⟩ | ⟨b1, b, lb, _, ⟨o', e', d'⟩⟩⟩ := b
    · rw [a1] at b1; cases b1
    · rw [la] at lb; cases lb; rw [e] at e'; cases e'; rw [d] at d'; cases d'; rfl

theorem St.npt (S : St c f res ρ σ s) {a : Addr} (h : f.Mine a) : a ≠ PT := by
  rintro rfl; exact S.hcPT.1 (S.mine _ h).2
theorem St.lt (S : St c f res ρ σ s) {a : Addr} (h : f.Mine a) : s.heap.get? a ≠ none := by
  rcases h with rfl | ⟨x, e⟩
  · obtain ⟨m, o, _, _, n, _⟩ := S.ns; rw [n]; exact Option.some_ne_none _
  · obtain ⟨⟨v, o, h, _⟩, _⟩ := S.cells x a e; rw [h]; exact Option.some_ne_none _

/-- growth keeps the frame -/
theorem St.grow (S : St c f res ρ σ s) (g : Grow σ s σ' s') : St c f res ρ σ' s' := by
  have off : ∀ a, s.heap.get? a ≠ none → σ a = none → σ' a = none := fun a hlt h => by
    cases e : σ' a with
    | none => rfl
    | some o =>
      rcases g.new a (by rw [e]; exact Option.some_ne_none _) with h' | h'
      · exact absurd h h'
      · exact absurd h' hlt
  have back : ∀ {x : Str} {a : Addr} {ds : List D}, ρ x = some (.ow ds) → VarAt f.env s'.heap x (.ref a) → VarAt f.env s.heap x (.ref a) := by
    intro x a ds hx h
    obtain ⟨b, hb, _⟩ := S.vars _ _ hx
    have := (hb.keeps g.keep).inj h
    cases this; exact hb
  refine ⟨g.pre S.pre, S.vars.grow g, S.kind, ?_, ?_, S.eld, S.inj, ?_, ?_, ?_, ?_, fun a o h e => g.keep _ _ h (S.keep a o h e), S.hcPT, fun a o e => g.le _ _ (S.le _ _ e), fun a h => ?_, g.os.trans S.os⟩
  · obtain ⟨m, o, es, ep, e, r⟩ := S.ns
    exact ⟨m, o, es, ep, g.keep _ _ (S.npt (.inl rfl)) e, r⟩
  · intro x a e
    obtain ⟨⟨v, o, h, d⟩, n⟩ := S.cells x a e
    exact ⟨⟨v, o, g.keep _ _ (S.npt (.inr ⟨x, e⟩)) h, d⟩, n⟩
  · intro a h
    exact ⟨off a (S.lt h) (S.mine a h).1, (S.mine a h).2⟩
  · intro x ds a e h
    exact S.own x ds a e (back e h)
  · intro x y ds es a e e' h h'
    exact S.ownInj x y ds es a e e' (back e h) (back e' h')
  · intro p hp
    obtain ⟨a, b, d, n⟩ := S.res p hp
    exact ⟨g.keep _ _ n.1 a, off _ (by rw [a]; exact Option.some_ne_none _) b, d, n⟩
  · rcases g.new a h with h' | h'
    · exact S.new a h'
    · exact .inr (none_back (fun o e => S.keep a o (fun q => h (q ▸ g.pt)) e) h')

/-- a change of one address of the frame's own keeps all else -/
theorem St.pre_but (S : St c f res ρ σ s) {a : Addr} {h' : Heap} {tk : Nat} (ha : f.Mine a) (hs : Heap.SameBut a s.heap h') : PreG c σ { s with heap := h', toks := tk } := by
  have up : ∀ b o, b ≠ a → s.heap.get? b = some o → h'.get? b = some o := fun b o hb e => (hs.2 b hb).trans e
  refine ⟨fun b o e => up b o ?_ (S.pre.sub _ _ e), S.pre.base, S.pre.pt, ?_, S.pre.gens⟩
  · rintro rfl; rw [(S.mine _ ha).1] at e; cases e
  · obtain ⟨ps, ic, ta⟩ := S.pre.tab
    have n1 : PT ≠ a := Ne.symm (S.npt ha)
    have n2 : (86 : Addr) ≠ a := by rintro rfl; exact S.hcPT.2 (S.mine _ ha).2
    obtain ⟨o, vs, file, tf, flags, tg, inF, text, tt, op, a1, r1, r2, r3, r4, r5, r6, b1, r⟩ := ic
    exact ⟨ps, ⟨o, vs, file, tf, flags, tg, inF, text, tt, op, up _ _ n2 a1, r1, r2, r3, r4, r5, r6, up _ _ n1 b1, r⟩, ta.extBut hs.extBut n2 n1⟩

theorem Owned.but {h h' : Heap} {b : Addr} {a : Addr} {ds : List D} (o : Owned σ h a ds) (hs : Heap.SameBut b h h') (hne : a ≠ b) : Owned σ h' a ds := by
  obtain ⟨⟨vs, n, e, r⟩, x, y⟩ := o
  exact ⟨⟨vs, n, (hs.2 a hne).trans e, r⟩, x, y⟩

theorem St.stored (S : St c f res ρ σ s) {x : Str} {a : Addr} {h' : Heap} {tk : Nat} {b : B} (ha : f.Mine a) (hs : Heap.SameBut a s.heap h')
    (oth : ∀ y u, y ≠ x → VarAt f.env s.heap y u → VarAt f.env h' y u) (hns : ∃ m, h'.Ns f.env.locals m) (hcl : ∀ y b, f.cs.lookup y = some b → ∃ v, h'.IsCell b v) (hb : BAt f.env σ h' x b)
    (hown : ∀ ds a', b = .ow ds → VarAt f.env h' x (.ref a') → ¬ f.Mine a' ∧ f.hc.get? a' = none ∧ (∀ p ∈ res, p.1 ≠ a') ∧ ∀ y es, y ≠ x → ρ y = some (.ow es) → ¬ VarAt f.env s.heap y (.ref a')) :
    St c f res (upd ρ x b) σ { s with heap := h', toks := tk } := by
  have P := S.pre_but (tk := tk) ha hs
  have up : ∀ d o, d ≠ a → s.heap.get? d = some o → h'.get? d = some o := fun d o hd e => (hs.2 d hd).trans e
  have back : ∀ {y : Str} {d : Addr} {es : List D}, y ≠ x → ρ y = some (.ow es) → VarAt f.env h' y (.ref d) → VarAt f.env s.heap y (.ref d) := by
    intro y d es hy e h
    obtain ⟨d', hd, _⟩ := S.vars _ _ e
    have := (oth _ _ hy hd).inj h
    cases this; exact hd
  refine ⟨P, ?_, S.kind, hns, ?_, S.eld, S.inj, S.mine, ?_, ?_, ?_, fun d o h e => up d o ?_ (S.keep d o h e), S.hcPT, S.le, S.new, S.os⟩
  · intro y b' e
    unfold upd at e
    by_cases hy : y = x
    · rw [if_pos hy] at e; cases e; subst hy; exact hb
    · rw [if_neg hy] at e
      have := S.vars y b' e
      cases b' with
      | im d => obtain ⟨v, h1, h2⟩ := this; exact ⟨v, oth _ _ hy h1, h2⟩
      | ow ds =>
        obtain ⟨d, h1, h2⟩ := this
        refine ⟨d, oth _ _ hy h1, h2.but hs ?_⟩
        rintro rfl; exact (S.own y ds d e h1).1 ha
  · intro y d e; exact ⟨hcl y d e, (S.cells y d e).2⟩
  · intro y ds d e h
    unfold upd at e
    by_cases hy : y = x
    · rw [if_pos hy] at e; cases e; subst hy
      obtain ⟨q1, q2, q3, _⟩ := hown ds d rfl h
      exact ⟨q1, q2, q3⟩
    · rw [if_neg hy] at e
      exact S.own y ds d e (back hy e h)
  · intro y z ds es d e e' h h2
    unfold upd at e e'
    by_cases hy : y = x
    · rw [if_pos hy] at e; cases e; subst hy
      by_cases hz : z = y
      · exact hz.symm
      · rw [if_neg hz] at e'
        exact absurd (back hz e' h2) ((hown ds d rfl h).2.2.2 z es hz e')
    · rw [if_neg hy] at e
      by_cases hz : z = x
      · rw [if_pos hz] at e'; cases e'; subst hz
        exact absurd (back hy e h) ((hown es d rfl h2).2.2.2 y ds hy e)
      · rw [if_neg hz] at e'
        exact S.ownInj y z ds es d e e' (back hy e h) (back hz e' h2)
  · intro p hp
    obtain ⟨q1, q2, q3, q4⟩ := S.res p hp
    exact ⟨up _ _ (fun e => q3 (e ▸ ha)) q1, q2, q3, q4⟩
  · rintro rfl
    rw [(S.mine _ ha).2] at e; cases e

theorem ns_at {h : Heap} {a : Addr} {m m' : Str → Option Value} (x : h.Ns a m) (y : h.Ns a m') (z : Str) : m z = m' z := by
  obtain ⟨o, es, ep, e, d, _, k⟩ := x
  obtain ⟨o', es', ep', e', d', _, k'⟩ := y
  rw [e] at e'; cases e'; rw [d] at d'; cases d'
  rw [← k, ← k']

/-- a name of the frame's own is stored -/
theorem St.storeB (S : St c f res ρ σ s) {x : Str} {v : Value} {b : B} (hx : f.env.kindOf x = some .local ∨ (f.env.kindOf x = some .cell ∧ (f.cs.lookup x).isSome = true))
    (hb : ∀ h', VarAt f.env h' x v → (∀ a, ¬ f.Mine a → h'.get? a = s.heap.get? a) → BAt f.env σ h' x b)
    (hown : ∀ ds a', b = .ow ds → v = .ref a' → ¬ f.Mine a' ∧ f.hc.get? a' = none ∧ (∀ p ∈ res, p.1 ≠ a') ∧ ∀ y es, y ≠ x → ρ y = some (.ow es) → ¬ VarAt f.env s.heap y (.ref a'))
    {A : Around} (Q : Unit → Shared → Prop) (E : Value → Shared → Prop) (k : ∀ s', St c f res (upd ρ x b) σ s' → Q () s') : wpAny c.M A (storeName f.env x v) Q E s := by
  rcases hx with hx | ⟨hx, hc⟩
  · obtain ⟨m, n⟩ := S.ns
    refine wpAny_storeName_local hx n (fun h' hn hs => k _ ?_) (by rw [S.kind]; rfl)
    have nv : VarAt f.env h' x v := ⟨S.kind, .inl ⟨hx, S.npt (.inl rfl), _, hn, by simp⟩⟩
    refine S.stored (.inl rfl) hs (fun y u hy hv => ?_) ⟨_, hn⟩ (fun y b hl => ?_) (hb h' nv fun a ha => hs.2 a fun e => ha (.inl e)) (fun ds a' e h => hown ds a' e (nv.inj h))
    · obtain ⟨hk, ⟨q1, q2, m1, n1, e1⟩ | ⟨q1, a, q2, q3, q4⟩⟩ := hv
      · exact ⟨hk, .inl ⟨q1, q2, _, hn, by rw [if_neg hy, ns_at n n1]; exact e1⟩⟩
      · exact ⟨hk, .inr ⟨q1, a, q2, q3, q4.sameBut hs (S.eld y a q2).1⟩⟩
    · obtain ⟨⟨v, h⟩, ne, _⟩ := S.cells y b hl
      exact ⟨v, h.sameBut hs ne⟩
  · obtain ⟨a, ha⟩ := Option.isSome_iff_exists.mp hc
    obtain ⟨⟨v₀, h0⟩, ne, ha'⟩ := S.cells x a ha
    refine wpAny_storeName_cell S.kind hx ha' h0 fun h' hn hs => k _ ?_
    have M : f.Mine a := .inr ⟨x, ha⟩
    have nv : VarAt f.env h' x v := ⟨S.kind, .inr ⟨hx, a, ha', S.npt M, hn⟩⟩
    obtain ⟨m, n⟩ := S.ns
    refine S.stored M hs (fun y u hy hv => ?_) ⟨m, n.sameBut hs (Ne.symm ne)⟩ (fun y b hl => ?_) (hb h' nv fun a' ha' => hs.2 a' fun e => ha' (e ▸ M)) (fun ds a' e h => hown ds a' e (nv.inj h))
    · obtain ⟨hk, ⟨q1, q2, m1, n1, e1⟩ | ⟨q1, a1, q2, q3, q4⟩⟩ := hv
      · exact ⟨hk, .inl ⟨q1, q2, m1, n1.sameBut hs (Ne.symm ne), e1⟩⟩
      · exact ⟨hk, .inr ⟨q1, a1, q2, q3, q4.sameBut hs fun e => hy (S.inj x y a ha (by rw [← e]; exact q2)).symm⟩⟩
    · by_cases hb' : b = a
      · subst hb'; exact ⟨_, hn⟩
      · obtain ⟨⟨v, h⟩, _⟩ := S.cells y b hl
        exact ⟨v, h.sameBut hs hb'⟩
theorem St.store (S : St c f res ρ σ s) {x : Str} {v : Value} {d : D} (hx : f.env.kindOf x = some .local ∨ (f.env.kindOf x = some .cell ∧ (f.cs.lookup x).isSome = true)) (i : Is σ v d)
    {A : Around} (Q : Unit → Shared → Prop) (E : Value → Shared → Prop) (k : ∀ s', St c f res (upd ρ x (.im d)) σ s' → Q () s') : wpAny c.M A (storeName f.env x v) Q E s :=
  S.storeB (b := .im d) hx (fun h' nv _ => ⟨v, nv, i⟩) (fun ds a' e => nomatch e) Q E k
end

/-! the D-level weakest precondition of statements -/
inductive Fl where
  | next
  | brk
  | cont
  | ret (d : D)
inductive FlIs (σ : Look) : Flow → Fl → Prop
  | next : FlIs σ .next .next
  | brk : FlIs σ .brk .brk
  | cont : FlIs σ .cont .cont
  | ret {v : Value} {d : D} : Is σ v d → FlIs σ (.ret v) (.ret d)

def Ex (c : Cx) (f : Fm) (ρ : Sto) (t : Sem Flow) (Φ : Fl → Sto → Prop) : Prop :=
  ∀ res s σ, St c f res ρ σ s → ∀ (Q : Flow → Shared → Prop) (E : Value → Shared → Prop),
    (∀ fl s' σ' ρ' d, St c f res ρ' σ' s' → LeL σ σ' → FlIs σ' fl d → Φ d ρ' → Q fl s') → wpAny c.M f.A t Q E s
/-- a target takes a datum -/
def Asg (c : Cx) (f : Fm) (target : Expr) (d : D) (ρ ρ' : Sto) : Prop :=
  ∀ res s σ v, St c f res ρ σ s → Is σ v d → ∀ (Q : Unit → Shared → Prop) (E : Value → Shared → Prop), (∀ s' σ', St c f res ρ' σ' s' → LeL σ σ' → Q () s') → wpAny c.M f.A (assign target f.env v) Q E s

section
variable {c : Cx} {f : Fm} {ρ : Sto} {Φ : Fl → Sto → Prop}
abbrev HasName (f : Fm) (x : Str) : Prop := f.env.kindOf x = some .local ∨ (f.env.kindOf x = some .cell ∧ (f.cs.lookup x).isSome = true)

theorem Ex.nil (h : Φ .next ρ) : Ex c f ρ (execs [] f.env) Φ := fun _ _ _ S _ _ k => wpAny_execs_nil (k _ _ _ _ _ S (fun _ _ e => e) .next h)
theorem Ex.cons {st : Stmt} {rest : List Stmt} (h : Ex c f ρ (exec st f.env) (fun d ρ' => match d with | .next => Ex c f ρ' (execs rest f.env) Φ | d => Φ d ρ')) : Ex c f ρ (execs (st :: rest) f.env) Φ := by
  intro res s σ S Q E k
  refine wpAny_execs_cons (h res s σ S _ _ fun fl s' σ' ρ' d S' le i q => ?_)
  cases i with
  | next => exact q res s' σ' S' Q E fun fl s2 σ2 ρ2 d2 S2 le2 i2 q2 => k _ _ _ _ _ S2 (fun a o e => le2 _ _ (le _ _ e)) i2 q2
  | brk => exact k _ _ _ _ _ S' le .brk q
  | cont => exact k _ _ _ _ _ S' le .cont q
  | ret i => exact k _ _ _ _ _ S' le (.ret i) q
theorem Ex.ret {e : Expr} {pos : Pos} {d : D} (h : Ev c f.A f.env ρ (eval e f.env) d) (q : Φ (.ret d) ρ) : Ex c f ρ (exec (.Return (some e) pos) f.env) Φ := by
  intro res s σ S Q E k
  exact wpAny_Return_some (h s σ S.pre S.vars _ _ fun v s' σ' g i => k _ _ _ _ _ (S.grow g) g.le (.ret i) q)
theorem Ex.brk {pos : Pos} (q : Φ .brk ρ) : Ex c f ρ (exec (.Break pos) f.env) Φ := fun _ _ _ S _ _ k => wpAny_Break (k _ _ _ _ _ S (fun _ _ e => e) .brk q)
theorem Ex.ifB {t : Expr} {b : Bool} {body orelse : List Stmt} {pos : Pos} (ht : Tst c f.A f.env ρ t b) (h1 : b = true → Ex c f ρ (execs body f.env) Φ) (h2 : b = false → Ex c f ρ (execs orelse f.env) Φ) : Ex c f ρ (exec (.If t body orelse pos) f.env) Φ := by
  intro res s σ S Q E k
  refine wpAny_If (ht s σ S.pre S.vars _ _ fun s' σ' g => ?_)
  cases b with
  | true => exact h1 rfl res s' σ' (S.grow g) Q E fun fl s2 σ2 ρ2 d2 S2 le2 i2 q2 => k _ _ _ _ _ S2 (fun a o e => le2 _ _ (g.le _ _ e)) i2 q2
  | false => exact h2 rfl res s' σ' (S.grow g) Q E fun fl s2 σ2 ρ2 d2 S2 le2 i2 q2 => k _ _ _ _ _ S2 (fun a o e => le2 _ _ (g.le _ _ e)) i2 q2
theorem Ex.assign {x : Str} {px pos : Pos} {e : Expr} {d : D} (h : Ev c f.A f.env ρ (eval e f.env) d) (hx : HasName f x) (q : Φ .next (upd ρ x (.im d)))
    (hs : swapsWith e (some (.Name x px)) pos.line f.env = pure false := by rfl) : Ex c f ρ (exec (.Assign [.Name x px] e pos) f.env) Φ := by
  intro res s σ S Q E k
  refine wpAny_Assign_Name (h s σ S.pre S.vars _ _ fun v s' σ' g i => ?_) hs
  exact (S.grow g).store hx i _ _ fun s2 S2 => k _ _ _ _ _ S2 g.le .next q
/-- the body may say less -/
theorem Ex.mono {t : Sem Flow} {Ψ : Fl → Sto → Prop} (h : Ex c f ρ t Ψ) (hi : ∀ d ρ', Ψ d ρ' → Φ d ρ') : Ex c f ρ t Φ :=
  fun res s σ S Q E k => h res s σ S Q E fun fl s' σ' ρ' d S' le i q => k fl s' σ' ρ' d S' le i (hi _ _ q)
theorem Asg.name {x : Str} {px : Pos} {d : D} (hx : HasName f x) : Asg c f (.Name x px) d ρ (upd ρ x (.im d)) := by
  intro res s σ v S i Q E k
  exact wpAny_assign_Name (S.store hx i _ _ fun s2 S2 => k _ _ S2 fun _ _ e => e)
end

/-! text L4 -/
/-! a def of the text is entered -/
theorem bindL_out {k : Str → Option NameKind} {x : Str} : ∀ (bs : List (Str × Value)) (m : Str → Option Value), x ∉ bs.map (·.1) → bindL k bs m x = m x
  | [], _, _ => rfl
  | (n, v) :: r, m, h => by
    simp only [List.map_cons, List.mem_cons, not_or] at h
    unfold bindL
    rw [bindL_out r _ h.2]
    split
    · simp [h.1]
    · rfl
theorem bindC_out {k : Str → Option NameKind} {x : Str} : ∀ (bs : List (Str × Value)) (m : Str → Option Value), x ∉ bs.map (·.1) → bindC k bs m x = m x
  | [], _, _ => rfl
  | (n, v) :: r, m, h => by
    simp only [List.map_cons, List.mem_cons, not_or] at h
    unfold bindC
    rw [bindC_out r _ h.2]
    split
    · rfl
    · simp [h.1]
theorem bindL_in {k : Str → Option NameKind} {x : Str} {v : Value} (hk : k x = some .local) : ∀ (bs : List (Str × Value)) (m : Str → Option Value), (bs.map (·.1)).Nodup → bs.lookup x = some v → bindL k bs m x = some v
  | [], _, _, h => by cases h
  | (n, u) :: r, m, hn, h => by
    simp only [List.map_cons, List.nodup_cons] at hn
    rw [List.lookup_cons] at h
    unfold bindL
    split at h
    · rename_i e
      have e' : x = n := by simpa using e
      cases h; subst e'
      rw [bindL_out r _ hn.1, if_pos hk]; simp
    · exact bindL_in hk r _ hn.2 h
theorem bindC_in {k : Str → Option NameKind} {x : Str} {v : Value} (hk : k x = some .cell) : ∀ (bs : List (Str × Value)) (m : Str → Option Value), (bs.map (·.1)).Nodup → bs.lookup x = some v → bindC k bs m x = some v
  | [], _, _, h => by cases h
  | (n, u) :: r, m, hn, h => by
    simp only [List.map_cons, List.nodup_cons] at hn
    rw [List.lookup_cons] at h
    unfold bindC
    split at h
    · rename_i e
      have e' : x = n := by simpa using e
      cases h; subst e'
      rw [bindC_out r _ hn.1, if_neg (by rw [hk]; decide)]; simp
    · exact bindC_in hk r _ hn.2 h
/-- the parameters hold the arguments -/
def par (xs : List Str) (ds : List D) : Sto := fun x => ((xs.zip ds).lookup x).map .im
theorem zip_lookup {σ : Look} {x : Str} {d : D} : ∀ (xs : List Str) {vs : List Value} {ds : List D}, All σ vs ds → (xs.zip ds).lookup x = some d → ∃ v, (xs.zip vs).lookup x = some v ∧ Is σ v d
  | [], _, _, _, h => by simp at h
  | n :: r, _, _, .nil, h => by simp at h
  | n :: r, _, _, .cons (v := v) i a, h => by
    rw [List.zip_cons_cons, List.lookup_cons] at h
    split at h
    · rename_i e; cases h; exact ⟨v, by rw [List.zip_cons_cons, List.lookup_cons, e], i⟩
    · rename_i e
      obtain ⟨u, h1, h2⟩ := zip_lookup r a h
      exact ⟨u, by rw [List.zip_cons_cons, List.lookup_cons, e]; exact h1, h2⟩
theorem lookup_mem_zip {x : Str} {v : Value} : ∀ (bs : List (Str × Value)), bs.lookup x = some v → (x, v) ∈ bs
  | [], h => by cases h
  | (n, u) :: r, h => by
    rw [List.lookup_cons] at h
    split at h
    · rename_i e; cases h; have e' : x = n := by simpa using e
      subst e'; exact List.mem_cons_self
    · exact List.mem_cons_of_mem _ (lookup_mem_zip r h)

/-- a def of the written part, by its address -/
abbrev FdAt (P : Params) (a : Addr) : Type := { fd : FuncData // ∃ o, (KK P).lookup a = some o ∧ o.data = .func fd }
abbrev Ret (d : D) : Fl → Sto → Prop := fun fl _ => fl = .ret d

/-- the environment of a def's call -/
abbrev envF (fd : FuncData) (a L : Addr) : Env := newEnv fd.scope L mainGlobals (cellsFrom (L + 1) fd.scope.names []) (fd.qualname ++ ".<locals>.") (some a) fd.code none builtinsNs
/-- a frame of that def -/
abbrev frm (fd : FuncData) (a : Addr) (A : Around) (hc : Heap) (σ₀ : Look) (os₀ : OG) : Fm := ⟨A, envF fd a hc.objs.size, (envF fd a hc.objs.size).cells, hc, σ₀, os₀⟩

structure FnHere (c : Cx) (a : Addr) (fd : FuncData) (xs : List Str) (body : List Stmt) : Prop where
  here : ∃ o, (KK c.w.params).lookup a = some o ∧ o.data = .func fd
  body : fd.body = .stmts body
  globals : fd.globals = mainGlobals
  closure : fd.closure = []
  builtins : fd.builtins = builtinsNs
  co : fd.scope.isCoroutine = false
  gen : fd.scope.isGenerator = false
  kind : fd.scope.kind = .function
  code : codeIn (KK c.w.params) fd.code fd.qualname = true
  nodup : xs.Nodup
  loc : ∀ x ∈ xs, fd.scope.names.lookup x = some .local ∨ (fd.scope.names.lookup x = some .cell ∧ ∀ n, ((cellsFrom n fd.scope.names []).lookup x).isSome = true)
  bind : ∀ vs : List Value, vs.length = xs.length → bindArgs fd ⟨vs, []⟩ = pure (xs.zip vs)

theorem Fn.of {c : Cx} (O : c.Ok) {a : Addr} {fd : FuncData} {xs : List Str} {body : List Stmt} {n : Nat} {ds : List D} {d : D} (X : FnHere c a fd xs body) (hl : ds.length = xs.length)
    (h : ∀ A hc σ₀ os₀, Room A n → Ex c (frm fd a A hc σ₀ os₀) (par xs ds) (execs body (envF fd a hc.objs.size)) (Ret d)) : Fn c (n + 1) (.ref a) ds d := by
  intro A s σ vs R p al Q E k
  obtain ⟨o, ho, hd⟩ := X.here
  have hK := p.K O
  refine wpAny_call (codeAny_call_function (fd := fd) (by have := R.depth; show A.depth < 1000; omega) (hK _ _ ho) hd X.co X.gen X.body (codeRec_of hK X.code) ?_)
  have hlen : vs.length = xs.length := al.length.trans hl
  rw [X.bind vs hlen]
  refine wpAny_pure ?_
  rw [X.globals, X.closure, X.builtins]
  have hfst : (xs.zip vs).map (·.1) = xs := by rw [List.map_fst_zip]; omega
  refine wpAny_newFunctionEnv_cells X.kind (fun y hy => ?_) fun env henv s' I => ?_
  · have : y.1 ∈ xs := by rw [← hfst]; exact List.mem_map.mpr ⟨y, hy, rfl⟩
    exact (X.loc y.1 this).imp id fun h => ⟨h.1, h.2 _⟩
  · obtain ⟨h', tk, rfl⟩ := I.toInCall.same
    have keepN : ∀ b o, s.heap.get? b = some o → h'.get? b = some o := I.toInCall.keep
    refine ⟨(p.nolimit O).keeps keepN, codeAny_func ?_⟩
    let f : Fm := ⟨A.deeper env, env, env.cells, s.heap, σ, (s.os, s.gens)⟩
    have eL : env.locals = s.heap.objs.size := by rw [henv]; rfl
    have eC : env.cells = cellsFrom (s.heap.objs.size + 1) fd.scope.names [] := by rw [henv]; rfl
    have eS : env.scope = fd.scope := by rw [henv]; rfl
    have above : ∀ x b, env.cells.lookup x = some b → s.heap.objs.size < b := fun x b e => by
      have := I.above x b (mem_of_lookup e); rwa [eL] at this
    have hPT : PT < s.heap.objs.size := p.tab.lt
    have none_of : ∀ b, s.heap.objs.size ≤ b → σ b = none := fun b hb => by
      cases e : σ b with
      | none => rfl
      | some o' => exact absurd (Heap.lt_size (p.sub _ _ e)) (Nat.not_lt.mpr hb)
    have S : St c f [] (par xs ds) σ { s with heap := h', toks := tk } := by
      refine ⟨⟨fun b o e => keepN _ _ (p.sub _ _ e), p.base, p.pt, p.tab.keeps keepN, p.gens⟩, ?_, by show env.scope.kind = _; rw [eS]; exact X.kind, ⟨_, I.toInCall.ns⟩, ?_, ?_, ?_, ?_, ?_, ?_, (by intro p hp; cases hp), fun b o _ e => keepN b o e, ?_, fun _ _ e => e, fun b hb => .inl hb, .same _⟩
      · intro x b e
        unfold par at e
        obtain ⟨dx, e1, rfl⟩ := Option.map_eq_some_iff.mp e
        obtain ⟨v, e2, i⟩ := zip_lookup xs al e1
        have hm : x ∈ xs := by rw [← hfst]; exact List.mem_map.mpr ⟨(x, v), lookup_mem_zip _ e2, rfl⟩
        refine ⟨v, ⟨by show env.scope.kind = _; rw [eS]; exact X.kind, ?_⟩, i⟩
        have hnd : ((xs.zip vs).map (·.1)).Nodup := by rw [hfst]; exact X.nodup
        rcases X.loc x hm with hk | ⟨hk, hc⟩
        · have hk' : env.kindOf x = some .local := by show env.scope.names.lookup x = _; rw [eS]; exact hk
          exact .inl ⟨hk', by show env.locals ≠ PT; rw [eL]; exact Ne.symm (Nat.ne_of_lt hPT), _, I.toInCall.ns, bindL_in hk' _ _ hnd e2⟩
        · have hk' : env.kindOf x = some .cell := by show env.scope.names.lookup x = _; rw [eS]; exact hk
          obtain ⟨b, hb⟩ := Option.isSome_iff_exists.mp (hc (s.heap.objs.size + 1))
          rw [← eC] at hb
          have hcell := I.cell x b hb
          rw [bindC_in hk' _ _ hnd e2] at hcell
          exact .inr ⟨hk', b, hb, Ne.symm (Nat.ne_of_lt (Nat.lt_trans hPT (above x b hb))), hcell⟩
      · intro x b e
        exact ⟨⟨_, I.cell x b e⟩, (by show b ≠ env.locals; rw [eL]; exact Ne.symm (Nat.ne_of_lt (above x b e))), e⟩
      · intro x b e
        exact ⟨(by show b ≠ env.locals; rw [eL]; exact Ne.symm (Nat.ne_of_lt (above x b e))), .inl (.inr ⟨x, e⟩)⟩
      · intro x y b e e'
        exact name_of_addr I.apart (mem_of_lookup e) (mem_of_lookup e')
      · intro b hb
        have : s.heap.objs.size ≤ b := by
          rcases hb with rfl | ⟨x, e⟩
          · exact Nat.le_of_eq eL.symm
          · exact Nat.le_of_lt (above x b e)
        exact ⟨none_of b this, ge_none this⟩
      · intro x es b e
        unfold par at e
        obtain ⟨dx, _, e2⟩ := Option.map_eq_some_iff.mp e
        cases e2
      · intro x y es es' b e
        unfold par at e
        obtain ⟨dx, _, e2⟩ := Option.map_eq_some_iff.mp e
        cases e2
      · obtain ⟨ps, ic, ta⟩ := p.tab
        obtain ⟨⟨o', vs', e', _⟩, t'⟩ := ta
        exact ⟨by show s.heap.get? PT ≠ none; rw [t']; exact Option.some_ne_none _, by show s.heap.get? 86 ≠ none; rw [e']; exact Option.some_ne_none _⟩
    have hf : Ex c f (par xs ds) (execs body env) (Ret d) := by
      have := h (A.deeper env) s.heap σ (s.os, s.gens) (R.deeper env)
      have henv' : envF fd a s.heap.objs.size = env := henv.symm
      unfold frm at this; rw [henv'] at this; exact this
    refine hf [] _ σ S _ _ fun fl s' σ' ρ' d' S' le i q => ?_
    cases q
    cases i with
    | ret i =>
      exact k _ _ σ' ⟨S'.keep, S'.le, S'.pre.sub, S'.new, S'.os, S'.pre.tab, S'.pre.gens, S'.pre.pt⟩ i

/-! text LW -/
/-! iterators: objects of their own, no part of what is shown -/
abbrev AtH (own : List (Addr × Obj)) (h : Heap) : Prop := ∀ p ∈ own, h.get? p.1 = some p.2
abbrev OffL (own : List (Addr × Obj)) (σ : Look) : Prop := ∀ p ∈ own, σ p.1 = none
/-- own's objects have changed, all else has only grown -/
structure Chg (own : List (Addr × Obj)) (σ : Look) (s : Shared) (σ' : Look) (s' : Shared) (own' : List (Addr × Obj)) : Prop where
  keep : ∀ a o, a ≠ PT → (∀ p ∈ own, p.1 ≠ a) → s.heap.get? a = some o → s'.heap.get? a = some o
  le : LeL σ σ'
  sub : ∀ a o, σ' a = some o → s'.heap.get? a = some o
  new : ∀ a, σ' a ≠ none → σ a ≠ none ∨ s.heap.get? a = none
  os : OGle (s.os, s.gens) (s'.os, s'.gens)
  tab : TabOk s'.heap
  gens : AllBare s'.gens
  pt : σ' PT = none
  same : ∀ p ∈ own', ∃ q ∈ own, q.1 = p.1
  at_ : AtH own' s'.heap
  off : OffL own' σ'

section
variable {c : Cx} {f : Fm} {res own own' : List (Addr × Obj)} {ρ : Sto} {σ σ' : Look} {s s' : Shared}
theorem Chg.pre (p : PreG c σ s) (g : Chg own σ s σ' s' own') : PreG c σ' s' := ⟨g.sub, fun a o h e => g.le _ _ (p.base a o h e), g.pt, g.tab, g.gens⟩

theorem VarAt.keepsOff {env : Env} {h h' : Heap} {x : Str} {v : Value} (x' : VarAt env h x v) (hk : ∀ a o, a ≠ PT → (a = env.locals ∨ ∃ y, env.cells.lookup y = some a) → h.get? a = some o → h'.get? a = some o) : VarAt env h' x v := by
  obtain ⟨k, h1 | h1⟩ := x'
  · obtain ⟨a, n, m, ⟨o, es, ep, e, r⟩, b⟩ := h1
    exact ⟨k, .inl ⟨a, n, m, ⟨o, es, ep, hk _ _ n (.inl rfl) e, r⟩, b⟩⟩
  · obtain ⟨a, b, l, n, ⟨o, e, r⟩⟩ := h1
    exact ⟨k, .inr ⟨a, b, l, n, ⟨o, hk _ _ n (.inr ⟨_, l⟩) e, r⟩⟩⟩

/-- the frame behind such a change -/
theorem St.chg (S : St c f (own ++ res) ρ σ s) (g : Chg own σ s σ' s' own') (hd : ∀ p ∈ own, ∀ q ∈ res, p.1 ≠ q.1) : St c f (own' ++ res) ρ σ' s' := by
  have inOwn := g.same
  have ex : ∀ y a, f.env.cells.lookup y = some a → ∀ p ∈ own, p.1 ≠ a := fun y a e p hp q => by
    obtain ⟨_, _, h3, _, h5⟩ := S.res p (List.mem_append_left _ hp)
    rcases (S.eld y a e).2 with h | h
    · exact h3 (q ▸ h)
    · exact h (q ▸ h5)
  have nMine : ∀ p ∈ own, ¬ f.Mine p.1 := fun p hp => (S.res p (List.mem_append_left _ hp)).2.2.1
  have off : ∀ a, s.heap.get? a ≠ none → σ a = none → σ' a = none := fun a hlt h => by
    cases e : σ' a with
    | none => rfl
    | some o =>
      rcases g.new a (by rw [e]; exact Option.some_ne_none _) with h' | h'
      · exact absurd h h'
      · exact absurd h' hlt
  have kM : ∀ a o, f.Mine a → s.heap.get? a = some o → s'.heap.get? a = some o := fun a o h e => g.keep a o (S.npt h) (fun p hp q => nMine p hp (q ▸ h)) e
  have kV : ∀ a o, a ≠ PT → (a = f.env.locals ∨ ∃ y, f.env.cells.lookup y = some a) → s.heap.get? a = some o → s'.heap.get? a = some o := fun a o n h e => by
    rcases h with h | ⟨y, h⟩
    · exact kM a o (.inl h) e
    · exact g.keep a o n (fun p hp => ex y a h p hp) e
  have up : ∀ {x : Str} {v : Value}, VarAt f.env s.heap x v → VarAt f.env s'.heap x v := fun h => h.keepsOff kV
  have back : ∀ {x : Str} {a : Addr} {ds : List D}, ρ x = some (.ow ds) → VarAt f.env s'.heap x (.ref a) → VarAt f.env s.heap x (.ref a) := by
    intro x a ds hx h
    obtain ⟨b, hb, _⟩ := S.vars _ _ hx
    have := (up hb).inj h
    cases this; exact hb
  refine ⟨g.pre S.pre, ?_, S.kind, ?_, ?_, S.eld, S.inj, ?_, ?_, ?_, ?_, ?_, S.hcPT, fun a o e => g.le _ _ (S.le _ _ e), fun a h => ?_, g.os.trans S.os⟩
  · intro x b e
    have := S.vars x b e
    cases b with
    | im d => obtain ⟨v, h1, h2⟩ := this; exact ⟨v, up h1, h2.mono g.le⟩
    | ow ds =>
      obtain ⟨a, h1, ⟨vs, n, e1, r3⟩, h3, h4⟩ := this
      have hne := (S.own x ds a e h1).2.2
      exact ⟨a, up h1, ⟨vs, n, g.keep a _ h4 (fun p hp => hne p (List.mem_append_left _ hp)) e1, r3.mono g.le⟩, off a (by rw [e1]; exact Option.some_ne_none _) h3, h4⟩
  · obtain ⟨m, o, es, ep, e, r⟩ := S.ns
    exact ⟨m, o, es, ep, kM _ _ (.inl rfl) e, r⟩
  · intro x a e
    obtain ⟨⟨v, o, h, d⟩, n⟩ := S.cells x a e
    exact ⟨⟨v, o, kM _ _ (.inr ⟨x, e⟩) h, d⟩, n⟩
  · intro a h
    exact ⟨off a (S.lt h) (S.mine a h).1, (S.mine a h).2⟩
  · intro x ds a e h
    obtain ⟨q1, q2, q3⟩ := S.own x ds a e (back e h)
    refine ⟨q1, q2, fun p hp => ?_⟩
    rcases List.mem_append.mp hp with hp | hp
    · obtain ⟨q, hq, e⟩ := inOwn p hp
      rw [← e]; exact q3 q (List.mem_append_left _ hq)
    · exact q3 p (List.mem_append_right _ hp)
  · intro x y ds es a e e' h h'
    exact S.ownInj x y ds es a e e' (back e h) (back e' h')
  · intro p hp
    rcases List.mem_append.mp hp with hp | hp
    · obtain ⟨q, hq, e⟩ := inOwn p hp
      obtain ⟨_, _, h3, h4⟩ := S.res q (List.mem_append_left _ hq)
      exact ⟨g.at_ p hp, g.off p hp, by rw [← e]; exact h3, by rw [← e]; exact h4⟩
    · obtain ⟨h1, h2, h3, h4⟩ := S.res p (List.mem_append_right _ hp)
      exact ⟨g.keep _ _ h4.1 (fun q hq => hd q hq p hp) h1, off _ (by rw [h1]; exact Option.some_ne_none _) h2, h3, h4⟩
  · intro a o h e
    refine g.keep a o h (fun p hp q => ?_) (S.keep a o h e)
    have := (S.res p (List.mem_append_left _ hp)).2.2.2.2
    rw [q, e] at this; cases this
  · rcases g.new a h with h' | h'
    · exact S.new a h'
    · by_cases hc : f.hc.get? a = none
      · exact .inr hc
      · obtain ⟨o, ho⟩ := Option.ne_none_iff_exists'.mp hc
        have := S.keep a o (fun q => h (q ▸ g.pt)) ho
        rw [this] at h'; cases h'

theorem St.drop (S : St c f (own ++ res) ρ σ s) : St c f res ρ σ s :=
  ⟨S.pre, S.vars, S.kind, S.ns, S.cells, S.eld, S.inj, S.mine, fun x ds a e h => let ⟨q1, q2, q3⟩ := S.own x ds a e h; ⟨q1, q2, fun p hp => q3 p (List.mem_append_right _ hp)⟩, S.ownInj,
    fun p hp => S.res p (List.mem_append_right _ hp), S.keep, S.hcPT, S.le, S.new, S.os⟩
/-- new objects, made behind s₀, are set apart -/
theorem St.add {s₀ : Shared} {σ₁ : Look} (S₀ : St c f res ρ σ₁ s₀) (S : St c f res ρ σ s) (hv : ∀ x ds a, ρ x = some (.ow ds) → VarAt f.env s.heap x (.ref a) → s₀.heap.get? a ≠ none)
    (ha : AtH own s.heap) (ho : OffL own σ) (hn : ∀ p ∈ own, s₀.heap.get? p.1 = none) : St c f (own ++ res) ρ σ s := by
  have npt : ∀ p ∈ own, p.1 ≠ PT := fun p hp e => by
    have h2 := hn p hp
    obtain ⟨ps, _, ta⟩ := S₀.pre.tab
    rw [e, ta.2] at h2; cases h2
  have hle : ∀ p ∈ own, f.hc.get? p.1 = none := fun p hp => none_back (fun o e => S₀.keep _ o (npt p hp) e) (hn p hp)
  refine ⟨S.pre, S.vars, S.kind, S.ns, S.cells, S.eld, S.inj, S.mine, fun x ds a e h => ?_, S.ownInj, fun p hp => ?_, S.keep, S.hcPT, S.le, S.new, S.os⟩
  · obtain ⟨q1, q2, q3⟩ := S.own x ds a e h
    refine ⟨q1, q2, fun p hp => ?_⟩
    rcases List.mem_append.mp hp with hp | hp
    · rintro rfl; exact hv x ds p.1 e h (hn p hp)
    · exact q3 p hp
  · rcases List.mem_append.mp hp with hp | hp
    · exact ⟨ha p hp, ho p hp, fun h => S₀.lt h (hn p hp), npt p hp, hle p hp⟩
    · exact S.res p hp
end

/-- an iterator I over items; J i own: its objects when i items are taken -/
structure Wk (c : Cx) (A : Around) (I : Addr) (tgt : Expr) (items : List D) (σ₀ : Look) (J : Nat → List (Addr × Obj) → Prop) : Prop where
  next : ∀ i d own s σ, items[i]? = some d → J i own → AtH own s.heap → OffL own σ → PreG c σ s → LeL σ₀ σ → ∀ (Q : Value → Shared → Prop) (E : Value → Shared → Prop),
    (∀ v s' σ' own', Chg own σ s σ' s' own' → J (i + 1) own' → Is σ' v d → Q v s') →
    wpAny c.M A (pyNext (.ref I)) (fun r s₁ => match r with | none => False | some v => wpAny c.M A (letOwnedTupleGo tgt (.ref I) v) (fun _ s₂ => Q v s₂) E s₁) E s
  done : ∀ own s σ, J items.length own → AtH own s.heap → OffL own σ → PreG c σ s → LeL σ₀ σ → ∀ (Q : Shared → Prop) (E : Value → Shared → Prop),
    (∀ s', (∃ own', Chg own σ s σ s' own') → Q s') → wpAny c.M A (pyNext (.ref I)) (fun r s₁ => match r with | none => Q s₁ | some _ => False) E s
  self : ∀ i own s, J i own → AtH own s.heap → (∀ a o, σ₀ a = some o → s.heap.get? a = some o) → ∀ (Q : Value → Shared → Prop) (E : Value → Shared → Prop), Q (.ref I) s → wpAny c.M A (pyIter (.ref I)) Q E s

/-- an expression that is iterated over: its items -/
def It (c : Cx) (A : Around) (env : Env) (ρ : Sto) (e tgt : Expr) (items : List D) : Prop :=
  ∀ s σ, PreG c σ s → Vars env ρ σ s.heap → ∀ (Q : Value → Shared → Prop) (E : Value → Shared → Prop),
    (∀ I s' σ' own J, Grow σ s σ' s' → AtH own s'.heap → OffL own σ' → (∀ p ∈ own, s.heap.get? p.1 = none) → Wk c A I tgt items σ' J → J 0 own → Q (.ref I) s') →
    wpAny c.M A (eval e env) (fun x s₁ => wpAny c.M A (pyIter x) Q E s₁) E s

section
variable {c : Cx} {f : Fm} {ρ : Sto} {Φ : Fl → Sto → Prop}
/-- a for over items, by what holds between its turns -/
theorem Ex.for_ {tgt iter : Expr} {body : List Stmt} {pos : Pos} {items : List D} (Inv : Nat → Sto → Prop) (hit : It c f.A f.env ρ iter tgt items)
    (h0 : Inv 0 ρ)
    (step : ∀ i d ρi, items[i]? = some d → Inv i ρi → ∃ ρ1, Asg c f tgt d ρi ρ1 ∧ Ex c f ρ1 (execs body f.env) (fun fl ρ' => match fl with | .next => Inv (i + 1) ρ' | .cont => Inv (i + 1) ρ' | .brk => Φ .next ρ' | .ret d => Φ (.ret d) ρ'))
    (done : ∀ ρ', Inv items.length ρ' → Φ .next ρ') (hs : ∀ x, foldedSetIterable iter f.env x = pure x := by intro _; rfl) : Ex c f ρ (exec (.For tgt iter body [] pos) f.env) Φ := by
  intro res s σ S Q E k
  refine wpAny_For (hit s σ S.pre S.vars _ _ fun I s' σ' own J g ha ho hn W j0 => ?_) hs
  have S1 := S.grow g
  have S2 : St c f (own ++ res) ρ σ' s' := S.add S1 (fun x ds a e h => by
    obtain ⟨b, hb, ow⟩ := S.vars x _ e
    have := (hb.keeps g.keep).inj h
    cases this
    obtain ⟨vs, n, e1, _⟩ := ow.at_
    rw [e1]; exact Option.some_ne_none _) ha ho hn
  have hdis : ∀ p ∈ own, ∀ q ∈ res, p.1 ≠ q.1 := fun p hp q hq e => by have h1 := hn p hp; rw [e, (S.res q hq).1] at h1; cases h1
  refine codeAny_forLoop_any
    (fun n s₁ => ∃ i own₁ ρ₁ σ₁, St c f (own₁ ++ res) ρ₁ σ₁ s₁ ∧ (∀ p ∈ own₁, ∃ q ∈ own, q.1 = p.1) ∧ J i own₁ ∧ LeL σ' σ₁ ∧ Inv i ρ₁ ∧ i ≤ items.length ∧ n = items.length + 1 - i) ?_ (items.length + 1)
    ⟨0, own, ρ, σ', S2, fun p hp => ⟨p, hp, rfl⟩, j0, fun _ _ e => e, h0, Nat.zero_le _, rfl⟩
  rintro n s₁ ⟨i, own₁, ρ₁, σ₁, T, hm, hj, hle, hI, hi, rfl⟩
  have hdis₁ : ∀ p ∈ own₁, ∀ q ∈ res, p.1 ≠ q.1 := fun p hp q hq e => by
    obtain ⟨p', hp', e'⟩ := hm p hp
    exact hdis p' hp' q hq (e'.trans e)
  have aH : AtH own₁ s₁.heap := fun p hp => (T.res p (List.mem_append_left _ hp)).1
  have oF : OffL own₁ σ₁ := fun p hp => (T.res p (List.mem_append_left _ hp)).2.1
  by_cases hlt : i < items.length
  · have hd : items[i]? = some items[i] := List.getElem?_eq_getElem hlt
    obtain ⟨ρ2, as, bd⟩ := step i _ ρ₁ hd hI
    refine wpAny_mono (W.next i _ own₁ s₁ σ₁ hd hj aH oF T.pre hle (fun v s₂ => wpAny c.M f.A (PySem.assign tgt f.env v) (fun _ s₃ => wpAny c.M f.A (execs body f.env) (fun fl s₄ => match fl with
            | .next | .cont => ∃ m, m < items.length + 1 - i ∧ ∃ i own₁ ρ₁ σ₁, St c f (own₁ ++ res) ρ₁ σ₁ s₄ ∧ (∀ p ∈ own₁, ∃ q ∈ own, q.1 = p.1) ∧ J i own₁ ∧ LeL σ' σ₁ ∧ Inv i ρ₁ ∧ i ≤ items.length ∧ m = items.length + 1 - i
            | .brk => Q .next s₄
            | .ret v => Q (.ret v) s₄) (notedBy c.M f.A f.env fun e s' => cameBackBy c.M f.A f.env E e s') s₃) (notedBy c.M f.A f.env fun e s' => cameBackBy c.M f.A f.env E e s') s₂) _ ?_) (fun r s₂ h => ?_) fun _ _ e => e
    · intro v s₂ σ₂ own₂ ch hj2 iv
      have T2 := T.chg ch hdis₁
      refine as _ _ _ _ T2 iv _ _ fun s₃ σ₃ T3 le3 => ?_
      refine bd _ _ _ T3 _ _ fun fl s₄ σ₄ ρ₄ d₄ T4 le4 i4 q4 => ?_
      have hm2 : ∀ p ∈ own₂, ∃ q ∈ own, q.1 = p.1 := fun p hp => by
        obtain ⟨q, hq, e⟩ := ch.same p hp
        obtain ⟨q', hq', e'⟩ := hm q hq
        exact ⟨q', hq', e'.trans e⟩
      have L : LeL σ₁ σ₄ := fun a o e => le4 _ _ (le3 _ _ (ch.le _ _ e))
      cases i4 with
      | next => exact ⟨items.length + 1 - (i + 1), by omega, i + 1, own₂, ρ₄, σ₄, T4, hm2, hj2, fun a o e => L _ _ (hle _ _ e), q4, hlt, rfl⟩
      | cont => exact ⟨items.length + 1 - (i + 1), by omega, i + 1, own₂, ρ₄, σ₄, T4, hm2, hj2, fun a o e => L _ _ (hle _ _ e), q4, hlt, rfl⟩
      | brk => exact k _ _ _ _ _ T4.drop (fun a o e => L _ _ (hle _ _ (g.le _ _ e))) .next q4
      | ret i5 => exact k _ _ _ _ _ T4.drop (fun a o e => L _ _ (hle _ _ (g.le _ _ e))) (.ret i5) q4
    · cases r with
      | none => exact h.elim
      | some v => exact h
  · have hin : i = items.length := by omega
    subst hin
    refine wpAny_mono (W.done own₁ s₁ σ₁ hj aH oF T.pre hle (fun s₂ => Q .next s₂) _ ?_) (fun r s₂ h => ?_) fun _ _ e => e
    · rintro s₂ ⟨own₂, ch⟩
      exact k _ _ _ _ _ (T.chg ch hdis₁).drop (fun a o e => hle _ _ (g.le _ _ e)) .next (done _ hI)
    · cases r with
      | none => exact wpAny_execs_nil h
      | some v => exact h.elim
end

/-! text LI -/
theorem Wk.of {c : Cx} {A : Around} {I : Addr} {tgt : Expr} {items : List D} {σ₀ : Look} {fp : List Addr} {n : Nat} {P : Nat → Value → Prop} {Sw : Nat → Heap → Prop} (W : Walks c.prog c.w A I fp [I] n P Sw) (hn : n = items.length)
    (hfp : ∀ b ∈ fp, b = I ∨ ∃ o, σ₀ b = some o) (hex : ∀ i h, Sw i h → ∃ o, h.get? I = some o) (hP : ∀ i v d, items[i]? = some d → P i v → ∀ σ, LeL σ₀ σ → Is σ v d) (hI : 86 < I)
    (hgo : ∀ i s v (Q : Unit → Shared → Prop) (E : Value → Shared → Prop), Sw i s.heap → Q () s → wpAny c.M A (letOwnedTupleGo tgt (.ref I) v) Q E s) :
    Wk c A I tgt items σ₀ (fun i own => ∃ o, own = [(I, o)] ∧ ∀ h, h.get? I = some o → (∀ a o, σ₀ a = some o → h.get? a = some o) → Sw i h) := by
  have tabs : ∀ {h h' : Heap}, TabOk h → (∀ b o, b ∉ [I] → h.get? b = some o → h'.get? b = some o) → TabOk h' := by
    intro h h' ⟨ps, ic, ta⟩ hk
    have n1 : PT ∉ [I] := by simp only [List.mem_singleton]; intro e; rw [← e] at hI; exact absurd hI (by decide)
    have n2 : (86 : Addr) ∉ [I] := by simp only [List.mem_singleton]; intro e; rw [← e] at hI; exact absurd hI (by decide)
    obtain ⟨o, vs, file, tf, flags, tg, inF, text, tt, op, a1, r1, r2, r3, r4, r5, r6, b1, r⟩ := ic
    obtain ⟨⟨o', vs', e', r'⟩, t'⟩ := ta
    exact ⟨ps, ⟨o, vs, file, tf, flags, tg, inF, text, tt, op, hk _ _ n2 a1, r1, r2, r3, r4, r5, r6, hk _ _ n1 b1, r⟩, ⟨o', vs', hk _ _ n2 e', r'⟩, hk _ _ n1 t'⟩
  refine ⟨?_, ?_, ?_⟩
  · rintro i d own s σ hd ⟨o, rfl, hsw⟩ ha ho p hle Q E k
    have hIo : s.heap.get? I = some o := ha _ List.mem_cons_self
    have hsI : σ I = none := ho _ List.mem_cons_self
    have hlt : i < n := by rw [hn]; exact (List.getElem?_eq_some_iff.mp hd).1
    refine W.item i s _ _ hlt (hsw _ hIo fun a o e => p.sub _ _ (hle _ _ e)) fun v h' tk hv hs' hk => ?_
    refine hgo (i + 1) _ v _ _ hs' ?_
    obtain ⟨o', ho'⟩ := hex _ _ hs'
    have up : ∀ a o, σ a = some o → h'.get? a = some o := fun a o e => hk a o (by simp only [List.mem_singleton]; rintro rfl; rw [hsI] at e; cases e) (p.sub _ _ e)
    refine k v _ σ [(I, o')] ⟨fun a o hpt hne e => hk a o (by simp only [List.mem_singleton]; exact fun q => hne _ List.mem_cons_self q.symm) e, fun _ _ e => e, up, fun a h => .inl h, .same _, tabs p.tab hk, p.gens, p.pt, ?_, ?_, ?_⟩ ⟨o', rfl, ?_⟩ (hP i v d hd hv σ hle)
    · intro q hq; cases List.mem_singleton.mp hq; exact ⟨_, List.mem_cons_self, rfl⟩
    · intro q hq; cases List.mem_singleton.mp hq; exact ho'
    · intro q hq; cases List.mem_singleton.mp hq; exact hsI
    · intro h hIh hσh
      refine W.frame _ _ _ hs' fun b hb ob eb => ?_
      rcases hfp b hb with rfl | ⟨o2, e2⟩
      · have := ho'.symm.trans eb; cases this; exact hIh
      · have := (up _ _ (hle _ _ e2)).symm.trans eb; cases this; exact hσh _ _ e2
  · rintro own s σ ⟨o, rfl, hsw⟩ ha ho p hle Q E k
    have hIo : s.heap.get? I = some o := ha _ List.mem_cons_self
    have hsI : σ I = none := ho _ List.mem_cons_self
    have hst := hsw _ hIo fun a o e => p.sub _ _ (hle _ _ e)
    rw [← hn] at hst
    refine W.done s _ _ hst fun h' tk hk => ?_
    have up : ∀ a o, σ a = some o → h'.get? a = some o := fun a o e => hk a o (by simp only [List.mem_singleton]; rintro rfl; rw [hsI] at e; cases e) (p.sub _ _ e)
    exact k _ ⟨[], fun a o hpt hne e => hk a o (by simp only [List.mem_singleton]; exact fun q => hne _ List.mem_cons_self q.symm) e, fun _ _ e => e, up, fun a h => .inl h, .same _, tabs p.tab hk, p.gens, p.pt, (fun _ h => nomatch h), (fun _ h => nomatch h), (fun _ h => nomatch h)⟩
  · rintro i own s ⟨o, rfl, hsw⟩ ha hσ Q E q
    exact W.self i s Q E (hsw _ (ha _ List.mem_cons_self) hσ) q

section
variable {c : Cx} {A : Around} {env : Env} {ρ : Sto}
theorem tab_lt {h : Heap} (t : TabOk h) : 86 < h.objs.size := let ⟨_, _, ⟨o, vs, e, _⟩, _⟩ := t; Heap.lt_size e
theorem go_list {prog : Program} {w : World} {s : Shared} {tgt : Expr} {I l : Addr} {i : Nat} {v : Value} {Q : Unit → Shared → Prop} {E : Value → Shared → Prop} (hit : s.heap.IsListIter I l i) (q : Q () s) (ht : (∃ x p, tgt = .Name x p) ∨ ∃ es k p, tgt = .Tuple es k p) :
    wpAny (model prog w) A (letOwnedTupleGo tgt (.ref I) v) Q E s := by
  rcases ht with ⟨x, p, rfl⟩ | ⟨es, k, p, rfl⟩
  · exact wpAny_pure q
  · cases v with
    | ref T => exact wpAny_letOwnedTupleGo_listiter hit q
    | _ => exact wpAny_pure q
/-- a tree gives a list, whatever else its object bears -/
def EvL (c : Cx) (A : Around) (env : Env) (ρ : Sto) (t : Sem Value) (ds : List D) : Prop :=
  ∀ s σ, PreG c σ s → Vars env ρ σ s.heap → ∀ (Q : Value → Shared → Prop) (E : Value → Shared → Prop),
    (∀ a o vs n s' σ', Grow σ s σ' s' → σ' a = some o → o.cls = .type "list" → o.data = .seq (vs : List Value).toArray n → All σ' vs ds → Q (.ref a) s') → wpAny c.M A t Q E s
theorem Ev.evL {t : Sem Value} {ds : List D} (h : Ev c A env ρ t (.lst ds)) : EvL c A env ρ t ds := fun s σ p V Q E k => h s σ p V Q E fun v s' σ' g i => by
  cases i with | lst e a => exact k _ _ _ _ _ _ g e rfl rfl a
/-- over a list -/
theorem It.listL {e tgt : Expr} {ds : List D} (hh : A.handled = none) (h : EvL c A env ρ (eval e env) ds) (ht : (∃ x p, tgt = .Name x p) ∨ ∃ es k p, tgt = .Tuple es k p) : It c A env ρ e tgt ds := by
  intro s σ p V Q E k
  refine h s σ p V _ _ fun a o vs n s1 σ1 g1 e1 hcls hdat al => ?_
  have p1 := g1.pre p
  · have hl : s1.heap.IsList a vs.toArray := ⟨_, p1.sub _ _ e1, hcls, n, hdat⟩
    refine wpAny_pyIter_list hl ?_
    have hne : a ≠ s1.heap.objs.size := Nat.ne_of_lt (Heap.lt_size (p1.sub _ _ e1))
    have W := Walks.list (prog := c.prog) (w := c.w) hh s1.heap.objs.size a hne vs.toArray
    have g2 : Grow σ1 s1 σ1 { s1 with heap := s1.heap.push { cls := .type "list_iterator", data := .fields #[.ref a, .int 0 0] } } := .heap (tk := s1.toks) p1 (fun b o e => Heap.get?_push_of_some _ e)
    have hIn : σ1 s1.heap.objs.size = none := by
      cases q : σ1 s1.heap.objs.size with
      | none => rfl
      | some o => exact absurd (Heap.lt_size (p1.sub _ _ q)) (Nat.lt_irrefl _)
    refine k s1.heap.objs.size _ σ1 [(s1.heap.objs.size, { cls := .type "list_iterator", data := .fields #[.ref a, .int 0 0] })] _ (g1.trans g2) ?_ ?_ ?_
      (Wk.of W (by rw [List.size_toArray]; exact al.length) ?_ (fun i h hs => let ⟨⟨o, e, _⟩, _⟩ := hs; ⟨o, e⟩) ?_ (tab_lt p1.tab) (fun i s v Q E hs q => go_list hs.1 q ht)) ⟨_, rfl, ?_⟩
    · intro q hq; cases List.mem_singleton.mp hq; exact Heap.get?_push_size _ rfl
    · intro q hq; cases List.mem_singleton.mp hq; exact hIn
    · intro q hq; cases List.mem_singleton.mp hq; exact none_back (fun o e => g1.keep _ o (Ne.symm (Nat.ne_of_lt p1.tab.lt)) e) (size_none _)
    · intro b hb
      rcases List.mem_cons.mp hb with rfl | hb
      · exact .inl rfl
      · cases List.mem_singleton.mp hb; exact .inr ⟨_, e1⟩
    · intro i v d hd hv σ hle
      obtain ⟨v', e', i'⟩ := al.get hd
      have : vs[i]? = some v := by simpa using hv
      rw [e'] at this; cases this
      exact i'.mono hle
    · intro h hI hσ
      exact ⟨⟨_, hI, rfl, rfl⟩, ⟨_, hσ _ _ e1, hcls, n, hdat⟩⟩
theorem It.list {e tgt : Expr} {ds : List D} (hh : A.handled = none) (h : Ev c A env ρ (eval e env) (.lst ds)) (ht : (∃ x p, tgt = .Name x p) ∨ ∃ es k p, tgt = .Tuple es k p) : It c A env ρ e tgt ds := It.listL hh h.evL ht
/-- over a tuple -/
theorem It.tuple {e : Expr} {x : Str} {px : Pos} {ds : List D} (hh : A.handled = none) (h : Ev c A env ρ (eval e env) (.tup ds)) : It c A env ρ e (.Name x px) ds := by
  intro s σ p V Q E k
  refine h s σ p V _ _ fun v s1 σ1 g1 i1 => ?_
  have p1 := g1.pre p
  cases i1 with
  | tup e1 al =>
    rename_i a vs n
    have hl : s1.heap.IsTuple a vs.toArray := ⟨_, p1.sub _ _ e1, rfl, n, rfl⟩
    refine wpAny_pyIter_tuple hl ?_
    have hne : a ≠ s1.heap.objs.size := Nat.ne_of_lt (Heap.lt_size (p1.sub _ _ e1))
    have W := Walks.tuple (prog := c.prog) (w := c.w) hh s1.heap.objs.size a hne vs.toArray
    have g2 : Grow σ1 s1 σ1 { s1 with heap := s1.heap.push { cls := .type "tuple_iterator", data := .fields #[.ref a, .int 0 0] } } := .heap (tk := s1.toks) p1 (fun b o e => Heap.get?_push_of_some _ e)
    have hIn : σ1 s1.heap.objs.size = none := by
      cases q : σ1 s1.heap.objs.size with
      | none => rfl
      | some o => exact absurd (Heap.lt_size (p1.sub _ _ q)) (Nat.lt_irrefl _)
    refine k s1.heap.objs.size _ σ1 [(s1.heap.objs.size, { cls := .type "tuple_iterator", data := .fields #[.ref a, .int 0 0] })] _ (g1.trans g2) ?_ ?_ ?_
      (Wk.of W (by rw [List.size_toArray]; exact al.length) ?_ (fun i h hs => let ⟨⟨o, e, _⟩, _⟩ := hs; ⟨o, e⟩) ?_ (tab_lt p1.tab) (fun i s v Q E hs q => wpAny_pure q)) ⟨_, rfl, ?_⟩
    · intro q hq; cases List.mem_singleton.mp hq; exact Heap.get?_push_size _ rfl
    · intro q hq; cases List.mem_singleton.mp hq; exact hIn
    · intro q hq; cases List.mem_singleton.mp hq; exact none_back (fun o e => g1.keep _ o (Ne.symm (Nat.ne_of_lt p1.tab.lt)) e) (size_none _)
    · intro b hb
      rcases List.mem_cons.mp hb with rfl | hb
      · exact .inl rfl
      · cases List.mem_singleton.mp hb; exact .inr ⟨_, e1⟩
    · intro i v d hd hv σ hle
      obtain ⟨v', e', i'⟩ := al.get hd
      have : vs[i]? = some v := by simpa using hv
      rw [e'] at this; cases this
      exact i'.mono hle
    · intro h hI hσ
      exact ⟨⟨_, hI, rfl, rfl⟩, ⟨_, hσ _ _ e1, rfl, n, rfl⟩⟩
/-- the ints of a range -/
def intsD (a : Int) (n : Nat) : List D := (List.range n).map fun (i : Nat) => .int (a + (i : Int))
theorem It.range {e : Expr} {x : Str} {px : Pos} {a b : Int} (hh : A.handled = none) (h : Ev c A env ρ (eval e env) (.rng a b)) (hs : Builtin.Range.small a b 1 = true) : It c A env ρ e (.Name x px) (intsD a (b - a).toNat) := by
  intro s σ p V Q E k
  refine h s σ p V _ _ fun v s1 σ1 g1 i1 => ?_
  have p1 := g1.pre p
  cases i1 with
  | rng e1 =>
    refine wpAny_pyIter_range (p1.sub _ _ e1) hs ?_
    have W := Walks.range (prog := c.prog) (w := c.w) hh s1.heap.objs.size a 1 (b - a).toNat
    have hIn : σ1 s1.heap.objs.size = none := by
      cases q : σ1 s1.heap.objs.size with
      | none => rfl
      | some o => exact absurd (Heap.lt_size (p1.sub _ _ q)) (Nat.lt_irrefl _)
    have g2 : ∀ o : Obj, Grow σ1 s1 σ1 { s1 with heap := s1.heap.push o } := fun o => .heap (tk := s1.toks) p1 (fun b o e => Heap.get?_push_of_some _ e)
    have hz : Builtin.Range.rangeSize a b 1 = ((b - a).toNat : Int) := by
      unfold Builtin.Range.rangeSize
      simp only [Int.zero_lt_one, gt_iff_lt, if_true, Int.ediv_one]
      split <;> omega
    refine k s1.heap.objs.size _ σ1 [(s1.heap.objs.size, { cls := .type "range_iterator", data := .fields #[rawInt a, rawInt (Builtin.Range.rangeSize a b 1), rawInt 1] })] _ (g1.trans (g2 _)) ?_ ?_ ?_
      (Wk.of W (by simp [intsD]) (fun b hb => .inl (List.mem_singleton.mp hb)) (fun i h hs => ⟨_, hs⟩) ?_ (tab_lt p1.tab) (fun i s v Q E hs q => wpAny_pure q)) ⟨_, rfl, ?_⟩
    · intro q hq; cases List.mem_singleton.mp hq; exact Heap.get?_push_size _ rfl
    · intro q hq; cases List.mem_singleton.mp hq; exact hIn
    · intro q hq; cases List.mem_singleton.mp hq; exact none_back (fun o e => g1.keep _ o (Ne.symm (Nat.ne_of_lt p1.tab.lt)) e) (size_none _)
    · intro i v d hd ⟨t, hv⟩ σ hle
      subst hv
      unfold intsD at hd
      rw [List.getElem?_map] at hd
      obtain ⟨j, hj, rfl⟩ := Option.map_eq_some_iff.mp hd
      rw [List.getElem?_range] at hj
      · cases hj; rw [Int.mul_one]; exact .int _ _
      · have := (List.getElem?_eq_some_iff.mp hj).1; simpa using this
    · intro h hI hσ
      show h.get? _ = _
      rw [hI, hz]
      simp

/-- the signs of a text -/
def signs (x : Str) : List D := x.cps.toList.map fun n => .str ⟨#[n]⟩
theorem It.str {e : Expr} {y : Str} {px : Pos} {x : Str} (hh : A.handled = none) (h : Ev c A env ρ (eval e env) (.str x)) : It c A env ρ e (.Name y px) (signs x) := by
  intro s σ p V Q E k
  refine h s σ p V _ _ fun v s1 σ1 g1 i1 => ?_
  have p1 := g1.pre p
  cases i1 with
  | str _ t =>
    refine wpAny_pyIter_strU ?_
    have hIn : σ1 s1.heap.objs.size = none := by
      cases q : σ1 s1.heap.objs.size with
      | none => rfl
      | some o => exact absurd (Heap.lt_size (p1.sub _ _ q)) (Nat.lt_irrefl _)
    have g2 : ∀ o : Obj, Grow σ1 s1 σ1 { s1 with heap := s1.heap.push o } := fun o => .heap (tk := s1.toks) p1 (fun b o e => Heap.get?_push_of_some _ e)
    have W : ∃ Sw, Walks c.prog c.w A s1.heap.objs.size [s1.heap.objs.size] [s1.heap.objs.size] x.cps.size (SignAt x) Sw ∧ Sw = (fun i h => h.IsStrIter s1.heap.objs.size (strIterType x) x t i) := by
      unfold strIterType
      split
      · exact ⟨_, Walks.strAscii hh _ x t, rfl⟩
      · exact ⟨_, Walks.strWide hh _ x t, rfl⟩
    obtain ⟨Sw, W, rfl⟩ := W
    refine k s1.heap.objs.size _ σ1 [(s1.heap.objs.size, { cls := .type (strIterType x), data := .fields #[.str x t, .int 0 0] })] _ (g1.trans (g2 _)) ?_ ?_ ?_
      (Wk.of W (by simp [signs]) (fun b hb => .inl (List.mem_singleton.mp hb)) (fun i h hs => let ⟨o, e, _⟩ := hs; ⟨o, e⟩) ?_ (tab_lt p1.tab) (fun i s v Q E hs q => wpAny_pure q)) ⟨_, rfl, ?_⟩
    · intro q hq; cases List.mem_singleton.mp hq; exact Heap.get?_push_size _ rfl
    · intro q hq; cases List.mem_singleton.mp hq; exact hIn
    · intro q hq; cases List.mem_singleton.mp hq; exact none_back (fun o e => g1.keep _ o (Ne.symm (Nat.ne_of_lt p1.tab.lt)) e) (size_none _)
    · intro i v d hd hv σ hle
      unfold signs at hd
      rw [List.getElem?_map] at hd
      obtain ⟨j, hj, rfl⟩ := Option.map_eq_some_iff.mp hd
      obtain ⟨m, t', e', rfl⟩ := hv
      rw [Array.getElem?_toList] at hj
      rw [hj] at e'; cases e'
      exact .str _ _
    · intro h hI hσ
      exact ⟨_, hI, rfl, rfl⟩
end

/-! text LC -/
section
variable {c : Cx} {f : Fm} {res res' : List (Addr × Obj)} {ρ ρ' : Sto} {σ σ' : Look} {s s' : Shared}
theorem St.perm (S : St c f res ρ σ s) (h : ∀ p ∈ res', p ∈ res) : St c f res' ρ σ s :=
  ⟨S.pre, S.vars, S.kind, S.ns, S.cells, S.eld, S.inj, S.mine, fun x ds a e hv => let ⟨q1, q2, q3⟩ := S.own x ds a e hv; ⟨q1, q2, fun p hp => q3 p (h p hp)⟩, S.ownInj, fun p hp => S.res p (h p hp), S.keep, S.hcPT, S.le, S.new, S.os⟩
theorem St.weak (S : St c f res ρ σ s) (h : ∀ x b, ρ' x = some b → ρ x = some b) : St c f res ρ' σ s :=
  ⟨S.pre, fun x b e => S.vars x b (h x b e), S.kind, S.ns, S.cells, S.eld, S.inj, S.mine, fun x ds a e hv => S.own x ds a (h _ _ e) hv, fun x y ds es a e e' => S.ownInj x y ds es a (h _ _ e) (h _ _ e'), S.res, S.keep, S.hcPT, S.le, S.new, S.os⟩
theorem tab_some {h : Heap} (t : TabOk h) : h.get? PT ≠ none ∧ h.get? 86 ≠ none := by
  obtain ⟨ps, _, ⟨o, vs, e, _⟩, t⟩ := t
  exact ⟨by rw [t]; exact Option.some_ne_none _, by rw [e]; exact Option.some_ne_none _⟩
theorem TabOk.but {h h' : Heap} {a : Addr} (t : TabOk h) (hs : Heap.SameBut a h h') (ha : a ≠ PT ∧ a ≠ 86) : TabOk h' := by
  obtain ⟨ps, ic, ta⟩ := t
  have n1 : PT ≠ a := Ne.symm ha.1
  have n2 : (86 : Addr) ≠ a := Ne.symm ha.2
  obtain ⟨o, vs, file, tf, flags, tg, inF, text, tt, op, a1, r1, r2, r3, r4, r5, r6, b1, r⟩ := ic
  exact ⟨ps, ⟨o, vs, file, tf, flags, tg, inF, text, tt, op, (hs.2 _ n2).trans a1, r1, r2, r3, r4, r5, r6, (hs.2 _ n1).trans b1, r⟩, ta.extBut hs.extBut n2 n1⟩
/-- one object that is set apart has changed -/
theorem Chg.one {a : Addr} {o o' : Obj} {h' : Heap} {tk : Nat} (p : PreG c σ s) (ha : σ a = none) (h86 : a ≠ PT ∧ a ≠ 86) (hs : Heap.SameBut a s.heap h') (ho : h'.get? a = some o') : Chg [(a, o)] σ s σ { s with heap := h', toks := tk } [(a, o')] := by
  have up : ∀ b o, b ≠ a → s.heap.get? b = some o → h'.get? b = some o := fun b o hb e => (hs.2 b hb).trans e
  refine ⟨fun b o _ hne e => up b o (fun q => hne _ List.mem_cons_self q.symm) e, fun _ _ e => e, fun b o e => up b o ?_ (p.sub _ _ e), fun b h => .inl h, .same _, p.tab.but hs h86, p.gens, p.pt, ?_, ?_, ?_⟩
  · rintro rfl; rw [ha] at e; cases e
  · intro q hq; cases List.mem_singleton.mp hq; exact ⟨_, List.mem_cons_self, rfl⟩
  · intro q hq; cases List.mem_singleton.mp hq; exact ho
  · intro q hq; cases List.mem_singleton.mp hq; exact ha
end

/-- the names that a comprehension takes from the frame around it -/
def capd (caps : List Str) (ρ : Sto) : Sto := fun x => if x ∈ caps then (match ρ x with | some (.im d) => some (.im d) | _ => none) else none
theorem capd_some {caps : List Str} {ρ : Sto} {x : Str} {b : B} (h : capd caps ρ x = some b) : x ∈ caps ∧ ∃ d, b = .im d ∧ ρ x = some (.im d) := by
  unfold capd at h
  split at h
  · rename_i hx
    split at h
    · rename_i d e; cases h; exact ⟨hx, d, rfl, e⟩
    · cases h
  · cases h

/-- the tests of a comprehension -/
def Tsts (c : Cx) (A : Around) (env : Env) (ρ : Sto) : List Expr → Bool → Prop
  | [], b => b = true
  | [t], b => Tst c A env ρ t b
  | _, _ => False

structure CompOk (c : Cx) (A : Around) (env : Env) (ρ : Sto) (scope : Scope) (cl : List (Str × Addr)) (caps : List Str) (tgt : Expr) (ifs : List Expr) (elt : Expr) (items : List D) (ρt : D → Sto) (p : D → Bool) (g : D → D) : Prop where
  clos : closureFor scope env = pure cl
  cell : ∀ y ∈ scope.names, y.2 ≠ .cell
  kind : scope.kind = .function
  names : ∀ y ∈ scope.names, y.2 = .local → scope.names.lookup y.1 = some .local
  capIn : ∀ x a, cl.lookup x = some a → x ∈ caps
  capOk : ∀ x ∈ caps, env.kindOf x = some .cell ∧ cl.lookup x = env.cells.lookup x ∧ (relabel scope env).names.lookup x = some .cell ∧ ∃ d, ρ x = some (.im d)
  size : items.length ≤ sizeLine
  sub : ∀ d ∈ items, ∀ x b, capd caps ρ x = some b → ρt d x = some b
  asg : ∀ d ∈ items, ∀ C hc σ₀ os₀, Asg c ⟨A, compEnvC scope cl C env, [], hc, σ₀, os₀⟩ tgt d (capd caps ρ) (ρt d)
  test : ∀ d ∈ items, ∀ C, Tsts c A (compEnvC scope cl C env) (ρt d) ifs (p d)
  elt : ∀ d ∈ items, p d = true → ∀ C, Ev c A (compEnvC scope cl C env) (ρt d) (eval elt (compEnvC scope cl C env)) (g d)

theorem tests_D {c : Cx} {A : Around} {env : Env} {ρ : Sto} {ifs : List Expr} {b : Bool} (h : Tsts c A env ρ ifs b) {s : Shared} {σ : Look} (p : PreG c σ s) (V : Vars env ρ σ s.heap) {Q : Bool → Shared → Prop} {E : Value → Shared → Prop} (k : ∀ s' σ', Grow σ s σ' s' → Q b s') :
    wpAny c.M A (forIn ifs true fun c r => if r = true then do let ok ← isTrue c env (eval c env); pure (ForInStep.yield ok) else pure (ForInStep.yield r)) Q E s := by
  match ifs, h with
  | [], h => cases h; exact wpAny_tests_nil (k _ _ (.refl p))
  | [t], h =>
    rw [List.forIn_cons]
    simp only [if_true]
    refine wpAny_bind (wpAny_bind (h s σ p V _ _ fun s' σ' g => wpAny_pure ?_))
    dsimp only
    rw [List.forIn_nil]
    exact wpAny_pure (k _ _ g)

/-- what comes behind an item in a turn -/
abbrev compRest (M : Model) (A : Around) (env : Env) (tgt : Expr) (ifs : List Expr) (elt : Expr) (acc : Value) (Q : Shared → Prop) (E : Value → Shared → Prop) (v : Value) (s : Shared) : Prop :=
  wpAny M A (assign tgt env v) (fun _ s₂ => wpAny M A (forIn ifs true fun c r => if r = true then do let ok ← isTrue c env (eval c env); pure (ForInStep.yield ok) else pure (ForInStep.yield r)) (fun ok s₃ =>
    if ok = true then wpAny M A (eval elt env) (fun x s₄ => wpAny M A (call (.builtin "list.append") [acc, x]) (fun _ s₅ => Q s₅) E s₄) E s₃ else Q s₃) E s₂) E s
theorem compTurn_D {M : Model} {A : Around} {E : Value → Shared → Prop} {s : Shared} {elt tgt iter : Expr} {ifs : List Expr} {scope : Scope} {pos : Pos} {it acc : Value} {env : Env} {Q : PySem.Fin → Shared → Prop}
    (h : wpAny M A (pyNext it) (fun r s₁ => match r with
      | none => Q (.done .next) s₁
      | some v => wpAny M A (letOwnedTupleGo tgt it v) (fun _ s₁' => compRest M A env tgt ifs elt acc (fun s₅ => Q (.again (.compLoop (.ListComp elt [⟨tgt, iter, ifs, 0⟩] scope pos) 0 it acc env)) s₅) E v s₁') E s₁) E s) :
    wpAny M A (compTurn (.ListComp elt [⟨tgt, iter, ifs, 0⟩] scope pos) 0 it acc env) Q E s := by
  rw [compTurn_list]
  refine wpAny_bind (wpAny_standAt (wpAny_bind (wpAny_mono h (fun r s₁ h₁ => ?_) fun _ _ h' => h')))
  cases r with
  | none => exact wpAny_pure h₁
  | some v =>
    refine wpAny_bind (wpAny_mono h₁ (fun _ s₁' h₁' => ?_) fun _ _ h' => h')
    refine wpAny_bind (wpAny_mono h₁' (fun _ s₂ h₂ => wpAny_bind (wpAny_mono h₂ (fun ok s₃ h₃ => ?_) fun _ _ h' => h')) fun _ _ h' => h')
    cases ok with
    | false => exact wpAny_pure h₃
    | true => exact wpAny_bind (wpAny_bind (wpAny_mono h₃ (fun x s₄ h₄ => wpAny_bind (wpAny_mono h₄ (fun _ s₅ h₅ => wpAny_pure (wpAny_pure h₅)) fun _ _ h' => h')) fun _ _ h' => h'))
/-- the loop of a comprehension -/
theorem comp_loop {c : Cx} {A : Around} {env : Env} {ρ : Sto} {scope : Scope} {cl : List (Str × Addr)} {caps : List Str} {tgt iter elt : Expr} {ifs : List Expr} {pos : Pos} {items : List D} {ρt : D → Sto} {p : D → Bool} {g : D → D}
    (K : CompOk c A env ρ scope cl caps tgt ifs elt items ρt p g) {C I Dl : Addr} {hc : Heap} {σ₀ σ' : Look} {os₀ : OG} {own : List (Addr × Obj)} {J : Nat → List (Addr × Obj) → Prop} (W : Wk c A I tgt items σ' J) (j0 : J 0 own)
    {n₀ : Nat} (hDo : ∀ q ∈ own, q.1 ≠ Dl) {s₄ : Shared} (S : St c ⟨A, compEnvC scope cl C env, [], hc, σ₀, os₀⟩ (own ++ [(Dl, lstO [] n₀)]) (capd caps ρ) σ' s₄) {R : Result → Shared → Prop}
    (fin : ∀ s₂ σ₂ ys n, St c ⟨A, compEnvC scope cl C env, [], hc, σ₀, os₀⟩ [(Dl, lstO ys n)] (capd caps ρ) σ₂ s₂ → LeL σ' σ₂ → All σ₂ ys ((items.filter p).map g) → R (.ok .next) s₂) :
    codeAny c.M A (.compStart (.ListComp elt [⟨tgt, iter, ifs, 0⟩] scope pos) 0 (.ref I) (.ref Dl) (compEnvC scope cl C env)) R s₄ := by
  have loop : codeAny c.M A (.compLoop (.ListComp elt [⟨tgt, iter, ifs, 0⟩] scope pos) 0 (.ref I) (.ref Dl) (compEnvC scope cl C env)) R s₄ := by
    let Inv : Nat → Shared → Prop := fun k s₁ => ∃ i own₁ σ₁ ys n, St c ⟨A, compEnvC scope cl C env, [], hc, σ₀, os₀⟩ (own₁ ++ [(Dl, lstO ys n)]) (capd caps ρ) σ₁ s₁ ∧ (∀ q ∈ own₁, q.1 ≠ Dl) ∧ J i own₁ ∧ LeL σ' σ₁ ∧
        All σ₁ ys (((items.take i).filter p).map g) ∧ i ≤ items.length ∧ k = items.length + 1 - i
    refine codeAny_loop rfl Inv ?_ (items.length + 1)
      ⟨0, own, σ', [], n₀, S, hDo, j0, fun _ _ e => e, .nil, Nat.zero_le _, rfl⟩
    rintro k s₁ ⟨i, own₁, σ₁, ys, n, T, hdo, hj, hle, al, hi, rfl⟩
    show wpAny _ A ((compTurn (.ListComp elt [⟨tgt, iter, ifs, 0⟩] scope pos) 0 (.ref I) (.ref Dl) (compEnvC scope cl C env)).onRaise (fun x => do noteFrame x (compEnvC scope cl C env); theTreesLotGoes x)) _ _ s₁
    refine wpAny_noted ?_
    refine compTurn_D ?_
    have aH : AtH own₁ s₁.heap := fun q hq => (T.res q (List.mem_append_left _ hq)).1
    have oF : OffL own₁ σ₁ := fun q hq => (T.res q (List.mem_append_left _ hq)).2.1
    have hdis : ∀ q ∈ own₁, ∀ r ∈ [(Dl, lstO ys n)], q.1 ≠ r.1 := fun q hq r hr => by cases List.mem_singleton.mp hr; exact hdo q hq
    by_cases hlt : i < items.length
    · have hd : items[i]? = some items[i] := List.getElem?_eq_getElem hlt
      have hmem : items[i] ∈ items := List.getElem_mem hlt
      generalize hdd : items[i] = d at hd hmem
      refine wpAny_mono (W.next i d own₁ s₁ σ₁ hd hj aH oF T.pre hle (fun v s₂ => compRest c.M A (compEnvC scope cl C env) tgt ifs elt (.ref Dl) (fun s₅ => (Code.compLoop (.ListComp elt [⟨tgt, iter, ifs, 0⟩] scope pos) 0 (.ref I) (.ref Dl) (compEnvC scope cl C env)) = (Code.compLoop (.ListComp elt [⟨tgt, iter, ifs, 0⟩] scope pos) 0 (.ref I) (.ref Dl) (compEnvC scope cl C env)) ∧ ∃ m, m < items.length + 1 - i ∧ Inv m s₅) (notedBy c.M A (compEnvC scope cl C env) fun e s' => R (.error e) s') v s₂) _ ?_) (fun r s₂ h => ?_) fun _ _ e => e
      · intro v s₂ σ₂ own₂ ch hj2 iv
        have T2 := T.chg ch hdis
        have hdo2 : ∀ q ∈ own₂, q.1 ≠ Dl := fun q hq => by obtain ⟨q', hq', e⟩ := ch.same q hq; rw [← e]; exact hdo q' hq'
        refine K.asg d hmem C hc σ₀ os₀ _ s₂ σ₂ v T2 iv _ _ fun s₃ σ₃ T3 le3 => ?_
        refine tests_D (K.test d hmem C) T3.pre T3.vars fun s₄ σ₄ g4 => ?_
        have T4 := T3.grow g4
        have tk : items.take (i + 1) = items.take i ++ [d] := by rw [List.take_add_one, hd]; rfl
        cases hp : p d with
        | false =>
          simp only [Bool.false_eq_true, if_false]
          refine ⟨by trivial, items.length + 1 - (i + 1), by omega, i + 1, own₂, σ₄, ys, n, T4.weak (K.sub d hmem), hdo2, hj2, fun a o e => g4.le _ _ (le3 _ _ (ch.le _ _ (hle _ _ e))), ?_, hlt, rfl⟩
          rw [tk, List.filter_append]
          simp only [List.filter_cons, hp, Bool.false_eq_true, if_false, List.filter_nil, List.append_nil]
          exact al.mono fun a o e => g4.le _ _ (le3 _ _ (ch.le _ _ e))
        | true =>
          simp only [if_true]
          refine K.elt d hmem hp C s₄ σ₄ T4.pre T4.vars _ _ fun y s₅ σ₅ g5 iy => ?_
          have T5 := T4.grow g5
          have hr := T5.res (Dl, lstO ys n) (List.mem_append_right _ List.mem_cons_self)
          have hl : s₅.heap.PlainList Dl ys.toArray := ⟨n, hr.1⟩
          have hlen : ys.length ≤ items.length := by
            have h1 := al.length
            rw [List.length_map] at h1
            have h2 := List.length_filter_le p (items.take i)
            have h3 := List.length_take_le i items
            omega
          refine wpAny_list_append_plain hl (fun h' hl' hs' => ?_) (by rw [List.size_toArray]; exact Nat.le_trans hlen K.size)
          obtain ⟨n', e'⟩ := hl'
          have e' : h'.get? Dl = some (lstO (ys ++ [y]) n') := by rw [e']; simp
          have h86 : Dl ≠ PT ∧ Dl ≠ 86 := ⟨hr.2.2.2.1, fun q => T5.hcPT.2 (q ▸ hr.2.2.2.2)⟩
          have ch2 : Chg [(Dl, lstO ys n)] σ₅ s₅ σ₅ { s₅ with heap := h', toks := s₅.toks } [(Dl, lstO (ys ++ [y]) n')] := Chg.one T5.pre hr.2.1 h86 hs' e'
          have T6 := (T5.perm (res' := [(Dl, lstO ys n)] ++ own₂) (fun q hq => by
            rcases List.mem_append.mp hq with h | h
            · exact List.mem_append_right _ h
            · exact List.mem_append_left _ h)).chg ch2 (fun q hq r hr => by cases List.mem_singleton.mp hq; exact fun e => hdo2 r hr e.symm)
          refine ⟨by trivial, items.length + 1 - (i + 1), by omega, i + 1, own₂, σ₅, ys ++ [y], n', ?_, hdo2, hj2, fun a o e => g5.le _ _ (g4.le _ _ (le3 _ _ (ch.le _ _ (hle _ _ e)))), ?_, hlt, rfl⟩
          · refine (T6.perm fun q hq => ?_).weak (K.sub d hmem)
            rcases List.mem_append.mp hq with h | h
            · exact List.mem_append_right _ h
            · exact List.mem_append_left _ h
          · rw [tk, List.filter_append, List.map_append]
            simp only [List.filter_cons, hp, if_true, List.filter_nil, List.map_cons, List.map_nil]
            exact (al.mono fun a o e => g5.le _ _ (g4.le _ _ (le3 _ _ (ch.le _ _ e)))).append (.one iy)
      · cases r with
        | none => exact h.elim
        | some v => exact h
    · have hin : i = items.length := by omega
      subst hin
      refine wpAny_mono (W.done own₁ s₁ σ₁ hj aH oF T.pre hle (fun s₂ => R (.ok .next) s₂) _ ?_) (fun r s₂ h => ?_) fun _ _ e => e
      · rintro s₂ ⟨own₂, ch⟩
        rw [List.take_length] at al
        exact fin s₂ σ₁ ys n (T.chg ch hdis).drop hle al
      · cases r with
        | none => exact h
        | some v => exact h.elim
  exact codeAny_compStart_list loop (W.self 0 own s₄ j0 (fun q hq => (S.res q (List.mem_append_left _ hq)).1) S.pre.sub _ _ loop)

/-- the block of a comprehension, from its iterator on; what is left is shown, but for its own namespace C -/
theorem comp_block {c : Cx} {A : Around} {env : Env} {ρ : Sto} {scope : Scope} {cl : List (Str × Addr)} {caps : List Str} {tgt iter elt : Expr} {ifs : List Expr} {pos : Pos} {items : List D} {ρt : D → Sto} {p : D → Bool} {g : D → D}
    (K : CompOk c A env ρ scope cl caps tgt ifs elt items ρt p g) {s s' : Shared} {σ σ' : Look} (hp : PreG c σ s) (V : Vars env ρ σ s.heap) {I : Addr} {own : List (Addr × Obj)} {J : Nat → List (Addr × Obj) → Prop} (gr : Grow σ s σ' s') (ha : AtH own s'.heap) (ho : OffL own σ')
    (hn : ∀ q ∈ own, s.heap.get? q.1 = none) (W : Wk c A I tgt items σ' J) (j0 : J 0 own) {RR : Value → Addr → Result → Shared → Prop} {E : Value → Shared → Prop}
    (fin : ∀ Dl C σ₂ s₂ oC m, Grow σ s σ₂ s₂ → Is σ₂ (.ref Dl) (.lst ((items.filter p).map g)) → s₂.heap.get? C = some oC → LCg.NsObj oC m → σ₂ C = none → s.heap.get? C = none → RR (.ref Dl) C (.ok .next) s₂) :
    wpAny c.M A (newList []) (fun acc s₃ => wpAny c.M A (newFunctionEnv scope env.globals cl [] env.qual none .none (some env)) (fun cenv s₄ =>
      codeAny c.M A (.compStart (.ListComp elt [⟨tgt, iter, ifs, 0⟩] scope pos) 0 (.ref I) acc { cenv with scope := relabel scope env }) (RR acc cenv.locals) s₄) E s₃) E s' := by
  refine wpAny_newObj_type (wpAny_newFunctionEnv K.cell (by intro y hy; simp at hy) (fun h₁ hns₁ hsb₁ => ?_) K.kind)
  dsimp only at hns₁ hsb₁ ⊢
  generalize hH2 : s'.heap.push { cls := .type "list", dict := none, data := .seq ([] : List Value).toArray } = H2 at hns₁ hsb₁ ⊢
  have hC : H2.objs.size = s'.heap.objs.size + 1 := by rw [← hH2, Heap.size_push]
  have old : ∀ b o, s'.heap.get? b = some o → h₁.get? b = some o := fun b o e => hsb₁.extBut b o (by have := Heap.lt_size e; rw [hC]; exact Nat.ne_of_lt (Nat.lt_succ_of_lt this)) (Heap.get?_push_of_some _ (hH2 ▸ Heap.get?_push_of_some _ e))
  have hDC : s'.heap.objs.size ≠ H2.objs.size := by rw [hC]; exact Nat.ne_of_lt (Nat.lt_succ_self _)
  have hacc : h₁.get? s'.heap.objs.size = some { cls := .type "list", dict := none, data := .seq ([] : List Value).toArray } := hsb₁.extBut _ _ hDC (Heap.get?_push_of_some _ (hH2 ▸ Heap.get?_push_size _ rfl))
  have p' := gr.pre hp
  have none_of : ∀ b, s'.heap.objs.size ≤ b → σ' b = none := fun b hb => by
    cases e : σ' b with
    | none => rfl
    | some o' => exact absurd (Heap.lt_size (p'.sub _ _ e)) (Nat.not_lt.mpr hb)
  have hpt : ∀ b, s'.heap.objs.size ≤ b → b ≠ PT := fun b hb e => absurd p'.tab.lt (Nat.not_lt.mpr (e ▸ hb))
  have fresh : ∀ b, s'.heap.objs.size ≤ b → s.heap.get? b = none := fun b hb => none_back (fun o e => gr.keep b o (hpt b hb) e) (ge_none hb)
  have hC1 : s'.heap.objs.size ≤ H2.objs.size := by rw [hC]; exact Nat.le_succ _
  have hsC : s.heap.get? H2.objs.size = none := fresh _ hC1
  have hlen : ∀ x ∈ caps, ∃ a d v, cl.lookup x = some a ∧ env.cells.lookup x = some a ∧ ρ x = some (.im d) ∧ a ≠ PT ∧ s.heap.IsCell a (some v) ∧ Is σ v d := fun x hx => by
    obtain ⟨k1, k2, k3, d, k4⟩ := K.capOk x hx
    obtain ⟨v, ⟨_, ⟨q1, _⟩ | ⟨q1, a, q2, q3, q4⟩⟩, iv⟩ := V x _ k4
    · rw [k1] at q1; cases q1
    · exact ⟨a, d, v, k2.trans q2, q2, k4, q3, q4, iv⟩
  have S : St c ⟨A, compEnvC scope cl H2.objs.size env, [], s.heap, σ, (s.os, s.gens)⟩ (own ++ [(s'.heap.objs.size, { cls := .type "list", dict := none, data := .seq ([] : List Value).toArray })]) (capd caps ρ) σ' { s' with heap := h₁, toks := s'.toks + ([] : List (Str × Value)).length } := by
    refine ⟨⟨fun a o e => old _ _ (p'.sub _ _ e), p'.base, p'.pt, p'.tab.keeps old, p'.gens⟩, ?_, by show scope.kind = .function; exact K.kind, ⟨_, hns₁⟩, (fun x a e => by cases e), ?_, (fun x y a e => by cases e), ?_, ?_, ?_, ?_, fun a o h e => old _ _ (gr.keep a o h e), tab_some hp.tab, gr.le, gr.new, gr.os⟩
    · intro x b e
      obtain ⟨hx, d, rfl, e'⟩ := capd_some e
      obtain ⟨a, d', v, k1, k2, k3, k4, k5, k6⟩ := hlen x hx
      rw [e'] at k3; cases k3
      refine ⟨v, ⟨K.kind, .inr ⟨(K.capOk x hx).2.2.1, a, k1, k4, ?_⟩⟩, k6.mono gr.le⟩
      obtain ⟨o, eo, r⟩ := k5
      exact ⟨o, old _ _ (gr.keep _ _ k4 eo), r⟩
    · intro x a e
      obtain ⟨a', d', v, k1, k2, k3, k4, k5, k6⟩ := hlen x (K.capIn x a e)
      have : a' = a := by have e2 : cl.lookup x = some a := e; rw [k1] at e2; cases e2; rfl
      subst this
      obtain ⟨o, eo, _⟩ := k5
      exact ⟨(by intro q; have q' : a' = H2.objs.size := q; rw [q', hsC] at eo; cases eo), .inr (by show s.heap.get? a' ≠ none; rw [eo]; exact Option.some_ne_none _)⟩
    · rintro a (rfl | ⟨x, e⟩)
      · exact ⟨none_of _ hC1, hsC⟩
      · cases e
    · intro x ds a e
      obtain ⟨_, d, e2, _⟩ := capd_some e; cases e2
    · intro x y ds es a e
      obtain ⟨_, d, e2, _⟩ := capd_some e; cases e2
    · intro q hq
      have hge : s.heap.get? q.1 = none ∧ q.1 < H2.objs.size ∧ h₁.get? q.1 = some q.2 ∧ σ' q.1 = none := by
        rcases List.mem_append.mp hq with h | h
        · exact ⟨hn q h, by rw [hC]; exact Nat.lt_succ_of_lt (Heap.lt_size (ha q h)), old _ _ (ha q h), ho q h⟩
        · cases List.mem_singleton.mp h
          exact ⟨fresh _ (Nat.le_refl _), by show s'.heap.objs.size < _; rw [hC]; exact Nat.lt_succ_self _, hacc, none_of _ (Nat.le_refl _)⟩
      refine ⟨hge.2.2.1, hge.2.2.2, ?_, ?_, hge.1⟩
      · rintro (h | ⟨x, e⟩)
        · exact absurd h (Nat.ne_of_lt hge.2.1)
        · cases e
      · intro e
        have h2 := hge.1
        rw [e] at h2
        exact (tab_some hp.tab).1 h2
  refine comp_loop (J := J) (own := own) (Dl := s'.heap.objs.size) (C := H2.objs.size) K W j0 (fun q hq => Nat.ne_of_lt (Heap.lt_size (ha q hq))) S ?_
  intro s₂ σ₂ ys n T le al
  obtain ⟨t1, t2, t3, t4, t5⟩ := T.res _ List.mem_cons_self
  obtain ⟨m, hm⟩ := T.ns
  obtain ⟨oC, eC, hoC⟩ := LCg.ns_obj hm
  have hCn : σ₂ H2.objs.size = none := (T.mine _ (.inl rfl)).1
  have lep : LeL σ₂ (put σ₂ s'.heap.objs.size (lstO ys n)) := fun a o e => by
    unfold put; rw [if_neg]
    · exact e
    · rintro rfl; rw [t2] at e; cases e
  refine fin s'.heap.objs.size H2.objs.size (put σ₂ s'.heap.objs.size (lstO ys n)) s₂ oC m ⟨T.keep, fun a o e => lep _ _ (T.le _ _ e), ?_, ?_, T.os, T.pre.tab, T.pre.gens, ?_⟩ (.lst put_self (al.mono lep)) eC hoC ?_ hsC
  · intro a o e
    unfold put at e
    split at e
    · rename_i h; subst h; cases e; exact t1
    · exact T.pre.sub _ _ e
  · intro a h
    unfold put at h
    split at h
    · rename_i e; rw [e]; exact .inr (fresh _ (Nat.le_refl _))
    · exact T.new a h
  · unfold put
    rw [if_neg (Ne.symm t4)]
    exact T.pre.pt
  · unfold put
    rw [if_neg (Ne.symm hDC)]
    exact hCn

/-- the comprehension's own namespace goes -/
theorem Grow.butC {c : Cx} {σ σ₂ : Look} {s s₂ : Shared} {C : Addr} {h' : Heap} (g : Grow σ s σ₂ s₂) (hC : σ₂ C = none) (hs : s.heap.get? C = none) (ht : TabOk s.heap) (hb : Heap.SameBut C s₂.heap h') : Grow σ s σ₂ { s₂ with heap := h' } := by
  refine ⟨fun a o h e => (hb.2 a (by rintro rfl; rw [hs] at e; cases e)).trans (g.keep a o h e), g.le, fun a o e => (hb.2 a ?_).trans (g.sub _ _ e), g.new, g.os, g.tab.but hb ⟨by rintro rfl; exact (tab_some ht).1 hs, by rintro rfl; exact (tab_some ht).2 hs⟩, g.gens, g.pt⟩
  rintro rfl; rw [hC] at e; cases e

theorem Ev.comp {c : Cx} {A : Around} {env : Env} {ρ : Sto} {scope : Scope} {cl : List (Str × Addr)} {caps : List Str} {tgt iter elt : Expr} {ifs : List Expr} {pos : Pos} {items : List D} {ρt : D → Sto} {p : D → Bool} {g : D → D}
    (hit : It c A env ρ iter tgt items) (K : CompOk c A env ρ scope cl caps tgt ifs elt items ρt p g) (hs : ∀ x, foldedSetIterable iter env x = pure x := by intro _; rfl) :
    Ev c A env ρ (eval (.ListComp elt [⟨tgt, iter, ifs, 0⟩] scope pos) env) (.lst ((items.filter p).map g)) := by
  intro s σ hp V Q E k
  rw [eval_ListComp]
  refine wpAny_comprehension_free (use := none) rfl hs K.clos K.kind K.names (hit s σ hp V _ _ fun I s' σ' own J gr ha ho hn W j0 => ?_)
  refine comp_block (RR := fun acc C => compPost c.M A E none Q acc C) K hp V gr ha ho hn W j0 ?_
  intro Dl C σ₂ s₂ oC m g2 i2 eC hoC hCn hsC
  exact ⟨m, hoC.ns eC, fun h' hb => k _ _ _ (g2.butC (c := c) hCn hsC hp.tab hb) i2⟩

/-- x = [..], where the store comes ahead of the block's end -/
theorem Ex.assignComp {c : Cx} {f : Fm} {ρ : Sto} {Φ : Fl → Sto → Prop} {scope : Scope} {cl : List (Str × Addr)} {caps : List Str} {tgt iter elt : Expr} {ifs : List Expr} {pos spos py : Pos} {y : Str} {items : List D} {ρt : D → Sto} {p : D → Bool} {g : D → D}
    (hit : It c f.A f.env ρ iter tgt items) (K : CompOk c f.A f.env ρ scope cl caps tgt ifs elt items ρt p g) (hy : HasName f y) (q : Φ .next (upd ρ y (.im (.lst ((items.filter p).map g)))))
    (hsw : swapsWith (.ListComp elt [⟨tgt, iter, ifs, 0⟩] scope pos) (some (.Name y py)) spos.line f.env = pure true := by rfl) (hs : ∀ x, foldedSetIterable iter f.env x = pure x := by intro _; rfl) :
    Ex c f ρ (exec (.Assign [.Name y py] (.ListComp elt [⟨tgt, iter, ifs, 0⟩] scope pos) spos) f.env) Φ := by
  intro res s σ S Q E k
  rw [exec_Assign_Name_used _ _ _ _ hsw]
  refine wpAny_bind (wpAny_standAt (wpAny_bind ?_))
  show wpAny _ f.A (do let _ ← comprehension (.ListComp elt [⟨tgt, iter, ifs, 0⟩] scope pos) scope f.env _ (newList []) false (eval iter f.env) (some (PySem.assign (.Name y py) f.env))) _ _ s
  refine wpAny_bind (wpAny_mono (wpAny_comprehension_free (use := some (PySem.assign (.Name y py) f.env)) (Q := fun _ s' => Q .next s') rfl hs K.clos K.kind K.names (hit s σ S.pre S.vars _ _ fun I s' σ' own J gr ha ho hn W j0 => ?_)) (fun _ _ h => wpAny_pure (wpAny_pure h)) fun _ _ e => e)
  refine comp_block (RR := fun acc C => compPost c.M f.A E (some (PySem.assign (.Name y py) f.env)) (fun _ s' => Q .next s') acc C) K S.pre S.vars gr ha ho hn W j0 ?_
  intro Dl C σ₂ s₂ oC m g2 i2 eC hoC hCn hsC
  have S2 : St c f ([(C, oC)] ++ res) ρ σ₂ s₂ := S.add (S.grow g2) (fun x ds a e h => by
    obtain ⟨b, hb, ow⟩ := S.vars x _ e
    have := (hb.keeps g2.keep).inj h
    cases this
    obtain ⟨vs, n, e1, _⟩ := ow.at_
    rw [e1]; exact Option.some_ne_none _) (fun q hq => by cases List.mem_singleton.mp hq; exact eC) (fun q hq => by cases List.mem_singleton.mp hq; exact hCn) (fun q hq => by cases List.mem_singleton.mp hq; exact hsC)
  show wpAny c.M f.A (PySem.assign (.Name y py) f.env (.ref Dl)) _ E s₂
  refine wpAny_assign_Name (S2.store hy i2 _ _ fun s3 S3 => ?_)
  have r3 := S3.res (C, oC) List.mem_cons_self
  refine ⟨m, hoC.ns r3.1, fun h' hb => ?_⟩
  have h86 : C ≠ PT ∧ C ≠ 86 := ⟨by rintro rfl; exact (tab_some S.pre.tab).1 hsC, by rintro rfl; exact (tab_some S.pre.tab).2 hsC⟩
  obtain ⟨oC', eC'⟩ : ∃ o, s3.heap.get? C = some o := ⟨_, r3.1⟩
  have S4 : St c f res _ σ₂ { s3 with heap := h' } := (S3.chg (own' := []) (s' := { s3 with heap := h' }) (σ' := σ₂) ⟨fun a o _ hne e => (hb.2 a fun q => hne _ List.mem_cons_self q.symm).trans e, fun _ _ e => e, fun a o e => (hb.2 a (by rintro rfl; rw [hCn] at e; cases e)).trans (S3.pre.sub _ _ e), fun a h => .inl h, .same _, S3.pre.tab.but hb h86, S3.pre.gens, S3.pre.pt, (fun _ h => nomatch h), (fun _ h => nomatch h), (fun _ h => nomatch h)⟩
    (fun q hq r hr => by cases List.mem_singleton.mp hq; exact fun e => by have h1 := (S.res r hr).1; rw [← e] at h1; have h2 : s.heap.get? C = none := hsC; rw [h2] at h1; cases h1))
  exact k _ _ _ _ _ S4 g2.le .next q

/-! text LO -/
theorem All.un1 {σ : Look} {vs : List Value} {d1 : D} (h : All σ vs [d1]) : ∃ v1, vs = [v1] ∧ Is σ v1 d1 := by
  cases h with | cons i a => cases a; exact ⟨_, rfl, i⟩
theorem All.un2 {σ : Look} {vs : List Value} {d1 d2 : D} (h : All σ vs [d1, d2]) : ∃ v1 v2, vs = [v1, v2] ∧ Is σ v1 d1 ∧ Is σ v2 d2 := by
  cases h with | cons i a => obtain ⟨v2, rfl, i2⟩ := a.un1; exact ⟨_, _, rfl, i, i2⟩
theorem All.un3 {σ : Look} {vs : List Value} {d1 d2 d3 : D} (h : All σ vs [d1, d2, d3]) : ∃ v1 v2 v3, vs = [v1, v2, v3] ∧ Is σ v1 d1 ∧ Is σ v2 d2 ∧ Is σ v3 d3 := by
  cases h with | cons i a => obtain ⟨v2, v3, rfl, i2, i3⟩ := a.un2; exact ⟨_, _, _, rfl, i, i2, i3⟩
/-! tuples taken apart -/
section
variable {c : Cx} {f : Fm} {res : List (Addr × Obj)} {ρ : Sto} {σ : Look} {s : Shared} {Φ : Fl → Sto → Prop}
/-- a passing object behind the heap's end -/
theorem St.ext (S : St c f res ρ σ s) {h' : Heap} (he : Heap.ExtBut s.heap.objs.size s.heap h') : St c f res ρ σ { s with heap := h' } := by
  have up : ∀ a o, s.heap.get? a = some o → h'.get? a = some o := fun a o e => he a o (Nat.ne_of_lt (Heap.lt_size e)) e
  have T := (S.perm (res' := [] ++ res) (fun p hp => hp)).chg (own' := []) (s' := { s with heap := h' }) (σ' := σ)
    ⟨fun a o _ _ e => up a o e, fun _ _ e => e, fun a o e => up _ _ (S.pre.sub _ _ e), fun a h => .inl h, .same _, S.pre.tab.keeps up, S.pre.gens, S.pre.pt, (fun _ h => nomatch h), (fun _ h => nomatch h), (fun _ h => nomatch h)⟩ (fun _ h => nomatch h)
  exact T
theorem St.isTuple (S : St c f res ρ σ s) {a : Addr} {vs : List Value} {n : Nat} (e : σ a = some (tupO vs n)) : s.heap.IsTuple a vs.toArray := ⟨_, S.pre.sub _ _ e, rfl, n, rfl⟩
theorem Asg.tup2 {x y : Str} {px py pos : Pos} {k : Nat} {d1 d2 : D} (hh : f.A.handled = none) (hx : HasName f x) (hy : HasName f y) :
    Asg c f (.Tuple [.Name x px, .Name y py] k pos) (.tup [d1, d2]) ρ (upd (upd ρ x (.im d1)) y (.im d2)) := by
  intro res s σ v S i Q E kk
  cases i with
  | tup e al =>
    rename_i a vs n
    obtain ⟨v1, v2, rfl, i1, i2⟩ := al.un2
    refine wpAny_assign_Tuple (items := [v1, v2].toArray) hh (S.isTuple e) rfl rfl fun h' he => ?_
    have S1 := S.ext he
    refine wpAny_assignInOrder_more (wpAny_assign_Name (S1.store hx i1 _ _ fun s2 S2 => ?_))
    refine wpAny_assignInOrder_more (wpAny_assign_Name (S2.store hy i2 _ _ fun s3 S3 => ?_))
    exact wpAny_assignInOrder_none (kk _ _ S3 fun _ _ e => e)
theorem Asg.tup3 {x y z : Str} {px py pz pos : Pos} {k : Nat} {d1 d2 d3 : D} (hh : f.A.handled = none) (hx : HasName f x) (hy : HasName f y) (hz : HasName f z) :
    Asg c f (.Tuple [.Name x px, .Name y py, .Name z pz] k pos) (.tup [d1, d2, d3]) ρ (upd (upd (upd ρ x (.im d1)) y (.im d2)) z (.im d3)) := by
  intro res s σ v S i Q E kk
  cases i with
  | tup e al =>
    rename_i a vs n
    obtain ⟨v1, v2, v3, rfl, i1, i2, i3⟩ := al.un3
    refine wpAny_assign_Tuple (items := [v1, v2, v3].toArray) hh (S.isTuple e) rfl rfl fun h' he => ?_
    have S1 := S.ext he
    refine wpAny_assignInOrder_more (wpAny_assign_Name (S1.store hx i1 _ _ fun s2 S2 => ?_))
    refine wpAny_assignInOrder_more (wpAny_assign_Name (S2.store hy i2 _ _ fun s3 S3 => ?_))
    refine wpAny_assignInOrder_more (wpAny_assign_Name (S3.store hz i3 _ _ fun s4 S4 => ?_))
    exact wpAny_assignInOrder_none (kk _ _ S4 fun _ _ e => e)
/-- t1, t2 = e, by the target's own rule -/
theorem Ex.assignT {es : List Expr} {k : Nat} {tpos pos : Pos} {e : Expr} {d : D} {ρ' : Sto} (h : Ev c f.A f.env ρ (eval e f.env) d) (ha : Asg c f (.Tuple es k tpos) d ρ ρ') (q : Φ .next ρ')
    (hs : swapsWithSole [.Tuple es k tpos] e pos.line f.env = pure false := by rfl) (hw : swappedStores [.Tuple es k tpos] e f.env = pure none := by rfl) : Ex c f ρ (exec (.Assign [.Tuple es k tpos] e pos) f.env) Φ := by
  intro res s σ S Q E kk
  refine Assign_Tuple (h s σ S.pre S.vars _ _ fun v s1 σ1 g i => ?_) hs hw
  exact ha _ _ _ _ (S.grow g) i _ _ fun s2 σ2 S2 le => kk _ _ _ _ _ S2 (fun a o e => le _ _ (g.le _ _ e)) .next q
/-- x, y = (e1, e2), stored from behind -/
theorem Ex.swap2 {es : List Expr} {k : Nat} {tpos pos : Pos} {e : Expr} {x y : Str} {d1 d2 : D} (hh : f.A.handled = none) (h : Ev c f.A f.env ρ (eval e f.env) (.tup [d1, d2])) (hx : HasName f x) (hy : HasName f y) (q : Φ .next (upd (upd ρ y (.im d2)) x (.im d1)))
    (hs : swapsWithSole [.Tuple es k tpos] e pos.line f.env = pure false := by rfl) (hw : swappedStores [.Tuple es k tpos] e f.env = pure (some [x, y]) := by rfl) : Ex c f ρ (exec (.Assign [.Tuple es k tpos] e pos) f.env) Φ := by
  intro res s σ S Q E kk
  refine Assign_Tuple_swapped (names := [x, y]) (h s σ S.pre S.vars _ _ fun v s1 σ1 g i => ?_) hs hw
  have S1 := S.grow g
  cases i with
  | tup e al =>
    rename_i a vs n
    obtain ⟨v1, v2, rfl, i1, i2⟩ := al.un2
    refine wpAny_unpackItems_tuple (items := [v1, v2].toArray) hh (S1.isTuple e) fun h' he => ?_
    have S2 := S1.ext he
    refine wpAny_assignInOrder_more (bindName_ (S2.store hy i2 _ _ fun s3 S3 => ?_))
    refine wpAny_assignInOrder_more (bindName_ (S3.store hx i1 _ _ fun s4 S4 => ?_))
    exact wpAny_assignInOrder_none (kk _ _ _ _ _ S4 g.le .next q)
/-- x = y = z = e -/
theorem Ex.assign3 {x y z : Str} {px py pz pos : Pos} {e : Expr} {d : D} (h : Ev c f.A f.env ρ (eval e f.env) d) (hx : HasName f x) (hy : HasName f y) (hz : HasName f z) (q : Φ .next (upd (upd (upd ρ x (.im d)) y (.im d)) z (.im d)))
    (he : (assignEach [.Name x px, .Name y py, .Name z pz] f.env).map (·.2) = [PySem.assign (.Name x px) f.env, PySem.assign (.Name y py) f.env, PySem.assign (.Name z pz) f.env] := by rfl) (hw : swappedStores [.Name x px, .Name y py, .Name z pz] e f.env = pure none := by rfl) :
    Ex c f ρ (exec (.Assign [.Name x px, .Name y py, .Name z pz] e pos) f.env) Φ := by
  intro res s σ S Q E kk
  refine wpAny_Assign_three (h s σ S.pre S.vars _ _ fun v s1 σ1 g i => ?_) he hw
  have S1 := S.grow g
  refine wpAny_assign_Name (S1.store hx i _ _ fun s2 S2 => wpAny_assign_Name (S2.store hy i _ _ fun s3 S3 => wpAny_assign_Name (S3.store hz i _ _ fun s4 S4 => ?_)))
  exact kk _ _ _ _ _ S4 g.le .next q
end

/-! lists that a frame changes -/
/-- a tree gives a new list that is not yet shown -/
def EvF (c : Cx) (A : Around) (env : Env) (ρ : Sto) (t : Sem Value) (ds : List D) : Prop :=
  ∀ s σ, PreG c σ s → Vars env ρ σ s.heap → ∀ (Q : Value → Shared → Prop) (E : Value → Shared → Prop),
    (∀ a vs n s' σ', Grow σ s σ' s' → s'.heap.get? a = some (lstO vs n) → All σ' vs ds → σ' a = none → s.heap.get? a = none → Q (.ref a) s') → wpAny c.M A t Q E s
section
variable {c : Cx} {f : Fm} {ρ : Sto} {Φ : Fl → Sto → Prop}
theorem EvF.list {A : Around} {env : Env} {es : List Expr} {pos : Pos} {ds : List D} (h : Evs c A env ρ es ds) (hz : ds.length ≤ sizeLine := by exact Nat.le_of_ble_eq_true rfl) : EvF c A env ρ (eval (.List es pos) env) ds := by
  intro s σ p V Q E k
  refine List_ (h pos s σ p V _ _ fun vs s1 σ1 g1 a1 => ?_)
  refine wpAny_newObj_type ?_ (by show vs.toArray.size ≤ sizeLine; rw [List.size_toArray, a1.length]; exact hz)
  have p1 := g1.pre p
  have hk : ∀ (o : Obj) a o', s1.heap.get? a = some o' → (s1.heap.push o).get? a = some o' := fun o a o' e => Heap.get?_push_of_some _ e
  refine k s1.heap.objs.size vs 0 _ σ1 (g1.trans (.heap (tk := s1.toks) p1 (hk _))) (Heap.get?_push_size _ rfl) a1 ?_ (none_back (fun o e => g1.keep _ o (Ne.symm (Nat.ne_of_lt p1.tab.lt)) e) (size_none _))
  cases q : σ1 s1.heap.objs.size with
  | none => rfl
  | some o => exact absurd (Heap.lt_size (p1.sub _ _ q)) (Nat.lt_irrefl _)
theorem Ex.assignOwn {x : Str} {px pos : Pos} {e : Expr} {ds : List D} (h : EvF c f.A f.env ρ (eval e f.env) ds) (hx : HasName f x) (q : Φ .next (upd ρ x (.ow ds)))
    (hs : swapsWith e (some (.Name x px)) pos.line f.env = pure false := by rfl) : Ex c f ρ (exec (.Assign [.Name x px] e pos) f.env) Φ := by
  intro res s σ S Q E k
  refine wpAny_Assign_Name (h s σ S.pre S.vars _ _ fun a vs n s' σ' g e1 al hn hge => ?_) hs
  have S1 := S.grow g
  have hpt : a ≠ PT := by rintro rfl; exact (tab_some S.pre.tab).1 hge
  have nM : ¬ f.Mine a := fun h => S.lt h hge
  refine S1.storeB (b := .ow ds) hx (fun h' nv hk => ⟨a, nv, ⟨⟨vs, n, (hk a nM).trans e1, al⟩, hn, hpt⟩⟩) ?_ _ _ fun s2 S2 => k _ _ _ _ _ S2 g.le .next q
  intro es a' e2 e3
  cases e3
  refine ⟨nM, ?_, fun p hp e => ?_, fun y es' hy hr hv => ?_⟩
  · exact none_back (fun o e => S.keep _ o hpt e) hge
  · have h1 := (S.res p hp).1; rw [e, hge] at h1; cases h1
  · obtain ⟨b, hb, ow⟩ := S.vars y _ hr
    have := (hb.keeps g.keep).inj hv
    cases this
    obtain ⟨vs', n', e', _⟩ := ow.at_
    rw [hge] at e'; cases e'
/-- an owned list is not changed any more -/
theorem St.freeze {res : List (Addr × Obj)} {σ : Look} {s : Shared} {x : Str} {ds : List D} (S : St c f res ρ σ s) (hx : ρ x = some (.ow ds)) : ∃ σ', LeL σ σ' ∧ St c f res (upd ρ x (.im (.lst ds))) σ' s := by
  obtain ⟨a, hv, ⟨vs, n, e1, al⟩, hoff, hpt⟩ := S.vars x _ hx
  obtain ⟨o1, o2, o3⟩ := S.own x ds a hx hv
  have le : LeL σ (put σ a (lstO vs n)) := fun b o e => by
    unfold put; rw [if_neg]
    · exact e
    · rintro rfl; rw [hoff] at e; cases e
  have none_of : ∀ b, b ≠ a → σ b = none → put σ a (lstO vs n) b = none := fun b hb e => by unfold put; rw [if_neg hb]; exact e
  have S' : St c f res (upd ρ x (.im (.lst ds))) (put σ a (lstO vs n)) s := by
    refine ⟨⟨fun b o e => ?_, fun b o hb e => le _ _ (S.pre.base b o hb e), none_of _ (Ne.symm hpt) S.pre.pt, S.pre.tab, S.pre.gens⟩, ?_, S.kind, S.ns, S.cells, S.eld, S.inj, ?_, ?_, ?_, ?_, S.keep, S.hcPT, fun b o e => le _ _ (S.le _ _ e), ?_, S.os⟩
    · unfold put at e
      split at e
      · rename_i h; subst h; cases e; exact e1
      · exact S.pre.sub _ _ e
    · intro y b e
      unfold upd at e
      split at e
      · rename_i hy; cases e; subst hy; exact ⟨_, hv, .lst put_self (al.mono le)⟩
      · rename_i hy
        have := S.vars y b e
        cases b with
        | im d => obtain ⟨v, h1, h2⟩ := this; exact ⟨v, h1, h2.mono le⟩
        | ow es =>
          obtain ⟨a', h1, ⟨vs', n', e', al'⟩, h3, h4⟩ := this
          refine ⟨a', h1, ⟨vs', n', e', al'.mono le⟩, none_of _ (fun q => ?_) h3, h4⟩
          subst q
          exact hy (S.ownInj y x es ds a' e hx h1 hv)
    · intro b hb
      exact ⟨none_of _ (fun q => o1 (q ▸ hb)) (S.mine b hb).1, (S.mine b hb).2⟩
    · intro y es b e h1
      unfold upd at e
      split at e
      · cases e
      · exact S.own y es b e h1
    · intro y z es es' b e e' h1 h2
      unfold upd at e e'
      split at e
      · cases e
      · split at e'
        · cases e'
        · exact S.ownInj y z es es' b e e' h1 h2
    · intro p hp
      obtain ⟨q1, q2, q3⟩ := S.res p hp
      exact ⟨q1, none_of _ (o3 p hp) q2, q3⟩
    · intro b hb
      unfold put at hb
      split at hb
      · rename_i h; rw [h]; exact .inr o2
      · exact S.new b hb
  exact ⟨_, le, S'⟩
theorem Ex.freeze {x : Str} {ds : List D} {t : Sem Flow} (hx : ρ x = some (.ow ds)) (h : Ex c f (upd ρ x (.im (.lst ds))) t Φ) : Ex c f ρ t Φ := by
  intro res s σ S Q E k
  obtain ⟨σ1, le, S'⟩ := S.freeze hx
  exact h res s _ S' Q E fun fl s' σ' ρ' d T le' i q => k fl s' σ' ρ' d T (fun b o e => le' _ _ (le _ _ e)) i q

/-- data without parts on the heap -/
def D.flat : D → Bool
  | .none | .bool _ | .int _ | .str _ => true
  | _ => false
theorem Is.flat {σ σ' : Look} {v : Value} {d : D} (h : Is σ v d) (hf : d.flat = true) : Is σ' v d := by
  cases h <;> first | exact .none | exact .bool _ | exact .int _ _ | exact .str _ _ | cases hf
/-- the store as an expression may see it: x as a list, the names without owned lists -/
def seen (ρ : Sto) (x : Str) (ds : List D) : Sto := fun y => if y = x then some (.im (.lst ds)) else match ρ y with | some (.im d) => some (.im d) | _ => none
theorem seen_vars {env : Env} {σ : Look} {h : Heap} {x : Str} {ds : List D} {a : Addr} {vs : List Value} {n : Nat} (V : Vars env ρ σ h) (hv : VarAt env h x (.ref a)) (le : LeL σ (put σ a (lstO vs n))) (al : All σ vs ds) : Vars env (seen ρ x ds) (put σ a (lstO vs n)) h := by
  intro y b e
  unfold seen at e
  split at e
  · rename_i hy; cases e; subst hy; exact ⟨_, hv, .lst put_self (al.mono le)⟩
  · split at e
    · rename_i d he; cases e
      obtain ⟨v, h1, h2⟩ := V y _ he
      exact ⟨v, h1, h2.mono le⟩
    · cases e
theorem own_pre {σ : Look} {s : Shared} {a : Addr} {ds : List D} (p : PreG c σ s) (o : Owned σ s.heap a ds) : ∃ vs n, All σ vs ds ∧ LeL σ (put σ a (lstO vs n)) ∧ PreG c (put σ a (lstO vs n)) s := by
  obtain ⟨⟨vs, n, e1, al⟩, hoff, hpt⟩ := o
  have le : LeL σ (put σ a (lstO vs n)) := fun b o e => by
    unfold put; rw [if_neg]
    · exact e
    · rintro rfl; rw [hoff] at e; cases e
  refine ⟨vs, n, al, le, fun b o e => ?_, fun b o hb e => le _ _ (p.base b o hb e), ?_, p.tab, p.gens⟩
  · unfold put at e
    split at e
    · rename_i h; subst h; cases e; exact e1
    · exact p.sub _ _ e
  · unfold put; rw [if_neg (Ne.symm hpt)]; exact p.pt
theorem Grow.flat {σ σ₁ σ₂ : Look} {s s' : Shared} (p : PreG c σ s) (le : LeL σ σ₁) (g : Grow σ₁ s σ₂ s') : Grow σ s σ s' :=
  ⟨g.keep, fun _ _ e => e, fun a o e => g.sub _ _ (g.le _ _ (le _ _ e)), fun a h => .inl h, g.os, g.tab, g.gens, p.pt⟩
/-- an expression that reads an owned list and gives flat data -/
theorem Ev.own {A : Around} {env : Env} {x : Str} {ds : List D} {t : Sem Value} {d : D} (hx : ρ x = some (.ow ds)) (h : Ev c A env (seen ρ x ds) t d) (hf : d.flat = true := by rfl) : Ev c A env ρ t d := by
  intro s σ p V Q E k
  obtain ⟨a, hv, o⟩ := V x _ hx
  obtain ⟨vs, n, al, le, p'⟩ := own_pre p o
  exact h s _ p' (seen_vars V hv le al) Q E fun v s' σ' g i => k v s' σ (.flat p le g) (i.flat hf)
theorem Tst.own {A : Around} {env : Env} {x : Str} {ds : List D} {e : Expr} {b : Bool} (hx : ρ x = some (.ow ds)) (h : Tst c A env (seen ρ x ds) e b) : Tst c A env ρ e b := by
  intro s σ p V Q E k
  obtain ⟨a, hv, o⟩ := V x _ hx
  obtain ⟨vs, n, al, le, p'⟩ := own_pre p o
  exact h s _ p' (seen_vars V hv le al) Q E fun s' σ' g => k s' σ (.flat p le g)
end

section
variable {c : Cx} {f : Fm} {res : List (Addr × Obj)} {ρ : Sto} {σ : Look} {s : Shared} {Φ : Fl → Sto → Prop}
/-- an owned list is given back to its name -/
theorem St.reown {a : Addr} {vs : List Value} {n : Nat} {x : Str} {ds : List D} (S : St c f ([(a, lstO vs n)] ++ res) ρ σ s) (hv : VarAt f.env s.heap x (.ref a)) (al : All σ vs ds) (hr : ∀ p ∈ res, p.1 ≠ a) : St c f res (upd ρ x (.ow ds)) σ s := by
  obtain ⟨r1, r2, r3, r4, r5⟩ := S.res (a, lstO vs n) List.mem_cons_self
  refine ⟨S.pre, ?_, S.kind, S.ns, S.cells, S.eld, S.inj, S.mine, ?_, ?_, fun p hp => S.res p (List.mem_append_right _ hp), S.keep, S.hcPT, S.le, S.new, S.os⟩
  · intro y b e
    unfold upd at e
    split at e
    · rename_i hy; cases e; subst hy; exact ⟨a, hv, ⟨vs, n, r1, al⟩, r2, r4⟩
    · exact S.vars y b e
  · intro y es b e h
    unfold upd at e
    split at e
    · rename_i hy; cases e; subst hy
      have := hv.inj h; cases this
      exact ⟨r3, r5, hr⟩
    · obtain ⟨q1, q2, q3⟩ := S.own y es b e h
      exact ⟨q1, q2, fun p hp => q3 p (List.mem_append_right _ hp)⟩
  · intro y z es es' b e e' h h'
    unfold upd at e e'
    split at e
    · rename_i hy; cases e; subst hy
      split at e'
      · rename_i hz; exact hz.symm
      · have := hv.inj h; cases this
        exact absurd rfl ((S.own z es' a e' h').2.2 (a, lstO vs n) List.mem_cons_self)
    · split at e'
      · rename_i hz; cases e'; subst hz
        have := hv.inj h'; cases this
        exact absurd rfl ((S.own y es a e h).2.2 (a, lstO vs n) List.mem_cons_self)
      · exact S.ownInj y z es es' b e e' h h'
/-- the content of an owned list has changed -/
theorem St.setOwn {x : Str} {ds ds' : List D} {a : Addr} {h' : Heap} {tk : Nat} {vs' : List Value} {n' : Nat} (S : St c f res ρ σ s) (hx : ρ x = some (.ow ds)) (hv : VarAt f.env s.heap x (.ref a)) (hs : Heap.SameBut a s.heap h') (ho : h'.get? a = some (lstO vs' n')) (al : All σ vs' ds') :
    St c f res (upd ρ x (.ow ds')) σ { s with heap := h', toks := tk } := by
  obtain ⟨a', hv', ⟨vs, n, e1, al0⟩, hoff, hpt⟩ := S.vars x _ hx
  have := hv'.inj hv; cases this
  obtain ⟨o1, o2, o3⟩ := S.own x ds a hx hv
  let ρ0 : Sto := fun y => if y = x then none else ρ y
  have sub0 : ∀ y b, ρ0 y = some b → ρ y = some b ∧ y ≠ x := fun y b e => by
    show ρ y = some b ∧ y ≠ x
    have e' : (if y = x then none else ρ y) = some b := e
    split at e'
    · cases e'
    · rename_i h; exact ⟨e', h⟩
  have S0 := S.weak (ρ' := ρ0) fun y b e => (sub0 y b e).1
  have S1 : St c f ([(a, lstO vs n)] ++ res) ρ0 σ s := by
    refine ⟨S0.pre, S0.vars, S0.kind, S0.ns, S0.cells, S0.eld, S0.inj, S0.mine, fun y es b e h => ?_, S0.ownInj, fun p hp => ?_, S0.keep, S0.hcPT, S0.le, S0.new, S0.os⟩
    · obtain ⟨q1, q2, q3⟩ := S0.own y es b e h
      refine ⟨q1, q2, fun p hp => ?_⟩
      rcases List.mem_append.mp hp with hp | hp
      · cases List.mem_singleton.mp hp
        intro q
        have q' : a = b := q
        subst q'
        exact (sub0 y _ e).2 (S.ownInj y x es ds a (sub0 y _ e).1 hx h hv)
      · exact q3 p hp
    · rcases List.mem_append.mp hp with hp | hp
      · cases List.mem_singleton.mp hp; exact ⟨e1, hoff, o1, hpt, o2⟩
      · exact S0.res p hp
  have h86 : a ≠ PT ∧ a ≠ 86 := ⟨hpt, fun q => S.hcPT.2 (q ▸ o2)⟩
  have S2 := S1.chg (Chg.one (tk := tk) (o := lstO vs n) S1.pre hoff h86 hs ho) (fun q hq r hr => by cases List.mem_singleton.mp hq; exact fun e => o3 r hr e.symm)
  have hv2 : VarAt f.env h' x (.ref a) := hv.keepsOff fun b o hb hc e => (hs.2 b (fun q => by
    subst q
    rcases hc with hc | ⟨y, hc⟩
    · exact o1 (.inl hc)
    · rcases (S.eld y b hc).2 with h | h
      · exact o1 h
      · exact h o2)).trans e
  refine (S2.reown hv2 al o3).weak fun y b e => ?_
  unfold upd at e ⊢
  split at e
  · rename_i h; rw [if_pos h]; exact e
  · rename_i h
    rw [if_neg h]
    show (if y = x then none else ρ y) = some b
    rw [if_neg h]; exact e
/-- x.append(e) -/
theorem Ex.append {x : Str} {px apos cpos pos : Pos} {e : Expr} {ds : List D} {d : D} (hx : ρ x = some (.ow ds)) (h : Ev c f.A f.env ρ (eval e f.env) d) (q : Φ .next (upd ρ x (.ow (ds ++ [d])))) (hz : ds.length ≤ sizeLine)
    (hbase : attributeBase (.Name x px) "append" f.env (eval (.Name x px) f.env) = eval (.Name x px) f.env := by rfl) (hline : (apos.endLine == cpos.line) = true := by rfl) (hu : unstar e = true := by rfl)
    (hi : interactive f.env = false := by rfl) (hs : swapsWith (.Call (.Attribute (.Name x px) "append" apos) [e] [] cpos) none pos.line f.env = pure false := by rfl) (hd : (x == ("__debug__" : Str)) = false := by decide) :
    Ex c f ρ (exec (.Expr (.Call (.Attribute (.Name x px) "append" apos) [e] [] cpos) pos) f.env) Φ := by
  intro res s σ S Q E k
  have htrees : backTo cpos (starEach [e] f.env) = [(false, eval e f.env)] := by rw [starEach_un hu]; rfl
  have hfew := few_of (env := f.env) (pos := cpos) (args := [e]) (by cases e <;> first | rfl | cases hu) (Nat.le_of_ble_eq_true rfl)
  refine wpAny_Expr ?_ hi hs
  obtain ⟨a, hv, ow⟩ := S.vars x _ hx
  have ld : ∀ (Q : Value → Shared → Prop), Q (.ref a) s → wpAny c.M f.A (eval (.Name x px) f.env) Q E s := by
    intro Q hq
    obtain ⟨hk, ⟨h1, _, m, n, h2⟩ | ⟨h1, b, h2, _, h3⟩⟩ := hv
    · exact wpAny_Name (wpAny_loadName_local hk h1 n h2 hq) hd
    · exact wpAny_Name (wpAny_loadName_cell hk h1 h2 h3 hq) hd
  obtain ⟨vs0, n0, e0, al0⟩ := ow.at_
  refine wpAny_Call_append hbase hfew hline htrees (ld _ ⟨a, vs0.toArray, rfl, ⟨_, n0, e0, rfl, rfl, rfl⟩, ?_⟩)
  refine h s σ S.pre S.vars _ _ fun y s1 σ1 g i => ?_
  have S1 := S.grow g
  obtain ⟨a', hv1, ⟨vs, n, e1, al⟩, _, _⟩ := S1.vars x _ hx
  have := (hv.keeps g.keep).inj hv1; cases this
  refine wpAny_list_append_plain (items := vs.toArray) ⟨n, e1⟩ (fun h' hl' hs' => ?_) (by rw [List.size_toArray, al.length]; exact hz)
  obtain ⟨n', e'⟩ := hl'
  have e' : h'.get? a = some (lstO (vs ++ [y]) n') := by rw [e']; simp
  exact k _ _ _ _ _ (S1.setOwn (tk := s1.toks) hx hv1 hs' e' (al.append (.one i))) g.le .next q
end

/-! text LB -/
/-! plain data, as the library reads it -/
mutual
def D.toPy : D → PyData
  | .none => .none
  | .bool b => .bool b
  | .int i => .int i
  | .str x => .str x
  | .tup ds => .tuple (D.toPys ds)
  | .lst ds => .list (D.toPys ds)
  | _ => .none
def D.toPys : List D → List PyData
  | [] => []
  | d :: r => d.toPy :: D.toPys r
end
mutual
def D.plain : D → Bool
  | .none | .bool _ | .int _ | .str _ => true
  | .tup ds | .lst ds => D.plains ds
  | _ => false
def D.plains : List D → Bool
  | [] => true
  | d :: r => d.plain && D.plains r
end
mutual
theorem Is.reads {σ : Look} {h : Heap} (hs : ∀ a o, σ a = some o → h.get? a = some o) : ∀ {v : Value} {d : D}, Is σ v d → d.plain = true → ∃ as, Reads h v d.toPy as
  | _, _, .none, _ => ⟨_, .none⟩
  | _, _, .bool b, _ => ⟨_, .bool b⟩
  | _, _, .int i t, _ => ⟨_, .int i t⟩
  | _, _, .str x t, _ => ⟨_, .str x t⟩
  | _, _, .tup e al, hp => let ⟨as, r⟩ := All.reads hs al (by simpa [D.plain] using hp); ⟨_, by rw [D.toPy]; exact .tuple (hs _ _ e) rfl rfl r⟩
  | _, _, .lst e al, hp => let ⟨as, r⟩ := All.reads hs al (by simpa [D.plain] using hp); ⟨_, by rw [D.toPy]; exact .list (hs _ _ e) rfl rfl r⟩
  | _, _, .rng _, hp => by simp [D.plain] at hp
  | _, _, .typ _, hp => by simp [D.plain] at hp
  | _, _, .gen _, hp => by simp [D.plain] at hp
  | _, _, .ws .., hp => by simp [D.plain] at hp
  | _, _, .self .., hp => by simp [D.plain] at hp
theorem All.reads {σ : Look} {h : Heap} (hs : ∀ a o, σ a = some o → h.get? a = some o) : ∀ {vs : List Value} {ds : List D}, All σ vs ds → D.plains ds = true → ∃ as, ReadsAll h vs (D.toPys ds) as
  | _, _, .nil, _ => ⟨_, .nil⟩
  | _, _, .cons i al, hp => by
    simp only [D.plains, Bool.and_eq_true] at hp
    obtain ⟨as, r⟩ := Is.reads hs i hp.1
    obtain ⟨bs, rs⟩ := All.reads hs al hp.2
    exact ⟨_, by rw [D.toPys]; exact .cons r rs⟩
end

section
variable {c : Cx} {A : Around}
theorem op_eq {d1 d2 : D} (hu : A.units + 64 < cLine) (p1 : d1.plain = true) (p2 : d2.plain = true) (s1 : SeqAt.shaped d1.toPy = true) (s2 : SeqAt.shaped d2.toPy = true) : Op2 c A (compareOp .Eq) d1 d2 (.bool (PyData.eqv d1.toPy d2.toPy)) := by
  intro s σ v1 v2 p i1 i2 Q E k
  obtain ⟨as, r1⟩ := i1.reads p.sub p1
  obtain ⟨bs, r2⟩ := i2.reads p.sub p2
  exact eq_dataH r1 r2 s1 s2 hu (k _ _ _ (.refl p) (.bool _))
theorem op_ne {d1 d2 : D} (hu : A.units + 64 < cLine) (p1 : d1.plain = true) (p2 : d2.plain = true) (s1 : SeqAt.shaped d1.toPy = true) (s2 : SeqAt.shaped d2.toPy = true) : Op2 c A (compareOp .NotEq) d1 d2 (.bool (!PyData.eqv d1.toPy d2.toPy)) := by
  intro s σ v1 v2 p i1 i2 Q E k
  obtain ⟨as, r1⟩ := i1.reads p.sub p1
  obtain ⟨bs, r2⟩ := i2.reads p.sub p2
  exact ne_dataH r1 r2 s1 s2 hu (k _ _ _ (.refl p) (.bool _))

/-! lists -/
theorem add_at {prog : Program} {w : World} {E : Value → Shared → Prop} {s : Shared} {l b : Addr} {vs ws : List Value} {n n2 : Nat} {Q : Value → Shared → Prop} (hl : s.heap.get? l = some (lstO vs n)) (hb : s.heap.get? b = some (lstO ws n2))
    (h : Q (.ref s.heap.objs.size) { s with heap := s.heap.push (lstO (vs ++ ws) 0) }) (hsz : vs.length + ws.length ≤ sizeLine) : wpAny (model prog w) A (binaryOp .Add (.ref l) (.ref b)) Q E s := by
  refine concat_meets ⟨_, hl, rfl⟩ ⟨_, hb, rfl⟩ noFill_list_add seq_list_add PySem.F.slot_list_add PySem.F.entry_list_add (PySem.F.args_list_add_2 _ _) (list_addW l b vs.toArray ws.toArray n n2 none none #[] #[] (by simpa using hsz)) ⟨hl, hb, ?_⟩
  have e : vs.toArray ++ ws.toArray = (vs ++ ws).toArray := by simp
  rw [e]
  exact h
theorem op_add_lst {xs ys : List D} (hz : xs.length + ys.length ≤ sizeLine) : Op2 c A (binaryOp .Add) (.lst xs) (.lst ys) (.lst (xs ++ ys)) := by
  intro s σ v1 v2 p i1 i2 Q E k
  cases i1 with | lst e1 a1 => ?_
  cases i2 with | lst e2 a2 => ?_
  exact add_at (p.sub _ _ e1) (p.sub _ _ e2) (k _ _ _ (Grow.alloc p) (.lst put_self ((a1.append a2).mono (put_le p)))) (by rw [a1.length, a2.length]; exact hz)
theorem EvF.add {env : Env} {ρ : Sto} {l r : Expr} {pos : Pos} {xs ys : List D} (hl : Ev c A env ρ (eval l env) (.lst xs)) (hr : Ev c A env ρ (eval r env) (.lst ys)) (hz : xs.length + ys.length ≤ sizeLine) : EvF c A env ρ (eval (.BinOp l .Add r pos) env) (xs ++ ys) := by
  intro s σ p V Q E k
  refine wpAny_BinOp (hl s σ p V _ _ fun v s1 σ1 g1 i1 => hr s1 σ1 (g1.pre p) (V.grow g1) _ _ fun v2 s2 σ2 g2 i2 => ?_)
  have g := g1.trans g2
  have p2 := g.pre p
  have i1 := i1.mono g2.le
  cases i1 with | lst e1 a1 => ?_
  cases i2 with | lst e2 a2 => ?_
  refine add_at (p2.sub _ _ e1) (p2.sub _ _ e2) ?_ (by rw [a1.length, a2.length]; exact hz)
  refine k _ _ _ _ σ2 (g.trans (.heap (tk := s2.toks) p2 (fun b o e => Heap.get?_push_of_some _ e))) (Heap.get?_push_size _ rfl) (a1.append a2) ?_ (none_back (fun o e => g.keep _ o (Ne.symm (Nat.ne_of_lt p2.tab.lt)) e) (size_none _))
  cases q : σ2 s2.heap.objs.size with
  | none => rfl
  | some o => exact absurd (Heap.lt_size (p2.sub _ _ q)) (Nat.lt_irrefl _)
theorem All.flat {σ : Look} {vs : List Value} {ds : List D} (h : All σ vs ds) : ∀ n, All σ (List.replicate n vs).flatten (List.replicate n ds).flatten
  | 0 => .nil
  | n + 1 => by rw [List.replicate_succ, List.replicate_succ, List.flatten_cons, List.flatten_cons]; exact h.append (All.flat h n)
theorem foldl_flat (items : Array Value) : ∀ (n : Nat) (acc : Array Value), List.foldl (fun x1 x2 => x1 ++ x2) acc (List.replicate n items) = acc ++ (List.replicate n items.toList).flatten.toArray
  | 0, acc => by simp
  | n + 1, acc => by
    rw [List.replicate_succ, List.foldl_cons, foldl_flat items n, List.replicate_succ, List.flatten_cons]
    apply Array.ext'
    simp
theorem op_mul_lst {xs : List D} {k : Int} (hk : k < 2 ^ 63) (hk' : -(2 ^ 63 : Int) ≤ k) (hz : xs.length * k.toNat ≤ 2 ^ 24) : Op2 c A (binaryOp .Mult) (.lst xs) (.int k) (.lst (List.replicate k.toNat xs).flatten) := by
  intro s σ v1 v2 p i1 i2 Q E kk
  cases i1 with | lst e1 a1 => ?_
  cases i2 with | int _ u => ?_
  rename_i a vs n
  have hl := p.sub _ _ e1
  have hlen : vs.toArray.size = xs.length := by rw [List.size_toArray]; exact a1.length
  refine wpAny_binaryOp_repeat_ref (T := "list") (U := "int") (by decide) ⟨_, hl, rfl⟩ (fun s' => typeIs_int s' k u) noFill_list_mul PySem.F.fills_int_mul PySem.F.slot_int_rmul repeat_list PySem.F.slot_int_index.lookup
    (call_meets PySem.F.slot_int_rmul (typeIs_int s k u) PySem.F.entry_int_rmul (PySem.F.args_int_rmul_2 _ _) (int___rmul___int_list k u a vs.toArray n)
      ⟨hl, rfl, ⟨_, hl, rfl⟩, call_meets PySem.F.slot_list_mul ⟨_, hl, rfl⟩ PySem.F.entry_list_mul (PySem.F.args_list_mul_2 _ _)
        (AutoListH.list___mul___list_int_3 a vs.toArray n k u (by simp [Builtin.List.listFitsIndex]; omega) (by rw [hlen]; omega) (by rw [hlen]; simp [Builtin.List.listTooLong, sizeLine]; omega)) ⟨hl, ?_⟩⟩)
  have e : (List.foldl (fun x1 x2 => x1 ++ x2) #[] (List.replicate (if vs.toArray.isEmpty = true then 0 else k.toNat) vs.toArray)) = (List.replicate k.toNat vs).flatten.toArray := by
    rw [foldl_flat]
    by_cases h : vs = []
    · subst h; simp
    · have : vs.toArray.isEmpty = false := by simpa using h
      rw [this]; simp
  have := kk _ _ _ (Grow.alloc (o := lstO (List.replicate k.toNat vs).flatten 0) (tk := s.toks) p) (.lst put_self ((a1.flat k.toNat).mono (put_le p)))
  rw [e]
  exact this
end

/-! text LD -/
section
variable {c : Cx} {A : Around} {env : Env} {ρ : Sto}
/-! items -/
theorem Ev.item {v i : Expr} {pos : Pos} {d1 d2 d : D} (hv : Ev c A env ρ (eval v env) d1) (hi : Ev c A env ρ (eval i env) d2) (ho : Op2 c A (fun o k => subscriptTail v i o k) d1 d2 d) : Ev c A env ρ (eval (.Subscript v i pos) env) d := by
  intro s σ p V Q E k
  refine Subscript_ (hv s σ p V _ _ fun v s1 σ1 g1 i1 => hi s1 σ1 (g1.pre p) (V.grow g1) _ _ fun v2 s2 σ2 g2 i2 => ?_)
  exact ho s2 σ2 _ _ (g2.pre (g1.pre p)) (i1.mono g2.le) i2 _ _ fun v s' σ' g i => k _ _ _ ((g1.trans g2).trans g) i
theorem it_lst {v i : Expr} {ds : List D} {k : Int} {d : D} (h0 : 0 ≤ k) (hx : ds[k.toNat]? = some d) (hz : ds.length ≤ 2 ^ 24) (hs : ∀ o j, subscripted i false o j = operate [o, j] (getItem o j) := by intro _ _; rfl) : Op2 c A (fun o k => subscriptTail v i o k) (.lst ds) (.int k) d := by
  intro s σ v1 v2 p i1 i2 Q E kk
  cases i1 with | lst e1 a1 => ?_
  cases i2 with | int _ u => ?_
  rename_i a vs n
  have hl : s.heap.IsList a vs.toArray := ⟨_, p.sub _ _ e1, rfl, n, rfl⟩
  obtain ⟨x, hx', ix⟩ := a1.get hx
  have hlt := (List.getElem?_eq_some_iff.mp hx).1
  exact tail_any hl.typeIs slot_list_getitem.lookup (wpAny_getItem_list hl h0 (by omega) (by simpa using hx') (kk _ _ _ (.refl p) ix)) (hs _ _)
theorem it_lst_last {v i : Expr} {ds : List D} {d : D} (hx : ds.getLast? = some d) (hz : ds.length ≤ 2 ^ 24) (hs : ∀ o j, subscripted i false o j = operate [o, j] (getItem o j) := by intro _ _; rfl) : Op2 c A (fun o k => subscriptTail v i o k) (.lst ds) (.int (-1)) d := by
  intro s σ v1 v2 p i1 i2 Q E kk
  cases i1 with | lst e1 a1 => ?_
  cases i2 with | int _ u => ?_
  rename_i a vs n
  have hl : s.heap.IsList a vs.toArray := ⟨_, p.sub _ _ e1, rfl, n, rfl⟩
  rw [List.getLast?_eq_getElem?] at hx
  obtain ⟨x, hx', ix⟩ := a1.get hx
  have hlt := (List.getElem?_eq_some_iff.mp hx).1
  have hlen := a1.length
  refine tail_any hl.typeIs slot_list_getitem.lookup (wpAny_getItem_list_neg hl (by omega) (by rw [List.size_toArray]; omega) (by decide) (x := x) ?_ (kk _ _ _ (.refl p) ix)) (hs _ _)
  rw [List.size_toArray]
  have : (-1 + (vs.length : Int)).toNat = ds.length - 1 := by omega
  rw [this]; simpa using hx'
theorem it_tup {v i : Expr} {ds : List D} {k : Int} {d : D} (h0 : 0 ≤ k) (hx : ds[k.toNat]? = some d) (hz : ds.length ≤ 2 ^ 24) (hs : ∀ o j, subscripted i false o j = operate [o, j] (getItem o j) := by intro _ _; rfl) : Op2 c A (fun o k => subscriptTail v i o k) (.tup ds) (.int k) d := by
  intro s σ v1 v2 p i1 i2 Q E kk
  cases i1 with | tup e1 a1 => ?_
  cases i2 with | int _ u => ?_
  rename_i a vs n
  have hl : IsTup s.heap a vs.toArray := ⟨_, p.sub _ _ e1, rfl, n, rfl⟩
  obtain ⟨x, hx', ix⟩ := a1.get hx
  have hlt := (List.getElem?_eq_some_iff.mp hx).1
  have hlen := a1.length
  refine tail_any hl.typeIs slot_tuple_getitem.lookup (getItem_tuple (j := k.toNat) hl (by omega) (by omega) ?_ (by simpa using hx') (kk _ _ _ (.refl p) ix)) (hs _ _)
  unfold seqIndex?
  rw [List.size_toArray]
  have h1 : ¬ k < 0 := by omega
  have h2 : k < (vs.length : Int) := by omega
  simp [h1, h2, h0]
theorem it_str {v i : Expr} {x : Str} {k : Int} {n : Nat} (h0 : 0 ≤ k) (hx : x.cps.toList[k.toNat]? = some n) (hz : x.length ≤ 2 ^ 24) (hs : ∀ o j, subscripted i false o j = operate [o, j] (getItem o j) := by intro _ _; rfl) : Op2 c A (fun o k => subscriptTail v i o k) (.str x) (.int k) (.str ⟨#[n]⟩) := by
  intro s σ v1 v2 p i1 i2 Q E kk
  cases i1 with | str _ t => ?_
  cases i2 with | int _ u => ?_
  have hlt := (List.getElem?_eq_some_iff.mp hx).1
  have hlen : x.cps.toList.length = x.length := by simp [Str.length]
  rw [hlen] at hlt
  have hc : Txt.charAt x k = some n := by
    unfold Txt.charAt seqIndex?
    have h1 : ¬ k < 0 := by omega
    have h2 : k < (x.length : Int) := by omega
    simp only [h1, if_false, h0, h2, decide_true, Bool.and_true, if_true, Option.bind_some]
    rw [← Array.getElem?_toList]; exact hx
  have hz' : x.length ≤ 16777216 := hz
  obtain ⟨T, id, q1, q2, q3⟩ := SB.item (prog := c.prog) (w := c.w) (A := A) (E := E) (s := s) (x := x) (t := t) (i := k) (u := u) (Q := Q) (by simp [fitsSsize]; omega) (by rw [hc]; rfl) (by
    have : Txt.item x k = ⟨#[n]⟩ := by unfold Txt.item; rw [hc]; rfl
    rw [this]
    exact kk _ _ _ (grow_tok p) (.str _ _))
  exact tail_any q2 q1 q3 (hs _ _)
theorem Ev.neg {e : Expr} {pos : Pos} {i : Int} (h : Ev c A env ρ (eval e env) (.int i)) : Ev c A env ρ (eval (.UnaryOp .USub e pos) env) (.int (-i)) := by
  intro s σ p V Q E k
  refine wpAny_UnaryOp (h s σ p V _ _ fun v s1 σ1 g1 i1 => ?_)
  cases i1
  exact PyProof.Rows.neg_int (k _ _ _ (g1.trans (grow_tok (g1.pre p))) (.int _ _))

/-! slices -/
/-- a slice's bound -/
def Part (c : Cx) (A : Around) (env : Env) (ρ : Sto) (e : Option Expr) (i : Option Int) : Prop :=
  ∀ s σ, PreG c σ s → Vars env ρ σ s.heap → ∀ (Q : Value → Shared → Prop) (E : Value → Shared → Prop), (∀ v s' σ', Grow σ s σ' s' → IsPart v i → Q v s') → wpAny c.M A (evalPart e env) Q E s
theorem Part.none : Part c A env ρ none none := fun s σ p V Q E k => wpAny_evalPart_none (k _ _ _ (.refl p) .none)
theorem Part.some {e : Expr} {i : Int} (h : Ev c A env ρ (eval e env) (.int i)) : Part c A env ρ (some e) (some i) := fun s σ p V Q E k => wpAny_evalPart_some (h s σ p V _ _ fun v s1 σ1 g1 i1 => by cases i1; exact k _ _ _ g1 (.int _ _))
def pickL {α : Type} (xs : List α) (lo hi st : Option Int) : List α := (sliceRange (sliceBounds lo hi st xs.length).1 (sliceBounds lo hi st xs.length).2.1 (sliceBounds lo hi st xs.length).2.2).filterMap (xs[·]?)
theorem All.filterMap {σ : Look} {vs : List Value} {ds : List D} (h : All σ vs ds) : ∀ is : List Nat, All σ (is.filterMap (vs[·]?)) (is.filterMap (ds[·]?))
  | [] => .nil
  | i :: is => by
    have ih := All.filterMap h is
    cases hd : ds[i]? with
    | none =>
      have : vs[i]? = Option.none := by
        rw [List.getElem?_eq_none_iff] at hd ⊢
        rw [h.length]; exact hd
      rw [List.filterMap_cons, List.filterMap_cons, hd, this]; exact ih
    | some d =>
      obtain ⟨v, hv, iv⟩ := h.get hd
      rw [List.filterMap_cons, List.filterMap_cons, hd, hv]; exact .cons iv ih
theorem All.pick {σ : Look} {vs : List Value} {ds : List D} (h : All σ vs ds) (lo hi st : Option Int) : All σ (slicePick vs.toArray lo hi st).toList (pickL ds lo hi st) := by
  have e : (slicePick vs.toArray lo hi st).toList = (sliceRange (sliceBounds lo hi st ds.length).1 (sliceBounds lo hi st ds.length).2.1 (sliceBounds lo hi st ds.length).2.2).filterMap (vs[·]?) := by
    unfold slicePick
    rw [List.size_toArray, h.length]
    simp
  rw [e]
  exact h.filterMap _
theorem pick_list {prog : Program} {w : World} {E : Value → Shared → Prop} {s : Shared} {Q : Value → Shared → Prop} {a sl : Addr} {vs : List Value} {n : Nat} {vl vu vt : Value} {lo hi st : Option Int} (hl : s.heap.get? a = some (lstO vs n)) (hs : s.heap.IsSliceOf sl vl vu vt) (pl : IsPart vl lo) (pu : IsPart vu hi) (pt : IsPart vt st) (h0 : st ≠ some 0)
    (h : Q (.ref s.heap.objs.size) { s with heap := s.heap.push (lstO (slicePick vs.toArray lo hi st).toList 0) }) (hz : vs.length ≤ sizeLine) : wpAny (model prog w) A (getItem (.ref a) (.ref sl)) Q E s :=
  wpAny_getItem_list_slice ⟨_, hl, rfl, n, rfl⟩ hs pl pu pt h0 (by simpa using h) (by rw [List.size_toArray]; exact hz)
/-- a list's slice -/
theorem Ev.sliceL {v : Expr} {el eu es : Option Expr} {sp pos : Pos} {ds : List D} {lo hi st : Option Int} (hv : Ev c A env ρ (eval v env) (.lst ds)) (hl : Part c A env ρ el lo) (hu : Part c A env ρ eu hi) (hst : Part c A env ρ es st) (h0 : st ≠ some 0) (hz : ds.length ≤ sizeLine) :
    Ev c A env ρ (eval (.Subscript v (.Slice el eu es sp) pos) env) (.lst (pickL ds lo hi st)) := by
  intro s σ p V Q E k
  refine Subscript_ (hv s σ p V _ _ fun o s1 σ1 g1 i1 => ?_)
  refine wpAny_Slice (hl s1 σ1 (g1.pre p) (V.grow g1) _ _ fun vl s2 σ2 g2 pl => ?_)
  have G2 := g1.trans g2
  refine hu s2 σ2 (G2.pre p) (V.grow G2) _ _ fun vu s3 σ3 g3 pu => ?_
  have G3 := G2.trans g3
  refine hst s3 σ3 (G3.pre p) (V.grow G3) _ _ fun vt s4 σ4 g4 pt => ?_
  have G4 := G3.trans g4
  have p4 := G4.pre p
  have i1 := i1.mono (fun a o e => g4.le _ _ (g3.le _ _ (g2.le _ _ e)))
  cases i1 with | lst e1 a1 => ?_
  rename_i a vs n
  have hk : ∀ (o : Obj) b o', s4.heap.get? b = some o' → (s4.heap.push o).get? b = some o' := fun o b o' e => Heap.get?_push_of_some _ e
  have G5 := G4.trans (Grow.heap (h' := s4.heap.push { cls := .type "slice", data := .fields #[vl, vu, vt] }) (tk := s4.toks) p4 (hk _))
  have p5 := G5.pre p
  have e5 := p5.sub _ _ e1
  have main : wpAny c.M A (getItem (.ref a) (.ref s4.heap.objs.size)) Q E { s4 with heap := s4.heap.push { cls := .type "slice", data := .fields #[vl, vu, vt] }, toks := s4.toks } := by
    refine pick_list e5 ⟨_, Heap.get?_push_size _ rfl, rfl, rfl⟩ pl pu pt h0 ?_ (by rw [a1.length]; exact hz)
    exact k _ _ _ (G5.trans (Grow.alloc (tk := s4.toks) p5)) (.lst put_self ((a1.pick lo hi st).mono (put_le p5)))
  have hT : ({ s4 with heap := s4.heap.push { cls := .type "slice", data := .fields #[vl, vu, vt] }, toks := s4.toks } : Shared).TypeIs (.ref a) "list" := ⟨_, e5, rfl⟩
  cases es with
  | none => exact tail_any (ops := [_, _]) hT slot_list_getitem.lookup main rfl
  | some e => exact tail_any (ops := [_, _]) hT slot_list_getitem.lookup main rfl
theorem pickL_arr {α : Type} (xs : List α) (lo hi st : Option Int) (f : α → Value) : (pickL xs lo hi st).map f = (slicePick (xs.map f).toArray lo hi st).toList := by
  unfold pickL slicePick
  rw [List.size_toArray, List.length_map]
  generalize sliceRange _ _ _ = is
  simp only []
  induction is with
  | nil => simp
  | cons i is ih =>
    simp only [List.filterMap_cons, List.getElem?_toArray, List.getElem?_map] at ih ⊢
    cases xs[i]? <;> simpa using ih
theorem pick_inj {α : Type} {xs ys : List α} (h : ∀ f : α → Value, xs.map f = ys.map f) (dec : DecidableEq α) : xs = ys := by
  have hlen : xs.length = ys.length := by simpa using congrArg List.length (h fun _ => .none)
  apply List.ext_getElem hlen
  intro i h1 h2
  have := h fun a => if a = xs[i] then .bool true else .bool false
  have e := congrArg (·[i]?) this
  simp only [List.getElem?_map, List.getElem?_eq_getElem h1, List.getElem?_eq_getElem h2, Option.map_some, Option.some.injEq] at e
  by_cases q : ys[i] = xs[i]
  · exact q.symm
  · simp [q] at e
theorem pickL_upto {α : Type} (xs : List α) (b : Nat) : pickL xs none (some (b : Int)) none = xs.take b := by
  classical
  refine pick_inj (fun f => ?_) (fun a b => Classical.propDecidable (a = b))
  rw [pickL_arr, slicePick_upto']; simp
theorem pickL_butLast {α : Type} (xs : List α) : pickL xs none (some (-1)) none = xs.dropLast := by
  classical
  refine pick_inj (fun f => ?_) (fun a b => Classical.propDecidable (a = b))
  have := slicePick_butLast (xs.map f).toArray 1 (Nat.le_refl _)
  rw [pickL_arr]
  have e : (-((1 : Nat) : Int)) = -1 := rfl
  rw [e] at this
  rw [this, List.dropLast_eq_take]; simp
theorem pickL_rev {α : Type} (xs : List α) : pickL xs none none (some (-1)) = xs.reverse := by
  classical
  refine pick_inj (fun f => ?_) (fun a b => Classical.propDecidable (a = b))
  rw [pickL_arr, krv_pick]; simp
end

/-! text LE -/
theorem All.ints {σ : Look} : ∀ {vs : List Value} {ns : List Int}, All σ vs (ns.map .int) → IntsAre vs ns
  | _, [], .nil => .nil
  | _, _ :: _, .cons (.int i t) a => .cons i t a.ints
theorem All.strs {σ : Look} : ∀ {vs : List Value} {xs : List Str}, All σ vs (xs.map .str) → StrsAre vs xs
  | _, [], .nil => .nil
  | _, _ :: _, .cons (.str i t) a => .cons i t a.strs
theorem All.ofInts {σ : Look} : ∀ {vs : List Value} {ns : List Int}, IntsAre vs ns → All σ vs (ns.map .int)
  | _, _, .nil => .nil
  | _, _, .cons i t a => .cons (.int i t) (All.ofInts a)

theorem All.ofGet {σ : Look} : ∀ {vs : List Value} {ds : List D}, vs.length = ds.length → (∀ (j : Nat) v d, vs[j]? = some v → ds[j]? = some d → Is σ v d) → All σ vs ds
  | [], [], _, _ => .nil
  | v :: vs, d :: ds, hl, h => .cons (h 0 v d rfl rfl) (All.ofGet (by simpa using hl) fun j v d h1 h2 => h (j + 1) v d h1 h2)
section
variable {c : Cx}
theorem fn_len_lst {ds : List D} (hz : ds.length ≤ 2 ^ 24) : Fn c 0 (.builtin "len") [.lst ds] (.int ds.length) := by
  intro A s σ vs R p al Q E k
  obtain ⟨v, rfl, i⟩ := al.un1
  cases i with | lst e a => ?_
  rename_i l ws n
  have hl : s.heap.IsList l ws.toArray := ⟨_, p.sub _ _ e, rfl, n, rfl⟩
  have hlen : ws.toArray.size = ds.length := by rw [List.size_toArray]; exact a.length
  refine PyProof.Rows.len_list hl (by rw [hlen]; omega) ?_
  rw [hlen]
  exact k _ _ _ (grow_tok p) (.int _ _)
theorem fn_len_tup {ds : List D} (hz : ds.length ≤ 2 ^ 24) : Fn c 0 (.builtin "len") [.tup ds] (.int ds.length) := by
  intro A s σ vs R p al Q E k
  obtain ⟨v, rfl, i⟩ := al.un1
  cases i with | tup e a => ?_
  rename_i l ws n
  have hl : IsTup s.heap l ws.toArray := ⟨_, p.sub _ _ e, rfl, n, rfl⟩
  have hlen : ws.toArray.size = ds.length := by rw [List.size_toArray]; exact a.length
  refine PyProof.Rows.len_tuple hl (by rw [hlen]; omega) ?_
  rw [hlen]
  exact k _ _ _ (grow_tok p) (.int _ _)
theorem fn_len_str {x : Str} (hz : x.length ≤ 2 ^ 24) : Fn c 0 (.builtin "len") [.str x] (.int x.length) := by
  intro A s σ vs R p al Q E k
  obtain ⟨v, rfl, i⟩ := al.un1
  cases i with | str _ t => ?_
  exact PyProof.Rows.len_str (by omega) (k _ _ _ (grow_tok p) (.int _ _))
theorem fn_range1 {b : Int} : Fn c 0 (.type "range") [.int b] (.rng 0 b) := by
  intro A s σ vs R p al Q E k
  obtain ⟨v, rfl, i⟩ := al.un1
  cases i with | int _ t => ?_
  exact call_range_1 (k _ _ _ (Grow.alloc p) (.rng put_self))
theorem fn_range2 {a b : Int} : Fn c 0 (.type "range") [.int a, .int b] (.rng a b) := by
  intro A s σ vs R p al Q E k
  obtain ⟨v, v2, rfl, i, i2⟩ := al.un2
  cases i with | int _ t => ?_
  cases i2 with | int _ u => ?_
  exact call_range_2 (k _ _ _ (Grow.alloc p) (.rng put_self))
theorem ints_items {vs : List Value} {ns : List Int} (h : IntsAre vs ns) : ∃ xs : Array (Int × Tok), vs.toArray = intItems xs ∧ xs.toList.map (·.1) = ns := by
  induction h with
  | nil => exact ⟨#[], by simp [intItems], rfl⟩
  | cons n t _ ih =>
    obtain ⟨xs, e1, e2⟩ := ih
    refine ⟨((n, t) :: xs.toList).toArray, ?_, by simp [e2]⟩
    rename_i vs ns _
    have : vs = (intItems xs).toList := by rw [← e1]
    subst this
    apply Array.ext'
    simp [intItems]
theorem preSum_take (xs : Array (Int × Tok)) : ∀ k, k ≤ xs.size → preSum (numAt xs) k = ((xs.toList.take k).map (·.1)).sum
  | 0, _ => rfl
  | k + 1, h => by
    have hlt : k < xs.toList.length := by simpa using Nat.lt_of_succ_le h
    rw [preSum, preSum_take xs k (by omega), List.take_add_one, List.map_append, List.sum_append]
    have e : xs.toList[k]? = some xs.toList[k] := List.getElem?_eq_getElem hlt
    have e' : xs[k]? = some xs.toList[k] := by rw [← Array.getElem?_toList]; exact e
    rw [e]
    simp [numAt, e']
theorem fn_sum {ns : List Int} : Fn c 0 (.builtin "sum") [.lst (ns.map .int)] (.int ns.sum) := by
  intro A s σ vs R p al Q E k
  obtain ⟨v, rfl, i⟩ := al.un1
  cases i with | lst e a => ?_
  rename_i l ws n
  obtain ⟨xs, e1, e2⟩ := ints_items a.ints
  have hl : s.heap.IsList l (intItems xs) := ⟨_, p.sub _ _ e, rfl, n, by show Data.seq ws.toArray n = _; rw [e1]⟩
  refine sum_intListG R.handled hl fun h' tk t' hk => ?_
  have : preSum (numAt xs) xs.size = ns.sum := by
    rw [preSum_take xs xs.size (Nat.le_refl _), ← e2]
    rw [List.take_of_length_le (by simp)]
  rw [this]
  exact k _ _ _ (.heap p hk) (.int _ _)
theorem fn_max2 {a b : Int} : Fn c 0 (.builtin "max") [.int a, .int b] (.int (max a b)) := by
  intro A s σ vs R p al Q E k
  obtain ⟨v, v2, rfl, i, i2⟩ := al.un2
  cases i with | int _ t => ?_
  cases i2 with | int _ u => ?_
  refine max_two_ints R.handled fun h' tk hk => ?_
  by_cases h : b > a
  · rw [if_pos h]
    have : max a b = b := by omega
    exact k _ _ _ (.heap p hk) (by rw [this]; exact .int _ _)
  · rw [if_neg h]
    have : max a b = a := by omega
    exact k _ _ _ (.heap p hk) (by rw [this]; exact .int _ _)
/-- the greatest of a list that is not empty -/
def maxL : List Int → Int
  | [] => 0
  | x :: r => r.foldl max x
theorem foldl_max_ge (r : List Int) : ∀ x, x ≤ r.foldl max x ∧ (∀ y ∈ r, y ≤ r.foldl max x) ∧ (r.foldl max x = x ∨ r.foldl max x ∈ r) := by
  induction r with
  | nil => intro x; simp
  | cons y r ih =>
    intro x
    obtain ⟨h1, h2, h3⟩ := ih (max x y)
    refine ⟨by rw [List.foldl_cons]; omega, fun z hz => ?_, ?_⟩
    · rw [List.foldl_cons]
      rcases List.mem_cons.mp hz with rfl | hz
      · omega
      · exact h2 z hz
    · rw [List.foldl_cons]
      rcases h3 with h3 | h3
      · rw [h3]
        by_cases q : x ≤ y
        · right; rw [show max x y = y by omega]; exact List.mem_cons_self
        · left; omega
      · right; exact List.mem_cons_of_mem _ h3
theorem maxL_spec {l : List Int} (h : l ≠ []) : maxL l ∈ l ∧ ∀ y ∈ l, y ≤ maxL l := by
  cases l with
  | nil => exact absurd rfl h
  | cons x r =>
    obtain ⟨h1, h2, h3⟩ := foldl_max_ge r x
    refine ⟨?_, fun y hy => ?_⟩
    · show r.foldl max x ∈ _
      rcases h3 with h3 | h3
      · rw [h3]; exact List.mem_cons_self
      · exact List.mem_cons_of_mem _ h3
    · show y ≤ r.foldl max x
      rcases List.mem_cons.mp hy with rfl | hy
      · exact h1
      · exact h2 y hy
theorem argBest_spec (f : Nat → Int) : ∀ k, argBest (fun i j => decide (f i > f j)) k ≤ k ∧ ∀ j ≤ k, f j ≤ f (argBest (fun i j => decide (f i > f j)) k)
  | 0 => ⟨Nat.le_refl _, fun j hj => by rw [Nat.le_zero.mp hj]; exact Int.le_refl _⟩
  | k + 1 => by
    obtain ⟨h1, h2⟩ := argBest_spec f k
    unfold argBest
    by_cases q : f (k + 1) > f (argBest (fun i j => decide (f i > f j)) k)
    · rw [if_pos (by simpa using q)]
      refine ⟨Nat.le_refl _, fun j hj => ?_⟩
      rcases Nat.lt_or_ge j (k + 1) with h | h
      · have := h2 j (by omega); omega
      · rw [show j = k + 1 by omega]; exact Int.le_refl _
    · rw [if_neg (by simpa using q)]
      refine ⟨by omega, fun j hj => ?_⟩
      rcases Nat.lt_or_ge j (k + 1) with h | h
      · exact h2 j (by omega)
      · rw [show j = k + 1 by omega]; omega
theorem fn_max {ns : List Int} (hne : ns ≠ []) : Fn c 0 (.builtin "max") [.lst (ns.map .int)] (.int (maxL ns)) := by
  intro A s σ vs R p al Q E k
  obtain ⟨v, rfl, i⟩ := al.un1
  cases i with | lst e a => ?_
  rename_i l ws n
  obtain ⟨xs, e1, e2⟩ := ints_items a.ints
  have hl : s.heap.IsList l (intItems xs) := ⟨_, p.sub _ _ e, rfl, n, by show Data.seq ws.toArray n = _; rw [e1]⟩
  have hsz : xs.size = ns.length := by rw [← e2]; simp
  have hpos : 0 < xs.size := by rw [hsz]; exact List.length_pos_iff.mpr hne
  refine max_intList R.handled hl hpos fun v h' tk hv hk => ?_
  obtain ⟨b1, b2⟩ := argBest_spec (numAt xs) (xs.size - 1)
  generalize argBest (fun i j => decide (numAt xs i > numAt xs j)) (xs.size - 1) = b at hv b1 b2
  obtain ⟨t, rfl⟩ := intItems_at hv
  have num : ∀ j, numAt xs j = (ns[j]?).getD 0 := fun j => by
    unfold numAt
    rw [← e2, List.getElem?_map, Array.getElem?_toList]
  have hb : b < ns.length := by omega
  have : numAt xs b = maxL ns := by
    obtain ⟨m1, m2⟩ := maxL_spec hne
    have h1 : numAt xs b = ns[b] := by rw [num, List.getElem?_eq_getElem hb]; rfl
    obtain ⟨j, hj, ej⟩ := List.getElem_of_mem m1
    have h2 : numAt xs j = maxL ns := by rw [num, List.getElem?_eq_getElem hj]; exact ej
    have h3 := b2 j (by omega)
    have h4 := m2 ns[b] (List.getElem_mem hb)
    omega
  rw [this]
  exact k _ _ _ (.heap p hk) (.int _ _)
theorem fn_tuple {ds : List D} (hz : ds.length ≤ sizeLine) : Fn c 0 (.type "tuple") [.lst ds] (.tup ds) := by
  intro A s σ vs R p al Q E k
  obtain ⟨v, rfl, i⟩ := al.un1
  cases i with | lst e a => ?_
  rename_i l ws n
  have hl : s.heap.IsList l ws.toArray := ⟨_, p.sub _ _ e, rfl, n, rfl⟩
  refine call_tuple_list hl (fun h' hk => ?_) (by rw [List.size_toArray, a.length]; exact hz)
  have g1 : Grow σ s σ { s with heap := h', toks := s.toks } := .heap p hk
  have p1 := g1.pre p
  exact k _ _ _ (g1.trans (Grow.alloc (tk := s.toks) p1)) (.tup put_self (a.mono (put_le p1)))
theorem fn_list_rng {a b : Int} (hs : Builtin.Range.small a b 1 = true) (hz : (b - a).toNat ≤ 2 ^ 24) : Fn c 0 (.type "list") [.rng a b] (.lst (intsD a (b - a).toNat)) := by
  intro A s σ vs R p al Q E k
  obtain ⟨v, rfl, i⟩ := al.un1
  cases i with | rng e => ?_
  have hn : Builtin.Range.rangeSize a b 1 = ((b - a).toNat : Int) := by
    unfold Builtin.Range.rangeSize
    simp only [Int.zero_lt_one, gt_iff_lt, if_true, Int.ediv_one]
    split <;> omega
  refine call_list_range R.handled (p.sub _ _ e) hs hn hz fun h' tk acc' c' hk hS hacc => ?_
  have g1 : Grow σ s σ { s with heap := h', toks := tk } := .heap p hk
  have p1 := g1.pre p
  have hno : σ s.heap.objs.size = none := by
    cases q : σ s.heap.objs.size with
    | none => rfl
    | some o => exact absurd (Heap.lt_size (p.sub _ _ q)) (Nat.lt_irrefl _)
  have hS' : h'.get? s.heap.objs.size = some (lstO acc'.toList c') := by rw [hS]
  have le : LeL σ (put σ s.heap.objs.size (lstO acc'.toList c')) := fun b o e => by
    unfold put; rw [if_neg]
    · exact e
    · rintro rfl; rw [hno] at e; cases e
  refine k _ _ (put σ s.heap.objs.size (lstO acc'.toList c')) ⟨g1.keep, le, fun b o e => ?_, fun b h => ?_, g1.os, g1.tab, g1.gens, ?_⟩ (.lst put_self ?_)
  · unfold put at e
    split at e
    · rename_i h; subst h; cases e; exact hS'
    · exact g1.sub _ _ e
  · unfold put at h
    split at h
    · rename_i e; rw [e]; exact .inr (size_none _)
    · exact .inl h
  · unfold put; rw [if_neg (Nat.ne_of_lt p.tab.lt)]; exact p.pt
  · refine All.ofGet (by simp [intsD, hacc.1]) fun j v d h1 h2 => ?_
    rw [Array.getElem?_toList] at h1
    obtain ⟨t, rfl⟩ := hacc.2 j v h1
    unfold intsD at h2
    rw [List.getElem?_map] at h2
    obtain ⟨j', hj, rfl⟩ := Option.map_eq_some_iff.mp h2
    rw [List.getElem?_range] at hj
    · cases hj; rw [Int.mul_one]; exact .int _ _
    · have := (List.getElem?_eq_some_iff.mp hj).1; simpa using this
end

/-! text LF -/
/-! methods of built-in types -/
/-- values that show d are of the built-in type T, without a dict of their own -/
def OfType (T : String) (d : D) : Prop := ∀ σ v (s : Shared), (∀ a o, σ a = some o → s.heap.get? a = some o) → Is σ v d → s.TypeIs v T ∧ ∀ a, v = .ref a → ∃ ob, s.heap.get? a = some ob ∧ ob.dict = none
theorem OfType.str {x : Str} : OfType "str" (.str x) := fun σ v s h i => by
  cases i; exact ⟨typeIs_str _ _ _, fun a e => nomatch e⟩
theorem OfType.lst {ds : List D} : OfType "list" (.lst ds) := fun σ v s h i => by
  cases i with | lst e a => exact ⟨⟨_, h _ _ e, rfl⟩, fun a e' => by cases e'; exact ⟨_, h _ _ e, rfl⟩⟩
section
variable {c : Cx} {A : Around} {env : Env} {ρ : Sto}
theorem callWith_B {id : String} {first : List Value} {args : List Expr} {ds : List D} {pos : Pos} {s : Shared} {σ : Look} {Q : Value → Shared → Prop} {E : Value → Shared → Prop} (p : PreG c σ s) (V : Vars env ρ σ s.heap) (h : Evs c A env ρ args ds) (hs : noStar args = true) (hn : args.isEmpty = true → ds = [])
    (k : ∀ vs s' σ', Grow σ s σ' s' → All σ' vs ds → wpAny c.M A (call (.builtin id) (first ++ vs)) Q E s') : wpAny c.M A (callWith pos (.builtin id) first (backTo pos (starEach args env)) []) Q E s :=
  callWith_D p V Kept.builtin h k (noStar_mem hs) (fun e => hn (by rw [e]; rfl))
theorem methCall {o : Expr} {name : Str} {apos pos : Pos} {args : List Expr} {T id : String} {d1 : D} {ds : List D} {s : Shared} {σ : Look} {Q : Value → Shared → Prop} {E : Value → Shared → Prop} (p : PreG c σ s) (V : Vars env ρ σ s.heap) (ho : Ev c A env ρ (eval o env) d1) (hT : OfType T d1) (ha : Evs c A env ρ args ds)
    (pa : PlainAttrs T) (slot : Slot T name id) (hty : typeOf (.builtin id) = pure (.type "method_descriptor"))
    (hbase : attributeBase o name env (eval o env) = eval o env) (hline : (apos.endLine == pos.line) = true) (hs : noStar args = true) (hn : args.isEmpty = true → ds = [])
    (hfew : ((backTo pos (starEach args env)).all (fun x => !x.1) && (backToKw pos (keywordEach [] env)).all (fun x => x.1.isSome) && decide (args.length + ([] : List Keyword).length + (if ([] : List Keyword).isEmpty then 0 else 1) < 30)) = true)
    (k : ∀ v vs s' σ', Grow σ s σ' s' → Is σ' v d1 → All σ' vs ds → wpAny c.M A (call (.builtin id) (v :: vs)) Q E s') : wpAny c.M A (eval (.Call (.Attribute o name apos) args [] pos) env) Q E s := by
  refine wpAny_Call_method hbase hfew hline pa slot hty (ho s σ p V _ _ fun v s1 σ1 g1 i1 => ?_)
  have p1 := g1.pre p
  obtain ⟨t1, t2⟩ := hT σ1 v s1 p1.sub i1
  refine ⟨t1, t2, ?_⟩
  exact callWith_B (first := [v]) p1 (V.grow g1) ha hs hn fun vs s2 σ2 g2 a2 => k v vs s2 σ2 (g1.trans g2) (i1.mono g2.le) a2
theorem Ev.methB {o : Expr} {name : Str} {apos pos : Pos} {args : List Expr} {T id : String} {d1 d : D} {ds : List D} {n : Nat} (ho : Ev c A env ρ (eval o env) d1) (hT : OfType T d1) (ha : Evs c A env ρ args ds) (F : Fn c n (.builtin id) (d1 :: ds) d) (R : Room A n)
    (pa : PlainAttrs T) (slot : Slot T name id) (hty : typeOf (.builtin id) = pure (.type "method_descriptor"))
    (hbase : attributeBase o name env (eval o env) = eval o env := by rfl) (hline : (apos.endLine == pos.line) = true := by rfl) (hs : noStar args = true := by rfl) (hn : args.isEmpty = true → ds = [] := by exact fun h => nomatch h)
    (hl : args.length < 30 := by exact Nat.le_of_ble_eq_true rfl) :
    Ev c A env ρ (eval (.Call (.Attribute o name apos) args [] pos) env) d := by
  intro s σ p V Q E k
  exact methCall p V ho hT ha pa slot hty hbase hline hs hn (few_of hs hl) fun v vs s' σ' g i a => F A s' σ' (v :: vs) R (g.pre p) (.cons i a) _ _ fun v s2 σ2 g2 i2 => k _ _ _ (g.trans g2) i2
/-- sep.join(l) -/
theorem Ev.join {o e : Expr} {apos pos : Pos} {x : Str} {ys : List Str} (ho : Ev c A env ρ (eval o env) (.str x)) (he : Ev c A env ρ (eval e env) (.lst (ys.map .str))) (hz : (ys.map (·.length)).sum + ys.length * x.length ≤ 16777216) (R : Room A 0)
    (hbase : attributeBase o (Str.ofString "join") env (eval o env) = eval o env := by rfl) (hline : (apos.endLine == pos.line) = true := by rfl) (hs : noStar [e] = true := by rfl) (hu : unstar e = true := by rfl) :
    Ev c A env ρ (eval (.Call (.Attribute o (Str.ofString "join") apos) [e] [] pos) env) (.str (Txt.join x ys)) := by
  refine Ev.methB (n := 0) ho OfType.str (Evs.cons he Evs.nil hu) ?_ R PySem.F.plainAttrs_str PySem.F.slot_str_join PySem.F.type_str_join hbase hline hs (fun h => nomatch h) (Nat.le_of_ble_eq_true rfl)
  intro A s σ vs R p al Q E k
  obtain ⟨v1, v2, rfl, i1, i2⟩ := al.un2
  cases i1 with | str _ t => ?_
  cases i2 with | lst e a => ?_
  rename_i l ws n
  exact PyProof.Rows.join_list (items := ws.toArray) ⟨_, p.sub _ _ e, rfl, n, rfl⟩ (by simpa using a.strs) hz fun t' tk => k _ _ _ (grow_tok p) (.str _ _)
end
section
variable {c : Cx}
theorem All.numbered {σ : Look} : ∀ (xs : List Str) (k : Nat), All σ (strValues (numbered k xs)) (xs.map .str)
  | [], _ => .nil
  | x :: xs, k => .cons (.str _ _) (All.numbered xs (k + 1))
theorem fn_split {x y : Str} (hy : (y.length == 0) = false) (hsz : x.length ≤ sizeLine) (hsz2 : (Builtin.Str.partsBetween x (Builtin.Str.occurrences x y 0 x.length (x.length + 1)) y.length).length ≤ sizeLine) :
    Fn c 0 (.builtin "str.split") [.str x, .str y] (.lst ((Txt.split x y).map .str)) := by
  intro A s σ vs R p al Q E k
  obtain ⟨v1, v2, rfl, i1, i2⟩ := al.un2
  cases i1 with | str _ t => ?_
  cases i2 with | str _ u => ?_
  have one : ∀ tk, Txt.split x y = [x] → Q (.ref s.heap.objs.size) { s with heap := s.heap.push (lstO [.str x t] 0), toks := tk } := fun tk e => by
    refine k _ _ _ (Grow.alloc (tk := tk) p) ?_
    rw [e]
    exact .lst put_self (.cons (.str _ _) .nil)
  cases h1 : (decide (x.length < y.length) || decide (Builtin.Str.strKind x < Builtin.Str.strKind y))
  · cases hf : (Builtin.Str.occurrences x y 0 x.length (x.length + 1)).isEmpty
    · refine call_meets PySem.F.slot_str_split (typeIs_str _ _ _) PySem.F.entry_str_split (PySem.F.args_str_split_2 _ _) (meets_str_split_sep x y t u h1 hy hf hsz hsz2) ?_
      show wants Q E _ { s with toks := _, heap := s.heap.push { cls := .type "list", data := .seq (strsFrom s.toks (Builtin.Str.partsBetween x (Builtin.Str.occurrences x y 0 x.length (x.length + 1)) y.length)).toArray } }
      rw [strsFrom_eq]
      have e : Txt.split x y = Builtin.Str.partsBetween x (Builtin.Str.occurrences x y 0 x.length (x.length + 1)) y.length := (if_neg (ne_true_of_eq_false h1)).trans (if_neg (ne_true_of_eq_false hf))
      rw [e] at k
      exact k _ _ _ (Grow.alloc (o := lstO _ 0) p) (.lst put_self (All.numbered _ _))
    · exact call_meets PySem.F.slot_str_split (typeIs_str _ _ _) PySem.F.entry_str_split (PySem.F.args_str_split_2 _ _) (meets_str_split_not_found x y t u h1 hy hf)
        (one s.toks ((if_neg (ne_true_of_eq_false h1)).trans (if_pos hf)))
  · exact call_meets PySem.F.slot_str_split (typeIs_str _ _ _) PySem.F.entry_str_split (PySem.F.args_str_split_2 _ _) (meets_str_split_cannot_occur x y t u h1)
      (one s.toks (if_pos h1))
/-- l.count(k) over ints -/
theorem fn_count {ns : List Int} {k : Int} : Fn c 0 (.builtin "list.count") [.lst (ns.map .int), .int k] (.int (ns.count k : Nat)) := by
  intro A s σ vs R p al Q E kk
  obtain ⟨v1, v2, rfl, i1, i2⟩ := al.un2
  cases i1 with | lst e a => ?_
  cases i2 with | int _ u => ?_
  rename_i l ws n
  exact PyProof.Rows.count_list_ints ⟨_, p.sub _ _ e, rfl, n, rfl⟩ a.ints (kk _ _ _ (grow_tok p) (.int _ _))
def isB (b : Bool) : Value → Bool
  | .bool x => x == b
  | _ => false
theorem All.getB {σ : Look} {vs : List Value} {bs : List Bool} (h : All σ vs (bs.map .bool)) (m : Nat) (hm : m < bs.length) : vs[m]? = some (.bool bs[m]) := by
  obtain ⟨v, hv, i⟩ := h.get (k := m) (d := .bool bs[m]) (by simp [hm])
  cases i; exact hv
/-- l.index(False) over bools -/
theorem fn_index {bs : List Bool} (hF : false ∈ bs) (hz : bs.length ≤ 2 ^ 24) : Fn c 0 (.builtin "list.index") [.lst (bs.map .bool), .bool false] (.int (bs.idxOf false : Nat)) := by
  intro A s σ vs R p al Q E kk
  obtain ⟨v1, v2, rfl, i1, i2⟩ := al.un2
  cases i1 with | lst e a => ?_
  cases i2 with | bool _ => ?_
  rename_i l ws n
  have hlen : ws.length = bs.length := by rw [a.length]; simp
  have hj : bs.idxOf false < bs.length := List.idxOf_lt_length_iff.mpr hF
  have at_ : ∀ m (hm : m < ws.toArray.size), ws.toArray[m] = .bool (bs[m]'(by simpa [hlen] using hm)) := fun m hm => by
    have hm' : m < bs.length := by simpa [hlen] using hm
    have := a.getB m hm'
    have h2 : ws[m]? = some ws[m] := List.getElem?_eq_getElem (by simpa using hm)
    rw [h2] at this
    simpa using Option.some.inj this
  refine call_meets PySem.F.slot_list_index ⟨_, p.sub _ _ e, rfl⟩ PySem.F.entry_list_index (PySem.F.args_list_index_2 _ _)
    (SeqAt.list_indexAt l ws.toArray n none #[] (.bool false) (isB false) (bs.idxOf false) (by simpa [hlen] using hj) (by omega) ?_ ?_) ⟨p.sub _ _ e, fun y hy => ?_, kk _ _ _ (grow_tok p) (.int _ _)⟩
  · rw [at_]
    have : bs[bs.idxOf false] = false := by simpa using List.getElem_idxOf hj
    rw [this]; rfl
  · intro m hm hlt
    rw [at_ m hm]
    have hm' : m < bs.length := by simpa [hlen] using hm
    have : bs[m] ≠ false := fun q => by
      have h9 := List.not_of_lt_findIdx (p := (· == false)) (xs := bs) (i := m) hlt
      simp [q] at h9
    show (bs[m] == false) = false
    simpa using this
  · obtain ⟨m, hm, rfl⟩ := Array.mem_iff_getElem.mp hy
    rw [at_ m hm]
    exact SeqAt.EqAt.bool_bool _ _

/-! texts -/
theorem fn_str_int {i : Int} (h : i.natAbs.log2 < 1920) : Fn c 0 (.type "str") [.int i] (.str (Str.ofString (toString i))) := by
  intro A s σ vs R p al Q E k
  obtain ⟨v1, rfl, i1⟩ := al.un1
  cases i1 with | int _ t => ?_
  exact P.str_of_int h (k _ _ _ (grow_tok p) (.str _ _))
theorem op_mul_str {A : Around} {x : Str} {n : Int} (h : MulOk x n) : Op2 c A (binaryOp .Mult) (.str x) (.int n) (.str (Txt.mul x n)) := by
  intro s σ v1 v2 p i1 i2 Q E k
  cases i1 with | str _ t => ?_
  cases i2 with | int _ u => ?_
  exact SB.mul h fun t' tk => k _ _ _ (grow_tok p) (.str _ _)
/-- b is not b' -/
theorem op_isnot_bool {A : Around} {a b : Bool} : Op2 c A (compareOp .IsNot) (.bool a) (.bool b) (.bool (!(a == b))) := by
  intro s σ v1 v2 p i1 i2 Q E k
  cases i1; cases i2
  refine wpAny_isNot_plain rfl ?_
  have : ((Value.bool a == Value.bool b) : Bool) = (a == b) := by cases a <;> cases b <;> rfl
  rw [this]
  exact k _ _ _ (.refl p) (.bool _)
section
variable {A : Around} {env : Env} {ρ : Sto}
theorem slice_at {v : Expr} {el eu : Option Expr} {sp : Pos} {s : Shared} {x : Str} {t : Tok} {Q : Value → Shared → Prop} {E : Value → Shared → Prop} {i : Addr} {prog : Program} {w : World} (h : ItemOn (model prog w) A E (.str x t) (.ref i) Q s) : wpAny (model prog w) A (subscriptTail v (.Slice el eu none sp) (.str x t) (.ref i)) Q E s := by
  obtain ⟨T, id, q1, q2, q3⟩ := h
  exact tail_any (ops := [_, _]) q2 q1 q3 rfl
/-- text[:j], text[i:] -/
theorem Ev.sliceTo {v u : Expr} {sp pos : Pos} {x : Str} {j : Int} (hv : Ev c A env ρ (eval v env) (.str x)) (hu : Ev c A env ρ (eval u env) (.int j)) (hz : x.length ≤ sizeLine) : Ev c A env ρ (eval (.Subscript v (.Slice none (some u) none sp) pos) env) (.str (Txt.slice x none (some j))) := by
  intro s σ p V Q E k
  refine Subscript_ (hv s σ p V _ _ fun o s1 σ1 g1 i1 => ?_)
  refine wpAny_Slice (wpAny_evalPart_none (wpAny_evalPart_some (hu s1 σ1 (g1.pre p) (V.grow g1) _ _ fun vu s2 σ2 g2 i2 => wpAny_evalPart_none ?_)))
  cases i1; cases i2
  have G := g1.trans g2
  refine slice_at (SBH.sliceItem_ns (P := fun h' => ∀ a o, s2.heap.get? a = some o → h'.get? a = some o) (fun h ob hp a o e => Heap.get?_push_of_some _ (hp a o e)) (fun _ _ e => e) (fun h' t' tk hP => ?_) hz)
  exact k _ _ _ (G.trans (.heap (G.pre p) hP)) (.str _ _)
theorem Ev.sliceFrom {v u : Expr} {sp pos : Pos} {x : Str} {j : Int} (hv : Ev c A env ρ (eval v env) (.str x)) (hu : Ev c A env ρ (eval u env) (.int j)) (hz : x.length ≤ sizeLine) : Ev c A env ρ (eval (.Subscript v (.Slice (some u) none none sp) pos) env) (.str (Txt.slice x (some j) none)) := by
  intro s σ p V Q E k
  refine Subscript_ (hv s σ p V _ _ fun o s1 σ1 g1 i1 => ?_)
  refine wpAny_Slice (wpAny_evalPart_some (hu s1 σ1 (g1.pre p) (V.grow g1) _ _ fun vu s2 σ2 g2 i2 => wpAny_evalPart_none (wpAny_evalPart_none ?_)))
  cases i1; cases i2
  have G := g1.trans g2
  refine slice_at (SBH.sliceItem_sn (P := fun h' => ∀ a o, s2.heap.get? a = some o → h'.get? a = some o) (fun h ob hp a o e => Heap.get?_push_of_some _ (hp a o e)) (fun _ _ e => e) (fun h' t' tk hP => ?_) hz)
  exact k _ _ _ (G.trans (.heap (G.pre p) hP)) (.str _ _)
end
/-- x in a written tuple -/
theorem op_in_tup {A : Around} {xs : List D} {d : D} (hu : A.units + 65 < cLine) (p1 : D.plains xs = true) (p2 : d.plain = true) (s1 : SeqAt.shaped (.tuple (D.toPys xs)) = true) (s2 : SeqAt.shaped d.toPy = true) (hm : ∀ y ∈ D.toPys xs, SeqAt.noMix y d.toPy = true) :
    Op2 c A (compareOp .In) d (.tup xs) (.bool (decide (Spec.countIn d.toPy (D.toPys xs) ≠ 0))) := by
  intro s σ v1 v2 p i1 i2 Q E k
  obtain ⟨as, r1⟩ := i1.reads p.sub p2
  obtain ⟨bs, r2⟩ := i2.reads p.sub (by simpa [D.plain] using p1)
  rw [D.toPy] at r2
  exact in_tuple_dataH r2 r1 s1 s2 hu hm (k _ _ _ (.refl p) (.bool _))
end

/-! text LG -/
/-! Whitespace objects -/
abbrev N_raw : Str := Str.ofString "raw"
abbrev N_n : Str := Str.ofString "n"
abbrev N_nt : Str := Str.ofString "nt"
abbrev N_norm : Str := Str.ofString "norm"
abbrev N_simple : Str := Str.ofString "is_simple"
theorem k_plainGet (P : Params) (x : Str) : plainGet (KK P) 76 x = true := by kernel_rfl
theorem k_hasDict (P : Params) : hasDictIn (KK P) 76 = true := by kernel_rfl
theorem k_raw (P : Params) : findIn (KK P) (.ref 76) N_raw = some none := by kernel_rfl
theorem k_n (P : Params) : findIn (KK P) (.ref 76) N_n = some none := by kernel_rfl
theorem k_nt (P : Params) : findIn (KK P) (.ref 76) N_nt = some none := by kernel_rfl
theorem k_norm (P : Params) : findIn (KK P) (.ref 76) N_norm = some none := by kernel_rfl
theorem k_simple (P : Params) : findIn (KK P) (.ref 76) N_simple = some none := by kernel_rfl

theorem Is.handed {σ : Look} {v : Value} {d : D} (h : Is σ v d) : handedIn v = true := by cases h <;> rfl

section
variable {c : Cx} (O : c.Ok) {A : Around} {env : Env} {ρ : Sto} {raw : Str} {n nt b : Int} {cnt : List Int} {sm : Bool}
include O
/-- a member is read -/
theorem get_ws {name : Str} {s : Shared} {σ : Look} {x dx : Addr} {es : List DictEntry} {ep : Nat} {v : Value} {Q : Value → Shared → Prop} {E : Value → Shared → Prop} {ex : Bool} (p : PreG c σ s) (hx : s.heap.get? x = some { cls := .ref 76, dict := some dx, data := .plain }) (hd : s.heap.get? dx = some (dictOf es ep))
    (hf : findIn (KK c.w.params) (.ref 76) name = some none) (hl : getL name es = some (some v)) (hv : handedIn v = true) (q : Q v { s with toks := s.toks + 1 }) : wpAny c.M A (getAttr (.ref x) name ex) Q E s :=
  get_value (p.K O) (ox := { cls := .ref 76, dict := some dx, data := .plain }) (od := some (dictOf es ep)) ⟨hx, rfl, rfl, hd⟩ (plainGet_of (k_plainGet _ name)).1 (findObj_own (k_hasDict _) hf rfl hl) hv q
theorem Ev.attrWs {e : Expr} {name : Str} {pos : Pos} {d : D} (h : Ev c A env ρ (eval e env) (.ws raw n nt cnt b sm)) (hf : findIn (KK c.w.params) (.ref 76) name = some none)
    (hd : ∀ σ od vr vn vt vm vb, WsDict od vr vn vt vm vb → Is σ vr (.str raw) → Is σ vn (.int n) → Is σ vt (.int nt) → Is σ vm (.tup [.tup (cnt.map .int), .int b]) → Is σ vb (.bool sm) → ∃ es ep v, od = dictOf es ep ∧ getL name es = some (some v) ∧ Is σ v d)
    (he : eval (.Attribute e name pos) env = (do
      let o ← eval e env
      standAt pos.atName
      let r ← holding [o] (getAttr o name true)
      letTemporaryGo e o r
      pure r) := by rfl) : Ev c A env ρ (eval (.Attribute e name pos) env) d := by
  intro s σ p V Q E k
  refine Attribute_any_ (h s σ p V _ _ fun o s1 σ1 g1 i1 => ?_) he
  have p1 := g1.pre p
  cases i1 with | ws e1 e2 w i2 i3 i4 i5 i6 => ?_
  obtain ⟨es, ep, v, rfl, hl, iv⟩ := hd _ _ _ _ _ _ _ w i2 i3 i4 i5 i6
  exact get_ws O p1 (p1.sub _ _ e1) (p1.sub _ _ e2) hf hl iv.handed (k _ _ _ (g1.trans (grow_tok p1)) iv)
theorem Ev.a_raw {e : Expr} {pos : Pos} (h : Ev c A env ρ (eval e env) (.ws raw n nt cnt b sm)) (he : eval (.Attribute e N_raw pos) env = (do let o ← eval e env; standAt pos.atName; let r ← holding [o] (getAttr o N_raw true); letTemporaryGo e o r; pure r) := by rfl) : Ev c A env ρ (eval (.Attribute e N_raw pos) env) (.str raw) :=
  Ev.attrWs O h (k_raw _) (fun σ od vr vn vt vm vb ⟨es, ep, e, h1, h2, h3, h4, h5, h6⟩ i1 i2 i3 i4 i5 => ⟨es, ep, vr, e, h1, i1⟩) he
theorem Ev.a_n {e : Expr} {pos : Pos} (h : Ev c A env ρ (eval e env) (.ws raw n nt cnt b sm)) (he : eval (.Attribute e N_n pos) env = (do let o ← eval e env; standAt pos.atName; let r ← holding [o] (getAttr o N_n true); letTemporaryGo e o r; pure r) := by rfl) : Ev c A env ρ (eval (.Attribute e N_n pos) env) (.int n) :=
  Ev.attrWs O h (k_n _) (fun σ od vr vn vt vm vb ⟨es, ep, e, h1, h2, h3, h4, h5, h6⟩ i1 i2 i3 i4 i5 => ⟨es, ep, vn, e, h2, i2⟩) he
theorem Ev.a_nt {e : Expr} {pos : Pos} (h : Ev c A env ρ (eval e env) (.ws raw n nt cnt b sm)) (he : eval (.Attribute e N_nt pos) env = (do let o ← eval e env; standAt pos.atName; let r ← holding [o] (getAttr o N_nt true); letTemporaryGo e o r; pure r) := by rfl) : Ev c A env ρ (eval (.Attribute e N_nt pos) env) (.int nt) :=
  Ev.attrWs O h (k_nt _) (fun σ od vr vn vt vm vb ⟨es, ep, e, h1, h2, h3, h4, h5, h6⟩ i1 i2 i3 i4 i5 => ⟨es, ep, vt, e, h3, i3⟩) he
theorem Ev.a_norm {e : Expr} {pos : Pos} (h : Ev c A env ρ (eval e env) (.ws raw n nt cnt b sm)) (he : eval (.Attribute e N_norm pos) env = (do let o ← eval e env; standAt pos.atName; let r ← holding [o] (getAttr o N_norm true); letTemporaryGo e o r; pure r) := by rfl) : Ev c A env ρ (eval (.Attribute e N_norm pos) env) (.tup [.tup (cnt.map .int), .int b]) :=
  Ev.attrWs O h (k_norm _) (fun σ od vr vn vt vm vb ⟨es, ep, e, h1, h2, h3, h4, h5, h6⟩ i1 i2 i3 i4 i5 => ⟨es, ep, vm, e, h4, i4⟩) he
theorem Ev.a_simple {e : Expr} {pos : Pos} (h : Ev c A env ρ (eval e env) (.ws raw n nt cnt b sm)) (he : eval (.Attribute e N_simple pos) env = (do let o ← eval e env; standAt pos.atName; let r ← holding [o] (getAttr o N_simple true); letTemporaryGo e o r; pure r) := by rfl) : Ev c A env ρ (eval (.Attribute e N_simple pos) env) (.bool sm) :=
  Ev.attrWs O h (k_simple _) (fun σ od vr vn vt vm vb ⟨es, ep, e, h1, h2, h3, h4, h5, h6⟩ i1 i2 i3 i4 i5 => ⟨es, ep, vb, e, h5, i5⟩) he
/-- a method is called -/
theorem Ev.methW {e : Expr} {name : Str} {apos pos : Pos} {args : List Expr} {ds : List D} {d : D} {m : Nat} {f : Addr} (h : Ev c A env ρ (eval e env) (.ws raw n nt cnt b sm)) (ha : Evs c A env ρ args ds) (F : Fn c m (.ref f) (.ws raw n nt cnt b sm :: ds) d) (R : Room A m)
    (hf : findIn (KK c.w.params) (.ref 76) name = some (some (.ref f))) (ht : isFn (KK c.w.params) (.ref f) = true) (hk : keepIn (KK c.w.params) (.ref f) = true) (hno : name ∉ wsKeys := by decide) {pl : Sem Bool}
    (he : eval (.Call (.Attribute e name apos) args [] pos) env = (do
      let ov ← eval e env
      standAt apos.atName
      let (f, first) ← holding [ov] (getMethod ov name pl)
      callWith pos f first (backTo pos (starEach args env)) []) := by rfl) (hs : noStar args = true := by rfl) (hn : args.isEmpty = true → ds = [] := by exact fun h => nomatch h) :
    Ev c A env ρ (eval (.Call (.Attribute e name apos) args [] pos) env) d := by
  intro s σ p V Q E k
  refine MethodCall_ (h s σ p V _ _ fun o s1 σ1 g1 i1 => ?_) he
  have p1 := g1.pre p
  have i1' := i1
  cases i1 with | @ws x dx od _ _ _ _ _ _ vr vn vt vm vb e1 e2 w i2 i3 i4 i5 i6 => ?_
  obtain ⟨es, ep, rfl, _, _, _, _, _, hnone⟩ := w
  refine method_fn (p1.K O) (ox := { cls := .ref 76, dict := some dx, data := .plain }) (od := some (dictOf es ep)) ⟨p1.sub _ _ e1, rfl, rfl, p1.sub _ _ e2⟩ (plainGet_of (k_plainGet _ name)).1 (plainGet_of (k_plainGet _ name)).2 hf (beq_iff_eq.mp ht) (by show (lookIn name (dictOf es ep)).map _ = _; rw [lookIn_dict, hnone name hno]; rfl) ?_
  refine callWith_D (first := [.ref x]) p1 (V.grow g1) (Kept.own O hk) ha (fun vs s2 σ2 g2 a2 => ?_) (noStar_mem hs) (fun e => hn (by rw [e]; rfl))
  exact F A s2 σ2 (.ref x :: vs) R (g2.pre p1) (.cons (i1'.mono g2.le) a2) _ _ fun v s3 σ3 g3 i3 => k _ _ _ ((g1.trans g2).trans g3) i3
end

/-! text L5 -/
/-! operations -/
section
variable {c : Cx} {A : Around}
theorem op_add_int {a b : Int} : Op2 c A (binaryOp .Add) (.int a) (.int b) (.int (a + b)) := by
  intro s σ v1 v2 p i1 i2 Q E k; cases i1; cases i2; exact PyProof.Rows.add_int (k _ _ _ (grow_tok p) (.int _ _))
theorem op_sub_int {a b : Int} : Op2 c A (binaryOp .Sub) (.int a) (.int b) (.int (a - b)) := by
  intro s σ v1 v2 p i1 i2 Q E k; cases i1; cases i2; exact PyProof.Rows.sub_int (k _ _ _ (grow_tok p) (.int _ _))
theorem op_mul_int {a b : Int} (hm : IntMulOk a b) : Op2 c A (binaryOp .Mult) (.int a) (.int b) (.int (a * b)) := by
  intro s σ v1 v2 p i1 i2 Q E k; cases i1; cases i2; exact PyProof.Rows.mul_int (k _ _ _ (grow_tok p) (.int _ _)) hm
theorem op_div_int {a b : Int} (hb : b ≠ 0) (hp : Builtin.divisionGoesByPylong a b = false) : Op2 c A (binaryOp .FloorDiv) (.int a) (.int b) (.int (a.fdiv b)) := by
  intro s σ v1 v2 p i1 i2 Q E k; cases i1; cases i2; exact PyProof.Rows.floordiv_int hb (k _ _ _ (grow_tok p) (.int _ _)) (.inl hp)
theorem op_mod_int {a b : Int} (hb : b ≠ 0) : Op2 c A (binaryOp .Mod) (.int a) (.int b) (.int (a.fmod b)) := by
  intro s σ v1 v2 p i1 i2 Q E k; cases i1; cases i2; exact mod_int' hb (k _ _ _ (grow_tok p) (.int _ _))
theorem op_and_int {a b : Int} : Op2 c A (binaryOp .BitAnd) (.int a) (.int b) (.int (Builtin.bitAnd a b)) := by
  intro s σ v1 v2 p i1 i2 Q E k; cases i1; cases i2; exact and_int (k _ _ _ (grow_tok p) (.int _ _))
theorem op_or_int {a b : Int} : Op2 c A (binaryOp .BitOr) (.int a) (.int b) (.int (Builtin.bitOr a b)) := by
  intro s σ v1 v2 p i1 i2 Q E k; cases i1; cases i2; exact or_int (k _ _ _ (grow_tok p) (.int _ _))
theorem op_pow_int {a n : Int} (hn : 0 ≤ n) (hz : (Builtin.Int.intBits a : Int) * n ≤ 2 ^ 27) : Op2 c A (binaryOp .Pow) (.int a) (.int n) (.int (a ^ n.toNat)) := by
  intro s σ v1 v2 p i1 i2 Q E k; cases i1; cases i2; exact pow_int hn hz (k _ _ _ (grow_tok p) (.int _ _))
theorem op_eq_int {a b : Int} : Op2 c A (compareOp .Eq) (.int a) (.int b) (.bool (a == b)) := by
  intro s σ v1 v2 p i1 i2 Q E k; cases i1; cases i2; exact PyProof.Rows.eq_int (k _ _ _ (.refl p) (.bool _))
theorem op_ne_int {a b : Int} : Op2 c A (compareOp .NotEq) (.int a) (.int b) (.bool (a != b)) := by
  intro s σ v1 v2 p i1 i2 Q E k; cases i1; cases i2; exact PyProof.Rows.ne_int (k _ _ _ (.refl p) (.bool _))
theorem op_lt_int {a b : Int} : Op2 c A (compareOp .Lt) (.int a) (.int b) (.bool (decide (a < b))) := by
  intro s σ v1 v2 p i1 i2 Q E k; cases i1; cases i2; exact PyProof.Rows.lt_int (k _ _ _ (.refl p) (.bool _))
theorem op_le_int {a b : Int} : Op2 c A (compareOp .LtE) (.int a) (.int b) (.bool (decide (a ≤ b))) := by
  intro s σ v1 v2 p i1 i2 Q E k; cases i1; cases i2; exact PyProof.Rows.le_int (k _ _ _ (.refl p) (.bool _))
theorem op_gt_int {a b : Int} : Op2 c A (compareOp .Gt) (.int a) (.int b) (.bool (decide (b < a))) := by
  intro s σ v1 v2 p i1 i2 Q E k; cases i1; cases i2; exact PyProof.Rows.gt_int (k _ _ _ (.refl p) (.bool _))
theorem op_ge_int {a b : Int} : Op2 c A (compareOp .GtE) (.int a) (.int b) (.bool (decide (b ≤ a))) := by
  intro s σ v1 v2 p i1 i2 Q E k; cases i1; cases i2; exact PyProof.Rows.ge_int (k _ _ _ (.refl p) (.bool _))
theorem op_eq_str {a b : Str} : Op2 c A (compareOp .Eq) (.str a) (.str b) (.bool (a == b)) := by
  intro s σ v1 v2 p i1 i2 Q E k; cases i1; cases i2; exact PyProof.Rows.eq_str (k _ _ _ (.refl p) (.bool _))
theorem op_ne_str {a b : Str} : Op2 c A (compareOp .NotEq) (.str a) (.str b) (.bool (a != b)) := by
  intro s σ v1 v2 p i1 i2 Q E k; cases i1; cases i2; exact PyProof.Rows.ne_str (k _ _ _ (.refl p) (.bool _))
theorem op_add_str {a b : Str} (hz : a.length + b.length ≤ sizeLine) : Op2 c A (binaryOp .Add) (.str a) (.str b) (.str (a ++ b)) := by
  intro s σ v1 v2 p i1 i2 Q E k; cases i1; cases i2; exact PyProof.Rows.add_str (fun t' tk => k _ _ _ (grow_tok p) (.str _ _)) hz

/-! built-ins -/
theorem fn_isinstance_str_str {x : Str} : Fn c 0 (.builtin "isinstance") [.str x, .typ "str"] (.bool true) := by
  intro A s σ vs R p al Q E k
  cases al with | cons i1 a => cases a with | cons i2 a => cases a; cases i1; cases i2; exact IsiPair.str_str (k _ _ _ (.refl p) (.bool _))
theorem fn_isinstance_int_str {x : Int} : Fn c 0 (.builtin "isinstance") [.int x, .typ "str"] (.bool false) := by
  intro A s σ vs R p al Q E k
  cases al with | cons i1 a => cases a with | cons i2 a => cases a; cases i1; cases i2; exact IsiPair.int_str (k _ _ _ (grow_tok p) (.bool _))
theorem fn_ord {x : Str} (h1 : x.length = 1) : Fn c 0 (.builtin "ord") [.str x] (.int (x.cps.getD 0 0 : Nat)) := by
  intro A s σ vs R p al Q E k
  cases al with | cons i1 a => cases a; cases i1; exact ord_of_one h1 (k _ _ _ (grow_tok p) (.int _ _))
theorem fn_chr {i : Int} (h0 : 0 ≤ i) (h1 : i ≤ 1114111) : Fn c 0 (.builtin "chr") [.int i] (.str ⟨#[i.toNat]⟩) := by
  intro A s σ vs R p al Q E k
  cases al with | cons i1 a => cases a; cases i1; exact chr_of_range h0 h1 (k _ _ _ (grow_tok p) (.str _ _))
end

/-! the small defs -/
theorem bind1 {fd : FuncData} {x : Str} (h : ∀ v, bindArgs fd ⟨[v], []⟩ = pure [(x, v)]) : ∀ vs : List Value, vs.length = [x].length → bindArgs fd ⟨vs, []⟩ = pure ([x].zip vs) := by
  intro vs hl
  match vs, hl with
  | [v], _ => exact h v
theorem bind2 {fd : FuncData} {x y : Str} (h : ∀ v u, bindArgs fd ⟨[v, u], []⟩ = pure [(x, v), (y, u)]) : ∀ vs : List Value, vs.length = [x, y].length → bindArgs fd ⟨vs, []⟩ = pure ([x, y].zip vs) := by
  intro vs hl
  match vs, hl with
  | [v, u], _ => exact h v u
theorem bind3 {fd : FuncData} {x y z : Str} (h : ∀ v u w, bindArgs fd ⟨[v, u, w], []⟩ = pure [(x, v), (y, u), (z, w)]) : ∀ vs : List Value, vs.length = [x, y, z].length → bindArgs fd ⟨vs, []⟩ = pure ([x, y, z].zip vs) := by
  intro vs hl
  match vs, hl with
  | [v, u, w], _ => exact h v u w

theorem loc1 {sc : Scope} {x : Str} (h : sc.names.lookup x = some .local) : ∀ z ∈ [x], sc.names.lookup z = some .local ∨ (sc.names.lookup z = some .cell ∧ ∀ n, ((cellsFrom n sc.names []).lookup z).isSome = true) := by
  intro z hz; cases hz with
  | head => exact .inl h
  | tail _ h => cases h
theorem loc2 {sc : Scope} {x y : Str} (h : sc.names.lookup x = some .local) (h' : sc.names.lookup y = some .local) : ∀ z ∈ [x, y], sc.names.lookup z = some .local ∨ (sc.names.lookup z = some .cell ∧ ∀ n, ((cellsFrom n sc.names []).lookup z).isSome = true) := by
  intro z hz
  rcases List.mem_cons.mp hz with rfl | hz
  · exact .inl h
  · exact loc1 h' z hz
/-- a def of one parameter, of two -/
theorem Fn.of1 {c : Cx} (O : c.Ok) {a : Addr} (F : FdAt c.w.params a) {x : Str} {body : List Stmt} {n : Nat} {d1 d : D}
    (h : ∀ A hc σ₀ os₀, Room A n → Ex c (frm F.1 a A hc σ₀ os₀) (par [x] [d1]) (execs body (envF F.1 a hc.objs.size)) (Ret d))
    (hb : F.1.body = .stmts body := by rfl) (hg : F.1.globals = mainGlobals := by rfl) (hcl : F.1.closure = [] := by rfl) (hbl : F.1.builtins = builtinsNs := by rfl) (hco : F.1.scope.isCoroutine = false := by rfl) (hge : F.1.scope.isGenerator = false := by rfl) (hk : F.1.scope.kind = .function := by rfl)
    (hcode : codeIn (KK c.w.params) F.1.code F.1.qualname = true := by rfl) (hl : F.1.scope.names.lookup x = some .local := by rfl) (hbi : ∀ v, bindArgs F.1 ⟨[v], []⟩ = pure [(x, v)] := by intro _; rfl) : Fn c (n + 1) (.ref a) [d1] d :=
  Fn.of O (xs := [x]) ⟨F.2, hb, hg, hcl, hbl, hco, hge, hk, hcode, by simp, loc1 hl, bind1 hbi⟩ rfl h
theorem Fn.of2 {c : Cx} (O : c.Ok) {a : Addr} (F : FdAt c.w.params a) {x y : Str} {body : List Stmt} {n : Nat} {d1 d2 d : D}
    (h : ∀ A hc σ₀ os₀, Room A n → Ex c (frm F.1 a A hc σ₀ os₀) (par [x, y] [d1, d2]) (execs body (envF F.1 a hc.objs.size)) (Ret d))
    (hb : F.1.body = .stmts body := by rfl) (hg : F.1.globals = mainGlobals := by rfl) (hcl : F.1.closure = [] := by rfl) (hbl : F.1.builtins = builtinsNs := by rfl) (hco : F.1.scope.isCoroutine = false := by rfl) (hge : F.1.scope.isGenerator = false := by rfl) (hk : F.1.scope.kind = .function := by rfl)
    (hcode : codeIn (KK c.w.params) F.1.code F.1.qualname = true := by rfl) (hxy : x ≠ y := by decide) (hl : F.1.scope.names.lookup x = some .local := by rfl) (hl' : F.1.scope.names.lookup y = some .local := by rfl)
    (hbi : ∀ v u, bindArgs F.1 ⟨[v, u], []⟩ = pure [(x, v), (y, u)] := by intro _ _; rfl) : Fn c (n + 1) (.ref a) [d1, d2] d :=
  Fn.of O (xs := [x, y]) ⟨F.2, hb, hg, hcl, hbl, hco, hge, hk, hcode, by simp [hxy], loc2 hl hl', bind2 hbi⟩ rfl h


/-! the small defs -/
noncomputable def fd94 (P : Params) : FdAt P 94 := ⟨_, _, rfl, rfl⟩
noncomputable def fd101 (P : Params) : FdAt P 101 := ⟨_, _, rfl, rfl⟩
noncomputable def fd108 (P : Params) : FdAt P 108 := ⟨_, _, rfl, rfl⟩
noncomputable def fd115 (P : Params) : FdAt P 115 := ⟨_, _, rfl, rfl⟩
noncomputable def fd122 (P : Params) : FdAt P 122 := ⟨_, _, rfl, rfl⟩
noncomputable def fd129 (P : Params) : FdAt P 129 := ⟨_, _, rfl, rfl⟩
noncomputable def fd136 (P : Params) : FdAt P 136 := ⟨_, _, rfl, rfl⟩
/-! the module's names, once -/
theorem g_ctoi (P : Params) : nsIn (KK P) mainGlobals (Str.ofString "_ctoi") = some (some (.ref 94)) := by kernel_rfl
theorem kp_ctoi (P : Params) : keepIn (KK P) (.ref 94) = true := by kernel_rfl
theorem g_isdigit (P : Params) : nsIn (KK P) mainGlobals (Str.ofString "isdigit") = some (some (.ref 101)) := by kernel_rfl
theorem kp_isdigit (P : Params) : keepIn (KK P) (.ref 101) = true := by kernel_rfl
theorem g_isgraph (P : Params) : nsIn (KK P) mainGlobals (Str.ofString "isgraph") = some (some (.ref 108)) := by kernel_rfl
theorem kp_isgraph (P : Params) : keepIn (KK P) (.ref 108) = true := by kernel_rfl
theorem g_isprint (P : Params) : nsIn (KK P) mainGlobals (Str.ofString "isprint") = some (some (.ref 115)) := by kernel_rfl
theorem kp_isprint (P : Params) : keepIn (KK P) (.ref 115) = true := by kernel_rfl
theorem g_ctrl (P : Params) : nsIn (KK P) mainGlobals (Str.ofString "ctrl") = some (some (.ref 122)) := by kernel_rfl
theorem kp_ctrl (P : Params) : keepIn (KK P) (.ref 122) = true := by kernel_rfl
theorem g_alt (P : Params) : nsIn (KK P) mainGlobals (Str.ofString "alt") = some (some (.ref 129)) := by kernel_rfl
theorem kp_alt (P : Params) : keepIn (KK P) (.ref 129) = true := by kernel_rfl
theorem g_unctrl (P : Params) : nsIn (KK P) mainGlobals (Str.ofString "unctrl") = some (some (.ref 136)) := by kernel_rfl
theorem kp_unctrl (P : Params) : keepIn (KK P) (.ref 136) = true := by kernel_rfl
theorem g_law_front (P : Params) : nsIn (KK P) mainGlobals (Str.ofString "_law_front") = some (some (.ref 141)) := by kernel_rfl
theorem kp_law_front (P : Params) : keepIn (KK P) (.ref 141) = true := by kernel_rfl
theorem g_law_keys (P : Params) : nsIn (KK P) mainGlobals (Str.ofString "_law_keys") = some (some (.ref 146)) := by kernel_rfl
theorem kp_law_keys (P : Params) : keepIn (KK P) (.ref 146) = true := by kernel_rfl
theorem g_law_sign (P : Params) : nsIn (KK P) mainGlobals (Str.ofString "_law_sign") = some (some (.ref 153)) := by kernel_rfl
theorem kp_law_sign (P : Params) : keepIn (KK P) (.ref 153) = true := by kernel_rfl
theorem g_law_blank (P : Params) : nsIn (KK P) mainGlobals (Str.ofString "_law_blank") = some (some (.ref 160)) := by kernel_rfl
theorem kp_law_blank (P : Params) : keepIn (KK P) (.ref 160) = true := by kernel_rfl
theorem g_law_echo (P : Params) : nsIn (KK P) mainGlobals (Str.ofString "_law_echo") = some (some (.ref 167)) := by kernel_rfl
theorem kp_law_echo (P : Params) : keepIn (KK P) (.ref 167) = true := by kernel_rfl
theorem g_law_row (P : Params) : nsIn (KK P) mainGlobals (Str.ofString "_law_row") = some (some (.ref 174)) := by kernel_rfl
theorem kp_law_row (P : Params) : keepIn (KK P) (.ref 174) = true := by kernel_rfl
theorem g_law_column (P : Params) : nsIn (KK P) mainGlobals (Str.ofString "_law_column") = some (some (.ref 181)) := by kernel_rfl
theorem kp_law_column (P : Params) : keepIn (KK P) (.ref 181) = true := by kernel_rfl
theorem g_law_read (P : Params) : nsIn (KK P) mainGlobals (Str.ofString "_law_read") = some (some (.ref 188)) := by kernel_rfl
theorem kp_law_read (P : Params) : keepIn (KK P) (.ref 188) = true := by kernel_rfl
theorem g_format_witnesses (P : Params) : nsIn (KK P) mainGlobals (Str.ofString "format_witnesses") = some (some (.ref 87)) := by kernel_rfl
theorem kp_format_witnesses (P : Params) : keepIn (KK P) (.ref 87) = true := by kernel_rfl
theorem g_Whitespace (P : Params) : nsIn (KK P) mainGlobals (Str.ofString "Whitespace") = some (some (.ref 76)) := by kernel_rfl
theorem kp_Whitespace (P : Params) : keepIn (KK P) (.ref 76) = true := by kernel_rfl
theorem gb_len (P : Params) : nsIn (KK P) mainGlobals (Str.ofString "len") = some none := by kernel_rfl
theorem gb_range (P : Params) : nsIn (KK P) mainGlobals (Str.ofString "range") = some none := by kernel_rfl
theorem gb_isinstance (P : Params) : nsIn (KK P) mainGlobals (Str.ofString "isinstance") = some none := by kernel_rfl
theorem gb_str (P : Params) : nsIn (KK P) mainGlobals (Str.ofString "str") = some none := by kernel_rfl
theorem gb_ord (P : Params) : nsIn (KK P) mainGlobals (Str.ofString "ord") = some none := by kernel_rfl
theorem gb_chr (P : Params) : nsIn (KK P) mainGlobals (Str.ofString "chr") = some none := by kernel_rfl
theorem gb_max (P : Params) : nsIn (KK P) mainGlobals (Str.ofString "max") = some none := by kernel_rfl
theorem gb_sum (P : Params) : nsIn (KK P) mainGlobals (Str.ofString "sum") = some none := by kernel_rfl
theorem gb_list (P : Params) : nsIn (KK P) mainGlobals (Str.ofString "list") = some none := by kernel_rfl
theorem gb_tuple (P : Params) : nsIn (KK P) mainGlobals (Str.ofString "tuple") = some none := by kernel_rfl
theorem gb_zip (P : Params) : nsIn (KK P) mainGlobals (Str.ofString "zip") = some none := by kernel_rfl
theorem m_longest_run_of_spaces (P : Params) : findIn (KK P) (.ref 76) (Str.ofString "longest_run_of_spaces") = some (some (.ref 38)) := by kernel_rfl
theorem mf_longest_run_of_spaces (P : Params) : isFn (KK P) (.ref 38) = true := by kernel_rfl
theorem mk_longest_run_of_spaces (P : Params) : keepIn (KK P) (.ref 38) = true := by kernel_rfl
theorem m_indent_level (P : Params) : findIn (KK P) (.ref 76) (Str.ofString "indent_level") = some (some (.ref 45)) := by kernel_rfl
theorem mf_indent_level (P : Params) : isFn (KK P) (.ref 45) = true := by kernel_rfl
theorem mk_indent_level (P : Params) : keepIn (KK P) (.ref 45) = true := by kernel_rfl
theorem m_equal (P : Params) : findIn (KK P) (.ref 76) (Str.ofString "equal") = some (some (.ref 52)) := by kernel_rfl
theorem mf_equal (P : Params) : isFn (KK P) (.ref 52) = true := by kernel_rfl
theorem mk_equal (P : Params) : keepIn (KK P) (.ref 52) = true := by kernel_rfl
theorem m_not_equal_witness (P : Params) : findIn (KK P) (.ref 76) (Str.ofString "not_equal_witness") = some (some (.ref 59)) := by kernel_rfl
theorem mf_not_equal_witness (P : Params) : isFn (KK P) (.ref 59) = true := by kernel_rfl
theorem mk_not_equal_witness (P : Params) : keepIn (KK P) (.ref 59) = true := by kernel_rfl
theorem m_less (P : Params) : findIn (KK P) (.ref 76) (Str.ofString "less") = some (some (.ref 66)) := by kernel_rfl
theorem mf_less (P : Params) : isFn (KK P) (.ref 66) = true := by kernel_rfl
theorem mk_less (P : Params) : keepIn (KK P) (.ref 66) = true := by kernel_rfl
theorem m_not_less_witness (P : Params) : findIn (KK P) (.ref 76) (Str.ofString "not_less_witness") = some (some (.ref 73)) := by kernel_rfl
theorem mf_not_less_witness (P : Params) : isFn (KK P) (.ref 73) = true := by kernel_rfl
theorem mk_not_less_witness (P : Params) : keepIn (KK P) (.ref 73) = true := by kernel_rfl
noncomputable def fd38 (P : Params) : FdAt P 38 := ⟨_, _, rfl, rfl⟩
noncomputable def fd45 (P : Params) : FdAt P 45 := ⟨_, _, rfl, rfl⟩
noncomputable def fd52 (P : Params) : FdAt P 52 := ⟨_, _, rfl, rfl⟩
noncomputable def fd59 (P : Params) : FdAt P 59 := ⟨_, _, rfl, rfl⟩
noncomputable def fd66 (P : Params) : FdAt P 66 := ⟨_, _, rfl, rfl⟩
noncomputable def fd73 (P : Params) : FdAt P 73 := ⟨_, _, rfl, rfl⟩
noncomputable def fd31 (P : Params) : FdAt P 31 := ⟨_, _, rfl, rfl⟩
noncomputable def fd87 (P : Params) : FdAt P 87 := ⟨_, _, rfl, rfl⟩
noncomputable def fd141 (P : Params) : FdAt P 141 := ⟨_, _, rfl, rfl⟩
noncomputable def fd146 (P : Params) : FdAt P 146 := ⟨_, _, rfl, rfl⟩
noncomputable def fd153 (P : Params) : FdAt P 153 := ⟨_, _, rfl, rfl⟩
noncomputable def fd160 (P : Params) : FdAt P 160 := ⟨_, _, rfl, rfl⟩
noncomputable def fd167 (P : Params) : FdAt P 167 := ⟨_, _, rfl, rfl⟩
noncomputable def fd174 (P : Params) : FdAt P 174 := ⟨_, _, rfl, rfl⟩
noncomputable def fd181 (P : Params) : FdAt P 181 := ⟨_, _, rfl, rfl⟩
noncomputable def fd188 (P : Params) : FdAt P 188 := ⟨_, _, rfl, rfl⟩
/-- a text of one sign -/
abbrev ch (n : Nat) : Str := ⟨#[n]⟩
theorem bitAnd_nat (a b : Nat) : Builtin.bitAnd (a : Int) (b : Int) = ((a &&& b : Nat) : Int) := rfl
theorem bitOr_nat (a b : Nat) : Builtin.bitOr (a : Int) (b : Int) = ((a ||| b : Nat) : Int) := by
  have h : ∀ n : Nat, decide ((0 : Int) ≤ Builtin.bitNot (n : Int)) = false := fun n => by simp only [decide_eq_false_iff_not]; show ¬ (0 : Int) ≤ -(n : Int) - 1; omega
  have e : ∀ n : Nat, (Builtin.bitNot (Builtin.bitNot (n : Int))).toNat = n := fun n => by show (-(-(n : Int) - 1) - 1).toNat = n; omega
  show Builtin.bitNot (Builtin.bitAnd (Builtin.bitNot a) (Builtin.bitNot b)) = _
  unfold Builtin.bitAnd
  simp only [h, e]
  show -(-((a ||| b : Nat) : Int) - 1) - 1 = _
  omega
theorem op_or_nat {c : Cx} {A : Around} {a b : Nat} {b' : Int} (h : b' = (b : Int) := by rfl) : Op2 c A (binaryOp .BitOr) (.int a) (.int b') (.int ((a ||| b : Nat) : Int)) := by
  subst h; rw [← bitOr_nat]; exact op_or_int
theorem op_and_nat {c : Cx} {A : Around} {a b : Nat} {b' : Int} (h : b' = (b : Int) := by rfl) : Op2 c A (binaryOp .BitAnd) (.int a) (.int b') (.int ((a &&& b : Nat) : Int)) := by
  subst h; rw [← bitAnd_nat]; exact op_and_int
theorem Fn.cast {c : Cx} {k : Nat} {f : Value} {ds : List D} {d d' : D} (h : Fn c k f ds d) (e : d = d') : Fn c k f ds d' := e ▸ h
section
variable {c : Cx} (O : c.Ok)
include O
theorem fn_ctoi_str {n : Nat} : Fn c 1 (.ref 94) [.str (ch n)] (.int n) := by
  refine Fn.of1 O (fd94 _) (x := Str.ofString "c") fun A hc σ₀ os₀ R => ?_
  refine Ex.cons (Ex.ifB (b := true) (Tst.plain (Ev.call (Glb.blt O (gb_isinstance _) boot_isinstance) Kept.builtin (Evs.cons (Ev.name rfl) (Evs.cons (Ev.typ (Glb.blt O (gb_str _) boot_str)) Evs.nil)) fn_isinstance_str_str (R.mono (by decide)))) (fun _ => ?_) (fun h => nomatch h))
  exact Ex.cons (Ex.ret (Ev.call (Glb.blt O (gb_ord _) boot_ord) Kept.builtin (Evs.cons (Ev.name rfl) Evs.nil) (fn_ord rfl) (R.mono (by decide))) rfl)
theorem fn_ctoi_int {i : Int} : Fn c 1 (.ref 94) [.int i] (.int i) := by
  refine Fn.of1 O (fd94 _) (x := Str.ofString "c") fun A hc σ₀ os₀ R => ?_
  refine Ex.cons (Ex.ifB (b := false) (Tst.plain (Ev.call (Glb.blt O (gb_isinstance _) boot_isinstance) Kept.builtin (Evs.cons (Ev.name rfl) (Evs.cons (Ev.typ (Glb.blt O (gb_str _) boot_str)) Evs.nil)) fn_isinstance_int_str (R.mono (by decide)))) (fun h => nomatch h) (fun _ => ?_))
  exact Ex.cons (Ex.ret (Ev.name rfl) rfl)
theorem fn_isdigit {n : Nat} : Fn c 2 (.ref 101) [.str (ch n)] (.bool (decide (48 ≤ n) && decide (n ≤ 57))) := by
  refine (Fn.of1 O (fd101 _) (x := Str.ofString "c") fun A hc σ₀ os₀ R => ?_ : Fn c 2 (.ref 101) [.str (ch n)] (.bool (decide ((48 : Int) ≤ n) && decide ((n : Int) ≤ 57)))).cast (by congr 3 <;> simp <;> omega)
  exact Ex.cons (Ex.ret (Ev.chain Ev.int (Ev.call (Glb.own O (g_ctoi _)) (Kept.own O (kp_ctoi _)) (Evs.cons (Ev.name rfl) Evs.nil) (fn_ctoi_str O) (R.mono (by decide))) Ev.int op_le_int op_le_int) rfl)
theorem fn_isgraph {n : Nat} : Fn c 2 (.ref 108) [.str (ch n)] (.bool (decide (33 ≤ n) && decide (n ≤ 126))) := by
  refine (Fn.of1 O (fd108 _) (x := Str.ofString "c") fun A hc σ₀ os₀ R => ?_ : Fn c 2 (.ref 108) [.str (ch n)] (.bool (decide ((33 : Int) ≤ n) && decide ((n : Int) ≤ 126)))).cast (by congr 3 <;> simp <;> omega)
  exact Ex.cons (Ex.ret (Ev.chain Ev.int (Ev.call (Glb.own O (g_ctoi _)) (Kept.own O (kp_ctoi _)) (Evs.cons (Ev.name rfl) Evs.nil) (fn_ctoi_str O) (R.mono (by decide))) Ev.int op_le_int op_le_int) rfl)
theorem fn_isprint {i : Int} : Fn c 2 (.ref 115) [.int i] (.bool (decide (32 ≤ i) && decide (i ≤ 126))) := by
  refine Fn.of1 O (fd115 _) (x := Str.ofString "c") fun A hc σ₀ os₀ R => ?_
  exact Ex.cons (Ex.ret (Ev.chain Ev.int (Ev.call (Glb.own O (g_ctoi _)) (Kept.own O (kp_ctoi _)) (Evs.cons (Ev.name rfl) Evs.nil) (fn_ctoi_int O) (R.mono (by decide))) Ev.int op_le_int op_le_int) rfl)
theorem fn_ctrl {n : Nat} : Fn c 2 (.ref 122) [.str (ch n)] (.str (ch (n &&& 31))) := by
  refine Fn.of1 O (fd122 _) (x := Str.ofString "c") fun A hc σ₀ os₀ R => ?_
  have hn : n &&& 31 ≤ 31 := Nat.and_le_right
  refine Ex.cons (Ex.ifB (b := true) (Tst.plain (Ev.call (Glb.blt O (gb_isinstance _) boot_isinstance) Kept.builtin (Evs.cons (Ev.name rfl) (Evs.cons (Ev.typ (Glb.blt O (gb_str _) boot_str)) Evs.nil)) fn_isinstance_str_str (R.mono (by decide)))) (fun _ => ?_) (fun h => nomatch h))
  exact Ex.cons (Ex.ret (Ev.call (Glb.blt O (gb_chr _) boot_chr) Kept.builtin (Evs.cons (Ev.bin (Ev.call (Glb.own O (g_ctoi _)) (Kept.own O (kp_ctoi _)) (Evs.cons (Ev.name rfl) Evs.nil) (fn_ctoi_str O) (R.mono (by decide))) Ev.int op_and_int) Evs.nil) (fn_chr (i := ((n &&& 31 : Nat) : Int)) (by omega) (by omega)) (R.mono (by decide))) rfl)
theorem fn_alt {n : Nat} (h : n ||| 128 ≤ 1114111) : Fn c 2 (.ref 129) [.str (ch n)] (.str (ch (n ||| 128))) := by
  refine Fn.of1 O (fd129 _) (x := Str.ofString "c") fun A hc σ₀ os₀ R => ?_
  refine Ex.cons (Ex.ifB (b := true) (Tst.plain (Ev.call (Glb.blt O (gb_isinstance _) boot_isinstance) Kept.builtin (Evs.cons (Ev.name rfl) (Evs.cons (Ev.typ (Glb.blt O (gb_str _) boot_str)) Evs.nil)) fn_isinstance_str_str (R.mono (by decide)))) (fun _ => ?_) (fun h => nomatch h))
  exact Ex.cons (Ex.ret (Ev.call (Glb.blt O (gb_chr _) boot_chr) Kept.builtin (Evs.cons (Ev.bin (Ev.call (Glb.own O (g_ctoi _)) (Kept.own O (kp_ctoi _)) (Evs.cons (Ev.name rfl) Evs.nil) (fn_ctoi_str O) (R.mono (by decide))) Ev.int (op_or_nat (b := 128))) Evs.nil) (fn_chr (i := ((n ||| 128 : Nat) : Int)) (by omega) (by omega)) (R.mono (by decide))) rfl)
end

/-! text LH -/
/-- a text by its signs' numbers -/
abbrev S (l : List Nat) : Str := ⟨l.toArray⟩
theorem S_append (a b : List Nat) : S a ++ S b = S (a ++ b) := by
  show (⟨a.toArray ++ b.toArray⟩ : Str) = _
  simp
theorem S_length (a : List Nat) : (S a).length = a.length := by simp [Str.length]
theorem ret_str {a b : Str} {ρ : Sto} (h : a = b) : Ret (.str b) (.ret (.str a)) ρ := by subst h; rfl

/-! the keys and their signs -/
def unctrlL (n : Nat) : List Nat :=
  let rep := if n = 127 then [94, 63] else if 32 ≤ n &&& 127 ∧ n &&& 127 ≤ 126 then [n &&& 127] else [94, ((n &&& 127) ||| 32) + 32]
  if n &&& 128 = 0 then rep else 33 :: rep
def signN (key held : Nat) : Nat :=
  let s := if held % 2 = 1 then (32 + key) &&& 31 else 32 + key
  if 1 < held then (s ||| 128) ||| 128 else s
def blankB (key held : Nat) : Bool := (key == 0 && held == 0) || ((key == 9 || key == 41 || key == 73) && held == 1)
def echoL (key held : Nat) : List Nat :=
  let shown := if held % 2 = 1 then [94, 64 + key % 32] else if key < 95 then [32 + key] else if held = 2 then [94, 159] else [94, 63]
  if 1 < held then 33 :: shown else shown

theorem and127 (n : Nat) : n &&& 127 ≤ 127 := Nat.and_le_right
theorem and_or32 (n : Nat) : (n &&& 127) ||| 32 ≤ 127 := by
  have h : (n &&& 127) ||| 32 < 2 ^ 7 := Nat.or_lt_two_pow (Nat.lt_of_le_of_lt (and127 n) (by decide)) (by decide)
  omega

section
variable {c : Cx} (O : c.Ok)
include O
set_option maxHeartbeats 1000000 in
theorem fn_unctrl {n : Nat} : Fn c 3 (.ref 136) [.str (ch n)] (.str (S (unctrlL n))) := by
  refine Fn.of1 O (fd136 _) (x := Str.ofString "c") fun A hc σ₀ os₀ R => ?_
  refine Ex.cons (Ex.assign (Ev.call (Glb.own O (g_ctoi _)) (Kept.own O (kp_ctoi _)) (Evs.cons (Ev.name rfl) Evs.nil) (fn_ctoi_str O) (R.mono (by decide))) (.inl rfl) ?_)
  have tail : ∀ (ρ : Sto) (rep : List Nat), ρ (Str.ofString "bits") = some (.im (.int n)) → ρ (Str.ofString "rep") = some (.im (.str (S rep))) → rep.length ≤ 2 → rep = (if n = 127 then [94, 63] else if 32 ≤ n &&& 127 ∧ n &&& 127 ≤ 126 then [n &&& 127] else [94, ((n &&& 127) ||| 32) + 32]) →
      ∀ st1 st2, (fd136 c.w.params).1.body = .stmts st1 → st2 = st1.drop 2 → Ex c (frm (fd136 c.w.params).1 136 A hc σ₀ os₀) ρ (execs st2 (envF (fd136 c.w.params).1 136 hc.objs.size)) (Ret (.str (S (unctrlL n)))) := by
    intro ρ rep h1 h2 h3 h4 st1 st2 e1 e2
    cases e1
    subst e2
    refine Ex.cons (Ex.ifB (Tst.intT (Ev.bin (Ev.name h1) Ev.int (op_and_nat (b := 128)))) (fun hb => ?_) (fun hb => ?_))
    · refine Ex.cons (Ex.ret (Ev.bin Ev.str (Ev.name h2) (op_add_str ?_)) (ret_str ?_))
      · have h5 : (S rep).length ≤ 2 := by rw [S_length]; exact h3
        exact Nat.le_trans (Nat.add_le_add (Nat.le_refl 1) h5) (by decide)
      · have : n &&& 128 ≠ 0 := by intro q; rw [q] at hb; cases hb
        show S [33] ++ S rep = _
        rw [S_append]
        unfold unctrlL
        rw [if_neg this, ← h4]; rfl
    · refine Ex.nil ?_
      refine Ex.cons (Ex.ret (Ev.name h2) (ret_str ?_))
      have : n &&& 128 = 0 := by
        have hb' : (((n &&& 128 : Nat) : Int) != 0) = false := hb
        simpa using hb'
      unfold unctrlL
      rw [if_pos this, ← h4]
  refine Ex.cons (Ex.ifB (Tst.cmp (Ev.name rfl) Ev.int op_eq_int) (fun h1 => ?_) (fun h1 => ?_))
  · have e : n = 127 := by have : (n : Int) = 127 := by simpa using h1
                           omega
    refine Ex.cons (Ex.assign Ev.str (.inl rfl) (Ex.nil ?_))
    exact tail _ [94, 63] rfl rfl (by decide) (by rw [if_pos e]) _ _ rfl rfl
  · have e : n ≠ 127 := by have : ¬ (n : Int) = 127 := by simpa using h1
                           omega
    refine Ex.cons (Ex.ifB (Tst.plain (Ev.call (Glb.own O (g_isprint _)) (Kept.own O (kp_isprint _)) (Evs.cons (Ev.bin (Ev.name rfl) Ev.int (op_and_nat (b := 127))) Evs.nil) (fn_isprint O) (R.mono (by decide)))) (fun h2 => ?_) (fun h2 => ?_))
    · have q : 32 ≤ n &&& 127 ∧ n &&& 127 ≤ 126 := by simp only [Bool.and_eq_true, decide_eq_true_eq] at h2; omega
      refine Ex.cons (Ex.assign (Ev.call (Glb.blt O (gb_chr _) boot_chr) Kept.builtin (Evs.cons (Ev.bin (Ev.name rfl) Ev.int (op_and_nat (b := 127))) Evs.nil) (fn_chr (by omega) (by have := and127 n; omega)) (R.mono (by decide))) (.inl rfl) (Ex.nil (Ex.nil ?_)))
      exact tail _ [n &&& 127] rfl rfl (by simp) (by rw [if_neg e, if_pos q]) _ _ rfl rfl
    · have q : ¬ (32 ≤ n &&& 127 ∧ n &&& 127 ≤ 126) := by
        intro q; rw [Bool.and_eq_false_iff] at h2; simp only [decide_eq_false_iff_not] at h2; omega
      have hz := and_or32 n
      refine Ex.cons (Ex.assign (d := .str (S [94, ((n &&& 127) ||| 32) + 32])) (Ev.bin Ev.str (Ev.call (Glb.blt O (gb_chr _) boot_chr) Kept.builtin (Evs.cons (Ev.bin (Ev.bin (Ev.bin (Ev.name rfl) Ev.int (op_and_nat (b := 127))) Ev.int (op_or_nat (b := 32))) Ev.int op_add_int) Evs.nil) (fn_chr (i := (((((n &&& 127) ||| 32 : Nat) : Int)) + 32)) (by omega) (by omega)) (R.mono (by decide))) (op_add_str (show 1 + 1 ≤ sizeLine by decide))) (.inl rfl) (Ex.nil (Ex.nil ?_)))
      exact tail _ [94, ((n &&& 127) ||| 32) + 32] rfl rfl (by simp) (by rw [if_neg e, if_neg q]) _ _ rfl rfl


omit O in
theorem fn_chrN {i : Int} {n : Nat} (h : i = (n : Int)) (hn : n ≤ 1114111) : Fn c 0 (.builtin "chr") [.int i] (.str (ch n)) := by
  subst h; exact fn_chr (by omega) (by omega)
omit O in
theorem Ev.pairI {A : Around} {env : Env} {ρ : Sto} {i j : Int} {k1 k2 k : Nat} {p1 p2 pos : Pos} : Ev c A env ρ (eval (.Tuple [.Constant (.int i) k1 p1, .Constant (.int j) k2 p2] k pos) env) (.tup [.int i, .int j]) :=
  Ev.tuple (Evs.cons Ev.int (Evs.cons Ev.int Evs.nil))
omit O in
theorem shaped2 (a b : Int) : SeqAt.shaped (.tuple [.int a, .int b]) = true := by
  simp [SeqAt.shaped, PyData.canLay0, PyData.canLayAll0, PyData.depth, PyData.depthAll]
omit O in
theorem shaped_blanks : SeqAt.shaped (.tuple [.tuple [.int 0, .int 0], .tuple [.int 9, .int 1], .tuple [.int 41, .int 1], .tuple [.int 73, .int 1]]) = true := by decide +kernel
theorem fn_blank {key held : Nat} : Fn c 1 (.ref 160) [.int key, .int held] (.bool (blankB key held)) := by
  refine Fn.of2 O (fd160 _) (x := Str.ofString "key") (y := Str.ofString "held") fun A hc σ₀ os₀ R => ?_
  have hu : A.units + 65 < cLine := by have h1 := R.units; have h2 : cLine = 9900 := rfl; omega
  have op : Op2 c A (compareOp .In) (.tup [.int key, .int held]) (.tup [.tup [.int 0, .int 0], .tup [.int 9, .int 1], .tup [.int 41, .int 1], .tup [.int 73, .int 1]]) (.bool (blankB key held)) := by
    have h := op_in_tup (c := c) (A := A) (xs := [.tup [.int 0, .int 0], .tup [.int 9, .int 1], .tup [.int 41, .int 1], .tup [.int 73, .int 1]]) (d := .tup [.int key, .int held]) hu (by simp [D.plains, D.plain]) (by simp [D.plains, D.plain]) shaped_blanks (by simp only [D.toPy, D.toPys]; exact shaped2 _ _) (by
      intro y hy
      simp only [D.toPys, D.toPy, List.mem_cons, List.not_mem_nil, or_false] at hy
      rcases hy with rfl | rfl | rfl | rfl <;> rfl)
    have e : decide (Spec.countIn (D.toPy (.tup [.int key, .int held])) (D.toPys [.tup [.int 0, .int 0], .tup [.int 9, .int 1], .tup [.int 41, .int 1], .tup [.int 73, .int 1]]) ≠ 0) = blankB key held := by
      simp only [D.toPys, D.toPy, Spec.countIn, Spec.same, Spec.sameAll, blankB]
      rw [Bool.eq_iff_iff]
      simp only [decide_eq_true_eq, Bool.or_eq_true, Bool.and_eq_true, beq_iff_eq, and_true]
      split <;> split <;> split <;> split <;> omega
    rw [e] at h
    exact h
  refine Ex.cons (Ex.ret (Ev.cmp ?_ ?_ op) rfl)
  · exact Ev.tuple (Evs.cons (Ev.name rfl) (Evs.cons (Ev.name rfl) Evs.nil))
  · refine Ev.tuple ?_
    exact Evs.cons Ev.pairI (Evs.cons Ev.pairI (Evs.cons Ev.pairI (Evs.cons Ev.pairI Evs.nil)))
set_option maxHeartbeats 1000000 in
theorem fn_sign {key held : Nat} (hk : key < 96) : Fn c 3 (.ref 153) [.int key, .int held] (.str (ch (signN key held))) := by
  refine Fn.of2 O (fd153 _) (x := Str.ofString "key") (y := Str.ofString "held") fun A hc σ₀ os₀ R => ?_
  have Fc : Fn c 0 (.builtin "chr") [.int (32 + (key : Int))] (.str (ch (32 + key))) := fn_chrN (by omega) (by omega)
  have h31 : (32 + key) &&& 31 ≤ 31 := Nat.and_le_right
  refine Ex.cons (Ex.assign (Ev.ite (Tst.cmp (Ev.bin (Ev.name rfl) Ev.int (op_mod_int (by decide))) Ev.int op_eq_int) (fun _ => (Ev.call (Glb.own O (g_ctrl _)) (Kept.own O (kp_ctrl _)) (Evs.cons (Ev.call (Glb.blt O (gb_chr _) boot_chr) Kept.builtin (Evs.cons (Ev.bin Ev.int (Ev.name rfl) op_add_int) Evs.nil) Fc (R.mono (by decide))) Evs.nil) (fn_ctrl O) (R.mono (by decide)))) (fun _ => (Ev.call (Glb.blt O (gb_chr _) boot_chr) Kept.builtin (Evs.cons (Ev.bin Ev.int (Ev.name rfl) op_add_int) Evs.nil) Fc (R.mono (by decide))))) (.inl rfl) ?_)
  generalize hs : (if held % 2 = 1 then (32 + key) &&& 31 else 32 + key) = s
  have hs256 : s < 256 := by rw [← hs]; split <;> omega
  have e : (if ((held : Int).fmod 2 == 1) = true then D.str (ch ((32 + key) &&& 31)) else D.str (ch (32 + key))) = .str (ch s) := by
    rw [← hs]
    have : ((held : Int).fmod 2 == 1) = decide (held % 2 = 1) := by
      rw [Int.fmod_eq_emod_of_nonneg _ (by decide)]
      by_cases q : held % 2 = 1
      · simp only [q, decide_true]; have : (held : Int) % 2 = 1 := by omega
        rw [this]; rfl
      · simp only [q, decide_false]; have : (held : Int) % 2 = 0 := by omega
        rw [this]; rfl
    rw [this]
    by_cases q : held % 2 = 1 <;> simp [q]
  rw [e]
  have h128 : s ||| 128 < 256 := Nat.or_lt_two_pow (n := 8) hs256 (by decide)
  have h128' : (s ||| 128) ||| 128 < 256 := Nat.or_lt_two_pow (n := 8) h128 (by decide)
  refine Ex.cons (Ex.ret (Ev.ite (Tst.cmp (Ev.name rfl) Ev.int op_gt_int) (fun _ => (Ev.call (Glb.own O (g_alt _)) (Kept.own O (kp_alt _)) (Evs.cons (Ev.call (Glb.own O (g_alt _)) (Kept.own O (kp_alt _)) (Evs.cons (Ev.name rfl) Evs.nil) (fn_alt O (by omega)) (R.mono (by decide))) Evs.nil) (fn_alt O (by omega)) (R.mono (by decide)))) (fun _ => (Ev.name rfl))) ?_)
  show Fl.ret _ = Fl.ret _
  congr 1
  unfold signN
  rw [hs]
  by_cases q : 1 < held
  · have : decide ((1 : Int) < held) = true := by simpa using (by omega : (1 : Int) < held)
    rw [this]; simp [q]
  · have : decide ((1 : Int) < held) = false := by simpa using (by omega : ¬ (1 : Int) < held)
    rw [this]; simp [q]
end

/-! text LJ -/
section
variable {c : Cx} {A : Around} {env : Env} {ρ : Sto}
theorem Ev.as {t : Sem Value} {d d' : D} (h : Ev c A env ρ t d) (e : d = d') : Ev c A env ρ t d' := e ▸ h
theorem Ev.asI {t : Sem Value} {i j : Int} (h : Ev c A env ρ t (.int i)) (e : i = j) : Ev c A env ρ t (.int j) := e ▸ h
theorem fmod_nat (a b : Nat) : Int.fmod a b = ((a % b : Nat) : Int) := by rw [Int.fmod_eq_emod_of_nonneg _ (by omega)]; rfl
theorem fdiv_nat (a b : Nat) : Int.fdiv a b = ((a / b : Nat) : Int) := by rw [Int.fdiv_eq_ediv_of_nonneg _ (by omega)]; rfl
theorem op_mod_nat {a b : Nat} {b' : Int} (h0 : b ≠ 0) (h : b' = (b : Int) := by rfl) : Op2 c A (binaryOp .Mod) (.int a) (.int b') (.int ((a % b : Nat) : Int)) := by
  subst h; rw [← fmod_nat]; exact op_mod_int (by omega)
theorem op_eq_nat {a b : Nat} {b' : Int} (h : b' = (b : Int) := by rfl) : Op2 c A (compareOp .Eq) (.int a) (.int b') (.bool (decide (a = b))) := by
  subst h
  have : decide (a = b) = ((a : Int) == (b : Int)) := by
    by_cases q : a = b
    · simp [q]
    · have : ¬ (a : Int) = b := by omega
      simp [q, this]
  rw [this]; exact op_eq_int
theorem small0 {a b : Int} (ha : 0 ≤ a) (ha' : a ≤ 2 ^ 24) (hb : -1 ≤ b) (hb' : b ≤ 2 ^ 24) : Builtin.Range.small a b 1 = true :=
  small_one (by omega) (by omega) (by omega) (by omega)
end
theorem foldl_cps (x : Nat) : ∀ (n : Nat) (acc : Array Nat), (List.replicate n #[x]).foldl (· ++ ·) acc = acc ++ (List.replicate n x).toArray
  | 0, acc => by simp
  | n + 1, acc => by
    rw [List.replicate_succ, List.foldl_cons, foldl_cps x n, List.replicate_succ]
    apply Array.toList_inj.mp; simp
theorem mul_S (x : Nat) (n : Nat) : Txt.mul (S [x]) n = S (List.replicate n x) := by
  unfold Txt.mul
  by_cases h : (n : Int) < 1
  · have : n = 0 := by omega
    subst this; rfl
  · rw [if_neg h]
    by_cases h1 : n = 1
    · subst h1; rfl
    · rw [if_neg (by simp [Str.length]; omega)]
      show (⟨_⟩ : Str) = ⟨_⟩
      congr 1
      show List.foldl (· ++ ·) #[] (List.replicate n #[x]) = _
      rw [foldl_cps]; simp
theorem mulOk_S {x n : Nat} (h : n ≤ 2 ^ 24) : MulOk (S [x]) n := by
  unfold MulOk
  refine ⟨by simp; omega, fun h1 _ => ?_, fun _ _ => ?_⟩
  · have : (1 : Int) ≤ (2 ^ 63 - 1) / n := Int.le_ediv_of_mul_le (by omega) (by omega)
    have : ((S [x]).length : Int) = 1 := by simp [Str.length]
    omega
  · have : (S [x]).length = 1 := by simp [Str.length]
    rw [this]
    show decide (1 * ((n : Nat) : Int).toNat > sizeLine) = false
    have : sizeLine = 2 ^ 24 := rfl
    simp; omega
def letters32 : Str := Str.ofString "@ABCDEFGHIJKLMNOPQRSTUVWXYZ[\\]^_"
theorem letters_at : ∀ k < 32, letters32.cps.toList[k]? = some (64 + k) := by decide +kernel
section
variable {c : Cx} (O : c.Ok)
include O
set_option maxHeartbeats 1000000 in
theorem fn_echo {key held : Nat} (hk : key < 96) : Fn c 1 (.ref 167) [.int key, .int held] (.str (S (echoL key held))) := by
  refine Fn.of2 O (fd167 _) (x := Str.ofString "key") (y := Str.ofString "held") fun A hc σ₀ os₀ R => ?_
  have Fc : Fn c 0 (.builtin "chr") [.int (32 + (key : Int))] (.str (ch (32 + key))) := fn_chrN (by omega) (by omega)
  have tail : ∀ (ρ : Sto) (sh : List Nat), ρ (Str.ofString "held") = some (.im (.int held)) → ρ (Str.ofString "shown") = some (.im (.str (S sh))) → sh.length ≤ 2 → sh = (if held % 2 = 1 then [94, 64 + key % 32] else if key < 95 then [32 + key] else if held = 2 then [94, 159] else [94, 63]) →
      ∀ st1 st2, (fd167 c.w.params).1.body = .stmts st1 → st2 = st1.drop 1 → Ex c (frm (fd167 c.w.params).1 167 A hc σ₀ os₀) ρ (execs st2 (envF (fd167 c.w.params).1 167 hc.objs.size)) (Ret (.str (S (echoL key held)))) := by
    intro ρ sh h1 h2 h3 h4 st1 st2 e1 e2
    cases e1
    subst e2
    have h5 : (S sh).length ≤ 2 := by rw [S_length]; exact h3
    refine Ex.cons (Ex.ret (Ev.ite (Tst.cmp (Ev.name h1) Ev.int op_gt_int) (fun _ => (Ev.bin Ev.str (Ev.name h2) (op_add_str (Nat.le_trans (Nat.add_le_add (Nat.le_refl 1) h5) (by decide))))) (fun _ => (Ev.name h2))) ?_)
    show Fl.ret _ = Fl.ret _
    congr 1
    unfold echoL
    rw [← h4]
    by_cases q : 1 < held
    · have : decide ((1 : Int) < held) = true := by simpa using (by omega : (1 : Int) < held)
      rw [this, if_pos q, if_pos rfl]
      show D.str (S [33] ++ S sh) = _
      rw [S_append]; rfl
    · have : decide ((1 : Int) < held) = false := by simpa using (by omega : ¬ (1 : Int) < held)
      rw [this, if_neg q, if_neg (by decide)]
  refine Ex.cons (Ex.ifB (Tst.cmp (Ev.bin (Ev.name rfl) Ev.int (op_mod_nat (b := 2) (by decide))) Ev.int (op_eq_nat (b := 1))) (fun h1 => ?_) (fun h1 => ?_))
  · have e : held % 2 = 1 := by simpa using h1
    refine Ex.cons (Ex.assign (d := .str (S [94, 64 + key % 32])) (Ev.bin Ev.str (Ev.item Ev.str (Ev.bin (Ev.name rfl) Ev.int (op_mod_nat (b := 32) (by decide))) (it_str (n := 64 + key % 32) (by omega) ?_ (by decide))) (op_add_str (show 1 + 1 ≤ sizeLine by decide))) (.inl rfl) (Ex.nil ?_))
    · exact letters_at _ (Nat.mod_lt _ (by decide))
    · exact tail _ _ rfl rfl (by simp) (by rw [if_pos e]) _ _ rfl rfl
  · have e : ¬ held % 2 = 1 := by simpa using h1
    refine Ex.cons (Ex.ifB (Tst.cmp (Ev.name rfl) Ev.int op_lt_int) (fun h2 => ?_) (fun h2 => ?_))
    · have e2 : key < 95 := by have : (key : Int) < 95 := by simpa using h2
                               omega
      refine Ex.cons (Ex.assign (Ev.call (Glb.blt O (gb_chr _) boot_chr) Kept.builtin (Evs.cons (Ev.bin Ev.int (Ev.name rfl) op_add_int) Evs.nil) Fc (R.mono (by decide))) (.inl rfl) (Ex.nil (Ex.nil ?_)))
      exact tail _ [32 + key] rfl rfl (by simp) (by rw [if_neg e, if_pos e2]) _ _ rfl rfl
    · have e2 : ¬ key < 95 := by have : ¬ (key : Int) < 95 := by simpa using h2
                                 omega
      refine Ex.cons (Ex.assign (d := .str (S (if held = 2 then [94, 159] else [94, 63]))) (Ev.as (Ev.ite (Tst.cmp (Ev.name rfl) Ev.int (op_eq_nat (b := 2))) (fun _ => Ev.str) (fun _ => Ev.str)) ?_) (.inl rfl) (Ex.nil (Ex.nil ?_)))
      · by_cases q : held = 2 <;> simp only [q, decide_true, decide_false, if_true, if_false] <;> rfl
      · exact tail _ _ rfl rfl (by split <;> simp) (by rw [if_neg e, if_neg e2]) _ _ rfl rfl

def graphB (n : Nat) : Bool := decide (33 ≤ n) && decide (n ≤ 126)
def colL (l : List Nat) : Nat := l.findIdx graphB
set_option maxHeartbeats 1000000 in
theorem fn_column {l : List Nat} (hz : l.length ≤ 2 ^ 24) : Fn c 3 (.ref 181) [.str (S l)] (.int (colL l)) := by
  refine Fn.of1 O (fd181 _) (x := Str.ofString "row") fun A hc σ₀ os₀ R => ?_
  have hl : (S l).length = l.length := S_length l
  refine Ex.cons (Ex.for_ (fun i ρ => ρ (Str.ofString "row") = some (.im (.str (S l))) ∧ ∀ j < i, ∀ n, l[j]? = some n → graphB n = false) (It.range (x := Str.ofString "place") R.handled (Ev.call (Glb.blt O (gb_range _) boot_range) Kept.type (Evs.cons (Ev.call (Glb.blt O (gb_len _) boot_len) Kept.builtin (Evs.cons (Ev.name (x := Str.ofString "row") rfl) Evs.nil) (fn_len_str (x := S l) (by rw [hl]; exact hz)) (R.mono (by decide))) Evs.nil) fn_range1 (R.mono (by decide))) (small0 (by omega) (by omega) (by omega) (by omega))) ⟨rfl, fun _ h => nomatch h⟩ ?_ ?_)
  · intro i d ρi hd ⟨hr, hj⟩
    have hi : i < l.length ∧ d = .int i := by
      have : i < (intsD 0 ((((S l).length : Nat) : Int) - 0).toNat).length := by
        rw [List.getElem?_eq_some_iff] at hd; exact hd.1
      rw [hl] at this hd
      simp [intsD] at this hd
      refine ⟨this, ?_⟩
      obtain ⟨a, h1, h2⟩ := hd
      rw [List.getElem?_range this] at h1
      cases h1; exact h2.symm
    obtain ⟨hi, rfl⟩ := hi
    refine ⟨_, Asg.name (.inl rfl), ?_⟩
    refine Ex.cons (Ex.ifB (Tst.plain (Ev.call (Glb.own O (g_isgraph _)) (Kept.own O (kp_isgraph _)) (Evs.cons (Ev.item (Ev.name hr) (Ev.name rfl) (it_str (n := l[i]) (by omega) ?_ (by rw [hl]; exact hz))) Evs.nil) (fn_isgraph O) (R.mono (by decide)))) (fun h1 => ?_) (fun h1 => ?_))
    · show l[((i : Nat) : Int).toNat]? = _
      simp [hi]
    · refine Ex.cons (Ex.ret (Ev.name rfl) ?_)
      show Fl.ret _ = Fl.ret _
      congr 2
      have : colL l = i := by
        unfold colL
        rw [List.findIdx_eq hi]
        refine ⟨h1, fun j hj' => hj j hj' _ (by rw [List.getElem?_eq_getElem])⟩
      rw [this]
    · refine Ex.nil (Ex.nil ⟨hr, fun j hj' n hn => ?_⟩)
      by_cases q : j < i
      · exact hj j q n hn
      · have : j = i := by omega
        subst this
        rw [List.getElem?_eq_getElem hi] at hn
        cases hn
        exact h1
  · intro ρ' ⟨hr, hj⟩
    refine Ex.cons (Ex.ret (Ev.call (Glb.blt O (gb_len _) boot_len) Kept.builtin (Evs.cons (Ev.name hr) Evs.nil) (fn_len_str (x := S l) (by rw [hl]; exact hz)) (R.mono (by decide))) ?_)
    show Fl.ret _ = Fl.ret _
    congr 2
    rw [hl]
    have : colL l = l.length := by
      unfold colL
      rw [List.findIdx_eq_length]
      intro x hx
      obtain ⟨j, hj', e⟩ := List.getElem_of_mem hx
      exact hj j (by simp only [intsD, List.length_map, List.length_range]; rw [hl]; omega) x (by rw [List.getElem?_eq_getElem hj', e])
    rw [this]
end

/-! text LK -/
abbrev pairD (k : Nat × Nat) : D := .tup [.int k.1, .int k.2]
def rowStep (size : Nat) (st : List Nat × Bool) (k : Nat × Nat) : List Nat × Bool :=
  let front := st.2 && blankB k.1 k.2
  if front = true ∧ k.2 = 1 then (st.1 ++ List.replicate (size - st.1.length % size) 32, front) else (st.1 ++ echoL k.1 k.2, front)
def rowL (typed : List (Nat × Nat)) (size : Nat) : List Nat := (typed.foldl (rowStep size) ([], true)).1
theorem echo_len (k h : Nat) : (echoL k h).length ≤ 3 := by
  unfold echoL; dsimp only; repeat' split
  all_goals simp
theorem row_len (size : Nat) : ∀ (typed : List (Nat × Nat)) (st : List Nat × Bool), (typed.foldl (rowStep size) st).1.length ≤ st.1.length + typed.length * (size + 3)
  | [], st => by simp
  | k :: r, st => by
    rw [List.foldl_cons]
    refine Nat.le_trans (row_len size r _) ?_
    have : (rowStep size st k).1.length ≤ st.1.length + (size + 3) := by
      unfold rowStep; dsimp only
      split
      · simp; omega
      · have := echo_len k.1 k.2; simp; omega
    rw [List.length_cons, Nat.succ_mul]; omega
section
variable {c : Cx} (O : c.Ok)
include O
set_option maxHeartbeats 1000000 in
theorem fn_row {typed : List (Nat × Nat)} {size : Nat} (hk : ∀ k ∈ typed, k.1 < 96) (hs : 0 < size) (hs' : size ≤ 1000) (ht : typed.length ≤ 1000) : Fn c 2 (.ref 174) [.lst (typed.map pairD), .int size] (.str (S (rowL typed size))) := by
  refine Fn.of2 O (fd174 _) (x := Str.ofString "typed") (y := Str.ofString "size") fun A hc σ₀ os₀ R => ?_
  refine Ex.cons (Ex.assignT (Ev.tuple (Evs.cons Ev.str (Evs.cons Ev.bool Evs.nil))) (Asg.tup2 R.handled (.inl rfl) (.inl rfl)) ?_)
  refine Ex.cons (Ex.for_ (fun i ρ => ρ (Str.ofString "size") = some (.im (.int size)) ∧ ρ (Str.ofString "row") = some (.im (.str (S ((typed.take i).foldl (rowStep size) ([], true)).1))) ∧ ρ (Str.ofString "front") = some (.im (.bool ((typed.take i).foldl (rowStep size) ([], true)).2)))
    (It.list R.handled (Ev.name rfl) (.inr ⟨_, _, _, rfl⟩)) ⟨rfl, rfl, rfl⟩ ?_ ?_)
  · intro i d ρi hd ⟨h1, h2, h3⟩
    rw [List.getElem?_map] at hd
    obtain ⟨⟨key, held⟩, hd', rfl⟩ := Option.map_eq_some_iff.mp hd
    replace hd := hd'
    have hkk : key < 96 := hk (key, held) (List.mem_of_getElem? hd)
    have hst : (typed.take (i + 1)).foldl (rowStep size) ([], true) = rowStep size ((typed.take i).foldl (rowStep size) ([], true)) (key, held) := by
      rw [List.take_add_one, hd]; simp
    have hlen := row_len size (typed.take i) ([], true)
    have hlen : ((typed.take i).foldl (rowStep size) ([], true)).1.length ≤ 1000 * 1003 := by
      refine Nat.le_trans hlen ?_
      have e1 : (typed.take i).length ≤ 1000 := by rw [List.length_take]; omega
      simp only [List.length_nil, Nat.zero_add]
      exact Nat.mul_le_mul e1 (by omega)
    rw [hst]
    generalize (typed.take i).foldl (rowStep size) ([], true) = st at h2 h3 hlen
    obtain ⟨row, front⟩ := st
    replace hlen : row.length ≤ 1000 * 1003 := hlen
    refine ⟨_, Asg.tup2 R.handled (.inl rfl) (.inl rfl), ?_⟩
    refine Ex.cons (Ex.assign (Ev.and2 (Ev.name h3) (fun _ => (Ev.call (Glb.own O (g_law_blank _)) (Kept.own O (kp_law_blank _)) (Evs.cons (Ev.name rfl) (Evs.cons (Ev.name rfl) Evs.nil)) (fn_blank O) (R.mono (by decide))))) (.inl rfl) ?_)
    have hl : (S row).length = row.length := S_length row
    refine Ex.cons (Ex.ifB (Tst.and2 (Tst.plain (Ev.name rfl)) (fun _ => (Tst.cmp (Ev.name rfl) Ev.int (op_eq_nat (b := 1))))) (fun q => ?_) (fun q => ?_))
    · have q' : (front && blankB key held) = true ∧ held = 1 := by simpa only [Bool.and_eq_true, decide_eq_true_eq] using q
      have hm := Nat.mod_lt row.length hs
      have e : (size : Int) - ((row.length % size : Nat) : Int) = ((size - row.length % size : Nat) : Int) := by omega
      refine Ex.cons (Ex.assign (d := .str (S (row ++ List.replicate (size - row.length % size) 32))) (Ev.as (Ev.bin (Ev.name h2) (Ev.bin Ev.str (Ev.asI (Ev.bin (Ev.name h1) (Ev.bin (Ev.call (Glb.blt O (gb_len _) boot_len) Kept.builtin (Evs.cons (Ev.name h2) Evs.nil) (fn_len_str (by rw [hl]; omega)) (R.mono (by decide))) (Ev.name h1) (op_mod_nat (b := size) (by omega) rfl)) op_sub_int) (by rw [hl]; exact e)) (op_mul_str (mulOk_S (by omega)))) (op_add_str ?_)) ?_) (.inl rfl) (Ex.nil (Ex.nil ?_)))
      · show (S row).length + (Txt.mul (S [32]) _).length ≤ sizeLine
        rw [mul_S, hl, S_length, List.length_replicate]
        have : sizeLine = 2 ^ 24 := rfl
        omega
      · show D.str (S row ++ Txt.mul (S [32]) _) = _
        rw [mul_S, S_append]
      · refine ⟨h1, ?_, ?_⟩
        · show _ = some (B.im (.str (S (rowStep size (row, front) (key, held)).1)))
          unfold rowStep; dsimp only; rw [if_pos q']; rfl
        · show _ = some (B.im (.bool (rowStep size (row, front) (key, held)).2))
          unfold rowStep; dsimp only; rw [if_pos q']; rfl
    · have q' : ¬ ((front && blankB key held) = true ∧ held = 1) := by
        intro q'; rw [← Bool.not_eq_true] at q; apply q; simpa only [Bool.and_eq_true, decide_eq_true_eq] using q'
      have he := echo_len key held
      refine Ex.cons (Ex.assign (d := .str (S (row ++ echoL key held))) (Ev.as (Ev.bin (Ev.name h2) (Ev.call (Glb.own O (g_law_echo _)) (Kept.own O (kp_law_echo _)) (Evs.cons (Ev.name rfl) (Evs.cons (Ev.name rfl) Evs.nil)) (fn_echo O hkk) (R.mono (by decide))) (op_add_str ?_)) ?_) (.inl rfl) (Ex.nil (Ex.nil ?_)))
      · show (S row).length + (S (echoL key held)).length ≤ _
        rw [hl, S_length]
        have : sizeLine = 2 ^ 24 := rfl
        omega
      · rw [S_append]
      · refine ⟨h1, ?_, ?_⟩
        · show _ = some (B.im (.str (S (rowStep size (row, front) (key, held)).1)))
          unfold rowStep; dsimp only; rw [if_neg q']; rfl
        · show _ = some (B.im (.bool (rowStep size (row, front) (key, held)).2))
          unfold rowStep; dsimp only; rw [if_neg q']; rfl
  · intro ρ' ⟨h1, h2, h3⟩
    refine Ex.cons (Ex.ret (Ev.name h2) (ret_str ?_))
    rw [List.length_map, List.take_length]; rfl
end

/-! text LM -/
/-! comprehensions over a list of plain Lean items -/
open Classical in
noncomputable def inv {α : Type} (φ : α → D) (d : D) : Option α := if h : ∃ a, φ a = d then some h.choose else none
theorem inv_at {α : Type} {φ : α → D} (inj : ∀ a b, φ a = φ b → a = b) (a : α) : inv φ (φ a) = some a := by
  unfold inv
  have h : ∃ b, φ b = φ a := ⟨a, rfl⟩
  rw [dif_pos h]
  exact congrArg some (inj _ _ h.choose_spec)
noncomputable def pD {α : Type} (φ : α → D) (p : α → Bool) (d : D) : Bool := ((inv φ d).map p).getD false
noncomputable def gD {α : Type} (φ : α → D) (g : α → D) (d : D) : D := ((inv φ d).map g).getD .none
theorem pD_at {α : Type} {φ : α → D} (inj : ∀ a b, φ a = φ b → a = b) (p : α → Bool) (a : α) : pD φ p (φ a) = p a := by unfold pD; rw [inv_at inj]; rfl
theorem gD_at {α : Type} {φ : α → D} (inj : ∀ a b, φ a = φ b → a = b) (g : α → D) (a : α) : gD φ g (φ a) = g a := by unfold gD; rw [inv_at inj]; rfl
theorem filter_pD {α : Type} {φ : α → D} (inj : ∀ a b, φ a = φ b → a = b) (p : α → Bool) (g : α → D) : ∀ l : List α, ((l.map φ).filter (pD φ p)).map (gD φ g) = (l.filter p).map g
  | [] => rfl
  | a :: r => by
    rw [List.map_cons, List.filter_cons, List.filter_cons, pD_at inj]
    split
    · rw [List.map_cons, List.map_cons, gD_at inj, filter_pD inj p g r]
    · exact filter_pD inj p g r

/-- what is plain about a comprehension's scope -/
structure CompC (c : Cx) (env : Env) (ρ : Sto) (scope : Scope) (cl : List (Str × Addr)) (caps : List Str) : Prop where
  clos : closureFor scope env = pure cl
  cell : scope.names.all (fun y => y.2 != .cell) = true
  kind : scope.kind = .function
  names : scope.names.all (fun y => y.2 != .local || scope.names.lookup y.1 == some .local) = true
  capIn : ∀ x a, cl.lookup x = some a → x ∈ caps
  capOk : ∀ x ∈ caps, env.kindOf x = some .cell ∧ cl.lookup x = env.cells.lookup x ∧ (relabel scope env).names.lookup x = some .cell ∧ ∃ d, ρ x = some (.im d)
section
variable {c : Cx} {A : Around} {env : Env} {ρ : Sto} {scope : Scope} {cl : List (Str × Addr)} {caps : List Str}
theorem CompC.of0 (h1 : closureFor scope env = pure [] := by rfl) (h2 : scope.names.all (fun y => y.2 != .cell) = true := by rfl) (h3 : scope.kind = .function := by rfl) (h4 : scope.names.all (fun y => y.2 != .local || scope.names.lookup y.1 == some .local) = true := by rfl) : CompC c env ρ scope [] [] :=
  ⟨h1, h2, h3, h4, fun _ _ h => by simp at h, fun _ h => nomatch h⟩
theorem CompC.of1 {x : Str} {a : Addr} {d : D} (h : ρ x = some (.im d)) (h1 : closureFor scope env = pure [(x, a)] := by rfl) (hk : env.kindOf x = some .cell := by rfl) (hc : some a = env.cells.lookup x := by rfl) (hr : (relabel scope env).names.lookup x = some .cell := by rfl) (h2 : scope.names.all (fun y => y.2 != .cell) = true := by rfl) (h3 : scope.kind = .function := by rfl) (h4 : scope.names.all (fun y => y.2 != .local || scope.names.lookup y.1 == some .local) = true := by rfl) : CompC c env ρ scope [(x, a)] [x] := by
  refine ⟨h1, h2, h3, h4, fun y b hy => ?_, fun y hy => ?_⟩
  · rw [List.lookup_cons] at hy
    split at hy
    · rename_i e; simpa using e
    · simp at hy
  · cases List.mem_singleton.mp hy
    exact ⟨hk, by rw [← hc]; simp, hr, d, h⟩
theorem CompC.of2 {x y : Str} {a b : Addr} {d d' : D} (h : ρ x = some (.im d)) (h' : ρ y = some (.im d')) (hne : (y == x) = false := by rfl) (h1 : closureFor scope env = pure [(x, a), (y, b)] := by rfl) (hk : env.kindOf x = some .cell := by rfl) (hk' : env.kindOf y = some .cell := by rfl) (hc : some a = env.cells.lookup x := by rfl) (hc' : some b = env.cells.lookup y := by rfl) (hr : (relabel scope env).names.lookup x = some .cell := by rfl) (hr' : (relabel scope env).names.lookup y = some .cell := by rfl) (h2 : scope.names.all (fun y => y.2 != .cell) = true := by rfl) (h3 : scope.kind = .function := by rfl) (h4 : scope.names.all (fun y => y.2 != .local || scope.names.lookup y.1 == some .local) = true := by rfl) : CompC c env ρ scope [(x, a), (y, b)] [x, y] := by
  refine ⟨h1, h2, h3, h4, fun z b hy => ?_, fun z hy => ?_⟩
  · rw [List.lookup_cons] at hy
    split at hy
    · rename_i e; have e' : z = x := by simpa using e
      simp [e']
    · rw [List.lookup_cons] at hy
      split at hy
      · rename_i e; have e' : z = y := by simpa using e
        simp [e']
      · simp at hy
  · simp only [List.mem_cons, List.not_mem_nil, or_false] at hy
    rcases hy with rfl | rfl
    · exact ⟨hk, by rw [← hc]; simp, hr, d, h⟩
    · exact ⟨hk', by rw [← hc', List.lookup_cons, hne]; simp, hr', d', h'⟩
theorem capd_upd {x : Str} {b : B} {y : Str} {b' : B} (hx : x ∉ caps) (h : capd caps ρ y = some b') {σ : Sto} (hs : ∀ z, z ≠ x → σ z = capd caps ρ z) : σ y = some b' := by
  rw [hs y]
  · exact h
  · rintro rfl; exact hx (capd_some h).1
theorem CompOk.ofN {α : Type} {l : List α} {φ : α → D} {x : Str} {px : Pos} {ifs : List Expr} {elt : Expr} {p : α → Bool} {g : α → D} (inj : ∀ a b, φ a = φ b → a = b) (K : CompC c env ρ scope cl caps) (hz : l.length ≤ sizeLine) (hx : x ∉ caps)
    (hl : ∀ C, (compEnvC scope cl C env).kindOf x = some .local) (test : ∀ a ∈ l, ∀ C, Tsts c A (compEnvC scope cl C env) (upd (capd caps ρ) x (.im (φ a))) ifs (p a))
    (he : ∀ a ∈ l, p a = true → ∀ C, Ev c A (compEnvC scope cl C env) (upd (capd caps ρ) x (.im (φ a))) (eval elt (compEnvC scope cl C env)) (g a)) :
    CompOk c A env ρ scope cl caps (.Name x px) ifs elt (l.map φ) (fun d => upd (capd caps ρ) x (.im d)) (pD φ p) (gD φ g) := by
  refine ⟨K.clos, fun y hy => ?_, K.kind, fun y hy e => ?_, K.capIn, K.capOk, by rw [List.length_map]; exact hz, fun d _ y b h => ?_, fun d _ C hc σ₀ os₀ => Asg.name (.inl (hl C)), fun d hd C => ?_, fun d hd hp C => ?_⟩
  · have := List.all_eq_true.mp K.cell y hy; simpa using this
  · have := List.all_eq_true.mp K.names y hy; simpa [e] using this
  · unfold upd
    rw [if_neg]
    · exact h
    · rintro rfl; exact hx (capd_some h).1
  · obtain ⟨a, ha, rfl⟩ := List.mem_map.mp hd
    rw [pD_at inj]; exact test a ha C
  · obtain ⟨a, ha, rfl⟩ := List.mem_map.mp hd
    rw [pD_at inj] at hp
    rw [gD_at inj]; exact he a ha hp C
/-- what a pair of names takes -/
def rt2 (x y : Str) (ρ : Sto) : D → Sto
  | .tup [a, b] => upd (upd ρ x (.im a)) y (.im b)
  | _ => ρ
theorem CompOk.ofP {α : Type} {l : List α} {f1 f2 : α → D} {x y : Str} {px py pos : Pos} {k : Nat} {ifs : List Expr} {elt : Expr} {p : α → Bool} {g : α → D} (hh : A.handled = none) (inj : ∀ a b, D.tup [f1 a, f2 a] = D.tup [f1 b, f2 b] → a = b) (K : CompC c env ρ scope cl caps) (hz : l.length ≤ sizeLine) (hx : x ∉ caps) (hy : y ∉ caps)
    (hl : ∀ C, (compEnvC scope cl C env).kindOf x = some .local) (hl' : ∀ C, (compEnvC scope cl C env).kindOf y = some .local) (test : ∀ a ∈ l, ∀ C, Tsts c A (compEnvC scope cl C env) (upd (upd (capd caps ρ) x (.im (f1 a))) y (.im (f2 a))) ifs (p a))
    (he : ∀ a ∈ l, p a = true → ∀ C, Ev c A (compEnvC scope cl C env) (upd (upd (capd caps ρ) x (.im (f1 a))) y (.im (f2 a))) (eval elt (compEnvC scope cl C env)) (g a)) :
    CompOk c A env ρ scope cl caps (.Tuple [.Name x px, .Name y py] k pos) ifs elt (l.map fun a => .tup [f1 a, f2 a]) (rt2 x y (capd caps ρ)) (pD (fun a => .tup [f1 a, f2 a]) p) (gD (fun a => .tup [f1 a, f2 a]) g) := by
  refine ⟨K.clos, fun y hy => ?_, K.kind, fun y hy e => ?_, K.capIn, K.capOk, by rw [List.length_map]; exact hz, fun d hd z b h => ?_, fun d hd C hc σ₀ os₀ => ?_, fun d hd C => ?_, fun d hd hp C => ?_⟩
  · have := List.all_eq_true.mp K.cell y hy; simpa using this
  · have := List.all_eq_true.mp K.names y hy; simpa [e] using this
  · obtain ⟨a, ha, rfl⟩ := List.mem_map.mp hd
    have hz := (capd_some h).1
    show upd (upd (capd caps ρ) x (.im (f1 a))) y (.im (f2 a)) z = some b
    unfold upd
    rw [if_neg (by rintro rfl; exact hy hz), if_neg (by rintro rfl; exact hx hz)]
    exact h
  · obtain ⟨a, ha, rfl⟩ := List.mem_map.mp hd
    exact Asg.tup2 hh (.inl (hl C)) (.inl (hl' C))
  · obtain ⟨a, ha, rfl⟩ := List.mem_map.mp hd
    rw [pD_at (φ := fun a => D.tup [f1 a, f2 a]) inj]; exact test a ha C
  · obtain ⟨a, ha, rfl⟩ := List.mem_map.mp hd
    rw [pD_at (φ := fun a => D.tup [f1 a, f2 a]) inj] at hp
    rw [gD_at (φ := fun a => D.tup [f1 a, f2 a]) inj]; exact he a ha hp C

/-- [elt for x in it], [elt for x in it if t] -/
theorem Ev.compN {α : Type} {l : List α} {φ : α → D} {x : Str} {px pos : Pos} {iter elt : Expr} {ifs : List Expr} (p : α → Bool) (g : α → D) (inj : ∀ a b, φ a = φ b → a = b) (hit : It c A env ρ iter (.Name x px) (l.map φ)) (K : CompC c env ρ scope cl caps) (hz : l.length ≤ sizeLine)
    (test : ∀ a ∈ l, ∀ C, Tsts c A (compEnvC scope cl C env) (upd (capd caps ρ) x (.im (φ a))) ifs (p a))
    (he : ∀ a ∈ l, p a = true → ∀ C, Ev c A (compEnvC scope cl C env) (upd (capd caps ρ) x (.im (φ a))) (eval elt (compEnvC scope cl C env)) (g a))
    (hx : x ∉ caps := by decide) (hl : ∀ C, (compEnvC scope cl C env).kindOf x = some .local := by intro _; rfl) (hs : ∀ x, foldedSetIterable iter env x = pure x := by intro _; rfl) :
    Ev c A env ρ (eval (.ListComp elt [⟨.Name x px, iter, ifs, 0⟩] scope pos) env) (.lst ((l.filter p).map g)) := by
  have := Ev.comp (pos := pos) hit (CompOk.ofN inj K hz hx hl test he) hs
  rwa [filter_pD inj] at this
theorem Ev.compP {α : Type} {l : List α} {f1 f2 : α → D} {x y : Str} {px py tp pos : Pos} {k : Nat} {iter elt : Expr} {ifs : List Expr} (p : α → Bool) (g : α → D) (hh : A.handled = none) (inj : ∀ a b, D.tup [f1 a, f2 a] = D.tup [f1 b, f2 b] → a = b) (hit : It c A env ρ iter (.Tuple [.Name x px, .Name y py] k tp) (l.map fun a => .tup [f1 a, f2 a])) (K : CompC c env ρ scope cl caps) (hz : l.length ≤ sizeLine)
    (test : ∀ a ∈ l, ∀ C, Tsts c A (compEnvC scope cl C env) (upd (upd (capd caps ρ) x (.im (f1 a))) y (.im (f2 a))) ifs (p a))
    (he : ∀ a ∈ l, p a = true → ∀ C, Ev c A (compEnvC scope cl C env) (upd (upd (capd caps ρ) x (.im (f1 a))) y (.im (f2 a))) (eval elt (compEnvC scope cl C env)) (g a))
    (hx : x ∉ caps := by decide) (hy : y ∉ caps := by decide) (hl : ∀ C, (compEnvC scope cl C env).kindOf x = some .local := by intro _; rfl) (hl' : ∀ C, (compEnvC scope cl C env).kindOf y = some .local := by intro _; rfl) (hs : ∀ x, foldedSetIterable iter env x = pure x := by intro _; rfl) :
    Ev c A env ρ (eval (.ListComp elt [⟨.Tuple [.Name x px, .Name y py] k tp, iter, ifs, 0⟩] scope pos) env) (.lst ((l.filter p).map g)) := by
  have := Ev.comp (pos := pos) hit (CompOk.ofP hh inj K hz hx hy hl hl' test he) hs
  rwa [filter_pD (φ := fun a => D.tup [f1 a, f2 a]) inj] at this
/-- z = [elt for x in it] -/
theorem Ex.assignN {f : Fm} {Φ : Fl → Sto → Prop} {α : Type} {l : List α} {φ : α → D} {x z : Str} {px pos pz spos : Pos} {iter elt : Expr} {ifs : List Expr} (p : α → Bool) (g : α → D) (inj : ∀ a b, φ a = φ b → a = b) (hit : It c f.A f.env ρ iter (.Name x px) (l.map φ)) (K : CompC c f.env ρ scope cl caps) (hz : l.length ≤ sizeLine)
    (test : ∀ a ∈ l, ∀ C, Tsts c f.A (compEnvC scope cl C f.env) (upd (capd caps ρ) x (.im (φ a))) ifs (p a))
    (he : ∀ a ∈ l, p a = true → ∀ C, Ev c f.A (compEnvC scope cl C f.env) (upd (capd caps ρ) x (.im (φ a))) (eval elt (compEnvC scope cl C f.env)) (g a))
    (hn : HasName f z) (q : Φ .next (upd ρ z (.im (.lst ((l.filter p).map g)))))
    (hx : x ∉ caps := by decide) (hl : ∀ C, (compEnvC scope cl C f.env).kindOf x = some .local := by intro _; rfl) 
    (hsw : swapsWith (.ListComp elt [⟨.Name x px, iter, ifs, 0⟩] scope pos) (some (.Name z pz)) spos.line f.env = pure true := by rfl) (hs : ∀ x, foldedSetIterable iter f.env x = pure x := by intro _; rfl) :
    Ex c f ρ (exec (.Assign [.Name z pz] (.ListComp elt [⟨.Name x px, iter, ifs, 0⟩] scope pos) spos) f.env) Φ := by
  refine Ex.assignComp hit (CompOk.ofN inj K hz hx hl test he) hn ?_ hsw hs
  rwa [filter_pD inj]
end
theorem filter_true {α : Type} (l : List α) : l.filter (fun _ => true) = l := List.filter_eq_self.mpr fun _ _ => rfl
theorem inj_int {α : Type} {f : α → Int} (h : ∀ a b, f a = f b → a = b) : ∀ a b, D.int (f a) = D.int (f b) → a = b := fun a b e => h a b (D.int.inj e)
theorem inj_pair : ∀ a b : Nat × Nat, pairD a = pairD b → a = b := by
  intro a b e
  simp only [pairD, D.tup.injEq, List.cons.injEq, D.int.injEq, and_true] at e
  obtain ⟨a1, a2⟩ := a; obtain ⟨b1, b2⟩ := b
  simp only [Prod.mk.injEq]; simp only at e; omega

/-! a def whose first parameter is a cell -/
theorem Fn.ofC1 {c : Cx} (O : c.Ok) {a : Addr} (F : FdAt c.w.params a) {x : Str} {body : List Stmt} {n : Nat} {d1 d : D}
    (h : ∀ A hc σ₀ os₀, Room A n → Ex c (frm F.1 a A hc σ₀ os₀) (par [x] [d1]) (execs body (envF F.1 a hc.objs.size)) (Ret d))
    (hb : F.1.body = .stmts body := by rfl) (hg : F.1.globals = mainGlobals := by rfl) (hcl : F.1.closure = [] := by rfl) (hbl : F.1.builtins = builtinsNs := by rfl) (hco : F.1.scope.isCoroutine = false := by rfl) (hge : F.1.scope.isGenerator = false := by rfl) (hk : F.1.scope.kind = .function := by rfl)
    (hcode : codeIn (KK c.w.params) F.1.code F.1.qualname = true := by rfl) (hl : F.1.scope.names.lookup x = some .cell := by rfl) (hl2 : ∀ n, ((cellsFrom n F.1.scope.names []).lookup x).isSome = true := by intro _; rfl) (hbi : ∀ v, bindArgs F.1 ⟨[v], []⟩ = pure [(x, v)] := by intro _; rfl) : Fn c (n + 1) (.ref a) [d1] d :=
  Fn.of O (xs := [x]) ⟨F.2, hb, hg, hcl, hbl, hco, hge, hk, hcode, by simp, (fun z hz => by cases List.mem_singleton.mp hz; exact .inr ⟨hl, hl2⟩), bind1 hbi⟩ rfl h
theorem Fn.ofC3 {c : Cx} (O : c.Ok) {a : Addr} (F : FdAt c.w.params a) {x y z : Str} {body : List Stmt} {n : Nat} {d1 d2 d3 d : D}
    (h : ∀ A hc σ₀ os₀, Room A n → Ex c (frm F.1 a A hc σ₀ os₀) (par [x, y, z] [d1, d2, d3]) (execs body (envF F.1 a hc.objs.size)) (Ret d))
    (hb : F.1.body = .stmts body := by rfl) (hg : F.1.globals = mainGlobals := by rfl) (hcl : F.1.closure = [] := by rfl) (hbl : F.1.builtins = builtinsNs := by rfl) (hco : F.1.scope.isCoroutine = false := by rfl) (hge : F.1.scope.isGenerator = false := by rfl) (hk : F.1.scope.kind = .function := by rfl)
    (hcode : codeIn (KK c.w.params) F.1.code F.1.qualname = true := by rfl) (hnd : [x, y, z].Nodup := by decide) (hl : F.1.scope.names.lookup x = some .cell := by rfl) (hl2 : ∀ n, ((cellsFrom n F.1.scope.names []).lookup x).isSome = true := by intro _; rfl) (hy : F.1.scope.names.lookup y = some .local := by rfl) (hz : F.1.scope.names.lookup z = some .local := by rfl)
    (hbi : ∀ v u w, bindArgs F.1 ⟨[v, u, w], []⟩ = pure [(x, v), (y, u), (z, w)] := by intro _ _ _; rfl) : Fn c (n + 1) (.ref a) [d1, d2, d3] d :=
  Fn.of O (xs := [x, y, z]) ⟨F.2, hb, hg, hcl, hbl, hco, hge, hk, hcode, hnd, (fun t ht => by
    simp only [List.mem_cons, List.not_mem_nil, or_false] at ht
    rcases ht with rfl | rfl | rfl
    · exact .inr ⟨hl, hl2⟩
    · exact .inl hy
    · exact .inl hz), bind3 hbi⟩ rfl h

/-! text LN -/
section
variable {c : Cx} {A : Around} {env : Env} {ρ : Sto}
theorem log_lt {n : Nat} (h : n < 2 ^ 64) : n.log2 < 9000 := by
  by_cases h0 : n = 0
  · subst h0; decide
  · exact Nat.lt_of_lt_of_le ((Nat.log2_lt h0).2 h) (by decide)
theorem op_div_nat {a b : Nat} {b' : Int} (h0 : b ≠ 0) (hb : b < 2 ^ 64) (h : b' = (b : Int) := by rfl) : Op2 c A (binaryOp .FloorDiv) (.int a) (.int b') (.int ((a / b : Nat) : Int)) := by
  subst h; rw [← fdiv_nat]; exact op_div_int (by omega) (PyProof.noPylong_of_log2 (log_lt hb))
theorem op_mul_nat {a b : Nat} {a' : Int} (ha : a < 2 ^ 64) (h : a' = (a : Int) := by rfl) : Op2 c A (binaryOp .Mult) (.int a') (.int b) (.int ((a * b : Nat) : Int)) := by
  subst h
  have : ((a * b : Nat) : Int) = (a : Int) * b := by simp
  rw [this]; exact op_mul_int (IntMulOk.of_left (intBits_le_64 (by omega) (by omega)))
theorem op_pow_nat {a n : Nat} {a' : Int} (ha : a < 2 ^ 64) (hn : n ≤ 1000) (h : a' = (a : Int) := by rfl) : Op2 c A (binaryOp .Pow) (.int a') (.int n) (.int ((a ^ n : Nat) : Int)) := by
  subst h
  have : ((a ^ n : Nat) : Int) = (a : Int) ^ ((n : Nat) : Int).toNat := by simp
  rw [this]
  have hb : Builtin.Int.intBits (a : Int) ≤ 64 := intBits_le_64 (by omega) (by omega)
  refine op_pow_int (by omega) ?_
  have : ((Builtin.Int.intBits (a : Int) : Nat) : Int) * (n : Int) ≤ 64 * 1000 := by
    have := Nat.mul_le_mul hb hn
    omega
  omega
theorem intsD_map (n : Nat) : intsD 0 n = (List.range n).map fun (i : Nat) => D.int (i : Int) := by
  unfold intsD; simp
end
theorem inj_nat : ∀ a b : Nat, D.int (a : Int) = D.int (b : Int) → a = b := fun a b e => by have := D.int.inj e; omega
def keysL (x : Nat) : List (Nat × Nat) := (List.range (x % 4)).map fun p => (x / (4 * 384 ^ p) % 96, x / 384 ^ (p + 1) % 4)
section
variable {c : Cx} (O : c.Ok)
include O
omit O in
theorem it_upto {A : Around} {env : Env} {ρ : Sto} {e : Expr} {y : Str} {py : Pos} {n : Nat} (hh : A.handled = none) (hn : n ≤ 2 ^ 24) (h : Ev c A env ρ (eval e env) (.rng 0 n)) : It c A env ρ e (.Name y py) ((List.range n).map fun (i : Nat) => D.int (i : Int)) := by
  have := It.range (x := y) (px := py) hh h (small0 (by omega) (by omega) (by omega) (by omega))
  rw [show ((n : Int) - 0).toNat = n by omega, intsD_map] at this
  exact this
set_option maxHeartbeats 1000000 in
theorem fn_keys {x : Nat} : Fn c 1 (.ref 146) [.int x] (.lst ((keysL x).map pairD)) := by
  refine Fn.ofC1 O (fd146 _) (x := Str.ofString "x") fun A hc σ₀ os₀ R => ?_
  refine Ex.cons (Ex.ret (d := .lst ((keysL x).map pairD)) (Ev.as (Ev.compN (l := List.range (x % 4)) (φ := fun (i : Nat) => D.int (i : Int)) (fun _ => true) (fun p => pairD (x / (4 * 384 ^ p) % 96, x / 384 ^ (p + 1) % 4)) inj_nat
    (it_upto R.handled (by omega) (Ev.call (Glb.blt O (gb_range _) boot_range) Kept.type (Evs.cons (Ev.bin (Ev.name rfl) Ev.int (op_mod_nat (b := 4) (by decide))) Evs.nil) fn_range1 (R.mono (by decide))))
    (CompC.of1 (d := .int x) rfl) (by rw [List.length_range]; exact Nat.le_trans (Nat.le_of_lt (Nat.mod_lt _ (by decide))) (by decide)) (fun _ _ _ => rfl) ?_) ?_) rfl)
  · intro p hp _ C
    have hp : p < 4 := Nat.lt_of_lt_of_le (List.mem_range.mp hp) (Nat.le_of_lt (Nat.mod_lt _ (by decide)))
    have h1 : 384 ^ p ≤ 384 ^ 3 := Nat.pow_le_pow_right (by decide) (by omega)
    have h1' : 0 < 384 ^ p := Nat.pow_pos (by decide)
    have h2 : 384 ^ (p + 1) ≤ 384 ^ 4 := Nat.pow_le_pow_right (by decide) (by omega)
    have h2' : 0 < 384 ^ (p + 1) := Nat.pow_pos (by decide)
    refine Ev.tuple (Evs.cons ?_ (Evs.cons ?_ Evs.nil))
    · exact Ev.bin (Ev.bin (Ev.name rfl) (Ev.bin Ev.int (Ev.bin Ev.int (Ev.name rfl) (op_pow_nat (a := 384) (by decide) (by omega))) (op_mul_nat (a := 4) (by decide))) (op_div_nat (by omega) (by omega) rfl)) Ev.int (op_mod_nat (b := 96) (by decide))
    · exact Ev.bin (Ev.bin (Ev.name rfl) (Ev.bin Ev.int (Ev.asI (Ev.bin (Ev.name rfl) Ev.int op_add_int) (show (p : Int) + 1 = ((p + 1 : Nat) : Int) by omega)) (op_pow_nat (a := 384) (by decide) (by omega))) (op_div_nat (by omega) (by omega) rfl)) Ev.int (op_mod_nat (b := 4) (by decide))
  · rw [filter_true, keysL, List.map_map]; rfl
end

/-! the front of a line -/
def runsL (x : Nat) (turned : Bool) : List Nat :=
  let r := (List.range (x % 4)).map fun p => x / (4 * 5 ^ p) % 5
  if turned then r.reverse else r
def tabK (run : Nat) : Nat := if run % 3 = 0 then 9 else if run % 3 = 1 then 41 else 73
def frontOf : List Nat → List (Nat × Nat)
  | [] => []
  | run :: r => List.replicate run (0, 0) ++ (tabK run, 1) :: frontOf r
theorem frontOf_append (a b : List Nat) : frontOf (a ++ b) = frontOf a ++ frontOf b := by
  induction a with
  | nil => rfl
  | cons x r ih => simp [frontOf, ih]
def frontL (x : Nat) (turned : Bool) (more : Nat) : List (Nat × Nat) := frontOf (runsL x turned) ++ List.replicate (x / 500 % 6 + more) (0, 0)
theorem runs_lt {x : Nat} {turned : Bool} : (runsL x turned).length ≤ 3 ∧ ∀ r ∈ runsL x turned, r < 5 := by
  have h : ∀ r ∈ (List.range (x % 4)).map fun p => x / (4 * 5 ^ p) % 5, r < 5 := by
    intro r hr
    obtain ⟨p, _, rfl⟩ := List.mem_map.mp hr
    exact Nat.mod_lt _ (by decide)
  have hl : ((List.range (x % 4)).map fun p => x / (4 * 5 ^ p) % 5).length ≤ 3 := by simp; omega
  unfold runsL
  cases turned
  · exact ⟨hl, h⟩
  · exact ⟨by simpa using hl, fun r hr => h r (by simpa using hr)⟩
theorem frontOf_len : ∀ (rs : List Nat), (∀ r ∈ rs, r < 5) → (frontOf rs).length ≤ 5 * rs.length
  | [], _ => by simp [frontOf]
  | r :: rs, h => by
    have h1 := h r (by simp)
    have h2 := frontOf_len rs fun x hx => h x (by simp [hx])
    simp [frontOf]; omega
theorem replicate_flat {α : Type} (n : Nat) (d : α) : (List.replicate n [d]).flatten = List.replicate n d := by
  induction n with
  | zero => rfl
  | succ n ih => rw [List.replicate_succ, List.flatten_cons, ih]; rfl
section
variable {c : Cx} (O : c.Ok)
include O
set_option maxHeartbeats 2000000 in
theorem fn_front {x : Nat} {turned : Bool} {more : Nat} (hm : more ≤ 1000) : Fn c 1 (.ref 141) [.int x, .bool turned, .int more] (.lst ((frontL x turned more).map pairD)) := by
  refine Fn.ofC3 O (fd141 _) (x := Str.ofString "x") (y := Str.ofString "turned") (z := Str.ofString "more") fun A hc σ₀ os₀ R => ?_
  refine Ex.cons (Ex.assignN (l := List.range (x % 4)) (φ := fun (i : Nat) => D.int (i : Int)) (fun _ => true) (fun p => .int ((x / (4 * 5 ^ p) % 5 : Nat) : Int)) inj_nat
    (it_upto R.handled (by omega) (Ev.call (Glb.blt O (gb_range _) boot_range) Kept.type (Evs.cons (Ev.bin (Ev.name rfl) Ev.int (op_mod_nat (b := 4) (by decide))) Evs.nil) fn_range1 (R.mono (by decide))))
    (CompC.of1 (d := .int x) rfl) (by rw [List.length_range]; exact Nat.le_trans (Nat.le_of_lt (Nat.mod_lt _ (by decide))) (by decide)) (fun _ _ _ => rfl) ?_ (.inl rfl) ?_)
  · intro p hp _ C
    have hp : p < 4 := Nat.lt_of_lt_of_le (List.mem_range.mp hp) (Nat.le_of_lt (Nat.mod_lt _ (by decide)))
    have h1 : 5 ^ p ≤ 5 ^ 3 := Nat.pow_le_pow_right (by decide) (by omega)
    have h1' : 0 < 5 ^ p := Nat.pow_pos (by decide)
    exact Ev.bin (Ev.bin (Ev.name rfl) (Ev.bin Ev.int (Ev.bin Ev.int (Ev.name rfl) (op_pow_nat (a := 5) (by decide) (by omega))) (op_mul_nat (a := 4) (by decide))) (op_div_nat (by omega) (by omega) rfl)) Ev.int (op_mod_nat (b := 5) (by decide))
  have tail : ∀ (ρ : Sto), ρ (Str.ofString "x") = some (.im (.int x)) → ρ (Str.ofString "more") = some (.im (.int more)) → ρ (Str.ofString "runs") = some (.im (.lst ((runsL x turned).map fun (r : Nat) => .int (r : Int)))) → 
      ∀ st1 st2, (fd141 c.w.params).1.body = .stmts st1 → st2 = st1.drop 2 → Ex c (frm (fd141 c.w.params).1 141 A hc σ₀ os₀) ρ (execs st2 (envF (fd141 c.w.params).1 141 hc.objs.size)) (Ret (.lst ((frontL x turned more).map pairD))) := by
    intro ρ h1 h2 h3 st1 st2 e1 e2
    cases e1
    subst e2
    refine Ex.cons (Ex.assign (Ev.list Evs.nil) (.inl rfl) ?_)
    obtain ⟨r1, r2⟩ := runs_lt (x := x) (turned := turned)
    have hfl := frontOf_len _ r2
    generalize hrs : runsL x turned = rs at h3 r1 r2 hfl
    refine Ex.cons (Ex.for_ (fun i ρ' => ρ' (Str.ofString "x") = some (.im (.int x)) ∧ ρ' (Str.ofString "more") = some (.im (.int more)) ∧ ρ' (Str.ofString "typed") = some (.im (.lst ((frontOf (rs.take i)).map pairD)))) (It.list R.handled (Ev.name h3) (.inl ⟨_, _, rfl⟩)) ⟨h1, h2, rfl⟩ ?_ ?_)
    · intro i d ρi hd ⟨q1, q2, q3⟩
      rw [List.getElem?_map] at hd
      obtain ⟨run, hd', rfl⟩ := Option.map_eq_some_iff.mp hd
      have hrun := r2 run (List.mem_of_getElem? hd')
      have hl1 : (frontOf (rs.take i)).length ≤ 15 := by
        have := frontOf_len (rs.take i) fun r hr => r2 r (List.mem_of_mem_take hr)
        have h' : (rs.take i).length ≤ 3 := by rw [List.length_take]; omega
        omega
      refine ⟨_, Asg.name (.inl rfl), ?_⟩
      have e3 : ∃ n : Nat, [D.int 9, .int 41, .int 73][((run % 3 : Nat) : Int).toNat]? = some (.int n) ∧ n = tabK run := by
        have : run % 3 = 0 ∨ run % 3 = 1 ∨ run % 3 = 2 := by omega
        rcases this with e | e | e <;> exact ⟨_, by rw [e]; rfl, by unfold tabK; rw [e]; rfl⟩
      obtain ⟨n, e3, en⟩ := e3
      refine Ex.cons (Ex.assign (d := .lst ((frontOf (rs.take (i + 1))).map pairD)) (Ev.as (Ev.bin (Ev.bin (Ev.name q3) (Ev.bin (Ev.list (Evs.cons Ev.pairI Evs.nil)) (Ev.name rfl) (op_mul_lst (by omega) (by omega) ?_)) (op_add_lst ?_)) (Ev.list (Evs.cons (Ev.tuple (Evs.cons (Ev.item (d1 := .tup [.int 9, .int 41, .int 73]) (Ev.tuple (Evs.cons Ev.int (Evs.cons Ev.int (Evs.cons Ev.int Evs.nil)))) (Ev.bin (Ev.name rfl) Ev.int (op_mod_nat (b := 3) (by decide))) (it_tup (by omega) e3 (by decide))) (Evs.cons Ev.int Evs.nil))) Evs.nil)) (op_add_lst ?_)) ?_) (.inl rfl) (Ex.nil ⟨q1, q2, rfl⟩))
      · show 1 * ((run : Nat) : Int).toNat ≤ _
        omega
      · rw [replicate_flat]; simp
        have : sizeLine = 2 ^ 24 := rfl
        omega
      · rw [replicate_flat]; simp
        have : sizeLine = 2 ^ 24 := rfl
        omega
      · rw [replicate_flat, List.take_add_one, hd', frontOf_append]
        simp [frontOf, en]
    · intro ρ' ⟨q1, q2, q3⟩
      rw [List.length_map, List.take_length] at q3
      refine Ex.cons (Ex.ret (d := .lst ((frontL x turned more).map pairD)) (Ev.as (Ev.bin (Ev.name q3) (Ev.bin (Ev.list (Evs.cons Ev.pairI Evs.nil)) (Ev.asI (j := ((x / 500 % 6 + more : Nat) : Int)) (Ev.bin (Ev.bin (Ev.bin (Ev.name q1) Ev.int (op_div_nat (b := 500) (by decide) (by decide))) Ev.int (op_mod_nat (b := 6) (by decide))) (Ev.name q2) op_add_int) (by omega)) (op_mul_lst (by omega) (by omega) ?_)) (op_add_lst ?_)) ?_) rfl)
      · show 1 * _ ≤ _
        omega
      · rw [replicate_flat]; simp
        have : sizeLine = 2 ^ 24 := rfl
        omega
      · rw [replicate_flat, frontL, hrs]
        simp
        rfl
  refine Ex.cons (Ex.ifB (Tst.plain (Ev.name rfl)) (fun h => ?_) (fun h => ?_))
  · refine Ex.cons (Ex.assign (Ev.sliceL (Ev.name rfl) Part.none Part.none (Part.some (Ev.neg Ev.int)) (by decide) ?_) (.inl rfl) (Ex.nil (tail _ rfl rfl ?_ _ _ rfl rfl)))
    · rw [filter_true]; simp
      have : sizeLine = 2 ^ 24 := rfl
      omega
    · show some (B.im (.lst _)) = _
      congr 3
      rw [filter_true]
      refine (pickL_rev _).trans ?_
      unfold runsL; rw [h]; simp
  · refine Ex.nil (tail _ rfl rfl ?_ _ _ rfl rfl)
    show some (B.im (.lst _)) = _
    congr 3
    rw [filter_true]
    unfold runsL; rw [h]; simp
end

/-! text LP -/
/-! data that can be compared -/
theorem toPys_map (ds : List D) : D.toPys ds = ds.map D.toPy := by
  induction ds with
  | nil => rfl
  | cons d r ih => rw [D.toPys, ih]; rfl
structure Good (k : Nat) (d : D) : Prop where
  pl : d.plain = true
  cl : d.toPy.canLay0 = true
  dp : d.toPy.depth ≤ k
theorem Good.int {k : Nat} (i : Int) : Good k (.int i) := ⟨rfl, rfl, Nat.zero_le _⟩
theorem Good.bool {k : Nat} (b : Bool) : Good k (.bool b) := ⟨rfl, rfl, Nat.zero_le _⟩
theorem Good.str {k : Nat} {x : Str} (h : PyData.strOk x = true) : Good k (.str x) := ⟨rfl, by simp only [D.toPy, PyData.canLay0]; exact h, by simp only [D.toPy, PyData.depth]; exact Nat.zero_le _⟩
theorem goods {k : Nat} : ∀ {ds : List D}, (∀ d ∈ ds, Good k d) → D.plains ds = true ∧ PyData.canLayAll0 (D.toPys ds) = true ∧ PyData.depthAll (D.toPys ds) ≤ k
  | [], _ => ⟨rfl, rfl, Nat.zero_le _⟩
  | d :: r, h => by
    obtain ⟨a, b, c⟩ := goods (ds := r) fun x hx => h x (List.mem_cons_of_mem _ hx)
    obtain ⟨a', b', c'⟩ := h d List.mem_cons_self
    refine ⟨by simp [D.plains, a, a'], by simp [D.toPys, PyData.canLayAll0, b, b'], ?_⟩
    simp only [D.toPys, PyData.depthAll]; omega
theorem Good.tup {k : Nat} {ds : List D} (h : ∀ d ∈ ds, Good k d) : Good (k + 1) (.tup ds) :=
  let ⟨a, b, c⟩ := goods h; ⟨by simpa [D.plain] using a, by simpa [D.toPy, PyData.canLay0] using b, by simp only [D.toPy, PyData.depth]; omega⟩
theorem Good.lst {k : Nat} {ds : List D} (h : ∀ d ∈ ds, Good k d) : Good (k + 1) (.lst ds) :=
  let ⟨a, b, c⟩ := goods h; ⟨by simpa [D.plain] using a, by simpa [D.toPy, PyData.canLay0] using b, by simp only [D.toPy, PyData.depth]; omega⟩
theorem Good.shaped {k : Nat} {d : D} (h : Good k d) (hk : k ≤ 64 := by decide) : SeqAt.shaped d.toPy = true := by
  unfold SeqAt.shaped; rw [h.cl]; simpa using Nat.le_trans h.dp hk
mutual
theorem eqv_refl : ∀ (d : D), d.plain = true → PyData.eqv d.toPy d.toPy = true
  | .none, _ => by simp [D.toPy, PyData.eqv]
  | .bool _, _ => by simp [D.toPy, PyData.eqv]
  | .int _, _ => by simp [D.toPy, PyData.eqv]
  | .str _, _ => by simp [D.toPy, PyData.eqv]
  | .tup ds, h => by simp only [D.toPy, PyData.eqv]; exact eqvs_refl ds (by simpa [D.plain] using h)
  | .lst ds, h => by simp only [D.toPy, PyData.eqv]; exact eqvs_refl ds (by simpa [D.plain] using h)
  | .rng _ _, h => by simp [D.plain] at h
  | .typ _, h => by simp [D.plain] at h
  | .gen _, h => by simp [D.plain] at h
  | .ws .., h => by simp [D.plain] at h
  | .self .., h => by simp [D.plain] at h
theorem eqvs_refl : ∀ (ds : List D), D.plains ds = true → PyData.eqvAll (D.toPys ds) (D.toPys ds) = true
  | [], _ => by simp [D.toPys, PyData.eqvAll]
  | d :: r, h => by
    simp only [D.plains, Bool.and_eq_true] at h
    simp only [D.toPys, PyData.eqvAll, Bool.and_eq_true]
    exact ⟨eqv_refl d h.1, eqvs_refl r h.2⟩
end
section
variable {c : Cx} {A : Around}
theorem units_ok {A : Around} {n : Nat} (R : Room A n) : A.units + 64 < cLine := by have h1 := R.units; have h2 : cLine = 9900 := rfl; omega
theorem op_eqG {k j n : Nat} {d1 d2 : D} (R : Room A n) (h1 : Good k d1) (h2 : Good j d2) (hk : k ≤ 64 := by decide) (hj : j ≤ 64 := by decide) : Op2 c A (compareOp .Eq) d1 d2 (.bool (PyData.eqv d1.toPy d2.toPy)) :=
  op_eq (units_ok R) h1.pl h2.pl (h1.shaped hk) (h2.shaped hj)
/-- data that are the same are not unequal -/
theorem op_neS {k n : Nat} {d1 d2 : D} (R : Room A n) (h1 : Good k d1) (e : d1 = d2) (hk : k ≤ 64 := by decide) : Op2 c A (compareOp .NotEq) d1 d2 (.bool false) := by
  subst e
  have := op_ne (c := c) (units_ok R) h1.pl h1.pl (h1.shaped hk) (h1.shaped hk)
  rwa [eqv_refl _ h1.pl] at this
theorem op_ne_nat {a b : Nat} : Op2 c A (compareOp .NotEq) (.int a) (.int b) (.bool (decide (a ≠ b))) := by
  have : decide (a ≠ b) = ((a : Int) != (b : Int)) := by
    by_cases q : a = b
    · simp [q]
    · have : ¬ (a : Int) = b := by omega
      simp [q, this]
  rw [this]; exact op_ne_int
theorem op_ge_nat {a b : Nat} : Op2 c A (compareOp .GtE) (.int a) (.int b) (.bool (decide (b ≤ a))) := by
  have : decide (b ≤ a) = decide ((b : Int) ≤ (a : Int)) := by simp
  rw [this]; exact op_ge_int
theorem op_le_nat {a b : Nat} : Op2 c A (compareOp .LtE) (.int a) (.int b) (.bool (decide (a ≤ b))) := by
  have : decide (a ≤ b) = decide ((a : Int) ≤ (b : Int)) := by simp
  rw [this]; exact op_le_int
theorem fn_max2N {a b : Int} {n : Nat} (h : max a b = (n : Int)) : Fn c 0 (.builtin "max") [.int a, .int b] (.int n) := by rw [← h]; exact fn_max2
/-- range(a, a + n) in a for -/
theorem it_from {env : Env} {ρ : Sto} {e : Expr} {y : Str} {py : Pos} {a n : Nat} {b : Int} (hh : A.handled = none) (ha : a ≤ 2 ^ 20) (hn : n ≤ 2 ^ 20) (h : Ev c A env ρ (eval e env) (.rng a b)) (hb : n = (b - a).toNat) (hb' : -1 ≤ b) : It c A env ρ e (.Name y py) ((List.range n).map fun (i : Nat) => D.int ((a + i : Nat) : Int)) := by
  have := It.range (x := y) (px := py) hh h (small0 (by omega) (by omega) (by omega) (by omega))
  rw [← hb] at this
  unfold intsD at this
  have e2 : (List.range n).map (fun (i : Nat) => D.int ((a : Int) + (i : Int))) = (List.range n).map fun (i : Nat) => D.int ((a + i : Nat) : Int) := by
    congr 1
  rw [e2] at this
  exact this
end

/-! the methods of Whitespace -/
abbrev wsN (raw : Str) (n nt : Nat) (cnt : List Nat) (b : Nat) (sm : Bool) : D := .ws raw n nt (cnt.map fun (k : Nat) => (k : Int)) b sm
def longN (cnt : List Nat) (b : Nat) : Nat := max (cnt.length - 1) b
def ilN (cnt : List Nat) (ts i : Nat) : Nat := ((List.range i).map fun j => (ts + j) / ts * cnt.getD (ts + j) 0).sum
def levelN (cnt : List Nat) (b nt ts : Nat) : Nat := b + ts * (ilN cnt ts (cnt.length - ts) + nt)
theorem ilN_succ (cnt : List Nat) (ts i : Nat) : ilN cnt ts (i + 1) = ilN cnt ts i + (ts + i) / ts * cnt.getD (ts + i) 0 := by
  unfold ilN; rw [List.range_succ]; simp
section
variable {c : Cx} (O : c.Ok)
include O
variable {raw raw2 : Str} {n n2 nt nt2 : Nat} {cnt cnt2 : List Nat} {b b2 : Nat} {sm sm2 : Bool}
theorem m_longest (hc : cnt.length ≤ 1000) : Fn c 1 (.ref 38) [wsN raw n nt cnt b sm] (.int (longN cnt b)) := by
  refine Fn.of1 O (fd38 _) (x := Str.ofString "self") fun A hc' σ₀ os₀ R => ?_
  refine Ex.cons (Ex.assignT (Ev.a_norm O (Ev.name rfl)) (Asg.tup2 R.handled (.inl rfl) (.inl rfl)) ?_)
  refine Ex.cons (Ex.ret (Ev.call (Glb.blt O (gb_max _) boot_max) Kept.builtin (Evs.cons (Ev.bin (Ev.call (Glb.blt O (gb_len _) boot_len) Kept.builtin (Evs.cons (Ev.name rfl) Evs.nil) (fn_len_tup (by simp; omega)) (R.mono (by decide))) Ev.int op_sub_int) (Evs.cons (Ev.name rfl) Evs.nil)) (fn_max2N (n := longN cnt b) ?_) (R.mono (by decide))) rfl)
  simp only [List.length_map]; unfold longN; omega
set_option maxHeartbeats 1000000 in
theorem m_level {ts : Nat} (hts : 0 < ts) (hts' : ts ≤ 1000) (hc : cnt.length ≤ 1000) : Fn c 1 (.ref 45) [wsN raw n nt cnt b sm, .int ts] (.int (levelN cnt b nt ts)) := by
  refine Fn.of2 O (fd45 _) (x := Str.ofString "self") (y := Str.ofString "tabsize") fun A hc' σ₀ os₀ R => ?_
  refine Ex.cons (Ex.assignT (Ev.a_norm O (Ev.name rfl)) (Asg.tup2 R.handled (.inl rfl) (.inl rfl)) ?_)
  refine Ex.cons (Ex.assign Ev.int (.inl rfl) ?_)
  refine Ex.cons (Ex.for_ (items := (List.range (cnt.length - ts)).map fun (i : Nat) => D.int ((ts + i : Nat) : Int)) (fun i ρ => ρ (Str.ofString "self") = some (.im (wsN raw n nt cnt b sm)) ∧ ρ (Str.ofString "tabsize") = some (.im (.int ts)) ∧ ρ (Str.ofString "count") = some (.im (.tup ((cnt.map fun (k : Nat) => (k : Int)).map .int))) ∧ ρ (Str.ofString "trailing") = some (.im (.int b)) ∧ ρ (Str.ofString "il") = some (.im (.int (ilN cnt ts i))))
    (it_from R.handled (by omega) (by omega) (Ev.call (Glb.blt O (gb_range _) boot_range) Kept.type (Evs.cons (Ev.name rfl) (Evs.cons (Ev.call (Glb.blt O (gb_len _) boot_len) Kept.builtin (Evs.cons (Ev.name rfl) Evs.nil) (fn_len_tup (by simp; omega)) (R.mono (by decide))) Evs.nil)) fn_range2 (R.mono (by decide))) (by simp) (by simp)) ⟨rfl, rfl, rfl, rfl, rfl⟩ ?_ ?_)
  · intro i d ρi hd ⟨h1, h2, h3, h4, h5⟩
    rw [List.getElem?_map] at hd
    obtain ⟨j, hj, rfl⟩ := Option.map_eq_some_iff.mp hd
    obtain ⟨hi, rfl⟩ : i < cnt.length - ts ∧ i = j := by
      have := List.getElem?_eq_some_iff.mp hj
      obtain ⟨q, e⟩ := this
      simp at q e; exact ⟨q, e⟩
    refine ⟨_, Asg.name (.inl rfl), ?_⟩
    have hget : ((cnt.map fun (k : Nat) => (k : Int)).map D.int)[((ts + i : Nat) : Int).toNat]? = some (.int ((cnt.getD (ts + i) 0 : Nat) : Int)) := by
      have : ts + i < cnt.length := by omega
      rw [show ((ts + i : Nat) : Int).toNat = ts + i from rfl]
      simp [this]
    have hq : (ts + i) / ts < 2 ^ 64 := Nat.lt_of_le_of_lt (Nat.div_le_self _ _) (by omega)
    refine Ex.cons (Ex.assign (Ev.asI (Ev.bin (Ev.name h5) (Ev.bin (Ev.bin (Ev.name rfl) (Ev.name h2) (op_div_nat (b := ts) (by omega) (by omega) rfl)) (Ev.item (Ev.name h3) (Ev.name rfl) (it_tup (by omega) hget (by simp; omega))) (op_mul_nat (a := (ts + i) / ts) hq rfl)) op_add_int) (j := (ilN cnt ts (i + 1) : Nat)) (by rw [ilN_succ]; simp)) (.inl rfl) (Ex.nil ⟨h1, h2, h3, h4, rfl⟩))
  · intro ρ' ⟨h1, h2, h3, h4, h5⟩
    refine Ex.cons (Ex.ret (Ev.asI (Ev.bin (Ev.name h4) (Ev.bin (Ev.name h2) (Ev.asI (Ev.bin (Ev.name h5) (Ev.a_nt O (Ev.name h1)) op_add_int) (j := (ilN cnt ts (cnt.length - ts) + nt : Nat)) (by simp)) (op_mul_nat (a := ts) (by omega) rfl)) op_add_int) (j := (levelN cnt b nt ts : Nat)) (by unfold levelN; simp)) rfl)
omit O in
theorem eqv_ints : ∀ (a b : List Nat), PyData.eqvAll (D.toPys ((a.map fun (k : Nat) => (k : Int)).map .int)) (D.toPys ((b.map fun (k : Nat) => (k : Int)).map .int)) = decide (a = b)
  | [], [] => by simp [D.toPys, PyData.eqvAll]
  | [], _ :: _ => by simp [D.toPys, PyData.eqvAll]
  | _ :: _, [] => by simp [D.toPys, PyData.eqvAll]
  | x :: r, y :: t => by
    simp only [List.map_cons, D.toPys, PyData.eqvAll, D.toPy, PyData.eqv, eqv_ints r t]
    rw [Bool.eq_iff_iff]; simp; omega
omit O in
theorem good_ints {k : Nat} (l : List Int) : ∀ d ∈ l.map D.int, Good k d := by
  intro d hd; obtain ⟨i, _, rfl⟩ := List.mem_map.mp hd; exact .int i
omit O in
theorem good_norm {k : Nat} (cnt : List Int) (b : Int) : Good (k + 2) (.tup [.tup (cnt.map .int), .int b]) := by
  refine .tup fun d hd => ?_
  simp only [List.mem_cons, List.not_mem_nil, or_false] at hd
  rcases hd with rfl | rfl
  · exact .tup (good_ints _)
  · exact .int _
theorem m_equal_ : Fn c 1 (.ref 52) [wsN raw n nt cnt b sm, wsN raw2 n2 nt2 cnt2 b2 sm2] (.bool (decide (cnt = cnt2 ∧ b = b2))) := by
  refine Fn.of2 O (fd52 _) (x := Str.ofString "self") (y := Str.ofString "other") fun A hc' σ₀ os₀ R => ?_
  refine Ex.cons (Ex.ret (Ev.as (Ev.cmp (Ev.a_norm O (Ev.name rfl)) (Ev.a_norm O (Ev.name rfl)) (op_eqG (k := 2) (j := 2) R (good_norm _ _) (good_norm _ _))) ?_) rfl)
  congr 1
  simp only [D.toPy, D.toPys, PyData.eqv, PyData.eqvAll, eqv_ints]
  rw [Bool.eq_iff_iff]; simp; intro _; omega

def wits (q : Nat → Nat → Bool) (l1 l2 : Nat → Nat) (i : Nat) : List D := (((List.range i).map (1 + ·)).filter fun ts => q (l1 ts) (l2 ts)).map fun (ts : Nat) => .tup [.int (ts : Int), .int (l1 ts : Int), .int (l2 ts : Int)]
omit O in
theorem wits_succ (q : Nat → Nat → Bool) (l1 l2 : Nat → Nat) (i : Nat) : wits q l1 l2 (i + 1) = if q (l1 (1 + i)) (l2 (1 + i)) = true then wits q l1 l2 i ++ [.tup [.int ((1 + i : Nat) : Int), .int (l1 (1 + i)), .int (l2 (1 + i))]] else wits q l1 l2 i := by
  unfold wits
  rw [List.range_succ, List.map_append, List.filter_append, List.map_append]
  simp only [List.map_cons, List.map_nil, List.filter_cons, List.filter_nil]
  split <;> simp
omit O in
theorem wits_len (q : Nat → Nat → Bool) (l1 l2 : Nat → Nat) (i : Nat) : (wits q l1 l2 i).length ≤ i := by
  unfold wits
  rw [List.length_map]
  exact Nat.le_trans (List.length_filter_le _ _) (by simp)
def sizesN (cnt : List Nat) (b : Nat) (cnt2 : List Nat) (b2 : Nat) : Nat := max (longN cnt b) (longN cnt2 b2) + 1
set_option maxHeartbeats 2000000 in
theorem m_newit (hb : b ≤ 900) (hb2 : b2 ≤ 900) (hc : cnt.length ≤ 900) (hc2 : cnt2.length ≤ 900) : Fn c 2 (.ref 59) [wsN raw n nt cnt b sm, wsN raw2 n2 nt2 cnt2 b2 sm2] (.lst (wits (fun a b => decide (a ≠ b)) (levelN cnt b nt) (levelN cnt2 b2 nt2) (sizesN cnt b cnt2 b2))) := by
  refine Fn.of2 O (fd59 _) (x := Str.ofString "self") (y := Str.ofString "other") fun A hc' σ₀ os₀ R => ?_
  have hN : sizesN cnt b cnt2 b2 ≤ 999 := by unfold sizesN longN; omega
  refine Ex.cons (Ex.assign (Ev.asI (Ev.bin (Ev.call (Glb.blt O (gb_max _) boot_max) Kept.builtin (Evs.cons (Ev.methW O (Ev.name rfl) Evs.nil (m_longest O (by omega)) (R.mono (by decide)) (m_longest_run_of_spaces _) (mf_longest_run_of_spaces _) (mk_longest_run_of_spaces _) (hn := fun _ => rfl)) (Evs.cons (Ev.methW O (Ev.name rfl) Evs.nil (m_longest O (by omega)) (R.mono (by decide)) (m_longest_run_of_spaces _) (mf_longest_run_of_spaces _) (mk_longest_run_of_spaces _) (hn := fun _ => rfl)) Evs.nil)) fn_max2 (R.mono (by decide))) Ev.int op_add_int) (j := (sizesN cnt b cnt2 b2 : Nat)) (by unfold sizesN; omega)) (.inl rfl) ?_)
  refine Ex.cons (Ex.assignOwn (EvF.list Evs.nil) (.inl rfl) ?_)
  refine Ex.cons (Ex.for_ (items := (List.range (sizesN cnt b cnt2 b2)).map fun (i : Nat) => D.int ((1 + i : Nat) : Int)) (fun i ρ => ρ (Str.ofString "self") = some (.im (wsN raw n nt cnt b sm)) ∧ ρ (Str.ofString "other") = some (.im (wsN raw2 n2 nt2 cnt2 b2 sm2)) ∧ ρ (Str.ofString "a") = some (.ow (wits (fun a b => decide (a ≠ b)) (levelN cnt b nt) (levelN cnt2 b2 nt2) i)))
    (it_from (a := 1) (b := (sizesN cnt b cnt2 b2 : Nat) + 1) R.handled (by omega) (by omega) (Ev.call (Glb.blt O (gb_range _) boot_range) Kept.type (Evs.cons Ev.int (Evs.cons (Ev.bin (Ev.name rfl) Ev.int op_add_int) Evs.nil)) fn_range2 (R.mono (by decide))) (by omega) (by omega)) ⟨rfl, rfl, rfl⟩ ?_ ?_)
  · intro i d ρi hd ⟨h1, h2, h3⟩
    rw [List.getElem?_map] at hd
    obtain ⟨j, hj, rfl⟩ := Option.map_eq_some_iff.mp hd
    obtain ⟨hi, rfl⟩ : i < sizesN cnt b cnt2 b2 ∧ i = j := by
      obtain ⟨q, e⟩ := List.getElem?_eq_some_iff.mp hj
      simp at q e; exact ⟨q, e⟩
    refine ⟨_, Asg.name (.inl rfl), ?_⟩
    have L1 := m_level (c := c) O (raw := raw) (n := n) (nt := nt) (cnt := cnt) (b := b) (sm := sm) (ts := 1 + i) (by omega) (by omega) (by omega)
    have L2 := m_level (c := c) O (raw := raw2) (n := n2) (nt := nt2) (cnt := cnt2) (b := b2) (sm := sm2) (ts := 1 + i) (by omega) (by omega) (by omega)
    rw [wits_succ]
    refine Ex.cons (Ex.ifB (Tst.cmp (Ev.methW O (Ev.name h1) (Evs.cons (Ev.name rfl) Evs.nil) L1 (R.mono (by decide)) (m_indent_level _) (mf_indent_level _) (mk_indent_level _)) (Ev.methW O (Ev.name h2) (Evs.cons (Ev.name rfl) Evs.nil) L2 (R.mono (by decide)) (m_indent_level _) (mf_indent_level _) (mk_indent_level _)) op_ne_nat) (fun q => ?_) (fun q => ?_))
    · rw [if_pos q]
      refine Ex.cons (Ex.append h3 (Ev.tuple (Evs.cons (Ev.name rfl) (Evs.cons (Ev.methW O (Ev.name h1) (Evs.cons (Ev.name rfl) Evs.nil) L1 (R.mono (by decide)) (m_indent_level _) (mf_indent_level _) (mk_indent_level _)) (Evs.cons (Ev.methW O (Ev.name h2) (Evs.cons (Ev.name rfl) Evs.nil) L2 (R.mono (by decide)) (m_indent_level _) (mf_indent_level _) (mk_indent_level _)) Evs.nil)))) (Ex.nil (Ex.nil ⟨h1, h2, rfl⟩)) ?_)
      refine Nat.le_trans (wits_len _ _ _ _) ?_
      have : sizeLine = 2 ^ 24 := rfl
      omega
    · rw [if_neg (by rw [q]; decide)]
      exact Ex.nil (Ex.nil ⟨h1, h2, h3⟩)
  · intro ρ' ⟨h1, h2, h3⟩
    rw [List.length_map, List.length_range] at h3
    exact Ex.freeze h3 (Ex.cons (Ex.ret (Ev.name rfl) rfl))
set_option maxHeartbeats 2000000 in
theorem m_nlwit (hb : b ≤ 900) (hb2 : b2 ≤ 900) (hc : cnt.length ≤ 900) (hc2 : cnt2.length ≤ 900) : Fn c 2 (.ref 73) [wsN raw n nt cnt b sm, wsN raw2 n2 nt2 cnt2 b2 sm2] (.lst (wits (fun a b => decide (b ≤ a)) (levelN cnt b nt) (levelN cnt2 b2 nt2) (sizesN cnt b cnt2 b2))) := by
  refine Fn.of2 O (fd73 _) (x := Str.ofString "self") (y := Str.ofString "other") fun A hc' σ₀ os₀ R => ?_
  have hN : sizesN cnt b cnt2 b2 ≤ 999 := by unfold sizesN longN; omega
  refine Ex.cons (Ex.assign (Ev.asI (Ev.bin (Ev.call (Glb.blt O (gb_max _) boot_max) Kept.builtin (Evs.cons (Ev.methW O (Ev.name rfl) Evs.nil (m_longest O (by omega)) (R.mono (by decide)) (m_longest_run_of_spaces _) (mf_longest_run_of_spaces _) (mk_longest_run_of_spaces _) (hn := fun _ => rfl)) (Evs.cons (Ev.methW O (Ev.name rfl) Evs.nil (m_longest O (by omega)) (R.mono (by decide)) (m_longest_run_of_spaces _) (mf_longest_run_of_spaces _) (mk_longest_run_of_spaces _) (hn := fun _ => rfl)) Evs.nil)) fn_max2 (R.mono (by decide))) Ev.int op_add_int) (j := (sizesN cnt b cnt2 b2 : Nat)) (by unfold sizesN; omega)) (.inl rfl) ?_)
  refine Ex.cons (Ex.assignOwn (EvF.list Evs.nil) (.inl rfl) ?_)
  refine Ex.cons (Ex.for_ (items := (List.range (sizesN cnt b cnt2 b2)).map fun (i : Nat) => D.int ((1 + i : Nat) : Int)) (fun i ρ => ρ (Str.ofString "self") = some (.im (wsN raw n nt cnt b sm)) ∧ ρ (Str.ofString "other") = some (.im (wsN raw2 n2 nt2 cnt2 b2 sm2)) ∧ ρ (Str.ofString "a") = some (.ow (wits (fun a b => decide (b ≤ a)) (levelN cnt b nt) (levelN cnt2 b2 nt2) i)))
    (it_from (a := 1) (b := (sizesN cnt b cnt2 b2 : Nat) + 1) R.handled (by omega) (by omega) (Ev.call (Glb.blt O (gb_range _) boot_range) Kept.type (Evs.cons Ev.int (Evs.cons (Ev.bin (Ev.name rfl) Ev.int op_add_int) Evs.nil)) fn_range2 (R.mono (by decide))) (by omega) (by omega)) ⟨rfl, rfl, rfl⟩ ?_ ?_)
  · intro i d ρi hd ⟨h1, h2, h3⟩
    rw [List.getElem?_map] at hd
    obtain ⟨j, hj, rfl⟩ := Option.map_eq_some_iff.mp hd
    obtain ⟨hi, rfl⟩ : i < sizesN cnt b cnt2 b2 ∧ i = j := by
      obtain ⟨q, e⟩ := List.getElem?_eq_some_iff.mp hj
      simp at q e; exact ⟨q, e⟩
    refine ⟨_, Asg.name (.inl rfl), ?_⟩
    have L1 := m_level (c := c) O (raw := raw) (n := n) (nt := nt) (cnt := cnt) (b := b) (sm := sm) (ts := 1 + i) (by omega) (by omega) (by omega)
    have L2 := m_level (c := c) O (raw := raw2) (n := n2) (nt := nt2) (cnt := cnt2) (b := b2) (sm := sm2) (ts := 1 + i) (by omega) (by omega) (by omega)
    rw [wits_succ]
    refine Ex.cons (Ex.ifB (Tst.cmp (Ev.methW O (Ev.name h1) (Evs.cons (Ev.name rfl) Evs.nil) L1 (R.mono (by decide)) (m_indent_level _) (mf_indent_level _) (mk_indent_level _)) (Ev.methW O (Ev.name h2) (Evs.cons (Ev.name rfl) Evs.nil) L2 (R.mono (by decide)) (m_indent_level _) (mf_indent_level _) (mk_indent_level _)) op_ge_nat) (fun q => ?_) (fun q => ?_))
    · rw [if_pos q]
      refine Ex.cons (Ex.append h3 (Ev.tuple (Evs.cons (Ev.name rfl) (Evs.cons (Ev.methW O (Ev.name h1) (Evs.cons (Ev.name rfl) Evs.nil) L1 (R.mono (by decide)) (m_indent_level _) (mf_indent_level _) (mk_indent_level _)) (Evs.cons (Ev.methW O (Ev.name h2) (Evs.cons (Ev.name rfl) Evs.nil) L2 (R.mono (by decide)) (m_indent_level _) (mf_indent_level _) (mk_indent_level _)) Evs.nil)))) (Ex.nil (Ex.nil ⟨h1, h2, rfl⟩)) ?_)
      refine Nat.le_trans (wits_len _ _ _ _) ?_
      have : sizeLine = 2 ^ 24 := rfl
      omega
    · rw [if_neg (by rw [q]; decide)]
      exact Ex.nil (Ex.nil ⟨h1, h2, h3⟩)
  · intro ρ' ⟨h1, h2, h3⟩
    rw [List.length_map, List.length_range] at h3
    exact Ex.freeze h3 (Ex.cons (Ex.ret (Ev.name rfl) rfl))

def lessB (n nt : Nat) (cnt : List Nat) (b : Nat) (sm : Bool) (n2 nt2 : Nat) (cnt2 : List Nat) (b2 : Nat) (sm2 : Bool) : Bool :=
  if n2 ≤ n then false else if (sm && sm2) = true then decide (nt ≤ nt2) else (List.range (sizesN cnt b cnt2 b2 - 1)).all fun j => decide (¬ levelN cnt2 b2 nt2 (2 + j) ≤ levelN cnt b nt (2 + j))
set_option maxHeartbeats 2000000 in
theorem m_less_ (hb : b ≤ 900) (hb2 : b2 ≤ 900) (hc : cnt.length ≤ 900) (hc2 : cnt2.length ≤ 900) : Fn c 2 (.ref 66) [wsN raw n nt cnt b sm, wsN raw2 n2 nt2 cnt2 b2 sm2] (.bool (lessB n nt cnt b sm n2 nt2 cnt2 b2 sm2)) := by
  refine Fn.of2 O (fd66 _) (x := Str.ofString "self") (y := Str.ofString "other") fun A hc' σ₀ os₀ R => ?_
  have hN : sizesN cnt b cnt2 b2 ≤ 999 := by unfold sizesN longN; omega
  have hN1 : 1 ≤ sizesN cnt b cnt2 b2 := by unfold sizesN; omega
  refine Ex.cons (Ex.ifB (Tst.cmp (Ev.a_n O (Ev.name rfl)) (Ev.a_n O (Ev.name rfl)) op_ge_nat) (fun q => ?_) (fun q => ?_))
  · refine Ex.cons (Ex.ret Ev.bool ?_)
    show Fl.ret _ = Fl.ret _
    unfold lessB; rw [if_pos (by simpa using q)]
  have q' : ¬ n2 ≤ n := by simpa using q
  refine Ex.nil (Ex.cons (Ex.ifB (Tst.and2 (Tst.plain (Ev.a_simple O (Ev.name rfl))) (fun _ => (Tst.plain (Ev.a_simple O (Ev.name rfl))))) (fun r => ?_) (fun r => ?_)))
  · refine Ex.cons (Ex.ret (Ev.cmp (Ev.a_nt O (Ev.name rfl)) (Ev.a_nt O (Ev.name rfl)) op_le_nat) ?_)
    show Fl.ret _ = Fl.ret _
    unfold lessB; rw [if_neg q', if_pos r]
  have r' : ¬ (sm && sm2) = true := by rw [r]; decide
  refine Ex.nil (Ex.cons (Ex.assign (Ev.asI (Ev.bin (Ev.call (Glb.blt O (gb_max _) boot_max) Kept.builtin (Evs.cons (Ev.methW O (Ev.name rfl) Evs.nil (m_longest O (by omega)) (R.mono (by decide)) (m_longest_run_of_spaces _) (mf_longest_run_of_spaces _) (mk_longest_run_of_spaces _) (hn := fun _ => rfl)) (Evs.cons (Ev.methW O (Ev.name rfl) Evs.nil (m_longest O (by omega)) (R.mono (by decide)) (m_longest_run_of_spaces _) (mf_longest_run_of_spaces _) (mk_longest_run_of_spaces _) (hn := fun _ => rfl)) Evs.nil)) fn_max2 (R.mono (by decide))) Ev.int op_add_int) (j := (sizesN cnt b cnt2 b2 : Nat)) (by unfold sizesN; omega)) (.inl rfl) ?_))
  refine Ex.cons (Ex.for_ (items := (List.range (sizesN cnt b cnt2 b2 - 1)).map fun (i : Nat) => D.int ((2 + i : Nat) : Int)) (fun i ρ => ρ (Str.ofString "self") = some (.im (wsN raw n nt cnt b sm)) ∧ ρ (Str.ofString "other") = some (.im (wsN raw2 n2 nt2 cnt2 b2 sm2)) ∧ ∀ j < i, ¬ levelN cnt2 b2 nt2 (2 + j) ≤ levelN cnt b nt (2 + j))
    (it_from (a := 2) (b := (sizesN cnt b cnt2 b2 : Nat) + 1) R.handled (by omega) (by omega) (Ev.call (Glb.blt O (gb_range _) boot_range) Kept.type (Evs.cons Ev.int (Evs.cons (Ev.bin (Ev.name rfl) Ev.int op_add_int) Evs.nil)) fn_range2 (R.mono (by decide))) (by omega) (by omega)) ⟨rfl, rfl, fun _ h => nomatch h⟩ ?_ ?_)
  · intro i d ρi hd ⟨h1, h2, h3⟩
    rw [List.getElem?_map] at hd
    obtain ⟨j, hj, rfl⟩ := Option.map_eq_some_iff.mp hd
    obtain ⟨hi, rfl⟩ : i < sizesN cnt b cnt2 b2 - 1 ∧ i = j := by
      obtain ⟨q, e⟩ := List.getElem?_eq_some_iff.mp hj
      simp at q e; exact ⟨q, e⟩
    refine ⟨_, Asg.name (.inl rfl), ?_⟩
    have L1 := m_level (c := c) O (raw := raw) (n := n) (nt := nt) (cnt := cnt) (b := b) (sm := sm) (ts := 2 + i) (by omega) (by omega) (by omega)
    have L2 := m_level (c := c) O (raw := raw2) (n := n2) (nt := nt2) (cnt := cnt2) (b := b2) (sm := sm2) (ts := 2 + i) (by omega) (by omega) (by omega)
    refine Ex.cons (Ex.ifB (Tst.cmp (Ev.methW O (Ev.name h1) (Evs.cons (Ev.name rfl) Evs.nil) L1 (R.mono (by decide)) (m_indent_level _) (mf_indent_level _) (mk_indent_level _)) (Ev.methW O (Ev.name h2) (Evs.cons (Ev.name rfl) Evs.nil) L2 (R.mono (by decide)) (m_indent_level _) (mf_indent_level _) (mk_indent_level _)) op_ge_nat) (fun w => ?_) (fun w => ?_))
    · refine Ex.cons (Ex.ret Ev.bool ?_)
      show Fl.ret _ = Fl.ret _
      unfold lessB; rw [if_neg q', if_neg r']
      congr 2
      symm
      rw [List.all_eq_false]
      exact ⟨i, List.mem_range.mpr hi, by simpa using w⟩
    · refine Ex.nil (Ex.nil ⟨h1, h2, fun j hj' => ?_⟩)
      by_cases e : j < i
      · exact h3 j e
      · have : j = i := by omega
        subst this; simpa using w
  · intro ρ' ⟨h1, h2, h3⟩
    rw [List.length_map, List.length_range] at h3
    refine Ex.cons (Ex.ret Ev.bool ?_)
    show Fl.ret _ = Fl.ret _
    unfold lessB; rw [if_neg q', if_neg r']
    congr 2
    symm
    rw [List.all_eq_true]
    intro j hj
    simpa using h3 j (List.mem_range.mp hj)
end

/-! text LQ -/
/-! an item of an owned list is stored -/
section
variable {prog : Program} {w : World} {A : Around} {E : Value → Shared → Prop} {s : Shared}
theorem set_at {l : Addr} {vs : List Value} {n j : Nat} {k : Int} {t : Tok} {v : Value} {Q : Unit → Shared → Prop} (ho : s.heap.get? l = some (lstO vs n)) (hj : j < vs.length) (hk : (k = (j : Int) ∧ j < 2 ^ 62) ∨ (k = -1 ∧ j + 1 = vs.length))
    (hQ : ∀ h' n', h'.get? l = some (lstO (vs.set j v) n') → Heap.SameBut l s.heap h' → Q () { s with heap := h' }) :
    wpAny (model prog w) A (setItem (.ref l) (.int k t) v) Q E s := by
  have hl : s.heap.IsList l vs.toArray := ⟨_, ho, rfl, n, rfl⟩
  have hx : vs.toArray[j]? = some vs[j] := by simp [hj]
  unfold setItem
  try with_reducible refine wpAny_holding ?_
  first | refine wpAny_bind (wpAny_pure ?_) | skip
  refine wpAny_bind (wpAny_sequenceKey hl.typeIs (by decide) ?_)
  refine wpAny_bind (wpAny_callSpecial?_slot (name := Str.ofString "__setitem__") hl.typeIs slot_list_setitem
    (wpAny_call_entry slot_list_setitem hl.typeIs entry_list_setitem ?_ (args_list_setitem _ _ _)))
  show wpAny _ _ (Builtin.List.listSubscript? (.int k t) >>= _) _ _ s
  obtain ⟨n', hd'⟩ : ∃ n', Obj.mapSeq (·.setIfInBounds j v) (lstO vs n) = lstO (vs.set j v) n' := by
    refine ⟨_, (congrArg (fun xs => ({ cls := .type "list", data := .seq xs _ } : Obj)) ?_ : _)⟩
    simp
  have fin : Q () { s with heap := s.heap.update l (Obj.mapSeq (·.setIfInBounds j v)) } := by
    refine hQ _ n' ?_ (Heap.SameBut.update ..)
    have := Heap.get?_update_self (Obj.mapSeq (·.setIfInBounds j v)) ho (by rw [hd']; rfl)
    rw [hd'] at this
    exact this
  have hfit : Builtin.List.listFitsIndex k = true := by
    rcases hk with ⟨rfl, hj2⟩ | ⟨rfl, hj2⟩
    · exact fitsIndex_of (Int.natCast_nonneg j) (Int.lt_of_lt_of_le (Int.ofNat_lt.mpr hj2) (by decide))
    · exact fitsIndex_neg (by decide) (by decide)
  refine wpAny_bind (wpAny_listSubscript_int hfit ?_)
  clear hfit
  have hk' : k = (j : Int) ∨ (k = -1 ∧ j + 1 = vs.length) := hk.imp (·.1) id
  clear hk
  rcases hk' with rfl | ⟨rfl, hj2⟩
  · skip
    show wpAny _ _ ((seqItemAt l j >>= fun r => pure (r.map (j, ·))) >>= _) _ _ s
    refine wpAny_bind (wpAny_bind (wpAny_seqItemAt ho rfl (wpAny_pure ?_)))
    rw [hx]
    show wpAny _ _ (setSeqItemAt l j v >>= _) _ _ s
    refine wpAny_bind (wpAny_setSeqItemAt ho rfl ?_)
    first
      | exact wpAny_bind (wpAny_pure (wpAny_pure ⟨.none, rfl, wpAny_pure fin⟩))
      | exact wpAny_pure ⟨.none, rfl, wpAny_pure fin⟩
  · skip
    have hidx := seqIndex_neg (k := -1) (n := vs.toArray.size) (by omega) (by rw [List.size_toArray]; omega)
    show wpAny _ _ ((Builtin.List.listItems (.ref l) >>= fun xs => pure ((seqIndex? (Int.negSucc 0) xs.size).bind fun i => xs[i]?.map (i, ·))) >>= _) _ _ s
    refine wpAny_bind (wpAny_bind ?_)
    show wpAny _ _ (seqItems? (.ref l) >>= _) _ _ s
    refine wpAny_bind (wpAny_seqItems ho rfl (wpAny_pure (wpAny_pure ?_)))
    have e1 : seqIndex? (Int.negSucc 0) vs.toArray.size = some j := by
      refine hidx.trans ?_
      congr 1
      rw [List.size_toArray]; omega
    rw [e1]
    simp only [Option.bind_some, hx, Option.map_some]
    show wpAny _ _ (setSeqItemAt l j v >>= _) _ _ s
    refine wpAny_bind (wpAny_setSeqItemAt ho rfl ?_)
    first
      | exact wpAny_bind (wpAny_pure (wpAny_pure ⟨.none, rfl, wpAny_pure fin⟩))
      | exact wpAny_pure ⟨.none, rfl, wpAny_pure fin⟩
end
theorem All.set {σ : Look} {v : Value} {d : D} : ∀ {vs : List Value} {ds : List D} (j : Nat), All σ vs ds → Is σ v d → All σ (vs.set j v) (ds.set j d)
  | _, _, _, .nil, _ => .nil
  | _, _, 0, .cons h r, i => .cons i r
  | _, _, j + 1, .cons h r, i => .cons h (All.set j r i)
section
variable {c : Cx} {f : Fm} {ρ : Sto} {Φ : Fl → Sto → Prop}
theorem Ex.setItem {x : Str} {px tp pos : Pos} {ie e : Expr} {ds : List D} {d : D} {k : Int} {j : Nat} (hx : ρ x = some (.ow ds)) (h : Ev c f.A f.env ρ (eval e f.env) d) (hi : Ev c f.A f.env ρ (eval ie f.env) (.int k)) (hj : j < ds.length) (hk : (k = (j : Int) ∧ j < 2 ^ 62) ∨ (k = -1 ∧ j + 1 = ds.length)) (q : Φ .next (upd ρ x (.ow (ds.set j d))))
    (hs : swapsWith e (some (.Subscript (.Name x px) ie tp)) pos.line f.env = pure false := by rfl) (hd : (x == ("__debug__" : Str)) = false := by decide) :
    Ex c f ρ (exec (.Assign [.Subscript (.Name x px) ie tp] e pos) f.env) Φ := by
  intro res s σ S Q E kk
  refine wpAny_Assign_Subscript ?_ hs
  refine h s σ S.pre S.vars _ _ fun y s1 σ1 g i => ?_
  have S1 := S.grow g
  obtain ⟨a, hv, ow⟩ := S1.vars x _ hx
  have ld : ∀ (Q : Value → Shared → Prop), Q (.ref a) s1 → wpAny c.M f.A (eval (.Name x px) f.env) Q E s1 := by
    intro Q hq
    obtain ⟨hk, ⟨h1, _, m, n, h2⟩ | ⟨h1, b, h2, _, h3⟩⟩ := hv
    · exact wpAny_Name (wpAny_loadName_local hk h1 n h2 hq) hd
    · exact wpAny_Name (wpAny_loadName_cell hk h1 h2 h3 hq) hd
  refine ld _ ?_
  refine hi s1 σ1 S1.pre S1.vars _ _ fun z s2 σ2 g2 i2 => ?_
  have S2 := S1.grow g2
  obtain ⟨a', hv2, ⟨vs, n, e1, al⟩, _, _⟩ := S2.vars x _ hx
  have := (hv.keeps g2.keep).inj hv2; cases this
  cases i2 with | int _ t => ?_
  have hlen := al.length
  refine set_at (j := j) e1 (by omega) (by rw [hlen]; exact hk) fun h' n' e' hs' => ?_
  exact kk _ _ _ _ _ (S2.setOwn (tk := s2.toks) hx hv2 hs' e' (al.set j (i.mono g2.le))) (fun a o e => g2.le _ _ (g.le _ _ e)) .next q
/-- x, y, z = ([], e2, e3), stored from behind; the list is the frame's own -/
theorem Ex.swapOwn3 {es : List Expr} {k k2 : Nat} {tpos vpos lpos pos : Pos} {e2 e3 : Expr} {x y z : Str} {d2 d3 : D} (hh : f.A.handled = none) (h2 : Ev c f.A f.env ρ (eval e2 f.env) d2) (h3 : Ev c f.A f.env ρ (eval e3 f.env) d3) (hx : HasName f x) (hy : HasName f y) (hz : HasName f z) (hno : ∀ u es, ρ u = some (.ow es) → u ≠ y ∧ u ≠ z)
    (q : Φ .next (upd (upd (upd ρ z (.im d3)) y (.im d2)) x (.ow [])))
    (hs : swapsWithSole [.Tuple es k tpos] (.Tuple [.List [] lpos, e2, e3] k2 vpos) pos.line f.env = pure false := by rfl) (hw : swappedStores [.Tuple es k tpos] (.Tuple [.List [] lpos, e2, e3] k2 vpos) f.env = pure (some [x, y, z]) := by rfl)
    (hu2 : unstar e2 = true := by rfl) (hu3 : unstar e3 = true := by rfl) : Ex c f ρ (exec (.Assign [.Tuple es k tpos] (.Tuple [.List [] lpos, e2, e3] k2 vpos) pos) f.env) Φ := by
  intro res s σ S Q E kk
  refine Assign_Tuple_swapped (names := [x, y, z]) (Tuple_ ?_) hs hw
  refine spliced_more ?_ (starEach_un (e := .List [] lpos) rfl)
  refine EvF.list (c := c) (ρ := ρ) Evs.nil (Nat.zero_le _) s σ S.pre S.vars _ _ fun a vs n s1 σ1 g1 e1 al1 hn1 hfr => ?_
  cases al1
  refine spliced_more (h2 s1 σ1 (g1.pre S.pre) (S.vars.grow g1) _ _ fun v2 s2 σ2 g2 i2 => ?_) (starEach_un hu2)
  refine spliced_more (h3 s2 σ2 (g2.pre (g1.pre S.pre)) ((S.vars.grow g1).grow g2) _ _ fun v3 s3 σ3 g3 i3 => ?_) (starEach_un hu3)
  refine Calls.spliced_nil ?_
  refine wpAny_newObj_type ?_ (by show 3 ≤ sizeLine; decide)
  have G3 := (g1.trans g2).trans g3
  have p3 := G3.pre S.pre
  have hpt : a ≠ PT := by rintro rfl; exact (tab_some S.pre.tab).1 hfr
  have off : σ3 a = none := by
    cases qq : σ3 a with
    | none => rfl
    | some o =>
      rcases (g2.trans g3).new a (by rw [qq]; exact Option.some_ne_none _) with h' | h'
      · exact absurd hn1 h'
      · rw [e1] at h'; cases h'
  have hk : ∀ (o : Obj) a o', s3.heap.get? a = some o' → (s3.heap.push o).get? a = some o' := fun o a o' e => Heap.get?_push_of_some _ e
  have G4 : Grow σ s σ3 { s3 with heap := s3.heap.push (tupO [.ref a, v2, v3] 0), toks := s3.toks } := G3.trans (.heap (tk := s3.toks) p3 (hk _))
  have e4 : (s3.heap.push (tupO [.ref a, v2, v3] 0)).get? a = some (lstO [] n) := hk _ _ _ ((g2.trans g3).keep _ _ hpt e1)
  have S4 := S.grow G4
  have S5 : St c f ([(a, lstO [] n)] ++ res) ρ σ3 _ := S.add S4 (fun x ds b e h => by
    obtain ⟨b', hb, ow⟩ := S.vars x _ e
    have := (hb.keeps G4.keep).inj h
    cases this
    obtain ⟨vs, n, e1, _⟩ := ow.at_
    rw [e1]; exact Option.some_ne_none _) (fun q hq => by cases List.mem_singleton.mp hq; exact e4) (fun q hq => by cases List.mem_singleton.mp hq; exact off) (fun q hq => by cases List.mem_singleton.mp hq; exact hfr)
  refine wpAny_unpackItems_tuple (items := [.ref a, v2, v3].toArray) hh ⟨_, Heap.get?_push_size _ rfl, rfl, 0, rfl⟩ fun h' he => ?_
  have S6 := S5.ext he
  refine wpAny_assignInOrder_more (bindName_ (S6.store hz i3 _ _ fun s7 S7 => ?_))
  refine wpAny_assignInOrder_more (bindName_ (S7.store hy (i2.mono g3.le) _ _ fun s8 S8 => ?_))
  have r8 := S8.res (a, lstO [] n) List.mem_cons_self
  refine wpAny_assignInOrder_more (bindName_ (S8.drop.storeB (b := .ow []) hx (fun h' nv hk' => ⟨a, nv, ⟨⟨[], n, (hk' a r8.2.2.1).trans r8.1, .nil⟩, r8.2.1, hpt⟩⟩) ?_ _ _ fun s9 S9 => ?_))
  · intro ds a' _ e'
    cases e'
    refine ⟨r8.2.2.1, r8.2.2.2.2, fun p hp e => ?_, fun u es' hu hr hv => ?_⟩
    · have h1 := (S.res p hp).1; rw [e, hfr] at h1; cases h1
    · exact (S8.own u es' a hr hv).2.2 (a, lstO [] n) List.mem_cons_self rfl
  · exact wpAny_assignInOrder_none (kk _ _ _ _ _ S9 G4.le .next q)
end

/-! text LR -/
def digB (n : Nat) : Bool := decide (48 ≤ n) && decide (n ≤ 57)
def readStep (st : List Nat × List Nat × Bool) (n : Nat) : List Nat × List Nat × Bool :=
  if digB n = true then
    let s1 := if st.2.2 = true then st.1 else st.1 ++ [0]
    (s1.set (s1.length - 1) (10 * s1.getLastD 0 + (n - 48)), st.2.1 ++ [35], true)
  else (st.1, st.2.1 ++ [n], false)
def readL (l : List Nat) : List Nat × List Nat × Bool := l.foldl readStep ([], [], false)
theorem read_inv : ∀ (l : List Nat) (st : List Nat × List Nat × Bool), (st.2.2 = true → st.1 ≠ []) →
    ((l.foldl readStep st).2.2 = true → (l.foldl readStep st).1 ≠ []) ∧ (l.foldl readStep st).1.length ≤ st.1.length + l.length ∧ (l.foldl readStep st).2.1.length = st.2.1.length + l.length
  | [], st, h => ⟨h, by simp, by simp⟩
  | n :: r, st, h => by
    rw [List.foldl_cons]
    have key : ((readStep st n).2.2 = true → (readStep st n).1 ≠ []) ∧ (readStep st n).1.length ≤ st.1.length + 1 ∧ (readStep st n).2.1.length = st.2.1.length + 1 := by
      by_cases hd : digB n = true
      · unfold readStep
        simp only [hd, if_true]
        refine ⟨fun _ => ?_, ?_, by simp⟩
        · split
          · rename_i q; intro e; apply h q; simpa using e
          · simp
        · rw [List.length_set]; split <;> simp
      · unfold readStep
        simp only [hd, Bool.false_eq_true, if_false]
        exact ⟨fun q => (nomatch q), by simp, by simp⟩
    obtain ⟨k1, k2, k3⟩ := key
    obtain ⟨r1, r2, r3⟩ := read_inv r (readStep st n) k1
    refine ⟨r1, ?_, ?_⟩
    · rw [List.length_cons]; omega
    · rw [List.length_cons]; omega
theorem and31 : ∀ k < 10, (48 + k) &&& 31 = 16 + k := by decide
abbrev intsN (l : List Nat) : List D := l.map fun (k : Nat) => D.int (k : Int)
theorem intsN_set (l : List Nat) (j v : Nat) : intsN (l.set j v) = (intsN l).set j (.int v) := by simp [intsN, List.map_set]
theorem signs_S (l : List Nat) : signs (S l) = l.map fun n => D.str (ch n) := by simp [signs]
section
variable {c : Cx} (O : c.Ok)
include O
set_option maxHeartbeats 2000000 in
theorem fn_read {l : List Nat} (hz : l.length ≤ 2 ^ 20) : Fn c 3 (.ref 188) [.str (S l)] (.tup [.lst (intsN (readL l).1), .str (S (readL l).2.1)]) := by
  refine Fn.of1 O (fd188 _) (x := Str.ofString "words") fun A hc σ₀ os₀ R => ?_
  refine Ex.cons (Ex.swapOwn3 R.handled Ev.str Ev.bool (.inl rfl) (.inl rfl) (.inl rfl) (fun u es h => ?_) ?_)
  · unfold par at h
    obtain ⟨d, _, e⟩ := Option.map_eq_some_iff.mp h
    cases e
  have hsl : sizeLine = 2 ^ 24 := rfl
  have it : ∀ {ρ : Sto} {e : Expr} {y : Str} {py : Pos}, Ev c (frm (fd188 c.w.params).1 188 A hc σ₀ os₀).A (frm (fd188 c.w.params).1 188 A hc σ₀ os₀).env ρ (eval e (frm (fd188 c.w.params).1 188 A hc σ₀ os₀).env) (.str (S l)) → It c (frm (fd188 c.w.params).1 188 A hc σ₀ os₀).A (frm (fd188 c.w.params).1 188 A hc σ₀ os₀).env ρ e (.Name y py) (l.map fun n => D.str (ch n)) := by
    intro ρ e y py h
    rw [← signs_S]; exact It.str R.handled h
  refine Ex.cons (Ex.for_ (fun i ρ => ρ (Str.ofString "sizes") = some (.ow (intsN ((l.take i).foldl readStep ([], [], false)).1)) ∧ ρ (Str.ofString "left") = some (.im (.str (S ((l.take i).foldl readStep ([], [], false)).2.1))) ∧ ρ (Str.ofString "inside") = some (.im (.bool ((l.take i).foldl readStep ([], [], false)).2.2)))
    (it (Ev.name rfl)) ⟨rfl, rfl, rfl⟩ ?_ ?_)
  · intro i d ρi hd ⟨h1, h2, h3⟩
    rw [List.getElem?_map] at hd
    obtain ⟨n, hn, rfl⟩ := Option.map_eq_some_iff.mp hd
    have hst : (l.take (i + 1)).foldl readStep ([], [], false) = readStep ((l.take i).foldl readStep ([], [], false)) n := by
      rw [List.take_add_one, hn]; simp
    obtain ⟨v1, v2, v3⟩ := read_inv (l.take i) ([], [], false) (fun h => by cases h)
    rw [hst]
    have ht : (l.take i).length ≤ 2 ^ 20 := by rw [List.length_take]; omega
    generalize (l.take i).foldl readStep ([], [], false) = st at h1 h2 h3 v1 v2 v3
    obtain ⟨sizes, left, inside⟩ := st
    dsimp only at h1 h2 h3 v1 v2 v3
    have hleft : left.length ≤ 2 ^ 20 := by have : ([] : List Nat).length = 0 := rfl; omega
    have hsz : sizes.length ≤ 2 ^ 20 := by have : ([] : List Nat).length = 0 := rfl; omega
    refine ⟨_, Asg.name (.inl rfl), ?_⟩
    refine Ex.cons (Ex.ifB (Tst.plain (Ev.call (Glb.own O (g_isdigit _)) (Kept.own O (kp_isdigit _)) (Evs.cons (Ev.name rfl) Evs.nil) (fn_isdigit O) (R.mono (by decide)))) (fun q => ?_) (fun q => ?_))
    · have hdig : digB n = true := q
      have hn48 : 48 ≤ n ∧ n ≤ 57 := by unfold digB at hdig; simpa using hdig
      have tail : ∀ (ρ : Sto) (s1 : List Nat), s1 = (if inside = true then sizes else sizes ++ [0]) → ρ (Str.ofString "sizes") = some (.ow (intsN s1)) → ρ (Str.ofString "left") = some (.im (.str (S left))) → ρ (Str.ofString "sign") = some (.im (.str (ch n))) →
          ∀ st1 x1 x2 x3 x4 x5 y1 y2 y3 st2 x6, (fd188 c.w.params).1.body = .stmts st1 → st1.drop 1 = [.For x1 x2 [.If x3 (x4 :: st2) x5 y1] y2 y3, x6] → Ex c (frm (fd188 c.w.params).1 188 A hc σ₀ os₀) ρ (execs st2 (envF (fd188 c.w.params).1 188 hc.objs.size)) (fun fl ρ' => fl = .next ∧ ρ' (Str.ofString "sizes") = some (.ow (intsN (readStep (sizes, left, inside) n).1)) ∧ ρ' (Str.ofString "left") = some (.im (.str (S (readStep (sizes, left, inside) n).2.1))) ∧ ρ' (Str.ofString "inside") = some (.im (.bool (readStep (sizes, left, inside) n).2.2))) := by
        intro ρ s1 es1 w1 w2 w3 st1 x1 x2 x3 x4 x5 y1 y2 y3 st2 x6 b1 b2
        cases b1
        cases b2
        have hne : s1 ≠ [] := by
          rw [es1]; split
          · rename_i q; exact v1 q
          · simp
        have hl1 : s1.length ≤ 2 ^ 20 + 1 := by rw [es1]; split <;> simp <;> omega
        have hpos : 0 < s1.length := List.length_pos_iff.mpr hne
        have hlast : (intsN s1).getLast? = some (.int ((s1.getLastD 0 : Nat) : Int)) := by
          rw [List.getLast?_map]
          cases hh : s1.getLast? with
          | none => rw [List.getLast?_eq_none_iff] at hh; exact absurd hh hne
          | some v => simp [List.getLastD_eq_getLast?, hh]
        have hrs : readStep (sizes, left, inside) n = (s1.set (s1.length - 1) (10 * s1.getLastD 0 + (n - 48)), left ++ [35], true) := by
          unfold readStep; rw [if_pos hdig]; dsimp only; rw [← es1]
        have ha : n &&& 31 = n - 32 := by
          have := and31 (n - 48) (by omega)
          rw [show 48 + (n - 48) = n by omega] at this
          rw [this]; omega
        rw [hrs]
        refine Ex.cons (Ex.setItem (j := s1.length - 1) (d := .int ((10 * s1.getLastD 0 + (n - 48) : Nat) : Int)) w1 ?_ (Ev.neg Ev.int) (by simp; omega) (.inr ⟨by decide, by simp; omega⟩) ?_)
        · refine Ev.own w1 (Ev.asI (Ev.bin (Ev.bin (Ev.bin Ev.int (Ev.item (Ev.name rfl) (Ev.neg Ev.int) (it_lst_last hlast (by simp; omega))) (op_mul_nat (a := 10) (by decide))) (Ev.call (Glb.blt O (gb_ord _) boot_ord) Kept.builtin (Evs.cons (Ev.call (Glb.own O (g_ctrl _)) (Kept.own O (kp_ctrl _)) (Evs.cons (Ev.name ?_) Evs.nil) (fn_ctrl O (n := n)) (R.mono (by decide))) Evs.nil) (fn_ord rfl) (R.mono (by decide))) op_add_int) Ev.int op_sub_int) ?_)
          · show seen ρ (Str.ofString "sizes") (intsN s1) (Str.ofString "sign") = _
            unfold seen
            rw [if_neg (by decide), w3]
          · show ((10 * s1.getLastD 0 : Nat) : Int) + ((n &&& 31 : Nat) : Int) - 16 = _
            rw [ha]; omega
        · refine Ex.cons (Ex.swap2 (x := Str.ofString "left") (y := Str.ofString "inside") R.handled (Ev.tuple (Evs.cons (Ev.bin (Ev.name (d := .str (S left)) ?_) Ev.str (op_add_str ?_)) (Evs.cons Ev.bool Evs.nil))) (.inl rfl) (.inl rfl) (Ex.nil ⟨rfl, ?_, ?_, rfl⟩))
          · exact w2
          · rw [S_length]
            show left.length + 1 ≤ _
            omega
          · show some (B.ow _) = some (B.ow _)
            rw [intsN_set]
          · show some (B.im (.str (S left ++ S [35]))) = _
            rw [S_append]
      refine Ex.cons (Ex.ifB (Tst.not (Tst.plain (Ev.name h3))) (fun w => ?_) (fun w => ?_))
      · have hin : inside = false := by simpa using w
        refine Ex.cons (Ex.append h1 Ev.int (Ex.nil ?_) (by simp; omega))
        refine Ex.mono (tail _ (sizes ++ [0]) (by rw [hin]; rfl) ?_ (by exact h2) rfl _ _ _ _ _ _ _ _ _ _ _ rfl rfl) ?_
        · show some (B.ow _) = _
          simp
        · rintro d ρ' ⟨rfl, k⟩; exact Ex.nil k
      · have hin : inside = true := by simpa using w
        refine Ex.nil ?_
        refine Ex.mono (tail _ sizes (by rw [hin]; rfl) (by exact h1) (by exact h2) rfl _ _ _ _ _ _ _ _ _ _ _ rfl rfl) ?_
        rintro d ρ' ⟨rfl, k⟩; exact Ex.nil k
    · have hdig : ¬ digB n = true := by intro e; rw [show digB n = _ from rfl] at e; rw [digB] at e; rw [q] at e; cases e
      have hrs : readStep (sizes, left, inside) n = (sizes, left ++ [n], false) := by
        unfold readStep; rw [if_neg hdig]
      rw [hrs]
      refine Ex.cons (Ex.swap2 (x := Str.ofString "left") (y := Str.ofString "inside") R.handled (Ev.tuple (Evs.cons (Ev.bin (Ev.name h2) (Ev.name rfl) (op_add_str ?_)) (Evs.cons Ev.bool Evs.nil))) (.inl rfl) (.inl rfl) (Ex.nil (Ex.nil ⟨by exact h1, ?_, rfl⟩)))
      · rw [S_length]
        show left.length + 1 ≤ _
        omega
      · show some (B.im (.str (S left ++ S [n]))) = _
        rw [S_append]
  · intro ρ' ⟨h1, h2, h3⟩
    rw [List.length_map, List.take_length] at h1 h2
    refine Ex.freeze h1 (Ex.cons (Ex.ret (Ev.tuple (Evs.cons (Ev.name rfl) (Evs.cons (Ev.name h2) Evs.nil))) rfl))
end

/-! text LS -/
/-! the dict of an object that __init__ fills -/
def DictHas (σ : Look) (od : Obj) (kvs : List (Str × D)) : Prop :=
  ∃ es ep, od = dictOf es ep ∧ es.length ≤ kvs.length ∧ (∀ p ∈ kvs, ∃ v, getL p.1 es = some (some v) ∧ Is σ v p.2) ∧ ∀ x, x ∉ kvs.map (·.1) → getL x es = some none
theorem DictHas.mono {σ σ' : Look} {od : Obj} {kvs : List (Str × D)} (h : DictHas σ od kvs) (le : LeL σ σ') : DictHas σ' od kvs :=
  let ⟨es, ep, e, l, a, b⟩ := h; ⟨es, ep, e, l, fun p hp => let ⟨v, h1, h2⟩ := a p hp; ⟨v, h1, h2.mono le⟩, b⟩
theorem find_put {name y : Str} {hsh : Int} {tk : Tok} {v : Value} (hy : y ≠ name) : ∀ es : List DictEntry,
    ((putL name hsh (.str name tk) v es).find? (·.key.isStr y)).map (·.val) = (es.find? (·.key.isStr y)).map (·.val)
  | [] => by
    have : (Value.str name tk).isStr y = false := by simp [Value.isStr]; exact fun e => hy e.symm
    simp [putL, this]
  | e :: r => by
    unfold putL
    split
    · rename_i h
      have h2 : e.key.isStr y = false := by
        cases q : e.key <;> rw [q] at h <;> simp [Value.isStr] at h ⊢
        subst h; exact fun e => hy e.symm
      rw [List.find?_cons, List.find?_cons, h2]
    · rw [List.find?_cons, List.find?_cons]
      split
      · rfl
      · exact find_put hy r
theorem any_put {name : Str} {hsh : Int} {tk : Tok} {v : Value} : ∀ es : List DictEntry, (putL name hsh (.str name tk) v es).any (·.refKey) = es.any (·.refKey)
  | [] => rfl
  | e :: r => by
    unfold putL
    split
    · rfl
    · rw [List.any_cons, List.any_cons, any_put r]
theorem getL_find {y : Str} {es es' : List DictEntry} (h1 : (es.find? (·.key.isStr y)).map (·.val) = (es'.find? (·.key.isStr y)).map (·.val)) (h2 : es.any (·.refKey) = es'.any (·.refKey)) : getL y es = getL y es' := by
  unfold getL
  cases q : es.find? (·.key.isStr y) with
  | none =>
    cases q' : es'.find? (·.key.isStr y) with
    | none => rw [h2]
    | some e => rw [q, q'] at h1; cases h1
  | some e =>
    cases q' : es'.find? (·.key.isStr y) with
    | none => rw [q, q'] at h1; cases h1
    | some e' => rw [q, q'] at h1; simp at h1; simp [h1]
theorem getL_self {name : Str} {hsh : Int} {tk : Tok} {v : Value} : ∀ es : List DictEntry, getL name (putL name hsh (.str name tk) v es) = some (some v)
  | [] => by simp [getL, putL, Value.isStr]
  | e :: r => by
    unfold putL
    split
    · rename_i h; unfold getL; rw [List.find?_cons]; simp [h]
    · rename_i h
      have ih := getL_self (name := name) (hsh := hsh) (tk := tk) (v := v) r
      unfold getL at ih ⊢
      rw [List.find?_cons]
      have h' : e.key.isStr name = false := by simpa using h
      simp only [h']
      cases q : (putL name hsh (.str name tk) v r).find? (·.key.isStr name) with
      | none => rw [q] at ih; simp at ih
      | some e' => rw [q] at ih; exact ih
theorem putL_len {name : Str} {hsh : Int} {k v : Value} : ∀ es : List DictEntry, (putL name hsh k v es).length ≤ es.length + 1
  | [] => by simp [putL]
  | e :: r => by
    unfold putL
    split
    · simp
    · have := putL_len (name := name) (hsh := hsh) (k := k) (v := v) r
      simp; omega
theorem DictHas.put {σ : Look} {es : List DictEntry} {ep ep' : Nat} {kvs : List (Str × D)} {name : Str} {hsh : Int} {tk : Tok} {v : Value} {d : D} (h : DictHas σ (dictOf es ep) kvs) (hn : name ∉ kvs.map (·.1)) (i : Is σ v d) :
    DictHas σ (dictOf (putL name hsh (.str name tk) v es) ep') (kvs ++ [(name, d)]) := by
  obtain ⟨es', ep'', e, l, a, b⟩ := h
  have : es' = es := by
    have := congrArg Obj.data e
    simp only [Data.dict.injEq] at this
    simpa using this.1.symm
  subst this
  refine ⟨_, _, rfl, ?_, fun p hp => ?_, fun x hx => ?_⟩
  · have := putL_len (name := name) (hsh := hsh) (k := .str name tk) (v := v) es'
    simp; omega
  · rw [List.mem_append, List.mem_singleton] at hp
    rcases hp with hp | rfl
    · obtain ⟨v', h1, h2⟩ := a p hp
      have hne : p.1 ≠ name := by rintro e; exact hn (e ▸ List.mem_map.mpr ⟨p, hp, rfl⟩)
      exact ⟨v', (getL_find (find_put hne es') (any_put es')).trans h1, h2⟩
    · exact ⟨v, getL_self es', i⟩
  · simp only [List.map_append, List.map_cons, List.map_nil, List.mem_append, List.mem_singleton, not_or] at hx
    exact (getL_find (find_put hx.2 es') (any_put es')).trans (b x hx.1)

theorem k_over (P : Params) : plainOver (KK P) 76 = true := by kernel_rfl
theorem k_setattr (P : Params) : findIn (KK P) (.ref 76) "__setattr__" = some (some (.builtin "object.__setattr__")) := by kernel_rfl
theorem k_dictC (P : Params) : (clsIn (KK P) 76).any (·.hasDict) = true := by kernel_rfl
theorem k_makes (P : Params) : makesIn (KK P) 76 = true := by kernel_rfl
theorem k_init (P : Params) : findIn (KK P) (.ref 76) "__init__" = some (some (.ref 31)) := by kernel_rfl
theorem k_initF (P : Params) : typeIn (KK P) (.ref 31) = some (.type "function") := by kernel_rfl
theorem taker_none {K : Frag} {C : Addr} {name : Str} (h : findIn K (.ref C) name = some none) : takerIn K C name = some none := by unfold takerIn; rw [h]; rfl

section
variable {c : Cx} (O : c.Ok)
include O
/-- a member is stored -/
theorem set_ws {A : Around} {name : Str} {s : Shared} {σ : Look} {x dx : Addr} {es : List DictEntry} {ep : Nat} {v : Value} {Q : Unit → Shared → Prop} {E : Value → Shared → Prop} (p : PreG c σ s) (hx : s.heap.get? x = some { cls := .ref 76, dict := some dx, data := .plain }) (hd : s.heap.get? dx = some (dictOf es ep))
    (hf : findIn (KK c.w.params) (.ref 76) name = some none) (hl : getL name es = some none) (hz : es.length ≤ 100)
    (q : ∀ h' tk, h'.get? dx = some (dictOf (putL name (PyData.keyHash c.w.params name) (.str name tk) v es) (putN name es ep)) → Heap.SameBut dx s.heap h' → Q () { s with heap := h', toks := s.toks + 2 }) :
    wpAny c.M A (setAttr (.ref x) name v) Q E s := by
  have X := p.K O
  refine set_plain X (ox := { cls := .ref 76, dict := some dx, data := .plain }) (od := some (dictOf es ep)) ⟨hx, rfl, rfl, hd⟩ (k_setattr _) ?_
  refine osa_open (s := { s with toks := s.toks + 1 }) X (ox := { cls := .ref 76, dict := some dx, data := .plain }) (od := some (dictOf es ep)) ⟨hx, rfl, rfl, hd⟩ (k_over _) (taker_none hf) fun b => ?_
  obtain ⟨cd, hc, hd'⟩ := any_some (k_dictC c.w.params)
  refine wpAny_bind (wpAny_pure (wpAny_bind (wpAny_bind (wpAny_loadPart hx (wpAny_bind ((looks_clsIn X hc).here (s := { s with toks := s.toks + 1 }) ?_))))))
  rw [hd']
  refine wpAny_pure (a := some dx) (wpAny_bind (wpAny_pure (wpAny_bind ?_)))
  unfold nsSet
  refine wpAny_bind (wpAny_bind (wpAny_askSetting (wpAny_pure (wpAny_bind (wpAny_mkText (wpAny_bind (wpAny_loadPart hd ?_)))))))
  dsimp only
  have hcc : (!es.toArray.any (·.key.isStr name) && es.toArray.any (·.refKey)) = false := by
    rw [← Array.any_toList, ← Array.any_toList]
    unfold getL at hl
    split at hl
    · cases hl
    · split at hl
      · cases hl
      · rename_i z; rw [Bool.not_eq_true] at z; simp only [z, Bool.and_false]
  rw [aRefKeyMayBeTheName_at, hcc]
  have hput := putName_dict name (PyData.keyHash c.w.params name) (.str name (s.toks + 1)) v es ep
  have D' : (s.heap.update dx (Obj.putName name (PyData.keyHash c.w.params name) (.str name (s.toks + 1)) v)).get? dx = some (dictOf (putL name (PyData.keyHash c.w.params name) (.str name (s.toks + 1)) v es) (putN name es ep)) := by
    have := Heap.get?_update_self (Obj.putName name (PyData.keyHash c.w.params name) (.str name (s.toks + 1)) v) hd (by rw [hput]; rfl)
    rwa [hput] at this
  refine wpAny_updatePart hd ?_
  have hlen := putL_len (name := name) (hsh := PyData.keyHash c.w.params name) (k := .str name (s.toks + 1)) (v := v) es
  refine wpAny_bind (wpAny_lookBehind D' (pastItsLine_dict (by rw [List.size_toArray, sizeLine_eq]; omega)) ?_)
  exact wpAny_pure (q _ _ D' (Heap.SameBut.update ..))
end

/-! text LT -/
/-! statements of __init__: the object's dict is the frame's own -/
def ExD (c : Cx) (f : Fm) (dx : Addr) (ρ : Sto) (kvs : List (Str × D)) (t : Sem Flow) (Φ : Fl → Sto → List (Str × D) → Prop) : Prop :=
  ∀ od s σ, St c f [(dx, od)] ρ σ s → DictHas σ od kvs → ∀ (Q : Flow → Shared → Prop) (E : Value → Shared → Prop),
    (∀ fl s' σ' ρ' od' kvs' d, St c f [(dx, od')] ρ' σ' s' → DictHas σ' od' kvs' → LeL σ σ' → FlIs σ' fl d → Φ d ρ' kvs' → Q fl s') → wpAny c.M f.A t Q E s
section
variable {c : Cx} {f : Fm} {dx : Addr} {ρ : Sto} {kvs : List (Str × D)} {Φ : Fl → Sto → List (Str × D) → Prop}
theorem ExD.nil (h : Φ .next ρ kvs) : ExD c f dx ρ kvs (execs [] f.env) Φ := fun _ _ _ S H _ _ k => wpAny_execs_nil (k _ _ _ _ _ _ _ S H (fun _ _ e => e) .next h)
theorem ExD.cons {st : Stmt} {rest : List Stmt} (h : ExD c f dx ρ kvs (exec st f.env) (fun d ρ' kvs' => match d with | .next => ExD c f dx ρ' kvs' (execs rest f.env) Φ | d => Φ d ρ' kvs')) : ExD c f dx ρ kvs (execs (st :: rest) f.env) Φ := by
  intro od s σ S H Q E k
  refine wpAny_execs_cons (h od s σ S H _ _ fun fl s' σ' ρ' od' kvs' d S' H' le i q => ?_)
  cases i with
  | next => exact q od' s' σ' S' H' Q E fun fl s2 σ2 ρ2 od2 kvs2 d2 S2 H2 le2 i2 q2 => k _ _ _ _ _ _ _ S2 H2 (fun a o e => le2 _ _ (le _ _ e)) i2 q2
  | brk => exact k _ _ _ _ _ _ _ S' H' le .brk q
  | cont => exact k _ _ _ _ _ _ _ S' H' le .cont q
  | ret i => exact k _ _ _ _ _ _ _ S' H' le (.ret i) q
theorem ExD.of {t : Sem Flow} {Ψ : Fl → Sto → Prop} (h : Ex c f ρ t Ψ) (hi : ∀ d ρ', Ψ d ρ' → Φ d ρ' kvs) : ExD c f dx ρ kvs t Φ :=
  fun od s σ S H Q E k => h _ s σ S Q E fun fl s' σ' ρ' d S' le i q => k _ _ _ _ _ _ _ S' (H.mono le) le i (hi _ _ q)
theorem ExD.freeze {x : Str} {ds : List D} {t : Sem Flow} (hx : ρ x = some (.ow ds)) (h : ExD c f dx (upd ρ x (.im (.lst ds))) kvs t Φ) : ExD c f dx ρ kvs t Φ := by
  intro od s σ S H Q E k
  obtain ⟨σ1, le, S'⟩ := S.freeze hx
  exact h od s _ S' (H.mono le) Q E fun fl s' σ' ρ' od' kvs' d T H' le' i q => k fl s' σ' ρ' od' kvs' d T H' (fun b o e => le' _ _ (le _ _ e)) i q
theorem ExD.setAttr (O : c.Ok) {x : Addr} {sn name : Str} {ps pos' pos : Pos} {e : Expr} {d : D} (hs : ρ sn = some (.im (.self x dx none))) (he : Ev c f.A f.env ρ (eval e f.env) d) (hf : findIn (KK c.w.params) (.ref 76) name = some none) (hn : name ∉ kvs.map (·.1)) (hz : kvs.length ≤ 50) (q : Φ .next ρ (kvs ++ [(name, d)]))
    (hsw : swapsWith e (some (.Attribute (.Name sn ps) name pos')) pos.line f.env = pure false := by rfl) (hd : (sn == ("__debug__" : Str)) = false := by decide) : ExD c f dx ρ kvs (exec (.Assign [.Attribute (.Name sn ps) name pos'] e pos) f.env) Φ := by
  intro od s σ S H Q E k
  refine plainObj_wpAny_Assign_Attribute (he s σ S.pre S.vars _ _ fun v s1 σ1 g1 i1 => ?_) hsw
  have S1 := S.grow g1
  refine Ev.name (c := c) (A := f.A) hs hd s1 σ1 S1.pre S1.vars _ _ fun ov s2 σ2 g2 i2 => ?_
  have S2 := S1.grow g2
  have H2 := (H.mono g1.le).mono g2.le
  cases i2 with | self hx hdx => ?_
  obtain ⟨es, ep, rfl, hlen, _, hno⟩ := H2
  have r2 := S2.res (dx, dictOf es ep) List.mem_cons_self
  refine set_ws O S2.pre (S2.pre.sub _ _ hx) r2.1 hf (hno name hn) (by omega) fun h' tk e' sb => ?_
  have h86 : dx ≠ PT ∧ dx ≠ 86 := ⟨r2.2.2.2.1, by rintro rfl; exact S2.hcPT.2 r2.2.2.2.2⟩
  have S3 := St.chg (own := [(dx, dictOf es ep)]) (res := []) S2 (Chg.one (tk := s2.toks + 2) S2.pre r2.2.1 h86 sb e') (fun _ _ _ h => nomatch h)
  exact k _ _ _ _ _ _ _ S3 (DictHas.put ((H.mono g1.le).mono g2.le) hn (i1.mono g2.le)) (fun a o e => g2.le _ _ (g1.le _ _ e)) .next q

theorem Is.flats {σ σ' : Look} : ∀ {vs : List Value} {ds : List D}, All σ vs ds → (∀ d ∈ ds, d.flat = true) → All σ' vs ds
  | _, _, .nil, _ => .nil
  | _, _, .cons i r, h => .cons (i.flat (h _ List.mem_cons_self)) (Is.flats r fun d hd => h d (List.mem_cons_of_mem _ hd))
/-- what the frame may still hold when the dict is its own again -/
def Back (sn : Str) (x dx : Addr) (ρ' ρ3 : Sto) : Prop :=
  (∃ o, ρ' sn = some (.im (.self x dx o))) ∧ ∀ y b, ρ3 y = some b → (y = sn ∧ b = .im (.self x dx none)) ∨ (ρ' y = some b ∧ ((∃ d, b = .im d ∧ d.flat = true) ∨ ∃ ds, b = .ow ds ∧ ∀ d ∈ ds, d.flat = true))
/-- statements that only read the dict -/
theorem ExD.frozen {x : Addr} {sn : Str} {raw : Str} {t : Sem Flow} {Ψ : Fl → Sto → Prop} (hs : ρ sn = some (.im (.self x dx none)))
    (h : ∀ od es ep tk, od = dictOf es ep → getL N_raw es = some (some (.str raw tk)) → Ex c f (upd ρ sn (.im (.self x dx (some od)))) t Ψ)
    (hΨ : ∀ d ρ', Ψ d ρ' → d = .next ∧ ∃ ρ3, Back sn x dx ρ' ρ3 ∧ Φ .next ρ3 [(N_raw, .str raw)]) : ExD c f dx ρ [(N_raw, .str raw)] t Φ := by
  intro od s σ S H Q E k
  obtain ⟨es, ep, eod, hlen, hin, hno⟩ := id H
  obtain ⟨v, hg, iv⟩ := hin _ List.mem_cons_self
  cases iv with | str _ tk => ?_
  have r := S.res (dx, od) List.mem_cons_self
  have le : LeL σ (put σ dx od) := fun b o e => by
    unfold put; rw [if_neg]
    · exact e
    · rintro rfl; rw [r.2.1] at e; cases e
  have none_of : ∀ b, b ≠ dx → σ b = none → put σ dx od b = none := fun b hb e => by unfold put; rw [if_neg hb]; exact e
  have S1 : St c f [] (upd ρ sn (.im (.self x dx (some od)))) (put σ dx od) s := by
    refine ⟨⟨fun b o e => ?_, fun b o hb e => le _ _ (S.pre.base b o hb e), none_of _ (Ne.symm r.2.2.2.1) S.pre.pt, S.pre.tab, S.pre.gens⟩, ?_, S.kind, S.ns, S.cells, S.eld, S.inj, ?_, ?_, ?_, (fun _ h => nomatch h), S.keep, S.hcPT, fun b o e => le _ _ (S.le _ _ e), ?_, S.os⟩
    · unfold put at e
      split at e
      · rename_i h; subst h; cases e; exact r.1
      · exact S.pre.sub _ _ e
    · intro y b e
      unfold upd at e
      split at e
      · rename_i hy; cases e; subst hy
        obtain ⟨v, h1, h2⟩ := S.vars _ _ hs
        cases h2 with | self hx _ => exact ⟨_, h1, .self (le _ _ hx) fun o e => by cases e; exact put_self⟩
      · rename_i hy
        have := S.vars y b e
        cases b with
        | im d => obtain ⟨v, h1, h2⟩ := this; exact ⟨v, h1, h2.mono le⟩
        | ow es =>
          obtain ⟨a', h1, ⟨vs', n', e', al'⟩, h3, h4⟩ := this
          exact ⟨a', h1, ⟨vs', n', e', al'.mono le⟩, none_of _ (Ne.symm ((S.own y es a' e h1).2.2 _ List.mem_cons_self)) h3, h4⟩
    · intro b hb
      exact ⟨none_of _ (fun q => r.2.2.1 (q ▸ hb)) (S.mine b hb).1, (S.mine b hb).2⟩
    · intro y es b e h1
      unfold upd at e
      split at e
      · cases e
      · obtain ⟨q1, q2, _⟩ := S.own y es b e h1
        exact ⟨q1, q2, fun _ h => nomatch h⟩
    · intro y z es es' b e e' h1 h2
      unfold upd at e e'
      split at e
      · cases e
      · split at e'
        · cases e'
        · exact S.ownInj y z es es' b e e' h1 h2
    · intro b hb
      unfold put at hb
      split at hb
      · rename_i h; rw [h]; exact .inr r.2.2.2.2
      · exact S.new b hb
  refine h od es ep tk eod hg [] s _ S1 Q E fun fl s' σ' ρ' d S2 le2 i q => ?_
  obtain ⟨rfl, ρ3, ⟨⟨o3, h3⟩, bk⟩, q3⟩ := hΨ d ρ' q
  cases i
  have hdx : σ' dx = some od := le2 _ _ put_self
  let σ3 : Look := fun a => if a = dx then none else σ' a
  have s3 : ∀ a o, σ3 a = some o → σ' a = some o ∧ a ≠ dx := fun a o e => by
    show σ' a = some o ∧ a ≠ dx
    have e' : (if a = dx then none else σ' a) = some o := e
    split at e'
    · cases e'
    · rename_i h; exact ⟨e', h⟩
  have s3' : ∀ a, a ≠ dx → σ3 a = σ' a := fun a h => if_neg h
  have s3n : ∀ a, σ' a = none → σ3 a = none := fun a h => by
    show (if a = dx then none else σ' a) = none
    split
    · rfl
    · exact h
  have hxx : ∀ v, VarAt f.env s'.heap sn v → v = .ref x ∧ σ' x = some { cls := .ref 76, dict := some dx, data := .plain } := fun v hv => by
    obtain ⟨u, h1, h2⟩ := S2.vars _ _ h3
    have := h1.inj hv; subst this
    cases h2 with | self hx _ => exact ⟨rfl, hx⟩
  have le3 : LeL σ σ3 := fun a o e => by
    have ne : a ≠ dx := by rintro rfl; rw [r.2.1] at e; cases e
    rw [s3' a ne]; exact le2 _ _ (le _ _ e)
  have S3 : St c f [(dx, od)] ρ3 σ3 s' := by
    refine ⟨⟨fun b o e => S2.pre.sub _ _ (s3 b o e).1, fun b o hb e => le3 _ _ (S.pre.base b o hb e), s3n _ S2.pre.pt, S2.pre.tab, S2.pre.gens⟩, ?_, S2.kind, S2.ns, S2.cells, S2.eld, S2.inj, fun a ha => ⟨s3n _ (S2.mine a ha).1, (S2.mine a ha).2⟩, ?_, ?_, ?_, S2.keep, S2.hcPT, fun b o e => le3 _ _ (S.le _ _ e), ?_, S2.os⟩
    · intro y b e
      rcases bk y b e with ⟨rfl, rfl⟩ | ⟨e', ⟨d, rfl, hfl⟩ | ⟨ds, rfl, hfl⟩⟩
      · obtain ⟨u, h1, h2⟩ := S2.vars _ _ h3
        cases h2 with
        | self hx _ =>
          refine ⟨_, h1, .self ?_ (fun _ e => nomatch e)⟩
          rw [s3']
          · exact hx
          · rintro rfl; rw [hdx, eod] at hx; cases hx
      · obtain ⟨v, h1, h2⟩ := S2.vars _ _ e'
        exact ⟨v, h1, h2.flat hfl⟩
      · obtain ⟨a, h1, ⟨vs, n, e1, al⟩, hoff, hpt⟩ := S2.vars _ _ e'
        exact ⟨a, h1, ⟨vs, n, e1, Is.flats al hfl⟩, s3n _ hoff, hpt⟩
    · intro y ds a e hv
      rcases bk y _ e with ⟨rfl, e2⟩ | ⟨e', _⟩
      · cases e2
      · obtain ⟨q1, q2, _⟩ := S2.own y ds a e' hv
        refine ⟨q1, q2, fun p hp => ?_⟩
        cases List.mem_singleton.mp hp
        rintro rfl
        obtain ⟨a', h1, ⟨vs, n, e1, al⟩, hoff, hpt⟩ := S2.vars _ _ e'
        have := h1.inj hv; cases this
        rw [hdx] at hoff; cases hoff
    · intro y z ds es' a e e' hv hv'
      rcases bk y _ e with ⟨rfl, e2⟩ | ⟨e1, _⟩
      · cases e2
      · rcases bk z _ e' with ⟨rfl, e2⟩ | ⟨e2, _⟩
        · cases e2
        · exact S2.ownInj y z ds es' a e1 e2 hv hv'
    · intro p hp
      cases List.mem_singleton.mp hp
      exact ⟨S2.pre.sub _ _ hdx, if_pos rfl, r.2.2⟩
    · intro a ha
      have : σ' a ≠ none := fun q => ha (s3n a q)
      exact S2.new a this
  exact k _ _ _ _ _ _ _ S3 ⟨es, ep, eod, hlen, fun p hp => by cases List.mem_singleton.mp hp; exact ⟨_, hg, .str _ _⟩, hno⟩ le3 .next q3
end

/-! text LU -/
/-! the class's own texts -/
theorem k_reads (P : Params) : readsIn (KK P) 76 (.type "type") = true := by kernel_rfl
abbrev ClsVal (P : Params) (name : Str) : Type := { v : Value // findCls (KK P) (.ref 76) (.type "type") name = some (.val v) }
noncomputable def clsS (P : Params) : ClsVal P (Str.ofString "S") := ⟨_, rfl⟩
noncomputable def clsT (P : Params) : ClsVal P (Str.ofString "T") := ⟨_, rfl⟩
theorem clsS_is (P : Params) : ∃ t, (clsS P).1 = .str (S [32]) t := ⟨_, rfl⟩
theorem clsT_is (P : Params) : ∃ t, (clsT P).1 = .str (S [9]) t := ⟨_, rfl⟩
section
variable {c : Cx} (O : c.Ok) {A : Around} {env : Env} {ρ : Sto}
include O
theorem Ev.attrC {xn name : Str} {px pos : Pos} {x : Str} (G : Glb c A env xn (.ref 76)) (V : ClsVal c.w.params name) (hv : ∃ t, V.1 = .str x t)
    (he : eval (.Attribute (.Name xn px) name pos) env = (do
      let o ← eval (.Name xn px) env
      standAt pos.atName
      let r ← holding [o] (getAttr o name true)
      letTemporaryGo (.Name xn px) o r
      pure r) := by rfl) : Ev c A env ρ (eval (.Attribute (.Name xn px) name pos) env) (.str x) := by
  intro s σ p _ Q E k
  obtain ⟨t, ht⟩ := hv
  refine Attribute_any_ (G px s σ p _ _ ?_) he
  refine cls_value (p.K O) (k_reads _) V.2 (by rw [ht]; rfl) ?_
  rw [ht]
  exact k _ _ _ (grow_tok p) (.str _ _)
theorem Ev.attrSelf {e : Expr} {pos : Pos} {x dx : Addr} {od : Obj} {es : List DictEntry} {ep : Nat} {raw : Str} {tk : Tok} (h : Ev c A env ρ (eval e env) (.self x dx (some od))) (eod : od = dictOf es ep) (hg : getL N_raw es = some (some (.str raw tk)))
    (he : eval (.Attribute e N_raw pos) env = (do
      let o ← eval e env
      standAt pos.atName
      let r ← holding [o] (getAttr o N_raw true)
      letTemporaryGo e o r
      pure r) := by rfl) : Ev c A env ρ (eval (.Attribute e N_raw pos) env) (.str raw) := by
  intro s σ p V Q E k
  refine Attribute_any_ (h s σ p V _ _ fun o s1 σ1 g1 i1 => ?_) he
  have p1 := g1.pre p
  cases i1 with | self hx hdx => ?_
  subst eod
  exact get_ws O p1 (p1.sub _ _ hx) (p1.sub _ _ (hdx _ rfl)) (k_raw _) hg rfl (k _ _ _ (g1.trans (grow_tok p1)) (.str _ _))

/-- a def is entered, where some objects are the frame's own -/
theorem enterD {a : Addr} {fd : FuncData} {xs : List Str} {body : List Stmt} (X : FnHere c a fd xs body) {s : Shared} {σ : Look} {vs : List Value} {ds : List D} {R : Result → Shared → Prop} (hl : ds.length = xs.length) (hdep : A.depth < 900) (p : PreG c σ s) (al : All σ vs ds) {hc₀ : Heap} {σ₀ : Look} {res : List (Addr × Obj)}
    (hres : ∀ q ∈ res, s.heap.get? q.1 = some q.2 ∧ σ q.1 = none ∧ q.1 ≠ PT ∧ hc₀.get? q.1 = none) (hkeep : ∀ a o, hc₀.get? a = some o → s.heap.get? a = some o) (hPT : hc₀.get? PT ≠ none ∧ hc₀.get? 86 ≠ none) (hle : LeL σ₀ σ) (hnew : ∀ a, σ a ≠ none → σ₀ a ≠ none ∨ hc₀.get? a = none)
    (h : ∀ s', St c ⟨A.deeper (envF fd a s.heap.objs.size), envF fd a s.heap.objs.size, (envF fd a s.heap.objs.size).cells, hc₀, σ₀, (s.os, s.gens)⟩ res (par xs ds) σ s' → 
      wpAny c.M (A.deeper (envF fd a s.heap.objs.size)) (execs body (envF fd a s.heap.objs.size)) (fun f s' => R (.ok (.ret (match f with | .ret v => v | _ => .none))) s')
        (fun e s' => wpAny c.M (A.deeper (envF fd a s.heap.objs.size)) (leaving (envF fd a s.heap.objs.size) e) (fun _ s'' => R (.error e) s'') (fun e' s'' => R (.error e') s'') s') s') :
    codeAny c.M A (.call (.ref a) ⟨vs, []⟩) R s := by
  obtain ⟨o, ho, hd⟩ := X.here
  have hK := p.K O
  refine codeAny_call_function (fd := fd) (by show A.depth < 1000; omega) (hK _ _ ho) hd X.co X.gen X.body (codeRec_of hK X.code) ?_
  have hlen : vs.length = xs.length := al.length.trans hl
  rw [X.bind vs hlen]
  refine wpAny_pure ?_
  rw [X.globals, X.closure, X.builtins]
  have hfst : (xs.zip vs).map (·.1) = xs := by rw [List.map_fst_zip]; omega
  refine wpAny_newFunctionEnv_cells X.kind (fun y hy => ?_) fun env henv s' I => ?_
  · have : y.1 ∈ xs := by rw [← hfst]; exact List.mem_map.mpr ⟨y, hy, rfl⟩
    exact (X.loc y.1 this).imp id fun h => ⟨h.1, h.2 _⟩
  · obtain ⟨h', tk, rfl⟩ := I.toInCall.same
    have keepN : ∀ b o, s.heap.get? b = some o → h'.get? b = some o := I.toInCall.keep
    refine ⟨(p.nolimit O).keeps keepN, codeAny_func ?_⟩
    have henv' : envF fd a s.heap.objs.size = env := henv.symm
    rw [henv'] at h
    let f : Fm := ⟨A.deeper env, env, env.cells, hc₀, σ₀, (s.os, s.gens)⟩
    have eL : env.locals = s.heap.objs.size := by rw [henv]; rfl
    have eC : env.cells = cellsFrom (s.heap.objs.size + 1) fd.scope.names [] := by rw [henv]; rfl
    have eS : env.scope = fd.scope := by rw [henv]; rfl
    have above : ∀ x b, env.cells.lookup x = some b → s.heap.objs.size < b := fun x b e => by
      have := I.above x b (mem_of_lookup e); rwa [eL] at this
    have hPTl : PT < s.heap.objs.size := p.tab.lt
    have none_of : ∀ b, s.heap.objs.size ≤ b → σ b = none := fun b hb => by
      cases e : σ b with
      | none => rfl
      | some o' => exact absurd (Heap.lt_size (p.sub _ _ e)) (Nat.not_lt.mpr hb)
    have hcn : ∀ b, s.heap.objs.size ≤ b → hc₀.get? b = none := fun b hb => by
      cases e : hc₀.get? b with
      | none => rfl
      | some o' => exact absurd (Heap.lt_size (hkeep _ _ e)) (Nat.not_lt.mpr hb)
    have mge : ∀ b, f.Mine b → s.heap.objs.size ≤ b := fun b hb => by
      rcases hb with rfl | ⟨x, e⟩
      · exact Nat.le_of_eq eL.symm
      · exact Nat.le_of_lt (above x b e)
    have S : St c f res (par xs ds) σ { s with heap := h', toks := tk } := by
      refine ⟨⟨fun b o e => keepN _ _ (p.sub _ _ e), p.base, p.pt, p.tab.keeps keepN, p.gens⟩, ?_, by show env.scope.kind = _; rw [eS]; exact X.kind, ⟨_, I.toInCall.ns⟩, ?_, ?_, ?_, ?_, ?_, ?_, ?_, fun b o _ e => keepN b o (hkeep _ _ e), hPT, hle, hnew, .same _⟩
      · intro x b e
        unfold par at e
        obtain ⟨dx, e1, rfl⟩ := Option.map_eq_some_iff.mp e
        obtain ⟨v, e2, i⟩ := zip_lookup xs al e1
        have hm : x ∈ xs := by rw [← hfst]; exact List.mem_map.mpr ⟨(x, v), lookup_mem_zip _ e2, rfl⟩
        refine ⟨v, ⟨by show env.scope.kind = _; rw [eS]; exact X.kind, ?_⟩, i⟩
        have hnd : ((xs.zip vs).map (·.1)).Nodup := by rw [hfst]; exact X.nodup
        rcases X.loc x hm with hk | ⟨hk, hc⟩
        · have hk' : env.kindOf x = some .local := by show env.scope.names.lookup x = _; rw [eS]; exact hk
          exact .inl ⟨hk', by show env.locals ≠ PT; rw [eL]; exact Ne.symm (Nat.ne_of_lt hPTl), _, I.toInCall.ns, bindL_in hk' _ _ hnd e2⟩
        · have hk' : env.kindOf x = some .cell := by show env.scope.names.lookup x = _; rw [eS]; exact hk
          obtain ⟨b, hb⟩ := Option.isSome_iff_exists.mp (hc (s.heap.objs.size + 1))
          rw [← eC] at hb
          have hcell := I.cell x b hb
          rw [bindC_in hk' _ _ hnd e2] at hcell
          exact .inr ⟨hk', b, hb, Ne.symm (Nat.ne_of_lt (Nat.lt_trans hPTl (above x b hb))), hcell⟩
      · intro x b e
        exact ⟨⟨_, I.cell x b e⟩, (by show b ≠ env.locals; rw [eL]; exact Ne.symm (Nat.ne_of_lt (above x b e))), e⟩
      · intro x b e
        exact ⟨(by show b ≠ env.locals; rw [eL]; exact Ne.symm (Nat.ne_of_lt (above x b e))), .inl (.inr ⟨x, e⟩)⟩
      · intro x y b e e'
        exact name_of_addr I.apart (mem_of_lookup e) (mem_of_lookup e')
      · intro b hb
        exact ⟨none_of b (mge b hb), hcn b (mge b hb)⟩
      · intro x es b e
        unfold par at e
        obtain ⟨dx, _, e2⟩ := Option.map_eq_some_iff.mp e
        cases e2
      · intro x y es es' b e
        unfold par at e
        obtain ⟨dx, _, e2⟩ := Option.map_eq_some_iff.mp e
        cases e2
      · intro q hq
        obtain ⟨q1, q2, q3, q4⟩ := hres q hq
        exact ⟨keepN _ _ q1, q2, fun hm => Nat.lt_irrefl _ (Nat.lt_of_lt_of_le (Heap.lt_size q1) (mge _ hm)), q3, q4⟩
    exact h _ S
end

/-! what __init__ computes -/
structure Scan where
  n : Nat
  nt : Nat
  cnt : List Nat
  b : Nat
def bump (cnt : List Nat) (b : Nat) : List Nat :=
  let c1 := if cnt.length ≤ b then cnt ++ List.replicate (b - cnt.length + 1) 0 else cnt
  c1.set b (c1.getD b 0 + 1)
def scanF : List Nat → Scan → Scan
  | [], st => st
  | ch :: r, st => if ch = 32 then scanF r ⟨st.n + 1, st.nt, st.cnt, st.b + 1⟩ else if ch = 9 then scanF r ⟨st.n + 1, st.nt + 1, bump st.cnt st.b, 0⟩ else st

/-! text LV -/
theorem bump_len (cnt : List Nat) (b : Nat) : (bump cnt b).length ≤ max cnt.length (b + 1) := by
  unfold bump; dsimp only; rw [List.length_set]; split <;> (try simp) <;> omega
theorem op_eq_ch {c : Cx} {A : Around} {n m : Nat} : Op2 c A (compareOp .Eq) (.str (ch n)) (.str (S [m])) (.bool (decide (n = m))) := by
  have : decide (n = m) = (ch n == S [m]) := by
    by_cases q : n = m
    · subst q; simp
    · have : ¬ ch n = S [m] := by
        intro e; apply q
        have := congrArg (fun x : Str => x.cps.toList) e
        simpa using this
      simp only [q, decide_false]
      symm; exact beq_eq_false_iff_ne.mpr this
  rw [this]; exact op_eq_str
theorem intsN_flat (l : List Nat) : ∀ d ∈ intsN l, d.flat = true := by
  intro d hd; obtain ⟨i, _, rfl⟩ := List.mem_map.mp hd; rfl
/-- what the loop of __init__ keeps -/
def InitInv (x dx : Addr) (l : List Nat) (i : Nat) (ρ : Sto) (st : Scan) : Prop :=
  (∃ o, ρ (Str.ofString "self") = some (.im (.self x dx o))) ∧ ρ (Str.ofString "S") = some (.im (.str (S [32]))) ∧ ρ (Str.ofString "T") = some (.im (.str (S [9]))) ∧
  ρ (Str.ofString "n") = some (.im (.int st.n)) ∧ ρ (Str.ofString "nt") = some (.im (.int st.nt)) ∧ ρ (Str.ofString "b") = some (.im (.int st.b)) ∧ ρ (Str.ofString "count") = some (.ow (intsN st.cnt)) ∧
  scanF (l.drop i) st = scanF l ⟨0, 0, [], 0⟩ ∧ st.b ≤ i ∧ st.cnt.length ≤ i + 1
section
variable {c : Cx} (O : c.Ok)
include O
set_option maxHeartbeats 4000000 in
theorem ws_loop {x dx : Addr} {l : List Nat} (hz : l.length ≤ 500) {A : Around} {hc : Heap} {σ₀ : Look} {os₀ : OG} {L : Addr} (R : Room A 1) {ρ : Sto} {od : Obj} {es : List DictEntry} {ep : Nat} {tk : Tok} (eod : od = dictOf es ep) (hg : getL N_raw es = some (some (.str (S l) tk)))
    (hself : ρ (Str.ofString "self") = some (.im (.self x dx (some od)))) (h0 : InitInv x dx l 0 ρ ⟨0, 0, [], 0⟩)
    (st1 : List Stmt) (fs : Stmt) (e1 : (fd31 c.w.params).1.body = .stmts st1) (e2 : fs = st1[4]!) :
    Ex c ⟨A, envF (fd31 c.w.params).1 31 L, (envF (fd31 c.w.params).1 31 L).cells, hc, σ₀, os₀⟩ ρ (exec fs (envF (fd31 c.w.params).1 31 L)) (fun fl ρ' => fl = .next ∧ ∃ i, InitInv x dx l i ρ' (scanF l ⟨0, 0, [], 0⟩) ∧ i ≤ 501) := by
  cases e1
  subst e2
  have hsl : sizeLine = 2 ^ 24 := rfl
  have it : ∀ {ρ : Sto} {e : Expr} {y : Str} {py : Pos}, Ev c A (envF (fd31 c.w.params).1 31 L) ρ (eval e (envF (fd31 c.w.params).1 31 L)) (.str (S l)) → It c A (envF (fd31 c.w.params).1 31 L) ρ e (.Name y py) (l.map fun n => D.str (ch n)) := by
    intro ρ e y py h
    rw [← signs_S]; exact It.str R.handled h
  refine Ex.for_ (fun i ρ' => ∃ st, InitInv x dx l i ρ' st) (it (Ev.attrSelf O (Ev.name hself) eod hg)) ⟨_, h0⟩ ?_ ?_
  · intro i d ρi hd ⟨st, h1, h2, h3, h4, h5, h6, h7, h8, h9, h10⟩
    rw [List.getElem?_map] at hd
    obtain ⟨n, hn, rfl⟩ := Option.map_eq_some_iff.mp hd
    have hi : i < l.length := (List.getElem?_eq_some_iff.mp hn).1
    have hdrop : l.drop i = n :: l.drop (i + 1) := by
      rw [List.drop_eq_getElem_cons hi]
      congr 1
      exact (List.getElem?_eq_some_iff.mp hn).2
    rw [hdrop] at h8
    refine ⟨_, Asg.name (.inl rfl), ?_⟩
    refine Ex.cons (Ex.ifB (Tst.cmp (Ev.name rfl) (Ev.name h2) op_eq_ch) (fun q => ?_) (fun q => ?_))
    · have q' : n = 32 := by simpa using q
      refine Ex.cons (Ex.assign (Ev.asI (Ev.bin (Ev.name h4) Ev.int op_add_int) (show (st.n : Int) + 1 = ((st.n + 1 : Nat) : Int) by omega)) (.inl rfl) ?_)
      refine Ex.cons (Ex.assign (Ev.asI (Ev.bin (Ev.name h6) Ev.int op_add_int) (show (st.b : Int) + 1 = ((st.b + 1 : Nat) : Int) by omega)) (.inl rfl) (Ex.nil (Ex.nil ⟨⟨st.n + 1, st.nt, st.cnt, st.b + 1⟩, h1, h2, h3, rfl, h5, rfl, h7, ?_, by simp only; omega, by simp only; omega⟩)))
      rw [scanF, if_pos q'] at h8; exact h8
    have q' : ¬ n = 32 := by simpa using q
    refine Ex.cons (Ex.ifB (Tst.cmp (Ev.name rfl) (Ev.name h3) op_eq_ch) (fun r => ?_) (fun r => ?_))
    · have r' : n = 9 := by simpa using r
      rw [scanF, if_neg q', if_pos r'] at h8
      refine Ex.cons (Ex.assign (Ev.asI (Ev.bin (Ev.name h4) Ev.int op_add_int) (show (st.n : Int) + 1 = ((st.n + 1 : Nat) : Int) by omega)) (.inl rfl) ?_)
      refine Ex.cons (Ex.assign (Ev.asI (Ev.bin (Ev.name h5) Ev.int op_add_int) (show (st.nt : Int) + 1 = ((st.nt + 1 : Nat) : Int) by omega)) (.inl rfl) ?_)
      have tail : ∀ (ρ : Sto) (c1 : List Nat), c1 = (if st.cnt.length ≤ st.b then st.cnt ++ List.replicate (st.b - st.cnt.length + 1) 0 else st.cnt) → (∃ o, ρ (Str.ofString "self") = some (.im (.self x dx o))) → ρ (Str.ofString "S") = some (.im (.str (S [32]))) → ρ (Str.ofString "T") = some (.im (.str (S [9]))) →
          ρ (Str.ofString "n") = some (.im (.int ((st.n + 1 : Nat) : Int))) → ρ (Str.ofString "nt") = some (.im (.int ((st.nt + 1 : Nat) : Int))) → ρ (Str.ofString "b") = some (.im (.int st.b)) → ρ (Str.ofString "count") = some (.ow (intsN c1)) → 
          ∀ st1 st2 x1 x2 x3 x4 x5 x6 x7 x8 x9 x10 y1 y2 y3, (fd31 c.w.params).1.body = .stmts st1 → st1[4]! = .For x1 x2 [.If x3 x4 [.If x5 (x6 :: x7 :: x8 :: st2) x9 x10] y1] y2 y3 → Ex c ⟨A, envF (fd31 c.w.params).1 31 L, (envF (fd31 c.w.params).1 31 L).cells, hc, σ₀, os₀⟩ ρ (execs st2 (envF (fd31 c.w.params).1 31 L)) (fun fl ρ' => fl = .next ∧ ∃ st, InitInv x dx l (i + 1) ρ' st) := by
        intro ρ c1 ec1 w1 w2 w3 w4 w5 w6 w7 st1 st2 x1 x2 x3 x4 x5 x6 x7 x8 x9 x10 y1 y2 y3 b1 b2
        cases b1
        cases b2
        have hb1 : st.b < c1.length := by rw [ec1]; split <;> (try simp) <;> omega
        have hl1 : c1.length ≤ 1002 := by rw [ec1]; split <;> (try simp) <;> omega
        have hget : (intsN c1)[((st.b : Nat) : Int).toNat]? = some (.int ((c1.getD st.b 0 : Nat) : Int)) := by
          rw [show ((st.b : Nat) : Int).toNat = st.b from rfl]
          simp [intsN, hb1]
        refine Ex.cons (Ex.setItem (j := st.b) (d := .int ((c1.getD st.b 0 + 1 : Nat) : Int)) w7 (Ev.own w7 (Ev.asI (Ev.bin (Ev.item (Ev.name rfl) (Ev.name ?_) (it_lst (by omega) hget (by simp; omega))) Ev.int op_add_int) (by omega))) (Ev.name w6) (by simp; omega) (.inl ⟨rfl, by omega⟩) ?_)
        · show seen ρ (Str.ofString "count") (intsN c1) (Str.ofString "b") = _
          unfold seen
          rw [if_neg (by decide), w6]
        · refine Ex.cons (Ex.assign Ev.int (.inl rfl) (Ex.nil ⟨rfl, ⟨st.n + 1, st.nt + 1, bump st.cnt st.b, 0⟩, w1, w2, w3, w4, w5, rfl, ?_, h8, by simp, ?_⟩))
          · show some (B.ow _) = _
            unfold bump
            rw [← ec1, ← intsN_set]
          · have := bump_len st.cnt st.b
            simp only; omega
      refine Ex.cons (Ex.ifB (b := decide (st.cnt.length ≤ st.b)) (Tst.own (x := Str.ofString "count") (ds := intsN st.cnt) (by exact h7) (Tst.cmp (d1 := .int st.b) (Ev.name ?_) (Ev.call (Glb.blt O (gb_len _) boot_len) Kept.builtin (Evs.cons (Ev.name rfl) Evs.nil) (fn_len_lst (by simp; omega)) (R.mono (by decide))) ?_)) (fun w => ?_) (fun w => ?_))
      · show seen _ (Str.ofString "count") (intsN st.cnt) (Str.ofString "b") = _
        unfold seen
        rw [if_neg (by decide)]
        show (match ρi (Str.ofString "b") with | some (.im d) => some (B.im d) | _ => none) = _
        rw [h6]
      · have := op_ge_nat (c := c) (A := A) (a := st.b) (b := (intsN st.cnt).length)
        simpa using this
      · have w' : st.cnt.length ≤ st.b := by simpa using w
        refine Ex.freeze (x := Str.ofString "count") (ds := intsN st.cnt) (by exact h7) (Ex.cons (Ex.assignOwn (EvF.add (Ev.name rfl) (Ev.bin (Ev.list (Evs.cons Ev.int Evs.nil)) (Ev.asI (Ev.bin (Ev.bin (Ev.name h6) (Ev.call (Glb.blt O (gb_len _) boot_len) Kept.builtin (Evs.cons (Ev.name rfl) Evs.nil) (fn_len_lst (by simp; omega)) (R.mono (by decide))) op_sub_int) Ev.int op_add_int) (show (st.b : Int) - (((intsN st.cnt).length : Nat) : Int) + 1 = ((st.b - st.cnt.length + 1 : Nat) : Int) by simp; omega)) (op_mul_lst (by omega) (by omega) (by simp; omega))) (by rw [replicate_flat]; simp; omega)) (.inl rfl) (Ex.nil ?_)))
        refine Ex.mono (tail _ (st.cnt ++ List.replicate (st.b - st.cnt.length + 1) 0) (by rw [if_pos w']) (by exact h1) (by exact h2) (by exact h3) rfl rfl (by exact h6) ?_ _ _ _ _ _ _ _ _ _ _ _ _ _ _ _ rfl rfl) ?_
        · show some (B.ow _) = _
          rw [replicate_flat]
          simp [intsN]
        · rintro d ρ' ⟨rfl, k⟩; exact Ex.nil (Ex.nil k)
      · have w' : ¬ st.cnt.length ≤ st.b := by simpa using w
        refine Ex.nil (Ex.mono (tail _ st.cnt (by rw [if_neg w']) (by exact h1) (by exact h2) (by exact h3) rfl rfl (by exact h6) (by exact h7) _ _ _ _ _ _ _ _ _ _ _ _ _ _ _ rfl rfl) ?_)
        rintro d ρ' ⟨rfl, k⟩; exact Ex.nil (Ex.nil k)
    · have r' : ¬ n = 9 := by simpa using r
      rw [scanF, if_neg q', if_neg r'] at h8
      subst h8
      refine Ex.cons (Ex.brk ⟨rfl, i, ⟨h1, h2, h3, h4, h5, h6, h7, ?_, h9, h10⟩, by omega⟩)
      rw [hdrop, scanF, if_neg q', if_neg r']
  · intro ρ' ⟨st, h1, h2, h3, h4, h5, h6, h7, h8, h9, h10⟩
    rw [List.length_map, List.drop_length, scanF] at h8
    rw [List.length_map] at h9 h10
    subst h8
    exact ⟨rfl, l.length, ⟨h1, h2, h3, h4, h5, h6, h7, by rw [List.drop_length, scanF], h9, h10⟩, by omega⟩
end

/-! text LX -/
def scanL (l : List Nat) : Scan := scanF l ⟨0, 0, [], 0⟩
/-- Whitespace(line) -/
def wsOf (l : List Nat) : D := wsN (S l) (scanL l).n (scanL l).nt (scanL l).cnt (scanL l).b (decide ((scanL l).cnt.length ≤ 1))
def wsKvs (l : List Nat) : List (Str × D) :=
  [(N_raw, .str (S l)), (N_n, .int (scanL l).n), (N_nt, .int (scanL l).nt), (N_norm, .tup [.tup (intsN (scanL l).cnt), .int (scanL l).b]), (N_simple, .bool (decide ((scanL l).cnt.length ≤ 1)))]
section
variable {c : Cx} (O : c.Ok)
include O
set_option maxHeartbeats 4000000 in
theorem ws_body {x dx : Addr} {l : List Nat} (hz : l.length ≤ 500) {A : Around} {hc : Heap} {σ₀ : Look} {os₀ : OG} {L : Addr} (R : Room A 1)
    (st1 : List Stmt) (e1 : (fd31 c.w.params).1.body = .stmts st1) :
    ExD c ⟨A, envF (fd31 c.w.params).1 31 L, (envF (fd31 c.w.params).1 31 L).cells, hc, σ₀, os₀⟩ dx (par [Str.ofString "self", Str.ofString "ws"] [.self x dx none, .str (S l)]) [] (execs st1 (envF (fd31 c.w.params).1 31 L))
      (fun fl ρ' kvs => fl = .next ∧ kvs = wsKvs l ∧ ρ' (Str.ofString "self") = some (.im (.self x dx none))) := by
  cases e1
  refine ExD.cons (ExD.setAttr O (x := x) (d := .str (S l)) rfl (Ev.name rfl) (k_raw _) (by simp) (by simp) ?_)
  refine ExD.cons (ExD.of (Ex.swap2 (x := Str.ofString "S") (y := Str.ofString "T") R.handled (Ev.tuple (Evs.cons (Ev.attrC O (Glb.own O (g_Whitespace _)) (clsS _) (clsS_is _)) (Evs.cons (Ev.attrC O (Glb.own O (g_Whitespace _)) (clsT _) (clsT_is _)) Evs.nil))) (.inl rfl) (.inl rfl) (Φ := fun d ρ' => d = .next ∧ ρ' = _) ⟨rfl, rfl⟩) ?_)
  rintro d ρ' ⟨rfl, rfl⟩
  refine ExD.cons (ExD.of (Ex.assignOwn (EvF.list Evs.nil) (.inl rfl) (Φ := fun d ρ' => d = .next ∧ ρ' = _) ⟨rfl, rfl⟩) ?_)
  rintro d ρ' ⟨rfl, rfl⟩
  refine ExD.cons (ExD.of (Ex.assign3 Ev.int (.inl rfl) (.inl rfl) (.inl rfl) (Φ := fun d ρ' => d = .next ∧ ρ' = _) ⟨rfl, rfl⟩) ?_)
  rintro d ρ' ⟨rfl, rfl⟩
  refine ExD.cons (ExD.frozen (x := x) (sn := Str.ofString "self") (raw := S l) (Ψ := fun fl ρ' => fl = .next ∧ ∃ i, InitInv x dx l i ρ' (scanF l ⟨0, 0, [], 0⟩) ∧ i ≤ 501) rfl (fun od es ep tk eod hg => ws_loop O hz R eod hg rfl ⟨⟨_, rfl⟩, rfl, rfl, rfl, rfl, rfl, rfl, rfl, Nat.le_refl _, Nat.zero_le _⟩ _ _ rfl rfl) ?_)
  rintro d ρ' ⟨rfl, i, ⟨h1, h2, h3, h4, h5, h6, h7, h8, h9, h10⟩, hi⟩
  refine ⟨rfl, upd (upd (upd (upd (upd (fun _ => none) (Str.ofString "self") (.im (.self x dx none))) (Str.ofString "n") (.im (.int (scanL l).n))) (Str.ofString "nt") (.im (.int (scanL l).nt))) (Str.ofString "b") (.im (.int (scanL l).b))) (Str.ofString "count") (.ow (intsN (scanL l).cnt)), ⟨h1, fun y b e => ?_⟩, ?_⟩
  · unfold upd at e
    split at e
    · rename_i hy; cases e; subst hy; exact .inr ⟨h7, .inr ⟨_, rfl, intsN_flat _⟩⟩
    split at e
    · rename_i hy; cases e; subst hy; exact .inr ⟨h6, .inl ⟨_, rfl, rfl⟩⟩
    split at e
    · rename_i hy; cases e; subst hy; exact .inr ⟨h5, .inl ⟨_, rfl, rfl⟩⟩
    split at e
    · rename_i hy; cases e; subst hy; exact .inr ⟨h4, .inl ⟨_, rfl, rfl⟩⟩
    split at e
    · rename_i hy; cases e; subst hy; exact .inl ⟨rfl, rfl⟩
    · cases e
  · have hcl : (scanL l).cnt.length ≤ 502 := by show (scanF l ⟨0, 0, [], 0⟩).cnt.length ≤ 502; omega
    have hsl : sizeLine = 2 ^ 24 := rfl
    refine ExD.cons (ExD.setAttr O (x := x) rfl (Ev.name rfl) (k_n _) (show N_n ∉ [N_raw] by decide) (by simp) ?_)
    refine ExD.cons (ExD.setAttr O (x := x) rfl (Ev.name rfl) (k_nt _) (show N_nt ∉ [N_raw, N_n] by decide) (by simp) ?_)
    refine ExD.freeze (x := Str.ofString "count") (ds := intsN (scanL l).cnt) rfl ?_
    refine ExD.cons (ExD.setAttr O (x := x) rfl (Ev.tuple (Evs.cons (Ev.call (Glb.blt O (gb_tuple _) boot_tuple) Kept.type (Evs.cons (Ev.name rfl) Evs.nil) (fn_tuple (by simp; omega)) (R.mono (by decide))) (Evs.cons (Ev.name rfl) Evs.nil))) (k_norm _) (show N_norm ∉ [N_raw, N_n, N_nt] by decide) (by simp) ?_)
    refine ExD.cons (ExD.setAttr O (x := x) rfl (Ev.as (Ev.cmp (Ev.call (Glb.blt O (gb_len _) boot_len) Kept.builtin (Evs.cons (Ev.name rfl) Evs.nil) (fn_len_lst (by simp; omega)) (R.mono (by decide))) Ev.int op_le_int) (d' := .bool (decide ((scanL l).cnt.length ≤ 1))) ?_) (k_simple _) (show N_simple ∉ [N_raw, N_n, N_nt, N_norm] by decide) (by simp) (ExD.nil ⟨rfl, rfl, rfl⟩))
    congr 1
    have : (((intsN (scanL l).cnt).length : Nat) : Int) = ((scanL l).cnt.length : Int) := by simp
    rw [this]
    by_cases q : (scanL l).cnt.length ≤ 1
    · have : ((scanL l).cnt.length : Int) ≤ 1 := by omega
      simp only [q, this]
    · have : ¬ ((scanL l).cnt.length : Int) ≤ 1 := by omega
      simp only [q, this]
omit O in
theorem here31 {st1 : List Stmt} (e1 : (fd31 c.w.params).1.body = .stmts st1) : FnHere c 31 (fd31 c.w.params).1 [Str.ofString "self", Str.ofString "ws"] st1 :=
  ⟨(fd31 _).2, e1, rfl, rfl, rfl, rfl, rfl, rfl, rfl, by decide, loc2 rfl rfl, bind2 fun _ _ => rfl⟩
theorem fn_ws {l : List Nat} (hz : l.length ≤ 500) : Fn c 3 (.ref 76) [.str (S l)] (wsOf l) := by
  intro A s σ vs R p al Q E k
  obtain ⟨v1, rfl, i1⟩ := al.un1
  have X := p.K O
  obtain ⟨hh, g, d, t, os⟩ := s
  refine wpAny_call (make_core (makes_of X (k_makes _)) (looks_findIn X (k_init _)) (fun self => bind_fn X self (k_initF _)) (.inl rfl) ?_)
  have hk : ∀ a o, hh.get? a = some o → ((hh.push emptyDict).push (instObj 76 hh.objs.size)).get? a = some o := fun a o e => Heap.get?_push_of_some _ (Heap.get?_push_of_some _ e)
  have hsz : (hh.push emptyDict).objs.size = hh.objs.size + 1 := Heap.size_push _ _
  have ex : ((hh.push emptyDict).push (instObj 76 hh.objs.size)).get? (hh.objs.size + 1) = some (instObj 76 hh.objs.size) := by
    have := Heap.get?_push_size (hh.push emptyDict) (o := instObj 76 hh.objs.size) rfl
    rwa [hsz] at this
  have ed : ((hh.push emptyDict).push (instObj 76 hh.objs.size)).get? hh.objs.size = some emptyDict := Heap.get?_push_of_some _ (Heap.get?_push_size _ rfl)
  have big : ∀ a, hh.objs.size ≤ a → σ a = none := fun a ha => by
    cases e : σ a with
    | none => rfl
    | some o => exact absurd (Heap.lt_size (p.sub _ _ e)) (Nat.not_lt.mpr ha)
  have hne : hh.objs.size + 1 ≠ hh.objs.size := Nat.succ_ne_self _
  have ptl : PT < hh.objs.size := p.tab.lt
  have le1 : LeL σ (put σ (hh.objs.size + 1) (instObj 76 hh.objs.size)) := fun a o e => by
    unfold put; rw [if_neg]
    · exact e
    · rintro rfl; rw [big _ (by omega)] at e; cases e
  have p1 : PreG c (put σ (hh.objs.size + 1) (instObj 76 hh.objs.size)) ⟨(hh.push emptyDict).push (instObj 76 hh.objs.size), g, d, t, os⟩ := by
    refine ⟨fun a o e => ?_, fun a o ha e => le1 _ _ (p.base a o ha e), ?_, p.tab.keeps hk, p.gens⟩
    · unfold put at e
      split at e
      · rename_i h; subst h; cases e; exact ex
      · exact hk _ _ (p.sub _ _ e)
    · unfold put; rw [if_neg (Nat.ne_of_lt (Nat.lt_succ_of_lt ptl))]; exact p.pt
  have Ru : Room ((A.under (.builtin "type.__call__" ⟨[.ref 76, v1], []⟩)).deeper (envF (fd31 c.w.params).1 31 ((hh.push emptyDict).push (instObj 76 hh.objs.size)).objs.size)) 1 := by
    refine ⟨R.handled, ?_, ?_⟩
    · have := R.depth
      show A.depth + 1 + 1 + 1 ≤ 900
      omega
    · have := R.units
      have hu : (Code.builtin "type.__call__" ⟨[.ref 76, v1], []⟩).cUnits ≤ 40 := Nat.le_of_ble_eq_true (by kernel_rfl)
      show A.units + (Code.builtin "type.__call__" ⟨[.ref 76, v1], []⟩).cUnits + 3 + 40 * 1 ≤ 9000
      omega
  refine enterD O (here31 rfl) (ds := [.self (hh.objs.size + 1) hh.objs.size none, .str (S l)]) (hc₀ := hh) (σ₀ := σ) (res := [(hh.objs.size, emptyDict)]) rfl (by have := R.depth; show A.depth + 1 < 900; omega) p1 (.cons (.self put_self fun _ e => nomatch e) (.cons (i1.mono le1) .nil)) ?_ hk (tab_some p.tab) le1 ?_ ?_
  · intro q hq
    cases List.mem_singleton.mp hq
    refine ⟨ed, ?_, Ne.symm (Nat.ne_of_lt ptl), size_none _⟩
    show put _ _ _ _ = none
    unfold put; rw [if_neg (Ne.symm hne)]; exact big _ (Nat.le_refl _)
  · intro a ha
    unfold put at ha
    split at ha
    · rename_i h; rw [h]; exact .inr (ge_none (Nat.le_succ _))
    · exact .inl ha
  · intro s' S0
    refine ws_body O hz Ru _ rfl emptyDict s' _ S0 ⟨[], 0, rfl, Nat.zero_le _, (fun _ h => nomatch h), fun _ _ => rfl⟩ _ _ fun fl s2 σ2 ρ2 od2 kvs2 d2 S2 H2 le2 i2 ⟨e1, e2, e3⟩ => ?_
    subst e1 e2
    cases i2
    refine ⟨rfl, ?_⟩
    have r := S2.res (hh.objs.size, od2) List.mem_cons_self
    have le3 : LeL σ2 (put σ2 hh.objs.size od2) := fun b o e => by
      unfold put; rw [if_neg]
      · exact e
      · rintro rfl; rw [r.2.1] at e; cases e
    obtain ⟨u, _, hu⟩ := S2.vars _ _ e3
    refine k _ s2 (put σ2 hh.objs.size od2) ⟨S2.keep, fun a o e => le3 _ _ (le2 _ _ (le1 _ _ e)), fun a o e => ?_, fun a ha => ?_, S2.os, S2.pre.tab, S2.pre.gens, ?_⟩ ?_
    · unfold put at e
      split at e
      · rename_i h; subst h; cases e; exact r.1
      · exact S2.pre.sub _ _ e
    · unfold put at ha
      split at ha
      · rename_i h; rw [h]; exact .inr (size_none _)
      · exact S2.new a ha
    · unfold put; rw [if_neg (Nat.ne_of_lt ptl)]; exact S2.pre.pt
    · obtain ⟨es, ep, rfl, hlen, hin, hno⟩ := H2
      obtain ⟨v1, g1, j1⟩ := hin (N_raw, .str (S l)) (by simp [wsKvs])
      obtain ⟨v2, g2, j2⟩ := hin (N_n, .int (scanL l).n) (by simp [wsKvs])
      obtain ⟨v3, g3, j3⟩ := hin (N_nt, .int (scanL l).nt) (by simp [wsKvs])
      obtain ⟨v4, g4, j4⟩ := hin (N_norm, .tup [.tup (intsN (scanL l).cnt), .int (scanL l).b]) (by simp [wsKvs])
      obtain ⟨v5, g5, j5⟩ := hin (N_simple, .bool (decide ((scanL l).cnt.length ≤ 1))) (by simp [wsKvs])
      cases hu with
      | self hx _ =>
        refine .ws (le3 _ _ hx) put_self ⟨es, ep, rfl, g1, g2, g3, g4, g5, hno⟩ (j1.mono le3) (j2.mono le3) (j3.mono le3) ?_ (j5.mono le3)
        have := j4.mono le3
        simpa [intsN, Function.comp_def] using this
end

/-! text LY -/
/-! format_witnesses: a generator and its join -/
section
variable {prog : Program} {w : World} {A : Around} {E : Value → Shared → Prop} {s : Shared}
theorem elt_raw {cenv : Env} {T : Addr} {a : Int} {t : Tok} {r : List Value} {n : Nat} {m mg mb : Str → Option Value} {np tp cp sp pos : Pos} {k : Nat} {Q : Value → Shared → Prop} (hk : cenv.scope.kind = .function) (h1 : cenv.kindOf (Str.ofString "str") = some .globalImplicit) (h2 : cenv.kindOf (Str.ofString "tup") = some .local)
    (Nl : s.heap.Ns cenv.locals m) (hm : m (Str.ofString "tup") = some (.ref T)) (ht : s.heap.get? T = some (tupO (.int a t :: r) n)) (Ng : s.heap.Ns cenv.globals mg) (hg : mg (Str.ofString "str") = none) (Nb : s.heap.Ns cenv.builtins mb) (hb : mb (Str.ofString "str") = some (.type "str"))
    (ha : a.natAbs.log2 < 1920) (hr : r.length ≤ 10) (hQ : ∀ u tk, Q (.str (toString a) u) { s with toks := tk }) :
    wpAny (model prog w) A (eval (.Call (.Name (Str.ofString "str") np) [.Subscript (.Name (Str.ofString "tup") tp) (.Constant (.int 0) k cp) sp] [] pos) cenv) Q E s := by
  refine wpAny_Call_ofName (Calls.Name_function_global hk h1 (Calls.loadGlobal_builtin Ng hg Nb hb ?_) (by decide))
  refine callWith_of (P := fun _ => True) rfl (fun h _ => ⟨.machine, .inr (.inl rfl), Looks.of_pure rfl⟩) ?_
  refine Calls.evalArgs_plain ?_
  refine spliced_more (Subscript_ (wpAny_Name (wpAny_loadName_local hk h2 Nl hm (wpAny_Constant_int ?_)) (by decide))) (starEach_un rfl)
  have hl : IsTup s.heap T (Value.int a t :: r).toArray := ⟨_, ht, rfl, n, rfl⟩
  refine tail_any (s := { s with toks := s.toks + 1 }) (T := "tuple") hl.typeIs slot_tuple_getitem.lookup (getItem_tuple (j := 0) (x := .int a t) hl (by omega) (by omega) ?_ (by simp) ?_) rfl
  · unfold seqIndex?; simp
  · refine Calls.spliced_nil ⟨trivial, ?_⟩
    exact P.str_of_int ha (hQ _ _)
end
abbrev tripleD (k : Nat × Nat × Nat) : D := .tup [.int k.1, .int k.2.1, .int k.2.2]
/-- the builtins' module is where it was -/
def BOk (c : Cx) : Prop := ∃ mg bm ob, BMod c.H mainGlobals mg bm ob ∧ bm ≠ PT
def prefixL (n : Nat) : List Nat := [97, 116, 32, 116, 97, 98, 32, 115, 105, 122, 101] ++ (if 1 < n then [115] else [])
def fmtText (ws : List (Nat × Nat × Nat)) : Str := S (prefixL ws.length ++ [32]) ++ Txt.join (S [44, 32]) (ws.map fun k => toString (k.1 : Int))

/-! text LZ -/
section
variable {c : Cx} (O : c.Ok)
theorem here87 {st1 : List Stmt} (e1 : (fd87 c.w.params).1.body = .stmts st1) : FnHere c 87 (fd87 c.w.params).1 [Str.ofString "w"] st1 :=
  ⟨(fd87 _).2, e1, rfl, rfl, rfl, rfl, rfl, rfl, rfl, by decide, loc1 rfl, bind1 fun _ => rfl⟩
/-- what is known of the generator behind its making -/
structure GenIn (c : Cx) (f : Fm) (a C I l : Addr) (g : Nat) (gs : GenState) (fp : List Addr) (n : Nat) (F : Nat → Value → Prop) (res : List (Addr × Obj)) (oa oC oI : Obj) (h5 : Heap) : Prop where
  ra : (a, oa) ∈ res
  rC : (C, oC) ∈ res
  rI : (I, oI) ∈ res
  at5 : h5.get? a = some oa ∧ h5.get? C = some oC ∧ h5.get? I = some oI
  isg : ∀ h : Heap, h.get? a = some oa → h.IsGen a g
  gg : f.os₀.2[g]? = some gs
  fpI : ∀ b ∈ fp, b = I ∨ (b ≠ PT ∧ (f.hc.get? b).isSome = true)
  hc5 : ∀ b o, b ≠ PT → f.hc.get? b = some o → h5.get? b = some o
  goes : ∀ s'' : Shared, (∀ b ∈ C :: fp, ∀ o, h5.get? b = some o → s''.heap.get? b = some o) →
    gs.Goes (model c.prog c.w) f.A.in4.in1 (fun n s₀ r s₁ => r = .ok .next ∧ (n = 0 ∧ GenSince C [I] s₀ s₁)) (genProto C fp [I] (fun _ => true) n F) ((passing (fun _ => true) n 0).length - 0) (.send .none) s''
theorem GenIn.at {f : Fm} {a C I l : Addr} {g : Nat} {gs : GenState} {fp : List Addr} {n : Nat} {F : Nat → Value → Prop} {res : List (Addr × Obj)} {oa oC oI : Obj} {h5 : Heap} (X : GenIn c f a C I l g gs fp n F res oa oC oI h5)
    {ρ : Sto} {σ : Look} {s : Shared} (O : c.Ok) (St : St c f res ρ σ s) : GenAt c.prog c.w f.A.in4 a g C fp [I] (fun _ => true) n F 0 s := by
  refine ⟨X.isg _ (St.res _ X.ra).1, St.pre.nolimit O, gs, St.os.gk _ _ X.gg, fun s'' hk => X.goes s'' fun b hb o e => hk b hb o ?_⟩
  rcases List.mem_cons.mp hb with rfl | hb
  · rw [X.at5.2.1] at e; cases e; exact (St.res _ X.rC).1
  · rcases X.fpI b hb with rfl | ⟨hp, hs⟩
    · rw [X.at5.2.2] at e; cases e; exact (St.res _ X.rI).1
    · obtain ⟨o', ho'⟩ := Option.isSome_iff_exists.mp hs
      rw [X.hc5 b o' hp ho'] at e; cases e
      exact St.keep b _ hp ho'
end

/-! text LZa -/
abbrev firstsF (ws : List (Nat × Nat × Nat)) (i : Nat) (y : Value) : Prop := ∃ k u, ws[i]? = some k ∧ y = .str (toString (k.1 : Int)) u
theorem passing_all (n : Nat) : passing (fun _ => true) n 0 = List.range n := by unfold passing; simp
section
variable {M : Model} {A : Around} {E : Value → Shared → Prop} {s : Shared}
theorem code_any {env : Env} {pos : Pos} {qualname : Str} {scope : Scope} {Q : Value → Shared → Prop} (hc : env.code = .ref 86) (t : TabOk s.heap)
    (hQ : ∀ code h3 tk, Heap.ExtBut PT s.heap h3 → TabOk h3 → s.heap.objs.size ≤ h3.objs.size → Q code { s with heap := h3, toks := tk }) : wpAny M A (genexprCode env pos qualname scope) Q E s := by
  obtain ⟨ps, ic, ta⟩ := t
  cases h : codeAmong pos ps.toList with
  | none => exact wpAny_genexprCodeX hc ic ta h fun c' h' tk x1 x2 x3 x4 _ x5 _ => hQ _ h' tk x1 ⟨_, x4, x5⟩ (Nat.le_trans x2 (Nat.le_of_lt x3))
  | some c' => exact wpAny_genexprCode_hit hc ic h (hQ _ s.heap s.toks (fun _ _ _ e => e) ⟨ps, ic, ta⟩ (Nat.le_refl _))
end
section
variable {c : Cx} (O : c.Ok) (B : BOk c)
include O B
set_option maxHeartbeats 4000000 in
theorem gen_make {A : Around} {L : Addr} {hc : Heap} {σ₀ : Look} {os₀ : OG} {ρ : Sto} {σ : Look} {s : Shared} {ws : List (Nat × Nat × Nat)} (R : Room A 0)
    (S0 : St c ⟨A, envF (fd87 c.w.params).1 87 L, (envF (fd87 c.w.params).1 87 L).cells, hc, σ₀, os₀⟩ [] ρ σ s)
    {l : Addr} {vs : List Value} {n : Nat} (hv : VarAt (envF (fd87 c.w.params).1 87 L) s.heap (Str.ofString "w") (.ref l)) (hl : σ₀ l = some (lstO vs n)) (al : All σ₀ vs (ws.map tripleD)) (hsub : ∀ a o, σ₀ a = some o → hc.get? a = some o)
    (hbase : ∀ a o, a ≠ PT → c.H.get? a = some o → σ₀ a = some o) (hws : ∀ k ∈ ws, k.1 < 2 ^ 64)
    {Q : Value → Shared → Prop} {E : Value → Shared → Prop}
    (k : ∀ a C I g gs fp oa oC oI s5, GenIn c ⟨A, envF (fd87 c.w.params).1 87 L, (envF (fd87 c.w.params).1 87 L).cells, hc, σ₀, (s5.os, s5.gens)⟩ a C I l g gs fp ws.length (firstsF ws) [(a, oa), (C, oC), (I, oI)] oa oC oI s5.heap →
      St c ⟨A, envF (fd87 c.w.params).1 87 L, (envF (fd87 c.w.params).1 87 L).cells, hc, σ₀, (s5.os, s5.gens)⟩ [(a, oa), (C, oC), (I, oI)] ρ σ s5 → Grow σ s σ s5 → g = s.gens.size → a ≠ C → a ∉ fp → (∀ b ∈ fp, b < s5.heap.objs.size) → I ∈ fp → cStatics ∈ fp → cStatics ≠ C → cStatics ≠ I → Q (.ref a) s5)
    {scope : Scope} {np tp cp sp cpos px wp pos : Pos} {k0 : Nat} (sk : scope.kind = .function) (sco : scope.isCoroutine = false) (scl : closureFor scope (envF (fd87 c.w.params).1 87 L) = pure []) (scell : ∀ y ∈ scope.names, y.2 ≠ .cell) (s0 : scope.names.lookup (".0" : Str) = some .local) (sx : scope.names.lookup (Str.ofString "tup") = some .local) (sstr : scope.names.lookup (Str.ofString "str") = some .globalImplicit) :
    wpAny c.M A (eval (.GeneratorExp (.Call (.Name (Str.ofString "str") np) [.Subscript (.Name (Str.ofString "tup") tp) (.Constant (.int 0) k0 cp) sp] [] cpos) [⟨.Name (Str.ofString "tup") px, .Name (Str.ofString "w") wp, [], 0⟩] scope pos) (envF (fd87 c.w.params).1 87 L)) Q E s := by
  have hcl0 : hc.get? l = some (lstO vs n) := hsub _ _ hl
  have lpt : l ≠ PT := by rintro rfl; have := S0.le _ _ hl; rw [S0.pre.pt] at this; cases this
  have hsl : s.heap.get? l = some (lstO vs n) := S0.keep _ _ lpt hcl0
  obtain ⟨hkf, hv1⟩ := hv
  obtain ⟨hkl, _, m0, n0, hm0⟩ := hv1.resolve_right (fun h => by have : some NameKind.local = some NameKind.cell := h.1; cases this)
  refine wpAny_GeneratorExp_make sco scl scell s0 sk (by have := R.depth; show A.depth < 1000; omega) ?_ (fun _ => rfl)
  refine wpAny_Name (wpAny_loadName_local hkf hkl n0 hm0 ?_) (by decide)
  have hL : s.heap.IsList l vs.toArray := ⟨_, hsl, rfl, n, rfl⟩
  refine wpAny_pyIter_list hL ?_
  have keep2 : ∀ b o, s.heap.get? b = some o → (s.heap.push { cls := .type "list_iterator", data := .fields #[.ref l, .int 0 0] }).get? b = some o := fun b o e => Heap.get?_push_of_some _ e
  have hlim : s.heap.NoLimit := S0.pre.nolimit O
  refine ⟨hlim.keeps keep2, ?_⟩
  refine code_any rfl (S0.pre.tab.keeps keep2) fun code h3 tk hx3 tab3 hsz3 => ?_
  obtain ⟨mg, bm, ob, BM, hbm⟩ := B
  have iptl : PT < s.heap.objs.size := S0.pre.tab.lt
  have keep3 : ∀ b o, b ≠ PT → s.heap.get? b = some o → h3.get? b = some o := fun b o hb e => hx3 b o hb (keep2 b o e)
  have keepH : ∀ b o, b ≠ PT → c.H.get? b = some o → h3.get? b = some o := fun b o hb e => keep3 b o hb (S0.pre.keepAll b o hb e)
  have nsG : ∀ {a : Addr} {m : Str → Option Value}, a ≠ PT → c.H.Ns a m → h3.Ns a m := fun ha h => let ⟨o, es, ep, e, r⟩ := h; ⟨o, es, ep, keepH _ _ ha e, r⟩
  refine wpAny_builtinsFor (nsG (a := mainGlobals) (by decide) BM.ns) BM.name BM.ne (keepH _ _ hbm BM.obj) BM.cls BM.dict BM.data ?_
  intro h' hn' hs'
  have hszI : (s.heap.push { cls := .type "list_iterator", data := .fields #[.ref l, .int 0 0] }).objs.size = s.heap.objs.size + 1 := Heap.size_push _ _
  have hszC : h'.objs.size = h3.objs.size + 1 := by rw [hs'.1, Heap.size_push]
  have hIC : s.heap.objs.size < h3.objs.size := by rw [hszI] at hsz3; omega
  have keep' : ∀ b o, h3.get? b = some o → h'.get? b = some o := fun b o e => hs'.extBut b o (Nat.ne_of_lt (Heap.lt_size e)) (Heap.get?_push_of_some _ e)
  have eI3 : h3.get? s.heap.objs.size = some { cls := .type "list_iterator", data := .fields #[.ref l, .int 0 0] } := hx3 _ _ (Ne.symm (Nat.ne_of_lt iptl)) (Heap.get?_push_size _ rfl)
  obtain ⟨oC, esC, epC, eC, rC⟩ := id hn'
  have hne : l ≠ s.heap.objs.size := Nat.ne_of_lt (Heap.lt_size hsl)
  have hlenv : vs.length = ws.length := by rw [al.length, List.length_map]
  let fp : List Addr := s.heap.objs.size :: (List.range hc.objs.size).filter (fun b => b != PT && (hc.get? b).isSome)
  have fpm : ∀ b ∈ fp, b = s.heap.objs.size ∨ (b ≠ PT ∧ (hc.get? b).isSome = true) := fun b hb => by
    rcases List.mem_cons.mp hb with rfl | hb
    · exact .inl rfl
    · have := (List.mem_filter.mp hb).2
      simp only [Bool.and_eq_true, bne_iff_ne] at this
      exact .inr this
  have infp : ∀ b o, b ≠ PT → hc.get? b = some o → b ∈ fp := fun b o hb e => List.mem_cons_of_mem _ (List.mem_filter.mpr ⟨List.mem_range.mpr (Heap.lt_size e), by simp [hb, e]⟩)
  have hc3 : ∀ b o, b ≠ PT → hc.get? b = some o → h3.get? b = some o := fun b o hb e => keep3 b o hb (S0.keep b o hb e)
  have fplt : ∀ b ∈ fp, b < h3.objs.size := fun b hb => by
    rcases fpm b hb with rfl | ⟨h1, h2⟩
    · exact hIC
    · obtain ⟨o, e⟩ := Option.isSome_iff_exists.mp h2
      exact Heap.lt_size (hc3 b o h1 e)
  have keep5 : ∀ (gobj : Obj) b o, h3.get? b = some o → (h'.push gobj).get? b = some o := fun gobj b o e => Heap.get?_push_of_some _ (keep' b o e)
  have hcsI : cStatics ∈ fp ∧ cStatics < h3.objs.size ∧ cStatics ≠ s.heap.objs.size := by
    obtain ⟨mc, hns, _⟩ := O.nolimit
    obtain ⟨o, _, _, e, _⟩ := hns
    have e1 := hsub _ _ (hbase cStatics o (by decide) e)
    exact ⟨infp _ _ (by decide) e1, Heap.lt_size (hc3 _ _ (by decide) e1), Nat.ne_of_lt (Heap.lt_size (S0.keep _ _ (by decide) e1))⟩
  have lfp : l ∈ fp := infp _ _ lpt hcl0
  have W0 : ∀ A' : Around, A'.handled = none → Walks c.prog c.w A' s.heap.objs.size fp [s.heap.objs.size] vs.toArray.size (fun i v => vs.toArray[i]? = some v) (fun i h => h.IsListIter s.heap.objs.size l i ∧ h.IsList l vs.toArray) := fun A' hA =>
    (Walks.list (prog := c.prog) (w := c.w) hA s.heap.objs.size l hne vs.toArray).mono_fp fun b hb => by
      rcases List.mem_cons.mp hb with rfl | hb
      · exact List.mem_cons_self
      · cases List.mem_singleton.mp hb; exact lfp
  obtain ⟨mb, Nb, hmb⟩ := O.b
  obtain ⟨mg0, Ng⟩ := O.g
  have hq : ∀ (gobj : Obj), QuietGen c.prog c.w (genEnv scope [] h3.objs.size code builtinsNs (envF (fd87 c.w.params).1 87 L)) (Str.ofString "tup") [] (.Call (.Name (Str.ofString "str") np) [.Subscript (.Name (Str.ofString "tup") tp) (.Constant (.int 0) k0 cp) sp] [] cpos) fp [s.heap.objs.size] (fun i v => vs.toArray[i]? = some v) (fun _ => true) (firstsF ws) (h'.push gobj) := fun gobj => by
    refine ⟨fun A' E' i v s₂ m₂ _ _ _ _ _ => wpAny_pure ⟨rfl, _, _, rfl, fun _ _ e => e⟩, fun A' E' i v s₂ m₂ hA hP _ hn2 hm2 hk2 => ?_⟩
    have hP' : vs[i]? = some v := by simpa using hP
    obtain ⟨d, hd, iv⟩ := al.get' hP'
    rw [List.getElem?_map] at hd
    obtain ⟨kk, hkk, rfl⟩ := Option.map_eq_some_iff.mp hd
    cases iv with | tup eT aT => ?_
    obtain ⟨v1, v2, v3, rfl, j1, j2, j3⟩ := aT.un3
    cases j1 with | int _ t1 => ?_
    rename_i T nT
    have keepF : ∀ b o, b ≠ PT → hc.get? b = some o → s₂.heap.get? b = some o := fun b o hb e => by
      refine hk2 b (infp b o hb e) ?_ o (keep5 gobj b o (hc3 b o hb e))
      rw [List.mem_singleton]; exact Nat.ne_of_lt (Heap.lt_size (S0.keep b o hb e))
    have nsF : ∀ {a : Addr} {m : Str → Option Value}, a ≠ PT → c.H.Ns a m → s₂.heap.Ns a m := fun ha h => let ⟨o, es, ep, e, r⟩ := h; ⟨o, es, ep, keepF _ _ ha (hsub _ _ (hbase _ _ ha e)), r⟩
    have tpt : T ≠ PT := by rintro rfl; have := S0.le _ _ eT; rw [S0.pre.pt] at this; cases this
    refine elt_raw (m := m₂) (mg := mg0) (mb := mb) sk sstr sx hn2 hm2 (keepF _ _ tpt (hsub _ _ eT)) (nsF (a := mainGlobals) (by decide) Ng) (mg_none_of O.k Ng (gb_str _)) (nsF (a := builtinsNs) (by decide) Nb) ((hmb _ (by decide)).trans boot_str) ?_ (by simp) fun u tk' => ⟨⟨kk, u, hkk, rfl⟩, _, _, rfl, fun _ _ e => e⟩
    have := hws kk (List.mem_of_getElem? hkk)
    rw [Int.natAbs_natCast]
    by_cases h0 : kk.1 = 0
    · rw [h0]; decide
    · exact Nat.lt_of_lt_of_le ((Nat.log2_lt h0).2 this) (by decide)
  have hCpt : h3.objs.size ≠ PT := Ne.symm (Nat.ne_of_lt (Nat.lt_trans iptl hIC))
  have nz : ∀ b, s.heap.objs.size ≤ b → b ≠ PT → s.heap.get? b = none := fun b hb _ => ge_none hb
  have lim5 : ∀ gobj, (h'.push gobj).NoLimit := fun gobj => by
    obtain ⟨mc, hns, e⟩ := hlim
    obtain ⟨o, es, ep, ho, r⟩ := hns
    exact ⟨mc, ⟨o, es, ep, keep5 gobj _ _ (keep3 _ _ (by decide) ho), r⟩, e⟩
  obtain ⟨_, _, gs', hgs', hgo⟩ := GenAt.fresh (prog := c.prog) (w := c.w) (A := A.in4) (elt := .Call (.Name (Str.ofString "str") np) [.Subscript (.Name (Str.ofString "tup") tp) (.Constant (.int 0) k0 cp) sp] [] cpos) (iter := .Name (Str.ofString "w") wp) (px := px) (ifs := []) (pos := pos) (scope := scope)
    (cenv := genEnv scope [] h3.objs.size code builtinsNs (envF (fd87 c.w.params).1 87 L)) (m := fun y => if y = ".0" then some (.ref s.heap.objs.size) else none) (a := h'.objs.size) (g := s.gens.size)
    (s := { s with gens := s.gens.push (.fresh (.compStart (.GeneratorExp (.Call (.Name (Str.ofString "str") np) [.Subscript (.Name (Str.ofString "tup") tp) (.Constant (.int 0) k0 cp) sp] [] cpos) [⟨.Name (Str.ofString "tup") px, .Name (Str.ofString "w") wp, [], 0⟩] scope pos) 0 (.ref s.heap.objs.size) .none (genEnv scope [] h3.objs.size code builtinsNs (envF (fd87 c.w.params).1 87 L)))), toks := tk + 1 + 1 + 1, heap := h'.push { cls := .type "generator", data := .fields #[.int s.gens.size 0, .str "<genexpr>" (tk + 1), .str ((envF (fd87 c.w.params).1 87 L).qual ++ "<genexpr>") (tk + 1 + 1)] } })
    R.handled W0 (fun _ => true) (firstsF ws) sx (by simp [genEnv, sk]) sco (fun hm => Nat.lt_irrefl _ (fplt _ hm)) (hq _) ⟨_, _, _, Heap.get?_push_size _ rfl, rfl, rfl, rfl⟩ (Array.getElem?_push_size ..)
    ⟨⟨_, keep5 _ _ _ eI3, rfl, rfl⟩, ⟨_, keep5 _ _ _ (hc3 _ _ lpt hcl0), rfl, n, rfl⟩⟩ (hn'.push _) (lim5 _)
  have G5 : ∀ (gobj : Obj) (gs : GenState) (tk' : Nat), gs.bare = true → Grow σ s σ { s with gens := s.gens.push gs, toks := tk', heap := h'.push gobj } := fun gobj gs tk' hb =>
    ⟨fun b o hb e => keep5 _ _ _ (keep3 b o hb e), fun _ _ e => e, fun b o e => keep5 _ _ _ (keep3 b o (by rintro rfl; rw [S0.pre.pt] at e; cases e) (S0.pre.sub _ _ e)), fun _ h => .inl h, ⟨rfl, fun k x e => by
      have hk : k < s.gens.size := (Array.getElem?_eq_some_iff.mp e).1
      show (s.gens.push gs)[k]? = some x
      rw [Array.getElem?_push_lt hk]; rw [← e]; simp [hk]⟩, tab3.keeps (keep5 gobj), S0.pre.gens.push hb, S0.pre.pt⟩
  have hvs : vs.toArray.size = ws.length := by rw [List.size_toArray, hlenv]
  have big : ∀ b, s.heap.objs.size ≤ b → σ b = none := fun b hb => by
    cases e : σ b with
    | none => rfl
    | some o => exact absurd (Heap.lt_size (S0.pre.sub _ _ e)) (Nat.not_lt.mpr hb)
  have S5 := S0.grow (G5 { cls := .type "generator", data := .fields #[.int s.gens.size 0, .str "<genexpr>" (tk + 1), .str ((envF (fd87 c.w.params).1 87 L).qual ++ "<genexpr>") (tk + 1 + 1)] } (.fresh (.compStart (.GeneratorExp (.Call (.Name (Str.ofString "str") np) [.Subscript (.Name (Str.ofString "tup") tp) (.Constant (.int 0) k0 cp) sp] [] cpos) [⟨.Name (Str.ofString "tup") px, .Name (Str.ofString "w") wp, [], 0⟩] scope pos) 0 (.ref s.heap.objs.size) .none (genEnv scope [] h3.objs.size code builtinsNs (envF (fd87 c.w.params).1 87 L)))) (tk + 1 + 1 + 1) rfl)
  have S6 := St.add (own := [(h'.objs.size, { cls := .type "generator", data := .fields #[.int s.gens.size 0, .str "<genexpr>" (tk + 1), .str ((envF (fd87 c.w.params).1 87 L).qual ++ "<genexpr>") (tk + 1 + 1)] }), (h3.objs.size, oC), (s.heap.objs.size, { cls := .type "list_iterator", data := .fields #[.ref l, .int 0 0] })]) S0 S5 (fun x ds b e h => by
      obtain ⟨b', hb, ow⟩ := S0.vars x _ e
      have := (hb.keeps (G5 _ _ _ rfl).keep).inj h
      cases this
      obtain ⟨vs, n, e1, _⟩ := ow.at_
      rw [e1]; exact Option.some_ne_none _) (fun q hq => by
        simp only [List.mem_cons, List.not_mem_nil, or_false] at hq
        rcases hq with rfl | rfl | rfl
        · exact Heap.get?_push_size _ rfl
        · exact Heap.get?_push_of_some _ eC
        · exact keep5 _ _ _ eI3) (fun q hq => by
        simp only [List.mem_cons, List.not_mem_nil, or_false] at hq
        rcases hq with rfl | rfl | rfl
        · exact big _ (by omega)
        · exact big _ (by omega)
        · exact big _ (Nat.le_refl _)) (fun q hq => by
        simp only [List.mem_cons, List.not_mem_nil, or_false] at hq
        rcases hq with rfl | rfl | rfl
        · exact ge_none (by show _ ≤ h'.objs.size; omega)
        · exact ge_none (Nat.le_of_lt hIC)
        · exact size_none _)
  refine k h'.objs.size h3.objs.size s.heap.objs.size s.gens.size gs' fp _ oC _ _ ⟨List.mem_cons_self, List.mem_cons_of_mem _ List.mem_cons_self, List.mem_cons_of_mem _ (List.mem_cons_of_mem _ List.mem_cons_self), ⟨Heap.get?_push_size _ rfl, Heap.get?_push_of_some _ eC, keep5 _ _ _ eI3⟩, fun h e => ⟨_, _, _, e, rfl, rfl, rfl⟩, hgs', fpm, fun b o hb e => keep5 _ _ _ (hc3 b o hb e), ?_⟩
    ⟨S6.pre, S6.vars, S6.kind, S6.ns, S6.cells, S6.eld, S6.inj, S6.mine, S6.own, S6.ownInj, S6.res, S6.keep, S6.hcPT, S6.le, S6.new, .same _⟩ (G5 _ _ _ rfl) rfl (by rw [hszC]; exact Nat.succ_ne_self _) ?_ ?_ List.mem_cons_self hcsI.1 (Nat.ne_of_lt hcsI.2.1) hcsI.2.2
  · rw [← hvs]; exact hgo
  · intro hm; have h1 := fplt _ hm; rw [hszC] at h1; exact Nat.lt_irrefl _ (Nat.lt_trans (Nat.lt_succ_self _) h1)
  · intro b hb
    have h1 := fplt b hb
    show b < (h'.push _).objs.size
    rw [Heap.size_push, hszC]
    exact Nat.lt_succ_of_lt (Nat.lt_succ_of_lt h1)
end

/-! text LZb -/
section
variable {c : Cx} (O : c.Ok) (B : BOk c)
include O B
set_option maxHeartbeats 1000000 in
theorem fn_format {ws : List (Nat × Nat × Nat)} (hws : ∀ k ∈ ws, k.1 < 2 ^ 64) (hn : ws.length ≤ 1000) (hj : JoinOk (S [44, 32]) (ws.map fun k => toString (k.1 : Int)) = true) (hjl : (Txt.join (S [44, 32]) (ws.map fun k => toString (k.1 : Int))).length ≤ 2 ^ 20) :
    Fn c 1 (.ref 87) [.lst (ws.map tripleD)] (.str (fmtText ws)) := by
  intro A s σ vs0 R p al0 Q E k
  unfold fmtText at k
  generalize hJ : Txt.join (S [44, 32]) (ws.map fun k => Str.ofString (toString (k.1 : Int))) = J at hjl k
  obtain ⟨v1, rfl, i1⟩ := al0.un1
  have hsl : sizeLine = 2 ^ 24 := rfl
  refine wpAny_call (enterD O (here87 rfl) (ds := [.lst (ws.map tripleD)]) (hc₀ := s.heap) (σ₀ := σ) (res := []) rfl (by have := R.depth; omega) p (.cons i1 .nil) (fun _ h => nomatch h) (fun _ _ e => e) (tab_some p.tab) (fun _ _ e => e) (fun a ha => .inl ha) ?_)
  intro s' S0
  have R0 : Room (A.deeper (envF (fd87 c.w.params).1 87 s.heap.objs.size)) 0 := R.deeper _
  obtain ⟨v, hvar, i2⟩ := S0.vars (Str.ofString "w") (.im (.lst (ws.map tripleD))) rfl
  have hw0 : ∃ l vs n, v = .ref l ∧ σ l = some (lstO vs n) ∧ All σ vs (ws.map tripleD) := by
    cases i2 with | lst e a => exact ⟨_, _, _, rfl, e, a⟩
  obtain ⟨l, vs, n, rfl, hl, al⟩ := hw0
  refine wpAny_execs_cons (wpAny_Assign_Name (gen_make O B R0 S0 hvar hl al p.sub p.base hws (fun a C I g gs fp oa oC oI s5 GI S5 G5 hg haC haf hfp hIf hcf hcC hcI => ?_) rfl rfl rfl (by decide) rfl rfl rfl) rfl)
  refine S5.store (x := Str.ofString "firsts") (d := .gen a) (.inl rfl) (.gen a) _ _ fun s6 S6 => ?_
  -- the texts ahead
  have ex2 : ∀ (st1 : List Stmt) (st : Stmt), (fd87 c.w.params).1.body = .stmts st1 → st = st1[1]! → Ex c ⟨A.deeper (envF (fd87 c.w.params).1 87 s.heap.objs.size), envF (fd87 c.w.params).1 87 s.heap.objs.size, (envF (fd87 c.w.params).1 87 s.heap.objs.size).cells, s.heap, σ, (s5.os, s5.gens)⟩ (upd (par [Str.ofString "w"] [.lst (ws.map tripleD)]) (Str.ofString "firsts") (.im (.gen a)))
      (exec st (envF (fd87 c.w.params).1 87 s.heap.objs.size)) (fun d ρ' => d = .next ∧ ρ' = upd (upd (par [Str.ofString "w"] [.lst (ws.map tripleD)]) (Str.ofString "firsts") (.im (.gen a))) (Str.ofString "prefix") (.im (.str (Str.ofString "at tab size")))) := by
    intro st1 st e1 e2
    cases e1
    subst e2
    exact Ex.assign Ev.str (.inl rfl) ⟨rfl, rfl⟩
  refine wpAny_execs_cons (ex2 _ _ rfl rfl _ _ _ S6 _ _ fun fl s7 σ7 ρ7 d7 S7 le7 j7 q7 => ?_)
  obtain ⟨rfl, rfl⟩ := q7
  cases j7
  have ex3 : ∀ (st1 : List Stmt) (st : Stmt), (fd87 c.w.params).1.body = .stmts st1 → st = st1[2]! → Ex c ⟨A.deeper (envF (fd87 c.w.params).1 87 s.heap.objs.size), envF (fd87 c.w.params).1 87 s.heap.objs.size, (envF (fd87 c.w.params).1 87 s.heap.objs.size).cells, s.heap, σ, (s5.os, s5.gens)⟩ (upd (upd (par [Str.ofString "w"] [.lst (ws.map tripleD)]) (Str.ofString "firsts") (.im (.gen a))) (Str.ofString "prefix") (.im (.str (Str.ofString "at tab size"))))
      (exec st (envF (fd87 c.w.params).1 87 s.heap.objs.size)) (fun d ρ' => d = .next ∧ ρ' (Str.ofString "firsts") = some (.im (.gen a)) ∧ ρ' (Str.ofString "prefix") = some (.im (.str (S (prefixL ws.length))))) := by
    intro st1 st e1 e2
    cases e1
    subst e2
    refine Ex.ifB (b := decide (1 < ws.length)) (Tst.cmp (Ev.call (Glb.blt O (gb_len _) boot_len) Kept.builtin (Evs.cons (Ev.name rfl) Evs.nil) (fn_len_lst (by simp; omega)) (R0.mono (by decide))) Ev.int ?_) (fun h => ?_) (fun h => ?_)
    · have := op_gt_int (c := c) (A := A.deeper (envF (fd87 c.w.params).1 87 s.heap.objs.size)) (a := ((ws.map tripleD).length : Nat)) (b := 1)
      have e : decide ((1 : Int) < (((ws.map tripleD).length : Nat) : Int)) = decide (1 < ws.length) := by
        rw [List.length_map]
        by_cases q : 1 < ws.length
        · have : (1 : Int) < (ws.length : Int) := by omega
          simp only [q, this]
        · have : ¬ (1 : Int) < (ws.length : Int) := by omega
          simp only [q, this]
      rw [e] at this; exact this
    · have h' : 1 < ws.length := by simpa using h
      refine Ex.cons (Ex.assign (Ev.bin (Ev.name rfl) Ev.str (op_add_str (by decide))) (.inl rfl) (Ex.nil ⟨rfl, rfl, ?_⟩))
      show some (Mine.B.im (.str (S [97, 116, 32, 116, 97, 98, 32, 115, 105, 122, 101] ++ S [115]))) = _
      rw [S_append]; unfold prefixL; rw [if_pos h']
    · have h' : ¬ 1 < ws.length := by simpa using h
      refine Ex.nil ⟨rfl, rfl, ?_⟩
      show some (Mine.B.im (.str (S [97, 116, 32, 116, 97, 98, 32, 115, 105, 122, 101]))) = _
      unfold prefixL; rw [if_neg h']; simp
  refine wpAny_execs_cons (ex3 _ _ rfl rfl _ _ _ S7 _ _ fun fl s8 σ8 ρ8 d8 S8 le8 j8 q8 => ?_)
  obtain ⟨rfl, hf8, hp8⟩ := q8
  cases j8
  have hpl : (prefixL ws.length).length ≤ 12 := by unfold prefixL; split <;> simp
  -- the join
  refine wpAny_execs_cons (wpAny_Return_some (wpAny_BinOp ?_))
  refine Ev.bin (c := c) (ρ := ρ8) (d2 := .str (S [32])) (d := .str (S (prefixL ws.length ++ [32]))) (Ev.name hp8) Ev.str (by rw [← S_append]; exact op_add_str (by rw [S_length, S_length]; show _ + 1 ≤ _; omega)) s8 σ8 S8.pre S8.vars _ _ fun v9 s9 σ9 g9 i9 => ?_
  have S9 := S8.grow g9
  refine wpAny_Call_method rfl (few_of rfl (Nat.le_of_ble_eq_true rfl)) rfl PySem.F.plainAttrs_str PySem.F.slot_str_join PySem.F.type_str_join (Ev.as (c := c) (ρ := ρ8) (d' := .str (S [44, 32])) Ev.str rfl s9 σ9 S9.pre S9.vars _ _ fun vj s10 σ10 g10 i10 => ?_)
  have S10 := S9.grow g10
  obtain ⟨t1, t2⟩ := OfType.str σ10 vj s10 S10.pre.sub i10
  refine ⟨t1, t2, ?_⟩
  refine callWith_B (c := c) (ρ := ρ8) (first := [vj]) S10.pre S10.vars (Evs.cons (Ev.name hf8) Evs.nil) rfl (fun h => nomatch h) fun us s11 σ11 g11 a11 => ?_
  have S11 := S10.grow g11
  obtain ⟨u1, rfl, iu⟩ := a11.un1
  cases iu
  have ij := i10.mono g11.le
  cases i10 with | str _ tj => ?_
  have GA := GI.at O S11
  have W := (WalksS.genexpQ (prog := c.prog) (w := c.w) (A := (A.deeper (envF (fd87 c.w.params).1 87 s.heap.objs.size)).in4) R0.handled a g C fp [I] (fun _ => true) ws.length (firstsF ws) haC haf (fun b hb => by cases List.mem_singleton.mp hb; exact hIf) (by have := R0.depth; show A.depth + 1 < 1000; have h2 : A.depth + 1 + 0 ≤ 900 := this; omega) hcf hcC (by rw [List.mem_singleton]; exact hcI)).in4_2
  have hlen0 : (passing (fun _ => true) ws.length 0).length = ws.length := by rw [passing_all, List.length_range]
  refine SC.joinGen W (fun i s' st => st.1.typeIs) GA ?_ List.mem_cons_self (fun i v hv => let ⟨j, _, k, u, _, e⟩ := hv; ⟨_, u, e⟩) (fun s12 lt hm hacc => ?_) (by rw [hlen0]; omega)
  · intro b hb
    rcases List.mem_cons.mp hb with rfl | hb
    · exact Heap.lt_size (S11.res _ GI.ra).1
    · rcases List.mem_cons.mp hb with rfl | hb
      · exact Heap.lt_size (S11.res _ GI.rC).1
      · rcases GI.fpI b hb with rfl | ⟨h1, h2⟩
        · exact Heap.lt_size (S11.res _ GI.rI).1
        · obtain ⟨o, e⟩ := Option.isSome_iff_exists.mp h2
          exact Heap.lt_size (S11.keep b o h1 e)
  · have hlt : lt.map (·.1) = ws.map fun k => (Str.ofString (toString (k.1 : Int))) := by
      have hsz : lt.length = ws.length := by
        have := hacc.1
        rw [hlen0] at this
        simpa [strValues] using this
      apply List.ext_getElem?
      intro j
      by_cases hj' : j < ws.length
      · have hj2 : j < lt.length := hsz ▸ hj'
        obtain ⟨i, hi, kk, u, hkk, hv⟩ := hacc.2 j (.str lt[j].1 lt[j].2) (by simp [strValues, List.getElem?_eq_getElem hj2])
        rw [passing_all, List.getElem?_range hj'] at hi
        cases hi
        injection hv with h1 _
        rw [List.getElem?_map, List.getElem?_map, hkk, List.getElem?_eq_getElem hj2]
        simp [h1]
      · rw [List.getElem?_eq_none (by simpa [hsz] using Nat.le_of_not_lt hj'), List.getElem?_eq_none (by simpa using Nat.le_of_not_lt hj')]
    rw [hlt, hJ]
    refine ⟨hj, fun t' tk' => ?_⟩
    have rC := S11.res _ GI.rC
    have rI := S11.res _ GI.rI
    have keepM : ∀ b o, b ≠ C → b ≠ I → s11.heap.get? b = some o → s12.heap.get? b = some o := fun b o h1 h2 e => hm.heap b o (by
      simp only [List.mem_cons, List.not_mem_nil, or_false, not_or]; exact ⟨h1, h2⟩) e
    have tabM : TabOk s12.heap := by
      have e86 : ∀ x : Addr, s.heap.get? x ≠ none → x ≠ C ∧ x ≠ I := fun x hx => ⟨fun e => hx (e ▸ rC.2.2.2.2), fun e => hx (e ▸ rI.2.2.2.2)⟩
      obtain ⟨ps, ic, ta⟩ := S11.pre.tab
      obtain ⟨q1, q2⟩ := e86 PT (tab_some p.tab).1
      obtain ⟨q3, q4⟩ := e86 86 (tab_some p.tab).2
      obtain ⟨o, vs, file, tf, flags, tg, inF, text, tt, op, a1, r1, r2, r3, r4, r5, r6, b1, r⟩ := ic
      obtain ⟨⟨o', vs', a2, r'⟩, tt'⟩ := ta
      exact ⟨ps, ⟨o, vs, file, tf, flags, tg, inF, text, tt, op, keepM _ _ q3 q4 a1, r1, r2, r3, r4, r5, r6, keepM _ _ q1 q2 b1, r⟩, ⟨o', vs', keepM _ _ q3 q4 a2, r'⟩, keepM _ _ q1 q2 tt'⟩
    have subM : ∀ b o, σ11 b = some o → s12.heap.get? b = some o := fun b o e => keepM b o (by rintro rfl; rw [rC.2.1] at e; cases e) (by rintro rfl; rw [rI.2.1] at e; cases e) (S11.pre.sub _ _ e)
    have p12 : PreG c σ11 { s12 with toks := tk' } := ⟨subM, S11.pre.base, S11.pre.pt, tabM, S11.pre.gens.moved hm.gens⟩
    have hadd : Op2 c (A.deeper (envF (fd87 c.w.params).1 87 s.heap.objs.size)) (binaryOp .Add) (.str (S (prefixL ws.length ++ [32]))) (.str J) (.str (S (prefixL ws.length ++ [32]) ++ J)) := op_add_str (by rw [S_length, List.length_append]; simp only [List.length_cons, List.length_nil]; omega)
    have i9' : Is σ11 v9 (.str (S (prefixL ws.length ++ [32]))) := (i9.mono g10.le).mono g11.le
    clear hj hlt hacc GA W ex2 ex3
    refine hadd _ σ11 v9 _ p12 i9' (.str J t') _ _ fun v13 s13 σ13 g13 i13 => ?_
    refine k v13 s13 σ13 ⟨fun b o hb e => g13.keep b o hb (keepM b o (fun q => by rw [q, rC.2.2.2.2] at e; cases e) (fun q => by rw [q, rI.2.2.2.2] at e; cases e) (S11.keep b o hb e)), fun b o e => g13.le _ _ (S11.le _ _ e), g13.sub, fun b hb => ?_, ?_, g13.tab, g13.gens, g13.pt⟩ i13
    · rcases g13.new b hb with h1 | h1
      · exact S11.new b h1
      · refine .inr (none_back (fun o e => ?_) h1)
        by_cases hbp : b = PT
        · subst hbp; exact absurd g13.pt hb
        · exact keepM b o (fun q => by rw [q, rC.2.2.2.2] at e; cases e) (fun q => by rw [q, rI.2.2.2.2] at e; cases e) (S11.keep b o hbp e)
    · refine ⟨g13.os.os.trans (hm.os.trans (S11.os.os.trans (G5.os.os.trans S0.os.os))), fun kk x e => g13.os.gk kk x ?_⟩
      have e0 := S0.os.gk kk x e
      have e1 := S11.os.gk kk x (G5.os.gk kk x e0)
      have hlt' : kk < s'.gens.size := (Array.getElem?_eq_some_iff.mp e0).1
      show s12.gens[kk]? = some x
      rcases hm.gens with h1 | ⟨⟨h1, h2⟩, _⟩
      · rw [h1]; exact e1
      · rw [h2 kk (by rw [hg]; exact Nat.ne_of_lt hlt')]; exact e1
end

/-! text LZc -/
/-! zip of three lists: iterators at N, N+1, N+2, the tuple of them at N+3, the tuple that is handed out again at N+4, the zip at N+5 -/
section
variable {prog : Program} {w : World} {A : Around} {E : Value → Shared → Prop} {s : Shared}
theorem upd3 {T : Addr} {a b e x : Value} {k : Nat} {Q : Unit → Shared → Prop} (hT : s.heap.get? T = some (tupO [a, b, e] 0))
    (h : ∀ h', h'.get? T = some (tupO ([a, b, e].set k x) 0) → Heap.SameBut T s.heap h' → Q () { s with heap := h' }) :
    wpAny (model prog w) A (updateSeq T (·.setIfInBounds k x)) Q E s := by
  refine wpAny_updateSeq hT rfl (h _ ?_ (Heap.SameBut.update ..))
  rw [Heap.get?_update_self _ hT rfl]
  simp [Obj.mapSeq]
set_option maxHeartbeats 1000000 in
theorem zip3_item {N l1 l2 l3 k : Nat} {xs ys zs : Array Value} {x y v a b e : Value} {Q : Value → Shared → Prop} (b1 : l1 < N) (b2 : l2 < N) (b3 : l3 < N)
    (hz : IsZip s.heap (N + 5) (N + 3) (N + 4) .none) (hTI : s.heap.get? (N + 3) = some (tupO [.ref N, .ref (N + 1), .ref (N + 2)] 0)) (hTO : s.heap.get? (N + 4) = some (tupO [a, b, e] 0))
    (h1 : s.heap.IsListIter N l1 k) (h2 : s.heap.IsListIter (N + 1) l2 k) (h3 : s.heap.IsListIter (N + 2) l3 k) (hl1 : s.heap.IsList l1 xs) (hl2 : s.heap.IsList l2 ys) (hl3 : s.heap.IsList l3 zs) (hx : xs[k]? = some x) (hy : ys[k]? = some y) (hv : zs[k]? = some v)
    (hQ : ∀ h', IsZip h' (N + 5) (N + 3) (N + 4) (rawInt s.heap.objs.size) → h'.get? (N + 4) = some (tupO [x, y, v] 0) → h'.IsListIter N l1 (k + 1) → h'.IsListIter (N + 1) l2 (k + 1) → h'.IsListIter (N + 2) l3 (k + 1) → h'.get? s.heap.objs.size = some (tupO [x, y, v] 0) →
      (∀ c o, c ≠ N + 5 → c ≠ N + 4 → c ≠ N → c ≠ N + 1 → c ≠ N + 2 → s.heap.get? c = some o → h'.get? c = some o) → Q (.ref s.heap.objs.size) { s with heap := h' }) :
    wpAny (model prog w) A (Builtin.«zip.__next__» ⟨[.ref (N + 5)], []⟩) (fun fin s' => ∃ v, fin = .done (.ret v) ∧ Q v s') E s := by
  show wpAny _ _ (field (.ref (N + 5)) 2 >>= _) _ _ _
  refine wpAny_bind (wpAny_field hz rfl (x := .bool false) rfl ?_)
  show wpAny _ _ (field (.ref (N + 5)) 3 >>= _) _ _ _
  refine wpAny_bind (wpAny_field hz rfl (x := .ref (N + 3)) rfl ?_)
  refine wpAny_bind (wpAny_seqItems hTI rfl ?_)
  show wpAny _ _ (Builtin.SmallTypes.ownedTupleIsFree (.ref (N + 5)) >>= _) _ _ _
  refine wpAny_bind ?_
  unfold Builtin.SmallTypes.ownedTupleIsFree
  refine wpAny_bind (wpAny_field hz rfl (x := .none) rfl (wpAny_pure ?_))
  simp only [if_true]
  refine wpAny_bind (wpAny_rule ?_)
  refine wpAny_bind (wpAny_field hz rfl (x := .ref (N + 4)) rfl ?_)
  refine wpAny_bind (wpAny_setField_rec hz (by simp) fun g₁ hz₁ hs₁ => ?_)
  replace hz₁ : IsZip g₁ (N + 5) (N + 3) (N + 4) .ellipsis := hz₁
  refine wpAny_bind ?_
  simp only [List.zipIdx_cons, List.zipIdx_nil, List.forIn_cons, List.forIn_nil]
  have n45 : N + 4 ≠ N + 5 := by omega
  refine wpAny_bind (wpAny_bind (wpAny_onRaise ?_))
  show wpAny _ _ (Builtin.SmallTypes.nextOf (.ref N) >>= _) _ _ _
  refine wpAny_bind (wpAny_nextOf_list_item (h1.extBut hs₁.extBut (by show @Ne Nat _ _; omega)) (hl1.extBut hs₁.extBut (by show @Ne Nat _ _; omega)) hx fun g₂ h1₂ hs₂ => wpAny_pure ?_)
  have hTO₂ : g₂.get? (N + 4) = some (tupO [a, b, e] 0) := hs₂.extBut _ _ (by show @Ne Nat _ _; omega) (hs₁.extBut _ _ n45 hTO)
  refine wpAny_bind (wpAny_seqItems hTO₂ rfl ?_)
  refine wpAny_bind (upd3 hTO₂ fun g₃ hTO₃ hs₃ => ?_)
  replace hTO₃ : g₃.get? (N + 4) = some (tupO [x, b, e] 0) := hTO₃
  refine wpAny_bind (wpAny_letGo (wpAny_pure ?_))
  refine wpAny_bind (wpAny_bind (wpAny_onRaise ?_))
  show wpAny _ _ (Builtin.SmallTypes.nextOf (.ref (N + 1)) >>= _) _ _ _
  refine wpAny_bind (wpAny_nextOf_list_item (((h2.extBut hs₁.extBut (by show @Ne Nat _ _; omega)).extBut hs₂.extBut (by show @Ne Nat _ _; omega)).extBut hs₃.extBut (by show @Ne Nat _ _; omega)) (((hl2.extBut hs₁.extBut (by show @Ne Nat _ _; omega)).extBut hs₂.extBut (by show @Ne Nat _ _; omega)).extBut hs₃.extBut (by show @Ne Nat _ _; omega)) hy fun g₄ h2₄ hs₄ => wpAny_pure ?_)
  have hTO₄ : g₄.get? (N + 4) = some (tupO [x, b, e] 0) := hs₄.extBut _ _ (by show @Ne Nat _ _; omega) hTO₃
  refine wpAny_bind (wpAny_seqItems hTO₄ rfl ?_)
  refine wpAny_bind (upd3 hTO₄ fun g₅ hTO₅ hs₅ => ?_)
  replace hTO₅ : g₅.get? (N + 4) = some (tupO [x, y, e] 0) := hTO₅
  refine wpAny_bind (wpAny_letGo (wpAny_pure ?_))
  refine wpAny_bind (wpAny_bind (wpAny_onRaise ?_))
  show wpAny _ _ (Builtin.SmallTypes.nextOf (.ref (N + 2)) >>= _) _ _ _
  refine wpAny_bind (wpAny_nextOf_list_item (((((h3.extBut hs₁.extBut (by show @Ne Nat _ _; omega)).extBut hs₂.extBut (by show @Ne Nat _ _; omega)).extBut hs₃.extBut (by show @Ne Nat _ _; omega)).extBut hs₄.extBut (by show @Ne Nat _ _; omega)).extBut hs₅.extBut (by show @Ne Nat _ _; omega)) (((((hl3.extBut hs₁.extBut (by show @Ne Nat _ _; omega)).extBut hs₂.extBut (by show @Ne Nat _ _; omega)).extBut hs₃.extBut (by show @Ne Nat _ _; omega)).extBut hs₄.extBut (by show @Ne Nat _ _; omega)).extBut hs₅.extBut (by show @Ne Nat _ _; omega)) hv fun g₆ h3₆ hs₆ => wpAny_pure ?_)
  have hTO₆ : g₆.get? (N + 4) = some (tupO [x, y, e] 0) := hs₆.extBut _ _ (by show @Ne Nat _ _; omega) hTO₅
  refine wpAny_bind (wpAny_seqItems hTO₆ rfl ?_)
  refine wpAny_bind (upd3 hTO₆ fun g₇ hTO₇ hs₇ => ?_)
  replace hTO₇ : g₇.get? (N + 4) = some (tupO [x, y, v] 0) := hTO₇
  refine wpAny_bind (wpAny_letGo (wpAny_pure (wpAny_pure ?_)))
  refine wpAny_bind (wpAny_seqItems hTO₇ rfl ?_)
  refine wpAny_bind (wpAny_newTuple ?_)
  have hsz : g₇.objs.size = s.heap.objs.size := by rw [hs₇.1, hs₆.1, hs₅.1, hs₄.1, hs₃.1, hs₂.1, hs₁.1]
  have hz₇ : IsZip g₇ (N + 5) (N + 3) (N + 4) .ellipsis := hs₇.extBut _ _ (by show @Ne Nat _ _; omega) (hs₆.extBut _ _ (by show @Ne Nat _ _; omega) (hs₅.extBut _ _ (by show @Ne Nat _ _; omega) (hs₄.extBut _ _ (by show @Ne Nat _ _; omega) (hs₃.extBut _ _ (by show @Ne Nat _ _; omega) (hs₂.extBut _ _ (by show @Ne Nat _ _; omega) hz₁)))))
  have hk₇ : ∀ c o, c ≠ N + 5 → c ≠ N + 4 → c ≠ N → c ≠ N + 1 → c ≠ N + 2 → s.heap.get? c = some o → g₇.get? c = some o := fun c o c1 c2 c3 c4 c5 e =>
    hs₇.extBut _ _ c2 (hs₆.extBut _ _ c5 (hs₅.extBut _ _ c2 (hs₄.extBut _ _ c4 (hs₃.extBut _ _ c2 (hs₂.extBut _ _ c3 (hs₁.extBut _ _ c1 e))))))
  have i1₇ : g₇.IsListIter N l1 (k + 1) := ((((h1₂.extBut hs₃.extBut (by show @Ne Nat _ _; omega)).extBut hs₄.extBut (by show @Ne Nat _ _; omega)).extBut hs₅.extBut (by show @Ne Nat _ _; omega)).extBut hs₆.extBut (by show @Ne Nat _ _; omega)).extBut hs₇.extBut (by show @Ne Nat _ _; omega)
  have i2₇ : g₇.IsListIter (N + 1) l2 (k + 1) := ((h2₄.extBut hs₅.extBut (by show @Ne Nat _ _; omega)).extBut hs₆.extBut (by show @Ne Nat _ _; omega)).extBut hs₇.extBut (by show @Ne Nat _ _; omega)
  have i3₇ : g₇.IsListIter (N + 2) l3 (k + 1) := h3₆.extBut hs₇.extBut (by show @Ne Nat _ _; omega)
  have hzlt : N + 5 < g₇.objs.size := Heap.lt_size hz₇
  show wpAny _ _ (Builtin.SmallTypes.ownedTupleHandOut (.ref (N + 5)) (.ref g₇.objs.size) >>= _) _ _ _
  refine wpAny_bind ?_
  unfold Builtin.SmallTypes.ownedTupleHandOut
  have hz₈ : IsZip (g₇.push (tupO [x, y, v] 0)) (N + 5) (N + 3) (N + 4) .ellipsis := Heap.get?_push_of_some _ hz₇
  refine wpAny_bind (wpAny_setField_rec hz₈ (by simp) fun g₉ hz₉ hs₉ => ?_)
  replace hz₉ : IsZip g₉ (N + 5) (N + 3) (N + 4) (rawInt g₇.objs.size) := hz₉
  refine wpAny_setField_rec hz₉ (by simp) fun gA hzA hsA => ?_
  replace hzA : IsZip gA (N + 5) (N + 3) (N + 4) (rawInt g₇.objs.size) := hzA
  have up : ∀ c o, c ≠ N + 5 → g₇.get? c = some o → gA.get? c = some o := fun c o c1 e => hsA.extBut _ _ c1 (hs₉.extBut _ _ c1 (Heap.get?_push_of_some _ e))
  have hT : gA.get? g₇.objs.size = some (tupO [x, y, v] 0) := hsA.extBut _ _ (Nat.ne_of_gt hzlt) (hs₉.extBut _ _ (Nat.ne_of_gt hzlt) (Heap.get?_push_size _ rfl))
  rw [hsz] at hzA hT
  refine wpAny_pure ⟨_, rfl, ?_⟩
  show Q (.ref g₇.objs.size) _
  rw [hsz]
  exact hQ gA hzA (up _ _ n45 hTO₇) (i1₇.at fun o e => up _ o (by show @Ne Nat _ _; omega) e) (i2₇.at fun o e => up _ o (by show @Ne Nat _ _; omega) e) (i3₇.at fun o e => up _ o (by show @Ne Nat _ _; omega) e) hT fun c o c1 c2 c3 c4 c5 e => up c o c1 (hk₇ c o c1 c2 c3 c4 c5 e)
theorem zip3_end {N l1 l2 l3 k : Nat} {xs : Array Value} {Q : PySem.Fin → Shared → Prop} (hh : A.handled = none) (b1 : l1 < N)
    (hz : IsZip s.heap (N + 5) (N + 3) (N + 4) .none) (hTI : s.heap.get? (N + 3) = some (tupO [.ref N, .ref (N + 1), .ref (N + 2)] 0))
    (h1 : s.heap.IsListIter N l1 k) (hl1 : s.heap.IsList l1 xs) (hx : xs[k]? = none)
    (hE : ∀ h' e, (∀ c o, c ≠ N + 5 → c ≠ N → s.heap.get? c = some o → h'.get? c = some o) → (∃ o, h'.get? e = some o ∧ o.cls = .type "StopIteration") → E (.ref e) { s with heap := h' }) :
    wpAny (model prog w) A (Builtin.«zip.__next__» ⟨[.ref (N + 5)], []⟩) Q E s := by
  show wpAny _ _ (field (.ref (N + 5)) 2 >>= _) _ _ _
  refine wpAny_bind (wpAny_field hz rfl (x := .bool false) rfl ?_)
  show wpAny _ _ (field (.ref (N + 5)) 3 >>= _) _ _ _
  refine wpAny_bind (wpAny_field hz rfl (x := .ref (N + 3)) rfl ?_)
  refine wpAny_bind (wpAny_seqItems hTI rfl ?_)
  show wpAny _ _ (Builtin.SmallTypes.ownedTupleIsFree (.ref (N + 5)) >>= _) _ _ _
  refine wpAny_bind ?_
  unfold Builtin.SmallTypes.ownedTupleIsFree
  refine wpAny_bind (wpAny_field hz rfl (x := .none) rfl (wpAny_pure ?_))
  simp only [if_true]
  refine wpAny_bind (wpAny_rule ?_)
  refine wpAny_bind (wpAny_field hz rfl (x := .ref (N + 4)) rfl ?_)
  refine wpAny_bind (wpAny_setField_rec hz (by simp) fun g₁ hz₁ hs₁ => ?_)
  replace hz₁ : IsZip g₁ (N + 5) (N + 3) (N + 4) .ellipsis := hz₁
  refine wpAny_bind ?_
  simp only [List.zipIdx_cons, List.zipIdx_nil, List.forIn_cons, List.forIn_nil]
  refine wpAny_bind (wpAny_bind (wpAny_onRaise ?_))
  show wpAny _ _ (Builtin.SmallTypes.nextOf (.ref N) >>= _) _ _ _
  refine wpAny_bind (wpAny_nextOf_list_end hh (h1.extBut hs₁.extBut (by show @Ne Nat _ _; omega)) (hl1.extBut hs₁.extBut (by show @Ne Nat _ _; omega)) hx fun g₂ e hs₂ he => ?_)
  obtain ⟨oe, hoe, hce⟩ := he
  have hz₂ : IsZip g₂ (N + 5) (N + 3) (N + 4) .ellipsis := hs₂ _ _ (by show @Ne Nat _ _; omega) hz₁
  have hez : e ≠ N + 5 := fun x => by subst x; rw [hz₂] at hoe; cases hoe; simp at hce
  exact wpAny_setField_rec hz₂ (by simp) fun g₃ _ hs₃ => hE g₃ e (fun c o c1 c3 x => hs₃.extBut _ _ c1 (hs₂ _ _ c3 (hs₁.extBut _ _ c1 x))) ⟨oe, hs₃.extBut _ _ hez hoe, hce⟩
end
abbrev z3H1 (h : Heap) (l1 : Addr) : Heap := h.push { cls := .type "list_iterator", data := .fields #[.ref l1, .int 0 0] }
abbrev z3H2 (h : Heap) (l1 l2 : Addr) : Heap := (z3H1 h l1).push { cls := .type "list_iterator", data := .fields #[.ref l2, .int 0 0] }
abbrev z3H3 (h : Heap) (l1 l2 l3 : Addr) : Heap := (z3H2 h l1 l2).push { cls := .type "list_iterator", data := .fields #[.ref l3, .int 0 0] }
abbrev z3H4 (h : Heap) (l1 l2 l3 : Addr) : Heap := (z3H3 h l1 l2 l3).push { cls := .type "tuple", data := .seq #[.ref h.objs.size, .ref (z3H1 h l1).objs.size, .ref (z3H2 h l1 l2).objs.size] }
abbrev z3H5 (h : Heap) (l1 l2 l3 : Addr) : Heap := (z3H4 h l1 l2 l3).push { cls := .type "tuple", data := .seq #[.none, .none, .none] }
abbrev z3H6 (h : Heap) (l1 l2 l3 : Addr) : Heap := (z3H5 h l1 l2 l3).push { cls := .type "zip", data := .fields #[.none, .bool false, .bool false, .ref (z3H3 h l1 l2 l3).objs.size, .ref (z3H4 h l1 l2 l3).objs.size] }
set_option maxHeartbeats 2000000 in
theorem meets_zip3 (l1 l2 l3 : Addr) (xs ys zs : Array Value) :
    Meets (Builtin.«zip.__new__» ⟨[.type "zip", .ref l1, .ref l2, .ref l3], []⟩) (fun _ R s => s.heap.IsList l1 xs ∧ s.heap.IsList l2 ys ∧ s.heap.IsList l3 zs ∧
      R (.ok (.ret (.ref (z3H5 s.heap l1 l2 l3).objs.size))) { s with heap := z3H6 s.heap l1 l2 l3 }) :=
  .of_wp fun prog w A R s h => by
    obtain ⟨hp, g, d, tk, os⟩ := s; obtain ⟨hl1, hl2, hl3, h⟩ := h
    have hsub := sub_zip
    have hL1 : Heap.IsList (Shared.heap ⟨hp, g, d, tk, os⟩) l1 xs := hl1
    have hL2 : Heap.IsList (Shared.heap ⟨z3H1 hp l1, g, d, tk, os⟩) l2 ys := Heap.IsList.push hl2 _
    have hL3 : Heap.IsList (Shared.heap ⟨z3H2 hp l1 l2, g, d, tk, os⟩) l3 zs := Heap.IsList.push (Heap.IsList.push hl3 _) _
    wp_walk using wpAny_pyIter_list hL1, wpAny_pyIter_list hL2, wpAny_pyIter_list hL3
    exact ⟨_, rfl, h⟩
theorem typeCall_zip_3 (a b c : Value) : checkTypeCall "zip" ⟨[a, b, c], []⟩ = pure () := by kernel_rfl
theorem newCall_zip_3 (a b c : Value) : checkBuiltinCall "zip.__new__" ⟨[.type "zip", a, b, c], []⟩ = pure () := by kernel_rfl

/-! text LZd -/
theorem args_object_init_4 (a b c d : Value) : argsOk "object.__init__" ⟨[a, b, c, d], []⟩ := by
  unfold argsOk; rw [PySem.signature?_of (id := "object.__init__") (n := ['_', '_', 't', 'i', 'n', 'i', '_', '_']) (o := ['t', 'c', 'e', 'j', 'b', 'o']) (by kernel_rfl) PySem.F.owner_object]; kernel_rfl
section
variable {prog : Program} {w : World} {A : Around} {E : Value → Shared → Prop} {s : Shared}
theorem call_zip3 {l1 l2 l3 : Addr} {xs ys zs : Array Value} {Q : Value → Shared → Prop} (hl1 : s.heap.IsList l1 xs) (hl2 : s.heap.IsList l2 ys) (hl3 : s.heap.IsList l3 zs)
    (h : ∀ h', IsZip h' (s.heap.objs.size + 5) (s.heap.objs.size + 3) (s.heap.objs.size + 4) .none → h'.get? (s.heap.objs.size + 3) = some (tupO [.ref s.heap.objs.size, .ref (s.heap.objs.size + 1), .ref (s.heap.objs.size + 2)] 0) →
      h'.get? (s.heap.objs.size + 4) = some (tupO [.none, .none, .none] 0) → h'.IsListIter s.heap.objs.size l1 0 → h'.IsListIter (s.heap.objs.size + 1) l2 0 → h'.IsListIter (s.heap.objs.size + 2) l3 0 →
      (∀ c o, s.heap.get? c = some o → h'.get? c = some o) → Q (.ref (s.heap.objs.size + 5)) { s with heap := h' }) :
    wpAny (model prog w) A (call (.type "zip") [.ref l1, .ref l2, .ref l3]) Q E s := by
  refine callType_new F.called_zip (by decide) (typeCall_zip_3 _ _ _) (newCall_zip_3 _ _ _) (fun obj => args_object_init_4 obj _ _ _) F.entry_zip_new (meets_zip3 l1 l2 l3 xs ys zs) ⟨hl1, hl2, hl3, ?_⟩
  have z1 : (z3H1 s.heap l1).objs.size = s.heap.objs.size + 1 := Heap.size_push ..
  have z2 : (z3H2 s.heap l1 l2).objs.size = s.heap.objs.size + 2 := by rw [Heap.size_push, z1]
  have z3 : (z3H3 s.heap l1 l2 l3).objs.size = s.heap.objs.size + 3 := by rw [Heap.size_push, z2]
  have z4 : (z3H4 s.heap l1 l2 l3).objs.size = s.heap.objs.size + 4 := by rw [Heap.size_push, z3]
  have z5 : (z3H5 s.heap l1 l2 l3).objs.size = s.heap.objs.size + 5 := by rw [Heap.size_push, z4]
  have p1 : ∀ {o : Obj} {h : Heap} {a : Addr} {x : Obj}, h.get? a = some x → (h.push o).get? a = some x := fun e => Heap.get?_push_of_some _ e
  have g6 : (z3H6 s.heap l1 l2 l3).get? (z3H5 s.heap l1 l2 l3).objs.size = some _ := Heap.get?_push_size _ rfl
  have g5 : (z3H6 s.heap l1 l2 l3).get? (z3H4 s.heap l1 l2 l3).objs.size = some _ := p1 (Heap.get?_push_size _ rfl)
  have g4 : (z3H6 s.heap l1 l2 l3).get? (z3H3 s.heap l1 l2 l3).objs.size = some _ := p1 (p1 (Heap.get?_push_size _ rfl))
  have g3 : (z3H6 s.heap l1 l2 l3).get? (z3H2 s.heap l1 l2).objs.size = some _ := p1 (p1 (p1 (Heap.get?_push_size _ rfl)))
  have g2 : (z3H6 s.heap l1 l2 l3).get? (z3H1 s.heap l1).objs.size = some _ := p1 (p1 (p1 (p1 (Heap.get?_push_size _ rfl))))
  have g1 : (z3H6 s.heap l1 l2 l3).get? s.heap.objs.size = some _ := p1 (p1 (p1 (p1 (p1 (Heap.get?_push_size _ rfl)))))
  show _ ∧ _
  rw [z3, z4, z5] at g6
  rw [z1, z2, z3] at g4
  rw [z4] at g5
  rw [z2] at g3
  rw [z1] at g2
  rw [z5]
  exact ⟨⟨_, g6, rfl⟩, h _ g6 g4 g5 ⟨_, g1, rfl, rfl⟩ ⟨_, g2, rfl, rfl⟩ ⟨_, g3, rfl, rfl⟩ fun c o x => p1 (p1 (p1 (p1 (p1 (p1 x)))))⟩
end

/-! text LZe -/
def zip3D (xs ys zs : List D) : List D := List.zipWith (fun (p : D × D) c => .tup [p.1, p.2, c]) (xs.zip ys) zs
theorem zip3D_get {xs ys zs : List D} {i : Nat} {d : D} (h : (zip3D xs ys zs)[i]? = some d) : ∃ a b e, xs[i]? = some a ∧ ys[i]? = some b ∧ zs[i]? = some e ∧ d = .tup [a, b, e] := by
  unfold zip3D at h
  rw [List.getElem?_zipWith] at h
  cases h1 : (xs.zip ys)[i]? with
  | none => rw [h1] at h; cases h
  | some p =>
    cases h2 : zs[i]? with
    | none => rw [h1, h2] at h; cases h
    | some e =>
      rw [h1, h2] at h; cases h
      obtain ⟨h3, h4⟩ := List.getElem?_zip_eq_some.mp h1
      exact ⟨p.1, p.2, e, h3, h4, rfl, rfl⟩
theorem zip3D_len {xs ys zs : List D} (h1 : ys.length = xs.length) (h2 : zs.length = xs.length) : (zip3D xs ys zs).length = xs.length := by
  unfold zip3D; rw [List.length_zipWith, List.length_zip]; omega
abbrev zipO (N : Nat) (f0 : Value) : Obj := { cls := .type "zip", dict := none, data := .fields #[f0, .bool false, .bool false, .ref (N + 3), .ref (N + 4)], slots := #[] }
def zipJ (N l1 l2 l3 : Nat) (i : Nat) (own : List (Addr × Obj)) : Prop :=
  ∃ o1 o2 o3 a b e, own = [(N, o1), (N + 1, o2), (N + 2, o3), (N + 3, tupO [.ref N, .ref (N + 1), .ref (N + 2)] 0), (N + 4, tupO [a, b, e] 0), (N + 5, zipO N .none)] ∧
    (o1.cls = .type "list_iterator" ∧ o1.data = .fields #[.ref l1, .int i 0]) ∧ (o2.cls = .type "list_iterator" ∧ o2.data = .fields #[.ref l2, .int i 0]) ∧ (o3.cls = .type "list_iterator" ∧ o3.data = .fields #[.ref l3, .int i 0])
theorem six {P : Addr × Obj → Prop} {a b c d e f : Addr × Obj} (h1 : P a) (h2 : P b) (h3 : P c) (h4 : P d) (h5 : P e) (h6 : P f) : ∀ p ∈ [a, b, c, d, e, f], P p := by
  intro p hp
  simp only [List.mem_cons, List.not_mem_nil, or_false] at hp
  rcases hp with rfl | rfl | rfl | rfl | rfl | rfl <;> assumption
section
variable {c : Cx} {A : Around} {env : Env} {ρ : Sto}
set_option maxHeartbeats 2000000 in
theorem wk_zip3 {N : Nat} {l1 l2 l3 : Nat} {vs us ws : List Value} {n1 n2 n3 : Nat} {xs ys zs : List D} {σ₀ : Look} {elts : List Expr} {k : Nat} {pos : Pos} (hh : A.handled = none) (hN : 86 < N) (b1 : l1 < N) (b2 : l2 < N) (b3 : l3 < N)
    (e1 : σ₀ l1 = some (lstO vs n1)) (e2 : σ₀ l2 = some (lstO us n2)) (e3 : σ₀ l3 = some (lstO ws n3)) (a1 : All σ₀ vs xs) (a2 : All σ₀ us ys) (a3 : All σ₀ ws zs) (hy : ys.length = xs.length) (hz : zs.length = xs.length) :
    Wk c A (N + 5) (.Tuple elts k pos) (zip3D xs ys zs) σ₀ (zipJ N l1 l2 l3) := by
  refine ⟨?_, ?_, ?_⟩
  · rintro i d own s σ hd ⟨o1, o2, o3, a, b, e, rfl, ⟨q1, q1'⟩, ⟨q2, q2'⟩, q3, q3'⟩ ha ho p hle Q E kk
    obtain ⟨dx, dy, dz, hx, hy', hz', rfl⟩ := zip3D_get hd
    obtain ⟨x, hx, ix⟩ := a1.get hx
    obtain ⟨y, hy', iy⟩ := a2.get hy'
    obtain ⟨v, hz', iz⟩ := a3.get hz'
    have g : ∀ q ∈ [(N, o1), (N + 1, o2), (N + 2, o3), (N + 3, tupO [.ref N, .ref (N + 1), .ref (N + 2)] 0), (N + 4, tupO [a, b, e] 0), (N + 5, zipO N .none)], s.heap.get? q.1 = some q.2 := ha
    have gz : s.heap.get? (N + 5) = some (zipO N .none) := g (N + 5, _) (by simp)
    have gI : s.heap.get? (N + 3) = some (tupO [.ref N, .ref (N + 1), .ref (N + 2)] 0) := g (N + 3, _) (by simp)
    have gO : s.heap.get? (N + 4) = some (tupO [a, b, e] 0) := g (N + 4, _) (by simp)
    have g1 : s.heap.get? N = some o1 := g (N, _) (by simp)
    have g2 : s.heap.get? (N + 1) = some o2 := g (N + 1, _) (by simp)
    have g3 : s.heap.get? (N + 2) = some o3 := g (N + 2, _) (by simp)
    have off : ∀ q ∈ [(N, o1), (N + 1, o2), (N + 2, o3), (N + 3, tupO [.ref N, .ref (N + 1), .ref (N + 2)] 0), (N + 4, tupO [a, b, e] 0), (N + 5, zipO N .none)], σ q.1 = none := ho
    have L : ∀ {l : Addr} {us : List Value} {n : Nat}, σ₀ l = some (lstO us n) → s.heap.IsList l us.toArray := fun e => ⟨_, p.sub _ _ (hle _ _ e), rfl, _, rfl⟩
    have hT : s.TypeIs (.ref (N + 5)) "zip" := ⟨_, gz, rfl⟩
    unfold pyNext
    refine wpAny_bind (wpAny_attempt (wpAny_callSpecial?_slot (name := Str.ofString "__next__") hT F.slot_zip_next (wpAny_call_entry F.slot_zip_next hT F.entry_zip_next
      (zip3_item (x := x) (y := y) (v := v) b1 b2 b3 gz gI gO ⟨_, g1, q1, q1'⟩ ⟨_, g2, q2, q2'⟩ ⟨_, g3, q3, q3'⟩ (L e1) (L e2) (L e3) (by simpa using hx) (by simpa using hy') (by simpa using hz') fun h' z1 z2 i1 i2 i3 hT' hk => wpAny_pure ?_) (F.args_zip_next_1 _))))
    refine wpAny_letOwnedTupleGo_zip z1 fun h2 hz2 hs2 => ?_
    have lt5 : N + 5 < s.heap.objs.size := Heap.lt_size gz
    have up : ∀ c o, c ≠ N + 5 → h'.get? c = some o → h2.get? c = some o := fun c o h e => hs2.extBut _ _ h e
    obtain ⟨p1, j1, j1', j1''⟩ := i1
    obtain ⟨p2, j2, j2', j2''⟩ := i2
    obtain ⟨p3, j3, j3', j3''⟩ := i3
    have hI' : h'.get? (N + 3) = some (tupO [.ref N, .ref (N + 1), .ref (N + 2)] 0) := hk _ _ (by show @Ne Nat _ _; omega) (by show @Ne Nat _ _; omega) (by show @Ne Nat _ _; omega) (by show @Ne Nat _ _; omega) (by show @Ne Nat _ _; omega) gI
    have keep : ∀ c o, c ≠ N + 5 → c ≠ N + 4 → c ≠ N → c ≠ N + 1 → c ≠ N + 2 → s.heap.get? c = some o → h2.get? c = some o := fun c o c1 c2 c3 c4 c5 ee => up c o c1 (hk c o c1 c2 c3 c4 c5 ee)
    have offc : ∀ c o, σ c = some o → c ≠ N + 5 ∧ c ≠ N + 4 ∧ c ≠ N ∧ c ≠ N + 1 ∧ c ≠ N + 2 := fun c o ee => by
      refine ⟨?_, ?_, ?_, ?_, ?_⟩ <;> intro qq <;> rw [qq] at ee
      · rw [off (N + 5, zipO N .none) (by simp)] at ee; cases ee
      · rw [off (N + 4, tupO [a, b, e] 0) (by simp)] at ee; cases ee
      · rw [off (N, o1) (by simp)] at ee; cases ee
      · rw [off (N + 1, o2) (by simp)] at ee; cases ee
      · rw [off (N + 2, o3) (by simp)] at ee; cases ee
    have hPT : PT < s.heap.objs.size := p.tab.lt
    refine kk (.ref s.heap.objs.size) { s with heap := h2 } (put σ s.heap.objs.size (tupO [x, y, v] 0)) [(N, p1), (N + 1, p2), (N + 2, p3), (N + 3, tupO [.ref N, .ref (N + 1), .ref (N + 2)] 0), (N + 4, tupO [x, y, v] 0), (N + 5, zipO N .none)]
      ⟨?_, put_le p, ?_, ?_, .same _, ?_, p.gens, ?_, ?_, ?_, ?_⟩ ⟨p1, p2, p3, x, y, v, rfl, ⟨j1', j1''⟩, ⟨j2', j2''⟩, j3', j3''⟩ (.tup put_self ((All.cons ix (.cons iy (.cons iz .nil))).mono fun b o ee => put_le p b o (hle b o ee)))
    · intro c o hpt hne ee
      exact keep c o (fun q => hne (N + 5, zipO N .none) (by simp) q.symm) (fun q => hne (N + 4, tupO [a, b, e] 0) (by simp) q.symm) (fun q => hne (N, o1) (by simp) q.symm) (fun q => hne (N + 1, o2) (by simp) q.symm) (fun q => hne (N + 2, o3) (by simp) q.symm) ee
    · intro c o ee
      unfold put at ee
      split at ee
      · rename_i h; cases ee; rw [h]; exact up _ _ (Nat.ne_of_gt lt5) hT'
      · obtain ⟨c1, c2, c3, c4, c5⟩ := offc c o ee
        exact keep c o c1 c2 c3 c4 c5 (p.sub _ _ ee)
    · intro c h
      unfold put at h
      split at h
      · rename_i q; rw [q]; exact .inr (size_none _)
      · exact .inl h
    · obtain ⟨ps, ic, ta⟩ := p.tab
      obtain ⟨o, vs, file, tf, flags, tg, inF, text, tt, op, a1, r1, r2, r3, r4, r5, r6, b1, r⟩ := ic
      obtain ⟨⟨o', vs', e', r'⟩, t'⟩ := ta
      have k1 : ∀ o, s.heap.get? PT = some o → h2.get? PT = some o := fun o ee => keep _ _ (by show @Ne Nat 82 _; omega) (by show @Ne Nat 82 _; omega) (by show @Ne Nat 82 _; omega) (by show @Ne Nat 82 _; omega) (by show @Ne Nat 82 _; omega) ee
      have k2 : ∀ o, s.heap.get? 86 = some o → h2.get? 86 = some o := fun o ee => keep _ _ (by show @Ne Nat 86 _; omega) (by show @Ne Nat 86 _; omega) (by show @Ne Nat 86 _; omega) (by show @Ne Nat 86 _; omega) (by show @Ne Nat 86 _; omega) ee
      exact ⟨ps, ⟨o, vs, file, tf, flags, tg, inF, text, tt, op, k2 _ a1, r1, r2, r3, r4, r5, r6, k1 _ b1, r⟩, ⟨o', vs', k2 _ e', r'⟩, k1 _ t'⟩
    · unfold put; rw [if_neg (Nat.ne_of_lt hPT)]; exact p.pt
    · exact six (P := fun p => ∃ q ∈ [(N, o1), (N + 1, o2), (N + 2, o3), (N + 3, tupO [.ref N, .ref (N + 1), .ref (N + 2)] 0), (N + 4, tupO [a, b, e] 0), (N + 5, zipO N .none)], q.1 = p.1) ⟨(N, o1), by simp, rfl⟩ ⟨(N + 1, o2), by simp, rfl⟩ ⟨(N + 2, o3), by simp, rfl⟩ ⟨(N + 3, tupO [.ref N, .ref (N + 1), .ref (N + 2)] 0), by simp, rfl⟩ ⟨(N + 4, tupO [a, b, e] 0), by simp, rfl⟩ ⟨(N + 5, zipO N .none), by simp, rfl⟩
    · exact six (P := fun p => h2.get? p.1 = some p.2) (up _ _ (by show @Ne Nat _ _; omega) j1) (up _ _ (by show @Ne Nat _ _; omega) j2) (up _ _ (by show @Ne Nat _ _; omega) j3) (up _ _ (by show @Ne Nat _ _; omega) hI') (up _ _ (by show @Ne Nat _ _; omega) z2) hz2
    · have nn : ∀ c, c < s.heap.objs.size → σ c = none → put σ s.heap.objs.size (tupO [x, y, v] 0) c = none := fun c h ee => by unfold put; rw [if_neg (Nat.ne_of_lt h)]; exact ee
      exact six (P := fun p => put σ s.heap.objs.size (tupO [x, y, v] 0) p.1 = none) (nn _ (by show @LT.lt Nat _ N _; omega) (off (N, o1) (by simp))) (nn _ (by show @LT.lt Nat _ (N + 1) _; omega) (off (N + 1, o2) (by simp))) (nn _ (by show @LT.lt Nat _ (N + 2) _; omega) (off (N + 2, o3) (by simp))) (nn _ (by show @LT.lt Nat _ (N + 3) _; omega) (off (N + 3, tupO [.ref N, .ref (N + 1), .ref (N + 2)] 0) (by simp))) (nn _ (by show @LT.lt Nat _ (N + 4) _; omega) (off (N + 4, tupO [a, b, e] 0) (by simp))) (nn _ lt5 (off (N + 5, zipO N .none) (by simp)))
  · rintro own s σ ⟨o1, o2, o3, a, b, e, rfl, ⟨q1, q1'⟩, ⟨q2, q2'⟩, q3, q3'⟩ ha ho p hle Q E kk
    have g : ∀ q ∈ [(N, o1), (N + 1, o2), (N + 2, o3), (N + 3, tupO [.ref N, .ref (N + 1), .ref (N + 2)] 0), (N + 4, tupO [a, b, e] 0), (N + 5, zipO N .none)], s.heap.get? q.1 = some q.2 := ha
    have gz : s.heap.get? (N + 5) = some (zipO N .none) := g (N + 5, _) (by simp)
    have gI : s.heap.get? (N + 3) = some (tupO [.ref N, .ref (N + 1), .ref (N + 2)] 0) := g (N + 3, _) (by simp)
    have g1 : s.heap.get? N = some o1 := g (N, _) (by simp)
    have off : ∀ q ∈ [(N, o1), (N + 1, o2), (N + 2, o3), (N + 3, tupO [.ref N, .ref (N + 1), .ref (N + 2)] 0), (N + 4, tupO [a, b, e] 0), (N + 5, zipO N .none)], σ q.1 = none := ho
    have hT : s.TypeIs (.ref (N + 5)) "zip" := ⟨_, gz, rfl⟩
    have hlen : vs.length = (zip3D xs ys zs).length := by rw [zip3D_len hy hz, a1.length]
    have hL : s.heap.IsList l1 vs.toArray := ⟨_, p.sub _ _ (hle _ _ e1), rfl, _, rfl⟩
    unfold pyNext
    refine wpAny_bind (wpAny_attempt (wpAny_callSpecial?_slot (name := Str.ofString "__next__") hT F.slot_zip_next (wpAny_call_entry F.slot_zip_next hT F.entry_zip_next
      (zip3_end (l2 := l2) (l3 := l3) hh b1 gz gI ⟨_, g1, q1, q1'⟩ hL (by simp; omega) fun h' e hk he => ?_) (F.args_zip_next_1 _))))
    obtain ⟨oe, hoe, hce⟩ := he
    refine wpAny_bind (wpAny_isInstance (T := "StopIteration") (b := true) ⟨oe, hoe, hce⟩ isSubtype_stop ?_)
    refine wpAny_pure (kk _ ⟨[], ?_, fun _ _ e => e, ?_, fun a h => .inl h, .same _, ?_, p.gens, p.pt, (fun _ h => nomatch h), (fun _ h => nomatch h), (fun _ h => nomatch h)⟩)
    · intro c o hpt hne ee
      exact hk c o (fun q => hne (N + 5, zipO N .none) (by simp) q.symm) (fun q => hne (N, o1) (by simp) q.symm) ee
    · intro c o ee
      refine hk c o ?_ ?_ (p.sub _ _ ee) <;> intro qq <;> rw [qq] at ee
      · rw [off (N + 5, zipO N .none) (by simp)] at ee; cases ee
      · rw [off (N, o1) (by simp)] at ee; cases ee
    · obtain ⟨ps, ic, ta⟩ := p.tab
      obtain ⟨o, vs, file, tf, flags, tg, inF, text, tt, op, a1, r1, r2, r3, r4, r5, r6, b1, r⟩ := ic
      obtain ⟨⟨o', vs', e', r'⟩, t'⟩ := ta
      have k1 : ∀ o, s.heap.get? PT = some o → h'.get? PT = some o := fun o ee => hk _ _ (by show @Ne Nat 82 _; omega) (by show @Ne Nat 82 _; omega) ee
      have k2 : ∀ o, s.heap.get? 86 = some o → h'.get? 86 = some o := fun o ee => hk _ _ (by show @Ne Nat 86 _; omega) (by show @Ne Nat 86 _; omega) ee
      exact ⟨ps, ⟨o, vs, file, tf, flags, tg, inF, text, tt, op, k2 _ a1, r1, r2, r3, r4, r5, r6, k1 _ b1, r⟩, ⟨o', vs', k2 _ e', r'⟩, k1 _ t'⟩
  · rintro i own s ⟨o1, o2, o3, a, b, e, rfl, _⟩ ha hσ Q E q
    have gz : s.heap.get? (N + 5) = some (zipO N .none) := ha (N + 5, zipO N .none) (by simp)
    exact wpAny_pyIter_zip (TI := N + 3) (TO := N + 4) (f0 := .none) gz q

/-- for x, y, z in zip(a, b, e) -/
theorem It.zip3 {ea eb ec : Expr} {zn : Str} {np pos tp : Pos} {elts : List Expr} {k : Nat} {xs ys zs : List D} (hh : A.handled = none) (G : Glb c A env zn (.type "zip")) (h : Evs c A env ρ [ea, eb, ec] [.lst xs, .lst ys, .lst zs])
    (hy : ys.length = xs.length) (hz : zs.length = xs.length) (hs : noStar [ea, eb, ec] = true := by rfl) : It c A env ρ (.Call (.Name zn np) [ea, eb, ec] [] pos) (.Tuple elts k tp) (zip3D xs ys zs) := by
  intro s σ p V Q E kk
  refine wpAny_Call_ofName (G np s σ p _ _ ?_)
  refine callWith_D (first := []) p V Kept.type h (fun ws s1 σ1 g1 al => ?_) (noStar_mem hs) (fun e => nomatch e)
  obtain ⟨v1, v2, v3, rfl, i1, i2, i3⟩ := al.un3
  have p1 := g1.pre p
  have un : ∀ {v : Value} {ds : List D}, Is σ1 v (.lst ds) → ∃ l us n, v = .ref l ∧ σ1 l = some (lstO us n) ∧ All σ1 us ds := fun i => by
    cases i with | lst e a => exact ⟨_, _, _, rfl, e, a⟩
  obtain ⟨l1, us1, n1, rfl, e1, a1⟩ := un i1
  obtain ⟨l2, us2, n2, rfl, e2, a2⟩ := un i2
  obtain ⟨l3, us3, n3, rfl, e3, a3⟩ := un i3
  have L : ∀ {l : Addr} {us : List Value} {n : Nat}, σ1 l = some (lstO us n) → s1.heap.IsList l us.toArray := fun e => ⟨_, p1.sub _ _ e, rfl, _, rfl⟩
  refine call_zip3 (L e1) (L e2) (L e3) fun h' z1 z2 z3 j1 j2 j3 hk => ?_
  refine wpAny_pyIter_zip z1 ?_
  obtain ⟨p1o, q1, q1', q1''⟩ := j1
  obtain ⟨p2o, q2, q2', q2''⟩ := j2
  obtain ⟨p3o, q3, q3', q3''⟩ := j3
  have g2 : Grow σ1 s1 σ1 { s1 with heap := h' } := .heap (tk := s1.toks) p1 hk
  have nge : ∀ j, σ1 (s1.heap.objs.size + j) = none := fun j => by
    cases q : σ1 (s1.heap.objs.size + j) with
    | none => rfl
    | some o => exact absurd (Heap.lt_size (p1.sub _ _ q)) (by show ¬ @LT.lt Nat _ (s1.heap.objs.size + j) _; omega)
  have fge : ∀ j, s.heap.get? (s1.heap.objs.size + j) = none := fun j => none_back (fun o e => g1.keep _ o (by
    have := p1.tab.lt
    show @Ne Nat (s1.heap.objs.size + j) 82
    have h2 : (82 : Nat) < s1.heap.objs.size := this
    omega) e) (ge_none (by show @LE.le Nat _ _ (s1.heap.objs.size + j); omega))
  refine kk (s1.heap.objs.size + 5) { s1 with heap := h' } σ1 [(s1.heap.objs.size, p1o), (s1.heap.objs.size + 1, p2o), (s1.heap.objs.size + 2, p3o), (s1.heap.objs.size + 3, tupO [.ref s1.heap.objs.size, .ref (s1.heap.objs.size + 1), .ref (s1.heap.objs.size + 2)] 0), (s1.heap.objs.size + 4, tupO [.none, .none, .none] 0), (s1.heap.objs.size + 5, zipO s1.heap.objs.size .none)] _
    (g1.trans g2) ?_ ?_ ?_ (wk_zip3 hh (tab_lt p1.tab) (Heap.lt_size (p1.sub _ _ e1)) (Heap.lt_size (p1.sub _ _ e2)) (Heap.lt_size (p1.sub _ _ e3)) e1 e2 e3 a1 a2 a3 hy hz) ⟨p1o, p2o, p3o, .none, .none, .none, rfl, ⟨q1', q1''⟩, ⟨q2', q2''⟩, q3', q3''⟩
  · exact six (P := fun p => h'.get? p.1 = some p.2) q1 q2 q3 z2 z3 z1
  · exact six (P := fun p => σ1 p.1 = none) (nge 0) (nge 1) (nge 2) (nge 3) (nge 4) (nge 5)
  · exact six (P := fun p => s.heap.get? p.1 = none) (fge 0) (fge 1) (fge 2) (fge 3) (fge 4) (fge 5)
end

/-! text PA -/
/-! the plain law: fronts of lines -/
inductive Form : List (Nat × Nat) → List Nat → Nat → Prop
  | done (b : Nat) : Form (List.replicate b (0, 0)) [] b
  | tab {P : List (Nat × Nat)} {rs : List Nat} {b : Nat} (r t : Nat) : (t = 9 ∨ t = 41 ∨ t = 73) → Form P rs b → Form (List.replicate r (0, 0) ++ (t, 1) :: P) (r :: rs) b

theorem Form.ex : ∀ P : List (Nat × Nat), (∀ k ∈ P, blankB k.1 k.2 = true) → ∃ rs b, Form P rs b
  | [], _ => ⟨[], 0, .done 0⟩
  | k :: P, h => by
    obtain ⟨rs, b, F⟩ := Form.ex P fun x hx => h x (List.mem_cons_of_mem _ hx)
    have hk := h k List.mem_cons_self
    have : k = (0, 0) ∨ ∃ t, (t = 9 ∨ t = 41 ∨ t = 73) ∧ k = (t, 1) := by
      obtain ⟨a, b⟩ := k
      simp only [blankB, Bool.or_eq_true, Bool.and_eq_true, beq_iff_eq] at hk
      rcases hk with ⟨rfl, rfl⟩ | ⟨h, rfl⟩
      · exact .inl rfl
      · exact .inr ⟨a, by omega, rfl⟩
    rcases this with rfl | ⟨t, ht, rfl⟩
    · cases F with
      | done b => exact ⟨[], b + 1, .done (b + 1)⟩
      | tab r t ht F => exact ⟨_, _, .tab (r + 1) t ht F⟩
    · exact ⟨_, _, .tab 0 t ht F⟩

abbrev signsL (l : List (Nat × Nat)) : List Nat := l.map fun k => signN k.1 k.2
/-- the signs of a front -/
def linO : List Nat → Nat → List Nat
  | [], b => List.replicate b 32
  | r :: rs, b => List.replicate r 32 ++ 9 :: linO rs b
/-- the echo of a front -/
def linE : List Nat → Nat → List Nat
  | [], b => List.replicate b 32
  | r :: rs, b => List.replicate r 32 ++ 94 :: 73 :: linE rs b
theorem Form.signs {P : List (Nat × Nat)} {rs : List Nat} {b : Nat} (F : Form P rs b) : signsL P = linO rs b := by
  induction F with
  | done b => simp [signsL, linO, signN]
  | tab r t ht F ih =>
    have h1 : signN t 1 = 9 := by rcases ht with rfl | rfl | rfl <;> rfl
    have h0 : signN 0 0 = 32 := rfl
    simp only [signsL, List.map_append, List.map_replicate, List.map_cons, h1, h0, linO] at ih ⊢
    rw [← ih]
theorem linO_len : ∀ (rs : List Nat) (b : Nat), (linO rs b).length = b + (rs.map (· + 1)).sum
  | [], b => by simp [linO]
  | r :: rs, b => by simp [linO, linO_len rs b]; omega
theorem Form.len {P : List (Nat × Nat)} {rs : List Nat} {b : Nat} (F : Form P rs b) : P.length = b + (rs.map (· + 1)).sum := by
  rw [← linO_len, ← F.signs, List.length_map]
theorem Form.blank {P : List (Nat × Nat)} {rs : List Nat} {b : Nat} (F : Form P rs b) : ∀ k ∈ P, blankB k.1 k.2 = true := by
  induction F with
  | done b => intro k hk; rw [List.eq_of_mem_replicate hk]; rfl
  | tab r t ht F ih =>
    intro k hk
    rcases List.mem_append.mp hk with hk | hk
    · rw [List.eq_of_mem_replicate hk]; rfl
    · rcases List.mem_cons.mp hk with rfl | hk
      · rcases ht with rfl | rfl | rfl <;> rfl
      · exact ih k hk

/-! the scan -/
theorem scan_run : ∀ (r : Nat) (X : List Nat) (st : Scan), scanF (List.replicate r 32 ++ X) st = scanF X ⟨st.n + r, st.nt, st.cnt, st.b + r⟩
  | 0, X, st => rfl
  | r + 1, X, st => by
    rw [List.replicate_succ, List.cons_append, scanF, if_pos rfl, scan_run r]
    simp only [Nat.add_assoc, Nat.add_comm 1 r]
theorem scan_lin : ∀ (rs : List Nat) (b : Nat) (X : List Nat) (n nt : Nat) (cnt : List Nat), scanF (linO rs b ++ X) ⟨n, nt, cnt, 0⟩ = scanF X ⟨n + (b + (rs.map (· + 1)).sum), nt + rs.length, rs.foldl bump cnt, b⟩
  | [], b, X, n, nt, cnt => by simp [linO, scan_run]
  | r :: rs, b, X, n, nt, cnt => by
    rw [linO, List.append_assoc, scan_run, List.cons_append, scanF, if_neg (by decide), if_pos rfl, scan_lin rs]
    simp only [Nat.zero_add, List.map_cons, List.sum_cons, List.length_cons, List.foldl_cons]
    congr 2 <;> omega
theorem nonblank_sign : ∀ k < 96, ∀ h < 4, blankB k h = false → signN k h ≠ 32 ∧ signN k h ≠ 9 := by decide +kernel
/-- a line: its front and the rest -/
structure Line (typed P T : List (Nat × Nat)) (rs : List Nat) (b : Nat) : Prop where
  eq : typed = P ++ T
  form : Form P rs b
  head : ∀ k, T.head? = some k → blankB k.1 k.2 = false
  keys : ∀ k ∈ typed, k.1 < 96 ∧ k.2 < 4
abbrev cntOf (rs : List Nat) : List Nat := rs.foldl bump []
theorem takeWhile_head {α : Type} (p : α → Bool) : ∀ (l : List α) (x : α), (l.dropWhile p).head? = some x → p x = false
  | [], x, h => by simp at h
  | a :: l, x, h => by
    rw [List.dropWhile_cons] at h
    split at h
    · exact takeWhile_head p l x h
    · rename_i hp; simp at h; subst h; simpa using hp
theorem mem_takeWhile {α : Type} (p : α → Bool) : ∀ (l : List α) (x : α), x ∈ l.takeWhile p → p x = true
  | [], x, h => by simp at h
  | a :: l, x, h => by
    rw [List.takeWhile_cons] at h
    split at h
    · rename_i hp
      rcases List.mem_cons.mp h with rfl | h
      · exact hp
      · exact mem_takeWhile p l x h
    · simp at h
theorem Line.ex (typed : List (Nat × Nat)) (h : ∀ k ∈ typed, k.1 < 96 ∧ k.2 < 4) : ∃ P T rs b, Line typed P T rs b := by
  obtain ⟨rs, b, F⟩ := Form.ex (typed.takeWhile fun k => blankB k.1 k.2) (mem_takeWhile (fun k : Nat × Nat => blankB k.1 k.2) typed)
  exact ⟨_, _, rs, b, ⟨List.takeWhile_append_dropWhile.symm, F, takeWhile_head (fun k : Nat × Nat => blankB k.1 k.2) typed, h⟩⟩
section
variable {typed P T : List (Nat × Nat)} {rs : List Nat} {b : Nat}
theorem Line.scan (L : Line typed P T rs b) : scanL (signsL typed) = ⟨P.length, rs.length, cntOf rs, b⟩ := by
  have h : signsL typed = linO rs b ++ signsL T := by rw [L.eq, ← L.form.signs]; simp [signsL]
  unfold scanL
  rw [h, scan_lin, ← L.form.len]
  simp only [Nat.zero_add]
  have hT := L.head
  have hk : ∀ k ∈ T, k.1 < 96 ∧ k.2 < 4 := fun k hk => L.keys k (by rw [L.eq]; exact List.mem_append_right _ hk)
  cases T with
  | nil => rfl
  | cons k T =>
    obtain ⟨h1, h2⟩ := hk k List.mem_cons_self
    obtain ⟨e1, e2⟩ := nonblank_sign k.1 h1 k.2 h2 (hT k rfl)
    show scanF (signN k.1 k.2 :: _) _ = _
    rw [scanF, if_neg e1, if_neg e2]
/-- where the front ends -/
theorem Line.stop (L : Line typed P T rs b) : (((typed ++ [(1, 0)]).map fun (k : Nat × Nat) => blankB k.1 k.2).idxOf false) = P.length := by
  have hb := L.form.blank
  have hT := L.head
  rw [L.eq, List.append_assoc, List.map_append]
  have h1 : false ∉ P.map fun k : Nat × Nat => blankB k.1 k.2 := by
    intro h
    obtain ⟨k, hk, e⟩ := List.mem_map.mp h
    rw [hb k hk] at e; cases e
  have h2 : ∃ r, (T ++ [(1, 0)]).map (fun k : Nat × Nat => blankB k.1 k.2) = false :: r := by
    cases T with
    | nil => exact ⟨_, rfl⟩
    | cons k T => exact ⟨(T ++ [(1, 0)]).map (fun k : Nat × Nat => blankB k.1 k.2), by rw [List.cons_append, List.map_cons, hT k rfl]⟩
  obtain ⟨r, e⟩ := h2
  rw [e, List.idxOf_append]
  simp [h1]
theorem stop_has (typed : List (Nat × Nat)) : false ∈ (typed ++ [(1, 0)]).map fun k : Nat × Nat => blankB k.1 k.2 := by
  simp [blankB]
end

/-! the counts -/
theorem bump_get (cnt : List Nat) (b i : Nat) : (bump cnt b).getD i 0 = cnt.getD i 0 + if b = i then 1 else 0 := by
  unfold bump
  dsimp only
  have hl : b < (if cnt.length ≤ b then cnt ++ List.replicate (b - cnt.length + 1) 0 else cnt).length := by
    split
    · simp; omega
    · omega
  have hg : ∀ i, (if cnt.length ≤ b then cnt ++ List.replicate (b - cnt.length + 1) 0 else cnt).getD i 0 = cnt.getD i 0 := by
    intro i
    split
    · simp only [List.getD_eq_getElem?_getD, List.getElem?_append]
      split
      · rfl
      · rw [List.getElem?_eq_none (l := cnt) (by omega), List.getElem?_replicate]; split <;> rfl
    · rfl
  generalize (if cnt.length ≤ b then cnt ++ List.replicate (b - cnt.length + 1) 0 else cnt) = c1 at hl hg
  rw [← hg i]
  simp only [List.getD_eq_getElem?_getD, List.getElem?_set]
  split
  · rename_i h; subst h; simp [hl]
  · simp
theorem bump_length (cnt : List Nat) (b : Nat) : (bump cnt b).length = max cnt.length (b + 1) := by
  unfold bump
  dsimp only
  rw [List.length_set]
  split
  · simp; omega
  · omega
theorem cnt_get : ∀ (rs cnt : List Nat) (i : Nat), (rs.foldl bump cnt).getD i 0 = cnt.getD i 0 + rs.count i
  | [], cnt, i => by simp
  | r :: rs, cnt, i => by
    rw [List.foldl_cons, cnt_get rs, bump_get, List.count_cons]
    by_cases h : r = i
    · simp [h]; omega
    · simp [h]
theorem cnt_length : ∀ (rs cnt : List Nat), cnt.length ≤ (rs.foldl bump cnt).length ∧ (∀ r ∈ rs, r < (rs.foldl bump cnt).length) ∧ ((rs.foldl bump cnt).length = cnt.length ∨ ∃ r ∈ rs, (rs.foldl bump cnt).length = r + 1)
  | [], cnt => by simp
  | r :: rs, cnt => by
    obtain ⟨h1, h2, h3⟩ := cnt_length rs (bump cnt r)
    rw [bump_length] at h1 h3
    rw [List.foldl_cons]
    refine ⟨by omega, fun x hx => ?_, ?_⟩
    · rcases List.mem_cons.mp hx with rfl | hx
      · omega
      · exact h2 x hx
    · rcases h3 with h3 | ⟨x, hx, h3⟩
      · by_cases hc : cnt.length ≤ r
        · exact .inr ⟨r, List.mem_cons_self, by omega⟩
        · exact .inl (by omega)
      · exact .inr ⟨x, List.mem_cons_of_mem _ hx, h3⟩
theorem cntOf_get (rs : List Nat) (i : Nat) : (cntOf rs).getD i 0 = rs.count i := by rw [cnt_get]; simp
theorem cntOf_lt (rs : List Nat) : ∀ r ∈ rs, r < (cntOf rs).length := (cnt_length rs []).2.1
theorem cntOf_top (rs : List Nat) : (cntOf rs).length = 0 ∨ ∃ r ∈ rs, (cntOf rs).length = r + 1 := (cnt_length rs []).2.2
theorem list_ext0 {a b : List Nat} (hl : a.length = b.length) (h : ∀ i, a.getD i 0 = b.getD i 0) : a = b := by
  refine List.ext_getElem? fun i => ?_
  have := h i
  simp only [List.getD_eq_getElem?_getD] at this
  by_cases hi : i < a.length
  · rw [List.getElem?_eq_getElem hi, List.getElem?_eq_getElem (hl ▸ hi)] at this ⊢
    simpa using this
  · rw [List.getElem?_eq_none (by omega), List.getElem?_eq_none (by omega)]
theorem cntOf_ext {rs rs2 : List Nat} (h : ∀ i, rs.count i = rs2.count i) : cntOf rs = cntOf rs2 := by
  have hm : ∀ i, i ∈ rs ↔ i ∈ rs2 := fun i => by rw [← List.count_pos_iff, ← List.count_pos_iff, h i]
  refine list_ext0 ?_ fun i => by rw [cntOf_get, cntOf_get, h i]
  have a1 := cntOf_lt rs
  have a2 := cntOf_lt rs2
  rcases cntOf_top rs with e | ⟨r, hr, e⟩ <;> rcases cntOf_top rs2 with e2 | ⟨r2, hr2, e2⟩
  · omega
  · have := a1 r2 ((hm r2).mpr hr2); omega
  · have := a2 r ((hm r).mp hr); omega
  · have h1 := a1 r2 ((hm r2).mpr hr2)
    have h2 := a2 r ((hm r).mp hr)
    omega

/-! levels -/
def lev (rs : List Nat) (b ts : Nat) : Nat := b + ts * ((rs.map (· / ts)).sum + rs.length)
theorem sum_delta (f : Nat → Nat) (ts a : Nat) : ∀ n, ((List.range n).map fun j => f j * if a = ts + j then 1 else 0).sum = if ts ≤ a ∧ a < ts + n then f (a - ts) else 0
  | 0 => by simp; omega
  | n + 1 => by
    rw [List.range_succ, List.map_append, List.sum_append, sum_delta f ts a n]
    simp only [List.map_cons, List.map_nil, List.sum_cons, List.sum_nil, Nat.add_zero]
    by_cases h1 : a = ts + n
    · subst h1
      rw [if_neg (by omega), if_pos rfl, if_pos (by omega)]
      simp
    · rw [if_neg h1]
      by_cases h2 : ts ≤ a ∧ a < ts + n
      · rw [if_pos h2, if_pos (by omega)]; omega
      · rw [if_neg h2, if_neg (by omega)]; omega
theorem sum_add (f g : Nat → Nat) : ∀ l : List Nat, (l.map fun j => f j + g j).sum = (l.map f).sum + (l.map g).sum
  | [] => rfl
  | a :: l => by simp only [List.map_cons, List.sum_cons, sum_add f g l]; omega
theorem sum_zero : ∀ n, ((List.range n).map fun _ => 0).sum = 0
  | 0 => rfl
  | n + 1 => by rw [List.range_succ, List.map_append, List.sum_append, sum_zero n]; rfl
theorem il_sum (ts : Nat) (hts : 0 < ts) (n : Nat) : ∀ rs : List Nat, (∀ r ∈ rs, r < ts + n) → ((List.range n).map fun j => (ts + j) / ts * rs.count (ts + j)).sum = (rs.map (· / ts)).sum
  | [], _ => by
    simp only [List.count_nil, Nat.mul_zero, List.map_nil, List.sum_nil]
    exact sum_zero n
  | r :: rs, h => by
    have ih := il_sum ts hts n rs fun x hx => h x (List.mem_cons_of_mem _ hx)
    have hr := h r List.mem_cons_self
    have e : (fun j => (ts + j) / ts * (r :: rs).count (ts + j)) = fun j => (ts + j) / ts * rs.count (ts + j) + (ts + j) / ts * if r = ts + j then 1 else 0 := by
      funext j
      rw [List.count_cons, Nat.mul_add]
      by_cases hq : r = ts + j
      · simp [hq]
      · simp [hq]
    rw [e, sum_add, ih, sum_delta (fun j => (ts + j) / ts), List.map_cons, List.sum_cons]
    by_cases hq : ts ≤ r
    · rw [if_pos ⟨hq, hr⟩, show ts + (r - ts) = r by omega]; omega
    · rw [if_neg (by omega), Nat.div_eq_of_lt (by omega)]; omega
theorem level_lev (rs : List Nat) (b ts : Nat) (hts : 0 < ts) : levelN (cntOf rs) b rs.length ts = lev rs b ts := by
  unfold levelN lev ilN
  have h := il_sum ts hts ((cntOf rs).length - ts) rs fun r hr => by have := cntOf_lt rs r hr; omega
  have e : (fun j => (ts + j) / ts * (cntOf rs).getD (ts + j) 0) = fun j => (ts + j) / ts * rs.count (ts + j) := by
    funext j; rw [cntOf_get]
  rw [e, h]
theorem lev_one (rs : List Nat) (b : Nat) : lev rs b 1 = b + (rs.map (· + 1)).sum := by
  unfold lev
  congr 1
  rw [Nat.one_mul]
  induction rs with
  | nil => rfl
  | cons r rs ih => simp only [List.map_cons, List.sum_cons, List.length_cons, Nat.div_one] at ih ⊢; omega
theorem long_spec (rs : List Nat) (b : Nat) : (∀ r ∈ rs, r ≤ longN (cntOf rs) b) ∧ b ≤ longN (cntOf rs) b ∧ (longN (cntOf rs) b = b ∨ longN (cntOf rs) b ∈ rs) := by
  unfold longN
  refine ⟨fun r hr => ?_, by omega, ?_⟩
  · have := cntOf_lt rs r hr; omega
  · rcases cntOf_top rs with e | ⟨r, hr, e⟩
    · exact .inl (by omega)
    · by_cases h : b ≤ r
      · refine .inr ?_
        rw [show max ((cntOf rs).length - 1) b = r by omega]; exact hr
      · exact .inl (by omega)

/-! text PB -/
/-! equal and less, by the levels -/
theorem sum_top (N : Nat) : ∀ rs : List Nat, (∀ r ∈ rs, r ≤ N + 1) → (rs.map (· / (N + 1))).sum = rs.count (N + 1)
  | [], _ => rfl
  | r :: rs, h => by
    rw [List.map_cons, List.sum_cons, List.count_cons, sum_top N rs fun x hx => h x (List.mem_cons_of_mem _ hx)]
    have := h r List.mem_cons_self
    by_cases e : r = N + 1
    · subst e; rw [Nat.div_self (by omega)]; simp; omega
    · rw [Nat.div_eq_of_lt (by omega)]; simp [e]
theorem sum_rest (N ts : Nat) : ∀ rs : List Nat, (rs.map (· / ts)).sum = ((rs.filter (· != N)).map (· / ts)).sum + rs.count N * (N / ts)
  | [] => by simp
  | r :: rs => by
    rw [List.map_cons, List.sum_cons, List.count_cons, List.filter_cons, sum_rest N ts rs]
    by_cases e : r = N
    · subst e
      simp only [bne_self_eq_false, Bool.false_eq_true, if_false, beq_self_eq_true, if_true, Nat.add_mul, Nat.one_mul]; omega
    · simp only [bne_iff_ne, ne_eq, e, not_false_eq_true, if_true, List.map_cons, List.sum_cons, beq_iff_eq, if_false, Nat.add_zero]; omega
theorem len_rest (N : Nat) : ∀ rs : List Nat, rs.length = (rs.filter (· != N)).length + rs.count N
  | [] => by simp
  | r :: rs => by
    rw [List.length_cons, List.count_cons, List.filter_cons, len_rest N rs]
    by_cases e : r = N
    · subst e; simp; omega
    · simp [e]; omega
theorem counts_eq : ∀ (N : Nat) (rs rs2 : List Nat), (∀ r ∈ rs, r ≤ N) → (∀ r ∈ rs2, r ≤ N) → rs.length = rs2.length → (∀ ts, 1 ≤ ts → ts ≤ N → (rs.map (· / ts)).sum = (rs2.map (· / ts)).sum) → ∀ i, rs.count i = rs2.count i
  | 0, rs, rs2, h1, h2, hl, _, i => by
    have e1 : rs = List.replicate rs.length 0 := List.eq_replicate_iff.mpr ⟨rfl, fun r hr => Nat.le_zero.mp (h1 r hr)⟩
    have e2 : rs2 = List.replicate rs2.length 0 := List.eq_replicate_iff.mpr ⟨rfl, fun r hr => Nat.le_zero.mp (h2 r hr)⟩
    rw [e1, e2, hl]
  | N + 1, rs, rs2, h1, h2, hl, hs, i => by
    have ht : rs.count (N + 1) = rs2.count (N + 1) := by rw [← sum_top N rs h1, ← sum_top N rs2 h2]; exact hs (N + 1) (by omega) (Nat.le_refl _)
    by_cases hi : i = N + 1
    · rw [hi, ht]
    · have ih := counts_eq N (rs.filter (· != N + 1)) (rs2.filter (· != N + 1)) (fun r hr => ?_) (fun r hr => ?_) ?_ (fun ts a b => ?_) i
      · rwa [List.count_filter (by simpa using hi), List.count_filter (by simpa using hi)] at ih
      · obtain ⟨x, y⟩ := List.mem_filter.mp hr
        have := h1 r x
        have y : r ≠ N + 1 := by simpa using y
        omega
      · obtain ⟨x, y⟩ := List.mem_filter.mp hr
        have := h2 r x
        have y : r ≠ N + 1 := by simpa using y
        omega
      · have q1 := len_rest (N + 1) rs
        have q2 := len_rest (N + 1) rs2
        omega
      · have q1 := sum_rest (N + 1) ts rs
        have q2 := sum_rest (N + 1) ts rs2
        rw [ht] at q1
        have := hs ts a (by omega)
        omega
theorem sum_small (ts : Nat) : ∀ rs : List Nat, (∀ r ∈ rs, r < ts) → (rs.map (· / ts)).sum = 0
  | [], _ => rfl
  | r :: rs, h => by
    rw [List.map_cons, List.sum_cons, sum_small ts rs fun x hx => h x (List.mem_cons_of_mem _ hx), Nat.div_eq_of_lt (h r List.mem_cons_self)]
theorem sum_perm {rs rs2 : List Nat} (h : ∀ i, rs.count i = rs2.count i) (ts : Nat) : (rs.map (· / ts)).sum = (rs2.map (· / ts)).sum ∧ rs.length = rs2.length := by
  have p : rs.Perm rs2 := List.perm_iff_count.mpr h
  exact ⟨(p.map _).sum_nat, p.length_eq⟩
section
variable {rs rs2 : List Nat} {b b2 N : Nat}
theorem norm_iff (h1 : ∀ r ∈ rs, r ≤ N) (hb : b ≤ N) (h2 : ∀ r ∈ rs2, r ≤ N) (hb2 : b2 ≤ N) :
    (cntOf rs = cntOf rs2 ∧ b = b2) ↔ ∀ ts, 1 ≤ ts → ts ≤ N + 1 → lev rs b ts = lev rs2 b2 ts := by
  constructor
  · rintro ⟨hc, rfl⟩ ts _ _
    have hi : ∀ i, rs.count i = rs2.count i := fun i => by rw [← cntOf_get, ← cntOf_get, hc]
    obtain ⟨e1, e2⟩ := sum_perm hi ts
    unfold lev; rw [e1, e2]
  · intro h
    have ht := h (N + 1) (by omega) (Nat.le_refl _)
    unfold lev at ht
    rw [sum_small _ rs (fun r hr => by have := h1 r hr; omega), sum_small _ rs2 (fun r hr => by have := h2 r hr; omega), Nat.zero_add, Nat.zero_add] at ht
    have hbb : b = b2 := by
      have e1 : (b + (N + 1) * rs.length) % (N + 1) = b := by rw [Nat.add_mul_mod_self_left, Nat.mod_eq_of_lt (by omega)]
      have e2 : (b2 + (N + 1) * rs2.length) % (N + 1) = b2 := by rw [Nat.add_mul_mod_self_left, Nat.mod_eq_of_lt (by omega)]
      rw [← e1, ht, e2]
    subst hbb
    have hl : rs.length = rs2.length := Nat.eq_of_mul_eq_mul_left (Nat.succ_pos N) (Nat.add_left_cancel ht)
    refine ⟨cntOf_ext (counts_eq N rs rs2 h1 h2 hl fun ts a c => ?_), rfl⟩
    have := h ts a (by omega)
    unfold lev at this
    have := Nat.eq_of_mul_eq_mul_left a (Nat.add_left_cancel this)
    omega
theorem simple_zero (h : (cntOf rs).length ≤ 1) : ∀ r ∈ rs, r = 0 := fun r hr => by have := cntOf_lt rs r hr; omega
theorem lev_simple (h : ∀ r ∈ rs, r = 0) (ts : Nat) (hts : 0 < ts) : lev rs b ts = b + ts * rs.length := by
  unfold lev; rw [sum_small ts rs (fun r hr => by rw [h r hr]; exact hts), Nat.zero_add]
theorem less_iff {n n2 : Nat} (hn : n = lev rs b 1) (hn2 : n2 = lev rs2 b2 1) (hN : N + 1 = sizesN (cntOf rs) b (cntOf rs2) b2) :
    lessB n rs.length (cntOf rs) b (decide ((cntOf rs).length ≤ 1)) n2 rs2.length (cntOf rs2) b2 (decide ((cntOf rs2).length ≤ 1)) = true ↔ ∀ ts, 1 ≤ ts → ts ≤ N + 1 → lev rs b ts < lev rs2 b2 ts := by
  have hN' : N = max (longN (cntOf rs) b) (longN (cntOf rs2) b2) := by unfold sizesN at hN; omega
  have hb : b ≤ N := by have := (long_spec rs b).2.1; omega
  have hb2 : b2 ≤ N := by have := (long_spec rs2 b2).2.1; omega
  unfold lessB
  rw [hn, hn2]
  split
  · rename_i h
    constructor
    · intro e; cases e
    · intro e; have := e 1 (by omega) (by omega); omega
  · rename_i h
    split
    · rename_i hs
      simp only [Bool.and_eq_true, decide_eq_true_eq] at hs
      have z1 := simple_zero hs.1
      have z2 := simple_zero hs.2
      rw [lev_simple z1 1 (by omega), lev_simple z2 1 (by omega)] at h
      rw [decide_eq_true_eq]
      constructor
      · intro hle ts h1 _
        rw [lev_simple z1 ts (by omega), lev_simple z2 ts (by omega)]
        obtain ⟨k, rfl⟩ : ∃ k, ts = k + 1 := ⟨ts - 1, by omega⟩
        have := Nat.mul_le_mul_left k hle
        rw [Nat.add_mul, Nat.add_mul]
        omega
      · intro hall
        have := hall (N + 1) (by omega) (Nat.le_refl _)
        rw [lev_simple z1 _ (by omega), lev_simple z2 _ (by omega)] at this
        by_cases hc : rs.length ≤ rs2.length
        · exact hc
        · exfalso
          have h3 : rs2.length + 1 ≤ rs.length := by omega
          have := Nat.mul_le_mul_left (N + 1) h3
          rw [Nat.mul_add] at this
          omega
    · rename_i hs
      rw [← hN, Nat.add_sub_cancel, List.all_eq_true]
      constructor
      · intro hall ts h1 h2
        by_cases e : ts = 1
        · subst e; omega
        · have := hall (ts - 2) (List.mem_range.mpr (by omega))
          rw [show 2 + (ts - 2) = ts by omega, level_lev _ _ _ (by omega), level_lev _ _ _ (by omega), decide_eq_true_eq] at this
          omega
      · intro hall j hj
        have := hall (2 + j) (by omega) (by have := List.mem_range.mp hj; omega)
        rw [level_lev _ _ _ (by omega), level_lev _ _ _ (by omega), decide_eq_true_eq]
        omega
end

/-! rows and columns -/
theorem echo_sign : ∀ k < 96, ∀ h < 4, unctrlL (signN k h) = echoL k h := by decide +kernel
theorem graph_sign : ∀ k < 96, ∀ h < 4, graphB (signN k h) = (decide (h = 0) && (decide (0 < k) && decide (k < 95))) := by decide +kernel
theorem echo_graph : ∀ k < 96, ∀ h < 4, blankB k h = false → ∃ a r, echoL k h = a :: r ∧ graphB a = true := by
  have h : ∀ k < 96, ∀ h < 4, blankB k h = false → (match echoL k h with | [] => false | a :: _ => graphB a) = true := by decide +kernel
  intro k hk j hj hb
  have := h k hk j hj hb
  cases e : echoL k j with
  | nil => rw [e] at this; cases this
  | cons a r => rw [e] at this; exact ⟨a, r, rfl, this⟩
abbrev restL (T : List (Nat × Nat)) : List Nat := T.flatMap fun k => echoL k.1 k.2
theorem row_rest (size : Nat) : ∀ (T : List (Nat × Nat)) (row : List Nat), T.foldl (rowStep size) (row, false) = (row ++ restL T, false)
  | [], row => by simp
  | k :: T, row => by
    rw [List.foldl_cons]
    have : rowStep size (row, false) k = (row ++ echoL k.1 k.2, false) := by simp [rowStep]
    rw [this, row_rest size T]
    simp [restL]
theorem row_run (size : Nat) : ∀ (r m : Nat) (X : List (Nat × Nat)), (List.replicate r (0, 0) ++ X).foldl (rowStep size) (List.replicate m 32, true) = X.foldl (rowStep size) (List.replicate (m + r) 32, true)
  | 0, m, X => rfl
  | r + 1, m, X => by
    rw [List.replicate_succ, List.cons_append, List.foldl_cons]
    have e : rowStep size (List.replicate m 32, true) (0, 0) = (List.replicate (m + 1) 32, true) := by
      rw [List.replicate_succ']; rfl
    rw [e, row_run size r (m + 1) X]
    congr 3; omega
theorem pad_eq {size m r : Nat} (hs : 0 < size) : size * m + r + (size - (size * m + r) % size) = size * (m + r / size + 1) := by
  rw [Nat.add_comm (size * m) r, Nat.add_mul_mod_self_left]
  have h1 := Nat.div_add_mod r size
  have h2 := Nat.mod_lt r hs
  rw [Nat.mul_add, Nat.mul_add]
  omega
theorem row_form (size : Nat) (hs : 0 < size) {P : List (Nat × Nat)} {rs : List Nat} {b : Nat} (F : Form P rs b) : ∀ m, P.foldl (rowStep size) (List.replicate (size * m) 32, true) = (List.replicate (size * m + lev rs b size) 32, true) := by
  induction F with
  | done b =>
    intro m
    have := row_run size b (size * m) []
    rw [List.append_nil] at this
    rw [this]
    simp [lev]
  | tab r t ht F ih =>
    intro m
    rw [row_run, List.foldl_cons]
    have hb : blankB t 1 = true := by rcases ht with rfl | rfl | rfl <;> rfl
    have e : rowStep size (List.replicate (size * m + r) 32, true) (t, 1) = (List.replicate (size * (m + r / size + 1)) 32, true) := by
      unfold rowStep
      dsimp only
      rw [hb, if_pos ⟨rfl, rfl⟩, List.length_replicate, List.replicate_append_replicate, pad_eq hs]
      rfl
    rw [e, ih]
    congr 2
    unfold lev
    simp only [List.map_cons, List.sum_cons, List.length_cons, Nat.mul_add]
    omega
section
variable {typed P T : List (Nat × Nat)} {rs : List Nat} {b : Nat}
theorem Line.row (L : Line typed P T rs b) {size : Nat} (hs : 0 < size) : rowL typed size = List.replicate (lev rs b size) 32 ++ restL T := by
  unfold rowL
  have h0 := row_form size hs L.form 0
  rw [Nat.mul_zero, Nat.zero_add] at h0
  rw [L.eq, List.foldl_append, show ([] : List Nat) = List.replicate 0 32 from rfl, h0]
  have hT := L.head
  cases T with
  | nil => simp
  | cons k T =>
    rw [List.foldl_cons]
    have hk := hT k rfl
    have : rowStep size (List.replicate (lev rs b size) 32, true) k = (List.replicate (lev rs b size) 32 ++ echoL k.1 k.2, false) := by simp [rowStep, hk]
    rw [this, row_rest]
    simp [restL]
theorem Line.col (L : Line typed P T rs b) (m : Nat) : colL (List.replicate m 32 ++ restL T) = m := by
  unfold colL
  rw [List.findIdx_append]
  have h1 : (List.replicate m 32).findIdx graphB = m := by
    have : (List.replicate m 32).findIdx graphB = (List.replicate m 32).length := List.findIdx_eq_length.mpr fun x hx => by rw [List.eq_of_mem_replicate hx]; rfl
    rwa [List.length_replicate] at this
  rw [h1, List.length_replicate, if_neg (Nat.lt_irrefl _)]
  have hT := L.head
  have hk : ∀ k ∈ T, k.1 < 96 ∧ k.2 < 4 := fun k hk => L.keys k (by rw [L.eq]; exact List.mem_append_right _ hk)
  cases T with
  | nil => simp [restL]
  | cons k T =>
    obtain ⟨h1, h2⟩ := hk k List.mem_cons_self
    obtain ⟨a, r, e, g⟩ := echo_graph k.1 h1 k.2 h2 (hT k rfl)
    have : restL (k :: T) = a :: (r ++ restL T) := by simp [restL, e]
    rw [this, List.findIdx_cons, g]
    simp
theorem Line.rest (L : Line typed P T rs b) : ((signsL typed).drop P.length).flatMap unctrlL = restL T := by
  have hk : ∀ k ∈ T, k.1 < 96 ∧ k.2 < 4 := fun k hk => L.keys k (by rw [L.eq]; exact List.mem_append_right _ hk)
  rw [L.eq, signsL, ← List.map_drop, List.drop_left']
  · clear L
    induction T with
    | nil => rfl
    | cons k T ih =>
      rw [List.map_cons, List.flatMap_cons, ih fun x hx => hk x (List.mem_cons_of_mem _ hx)]
      obtain ⟨h1, h2⟩ := hk k List.mem_cons_self
      rw [echo_sign k.1 h1 k.2 h2]
      rfl
  · rfl
theorem lin_echo : ∀ (rs : List Nat) (b : Nat), (linO rs b).flatMap unctrlL = linE rs b
  | [], b => by
    have : unctrlL 32 = [32] := rfl
    simp only [linO, linE]
    induction b with
    | zero => rfl
    | succ b ih => rw [List.replicate_succ, List.flatMap_cons, ih, this]; rfl
  | r :: rs, b => by
    have h9 : unctrlL 9 = [94, 73] := rfl
    have h32 : (List.replicate r 32).flatMap unctrlL = List.replicate r 32 := by
      have : unctrlL 32 = [32] := rfl
      induction r with
      | zero => rfl
      | succ b ih => rw [List.replicate_succ, List.flatMap_cons, ih, this, ]; rfl
    simp only [linO, linE, List.flatMap_append, List.flatMap_cons, lin_echo rs b, h9, h32]
    rfl
theorem Line.echo (L : Line typed P T rs b) : ((signsL typed).take P.length).flatMap unctrlL = linE rs b := by
  rw [← lin_echo, ← L.form.signs, L.eq, signsL, ← List.map_take, List.take_left']
  rfl
end

/-! text PC -/
open PySem.StrLaws in
theorem at_sign {X : List Nat} {c : Nat} (h : At (S X) (S [94, 73]) (S X).length c) : X[c]? = some 94 := by
  have h2 := h.2
  rw [subAt_eq] at h2
  have h3 := eq_of_beq h2
  have h4 : (X.drop c).take 2 = [94, 73] := by simpa [Str.length] using h3
  have h5 : ((X.drop c).take 2)[0]? = some 94 := by rw [h4]; rfl
  rwa [List.getElem?_take_of_lt (by decide), List.getElem?_drop, Nat.add_zero] at h5
open PySem.StrLaws in
theorem sign_at {pre Y : List Nat} : At (S (pre ++ 94 :: 73 :: Y)) (S [94, 73]) (S (pre ++ 94 :: 73 :: Y)).length pre.length := by
  refine ⟨?_, ?_⟩
  · rw [S_length, S_length]; simp
  · rw [subAt_eq]
    have : ((pre ++ 94 :: 73 :: Y).drop pre.length).take 2 = [94, 73] := by rw [List.drop_left']; rfl; rfl
    simp [Str.length, this]
open PySem.StrLaws in
theorem sub_len {X : List Nat} {a c : Nat} (h : c ≤ X.length) : (Builtin.Str.strSub (S X) a c).length = c - a := by
  show (Builtin.Str.strSub (S X) a c).cps.size = _
  unfold Builtin.Str.strSub
  simp; omega
open PySem.StrLaws in
theorem parts_lin (X : List Nat) : ∀ (rs : List Nat) (b : Nat) (pre cuts : List Nat) (f : Nat), X = pre ++ linE rs b → ChainG (S X) (S [94, 73]) (S X).length pre.length cuts f → (∀ k, f ≤ k → ¬ At (S X) (S [94, 73]) (S X).length k) →
    (partsFrom (S X) 2 pre.length cuts).map (·.length) = rs ++ [b]
  | [], b, pre, cuts, f, e, hc, hf => by
    cases cuts with
    | nil =>
      show [(Builtin.Str.strSub (S X) pre.length (Str.length (S X))).length] = [b]
      have := sub_len (X := X) (a := pre.length) (c := X.length) (Nat.le_refl _)
      rw [S_length X, this, e]
      simp [linE]
    | cons c r =>
      exfalso
      have h1 := at_sign hc.2.1
      have h0 := hc.1
      rw [e, List.getElem?_append_right h0, linE, List.getElem?_replicate] at h1
      split at h1 <;> cases h1
  | r :: rs, b, pre, cuts, f, e, hc, hf => by
    have e' : X = (pre ++ List.replicate r 32) ++ 94 :: 73 :: linE rs b := by rw [e, linE, List.append_assoc]
    have hat : At (S X) (S [94, 73]) (S X).length (pre.length + r) := by
      have := sign_at (pre := pre ++ List.replicate r 32) (Y := linE rs b)
      rw [← e'] at this
      simpa using this
    have hlow : ∀ c, pre.length ≤ c → At (S X) (S [94, 73]) (S X).length c → pre.length + r ≤ c := by
      intro c h0 ha
      have h1 := at_sign ha
      by_cases hc : c < pre.length + r
      · rw [e, List.getElem?_append_right h0, linE, List.getElem?_append_left (by simp; omega), List.getElem?_replicate] at h1
        split at h1 <;> cases h1
      · omega
    cases cuts with
    | nil =>
      exfalso
      have : f = pre.length := hc
      exact hf (pre.length + r) (by omega) hat
    | cons c cs =>
      obtain ⟨h0, h1, h2, h3⟩ := hc
      have hce : c = pre.length + r := by
        have := hlow c h0 h1
        by_cases hq : pre.length + r < c
        · exact absurd hat (h2 _ (by omega) hq)
        · omega
      show (Builtin.Str.strSub (S X) pre.length c).length :: (partsFrom (S X) 2 (c + 2) cs).map (·.length) = _
      have hX : X.length = pre.length + r + 2 + (linE rs b).length := by rw [e']; simp; omega
      have hpl : (pre ++ List.replicate r 32 ++ [94, 73]).length = c + 2 := by simp [hce]; omega
      rw [sub_len (by omega)]
      have ih := parts_lin X rs b (pre ++ List.replicate r 32 ++ [94, 73]) cs f (by rw [e', List.append_assoc (pre ++ List.replicate r 32) [94, 73]]; rfl) (by rw [hpl]; exact h3) hf
      rw [hpl] at ih
      rw [ih, List.cons_append]
      congr 1; omega
open PySem.StrLaws in
theorem split_lin (rs : List Nat) (b : Nat) : (Txt.split (S (linE rs b)) (S [94, 73])).map (·.length) = rs ++ [b] := by
  obtain ⟨f, hG, hn⟩ := occ_tight (S (linE rs b)) (S [94, 73]) (by rw [S_length]; decide)
  have main := parts_lin (linE rs b) rs b [] (Builtin.Str.occurrences (S (linE rs b)) (S [94, 73]) 0 (S (linE rs b)).length ((S (linE rs b)).length + 1)) f rfl hG hn
  have one : rs = [] → [(S (linE rs b)).length] = rs ++ [b] := fun e => by subst e; rw [S_length]; simp [linE]
  unfold Txt.split
  split
  · rename_i h
    have hk : Builtin.Str.strKind (S [94, 73]) = 1 := by decide +kernel
    have hk2 : 1 ≤ Builtin.Str.strKind (S (linE rs b)) := by unfold Builtin.Str.strKind; split <;> (try split) <;> omega
    rw [Bool.or_eq_true, decide_eq_true_eq, decide_eq_true_eq, hk, S_length, S_length] at h
    refine one ?_
    cases rs with
    | nil => rfl
    | cons r rs =>
      exfalso
      have : (linE (r :: rs) b).length = r + 2 + (linE rs b).length := by simp [linE]; omega
      have h2 : ([94, 73] : List Nat).length = 2 := rfl
      omega
  · split
    · rename_i h
      refine one ?_
      rw [List.isEmpty_iff.mp h] at main
      have := congrArg List.length main
      simp [partsFrom] at this
      exact this
    · rw [partsBetween_eq]
      exact main

/-! texts joined -/
def joinL (sep : List Nat) : List (List Nat) → List Nat
  | [] => []
  | [x] => x
  | x :: y :: r => x ++ sep ++ joinL sep (y :: r)
theorem join_S (sep : List Nat) (ls : List (List Nat)) : Txt.join (S sep) (ls.map fun l => S l) = S (joinL sep ls) := by
  show Builtin.Str.glued _ _ = _
  rw [StrLaws.glued_eq_join]
  induction ls with
  | nil => rfl
  | cons x r ih =>
    cases r with
    | nil => rfl
    | cons y r =>
      show S x ++ S sep ++ Str.join (S sep) ((y :: r).map fun l => S l) = _
      rw [ih, S_append, S_append]
      rfl
theorem joinL_nil : ∀ ls : List (List Nat), joinL [] ls = ls.flatten
  | [] => rfl
  | [x] => by simp [joinL]
  | x :: y :: r => by rw [joinL, joinL_nil (y :: r)]; simp
theorem slice_to {l : List Nat} {n : Nat} (h : n ≤ l.length) : Txt.slice (S l) none (some (n : Int)) = S (l.take n) := by
  have := eq_of_beq (slice_closes_toL (x := S l) (j := (n : Int)) (by omega) (by rw [S_length]; omega))
  rw [this]; simp
theorem slice_from {l : List Nat} {n : Nat} (h : n ≤ l.length) : Txt.slice (S l) (some (n : Int)) none = S (l.drop n) := by
  rw [slice_from_eq (x := S l) (i := (n : Int)) (b := (l.length : Int)) (by omega) (by rw [S_length]; omega) (by rw [S_length])]
  have : (l.drop n).take (l.length - n) = l.drop n := List.take_of_length_le (by rw [List.length_drop]; omega)
  simp [this]

/-! the words read back -/
def digs (k : Nat) : List Nat := if k < 10 then [48 + k] else [48 + k / 10, 48 + k % 10]
theorem digs_str : ∀ k : Nat, k < 100 → Str.ofString (toString (k : Int)) = S (digs k) := by decide +kernel
def hashes (k : Nat) : List Nat := List.replicate (1 + if 9 < k then 1 else 0) 35
theorem read_dig1 {sizes left : List Nat} {d : Nat} (hd : d < 10) : readStep (sizes, left, false) (48 + d) = (sizes ++ [d], left ++ [35], true) := by
  unfold readStep
  rw [if_pos (by simp [digB]; omega)]
  simp
theorem read_dig2 {sizes left : List Nat} {a d : Nat} (hd : d < 10) : readStep (sizes ++ [a], left, true) (48 + d) = (sizes ++ [10 * a + d], left ++ [35], true) := by
  unfold readStep
  rw [if_pos (by simp [digB]; omega)]
  simp
theorem read_digs {sizes left : List Nat} {k : Nat} (hk : k < 100) : (digs k).foldl readStep (sizes, left, false) = (sizes ++ [k], left ++ hashes k, true) := by
  unfold digs hashes
  split
  · rename_i h
    rw [List.foldl_cons, read_dig1 h, if_neg (by omega)]; rfl
  · rename_i h
    rw [List.foldl_cons, read_dig1 (by omega), List.foldl_cons, read_dig2 (by omega), if_pos (by omega), List.foldl_nil, List.append_assoc]
    congr 2
    congr 1; omega
theorem read_join : ∀ (ks sizes left : List Nat), (∀ k ∈ ks, k < 100) → ((joinL [44, 32] (ks.map digs)).foldl readStep (sizes, left, false)).1 = sizes ++ ks ∧ ((joinL [44, 32] (ks.map digs)).foldl readStep (sizes, left, false)).2.1 = left ++ joinL [44, 32] (ks.map hashes)
  | [], sizes, left, _ => by simp [joinL]
  | [k], sizes, left, h => by
    show ((digs k).foldl readStep _).1 = _ ∧ ((digs k).foldl readStep _).2.1 = _
    rw [read_digs (h k List.mem_cons_self)]
    exact ⟨rfl, rfl⟩
  | k :: k2 :: r, sizes, left, h => by
    show ((digs k ++ [44, 32] ++ joinL [44, 32] ((k2 :: r).map digs)).foldl readStep _).1 = _ ∧ ((digs k ++ [44, 32] ++ joinL [44, 32] ((k2 :: r).map digs)).foldl readStep _).2.1 = _
    rw [List.foldl_append, List.foldl_append, read_digs (h k List.mem_cons_self)]
    have e : List.foldl readStep (sizes ++ [k], left ++ hashes k, true) [44, 32] = (sizes ++ [k], left ++ hashes k ++ [44, 32], false) := by
      simp [readStep, digB]
    rw [e]
    obtain ⟨h1, h2⟩ := read_join (k2 :: r) (sizes ++ [k]) (left ++ hashes k ++ [44, 32]) fun x hx => h x (List.mem_cons_of_mem _ hx)
    rw [h1, h2]
    exact ⟨by simp, by show _ = left ++ (hashes k ++ [44, 32] ++ joinL [44, 32] ((k2 :: r).map hashes)); simp⟩
def fmtL (ks : List Nat) : List Nat := prefixL ks.length ++ [32] ++ joinL [44, 32] (ks.map digs)
theorem read_fmt {ks : List Nat} (h : ∀ k ∈ ks, k < 100) : (readL (fmtL ks)).1 = ks ∧ (readL (fmtL ks)).2.1 = prefixL ks.length ++ [32] ++ joinL [44, 32] (ks.map hashes) := by
  unfold readL fmtL
  rw [List.foldl_append]
  have e : (prefixL ks.length ++ [32]).foldl readStep ([], [], false) = ([], prefixL ks.length ++ [32], false) := by
    unfold prefixL
    split <;> decide
  rw [e]
  obtain ⟨h1, h2⟩ := read_join ks [] (prefixL ks.length ++ [32]) h
  exact ⟨by simpa using h1, h2⟩
theorem fmt_eq {ws : List (Nat × Nat × Nat)} (h : ∀ k ∈ ws, k.1 < 100) : fmtText ws = S (fmtL (ws.map (·.1))) := by
  unfold fmtText fmtL
  have e : (ws.map fun k => Str.ofString (toString (k.1 : Int))) = ((ws.map (·.1)).map digs).map fun l => S l := by
    rw [List.map_map, List.map_map]
    exact List.map_congr_left fun k hk => digs_str k.1 (h k hk)
  rw [e, join_S, S_append, List.length_map]
theorem joinL_len (sep : List Nat) : ∀ ls : List (List Nat), (∀ l ∈ ls, l.length ≤ 2) → (joinL sep ls).length ≤ ls.length * (2 + sep.length)
  | [], _ => by simp [joinL]
  | [x], h => by have := h x List.mem_cons_self; simp [joinL]; omega
  | x :: y :: r, h => by
    have h1 := h x List.mem_cons_self
    have h2 := joinL_len sep (y :: r) fun l hl => h l (List.mem_cons_of_mem _ hl)
    rw [joinL, List.length_append, List.length_append]
    have : (x :: y :: r).length = (y :: r).length + 1 := rfl
    rw [this, Nat.add_mul]
    omega
theorem fmtL_len (ks : List Nat) : (fmtL ks).length ≤ 13 + ks.length * 4 := by
  unfold fmtL
  have h1 := joinL_len [44, 32] (ks.map digs) (fun l hl => by
    obtain ⟨k, _, rfl⟩ := List.mem_map.mp hl
    unfold digs; split <;> simp)
  have h2 : (prefixL ks.length).length ≤ 12 := by unfold prefixL; split <;> decide
  rw [List.length_append, List.length_append]
  rw [List.length_map, show 2 + ([44, 32] : List Nat).length = 4 from rfl] at h1
  have : ([32] : List Nat).length = 1 := rfl
  omega

/-! text PD -/
abbrev castL (l : List Nat) : List Int := l.map fun (k : Nat) => (k : Int)
theorem intsN_int (l : List Nat) : intsN l = (castL l).map D.int := by simp [intsN, castL]
theorem maxL_eq {l : List Int} {m : Int} (hm : m ∈ l) (h : ∀ y ∈ l, y ≤ m) : maxL l = m := by
  obtain ⟨h1, h2⟩ := maxL_spec (l := l) (fun e => by rw [e] at hm; cases hm)
  have a := h2 m hm
  have b := h _ h1
  omega
theorem maxL_cnt (rs : List Nat) : maxL ((-1 : Int) :: castL rs) + 1 = ((cntOf rs).length : Int) := by
  have : maxL ((-1 : Int) :: castL rs) = ((cntOf rs).length : Int) - 1 := by
    refine maxL_eq ?_ fun y hy => ?_
    · rcases cntOf_top rs with e | ⟨r, hr, e⟩
      · rw [e]; simp
      · rw [e]; exact List.mem_cons_of_mem _ (List.mem_map.mpr ⟨r, hr, by omega⟩)
    · rcases List.mem_cons.mp hy with rfl | hy
      · omega
      · obtain ⟨r, hr, rfl⟩ := List.mem_map.mp hy
        have := cntOf_lt rs r hr
        omega
  omega
theorem maxL_runs (rs : List Nat) (b : Nat) : maxL (castL (rs ++ [b])) = (longN (cntOf rs) b : Int) := by
  obtain ⟨h1, h2, h3⟩ := long_spec rs b
  refine maxL_eq ?_ fun y hy => ?_
  · refine List.mem_map.mpr ⟨longN (cntOf rs) b, ?_, rfl⟩
    rcases h3 with e | e
    · rw [e]; simp
    · simp [e]
  · obtain ⟨r, hr, rfl⟩ := List.mem_map.mp hy
    rcases List.mem_append.mp hr with hr | hr
    · have := h1 r hr; omega
    · cases List.mem_singleton.mp hr; omega
theorem cnt_list (rs : List Nat) : (List.range (cntOf rs).length).map (fun i => rs.count i) = cntOf rs := by
  refine list_ext0 (by simp) fun i => ?_
  rw [cntOf_get, List.getD_eq_getElem?_getD, List.getElem?_map]
  by_cases h : i < (cntOf rs).length
  · rw [List.getElem?_range h]; rfl
  · rw [List.getElem?_eq_none (by simp; omega)]
    have : rs.count i = 0 := List.count_eq_zero.mpr fun hi => h (cntOf_lt rs i hi)
    simp [this]
theorem castL_count (rs : List Nat) (i : Nat) : (castL rs).count (i : Int) = rs.count i := by
  induction rs with
  | nil => rfl
  | cons r rs ih =>
    show ((r : Int) :: castL rs).count _ = _
    rw [List.count_cons, List.count_cons, ih]
    congr 1
    by_cases h : r = i
    · simp [h]
    · have : ¬ ((r : Int) = (i : Int)) := by omega
      simp [h, this]
theorem castL_sum (rs : List Nat) : (castL rs).sum = (rs.sum : Int) := by
  induction rs with
  | nil => rfl
  | cons r rs ih => show ((r : Int) :: castL rs).sum = _; rw [List.sum_cons, ih, List.sum_cons]; omega
theorem simple_sum (rs : List Nat) : decide ((cntOf rs).length ≤ 1) = ((castL rs).sum == 0) := by
  rw [castL_sum, Bool.eq_iff_iff, decide_eq_true_eq, beq_iff_eq]
  constructor
  · intro h
    have z := simple_zero h
    have : rs.sum = 0 := by
      clear h
      induction rs with
      | nil => rfl
      | cons r rs ih => rw [List.sum_cons, z r List.mem_cons_self, ih fun x hx => z x (List.mem_cons_of_mem _ hx)]
    omega
  · intro h
    have h0 : rs.sum = 0 := by omega
    have z : ∀ r ∈ rs, r = 0 := by
      clear h
      induction rs with
      | nil => intro r hr; cases hr
      | cons r rs ih =>
        rw [List.sum_cons] at h0
        intro x hx
        rcases List.mem_cons.mp hx with rfl | hx
        · omega
        · exact ih (by omega) x hx
    rcases cntOf_top rs with e | ⟨r, hr, e⟩
    · omega
    · have := z r hr; omega
/-- what is known of a line of the page -/
def OkT (t : List (Nat × Nat)) : Prop := (∀ k ∈ t, k.1 < 96 ∧ k.2 < 4) ∧ t.length ≤ 30
theorem sum_bounds : ∀ rs : List Nat, rs.length ≤ (rs.map (· + 1)).sum ∧ ∀ r ∈ rs, r + 1 ≤ (rs.map (· + 1)).sum
  | [] => by simp
  | r :: rs => by
    obtain ⟨h1, h2⟩ := sum_bounds rs
    simp only [List.map_cons, List.sum_cons, List.length_cons]
    refine ⟨by omega, fun x hx => ?_⟩
    rcases List.mem_cons.mp hx with rfl | hx
    · omega
    · have := h2 x hx; omega
section
variable {t P T : List (Nat × Nat)} {rs : List Nat} {b : Nat}
theorem Line.bounds (L : Line t P T rs b) (h : OkT t) : P.length ≤ 30 ∧ rs.length ≤ 30 ∧ (cntOf rs).length ≤ 30 ∧ b ≤ 30 ∧ T.length ≤ 30 := by
  have h1 := L.form.len
  have h2 := h.2
  rw [L.eq, List.length_append] at h2
  obtain ⟨s1, s2⟩ := sum_bounds rs
  refine ⟨by omega, by omega, ?_, by omega, by omega⟩
  rcases cntOf_top rs with e | ⟨r, hr, e⟩
  · omega
  · have := s2 r hr; omega
theorem Line.ws (L : Line t P T rs b) : wsOf (signsL t) = wsN (S (signsL t)) P.length rs.length (cntOf rs) b (decide ((cntOf rs).length ≤ 1)) := by
  unfold wsOf; rw [L.scan]
end
def longT (t : List (Nat × Nat)) : Nat := longN (scanL (signsL t)).cnt (scanL (signsL t)).b
abbrev typD (t : List (Nat × Nat)) : D := .lst (t.map pairD)
abbrev lineD (t : List (Nat × Nat)) : D := .str (S (signsL t))
abbrev wsD (t : List (Nat × Nat)) : D := wsOf (signsL t)
theorem zip3_map {α : Type} (f g h : α → D) : ∀ l : List α, zip3D (l.map f) (l.map g) (l.map h) = l.map fun t => .tup [f t, g t, h t]
  | [] => rfl
  | a :: l => by
    have := zip3_map f g h l
    unfold zip3D at this ⊢
    simp only [List.map_cons, List.zip_cons_cons, List.zipWith_cons_cons]
    rw [this]
theorem pickL_map {α β : Type} (f : α → β) (xs : List α) (lo hi st : Option Int) : pickL (xs.map f) lo hi st = (pickL xs lo hi st).map f := by
  unfold pickL
  rw [List.length_map, List.map_filterMap]
  congr 1
  funext i
  rw [List.getElem?_map]
theorem inj_ch : ∀ a b : Nat, D.str (ch a) = D.str (ch b) → a = b := by
  intro a b e
  have := D.str.inj e
  simpa [ch] using this
theorem inj_str : ∀ a b : Str, D.str a = D.str b → a = b := fun a b e => D.str.inj e
theorem strOk_small {l : List Nat} (h : ∀ n ∈ l, n < 1114112) : PyData.strOk (S l) = true := by
  unfold PyData.strOk
  rw [← Array.all_toList, List.all_eq_true]
  intro n hn
  exact decide_eq_true (h n (by simpa using hn))
theorem sign_lt : ∀ k < 96, ∀ h < 4, signN k h < 256 := by decide +kernel
theorem echo_lt : ∀ k < 96, ∀ h < 4, (echoL k h).all (· < 256) = true := by decide +kernel
theorem OkT.signs {t : List (Nat × Nat)} (h : OkT t) : ∀ n ∈ signsL t, n < 1114112 := by
  intro n hn
  obtain ⟨k, hk, rfl⟩ := List.mem_map.mp hn
  have := sign_lt k.1 (h.1 k hk).1 k.2 (h.1 k hk).2
  omega
theorem rest_lt {T : List (Nat × Nat)} (h : ∀ k ∈ T, k.1 < 96 ∧ k.2 < 4) : ∀ n ∈ restL T, n < 1114112 := by
  intro n hn
  obtain ⟨k, hk, hn⟩ := List.mem_flatMap.mp hn
  have := List.all_eq_true.mp (echo_lt k.1 (h k hk).1 k.2 (h k hk).2) n hn
  have : n < 256 := by simpa using this
  omega
theorem rest_len (T : List (Nat × Nat)) : (restL T).length ≤ T.length * 3 := by
  induction T with
  | nil => simp [restL]
  | cons k T ih =>
    have := echo_len k.1 k.2
    simp only [restL, List.flatMap_cons, List.length_append, List.length_cons] at ih ⊢
    omega
theorem unctrl_len (n : Nat) : (unctrlL n).length ≤ 3 := by
  have : ∀ (a b : Prop) [Decidable a] [Decidable b] (x y : Nat), (if a then [94, 63] else if b then [x] else [94, y]).length ≤ 2 := by
    intro a b _ _ x y
    split
    · simp
    · split <;> simp
  have h := this (n = 127) (32 ≤ n &&& 127 ∧ n &&& 127 ≤ 126) (n &&& 127) (((n &&& 127) ||| 32) + 32)
  unfold unctrlL
  dsimp only
  split
  · omega
  · rw [List.length_cons]; omega
theorem linE_le : ∀ (rs : List Nat) (b : Nat), (linE rs b).length ≤ 2 * (linO rs b).length
  | [], b => by simp [linE, linO]; omega
  | r :: rs, b => by have := linE_le rs b; simp [linE, linO]; omega
theorem Line.lenE {t P T : List (Nat × Nat)} {rs : List Nat} {b : Nat} (L : Line t P T rs b) : (linE rs b).length ≤ 2 * P.length := by
  have := linE_le rs b
  rwa [← L.form.signs, List.length_map] at this
theorem join_flat (l : List Nat) : Txt.join (S []) (l.map fun n => S (unctrlL n)) = S (l.flatMap unctrlL) := by
  have := join_S [] (l.map unctrlL)
  rw [List.map_map] at this
  rw [List.flatMap_def, ← joinL_nil]
  exact this
theorem join_sum (l : List Nat) : ((l.map fun n => S (unctrlL n)).map (·.length)).sum ≤ 3 * l.length := by
  induction l with
  | nil => simp
  | cons a l ih =>
    have := unctrl_len a
    simp only [List.map_cons, List.sum_cons, List.length_cons]
    have e : (S (unctrlL a)).length = (unctrlL a).length := S_length _
    omega

/-! text QA -/
noncomputable def fd193 (P : Params) : FdAt P 193 := ⟨_, _, rfl, rfl⟩
theorem gA : sizeLine = 2 ^ 24 := rfl
section
variable {c : Cx} (O : c.Ok)
include O
section
variable {A : Around} {env : Env} {ρ : Sto}
omit O in
theorem Tst.as {e : Expr} {b b' : Bool} (h : Tst c A env ρ e b) (q : b = b') : Tst c A env ρ e b' := q ▸ h
omit O in
theorem it_signs {e : Expr} {y : Str} {py : Pos} {l : List Nat} (hh : A.handled = none) (h : Ev c A env ρ (eval e env) (.str (S l))) : It c A env ρ e (.Name y py) (l.map fun n => D.str (ch n)) := by
  rw [← signs_S]; exact It.str hh h
end
abbrev X_typed : Str := Str.ofString "typed"
abbrev X_line : Str := Str.ofString "line"
abbrev X_white : Str := Str.ofString "white"
abbrev X_page : Str := Str.ofString "page"
abbrev X_lines : Str := Str.ofString "lines"
abbrev X_spaces : Str := Str.ofString "spaces"
abbrev X_picks : Str := Str.ofString "picks"
abbrev X_longest : Str := Str.ofString "longest"
noncomputable abbrev F193 (c : Cx) (A : Around) (hc : Heap) (σ₀ : Look) (os₀ : OG) : Fm := frm (fd193 c.w.params).1 193 A hc σ₀ os₀
set_option maxHeartbeats 4000000 in
theorem law_loop1 {A : Around} {hc : Heap} {σ₀ : Look} {os₀ : OG} (R : Room A 5) {typs : List (List (Nat × Nat))} (HT : ∀ t ∈ typs, OkT t) (hn : typs.length ≤ 3) {ρ : Sto} {dp : D}
    (h1 : ρ X_page = some (.im (.lst (typs.map typD)))) (h2 : ρ X_lines = some (.im (.lst (typs.map lineD)))) (h3 : ρ X_spaces = some (.im (.lst (typs.map wsD)))) (h4 : ρ X_picks = some (.im dp)) (h5 : ρ X_longest = some (.ow [])) :
    ∀ st1 st, (fd193 c.w.params).1.body = .stmts st1 → st = st1[7]! → Ex c (F193 c A hc σ₀ os₀) ρ (exec st (envF (fd193 c.w.params).1 193 hc.objs.size)) (fun fl ρ' => fl = .next ∧ ρ' X_page = some (.im (.lst (typs.map typD))) ∧ ρ' X_lines = some (.im (.lst (typs.map lineD))) ∧ ρ' X_spaces = some (.im (.lst (typs.map wsD))) ∧ ρ' X_picks = some (.im dp) ∧
      ρ' X_longest = some (.ow (typs.map fun t => D.int (longT t)))) := by
  intro st1 st e1 e2
  cases e1
  subst e2
  have hit : ∀ {ρ : Sto} {ea eb ec : Expr} {zn : Str} {np pos tp : Pos} {elts : List Expr} {k : Nat} (G : Glb c A (envF (fd193 c.w.params).1 193 hc.objs.size) zn (.type "zip")) (h : Evs c A (envF (fd193 c.w.params).1 193 hc.objs.size) ρ [ea, eb, ec] [.lst (typs.map typD), .lst (typs.map lineD), .lst (typs.map wsD)]) (hs : noStar [ea, eb, ec] = true),
      It c A (envF (fd193 c.w.params).1 193 hc.objs.size) ρ (.Call (.Name zn np) [ea, eb, ec] [] pos) (.Tuple elts k tp) (typs.map fun t => .tup [typD t, lineD t, wsD t]) := by
    intro ρ ea eb ec zn np pos tp elts k G h hs
    rw [← zip3_map]
    exact It.zip3 R.handled G h (by simp) (by simp) hs
  refine Ex.for_ (fun i ρ' => ρ' X_page = some (.im (.lst (typs.map typD))) ∧ ρ' X_lines = some (.im (.lst (typs.map lineD))) ∧ ρ' X_spaces = some (.im (.lst (typs.map wsD))) ∧ ρ' X_picks = some (.im dp) ∧
      ρ' X_longest = some (.ow ((typs.take i).map fun t => D.int (longT t)))) (hit (Glb.blt O (gb_zip _) boot_zip) (Evs.cons (Ev.name h1) (Evs.cons (Ev.name h2) (Evs.cons (Ev.name h3) Evs.nil))) rfl) ⟨h1, h2, h3, h4, h5⟩ ?_ ?_
  · intro i d ρi hd ⟨q1, q2, q3, q4, q5⟩
    rw [List.getElem?_map] at hd
    obtain ⟨t, ht, rfl⟩ := Option.map_eq_some_iff.mp hd
    have ok := HT t (List.mem_of_getElem? ht)
    obtain ⟨P, T, rs, b, L⟩ := Line.ex t ok.1
    obtain ⟨bP, bR, bC, bb, bT⟩ := L.bounds ok
    have hlong : longT t = longN (cntOf rs) b := by unfold longT; rw [L.scan]
    refine ⟨_, Asg.tup3 R.handled (.inr ⟨rfl, rfl⟩) (.inl rfl) (.inr ⟨rfl, rfl⟩), ?_⟩
    have hsl : sizeLine = 2 ^ 24 := rfl
    have ok2 := ok.2
    have ltk : ∀ k ∈ t, k.1 < 96 := fun k hk => (ok.1 k hk).1
    -- isgraph finds just the plain keys
    refine Ex.cons (Ex.ifB (b := false) (Tst.cmp (Ev.compN (l := signsL t) (φ := fun n => D.str (ch n)) (fun _ => true) (fun n => .bool (graphB n)) inj_ch (it_signs R.handled (Ev.name rfl)) CompC.of0 (by rw [List.length_map]; omega) (fun _ _ _ => rfl) (fun n _ _ C => ?_))
      (Ev.compP (l := t) (f1 := fun k => .int k.1) (f2 := fun k => .int k.2) (fun _ => true) (fun k => .bool (decide (k.2 = 0) && (decide (0 < k.1) && decide (k.1 < 95)))) R.handled inj_pair (It.list R.handled (Ev.name rfl) (.inr ⟨_, _, _, rfl⟩)) CompC.of0 (by omega) (fun _ _ _ => rfl) (fun k _ _ C => ?_))
      (op_neS (k := 1) R (Good.lst fun d hd => ?_) ?_)) (fun h => nomatch h) (fun _ => Ex.nil ?_))
    · exact Ev.call (Glb.own O (g_isgraph _)) (Kept.own O (kp_isgraph _)) (Evs.cons (Ev.name rfl) Evs.nil) (fn_isgraph O) (R.mono (by decide))
    · refine Ev.as (Ev.and2 (Ev.cmp (Ev.name rfl) Ev.int (op_eq_nat (b := 0))) (fun _ => Ev.chain Ev.int (Ev.name rfl) Ev.int op_lt_int op_lt_int)) ?_
      congr 3 <;> simp <;> omega
    · obtain ⟨n, _, rfl⟩ := List.mem_map.mp hd; exact Good.bool _
    · rw [filter_true, filter_true, signsL, List.map_map]
      refine congrArg D.lst (List.map_congr_left fun k hk => ?_)
      exact congrArg D.bool (graph_sign k.1 (ok.1 k hk).1 k.2 (ok.1 k hk).2)
    -- where the front ends
    refine Ex.cons (Ex.assign (d := .int P.length) (Ev.as (Ev.methB (T := "list") (Ev.as (Ev.compP (l := t ++ [(1, 0)]) (f1 := fun k => .int k.1) (f2 := fun k => .int k.2) (fun _ => true) (fun k => .bool (blankB k.1 k.2)) R.handled inj_pair
      (It.list R.handled (Ev.as (Ev.bin (Ev.name rfl) (Ev.list (Evs.cons Ev.pairI Evs.nil)) (op_add_lst (by simp; omega))) (d' := .lst ((t ++ [(1, 0)]).map pairD)) (by simp)) (.inr ⟨_, _, _, rfl⟩)) CompC.of0 (by simp; omega) (fun _ _ _ => rfl)
      (fun k _ _ C => Ev.call (Glb.own O (g_law_blank _)) (Kept.own O (kp_law_blank _)) (Evs.cons (Ev.name rfl) (Evs.cons (Ev.name rfl) Evs.nil)) (fn_blank O) (R.mono (by decide)))) (d' := .lst (((t ++ [(1, 0)]).map fun (k : Nat × Nat) => blankB k.1 k.2).map .bool)) (by rw [filter_true, List.map_map]; rfl))
      OfType.lst (Evs.cons Ev.bool Evs.nil) (fn_index (stop_has t) (by simp; omega)) (R.mono (by decide)) PySem.F.plainAttrs_list PySem.F.slot_list_index PySem.F.type_list_index) (by rw [L.stop])) (.inl rfl) ?_)
    -- the runs
    have hsp := split_lin rs b
    have hlE : (linE rs b).length ≤ 90 := by have := L.lenE; omega
    refine Ex.cons (Ex.assignN (l := Txt.split (S (linE rs b)) (S [94, 73])) (φ := D.str) (fun _ => true) (fun p => .int (p.length : Nat)) inj_str (It.list R.handled (Ev.methB (T := "str") (Ev.as (Ev.join (x := S []) (ys := ((signsL t).take P.length).map fun n => S (unctrlL n)) Ev.str
      (Ev.as (Ev.compN (l := (signsL t).take P.length) (φ := fun n => D.str (ch n)) (fun _ => true) (fun n => .str (S (unctrlL n))) inj_ch (it_signs R.handled (Ev.as (Ev.sliceTo (Ev.name rfl) (Ev.name rfl) (by rw [S_length]; simp; omega)) (d' := .str (S ((signsL t).take P.length))) ?_)) CompC.of0 (by simp; omega) (fun _ _ _ => rfl)
        (fun n _ _ C => Ev.call (Glb.own O (g_unctrl _)) (Kept.own O (kp_unctrl _)) (Evs.cons (Ev.name rfl) Evs.nil) (fn_unctrl O) (R.mono (by decide)))) (by rw [filter_true, List.map_map]; rfl)) ?_ (R.mono (by decide))) (d' := .str (S (linE rs b))) ?_)
      OfType.str (Evs.cons Ev.str Evs.nil) (fn_split (by decide) (by rw [S_length]; omega) ?_) (R.mono (by decide)) PySem.F.plainAttrs_str PySem.F.slot_str_split PySem.F.type_str_split) (.inl ⟨_, _, rfl⟩)) CompC.of0 ?_ (fun _ _ _ => rfl) (fun p hp _ C => ?_) (.inl rfl) ?_)
    · exact congrArg D.str (slice_to (by rw [List.length_map, L.eq, List.length_append]; omega))
    · have h1 := join_sum ((signsL t).take P.length)
      have h2 : ((signsL t).take P.length).length ≤ 30 := by rw [List.length_take]; omega
      have h3 : (S []).length = 0 := rfl
      rw [h3, Nat.mul_zero]
      omega
    · rw [join_flat, L.echo]
    · rw [PySem.length_partsBetween]
      refine Nat.le_trans (Nat.succ_le_succ (StrLaws.occ_length_le _ _ _ _ _)) ?_
      rw [S_length]; omega
    · have := congrArg List.length hsp
      simp at this
      omega
    · have hp' : p.length ∈ rs ++ [b] := by rw [← hsp]; exact List.mem_map.mpr ⟨p, hp, rfl⟩
      have hpl : p.length ≤ 30 := by
        rcases List.mem_append.mp hp' with h | h
        · have := (sum_bounds rs).2 _ h
          have := L.form.len
          omega
        · cases List.mem_singleton.mp h; omega
      exact Ev.call (Glb.blt O (gb_len _) boot_len) Kept.builtin (Evs.cons (Ev.name rfl) Evs.nil) (fn_len_str (by omega)) (R.mono (by decide))
    have hruns : ((Txt.split (S (linE rs b)) (S [94, 73])).filter fun _ => true).map (fun p => D.int (p.length : Nat)) = intsN (rs ++ [b]) := by
      rw [filter_true, ← hsp, intsN, List.map_map]; rfl
    rw [hruns]
    -- the closed ones
    refine Ex.cons (Ex.assign (d := .lst (intsN rs)) (Ev.as (Ev.sliceL (Ev.name rfl) Part.none (Part.some (Ev.neg Ev.int)) Part.none (by decide) (by simp; omega)) ?_) (.inr ⟨rfl, rfl⟩) ?_)
    · refine congrArg D.lst ((pickL_butLast _).trans ?_)
      simp [intsN]
    -- the norm
    refine Ex.cons (Ex.assign (d := .tup [.tup (intsN (cntOf rs)), .int b]) (Ev.tuple (Evs.cons (Ev.as (Ev.call (Glb.blt O (gb_tuple _) boot_tuple) Kept.type (Evs.cons (Ev.compN (l := List.range (cntOf rs).length) (φ := fun (i : Nat) => D.int (i : Int)) (fun _ => true) (fun i => .int (rs.count i : Nat)) inj_nat
      (it_upto R.handled (by omega) (Ev.call (Glb.blt O (gb_range _) boot_range) Kept.type (Evs.cons (Ev.asI (Ev.bin (Ev.call (Glb.blt O (gb_max _) boot_max) Kept.builtin (Evs.cons (Ev.as (Ev.bin (Ev.list (Evs.cons (Ev.neg Ev.int) Evs.nil)) (Ev.name rfl) (op_add_lst (by simp; omega))) (d' := .lst (((-1 : Int) :: castL rs).map .int)) (by rw [intsN_int]; rfl)) Evs.nil) (fn_max (by simp)) (R.mono (by decide))) Ev.int op_add_int) (maxL_cnt rs)) Evs.nil) fn_range1 (R.mono (by decide))))
      (CompC.of1 (d := .lst (intsN rs)) rfl) (by rw [List.length_range]; omega) (fun _ _ _ => rfl) (fun i _ _ C => ?_)) Evs.nil) (fn_tuple (by rw [filter_true]; simp; omega)) (R.mono (by decide))) ?_)
      (Evs.cons (Ev.item (Ev.name rfl) (Ev.neg Ev.int) (it_lst_last (d := .int b) (by simp) (by simp; omega))) Evs.nil))) (.inl rfl) ?_)
    · refine Ev.as (Ev.methB (T := "list") (Ev.as (Ev.name rfl) (d' := .lst ((castL rs).map .int)) (by rw [intsN_int])) OfType.lst (Evs.cons (Ev.name rfl) Evs.nil) fn_count (R.mono (by decide)) PySem.F.plainAttrs_list PySem.F.slot_list_count PySem.F.type_list_count) ?_
      rw [castL_count]
    · rw [filter_true]
      refine congrArg D.tup ?_
      have := congrArg intsN (cnt_list rs)
      rw [← this, intsN, List.map_map]; rfl
    -- the members
    refine Ex.cons (Ex.ifB (b := false) (Tst.cmp (Ev.tuple (Evs.cons (Ev.a_raw O (Ev.as (Ev.name rfl) L.ws)) (Evs.cons (Ev.a_n O (Ev.as (Ev.name rfl) L.ws)) (Evs.cons (Ev.a_nt O (Ev.as (Ev.name rfl) L.ws)) (Evs.cons (Ev.a_norm O (Ev.as (Ev.name rfl) L.ws)) Evs.nil)))))
      (Ev.tuple (Evs.cons (Ev.name rfl) (Evs.cons (Ev.name rfl) (Evs.cons (Ev.call (Glb.blt O (gb_len _) boot_len) Kept.builtin (Evs.cons (Ev.name rfl) Evs.nil) (fn_len_lst (by simp; omega)) (R.mono (by decide))) (Evs.cons (Ev.name rfl) Evs.nil))))) (op_neS (k := 3) R (Good.tup ?_) ?_)) (fun h => nomatch h) (fun _ => Ex.nil ?_))
    · intro d hd
      simp only [List.mem_cons, List.not_mem_nil, or_false] at hd
      rcases hd with rfl | rfl | rfl | rfl
      · exact Good.str (strOk_small ok.signs)
      · exact Good.int _
      · exact Good.int _
      · exact good_norm _ _
    · rw [intsN_int (cntOf rs), List.length_map]
    refine Ex.cons (Ex.ifB (b := false) (Tst.as (Tst.or2 (Tst.cmp (Ev.a_simple O (Ev.as (Ev.name rfl) L.ws)) (Ev.cmp (Ev.call (Glb.blt O (gb_sum _) boot_sum) Kept.builtin (Evs.cons (Ev.as (Ev.name rfl) (d' := .lst ((castL rs).map .int)) (by rw [intsN_int])) Evs.nil) fn_sum (R.mono (by decide))) Ev.int op_eq_int) op_isnot_bool)
      (fun _ => Tst.cmp (Ev.methW O (Ev.as (Ev.name rfl) L.ws) Evs.nil (m_longest O (by omega)) (R.mono (by decide)) (m_longest_run_of_spaces _) (mf_longest_run_of_spaces _) (mk_longest_run_of_spaces _) (hn := fun _ => rfl))
        (Ev.call (Glb.blt O (gb_max _) boot_max) Kept.builtin (Evs.cons (Ev.as (Ev.name rfl) (d' := .lst ((castL (rs ++ [b])).map .int)) (by rw [intsN_int])) Evs.nil) (fn_max (by simp)) (R.mono (by decide))) op_ne_int)) ?_) (fun h => nomatch h) (fun _ => Ex.nil ?_))
    · rw [simple_sum, maxL_runs]; simp
    refine Ex.cons (Ex.append q5 (d := .int (longT t)) (Ev.asI (Ev.call (Glb.blt O (gb_max _) boot_max) Kept.builtin (Evs.cons (Ev.as (Ev.name rfl) (d' := .lst ((castL (rs ++ [b])).map .int)) (by rw [intsN_int])) Evs.nil) (fn_max (by simp)) (R.mono (by decide))) (by rw [maxL_runs, hlong])) (Ex.nil ⟨q1, q2, q3, q4, ?_⟩) (by simp; omega))
    show some (B.ow _) = some (B.ow _)
    rw [List.take_add_one, ht]; simp
  · intro ρ' ⟨q1, q2, q3, q4, q5⟩
    rw [List.length_map, List.take_length] at q5
    exact ⟨rfl, q1, q2, q3, q4, q5⟩
end

/-! text QB -/
def levT (t : List (Nat × Nat)) (size : Nat) : Nat := levelN (scanL (signsL t)).cnt (scanL (signsL t)).b (scanL (signsL t)).nt size
theorem sum_div_le (ts : Nat) : ∀ rs : List Nat, (rs.map (· / ts)).sum ≤ (rs.map (· + 1)).sum
  | [] => by simp
  | r :: rs => by
    have := sum_div_le ts rs
    have := Nat.div_le_self r ts
    simp only [List.map_cons, List.sum_cons]; omega
section
variable {t P T : List (Nat × Nat)} {rs : List Nat} {b : Nat}
theorem Line.lev (L : Line t P T rs b) {size : Nat} (hs : 0 < size) : levT t size = lev rs b size := by
  unfold levT; rw [L.scan]; exact level_lev rs b size hs
theorem Line.lev_le (L : Line t P T rs b) (ok : OkT t) {size : Nat} (hs : size ≤ 1000) : Mine.lev rs b size ≤ 2 ^ 17 := by
  obtain ⟨bP, bR, bC, bb, bT⟩ := L.bounds ok
  have h1 := sum_div_le size rs
  have h2 := L.form.len
  unfold Mine.lev
  have h3 : (rs.map (· / size)).sum + rs.length ≤ 60 := by omega
  have := Nat.mul_le_mul hs h3
  omega
end
abbrev rowD (rs : List Nat) (b : Nat) (T : List (Nat × Nat)) (size : Nat) : List Nat := List.replicate (lev rs b size) 32 ++ restL T
theorem inj_S : ∀ a b : List Nat, D.str (S a) = D.str (S b) → a = b := by
  intro a b e
  have := D.str.inj e
  simpa [S] using this
theorem mapD {α : Type} {l : List α} {f g : α → D} (h : ∀ x ∈ l, f x = g x) : D.lst (l.map f) = D.lst (l.map g) := congrArg D.lst (List.map_congr_left h)
abbrev X_tabs : Str := Str.ofString "tabs"
abbrev X_columns : Str := Str.ofString "columns"
section
variable {c : Cx} (O : c.Ok)
include O
set_option maxHeartbeats 4000000 in
theorem law_loop2 {A : Around} {hc : Heap} {σ₀ : Look} {os₀ : OG} (R : Room A 5) {typs : List (List (Nat × Nat))} (HT : ∀ t ∈ typs, OkT t) (hn : typs.length ≤ 3) {ρ : Sto} {dl : D} {tabs : List Nat} (htab : ∀ s ∈ tabs, 0 < s ∧ s ≤ 1000) (htl : tabs.length ≤ 1000)
    (h1 : ρ X_page = some (.im (.lst (typs.map typD)))) (h2 : ρ X_lines = some (.im (.lst (typs.map lineD)))) (h3 : ρ X_spaces = some (.im (.lst (typs.map wsD)))) (h4 : ρ X_longest = some (.im dl)) (h6 : ρ X_tabs = some (.im (.lst (intsN tabs)))) (h5 : ρ X_columns = some (.ow [])) :
    ∀ st1 st, (fd193 c.w.params).1.body = .stmts st1 → st = st1[10]! → Ex c (F193 c A hc σ₀ os₀) ρ (exec st (envF (fd193 c.w.params).1 193 hc.objs.size)) (fun fl ρ' => fl = .next ∧ ρ' X_spaces = some (.im (.lst (typs.map wsD))) ∧ ρ' X_longest = some (.im dl) ∧
      ρ' X_columns = some (.ow (typs.map fun t => D.lst (tabs.dropLast.map fun size => D.int (levT t size))))) := by
  intro st1 st e1 e2
  cases e1
  subst e2
  have hit : ∀ {ρ : Sto} {ea eb ec : Expr} {zn : Str} {np pos tp : Pos} {elts : List Expr} {k : Nat} (G : Glb c A (envF (fd193 c.w.params).1 193 hc.objs.size) zn (.type "zip")) (h : Evs c A (envF (fd193 c.w.params).1 193 hc.objs.size) ρ [ea, eb, ec] [.lst (typs.map typD), .lst (typs.map lineD), .lst (typs.map wsD)]) (hs : noStar [ea, eb, ec] = true),
      It c A (envF (fd193 c.w.params).1 193 hc.objs.size) ρ (.Call (.Name zn np) [ea, eb, ec] [] pos) (.Tuple elts k tp) (typs.map fun t => .tup [typD t, lineD t, wsD t]) := by
    intro ρ ea eb ec zn np pos tp elts k G h hs
    rw [← zip3_map]
    exact It.zip3 R.handled G h (by simp) (by simp) hs
  refine Ex.for_ (fun i ρ' => ρ' X_spaces = some (.im (.lst (typs.map wsD))) ∧ ρ' X_longest = some (.im dl) ∧ ρ' X_tabs = some (.im (.lst (intsN tabs))) ∧
      ρ' X_columns = some (.ow ((typs.take i).map fun t => D.lst (tabs.dropLast.map fun size => D.int (levT t size))))) (hit (Glb.blt O (gb_zip _) boot_zip) (Evs.cons (Ev.name h1) (Evs.cons (Ev.name h2) (Evs.cons (Ev.name h3) Evs.nil))) rfl) ⟨h3, h4, h6, h5⟩ ?_ ?_
  · intro i d ρi hd ⟨q1, q2, q3, q5⟩
    rw [List.getElem?_map] at hd
    obtain ⟨t, ht, rfl⟩ := Option.map_eq_some_iff.mp hd
    have ok := HT t (List.mem_of_getElem? ht)
    obtain ⟨P, T, rs, b, L⟩ := Line.ex t ok.1
    obtain ⟨bP, bR, bC, bb, bT⟩ := L.bounds ok
    have hsl : sizeLine = 2 ^ 24 := rfl
    have ok2 := ok.2
    have hrl := rest_len T
    have hPt : P.length ≤ (signsL t).length := by rw [List.length_map, L.eq, List.length_append]; omega
    have hkT : ∀ k ∈ T, k.1 < 96 ∧ k.2 < 4 := fun k hk => L.keys k (by rw [L.eq]; exact List.mem_append_right _ hk)
    refine ⟨_, Asg.tup3 R.handled (.inr ⟨rfl, rfl⟩) (.inl rfl) (.inr ⟨rfl, rfl⟩), ?_⟩
    -- the rest
    refine Ex.cons (Ex.assign (d := .str (S (restL T))) (Ev.as (Ev.join (x := S []) (ys := ((signsL t).drop P.length).map fun n => S (unctrlL n)) Ev.str
      (Ev.as (Ev.compN (l := (signsL t).drop P.length) (φ := fun n => D.str (ch n)) (fun _ => true) (fun n => .str (S (unctrlL n))) inj_ch (it_signs R.handled (Ev.as (Ev.sliceFrom (Ev.name rfl) (Ev.a_n O (Ev.as (Ev.name rfl) L.ws)) (by rw [S_length]; simp; omega)) (d' := .str (S ((signsL t).drop P.length))) ?_)) CompC.of0 (by simp; omega) (fun _ _ _ => rfl)
        (fun n _ _ C => Ev.call (Glb.own O (g_unctrl _)) (Kept.own O (kp_unctrl _)) (Evs.cons (Ev.name rfl) Evs.nil) (fn_unctrl O) (R.mono (by decide)))) (by rw [filter_true, List.map_map]; rfl)) ?_ (R.mono (by decide))) ?_) (.inr ⟨rfl, rfl⟩) ?_)
    · exact congrArg D.str (slice_from hPt)
    · have h1 := join_sum ((signsL t).drop P.length)
      have h2 : ((signsL t).drop P.length).length ≤ 30 := by rw [List.length_drop, List.length_map]; omega
      have h3 : (S []).length = 0 := rfl
      rw [h3, Nat.mul_zero]
      omega
    · rw [join_flat, L.rest]
    -- the rows
    have hrow : ∀ size ∈ tabs, lev rs b size ≤ 2 ^ 17 ∧ (rowD rs b T size).length ≤ 2 ^ 18 := by
      intro size hs
      have := L.lev_le ok (htab size hs).2
      refine ⟨this, ?_⟩
      rw [rowD, List.length_append, List.length_replicate]; omega
    refine Ex.cons (Ex.assignN (l := tabs) (φ := fun (i : Nat) => D.int (i : Int)) (fun _ => true) (fun size => .str (S (rowD rs b T size))) inj_nat (It.list R.handled (Ev.name q3) (.inl ⟨_, _, rfl⟩)) (CompC.of2 (x := X_white) (y := Str.ofString "rest") (d := wsD t) (d' := .str (S (restL T))) rfl rfl) (by omega) (fun _ _ _ => rfl) (fun size hs _ C => ?_) (.inl rfl) ?_)
    · obtain ⟨s1, s2⟩ := htab size hs
      obtain ⟨w1, w2⟩ := hrow size hs
      refine Ev.as (Ev.bin (Ev.bin Ev.str (Ev.methW O (Ev.as (Ev.name rfl) L.ws) (Evs.cons (Ev.name rfl) Evs.nil) (m_level O s1 s2 (by omega)) (R.mono (by decide)) (m_indent_level _) (mf_indent_level _) (mk_indent_level _)) (op_mul_str ?_)) (Ev.name rfl) (op_add_str ?_)) ?_
      · rw [level_lev _ _ _ s1]; exact mulOk_S (x := 32) (by omega)
      · rw [level_lev _ _ _ s1]
        have := mul_S 32 (lev rs b size)
        show (Txt.mul (S [32]) _).length + _ ≤ _
        rw [this, S_length, S_length, List.length_replicate]; omega
      · rw [level_lev _ _ _ s1]
        show D.str (Txt.mul (S [32]) _ ++ _) = _
        rw [mul_S, S_append]
    rw [filter_true]
    refine Ex.cons (Ex.ifB (b := false) (Tst.cmp (Ev.name rfl) (Ev.compN (l := tabs) (φ := fun (i : Nat) => D.int (i : Int)) (fun _ => true) (fun size => .str (S (rowL t size))) inj_nat (It.list R.handled (Ev.name q3) (.inl ⟨_, _, rfl⟩)) (CompC.of1 (d := typD t) rfl) (by omega) (fun _ _ _ => rfl) (fun size hs _ C => ?_))
      (op_neS (k := 1) R (Good.lst fun d hd => ?_) ?_)) (fun h => nomatch h) (fun _ => Ex.nil ?_))
    · exact Ev.call (Glb.own O (g_law_row _)) (Kept.own O (kp_law_row _)) (Evs.cons (Ev.name rfl) (Evs.cons (Ev.name rfl) Evs.nil)) (fn_row O (fun k hk => (ok.1 k hk).1) (htab size hs).1 (htab size hs).2 (by omega)) (R.mono (by decide))
    · obtain ⟨size, hs, rfl⟩ := List.mem_map.mp hd
      refine Good.str (strOk_small fun n hn => ?_)
      rcases List.mem_append.mp hn with hn | hn
      · rw [List.eq_of_mem_replicate hn]; decide
      · exact rest_lt hkT n hn
    · rw [filter_true]
      refine mapD fun size hs => ?_
      rw [L.row (htab size hs).1]
    -- the columns
    refine Ex.cons (Ex.append q5 (d := .lst (tabs.dropLast.map fun size => D.int (levT t size))) (Ev.as (Ev.compN (l := tabs.dropLast.map (rowD rs b T)) (φ := fun l => D.str (S l)) (fun _ => true) (fun l => .int (colL l)) inj_S (It.list R.handled (Ev.as (Ev.sliceL (Ev.name rfl) Part.none (Part.some (Ev.neg Ev.int)) Part.none (by decide) (by simp; omega)) ?_) (.inl ⟨_, _, rfl⟩)) CompC.of0 (by simp; omega) (fun _ _ _ => rfl) (fun l hl _ C => ?_)) ?_) (Ex.nil ⟨q1, q2, q3, ?_⟩) (by simp; omega))
    · refine congrArg D.lst ((pickL_butLast _).trans ?_)
      rw [← List.map_dropLast, List.map_map]; rfl
    · obtain ⟨size, hs, rfl⟩ := List.mem_map.mp hl
      have := (hrow size (List.dropLast_subset _ hs)).2
      exact Ev.call (Glb.own O (g_law_column _)) (Kept.own O (kp_law_column _)) (Evs.cons (Ev.name rfl) Evs.nil) (fn_column O (by omega)) (R.mono (by decide))
    · rw [filter_true, List.map_map]
      refine mapD fun size hs => ?_
      show D.int (colL (rowD rs b T size)) = _
      rw [rowD, L.col, L.lev (htab size (List.dropLast_subset _ hs)).1]
    · show some (B.ow _) = some (B.ow _)
      rw [List.take_add_one, ht]; simp
  · intro ρ' ⟨q1, q2, q3, q5⟩
    rw [List.length_map, List.take_length] at q5
    exact ⟨rfl, q1, q2, q5⟩
end

/-! text QC -/
section
variable {c : Cx} {A : Around}
theorem op_add_ib {a : Int} {b : Bool} : Op2 c A (binaryOp .Add) (.int a) (.bool b) (.int (a + if b = true then (1 : Int) else 0)) := by
  intro s σ v1 v2 p i1 i2 Q E k; cases i1; cases i2; exact add_int_bool (k _ _ _ (grow_tok p) (.int _ _))
end
theorem inj_triple : ∀ a b : Nat × Nat × Nat, tripleD a = tripleD b → a = b := by
  intro a b e
  simp only [tripleD, D.tup.injEq, List.cons.injEq, D.int.injEq, and_true] at e
  obtain ⟨a1, a2, a3⟩ := a; obtain ⟨b1, b2, b3⟩ := b
  simp only [Prod.mk.injEq]; simp only at e; omega
def OkW (ws : List (Nat × Nat × Nat)) : Prop := (∀ k ∈ ws, k.1 < 100) ∧ ws.length ≤ 100
theorem fmt_texts {ws : List (Nat × Nat × Nat)} (h : ∀ k ∈ ws, k.1 < 100) : (ws.map fun k => Str.ofString (toString (k.1 : Int))) = ((ws.map (·.1)).map digs).map fun l => S l := by
  rw [List.map_map, List.map_map]
  exact List.map_congr_left fun k hk => digs_str k.1 (h k hk)
theorem sum_le2 : ∀ ls : List (List Nat), (∀ l ∈ ls, l.length ≤ 2) → ((ls.map fun l => S l).map (·.length)).sum ≤ 2 * ls.length
  | [], _ => by simp
  | a :: ls, h => by
    have h1 := h a List.mem_cons_self
    have h2 := sum_le2 ls fun l hl => h l (List.mem_cons_of_mem _ hl)
    simp only [List.map_cons, List.sum_cons, List.length_cons]
    have e : (S a).length = a.length := S_length _
    omega
theorem digs_len (k : Nat) : (digs k).length ≤ 2 := by unfold digs; split <;> simp
theorem hashes_len (k : Nat) : (hashes k).length ≤ 2 := by unfold hashes; rw [List.length_replicate]; split <;> omega
section
variable {c : Cx} (O : c.Ok) (B : BOk c)
include O B
theorem fn_formatW {ws : List (Nat × Nat × Nat)} (h : OkW ws) : Fn c 1 (.ref 87) [.lst (ws.map tripleD)] (.str (S (fmtL (ws.map (·.1))))) := by
  rw [← fmt_eq h.1]
  have h2 := h.2
  have e := fmt_texts h.1
  have hd : ∀ l ∈ (ws.map (·.1)).map digs, l.length ≤ 2 := fun l hl => by obtain ⟨k, _, rfl⟩ := List.mem_map.mp hl; exact digs_len k
  have hsum := sum_le2 _ hd
  rw [List.length_map, List.length_map] at hsum
  refine fn_format O B (fun k hk => by have := h.1 k hk; omega) (by omega) (joinOk_of ?_) ?_
  · show ((ws.map fun k => Str.ofString (toString (k.1 : Int))).map (·.length)).sum + (ws.map fun k => Str.ofString (toString (k.1 : Int))).length * _ ≤ _
    rw [e, List.length_map, List.length_map, List.length_map, S_length, show ([44, 32] : List Nat).length = 2 from rfl]
    omega
  · show (Txt.join (S [44, 32]) (ws.map fun k => Str.ofString (toString (k.1 : Int)))).length ≤ _
    rw [e, join_S, S_length]
    have := joinL_len [44, 32] _ hd
    rw [List.length_map, List.length_map, show 2 + ([44, 32] : List Nat).length = 4 from rfl] at this
    omega
abbrev X_kept : Str := Str.ofString "kept"
abbrev X_unlike : Str := Str.ofString "unlike"
abbrev X_above : Str := Str.ofString "above"
set_option maxHeartbeats 4000000 in
theorem law_wit {A : Around} {hc : Heap} {σ₀ : Look} {os₀ : OG} (R : Room A 5) {ws1 ws2 : List (Nat × Nat × Nat)} (w1 : OkW ws1) (w2 : OkW ws2) {ρ : Sto} {d1 d2 d3 d4 : D}
    (h1 : ρ X_spaces = some (.im d1)) (h2 : ρ X_longest = some (.im d2)) (h3 : ρ X_columns = some (.im d3)) (h4 : ρ X_kept = some (.im d4)) (h5 : ρ X_unlike = some (.im (.lst (ws1.map tripleD)))) (h6 : ρ X_above = some (.im (.lst (ws2.map tripleD)))) :
    ∀ st1 x1 x2 bd x3 x4 st, (fd193 c.w.params).1.body = .stmts st1 → st1[12]! = .For x1 x2 bd x3 x4 → st = bd[7]! → Ex c (F193 c A hc σ₀ os₀) ρ (exec st (envF (fd193 c.w.params).1 193 hc.objs.size)) (fun fl ρ' => fl = .next ∧ ρ' X_spaces = some (.im d1) ∧ ρ' X_longest = some (.im d2) ∧ ρ' X_columns = some (.im d3) ∧ ρ' X_kept = some (.im d4)) := by
  intro st1 x1 x2 bd x3 x4 st e1 e2 e3
  cases e1
  cases e2
  subst e3
  refine Ex.for_ (items := [.lst (ws1.map tripleD), .lst (ws2.map tripleD)]) (fun i ρ' => ρ' X_spaces = some (.im d1) ∧ ρ' X_longest = some (.im d2) ∧ ρ' X_columns = some (.im d3) ∧ ρ' X_kept = some (.im d4)) (It.tuple R.handled (Ev.tuple (Evs.cons (Ev.name h5) (Evs.cons (Ev.name h6) Evs.nil)))) ⟨h1, h2, h3, h4⟩ ?_ (fun ρ' q => ⟨rfl, q⟩)
  intro i d ρi hd ⟨q1, q2, q3, q4⟩
  have hd' : ∃ ws, OkW ws ∧ d = .lst (ws.map tripleD) := by
    match i, hd with
    | 0, hd => cases hd; exact ⟨ws1, w1, rfl⟩
    | 1, hd => cases hd; exact ⟨ws2, w2, rfl⟩
    | i + 2, hd => simp at hd
  clear hd
  obtain ⟨ws, ok, rfl⟩ := hd'
  have ok2 := ok.2
  have hsl : sizeLine = 2 ^ 24 := rfl
  have hks : ∀ k ∈ ws.map (·.1), k < 100 := fun k hk => by obtain ⟨x, hx, rfl⟩ := List.mem_map.mp hk; exact ok.1 x hx
  have hkl : (ws.map (·.1)).length ≤ 100 := by rw [List.length_map]; exact ok2
  obtain ⟨r1, r2⟩ := read_fmt hks
  have fl := fmtL_len (ws.map (·.1))
  refine ⟨_, Asg.name (.inl rfl), ?_⟩
  refine Ex.cons (Ex.assignT (Ev.call (Glb.own O (g_law_read _)) (Kept.own O (kp_law_read _)) (Evs.cons (Ev.call (Glb.own O (g_format_witnesses _)) (Kept.own O (kp_format_witnesses _)) (Evs.cons (Ev.name rfl) Evs.nil) (fn_formatW O B ok) (R.mono (by decide))) Evs.nil) (fn_read O (by omega)) (R.mono (by decide))) (Asg.tup2 R.handled (.inl rfl) (.inl rfl)) ?_)
  rw [r1, r2]
  generalize hkk : ws.map (·.1) = ks at hks hkl
  have hA : Str.ofString "at tab size" = S [97, 116, 32, 116, 97, 98, 32, 115, 105, 122, 101] := by decide +kernel
  have hB : Str.ofString " " = S [32] := by decide +kernel
  have hn : ks.length = ws.length := by rw [← hkk, List.length_map]
  refine Ex.cons (Ex.assign (d := .str (S (prefixL ks.length ++ [32] ++ joinL [44, 32] (ks.map hashes)))) (Ev.as (Ev.bin (Ev.bin (Ev.bin Ev.str (Ev.as (Ev.ite (Tst.cmp (Ev.call (Glb.blt O (gb_len _) boot_len) Kept.builtin (Evs.cons (Ev.name rfl) Evs.nil) (fn_len_lst (by simp; omega)) (R.mono (by decide))) Ev.int op_gt_int) (fun _ => Ev.str) (fun _ => Ev.str)) (d' := .str (S (if 1 < ks.length then [115] else []))) ?_) (op_add_str ?_)) Ev.str (op_add_str ?_))
    (Ev.as (Ev.join (x := S [44, 32]) (ys := (ks.map hashes).map fun l => S l) Ev.str (Ev.as (Ev.compN (l := ks) (φ := fun (i : Nat) => D.int (i : Int)) (fun _ => true) (fun k => .str (S (hashes k))) inj_nat (It.list R.handled (Ev.name rfl) (.inl ⟨_, _, rfl⟩)) CompC.of0 (by omega) (fun _ _ _ => rfl) (fun k hk _ C => ?_)) ?_) ?_ (R.mono (by decide))) (d' := .str (S (joinL [44, 32] (ks.map hashes)))) ?_) (op_add_str ?_)) ?_) (.inl rfl) ?_)
  · rw [List.length_map, ← hn]
    by_cases h : 1 < ks.length
    · rw [if_pos h, if_pos (by simp; omega)]; rfl
    · rw [if_neg h, if_neg (by simp; omega)]; rfl
  · rw [hA, S_length, S_length]; split <;> simp <;> omega
  · rw [hA, S_append, S_length, hB, S_length]; split <;> simp <;> omega
  · have e : (1 : Int) + (if decide ((9 : Int) < (k : Int)) = true then (1 : Int) else 0) = ((1 + if 9 < k then 1 else 0 : Nat) : Int) := by
      by_cases h : 9 < k
      · rw [if_pos h, if_pos (by simp; omega)]; rfl
      · rw [if_neg h, if_neg (by simp; omega)]; rfl
    refine Ev.as (Ev.bin Ev.str (Ev.asI (Ev.bin Ev.int (Ev.cmp (Ev.name rfl) Ev.int op_gt_int) op_add_ib) e) (op_mul_str (mulOk_S (x := 35) ?_))) ?_
    · split <;> omega
    · exact congrArg D.str (mul_S 35 _)
  · rw [filter_true, List.map_map, List.map_map]; rfl
  · have hd : ∀ l ∈ ks.map hashes, l.length ≤ 2 := fun l hl => by obtain ⟨k, _, rfl⟩ := List.mem_map.mp hl; exact hashes_len k
    have := sum_le2 _ hd
    rw [List.length_map] at this
    rw [List.length_map, List.length_map, S_length, show ([44, 32] : List Nat).length = 2 from rfl]
    omega
  · rw [join_S]
  · have hd : ∀ l ∈ ks.map hashes, l.length ≤ 2 := fun l hl => by obtain ⟨k, _, rfl⟩ := List.mem_map.mp hl; exact hashes_len k
    have := joinL_len [44, 32] _ hd
    rw [List.length_map, show 2 + ([44, 32] : List Nat).length = 4 from rfl] at this
    rw [hA, hB, S_append, S_append, S_length, S_length]; split <;> simp <;> omega
  · rw [hA, hB, S_append, S_append, S_append]
    rfl
  refine Ex.cons (Ex.ifB (b := false) (Tst.as (Tst.or2 (Tst.cmp (Ev.name rfl) (Ev.compN (l := ws) (φ := tripleD) (fun _ => true) (fun k => .int k.1) inj_triple (It.list R.handled (Ev.name rfl) (.inl ⟨_, _, rfl⟩)) CompC.of0 (by omega) (fun _ _ _ => rfl) (fun k hk _ C => ?_)) (op_neS (k := 1) R (Good.lst fun d hd => ?_) ?_)) (fun _ => Tst.cmp (Ev.name rfl) (Ev.name rfl) op_ne_str)) ?_) (fun h => nomatch h) (fun _ => Ex.nil (Ex.nil ⟨q1, q2, q3, q4⟩)))
  · exact Ev.item (Ev.name rfl) Ev.int (it_tup (by decide) rfl (by simp))
  · obtain ⟨k, _, rfl⟩ := List.mem_map.mp hd; exact Good.int _
  · rw [filter_true, ← hkk, intsN, List.map_map]; rfl
  · simp
end

/-! text QD -/
def tblL (t0 t : List (Nat × Nat)) (n : Nat) : List (Nat × Nat × Nat) := (List.range n).map fun i => (1 + i, levT t0 (1 + i), levT t (1 + i))
theorem filter_map' {α β : Type} (f : α → β) (p : β → Bool) : ∀ l : List α, (l.map f).filter p = (l.filter fun a => p (f a)).map f
  | [] => rfl
  | a :: l => by
    rw [List.map_cons, List.filter_cons, List.filter_cons, filter_map' f p l]
    split <;> simp_all
theorem wits_tbl {t0 t : List (Nat × Nat)} {q : Nat → Nat → Bool} {n : Nat} {l1 l2 : Nat → Nat} (e1 : l1 = levT t0) (e2 : l2 = levT t) : wits q l1 l2 n = ((tblL t0 t n).filter fun k => q k.2.1 k.2.2).map tripleD := by
  subst e1 e2
  unfold wits tblL
  rw [filter_map', filter_map', List.map_map, List.map_map]
  rfl
theorem eqv_nil (xs : List D) : PyData.eqv (D.toPy (.lst xs)) (D.toPy (.lst [])) = xs.isEmpty := by
  cases xs with
  | nil => simp [D.toPy, D.toPys, PyData.eqv, PyData.eqvAll]
  | cons a xs => simp [D.toPy, D.toPys, PyData.eqv, PyData.eqvAll]
theorem good_triples {k : Nat} (ws : List (Nat × Nat × Nat)) : Good (k + 2) (.lst (ws.map tripleD)) :=
  Good.lst fun d hd => by
    obtain ⟨x, _, rfl⟩ := List.mem_map.mp hd
    refine Good.tup fun e he => ?_
    simp only [List.mem_cons, List.not_mem_nil, or_false] at he
    rcases he with rfl | rfl | rfl <;> exact Good.int _
theorem tbl_empty {t0 t : List (Nat × Nat)} {n : Nat} {q : Nat → Nat → Bool} : (((tblL t0 t n).filter fun k => q k.2.1 k.2.2).map tripleD).isEmpty = true ↔ ∀ ts, 1 ≤ ts → ts ≤ n → q (levT t0 ts) (levT t ts) = false := by
  rw [List.isEmpty_iff, List.map_eq_nil_iff, List.filter_eq_nil_iff]
  unfold tblL
  constructor
  · intro h ts h1 h2
    have := h (1 + (ts - 1), levT t0 (1 + (ts - 1)), levT t (1 + (ts - 1))) (List.mem_map.mpr ⟨ts - 1, List.mem_range.mpr (by omega), rfl⟩)
    rw [show 1 + (ts - 1) = ts by omega] at this
    simpa using this
  · intro h k hk
    obtain ⟨i, hi, rfl⟩ := List.mem_map.mp hk
    have := h (1 + i) (by omega) (by have := List.mem_range.mp hi; omega)
    simp [this]
theorem tbl_ok {t0 t : List (Nat × Nat)} {n : Nat} (hn : n ≤ 99) (p : Nat × Nat × Nat → Bool) : OkW ((tblL t0 t n).filter p) := by
  refine ⟨fun k hk => ?_, ?_⟩
  · obtain ⟨hk, _⟩ := List.mem_filter.mp hk
    obtain ⟨i, hi, rfl⟩ := List.mem_map.mp hk
    have := List.mem_range.mp hi
    show 1 + i < 100
    omega
  · refine Nat.le_trans (List.length_filter_le _ _) ?_
    unfold tblL; simp; omega
theorem beq_of_iff {a b : Bool} (h : a = true ↔ b = true) : (!(a == b)) = false := by
  have : a = b := Bool.eq_iff_iff.mpr h
  simp [this]
section
variable {t P T : List (Nat × Nat)} {rs : List Nat} {b : Nat}
theorem Line.levF (L : Line t P T rs b) : levelN (cntOf rs) b rs.length = levT t := by
  funext ts; unfold levT; rw [L.scan]
theorem Line.longF (L : Line t P T rs b) : longT t = longN (cntOf rs) b := by unfold longT; rw [L.scan]
end
section
variable {t0 P0 T0 t P T : List (Nat × Nat)} {rs0 rs : List Nat} {b0 b : Nat}
theorem eq_law (L0 : Line t0 P0 T0 rs0 b0) (L : Line t P T rs b) : (!(decide (cntOf rs0 = cntOf rs ∧ b0 = b) == (((tblL t0 t (max (longT t0) (longT t) + 1)).filter fun k => decide (k.2.1 ≠ k.2.2)).map tripleD).isEmpty)) = false := by
  refine beq_of_iff ?_
  have s0 := long_spec rs0 b0
  have s1 := long_spec rs b
  rw [← L0.longF] at s0
  rw [← L.longF] at s1
  rw [tbl_empty (q := fun a b => decide (a ≠ b)), decide_eq_true_eq, norm_iff (N := max (longT t0) (longT t)) (fun r hr => by have := s0.1 r hr; omega) (by have := s0.2.1; omega) (fun r hr => by have := s1.1 r hr; omega) (by have := s1.2.1; omega)]
  refine forall_congr' fun ts => forall_congr' fun h1 => forall_congr' fun h2 => ?_
  rw [L0.lev (by omega), L.lev (by omega)]
  simp
theorem less_law (L0 : Line t0 P0 T0 rs0 b0) (L : Line t P T rs b) {n : Nat} (hn : n = max (longT t0) (longT t) + 1) {q : Nat → Nat → Bool} {u v : List (Nat × Nat)} (hq : ∀ ts, q (levT u ts) (levT v ts) = decide (levT t ts ≤ levT t0 ts)) :
    (!(lessB P0.length rs0.length (cntOf rs0) b0 (decide ((cntOf rs0).length ≤ 1)) P.length rs.length (cntOf rs) b (decide ((cntOf rs).length ≤ 1)) == (((tblL u v n).filter fun k => q k.2.1 k.2.2).map tripleD).isEmpty)) = false := by
  refine beq_of_iff ?_
  subst hn
  rw [tbl_empty, less_iff (N := max (longT t0) (longT t)) (by rw [lev_one, L0.form.len]) (by rw [lev_one, L.form.len]) (by unfold sizesN; rw [L0.longF, L.longF])]
  refine forall_congr' fun ts => forall_congr' fun h1 => forall_congr' fun h2 => ?_
  rw [hq, L0.lev (by omega), L.lev (by omega)]
  simp
end
abbrev colD (n : Nat) (t : List (Nat × Nat)) : D := .lst (((List.range n).map (1 + ·)).map fun size => D.int (levT t size))
theorem col_at {n i : Nat} {t : List (Nat × Nat)} (h : i < n) : ((((List.range n).map (1 + ·)).map fun size => D.int (levT t size)))[(((1 + i : Nat) : Int) - 1).toNat]? = some (.int (levT t (1 + i))) := by
  rw [show (((1 + i : Nat) : Int) - 1).toNat = i by omega, List.getElem?_map, List.getElem?_map, List.getElem?_range h]
  rfl

/-! text QE -/
theorem capd_at {caps : List Str} {ρ : Sto} {x : Str} {d : D} (hx : x ∈ caps) (h : ρ x = some (.im d)) : capd caps ρ x = some (.im d) := by
  unfold capd; rw [if_pos hx, h]
section
variable {c : Cx} (O : c.Ok) (B : BOk c)
include O B
set_option maxHeartbeats 8000000 in
theorem law_loop3 {A : Around} {hc : Heap} {σ₀ : Look} {os₀ : OG} (R : Room A 5) {t0 t1 t2 : List (Nat × Nat)} (ok0 : OkT t0) (ok1 : OkT t1) (ok2 : OkT t2) {ρ : Sto} {d4 : D} {M : Nat} (hM : M ≤ 1000) (m0 : longT t0 ≤ M) (m1 : longT t1 ≤ M) (m2 : longT t2 ≤ M)
    (h1 : ρ X_spaces = some (.im (.lst [wsD t0, wsD t1, wsD t2]))) (h2 : ρ X_longest = some (.im (.lst [.int (longT t0), .int (longT t1), .int (longT t2)]))) (h3 : ρ X_columns = some (.im (.lst [colD (M + 1) t0, colD (M + 1) t1, colD (M + 1) t2]))) (h4 : ρ X_kept = some (.im d4)) :
    ∀ st1 st, (fd193 c.w.params).1.body = .stmts st1 → st = st1[12]! → Ex c (F193 c A hc σ₀ os₀) ρ (exec st (envF (fd193 c.w.params).1 193 hc.objs.size)) (fun fl ρ' => fl = .next ∧ ρ' X_spaces = some (.im (.lst [wsD t0, wsD t1, wsD t2])) ∧ ρ' X_kept = some (.im d4)) := by
  intro st1 st e1 e2
  cases e1
  subst e2
  refine Ex.for_ (items := [.int 1, .int 2]) (fun i ρ' => ρ' X_spaces = some (.im (.lst [wsD t0, wsD t1, wsD t2])) ∧ ρ' X_longest = some (.im (.lst [.int (longT t0), .int (longT t1), .int (longT t2)])) ∧ ρ' X_columns = some (.im (.lst [colD (M + 1) t0, colD (M + 1) t1, colD (M + 1) t2])) ∧ ρ' X_kept = some (.im d4))
    (It.tuple R.handled (Ev.tuple (Evs.cons Ev.int (Evs.cons Ev.int Evs.nil)))) ⟨h1, h2, h3, h4⟩ ?_ (fun ρ' ⟨q1, q2, q3, q4⟩ => ⟨rfl, q1, q4⟩)
  intro i d ρi hd ⟨q1, q2, q3, q4⟩
  have hd' : ∃ (o : Nat) (t : List (Nat × Nat)), d = .int o ∧ OkT t ∧ longT t ≤ M ∧ [wsD t0, wsD t1, wsD t2][((o : Nat) : Int).toNat]? = some (wsD t) ∧ [D.int (longT t0), .int (longT t1), .int (longT t2)][((o : Nat) : Int).toNat]? = some (.int (longT t)) ∧ [colD (M + 1) t0, colD (M + 1) t1, colD (M + 1) t2][((o : Nat) : Int).toNat]? = some (colD (M + 1) t) := by
    match i, hd with
    | 0, hd => cases hd; exact ⟨1, t1, rfl, ok1, m1, rfl, rfl, rfl⟩
    | 1, hd => cases hd; exact ⟨2, t2, rfl, ok2, m2, rfl, rfl, rfl⟩
    | i + 2, hd => simp at hd
  clear hd
  obtain ⟨o, t, rfl, ok, mt, o1, o2, o3⟩ := hd'
  obtain ⟨P0, T0, rs0, b0, L0⟩ := Line.ex t0 ok0.1
  obtain ⟨P, T, rs, b, L⟩ := Line.ex t ok.1
  obtain ⟨bP0, bR0, bC0, bb0, bT0⟩ := L0.bounds ok0
  obtain ⟨bP, bR, bC, bb, bT⟩ := L.bounds ok
  have f0 := L0.longF
  have f1 := L.longF
  have l0 : longT t0 ≤ 30 := by rw [f0]; unfold longN; omega
  have l1 : longT t ≤ 30 := by rw [f1]; unfold longN; omega
  have hsl : sizeLine = 2 ^ 24 := rfl
  refine ⟨_, Asg.name (.inr ⟨rfl, rfl⟩), ?_⟩
  refine Ex.cons (Ex.swap2 (x := Str.ofString "one") (y := Str.ofString "two") (d1 := wsD t0) (d2 := wsD t) R.handled (Ev.tuple (Evs.cons (Ev.item (Ev.name q1) Ev.int (it_lst (by decide) rfl (by simp))) (Evs.cons (Ev.item (Ev.name q1) (Ev.name rfl) (it_lst (by omega) o1 (by simp))) Evs.nil))) (.inl rfl) (.inl rfl) ?_)
  -- the table
  refine Ex.cons (Ex.assignN (l := List.range (max (longT t0) (longT t) + 1)) (φ := fun (i : Nat) => D.int ((1 + i : Nat) : Int)) (fun _ => true) (fun i => tripleD (1 + i, levT t0 (1 + i), levT t (1 + i))) (fun a b e => by have := D.int.inj e; omega)
    (it_from (a := 1) (n := max (longT t0) (longT t) + 1) (b := max (longT t0 : Int) (longT t : Int) + 2) R.handled (by decide) (by omega) (Ev.call (Glb.blt O (gb_range _) boot_range) Kept.type (Evs.cons Ev.int (Evs.cons (Ev.bin (Ev.call (Glb.blt O (gb_max _) boot_max) Kept.builtin (Evs.cons (Ev.item (Ev.name q2) Ev.int (it_lst (by decide) rfl (by simp))) (Evs.cons (Ev.item (Ev.name q2) (Ev.name rfl) (it_lst (by omega) o2 (by simp))) Evs.nil)) fn_max2 (R.mono (by decide))) Ev.int op_add_int) Evs.nil)) fn_range2 (R.mono (by decide))) (by omega) (by omega))
    (CompC.of2 (x := Str.ofString "other") (y := X_columns) (d := .int o) (d' := .lst [colD (M + 1) t0, colD (M + 1) t1, colD (M + 1) t2]) rfl q3) (by rw [List.length_range]; omega) (fun _ _ _ => rfl) (fun i hi _ C => ?_) (.inl rfl) ?_)
  · have hi := List.mem_range.mp hi
    refine Ev.tuple (Evs.cons (Ev.name rfl) (Evs.cons (Ev.item (d1 := colD (M + 1) t0) (Ev.item (Ev.name (d := .lst [colD (M + 1) t0, colD (M + 1) t1, colD (M + 1) t2]) ?_) Ev.int (it_lst (by decide) rfl (by simp))) (Ev.bin (Ev.name rfl) Ev.int op_sub_int) (it_lst (by omega) (col_at (by omega)) ?_)) (Evs.cons (Ev.item (d1 := colD (M + 1) t) (Ev.item (Ev.name (d := .lst [colD (M + 1) t0, colD (M + 1) t1, colD (M + 1) t2]) ?_) (Ev.name rfl) (it_lst (by omega) o3 (by simp))) (Ev.bin (Ev.name rfl) Ev.int op_sub_int) (it_lst (by omega) (col_at (by omega)) ?_)) Evs.nil)))
    · exact capd_at (caps := [Str.ofString "other", X_columns]) (by decide) q3
    · simp; omega
    · exact capd_at (caps := [Str.ofString "other", X_columns]) (by decide) q3
    · simp; omega
  have htbl : ((List.range (max (longT t0) (longT t) + 1)).filter fun _ => true).map (fun i => tripleD (1 + i, levT t0 (1 + i), levT t (1 + i))) = (tblL t0 t (max (longT t0) (longT t) + 1)).map tripleD := by
    rw [filter_true, tblL, List.map_map]; rfl
  rw [htbl]
  have hE := eq_law L0 L
  have hL := less_law L0 L (n := max (longT t0) (longT t) + 1) rfl (q := fun a b => decide (b ≤ a)) (u := t0) (v := t) (fun _ => rfl)
  have hG := less_law L L0 (n := max (longT t0) (longT t) + 1) (by rw [Nat.max_comm]) (q := fun a b => decide (a ≤ b)) (u := t0) (v := t) (fun _ => rfl)
  have hz : sizesN (cntOf rs0) b0 (cntOf rs) b = max (longT t0) (longT t) + 1 := by unfold sizesN; rw [f0, f1]
  have tl : (tblL t0 t (max (longT t0) (longT t) + 1)).length ≤ 31 := by unfold tblL; simp; omega
  have k1 := tbl_ok (t0 := t0) (t := t) (n := max (longT t0) (longT t) + 1) (by omega) (fun k => decide (k.2.1 ≠ k.2.2))
  have k2 := tbl_ok (t0 := t0) (t := t) (n := max (longT t0) (longT t) + 1) (by omega) (fun k => decide (k.2.2 ≤ k.2.1))
  have w1 := wits_tbl (t0 := t0) (t := t) (q := fun a b => decide (a ≠ b)) (n := max (longT t0) (longT t) + 1) L0.levF L.levF
  have w2 := wits_tbl (t0 := t0) (t := t) (q := fun a b => decide (b ≤ a)) (n := max (longT t0) (longT t) + 1) L0.levF L.levF
  generalize max (longT t0) (longT t) + 1 = n at hE hL hG hz tl k1 k2 w1 w2
  -- unlike, above
  refine Ex.cons (Ex.assignN (l := tblL t0 t n) (φ := tripleD) (fun k => decide (k.2.1 ≠ k.2.2)) tripleD inj_triple (It.list R.handled (Ev.name rfl) (.inl ⟨_, _, rfl⟩)) CompC.of0 (by omega) (fun k _ C => ?_) (fun k _ _ C => Ev.name rfl) (.inl rfl) ?_)
  · exact Tst.cmp (Ev.item (Ev.name rfl) Ev.int (it_tup (by decide) rfl (by simp))) (Ev.item (Ev.name rfl) Ev.int (it_tup (by decide) rfl (by simp))) op_ne_nat
  refine Ex.cons (Ex.assignN (l := tblL t0 t n) (φ := tripleD) (fun k => decide (k.2.2 ≤ k.2.1)) tripleD inj_triple (It.list R.handled (Ev.name rfl) (.inl ⟨_, _, rfl⟩)) CompC.of0 (by omega) (fun k _ C => ?_) (fun k _ _ C => Ev.name rfl) (.inl rfl) ?_)
  · exact Tst.cmp (Ev.item (Ev.name rfl) Ev.int (it_tup (by decide) rfl (by simp))) (Ev.item (Ev.name rfl) Ev.int (it_tup (by decide) rfl (by simp))) op_ge_nat
  -- equal
  refine Ex.cons (Ex.ifB (b := false) (Tst.as (Tst.or2 (Tst.cmp (Ev.methW O (Ev.as (Ev.name rfl) L0.ws) (Evs.cons (Ev.as (Ev.name rfl) L.ws) Evs.nil) (m_newit O (by omega) (by omega) (by omega) (by omega)) (R.mono (by decide)) (m_not_equal_witness _) (mf_not_equal_witness _) (mk_not_equal_witness _)) (Ev.name rfl) (op_neS (k := 2) R ?_ ?_))
    (fun _ => Tst.cmp (Ev.methW O (Ev.as (Ev.name rfl) L0.ws) (Evs.cons (Ev.as (Ev.name rfl) L.ws) Evs.nil) (m_equal_ O) (R.mono (by decide)) (m_equal _) (mf_equal _) (mk_equal _)) (Ev.cmp (Ev.name rfl) (Ev.list Evs.nil) (op_eqG (k := 2) (j := 1) R (good_triples _) (Good.lst fun _ h => nomatch h))) op_isnot_bool)) ?_) (fun h => nomatch h) (fun _ => Ex.nil ?_))
  · rw [hz, w1]; exact good_triples _
  · rw [hz, w1]
  · rw [eqv_nil]; exact hE
  -- less
  refine Ex.cons (Ex.ifB (b := false) (Tst.as (Tst.or2 (Tst.cmp (Ev.methW O (Ev.as (Ev.name rfl) L0.ws) (Evs.cons (Ev.as (Ev.name rfl) L.ws) Evs.nil) (m_nlwit O (by omega) (by omega) (by omega) (by omega)) (R.mono (by decide)) (m_not_less_witness _) (mf_not_less_witness _) (mk_not_less_witness _)) (Ev.name rfl) (op_neS (k := 2) R ?_ ?_))
    (fun _ => Tst.cmp (Ev.methW O (Ev.as (Ev.name rfl) L0.ws) (Evs.cons (Ev.as (Ev.name rfl) L.ws) Evs.nil) (m_less_ O (by omega) (by omega) (by omega) (by omega)) (R.mono (by decide)) (m_less _) (mf_less _) (mk_less _)) (Ev.cmp (Ev.name rfl) (Ev.list Evs.nil) (op_eqG (k := 2) (j := 1) R (good_triples _) (Good.lst fun _ h => nomatch h))) op_isnot_bool)) ?_) (fun h => nomatch h) (fun _ => Ex.nil ?_))
  · rw [hz, w2]; exact good_triples _
  · rw [hz, w2]
  · rw [eqv_nil]; exact hL
  refine Ex.cons (Ex.ifB (b := false) (Tst.as (Tst.cmp (Ev.methW O (Ev.as (Ev.name rfl) L.ws) (Evs.cons (Ev.as (Ev.name rfl) L0.ws) Evs.nil) (m_less_ O (by omega) (by omega) (by omega) (by omega)) (R.mono (by decide)) (m_less _) (mf_less _) (mk_less _))
    (Ev.cmp (Ev.compN (l := tblL t0 t n) (φ := tripleD) (fun k => decide (k.2.1 ≤ k.2.2)) tripleD inj_triple (It.list R.handled (Ev.name rfl) (.inl ⟨_, _, rfl⟩)) CompC.of0 (by omega) (fun k _ C => ?_) (fun k _ _ C => Ev.name rfl)) (Ev.list Evs.nil) (op_eqG (k := 2) (j := 1) R (good_triples _) (Good.lst fun _ h => nomatch h))) op_isnot_bool) ?_) (fun h => nomatch h) (fun _ => Ex.nil ?_))
  · exact Tst.cmp (Ev.item (Ev.name rfl) Ev.int (it_tup (by decide) rfl (by simp))) (Ev.item (Ev.name rfl) Ev.int (it_tup (by decide) rfl (by simp))) op_ge_nat
  · rw [eqv_nil]; exact hG
  refine Ex.cons (Ex.mono (law_wit O B R k1 k2 (d1 := .lst [wsD t0, wsD t1, wsD t2]) (d2 := .lst [.int (longT t0), .int (longT t1), .int (longT t2)]) (d3 := .lst [colD (M + 1) t0, colD (M + 1) t1, colD (M + 1) t2]) (d4 := d4) ?_ ?_ ?_ ?_ ?_ ?_ _ _ _ _ _ _ _ rfl rfl rfl) ?_)
  · exact q1
  · exact q2
  · exact q3
  · exact q4
  · rfl
  · rfl
  rintro fl ρ' ⟨rfl, r⟩
  exact Ex.nil r
end

/-! text QF -/
def cstL : List Int := [510, 147366, 1009, 51458, 2299]
/-- the five numbers that the script gives -/
def pk (ns : List Int) (p : Nat) : Nat := (((pickL (ns.take 60) (some (p : Int)) none (some 5)).sum + cstL.getD p 0).fmod ((10 ^ 12 : Nat) : Int)).toNat
theorem pk_eq (ns : List Int) (p : Nat) : ((pickL (ns.take 60) (some (p : Int)) none (some 5)).sum + cstL.getD p 0).fmod ((10 ^ 12 : Nat) : Int) = (pk ns p : Int) := by
  unfold pk
  have : 0 ≤ ((pickL (ns.take 60) (some (p : Int)) none (some 5)).sum + cstL.getD p 0).fmod ((10 ^ 12 : Nat) : Int) := Int.fmod_nonneg_of_pos _ (by decide)
  omega
theorem cst_at {p : Nat} (h : p < 5) : ([D.int 510, .int 147366, .int 1009, .int 51458, .int 2299])[((p : Nat) : Int).toNat]? = some (.int (cstL.getD p 0)) := by
  match p, h with
  | 0, _ => rfl
  | 1, _ => rfl
  | 2, _ => rfl
  | 3, _ => rfl
  | 4, _ => rfl
  | p + 5, h => omega
theorem front_keys {x : Nat} {turned : Bool} {more : Nat} (hm : more ≤ 1) : (∀ k ∈ frontL x turned more, k.1 < 96 ∧ k.2 < 4) ∧ (frontL x turned more).length ≤ 21 := by
  obtain ⟨r1, r2⟩ := runs_lt (x := x) (turned := turned)
  unfold frontL
  refine ⟨fun k hk => ?_, ?_⟩
  · rcases List.mem_append.mp hk with hk | hk
    · have : ∀ rs : List Nat, ∀ k ∈ frontOf rs, k.1 < 96 ∧ k.2 < 4 := by
        intro rs
        induction rs with
        | nil => intro k hk; cases hk
        | cons r rs ih =>
          intro k hk
          rcases List.mem_append.mp hk with hk | hk
          · rw [List.eq_of_mem_replicate hk]; decide
          · rcases List.mem_cons.mp hk with rfl | hk
            · refine ⟨?_, by show 1 < 4; decide⟩
              show tabK r < 96
              unfold tabK; split
              · decide
              · split <;> decide
            · exact ih k hk
      exact this _ k hk
    · rw [List.eq_of_mem_replicate hk]; decide
  · have := frontOf_len _ r2
    rw [List.length_append, List.length_replicate]
    omega
theorem keys_keys (x : Nat) : (∀ k ∈ keysL x, k.1 < 96 ∧ k.2 < 4) ∧ (keysL x).length ≤ 3 := by
  unfold keysL
  refine ⟨fun k hk => ?_, by simp; omega⟩
  obtain ⟨p, _, rfl⟩ := List.mem_map.mp hk
  exact ⟨Nat.mod_lt _ (by decide), Nat.mod_lt _ (by decide)⟩
theorem okT_of {x y : Nat} {turned : Bool} {more : Nat} (hm : more ≤ 1) : OkT (frontL x turned more ++ keysL y) := by
  obtain ⟨a1, a2⟩ := front_keys (x := x) (turned := turned) hm
  obtain ⟨b1, b2⟩ := keys_keys y
  refine ⟨fun k hk => ?_, by rw [List.length_append]; omega⟩
  rcases List.mem_append.mp hk with hk | hk
  · exact a1 k hk
  · exact b1 k hk
theorem inj_typ : ∀ a b : List (Nat × Nat), typD a = typD b → a = b := by
  intro a b e
  have := D.lst.inj e
  exact (List.map_inj_right (fun x y h => inj_pair x y h)).mp this
theorem inj_ws : ∀ a b : List Nat, wsOf a = wsOf b → a = b := by
  intro a b e
  unfold wsOf at e
  injection e with e1
  simpa using e1
theorem join_ones (l : List Nat) : Txt.join (S []) (l.map fun n => (⟨#[n]⟩ : Str)) = S l := by
  have := join_S [] (l.map fun n => [n])
  rw [List.map_map, joinL_nil] at this
  have e : (l.map fun n => [n]).flatten = l := by
    clear this
    induction l with
    | nil => rfl
    | cons a l ih => simpa using ih
  rw [e] at this
  exact this
abbrev keptD (l : List Nat) : D := .tup [.str (S l), .int (scanL l).n, .int (scanL l).nt, .tup [.tup ((castL (scanL l).cnt).map .int), .int (scanL l).b], .bool (decide ((scanL l).cnt.length ≤ 1))]
theorem good_kept {l : List Nat} (h : ∀ n ∈ l, n < 1114112) : Good 3 (keptD l) := by
  refine Good.tup fun d hd => ?_
  simp only [List.mem_cons, List.not_mem_nil, or_false] at hd
  rcases hd with rfl | rfl | rfl | rfl | rfl
  · exact Good.str (strOk_small h)
  · exact Good.int _
  · exact Good.int _
  · exact good_norm _ _
  · exact Good.bool _
section
variable {c : Cx} (O : c.Ok) (B : BOk c)
include O B
set_option maxHeartbeats 8000000 in
theorem fn_law {ns : List Int} (hns : ns.length ≤ 1000) : Fn c 6 (.ref 193) [.lst (ns.map .int)] (.bool true) := by
  refine Fn.of1 O (fd193 _) (x := Str.ofString "script") fun A hc σ₀ os₀ R => ?_
  have hsl : sizeLine = 2 ^ 24 := rfl
  refine Ex.cons (Ex.assign (d := .lst ((ns.take 60).map .int)) (Ev.as (Ev.sliceL (Ev.name rfl) Part.none (Part.some Ev.int) Part.none (by decide) (by simp; omega)) ?_) (.inr ⟨rfl, rfl⟩) ?_)
  · refine congrArg D.lst ((pickL_upto (ns.map D.int) 60).trans ?_)
    rw [List.map_take]
  refine Ex.cons (Ex.assignN (l := List.range 5) (φ := fun (i : Nat) => D.int (i : Int)) (fun _ => true) (fun p => .int (pk ns p : Nat)) inj_nat
    (it_upto (n := 5) R.handled (by decide) (Ev.call (Glb.blt O (gb_range _) boot_range) Kept.type (Evs.cons Ev.int Evs.nil) fn_range1 (R.mono (by decide))))
    (CompC.of1 (d := .lst ((ns.take 60).map .int)) rfl) (by decide) (fun _ _ _ => rfl) (fun p hp _ C => ?_) (.inl rfl) ?_)
  · have hp := List.mem_range.mp hp
    refine Ev.asI (Ev.bin (Ev.bin (Ev.call (Glb.blt O (gb_sum _) boot_sum) Kept.builtin (Evs.cons (Ev.as (Ev.sliceL (Ev.name rfl) (Part.some (Ev.name rfl)) Part.none (Part.some Ev.int) (by decide) (by simp; omega)) (congrArg D.lst (pickL_map D.int (ns.take 60) (some (p : Int)) none (some 5)))) Evs.nil) fn_sum (R.mono (by decide)))
      (Ev.item (d1 := .tup [.int 510, .int 147366, .int 1009, .int 51458, .int 2299]) (Ev.tuple (Evs.cons Ev.int (Evs.cons Ev.int (Evs.cons Ev.int (Evs.cons Ev.int (Evs.cons Ev.int Evs.nil)))))) (Ev.name rfl) (it_tup (by omega) (cst_at hp) (by decide))) op_add_int)
      (Ev.bin Ev.int Ev.int (op_pow_nat (a := 10) (n := 12) (by decide) (by decide))) (op_mod_int (by decide))) (pk_eq ns p)
  rw [filter_true]
  -- the page
  have pkl : ∀ k, k < 5 → ((List.range 5).map fun p => D.int (pk ns p : Nat))[k]? = some (.int (pk ns k : Nat)) := fun k hk => by rw [List.getElem?_map, List.getElem?_range hk]; rfl
  generalize hT0 : frontL (pk ns 0) false 0 ++ keysL (pk ns 1) = t0
  generalize hT1 : frontL (pk ns 2) false 0 ++ keysL (pk ns 3) = t1
  generalize hT2 : frontL (pk ns 0) true (pk ns 4 % 2) ++ keysL (pk ns 4 / 2) = t2
  have ok0 : OkT t0 := hT0 ▸ okT_of (by decide)
  have ok1 : OkT t1 := hT1 ▸ okT_of (by decide)
  have ok2 : OkT t2 := hT2 ▸ okT_of (by omega)
  refine Ex.cons (Ex.assignOwn (ds := [typD t0, typD t1]) (EvF.list (Evs.cons (Ev.as (Ev.bin (Ev.call (Glb.own O (g_law_front _)) (Kept.own O (kp_law_front _)) (Evs.cons (Ev.item (Ev.name rfl) Ev.int (it_lst (d := .int (pk ns 0 : Nat)) (by decide) (pkl 0 (by decide)) (by simp))) (Evs.cons Ev.bool (Evs.cons Ev.int Evs.nil))) (fn_front O (more := 0) (by decide)) (R.mono (by decide)))
    (Ev.call (Glb.own O (g_law_keys _)) (Kept.own O (kp_law_keys _)) (Evs.cons (Ev.item (Ev.name rfl) Ev.int (it_lst (d := .int (pk ns 1 : Nat)) (by decide) (pkl 1 (by decide)) (by simp))) Evs.nil) (fn_keys O) (R.mono (by decide))) (op_add_lst ?_)) ?_)
    (Evs.cons (Ev.as (Ev.bin (Ev.call (Glb.own O (g_law_front _)) (Kept.own O (kp_law_front _)) (Evs.cons (Ev.item (Ev.name rfl) Ev.int (it_lst (d := .int (pk ns 2 : Nat)) (by decide) (pkl 2 (by decide)) (by simp))) (Evs.cons Ev.bool (Evs.cons Ev.int Evs.nil))) (fn_front O (more := 0) (by decide)) (R.mono (by decide)))
    (Ev.call (Glb.own O (g_law_keys _)) (Kept.own O (kp_law_keys _)) (Evs.cons (Ev.item (Ev.name rfl) Ev.int (it_lst (d := .int (pk ns 3 : Nat)) (by decide) (pkl 3 (by decide)) (by simp))) Evs.nil) (fn_keys O) (R.mono (by decide))) (op_add_lst ?_)) ?_) Evs.nil))) (.inl rfl) ?_)
  · have a := (front_keys (x := pk ns 0) (turned := false) (more := 0) (by decide)).2
    have b := (keys_keys (pk ns 1)).2
    rw [List.length_map, List.length_map]; omega
  · rw [← List.map_append, hT0]
  · have a := (front_keys (x := pk ns 2) (turned := false) (more := 0) (by decide)).2
    have b := (keys_keys (pk ns 3)).2
    rw [List.length_map, List.length_map]; omega
  · rw [← List.map_append, hT1]
  refine Ex.cons (Ex.append (ds := [typD t0, typD t1]) (d := typD t2) rfl (Ev.as (Ev.bin (Ev.call (Glb.own O (g_law_front _)) (Kept.own O (kp_law_front _)) (Evs.cons (Ev.item (Ev.name rfl) Ev.int (it_lst (d := .int (pk ns 0 : Nat)) (by decide) (pkl 0 (by decide)) (by simp))) (Evs.cons Ev.bool (Evs.cons (Ev.bin (Ev.item (Ev.name rfl) Ev.int (it_lst (d := .int (pk ns 4 : Nat)) (by decide) (pkl 4 (by decide)) (by simp))) Ev.int (op_mod_nat (b := 2) (by decide))) Evs.nil))) (fn_front O (by omega)) (R.mono (by decide)))
    (Ev.call (Glb.own O (g_law_keys _)) (Kept.own O (kp_law_keys _)) (Evs.cons (Ev.bin (Ev.item (Ev.name rfl) Ev.int (it_lst (d := .int (pk ns 4 : Nat)) (by decide) (pkl 4 (by decide)) (by simp))) Ev.int (op_div_nat (b := 2) (by decide) (by decide))) Evs.nil) (fn_keys O) (R.mono (by decide))) (op_add_lst ?_)) ?_) ?_ (by simp; omega))
  · have a := (front_keys (x := pk ns 0) (turned := true) (more := pk ns 4 % 2) (by omega)).2
    have b := (keys_keys (pk ns 4 / 2)).2
    rw [List.length_map, List.length_map]; omega
  · rw [← List.map_append, hT2]
  clear hT0 hT1 hT2
  -- lines, spaces
  have HT : ∀ t ∈ [t0, t1, t2], OkT t := by
    intro t ht
    simp only [List.mem_cons, List.not_mem_nil, or_false] at ht
    rcases ht with rfl | rfl | rfl <;> assumption
  refine Ex.freeze (x := X_page) (ds := [typD t0, typD t1, typD t2]) rfl ?_
  refine Ex.cons (Ex.assignN (l := [t0, t1, t2]) (φ := typD) (fun _ => true) lineD inj_typ (It.list R.handled (Ev.name rfl) (.inl ⟨_, _, rfl⟩)) CompC.of0 (by show 3 ≤ _; omega) (fun _ _ _ => rfl) (fun t ht _ C => ?_) (.inl rfl) ?_)
  · have ok := HT t ht
    have hl := ok.2
    refine Ev.as (Ev.join (x := S []) (ys := (signsL t).map fun n => (⟨#[n]⟩ : Str)) Ev.str (Ev.as (Ev.compP (l := t) (f1 := fun k => .int k.1) (f2 := fun k => .int k.2) (fun _ => true) (fun k => .str (ch (signN k.1 k.2))) R.handled inj_pair (It.list R.handled (Ev.name rfl) (.inr ⟨_, _, _, rfl⟩)) CompC.of0 (by omega) (fun _ _ _ => rfl)
      (fun k hk _ C => Ev.call (Glb.own O (g_law_sign _)) (Kept.own O (kp_law_sign _)) (Evs.cons (Ev.name rfl) (Evs.cons (Ev.name rfl) Evs.nil)) (fn_sign O (ok.1 k hk).1) (R.mono (by decide)))) ?_) ?_ (R.mono (by decide))) ?_
    · rw [filter_true, signsL, List.map_map, List.map_map]; rfl
    · have : ∀ l : List Nat, ((l.map fun n => (⟨#[n]⟩ : Str)).map (·.length)).sum = l.length := by
        intro l
        induction l with
        | nil => rfl
        | cons a l ih => rw [List.map_cons, List.map_cons, List.sum_cons, ih, List.length_cons]; show 1 + _ = _; omega
      rw [this, List.length_map, List.length_map, show (S []).length = 0 from rfl]; omega
    · rw [join_ones]
  rw [filter_true]
  refine Ex.cons (Ex.assignN (l := [signsL t0, signsL t1, signsL t2]) (φ := fun l => D.str (S l)) (fun _ => true) wsOf inj_S (It.list R.handled (Ev.name rfl) (.inl ⟨_, _, rfl⟩)) CompC.of0 (by show 3 ≤ _; omega) (fun _ _ _ => rfl) (fun l hl _ C => ?_) (.inl rfl) ?_)
  · have hl' : ∃ t ∈ [t0, t1, t2], l = signsL t := by
      simp only [List.mem_cons, List.not_mem_nil, or_false] at hl
      rcases hl with rfl | rfl | rfl
      · exact ⟨t0, by simp, rfl⟩
      · exact ⟨t1, by simp, rfl⟩
      · exact ⟨t2, by simp, rfl⟩
    obtain ⟨t, ht, rfl⟩ := hl'
    have := (HT t ht).2
    exact Ev.call (Glb.own O (g_Whitespace _)) (Kept.own O (kp_Whitespace _)) (Evs.cons (Ev.name rfl) Evs.nil) (fn_ws O (by rw [List.length_map]; omega)) (R.mono (by decide))
  rw [filter_true]
  refine Ex.cons (Ex.assignOwn (ds := []) (EvF.list Evs.nil) (.inl rfl) ?_)
  -- the first loop
  refine Ex.cons (Ex.mono (law_loop1 O R (typs := [t0, t1, t2]) HT (by simp) (dp := .lst ((List.range 5).map fun p => D.int (pk ns p : Nat))) ?_ ?_ ?_ ?_ ?_ _ _ rfl rfl) ?_)
  · rfl
  · rfl
  · rfl
  · rfl
  · rfl
  rintro fl ρ1 ⟨rfl, a1, a2, a3, a4, a5⟩
  -- the tab sizes
  obtain ⟨M, hM, m0, m1, m2, hM3⟩ : ∃ M : Nat, maxL (castL [longT t0, longT t1, longT t2]) = (M : Int) ∧ longT t0 ≤ M ∧ longT t1 ≤ M ∧ longT t2 ≤ M ∧ (M = longT t0 ∨ M = longT t1 ∨ M = longT t2) := by
    obtain ⟨h1, h2⟩ := maxL_spec (l := castL [longT t0, longT t1, longT t2]) (by simp)
    obtain ⟨m, hm, e⟩ := List.mem_map.mp h1
    have e' : maxL (castL [longT t0, longT t1, longT t2]) = (m : Int) := e.symm
    rw [e'] at h2
    have k0 := h2 (longT t0 : Int) (by simp [castL])
    have k1 := h2 (longT t1 : Int) (by simp [castL])
    have k2 := h2 (longT t2 : Int) (by simp [castL])
    refine ⟨m, e', by omega, by omega, by omega, ?_⟩
    simpa using hm
  have hlong : ∀ t, OkT t → longT t ≤ 30 := by
    intro t ok
    obtain ⟨P, T, rs, b, L⟩ := Line.ex t ok.1
    obtain ⟨bP, bR, bC, bb, bT⟩ := L.bounds ok
    rw [L.longF]; unfold longN; omega
  have hM30 : M ≤ 30 := by
    have x0 := hlong t0 ok0
    have x1 := hlong t1 ok1
    have x2 := hlong t2 ok2
    omega
  have hmx : ∀ {ρ : Sto} {np ap pos : Pos}, ρ X_longest = some (.im (.lst [.int (longT t0), .int (longT t1), .int (longT t2)])) → Ev c A (envF (fd193 c.w.params).1 193 hc.objs.size) ρ (eval (.Call (.Name (Str.ofString "max") np) [.Name X_longest ap] [] pos) (envF (fd193 c.w.params).1 193 hc.objs.size)) (.int M) := by
    intro ρ np ap pos h
    rw [← hM]
    exact Ev.call (Glb.blt O (gb_max _) boot_max) Kept.builtin (Evs.cons (Ev.as (Ev.name h) (d' := .lst ((castL [longT t0, longT t1, longT t2]).map .int)) rfl) Evs.nil) (fn_max (by simp)) (R.mono (by decide))
  refine Ex.freeze (x := X_longest) (ds := [.int (longT t0), .int (longT t1), .int (longT t2)]) a5 ?_
  refine Ex.cons (Ex.assign (d := .lst (intsN ((List.range (M + 1)).map (1 + ·) ++ [M + 2 + pk ns 3 % 9]))) (Ev.as (Ev.bin (Ev.call (Glb.blt O (gb_list _) boot_list) Kept.type (Evs.cons (Ev.call (Glb.blt O (gb_range _) boot_range) Kept.type (Evs.cons Ev.int (Evs.cons (Ev.bin (hmx rfl) Ev.int op_add_int) Evs.nil)) fn_range2 (R.mono (by decide))) Evs.nil) (fn_list_rng (small0 (by omega) (by omega) (by omega) (by omega)) (by omega)) (R.mono (by decide)))
    (Ev.list (Evs.cons (Ev.bin (Ev.bin (hmx rfl) Ev.int op_add_int) (Ev.bin (Ev.item (Ev.name (d := .lst ((List.range 5).map fun p => D.int (pk ns p : Nat))) ?_) Ev.int (it_lst (d := .int (pk ns 3 : Nat)) (by decide) (pkl 3 (by decide)) (by simp))) Ev.int (op_mod_nat (b := 9) (by decide))) op_add_int) Evs.nil)) (op_add_lst ?_)) ?_) (.inl rfl) ?_)
  · exact a4
  · unfold intsD; simp; omega
  · unfold intsD intsN
    rw [List.map_append, List.map_map, show ((M : Int) + 2 - 1).toNat = M + 1 by omega]
    refine congrArg D.lst ?_
    congr 1
  refine Ex.cons (Ex.assignOwn (ds := []) (EvF.list Evs.nil) (.inr ⟨rfl, rfl⟩) ?_)
  -- the second loop
  refine Ex.cons (Ex.mono (law_loop2 O R (typs := [t0, t1, t2]) HT (by simp) (dl := .lst [.int (longT t0), .int (longT t1), .int (longT t2)]) (tabs := (List.range (M + 1)).map (1 + ·) ++ [M + 2 + pk ns 3 % 9]) ?_ ?_ ?_ ?_ ?_ ?_ ?_ ?_ _ _ rfl rfl) ?_)
  · intro s hs
    rcases List.mem_append.mp hs with hs | hs
    · obtain ⟨i, hi, rfl⟩ := List.mem_map.mp hs
      have := List.mem_range.mp hi
      omega
    · cases List.mem_singleton.mp hs; omega
  · simp; omega
  · exact a1
  · exact a2
  · exact a3
  · rfl
  · rfl
  · rfl
  rintro fl ρ2 ⟨rfl, b1, b2, b3⟩
  rw [List.dropLast_concat] at b3
  refine Ex.freeze (x := X_columns) (ds := [colD (M + 1) t0, colD (M + 1) t1, colD (M + 1) t2]) b3 ?_
  -- the members are kept
  have hel : ∀ (l : List Nat) {ρ : Sto} {env : Env} {k : Nat} {pos p1 p2 p3 p4 p5 q1 q2 q3 q4 q5 : Pos}, ρ (Str.ofString "white") = some (.im (wsOf l)) → Ev c A env ρ (eval (.Tuple [.Attribute (.Name (Str.ofString "white") p1) N_raw q1, .Attribute (.Name (Str.ofString "white") p2) N_n q2, .Attribute (.Name (Str.ofString "white") p3) N_nt q3, .Attribute (.Name (Str.ofString "white") p4) N_norm q4, .Attribute (.Name (Str.ofString "white") p5) N_simple q5] k pos) env) (keptD l) := by
    intro l ρ env k pos p1 p2 p3 p4 p5 q1 q2 q3 q4 q5 h
    exact Ev.tuple (Evs.cons (Ev.a_raw O (Ev.name h)) (Evs.cons (Ev.a_n O (Ev.name h)) (Evs.cons (Ev.a_nt O (Ev.name h)) (Evs.cons (Ev.a_norm O (Ev.name h)) (Evs.cons (Ev.a_simple O (Ev.name h)) Evs.nil)))))
  refine Ex.cons (Ex.assignN (l := [signsL t0, signsL t1, signsL t2]) (φ := wsOf) (fun _ => true) keptD inj_ws (It.list R.handled (Ev.name b1) (.inl ⟨_, _, rfl⟩)) CompC.of0 (by show 3 ≤ _; omega) (fun _ _ _ => rfl) (fun l hl _ C => hel l rfl) (.inl rfl) ?_)
  rw [filter_true]
  -- the third loop
  refine Ex.cons (Ex.mono (law_loop3 O B R ok0 ok1 ok2 (d4 := .lst [keptD (signsL t0), keptD (signsL t1), keptD (signsL t2)]) (M := M) (by omega) m0 m1 m2 ?_ ?_ ?_ ?_ _ _ rfl rfl) ?_)
  · exact b1
  · exact b2
  · rfl
  · rfl
  rintro fl ρ3 ⟨rfl, g1, g2⟩
  have good : Good 4 (.lst [keptD (signsL t0), keptD (signsL t1), keptD (signsL t2)]) := Good.lst fun d hd => by
    simp only [List.mem_cons, List.not_mem_nil, or_false] at hd
    rcases hd with rfl | rfl | rfl
    · exact good_kept ok0.signs
    · exact good_kept ok1.signs
    · exact good_kept ok2.signs
  refine Ex.cons (Ex.ret (d := .bool true) (Ev.as (Ev.cmp (Ev.name g2) (Ev.compN (l := [signsL t0, signsL t1, signsL t2]) (φ := wsOf) (fun _ => true) keptD inj_ws (It.list R.handled (Ev.name g1) (.inl ⟨_, _, rfl⟩)) CompC.of0 (by show 3 ≤ _; omega) (fun _ _ _ => rfl) (fun l hl _ C => hel l rfl)) (op_eqG R good good)) ?_) rfl)
  exact congrArg D.bool (eqv_refl _ good.1)
end

/-! text QG -/
noncomputable def co86 (P : Params) : { vs : Array Value // ∃ o, (KK P).lookup 86 = some o ∧ o.data = .fields vs ∧ vs[11]? = some (.ref 82) } := ⟨_, _, rfl, rfl, rfl⟩
theorem code87 (P : Params) : (fd87 P).1.code = .ref 86 := rfl
theorem g_law (P : Params) : nsIn (KK P) mainGlobals (Str.ofString "law") = some (some (.ref 193)) := by kernel_rfl
/-- the table of format_witnesses' code is empty at the start -/
theorem tab_start {p : Program} {loose : List Str} {mean : ExcName → Option Value} {mg mb : Str → Option Value} {h : Heap} {P : Params} (T : Top p loose mean mg mb h) (KX : (KK P).In h) {d : DefRec} (hf : (recsOf p).find? (fun e => e.name == Str.ofString "format_witnesses") = some d) : h.IsCode 86 PT #[] ∧ h.TableAt 86 PT #[] := by
  have hn : d.name = Str.ofString "format_witnesses" := beq_iff_eq.mp (List.find?_some (p := fun e : DefRec => e.name == Str.ofString "format_witnesses") hf)
  obtain ⟨a, o, fd, c, Q, h1, h2, h3, h4, h5, h6⟩ := T.tab d (List.mem_of_find?_eq_some hf)
  rw [hn, mg_of KX T.g (g_format_witnesses P)] at h1
  cases h1
  obtain ⟨o', e1, e2⟩ := (fd87 P).2
  have := KX _ _ e1
  rw [this] at h2; cases h2
  rw [e2] at h3; cases h3
  rw [code87] at h4; cases h4
  obtain ⟨o2, q1, q2, q3⟩ := (co86 P).2
  have k2 := KX _ _ q1
  obtain ⟨⟨o3, vs, r1, r2, r3, r4⟩, r5⟩ := id h6
  rw [k2] at r1; cases r1
  rw [q2] at r3; cases r3
  rw [q3] at r4; cases r4
  exact ⟨h5, h6⟩
theorem old_of {c : Cx} {σ σ' : Look} {s s' : Shared} (h6 : s.heap.TableAt 86 PT #[]) (g : Grow σ s σ' s') : OldK s.heap s'.heap := by
  obtain ⟨ps, _, t⟩ := g.tab
  refine ⟨fun b o e => ?_, fun b o e => ?_⟩
  · by_cases hb : b = PT
    · subst hb
      rw [h6.2] at e; cases e
      exact .inr (.inl ⟨h6.isCodeTable, rfl, #[], ps, rfl, by rw [t.2]; simp⟩)
    · exact .inl (g.keep b o hb e)
  · by_cases hb : b = PT
    · subst hb; exact ⟨_, t.2⟩
    · exact ⟨o, g.keep b o hb e⟩
theorem well_list {P : Params} {h : Heap} {l : Addr} {vs : List Value} {ds : List WData} (hL : h.IsList l vs.toArray) (hW : Well P h (.ref l) (.list ds)) : h.get? l = some (lstO vs 0) := by
  obtain ⟨o, e1, _, n, e3⟩ := hL
  have key : ∃ us : List Value, h.get? l = some (lstO us 0) := by
    cases hW with | list e _ => exact ⟨_, e⟩
  obtain ⟨us, e⟩ := key
  rw [e] at e1
  cases e1
  have e4 : us.toArray = vs.toArray := by injection e3
  have e5 : us = vs := by simpa using e4
  rw [e, e5]
theorem room_caller : Room callerA 7 := ⟨rfl, by decide, by decide⟩
set_option maxHeartbeats 4000000 in
theorem law_end {w : World} {s₁ : Shared} {prog : Program} (KX : (KK w.params).In s₁.heap) {mg mb : Str → Option Value} {p : Program} {loose : List Str} {mean : ExcName → Option Value} (T : Top p loose mean mg mb s₁.heap) (ht : s₁.heap.IsCode 86 PT #[] ∧ s₁.heap.TableAt 86 PT #[])
    (hg : s₁.gens = #[]) {l : Addr} {vs : List Value} {ns : List Int} (hl : s₁.heap.get? l = some (lstO vs 0)) (hI : IntsAre vs ns) (hn : ns.length ≤ 63) {Q E : Value → Shared → Prop}
    (k : ∀ s', OldK s₁.heap s'.heap → s'.os = s₁.os → AllBare s'.gens → Q (.bool true) s') : wpAny (model prog w) callerA (call (.ref 193) [.ref l]) Q E s₁ := by
  let c : Cx := ⟨prog, w, s₁.heap⟩
  have npt : ∀ a o, s₁.heap.get? a = some o → o.cls ≠ .none → a ≠ PT := fun a o e hc q => by
    subst q; rw [ht.2.2] at e; cases e; exact hc rfl
  have O : c.Ok := ⟨KX, ⟨mg, T.g⟩, ⟨mb, T.b, T.builtins⟩, T.nolimit⟩
  have B : BOk c := by
    obtain ⟨bm, ob, a1, a2, a3, a4, a5, a6⟩ := T.bmain
    exact ⟨mg, bm, ob, ⟨T.g, a1, a2, a3, a4, a5, a6⟩, npt bm ob a3 (by rw [a4]; intro h; cases h)⟩
  let σ : Look := fun a => if a = PT then none else s₁.heap.get? a
  have hσ : ∀ a o, a ≠ PT → s₁.heap.get? a = some o → σ a = some o := fun a o h e => by show (if a = PT then none else _) = _; rw [if_neg h]; exact e
  have p₁ : PreG c σ s₁ := by
    refine ⟨fun a o e => ?_, hσ, ?_, ⟨_, ht⟩, .of_eq hg⟩
    · have e' : (if a = PT then none else s₁.heap.get? a) = some o := e
      split at e'
      · cases e'
      · exact e'
    · show (if PT = PT then none else s₁.heap.get? PT) = none
      rw [if_pos rfl]
  have il : Is σ (.ref l) (.lst (ns.map .int)) := .lst (hσ l _ (npt l _ hl (fun h => by cases h)) hl) (All.ofInts hI)
  refine fn_law O B (ns := ns) (by omega) callerA s₁ σ [.ref l] (room_caller.mono (by decide)) p₁ (.cons il .nil) Q E fun v s' σ' g i => ?_
  cases i
  exact k s' (old_of (c := c) ht.2 g) g.os.os g.gens
set_option maxHeartbeats 8000000 in
theorem opening : PySem.Challenge.rw_mr0230_01.Holds := by
  refine hd fun d hdn => ?_
  intro w s₀ s₁ mg mb G Y fa o pm cd doc dV kV ho hd' hcd hD hmg hg args vals as hpre hlay hrd hwl hlo
  have KX : (KK w.params).In s₁.heap := kIn_of Y
  have T := G.T
  have ht := tab_start T KX rfl
  have hfa : (193 : Addr) = fa := by
    rw [hdn] at hmg
    have := (mg_of KX T.g (g_law w.params)).symm.trans hmg
    cases this; rfl
  subst hfa
  clear hmg ho hd' hcd hD G Y
  wrow_args hpre hlay hrd hwl hlo
  rename_i ns _ _ _ _ _ _ _ l vs _ hL _ hW _ hI _ hlen _
  have hl : s₁.heap.get? l = some (lstO vs 0) := well_list hL (by rw [ofPy] at hW; exact hW)
  refine law_end KX T ht hg hl hI (by omega) fun s' ok os gb => ⟨.inl ⟨_, .bool true, [], rfl, fun cls => rfl, ReadsW.bool true, ?_, fun _ => ⟨List.nodup_nil, fun _ hm => nomatch hm⟩⟩, ok, os, gb⟩
  show (WShape.has [] (.bool true) .bool && (WTm.eq .res (.lit (.bool true))).holds [] _) = true
  simp [WShape.has, WShape.arms, WTm.holds, WTm.value, same]

end Mine
theorem PySem.Challenge.cw_mr0230_01_holds : PySem.Challenge.rw_mr0230_01.Holds :=
  Mine.opening
#print axioms PySem.Challenge.cw_mr0230_01_holds
