import PyProof.Rows.All
import Wide.All
import OpenK.AllK
import Wide.FinOn
import Lean
import PySem.Challenge.RW_qt0003_01
open PySem PySem.W PyProof.Rows PySem.Calls
set_option Elab.async false
set_option maxRecDepth 100000
set_option autoImplicit false
set_option maxHeartbeats 4000000
namespace Mine
section
noncomputable abbrev PP : Program := PySem.Challenge.rw_qt0003_01.prog
noncomputable def initOf (i j : Nat) : Arguments × List Stmt × Scope := match PP.main.body[i]? with
  | some (.ClassDef _ _ _ b _ _ _ _ _ _ _) => (match b[j]? with
    | some (.FunctionDef _ a b _ _ _ sc _ _ _) => (a, b, sc)
    | _ => (⟨[], [], none, [], [], none, []⟩, [], ⟨.function, [], false, false, []⟩))
  | _ => (⟨[], [], none, [], [], none, []⟩, [], ⟨.function, [], false, false, []⟩)
noncomputable def hd.view_39 : Program := { PP with main := { PP.main with body := [0, 2, 3, 5, 6, 8, 9, 11, 13, 14, 15, 16, 17, 18, 19, 20, 21, 22, 23, 24, 25, 26, 27, 28, 29, 30, 31, 32, 33].filterMap fun i => PP.main.body[i]? } }
noncomputable def hd.heap_39 : Params → Frag := fun p => [
  (2, { cls := Value.none, data := Data.dict #[] }),
  (3, { cls := Value.type "dict", data := Data.dict #[{ hash := PyData.keyHash p (Str.ofString "__name__"), key := Value.str (Str.ofString "__name__") 165, val := Value.str (Str.ofString "law_qt0003_01") 403 }, { hash := PyData.keyHash p (Str.ofString "__doc__"), key := Value.str (Str.ofString "__doc__") 166, val := Value.none }, { hash := PyData.keyHash p (Str.ofString "__package__"), key := Value.str (Str.ofString "__package__") 167, val := Value.none }, { hash := PyData.keyHash p (Str.ofString "__loader__"), key := Value.str (Str.ofString "__loader__") 168, val := Value.builtin "__main__.__loader__#opaque" }, { hash := PyData.keyHash p (Str.ofString "__spec__"), key := Value.str (Str.ofString "__spec__") 169, val := Value.none }, { hash := PyData.keyHash p (Str.ofString "__annotations__"), key := Value.str (Str.ofString "__annotations__") 170, val := Value.ref 6 }, { hash := PyData.keyHash p (Str.ofString "__builtins__"), key := Value.str (Str.ofString "__builtins__") 171, val := Value.ref 4 }, { hash := PyData.keyHash p (Str.ofString "__file__"), key := Value.str (Str.ofString "__file__") 173, val := Value.str (Str.ofString "/claim/cut.py") 172 }, { hash := PyData.keyHash p (Str.ofString "__cached__"), key := Value.str (Str.ofString "__cached__") 174, val := Value.none }, { hash := PyData.keyHash p (Str.ofString "_wall"), key := Value.str (Str.ofString "_wall") 193, val := Value.ref 21 }, { hash := PyData.keyHash p (Str.ofString "replace_escape_codes"), key := Value.str (Str.ofString "replace_escape_codes") 209, val := Value.ref 28 }, { hash := PyData.keyHash p (Str.ofString "_hex_end"), key := Value.str (Str.ofString "_hex_end") 218, val := Value.ref 35 }, { hash := PyData.keyHash p (Str.ofString "string_convert"), key := Value.str (Str.ofString "string_convert") 228, val := Value.ref 42 }, { hash := PyData.keyHash p (Str.ofString "string_concat"), key := Value.str (Str.ofString "string_concat") 237, val := Value.ref 49 }, { hash := PyData.keyHash p (Str.ofString "Token"), key := Value.str (Str.ofString "Token") 285, val := Value.ref 75 }, { hash := PyData.keyHash p (Str.ofString "SourceLocation"), key := Value.str (Str.ofString "SourceLocation") 341, val := Value.ref 107 }, { hash := PyData.keyHash p (Str.ofString "CToken"), key := Value.str (Str.ofString "CToken") 402, val := Value.ref 155 }, { hash := PyData.keyHash p (Str.ofString "_law_SMALL"), key := Value.str (Str.ofString "_law_SMALL") 406, val := Value.str (Str.ofString "0123456789abcdef") 405 }, { hash := PyData.keyHash p (Str.ofString "_law_BIG"), key := Value.str (Str.ofString "_law_BIG") 408, val := Value.str (Str.ofString "0123456789ABCDEF") 407 }, { hash := PyData.keyHash p (Str.ofString "_law_HEX"), key := Value.str (Str.ofString "_law_HEX") 410, val := Value.str (Str.ofString "0123456789abcdefABCDEF") 409 }, { hash := PyData.keyHash p (Str.ofString "_law_PLAIN"), key := Value.str (Str.ofString "_law_PLAIN") 416, val := Value.ref 166 }, { hash := PyData.keyHash p (Str.ofString "_law_SIMPLE"), key := Value.str (Str.ofString "_law_SIMPLE") 418, val := Value.str (Str.ofString "abfnrtve\"'?\\") 417 }, { hash := PyData.keyHash p (Str.ofString "_law_MEANT"), key := Value.str (Str.ofString "_law_MEANT") 424, val := Value.ref 173 }, { hash := PyData.keyHash p (Str.ofString "_law_BROKEN"), key := Value.str (Str.ofString "_law_BROKEN") 430, val := Value.ref 180 }, { hash := PyData.keyHash p (Str.ofString "_law_OTHERS"), key := Value.str (Str.ofString "_law_OTHERS") 463, val := Value.ref 201 }, { hash := PyData.keyHash p (Str.ofString "_law_next"), key := Value.str (Str.ofString "_law_next") 470, val := Value.ref 208 }, { hash := PyData.keyHash p (Str.ofString "_law_digits"), key := Value.str (Str.ofString "_law_digits") 482, val := Value.ref 215 }, { hash := PyData.keyHash p (Str.ofString "_law_piece"), key := Value.str (Str.ofString "_law_piece") 492, val := Value.ref 222 }, { hash := PyData.keyHash p (Str.ofString "_law_run"), key := Value.str (Str.ofString "_law_run") 502, val := Value.ref 229 }, { hash := PyData.keyHash p (Str.ofString "_law_worth"), key := Value.str (Str.ofString "_law_worth") 513, val := Value.ref 236 }, { hash := PyData.keyHash p (Str.ofString "_law_escape"), key := Value.str (Str.ofString "_law_escape") 524, val := Value.ref 243 }, { hash := PyData.keyHash p (Str.ofString "_law_read"), key := Value.str (Str.ofString "_law_read") 534, val := Value.ref 250 }, { hash := PyData.keyHash p (Str.ofString "_law_joined"), key := Value.str (Str.ofString "_law_joined") 547, val := Value.ref 257 }, { hash := PyData.keyHash p (Str.ofString "_law_told"), key := Value.str (Str.ofString "_law_told") 553, val := Value.ref 262 }, { hash := PyData.keyHash p (Str.ofString "_law_quoted"), key := Value.str (Str.ofString "_law_quoted") 559, val := Value.ref 267 }, { hash := PyData.keyHash p (Str.ofString "_law_made"), key := Value.str (Str.ofString "_law_made") 565, val := Value.ref 272 }, { hash := PyData.keyHash p (Str.ofString "_law_view"), key := Value.str (Str.ofString "_law_view") 571, val := Value.ref 277 }, { hash := PyData.keyHash p (Str.ofString "law"), key := Value.str (Str.ofString "law") 577, val := Value.ref 282 }] 38 }),
  (15, { cls := Value.type "tuple", data := Data.seq #[] }),
  (17, { cls := Value.type "tuple", data := Data.seq #[Value.str (Str.ofString "k") 190] }),
  (18, { cls := Value.type "tuple", data := Data.seq #[] }),
  (20, { cls := Value.type "code", data := Data.fields #[Value.str (Str.ofString "_wall") 187, Value.str (Str.ofString "_wall") 188, Value.str (Str.ofString "/claim/cut.py") 189, Value.int 1 0, Value.int 1 0, Value.int 0 0, Value.int 0 0, Value.int 3 0, Value.ref 15, Value.bool Bool.true, Value.int 181 0, Value.ref 16, Value.none, Value.ref 17, Value.ref 18, Value.ref 19, Value.int 191 0, Value.int 1 0, Value.str (Str.ofString "/claim/cut.py") 192] }),
  (63, { cls := Value.type "code", data := Data.fields #[Value.str (Str.ofString "__init__") 256, Value.str (Str.ofString "Token.__init__") 257, Value.str (Str.ofString "/claim/cut.py") 258, Value.int 72 0, Value.int 4 0, Value.int 0 0, Value.int 0 0, Value.int 3 0, Value.ref 58, Value.bool Bool.true, Value.int 181 0, Value.ref 59, Value.none, Value.ref 60, Value.ref 61, Value.ref 62, Value.int 263 0, Value.int 72 0, Value.str (Str.ofString "/claim/cut.py") 264] }),
  (64, { cls := Value.type "function", data := Data.func { name := Str.ofString "__init__", qualname := Str.ofString "Token.__init__", params := (initOf 8 1).1, body := FuncBody.stmts (initOf 8 1).2.1, scope := (initOf 8 1).2.2, globals := 3, pyModule := Value.str (Str.ofString "ppci.lang.common") 238, code := Value.ref 63, closure := [], defaults := Value.none, kwdefaults := Value.none } }),
  (74, { cls := Value.type "dict", data := Data.dict #[{ hash := PyData.keyHash p (Str.ofString "__module__"), key := Value.str (Str.ofString "__module__") 247, val := Value.str (Str.ofString "ppci.lang.common") 238 }, { hash := PyData.keyHash p (Str.ofString "__firstlineno__"), key := Value.str (Str.ofString "__firstlineno__") 251, val := Value.int 69 250 }, { hash := PyData.keyHash p (Str.ofString "__slots__"), key := Value.str (Str.ofString "__slots__") 255, val := Value.ref 57 }, { hash := PyData.keyHash p (Str.ofString "__init__"), key := Value.str (Str.ofString "__init__") 265, val := Value.ref 64 }, { hash := PyData.keyHash p (Str.ofString "__repr__"), key := Value.str (Str.ofString "__repr__") 272, val := Value.ref 71 }, { hash := PyData.keyHash p (Str.ofString "__static_attributes__"), key := Value.str (Str.ofString "__static_attributes__") 276, val := Value.ref 72 }, { hash := PyData.keyHash p (Str.ofString "loc"), key := Value.str (Str.ofString "loc") 278, val := Value.ref 76 }, { hash := PyData.keyHash p (Str.ofString "typ"), key := Value.str (Str.ofString "typ") 280, val := Value.ref 77 }, { hash := PyData.keyHash p (Str.ofString "val"), key := Value.str (Str.ofString "val") 282, val := Value.ref 78 }, { hash := PyData.keyHash p (Str.ofString "__doc__"), key := Value.str (Str.ofString "__doc__") 283, val := Value.none }] 5 }),
  (75, { cls := Value.type "type", data := Data.cls { name := Str.ofString "Token", bases := [Value.type "object"], mro := [Value.ref 75, Value.type "object"], ns := 74, qualname := Str.ofString "Token", hasDict := Bool.false, slotNames := [Str.ofString "loc", Str.ofString "typ", Str.ofString "val"], subclasses := [Value.ref 155] }, slots := #[Option.none, Option.none, Option.some (Value.str (Str.ofString "Token") 240), Option.some (Value.str (Str.ofString "Token") 248), Option.some (Value.builtin "object.__new__"), Option.some (Value.bool Bool.false)] }),
  (76, { cls := Value.type "member_descriptor", data := Data.fields #[Value.str (Str.ofString "loc") 277, Value.ref 75, Value.builtin "proto.slot", Value.builtin "proto.slot#set", Value.int 2 0] }),
  (77, { cls := Value.type "member_descriptor", data := Data.fields #[Value.str (Str.ofString "typ") 279, Value.ref 75, Value.builtin "proto.slot", Value.builtin "proto.slot#set", Value.int 1 0] }),
  (78, { cls := Value.type "member_descriptor", data := Data.fields #[Value.str (Str.ofString "val") 281, Value.ref 75, Value.builtin "proto.slot", Value.builtin "proto.slot#set", Value.int 0 0] }),
  (88, { cls := Value.type "list", data := Data.seq #[Value.str (Str.ofString "filename") 298, Value.str (Str.ofString "row") 299, Value.str (Str.ofString "col") 300, Value.str (Str.ofString "length") 301, Value.str (Str.ofString "source") 302] }),
  (89, { cls := Value.type "tuple", data := Data.seq #[Value.none] }),
  (95, { cls := Value.type "code", data := Data.fields #[Value.str (Str.ofString "__init__") 304, Value.str (Str.ofString "SourceLocation.__init__") 305, Value.str (Str.ofString "/claim/cut.py") 306, Value.int 83 0, Value.int 6 0, Value.int 0 0, Value.int 0 0, Value.int 3 0, Value.ref 90, Value.bool Bool.true, Value.int 181 0, Value.ref 91, Value.none, Value.ref 92, Value.ref 93, Value.ref 94, Value.int 313 0, Value.int 83 0, Value.str (Str.ofString "/claim/cut.py") 314] }),
  (96, { cls := Value.type "function", data := Data.func { name := Str.ofString "__init__", qualname := Str.ofString "SourceLocation.__init__", params := (initOf 9 1).1, body := FuncBody.stmts (initOf 9 1).2.1, scope := (initOf 9 1).2.2, globals := 3, pyModule := Value.str (Str.ofString "ppci.lang.common") 238, code := Value.ref 95, closure := [], defaults := Value.ref 89, kwdefaults := Value.none } }),
  (106, { cls := Value.type "dict", data := Data.dict #[{ hash := PyData.keyHash p (Str.ofString "__module__"), key := Value.str (Str.ofString "__module__") 293, val := Value.str (Str.ofString "ppci.lang.common") 238 }, { hash := PyData.keyHash p (Str.ofString "__firstlineno__"), key := Value.str (Str.ofString "__firstlineno__") 297, val := Value.int 80 296 }, { hash := PyData.keyHash p (Str.ofString "__slots__"), key := Value.str (Str.ofString "__slots__") 303, val := Value.ref 88 }, { hash := PyData.keyHash p (Str.ofString "__init__"), key := Value.str (Str.ofString "__init__") 315, val := Value.ref 96 }, { hash := PyData.keyHash p (Str.ofString "__repr__"), key := Value.str (Str.ofString "__repr__") 322, val := Value.ref 103 }, { hash := PyData.keyHash p (Str.ofString "__static_attributes__"), key := Value.str (Str.ofString "__static_attributes__") 328, val := Value.ref 104 }, { hash := PyData.keyHash p (Str.ofString "col"), key := Value.str (Str.ofString "col") 330, val := Value.ref 108 }, { hash := PyData.keyHash p (Str.ofString "filename"), key := Value.str (Str.ofString "filename") 332, val := Value.ref 109 }, { hash := PyData.keyHash p (Str.ofString "length"), key := Value.str (Str.ofString "length") 334, val := Value.ref 110 }, { hash := PyData.keyHash p (Str.ofString "row"), key := Value.str (Str.ofString "row") 336, val := Value.ref 111 }, { hash := PyData.keyHash p (Str.ofString "source"), key := Value.str (Str.ofString "source") 338, val := Value.ref 112 }, { hash := PyData.keyHash p (Str.ofString "__doc__"), key := Value.str (Str.ofString "__doc__") 339, val := Value.none }] 7 }),
  (107, { cls := Value.type "type", data := Data.cls { name := Str.ofString "SourceLocation", bases := [Value.type "object"], mro := [Value.ref 107, Value.type "object"], ns := 106, qualname := Str.ofString "SourceLocation", hasDict := Bool.false, slotNames := [Str.ofString "col", Str.ofString "filename", Str.ofString "length", Str.ofString "row", Str.ofString "source"] }, slots := #[Option.none, Option.none, Option.some (Value.str (Str.ofString "SourceLocation") 286), Option.some (Value.str (Str.ofString "SourceLocation") 294), Option.some (Value.builtin "object.__new__"), Option.some (Value.bool Bool.false)] }),
  (108, { cls := Value.type "member_descriptor", data := Data.fields #[Value.str (Str.ofString "col") 329, Value.ref 107, Value.builtin "proto.slot", Value.builtin "proto.slot#set", Value.int 4 0] }),
  (109, { cls := Value.type "member_descriptor", data := Data.fields #[Value.str (Str.ofString "filename") 331, Value.ref 107, Value.builtin "proto.slot", Value.builtin "proto.slot#set", Value.int 3 0] }),
  (110, { cls := Value.type "member_descriptor", data := Data.fields #[Value.str (Str.ofString "length") 333, Value.ref 107, Value.builtin "proto.slot", Value.builtin "proto.slot#set", Value.int 2 0] }),
  (111, { cls := Value.type "member_descriptor", data := Data.fields #[Value.str (Str.ofString "row") 335, Value.ref 107, Value.builtin "proto.slot", Value.builtin "proto.slot#set", Value.int 1 0] }),
  (112, { cls := Value.type "member_descriptor", data := Data.fields #[Value.str (Str.ofString "source") 337, Value.ref 107, Value.builtin "proto.slot", Value.builtin "proto.slot#set", Value.int 0 0] }),
  (115, { cls := Value.type "tuple", data := Data.seq #[Value.ref 75] }),
  (118, { cls := Value.type "cell", data := Data.cell (Option.some (Value.ref 155)) }),
  (123, { cls := Value.type "tuple", data := Data.seq #[Value.ref 118] }),
  (129, { cls := Value.type "code", data := Data.fields #[Value.str (Str.ofString "__init__") 356, Value.str (Str.ofString "CToken.__init__") 357, Value.str (Str.ofString "/claim/cut.py") 358, Value.int 95 0, Value.int 6 0, Value.int 0 0, Value.int 0 0, Value.int 3 0, Value.ref 124, Value.bool Bool.true, Value.int 181 0, Value.ref 125, Value.none, Value.ref 126, Value.ref 127, Value.ref 128, Value.int 366 0, Value.int 95 0, Value.str (Str.ofString "/claim/cut.py") 367] }),
  (130, { cls := Value.type "function", data := Data.func { name := Str.ofString "__init__", qualname := Str.ofString "CToken.__init__", params := (initOf 11 0).1, body := FuncBody.stmts (initOf 11 0).2.1, scope := (initOf 11 0).2.2, globals := 3, pyModule := Value.str (Str.ofString "ppci.lang.c.token") 342, code := Value.ref 129, closure := [(Str.ofString "__class__", 118)], defaults := Value.none, kwdefaults := Value.none, closureTuple := Value.ref 123 } }),
  (154, { cls := Value.type "dict", data := Data.dict #[{ hash := PyData.keyHash p (Str.ofString "__module__"), key := Value.str (Str.ofString "__module__") 351, val := Value.str (Str.ofString "ppci.lang.c.token") 342 }, { hash := PyData.keyHash p (Str.ofString "__firstlineno__"), key := Value.str (Str.ofString "__firstlineno__") 355, val := Value.int 93 354 }, { hash := PyData.keyHash p (Str.ofString "__init__"), key := Value.str (Str.ofString "__init__") 368, val := Value.ref 130 }, { hash := PyData.keyHash p (Str.ofString "__repr__"), key := Value.str (Str.ofString "__repr__") 375, val := Value.ref 137 }, { hash := PyData.keyHash p (Str.ofString "__str__"), key := Value.str (Str.ofString "__str__") 382, val := Value.ref 144 }, { hash := PyData.keyHash p (Str.ofString "copy"), key := Value.str (Str.ofString "copy") 391, val := Value.ref 152 }, { hash := PyData.keyHash p (Str.ofString "__static_attributes__"), key := Value.str (Str.ofString "__static_attributes__") 394, val := Value.ref 153 }, { hash := PyData.keyHash p (Str.ofString "__dict__"), key := Value.str (Str.ofString "__dict__") 397, val := Value.ref 156 }, { hash := PyData.keyHash p (Str.ofString "__weakref__"), key := Value.str (Str.ofString "__weakref__") 399, val := Value.ref 157 }, { hash := PyData.keyHash p (Str.ofString "__doc__"), key := Value.str (Str.ofString "__doc__") 400, val := Value.none }] 5 }),
  (155, { cls := Value.type "type", data := Data.cls { name := Str.ofString "CToken", bases := [Value.ref 75], mro := [Value.ref 155, Value.ref 75, Value.type "object"], ns := 154, qualname := Str.ofString "CToken", slotNames := [Str.ofString "loc", Str.ofString "typ", Str.ofString "val"] }, slots := #[Option.some (Value.ref 115), Option.none, Option.some (Value.str (Str.ofString "CToken") 344), Option.some (Value.str (Str.ofString "CToken") 352), Option.some (Value.builtin "object.__new__"), Option.some (Value.bool Bool.true)] }),
  (156, { cls := Value.type "getset_descriptor", data := Data.fields #[Value.str (Str.ofString "__dict__") 396, Value.ref 155, Value.builtin "function.__dict__", Value.builtin "function.__dict__#set"] }),
  (157, { cls := Value.type "getset_descriptor", data := Data.fields #[Value.str (Str.ofString "__weakref__") 398, Value.ref 155, Value.builtin "ExceptionGroup.__weakref__", Value.none] }),
  (181, { cls := Value.type "tuple", data := Data.seq #[Value.str (Str.ofString "ID") 431, Value.str (Str.ofString "L") 432] }),
  (182, { cls := Value.type "tuple", data := Data.seq #[Value.str (Str.ofString "ID") 433, Value.str (Str.ofString "n") 434] }),
  (183, { cls := Value.type "tuple", data := Data.seq #[Value.str (Str.ofString "ID") 435, Value.str (Str.ofString "int") 436] }),
  (184, { cls := Value.type "tuple", data := Data.seq #[Value.str (Str.ofString "ID") 437, Value.str (Str.ofString "x41") 438] }),
  (185, { cls := Value.type "list", data := Data.seq #[Value.ref 181, Value.ref 182, Value.ref 183, Value.ref 184] }),
  (186, { cls := Value.type "tuple", data := Data.seq #[Value.str (Str.ofString "NUMBER") 439, Value.str (Str.ofString "0") 440] }),
  (187, { cls := Value.type "tuple", data := Data.seq #[Value.str (Str.ofString "NUMBER") 441, Value.str (Str.ofString "12") 442] }),
  (188, { cls := Value.type "tuple", data := Data.seq #[Value.str (Str.ofString "NUMBER") 443, Value.str (Str.ofString "0x1F") 444] }),
  (189, { cls := Value.type "tuple", data := Data.seq #[Value.str (Str.ofString "NUMBER") 445, Value.str (Str.ofString "7u") 446] }),
  (190, { cls := Value.type "list", data := Data.seq #[Value.ref 186, Value.ref 187, Value.ref 188, Value.ref 189] }),
  (191, { cls := Value.type "tuple", data := Data.seq #[Value.str (Str.ofString "\\") 447, Value.str (Str.ofString "\\") 448] }),
  (192, { cls := Value.type "tuple", data := Data.seq #[Value.str (Str.ofString "+") 449, Value.str (Str.ofString "+") 450] }),
  (193, { cls := Value.type "tuple", data := Data.seq #[Value.str (Str.ofString "##") 451, Value.str (Str.ofString "##") 452] }),
  (194, { cls := Value.type "tuple", data := Data.seq #[Value.str (Str.ofString "(") 453, Value.str (Str.ofString "(") 454] }),
  (195, { cls := Value.type "list", data := Data.seq #[Value.ref 191, Value.ref 192, Value.ref 193, Value.ref 194] }),
  (196, { cls := Value.type "tuple", data := Data.seq #[Value.str (Str.ofString "WS") 455, Value.str (Str.ofString "  ") 456] }),
  (197, { cls := Value.type "tuple", data := Data.seq #[Value.str (Str.ofString "BOL") 457, Value.str (Str.ofString "") 458] }),
  (198, { cls := Value.type "tuple", data := Data.seq #[Value.str (Str.ofString "WS") 459, Value.str (Str.ofString "") 460] }),
  (199, { cls := Value.type "tuple", data := Data.seq #[Value.str (Str.ofString "WS") 461, Value.str (Str.ofString "\t") 462] }),
  (200, { cls := Value.type "list", data := Data.seq #[Value.ref 196, Value.ref 197, Value.ref 198, Value.ref 199] }),
  (201, { cls := Value.type "list", data := Data.seq #[Value.ref 185, Value.ref 190, Value.ref 195, Value.ref 200] })]
def hd.as : List Addr := [2, 3, 15, 17, 18, 20, 63, 64, 74, 75, 76, 77, 78, 88, 89, 95, 96, 106, 107, 108, 109, 110, 111, 112, 115, 118, 123, 129, 130, 154, 155, 156, 157, 181, 182, 183, 184, 185, 186, 187, 188, 189, 190, 191, 192, 193, 194, 195, 196, 197, 198, 199, 200, 201]
abbrev LO : List Str := [Str.ofString "Token", Str.ofString "SourceLocation", Str.ofString "CToken", Str.ofString "_law_OTHERS"]
theorem hd.ase : ∀ P, hd.as = (hd.heap_39 P).map (·.1) := fun _ => by kernel_rfl
noncomputable abbrev HK : Hook := kHook hd.heap_39 hd.as hd.ase
theorem hd.left : LeftO PP hd.view_39 LO (fun s => xlAt hd.view_39 [] s && recOk (RowW.records PySem.Challenge.rw_qt0003_01.row.toRowW) s) (Hook.obs HK) (Hook.val HK) 3706 := by
  intro w
  unfold openEnds fencedOpening topFrom
  rw [PySem.W.Fast.te4187177175401517315, PySem.W.Fast.te10274390034422433532, PySem.W.Fast.te14082659384304107361, PySem.W.Fast.te14364793385576792824, PySem.W.Fast.te1435165496053646825]
  kernel_rfl
end
section
noncomputable abbrev P : Program := PySem.Challenge.rw_qt0003_01.prog
noncomputable abbrev VW : Program := hd.view_39

def S (l : List Nat) : Str := ⟨l.toArray⟩
theorem S_len (l : List Nat) : (S l).length = l.length := by simp [S, Str.length]
theorem S_toList (x : Str) : S x.cps.toList = x := by simp [S]
theorem S_app (l r : List Nat) : S l ++ S r = S (l ++ r) := by
  show Str.append _ _ = _
  simp [S, Str.append]
theorem S_cps (l : List Nat) : (S l).cps = l.toArray := rfl
theorem S_inj {l r : List Nat} : S l = S r ↔ l = r := by simp [S]

inductive PV where
  | none
  | bool (b : Bool)
  | int (i : Int)
  | str (l : List Nat)
  | tup (l : List PV)
  | list (l : List PV)
  | dict (l : List (List Nat × List Nat))
  | acc (l : List PV)
  | adr (a : Addr)
  | tok (x : Addr) (kind text : List Nat)
deriving Inhabited

def PV.isAcc : PV → Bool
  | .acc _ => true
  | _ => false

abbrev Gt := Addr → Option Obj

inductive DR : List (Str × Value) → List (List Nat × List Nat) → Prop
  | nil : DR [] []
  | cons {k x t r q} : DR r q → DR ((S k, .str (S x) t) :: r) ((k, x) :: q)

mutual
inductive VR (w : World) (g : Gt) : Value → PV → Prop
  | none : VR w g .none .none
  | bool (b) : VR w g (.bool b) (.bool b)
  | int (i t) : VR w g (.int i t) (.int i)
  | str (l t) : VR w g (.str (S l) t) (.str l)
  | tup {a vs n l} : g a = some { cls := .type "tuple", data := .seq vs n } → VRs w g vs.toList l → VR w g (.ref a) (.tup l)
  | list {a vs n l} : g a = some { cls := .type "list", data := .seq vs n } → VRs w g vs.toList l → VR w g (.ref a) (.list l)
  | adr (a) : VR w g (.ref a) (.adr a)
  | tok {x ox dx od kind text t1 t2} : g x = some ox → ox.cls = .ref 155 → ox.data = .plain → ox.dict = some dx → g dx = some od → (ox.slots[1]?).join = some (.str (S kind) t1) → (ox.slots[2]?).join = some (.str (S text) t2) → VR w g (.ref x) (.tok x kind text)
  | dict {a o kvs l} : g a = some o → o.IsDictOf (PySem.strKind P w) kvs → DR kvs l → (a == sysModules) = false → VR w g (.ref a) (.dict l)
inductive VRs (w : World) (g : Gt) : List Value → List PV → Prop
  | nil : VRs w g [] []
  | cons {v vs p ps} : VR w g v p → VRs w g vs ps → VRs w g (v :: vs) (p :: ps)
end

def Sub (g g' : Gt) : Prop := ∀ b o, g b = some o → g' b = some o

mutual
theorem VR.mono {w : World} {g g' : Gt} (k : Sub g g') : ∀ {v p}, VR w g v p → VR w g' v p
  | _, _, .none => .none
  | _, _, .bool b => .bool b
  | _, _, .int i t => .int i t
  | _, _, .str l t => .str l t
  | _, _, .tup h r => .tup (k _ _ h) (VRs.mono k r)
  | _, _, .list h r => .list (k _ _ h) (VRs.mono k r)
  | _, _, .adr a => .adr a
  | _, _, .tok a b c d e f h => .tok (k _ _ a) b c d (k _ _ e) f h
  | _, _, .dict h a b c => .dict (k _ _ h) a b c
theorem VRs.mono {w : World} {g g' : Gt} (k : Sub g g') : ∀ {v p}, VRs w g v p → VRs w g' v p
  | _, _, .nil => .nil
  | _, _, .cons h r => .cons (VR.mono k h) (VRs.mono k r)
end

def VInv (v : Value) : PV → Prop
  | .none => v = .none
  | .bool b => v = .bool b
  | .int i => ∃ t, v = .int i t
  | .str l => ∃ t, v = .str (S l) t
  | .adr a => v = .ref a
  | .tok x _ _ => v = .ref x
  | _ => True
theorem VR.inv {w : World} {g : Gt} {v : Value} {p : PV} (r : VR w g v p) : VInv v p := by
  cases r <;> first | exact rfl | exact ⟨_, rfl⟩ | trivial
theorem VRs.length {w : World} {g : Gt} : ∀ {vs ps}, VRs w g vs ps → vs.length = ps.length
  | _, _, .nil => rfl
  | _, _, .cons _ r => by simp [VRs.length r]
theorem VRs.get {w : World} {g : Gt} : ∀ {vs : List Value} {ps : List PV}, VRs w g vs ps → ∀ {i : Nat} {p : PV}, ps[i]? = some p → ∃ v, vs[i]? = some v ∧ VR w g v p
  | _, _, .nil, i, p, h => by simp at h
  | _, _, .cons hd r, 0, p, h => by simp at h; subst h; exact ⟨_, rfl, hd⟩
  | _, _, .cons hd r, i + 1, p, h => by simpa using VRs.get r (by simpa using h)
theorem VRs.append {w : World} {g : Gt} : ∀ {vs ps vs' ps'}, VRs w g vs ps → VRs w g vs' ps' → VRs w g (vs ++ vs') (ps ++ ps')
  | _, _, _, _, .nil, h => h
  | _, _, _, _, .cons a r, h => .cons a (VRs.append r h)
theorem VRs.drop {w : World} {g : Gt} : ∀ {vs ps} (k : Nat), VRs w g vs ps → VRs w g (vs.drop k) (ps.drop k)
  | _, _, 0, h => h
  | _, _, _ + 1, .nil => .nil
  | _, _, k + 1, .cons _ r => VRs.drop k r
theorem VRs.take {w : World} {g : Gt} : ∀ {vs ps} (k : Nat), VRs w g vs ps → VRs w g (vs.take k) (ps.take k)
  | _, _, 0, _ => .nil
  | _, _, _ + 1, .nil => .nil
  | _, _, k + 1, .cons a r => .cons a (VRs.take k r)
theorem VRs.reverse {w : World} {g : Gt} {vs ps} (h : VRs w g vs ps) : VRs w g vs.reverse ps.reverse := by
  induction vs generalizing ps with
  | nil => cases h; exact .nil
  | cons v vs ih => cases h with
    | cons a r => simp only [List.reverse_cons]; exact (ih r).append (.cons a .nil)
theorem VRs.one {w : World} {g : Gt} {v p} (h : VR w g v p) : VRs w g [v] [p] := .cons h .nil

def ex (h : Heap) (Z : List Addr) : Gt := fun b => if b ∈ Z then Option.none else h.get? b
theorem ex_some {h : Heap} {Z : List Addr} {b : Addr} {o : Obj} : ex h Z b = some o ↔ b ∉ Z ∧ h.get? b = some o := by
  unfold ex
  by_cases hb : b ∈ Z <;> simp [hb]
structure Own where
  acc : List (Str × Addr)
  hid : List Addr
def Own.all (own : Own) (L : Addr) : List Addr := L :: (own.acc.map Prod.snd ++ own.hid)
abbrev gOf (h : Heap) (L : Addr) (own : Own) : Gt := ex h (own.all L)
theorem ex_sub {h : Heap} {Z} : Sub (ex h Z) h.get? := fun b o e => (ex_some.mp e).2
theorem gOf_sub {h : Heap} {L own} : Sub (gOf h L own) h.get? := ex_sub
def Keep (h h' : Heap) : Prop := ∀ b o, h.get? b = some o → h'.get? b = some o
theorem Keep.refl (h : Heap) : Keep h h := fun _ _ e => e
theorem Keep.trans {a b c : Heap} (x : Keep a b) (y : Keep b c) : Keep a c := fun q o e => y q o (x q o e)
theorem ex_keep {h h' : Heap} {Z} (k : Keep h h') : Sub (ex h Z) (ex h' Z) := fun b o e => ex_some.mpr ⟨(ex_some.mp e).1, k _ _ (ex_some.mp e).2⟩
theorem gOf_keep {h h' : Heap} {L own} (k : Keep h h') : Sub (gOf h L own) (gOf h' L own) := ex_keep k

def ER (w : World) (h : Heap) (L : Addr) (own : Own) (x : Str) (v : Value) : PV → Prop
  | .acc l => ∃ a, own.acc.lookup x = some a ∧ v = .ref a ∧ ∃ vs n, h.get? a = some { cls := .type "list", data := .seq vs n } ∧ VRs w (gOf h L own) vs.toList l
  | pv => VR w (gOf h L own) v pv
theorem ER.of_VR {w h L own x v pv} (hp : pv.isAcc = false) (r : VR w (gOf h L own) v pv) : ER w h L own x v pv := by
  cases pv <;> first | exact r | cases hp
theorem ER.VR {w h L own x v pv} (hp : pv.isAcc = false) (r : ER w h L own x v pv) : VR w (gOf h L own) v pv := by
  cases pv <;> first | exact r | cases hp
theorem ER.keep {w h h' L own x v pv} (k : Keep h h') (r : ER w h L own x v pv) : ER w h' L own x v pv := by
  cases pv with
  | acc l => obtain ⟨a, h1, h2, vs, n, h3, h4⟩ := r; exact ⟨a, h1, h2, vs, n, k _ _ h3, h4.mono (gOf_keep k)⟩
  | _ => exact Mine.VR.mono (gOf_keep k) r

abbrev Env' := List (Str × PV)

structure St (w : World) (B : Heap) (L : Addr) (own : Own) (m : Env') (h : Heap) : Prop where
  fr : ∃ mv, Fr B L h mv ∧ ∀ x pv, m.lookup x = some pv → ∃ v, mv x = some v ∧ ER w h L own x v pv
  new : ∀ p ∈ own.acc, B.get? p.2 = Option.none ∧ p.2 ≠ L ∧ ∃ o, h.get? p.2 = some o
  nd : (own.acc.map Prod.snd).Nodup
  there : ∀ b ∈ own.hid, ∃ o, h.get? b = some o

theorem St.keep {w B L own m h h'} (x : St w B L own m h) (k : Keep h h') : St w B L own m h' := by
  obtain ⟨⟨mv, F, hm⟩, n1, n2, n3⟩ := x
  refine ⟨⟨mv, ⟨F.ns.keeps k, fun b o e => k _ _ (F.keep b o e), F.above⟩, fun y pv e => ?_⟩, fun p hp => let ⟨a, b, o, e⟩ := n1 p hp; ⟨a, b, o, k _ _ e⟩, n2, fun b hb => let ⟨o, e⟩ := n3 b hb; ⟨o, k _ _ e⟩⟩
  obtain ⟨v, a, b⟩ := hm y pv e
  exact ⟨v, a, b.keep k⟩
structure Bk (B : Heap) (L : Addr) (own : Own) (h : Heap) : Prop where
  base : Keep B h
  new : ∀ b ∈ own.all L, ∃ o, h.get? b = some o
theorem Bk.trans {B L own h h'} (x : Bk B L own h) (k : Keep h h') : Bk B L own h' := ⟨x.base.trans k, fun b hb => let ⟨o, e⟩ := x.new b hb; ⟨o, k _ _ e⟩⟩
theorem Bk.fresh {B L own h} (x : Bk B L own h) {a : Addr} (ha : h.get? a = Option.none) : a ∉ own.all L := fun hm => by
  obtain ⟨o, e⟩ := x.new a hm; rw [ha] at e; cases e
theorem St.bk {w B L own m h} (x : St w B L own m h) : Bk B L own h := by
  obtain ⟨⟨mv, F, hm⟩, n1, n2, n3⟩ := x
  refine ⟨F.keep, fun b hb => ?_⟩
  unfold Own.all at hb
  rcases List.mem_cons.mp hb with rfl | hb
  · obtain ⟨o, _, _, ho, _⟩ := F.ns; exact ⟨o, ho⟩
  · rcases List.mem_append.mp hb with hb | hb
    · obtain ⟨p, hp, rfl⟩ := List.mem_map.mp hb; exact (n1 p hp).2.2
    · exact n3 b hb
theorem St.base {w B L own m h} (x : St w B L own m h) : Keep B h := let ⟨_, F, _⟩ := x.fr; F.keep

structure Gd (w : World) (B : Heap) : Prop where
  top : ∃ mean mg mb, Top VW (looseW VW [Str.ofString "Token", Str.ofString "SourceLocation", Str.ofString "CToken", Str.ofString "_law_OTHERS"]) mean mg mb B
  k : (hd.heap_39 w.params).In B
theorem Gd.keep {w B B'} (g : Gd w B) (k : Keep B B') : Gd w B' :=
  ⟨let ⟨a, b, c, t⟩ := g.top; ⟨a, b, c, t.keeps k⟩, fun a o e => k _ _ (g.k a o e)⟩

structure Room (A : Around) (d : Nat) : Prop where
  hh : A.handled = Option.none
  dep : A.depth + d < recursionLimit
  un : A.units + 8 * (d + 1) < cLine
theorem Room.less {A d d'} (r : Room A d) (h : d' ≤ d) : Room A d' := ⟨r.hh, by have := r.dep; omega, by have := r.un; omega⟩
theorem Room.deeper {A d env} (r : Room A (d + 1)) : Room (A.deeper env) d := ⟨r.hh, by have := r.dep; show A.depth + 1 + d < _; omega, by have := r.un; show A.units + 3 + _ < _; omega⟩

structure EnvOk (env : Env) (sc : Scope) (L : Addr) : Prop where
  sc : env.scope = sc
  loc : env.locals = L
  glob : env.globals = mainGlobals
  bui : env.builtins = builtinsNs
theorem EnvOk.of (nm : Str) (sc : Scope) (L a : Addr) (cd : Value) : EnvOk (envOf nm sc L a cd) sc L := ⟨rfl, rfl, rfl, rfl⟩

def PE (w : World) (d : Nat) (sc : Scope) (e : Expr) (m : Env') (pv : PV) : Prop :=
  ∀ (env : Env) (L : Addr) (A : Around) (B : Heap) (own : Own) (s : Shared) (Q E : Value → Shared → Prop),
    EnvOk env sc L → Gd w B → Room A d → St w B L own m s.heap →
    (∀ v h' tk, Keep s.heap h' → VR w (gOf h' L own) v pv → Q v { s with heap := h', toks := tk }) →
    wpAny (model P w) A (eval e env) Q E s

def PT (w : World) (d : Nat) (sc : Scope) (e : Expr) (m : Env') (b : Bool) : Prop :=
  ∀ (env : Env) (L : Addr) (A : Around) (B : Heap) (own : Own) (s : Shared) (Q : Bool → Shared → Prop) (E : Value → Shared → Prop),
    EnvOk env sc L → Gd w B → Room A d → St w B L own m s.heap →
    (∀ h' tk, Keep s.heap h' → Q b { s with heap := h', toks := tk }) →
    wpAny (model P w) A (isTrue e env (eval e env)) Q E s

theorem wkQ {α} {M A} {t : Sem α} {Q Q' : α → Shared → Prop} {E s} (h : wpAny M A t Q E s) (k : ∀ a s', Q a s' → Q' a s') : wpAny M A t Q' E s :=
  wpAny_mono h k fun _ _ x => x

section
variable {w : World} {d : Nat} {sc : Scope} {m : Env'}

theorem PE.name {x : Str} {pos : Pos} {pv : PV} (h : m.lookup x = some pv) (ha : pv.isAcc = false) (hl : sc.names.lookup x = some .local) (hk : sc.kind = .function) (hd : (x == ("__debug__" : Str)) = false) :
    PE w d sc (.Name x pos) m pv := by
  intro env L A B own s Q E hE G R X q
  obtain ⟨mv, F, hm⟩ := X.fr
  obtain ⟨v, e1, e2⟩ := hm x pv h
  refine wpAny_Name (wpAny_loadName_local (m := mv) (v := v) (by rw [hE.sc]; exact hk) (by unfold Env.kindOf; rw [hE.sc]; exact hl) (by rw [hE.loc]; exact F.ns) e1 ?_) hd
  exact q v s.heap s.toks (Keep.refl _) (e2.VR ha)

theorem PE.int {i : Int} {k : Nat} {pos : Pos} : PE w d sc (.Constant (.int i) k pos) m (.int i) := by
  intro env L A B own s Q E hE G R X q
  exact wpAny_Constant_int (q _ s.heap _ (Keep.refl _) (.int _ _))
theorem PE.str {x : Str} {l : List Nat} {k : Nat} {pos : Pos} (h : x.cps.toList = l) : PE w d sc (.Constant (.str x) k pos) m (.str l) := by
  intro env L A B own s Q E hE G R X q
  refine Calls.Constant_str (q _ s.heap _ (Keep.refl _) ?_)
  have := VR.str (w := w) (g := gOf s.heap L own) l s.toks
  rw [← h, S_toList] at this
  rw [← h]; exact this
theorem PE.bool {b : Bool} {k : Nat} {pos : Pos} : PE w d sc (.Constant (.bool b) k pos) m (.bool b) := by
  intro env L A B own s Q E hE G R X q
  exact wpAny_Constant_bool (q _ s.heap s.toks (Keep.refl _) (.bool _))
theorem PE.none {k : Nat} {pos : Pos} : PE w d sc (.Constant .none k pos) m .none := by
  intro env L A B own s Q E hE G R X q
  exact wpAny_Constant_none (q _ s.heap s.toks (Keep.refl _) .none)

theorem PE.gstr {x : Str} {pos : Pos} {u : Str} {l : List Nat} (h : valOf VW x = some (.str u)) (hu : u.cps.toList = l) (hl : sc.names.lookup x = some .globalImplicit) (hk : sc.kind = .function) (hd : (x == ("__debug__" : Str)) = false) :
    PE w d sc (.Name x pos) m (.str l) := by
  intro env L A B own s Q E hE G R X q
  obtain ⟨mv, F, hm⟩ := X.fr
  obtain ⟨mean, mg, mb, T⟩ := G.top
  obtain ⟨v, e1, e2⟩ := T.const x _ h
  refine Calls.Name_function_global (by rw [hE.sc]; exact hk) (by unfold Env.kindOf; rw [hE.sc]; exact hl) (Calls.loadGlobal_global (by rw [hE.glob]; exact T.g.keeps F.keep) e1 (q v s.heap s.toks (Keep.refl _) ?_)) hd
  have r := e2 s.heap
  cases r with
  | str y t =>
    have := VR.str (w := w) (g := gOf s.heap L own) l t
    rw [← hu, S_toList] at this
    rw [← hu]; exact this

theorem PE.bin {l r : Expr} {op : Operator} {pos : Pos} {a b c : PV} (hl : PE w d sc l m a) (hr : PE w d sc r m b)
    (ho : ∀ (L : Addr) (own : Own) (A : Around) (B : Heap) (s : Shared) (va vb : Value) (Q E : Value → Shared → Prop), Gd w B → Bk B L own s.heap → Room A d → VR w (gOf s.heap L own) va a → VR w (gOf s.heap L own) vb b →
      (∀ v h' tk, Keep s.heap h' → VR w (gOf h' L own) v c → Q v { s with heap := h', toks := tk }) → wpAny (model P w) A (binaryOp op va vb) Q E s) :
    PE w d sc (.BinOp l op r pos) m c := by
  intro env L A B own s Q E hE G R X q
  refine wpAny_BinOp (hl env L A B own s _ E hE G R X fun v1 h1 t1 k1 r1 => ?_)
  refine hr env L A B own _ _ E hE G R (X.keep k1) fun v2 h2 t2 k2 r2 => ?_
  refine ho L own A B _ v1 v2 Q E G ((X.bk.trans k1).trans k2) R (r1.mono (gOf_keep k2)) r2 fun v3 h3 t3 k3 r3 => ?_
  exact q v3 h3 t3 ((k1.trans k2).trans k3) r3

theorem PE.add {l r : Expr} {pos : Pos} {a b : Int} (hl : PE w d sc l m (.int a)) (hr : PE w d sc r m (.int b)) : PE w d sc (.BinOp l .Add r pos) m (.int (a + b)) := by
  refine hl.bin hr fun L own A B s va vb Q E G k R ra rb q => ?_
  obtain ⟨_, rfl⟩ := ra.inv; obtain ⟨_, rfl⟩ := rb.inv
  exact PySem.P.add_int (q _ s.heap _ (Keep.refl _) (.int _ _))
theorem PE.sub {l r : Expr} {pos : Pos} {a b : Int} (hl : PE w d sc l m (.int a)) (hr : PE w d sc r m (.int b)) : PE w d sc (.BinOp l .Sub r pos) m (.int (a - b)) := by
  refine hl.bin hr fun L own A B s va vb Q E G k R ra rb q => ?_
  obtain ⟨_, rfl⟩ := ra.inv; obtain ⟨_, rfl⟩ := rb.inv
  exact PySem.P.sub_int (q _ s.heap _ (Keep.refl _) (.int _ _))
theorem PE.mul {l r : Expr} {pos : Pos} {a b : Int} (hl : PE w d sc l m (.int a)) (hr : PE w d sc r m (.int b)) (hm : IntMulOk a b) : PE w d sc (.BinOp l .Mult r pos) m (.int (a * b)) := by
  refine hl.bin hr fun L own A B s va vb Q E G k R ra rb q => ?_
  obtain ⟨_, rfl⟩ := ra.inv; obtain ⟨_, rfl⟩ := rb.inv
  exact PySem.P.mul_int (q _ s.heap _ (Keep.refl _) (.int _ _)) hm
theorem PE.mod {l r : Expr} {pos : Pos} {a b : Int} (hl : PE w d sc l m (.int a)) (hr : PE w d sc r m (.int b)) (hb : b ≠ 0) : PE w d sc (.BinOp l .Mod r pos) m (.int (a.fmod b)) := by
  refine hl.bin hr fun L own A B s va vb Q E G k R ra rb q => ?_
  obtain ⟨_, rfl⟩ := ra.inv; obtain ⟨_, rfl⟩ := rb.inv
  exact PyProof.Rows.mod_int' hb (q _ s.heap _ (Keep.refl _) (.int _ _))
theorem PE.fdiv {l r : Expr} {pos : Pos} {a b : Int} (hl : PE w d sc l m (.int a)) (hr : PE w d sc r m (.int b)) (hb : b ≠ 0) (hp : Builtin.divisionGoesByPylong a b = false) : PE w d sc (.BinOp l .FloorDiv r pos) m (.int (a.fdiv b)) := by
  refine hl.bin hr fun L own A B s va vb Q E G k R ra rb q => ?_
  obtain ⟨_, rfl⟩ := ra.inv; obtain ⟨_, rfl⟩ := rb.inv
  exact PyProof.Rows.floordiv_int_or R.hh (fun e => absurd e hb) (fun _ => q _ s.heap _ (Keep.refl _) (.int _ _)) (fun _ => .inl hp)
theorem PE.cat {l r : Expr} {pos : Pos} {a b : List Nat} (hl : PE w d sc l m (.str a)) (hr : PE w d sc r m (.str b)) (hn : (a ++ b).length ≤ sizeLine) : PE w d sc (.BinOp l .Add r pos) m (.str (a ++ b)) := by
  refine hl.bin hr fun L own A B s va vb Q E G k R ra rb q => ?_
  obtain ⟨_, rfl⟩ := ra.inv; obtain ⟨_, rfl⟩ := rb.inv
  refine PySem.P.add_str ?_
  rw [S_len, S_len, S_app]
  split
  · rename_i h; have : a = [] := List.length_eq_zero_iff.mp (by simpa using h); subst this; exact q _ s.heap s.toks (Keep.refl _) (.str _ _)
  · split
    · rename_i h; have : b = [] := List.length_eq_zero_iff.mp (by simpa using h); subst this; rw [List.append_nil] at q; exact q _ s.heap s.toks (Keep.refl _) (.str _ _)
    · exact ⟨by rw [S_len]; exact hn, q _ s.heap _ (Keep.refl _) (.str _ _)⟩
end
end
section
section
variable {w : World} {d : Nat} {sc : Scope} {m : Env'}

def CO (w : World) (d : Nat) (op : CmpOp) (a b : PV) (c : Bool) : Prop :=
  ∀ (L : Addr) (own : Own) (A : Around) (B : Heap) (s : Shared) (va vb : Value) (Q E : Value → Shared → Prop), Gd w B → Bk B L own s.heap → Room A d → VR w (gOf s.heap L own) va a → VR w (gOf s.heap L own) vb b →
      (∀ h' tk, Keep s.heap h' → Q (.bool c) { s with heap := h', toks := tk }) → wpAny (model P w) A (compareOp op va vb) Q E s

theorem PE.cmp {l r : Expr} {op : CmpOp} {pos : Pos} {a b : PV} {c : Bool} (hl : PE w d sc l m a) (hr : PE w d sc r m b) (ho : CO w d op a b c) (hm : behindInMarks op r = false) :
    PE w d sc (.Compare l [op] [r] pos) m (.bool c) := by
  intro env L A B own s Q E hE G R X q
  refine wpAny_Compare1 (hl env L A B own s _ E hE G R X fun v1 h1 t1 k1 r1 => ?_) hm
  refine hr env L A B own _ _ E hE G R (X.keep k1) fun v2 h2 t2 k2 r2 => ?_
  refine ho L own A B _ v1 v2 Q E G ((X.bk.trans k1).trans k2) R (r1.mono (gOf_keep k2)) r2 fun h3 t3 k3 => ?_
  exact q _ h3 t3 ((k1.trans k2).trans k3) (.bool c)
theorem PT.cmp {l r : Expr} {op : CmpOp} {pos : Pos} {a b : PV} {c : Bool} (hl : PE w d sc l m a) (hr : PE w d sc r m b) (ho : CO w d op a b c) (hm : behindInMarks op r = false) :
    PT w d sc (.Compare l [op] [r] pos) m c := by
  intro env L A B own s Q E hE G R X q
  refine wpAny_isTrue_Compare1 (hl env L A B own s _ E hE G R X fun v1 h1 t1 k1 r1 => ?_) hm
  refine hr env L A B own _ _ E hE G R (X.keep k1) fun v2 h2 t2 k2 r2 => ?_
  refine ho L own A B _ v1 v2 _ E G ((X.bk.trans k1).trans k2) R (r1.mono (gOf_keep k2)) r2 fun h3 t3 k3 => ?_
  exact wpAny_truthy_bool (q h3 t3 ((k1.trans k2).trans k3))

theorem CO.eqI {a b : Int} : CO w d .Eq (.int a) (.int b) (decide (a = b)) := by
  intro L own A B s va vb Q E G k R ra rb q
  obtain ⟨_, rfl⟩ := ra.inv; obtain ⟨_, rfl⟩ := rb.inv
  have e : (a == b) = decide (a = b) := by by_cases h : a = b <;> simp [h]
  exact PySem.P.eq_int (by rw [e]; exact q s.heap s.toks (Keep.refl _))
theorem CO.neI {a b : Int} : CO w d .NotEq (.int a) (.int b) (decide (a ≠ b)) := by
  intro L own A B s va vb Q E G k R ra rb q
  obtain ⟨_, rfl⟩ := ra.inv; obtain ⟨_, rfl⟩ := rb.inv
  have e : (a != b) = decide (a ≠ b) := by by_cases h : a = b <;> simp [h]
  exact PySem.P.ne_int (by rw [e]; exact q s.heap s.toks (Keep.refl _))
theorem CO.ltI {a b : Int} : CO w d .Lt (.int a) (.int b) (decide (a < b)) := by
  intro L own A B s va vb Q E G k R ra rb q
  obtain ⟨_, rfl⟩ := ra.inv; obtain ⟨_, rfl⟩ := rb.inv
  exact PySem.P.lt_int (q s.heap s.toks (Keep.refl _))
theorem CO.leI {a b : Int} : CO w d .LtE (.int a) (.int b) (decide (a ≤ b)) := by
  intro L own A B s va vb Q E G k R ra rb q
  obtain ⟨_, rfl⟩ := ra.inv; obtain ⟨_, rfl⟩ := rb.inv
  exact PySem.P.le_int (q s.heap s.toks (Keep.refl _))
theorem CO.gtI {a b : Int} : CO w d .Gt (.int a) (.int b) (decide (b < a)) := by
  intro L own A B s va vb Q E G k R ra rb q
  obtain ⟨_, rfl⟩ := ra.inv; obtain ⟨_, rfl⟩ := rb.inv
  exact PySem.P.gt_int (q s.heap s.toks (Keep.refl _))
theorem CO.geI {a b : Int} : CO w d .GtE (.int a) (.int b) (decide (b ≤ a)) := by
  intro L own A B s va vb Q E G k R ra rb q
  obtain ⟨_, rfl⟩ := ra.inv; obtain ⟨_, rfl⟩ := rb.inv
  exact PySem.P.ge_int (q s.heap s.toks (Keep.refl _))
theorem CO.eqS {a b : List Nat} : CO w d .Eq (.str a) (.str b) (decide (a = b)) := by
  intro L own A B s va vb Q E G k R ra rb q
  obtain ⟨_, rfl⟩ := ra.inv; obtain ⟨_, rfl⟩ := rb.inv
  have e : ((S a).cps.toList == (S b).cps.toList) = decide (a = b) := by
    show (a == b) = _
    by_cases h : a = b <;> simp [h]
  exact PySem.P.eq_str (by rw [e]; exact q s.heap s.toks (Keep.refl _))
theorem CO.neS {a b : List Nat} : CO w d .NotEq (.str a) (.str b) (decide (a ≠ b)) := by
  intro L own A B s va vb Q E G k R ra rb q
  obtain ⟨_, rfl⟩ := ra.inv; obtain ⟨_, rfl⟩ := rb.inv
  have e : ((S a).cps.toList != (S b).cps.toList) = decide (a ≠ b) := by
    show (a != b) = _
    by_cases h : a = b <;> simp [h]
  exact PySem.P.ne_str (by rw [e]; exact q s.heap s.toks (Keep.refl _))
theorem CO.inS {c : Nat} {b : List Nat} : CO w d .In (.str [c]) (.str b) (decide (c ∈ b)) := by
  intro L own A B s va vb Q E G k R ra rb q
  obtain ⟨_, rfl⟩ := ra.inv; obtain ⟨_, rfl⟩ := rb.inv
  refine PySem.P.in_str ?_
  have e := StrLaws.found_one (S b) c
  rw [show S [c] = ⟨#[c]⟩ from rfl, e]
  exact q s.heap s.toks (Keep.refl _)
theorem CO.notInS {c : Nat} {b : List Nat} : CO w d .NotIn (.str [c]) (.str b) (decide (c ∉ b)) := by
  intro L own A B s va vb Q E G k R ra rb q
  obtain ⟨_, rfl⟩ := ra.inv; obtain ⟨_, rfl⟩ := rb.inv
  refine PySem.P.notIn_str ?_
  have e := StrLaws.found_one (S b) c
  rw [show S [c] = ⟨#[c]⟩ from rfl, e]
  have e2 : (!decide (c ∈ (S b).cps.toList)) = decide (c ∉ b) := by
    show (!decide (c ∈ b)) = _
    by_cases h : c ∈ b <;> simp [h]
  rw [e2]
  exact q s.heap s.toks (Keep.refl _)

theorem PT.andT {x : Expr} {rest : List Expr} {pos : Pos} {b : Bool} (hx : PT w d sc x m true) (hr : PT w d sc (.BoolOp .And rest pos) m b) : PT w d sc (.BoolOp .And (x :: rest) pos) m b := by
  intro env L A B own s Q E hE G R X q
  refine isTrue_and (hx env L A B own s _ E hE G R X fun h1 t1 k1 => ?_)
  rw [if_pos rfl]
  exact hr env L A B own _ Q E hE G R (X.keep k1) fun h2 t2 k2 => q h2 t2 (k1.trans k2)
theorem PT.andF {x : Expr} {rest : List Expr} {pos : Pos} (hx : PT w d sc x m false) : PT w d sc (.BoolOp .And (x :: rest) pos) m false := by
  intro env L A B own s Q E hE G R X q
  refine isTrue_and (hx env L A B own s _ E hE G R X fun h1 t1 k1 => ?_)
  rw [if_neg Bool.false_ne_true]
  exact q h1 t1 k1
theorem PT.andNil {pos : Pos} : PT w d sc (.BoolOp .And [] pos) m true := by
  intro env L A B own s Q E hE G R X q
  exact isTrue_and_nil (q s.heap s.toks (Keep.refl _))
theorem PT.orT {x : Expr} {rest : List Expr} {pos : Pos} (hx : PT w d sc x m true) : PT w d sc (.BoolOp .Or (x :: rest) pos) m true := by
  intro env L A B own s Q E hE G R X q
  refine isTrue_or (hx env L A B own s _ E hE G R X fun h1 t1 k1 => ?_)
  rw [if_pos rfl]
  exact q h1 t1 k1
theorem PT.orF {x : Expr} {rest : List Expr} {pos : Pos} {b : Bool} (hx : PT w d sc x m false) (hr : PT w d sc (.BoolOp .Or rest pos) m b) : PT w d sc (.BoolOp .Or (x :: rest) pos) m b := by
  intro env L A B own s Q E hE G R X q
  refine isTrue_or (hx env L A B own s _ E hE G R X fun h1 t1 k1 => ?_)
  rw [if_neg Bool.false_ne_true]
  exact hr env L A B own _ Q E hE G R (X.keep k1) fun h2 t2 k2 => q h2 t2 (k1.trans k2)
theorem PT.orNil {pos : Pos} : PT w d sc (.BoolOp .Or [] pos) m false := by
  intro env L A B own s Q E hE G R X q
  exact isTrue_or_nil (q s.heap s.toks (Keep.refl _))
theorem PT.not {x : Expr} {pos : Pos} {b : Bool} (hx : PT w d sc x m b) : PT w d sc (.UnaryOp .Not x pos) m (!b) := by
  intro env L A B own s Q E hE G R X q
  exact isTrue_not (hx env L A B own s _ E hE G R X q)
theorem PT.and2 {x y : Expr} {pos : Pos} {a b : Bool} (hx : PT w d sc x m a) (hy : a = true → PT w d sc y m b) : PT w d sc (.BoolOp .And [x, y] pos) m (a && b) := by
  cases a with
  | true => exact PT.andT hx (by cases b with
      | true => exact PT.andT (hy rfl) PT.andNil
      | false => exact PT.andF (hy rfl))
  | false => exact PT.andF hx
theorem PT.or2 {x y : Expr} {pos : Pos} {a b : Bool} (hx : PT w d sc x m a) (hy : a = false → PT w d sc y m b) : PT w d sc (.BoolOp .Or [x, y] pos) m (a || b) := by
  cases a with
  | false => exact PT.orF hx (by cases b with
      | true => exact PT.orT (hy rfl)
      | false => exact PT.orF (hy rfl) PT.orNil)
  | true => exact PT.orT hx

theorem PT.ofInt {e : Expr} {i : Int} (h : PE w d sc e m (.int i)) (he : ∀ (env : Env) (whole : Sem Value), isTrue e env whole = (do let v ← whole; standAt e.pos; holding [v] (truthy v))) : PT w d sc e m (decide (i ≠ 0)) := by
  intro env L A B own s Q E hE G R X q
  refine isTrue_plain (h env L A B own s _ E hE G R X fun v h1 t1 k1 r1 => ?_) (he _ _)
  obtain ⟨_, rfl⟩ := r1.inv
  have e : (i != 0) = decide (i ≠ 0) := by by_cases h : i = 0 <;> simp [h]
  refine PyProof.Rows.truthy_int ?_
  first
    | (rw [e]; exact q h1 t1 k1)
    | exact e ▸ q h1 t1 k1

theorem PE.ifT {t b e : Expr} {pos : Pos} {pv : PV} (ht : PT w d sc t m true) (hb : PE w d sc b m pv) : PE w d sc (.IfExp t b e pos) m pv := by
  intro env L A B own s Q E hE G R X q
  refine wpAny_IfExp (ht env L A B own s _ E hE G R X fun h1 t1 k1 => ?_)
  rw [if_pos rfl]
  exact hb env L A B own _ Q E hE G R (X.keep k1) fun v h2 t2 k2 r => q v h2 t2 (k1.trans k2) r
theorem PE.ifF {t b e : Expr} {pos : Pos} {pv : PV} (ht : PT w d sc t m false) (hb : PE w d sc e m pv) : PE w d sc (.IfExp t b e pos) m pv := by
  intro env L A B own s Q E hE G R X q
  refine wpAny_IfExp (ht env L A B own s _ E hE G R X fun h1 t1 k1 => ?_)
  rw [if_neg Bool.false_ne_true]
  exact hb env L A B own _ Q E hE G R (X.keep k1) fun v h2 t2 k2 r => q v h2 t2 (k1.trans k2) r
theorem PE.ite {t b e : Expr} {pos : Pos} {c : Bool} {p1 p2 : PV} (ht : PT w d sc t m c) (hb : c = true → PE w d sc b m p1) (he : c = false → PE w d sc e m p2) : PE w d sc (.IfExp t b e pos) m (if c then p1 else p2) := by
  cases c with
  | true => exact PE.ifT ht (hb rfl)
  | false => exact PE.ifF ht (he rfl)

theorem PE.sub2 {v i : Expr} {pos : Pos} {a b c : PV} (hv : PE w d sc v m a) (hi : PE w d sc i m b)
    (ho : ∀ (L : Addr) (own : Own) (A : Around) (B : Heap) (s : Shared) (va vb : Value) (Q E : Value → Shared → Prop), Gd w B → Bk B L own s.heap → Room A d → VR w (gOf s.heap L own) va a → VR w (gOf s.heap L own) vb b →
      (∀ v h' tk, Keep s.heap h' → VR w (gOf h' L own) v c → Q v { s with heap := h', toks := tk }) →
      ∃ T id, s.TypeIs va T ∧ typeLookup (.type T) "__getitem__" = pure (some (.builtin id)) ∧ wpAny (model P w) A (getItem va vb) Q E s)
    (hs : ∀ o r, subscripted i false o r = operate [o, r] (getItem o r)) :
    PE w d sc (.Subscript v i pos) m c := by
  intro env L A B own s Q E hE G R X q
  refine Subscript_ (hv env L A B own s _ E hE G R X fun v1 h1 t1 k1 r1 => ?_)
  refine hi env L A B own _ _ E hE G R (X.keep k1) fun v2 h2 t2 k2 r2 => ?_
  obtain ⟨T, id, hT, hl, hg⟩ := ho L own A B { s with heap := h2, toks := t2 } v1 v2 Q E G ((X.bk.trans k1).trans k2) R (r1.mono (gOf_keep k2)) r2 fun v3 h3 t3 k3 r3 => q v3 h3 t3 ((k1.trans k2).trans k3) r3
  exact tail_any hT hl hg (hs _ _)

theorem PE.idxS {v i : Expr} {pos : Pos} {l : List Nat} {k : Int} {c : Nat} (hv : PE w d sc v m (.str l)) (hi : PE w d sc i m (.int k)) (h0 : 0 ≤ k) (hk : k < 2 ^ 62) (hc : l[k.toNat]? = some c)
    (hs : ∀ o r, subscripted i false o r = operate [o, r] (getItem o r) := by intro _ _; rfl) : PE w d sc (.Subscript v i pos) m (.str [c]) := by
  refine hv.sub2 hi (fun L own A B s va vb Q E G kk R ra rb q => ?_) hs
  obtain ⟨_, rfl⟩ := ra.inv; obtain ⟨_, rfl⟩ := rb.inv
  refine ⟨"str", _, typeIs_str _ _ _, PySem.F.slot_str_getitem.lookup, PySem.P.getItem_str ?_ ?_ (q (.str ⟨#[c]⟩ s.toks) s.heap _ (Keep.refl _) (.str [c] _))⟩
  · simp; omega
  · have hlt : k.toNat < l.length := (List.getElem?_eq_some_iff.mp hc).1
    rw [seqIndex_of h0 (by rw [S_len]; omega)]
    show (S l).cps[k.toNat]? = some c
    rw [S_cps]; simpa using hc

theorem listGet {h : Heap} {a : Addr} {vs : Array Value} {n : Nat} (e : h.get? a = some { cls := .type "list", data := .seq vs n }) : h.IsList a vs := ⟨_, e, rfl, n, rfl⟩

theorem PE.idxL {v i : Expr} {pos : Pos} {l : List PV} {k : Int} {c : PV} (hv : PE w d sc v m (.list l)) (hi : PE w d sc i m (.int k)) (h0 : 0 ≤ k) (hk : k < 2 ^ 62) (hc : l[k.toNat]? = some c)
    (hs : ∀ o r, subscripted i false o r = operate [o, r] (getItem o r) := by intro _ _; rfl) : PE w d sc (.Subscript v i pos) m c := by
  refine hv.sub2 hi (fun L own A B s va vb Q E G kk R ra rb q => ?_) hs
  obtain ⟨_, rfl⟩ := rb.inv
  cases ra with
  | list e rs =>
    have e' := gOf_sub _ _ e
    obtain ⟨x, hx, rx⟩ := rs.get hc
    exact ⟨"list", _, ⟨_, e', rfl⟩, slot_list_getitem.lookup, wpAny_getItem_list (listGet e') h0 (by omega) (by simpa using hx) (q x s.heap s.toks (Keep.refl _) rx)⟩

theorem PE.idxT {v i : Expr} {pos : Pos} {l : List PV} {k : Int} {c : PV} (hv : PE w d sc v m (.tup l)) (hi : PE w d sc i m (.int k)) (h0 : 0 ≤ k) (hk : k < 2 ^ 62) (hc : l[k.toNat]? = some c)
    (hs : ∀ o r, subscripted i false o r = operate [o, r] (getItem o r) := by intro _ _; rfl) : PE w d sc (.Subscript v i pos) m c := by
  refine hv.sub2 hi (fun L own A B s va vb Q E G kk R ra rb q => ?_) hs
  obtain ⟨_, rfl⟩ := rb.inv
  cases ra with
  | @tup a vs n l e rs =>
    have e' := gOf_sub _ _ e
    obtain ⟨x, hx, rx⟩ := rs.get hc
    have hlt : k.toNat < vs.toList.length := by rw [rs.length]; exact (List.getElem?_eq_some_iff.mp hc).1
    refine ⟨"tuple", _, ⟨_, e', rfl⟩, PyProof.Rows.slot_tuple_getitem.lookup, PySem.P.getItem_tuple (k := k.toNat) (y := x) e' (by omega) (by omega) ?_ ?_ (q x s.heap s.toks (Keep.refl _) rx)⟩
    · exact seqIndex_of h0 (by rw [← Array.length_toList]; omega)
    · simpa using hx
end
end
section
section
variable {w : World} {d : Nat} {sc : Scope} {m : Env'}

theorem keep_push (h : Heap) (o : Obj) : Keep h (h.push o) := fun _ _ e => Heap.get?_push_of_some _ e

def PO (w : World) (d : Nat) (sc : Scope) (m : Env') : Option Expr → Option Int → Prop
  | .none, .none => True
  | .some e, .some i => PE w d sc e m (.int i)
  | _, _ => False

theorem PO.run {o : Option Expr} {v : Option Int} (h : PO w d sc m o v) {env : Env} {L : Addr} {A : Around} {B : Heap} {own : Own} {s : Shared} {Q : Value → Shared → Prop} {E : Value → Shared → Prop}
    (hE : EnvOk env sc L) (G : Gd w B) (R : Room A d) (X : St w B L own m s.heap) (q : ∀ (p : Option (Int × Tok)) h' tk, p.map (·.1) = v → Keep s.heap h' → Q (partValue p) { s with heap := h', toks := tk }) :
    wpAny (model P w) A (evalPart o env) Q E s := by
  cases o with
  | none => cases v with
    | none => rw [evalPart_none]; exact wpAny_pure (q .none s.heap s.toks rfl (Keep.refl _))
    | some i => exact h.elim
  | some e => cases v with
    | none => exact h.elim
    | some i =>
      rw [evalPart_some]
      refine h env L A B own s _ E hE G R X fun v h1 t1 k1 r1 => ?_
      cases r1 with
      | int _ t => exact q (.some (i, t)) h1 t1 rfl k1

theorem PE.slice {v : Expr} {lo hi : Option Expr} {p pos : Pos} {a c : PV} {l u : Option Int} (hv : PE w d sc v m a) (hlo : PO w d sc m lo l) (hhi : PO w d sc m hi u)
    (ho : ∀ (L : Addr) (own : Own) (A : Around) (s : Shared) (va : Value) (sl : Addr) (pl pu : Option (Int × Tok)) (Q E : Value → Shared → Prop) (B : Heap), Bk B L own s.heap → Room A d → VR w (gOf s.heap L own) va a → pl.map (·.1) = l → pu.map (·.1) = u →
      s.heap.get? sl = some { cls := .type "slice", data := .fields #[partValue pl, partValue pu, .none] } →
      (∀ v h' tk, Keep s.heap h' → VR w (gOf h' L own) v c → Q v { s with heap := h', toks := tk }) →
      ∃ T id, s.TypeIs va T ∧ typeLookup (.type T) "__getitem__" = pure (some (.builtin id)) ∧ wpAny (model P w) A (getItem va (.ref sl)) Q E s) :
    PE w d sc (.Subscript v (.Slice lo hi .none p) pos) m c := by
  intro env L A B own s Q E hE G R X q
  refine Subscript_ (hv env L A B own s _ E hE G R X fun v1 h1 t1 k1 r1 => ?_)
  refine wpAny_Slice (hlo.run (s := { s with heap := h1, toks := t1 }) hE G R (X.keep k1) fun pl h2 t2 e2 k2 => ?_)
  refine hhi.run (s := { s with heap := h2, toks := t2 }) hE G R ((X.keep k1).keep k2) fun pu h3 t3 e3 k3 => ?_
  rw [evalPart_none]
  refine wpAny_pure ?_
  have k4 := keep_push h3 { cls := .type "slice", data := .fields #[partValue pl, partValue pu, .none] }
  obtain ⟨T, id, hT, hl, hg⟩ := ho L own A { s with heap := h3.push { cls := .type "slice", data := .fields #[partValue pl, partValue pu, .none] }, toks := t3 } v1 h3.objs.size pl pu Q E B ((((X.bk.trans k1).trans k2).trans k3).trans k4) R (r1.mono (gOf_keep ((k2.trans k3).trans k4))) e2 e3 (Heap.get?_push_size _ rfl)
    fun v5 h5 t5 k5 r5 => q v5 h5 t5 ((((k1.trans k2).trans k3).trans k4).trans k5) r5
  exact tail_any hT hl hg rfl

def cutLo (l : Option Int) : Int := l.getD 0
def cutHi (u : Option Int) (n : Nat) : Int := match u with | .none => n | .some i => if i < 0 then i + n else i

theorem cutIdx {n : Nat} {l u : Option Int} (h0 : 0 ≤ cutLo l) (h1 : cutLo l ≤ cutHi u n) (h2 : cutHi u n ≤ n) :
    Builtin.Str.strSliceIndices l u 1 n = Builtin.Str.strSliceIndices (.some (((cutLo l).toNat : Nat) : Int)) (.some (((cutHi u n).toNat : Nat) : Int)) 1 n := by
  have a1 : (((cutLo l).toNat : Nat) : Int) = cutLo l := by omega
  have a2 : (((cutHi u n).toNat : Nat) : Int) = cutHi u n := by omega
  rw [a1, a2]
  unfold Builtin.Str.strSliceIndices
  simp only [show ((1 : Int) > 0) = True from by simp, if_true]
  congr 1
  · cases l with
    | none =>
      show (0 : Int) = max 0 (min (if (0 : Int) < 0 then (0 : Int) + n else 0) n)
      rw [if_neg (by omega)]; omega
    | some i => rfl
  · cases u with
    | none =>
      show (n : Int) = max 0 (min (if (n : Int) < 0 then (n : Int) + n else n) n)
      rw [if_neg (by omega)]; omega
    | some i =>
      simp only [cutHi] at h1 h2 ⊢
      split <;> rename_i hi
      · rw [if_pos hi] at h1 h2; split <;> omega
      · simp only [hi, if_false]
theorem strCut {x : List Nat} {l u : Option Int} (h0 : 0 ≤ cutLo l) (h1 : cutLo l ≤ cutHi u x.length) (h2 : cutHi u x.length ≤ x.length) :
    (Builtin.Str.strSliceIndices l u 1 x.length).filterMap (x[·]?) = (x.drop (cutLo l).toNat).take ((cutHi u x.length).toNat - (cutLo l).toNat) := by
  rw [cutIdx h0 h1 h2, StrLaws.strSliceIndices_plain (by omega) (by omega)]
  exact StrLaws.picks x _ _ (by omega)

theorem PE.sliceS {v : Expr} {lo hi : Option Expr} {p pos : Pos} {x : List Nat} {l u : Option Int} (hv : PE w d sc v m (.str x)) (hlo : PO w d sc m lo l) (hhi : PO w d sc m hi u)
    (h0 : 0 ≤ cutLo l) (h1 : cutLo l ≤ cutHi u x.length) (h2 : cutHi u x.length ≤ x.length) (hx : x.length ≤ sizeLine) :
    PE w d sc (.Subscript v (.Slice lo hi .none p) pos) m (.str ((x.drop (cutLo l).toNat).take ((cutHi u x.length).toNat - (cutLo l).toNat))) := by
  refine hv.slice hlo hhi fun L own A s va sl pl pu Q E B bk R ra el eu hs q => ?_
  cases ra with
  | str _ t =>
    refine ⟨"str", _, typeIs_str _ _ _, PySem.F.slot_str_getitem.lookup, wpAny_getItem_str_slice (l := pl) (u := pu) (st := .none) ⟨_, hs, rfl, rfl⟩ rfl ?_⟩
    unfold sliceMade slicePicked
    rw [el, eu]
    have hc := strCut h0 h1 h2
    have ef : (fun i : Nat => (S x).cps[i]?) = fun i : Nat => x[i]? := by funext i; rw [S_cps]; simp
    have e1 : (Builtin.Str.strSliceIndices l u 1 (S x).length).filterMap (fun i : Nat => (S x).cps[i]?) = (x.drop (cutLo l).toNat).take ((cutHi u x.length).toNat - (cutLo l).toNat) := by
      rw [ef, S_len]; exact hc
    simp only [Option.map_none, Option.getD_none]
    split
    · rename_i hw
      simp only [Bool.and_eq_true, beq_iff_eq] at hw
      have hlen := hw.2
      have e2 : (x.drop (cutLo l).toNat).take ((cutHi u x.length).toNat - (cutLo l).toNat) = x := by
        have e3 : (Builtin.Str.strSliceIndices l u 1 x.length).length = (cutHi u x.length).toNat - (cutLo l).toNat := by
          rw [cutIdx h0 h1 h2, StrLaws.strSliceIndices_plain (by omega) (by omega)]
          simp
        rw [S_len] at hlen
        rw [e3] at hlen
        have : (cutLo l).toNat = 0 := by omega
        rw [this, List.drop_zero]
        exact List.take_of_length_le (by omega)
      rw [e2] at q
      exact q _ s.heap s.toks (Keep.refl _) (.str x t)
    · refine ⟨?_, ?_⟩
      · show (List.filterMap _ _).toArray.size ≤ sizeLine
        rw [e1, List.size_toArray, List.length_take, List.length_drop]; omega
      · rw [e1]
        exact q _ s.heap _ (Keep.refl _) (.str _ _)

def notStar : Expr → Bool
  | .Starred .. => false
  | _ => true
theorem star_cons {e : Expr} {es : List Expr} {env : Env} (h : notStar e = true) : starEach (e :: es) env = (false, eval e env) :: starEach es env := by
  cases e <;> first | rfl | cases h

def PEs (w : World) (d : Nat) (sc : Scope) (es : List Expr) (m : Env') (ps : List PV) : Prop :=
  ∀ (env : Env) (L : Addr) (A : Around) (B : Heap) (own : Own) (s : Shared) (pos : Pos) (Q : List Value → Shared → Prop) (E : Value → Shared → Prop),
    EnvOk env sc L → Gd w B → Room A d → St w B L own m s.heap →
    (∀ vs h' tk, Keep s.heap h' → VRs w (gOf h' L own) vs ps → Q vs { s with heap := h', toks := tk }) →
    wpAny (model P w) A (spliced (backTo pos (starEach es env))) Q E s
theorem PEs.nil : PEs w d sc [] m [] := by
  intro env L A B own s pos Q E hE G R X q
  exact args_nil (q [] s.heap s.toks (Keep.refl _) .nil)
theorem PEs.cons {e : Expr} {es : List Expr} {p : PV} {ps : List PV} (h : PE w d sc e m p) (hr : PEs w d sc es m ps)
    (he : ∀ env, starEach (e :: es) env = (false, eval e env) :: starEach es env := by intro _; exact star_cons rfl) : PEs w d sc (e :: es) m (p :: ps) := by
  intro env L A B own s pos Q E hE G R X q
  refine args_cons (h env L A B own s _ E hE G R X fun v h1 t1 k1 r1 => ?_) (he _)
  refine hr env L A B own _ pos _ E hE G R (X.keep k1) fun vs h2 t2 k2 r2 => ?_
  exact q (v :: vs) h2 t2 (k1.trans k2) (.cons (r1.mono (gOf_keep k2)) r2)

theorem nameB {x : Str} {v : Value} (hv : bootBuiltins x = some v) (hn : x ≠ "__name__")
    (hm : nsIn (hd.heap_39 w.params) mainGlobals x = some .none) {env : Env} {L : Addr} {A : Around} {B : Heap} {own : Own} {s : Shared} {pos : Pos} {Q : Value → Shared → Prop} {E : Value → Shared → Prop}
    (hE : EnvOk env sc L) (G : Gd w B) (X : St w B L own m s.heap) (hk : sc.kind = .function) (hl : sc.names.lookup x = some .globalImplicit) (hd : (x == ("__debug__" : Str)) = false) (q : Q v s) :
    wpAny (model P w) A (eval (.Name x pos) env) Q E s := by
  obtain ⟨mv, F, _⟩ := X.fr
  obtain ⟨mean, mg, mb, T⟩ := G.top
  exact Calls.Name_function_global (by rw [hE.sc]; exact hk) (by unfold Env.kindOf; rw [hE.sc]; exact hl)
    (Calls.loadGlobal_builtin (by rw [hE.glob]; exact T.g.keeps F.keep) (mg_none_of G.k T.g hm) (by rw [hE.bui]; exact T.b.keeps F.keep) ((T.builtins x hn).trans hv) q) hd

theorem PE.callB {x : Str} {id : String} {e : Expr} {es : List Expr} {np pos : Pos} {ps : List PV} {c : PV} (hv : bootBuiltins x = some (.builtin id)) (hn : x ≠ "__name__")
    (hm : nsIn (hd.heap_39 w.params) mainGlobals x = some .none) (hk : sc.kind = .function) (hl : sc.names.lookup x = some .globalImplicit) (hd : (x == ("__debug__" : Str)) = false)
    (he : PEs w d sc (e :: es) m ps)
    (ho : ∀ (L : Addr) (own : Own) (A : Around) (B : Heap) (s : Shared) (vs : List Value) (Q E : Value → Shared → Prop), Gd w B → Bk B L own s.heap → Room A d → VRs w (gOf s.heap L own) vs ps →
      (∀ v h' tk, Keep s.heap h' → VR w (gOf h' L own) v c → Q v { s with heap := h', toks := tk }) → wpAny (model P w) A (call (.builtin id) vs) Q E s)
    (hs : ∀ env, starEach (e :: es) env = (false, eval e env) :: starEach es env := by intro _; exact star_cons rfl) (hp : ∀ (p : Pos) env, (backTo p (starEach es env)).any (·.1) = false := by intro _ _; rfl) :
    PE w d sc (.Call (.Name x np) (e :: es) [] pos) m c := by
  intro env L A B own s Q E hE G R X q
  refine wpAny_Call_NameR (nameB hv hn hm hE G X hk hl hd ?_)
  refine PyProof.Rows.callWith_builtin1 ?_ (hs _) (hp _ _)
  refine he env L A B own s pos _ E hE G R X fun vs h1 t1 k1 r1 => ?_
  exact ho L own A B _ vs Q E G (X.bk.trans k1) R r1 fun v h2 t2 k2 r2 => q v h2 t2 (k1.trans k2) r2
theorem PE.callT {x : Str} {T : String} {e : Expr} {es : List Expr} {np pos : Pos} {ps : List PV} {c : PV} (hv : bootBuiltins x = some (.type T)) (hn : x ≠ "__name__")
    (hm : nsIn (hd.heap_39 w.params) mainGlobals x = some .none) (hk : sc.kind = .function) (hl : sc.names.lookup x = some .globalImplicit) (hd : (x == ("__debug__" : Str)) = false)
    (he : PEs w d sc (e :: es) m ps)
    (ho : ∀ (L : Addr) (own : Own) (A : Around) (B : Heap) (s : Shared) (vs : List Value) (Q E : Value → Shared → Prop), Gd w B → Bk B L own s.heap → Room A d → VRs w (gOf s.heap L own) vs ps →
      (∀ v h' tk, Keep s.heap h' → VR w (gOf h' L own) v c → Q v { s with heap := h', toks := tk }) → wpAny (model P w) A (call (.type T) vs) Q E s)
    (hs : ∀ env, starEach (e :: es) env = (false, eval e env) :: starEach es env := by intro _; exact star_cons rfl) (hp : ∀ (p : Pos) env, (backTo p (starEach es env)).any (·.1) = false := by intro _ _; rfl) :
    PE w d sc (.Call (.Name x np) (e :: es) [] pos) m c := by
  intro env L A B own s Q E hE G R X q
  refine wpAny_Call_NameR (nameB hv hn hm hE G X hk hl hd ?_)
  refine PyProof.Rows.callWith_type1 ?_ (hs _) (hp _ _)
  refine he env L A B own s pos _ E hE G R X fun vs h1 t1 k1 r1 => ?_
  exact ho L own A B _ vs Q E G (X.bk.trans k1) R r1 fun v h2 t2 k2 r2 => q v h2 t2 (k1.trans k2) r2

theorem nsLen : nsIn (hd.heap_39 w.params) mainGlobals (Str.ofString "len") = some .none := by kernel_rfl
theorem nsChr : nsIn (hd.heap_39 w.params) mainGlobals (Str.ofString "chr") = some .none := by kernel_rfl
theorem nsMin : nsIn (hd.heap_39 w.params) mainGlobals (Str.ofString "min") = some .none := by kernel_rfl
theorem nsInt : nsIn (hd.heap_39 w.params) mainGlobals (Str.ofString "int") = some .none := by kernel_rfl
theorem nsRange : nsIn (hd.heap_39 w.params) mainGlobals (Str.ofString "range") = some .none := by kernel_rfl
theorem nsList : nsIn (hd.heap_39 w.params) mainGlobals (Str.ofString "list") = some .none := by kernel_rfl
theorem nsIter : nsIn (hd.heap_39 w.params) mainGlobals (Str.ofString "iter") = some .none := by kernel_rfl
end
end
section
open PySem.NumText
def hexv (c : Nat) : Nat := if c ≤ 57 then c - 48 else if c ≤ 70 then c - 55 else c - 87
def isHex (c : Nat) : Bool := (48 ≤ c && c ≤ 57) || (65 ≤ c && c ≤ 70) || (97 ≤ c && c ≤ 102)
def isOct (c : Nat) : Bool := 48 ≤ c && c ≤ 55
def isDig (base : Nat) (c : Nat) : Bool := if base = 8 then isOct c else isHex c
def worth (base : Nat) (l : List Nat) : Nat := l.foldl (fun acc c => acc * base + hexv c) 0

theorem isOct_hex {c : Nat} (h : isOct c = true) : isHex c = true := by
  simp only [isOct, isHex, Bool.and_eq_true, Bool.or_eq_true, decide_eq_true_eq] at *; omega
theorem hex_digit {c : Nat} (h : isHex c = true) : digit? c = some (hexv c) := by
  simp only [isHex, Bool.and_eq_true, Bool.or_eq_true, decide_eq_true_eq] at h
  unfold digit? hexv
  simp only [Bool.and_eq_true, decide_eq_true_eq]
  repeat' split
  all_goals first | rfl | omega | (congr 1; omega)
theorem hex_lt {c : Nat} (h : isHex c = true) : hexv c < 16 := by
  simp only [isHex, Bool.and_eq_true, Bool.or_eq_true, decide_eq_true_eq] at h
  unfold hexv
  repeat' split
  all_goals omega
theorem oct_lt {c : Nat} (h : isOct c = true) : hexv c < 8 := by
  simp only [isOct, Bool.and_eq_true, decide_eq_true_eq] at h
  unfold hexv
  rw [if_pos (by omega)]; omega
theorem hex_rng {c : Nat} (h : isHex c = true) : 48 ≤ c ∧ c ≤ 102 ∧ c ≠ 95 := by
  simp only [isHex, Bool.and_eq_true, Bool.or_eq_true, decide_eq_true_eq] at h; omega
theorem dig_hex {base c : Nat} (h : isDig base c = true) : isHex c = true := by
  unfold isDig at h; split at h
  · exact isOct_hex h
  · exact h
theorem dig_lt {base c : Nat} (hb : base = 8 ∨ base = 16) (h : isDig base c = true) : hexv c < base := by
  rcases hb with rfl | rfl
  · exact oct_lt h
  · exact hex_lt h
theorem step_dig {base : Nat} (hb : base = 8 ∨ base = 16) {ds : Array Nat} {b : Bool} {c : Nat} (h : isDig base c = true)  : NumText.step base (ds, b) c = some (ds.push (hexv c), true) := by
  have hh := dig_hex h
  unfold NumText.step
  have : (c == 95) = false := by have := (hex_rng hh).2.2; simpa using this
  rw [this, hex_digit hh]
  simp only [Bool.false_eq_true, if_false, dig_lt hb h, if_true]
theorem fold_dig {base : Nat} (hb : base = 8 ∨ base = 16) : ∀ (l : List Nat) (ds : Array Nat), (∀ c ∈ l, isDig base c = true) → l.foldlM (NumText.step base) (ds, true) = some (l.foldl (fun a c => a.push (hexv c)) ds, true)
  | [], ds, _ => rfl
  | c :: r, ds, h => by
    rw [List.foldlM_cons, step_dig hb (h c (List.mem_cons_self ..))]
    exact fold_dig hb r _ fun x hx => h x (List.mem_cons_of_mem _ hx)
theorem digs {base : Nat} (hb : base = 8 ∨ base = 16) {l : List Nat} (hn : l ≠ []) (h : ∀ c ∈ l, isDig base c = true) : digits? base l = some (l.foldl (fun a c => a.push (hexv c)) #[]) := by
  cases l with
  | nil => exact absurd rfl hn
  | cons c r =>
    unfold digits?
    rw [List.foldlM_cons, step_dig hb (h c (List.mem_cons_self ..))]
    show Option.bind (List.foldlM (NumText.step base) _ r) _ = _
    rw [fold_dig hb r _ fun x hx => h x (List.mem_cons_of_mem _ hx)]
    rfl
theorem push_worth (base : Nat) : ∀ (l : List Nat) (ds : Array Nat), (l.foldl (fun a c => a.push (hexv c)) ds).foldl (fun acc d => acc * base + d) 0 = l.foldl (fun acc c => acc * base + hexv c) (ds.foldl (fun acc d => acc * base + d) 0)
  | [], ds => rfl
  | c :: r, ds => by
    rw [List.foldl_cons, push_worth base r, List.foldl_cons]
    congr 1
    simp
theorem push_sz : ∀ (l : List Nat) (ds : Array Nat), (l.foldl (fun a c => a.push (hexv c)) ds).size = ds.size + l.length
  | [], ds => rfl
  | c :: r, ds => by rw [List.foldl_cons, push_sz r]; simp; omega
theorem notBlank {c : Nat} (h : isHex c = true) : blank c = false := by
  have := hex_rng h
  unfold blank
  simp only [Bool.or_eq_false_iff, beq_eq_false_iff_ne, Bool.and_eq_false_iff, decide_eq_false_iff_not]
  omega
theorem drop_blank {l : List Nat} (h : ∀ c ∈ l, isHex c = true) : l.dropWhile blank = l := by
  cases l with
  | nil => rfl
  | cons c r => rw [List.dropWhile_cons, notBlank (h c (List.mem_cons_self ..))]; rfl
theorem sign_hex {l : List Nat} (h : ∀ c ∈ l, isHex c = true) : sign l = (false, l) := by
  unfold sign
  split
  · have := hex_rng (h 45 (List.mem_cons_self ..)); omega
  · have := hex_rng (h 43 (List.mem_cons_self ..)); omega
  · rfl
theorem based_dig {base : Nat} (hb : base = 8 ∨ base = 16) {l : List Nat} (h : ∀ c ∈ l, isDig base c = true) : based base l = (base, false, l) := by
  unfold based
  have h0 : (base == 0) = false := by rcases hb with rfl | rfl <;> rfl
  cases hp : prefix? l with
  | none => simp only [h0, Bool.false_eq_true, if_false]
  | some p =>
    have : (base == p) = false := by
      match l, hp, h with
      | [], hp, _ => cases hp
      | [_], hp, _ => unfold prefix? at hp; split at hp <;> simp_all
      | a :: c :: r, hp, h =>
        have hc := hex_rng (dig_hex (h c (by simp)))
        by_cases ha : a = 48
        · subst ha
          have hp' : (if (c == 120 || c == 88) = true then some 16 else if (c == 111 || c == 79) = true then some 8 else if (c == 98 || c == 66) = true then some 2 else none) = some p := hp
          have hc2 := dig_hex (h c (by simp))
          simp only [isHex, Bool.and_eq_true, Bool.or_eq_true, decide_eq_true_eq] at hc2
          rw [if_neg (by simp only [Bool.or_eq_true, beq_iff_eq]; omega), if_neg (by simp only [Bool.or_eq_true, beq_iff_eq]; omega)] at hp'
          split at hp'
          · cases hp'; rcases hb with rfl | rfl <;> rfl
          · cases hp'
        · exfalso
          unfold prefix? at hp
          split at hp
          · rename_i he; simp only [List.cons.injEq] at he; exact ha he.1
          · cases hp
    simp only [h0, this, Bool.or_self, Bool.false_eq_true, if_false]
theorem readDig {base : Nat} (hb : base = 8 ∨ base = 16) {l : List Nat} (hn : l ≠ []) (h : ∀ c ∈ l, isDig base c = true) :
    (int_private% "readNumeral") 0 base l = (int_private% "Numeral.value") ((worth base l : Nat) : Int) := by
  refine (readNumeral_eq 0 base l).trans ?_
  have hh : ∀ c ∈ l, isHex c = true := fun c hc => dig_hex (h c hc)
  rw [drop_blank hh, sign_hex hh]
  dsimp only
  rw [based_dig hb h]
  dsimp only
  have hr : ∀ c ∈ l.reverse, isHex c = true := fun c hc => hh c (List.mem_reverse.mp hc)
  rw [drop_blank hr, List.reverse_reverse, digs hb hn h]
  unfold judge
  have hb2 : (![2, 4, 8, 16, 32].contains base) = false := by rcases hb with rfl | rfl <;> rfl
  have hb3 : (base == 10) = false := by rcases hb with rfl | rfl <;> rfl
  simp only [hb2, hb3, Bool.false_and, Bool.false_eq_true, if_false]
  rw [push_worth]
  rfl

theorem wp_text2 {M : Model} {A : Around} {E : Value → Shared → Prop} {s : Shared} {Q : Value → Shared → Prop} {v : Value} {text : List Nat} {n : Int} {base : Nat}
    (hs : (text.takeWhile (· != 0)).length ≤ 640) (hr : (int_private% "readNumeral") 0 base (text.takeWhile (· != 0)) = (int_private% "Numeral.value") n)
    (ha : ((text.takeWhile (· != 0)).length == text.length) = true) (h : Q (.int n s.toks) { s with toks := s.toks + 1 }) :
    wpAny M A ((int_private% "intFromText") v text base) Q E s := by
  obtain ⟨hp, g, d, tk, os⟩ := s
  repeat (any_goals (first
    | assumption
    | (with_reducible refine wpAny_ite_true (decide_eq_true hs) ?_)
    | (with_reducible refine wpAny_ite_true (decide_eq_true ha) ?_)
    | wp_step))
  all_goals (try rw [hr])
  all_goals (try dsimp only)
  repeat (any_goals (first
    | assumption
    | (with_reducible refine wpAny_ite_true (decide_eq_true hs) ?_)
    | (with_reducible refine wpAny_ite_true (decide_eq_true ha) ?_)
    | wp_step))
theorem takeAll {l : List Nat} (h : ∀ c ∈ l, isHex c = true) : l.takeWhile (· != 0) = l :=
  takeWhile_all fun c hc => by have := hex_rng (h c hc); simp; omega

theorem gives_int2 {base : Nat} (hb : base = 8 ∨ base = 16) {l : List Nat} {u t : Tok} (hn : l ≠ []) (h : ∀ c ∈ l, isDig base c = true) (hl : l.length ≤ 640) :
    Gives (Builtin.«int.__new__» ⟨[.type "int", .str (S l) u, .int base t], []⟩) (.int ((worth base l : Nat) : Int)) :=
  .of_wp fun M A E s Q hq => by
    obtain ⟨hp, g, d, tk, os⟩ := s
    have f1 := F.conv_sub_int
    have f2 := F.madeHere_int
    have hh : ∀ c ∈ l, isHex c = true := fun c hc => dig_hex (h c hc)
    have e1 := takeAll hh
    have hs : (l.takeWhile (· != 0)).length ≤ 640 := by rw [e1]; exact hl
    have hr : (int_private% "readNumeral") 0 base (l.takeWhile (· != 0)) = (int_private% "Numeral.value") ((worth base l : Nat) : Int) := by rw [e1]; exact readDig hb hn h
    have ha : ((l.takeWhile (· != 0)).length == l.length) = true := by rw [e1]; simp
    have hall : (S l).cps.all (· < 128) = true := by
      rw [S_cps]; simp only [List.all_toArray, List.all_eq_true, decide_eq_true_eq]
      intro c hc; have := hex_rng (hh c hc); omega
    have hc : (S l).cps.toList = l := rfl
    have hk := KIN.Hid.mk (And.intro hs (And.intro hr ha))
    clear hs hr ha e1 hl
    rcases hb with rfl | rfl
    all_goals
      repeat (any_goals (first
        | assumption
        | ((with_reducible show wpAny _ _ ((int_private% "intFromText") _ _ _) _ _ _); (try rw [if_pos hall]); (try rw [hc]); refine wp_text2 hk.out.1 hk.out.2.1 hk.out.2.2 ?_)
        | wp_step))
    all_goals first | exact ⟨_, rfl, hq⟩ | skip

theorem typeCall_int_2 (a b : Value) : checkTypeCall "int" ⟨[a, b], []⟩ = pure () := by kernel_rfl
theorem newCall_int_2 (a b : Value) : checkBuiltinCall "int.__new__" ⟨[.type "int", a, b], []⟩ = pure () := by kernel_rfl
theorem args_oi_3 (a b c : Value) : argsOk "object.__init__" ⟨[a, b, c], []⟩ := by unfold argsOk; kernel_rfl

section
variable {prog : Program} {w : World} {A : Around} {E : Value → Shared → Prop} {s : Shared}
theorem call_int2 {base : Nat} (hb : base = 8 ∨ base = 16) {l : List Nat} {u t : Tok} (hn : l ≠ []) (h : ∀ c ∈ l, isDig base c = true) (hl : l.length ≤ 640) {Q : Value → Shared → Prop}
    (hq : Q (.int ((worth base l : Nat) : Int) s.toks) { s with toks := s.toks + 1 }) :
    wpAny (model prog w) A (call (.type "int") [.str (S l) u, .int base t]) Q E s :=
  callType_new F.called_int F.newNe_int (typeCall_int_2 _ _) (newCall_int_2 _ _) (fun obj => args_oi_3 obj _ _) F.entry_int_new (gives_int2 hb hn h hl).meets (show (Made.int ((worth base l : Nat) : Int)).post _ s from ⟨rfl, hq⟩)
end
end
section
section
variable {w : World} {d : Nat} {sc : Scope} {m : Env'}

abbrev nLen : Str := Str.ofString "len"
theorem PE.lenS {e : Expr} {np pos : Pos} {x : List Nat} (he : PE w d sc e m (.str x)) (hx : x.length < 2 ^ 62) (hk : sc.kind = .function) (hl : sc.names.lookup nLen = some .globalImplicit)
    (hs : ∀ env, starEach [e] env = (false, eval e env) :: starEach [] env := by intro _; exact star_cons rfl) :
    PE w d sc (.Call (.Name nLen np) [e] [] pos) m (.int x.length) := by
  refine PE.callB (id := "len") rfl (by decide) nsLen hk hl (by decide) (PEs.cons he PEs.nil hs) (fun L own A B s vs Q E G k R r q => ?_) hs
  cases r with
  | cons a r => cases r; cases a with
    | str _ t =>
      refine PySem.P.len_str (x := S x) (by rw [S_len]; omega) ?_
      rw [S_len]; exact q _ s.heap _ (Keep.refl _) (.int _ _)
theorem PE.lenL {e : Expr} {np pos : Pos} {x : List PV} (he : PE w d sc e m (.list x)) (hx : x.length < 2 ^ 62) (hk : sc.kind = .function) (hl : sc.names.lookup nLen = some .globalImplicit)
    (hs : ∀ env, starEach [e] env = (false, eval e env) :: starEach [] env := by intro _; exact star_cons rfl) :
    PE w d sc (.Call (.Name nLen np) [e] [] pos) m (.int x.length) := by
  refine PE.callB (id := "len") rfl (by decide) nsLen hk hl (by decide) (PEs.cons he PEs.nil hs) (fun L own A B s vs Q E G k R r q => ?_) hs
  cases r with
  | cons a r => cases r; cases a with
    | @list a vs n l e rs =>
      have e' := gOf_sub _ _ e
      have hln : vs.size = x.length := by rw [← Array.length_toList, rs.length]
      refine Calls.call_len_list (listGet e') (by rw [hln]; omega) ?_
      rw [hln]; exact q _ s.heap _ (Keep.refl _) (.int _ _)
theorem PE.chr {e : Expr} {np pos : Pos} {i : Int} (he : PE w d sc e m (.int i)) (h0 : 0 ≤ i) (h1 : i ≤ 1114111) (hk : sc.kind = .function) (hl : sc.names.lookup (Str.ofString "chr") = some .globalImplicit)
    (hs : ∀ env, starEach [e] env = (false, eval e env) :: starEach [] env := by intro _; exact star_cons rfl) :
    PE w d sc (.Call (.Name (Str.ofString "chr") np) [e] [] pos) m (.str [i.toNat]) := by
  refine PE.callB (id := "chr") rfl (by decide) nsChr hk hl (by decide) (PEs.cons he PEs.nil hs) (fun L own A B s vs Q E G k R r q => ?_) hs
  cases r with
  | cons a r => cases r; cases a with
    | int _ t => exact PyProof.Rows.chr_of_range h0 h1 (q _ s.heap _ (Keep.refl _) (.str [i.toNat] _))
theorem PE.min2 {e f : Expr} {np pos : Pos} {i j : Int} (he : PE w d sc e m (.int i)) (hf : PE w d sc f m (.int j)) (hk : sc.kind = .function) (hl : sc.names.lookup (Str.ofString "min") = some .globalImplicit)
    (hs : ∀ env, starEach [e, f] env = (false, eval e env) :: starEach [f] env := by intro _; exact star_cons rfl) (hs2 : ∀ env, starEach [f] env = (false, eval f env) :: starEach [] env := by intro _; exact star_cons rfl)
    (hp : ∀ (p : Pos) env, (backTo p (starEach [f] env)).any (·.1) = false := by intro _ _; rfl) :
    PE w d sc (.Call (.Name (Str.ofString "min") np) [e, f] [] pos) m (.int (min i j)) := by
  refine PE.callB (id := "min") rfl (by decide) nsMin hk hl (by decide) (PEs.cons he (PEs.cons hf PEs.nil hs2) hs) (fun L own A B s vs Q E G k R r q => ?_) hs hp
  cases r with
  | cons a r => cases r with
    | cons b r => cases r; cases a with
      | int _ t => cases b with
        | int _ u =>
          refine PySem.min_two_ints R.hh fun h' tk hk => ?_
          split
          · rename_i hc; rw [show min i j = j by omega] at q; exact q _ h' tk hk (.int _ _)
          · rename_i hc; rw [show min i j = i by omega] at q; exact q _ h' tk hk (.int _ _)
theorem PE.int2 {e f : Expr} {np pos : Pos} {x : List Nat} {base : Nat} (he : PE w d sc e m (.str x)) (hf : PE w d sc f m (.int base)) (hb : base = 8 ∨ base = 16) (hn : x ≠ []) (h : ∀ c ∈ x, isDig base c = true) (hx : x.length ≤ 640)
    (hk : sc.kind = .function) (hl : sc.names.lookup (Str.ofString "int") = some .globalImplicit)
    (hs : ∀ env, starEach [e, f] env = (false, eval e env) :: starEach [f] env := by intro _; exact star_cons rfl) (hs2 : ∀ env, starEach [f] env = (false, eval f env) :: starEach [] env := by intro _; exact star_cons rfl)
    (hp : ∀ (p : Pos) env, (backTo p (starEach [f] env)).any (·.1) = false := by intro _ _; rfl) :
    PE w d sc (.Call (.Name (Str.ofString "int") np) [e, f] [] pos) m (.int (worth base x : Nat)) := by
  refine PE.callT (T := "int") rfl (by decide) nsInt hk hl (by decide) (PEs.cons he (PEs.cons hf PEs.nil hs2) hs) (fun L own A B s vs Q E G k R r q => ?_) hs hp
  cases r with
  | cons a r => cases r with
    | cons b r => cases r; cases a with
      | str _ t => cases b with
        | int _ u => exact call_int2 hb hn h hx (q _ s.heap _ (Keep.refl _) (.int _ _))

theorem PE.methS {o e : Expr} {name : Str} {id : String} {apos pos : Pos} {x : List Nat} {b c : PV} (ho : PE w d sc o m (.str x)) (he : PE w d sc e m b)
    (slot : Slot "str" name id) (ty : typeOf (.builtin id) = pure (.type "method_descriptor"))
    (hq : ∀ (L : Addr) (own : Own) (A : Around) (B : Heap) (s : Shared) (t : Tok) (vb : Value) (Q E : Value → Shared → Prop), Gd w B → Bk B L own s.heap → Room A d → VR w (gOf s.heap L own) vb b →
      (∀ v h' tk, Keep s.heap h' → VR w (gOf h' L own) v c → Q v { s with heap := h', toks := tk }) → wpAny (model P w) A (call (.builtin id) [.str (S x) t, vb]) Q E s)
    (hbase : ∀ env, attributeBase o name env (eval o env) = eval o env := by intro _; rfl) (hline : (apos.endLine == pos.line) = true := by rfl)
    (htrees : ∀ (p : Pos) env, backTo p (starEach [e] env) = [(false, eval e env)] := by intro _ _; rfl) :
    PE w d sc (.Call (.Attribute o name apos) [e] [] pos) m c := by
  intro env L A B own s Q E hE G R X q
  refine wpAny_Call_method1_late (hbase _) hline (htrees _ _) (ho env L A B own s _ E hE G R X fun v1 h1 t1 k1 r1 => ?_)
  cases r1 with
  | str _ t =>
    refine ⟨"str", id, PySem.F.plainAttrs_str, slot, ty, typeIs_str _ _ _, (fun _ e => nomatch e), ?_⟩
    refine Calls.callWith_builtin (first := [.str (S x) t]) rfl (Calls.evalArgs_plain (Calls.spliced_cons ?_))
    refine he env L A B own _ _ E hE G R (X.keep k1) fun v2 h2 t2 k2 r2 => ?_
    refine Calls.spliced_nil ?_
    exact hq L own A B _ t v2 Q E G ((X.bk.trans k1).trans k2) R r2 fun v3 h3 t3 k3 r3 => q v3 h3 t3 ((k1.trans k2).trans k3) r3
end
end
section
inductive PF where
  | next | brk | cont | ret (v : PV)

def FR (w : World) (g : Gt) : Flow → PF → Prop
  | .next, .next => True
  | .brk, .brk => True
  | .cont, .cont => True
  | .ret v, .ret pv => VR w g v pv
  | _, _ => False

structure StpX (X : List Addr) (L : Addr) (own own' : Own) (h h' : Heap) : Prop where
  hid : own'.hid = own.hid
  keep : ∀ b o, b ≠ L → b ∉ own.acc.map Prod.snd → b ∉ X → h.get? b = some o → h'.get? b = some o
  fresh : ∀ p ∈ own'.acc, p.2 ∈ own.acc.map Prod.snd ∨ (p.2 ≠ L ∧ (p.2 ∈ X ∨ h.get? p.2 = Option.none))
abbrev Stp (L : Addr) (own own' : Own) (h h' : Heap) : Prop := StpX [] L own own' h h'
theorem StpX.of_keep {X : List Addr} {L : Addr} {own : Own} {h h' : Heap} (k : Keep h h') : StpX X L own own h h' := ⟨rfl, fun b o _ _ _ e => k b o e, fun p hp => .inl (List.mem_map.mpr ⟨p, hp, rfl⟩)⟩
theorem StpX.refl {X : List Addr} {L : Addr} {own : Own} {h : Heap} : StpX X L own own h h := .of_keep (Keep.refl _)
theorem Stp.of_keep {L : Addr} {own : Own} {h h' : Heap} (k : Keep h h') : Stp L own own h h' := StpX.of_keep k
theorem Stp.refl {L : Addr} {own : Own} {h : Heap} : Stp L own own h h := StpX.refl
theorem StpX.more {X : List Addr} {L : Addr} {own own' : Own} {h h' : Heap} (x : Stp L own own' h h') : StpX X L own own' h h' :=
  ⟨x.hid, fun b o h1 h2 _ e => x.keep b o h1 h2 (by simp) e, fun p hp => (x.fresh p hp).imp id fun ⟨a, b⟩ => ⟨a, .inr (b.resolve_left (by simp))⟩⟩
theorem StpX.trans {X : List Addr} {L : Addr} {o0 o1 o2 : Own} {a b c : Heap} (x : StpX X L o0 o1 a b) (y : StpX X L o1 o2 b c) : StpX X L o0 o2 a c := by
  refine ⟨y.hid.trans x.hid, fun q o hL hq hX e => ?_, fun p hp => ?_⟩
  · refine y.keep q o hL (fun hm => ?_) hX (x.keep q o hL hq hX e)
    obtain ⟨p, hp, rfl⟩ := List.mem_map.mp hm
    rcases x.fresh p hp with h | ⟨_, h | h⟩
    · exact hq h
    · exact hX h
    · rw [h] at e; cases e
  · rcases y.fresh p hp with h | ⟨hL, h | h⟩
    · obtain ⟨p', hp', e⟩ := List.mem_map.mp h
      rw [← e]; exact x.fresh p' hp'
    · exact .inr ⟨hL, .inl h⟩
    · by_cases hm : p.2 ∈ o0.acc.map Prod.snd
      · exact .inl hm
      · refine .inr ⟨hL, ?_⟩
        by_cases hX : p.2 ∈ X
        · exact .inl hX
        · refine .inr ?_
          cases hc : a.get? p.2 with
          | none => rfl
          | some o => have := x.keep _ o hL hm hX hc; rw [this] at h; cases h
theorem StpX.sub {X : List Addr} {L : Addr} {own own' : Own} {h h' : Heap} (x : StpX X L own own' h h') (hX : ∀ b ∈ X, b ∈ own.hid) : Sub (gOf h L own) (gOf h' L own') := fun b o e => by
  obtain ⟨hn, e⟩ := ex_some.mp e
  unfold Own.all at hn
  simp only [List.mem_cons, List.mem_append, not_or] at hn
  refine ex_some.mpr ⟨?_, x.keep b o hn.1 hn.2.1 (fun h => hn.2.2 (hX b h)) e⟩
  unfold Own.all
  simp only [List.mem_cons, List.mem_append, not_or]
  refine ⟨hn.1, fun hm => ?_, by rw [x.hid]; exact hn.2.2⟩
  obtain ⟨p, hp, rfl⟩ := List.mem_map.mp hm
  rcases x.fresh p hp with h1 | ⟨_, h1 | h1⟩
  · exact hn.2.1 h1
  · exact hn.2.2 (hX _ h1)
  · rw [h1] at e; cases e
theorem Stp.sub {L : Addr} {own own' : Own} {h h' : Heap} (x : Stp L own own' h h') : Sub (gOf h L own) (gOf h' L own') := StpX.sub x (by simp)
theorem Stp.trans {L : Addr} {o0 o1 o2 : Own} {a b c : Heap} (x : Stp L o0 o1 a b) (y : Stp L o1 o2 b c) : Stp L o0 o2 a c := StpX.trans x y

def PX1 (w : World) (d : Nat) (sc : Scope) (st : Stmt) (m : Env') (R : PF → Env' → Prop) : Prop :=
  ∀ (env : Env) (L : Addr) (A : Around) (B : Heap) (own : Own) (s : Shared) (Q : Flow → Shared → Prop) (E : Value → Shared → Prop),
    EnvOk env sc L → Gd w B → Room A d → St w B L own m s.heap →
    (∀ f pf m' own' h' tk, R pf m' → Stp L own own' s.heap h' → St w B L own' m' h' → FR w (gOf h' L own') f pf → Q f { s with heap := h', toks := tk }) →
    wpAny (model P w) A (exec st env) Q E s
def PX (w : World) (d : Nat) (sc : Scope) (ss : List Stmt) (m : Env') (R : PF → Env' → Prop) : Prop :=
  ∀ (env : Env) (L : Addr) (A : Around) (B : Heap) (own : Own) (s : Shared) (Q : Flow → Shared → Prop) (E : Value → Shared → Prop),
    EnvOk env sc L → Gd w B → Room A d → St w B L own m s.heap →
    (∀ f pf m' own' h' tk, R pf m' → Stp L own own' s.heap h' → St w B L own' m' h' → FR w (gOf h' L own') f pf → Q f { s with heap := h', toks := tk }) →
    wpAny (model P w) A (execs ss env) Q E s

def bh (w : World) (d : Nat) (sc : Scope) (rest : List Stmt) (R : PF → Env' → Prop) : PF → Env' → Prop
  | .next, m => PX w d sc rest m R
  | f, m => R f m

section
variable {w : World} {d : Nat} {sc : Scope} {m : Env'} {R : PF → Env' → Prop}

theorem PX.nil (h : R .next m) : PX w d sc [] m R := by
  intro env L A B own s Q E hE G Rm X q
  exact wpAny_execs_nil (q .next .next m own s.heap s.toks h .refl X trivial)
theorem PX.cons {st : Stmt} {rest : List Stmt} (h : PX1 w d sc st m (bh w d sc rest R)) : PX w d sc (st :: rest) m R := by
  intro env L A B own s Q E hE G Rm X q
  refine wpAny_execs_cons (h env L A B own s _ E hE G Rm X fun f pf m' own' h' tk hr ks X' hf => ?_)
  cases f with
  | next =>
    cases pf with
    | next => exact hr env L A B own' _ Q E hE G Rm X' fun f2 pf2 m2 own2 h2 tk2 hr2 ks2 X2 hf2 => q f2 pf2 m2 own2 h2 tk2 hr2 (ks.trans ks2) X2 hf2
    | brk => exact hf.elim
    | cont => exact hf.elim
    | ret v => exact hf.elim
  | brk => cases pf with
    | brk => exact q .brk .brk m' own' h' tk hr ks X' hf
    | next => exact hf.elim
    | cont => exact hf.elim
    | ret v => exact hf.elim
  | cont => cases pf with
    | cont => exact q .cont .cont m' own' h' tk hr ks X' hf
    | next => exact hf.elim
    | brk => exact hf.elim
    | ret v => exact hf.elim
  | ret v => cases pf with
    | ret pv => exact q (.ret v) (.ret pv) m' own' h' tk hr ks X' hf
    | next => exact hf.elim
    | brk => exact hf.elim
    | cont => exact hf.elim

theorem PX.mono {ss : List Stmt} {R' : PF → Env' → Prop} (h : PX w d sc ss m R) (k : ∀ f m', R f m' → R' f m') : PX w d sc ss m R' := by
  intro env L A B own s Q E hE G Rm X q
  exact h env L A B own s Q E hE G Rm X fun f pf m' own' h' tk hr ks X' hf => q f pf m' own' h' tk (k _ _ hr) ks X' hf
theorem PX1.mono {st : Stmt} {R' : PF → Env' → Prop} (h : PX1 w d sc st m R) (k : ∀ f m', R f m' → R' f m') : PX1 w d sc st m R' := by
  intro env L A B own s Q E hE G Rm X q
  exact h env L A B own s Q E hE G Rm X fun f pf m' own' h' tk hr ks X' hf => q f pf m' own' h' tk (k _ _ hr) ks X' hf

theorem St.set {B : Heap} {L : Addr} {own : Own} {h h' : Heap} {x : Str} {v : Value} {pv : PV} (X : St w B L own m h) (hp : pv.isAcc = false) (r : VR w (gOf h L own) v pv)
    (hs : Heap.SameBut L h h') (hn : ∀ mv, h.Ns L mv → h'.Ns L (fun y => if y = x then some v else mv y)) : St w B L own ((x, pv) :: m) h' := by
  obtain ⟨⟨mv, F, hm⟩, n1, n2, n3⟩ := X
  have sub : Sub (gOf h L own) (gOf h' L own) := fun b o e => by
    obtain ⟨hb, e⟩ := ex_some.mp e
    refine ex_some.mpr ⟨hb, (hs.2 b fun hL => hb ?_).trans e⟩
    rw [hL]; exact List.mem_cons_self ..
  refine ⟨⟨_, F.set (hn mv F.ns) hs, fun y p e => ?_⟩, fun p hp => let ⟨a, b, o, e⟩ := n1 p hp; ⟨a, b, o, (hs.2 _ b).trans e⟩, n2, fun b hb => by
    by_cases hbL : b = L
    · obtain ⟨o, _, _, ho, _⟩ := hn mv F.ns; exact ⟨o, hbL ▸ ho⟩
    · obtain ⟨o, e⟩ := n3 b hb; exact ⟨o, (hs.2 b hbL).trans e⟩⟩
  rw [List.lookup_cons] at e
  by_cases hy : y = x
  · subst hy
    rw [beq_self_eq_true] at e
    cases e
    exact ⟨v, if_pos rfl, .of_VR hp (r.mono sub)⟩
  · have hb : (y == x) = false := beq_eq_false_iff_ne.mpr hy
    rw [hb] at e
    obtain ⟨v', e1, e2⟩ := hm y p e
    refine ⟨v', (if_neg hy).trans e1, ?_⟩
    cases p with
    | acc l =>
      obtain ⟨a, h1, h2, vs, n, h3, h4⟩ := e2
      refine ⟨a, h1, h2, vs, n, (hs.2 a fun hL => ?_).trans h3, h4.mono sub⟩
      have ha : (y, a) ∈ own.acc := by
        clear h2 h3 h4 e1 e n1 n2
        revert h1
        induction own.acc with
        | nil => intro h1; cases h1
        | cons q r ih =>
          obtain ⟨q1, q2⟩ := q
          intro h1
          rw [List.lookup_cons] at h1
          by_cases hq : y = q1
          · subst hq; rw [beq_self_eq_true] at h1; cases h1; exact List.mem_cons_self ..
          · rw [beq_eq_false_iff_ne.mpr hq] at h1; exact List.mem_cons_of_mem _ (ih h1)
      exact (n1 _ ha).2.1 hL
    | _ => exact Mine.VR.mono sub e2

theorem store {env : Env} {L : Addr} {A : Around} {B : Heap} {own : Own} {s : Shared} {x : Str} {v : Value} {pv : PV} {Q : Unit → Shared → Prop} {E : Value → Shared → Prop} (hE : EnvOk env sc L)
    (X : St w B L own m s.heap) (hp : pv.isAcc = false) (r : VR w (gOf s.heap L own) v pv) (hk : sc.kind = .function) (hl : sc.names.lookup x = some .local)
    (q : ∀ h' tk, Stp L own own s.heap h' → St w B L own ((x, pv) :: m) h' → Q () { s with heap := h', toks := tk }) : wpAny (model P w) A (storeName env x v) Q E s := by
  obtain ⟨mv, F, hm⟩ := X.fr
  refine wpAny_storeName_local (m := mv) (by unfold Env.kindOf; rw [hE.sc]; exact hl) (by rw [hE.loc]; exact F.ns) (fun h' hn hs => ?_) (by rw [hE.sc, hk]; rfl)
  rw [hE.loc] at hn hs
  refine q h' _ ⟨rfl, fun b o hb _ _ e => (hs.2 b hb).trans e, fun p hp => .inl (List.mem_map.mpr ⟨p, hp, rfl⟩)⟩ ?_
  obtain ⟨⟨mv', F', hm'⟩, n1, n2, n3⟩ := X
  refine St.set ⟨⟨mv, F, hm⟩, n1, n2, n3⟩ hp r hs fun mv2 hn2 => ?_
  have e : mv2 = mv := by
    obtain ⟨o, es, ep, h1, h2, _, h3⟩ := hn2
    obtain ⟨o', es', ep', h1', h2', _, h3'⟩ := F.ns
    funext y
    rw [h1] at h1'; cases h1'
    rw [h2] at h2'; cases h2'
    rw [← h3 y, ← h3' y]
  rw [e]; exact hn

theorem PX1.assign {x : Str} {xp pos : Pos} {e : Expr} {pv : PV} (h : PE w d sc e m pv) (hp : pv.isAcc = false) (hk : sc.kind = .function) (hl : sc.names.lookup x = some .local) (hr : R .next ((x, pv) :: m))
    (hs : ∀ env, swapsWith e (some (.Name x xp)) pos.line env = pure false := by intro _; rfl) : PX1 w d sc (.Assign [.Name x xp] e pos) m R := by
  intro env L A B own s Q E hE G Rm X q
  refine wpAny_Assign_Name (h env L A B own s _ E hE G Rm X fun v h1 t1 k1 r1 => ?_) (hs _)
  refine store hE (s := { s with heap := h1, toks := t1 }) (X.keep k1) hp r1 hk hl fun h2 t2 k2 X2 => ?_
  exact q .next .next _ own h2 t2 hr ((Stp.of_keep k1).trans k2) X2 trivial

theorem PX1.ret {e : Expr} {pos : Pos} {pv : PV} (h : PE w d sc e m pv) (hr : R (.ret pv) m) : PX1 w d sc (.Return (some e) pos) m R := by
  intro env L A B own s Q E hE G Rm X q
  refine wpAny_Return_some (h env L A B own s _ E hE G Rm X fun v h1 t1 k1 r1 => ?_)
  exact q (.ret v) (.ret pv) m own h1 t1 hr (.of_keep k1) (X.keep k1) r1
theorem PX1.brk {pos : Pos} (hr : R .brk m) : PX1 w d sc (.Break pos) m R := by
  intro env L A B own s Q E hE G Rm X q
  exact wpAny_Break (q .brk .brk m own s.heap s.toks hr .refl X trivial)
theorem PX1.cont {pos : Pos} (hr : R .cont m) : PX1 w d sc (.Continue pos) m R := by
  intro env L A B own s Q E hE G Rm X q
  exact wpAny_Continue (q .cont .cont m own s.heap s.toks hr .refl X trivial)
theorem PX1.if {t : Expr} {body orelse : List Stmt} {pos : Pos} {b : Bool} (ht : PT w d sc t m b) (h1 : b = true → PX w d sc body m R) (h2 : b = false → PX w d sc orelse m R) : PX1 w d sc (.If t body orelse pos) m R := by
  intro env L A B own s Q E hE G Rm X q
  refine wpAny_If (ht env L A B own s _ E hE G Rm X fun h' t' k' => ?_)
  have go : ∀ {ss : List Stmt}, PX w d sc ss m R → wpAny (model P w) A (execs ss env) Q E { s with heap := h', toks := t' } := fun hh =>
    hh env L A B own _ Q E hE G Rm (X.keep k') fun f pf m' own' h2 tk hr ks X' hf => q f pf m' own' h2 tk hr ((Stp.of_keep k').trans ks) X' hf
  cases b with
  | true => rw [if_pos rfl]; exact go (h1 rfl)
  | false => rw [if_neg Bool.false_ne_true]; exact go (h2 rfl)

def turnEnd (R : PF → Env' → Prop) (again : Env' → Prop) : PF → Env' → Prop
  | .next, m => again m
  | .cont, m => again m
  | .brk, m => R .next m
  | .ret v, m => R (.ret v) m

theorem PX1.while {t : Expr} {body : List Stmt} {pos : Pos} (Inv : Nat → Env' → Prop)
    (turn : ∀ n m', Inv n m' → ∃ b, PT w d sc t m' b ∧ (b = true → PX w d sc body m' (turnEnd R fun m2 => ∃ n', n' < n ∧ Inv n' m2)) ∧ (b = false → R .next m'))
    (n : Nat) (h : Inv n m) : PX1 w d sc (.While t body [] pos) m R := by
  intro env L A B own s Q E hE G Rm X q
  refine wpAny_While (codeAny_whileLoop (fun n s' => ∃ m' own' h' tk, s' = { s with heap := h', toks := tk } ∧ Inv n m' ∧ Stp L own own' s.heap h' ∧ St w B L own' m' h') ?_ n ⟨m, own, s.heap, s.toks, rfl, h, .refl, X⟩)
  rintro n s' ⟨m', own', h', tk, rfl, hi, ks, X'⟩
  obtain ⟨b, ht, hb, hn⟩ := turn n m' hi
  refine ht env L A B own' _ _ _ hE G Rm X' fun h2 t2 k2 => ?_
  cases b with
  | false =>
    rw [if_neg Bool.false_ne_true]
    exact wpAny_execs_nil (q .next .next m' own' h2 t2 (hn rfl) (ks.trans (.of_keep k2)) (X'.keep k2) trivial)
  | true =>
    rw [if_pos rfl]
    refine hb rfl env L A B own' _ _ _ hE G Rm (X'.keep k2) fun f pf m3 own3 h3 t3 hr k3 X3 hf => ?_
    have kk := (ks.trans (.of_keep k2)).trans k3
    cases f with
    | next => cases pf with
      | next => obtain ⟨n', hn', hi'⟩ := hr; exact ⟨n', hn', m3, own3, h3, t3, rfl, hi', kk, X3⟩
      | brk => exact hf.elim
      | cont => exact hf.elim
      | ret v => exact hf.elim
    | cont => cases pf with
      | cont => obtain ⟨n', hn', hi'⟩ := hr; exact ⟨n', hn', m3, own3, h3, t3, rfl, hi', kk, X3⟩
      | brk => exact hf.elim
      | next => exact hf.elim
      | ret v => exact hf.elim
    | brk => cases pf with
      | brk => exact q .next .next m3 own3 h3 t3 hr kk X3 trivial
      | next => exact hf.elim
      | cont => exact hf.elim
      | ret v => exact hf.elim
    | ret v => cases pf with
      | ret pv => exact q (.ret v) (.ret pv) m3 own3 h3 t3 hr kk X3 hf
      | next => exact hf.elim
      | cont => exact hf.elim
      | brk => exact hf.elim
end
end
section
section
variable {w : World} {d : Nat} {sc : Scope} {m : Env'} {R : PF → Env' → Prop}

theorem keep_ext {h h' : Heap} (k : Heap.ExtBut h.objs.size h h') : Keep h h' := fun b o e => k b o (Nat.ne_of_lt (Heap.lt_size e)) e

theorem PX1.augI {x : Str} {xp pos : Pos} {e : Expr} {i j : Int} (hx : m.lookup x = some (.int i)) (h : PE w d sc e m (.int j)) (hk : sc.kind = .function) (hl : sc.names.lookup x = some .local) (hr : R .next ((x, .int (i + j)) :: m)) :
    PX1 w d sc (.AugAssign (.Name x xp) .Add e pos) m R := by
  intro env L A B own s Q E hE G Rm X q
  obtain ⟨mv, F, hm⟩ := X.fr
  obtain ⟨v, e1, e2⟩ := hm x _ hx
  refine wpAny_AugAssign_Name (wpAny_loadName_local (m := mv) (v := v) (by rw [hE.sc]; exact hk) (by unfold Env.kindOf; rw [hE.sc]; exact hl) (by rw [hE.loc]; exact F.ns) e1 ?_)
  refine h env L A B own s _ E hE G Rm X fun v2 h1 t1 k1 r1 => ?_
  have r2 : VR w (gOf s.heap L own) v (.int i) := e2
  cases r1; cases r2
  refine PySem.P.iadd_int ?_
  refine store hE (s := { s with heap := h1, toks := t1 + 1 }) (X.keep k1) rfl (.int _ _) hk hl fun h2 t2 k2 X2 => ?_
  exact q .next .next _ own h2 t2 hr ((Stp.of_keep k1).trans k2) X2 trivial
theorem PX1.augS {x : Str} {xp pos : Pos} {e : Expr} {a b : List Nat} (hx : m.lookup x = some (.str a)) (h : PE w d sc e m (.str b)) (hn : (a ++ b).length ≤ sizeLine) (hk : sc.kind = .function) (hl : sc.names.lookup x = some .local) (hr : R .next ((x, .str (a ++ b)) :: m)) :
    PX1 w d sc (.AugAssign (.Name x xp) .Add e pos) m R := by
  intro env L A B own s Q E hE G Rm X q
  obtain ⟨mv, F, hm⟩ := X.fr
  obtain ⟨v, e1, e2⟩ := hm x _ hx
  refine wpAny_AugAssign_Name (wpAny_loadName_local (m := mv) (v := v) (by rw [hE.sc]; exact hk) (by unfold Env.kindOf; rw [hE.sc]; exact hl) (by rw [hE.loc]; exact F.ns) e1 ?_)
  refine h env L A B own s _ E hE G Rm X fun v2 h1 t1 k1 r1 => ?_
  have r2 : VR w (gOf s.heap L own) v (.str a) := e2
  have fin : ∀ v3 t3, VR w (gOf h1 L own) v3 (.str (a ++ b)) → wpAny (model P w) A (storeName env x v3) (fun _ => Q .next) E { s with heap := h1, toks := t3 } := fun v3 t3 r3 => by
    refine store hE (s := { s with heap := h1, toks := t3 }) (X.keep k1) rfl r3 hk hl fun h2 t2 k2 X2 => ?_
    exact q .next .next _ own h2 t2 hr ((Stp.of_keep k1).trans k2) X2 trivial
  cases r1; cases r2
  refine PySem.P.iadd_str ?_
  rw [S_len, S_len, S_app]
  split
  · rename_i h; have : a = [] := List.length_eq_zero_iff.mp (by simpa using h); subst this; exact fin _ _ (.str _ _)
  · split
    · rename_i h; have : b = [] := List.length_eq_zero_iff.mp (by simpa using h); subst this; rw [List.append_nil] at fin; exact fin _ _ (.str _ _)
    · exact ⟨by rw [S_len]; exact hn, fin _ _ (.str _ _)⟩

theorem tupIs {w : World} {g : Gt} {v : Value} {l : List PV} (r : VR w g v (.tup l)) : ∃ a vs n, v = .ref a ∧ g a = some { cls := .type "tuple", data := .seq vs n } ∧ VRs w g vs.toList l := by
  cases r with
  | tup e rs => exact ⟨_, _, _, rfl, e, rs⟩

theorem PX1.tup2s {x y : Str} {xp yp tp pos : Pos} {k : Nat} {e : Expr} {a b : PV} (h : PE w d sc e m (.tup [a, b])) (ha : a.isAcc = false) (hb : b.isAcc = false) (hk : sc.kind = .function)
    (hlx : sc.names.lookup x = some .local) (hly : sc.names.lookup y = some .local) (hr : R .next ((x, a) :: (y, b) :: m))
    (hw : ∀ env : Env, env.scope = sc → swappedStores [.Tuple [.Name x xp, .Name y yp] k tp] e env = pure (some [x, y]))
    (hs : ∀ env, swapsWithSole [.Tuple [.Name x xp, .Name y yp] k tp] e pos.line env = pure false := by intro _; rfl) : PX1 w d sc (.Assign [.Tuple [.Name x xp, .Name y yp] k tp] e pos) m R := by
  intro env L A B own s Q E hE G Rm X q
  refine Assign_Tuple_swapped (h env L A B own s _ E hE G Rm X fun v h1 t1 k1 r1 => ?_) (hs _) (hw _ hE.sc)
  obtain ⟨t, vs, n, rfl, ge, rs⟩ := tupIs r1
  have ht : (h1.get? t) = some { cls := .type "tuple", data := .seq vs n } := gOf_sub _ _ ge
  have hsz : vs.size = 2 := by rw [← Array.length_toList, rs.length]; rfl
  have hlen : [x, y].length = vs.size := by rw [hsz]; rfl
  rw [hlen]
  refine wpAny_unpackItems_tuple (s := { s with heap := h1, toks := t1 }) Rm.hh ⟨_, ht, rfl, n, rfl⟩ fun h2 hx => ?_
  have k2 : Keep h1 h2 := keep_ext hx
  generalize hvs : vs.toList = l at rs ⊢
  cases rs with
  | cons ra rs => cases rs with
    | cons rb rs => cases rs with
      | nil =>
        refine assignInOrder_cons (wpAny_bindName (store hE (s := { s with heap := h2, toks := t1 }) ((X.keep k1).keep k2) hb (rb.mono (gOf_keep k2)) hk hly fun h3 t3 k3 X3 => ?_))
        refine assignInOrder_cons (wpAny_bindName (store hE (s := { s with heap := h3, toks := t3 }) X3 ha ((ra.mono (gOf_keep k2)).mono k3.sub) hk hlx fun h4 t4 k4 X4 => ?_))
        refine assignInOrder_nil ?_
        exact q .next .next _ own h4 t4 hr ((((Stp.of_keep k1).trans (.of_keep k2)).trans k3).trans k4) X4 trivial
theorem PX1.tup2 {x y : Str} {xp yp tp pos : Pos} {k : Nat} {e : Expr} {a b : PV} (h : PE w d sc e m (.tup [a, b])) (ha : a.isAcc = false) (hb : b.isAcc = false) (hk : sc.kind = .function)
    (hlx : sc.names.lookup x = some .local) (hly : sc.names.lookup y = some .local) (hr : R .next ((y, b) :: (x, a) :: m))
    (hw : ∀ env : Env, swappedStores [.Tuple [.Name x xp, .Name y yp] k tp] e env = pure none := by intro _; rfl)
    (hs : ∀ env, swapsWithSole [.Tuple [.Name x xp, .Name y yp] k tp] e pos.line env = pure false := by intro _; rfl) : PX1 w d sc (.Assign [.Tuple [.Name x xp, .Name y yp] k tp] e pos) m R := by
  intro env L A B own s Q E hE G Rm X q
  refine Assign_Tuple (h env L A B own s _ E hE G Rm X fun v h1 t1 k1 r1 => ?_) (hs _) (hw _)
  obtain ⟨t, vs, n, rfl, ge, rs⟩ := tupIs r1
  have ht : (h1.get? t) = some { cls := .type "tuple", data := .seq vs n } := gOf_sub _ _ ge
  have hsz : vs.size = 2 := by rw [← Array.length_toList, rs.length]; rfl
  refine wpAny_assign_Tuple (s := { s with heap := h1, toks := t1 }) Rm.hh ⟨_, ht, rfl, n, rfl⟩ (by rw [hsz]; rfl) rfl fun h2 hx => ?_
  have k2 : Keep h1 h2 := keep_ext hx
  generalize hvs : vs.toList = l at rs ⊢
  cases rs with
  | cons ra rs => cases rs with
    | cons rb rs => cases rs with
      | nil =>
        refine assignInOrder_cons (wpAny_assign_Name (store hE (s := { s with heap := h2, toks := t1 }) ((X.keep k1).keep k2) ha (ra.mono (gOf_keep k2)) hk hlx fun h3 t3 k3 X3 => ?_))
        refine assignInOrder_cons (wpAny_assign_Name (store hE (s := { s with heap := h3, toks := t3 }) X3 hb ((rb.mono (gOf_keep k2)).mono k3.sub) hk hly fun h4 t4 k4 X4 => ?_))
        refine assignInOrder_nil ?_
        exact q .next .next _ own h4 t4 hr ((((Stp.of_keep k1).trans (.of_keep k2)).trans k3).trans k4) X4 trivial

theorem mem_of_lookup {x : Str} {a : Addr} : ∀ {l : List (Str × Addr)}, l.lookup x = some a → (x, a) ∈ l
  | [], h => by cases h
  | (q1, q2) :: r, h => by
    rw [List.lookup_cons] at h
    by_cases hq : x = q1
    · subst hq; rw [beq_self_eq_true] at h; cases h; exact List.mem_cons_self ..
    · rw [beq_eq_false_iff_ne.mpr hq] at h; exact List.mem_cons_of_mem _ (mem_of_lookup h)

theorem St.move {B : Heap} {L : Addr} {own own' : Own} {h h' : Heap} (X : St w B L own m h) (ha : own'.acc = own.acc) (hf : ∀ mv, Fr B L h mv → Fr B L h' mv) (hs : Sub (gOf h L own) (gOf h' L own'))
    (hc : ∀ p ∈ own.acc, ∀ o, h.get? p.2 = some o → h'.get? p.2 = some o) (hh : ∀ b ∈ own'.hid, ∃ o, h'.get? b = some o) : St w B L own' m h' := by
  obtain ⟨⟨mv, F, hm⟩, n1, n2, n3⟩ := X
  refine ⟨⟨mv, hf mv F, fun y p e => ?_⟩, by rw [ha]; exact fun p hp => let ⟨a, b, o, e⟩ := n1 p hp; ⟨a, b, o, hc p hp o e⟩, by rw [ha]; exact n2, hh⟩
  obtain ⟨v', e1, e2⟩ := hm y p e
  refine ⟨v', e1, ?_⟩
  cases p with
  | acc l =>
    obtain ⟨a, h1, h2, vs, n, h3, h4⟩ := e2
    exact ⟨a, by rw [ha]; exact h1, h2, vs, n, hc _ (mem_of_lookup h1) _ h3, h4.mono hs⟩
  | _ => exact Mine.VR.mono hs e2
theorem hideSub {L : Addr} {own : Own} {h h' : Heap} {wr : List Addr} (k : Keep h h') (hwr : ∀ b ∈ wr, h.get? b = none) : Sub (gOf h L own) (gOf h' L ⟨own.acc, wr ++ own.hid⟩) := fun b o e => by
  obtain ⟨hn, e⟩ := ex_some.mp e
  refine ex_some.mpr ⟨fun hm => ?_, k _ _ e⟩
  unfold Own.all at hm hn
  simp only [List.mem_cons, List.mem_append, not_or] at hm hn
  rcases hm with h | h | h | h
  · exact hn.1 h
  · exact hn.2.1 h
  · rw [hwr b h] at e; cases e
  · exact hn.2.2 h
theorem St.hide {B : Heap} {L : Addr} {own : Own} {h h' : Heap} {wr : List Addr} (X : St w B L own m h) (k : Keep h h') (hwr : ∀ b ∈ wr, h.get? b = none) (hex : ∀ b ∈ wr, ∃ o, h'.get? b = some o) : St w B L ⟨own.acc, wr ++ own.hid⟩ m h' :=
  X.move rfl (fun _ F => ⟨F.ns.keeps k, fun b o e => k _ _ (F.keep b o e), F.above⟩) (hideSub k hwr) (fun _ _ _ e => k _ _ e) fun b hb => (List.mem_append.mp hb).elim (hex b) fun hb => let ⟨o, e⟩ := X.there b hb; ⟨o, k _ _ e⟩

def QuietIt (h : Heap) (I : Addr) : Prop := ∃ o n, h.get? I = some o ∧ o.cls = .type n ∧ ["enumerate", "zip", "dict_itemiterator", "dict_reverseitemiterator", "odict_iterator", "itertools.zip_longest", "itertools.pairwise"].contains n = false
def PI (w : World) (d : Nat) (sc : Scope) (iter : Expr) (m : Env') (items : List PV) : Prop :=
  ∀ (env : Env) (L : Addr) (A : Around) (B : Heap) (own : Own) (s : Shared) (Q : Value → Shared → Prop) (E : Value → Shared → Prop),
    EnvOk env sc L → Gd w B → Room A d → St w B L own m s.heap →
    (∀ (I : Addr) (fp wr : List Addr) (Pp : Nat → Value → Prop) (Sx : Nat → Heap → Prop) (h1 h' : Heap) (tk : Nat), Keep s.heap h1 → Keep h1 h' → Walks P w A I fp wr items.length Pp Sx → Sx 0 h' →
      (∀ b ∈ fp, b ∉ own.all L) → (∀ i h, Sx i h → ∀ b ∈ fp, ∃ o, h.get? b = some o) → (∀ i h, Sx i h → QuietIt h I) → (∀ b ∈ wr, h1.get? b = none) →
      (∀ i v, Pp i v → ∃ p, items[i]? = some p ∧ VR w (gOf h1 L own) v p) → Q (.ref I) { s with heap := h', toks := tk }) →
    wpAny (model P w) A (eval iter env) (fun v s₁ => wpAny (model P w) A (pyIter v) Q E s₁) E s

theorem PX1.for {x : Str} {xp pos : Pos} {iter : Expr} {body : List Stmt} {items : List PV} (hi : PI w d sc iter m items) (hit : ∀ p ∈ items, p.isAcc = false) (hk : sc.kind = .function) (hl : sc.names.lookup x = some .local)
    (Inv : Nat → Env' → Prop) (h0 : Inv 0 m)
    (turn : ∀ i m' p, Inv i m' → items[i]? = some p → PX w d sc body ((x, p) :: m') (turnEnd R (Inv (i + 1))))
    (fin : ∀ m', Inv items.length m' → R .next m')
    (hs : ∀ env y, foldedSetIterable iter env y = pure y := by intro _ _; rfl) : PX1 w d sc (.For (.Name x xp) iter body [] pos) m R := by
  intro env L A B own s Q E hE G Rm X q
  refine wpAny_For (hi env L A B own s _ E hE G Rm X fun I fp wr Pp Sx h1 h' tk k1 k2 W st hfp0 hex _ hwr hP => ?_) (hs _)
  have hfp : ∀ b ∈ fp, b ≠ L ∧ b ∉ own.acc.map Prod.snd := fun b hb => ⟨fun e => hfp0 b hb (by rw [e]; exact List.mem_cons_self ..), fun e => hfp0 b hb (List.mem_cons_of_mem _ (List.mem_append_left _ e))⟩
  have X0 : St w B L ⟨own.acc, wr ++ own.hid⟩ m h' := (X.keep k1).hide k2 hwr fun b hb => hex _ _ st b (W.sub b hb)
  have hB : ∀ b ∈ wr, B.get? b = none := fun b hb => by
    cases hc : B.get? b with
    | none => rfl
    | some o => have := k1 _ _ (X.base _ _ hc); rw [hwr b hb] at this; cases this
  have hin : ∀ b ∈ wr, b ∈ (Own.mk own.acc (wr ++ own.hid)).hid := fun b hb => List.mem_append_left _ hb
  have wrNew : ∀ b ∈ wr, s.heap.get? b = none := fun b hb => by
    cases hc : s.heap.get? b with
    | none => rfl
    | some o => have := k1 _ _ hc; rw [hwr b hb] at this; cases this
  have leave : ∀ (own' : Own) (m' : Env') (hh h2 : Heap), StpX wr L ⟨own.acc, wr ++ own.hid⟩ own' h' hh → St w B L own' m' hh → (∀ b ∈ wr, b ≠ L ∧ b ∉ own'.acc.map Prod.snd) → (∀ b o, b ∉ wr → hh.get? b = some o → h2.get? b = some o) →
      Stp L own ⟨own'.acc, own.hid⟩ s.heap h2 ∧ St w B L ⟨own'.acc, own.hid⟩ m' h2 ∧ Sub (gOf hh L own') (gOf h2 L ⟨own'.acc, own.hid⟩) := fun own' m' hh h2 ks X' hfo kk => by
    have hsub : Sub (gOf hh L own') (gOf h2 L ⟨own'.acc, own.hid⟩) := by
      intro b o e
      obtain ⟨hn, e⟩ := ex_some.mp e
      unfold Own.all at hn
      rw [ks.hid] at hn
      simp only [List.mem_cons, List.mem_append, not_or] at hn
      refine ex_some.mpr ⟨fun hm => ?_, kk b o hn.2.2.1 e⟩
      unfold Own.all at hm
      simp only [List.mem_cons, List.mem_append] at hm
      rcases hm with h | h | h
      · exact hn.1 h
      · exact hn.2.1 h
      · exact hn.2.2.2 h
    refine ⟨⟨rfl, fun b o hb hq _ e => ?_, fun p hp => ?_⟩, X'.move rfl (fun mv F => ⟨F.ns.at fun o e => kk L o (fun hb => (hfo L hb).1 rfl) e, fun b o e => kk b o (fun hb => by rw [hB b hb] at e; cases e) (F.keep b o e), F.above⟩) hsub
      (fun q hq o e => kk _ o (fun hb => (hfo _ hb).2 (List.mem_map.mpr ⟨q, hq, rfl⟩)) e) (fun b hb => ?_), hsub⟩
    · have hbw : b ∉ wr := fun hb => by rw [wrNew b hb] at e; cases e
      exact kk b o hbw (ks.keep b o hb hq hbw (k2 _ _ (k1 _ _ e)))
    · rcases ks.fresh p hp with h | ⟨h1', h2' | h2'⟩
      · exact .inl h
      · exact .inr ⟨h1', .inr (wrNew _ h2')⟩
      · refine .inr ⟨h1', .inr ?_⟩
        cases hc : s.heap.get? p.2 with
        | none => rfl
        | some o => have := k2 _ _ (k1 _ _ hc); rw [h2'] at this; cases this
    · obtain ⟨o, e⟩ := X'.there b (by rw [ks.hid]; exact List.mem_append_right _ hb)
      obtain ⟨o', e'⟩ := X.there b hb
      exact ⟨o, kk b o (fun hw => by rw [wrNew b hw] at e'; cases e') e⟩
  refine codeAny_forLoop (fun n s' => ∃ i m' own' hh tk', s' = { s with heap := hh, toks := tk' } ∧ Inv i m' ∧ i ≤ items.length ∧ n = items.length + 1 - i ∧ Sx i hh ∧ StpX wr L ⟨own.acc, wr ++ own.hid⟩ own' h' hh ∧ St w B L own' m' hh ∧ ∀ b ∈ fp, b ∉ own'.acc.map Prod.snd) ?_ (items.length + 1)
    ⟨0, m, ⟨own.acc, wr ++ own.hid⟩, h', tk, rfl, h0, Nat.zero_le _, rfl, st, .refl, X0, fun b hb => (hfp b hb).2⟩
  rintro n s' ⟨i, m', own', hh, tk', rfl, hi', hle, rfl, st', ks, X', hof⟩
  have hfo : ∀ b ∈ fp, b ≠ L ∧ b ∉ own'.acc.map Prod.snd := fun b hb => ⟨(hfp b hb).1, hof b hb⟩
  have HX : ∀ h2 : Heap, (∀ b o, b ∉ wr → hh.get? b = some o → h2.get? b = some o) → (∀ b ∈ wr, ∃ o, h2.get? b = some o) → ∀ b ∈ own'.hid, ∃ o, h2.get? b = some o := fun h2 kk hw b hb => by
    by_cases hbw : b ∈ wr
    · exact hw b hbw
    · obtain ⟨o, e⟩ := X'.there b hb; exact ⟨o, kk b o hbw e⟩
  by_cases hlt : i < items.length
  · refine W.item i _ _ _ hlt st' fun v h2 t2 hPv st2 kk => ?_
    obtain ⟨p, hp, rv⟩ := hP i v hPv
    have HEX : ∀ b ∈ wr, ∃ o, h2.get? b = some o := fun b hb => hex _ _ st2 b (W.sub b hb)
    have hsub : Sub (gOf hh L own') (gOf h2 L own') := fun b o e => by
      obtain ⟨hn, e⟩ := ex_some.mp e
      refine ex_some.mpr ⟨hn, kk b o (fun hb => hn ?_) e⟩
      unfold Own.all
      simp only [List.mem_cons, List.mem_append]
      refine .inr (.inr ?_)
      rw [ks.hid]; exact List.mem_append_left _ hb
    have X2 : St w B L own' m' h2 := X'.move rfl (fun mv F => ⟨F.ns.at fun o e => kk L o (fun hb => (hfo L (W.sub _ hb)).1 rfl) e, fun b o e => kk b o (fun hb => by rw [hB b hb] at e; cases e) (F.keep b o e), F.above⟩) hsub
      (fun q hq o e => kk _ o (fun hb => (hfo _ (W.sub _ hb)).2 (List.mem_map.mpr ⟨q, hq, rfl⟩)) e) (HX h2 kk HEX)
    have rv0 : VR w (gOf h' L ⟨own.acc, wr ++ own.hid⟩) v p := rv.mono (hideSub k2 hwr)
    have rv2 : VR w (gOf h2 L own') v p := (rv0.mono (ks.sub hin)).mono hsub
    have ks2 : StpX wr L ⟨own.acc, wr ++ own.hid⟩ own' h' h2 := ks.trans ⟨rfl, fun b o _ _ hb e => kk b o hb e, fun p hp => .inl (List.mem_map.mpr ⟨p, hp, rfl⟩)⟩
    refine wpAny_assign_Name (store hE (s := { s with heap := h2, toks := t2 }) X2 (hit p (List.mem_of_getElem? hp)) rv2 hk hl fun h3 t3 k3 X3 => ?_)
    have st3 : Sx (i + 1) h3 := W.frame _ _ _ st2 fun b hb o e => k3.keep b o (hfo b hb).1 (hfo b hb).2 (by simp) e
    refine turn i m' p hi' hp env L A B own' { s with heap := h3, toks := t3 } _ _ hE G Rm X3 fun f pf m4 own4 h4 t4 hr k4 X4 hf => ?_
    have st4 : Sx (i + 1) h4 := W.frame _ _ _ st3 fun b hb o e => k4.keep b o (hfo b hb).1 (hfo b hb).2 (by simp) e
    have ks4 : StpX wr L ⟨own.acc, wr ++ own.hid⟩ own4 h' h4 := (ks2.trans (.more k3)).trans (.more k4)
    have hof4 : ∀ b ∈ fp, b ∉ own4.acc.map Prod.snd := fun b hb hm => by
      obtain ⟨p, hp, rfl⟩ := List.mem_map.mp hm
      rcases k4.fresh p hp with h | ⟨_, h | h⟩
      · exact hof _ hb h
      · cases h
      · obtain ⟨o, ho⟩ := hex _ _ st3 _ hb; rw [h] at ho; cases ho
    have go : Inv (i + 1) m4 → ∃ n', n' < items.length + 1 - i ∧ ∃ i m' own' hh tk', ({ s with heap := h4, toks := t4 } : Shared) = { s with heap := hh, toks := tk' } ∧ Inv i m' ∧ i ≤ items.length ∧ n' = items.length + 1 - i ∧ Sx i hh ∧ StpX wr L ⟨own.acc, wr ++ own.hid⟩ own' h' hh ∧ St w B L own' m' hh ∧ ∀ b ∈ fp, b ∉ own'.acc.map Prod.snd :=
      fun hv => ⟨items.length + 1 - (i + 1), by omega, i + 1, m4, own4, h4, t4, rfl, hv, hlt, rfl, st4, ks4, X4, hof4⟩
    obtain ⟨l1, l2, l3⟩ := leave own4 m4 h4 h4 ks4 X4 (fun b hb => ⟨(hfp b (W.sub b hb)).1, hof4 b (W.sub b hb)⟩) (fun _ _ _ e => e)
    cases f with
    | next => cases pf with
      | next => exact go hr
      | brk => exact hf.elim
      | cont => exact hf.elim
      | ret v => exact hf.elim
    | cont => cases pf with
      | cont => exact go hr
      | brk => exact hf.elim
      | next => exact hf.elim
      | ret v => exact hf.elim
    | brk => cases pf with
      | brk => exact q .next .next m4 _ h4 t4 hr l1 l2 trivial
      | next => exact hf.elim
      | cont => exact hf.elim
      | ret v => exact hf.elim
    | ret v => cases pf with
      | ret pv => exact q (.ret v) (.ret pv) m4 _ h4 t4 hr l1 l2 (Mine.VR.mono l3 hf)
      | next => exact hf.elim
      | cont => exact hf.elim
      | brk => exact hf.elim
  · have hin' : i = items.length := by omega
    subst hin'
    refine W.done _ _ _ st' fun h2 t2 kk => wpAny_execs_nil ?_
    obtain ⟨l1, l2, l3⟩ := leave own' m' hh h2 ks X' (fun b hb => hfo b (W.sub b hb)) kk
    exact q .next .next m' _ h2 t2 (fin m' hi') l1 l2 trivial
end
end
section
section
variable {w : World} {d : Nat} {sc : Scope} {m : Env'} {R : PF → Env' → Prop}

theorem St.freshNot {h : Heap} {L : Addr} {own : Own} {B : Heap} (X : St w B L own m h) {a : Addr} (ha : h.get? a = none) : a ≠ L ∧ a ∉ own.acc.map Prod.snd := by
  obtain ⟨⟨mv, F, _⟩, n1, _⟩ := X
  refine ⟨fun e => ?_, fun hm => ?_⟩
  · obtain ⟨o, _, _, ho, _⟩ := F.ns
    rw [← e, ha] at ho; cases ho
  · obtain ⟨p, hp, rfl⟩ := List.mem_map.mp hm
    obtain ⟨_, _, o, e⟩ := n1 p hp
    rw [ha] at e; cases e
theorem noneSize (h : Heap) : h.get? h.objs.size = none := Heap.get?_none_of_le (Nat.le_refl _)

theorem PI.str {iter : Expr} {x : List Nat} (h : PE w d sc iter m (.str x)) : PI w d sc iter m (x.map fun c => .str [c]) := by
  intro env L A B own s Q E hE G Rm X q
  refine h env L A B own s _ E hE G Rm X fun v h1 t1 k1 r1 => ?_
  have X1 := X.keep k1
  have fn := X1.bk.fresh (noneSize h1)
  cases r1 with
  | str _ t =>
    have hsz : (x.map fun c => PV.str [c]).length = (S x).cps.size := by simp [S_cps]
    have hP : ∀ (i : Nat) (v : Value), SignAt (S x) i v → ∃ p, (x.map fun c => PV.str [c])[i]? = some p ∧ VR w (gOf h1 L own) v p := by
      rintro i v ⟨c, u, hc, rfl⟩
      refine ⟨.str [c], ?_, .str [c] u⟩
      rw [S_cps] at hc
      have hc' : x[i]? = some c := by simpa using hc
      simp [hc']
    cases ha : (S x).cps.all (· < 128)
    · refine wpAny_pyIter_wide (s := { s with heap := h1, toks := t1 }) ha ?_
      refine q h1.objs.size [h1.objs.size] [h1.objs.size] (SignAt (S x)) (fun i h => h.IsStrIter h1.objs.size "str_iterator" (S x) t i) h1 _ t1 k1 (keep_push _ _) (by rw [hsz]; exact Walks.strWide Rm.hh _ _ _) ⟨_, Heap.get?_push_size _ rfl, rfl, rfl⟩ ?_ ?_ (fun i h hs => by obtain ⟨o, ho, hc, _⟩ := hs; exact ⟨o, _, ho, hc, by decide⟩) ?_ hP
      · intro b hb; rw [List.mem_singleton.mp hb]; exact fn
      · intro i h hs b hb; rw [List.mem_singleton.mp hb]; obtain ⟨o, ho, _⟩ := hs; exact ⟨o, ho⟩
      · intro b hb; rw [List.mem_singleton.mp hb]; exact noneSize h1
    · refine wpAny_pyIter_ascii (s := { s with heap := h1, toks := t1 }) ha ?_
      refine q h1.objs.size [h1.objs.size] [h1.objs.size] (SignAt (S x)) (fun i h => h.IsStrIter h1.objs.size "str_ascii_iterator" (S x) t i) h1 _ t1 k1 (keep_push _ _) (by rw [hsz]; exact Walks.strAscii Rm.hh _ _ _) ⟨_, Heap.get?_push_size _ rfl, rfl, rfl⟩ ?_ ?_ (fun i h hs => by obtain ⟨o, ho, hc, _⟩ := hs; exact ⟨o, _, ho, hc, by decide⟩) ?_ hP
      · intro b hb; rw [List.mem_singleton.mp hb]; exact fn
      · intro i h hs b hb; rw [List.mem_singleton.mp hb]; obtain ⟨o, ho, _⟩ := hs; exact ⟨o, ho⟩
      · intro b hb; rw [List.mem_singleton.mp hb]; exact noneSize h1

theorem rangeItems {a c : Int} {n : Nat} {g : Gt} : ∀ (i : Nat) (v : Value), i < n → (∃ t, v = Value.int (a + i * c) t) → ∃ p, ((List.range n).map fun i : Nat => PV.int (a + i * c))[i]? = some p ∧ VR w g v p := by
  rintro i v hi ⟨t, rfl⟩
  exact ⟨.int (a + i * c), by simp [hi], .int _ t⟩

theorem PI.range1 {e : Expr} {np pos : Pos} {n : Nat} (h : PE w d sc e m (.int n)) (hn : n < 2 ^ 60) (hk : sc.kind = .function) (hl : sc.names.lookup (Str.ofString "range") = some .globalImplicit)
    (hs : ∀ env, starEach [e] env = (false, eval e env) :: starEach [] env := by intro _; exact star_cons rfl) :
    PI w d sc (.Call (.Name (Str.ofString "range") np) [e] [] pos) m ((List.range n).map fun i : Nat => .int i) := by
  intro env L A B own s Q E hE G Rm X q
  refine wpAny_Call_NameR (nameB (w := w) (m := m) (v := .type "range") rfl (by decide) nsRange hE G X hk hl (by decide) ?_)
  refine PyProof.Rows.callWith_type1 ?_ (hs _) rfl
  refine PEs.cons h PEs.nil hs env L A B own s pos _ E hE G Rm X fun vs h1 t1 k1 r1 => ?_
  cases r1 with
  | cons ra rs => cases rs; cases ra with
    | int _ t =>
      refine call_range_1 ?_
      refine wpAny_pyIter_range (IsRange.new ..) (small_one (by decide) (by decide) (by omega) (by omega)) ?_
      have hsz : Builtin.Range.rangeSize 0 (n : Int) 1 = (n : Int) := by rw [rangeSize_one]; split <;> omega
      rw [hsz]
      have kk : Keep h1 (h1.push { cls := .type "range", data := .fields #[.int 0 t1, .int n t, .int 1 (t1 + 1)] }) := keep_push _ _
      generalize hh2 : h1.push { cls := .type "range", data := .fields #[.int 0 t1, .int n t, .int 1 (t1 + 1)] } = h2 at kk ⊢
      have X2 := (X.keep k1).keep kk
      have fn := X2.bk.fresh (noneSize h2)
      have el : ((List.range n).map fun i : Nat => PV.int i).length = n := by simp
      refine q h2.objs.size [h2.objs.size] [h2.objs.size] (fun i v => i < n ∧ ∃ t, v = .int (0 + i * 1) t) (fun i h => IsRangeIter h h2.objs.size (0 + (i : Nat) * 1) ((n : Int) - (i : Nat)) 1) h2 _ _ (k1.trans kk) (keep_push _ _) ?_ ?_ ?_ ?_ (fun i h hs => ⟨_, _, hs, rfl, by decide⟩) ?_ ?_
      · rw [el]
        have W := Walks.range (prog := P) (w := w) (A := A) Rm.hh h2.objs.size 0 1 n
        exact ⟨W.sub, W.frame, fun i s Q E hi st hQ => W.item i s Q E hi st fun v h' tk hv => hQ v h' tk ⟨hi, hv⟩, W.done, W.self⟩
      · have e1 : (0 + ((0 : Nat) : Int) * 1) = 0 := by simp
        have e2 : ((n : Int) - ((0 : Nat) : Int)) = n := by simp
        dsimp only
        rw [e1, e2]; exact Heap.get?_push_size _ rfl
      · intro b hb; rw [List.mem_singleton.mp hb]; exact fn
      · intro i h hs b hb; rw [List.mem_singleton.mp hb]; exact ⟨_, hs⟩
      · intro b hb; rw [List.mem_singleton.mp hb]; exact noneSize h2
      · rintro i v ⟨hi, t, rfl⟩
        refine ⟨.int i, by simp [hi], ?_⟩
        have : (0 + (i : Int) * 1) = i := by omega
        rw [this]; exact .int _ t

theorem vrs_strs {g : Gt} : ∀ (l : List (Str × Tok)), VRs w g (strValues l) (l.map fun p => .str p.1.cps.toList)
  | [] => .nil
  | p :: r => .cons (by
      have := VR.str (w := w) (g := g) p.1.cps.toList p.2
      rwa [S_toList] at this) (vrs_strs r)
theorem strs_of_vrs {g : Gt} : ∀ {vs : List Value} {l : List (List Nat)}, VRs w g vs (l.map .str) → ∃ q : List (Str × Tok), vs = strValues q ∧ q.map (·.1) = l.map S
  | _, [], h => by cases h; exact ⟨[], rfl, rfl⟩
  | _, x :: l, h => by
    cases h with
    | cons a r =>
      obtain ⟨q, rfl, e⟩ := strs_of_vrs r
      cases a with
      | str _ t => exact ⟨(S x, t) :: q, rfl, by simp [e]⟩

def joinL (sep : List Nat) : List (List Nat) → List Nat
  | [] => []
  | [x] => x
  | x :: r => x ++ sep ++ joinL sep r
theorem join_S (sep : List Nat) : ∀ l : List (List Nat), Str.join (S sep) (l.map S) = S (joinL sep l)
  | [] => rfl
  | [x] => rfl
  | x :: y :: r => by
    have ih := join_S sep (y :: r)
    show S x ++ S sep ++ Str.join (S sep) ((y :: r).map S) = _
    rw [ih, S_app, S_app]; rfl
def splitL (c : Nat) (x : List Nat) : List (List Nat) := (Txt.split (S x) (S [c])).map fun p => p.cps.toList
theorem splitL_join (c : Nat) (x : List Nat) : joinL [c] (splitL c x) = x := by
  have h := StrLaws.join_split (S x) (S [c])
  have e : (splitL c x).map S = Txt.split (S x) (S [c]) := by
    unfold splitL
    rw [List.map_map]
    conv => rhs; rw [← List.map_id (Txt.split (S x) (S [c]))]
    exact List.map_congr_left fun p _ => S_toList p
  rw [← e, join_S] at h
  exact S_inj.mp h
theorem splitL_free (c : Nat) (x : List Nat) : ∀ p ∈ splitL c x, c ∉ p := by
  intro p hp
  obtain ⟨q, hq, rfl⟩ := List.mem_map.mp hp
  exact StrLaws.split_free (S x) c q hq

theorem PE.split {o e : Expr} {apos pos : Pos} {x : List Nat} {c : Nat} (ho : PE w d sc o m (.str x)) (he : PE w d sc e m (.str [c])) (hx : x.length ≤ 100000)
    (hbase : ∀ env, attributeBase o (Str.ofString "split") env (eval o env) = eval o env := by intro _; rfl) (hline : (apos.endLine == pos.line) = true := by rfl)
    (htrees : ∀ (p : Pos) env, backTo p (starEach [e] env) = [(false, eval e env)] := by intro _ _; rfl) :
    PE w d sc (.Call (.Attribute o (Str.ofString "split") apos) [e] [] pos) m (.list ((splitL c x).map .str)) := by
  refine PE.methS ho he PySem.F.slot_str_split PySem.F.type_str_split (fun L own A B s t vb Q E G k R rb q => ?_) hbase hline htrees
  cases rb with
  | str _ u =>
    have fin : ∀ (l : List (Str × Tok)) (tk : Nat), l.map (·.1) = Txt.split (S x) (S [c]) → Q (.ref s.heap.objs.size) { s with heap := s.heap.push { cls := .type "list", data := .seq (strValues l).toArray }, toks := tk } := fun l tk hl => by
      refine q _ _ tk (keep_push _ _) (.list (a := s.heap.objs.size) (vs := (strValues l).toArray) (n := 0) (ex_some.mpr ⟨k.fresh (noneSize _), Heap.get?_push_size _ rfl⟩) ?_)
      have e : (splitL c x).map PV.str = l.map fun p => PV.str p.1.cps.toList := by
        unfold splitL
        rw [← hl, List.map_map, List.map_map]; rfl
      rw [e]; exact vrs_strs l
    have hy : ((S [c]).length == 0) = false := rfl
    have hn : (Builtin.Str.partsBetween (S x) (Builtin.Str.occurrences (S x) (S [c]) 0 (S x).length ((S x).length + 1)) (S [c]).length).length ≤ sizeLine := by
      have e1 := StrLaws.occ_length_le (S x) (S [c]) 0 (S x).length ((S x).length + 1)
      rw [length_partsBetween, sizeLine_eq]; rw [S_len] at e1 ⊢; omega
    cases h1 : (decide ((S x).length < (S [c]).length) || decide (Builtin.Str.strKind (S x) < Builtin.Str.strKind (S [c])))
    · cases hf : (Builtin.Str.occurrences (S x) (S [c]) 0 (S x).length ((S x).length + 1)).isEmpty
      · refine call_meets PySem.F.slot_str_split (typeIs_str _ _ _) PySem.F.entry_str_split (PySem.F.args_str_split_2 _ _) (meets_str_split_sep (S x) (S [c]) t u h1 hy hf (by rw [S_len, sizeLine_eq]; omega) hn) ?_
        show wants Q E _ { s with toks := _, heap := s.heap.push { cls := .type "list", data := .seq (strsFrom s.toks (Builtin.Str.partsBetween (S x) (Builtin.Str.occurrences (S x) (S [c]) 0 (S x).length ((S x).length + 1)) (S [c]).length)).toArray } }
        rw [strsFrom_eq]
        exact fin (numbered s.toks _) _ ((numbered_texts _ _).trans ((if_neg (ne_true_of_eq_false h1)).trans (if_neg (ne_true_of_eq_false hf))).symm)
      · exact call_meets PySem.F.slot_str_split (typeIs_str _ _ _) PySem.F.entry_str_split (PySem.F.args_str_split_2 _ _) (meets_str_split_not_found (S x) (S [c]) t u h1 hy hf)
          (fin [(S x, t)] s.toks ((if_neg (ne_true_of_eq_false h1)).trans (if_pos hf)).symm)
    · exact call_meets PySem.F.slot_str_split (typeIs_str _ _ _) PySem.F.entry_str_split (PySem.F.args_str_split_2 _ _) (meets_str_split_cannot_occur (S x) (S [c]) t u h1)
        (fin [(S x, t)] s.toks (if_pos h1).symm)

def idxOf (c : Nat) : List Nat → Int
  | [] => -1
  | a :: r => if a = c then 0 else let k := idxOf c r; if k < 0 then -1 else k + 1
theorem idxOf_spec (c : Nat) : ∀ l : List Nat, (idxOf c l = -1 ∧ c ∉ l) ∨ ∃ i : Nat, idxOf c l = i ∧ l[i]? = some c ∧ ∀ k, k < i → l[k]? ≠ some c
  | [] => .inl ⟨rfl, by simp⟩
  | a :: r => by
    unfold idxOf
    by_cases h : a = c
    · rw [if_pos h]; exact .inr ⟨0, rfl, by simp [h], fun k hk => by omega⟩
    · rw [if_neg h]
      rcases idxOf_spec c r with ⟨e, hn⟩ | ⟨i, e, hi, hk⟩
      · refine .inl ⟨by simp [e], ?_⟩
        simp only [List.mem_cons, not_or]; exact ⟨fun q => h q.symm, hn⟩
      · refine .inr ⟨i + 1, by rw [e]; simp only [show ¬ ((i : Int) < 0) by omega, if_false]; omega, by simpa using hi, fun k hk' => ?_⟩
        cases k with
        | zero => simp [h]
        | succ k => simpa using hk k (by omega)
theorem find_idx (c : Nat) (l : List Nat) : Txt.find (S l) (S [c]) = idxOf c l := by
  have at_iff : ∀ i, StrLaws.At (S l) (S [c]) (S l).length i ↔ l[i]? = some c := fun i => StrLaws.subAt_one (S l) c i
  rcases find_whole (S l) (S [c]) with ⟨e, hn⟩ | ⟨i, e, hi, hk⟩
  · rcases idxOf_spec c l with ⟨e2, _⟩ | ⟨j, _, hj, _⟩
    · rw [e, e2]
    · exact absurd ((at_iff j).mpr hj) (hn j)
  · rcases idxOf_spec c l with ⟨e2, hc⟩ | ⟨j, e2, hj, hkj⟩
    · exact absurd (List.mem_of_getElem? ((at_iff i).mp hi)) hc
    · rw [e, e2]
      have h1 : ¬ j < i := fun hlt => hk j hlt ((at_iff j).mpr hj)
      have h2 : ¬ i < j := fun hlt => hkj i hlt ((at_iff i).mp hi)
      omega
theorem PE.find {o e : Expr} {apos pos : Pos} {x : List Nat} {c : Nat} (ho : PE w d sc o m (.str x)) (he : PE w d sc e m (.str [c]))
    (hbase : ∀ env, attributeBase o (Str.ofString "find") env (eval o env) = eval o env := by intro _; rfl) (hline : (apos.endLine == pos.line) = true := by rfl)
    (htrees : ∀ (p : Pos) env, backTo p (starEach [e] env) = [(false, eval e env)] := by intro _ _; rfl) :
    PE w d sc (.Call (.Attribute o (Str.ofString "find") apos) [e] [] pos) m (.int (idxOf c x)) := by
  refine PE.methS ho he PySem.F.slot_str_find PySem.F.type_str_find (fun L own A B s t vb Q E G k R rb q => ?_) hbase hline htrees
  cases rb with
  | str _ u =>
    refine call_gives PySem.F.slot_str_find (typeIs_str _ _ _) PySem.F.entry_str_find (PySem.F.args_str_find_2 _ _) (gives_str_find (S x) (S [c]) t u) ?_
    show Q (.int (Txt.find (S x) (S [c])) s.toks) { s with toks := s.toks + 1 }
    rw [find_idx]
    exact q _ s.heap _ (Keep.refl _) (.int _ _)

theorem joinOk {sep : List Nat} {l : List (List Nat)} (h : (l.map List.length).sum + l.length * sep.length ≤ 1000000) : JoinOk (S sep) (l.map S) = true := by
  unfold JoinOk
  rw [StrLaws.joinTotal]
  have e1 : ((l.map S).map fun p : Str => p.length) = l.map List.length := by
    rw [List.map_map]; exact List.map_congr_left fun p _ => S_len p
  rw [Bool.not_eq_true']
  unfold Builtin.Str.tooLong
  refine decide_eq_false ?_
  have e2 : ((l.map S).map (·.length)).sum = (l.map List.length).sum := congrArg List.sum e1
  rw [e2, List.length_map, S_len, sizeLine_eq]
  omega

theorem PE.joinM {o e : Expr} {apos pos : Pos} {sep : List Nat} {l : List (List Nat)} (ho : PE w d sc o m (.str sep)) (he : PE w d sc e m (.list (l.map .str))) (hl : (l.map List.length).sum + l.length * sep.length ≤ 1000000)
    (hbase : ∀ env, attributeBase o (Str.ofString "join") env (eval o env) = eval o env := by intro _; rfl) (hline : (apos.endLine == pos.line) = true := by rfl)
    (htrees : ∀ (p : Pos) env, backTo p (starEach [e] env) = [(false, eval e env)] := by intro _ _; rfl) :
    PE w d sc (.Call (.Attribute o (Str.ofString "join") apos) [e] [] pos) m (.str (joinL sep l)) := by
  refine PE.methS ho he PySem.F.slot_str_join PySem.F.type_str_join (fun L own A B s t vb Q E G k R rb q => ?_) hbase hline htrees
  cases rb with
  | @list a vs n _ e rs =>
    have e' := gOf_sub _ _ e
    obtain ⟨ql, hq1, hq2⟩ := strs_of_vrs rs
    have hvs : vs = (strValues ql).toArray := by rw [← hq1]
    refine SC.join (l := ql) (hvs ▸ listGet e') hq2 (joinOk hl) fun t' k' => ?_
    have ej : Txt.join (S sep) (l.map S) = S (joinL sep l) := by
      show Builtin.Str.glued (S sep) (l.map S) = _
      rw [StrLaws.glued_eq_join, join_S]
    rw [ej]
    exact q _ s.heap k' (Keep.refl _) (.str _ _)
end
end
section
section
variable {w : World} {d : Nat} {sc : Scope} {m : Env'} {R : PF → Env' → Prop}

def PFn (w : World) (d : Nat) (name : Str) (args : List PV) (r : PV) : Prop :=
  ∀ (A : Around) (s : Shared) (vs : List Value) (a : Addr) (Z : List Addr) (Q E : Value → Shared → Prop), Gd w s.heap → Room A d → (∃ mg, s.heap.Ns mainGlobals mg ∧ mg name = some (.ref a)) →
    (∀ b ∈ Z, ∃ o, s.heap.get? b = some o) → VRs w (ex s.heap Z) vs args →
    (∀ v h' tk, Keep s.heap h' → VR w (ex h' Z) v r → Q v { s with heap := h', toks := tk }) → wpAny (model P w) A (call (.ref a) vs) Q E s

theorem nsUnique {h : Heap} {a : Addr} {m1 m2 : Str → Option Value} (x : h.Ns a m1) (y : h.Ns a m2) : m1 = m2 := by
  obtain ⟨o, es, ep, h1, h2, _, h3⟩ := x
  obtain ⟨o', es', ep', h1', h2', _, h3'⟩ := y
  funext y
  rw [h1] at h1'; cases h1'
  rw [h2] at h2'; cases h2'
  rw [← h3 y, ← h3' y]

theorem PFn.of {d : Nat} {name : Str} {args : List PV} {r : PV} {rc : DefRec} {names : List Str} (hd : (recsOf VW).find? (fun e => e.name == name) = some rc)
    (hb : ∀ (pm cd doc : Value) (vs : List Value), vs.length = args.length → bindArgs (Calls.docDef rc.name rc.params rc.body rc.scope pm cd doc) ⟨vs, []⟩ = pure (names.zip vs))
    (hn : names.length = args.length) (hl : ∀ x ∈ names, rc.scope.names.lookup x = some .local) (hp : ∀ p ∈ args, p.isAcc = false)
    (hbody : PX w d rc.scope rc.body ((names.zip args).reverse) (fun f _ => f = .ret r))
    (hco : rc.scope.isCoroutine = false) (hgen : rc.scope.isGenerator = false) (hk : rc.scope.kind = .function) (hcell : ∀ x ∈ rc.scope.names, x.2 ≠ .cell) : PFn w (d + 1) name args r := by
  intro A s vs a Z Q E G Rm hg hZ hv q
  obtain ⟨mean, mg, mb, T⟩ := G.top
  have hmem := List.mem_of_find?_eq_some hd
  have hnm : rc.name = name := beq_iff_eq.mp (List.find?_some (p := fun e : DefRec => e.name == name) hd)
  obtain ⟨a', o, pm, code, doc, f1, f2, f3, f4⟩ := T.fn rc hmem
  obtain ⟨mg', G', hg'⟩ := hg
  have e1 : mg' = mg := nsUnique G' T.g
  subst e1
  rw [hnm, hg'] at f1
  cases f1
  have hlen : vs.length = args.length := hv.length
  refine wpAny_call (PyProof.Rows.call_plain (by have := Rm.dep; omega) f2 f3 T.nolimit f4 (hb pm code doc vs hlen) (fun x hx => hl x.1 (List.of_mem_zip hx).1) (fun h₁ F => ?_) hco hgen hk hcell)
  have X : St w s.heap s.heap.objs.size ⟨[], Z⟩ ((names.zip args).reverse) h₁ := by
    refine ⟨⟨_, F, fun x pv e => ?_⟩, (fun p hp => nomatch hp), List.nodup_nil, fun b hb => let ⟨o, e⟩ := hZ b hb; ⟨o, F.keep _ _ e⟩⟩
    have sub : Sub (ex s.heap Z) (gOf h₁ s.heap.objs.size ⟨[], Z⟩) := fun b o e => by
      obtain ⟨hn, e⟩ := ex_some.mp e
      refine ex_some.mpr ⟨fun hm => ?_, F.keep _ _ e⟩
      unfold Own.all at hm
      rcases List.mem_cons.mp hm with rfl | hm
      · rw [noneSize] at e; cases e
      · exact hn (by simpa using hm)
    have hv' := hv.mono sub
    have pacc : pv.isAcc = false → ∀ v, VR w (gOf h₁ s.heap.objs.size ⟨[], Z⟩) v pv → ER w h₁ s.heap.objs.size ⟨[], Z⟩ x v pv := fun h v r => .of_VR h r
    have main : ∀ (ns : List Str) (vs : List Value) (ps : List PV), VRs w (gOf h₁ s.heap.objs.size ⟨[], Z⟩) vs ps → (∀ p ∈ ps, p.isAcc = false) → ∀ (acc : List (Str × PV)) (accv : List (Str × Value)),
        (∀ x pv, acc.lookup x = some pv → ∃ v, accv.lookup x = some v ∧ ER w h₁ s.heap.objs.size ⟨[], Z⟩ x v pv) → ∀ x pv, ((ns.zip ps).reverse ++ acc).lookup x = some pv → ∃ v, ((ns.zip vs).reverse ++ accv).lookup x = some v ∧ ER w h₁ s.heap.objs.size ⟨[], Z⟩ x v pv := by
      intro ns
      induction ns with
      | nil => intro vs ps _ _ acc accv ha; simpa using ha
      | cons n ns ih =>
        intro vs ps hvp hps acc accv ha
        cases hvp with
        | nil => simpa using ha
        | @cons v vs p ps hv1 hvr =>
          have := ih vs ps hvr (fun q hq => hps q (List.mem_cons_of_mem _ hq)) ((n, p) :: acc) ((n, v) :: accv) (fun x pv e => by
            rw [List.lookup_cons] at e ⊢
            by_cases hx : x = n
            · subst hx; rw [beq_self_eq_true] at e ⊢; cases e; exact ⟨v, rfl, .of_VR (hps _ (List.mem_cons_self ..)) hv1⟩
            · have hb : (x == n) = false := beq_eq_false_iff_ne.mpr hx
              rw [hb] at e ⊢; exact ha x pv e)
          simpa using this
    have := main names vs args hv' hp [] [] (fun x pv e => by cases e) x pv (by simpa using e)
    simpa using this
  have EO : EnvOk (envOf rc.name rc.scope s.heap.objs.size a code) rc.scope s.heap.objs.size := EnvOk.of ..
  refine hbody (envOf rc.name rc.scope s.heap.objs.size a code) s.heap.objs.size _ s.heap ⟨[], Z⟩ _ _ _ EO G Rm.deeper X fun f pf m' own' h' tk hr ks X' hf => ?_
  subst hr
  cases f with
  | ret v =>
    have hf' : VR w (gOf h' s.heap.objs.size own') v r := hf
    refine q v h' tk X'.base (hf'.mono fun b o e => ?_)
    obtain ⟨hn, e⟩ := ex_some.mp e
    refine ex_some.mpr ⟨fun hm => hn ?_, e⟩
    unfold Own.all
    have hh : own'.hid = Z := ks.hid
    rw [hh]
    exact List.mem_cons_of_mem _ (List.mem_append_right _ hm)
  | next => exact hf.elim
  | brk => exact hf.elim
  | cont => exact hf.elim

theorem find_isSome_fn {name : Str} (h : ((recsOf VW).find? (fun e => e.name == name)).isSome = true) {mean : ExcName → Option Value} {mg mb : Str → Option Value} {B : Heap} {loose : List Str} (T : Top VW loose mean mg mb B) : ∃ (a : Addr) (o : Obj) (fd : FuncData), mg name = some (.ref a) ∧ B.get? a = some o ∧ o.data = .func fd := by
  obtain ⟨rc, hrc⟩ := Option.isSome_iff_exists.mp h
  obtain ⟨a, o, pm, code, doc, f1, f2, f3, f4⟩ := T.fn rc (List.mem_of_find?_eq_some hrc)
  have hnm : rc.name = name := beq_iff_eq.mp (List.find?_some (p := fun e : DefRec => e.name == name) hrc)
  exact ⟨a, o, _, hnm ▸ f1, f2, f3⟩

theorem PE.callF {x : Str} {es : List Expr} {e : Expr} {np pos : Pos} {ps : List PV} {c : PV} (hF : PFn w d x ps c) (hdef : ((recsOf VW).find? (fun e => e.name == x)).isSome = true)
    (hk : sc.kind = .function) (hl : sc.names.lookup x = some .globalImplicit) (hd : (x == ("__debug__" : Str)) = false) (he : PEs w d sc (e :: es) m ps)
    (hs : ∀ env, starEach (e :: es) env = (false, eval e env) :: starEach es env := by intro _; exact star_cons rfl) :
    PE w d sc (.Call (.Name x np) (e :: es) [] pos) m c := by
  intro env L A B own s Q E hE G Rm X q
  obtain ⟨mv, F, hm⟩ := X.fr
  obtain ⟨mean, mg, mb, T⟩ := G.top
  obtain ⟨a, o, fd, g1, g2, g3⟩ := find_isSome_fn hdef T
  refine wpAny_Call_NameR (Calls.Name_function_global (by rw [hE.sc]; exact hk) (by unfold Env.kindOf; rw [hE.sc]; exact hl) (Calls.loadGlobal_global (by rw [hE.glob]; exact T.g.keeps F.keep) g1 ?_) hd)
  refine callWith_def g3 ?_ (hs _)
  refine he env L A B own s pos _ E hE G Rm X fun vs h1 t1 k1 r1 => ?_
  have kB := X.base.trans k1
  refine ⟨kB _ _ g2, ?_⟩
  exact hF A _ vs a (own.all L) Q E (G.keep kB) Rm ⟨mg, T.g.keeps kB, g1⟩ (X.keep k1).bk.new r1 fun v h2 t2 k2 r2 => q v h2 t2 (k1.trans k2) r2
theorem PE.callF0 {x : Str} {np pos : Pos} {c : PV} (hF : PFn w d x [] c) (hdef : ((recsOf VW).find? (fun e => e.name == x)).isSome = true)
    (hk : sc.kind = .function) (hl : sc.names.lookup x = some .globalImplicit) (hd : (x == ("__debug__" : Str)) = false) :
    PE w d sc (.Call (.Name x np) [] [] pos) m c := by
  intro env L A B own s Q E hE G Rm X q
  obtain ⟨mv, F, hm⟩ := X.fr
  obtain ⟨mean, mg, mb, T⟩ := G.top
  obtain ⟨a, o, fd, g1, g2, g3⟩ := find_isSome_fn hdef T
  refine wpAny_Call_NameR (Calls.Name_function_global (by rw [hE.sc]; exact hk) (by unfold Env.kindOf; rw [hE.sc]; exact hl) (Calls.loadGlobal_global (by rw [hE.glob]; exact T.g.keeps F.keep) g1 ?_) hd)
  show wpAny _ _ (callWith pos (.ref a) [] [] []) _ _ _
  refine Calls.callWith_function (o := o) (fd := fd) (PyProof.Rows.evalArgs_none ⟨⟨F.keep _ _ g2, g3⟩, ?_⟩)
  exact hF A _ [] a (own.all L) Q E (G.keep F.keep) Rm ⟨mg, T.g.keeps F.keep, g1⟩ X.bk.new .nil fun v h2 t2 k2 r2 => q v h2 t2 k2 r2
end
end
section
section
variable {w : World} {d : Nat} {sc : Scope} {m : Env'} {R : PF → Env' → Prop}

theorem PE.listE {es : List Expr} {ps : List PV} {pos : Pos} (h : PEs w d sc es m ps) (hn : ps.length ≤ 100000) : PE w d sc (.List es pos) m (.list ps) := by
  intro env L A B own s Q E hE G Rm X q
  refine List_ (h env L A B own s pos _ E hE G Rm X fun vs h1 t1 k1 r1 => ?_)
  refine wpAny_newObj_type ?_ (by show vs.toArray.size ≤ sizeLine; rw [List.size_toArray, r1.length, sizeLine_eq]; omega)
  refine q _ _ t1 (k1.trans (keep_push _ _)) (.list (vs := vs.toArray) (n := 0) (ex_some.mpr ⟨(X.keep k1).bk.fresh (noneSize _), Heap.get?_push_size _ rfl⟩) ?_)
  exact r1.mono (gOf_keep (keep_push _ _))
theorem PE.tupE {es : List Expr} {ps : List PV} {k : Nat} {pos : Pos} (h : PEs w d sc es m ps) (hn : ps.length ≤ 100000) : PE w d sc (.Tuple es k pos) m (.tup ps) := by
  intro env L A B own s Q E hE G Rm X q
  refine Tuple_ (h env L A B own s pos _ E hE G Rm X fun vs h1 t1 k1 r1 => ?_)
  refine wpAny_newObj_type ?_ (by show vs.toArray.size ≤ sizeLine; rw [List.size_toArray, r1.length, sizeLine_eq]; omega)
  refine q _ _ t1 (k1.trans (keep_push _ _)) (.tup (vs := vs.toArray) (n := 0) (ex_some.mpr ⟨(X.keep k1).bk.fresh (noneSize _), Heap.get?_push_size _ rfl⟩) ?_)
  exact r1.mono (gOf_keep (keep_push _ _))

theorem look_inj : ∀ {l : List (Str × Addr)} {x y : Str} {a : Addr}, (l.map Prod.snd).Nodup → l.lookup x = some a → l.lookup y = some a → x = y
  | [], _, _, _, _, h, _ => by cases h
  | (n, b) :: r, x, y, a, hn, hx, hy => by
    rw [List.map_cons, List.nodup_cons] at hn
    rw [List.lookup_cons] at hx hy
    have inr : ∀ {z : Str}, r.lookup z = some a → a ∈ r.map Prod.snd := fun h => List.mem_map.mpr ⟨_, mem_of_lookup h, rfl⟩
    by_cases h1 : x = n
    · subst h1
      rw [beq_self_eq_true] at hx; cases hx
      by_cases h2 : y = x
      · exact h2.symm
      · rw [beq_eq_false_iff_ne.mpr h2] at hy; exact absurd (inr hy) hn.1
    · rw [beq_eq_false_iff_ne.mpr h1] at hx
      by_cases h2 : y = n
      · subst h2; rw [beq_self_eq_true] at hy; cases hy; exact absurd (inr hx) hn.1
      · rw [beq_eq_false_iff_ne.mpr h2] at hy; exact look_inj hn.2 hx hy

theorem PX1.newAcc {x : Str} {xp lp pos : Pos} (hk : sc.kind = .function) (hl : sc.names.lookup x = some .local) (hr : R .next ((x, .acc []) :: m))
    (hs : ∀ env, swapsWith (.List [] lp) (some (.Name x xp)) pos.line env = pure false := by intro _; rfl) : PX1 w d sc (.Assign [.Name x xp] (.List [] lp) pos) m R := by
  intro env L A B own s Q E hE G Rm X q
  refine wpAny_Assign_Name (List_ (args_nil ?_)) (hs _)
  refine wpAny_newObj_type ?_ (by show ([] : List Value).toArray.size ≤ sizeLine; simp)
  have X1 := X.keep (keep_push s.heap { cls := .type "list", data := .seq ([] : List Value).toArray })
  have fr := X.freshNot (noneSize s.heap)
  have hget : (s.heap.push { cls := .type "list", data := .seq ([] : List Value).toArray }).get? s.heap.objs.size = some { cls := .type "list", data := .seq ([] : List Value).toArray } := Heap.get?_push_size _ rfl
  generalize hh : s.heap.push { cls := .type "list", data := .seq ([] : List Value).toArray } = h1 at X1 hget ⊢
  have k1 : Keep s.heap h1 := by rw [← hh]; exact keep_push _ _
  obtain ⟨⟨mv, F, hm⟩, n1, n2, n3⟩ := X1
  refine wpAny_storeName_local (m := mv) (by unfold Env.kindOf; rw [hE.sc]; exact hl) (by rw [hE.loc]; exact F.ns) (fun h' hn hsb => ?_) (by rw [hE.sc, hk]; rfl)
  rw [hE.loc] at hn hsb
  have hsub : Sub (gOf s.heap L own) (gOf h' L ⟨(x, s.heap.objs.size) :: own.acc, own.hid⟩) := fun b o e => by
    obtain ⟨hb, e⟩ := ex_some.mp e
    unfold Own.all at hb
    simp only [List.mem_cons, List.mem_append, not_or] at hb
    refine ex_some.mpr ⟨fun hm => ?_, (hsb.2 b hb.1).trans (k1 _ _ e)⟩
    unfold Own.all at hm
    simp only [List.mem_cons, List.mem_append, List.map_cons] at hm
    rcases hm with h | (h | h) | h
    · exact hb.1 h
    · rw [h, noneSize] at e; cases e
    · exact hb.2.1 h
    · exact hb.2.2 h
  refine q .next .next _ ⟨(x, s.heap.objs.size) :: own.acc, own.hid⟩ h' _ hr ⟨rfl, fun b o hb _ _ e => (hsb.2 b hb).trans (k1 _ _ e), fun p hp => ?_⟩ ⟨⟨_, F.set hn hsb, fun y p e => ?_⟩, fun p hp => ?_, ?_, fun b hb => ?_⟩ trivial
  · rcases List.mem_cons.mp hp with rfl | hp
    · exact .inr ⟨fr.1, .inr (noneSize _)⟩
    · exact .inl (List.mem_map.mpr ⟨p, hp, rfl⟩)
  · rw [List.lookup_cons] at e
    by_cases hy : y = x
    · subst hy
      rw [beq_self_eq_true] at e
      cases e
      exact ⟨_, if_pos rfl, s.heap.objs.size, by show List.lookup y ((y, _) :: _) = _; rw [List.lookup_cons, beq_self_eq_true], rfl, _, _, (hsb.2 _ fr.1).trans hget, .nil⟩
    · have hb : (y == x) = false := beq_eq_false_iff_ne.mpr hy
      rw [hb] at e
      obtain ⟨⟨mv0, F0, hm0⟩, _, _⟩ := X
      obtain ⟨v', e1, e2⟩ := hm0 y p e
      have emv : mv0 = mv := nsUnique (F0.ns.keeps k1) F.ns
      subst emv
      refine ⟨v', (if_neg hy).trans e1, ?_⟩
      cases p with
      | acc l =>
        obtain ⟨a, g1, g2, vs, n, g3, g4⟩ := e2
        have hne : a ≠ L := by
          have := n1 _ (mem_of_lookup g1); exact this.2.1
        exact ⟨a, by show List.lookup y ((x, _) :: _) = _; rw [List.lookup_cons, hb]; exact g1, g2, vs, n, (hsb.2 a hne).trans (k1 _ _ g3), g4.mono hsub⟩
      | _ => exact Mine.VR.mono hsub e2
  · rcases List.mem_cons.mp hp with rfl | hp
    · refine ⟨?_, fr.1, _, (hsb.2 _ fr.1).trans hget⟩
      cases hc : B.get? s.heap.objs.size with
      | none => rfl
      | some o => have := X.base _ _ hc; rw [noneSize] at this; cases this
    · obtain ⟨a1, a2, o, e⟩ := n1 p hp
      exact ⟨a1, a2, o, (hsb.2 _ a2).trans e⟩
  · rw [List.map_cons, List.nodup_cons]
    exact ⟨fr.2, n2⟩
  · by_cases hbL : b = L
    · obtain ⟨o, _, _, ho, _⟩ := hn; exact ⟨o, hbL ▸ ho⟩
    · obtain ⟨o, e⟩ := n3 b hb; exact ⟨o, (hsb.2 b hbL).trans e⟩

theorem PX1.append {x : Str} {xp apos cpos pos : Pos} {e : Expr} {l : List PV} {pv : PV} (hx : m.lookup x = some (.acc l)) (h : PE w d sc e m pv) (hp : pv.isAcc = false) (hn : l.length ≤ 100000) (hk : sc.kind = .function) (hl : sc.names.lookup x = some .local)
    (hr : R .next ((x, .acc (l ++ [pv])) :: m)) (hd : (x == ("__debug__" : Str)) = false := by decide)
    (hbase : ∀ env, attributeBase (.Name x xp) "append" env (eval (.Name x xp) env) = eval (.Name x xp) env := by intro _; rfl)
    (hfew : ∀ env, ((backTo cpos (starEach [e] env)).all (fun x => !x.1) && (backToKw cpos (keywordEach [] env)).all (fun x => x.1.isSome)
      && decide (([e] : List Expr).length + ([] : List Keyword).length + (if ([] : List Keyword).isEmpty then 0 else 1) < 30)) = true := by intro _; rfl)
    (hline : (apos.endLine == cpos.line) = true := by rfl)
    (htrees : ∀ env, backTo cpos (starEach [e] env) = [(false, eval e env)] := by intro _; rfl)
    (hsw : ∀ env, swapsWith (.Call (.Attribute (.Name x xp) "append" apos) [e] [] cpos) none pos.line env = pure false := by intro _; rfl) :
    PX1 w d sc (.Expr (.Call (.Attribute (.Name x xp) (Str.ofString "append") apos) [e] [] cpos) pos) m R := by
  intro env L A B own s Q E hE G Rm X q
  refine wpAny_Expr_any ?_ (by unfold interactive; rw [hE.sc, hk]; rfl) (hsw _)
  refine wpAny_Call_append (hbase _) (hfew _) hline (htrees _) ?_
  obtain ⟨⟨mv, F, hm⟩, n1, n2, n3⟩ := id X
  obtain ⟨v, e1, a, g1, g2, vs, n, g3, g4⟩ := hm x _ hx
  refine wpAny_Name (wpAny_loadName_local (m := mv) (v := v) (by rw [hE.sc]; exact hk) (by unfold Env.kindOf; rw [hE.sc]; exact hl) (by rw [hE.loc]; exact F.ns) e1 ?_) hd
  refine ⟨a, vs, g2, ⟨_, n, g3, rfl, rfl, rfl⟩, ?_⟩
  refine h env L A B own s _ E hE G Rm X fun v1 h1 t1 k1 r1 => ?_
  have X1 := X.keep k1
  refine wpAny_list_append_plain (s := { s with heap := h1, toks := t1 }) ⟨n, k1 _ _ g3⟩ (fun h2 hpl hsb => ?_) (by rw [← Array.length_toList, g4.length, sizeLine_eq]; omega)
  obtain ⟨n', hpl⟩ := hpl
  have ha := n1 _ (mem_of_lookup g1)
  have haL : a ≠ L := ha.2.1
  have haM : a ∈ own.acc.map Prod.snd := List.mem_map.mpr ⟨_, mem_of_lookup g1, rfl⟩
  have hsub : Sub (gOf h1 L own) (gOf h2 L own) := fun b o e => by
    obtain ⟨hb, e⟩ := ex_some.mp e
    refine ex_some.mpr ⟨hb, (hsb.2 b fun h => hb ?_).trans e⟩
    unfold Own.all
    rw [h]
    exact List.mem_cons_of_mem _ (List.mem_append_left _ haM)
  obtain ⟨⟨mv1, F1, hm1⟩, m1, m2, m3⟩ := X1
  have emv : mv1 = mv := nsUnique F1.ns (F.ns.keeps k1)
  subst emv
  refine q .next .next _ own h2 t1 hr ⟨rfl, fun b o _ hb _ e => (hsb.2 b fun h => hb (h ▸ haM)).trans (k1 _ _ e), fun p hp => .inl (List.mem_map.mpr ⟨p, hp, rfl⟩)⟩
    ⟨⟨mv1, ⟨F1.ns.sameBut hsb haL.symm, fun b o e => (hsb.2 b fun h => by rw [h, ha.1] at e; cases e).trans (F1.keep b o e), F1.above⟩, fun y p e => ?_⟩, fun p hp => ?_, m2, fun b hb => ?_⟩ trivial
  · rw [List.lookup_cons] at e
    by_cases hy : y = x
    · subst hy
      rw [beq_self_eq_true] at e
      cases e
      refine ⟨v, e1, a, g1, g2, _, _, hpl, ?_⟩
      rw [Array.toList_push]
      exact (g4.mono ((gOf_keep k1))).mono hsub |>.append (.one (r1.mono hsub))
    · have hb : (y == x) = false := beq_eq_false_iff_ne.mpr hy
      rw [hb] at e
      obtain ⟨v', e1', e2⟩ := hm1 y p e
      refine ⟨v', e1', ?_⟩
      cases p with
      | acc l' =>
        obtain ⟨a', f1, f2, vs', n'', f3, f4⟩ := e2
        refine ⟨a', f1, f2, vs', n'', (hsb.2 a' fun h => hy ?_).trans f3, f4.mono hsub⟩
        rw [h] at f1
        exact look_inj n2 f1 g1
      | _ => exact Mine.VR.mono hsub e2
  · obtain ⟨a1, a2, o, e⟩ := m1 p hp
    by_cases hpa : p.2 = a
    · exact ⟨a1, a2, _, hpa ▸ hpl⟩
    · exact ⟨a1, a2, o, (hsb.2 _ hpa).trans e⟩
  · by_cases hba : b = a
    · exact ⟨_, hba ▸ hpl⟩
    · obtain ⟨o, e⟩ := m3 b hb; exact ⟨o, (hsb.2 b hba).trans e⟩

theorem PE.joinAcc {o : Expr} {x : Str} {xp apos pos : Pos} {sep : List Nat} {l : List (List Nat)} (ho : PE w d sc o m (.str sep)) (hx : m.lookup x = some (.acc (l.map .str))) (hl : (l.map List.length).sum + l.length * sep.length ≤ 1000000)
    (hk : sc.kind = .function) (hlo : sc.names.lookup x = some .local) (hd : (x == ("__debug__" : Str)) = false := by decide)
    (hbase : ∀ env, attributeBase o (Str.ofString "join") env (eval o env) = eval o env := by intro _; rfl) (hline : (apos.endLine == pos.line) = true := by rfl)
    (htrees : ∀ (p : Pos) env, backTo p (starEach [.Name x xp] env) = [(false, eval (.Name x xp) env)] := by intro _ _; rfl) :
    PE w d sc (.Call (.Attribute o (Str.ofString "join") apos) [.Name x xp] [] pos) m (.str (joinL sep l)) := by
  intro env L A B own s Q E hE G Rm X q
  refine wpAny_Call_method1_late (hbase _) hline (htrees _ _) (ho env L A B own s _ E hE G Rm X fun v1 h1 t1 k1 r1 => ?_)
  cases r1 with
  | str _ t =>
    refine ⟨"str", "str.join", PySem.F.plainAttrs_str, PySem.F.slot_str_join, PySem.F.type_str_join, typeIs_str _ _ _, (fun _ e => nomatch e), ?_⟩
    refine Calls.callWith_builtin (first := [.str (S sep) t]) rfl (Calls.evalArgs_plain (Calls.spliced_cons ?_))
    obtain ⟨⟨mv, F, hm⟩, n1, n2, n3⟩ := X.keep k1
    obtain ⟨v, e1, a, g1, g2, vs, n, g3, g4⟩ := hm x _ hx
    subst g2
    refine wpAny_Name (wpAny_loadName_local (m := mv) (v := .ref a) (by rw [hE.sc]; exact hk) (by unfold Env.kindOf; rw [hE.sc]; exact hlo) (by rw [hE.loc]; exact F.ns) e1 ?_) hd
    refine Calls.spliced_nil ?_
    obtain ⟨ql, hq1, hq2⟩ := strs_of_vrs g4
    have hvs : vs = (strValues ql).toArray := by rw [← hq1]
    refine SC.join (l := ql) (hvs ▸ listGet g3) hq2 (joinOk hl) fun t' k' => ?_
    have ej : Txt.join (S sep) (l.map S) = S (joinL sep l) := by
      show Builtin.Str.glued (S sep) (l.map S) = _
      rw [StrLaws.glued_eq_join, join_S]
    rw [ej]
    exact q _ h1 k' k1 (.str _ _)
end
end
section
section
variable {w : World} {d : Nat} {sc : Scope} {m : Env'} {R : PF → Env' → Prop}

inductive DP (w : World) (d : Nat) (sc : Scope) (m : Env') : List (Option Expr) → List Expr → List (List Nat × List Nat) → Prop
  | nil : DP w d sc m [] [] []
  | cons {k v : Expr} {ks : List (Option Expr)} {vs : List Expr} {a b : List Nat} {l : List (List Nat × List Nat)} : PE w d sc k m (.str a) → PE w d sc v m (.str b) → DP w d sc m ks vs l → DP w d sc m (some k :: ks) (v :: vs) ((a, b) :: l)
theorem DP.all {ks : List (Option Expr)} {vs : List Expr} {l : List (List Nat × List Nat)} (h : DP w d sc m ks vs l) : ks.all (·.isSome) = true ∧ ks.length = vs.length ∧ l.length = ks.length := by
  induction h with
  | nil => exact ⟨rfl, rfl, rfl⟩
  | cons _ _ _ ih => exact ⟨by simpa using ih.1, by simp [ih.2.1], by simp [ih.2.2]⟩
theorem DP.run {ks : List (Option Expr)} {vs : List Expr} {l : List (List Nat × List Nat)} (h : DP w d sc m ks vs l) {env : Env} {L : Addr} {A : Around} {B : Heap} {own : Own} {pos : Pos} (hE : EnvOk env sc L) (G : Gd w B) (Rm : Room A d) :
    ∀ {s : Shared} {Q : List (Value × Value) → Shared → Prop} {E : Value → Shared → Prop}, St w B L own m s.heap →
    (∀ r kvs h' tk, Carries (PySem.strKind P w) r kvs → DR kvs l → Keep s.heap h' → Q r { s with heap := h', toks := tk }) → wpAny (model P w) A (evalPairs (pairTrees ks vs env pos)) Q E s := by
  induction h with
  | nil => intro s Q E X q; exact pairTrees_nil_walk (q [] [] s.heap s.toks trivial .nil (Keep.refl _))
  | cons hk hv _ ih =>
    intro s Q E X q
    refine pairTrees_cons_walk (hk env L A B own s _ E hE G Rm X fun v1 h1 t1 k1 r1 => ?_)
    refine hv env L A B own _ _ E hE G Rm (X.keep k1) fun v2 h2 t2 k2 r2 => ?_
    refine ih (s := { s with heap := h2, toks := t2 }) ((X.keep k1).keep k2) fun r kvs h3 t3 hc hd k3 => ?_
    cases r1; cases r2
    exact q _ ((_, _) :: kvs) h3 t3 ⟨strKind_is _ _ _ _, rfl, hc⟩ (.cons hd) ((k1.trans k2).trans k3)

theorem DR.keys {kvs : List (Str × Value)} {l : List (List Nat × List Nat)} (h : DR kvs l) : kvs.map (·.1) = (l.map (·.1)).map S := by
  induction h with
  | nil => rfl
  | cons _ ih => simp [ih]
theorem DR.valueAt {kvs : List (Str × Value)} {l : List (List Nat × List Nat)} (h : DR kvs l) (k : List Nat) : (∃ x t, l.lookup k = some x ∧ PySem.valueAt kvs (S k) = some (.str (S x) t)) ∨ (l.lookup k = none ∧ PySem.valueAt kvs (S k) = none) := by
  induction h with
  | nil => exact .inr ⟨rfl, rfl⟩
  | @cons k' x t r q _ ih =>
    by_cases hk : k = k'
    · subst hk
      refine .inl ⟨x, t, by rw [List.lookup_cons, beq_self_eq_true], ?_⟩
      unfold PySem.valueAt
      rw [List.find?_cons_of_pos (by simp)]; rfl
    · rw [List.lookup_cons, beq_eq_false_iff_ne.mpr hk]
      have e : PySem.valueAt ((S k', .str (S x) t) :: r) (S k) = PySem.valueAt r (S k) := by
        unfold PySem.valueAt
        rw [List.find?_cons_of_neg (by simpa using fun h => hk (S_inj.mp h).symm)]
      rw [e]; exact ih

theorem PE.dictE {ks : List (Option Expr)} {vs : List Expr} {l : List (List Nat × List Nat)} {pos : Pos} (h : DP w d sc m ks vs l) (h0 : l ≠ []) (hlen : l.length ≤ 15) (hnd : (l.map (·.1)).Nodup) : PE w d sc (.Dict ks vs pos) m (.dict l) := by
  intro env L A B own s Q E hE G Rm X q
  obtain ⟨a1, a2, a3⟩ := h.all
  refine wpAny_Dict_walk (knd := PySem.strKind P w) a1 a2 (fun e => h0 (List.length_eq_zero_iff.mp (by rw [a3, e]; rfl))) (by omega) ?_
  have k0 : Keep s.heap (s.heap.push { cls := .type "dict", data := .dict #[] }) := keep_push _ _
  have hget : (s.heap.push { cls := .type "dict", data := .dict #[] }).get? s.heap.objs.size = some { cls := .type "dict", data := .dict #[] } := Heap.get?_push_size _ rfl
  refine h.run (own := own) hE G Rm (s := { s with heap := s.heap.push { cls := .type "dict", data := .dict #[] } }) (X.keep k0) fun r kvs h1 t1 hc hd k1 => ?_
  have hget1 := k1 _ _ hget
  refine ⟨kvs, hc, ⟨_, #[], 0, hget1, ⟨rfl, rfl, rfl⟩, rfl, (fun _ he => by simp at he), .nil, List.nodup_nil⟩, fun h' hD hsb => ?_⟩
  have hmem : s.heap.objs.size ∉ own.all L := X.bk.fresh (noneSize _)
  have hk : (kvs.map (·.1)).Nodup := by
    rw [hd.keys]
    exact List.Pairwise.map S (fun a b h e => h (S_inj.mp e)) hnd
  rw [merged_nil_of_nodup kvs hk] at hD
  obtain ⟨o, ho, hio⟩ := Heap.dictOf_iff.mp hD
  have kk : Keep s.heap h' := fun b o e => (hsb.2 b (Nat.ne_of_lt (Heap.lt_size e))).trans (k1 _ _ (k0 _ _ e))
  refine q _ h' _ kk (.dict (ex_some.mpr ⟨hmem, ho⟩) hio hd ?_)
  obtain ⟨mean, mg, mb, T⟩ := G.top
  have := Heap.lt_size (X.base _ _ T.g.choose_spec.choose_spec.choose_spec.1)
  have h3 : 3 < s.heap.objs.size := this
  rw [beq_eq_false_iff_ne]
  show s.heap.objs.size ≠ 1
  omega

theorem CO.inD {k : List Nat} {l : List (List Nat × List Nat)} : CO w d .In (.str k) (.dict l) (l.lookup k).isSome := by
  intro L own A B s va vb Q E G bk R ra rb q
  cases ra with
  | str _ t =>
    cases rb with
    | dict e hi hd hs =>
      have hm := (Heap.dictOf_iff.mpr ⟨_, gOf_sub _ _ e, hi⟩ : s.heap.DictOf (PySem.strKind P w) _ _).mapOf
      refine wpAny_in_of (knd := PySem.strKind P w) (k := S k) (strKind_is _ _ _ _) hs hm ?_
      rcases hd.valueAt k with ⟨x, u, e1, e2⟩ | ⟨e1, e2⟩
      · rw [e2]; rw [e1] at q; exact q s.heap _ (Keep.refl _)
      · rw [e2]; rw [e1] at q; exact q s.heap _ (Keep.refl _)
theorem PE.idxD {v i : Expr} {pos : Pos} {k x : List Nat} {l : List (List Nat × List Nat)} (hv : PE w d sc v m (.dict l)) (hi : PE w d sc i m (.str k)) (hx : l.lookup k = some x)
    (hs : ∀ o r, subscripted i false o r = operate [o, r] (getItem o r) := by intro _ _; rfl) : PE w d sc (.Subscript v i pos) m (.str x) := by
  refine hv.sub2 hi (fun L own A B s va vb Q E G kk R ra rb q => ?_) hs
  cases rb with
  | str _ t =>
    cases ra with
    | dict e hi hd hs =>
      have hm := (Heap.dictOf_iff.mpr ⟨_, gOf_sub _ _ e, hi⟩ : s.heap.DictOf (PySem.strKind P w) _ _).mapOf
      rcases hd.valueAt k with ⟨x', u, e1, e2⟩ | ⟨e1, e2⟩
      · rw [hx] at e1; cases e1
        exact ⟨"dict", _, hm.typeIs, slot_dict_getitem.lookup, wpAny_getItem_of (knd := PySem.strKind P w) (k := S k) (strKind_is _ _ _ _) hm e2 (q _ s.heap _ (Keep.refl _) (.str x u))⟩
      · rw [hx] at e1; cases e1
end
end
section
section
variable {w : World} {d : Nat} {sc : Scope} {m : Env'}

theorem PE.neg {e : Expr} {pos : Pos} {a : Int} (h : PE w d sc e m (.int a)) : PE w d sc (.UnaryOp .USub e pos) m (.int (-a)) := by
  intro env L A B own s Q E hE G Rm X q
  refine wpAny_UnaryOp (h env L A B own s _ E hE G Rm X fun v h1 t1 k1 r1 => ?_)
  cases r1 with
  | int _ t => exact PySem.P.neg_int (q _ h1 _ k1 (.int _ _))

theorem PI.list {iter : Expr} {l : List PV} (h : PE w d sc iter m (.list l)) : PI w d sc iter m l := by
  intro env L A B own s Q E hE G Rm X q
  refine h env L A B own s _ E hE G Rm X fun v h1 t1 k1 r1 => ?_
  have fn := (X.keep k1).bk.fresh (noneSize h1)
  cases r1 with
  | @list a vs n _ ge rs =>
    obtain ⟨ha, ge⟩ := ex_some.mp ge
    have hne : a ≠ h1.objs.size := Nat.ne_of_lt (Heap.lt_size ge)
    have hsz : l.length = vs.size := by rw [← rs.length, Array.length_toList]
    refine wpAny_pyIter_list (s := { s with heap := h1, toks := t1 }) (listGet ge) ?_
    refine q h1.objs.size [h1.objs.size, a] [h1.objs.size] (fun i v => vs[i]? = some v) (fun i h => h.IsListIter h1.objs.size a i ∧ h.IsList a vs) h1 _ t1 k1 (keep_push _ _) (by rw [hsz]; exact Walks.list Rm.hh _ _ hne _)
      ⟨⟨_, Heap.get?_push_size _ rfl, rfl, rfl⟩, listGet (keep_push _ _ _ _ ge)⟩ ?_ ?_ (fun i h hs => by obtain ⟨⟨o, ho, hc, _⟩, _⟩ := hs; exact ⟨o, _, ho, hc, by decide⟩) ?_ ?_
    · intro b hb
      simp only [List.mem_cons, List.not_mem_nil, or_false] at hb
      rcases hb with rfl | rfl
      · exact fn
      · exact ha
    · intro i h hs b hb
      simp only [List.mem_cons, List.not_mem_nil, or_false] at hb
      rcases hb with rfl | rfl
      · obtain ⟨⟨o, ho, _⟩, _⟩ := hs; exact ⟨o, ho⟩
      · obtain ⟨_, ⟨o, ho, _⟩⟩ := hs; exact ⟨o, ho⟩
    · intro b hb; rw [List.mem_singleton.mp hb]; exact noneSize h1
    · intro i v hv
      obtain ⟨hi, he⟩ := Array.getElem?_eq_some_iff.mp hv
      have hil : i < l.length := by omega
      refine ⟨l[i], List.getElem?_eq_getElem hil, ?_⟩
      obtain ⟨v', e1, e2⟩ := rs.get (List.getElem?_eq_getElem hil)
      rw [Array.getElem?_toList, hv] at e1
      cases e1; exact e2

theorem St.forget {B : Heap} {L : Addr} {own : Own} {h : Heap} (X : St w B L own m h) : St w B L own [] h := by
  obtain ⟨⟨mv, F, hm⟩, n1, n2, n3⟩ := X
  exact ⟨⟨mv, F, fun x pv e => by cases e⟩, n1, n2, n3⟩

def TG (w : World) (sc : Scope) (target : Expr) (p : PV) (m2 : Env') : Prop :=
  ∀ (env : Env) (L : Addr) (A : Around) (B : Heap) (own : Own) (s : Shared) (v : Value) (Q : Unit → Shared → Prop) (E : Value → Shared → Prop),
    EnvOk env sc L → A.handled = Option.none → St w B L own [] s.heap → VR w (gOf s.heap L own) v p →
    (∀ h' tk, Stp L own own s.heap h' → St w B L own m2 h' → Q () { s with heap := h', toks := tk }) → wpAny (model P w) A (assign target env v) Q E s
theorem TG.name {x : Str} {xp : Pos} {p : PV} (hp : p.isAcc = false) (hk : sc.kind = .function) (hl : sc.names.lookup x = some .local) : TG w sc (.Name x xp) p [(x, p)] := by
  intro env L A B own s v Q E hE hh X r q
  exact wpAny_assign_Name (store hE X hp r hk hl fun h2 t2 k2 X2 => q h2 t2 k2 X2)

theorem go_quiet {A : Around} {E : Value → Shared → Prop} {s : Shared} {target : Expr} {I : Addr} {v : Value} {Q : Unit → Shared → Prop} (hi : QuietIt s.heap I) (hQ : Q () s) : wpAny (model P w) A (letOwnedTupleGo target (.ref I) v) Q E s := by
  obtain ⟨o, n, ho, hc, hn⟩ := hi
  unfold letOwnedTupleGo
  split
  · split
    · rename_i r a hra
      cases hra
      refine wpAny_bind (wpAny_load ho ?_)
      rw [hc]
      split
      · rename_i n' vs e1 e2
        cases e1
        rw [hn, Bool.false_and, if_neg Bool.false_ne_true]
        exact wpAny_pure hQ
      · exact wpAny_pure hQ
    · exact wpAny_pure hQ
  · split
    · rename_i r a hra
      cases hra
      refine wpAny_bind (wpAny_load ho ?_)
      rw [hc]
      split
      · rename_i n' vs e1 e2
        cases e1
        rw [hn, Bool.false_and, if_neg Bool.false_ne_true]
        exact wpAny_pure hQ
      · exact wpAny_pure hQ
    · exact wpAny_pure hQ
  · exact wpAny_pure hQ

theorem compLoopAny {A : Around} {s : Shared} {elt target iter : Expr} {scope : Scope} {pos : Pos} {it acc : Value} {env : Env} {R : Result → Shared → Prop} (I : Nat → Shared → Prop)
    (turn : ∀ n s, I n s → wpAny (model P w) A (pyNext it) (fun r s₁ => match r with
      | none => R (.ok .next) s₁
      | some v => wpAny (model P w) A (letOwnedTupleGo target it v) (fun _ s₁' => wpAny (model P w) A (assign target env v) (fun _ s₂ => wpAny (model P w) A (eval elt env) (fun x s₃ =>
          wpAny (model P w) A (call (.builtin "list.append") [acc, x]) (fun _ s₄ => ∃ m, m < n ∧ I m s₄) (notedBy (model P w) A env fun e s' => R (.error e) s') s₃)
          (notedBy (model P w) A env fun e s' => R (.error e) s') s₂) (notedBy (model P w) A env fun e s' => R (.error e) s') s₁') (notedBy (model P w) A env fun e s' => R (.error e) s') s₁) (notedBy (model P w) A env fun e s' => R (.error e) s') s)
    (n : Nat) (h : I n s) : codeAny (model P w) A (.compLoop (.ListComp elt [⟨target, iter, [], 0⟩] scope pos) 0 it acc env) R s := by
  refine codeAny_loop rfl I (fun n s hI => ?_) n h
  show wpAny _ _ ((compTurn (.ListComp elt [⟨target, iter, [], 0⟩] scope pos) 0 it acc env).onRaise (fun x => do noteFrame x env; theTreesLotGoes x)) _ _ s
  refine wpAny_noted ?_
  rw [compTurn_list1]
  refine wpAny_bind (wpAny_standAt (wpAny_bind (wpAny_mono (turn n s hI) (fun r s₁ h₁ => ?_) fun _ _ h' => h')))
  cases r with
  | none => exact wpAny_pure h₁
  | some v =>
    refine wpAny_bind (wpAny_mono h₁ (fun _ s₁' h₁' => ?_) fun _ _ h' => h')
    exact wpAny_bind (wpAny_mono h₁' (fun _ s₂ h₂ => wpAny_bind (wpAny_bind (wpAny_mono h₂ (fun x s₃ h₃ => wpAny_bind (wpAny_mono h₃
      (fun _ s₄ h₄ => wpAny_pure (wpAny_pure ⟨rfl, h₄⟩)) fun _ _ h' => h')) fun _ _ h' => h'))) fun _ _ h' => h')

theorem compG {elt iter target : Expr} {scope : Scope} {pos : Pos} {cl : List (Str × Addr)} {items : List PV} (Xs : List Addr) (Ext : Nat → Heap → Prop) (R : Nat → Gt → Value → Prop) (m2 : PV → Env')
    (hi : PI w d sc iter m items) {env : Env} {L : Addr} {A : Around} {B : Heap} {own : Own} {s : Shared} {Q : Value → Shared → Prop} {E : Value → Shared → Prop}
    (hE : EnvOk env sc L) (G : Gd w B) (Rm : Room A d) (S0 : St w B L own m s.heap)
    (hclos : closureFor scope env = pure cl) (hcell : ∀ y ∈ scope.names, y.2 ≠ .cell) (hkind : scope.kind = .function) (hnames : ∀ y ∈ scope.names, y.2 = .local → scope.names.lookup y.1 = some .local)
    (htg : ∀ p ∈ items, TG w (relabel scope env) target p (m2 p)) (hn : items.length ≤ 100000)
    (hX : ∀ b ∈ Xs, b ∈ own.hid) (hXB : ∀ b ∈ Xs, B.get? b = none) (hExt0 : Ext 0 s.heap) (hExtF : ∀ i h h', Ext i h → (∀ b ∈ Xs, ∀ o, h.get? b = some o → h'.get? b = some o) → Ext i h')
    (hR : ∀ i g g' v, Sub g g' → R i g v → R i g' v)
    (helt : ∀ (i : Nat) (p : PV) (cenv : Env) (C : Addr) (Z : List Addr) (s' : Shared), items[i]? = some p → EnvOk cenv (relabel scope env) C → cenv.cells = cl → (∀ b ∈ own.all L, b ∈ Z) → St w B C ⟨[], Z⟩ (m2 p) s'.heap → Ext i s'.heap →
      ∀ (Q' E' : Value → Shared → Prop), (∀ y h' tk, (∀ b o, b ∉ Xs → s'.heap.get? b = some o → h'.get? b = some o) → (∀ b ∈ Xs, ∃ o, h'.get? b = some o) → Ext (i + 1) h' → R i (gOf h' C ⟨[], Z⟩) y → Q' y { s' with heap := h', toks := tk }) → wpAny (model P w) A (eval elt cenv) Q' E' s')
    (q : ∀ D h' tk ys n, (∀ b o, b ∉ Xs → s.heap.get? b = some o → h'.get? b = some o) → s.heap.get? D = none → h'.get? D = some { cls := .type "list", data := .seq ys n } → ys.size = items.length → (∀ i y, ys[i]? = some y → R i (gOf h' L own) y) → Ext items.length h' →
      (∀ b ∈ Xs, ∃ o, h'.get? b = some o) → Q (.ref D) { s with heap := h', toks := tk })
    (hs : ∀ y, foldedSetIterable iter env y = pure y := by intro _; rfl) :
    wpAny (model P w) A (eval (.ListComp elt [⟨target, iter, [], 0⟩] scope pos) env) Q E s := by
  rw [eval_ListComp]
  refine wpAny_comprehension_free (use := none) rfl hs hclos hkind hnames (hi env L A B own s _ E hE G Rm S0 fun I fp wr Pp Sx h1 h0 tk0 k1 k2 W st hfp hex hqt hwr hP => ?_)
  refine wpAny_newObj_type (wpAny_newFunctionEnv hcell (by intro y hy; simp at hy) (fun h₁ hns₁ hsb₁ => ?_) hkind)
  dsimp only at hns₁ hsb₁ ⊢
  generalize hH2 : h0.push { cls := .type "list", dict := none, data := .seq ([] : List Value).toArray } = H2 at hns₁ hsb₁ ⊢
  have hCsz : H2.objs.size = h0.objs.size + 1 := by rw [← hH2, Heap.size_push]
  generalize hDe : h0.objs.size = D at hCsz ⊢
  generalize hCe : H2.objs.size = C at hCsz hns₁ hsb₁ ⊢
  have hDC : D ≠ C := Nat.ne_of_lt (by rw [hCsz]; exact Nat.lt_succ_self _)
  have hD0 : ∀ b o, h0.get? b = some o → b ≠ D ∧ b ≠ C := fun b o e => by
    have h : b < D := hDe ▸ Heap.lt_size e
    exact ⟨Nat.ne_of_lt h, Nat.ne_of_lt (Nat.lt_trans h (by rw [hCsz]; exact Nat.lt_succ_self _))⟩
  have old : ∀ b o, h0.get? b = some o → h₁.get? b = some o := fun b o e => hsb₁.extBut b o (hD0 b o e).2 (Heap.get?_push_of_some _ (hH2 ▸ Heap.get?_push_of_some _ e))
  have hacc : h₁.PlainList D #[] := ⟨_, hsb₁.extBut _ _ hDC (Heap.get?_push_of_some _ (hH2 ▸ hDe ▸ Heap.get?_push_size _ rfl))⟩
  have hst₁ : Sx 0 h₁ := W.frame _ _ _ st fun b _ o e => old b o e
  have h0there : ∀ b ∈ own.all L, ∃ o, h1.get? b = some o := fun b hb => by
    obtain ⟨o, e⟩ := S0.bk.new b hb; exact ⟨o, k1 _ _ e⟩
  have hXt : ∀ b ∈ Xs, b ∈ own.all L := fun b hb => List.mem_cons_of_mem _ (List.mem_append_right _ (hX b hb))
  have fpD : ∀ b ∈ fp, b ≠ D ∧ b ≠ C := fun b hb => let ⟨o, e⟩ := hex 0 _ st b hb; hD0 b o e
  have wrD : ∀ b ∈ wr, b ≠ D ∧ b ≠ C := fun b hb => fpD b (W.sub b hb)
  have allD : ∀ b ∈ own.all L, b ≠ D ∧ b ≠ C ∧ b ∉ wr := fun b hb => by
    obtain ⟨o, e⟩ := h0there b hb
    obtain ⟨a, c⟩ := hD0 b o (k2 _ _ e)
    exact ⟨a, c, fun hw => by rw [hwr b hw] at e; cases e⟩
  have B1 : ∀ b o, B.get? b = some o → h1.get? b = some o := fun b o e => k1 _ _ (S0.base b o e)
  have BD : ∀ b o, B.get? b = some o → b ≠ D ∧ b ≠ C ∧ b ∉ wr ∧ b ∉ Xs := fun b o e => by
    have e1 := B1 b o e
    obtain ⟨a, c⟩ := hD0 b o (k2 _ _ e1)
    exact ⟨a, c, (fun hw => by rw [hwr b hw] at e1; cases e1), fun hx => by rw [hXB b hx] at e; cases e⟩
  have BC : B.objs.size ≤ C := by
    obtain ⟨mv, F, _⟩ := S0.fr
    obtain ⟨o, _, _, ho, _⟩ := F.ns
    have h : L < D := hDe ▸ Heap.lt_size (k2 _ _ (k1 _ _ ho))
    exact Nat.le_trans F.above (Nat.le_of_lt (Nat.lt_trans h (by rw [hCsz]; exact Nat.lt_succ_self _)))
  let Z : List Addr := D :: (wr ++ own.all L)
  have hZall : ∀ b ∈ own.all L, b ∈ Z := fun b hb => List.mem_cons_of_mem _ (List.mem_append_right _ hb)
  have hZwr : ∀ b ∈ wr, b ∈ Z := fun b hb => List.mem_cons_of_mem _ (List.mem_append_left _ hb)
  have hZD : D ∈ Z := List.mem_cons_self ..
  have mvC : ∀ b, b ∈ Own.all ⟨[], Z⟩ C ↔ b = C ∨ b ∈ Z := fun b => by unfold Own.all; simp
  have mv : ∀ {ma mb : Env'} {ha hb : Heap}, St w B C ⟨[], Z⟩ ma ha → (∀ x pv, mb.lookup x = some pv → ma.lookup x = some pv) → (∀ b o, b ∉ Z → ha.get? b = some o → hb.get? b = some o) → (∀ b ∈ Z, ∃ o, hb.get? b = some o) → (∀ o, ha.get? C = some o → hb.get? C = some o) → (∀ b o, B.get? b = some o → hb.get? b = some o) →
      St w B C ⟨[], Z⟩ mb hb ∧ Sub (gOf ha C ⟨[], Z⟩) (gOf hb C ⟨[], Z⟩) := by
    intro ma mb ha hb X hm kz hz hc hB
    have hsub : Sub (gOf ha C ⟨[], Z⟩) (gOf hb C ⟨[], Z⟩) := fun b o e => by
      obtain ⟨hn, e⟩ := ex_some.mp e
      refine ex_some.mpr ⟨hn, kz b o (fun h => hn ((mvC b).mpr (.inr h))) e⟩
    have := X.move (own' := ⟨[], Z⟩) rfl (fun mv F => ⟨F.ns.at fun o e => hc o e, hB, F.above⟩) hsub (fun p hp => nomatch hp) hz
    obtain ⟨⟨mv, F, hmm⟩, n1, n2, n3⟩ := this
    exact ⟨⟨⟨mv, F, fun x pv e => hmm x pv (hm x pv e)⟩, n1, n2, n3⟩, hsub⟩
  have Zex : ∀ h : Heap, (∃ o, h.get? D = some o) → (∀ b ∈ fp, ∃ o, h.get? b = some o) → (∀ b o, b ∉ Xs → h1.get? b = some o → h.get? b = some o) → (∀ b ∈ Xs, ∃ o, h.get? b = some o) → ∀ b ∈ Z, ∃ o, h.get? b = some o := by
    intro h a1 a2 a3 a4 b hb
    rcases List.mem_cons.mp hb with rfl | hb
    · exact a1
    · rcases List.mem_append.mp hb with hb | hb
      · exact a2 b (W.sub b hb)
      · by_cases hx : b ∈ Xs
        · exact a4 b hx
        · obtain ⟨o, e⟩ := h0there b hb; exact ⟨o, a3 b o hx e⟩
  have loop : codeAny (model P w) A (.compLoop (.ListComp elt [⟨target, iter, [], 0⟩] scope pos) 0 (.ref I) (.ref D) (compEnvC scope cl C env))
      (compPost (model P w) A E none Q (.ref D) C) { s with heap := h₁, toks := tk0 + ([] : List (Str × Value)).length } := by
    refine compLoopAny (fun n s' => ∃ i ys hh tk', s' = { s with heap := hh, toks := tk' } ∧ i ≤ items.length ∧ n = items.length + 1 - i ∧ Sx i hh ∧ hh.PlainList D ys ∧ ys.size = i ∧ (∀ j y, ys[j]? = some y → R j (gOf hh C ⟨[], Z⟩) y) ∧ Ext i hh ∧
      St w B C ⟨[], Z⟩ [] hh ∧ (∀ b o, b ∉ Xs → h1.get? b = some o → hh.get? b = some o) ∧ (∀ b ∈ Xs, ∃ o, hh.get? b = some o)) ?_ (items.length + 1) ⟨0, #[], h₁, _, rfl, Nat.zero_le _, rfl, hst₁, hacc, rfl, by simp, ?_, ?_, ?_, ?_⟩
    case refine_2 =>
      exact hExtF _ _ _ hExt0 fun b hb o e => old _ _ (k2 _ _ (k1 _ _ e))
    case refine_3 =>
      refine ⟨⟨_, ⟨hns₁, fun b o e => old _ _ (k2 _ _ (B1 b o e)), BC⟩, fun x pv e => by cases e⟩, (fun p hp => nomatch hp), List.nodup_nil, ?_⟩
      exact Zex h₁ (let ⟨_, e⟩ := hacc; ⟨_, e⟩) (hex _ _ hst₁) (fun b o _ e => old _ _ (k2 _ _ e)) (fun b hb => let ⟨o, e⟩ := h0there b (hXt b hb); ⟨o, old _ _ (k2 _ _ e)⟩)
    case refine_4 => exact fun b o _ e => old _ _ (k2 _ _ e)
    case refine_5 => exact fun b hb => let ⟨o, e⟩ := h0there b (hXt b hb); ⟨o, old _ _ (k2 _ _ e)⟩
    rintro n s' ⟨i, ys, hh, tk', rfl, hle, rfl, st', pl, hys, hRy, hext, X', kk', xx'⟩
    have hEc : EnvOk (compEnvC scope cl C env) (relabel scope env) C := ⟨rfl, rfl, hE.glob, hE.bui⟩
    have Cex : ∃ o, hh.get? C = some o := X'.bk.new C (List.mem_cons_self ..)
    by_cases hlt : i < items.length
    · refine W.item i _ _ _ hlt st' fun v h2 t2 hPv st2 kw => ?_
      obtain ⟨p, hp, rv⟩ := hP i v hPv
      have k2' : ∀ b o, b ∉ Xs → h1.get? b = some o → h2.get? b = some o := fun b o hx e => kw b o (fun hw => by rw [hwr b hw] at e; cases e) (kk' b o hx e)
      have x2' : ∀ b ∈ Xs, ∃ o, h2.get? b = some o := fun b hb => let ⟨o, e⟩ := xx' b hb; ⟨o, kw b o (allD b (hXt b hb)).2.2 e⟩
      have pl2 : h2.PlainList D ys := pl.at fun o e => kw D o (fun hw => (wrD D hw).1 rfl) e
      obtain ⟨X2, sub2⟩ := mv (mb := []) X' (fun _ _ e => e) (fun b o hb e => kw b o (fun hw => hb (hZwr b hw)) e) (Zex h2 (let ⟨_, e⟩ := pl2; ⟨_, e⟩) (hex _ _ st2) k2' x2') (fun o e => kw C o (fun hw => (wrD C hw).2 rfl) e)
        (fun b o e => k2' b o (BD b o e).2.2.2 (B1 b o e))
      have rv2 : VR w (gOf h2 C ⟨[], Z⟩) v p := rv.mono fun b o e => by
        obtain ⟨hn, e⟩ := ex_some.mp e
        have hx : b ∉ Xs := fun hb => hn (hXt b hb)
        refine ex_some.mpr ⟨fun hm => ?_, k2' b o hx e⟩
        have hb0 := hD0 b o (k2 _ _ e)
        rcases (mvC b).mp hm with rfl | hm
        · exact hb0.2 rfl
        · rcases List.mem_cons.mp hm with rfl | hm
          · exact hb0.1 rfl
          · rcases List.mem_append.mp hm with hm | hm
            · rw [hwr b hm] at e; cases e
            · exact hn hm
      refine go_quiet (s := { s with heap := h2, toks := t2 }) (hqt _ _ st2) ?_
      refine htg p (List.mem_of_getElem? hp) (compEnvC scope cl C env) C A B ⟨[], Z⟩ { s with heap := h2, toks := t2 } v _ _ hEc Rm.hh X2 rv2 fun h3 t3 k3 X3 => ?_
      have kc : ∀ b o, b ≠ C → h2.get? b = some o → h3.get? b = some o := fun b o hb e => k3.keep b o hb (by simp) (by simp) e
      have st3 : Sx (i + 1) h3 := W.frame _ _ _ st2 fun b hb o e => kc b o (fpD b hb).2 e
      have k3' : ∀ b o, b ∉ Xs → h1.get? b = some o → h3.get? b = some o := fun b o hx e => kc b o (hD0 b o (k2 _ _ e)).2 (k2' b o hx e)
      have pl3 : h3.PlainList D ys := pl2.at fun o e => kc D o hDC e
      have ext3 : Ext i h3 := hExtF _ _ _ hext fun b hb o e => kc b o (allD b (hXt b hb)).2.1 (kw b o (allD b (hXt b hb)).2.2 e)
      have sub3 : Sub (gOf h2 C ⟨[], Z⟩) (gOf h3 C ⟨[], Z⟩) := fun b o e => by
        obtain ⟨hn, e⟩ := ex_some.mp e
        exact ex_some.mpr ⟨hn, kc b o (fun h => hn ((mvC b).mpr (.inl h))) e⟩
      refine helt i p (compEnvC scope cl C env) C Z { s with heap := h3, toks := t3 } hp hEc rfl hZall X3 ext3 _ _ fun y h4 t4 k4 x4 ext4 ry => ?_
      have st4 : Sx (i + 1) h4 := W.frame _ _ _ st3 fun b hb o e => k4 b o (fun hx => hfp b hb (hXt b hx)) e
      have DX : D ∉ Xs := fun hx => (allD D (hXt D hx)).1 rfl
      have CX : C ∉ Xs := fun hx => (allD C (hXt C hx)).2.1 rfl
      have pl4 : h4.PlainList D ys := pl3.at fun o e => k4 D o DX e
      have k4' : ∀ b o, b ∉ Xs → h1.get? b = some o → h4.get? b = some o := fun b o hx e => k4 b o hx (k3' b o hx e)
      obtain ⟨X4, sub4⟩ := mv (mb := []) X3 (fun _ _ e => by cases e) (fun b o hb e => k4 b o (fun hx => hb (hZall b (hXt b hx))) e) (Zex h4 (let ⟨_, e⟩ := pl4; ⟨_, e⟩) (hex _ _ st4) k4' x4) (fun o e => k4 C o CX e)
        (fun b o e => k4' b o (BD b o e).2.2.2 (B1 b o e))
      refine wpAny_list_append_plain (s := { s with heap := h4, toks := t4 }) (hsz := by rw [hys, sizeLine_eq]; omega) pl4 fun h5 pl5 sb5 => ?_
      have kd : ∀ b o, b ≠ D → h4.get? b = some o → h5.get? b = some o := fun b o hb e => sb5.extBut b o hb e
      have st5 : Sx (i + 1) h5 := W.frame _ _ _ st4 fun b hb o e => kd b o (fpD b hb).1 e
      have k5' : ∀ b o, b ∉ Xs → h1.get? b = some o → h5.get? b = some o := fun b o hx e => kd b o (hD0 b o (k2 _ _ e)).1 (k4' b o hx e)
      have x5 : ∀ b ∈ Xs, ∃ o, h5.get? b = some o := fun b hb => let ⟨o, e⟩ := x4 b hb; ⟨o, kd b o (allD b (hXt b hb)).1 e⟩
      have ext5 : Ext (i + 1) h5 := hExtF _ _ _ ext4 fun b hb o e => kd b o (allD b (hXt b hb)).1 e
      obtain ⟨X5, sub5⟩ := mv (mb := []) X4 (fun _ _ e => e) (fun b o hb e => kd b o (fun h => hb (h ▸ hZD)) e) (Zex h5 (let ⟨_, e⟩ := pl5; ⟨_, e⟩) (hex _ _ st5) k5' x5) (fun o e => kd C o (Ne.symm hDC) e)
        (fun b o e => k5' b o (BD b o e).2.2.2 (B1 b o e))
      refine ⟨items.length + 1 - (i + 1), by omega, i + 1, ys.push y, h5, t4, rfl, hlt, rfl, st5, pl5, by rw [Array.size_push, hys], ?_, ext5, X5, k5', x5⟩
      intro j z hj
      rw [Array.getElem?_push] at hj
      by_cases hjs : j = ys.size
      · rw [if_pos hjs] at hj
        cases hj
        rw [hjs, hys]
        exact hR _ _ _ _ sub5 ry
      · rw [if_neg hjs] at hj
        exact hR _ _ _ _ sub5 (hR _ _ _ _ sub4 (hR _ _ _ _ sub3 (hR _ _ _ _ sub2 (hRy j z hj))))
    · have hin : i = items.length := by omega
      subst hin
      refine W.done _ _ _ st' fun h2 t2 kw => ?_
      obtain ⟨mvv, F, _⟩ := X'.fr
      refine ⟨mvv, F.ns.at fun o e => kw C o (fun hw => (wrD C hw).2 rfl) e, fun h3 sb3 => ?_⟩
      have kc : ∀ b o, b ≠ C → h2.get? b = some o → h3.get? b = some o := fun b o hb e => sb3.extBut b o hb e
      obtain ⟨nn, eD⟩ := pl
      refine q D h3 t2 ys nn (fun b o hx e => ?_) ?_ (kc D _ hDC (kw D _ (fun hw => (wrD D hw).1 rfl) eD)) hys (fun j y hj => ?_) ?_ ?_
      · have e1 := k1 _ _ e
        exact kc b o (hD0 b o (k2 _ _ e1)).2 (kw b o (fun hw => by rw [hwr b hw] at e1; cases e1) (kk' b o hx e1))
      · cases hc : s.heap.get? D with
        | none => rfl
        | some o => exact absurd rfl (hD0 D o (k2 _ _ (k1 _ _ hc))).1
      · refine hR _ _ _ _ (fun b o e => ?_) (hRy j y hj)
        obtain ⟨hn, e⟩ := ex_some.mp e
        have hnC : b ≠ C := fun h => hn ((mvC b).mpr (.inl h))
        have hnZ : b ∉ Z := fun h => hn ((mvC b).mpr (.inr h))
        exact ex_some.mpr ⟨fun h => hnZ (hZall b h), kc b o hnC (kw b o (fun hw => hnZ (hZwr b hw)) e)⟩
      · exact hExtF _ _ _ hext fun b hb o e => kc b o (allD b (hXt b hb)).2.1 (kw b o (allD b (hXt b hb)).2.2 e)
      · intro b hb
        obtain ⟨o, e⟩ := xx' b hb
        exact ⟨o, kc b o (allD b (hXt b hb)).2.1 (kw b o (allD b (hXt b hb)).2.2 e)⟩
  exact codeAny_compStart_list loop (W.self 0 _ _ _ hst₁ loop)
end
end
section
theorem lit (s : String) : (Str.ofString s).cps.toList = s.toList.map Char.toNat := by rw [Str.ofString_eq_toList]
theorem lookSelf {x : Str} {v : PV} {m : Env'} : List.lookup x ((x, v) :: m) = some v := by rw [List.lookup_cons, beq_self_eq_true]
theorem lookNe {x y : Str} {v : PV} {m : Env'} {r : Option PV} (h : (y == x) = false) (hr : List.lookup y m = r) : List.lookup y ((x, v) :: m) = r := by rw [List.lookup_cons, h]; exact hr
section
variable {w : World} {d : Nat} {sc : Scope} {m : Env'}
theorem PE.modp {l r : Expr} {pos : Pos} {a b : Int} (hl : PE w d sc l m (.int a)) (hr : PE w d sc r m (.int b)) (hb : 0 < b) : PE w d sc (.BinOp l .Mod r pos) m (.int (a % b)) := by
  have := PE.mod (pos := pos) hl hr (by omega)
  rwa [Int.fmod_eq_emod_of_nonneg a (by omega)] at this
theorem PE.divp {l r : Expr} {pos : Pos} {a b : Int} (hl : PE w d sc l m (.int a)) (hr : PE w d sc r m (.int b)) (hb : 0 < b) (hb2 : b < 1073741824) : PE w d sc (.BinOp l .FloorDiv r pos) m (.int (a / b)) := by
  have := PE.fdiv (pos := pos) hl hr (by omega) (PyProof.noPylong_small (by omega))
  rwa [Int.fdiv_eq_ediv_of_nonneg a (by omega)] at this
theorem PE.mulp {l r : Expr} {pos : Pos} {a b : Int} (hl : PE w d sc l m (.int a)) (hr : PE w d sc r m (.int b)) (hb : (0 ≤ a ∧ a < 1000000) ∨ (0 ≤ b ∧ b < 1000000)) : PE w d sc (.BinOp l .Mult r pos) m (.int (a * b)) :=
  PE.mul hl hr (by
    rcases hb with h | h
    · exact .of_left (intBits_le_64 (by omega) (by omega))
    · exact .of_right (intBits_le_64 (by omega) (by omega)))
end
theorem gSMALL : valOf VW (Str.ofString "_law_SMALL") = some (.str (Str.ofString "0123456789abcdef")) := by rfl
theorem gBIG : valOf VW (Str.ofString "_law_BIG") = some (.str (Str.ofString "0123456789ABCDEF")) := by rfl
theorem gHEX : valOf VW (Str.ofString "_law_HEX") = some (.str (Str.ofString "0123456789abcdefABCDEF")) := by rfl
theorem gSIMPLE : valOf VW (Str.ofString "_law_SIMPLE") = some (.str (Str.ofString "abfnrtve\"'?\\")) := by rfl
end
section
local macro_rules | `(tactic| walk_at "lk") => `(tactic| first | assumption | exact lookSelf | (refine lookNe (by decide) ?_; walk_at "lk") | rfl)
local macro_rules | `(tactic| walk_at "li") => `(tactic| first | (simp [lit]; done) | (simp [lit]; rfl))
local macro_rules | `(tactic| walk_at "pe") => `(tactic| first
  | exact PE.int
  | (refine' PE.str ?k1; (case k1 => walk_at "li"))
  | exact PE.bool
  | exact PE.none
  | (refine' PE.name ?k1 ?k2 ?k3 ?k4 ?k5; (case k3 => exact rfl); (case k4 => exact rfl); (case k1 => walk_at "lk"); (case k2 => exact rfl); (case k5 => decide))
  | (refine' PE.gstr gHEX ?k1 ?k2 ?k3 ?k4; (case k2 => exact rfl); (case k1 => walk_at "li"); (case k3 => exact rfl); (case k4 => decide))
  | (refine' PE.gstr gSMALL ?k1 ?k2 ?k3 ?k4; (case k2 => exact rfl); (case k1 => walk_at "li"); (case k3 => exact rfl); (case k4 => decide))
  | (refine' PE.gstr gBIG ?k1 ?k2 ?k3 ?k4; (case k2 => exact rfl); (case k1 => walk_at "li"); (case k3 => exact rfl); (case k4 => decide))
  | (refine' PE.gstr gSIMPLE ?k1 ?k2 ?k3 ?k4; (case k2 => exact rfl); (case k1 => walk_at "li"); (case k3 => exact rfl); (case k4 => decide))
  | (refine' PE.add ?k1 ?k2; (case k1 => walk_at "pe"); (case k2 => walk_at "pe"))
  | (refine' PE.sub ?k1 ?k2; (case k1 => walk_at "pe"); (case k2 => walk_at "pe"))
  | (refine' PE.modp ?k1 ?k2 ?k3; (case k1 => walk_at "pe"); (case k2 => walk_at "pe"); (case k3 => omega))
  | (refine' PE.divp ?k1 ?k2 ?k3 ?k4; (case k1 => walk_at "pe"); (case k2 => walk_at "pe"); (case k3 => omega); (case k4 => omega))
  | (refine' PE.mulp ?k1 ?k2 ?k3; (case k1 => walk_at "pe"); (case k2 => walk_at "pe"); (case k3 => omega)))
local macro_rules | `(tactic| walk_at "co") => `(tactic| first | exact CO.eqI | exact CO.neI | exact CO.ltI | exact CO.leI | exact CO.gtI | exact CO.geI | exact CO.eqS | exact CO.neS | exact CO.inS | exact CO.notInS)
local macro_rules | `(tactic| walk_at "cmp") => `(tactic| (refine' PT.cmp ?k1 ?k2 ?k3 rfl; (case k1 => walk_at "pe"); (case k2 => walk_at "pe"); (case k3 => walk_at "co")))
local macro_rules | `(tactic| walk_at "pes") => `(tactic| first | exact PEs.nil | (refine' PEs.cons ?k1 ?k2; (case k1 => walk_at "pe"); (case k2 => walk_at "pes")))
section
def HEXL : List Nat := [48, 49, 50, 51, 52, 53, 54, 55, 56, 57, 97, 98, 99, 100, 101, 102, 65, 66, 67, 68, 69, 70]
theorem mem_hex (c : Nat) : c ∈ HEXL ↔ isHex c = true := by
  by_cases h : c < 103
  · have : ∀ c, c < 103 → (c ∈ HEXL ↔ isHex c = true) := by decide
    exact this c h
  · constructor
    · intro hm
      have : ∀ x ∈ HEXL, x < 103 := by decide
      exact absurd (this c hm) h
    · intro hh
      have := hex_rng hh
      omega

section
variable {w : World} {d : Nat}
theorem hexEnd_fn {l : List Nat} {p : Nat} (hp : p ≤ l.length) (hl : l.length < 2 ^ 60) :
    PFn w (d + 1) (Str.ofString "_hex_end") [.str l, .int p, .int l.length] (.int (p + ((l.drop p).takeWhile isHex).length : Nat)) := by
  refine PFn.of (names := [Str.ofString "txt", Str.ofString "pos", Str.ofString "endpos"]) rfl (fun pm cd doc vs hvs => match vs, hvs with | [a, b, c], _ => rfl) rfl (by decide) (by simp [PV.isAcc]) ?_ rfl rfl rfl (by decide)
  dsimp only
  refine PX.cons ?_
  refine PX1.while (fun n m' => m'.lookup (Str.ofString "txt") = some (.str l) ∧ m'.lookup (Str.ofString "endpos") = some (.int l.length) ∧ ∃ q : Nat, m'.lookup (Str.ofString "pos") = some (.int q) ∧ q ≤ l.length ∧ n = l.length - q ∧
      q + ((l.drop q).takeWhile isHex).length = p + ((l.drop p).takeWhile isHex).length) ?_ (l.length - p) ⟨rfl, rfl, p, rfl, hp, rfl, rfl⟩
  rintro n m' ⟨h1, h2, q, h3, hq, rfl, hv⟩
  by_cases hlt : q < l.length
  · have hc : l[q]? = some l[q] := List.getElem?_eq_getElem hlt
    have hdrop : l.drop q = l[q] :: l.drop (q + 1) := List.drop_eq_getElem_cons hlt
    refine ⟨true && decide (l[q] ∈ HEXL), PT.and2 ?_ (fun _ => ?_), fun hb => ?_, fun hb => ?_⟩
    · have e : (true : Bool) = decide ((q : Int) ≠ l.length) := by simp; omega
      rw [e]
      exact PT.cmp (by walk_at "pe") (by walk_at "pe") CO.neI rfl
    · refine PT.cmp (a := .str [l[q]]) (b := .str HEXL) (PE.idxS (k := q) (by walk_at "pe") (by walk_at "pe") (by omega) (by omega) (by simpa using hc)) (PE.str (by simp [lit]; rfl)) CO.inS rfl
    · have hh : isHex l[q] = true := by simpa [mem_hex] using hb
      refine PX.cons (PX1.augI (i := q) (j := 1) h3 (by walk_at "pe") rfl rfl ?_)
      refine PX.nil ⟨l.length - (q + 1), by omega, ?_, ?_, q + 1, ?_, by omega, rfl, ?_⟩
      · walk_at "lk"
      · walk_at "lk"
      · exact lookSelf
      · rw [hdrop, List.takeWhile_cons, hh] at hv
        simp only [if_true, List.length_cons] at hv
        omega
    · have hh : isHex l[q] = false := by
        have : ¬ l[q] ∈ HEXL := by simpa using hb
        rw [mem_hex] at this; simpa using this
      have hv' : q = p + ((l.drop p).takeWhile isHex).length := by
        rw [hdrop, List.takeWhile_cons, hh] at hv
        simpa using hv
      refine PX.cons (PX1.ret (pv := .int q) (by walk_at "pe") ?_)
      show PF.ret _ = PF.ret _
      rw [← hv']
  · have hql : q = l.length := by omega
    refine ⟨false && true, PT.and2 ?_ (fun h => Bool.noConfusion h), fun hb => Bool.noConfusion hb, fun hb => ?_⟩
    · have e : (false : Bool) = decide ((q : Int) ≠ l.length) := by simp; omega
      rw [e]
      exact PT.cmp (by walk_at "pe") (by walk_at "pe") CO.neI rfl
    · have hv' : q = p + ((l.drop p).takeWhile isHex).length := by
        rw [hql] at hv ⊢
        simpa using hv
      refine PX.cons (PX1.ret (pv := .int q) (by walk_at "pe") ?_)
      show PF.ret _ = PF.ret _
      rw [← hv']
end
end
section
section
variable {w : World} {d : Nat}

def runL (sg l : List Nat) : Nat := (l.takeWhile (fun c => decide (c ∈ sg))).length
theorem runL_cons (sg : List Nat) (c : Nat) (r : List Nat) : runL sg (c :: r) = if c ∈ sg then runL sg r + 1 else 0 := by
  unfold runL
  rw [List.takeWhile_cons]
  by_cases h : c ∈ sg <;> simp [h]

theorem run_fn {l sg : List Nat} : PFn w (d + 1) (Str.ofString "_law_run") [.str l, .str sg] (.int (runL sg l : Nat)) := by
  refine PFn.of (names := [Str.ofString "text", Str.ofString "signs"]) rfl (fun pm cd doc vs hvs => match vs, hvs with | [a, b], _ => rfl) rfl (by decide) (by simp [PV.isAcc]) ?_ rfl rfl rfl (by decide)
  dsimp only
  refine PX.cons (PX1.assign (pv := .int 0) (by walk_at "pe") rfl rfl rfl ?_)
  refine PX.cons (PX1.for (PI.str (x := l) (by walk_at "pe")) (by simp [PV.isAcc]) rfl rfl
    (fun i m' => m'.lookup (Str.ofString "signs") = some (.str sg) ∧ m'.lookup (Str.ofString "many") = some (.int (i : Nat)) ∧ i ≤ l.length ∧ runL sg l = i + runL sg (l.drop i)) ⟨rfl, rfl, Nat.zero_le _, by simp⟩ ?_ ?_)
  · rintro i m' p ⟨h1, h2, hi, h3⟩ hp
    simp only [List.getElem?_map, Option.map_eq_some_iff] at hp
    obtain ⟨c, hc, rfl⟩ := hp
    have hlt := (List.getElem?_eq_some_iff.mp hc).1
    have hd : l.drop i = c :: l.drop (i + 1) := by
      rw [List.drop_eq_getElem_cons hlt, (List.getElem?_eq_some_iff.mp hc).2]
    rw [hd, runL_cons] at h3
    refine PX.cons (PX1.if (b := decide (c ∉ sg)) (by walk_at "cmp") (fun hb => ?_) (fun hb => ?_))
    · have hn : c ∉ sg := by simpa using hb
      rw [if_neg hn] at h3
      refine PX.cons (PX1.brk ?_)
      show PX _ _ _ _ _ _
      refine PX.cons (PX1.ret (pv := .int (i : Nat)) (by walk_at "pe") ?_)
      show PF.ret _ = PF.ret _
      rw [h3]; simp
    · have hn : c ∈ sg := by simpa using hb
      rw [if_pos hn] at h3
      refine PX.nil ?_
      show PX _ _ _ _ _ _
      refine PX.cons (PX1.augI (i := (i : Nat)) (j := 1) (by walk_at "lk") (by walk_at "pe") rfl rfl ?_)
      refine PX.nil ⟨?_, lookSelf, hlt, by omega⟩
      walk_at "lk"
  · rintro m' ⟨h1, h2, hi, h3⟩
    show PX _ _ _ _ _ _
    simp only [List.length_map] at h2 h3
    have h4 : runL sg l = l.length := by rw [List.drop_length] at h3; simpa [runL] using h3
    refine PX.cons (PX1.ret (pv := .int (l.length : Nat)) (by walk_at "pe") ?_)
    show PF.ret _ = PF.ret _
    rw [h4]

theorem idx_hex {c : Nat} (h : isHex c = true) : (if idxOf c HEXL < 16 then idxOf c HEXL else idxOf c HEXL - 6) = (hexv c : Int) := by
  have hm := (mem_hex c).mpr h
  simp only [HEXL, List.mem_cons, List.not_mem_nil, or_false] at hm
  rcases hm with rfl | rfl | rfl | rfl | rfl | rfl | rfl | rfl | rfl | rfl | rfl | rfl | rfl | rfl | rfl | rfl | rfl | rfl | rfl | rfl | rfl | rfl <;> decide

theorem worth_snoc (b : Nat) (l : List Nat) (c : Nat) : worth b (l ++ [c]) = worth b l * b + hexv c := by
  unfold worth; rw [List.foldl_append]; rfl

theorem worth_fn {l : List Nat} {b : Nat} (hb : b = 8 ∨ b = 16) (hl : ∀ c ∈ l, isHex c = true) : PFn w (d + 1) (Str.ofString "_law_worth") [.str l, .int b] (.int (worth b l : Nat)) := by
  refine PFn.of (names := [Str.ofString "digits", Str.ofString "base"]) rfl (fun pm cd doc vs hvs => match vs, hvs with | [a, b], _ => rfl) rfl (by decide) (by simp [PV.isAcc]) ?_ rfl rfl rfl (by decide)
  dsimp only
  refine PX.cons (PX1.assign (pv := .int 0) (by walk_at "pe") rfl rfl rfl ?_)
  refine PX.cons (PX1.for (PI.str (x := l) (by walk_at "pe")) (by simp [PV.isAcc]) rfl rfl
    (fun i m' => m'.lookup (Str.ofString "base") = some (.int b) ∧ m'.lookup (Str.ofString "worth") = some (.int (worth b (l.take i) : Nat))) ⟨rfl, rfl⟩ ?_ ?_)
  · rintro i m' p ⟨h1, h2⟩ hp
    simp only [List.getElem?_map, Option.map_eq_some_iff] at hp
    obtain ⟨c, hc, rfl⟩ := hp
    have hch := hl c (List.mem_of_getElem? hc)
    have ht : l.take (i + 1) = l.take i ++ [c] := by rw [List.take_add_one, hc]; rfl
    refine PX.cons (PX1.assign (pv := .int (idxOf c HEXL)) (PE.find (x := HEXL) (c := c) (by walk_at "pe") (by walk_at "pe")) rfl rfl rfl ?_)
    show PX _ _ _ _ _ _
    refine PX.cons (PX1.assign (pv := .int (worth b (l.take (i + 1)) : Nat)) ?_ rfl rfl rfl ?_)
    · rw [ht, worth_snoc, show (((worth b (l.take i) * b + hexv c : Nat)) : Int) = (worth b (l.take i) : Nat) * (b : Int) + (hexv c : Int) by push_cast; rfl, ← idx_hex hch]
      refine PE.add (PE.mulp (by walk_at "pe") (by walk_at "pe") (by omega)) ?_
      by_cases hk : idxOf c HEXL < 16
      · rw [if_pos hk]
        have e : (true : Bool) = decide (idxOf c HEXL < 16) := by simp [hk]
        exact PE.ifT (by rw [e]; walk_at "cmp") (by walk_at "pe")
      · rw [if_neg hk]
        have e : (false : Bool) = decide (idxOf c HEXL < 16) := by simp [hk]
        exact PE.ifF (by rw [e]; walk_at "cmp") (by walk_at "pe")
    · show PX _ _ _ _ _ _
      refine PX.nil ⟨?_, lookSelf⟩
      walk_at "lk"
  · rintro m' ⟨h1, h2⟩
    show PX _ _ _ _ _ _
    simp only [List.length_map, List.take_length] at h2
    refine PX.cons (PX1.ret (pv := .int (worth b l : Nat)) (by walk_at "pe") ?_)
    rfl

def digL (base : Nat) (sg : List Nat) : Nat → Nat → List Nat
  | 0, _ => []
  | n + 1, v => digL base sg n (v / base) ++ [sg.getD (v % base) 0]

theorem digits_fn {v base many : Nat} {sg : List Nat} (hb : base = 8 ∨ base = 16) (hm : many ≤ 8) (hs : sg.length = 16) :
    PFn w (d + 1) (Str.ofString "_law_digits") [.int v, .int base, .int many, .str sg] (.str (digL base sg many v)) := by
  refine PFn.of (names := [Str.ofString "value", Str.ofString "base", Str.ofString "many", Str.ofString "signs"]) rfl (fun pm cd doc vs hvs => match vs, hvs with | [a, b, c, d], _ => rfl) rfl (by decide) (by simp [PV.isAcc]) ?_ rfl rfl rfl (by decide)
  dsimp only
  have hbp : 0 < base := by omega
  refine PX.cons (PX1.assign (pv := .str []) (by walk_at "pe") rfl rfl rfl ?_)
  refine PX.cons (PX1.for (PI.range1 (n := many) (by walk_at "pe") (by omega) rfl rfl) (by simp [PV.isAcc]) rfl rfl
    (fun i m' => m'.lookup (Str.ofString "base") = some (.int base) ∧ m'.lookup (Str.ofString "signs") = some (.str sg) ∧ i ≤ many ∧ ∃ (u : Nat) (t : List Nat), m'.lookup (Str.ofString "value") = some (.int u) ∧ m'.lookup (Str.ofString "text") = some (.str t) ∧ t.length = i ∧
      digL base sg many v = digL base sg (many - i) u ++ t) ⟨rfl, rfl, Nat.zero_le _, v, [], rfl, rfl, rfl, by simp⟩ ?_ ?_)
  · rintro i m' p ⟨h1, h2, hi, u, t, h3, h4, h5, h6⟩ hp
    simp only [List.getElem?_map, Option.map_eq_some_iff] at hp
    obtain ⟨c, hc, rfl⟩ := hp
    have hlt : i < many := by have := (List.getElem?_eq_some_iff.mp hc).1; simpa using this
    have hmod : u % base < 16 := by have := Nat.mod_lt u hbp; omega
    have hget : sg[u % base]? = some (sg.getD (u % base) 0) := by rw [List.getD_eq_getElem?_getD, List.getElem?_eq_getElem (by omega)]; rfl
    refine PX.cons (PX1.assign (pv := .str ([sg.getD (u % base) 0] ++ t)) (PE.cat (PE.idxS (k := ((u : Int) % base)) (by walk_at "pe") (PE.modp (by walk_at "pe") (by walk_at "pe") (by omega)) ?_ ?_ ?_) (by walk_at "pe") ?_) rfl rfl rfl ?_)
    · exact Int.emod_nonneg _ (by omega)
    · have := Int.emod_lt_of_pos (u : Int) (show (0 : Int) < base by omega); omega
    · have e : ((u : Int) % base).toNat = u % base := by rw [← Int.natCast_emod]; rfl
      rw [e]; exact hget
    · rw [List.length_append, sizeLine_eq]; simp; omega
    show PX _ _ _ _ _ _
    refine PX.cons (PX1.assign (pv := .int ((u / base : Nat) : Int)) ?_ rfl rfl rfl ?_)
    · rw [Int.natCast_ediv]
      exact PE.divp (by walk_at "pe") (by walk_at "pe") (by omega) (by omega)
    · show PX _ _ _ _ _ _
      refine PX.nil ⟨?_, ?_, hlt, u / base, [sg.getD (u % base) 0] ++ t, lookSelf, ?_, ?_, ?_⟩
      · walk_at "lk"
      · walk_at "lk"
      · exact lookNe (by decide) lookSelf
      · simp [h5]
      · have e : many - i = (many - (i + 1)) + 1 := by omega
        rw [h6, e]
        show (digL base sg (many - (i + 1)) (u / base) ++ [sg.getD (u % base) 0]) ++ t = _
        rw [List.append_assoc]
  · rintro m' ⟨h1, h2, hi, u, t, h3, h4, h5, h6⟩
    show PX _ _ _ _ _ _
    simp only [List.length_map, List.length_range, Nat.sub_self] at h6
    refine PX.cons (PX1.ret (pv := .str t) (by walk_at "pe") ?_)
    show PF.ret _ = PF.ret _
    rw [h6]; rfl
end
end
end
local macro_rules | `(tactic| walk_at "lk") => `(tactic| first | assumption | exact lookSelf | (refine lookNe (by decide) ?_; walk_at "lk") | rfl)
local macro_rules | `(tactic| walk_at "li") => `(tactic| first | (simp [lit]; done) | (simp [lit]; rfl))
local macro_rules | `(tactic| walk_at "pe") => `(tactic| first
  | with_reducible exact PE.int
  | ((with_reducible refine' PE.str ?k1); (case k1 => walk_at "li"))
  | with_reducible exact PE.bool
  | with_reducible exact PE.none
  | ((with_reducible refine' PE.name ?k1 ?k2 ?k3 ?k4 ?k5); (case k3 => exact rfl); (case k4 => exact rfl); (case k1 => walk_at "lk"); (case k2 => exact rfl); (case k5 => decide))
  | ((with_reducible refine' PE.gstr gHEX ?k1 ?k2 ?k3 ?k4); (case k2 => exact rfl); (case k1 => walk_at "li"); (case k3 => exact rfl); (case k4 => decide))
  | ((with_reducible refine' PE.gstr gSMALL ?k1 ?k2 ?k3 ?k4); (case k2 => exact rfl); (case k1 => walk_at "li"); (case k3 => exact rfl); (case k4 => decide))
  | ((with_reducible refine' PE.gstr gBIG ?k1 ?k2 ?k3 ?k4); (case k2 => exact rfl); (case k1 => walk_at "li"); (case k3 => exact rfl); (case k4 => decide))
  | ((with_reducible refine' PE.gstr gSIMPLE ?k1 ?k2 ?k3 ?k4); (case k2 => exact rfl); (case k1 => walk_at "li"); (case k3 => exact rfl); (case k4 => decide))
  | ((with_reducible refine' PE.add ?k1 ?k2); (case k1 => walk_at "pe"); (case k2 => walk_at "pe"))
  | ((with_reducible refine' PE.sub ?k1 ?k2); (case k1 => walk_at "pe"); (case k2 => walk_at "pe"))
  | ((with_reducible refine' PE.modp ?k1 ?k2 ?k3); (case k1 => walk_at "pe"); (case k2 => walk_at "pe"); (case k3 => omega))
  | ((with_reducible refine' PE.divp ?k1 ?k2 ?k3 ?k4); (case k1 => walk_at "pe"); (case k2 => walk_at "pe"); (case k3 => omega); (case k4 => omega))
  | ((with_reducible refine' PE.mulp ?k1 ?k2 ?k3); (case k1 => walk_at "pe"); (case k2 => walk_at "pe"); (case k3 => omega))
  | exact PE.int)
local macro_rules | `(tactic| walk_at "co") => `(tactic| first | with_reducible exact CO.eqI | with_reducible exact CO.neI | with_reducible exact CO.ltI | with_reducible exact CO.leI | with_reducible exact CO.gtI | with_reducible exact CO.geI | with_reducible exact CO.eqS | with_reducible exact CO.neS | with_reducible exact CO.inS | with_reducible exact CO.notInS | with_reducible exact CO.inD)
local macro_rules | `(tactic| walk_at "cmp") => `(tactic| ((with_reducible refine' PT.cmp ?k1 ?k2 ?k3 ?k4); (case k4 => exact rfl); (case k1 => walk_at "pe"); (case k2 => walk_at "pe"); (case k3 => walk_at "co")))
local macro_rules | `(tactic| walk_at "pes") => `(tactic| first | with_reducible exact PEs.nil | ((with_reducible refine' PEs.cons ?k1 ?k2 ?k3); (case k3 => intro _; exact star_cons rfl); (case k1 => walk_at "pe"); (case k2 => walk_at "pes")))
section
section
variable {w : World} {d : Nat} {sc : Scope} {m : Env'}
theorem PE.castI {e : Expr} {a b : Int} (h : PE w d sc e m (.int a)) (hab : a = b) : PE w d sc e m (.int b) := hab ▸ h
theorem PT.castB {e : Expr} {a b : Bool} (h : PT w d sc e m a) (hab : a = b) : PT w d sc e m b := hab ▸ h
end
end
local macro_rules | `(tactic| walk_at "pei") => `(tactic| (refine' PE.castI ?k1 ?k2; (case k1 => walk_at "pe"); (case k2 => first | rfl | omega | (push_cast; omega))))
section
section
variable {w : World} {d : Nat}

def plainT : List (List Nat) := [[122], [101], [55], [49, 103], [32], [120], [117], [85], [39], [76], [105, 110, 116], [937]]
def meantT : List Nat := [7, 8, 12, 10, 13, 9, 11, 27, 34, 39, 63]
def brokenT : List (List Nat) := [[92, 113], [92, 120], [92, 56], [92, 32], [92, 65]]
def SIMP : List Nat := [97, 98, 102, 110, 114, 116, 118, 101, 34, 39, 63, 92]
def SMA : List Nat := [48, 49, 50, 51, 52, 53, 54, 55, 56, 57, 97, 98, 99, 100, 101, 102]
def BGA : List Nat := [48, 49, 50, 51, 52, 53, 54, 55, 56, 57, 65, 66, 67, 68, 69, 70]

theorem plain_fn : PFn w (d + 1) (Str.ofString "_law_PLAIN") [] (.list (plainT.map .str)) := by
  refine PFn.of (names := []) rfl (fun pm cd doc vs hvs => match vs, hvs with | [], _ => rfl) rfl (by decide) (by simp) ?_ rfl rfl rfl (by decide)
  dsimp only
  refine PX.cons ?_
  with_reducible refine' PX1.ret (pv := .list [.str [122], .str [101], .str [55], .str [49, 103], .str [32], .str [120], .str [117], .str [85], .str [39], .str [76], .str [105, 110, 116], .str [937]]) ?h1 ?h2
  case h2 => rfl
  case h1 =>
    with_reducible refine' PE.listE ?k1 ?k3
    case k1 => walk_at "pes"
    case k3 => decide
theorem meant_fn : PFn w (d + 1) (Str.ofString "_law_MEANT") [] (.list (meantT.map fun n : Nat => .int (n : Int))) := by
  refine PFn.of (names := []) rfl (fun pm cd doc vs hvs => match vs, hvs with | [], _ => rfl) rfl (by decide) (by simp) ?_ rfl rfl rfl (by decide)
  dsimp only
  refine PX.cons ?_
  with_reducible refine' PX1.ret (pv := .list [.int 7, .int 8, .int 12, .int 10, .int 13, .int 9, .int 11, .int 27, .int 34, .int 39, .int 63]) ?h1 ?h2
  case h2 => rfl
  case h1 =>
    with_reducible refine' PE.listE ?k1 ?k3
    case k1 => walk_at "pes"
    case k3 => decide
theorem broken_fn : PFn w (d + 1) (Str.ofString "_law_BROKEN") [] (.list (brokenT.map .str)) := by
  refine PFn.of (names := []) rfl (fun pm cd doc vs hvs => match vs, hvs with | [], _ => rfl) rfl (by decide) (by simp) ?_ rfl rfl rfl (by decide)
  dsimp only
  refine PX.cons ?_
  with_reducible refine' PX1.ret (pv := .list [.str [92, 113], .str [92, 120], .str [92, 56], .str [92, 32], .str [92, 65]]) ?h1 ?h2
  case h2 => rfl
  case h1 =>
    with_reducible refine' PE.listE ?k1 ?k3
    case k1 => walk_at "pes"
    case k3 => decide

end
end
section
section
variable {w : World} {d : Nat}
theorem digL_len (base : Nat) (sg : List Nat) : ∀ n v, (digL base sg n v).length = n
  | 0, _ => rfl
  | n + 1, v => by show (digL base sg n (v / base) ++ [_]).length = _; rw [List.length_append, digL_len base sg n]; rfl

def pieceL (n : Nat) : List Nat :=
  let k := n % 11
  let v := n / 11
  let sg := if v / 5 % 2 ≠ 0 then BGA else SMA
  if k = 0 then plainT.getD (v % 12) []
  else if k = 1 then [92] ++ [SIMP.getD (v % 12) 0]
  else if k = 2 then [92] ++ digL 8 SMA (1 + v % 3) (65 + 11 * v)
  else if k = 3 then (if v % 3 = 2 then [92, 120] ++ digL 16 sg 1 ((1 + 5 * v) % 13) else [92, 120] ++ digL 16 sg 2 ((65 + 37 * v) % 208))
  else if k = 4 then [92, 117] ++ digL 16 sg 4 ((65 + 4099 * v) % 55296)
  else if k = 5 then [92, 85] ++ digL 16 sg 8 (65536 + (62976 + 4099 * v) % 1048576)
  else if k = 6 then [92, 117, 52, 49]
  else if k = 7 then [92, 85, 48, 48, 48, 49, 102, 54]
  else if k = 8 then [92]
  else if k = 9 then brokenT.getD (v % 5) []
  else []

theorem piece_fn {n : Nat} : PFn w (d + 2) (Str.ofString "_law_piece") [.int n] (.str (pieceL n)) := by
  refine PFn.of (names := [Str.ofString "n"]) rfl (fun pm cd doc vs hvs => match vs, hvs with | [a], _ => rfl) rfl (by decide) (by simp [PV.isAcc]) ?_ rfl rfl rfl (by decide)
  dsimp only
  have hdig : ∀ {sc : Scope} {m : Env'} {np pos : Pos} {e1 e2 e3 e4 : Expr} {v base many : Nat} {sg : List Nat}, (base = 8 ∨ base = 16) → many ≤ 8 → sg.length = 16 → sc.kind = .function → sc.names.lookup (Str.ofString "_law_digits") = some .globalImplicit →
      PE w (d + 1) sc e1 m (.int v) → PE w (d + 1) sc e2 m (.int base) → PE w (d + 1) sc e3 m (.int many) → PE w (d + 1) sc e4 m (.str sg) →
      (∀ env, starEach [e1, e2, e3, e4] env = (false, eval e1 env) :: starEach [e2, e3, e4] env) → (∀ env, starEach [e2, e3, e4] env = (false, eval e2 env) :: starEach [e3, e4] env) →
      (∀ env, starEach [e3, e4] env = (false, eval e3 env) :: starEach [e4] env) → (∀ env, starEach [e4] env = (false, eval e4 env) :: starEach [] env) →
      PE w (d + 1) sc (.Call (.Name (Str.ofString "_law_digits") np) [e1, e2, e3, e4] [] pos) m (.str (digL base sg many v)) :=
    fun hb hm hs hk hl p1 p2 p3 p4 s1 s2 s3 s4 => PE.callF (digits_fn hb hm hs) rfl hk hl (by decide) (PEs.cons p1 (PEs.cons p2 (PEs.cons p3 (PEs.cons p4 PEs.nil s4) s3) s2) s1) s1
  have es : ∀ (e : Expr) (es : List Expr), (∀ env, starEach (e :: es) env = (false, eval e env) :: starEach es env) → True := fun _ _ _ => trivial
  refine PX.cons (PX1.tup2s (a := .int (n % 11 : Nat)) (b := .int (n / 11 : Nat)) (PE.tupE (PEs.cons (by walk_at "pei") (PEs.cons (by walk_at "pei") PEs.nil)) (by simp)) rfl rfl rfl rfl rfl ?_ (by intro env h; cases env; cases h; rfl))
  show PX _ _ _ _ _ _
  have hu : pieceL n = pieceL n := rfl
  conv at hu => rhs; unfold pieceL
  dsimp only at hu
  generalize hv : n / 11 = v at hu ⊢
  generalize hk : n % 11 = k at hu ⊢
  have hk11 : k < 11 := by omega
  refine PX.cons (PX1.if (b := decide (k = 0)) (PT.castB (by walk_at "cmp") (by simp)) (fun hb => ?_) (fun hb => PX.nil ?_))
  · have h0 : k = 0 := by simpa using hb
    rw [if_pos h0] at hu
    have hlt : v % 12 < plainT.length := by have := Nat.mod_lt v (show 0 < 12 by decide); simpa [plainT] using this
    refine PX.cons (PX1.ret (pv := .str (plainT.getD (v % 12) [])) (PE.idxL (k := (v % 12 : Nat)) (PE.callF0 plain_fn rfl rfl rfl (by decide)) (by walk_at "pei") (by omega) (by omega) ?_) (by show PF.ret _ = PF.ret _; rw [hu]))
    rw [List.getElem?_map, Int.toNat_natCast, List.getD_eq_getElem?_getD, List.getElem?_eq_getElem hlt]; rfl
  show PX _ _ _ _ _ _
  have h0 : ¬ k = 0 := by simpa using hb
  rw [if_neg h0] at hu
  refine PX.cons (PX1.if (b := decide (k = 1)) (PT.castB (by walk_at "cmp") (by simp; omega)) (fun hb => ?_) (fun hb => PX.nil ?_))
  · have h1 : k = 1 := by simpa using hb
    rw [if_pos h1] at hu
    have hlt : v % 12 < SIMP.length := by have := Nat.mod_lt v (show 0 < 12 by decide); simpa [SIMP] using this
    refine PX.cons (PX1.ret (pv := .str ([92] ++ [SIMP.getD (v % 12) 0])) (PE.cat (by walk_at "pe") (PE.idxS (l := SIMP) (k := (v % 12 : Nat)) (by walk_at "pe") (by walk_at "pei") (by omega) (by omega) ?_) (by simp [sizeLine_eq])) (by show PF.ret _ = PF.ret _; rw [hu]))
    rw [Int.toNat_natCast, List.getD_eq_getElem?_getD, List.getElem?_eq_getElem hlt]; rfl
  show PX _ _ _ _ _ _
  have h1 : ¬ k = 1 := by simpa using hb
  rw [if_neg h1] at hu
  refine PX.cons (PX1.if (b := decide (k = 2)) (PT.castB (by walk_at "cmp") (by simp; omega)) (fun hb => ?_) (fun hb => PX.nil ?_))
  · have h2 : k = 2 := by simpa using hb
    rw [if_pos h2] at hu
    refine PX.cons (PX1.ret (PE.cat (a := [92]) (b := digL 8 SMA (1 + v % 3) (65 + 11 * v)) (by walk_at "pe") (hdig (.inl rfl) (by omega) rfl rfl rfl (by walk_at "pei") (by walk_at "pe") (by walk_at "pei") (by walk_at "pe") (by intro _; exact star_cons rfl) (by intro _; exact star_cons rfl) (by intro _; exact star_cons rfl) (by intro _; exact star_cons rfl))
      (by rw [List.length_append, digL_len, sizeLine_eq]; simp; omega)) (by show PF.ret _ = PF.ret _; rw [hu]))
  show PX _ _ _ _ _ _
  have h2 : ¬ k = 2 := by simpa using hb
  rw [if_neg h2] at hu
  generalize hsg : (if v / 5 % 2 ≠ 0 then BGA else SMA) = sg at hu
  have hsl : sg.length = 16 := by rw [← hsg]; split <;> rfl
  refine PX.cons (PX1.assign (pv := .str sg) ?_ rfl rfl rfl ?_)
  · by_cases hc : v / 5 % 2 ≠ 0
    · rw [if_pos hc] at hsg
      refine PE.ifT (PT.castB (PT.ofInt (i := ((v / 5 % 2 : Nat) : Int)) (by walk_at "pei") (by intro _ _; rfl)) (by simp; omega)) ?_
      rw [← hsg]; walk_at "pe"
    · rw [if_neg hc] at hsg
      refine PE.ifF (PT.castB (PT.ofInt (i := ((v / 5 % 2 : Nat) : Int)) (by walk_at "pei") (by intro _ _; rfl)) (by simp; omega)) ?_
      rw [← hsg]; walk_at "pe"
  show PX _ _ _ _ _ _
  refine PX.cons (PX1.if (b := decide (k = 3)) (PT.castB (by walk_at "cmp") (by simp; omega)) (fun hb => ?_) (fun hb => PX.nil ?_))
  · have h3 : k = 3 := by simpa using hb
    rw [if_pos h3] at hu
    refine PX.cons (PX1.if (b := decide (v % 3 = 2)) (PT.castB (by walk_at "cmp") (by simp; omega)) (fun hb => ?_) (fun hb => PX.nil ?_))
    · have h4 : v % 3 = 2 := by simpa using hb
      rw [if_pos h4] at hu
      refine PX.cons (PX1.ret (PE.cat (a := [92, 120]) (b := digL 16 sg 1 ((1 + 5 * v) % 13)) (by walk_at "pe") (hdig (.inr rfl) (by omega) hsl rfl rfl (by walk_at "pei") (by walk_at "pe") (by walk_at "pe") (by walk_at "pe") (by intro _; exact star_cons rfl) (by intro _; exact star_cons rfl) (by intro _; exact star_cons rfl) (by intro _; exact star_cons rfl))
        (by rw [List.length_append, digL_len, sizeLine_eq]; simp)) (by show PF.ret _ = PF.ret _; rw [hu]))
    · show PX _ _ _ _ _ _
      have h4 : ¬ v % 3 = 2 := by simpa using hb
      rw [if_neg h4] at hu
      refine PX.cons (PX1.ret (PE.cat (a := [92, 120]) (b := digL 16 sg 2 ((65 + 37 * v) % 208)) (by walk_at "pe") (hdig (.inr rfl) (by omega) hsl rfl rfl (by walk_at "pei") (by walk_at "pe") (by walk_at "pe") (by walk_at "pe") (by intro _; exact star_cons rfl) (by intro _; exact star_cons rfl) (by intro _; exact star_cons rfl) (by intro _; exact star_cons rfl))
        (by rw [List.length_append, digL_len, sizeLine_eq]; simp)) (by show PF.ret _ = PF.ret _; rw [hu]))
  show PX _ _ _ _ _ _
  have h3 : ¬ k = 3 := by simpa using hb
  rw [if_neg h3] at hu
  refine PX.cons (PX1.if (b := decide (k = 4)) (PT.castB (by walk_at "cmp") (by simp; omega)) (fun hb => ?_) (fun hb => PX.nil ?_))
  · have h4 : k = 4 := by simpa using hb
    rw [if_pos h4] at hu
    refine PX.cons (PX1.ret (PE.cat (a := [92, 117]) (b := digL 16 sg 4 ((65 + 4099 * v) % 55296)) (by walk_at "pe") (hdig (.inr rfl) (by omega) hsl rfl rfl (by walk_at "pei") (by walk_at "pe") (by walk_at "pe") (by walk_at "pe") (by intro _; exact star_cons rfl) (by intro _; exact star_cons rfl) (by intro _; exact star_cons rfl) (by intro _; exact star_cons rfl))
        (by rw [List.length_append, digL_len, sizeLine_eq]; simp)) (by show PF.ret _ = PF.ret _; rw [hu]))
  show PX _ _ _ _ _ _
  have h4 : ¬ k = 4 := by simpa using hb
  rw [if_neg h4] at hu
  refine PX.cons (PX1.if (b := decide (k = 5)) (PT.castB (by walk_at "cmp") (by simp; omega)) (fun hb => ?_) (fun hb => PX.nil ?_))
  · have h5 : k = 5 := by simpa using hb
    rw [if_pos h5] at hu
    refine PX.cons (PX1.ret (PE.cat (a := [92, 85]) (b := digL 16 sg 8 (65536 + (62976 + 4099 * v) % 1048576)) (by walk_at "pe") (hdig (.inr rfl) (by omega) hsl rfl rfl (by walk_at "pei") (by walk_at "pe") (by walk_at "pe") (by walk_at "pe") (by intro _; exact star_cons rfl) (by intro _; exact star_cons rfl) (by intro _; exact star_cons rfl) (by intro _; exact star_cons rfl))
        (by rw [List.length_append, digL_len, sizeLine_eq]; simp)) (by show PF.ret _ = PF.ret _; rw [hu]))
  show PX _ _ _ _ _ _
  have h5 : ¬ k = 5 := by simpa using hb
  rw [if_neg h5] at hu
  refine PX.cons (PX1.if (b := decide (k = 6)) (PT.castB (by walk_at "cmp") (by simp; omega)) (fun hb => ?_) (fun hb => PX.nil ?_))
  · have h6 : k = 6 := by simpa using hb
    rw [if_pos h6] at hu
    exact PX.cons (PX1.ret (pv := .str [92, 117, 52, 49]) (by walk_at "pe") (by show PF.ret _ = PF.ret _; rw [hu]))
  show PX _ _ _ _ _ _
  have h6 : ¬ k = 6 := by simpa using hb
  rw [if_neg h6] at hu
  refine PX.cons (PX1.if (b := decide (k = 7)) (PT.castB (by walk_at "cmp") (by simp; omega)) (fun hb => ?_) (fun hb => PX.nil ?_))
  · have h7 : k = 7 := by simpa using hb
    rw [if_pos h7] at hu
    exact PX.cons (PX1.ret (pv := .str [92, 85, 48, 48, 48, 49, 102, 54]) (by walk_at "pe") (by show PF.ret _ = PF.ret _; rw [hu]))
  show PX _ _ _ _ _ _
  have h7 : ¬ k = 7 := by simpa using hb
  rw [if_neg h7] at hu
  refine PX.cons (PX1.if (b := decide (k = 8)) (PT.castB (by walk_at "cmp") (by simp; omega)) (fun hb => ?_) (fun hb => PX.nil ?_))
  · have h8 : k = 8 := by simpa using hb
    rw [if_pos h8] at hu
    exact PX.cons (PX1.ret (pv := .str [92]) (by walk_at "pe") (by show PF.ret _ = PF.ret _; rw [hu]))
  show PX _ _ _ _ _ _
  have h8 : ¬ k = 8 := by simpa using hb
  rw [if_neg h8] at hu
  refine PX.cons (PX1.if (b := decide (k = 9)) (PT.castB (by walk_at "cmp") (by simp; omega)) (fun hb => ?_) (fun hb => PX.nil ?_))
  · have h9 : k = 9 := by simpa using hb
    rw [if_pos h9] at hu
    have hlt : v % 5 < brokenT.length := by have := Nat.mod_lt v (show 0 < 5 by decide); simpa [brokenT] using this
    refine PX.cons (PX1.ret (pv := .str (brokenT.getD (v % 5) [])) (PE.idxL (k := (v % 5 : Nat)) (PE.callF0 broken_fn rfl rfl rfl (by decide)) (by walk_at "pei") (by omega) (by omega) ?_) (by show PF.ret _ = PF.ret _; rw [hu]))
    rw [List.getElem?_map, Int.toNat_natCast, List.getD_eq_getElem?_getD, List.getElem?_eq_getElem hlt]; rfl
  show PX _ _ _ _ _ _
  have h9 : ¬ k = 9 := by simpa using hb
  rw [if_neg h9] at hu
  exact PX.cons (PX1.ret (pv := .str []) (by walk_at "pe") (by show PF.ret _ = PF.ret _; rw [hu]))
end
end
section
def OCTL : List Nat := [48, 49, 50, 51, 52, 53, 54, 55]
def MP : List (List Nat × List Nat) := [([97], [7]), ([98], [8]), ([102], [12]), ([110], [10]), ([114], [13]), ([116], [9]), ([118], [11]), ([101], [27]), ([92], [92]), ([34], [34]), ([39], [39]), ([63], [63])]
def hrun (l : List Nat) : Nat := (l.takeWhile isHex).length
theorem runL_hex (l : List Nat) : runL HEXL l = hrun l := by
  unfold runL hrun
  congr 2
  funext c
  by_cases h : c ∈ HEXL
  · rw [(mem_hex c).mp h]; simp [h]
  · have : isHex c = false := by rw [mem_hex] at h; simpa using h
    rw [this]; simp [h]
theorem mem_oct (c : Nat) : c ∈ OCTL ↔ isOct c = true := by
  by_cases h : c < 56
  · have : ∀ c, c < 56 → (c ∈ OCTL ↔ isOct c = true) := by decide
    exact this c h
  · constructor
    · intro hm
      have : ∀ x ∈ OCTL, x < 56 := by decide
      exact absurd (this c hm) h
    · intro hh
      unfold isOct at hh
      simp only [Bool.and_eq_true, decide_eq_true_eq] at hh
      omega
theorem hrun_le (l : List Nat) : hrun l ≤ l.length := by unfold hrun; exact (List.takeWhile_sublist _).length_le
theorem runL_le (sg l : List Nat) : runL sg l ≤ l.length := by unfold runL; exact (List.takeWhile_sublist _).length_le
theorem hrun_cons (c : Nat) (r : List Nat) : hrun (c :: r) = if isHex c = true then hrun r + 1 else 0 := by
  unfold hrun
  rw [List.takeWhile_cons]
  by_cases h : isHex c = true <;> simp [h]
theorem hrun_nil : hrun [] = 0 := rfl
theorem runL_nil (sg : List Nat) : runL sg [] = 0 := rfl
theorem take_hrun : ∀ (l : List Nat) (n : Nat), n ≤ hrun l → ∀ c ∈ l.take n, isHex c = true
  | [], n, _, c, hc => by simp at hc
  | a :: l, 0, _, c, hc => by simp at hc
  | a :: l, n + 1, h, c, hc => by
    rw [hrun_cons] at h
    by_cases ha : isHex a = true
    · rw [if_pos ha] at h
      rw [List.take_succ_cons] at hc
      rcases List.mem_cons.mp hc with rfl | hc
      · exact ha
      · exact take_hrun l n (by omega) c hc
    · rw [if_neg ha] at h; omega
theorem take_oct : ∀ (l : List Nat) (n : Nat), n ≤ runL OCTL l → ∀ c ∈ l.take n, isOct c = true
  | [], n, _, c, hc => by simp at hc
  | a :: l, 0, _, c, hc => by simp at hc
  | a :: l, n + 1, h, c, hc => by
    rw [runL_cons] at h
    by_cases ha : a ∈ OCTL
    · rw [if_pos ha] at h
      rw [List.take_succ_cons] at hc
      rcases List.mem_cons.mp hc with rfl | hc
      · exact (mem_oct _).mp ha
      · exact take_oct l n (by omega) c hc
    · rw [if_neg ha] at h; omega
theorem worth_lt {b : Nat} : ∀ (l : List Nat), (∀ c ∈ l, hexv c < b) → worth b l < b ^ l.length := by
  have main : ∀ (l : List Nat) (acc k : Nat), acc < b ^ k → (∀ c ∈ l, hexv c < b) → l.foldl (fun acc c => acc * b + hexv c) acc < b ^ (k + l.length) := by
    intro l
    induction l with
    | nil => intro acc k h _; exact h
    | cons c l ih =>
      intro acc k h hl
      have hc := hl c (List.mem_cons_self ..)
      have h2 : acc * b + hexv c < b ^ (k + 1) := by
        rw [Nat.pow_succ]
        have : (acc + 1) * b ≤ b ^ k * b := Nat.mul_le_mul_right b h
        rw [Nat.add_mul] at this
        omega
      have := ih _ (k + 1) h2 (fun d hd => hl d (List.mem_cons_of_mem _ hd))
      show List.foldl _ _ l < _
      rw [List.length_cons, show k + (l.length + 1) = k + 1 + l.length by omega]
      exact this
  intro l hl
  have := main l 0 0 (by simp) hl
  simpa [worth] using this

def okAfter : List Nat → Prop
  | [] => True
  | k :: r => (k = 120 → hrun r ≤ 4) ∧ (k = 85 → 8 ≤ hrun r → worth 16 (r.take 8) ≤ 1114111)
def good : List Nat → Prop
  | [] => True
  | c :: t => (c = 92 → okAfter t) ∧ good t
theorem good_drop : ∀ (n : Nat) (l : List Nat), good l → good (l.drop n)
  | 0, l, h => by rwa [List.drop_zero]
  | n + 1, [], h => by simpa using h
  | n + 1, c :: l, h => by rw [List.drop_succ_cons]; exact good_drop n l h.2

def esc1 : List Nat → Option (Nat × Nat)
  | [] => none
  | k :: r =>
    if 0 < runL OCTL (k :: r) then some (worth 8 ((k :: r).take (min 3 (runL OCTL (k :: r)))), min 3 (runL OCTL (k :: r)))
    else if k = 120 ∧ 0 < hrun r then some (worth 16 (r.take (hrun r)), 1 + hrun r)
    else match MP.lookup [k] with
      | some x => some (x.headD 0, 1)
      | none =>
        if k = 117 ∧ 4 ≤ hrun r then some (worth 16 (r.take 4), 5)
        else if k = 85 ∧ 8 ≤ hrun r then some (worth 16 (r.take 8), 9)
        else none

def rdS : Nat → List Nat → List Nat
  | _, [] => []
  | n + 1, _ :: t => rdS n t
  | 0, c :: t => if c = 92 then (match esc1 t with | some p => p.1 :: rdS p.2 t | none => c :: rdS 0 t) else c :: rdS 0 t
def rd (l : List Nat) : List Nat := rdS 0 l
theorem rdS_drop : ∀ (n : Nat) (l : List Nat), rdS n l = rd (l.drop n)
  | 0, l => by rw [List.drop_zero]; rfl
  | n + 1, [] => by rw [List.drop_nil]; rfl
  | n + 1, c :: l => by rw [List.drop_succ_cons]; exact rdS_drop n l
theorem rd_cons (c : Nat) (t : List Nat) : rd (c :: t) = if c = 92 then (match esc1 t with | some p => p.1 :: rd (t.drop p.2) | none => c :: rd t) else c :: rd t := by
  show rdS 0 (c :: t) = _
  rw [rdS]
  by_cases h : c = 92
  · rw [if_pos h, if_pos h]
    cases esc1 t with
    | none => rfl
    | some p => show p.1 :: rdS p.2 t = p.1 :: rd (t.drop p.2); rw [rdS_drop]
  · rw [if_neg h, if_neg h]; rfl
theorem rd_nil : rd [] = [] := rfl

theorem octBound {l : List Nat} : worth 8 (l.take (min 3 (runL OCTL l))) ≤ 1114111 := by
  have h := worth_lt (b := 8) (l.take (min 3 (runL OCTL l))) (fun c hc => oct_lt (take_oct l _ (Nat.min_le_right ..) c hc))
  have h2 : (8 : Nat) ^ (l.take (min 3 (runL OCTL l))).length ≤ 8 ^ 3 := Nat.pow_le_pow_right (by decide) (by rw [List.length_take]; omega)
  omega
theorem hexBound {l : List Nat} {n : Nat} (h1 : n ≤ hrun l) (h2 : n ≤ 4) : worth 16 (l.take n) ≤ 1114111 := by
  have h := worth_lt (b := 16) (l.take n) (fun c hc => hex_lt (take_hrun l _ h1 c hc))
  have h2 : (16 : Nat) ^ (l.take n).length ≤ 16 ^ 4 := Nat.pow_le_pow_right (by decide) (by rw [List.length_take]; omega)
  omega
end
local macro_rules | `(tactic| walk_at "dp") => `(tactic| first | with_reducible exact DP.nil | ((with_reducible refine' DP.cons ?a1 ?a2 ?a3); (case a1 => walk_at "pe"); (case a2 => walk_at "pe"); (case a3 => walk_at "dp")))
section
section
variable {w : World} {d : Nat} {sc : Scope} {m : Env'}
theorem PT.and3 {x y z : Expr} {pos : Pos} {a b c : Bool} (hx : PT w d sc x m a) (hy : a = true → PT w d sc y m b) (hz : a = true → b = true → PT w d sc z m c) : PT w d sc (.BoolOp .And [x, y, z] pos) m (a && b && c) := by
  cases a with
  | false => exact PT.andF hx
  | true =>
    refine PT.andT hx ?_
    cases b with
    | false => exact PT.andF (hy rfl)
    | true =>
      refine PT.andT (hy rfl) ?_
      cases c with
      | false => exact PT.andF (hz rfl rfl)
      | true => exact PT.andT (hz rfl rfl) PT.andNil
theorem PE.chrInt {v a b : Expr} {f : Expr} {cp ip p pos : Pos} {ipos : Pos} {l : List Nat} {i n base : Nat} (hv : PE w d sc v m (.str l)) (ha : PE w d sc a m (.int i)) (hb : PE w d sc b m (.int (i + n : Nat))) (hf : PE w d sc f m (.int base))
    (hbase : base = 8 ∨ base = 16) (hin : i + n ≤ l.length) (hn : 0 < n) (hn2 : n ≤ 640) (hl : l.length ≤ 100000) (hd : ∀ c ∈ (l.drop i).take n, isDig base c = true) (hw : worth base ((l.drop i).take n) ≤ 1114111)
    (hk : sc.kind = .function) (hc : sc.names.lookup (Str.ofString "chr") = some .globalImplicit) (hi : sc.names.lookup (Str.ofString "int") = some .globalImplicit)
    (hs1 : ∀ env, starEach [Expr.Call (.Name (Str.ofString "int") ip) [.Subscript v (.Slice (some a) (some b) .none p) pos, f] [] ipos] env = (false, eval (Expr.Call (.Name (Str.ofString "int") ip) [.Subscript v (.Slice (some a) (some b) .none p) pos, f] [] ipos) env) :: starEach [] env := by intro _; exact star_cons rfl)
    (hs2 : ∀ env, starEach [Expr.Subscript v (.Slice (some a) (some b) .none p) pos, f] env = (false, eval (Expr.Subscript v (.Slice (some a) (some b) .none p) pos) env) :: starEach [f] env := by intro _; exact star_cons rfl)
    (hs3 : ∀ env, starEach [f] env = (false, eval f env) :: starEach [] env := by intro _; exact star_cons rfl) (hp : ∀ (p : Pos) env, (backTo p (starEach [f] env)).any (·.1) = false := by intro _ _; rfl) {cpos : Pos} :
    PE w d sc (.Call (.Name (Str.ofString "chr") cp) [.Call (.Name (Str.ofString "int") ip) [.Subscript v (.Slice (some a) (some b) .none p) pos, f] [] ipos] [] cpos) m (.str [worth base ((l.drop i).take n)]) := by
  have e1 : cutHi (some (((i + n : Nat)) : Int)) l.length = ((i + n : Nat) : Int) := by
    unfold cutHi
    simp only []
    rw [if_neg (by omega)]
  have e2 : cutLo (some (i : Int)) = (i : Int) := rfl
  have hsl := PE.sliceS (v := v) (lo := some a) (hi := some b) (p := p) (pos := pos) (x := l) (l := some (i : Int)) (u := some ((i + n : Nat) : Int)) hv ha hb (by rw [e2]; omega)
    (by rw [e1, e2]; omega) (by rw [e1]; omega) (by rw [sizeLine_eq]; omega)
  have e : (l.drop (cutLo (some (i : Int))).toNat).take ((cutHi (some (((i + n : Nat)) : Int)) l.length).toNat - (cutLo (some (i : Int))).toNat) = (l.drop i).take n := by
    rw [e1, e2, Int.toNat_natCast, Int.toNat_natCast, show i + n - i = n by omega]
  rw [e] at hsl
  have hlen : ((l.drop i).take n).length = n := by rw [List.length_take, List.length_drop]; omega
  have := PE.chr (np := cp) (pos := cpos) (PE.int2 (np := ip) (pos := ipos) hsl hf hbase (fun h => by rw [h] at hlen; simp at hlen; omega) hd (by omega) hk hi hs2 hs3 hp) (by omega) (by omega) hk hc hs1
  rwa [Int.toNat_natCast] at this
end

section
variable {w : World} {d : Nat}
theorem mem_octs (c : Nat) : c ∈ OCTL ↔ c ∈ ([48, 49, 50, 51, 52, 53, 54, 55] : List Nat) := Iff.rfl
theorem good_at {l : List Nat} (hg : good l) {q : Nat} (h : l[q]? = some 92) : okAfter (l.drop (q + 1)) := by
  have hlt := (List.getElem?_eq_some_iff.mp h).1
  have hd : l.drop q = 92 :: l.drop (q + 1) := by rw [List.drop_eq_getElem_cons hlt, (List.getElem?_eq_some_iff.mp h).2]
  have := good_drop q l hg
  rw [hd] at this
  exact this.1 rfl

theorem PE.hexEnd {sc : Scope} {m : Env'} {e1 e2 e3 : Expr} {np pos : Pos} {l : List Nat} {p : Nat} (h1 : PE w (d + 1) sc e1 m (.str l)) (h2 : PE w (d + 1) sc e2 m (.int p)) (h3 : PE w (d + 1) sc e3 m (.int l.length)) (hp : p ≤ l.length) (hl : l.length < 2 ^ 60)
    (hk : sc.kind = .function) (hlk : sc.names.lookup (Str.ofString "_hex_end") = some .globalImplicit)
    (s1 : ∀ env, starEach [e1, e2, e3] env = (false, eval e1 env) :: starEach [e2, e3] env := by intro _; exact star_cons rfl) (s2 : ∀ env, starEach [e2, e3] env = (false, eval e2 env) :: starEach [e3] env := by intro _; exact star_cons rfl)
    (s3 : ∀ env, starEach [e3] env = (false, eval e3 env) :: starEach [] env := by intro _; exact star_cons rfl) :
    PE w (d + 1) sc (.Call (.Name (Str.ofString "_hex_end") np) [e1, e2, e3] [] pos) m (.int (p + hrun (l.drop p) : Nat)) :=
  PE.callF (hexEnd_fn hp hl) rfl hk hlk (by decide) (PEs.cons h1 (PEs.cons h2 (PEs.cons h3 PEs.nil s3) s2) s1) s1
theorem lookMem {k y : List Nat} : ∀ {l : List (List Nat × List Nat)}, l.lookup k = some y → (k, y) ∈ l
  | (a, b) :: l, h => by
    rw [List.lookup_cons] at h
    by_cases e : k = a
    · subst e; rw [beq_self_eq_true] at h; cases h; exact List.mem_cons_self ..
    · rw [beq_eq_false_iff_ne.mpr e] at h; exact List.mem_cons_of_mem _ (lookMem h)
theorem mp_single {k y : List Nat} (h : MP.lookup k = some y) : y = [y.headD 0] := by
  have : ∀ p ∈ MP, p.2 = [p.2.headD 0] := by decide
  exact this _ (lookMem h)

def RI (l : List Nat) (q : Nat) (us : List Nat) (m' : Env') : Prop :=
  m'.lookup (Str.ofString "txt") = some (.str l) ∧ m'.lookup (Str.ofString "endpos") = some (.int l.length) ∧ m'.lookup (Str.ofString "mp") = some (.dict MP) ∧ m'.lookup (Str.ofString "parts") = some (.acc ((us.map fun c => [c]).map .str)) ∧ m'.lookup (Str.ofString "pos") = some (.int q) ∧
    q ≤ l.length ∧ us.length ≤ q ∧ us ++ rd (l.drop q) = rd l

theorem joinChars : ∀ us : List Nat, joinL [] (us.map fun c => [c]) = us
  | [] => rfl
  | [c] => rfl
  | c :: e :: us => by
    show [c] ++ [] ++ joinL [] ((e :: us).map fun c => [c]) = _
    rw [joinChars (e :: us)]; rfl
theorem sumChars : ∀ us : List Nat, ((us.map fun c => [c]).map List.length).sum = us.length
  | [] => rfl
  | c :: us => by rw [List.map_cons, List.map_cons, List.sum_cons, sumChars us]; simp [Nat.add_comm]

theorem replace_fn {l : List Nat} (hl : l.length ≤ 100000) (hg : good l) :
    PFn w (d + 2) (Str.ofString "replace_escape_codes") [.str l] (.str (rd l)) := by
  refine PFn.of (names := [Str.ofString "txt"]) rfl (fun pm cd doc vs hvs => match vs, hvs with | [a], _ => rfl) rfl (by decide) (by simp [PV.isAcc]) ?_ rfl rfl rfl (by decide)
  dsimp only
  refine PX.cons ?_
  with_reducible refine' PX1.assign (pv := .dict MP) ?h1 ?h2 ?h3 ?h4 ?h5 ?h6
  case h6 => intro _; rfl
  case h2 => rfl
  case h3 => rfl
  case h4 => rfl
  case h1 =>
    with_reducible refine' PE.dictE ?k1 ?k2 ?k3 ?k4
    case k2 => simp [MP]
    case k3 => decide
    case k4 => decide
    case k1 =>
      unfold MP
      walk_at "dp"
  case h5 =>
  show PX _ _ _ _ _ _
  refine PX.cons (PX1.assign (pv := .int 0) (by walk_at "pe") rfl rfl rfl ?_)
  show PX _ _ _ _ _ _
  refine PX.cons (PX1.assign (pv := .int l.length) (PE.lenS (by walk_at "pe") (by omega) rfl rfl) rfl rfl rfl ?_)
  show PX _ _ _ _ _ _
  refine PX.cons (PX1.newAcc rfl rfl ?_)
  show PX _ _ _ _ _ _
  refine PX.cons ?_
  refine PX1.while (fun n m' => ∃ q us, RI l q us m' ∧ n = l.length - q) ?turn l.length ⟨0, [], ⟨rfl, rfl, rfl, rfl, rfl, Nat.zero_le _, Nat.le_refl _, rfl⟩, rfl⟩
  rintro n m' ⟨q, us, ⟨htx, hep, hmp, hpa, hpo, hq, hus, hrd⟩, rfl⟩
  by_cases hlt : q < l.length
  case neg =>
    have hql : q = l.length := by omega
    have hrd' : us = rd l := by rw [hql, List.drop_length, rd_nil, List.append_nil] at hrd; exact hrd
    refine ⟨false, ?_, (fun h => Bool.noConfusion h), fun _ => ?_⟩
    · have e : (false : Bool) = decide ((q : Int) ≠ l.length) := by simp; omega
      rw [e]; walk_at "cmp"
    · show PX _ _ _ _ _ _
      refine PX.cons (PX1.ret (pv := .str (joinL [] (us.map fun c => [c]))) (PE.joinAcc (by walk_at "pe") hpa (by rw [sumChars, List.length_map]; simp; omega) rfl rfl) ?_)
      show PF.ret _ = PF.ret _
      rw [joinChars, hrd']
  case pos =>
    refine ⟨true, ?_, (fun _ => ?_), fun h => Bool.noConfusion h⟩
    · have e : (true : Bool) = decide ((q : Int) ≠ l.length) := by simp; omega
      rw [e]; walk_at "cmp"
    have hc : l[q]? = some l[q] := List.getElem?_eq_getElem hlt
    have hdrop : l.drop q = l[q] :: l.drop (q + 1) := List.drop_eq_getElem_cons hlt
    generalize l[q] = c at hc hdrop
    refine PX.cons (PX1.assign (pv := .str [c]) (PE.idxS (k := q) (by walk_at "pe") (by walk_at "pe") (by omega) (by omega) (by simpa using hc)) rfl rfl rfl ?_)
    show PX _ _ _ _ _ _
    refine PX.cons (PX1.mono (R := fun f m2 => (f = .next ∧ RI l q us m2 ∧ m2.lookup (Str.ofString "c") = some (.str [c]) ∧ rd (l.drop q) = c :: rd (l.drop (q + 1))) ∨ (f = .cont ∧ ∃ q' us', q < q' ∧ RI l q' us' m2)) ?body ?rest)
    case rest =>
      rintro f m2 (⟨rfl, ⟨htx, hep, hmp, hpa, hpo, hq, hus, hrd⟩, hcc, hstep⟩ | ⟨rfl, q', us', hqq, hri⟩)
      · show PX _ _ _ _ _ _
        refine PX.cons (PX1.append hpa (pv := .str [c]) (by walk_at "pe") rfl (by simp; omega) rfl rfl ?_)
        show PX _ _ _ _ _ _
        refine PX.cons (PX1.augI (i := q) (j := 1) (by walk_at "lk") (by walk_at "pe") rfl rfl ?_)
        refine PX.nil ⟨l.length - (q + 1), by omega, q + 1, us ++ [c], ⟨by walk_at "lk", by walk_at "lk", by walk_at "lk", ?_, lookSelf, hlt, by simp; omega, ?_⟩, rfl⟩
        · rw [List.map_append, List.map_append]; walk_at "lk"
        · rw [← hrd, hstep, List.append_assoc]; rfl
      · show ∃ n', n' < l.length - q ∧ ∃ q us, RI l q us m2 ∧ n' = l.length - q
        exact ⟨l.length - q', by have := hri.2.2.2.2.2.1; omega, q', us', hri, rfl⟩
    case body =>
    have hrdc := rd_cons c (l.drop (q + 1))
    rw [← hdrop] at hrdc
    refine PX1.if (b := decide (([c] : List Nat) = [92]) && decide ((q : Int) + 1 ≠ l.length)) (PT.and2 (by walk_at "cmp") (fun _ => by walk_at "cmp")) (fun hb => ?_) (fun hb => PX.nil (.inl ⟨rfl, ⟨by walk_at "lk", by walk_at "lk", by walk_at "lk", by walk_at "lk", by walk_at "lk", hq, hus, hrd⟩, lookSelf, ?_⟩))
    case refine_2 =>
      rw [hrdc]
      by_cases h92 : c = 92
      · have : l.length = q + 1 := by
          subst h92
          simp at hb; omega
        rw [if_pos h92, List.drop_of_length_le (by omega)]; rfl
      · rw [if_neg h92]
    obtain ⟨h92, hlt2⟩ : c = 92 ∧ q + 1 < l.length := by
      simp at hb; omega
    rw [if_pos h92] at hrdc
    have hok : okAfter (l.drop (q + 1)) := good_at hg (h92 ▸ hc)
    have hk : l[q + 1]? = some l[q + 1] := List.getElem?_eq_getElem hlt2
    have hdrop2 : l.drop (q + 1) = l[q + 1] :: l.drop (q + 2) := List.drop_eq_getElem_cons hlt2
    generalize l[q + 1] = k at hk hdrop2
    have fin : ∀ {x n : Nat} {m2 : Env'}, esc1 (l.drop (q + 1)) = some (x, n) → q + 1 + n ≤ l.length → m2.lookup (Str.ofString "txt") = some (.str l) → m2.lookup (Str.ofString "endpos") = some (.int l.length) → m2.lookup (Str.ofString "mp") = some (.dict MP) →
        m2.lookup (Str.ofString "parts") = some (.acc ((us.map fun c => [c]).map .str ++ [.str [x]])) → m2.lookup (Str.ofString "pos") = some (.int (q + 1 + n : Nat)) → ∃ q' us', q < q' ∧ RI l q' us' m2 := by
      intro x n m2 he hn h1 h2 h3 h4 h5
      refine ⟨q + 1 + n, us ++ [x], by omega, h1, h2, h3, ?_, h5, hn, by simp; omega, ?_⟩
      · rw [List.map_append, List.map_append]; exact h4
      · rw [he] at hrdc
        rw [← hrd, hrdc]
        show us ++ [x] ++ rd _ = us ++ (x :: rd ((l.drop (q + 1)).drop n))
        rw [List.drop_drop, List.append_assoc]; rfl
    refine PX.cons (PX1.assign (pv := .str [k]) (PE.idxS (k := (q : Int) + 1) (by walk_at "pe") (by walk_at "pe") (by omega) (by omega) (by rw [show ((q : Int) + 1).toNat = q + 1 by omega]; exact hk)) rfl rfl rfl ?_)
    show PX _ _ _ _ _ _
    refine PX.cons (PX1.if (b := decide (k ∈ OCTL)) (PT.cmp (a := .str [k]) (b := .str OCTL) (by walk_at "pe") (by walk_at "pe") CO.inS rfl) (fun hb => ?_) (fun hb => PX.nil ?_))
    · have hko : k ∈ OCTL := by simpa using hb
      have he : esc1 (l.drop (q + 1)) = some (worth 8 ((l.drop (q + 1)).take (min 3 (runL OCTL (l.drop (q + 1))))), min 3 (runL OCTL (l.drop (q + 1)))) := by
        rw [hdrop2, esc1, if_pos (by rw [runL_cons, if_pos hko]; omega)]
      have hpos : 0 < min 3 (runL OCTL (l.drop (q + 1))) := by rw [hdrop2, runL_cons, if_pos hko]; omega
      have hle : runL OCTL (l.drop (q + 1)) ≤ l.length - (q + 1) := by have := runL_le OCTL (l.drop (q + 1)); rwa [List.length_drop] at this
      refine PX.cons (PX1.assign (pv := .int ((q + 1 : Nat) : Int)) (by walk_at "pei") rfl rfl rfl ?_)
      show PX _ _ _ _ _ _
      refine PX.cons (PX1.mono (R := fun f m2 => f = .next ∧ m2.lookup (Str.ofString "txt") = some (.str l) ∧ m2.lookup (Str.ofString "endpos") = some (.int l.length) ∧ m2.lookup (Str.ofString "mp") = some (.dict MP) ∧ m2.lookup (Str.ofString "parts") = some (.acc ((us.map fun c => [c]).map .str)) ∧ m2.lookup (Str.ofString "pos") = some (.int q) ∧
          m2.lookup (Str.ofString "end") = some (.int (q + 1 + min 3 (runL OCTL (l.drop (q + 1))) : Nat))) ?wh ?ko)
      case ko =>
        rintro f m2 ⟨rfl, h1, h2, h3, h4, h5, h6⟩
        show PX _ _ _ _ _ _
        refine PX.cons (PX1.append h4 (pv := .str [worth 8 ((l.drop (q + 1)).take (min 3 (runL OCTL (l.drop (q + 1)))))]) (PE.chrInt (base := 8) (i := q + 1) (n := min 3 (runL OCTL (l.drop (q + 1)))) (by walk_at "pe") (by walk_at "pei") (by walk_at "pe") (by walk_at "pei") (.inl rfl) (by omega) hpos (by omega) hl ?_ octBound rfl rfl rfl) rfl (by simp; omega) rfl rfl ?_)
        · intro c hc
          unfold isDig; rw [if_pos rfl]; exact take_oct _ _ (Nat.min_le_right ..) c hc
        show PX _ _ _ _ _ _
        refine PX.cons (PX1.assign (pv := .int (q + 1 + min 3 (runL OCTL (l.drop (q + 1))) : Nat)) (by walk_at "pe") rfl rfl rfl ?_)
        show PX _ _ _ _ _ _
        exact PX.cons (PX1.cont (.inr ⟨rfl, fin he (by omega) (by walk_at "lk") (by walk_at "lk") (by walk_at "lk") (by walk_at "lk") lookSelf⟩))
      case wh =>
        refine PX1.while (fun n m2 => m2.lookup (Str.ofString "txt") = some (.str l) ∧ m2.lookup (Str.ofString "endpos") = some (.int l.length) ∧ m2.lookup (Str.ofString "mp") = some (.dict MP) ∧ m2.lookup (Str.ofString "parts") = some (.acc ((us.map fun c => [c]).map .str)) ∧ m2.lookup (Str.ofString "pos") = some (.int q) ∧
          ∃ e : Nat, m2.lookup (Str.ofString "end") = some (.int e) ∧ q + 1 ≤ e ∧ e ≤ q + 4 ∧ e ≤ l.length ∧ n = l.length - e ∧ (e - (q + 1)) + min (q + 4 - e) (runL OCTL (l.drop e)) = min 3 (runL OCTL (l.drop (q + 1)))) ?_ (l.length - (q + 1))
          ⟨by walk_at "lk", by walk_at "lk", by walk_at "lk", by walk_at "lk", by walk_at "lk", q + 1, lookSelf, Nat.le_refl _, by omega, by omega, rfl, by rw [show q + 4 - (q + 1) = 3 by omega]; omega⟩
        rintro n m2 ⟨h1, h2, h3, h4, h5, e, h6, he1, he2, he3, rfl, hv⟩
        by_cases hel : e < l.length
        · have hge : l[e]? = some l[e] := List.getElem?_eq_getElem hel
          have hde : l.drop e = l[e] :: l.drop (e + 1) := List.drop_eq_getElem_cons hel
          generalize l[e] = z at hge hde
          rw [hde, runL_cons] at hv
          refine ⟨decide ((e : Int) ≠ l.length) && decide ((e : Int) < q + 4) && decide (z ∈ OCTL), PT.and3 (by walk_at "cmp") (fun _ => by walk_at "cmp") (fun _ _ => ?_), fun hb => ?_, fun hb => ?_⟩
          · refine PT.cmp (a := .str [z]) (b := .str OCTL) (PE.idxS (k := e) (by walk_at "pe") (by walk_at "pe") (by omega) (by omega) (by simpa using hge)) (by walk_at "pe") CO.inS rfl
          · simp only [Bool.and_eq_true, decide_eq_true_eq] at hb
            rw [if_pos hb.2] at hv
            refine PX.cons (PX1.augI (i := e) (j := 1) (by walk_at "lk") (by walk_at "pe") rfl rfl ?_)
            refine PX.nil ⟨l.length - (e + 1), by omega, by walk_at "lk", by walk_at "lk", by walk_at "lk", by walk_at "lk", by walk_at "lk", e + 1, lookSelf, by omega, by omega, by omega, rfl, by omega⟩
          · refine ⟨rfl, h1, h2, h3, h4, h5, ?_⟩
            rw [← hv, h6]
            congr 2
            by_cases hz : z ∈ OCTL
            · have : ¬ (e : Int) < q + 4 := fun h => by
                rw [decide_eq_true h, decide_eq_true hz, decide_eq_true (show (e : Int) ≠ l.length by omega)] at hb
                exact Bool.noConfusion hb
              omega
            · rw [if_neg hz]; omega
        · refine ⟨false && true && true, PT.and3 ?_ (fun h => Bool.noConfusion h) (fun h => Bool.noConfusion h), fun hb => Bool.noConfusion hb, fun _ => ⟨rfl, h1, h2, h3, h4, h5, ?_⟩⟩
          · have e' : (false : Bool) = decide ((e : Int) ≠ l.length) := by simp; omega
            rw [e']; walk_at "cmp"
          · rw [← hv, h6, List.drop_of_length_le (by omega), runL_nil]
            congr 2; omega
    show PX _ _ _ _ _ _
    have hno : ¬ k ∈ OCTL := by simpa using hb
    have he0 : esc1 (l.drop (q + 1)) = (if k = 120 ∧ 0 < hrun (l.drop (q + 2)) then some (worth 16 ((l.drop (q + 2)).take (hrun (l.drop (q + 2)))), 1 + hrun (l.drop (q + 2)))
      else match MP.lookup [k] with
        | some x => some (x.headD 0, 1)
        | none =>
          if k = 117 ∧ 4 ≤ hrun (l.drop (q + 2)) then some (worth 16 ((l.drop (q + 2)).take 4), 5)
          else if k = 85 ∧ 8 ≤ hrun (l.drop (q + 2)) then some (worth 16 ((l.drop (q + 2)).take 8), 9)
          else none) := by
      rw [hdrop2, esc1, if_neg (by rw [runL_cons, if_neg hno]; omega)]
      try rfl
    rw [hdrop2] at hok
    have hhl : hrun (l.drop (q + 2)) ≤ l.length - (q + 2) := by have := hrun_le (l.drop (q + 2)); rwa [List.length_drop] at this
    refine PX.cons (PX1.if (b := decide (([k] : List Nat) = [120]) && decide (((q + 2 : Nat) : Int) < ((q + 2 + hrun (l.drop (q + 2)) : Nat) : Int))) (PT.and2 (by walk_at "cmp") (fun _ => PT.cmp (PE.hexEnd (by walk_at "pe") (by walk_at "pei") (by walk_at "pe") (by omega) (by omega) rfl rfl) (by walk_at "pei") CO.gtI rfl)) (fun hb => ?_) (fun hb => PX.nil ?_))
    · obtain ⟨hk1, hk2⟩ : k = 120 ∧ 0 < hrun (l.drop (q + 2)) := by
        simp at hb; omega
      rw [if_pos ⟨hk1, hk2⟩] at he0
      have h4 := hok.1 hk1
      refine PX.cons (PX1.assign (pv := .int (q + 2 + hrun (l.drop (q + 2)) : Nat)) (PE.hexEnd (by walk_at "pe") (by walk_at "pei") (by walk_at "pe") (by omega) (by omega) rfl rfl) rfl rfl rfl ?_)
      show PX _ _ _ _ _ _
      refine PX.cons (PX1.append (l := (us.map fun c => [c]).map .str) (by walk_at "lk") (pv := .str [worth 16 ((l.drop (q + 2)).take (hrun (l.drop (q + 2))))]) (PE.chrInt (base := 16) (i := q + 2) (n := hrun (l.drop (q + 2))) (by walk_at "pe") (by walk_at "pei") (by walk_at "pe") (by walk_at "pei") (.inr rfl) (by omega) hk2 (by omega) hl ?_ (hexBound (Nat.le_refl _) h4) rfl rfl rfl) rfl (by simp; omega) rfl rfl ?_)
      · intro c hc
        exact take_hrun _ _ (Nat.le_refl _) c hc
      show PX _ _ _ _ _ _
      refine PX.cons (PX1.assign (pv := .int (q + 2 + hrun (l.drop (q + 2)) : Nat)) (by walk_at "pe") rfl rfl rfl ?_)
      show PX _ _ _ _ _ _
      exact PX.cons (PX1.cont (.inr ⟨rfl, fin he0 (by omega) (by walk_at "lk") (by walk_at "lk") (by walk_at "lk") (by walk_at "lk") (by rw [show q + 1 + (1 + hrun (l.drop (q + 2))) = q + 2 + hrun (l.drop (q + 2)) by omega]; exact lookSelf)⟩))
    show PX _ _ _ _ _ _
    have hx : ¬ (k = 120 ∧ 0 < hrun (l.drop (q + 2))) := by
      simp at hb; omega
    rw [if_neg hx] at he0
    refine PX.cons (PX1.if (b := (MP.lookup [k]).isSome) (by walk_at "cmp") (fun hb => ?_) (fun hb => PX.nil ?_))
    · obtain ⟨y, hy⟩ := Option.isSome_iff_exists.mp hb
      have hy1 := mp_single hy
      generalize y.headD 0 = x at hy1
      subst hy1
      rw [hy] at he0
      refine PX.cons (PX1.append (l := (us.map fun c => [c]).map .str) (by walk_at "lk") (pv := .str [x]) (PE.idxD (l := MP) (by walk_at "pe") (by walk_at "pe") hy) rfl (by simp; omega) rfl rfl ?_)
      show PX _ _ _ _ _ _
      refine PX.cons (PX1.augI (i := q) (j := 2) (by walk_at "lk") (by walk_at "pe") rfl rfl ?_)
      show PX _ _ _ _ _ _
      exact PX.cons (PX1.cont (.inr ⟨rfl, fin he0 (by omega) (by walk_at "lk") (by walk_at "lk") (by walk_at "lk") (by walk_at "lk") lookSelf⟩))
    show PX _ _ _ _ _ _
    have hy : MP.lookup [k] = none := by simpa using hb
    rw [hy] at he0
    refine PX.cons (PX1.if (b := decide (([k] : List Nat) = [117]) && decide (((q + 6 : Nat) : Int) ≤ ((q + 2 + hrun (l.drop (q + 2)) : Nat) : Int))) (PT.and2 (by walk_at "cmp") (fun _ => PT.cmp (PE.hexEnd (by walk_at "pe") (by walk_at "pei") (by walk_at "pe") (by omega) (by omega) rfl rfl) (by walk_at "pei") CO.geI rfl)) (fun hb => ?_) (fun hb => PX.nil ?_))
    · obtain ⟨hk1, hk2⟩ : k = 117 ∧ 4 ≤ hrun (l.drop (q + 2)) := by
        simp at hb; omega
      have he1 : esc1 (l.drop (q + 1)) = some (worth 16 ((l.drop (q + 2)).take 4), 5) := he0.trans (if_pos ⟨hk1, hk2⟩)
      refine PX.cons (PX1.append (l := (us.map fun c => [c]).map .str) (by walk_at "lk") (pv := .str [worth 16 ((l.drop (q + 2)).take 4)]) (PE.chrInt (base := 16) (i := q + 2) (n := 4) (by walk_at "pe") (by walk_at "pei") (by walk_at "pei") (by walk_at "pei") (.inr rfl) (by omega) (by omega) (by omega) hl ?_ (hexBound hk2 (by omega)) rfl rfl rfl) rfl (by simp; omega) rfl rfl ?_)
      · intro c hc
        exact take_hrun _ _ hk2 c hc
      show PX _ _ _ _ _ _
      refine PX.cons (PX1.augI (i := q) (j := 6) (by walk_at "lk") (by walk_at "pe") rfl rfl ?_)
      show PX _ _ _ _ _ _
      exact PX.cons (PX1.cont (.inr ⟨rfl, fin he1 (by omega) (by walk_at "lk") (by walk_at "lk") (by walk_at "lk") (by walk_at "lk") lookSelf⟩))
    show PX _ _ _ _ _ _
    have hu : ¬ (k = 117 ∧ 4 ≤ hrun (l.drop (q + 2))) := by
      simp at hb; omega
    refine PX.cons (PX1.if (b := decide (([k] : List Nat) = [85]) && decide (((q + 10 : Nat) : Int) ≤ ((q + 2 + hrun (l.drop (q + 2)) : Nat) : Int))) (PT.and2 (by walk_at "cmp") (fun _ => PT.cmp (PE.hexEnd (by walk_at "pe") (by walk_at "pei") (by walk_at "pe") (by omega) (by omega) rfl rfl) (by walk_at "pei") CO.geI rfl)) (fun hb => ?_) (fun hb => PX.nil ?_))
    · obtain ⟨hk1, hk2⟩ : k = 85 ∧ 8 ≤ hrun (l.drop (q + 2)) := by
        simp at hb; omega
      have he1 : esc1 (l.drop (q + 1)) = some (worth 16 ((l.drop (q + 2)).take 8), 9) := he0.trans ((if_neg hu).trans (if_pos ⟨hk1, hk2⟩))
      refine PX.cons (PX1.append (l := (us.map fun c => [c]).map .str) (by walk_at "lk") (pv := .str [worth 16 ((l.drop (q + 2)).take 8)]) (PE.chrInt (base := 16) (i := q + 2) (n := 8) (by walk_at "pe") (by walk_at "pei") (by walk_at "pei") (by walk_at "pei") (.inr rfl) (by omega) (by omega) (by omega) hl ?_ (hok.2 hk1 hk2) rfl rfl rfl) rfl (by simp; omega) rfl rfl ?_)
      · intro c hc
        exact take_hrun _ _ hk2 c hc
      show PX _ _ _ _ _ _
      refine PX.cons (PX1.augI (i := q) (j := 10) (by walk_at "lk") (by walk_at "pe") rfl rfl ?_)
      show PX _ _ _ _ _ _
      exact PX.cons (PX1.cont (.inr ⟨rfl, fin he1 (by omega) (by walk_at "lk") (by walk_at "lk") (by walk_at "lk") (by walk_at "lk") lookSelf⟩))
    show PX _ _ _ _ _ _
    have hU : ¬ (k = 85 ∧ 8 ≤ hrun (l.drop (q + 2))) := by
      simp at hb; omega
    have he1 : esc1 (l.drop (q + 1)) = none := he0.trans ((if_neg hu).trans (if_neg hU))
    refine PX.nil (.inl ⟨rfl, ⟨by walk_at "lk", by walk_at "lk", by walk_at "lk", by walk_at "lk", by walk_at "lk", hq, hus, hrd⟩, by walk_at "lk", ?_⟩)
    rw [hrdc, he1]
end
end
section
def escP (p : List Nat) : List Nat := match esc1 p with | some q => q.1 :: p.drop q.2 | none => 92 :: p
def lr : List (List Nat) → List Nat
  | [] => []
  | [p] => if p ≠ [] then escP p else [92]
  | p :: q :: qs => if p ≠ [] then escP p ++ lr (q :: qs) else 92 :: (q ++ lr qs)
def sfx : List (List Nat) → List Nat
  | [] => []
  | p :: ps => 92 :: joinL [92] (p :: ps)
theorem join_sfx (p : List Nat) (ps : List (List Nat)) : joinL [92] (p :: ps) = p ++ sfx ps := by
  cases ps with
  | nil => show p = p ++ []; rw [List.append_nil]
  | cons q qs => show p ++ [92] ++ joinL [92] (q :: qs) = p ++ (92 :: joinL [92] (q :: qs)); rw [List.append_assoc]; rfl
theorem sfx_cons (p : List Nat) (ps : List (List Nat)) : sfx (p :: ps) = 92 :: (p ++ sfx ps) := by rw [← join_sfx]; rfl
def Stop (s : List Nat) : Prop := s = [] ∨ ∃ t, s = 92 :: t
theorem stop_sfx (ps : List (List Nat)) : Stop (sfx ps) := by
  cases ps with
  | nil => exact .inl rfl
  | cons p ps => exact .inr ⟨_, rfl⟩
theorem rd_free : ∀ (p s : List Nat), 92 ∉ p → rd (p ++ s) = p ++ rd s
  | [], s, _ => rfl
  | c :: p, s, h => by
    rw [List.cons_append, rd_cons, if_neg (fun e => h (by rw [e]; exact List.mem_cons_self ..)), rd_free p s (fun e => h (List.mem_cons_of_mem _ e))]
    rfl
theorem hrun_stop {s : List Nat} (hs : Stop s) : ∀ r : List Nat, hrun (r ++ s) = hrun r
  | [] => by
    rcases hs with rfl | ⟨t, rfl⟩
    · rfl
    · rfl
  | c :: r => by
    rw [List.cons_append, hrun_cons, hrun_cons, hrun_stop hs r]
theorem orun_stop {s : List Nat} (hs : Stop s) : ∀ r : List Nat, runL OCTL (r ++ s) = runL OCTL r
  | [] => by
    rcases hs with rfl | ⟨t, rfl⟩
    · rfl
    · rw [List.nil_append, runL_cons, if_neg (by decide)]; rfl
  | c :: r => by
    rw [List.cons_append, runL_cons, runL_cons, orun_stop hs r]
theorem take_stop {s r : List Nat} {n : Nat} (h : n ≤ r.length) : (r ++ s).take n = r.take n := by
  rw [List.take_append_of_le_length h]
theorem esc1_stop {s p : List Nat} (hs : Stop s) (hp : p ≠ []) : esc1 (p ++ s) = esc1 p := by
  cases p with
  | nil => exact absurd rfl hp
  | cons k r =>
    have h1 := hrun_stop hs r
    have h2 := orun_stop hs (k :: r)
    have h3 := hrun_le r
    have h4 := runL_le OCTL (k :: r)
    rw [List.cons_append] at h2 ⊢
    show esc1 (k :: (r ++ s)) = esc1 (k :: r)
    rw [esc1, esc1, h1, h2]
    rw [← List.cons_append, take_stop (show min 3 (runL OCTL (k :: r)) ≤ (k :: r).length by omega), take_stop h3]
    congr 1
    congr 1
    cases List.lookup [k] MP with
    | some x => rfl
    | none =>
      show ite _ _ _ = ite _ _ _
      by_cases a : k = 117 ∧ 4 ≤ hrun r
      · rw [if_pos a, if_pos a, take_stop (by omega)]
      · rw [if_neg a, if_neg a]
        by_cases b : k = 85 ∧ 8 ≤ hrun r
        · rw [if_pos b, if_pos b, take_stop (by omega)]
        · rw [if_neg b, if_neg b]
theorem esc1_le {p : List Nat} {q : Nat × Nat} (h : esc1 p = some q) : q.2 ≤ p.length ∧ 1 ≤ q.2 := by
  cases p with
  | nil => cases h
  | cons k r =>
    have h3 := hrun_le r
    have h4 := runL_le OCTL (k :: r)
    rw [esc1] at h
    split at h
    · cases h; simp only [List.length_cons] at *; omega
    · split at h
      · cases h; simp only [List.length_cons] at *; omega
      · split at h
        · cases h; simp
        · split at h
          · cases h; simp only [List.length_cons] at *; omega
          · split at h
            · cases h; simp only [List.length_cons] at *; omega
            · cases h
theorem rd_step {p s : List Nat} (hs : Stop s) (hp : p ≠ []) (hf : 92 ∉ p) : rd (92 :: (p ++ s)) = escP p ++ rd s := by
  rw [rd_cons, if_pos rfl, esc1_stop hs hp]
  unfold escP
  cases h : esc1 p with
  | none =>
    show 92 :: rd (p ++ s) = 92 :: p ++ rd s
    rw [rd_free p s hf]; rfl
  | some q =>
    show q.1 :: rd ((p ++ s).drop q.2) = (q.1 :: p.drop q.2) ++ rd s
    rw [List.drop_append_of_le_length (esc1_le h).1, rd_free _ _ (fun e => hf (List.mem_of_mem_drop e))]; rfl
theorem rd_back (t : List Nat) : rd (92 :: 92 :: t) = 92 :: rd t := by
  have h : esc1 (92 :: t) = some (92, 1) := by
    rw [esc1, if_neg (by rw [runL_cons, if_neg (by decide)]; decide), if_neg (fun h => absurd h.1 (by decide))]
    rfl
  rw [rd_cons, if_pos rfl, h]; rfl
theorem lr_rd : ∀ ps : List (List Nat), (∀ p ∈ ps, 92 ∉ p) → rd (sfx ps) = lr ps
  | [], _ => rfl
  | [p], h => by
    rw [sfx_cons]
    by_cases hp : p = []
    · subst hp
      rfl
    · rw [rd_step (stop_sfx []) hp (h p (List.mem_cons_self ..)), lr, if_pos hp]
      show escP p ++ rd [] = _
      rw [rd_nil, List.append_nil]
  | p :: q :: qs, h => by
    rw [sfx_cons]
    by_cases hp : p = []
    · subst hp
      rw [sfx_cons]
      show rd (92 :: 92 :: (q ++ sfx qs)) = _
      rw [rd_back, rd_free q _ (h q (by simp)), lr_rd qs (fun r hr => h r (by simp [hr]))]
      rw [lr, if_neg (by simp)]
    · rw [rd_step (stop_sfx _) hp (h p (List.mem_cons_self ..)), lr_rd (q :: qs) (fun r hr => h r (List.mem_cons_of_mem _ hr)), lr, if_pos hp]
theorem rdS_len : ∀ (n : Nat) (l : List Nat), (rdS n l).length ≤ l.length - n
  | n, [] => by
    have : rdS n [] = [] := by cases n <;> rfl
    rw [this]; simp
  | n + 1, c :: t => by have := rdS_len n t; simp only [rdS, List.length_cons]; omega
  | 0, c :: t => by
    rw [rdS]
    have h0 := rdS_len 0 t
    by_cases h : c = 92
    · rw [if_pos h]
      cases he : esc1 t with
      | none => simp only [List.length_cons]; omega
      | some q =>
        have := rdS_len q.2 t
        simp only [List.length_cons]; omega
    · rw [if_neg h]; simp only [List.length_cons]; omega
theorem rd_len (l : List Nat) : (rd l).length ≤ l.length := rdS_len 0 l
theorem ok_stop {p s : List Nat} (hs : Stop s) (h : okAfter (p ++ s)) : okAfter p := by
  cases p with
  | nil => trivial
  | cons k r =>
    obtain ⟨h1, h2⟩ := h
    have h3 := hrun_le r
    have e : hrun (List.append r s) = hrun r := hrun_stop hs r
    refine ⟨fun hk => by have := h1 hk; rwa [e] at this, fun hk h8 => ?_⟩
    have := h2 hk (by rw [e]; exact h8)
    have e2 : List.take 8 (List.append r s) = r.take 8 := take_stop (by omega)
    rwa [e2] at this
theorem good_parts : ∀ ps : List (List Nat), good (sfx ps) → ∀ p ∈ ps, okAfter p
  | [], _, p, hp => nomatch hp
  | q :: ps, h, p, hp => by
    rw [sfx_cons] at h
    rcases List.mem_cons.mp hp with rfl | hp
    · exact ok_stop (stop_sfx _) (h.1 rfl)
    · refine good_parts ps ?_ p hp
      have := good_drop q.length _ h.2
      rwa [List.drop_left'  rfl] at this

theorem simp_find {k : Nat} (hk : k ≠ 92) : (∃ i : Nat, idxOf k SIMP = i ∧ ∃ x, meantT[i]? = some x ∧ x ≤ 127 ∧ MP.lookup [k] = some [x]) ∨ (idxOf k SIMP = -1 ∧ MP.lookup [k] = none) := by
  by_cases h : k ∈ SIMP
  · refine .inl ?_
    simp only [SIMP, List.mem_cons, List.not_mem_nil, or_false] at h
    rcases h with rfl | rfl | rfl | rfl | rfl | rfl | rfl | rfl | rfl | rfl | rfl | rfl
    · exact ⟨0, by decide, 7, rfl, by decide, rfl⟩
    · exact ⟨1, by decide, 8, rfl, by decide, rfl⟩
    · exact ⟨2, by decide, 12, rfl, by decide, rfl⟩
    · exact ⟨3, by decide, 10, rfl, by decide, rfl⟩
    · exact ⟨4, by decide, 13, rfl, by decide, rfl⟩
    · exact ⟨5, by decide, 9, rfl, by decide, rfl⟩
    · exact ⟨6, by decide, 11, rfl, by decide, rfl⟩
    · exact ⟨7, by decide, 27, rfl, by decide, rfl⟩
    · exact ⟨8, by decide, 34, rfl, by decide, rfl⟩
    · exact ⟨9, by decide, 39, rfl, by decide, rfl⟩
    · exact ⟨10, by decide, 63, rfl, by decide, rfl⟩
    · exact absurd rfl hk
  · refine .inr ⟨?_, ?_⟩
    · rcases idxOf_spec k SIMP with h1 | ⟨i, _, h2, _⟩
      · exact h1.1
      · exact absurd (List.mem_of_getElem? h2) h
    · cases hl : MP.lookup [k] with
      | none => rfl
      | some y =>
        refine absurd ?_ h
        have := lookMem hl
        have all : ∀ p ∈ MP, ∀ c ∈ p.1, c ∈ SIMP := by decide
        exact all _ this k (List.mem_cons_self ..)
end
section
section
variable {w : World} {d : Nat} {sc : Scope} {m : Env'}
theorem PE.between {v a b : Expr} {p pos : Pos} {x : List Nat} {i n : Nat} (hv : PE w d sc v m (.str x)) (ha : PE w d sc a m (.int i)) (hb : PE w d sc b m (.int (i + n : Nat))) (hin : i + n ≤ x.length) (hx : x.length ≤ 100000) :
    PE w d sc (.Subscript v (.Slice (some a) (some b) .none p) pos) m (.str ((x.drop i).take n)) := by
  have e1 : cutHi (some (((i + n : Nat)) : Int)) x.length = ((i + n : Nat) : Int) := by
    unfold cutHi
    simp only []
    rw [if_neg (by omega)]
  have e2 : cutLo (some (i : Int)) = (i : Int) := rfl
  have h := PE.sliceS (lo := some a) (hi := some b) (p := p) (pos := pos) (l := some (i : Int)) (u := some ((i + n : Nat) : Int)) hv ha hb (by rw [e2]; omega) (by rw [e1, e2]; omega) (by rw [e1]; omega) (by rw [sizeLine_eq]; omega)
  rwa [e1, e2, Int.toNat_natCast, Int.toNat_natCast, show i + n - i = n by omega] at h
theorem PE.upto {v b : Expr} {p pos : Pos} {x : List Nat} {n : Nat} (hv : PE w d sc v m (.str x)) (hb : PE w d sc b m (.int n)) (hin : n ≤ x.length) (hx : x.length ≤ 100000) :
    PE w d sc (.Subscript v (.Slice .none (some b) .none p) pos) m (.str (x.take n)) := by
  have e1 : cutHi (some ((n : Nat) : Int)) x.length = (n : Int) := by
    unfold cutHi
    simp only []
    rw [if_neg (by omega)]
  have e2 : cutLo .none = (0 : Int) := rfl
  have h := PE.sliceS (lo := .none) (hi := some b) (p := p) (pos := pos) (l := .none) (u := some (n : Int)) hv trivial hb (by rw [e2]; omega) (by rw [e1, e2]; omega) (by rw [e1]; omega) (by rw [sizeLine_eq]; omega)
  rwa [e1, e2, Int.toNat_natCast, show (0 : Int).toNat = 0 from rfl, List.drop_zero, Nat.sub_zero] at h
theorem PE.from {v a : Expr} {p pos : Pos} {x : List Nat} {n : Nat} (hv : PE w d sc v m (.str x)) (ha : PE w d sc a m (.int n)) (hin : n ≤ x.length) (hx : x.length ≤ 100000) :
    PE w d sc (.Subscript v (.Slice (some a) .none .none p) pos) m (.str (x.drop n)) := by
  have e1 : cutHi .none x.length = (x.length : Int) := rfl
  have e2 : cutLo (some (n : Int)) = (n : Int) := rfl
  have h := PE.sliceS (lo := some a) (hi := .none) (p := p) (pos := pos) (l := some (n : Int)) (u := .none) hv ha trivial (by rw [e2]; omega) (by rw [e1, e2]; omega) (by rw [e1]; omega) (by rw [sizeLine_eq]; omega)
  rwa [e1, e2, Int.toNat_natCast, Int.toNat_natCast, List.take_of_length_le (by rw [List.length_drop]; omega)] at h
end

section
variable {w : World} {d : Nat}
theorem splitL_ne (c : Nat) (x : List Nat) : splitL c x ≠ [] := by
  intro h
  have h : Txt.split (S x) (S [c]) = [] := List.map_eq_nil_iff.mp h
  unfold Txt.split at h
  split at h
  · cases h
  · split at h
    · cases h
    · rw [StrLaws.partsBetween_eq] at h
      obtain ⟨p, r, e⟩ := StrLaws.partsFrom_ne (S x) (S [c]).length 0 (Builtin.Str.occurrences (S x) (S [c]) 0 (S x).length ((S x).length + 1))
      rw [e] at h; cases h

theorem escape_fn {k : Nat} {r : List Nat} (hl : (k :: r).length ≤ 100000) (hf : 92 ∉ k :: r) (hok : okAfter (k :: r)) :
    PFn w (d + 2) (Str.ofString "_law_escape") [.str (k :: r)] (.str (escP (k :: r))) := by
  refine PFn.of (names := [Str.ofString "part"]) rfl (fun pm cd doc vs hvs => match vs, hvs with | [a], _ => rfl) rfl (by decide) (by simp [PV.isAcc]) ?_ rfl rfl rfl (by decide)
  dsimp only
  have hk92 : k ≠ 92 := fun e => hf (by rw [e]; exact List.mem_cons_self ..)
  simp only [List.length_cons] at hl
  have h3 := hrun_le r
  have h4 := runL_le OCTL (k :: r)
  simp only [List.length_cons] at h4
  have hel : (escP (k :: r)).length ≤ sizeLine := by
    rw [sizeLine_eq]
    unfold escP
    cases he : esc1 (k :: r) with
    | none => simp; omega
    | some q => simp; omega
  unfold escP at hel ⊢
  refine PX.cons (PX1.assign (pv := .int (min 3 (runL OCTL (k :: r)) : Nat)) (PE.castI (PE.min2 (by walk_at "pe") (PE.callF (run_fn (sg := OCTL)) rfl rfl rfl (by decide) (PEs.cons (by walk_at "pe") (PEs.cons (by walk_at "pe") PEs.nil))) rfl rfl) (by omega)) rfl rfl rfl ?_)
  show PX _ _ _ _ _ _
  refine PX.cons (PX1.if (b := decide (0 < min 3 (runL OCTL (k :: r)))) (PT.castB (by walk_at "cmp") (by simp)) (fun hb => ?_) (fun hb => PX.nil ?_))
  · have hb' : 0 < runL OCTL (k :: r) := by simp at hb; omega
    have he : esc1 (k :: r) = some (worth 8 ((k :: r).take (min 3 (runL OCTL (k :: r)))), min 3 (runL OCTL (k :: r))) := by rw [esc1, if_pos hb']
    rw [he] at hel ⊢
    have hd := take_oct (k :: r) (min 3 (runL OCTL (k :: r))) (Nat.min_le_right ..)
    refine PX.cons (PX1.ret (pv := .str ([worth 8 ((k :: r).take (min 3 (runL OCTL (k :: r))))] ++ (k :: r).drop (min 3 (runL OCTL (k :: r))))) (PE.cat ?_ ?_ hel) rfl)
    · refine PE.chr (i := (worth 8 ((k :: r).take (min 3 (runL OCTL (k :: r)))) : Nat)) (PE.callF (worth_fn (b := 8) (.inl rfl) (fun c hc => isOct_hex (hd c hc))) rfl rfl rfl (by decide) (PEs.cons (PE.upto (by walk_at "pe") (by walk_at "pe") (by simp; omega) (by simp; omega)) (PEs.cons (by walk_at "pei") PEs.nil))) (by omega) (by have := octBound (l := k :: r); omega) rfl rfl
    · exact PE.from (by walk_at "pe") (by walk_at "pe") (by simp; omega) (by simp; omega)
  show PX _ _ _ _ _ _
  have hn0 : ¬ 0 < runL OCTL (k :: r) := by simp at hb; omega
  have he0 : esc1 (k :: r) = (if k = 120 ∧ 0 < hrun r then some (worth 16 (r.take (hrun r)), 1 + hrun r)
      else match MP.lookup [k] with
        | some x => some (x.headD 0, 1)
        | none =>
          if k = 117 ∧ 4 ≤ hrun r then some (worth 16 (r.take 4), 5)
          else if k = 85 ∧ 8 ≤ hrun r then some (worth 16 (r.take 8), 9)
          else none) := by
    rw [esc1, if_neg hn0]
    try rfl
  have hk0 : (k :: r)[(0 : Int).toNat]? = some k := rfl
  refine PX.cons (PX1.assign (pv := .int (idxOf k SIMP)) (PE.find (x := SIMP) (c := k) (by walk_at "pe") (PE.idxS (k := 0) (by walk_at "pe") (by walk_at "pe") (by omega) (by omega) hk0)) rfl rfl rfl ?_)
  show PX _ _ _ _ _ _
  refine PX.cons (PX1.if (b := decide (0 ≤ idxOf k SIMP)) (PT.castB (by walk_at "cmp") (by simp)) (fun hb => ?_) (fun hb => PX.nil ?_))
  · rcases simp_find hk92 with ⟨i, hi, x, hx, hx2, hmp⟩ | ⟨h, _⟩
    · have hnx : ¬ (k = 120 ∧ 0 < hrun r) := by
        rintro ⟨rfl, _⟩
        rw [show MP.lookup [120] = none from rfl] at hmp; cases hmp
      rw [if_neg hnx, hmp] at he0
      rw [he0] at hel ⊢
      refine PX.cons (PX1.ret (pv := .str ([x] ++ r)) (PE.cat (PE.chr (i := (x : Nat)) (PE.idxL (k := (i : Nat)) (PE.callF0 meant_fn rfl rfl rfl (by decide)) (PE.castI (by walk_at "pe") hi) (by omega) ?_ ?_) (by omega) (by omega) rfl rfl) (PE.from (x := k :: r) (n := 1) (by walk_at "pe") (by walk_at "pei") (by simp) (by simp; omega)) hel) rfl)
      · have := (List.getElem?_eq_some_iff.mp hx).1
        have h11 : meantT.length = 11 := rfl
        omega
      · rw [List.getElem?_map, Int.toNat_natCast, hx]; rfl
    · rw [h] at hb; exact absurd hb (by decide)
  show PX _ _ _ _ _ _
  have hmp : MP.lookup [k] = none := by
    rcases simp_find hk92 with ⟨i, hi, x, hx, hx2, hmp⟩ | ⟨_, h⟩
    · rw [hi] at hb; simp at hb
    · exact h
  rw [hmp] at he0
  dsimp only at he0
  have hk0 : (k :: r)[(0 : Int).toNat]? = some k := rfl
  refine PX.cons (PX1.assign (pv := .int (hrun r : Nat)) (by rw [← runL_hex]; exact PE.callF (run_fn (l := r) (sg := HEXL)) rfl rfl rfl (by decide) (PEs.cons (PE.from (x := k :: r) (n := 1) (by walk_at "pe") (by walk_at "pei") (by simp) (by simp; omega)) (PEs.cons (by walk_at "pe") PEs.nil))) rfl rfl rfl ?_)
  show PX _ _ _ _ _ _
  refine PX.cons (PX1.assign (pv := .int 0) (by walk_at "pe") rfl rfl rfl ?_)
  show PX _ _ _ _ _ _
  refine PX.cons (PX1.mono (R := fun f m2 => f = .next ∧ m2.lookup (Str.ofString "part") = some (.str (k :: r)) ∧ m2.lookup (Str.ofString "many") = some (.int (hrun r : Nat)) ∧ m2.lookup (Str.ofString "take") = some (.int ((if k = 120 then hrun r else if k = 117 then 4 else if k = 85 then 8 else 0 : Nat)))) ?ifs ?rest)
  case ifs =>
    refine PX1.if (b := decide (([k] : List Nat) = [120])) (PT.cmp (PE.idxS (k := 0) (by walk_at "pe") (by walk_at "pe") (by omega) (by omega) hk0) (by walk_at "pe") CO.eqS rfl) (fun hb => ?_) (fun hb => ?_)
    · have h1 : k = 120 := by simpa using hb
      refine PX.cons (PX1.assign (pv := .int (hrun r : Nat)) (by walk_at "pe") rfl rfl rfl ?_)
      exact PX.nil ⟨rfl, by walk_at "lk", by walk_at "lk", by rw [if_pos h1]; exact lookSelf⟩
    · have h1 : ¬ k = 120 := by simpa using hb
      rw [if_neg h1]
      refine PX.cons (PX1.if (b := decide (([k] : List Nat) = [117])) (PT.cmp (PE.idxS (k := 0) (by walk_at "pe") (by walk_at "pe") (by omega) (by omega) hk0) (by walk_at "pe") CO.eqS rfl) (fun hb => ?_) (fun hb => ?_))
      · have h2 : k = 117 := by simpa using hb
        refine PX.cons (PX1.assign (pv := .int 4) (by walk_at "pe") rfl rfl rfl ?_)
        exact PX.nil (PX.nil ⟨rfl, by walk_at "lk", by walk_at "lk", by rw [if_pos h2]; exact lookSelf⟩)
      · have h2 : ¬ k = 117 := by simpa using hb
        rw [if_neg h2]
        refine PX.cons (PX1.if (b := decide (([k] : List Nat) = [85])) (PT.cmp (PE.idxS (k := 0) (by walk_at "pe") (by walk_at "pe") (by omega) (by omega) hk0) (by walk_at "pe") CO.eqS rfl) (fun hb => ?_) (fun hb => ?_))
        · have h3 : k = 85 := by simpa using hb
          refine PX.cons (PX1.assign (pv := .int 8) (by walk_at "pe") rfl rfl rfl ?_)
          exact PX.nil (PX.nil (PX.nil ⟨rfl, by walk_at "lk", by walk_at "lk", by rw [if_pos h3]; exact lookSelf⟩))
        · have h3 : ¬ k = 85 := by simpa using hb
          rw [if_neg h3]
          exact PX.nil (PX.nil (PX.nil ⟨rfl, by walk_at "lk", by walk_at "lk", by exact lookSelf⟩))
  case rest =>
  rintro f m2 ⟨rfl, h1, h2, h5⟩
  show PX _ _ _ _ _ _
  generalize htk : (if k = 120 then hrun r else if k = 117 then 4 else if k = 85 then 8 else 0 : Nat) = tk at h5
  have hesc : esc1 (k :: r) = if tk = 0 ∨ hrun r < tk then none else some (worth 16 (r.take tk), 1 + tk) := by
    rw [he0]
    by_cases a : k = 120
    · rw [if_pos a] at htk
      subst htk
      by_cases b : 0 < hrun r
      · rw [if_pos ⟨a, b⟩, if_neg (by omega)]
      · rw [if_neg (fun h : k = 120 ∧ 0 < hrun r => b h.2), if_neg (fun h : k = 117 ∧ 4 ≤ hrun r => by omega), if_neg (fun h : k = 85 ∧ 8 ≤ hrun r => by omega), if_pos (Or.inl (by omega))]
    · rw [if_neg a] at htk
      rw [if_neg (fun h => a h.1)]
      by_cases b : k = 117
      · rw [if_pos b] at htk
        subst htk
        by_cases c : 4 ≤ hrun r
        · rw [if_pos ⟨b, c⟩, if_neg (by omega)]
        · rw [if_neg (by omega), if_neg (by omega), if_pos (by omega)]
      · rw [if_neg b] at htk
        rw [if_neg (fun h => b h.1)]
        by_cases c : k = 85
        · rw [if_pos c] at htk
          subst htk
          by_cases e : 8 ≤ hrun r
          · rw [if_pos ⟨c, e⟩, if_neg (by omega)]
          · rw [if_neg (by omega), if_pos (by omega)]
        · rw [if_neg c] at htk
          rw [if_neg (fun h => c h.1), if_pos (by omega)]
  refine PX.cons (PX1.if (b := decide (tk = 0) || decide (hrun r < tk)) (PT.or2 (PT.castB (by walk_at "cmp") (by simp)) (fun _ => PT.castB (by walk_at "cmp") (by simp))) (fun hb => ?_) (fun hb => PX.nil ?_))
  · have hc : tk = 0 ∨ hrun r < tk := by simpa using hb
    rw [if_pos hc] at hesc
    rw [hesc] at hel ⊢
    exact PX.cons (PX1.ret (pv := .str ([92] ++ (k :: r))) (PE.cat (by walk_at "pe") (by walk_at "pe") hel) rfl)
  show PX _ _ _ _ _ _
  have hc : ¬ (tk = 0 ∨ hrun r < tk) := by simpa using hb
  rw [if_neg hc] at hesc
  rw [hesc] at hel ⊢
  have hle : tk ≤ hrun r := by omega
  have hw : worth 16 (r.take tk) ≤ 1114111 := by
    by_cases a : k = 85
    · have := hok.2 a
      rw [if_neg (by omega), if_neg (by omega), if_pos a] at htk
      subst htk
      exact this hle
    · refine hexBound hle ?_
      rw [← htk]
      split
      · rename_i h; exact hok.1 h
      · split
        · omega
        · first | omega | (rw [if_neg a]; omega)
  refine PX.cons (PX1.ret (pv := .str ([worth 16 (r.take tk)] ++ (k :: r).drop (1 + tk))) (PE.cat ?_ ?_ hel) rfl)
  · exact PE.chr (i := (worth 16 (r.take tk) : Nat)) (PE.callF (worth_fn (b := 16) (l := r.take tk) (.inr rfl) (fun c hc => take_hrun r tk hle c hc)) rfl rfl rfl (by decide) (PEs.cons (PE.between (x := k :: r) (i := 1) (n := tk) (by walk_at "pe") (by walk_at "pei") (by walk_at "pei") (by simp; omega) (by simp; omega)) (PEs.cons (by walk_at "pei") PEs.nil))) (by omega) (by omega) rfl rfl
  · exact PE.from (by walk_at "pe") (by walk_at "pei") (by simp; omega) (by simp; omega)
end
end
section
section
variable {w : World} {d : Nat}
theorem read_fn {l : List Nat} (hl : l.length ≤ 50000) (hg : good l) : PFn w (d + 3) (Str.ofString "_law_read") [.str l] (.str (rd l)) := by
  refine PFn.of (names := [Str.ofString "text"]) rfl (fun pm cd doc vs hvs => match vs, hvs with | [a], _ => rfl) rfl (by decide) (by simp [PV.isAcc]) ?_ rfl rfl rfl (by decide)
  dsimp only
  refine PX.cons (PX1.assign (pv := .list ((splitL 92 l).map .str)) (PE.split (x := l) (c := 92) (by walk_at "pe") (by walk_at "pe") (by omega)) rfl rfl rfl ?_)
  show PX _ _ _ _ _ _
  have hj := splitL_join 92 l
  have hf := splitL_free 92 l
  have hlen := rd_len l
  cases hP : splitL 92 l with
  | nil => exact absurd hP (splitL_ne 92 l)
  | cons p0 ps =>
  rw [hP] at hj hf
  rw [join_sfx] at hj
  have hpl : ∀ p ∈ p0 :: ps, p.length ≤ l.length := by
    have main : ∀ (qs : List (List Nat)), ∀ p ∈ qs, p.length ≤ (sfx qs).length := by
      intro qs
      induction qs with
      | nil => intro p hp; cases hp
      | cons q qs ih =>
        intro p hp
        rw [sfx_cons]
        simp only [List.length_cons, List.length_append]
        rcases List.mem_cons.mp hp with rfl | hp
        · omega
        · have := ih p hp; omega
    intro p hp
    have h1 := main _ p hp
    rw [sfx_cons, hj] at h1
    rcases List.mem_cons.mp hp with rfl | hp
    · rw [← hj, List.length_append]; omega
    · have h2 := main ps p hp
      rw [← hj, List.length_append]; omega
  have hcount : ps.length ≤ l.length := by
    have main : ∀ (qs : List (List Nat)), qs.length ≤ (sfx qs).length := by
      intro qs
      induction qs with
      | nil => exact Nat.zero_le _
      | cons q qs ih => rw [sfx_cons]; simp only [List.length_cons, List.length_append]; omega
    rw [← hj, List.length_append]
    have := main ps; omega
  have hrd : rd l = p0 ++ lr ps := by
    rw [← hj, rd_free _ _ (hf p0 (List.mem_cons_self ..)), lr_rd ps (fun p hp => hf p (List.mem_cons_of_mem _ hp))]
  have hok : ∀ p ∈ ps, okAfter p := good_parts ps (by
    have := good_drop p0.length l hg
    rwa [← hj, List.drop_left' rfl] at this)
  refine PX.cons (PX1.assign (pv := .str p0) (PE.idxL (k := 0) (l := (p0 :: ps).map .str) (by walk_at "pe") (by walk_at "pe") (by omega) (by omega) rfl) rfl rfl rfl ?_)
  show PX _ _ _ _ _ _
  refine PX.cons (PX1.assign (pv := .int (1 : Nat)) (by walk_at "pei") rfl rfl rfl ?_)
  show PX _ _ _ _ _ _
  refine PX.cons (PX1.while (fun n m' => m'.lookup (Str.ofString "parts") = some (.list ((p0 :: ps).map .str)) ∧ ∃ (a : Nat) (o : List Nat), m'.lookup (Str.ofString "at") = some (.int a) ∧ m'.lookup (Str.ofString "out") = some (.str o) ∧ 1 ≤ a ∧ n = ps.length + 1 - a ∧ o ++ lr (ps.drop (a - 1)) = rd l) ?_ (ps.length + 1 - 1)
    ⟨by walk_at "lk", 1, p0, lookSelf, by walk_at "lk", Nat.le_refl _, rfl, hrd.symm⟩)
  rintro n m' ⟨h1, a, o, h2, h3, ha, rfl, hv⟩
  refine ⟨decide ((a : Int) < ((((p0 :: ps).map PV.str).length : Nat) : Int)), PT.cmp (by walk_at "pe") (PE.lenL (by walk_at "pe") (by simp; omega) rfl rfl) CO.ltI rfl, fun hb => ?_, fun hb => ?_⟩
  case refine_2 =>
    have hlt : ¬ a < ps.length + 1 := by simp at hb; omega
    rw [List.drop_of_length_le (by omega)] at hv
    show PX _ _ _ _ _ _
    refine PX.cons (PX1.ret (pv := .str o) (by walk_at "pe") ?_)
    show PF.ret _ = PF.ret _
    rw [← hv]
    show _ = PF.ret (.str (o ++ []))
    rw [List.append_nil]
  have hlt : a < ps.length + 1 := by simp at hb; omega
  have hq : ps[a - 1]? = some ps[a - 1] := List.getElem?_eq_getElem (by omega)
  have hd : ps.drop (a - 1) = ps[a - 1] :: ps.drop a := by
    have := List.drop_eq_getElem_cons (l := ps) (i := a - 1) (by omega)
    rwa [show a - 1 + 1 = a by omega] at this
  have hidx : ((p0 :: ps).map PV.str)[((a : Int)).toNat]? = some (.str ps[a - 1]) := by
    rw [Int.toNat_natCast, List.getElem?_map]
    obtain ⟨b, rfl⟩ : ∃ b, a = b + 1 := ⟨a - 1, by omega⟩
    rw [List.getElem?_cons_succ]
    simp only [Nat.add_sub_cancel] at hq ⊢
    rw [hq]; rfl
  generalize ps[a - 1] = p at hq hd hidx
  have hpm : p ∈ ps := List.mem_of_getElem? hq
  have hpl := hpl p (List.mem_cons_of_mem _ hpm)
  have hvl : (o ++ lr (ps.drop (a - 1))).length ≤ l.length := by rw [hv]; exact hlen
  refine PX.cons (PX1.if (b := decide (p ≠ [])) (PT.cmp (a := .str p) (b := .str []) (PE.idxL (k := a) (by walk_at "pe") (by walk_at "pe") (by omega) (by omega) hidx) (by walk_at "pe") CO.neS rfl) (fun hb => ?_) (fun hb => ?_))
  · have hne : p ≠ [] := by simpa using hb
    have hlr : lr (ps.drop (a - 1)) = escP p ++ lr (ps.drop a) := by
      rw [hd]
      cases ps.drop a with
      | nil =>
        show lr [p] = escP p ++ []
        rw [List.append_nil, lr, if_pos hne]
      | cons q qs => rw [lr, if_pos hne]
    rw [hlr] at hv hvl
    cases p with
    | nil => exact absurd rfl hne
    | cons k r =>
    refine PX.cons (PX1.augS (a := o) (b := escP (k :: r)) (by walk_at "lk") (PE.callF (escape_fn (by omega) (hf _ (List.mem_cons_of_mem _ hpm)) (hok _ hpm)) rfl rfl rfl (by decide) (PEs.cons (PE.idxL (k := a) (l := (p0 :: ps).map .str) (by walk_at "pe") (by walk_at "pe") (by omega) (by omega) hidx) PEs.nil)) ?_ rfl rfl ?_)
    · rw [sizeLine_eq]; simp only [List.length_append] at hvl ⊢; omega
    show PX _ _ _ _ _ _
    refine PX.cons (PX1.augI (i := a) (j := 1) (by walk_at "lk") (by walk_at "pe") rfl rfl ?_)
    refine PX.nil (PX.nil ⟨ps.length + 1 - (a + 1), by omega, by walk_at "lk", a + 1, o ++ escP (k :: r), lookSelf, by walk_at "lk", by omega, rfl, ?_⟩)
    rw [Nat.add_sub_cancel, List.append_assoc]; exact hv
  · have hne : p = [] := by simpa using hb
    subst hne
    refine PX.cons (PX1.augS (a := o) (b := [92]) (by walk_at "lk") (by walk_at "pe") ?_ rfl rfl ?_)
    · rw [sizeLine_eq]; simp only [List.length_append] at hvl ⊢; simp; omega
    show PX _ _ _ _ _ _
    refine PX.cons (PX1.if (b := decide ((a : Int) + 1 < ((((p0 :: ps).map PV.str).length : Nat) : Int))) (PT.cmp (by walk_at "pe") (PE.lenL (by walk_at "pe") (by simp; omega) rfl rfl) CO.ltI rfl) (fun hb => ?_) (fun hb => PX.nil ?_))
    · have hlt2 : a < ps.length := by simp at hb; omega
      have hq2 : ps[a]? = some ps[a] := List.getElem?_eq_getElem hlt2
      have hd2 : ps.drop a = ps[a] :: ps.drop (a + 1) := List.drop_eq_getElem_cons hlt2
      generalize ps[a] = q at hq2 hd2
      have hidx2 : ((p0 :: ps).map PV.str)[((a : Int) + 1).toNat]? = some (.str q) := by
        rw [show ((a : Int) + 1).toNat = a + 1 by omega, List.getElem?_map, List.getElem?_cons_succ, hq2]; rfl
      have hlr : lr (ps.drop (a - 1)) = [92] ++ (q ++ lr (ps.drop (a + 1))) := by
        rw [hd, hd2, lr, if_neg (by simp)]; rfl
      rw [hlr] at hv hvl
      refine PX.cons (PX1.augS (a := o ++ [92]) (b := q) (by walk_at "lk") (PE.idxL (k := (a : Int) + 1) (l := (p0 :: ps).map .str) (by walk_at "pe") (by walk_at "pe") (by omega) (by omega) hidx2) ?_ rfl rfl ?_)
      · rw [sizeLine_eq]; simp only [List.length_append] at hvl ⊢; omega
      refine PX.nil ?_
      show PX _ _ _ _ _ _
      refine PX.cons (PX1.augI (i := a) (j := 2) (by walk_at "lk") (by walk_at "pe") rfl rfl ?_)
      refine PX.nil (PX.nil ⟨ps.length + 1 - (a + 2), by omega, by walk_at "lk", a + 2, o ++ [92] ++ q, lookSelf, by walk_at "lk", by omega, rfl, ?_⟩)
      rw [show a + 2 - 1 = a + 1 by omega, List.append_assoc, List.append_assoc]; exact hv
    · show PX _ _ _ _ _ _
      have hlt2 : ¬ a < ps.length := by simp at hb; omega
      have hd2 : ps.drop a = [] := List.drop_of_length_le (by omega)
      have hlr : lr (ps.drop (a - 1)) = [92] := by
        rw [hd, hd2, lr, if_neg (by simp)]
      rw [hlr] at hv
      refine PX.cons (PX1.augI (i := a) (j := 2) (by walk_at "lk") (by walk_at "pe") rfl rfl ?_)
      refine PX.nil (PX.nil ⟨ps.length + 1 - (a + 2), by omega, by walk_at "lk", a + 2, o ++ [92], lookSelf, by walk_at "lk", by omega, rfl, ?_⟩)
      rw [List.drop_of_length_le (by omega)]
      show o ++ [92] ++ [] = _
      rw [List.append_nil]; exact hv
end
end
section
section
variable {w : World} {d : Nat} {sc : Scope} {m : Env'}

theorem vrs_of {g : Gt} : ∀ {vs : List Value} {ps : List PV}, vs.length = ps.length → (∀ (i : Nat) v p, vs[i]? = some v → ps[i]? = some p → VR w g v p) → VRs w g vs ps
  | [], [], _, _ => .nil
  | v :: vs, p :: ps, h, k => .cons (k 0 v p rfl rfl) (vrs_of (by simpa using h) fun i v' p' e1 e2 => k (i + 1) v' p' (by simpa using e1) (by simpa using e2))

theorem relabel_none {scope : Scope} {env : Env} (hfree : ∀ x ∈ scope.names, x.2 ≠ .free) : relabel scope env = scope := by
  unfold relabel
  rw [map_eq_self (l := scope.names) (fun x hx => by
    obtain ⟨n, k⟩ := x
    have : (k == NameKind.free) = false := by simpa using hfree _ hx
    simp [this])]

theorem PE.comp {elt iter : Expr} {x : Str} {xp : Pos} {scope : Scope} {pos : Pos} {items outs : List PV} (hi : PI w d sc iter m items) (hit : ∀ p ∈ items, p.isAcc = false)
    (hfree : ∀ y ∈ scope.names, y.2 ≠ .free) (hcell : ∀ y ∈ scope.names, y.2 ≠ .cell) (hkind : scope.kind = .function) (hnames : ∀ y ∈ scope.names, y.2 = .local → scope.names.lookup y.1 = some .local)
    (hx : scope.names.lookup x = some .local) (hn : items.length ≤ 100000) (hlen : outs.length = items.length)
    (helt : ∀ (i : Nat) p o, items[i]? = some p → outs[i]? = some o → PE w d scope elt [(x, p)] o)
    (hs : ∀ env y, foldedSetIterable iter env y = pure y := by intro _ _; rfl) :
    PE w d sc (.ListComp elt [⟨.Name x xp, iter, [], 0⟩] scope pos) m (.list outs) := by
  intro env L A B own s Q E hE G Rm X q
  have hrel := relabel_none (env := env) hfree
  refine compG (cl := []) [] (fun _ _ => True) (fun i g v => ∀ o, outs[i]? = some o → VR w g v o) (fun p => [(x, p)]) hi hE G Rm X (closureFor_none hfree) hcell hkind hnames
    (fun p hp => TG.name (hit p hp) (by rw [hrel]; exact hkind) (by rw [hrel]; exact hx)) hn (by simp) (by simp) trivial (fun _ _ _ _ _ => trivial) (fun i g g' v k h o ho => (h o ho).mono k) ?_ ?_ (hs env)
  · intro i p cenv C Z s' hp hE' _ hZ X' _ Q' E' q'
    have hlt := (List.getElem?_eq_some_iff.mp hp).1
    have ho : outs[i]? = some outs[i] := List.getElem?_eq_getElem (by omega)
    refine helt i p _ hp ho cenv C A B ⟨[], Z⟩ s' Q' E' (hrel ▸ hE') G Rm X' fun v h' tk k r => q' v h' tk (fun b o _ e => k b o e) (by simp) trivial fun o' ho' => ?_
    rw [ho] at ho'; cases ho'; exact r
  · intro D h' tk ys n k hD eD hsz hr _ _
    refine q (.ref D) h' tk (fun b o e => k b o (by simp) e) (.list (ex_some.mpr ⟨X.bk.fresh hD, eD⟩) (vrs_of (by rw [Array.length_toList, hsz, hlen]) fun i v p e1 e2 => hr i v (by rw [← Array.getElem?_toList]; exact e1) p e2))

theorem PE.tupAdd {l r : Expr} {pos : Pos} {a b : List PV} (hl : PE w d sc l m (.tup a)) (hr : PE w d sc r m (.tup b)) (ha : a ≠ []) (hb : b ≠ []) (hn : a.length + b.length ≤ 100000) : PE w d sc (.BinOp l .Add r pos) m (.tup (a ++ b)) := by
  refine hl.bin hr fun L own A B s va vb Q E G k R ra rb q => ?_
  obtain ⟨a1, vs1, n1, rfl, g1, r1⟩ := tupIs ra
  obtain ⟨a2, vs2, n2, rfl, g2, r2⟩ := tupIs rb
  have l1 : vs1.size = a.length := by rw [← Array.length_toList, r1.length]
  have l2 : vs2.size = b.length := by rw [← Array.length_toList, r2.length]
  refine PySem.P.add_tuple (ex_some.mp g1).2 (ex_some.mp g2).2 (fun h => ?_) (fun h => ?_) ?_ (by rw [l1, l2, sizeLine_eq]; omega)
  · rw [Array.isEmpty_iff_size_eq_zero, l1] at h; exact ha (List.length_eq_zero_iff.mp h)
  · rw [Array.isEmpty_iff_size_eq_zero, l2] at h; exact hb (List.length_eq_zero_iff.mp h)
  · refine q _ _ _ (keep_push _ _) (.tup (ex_some.mpr ⟨k.fresh (noneSize _), Heap.get?_push_size _ rfl⟩) ?_)
    rw [Array.toList_append]
    exact (r1.append r2).mono (gOf_keep (keep_push _ _))

theorem PE.tupFrom {v a : Expr} {p pos : Pos} {x : List PV} {n : Nat} (hv : PE w d sc v m (.tup x)) (ha : PE w d sc a m (.int n)) (h1 : 1 ≤ n) (hin : n ≤ x.length) (hx : x.length ≤ 100000) :
    PE w d sc (.Subscript v (.Slice (some a) .none .none p) pos) m (.tup (x.drop n)) := by
  refine hv.slice (lo := some a) (hi := .none) (l := some (n : Int)) (u := .none) ha trivial fun L own A s va sl pl pu Q E B bk R ra el eu hs q => ?_
  obtain ⟨a1, vs1, n1, rfl, g1, r1⟩ := tupIs ra
  have l1 : vs1.size = x.length := by rw [← Array.length_toList, r1.length]
  have e1 := (ex_some.mp g1).2
  cases pu with
  | some u => cases eu
  | none =>
    cases pl with
    | none => cases el
    | some pv =>
      obtain ⟨i, t⟩ := pv
      cases el
      refine ⟨"tuple", _, ⟨_, e1, rfl⟩, slot_tuple_getitem.lookup, getItem_tuple_from (u := t) ⟨_, e1, rfl, _, rfl⟩ ⟨_, hs, rfl, rfl⟩ h1 (by rw [l1]; exact hin) ?_ (by rw [l1, sizeLine_eq]; omega)⟩
      refine q _ _ _ (keep_push _ _) (.tup (ex_some.mpr ⟨bk.fresh (noneSize _), Heap.get?_push_size _ rfl⟩) ?_)
      exact (r1.drop n).mono (gOf_keep (keep_push _ _))
end
end
section
structure Row where
  kind : List Nat
  text : List Nat
  space : List Nat
  first : Bool
  line : Nat
  col : Nat
def Row.pv (r : Row) : PV := .tup [.str r.kind, .str r.text, .str r.space, .bool r.first, .int r.line, .int r.col]
def kSTR : List Nat := [83, 84, 82, 73, 78, 71]
def kCHR : List Nat := [67, 72, 65, 82]
def Row.told (r : Row) : Row := if r.kind = kSTR ∨ r.kind = kCHR then { r with text := rd r.text } else r
def Row.quoted (r : Row) : Row := if r.kind = kSTR then { r with text := [34] ++ r.text ++ [34] } else r
structure Row.Ok (r : Row) : Prop where
  len : r.text.length ≤ 50000
  good : (r.kind = kSTR ∨ r.kind = kCHR) → good r.text
section
variable {w : World} {d : Nat}

theorem told_fn {rows : List Row} (hn : rows.length ≤ 1000) (hok : ∀ r ∈ rows, r.Ok) : PFn w (d + 4) (Str.ofString "_law_told") [.list (rows.map Row.pv)] (.list ((rows.map Row.told).map Row.pv)) := by
  refine PFn.of (names := [Str.ofString "rows"]) rfl (fun pm cd doc vs hvs => match vs, hvs with | [a], _ => rfl) rfl (by decide) (by simp [PV.isAcc]) ?_ rfl rfl rfl (by decide)
  dsimp only
  refine PX.cons (PX1.ret (pv := .list ((rows.map Row.told).map Row.pv)) ?_ rfl)
  refine PE.comp (items := rows.map Row.pv) (PI.list (by walk_at "pe")) ?_ (by decide) (by decide) rfl (by decide) rfl (by rw [List.length_map]; omega) (by simp) ?_
  · intro p hp; obtain ⟨r, _, rfl⟩ := List.mem_map.mp hp; rfl
  intro i p o hp ho
  rw [List.getElem?_map, Option.map_eq_some_iff] at hp ho
  obtain ⟨r, hr, rfl⟩ := hp
  rw [List.getElem?_map, hr] at ho
  obtain ⟨r', e, rfl⟩ := ho
  cases e
  have ok := hok r (List.mem_of_getElem? hr)
  have p0 : ∀ {sc : Scope} {k : Nat} {pos cp np : Pos} {v : PV} {kk : Nat}, ([.str r.kind, .str r.text, .str r.space, .bool r.first, .int r.line, .int r.col] : List PV)[k]? = some v → k < 6 → sc.kind = .function → sc.names.lookup (Str.ofString "row") = some .local →
      PE w (d + 3) sc (.Subscript (.Name (Str.ofString "row") np) (.Constant (.int k) kk cp) pos) [(Str.ofString "row", r.pv)] v :=
    fun hv hk h1 h2 => PE.idxT (k := _) (PE.name lookSelf rfl h2 h1 (by decide)) PE.int (by omega) (by omega) hv
  have key : r.told.pv = .tup ([.str r.kind, .str (if r.kind = kSTR ∨ r.kind = kCHR then rd r.text else r.text)] ++ ([.str r.kind, .str r.text, .str r.space, .bool r.first, .int r.line, .int r.col] : List PV).drop 2) := by
    unfold Row.told; split <;> rfl
  rw [key]
  refine PE.tupAdd (PE.tupE (PEs.cons (p0 (k := 0) rfl (by decide) rfl rfl) (PEs.cons ?_ PEs.nil)) (by simp)) (PE.tupFrom (n := 2) (PE.name lookSelf rfl rfl rfl (by decide)) (by walk_at "pei") (by decide) (by simp) (by simp)) (by simp) (by simp) (by simp)
  have ht : ∀ {sc : Scope} {np cp pos ipos ip : Pos} {kk : Nat} {p1 p2 p3 p4 p5 p6 : Pos} {k1 k2 : Nat}, sc.kind = .function → sc.names.lookup (Str.ofString "row") = some .local → PT w (d + 3) sc (.BoolOp .Or [.Compare (.Subscript (.Name (Str.ofString "row") np) (.Constant (.int 0) kk cp) pos) [.Eq] [.Constant (.str (Str.ofString "STRING")) k1 p1] p2,
      .Compare (.Subscript (.Name (Str.ofString "row") p3) (.Constant (.int 0) kk p4) p5) [.Eq] [.Constant (.str (Str.ofString "CHAR")) k2 p6] ip] ipos) [(Str.ofString "row", r.pv)] (decide (r.kind = kSTR) || decide (r.kind = kCHR)) := by
    intro sc np cp pos ipos ip kk p1 p2 p3 p4 p5 p6 k1 k2 h1 h2
    exact PT.or2 (PT.cmp (p0 (k := 0) rfl (by decide) h1 h2) (PE.str (by simp [lit]; rfl)) CO.eqS rfl) (fun _ => PT.cmp (p0 (k := 0) rfl (by decide) h1 h2) (PE.str (by simp [lit]; rfl)) CO.eqS rfl)
  by_cases hk : r.kind = kSTR ∨ r.kind = kCHR
  · rw [if_pos hk]
    refine PE.ifT (PT.castB (ht rfl rfl) (by simpa using hk)) ?_
    exact PE.callF (read_fn ok.len (ok.good hk)) rfl rfl rfl (by decide) (PEs.cons (p0 (k := 1) rfl (by decide) rfl rfl) PEs.nil)
  · rw [if_neg hk]
    refine PE.ifF (PT.castB (ht rfl rfl) (by simpa using hk)) ?_
    exact p0 (k := 1) rfl (by decide) rfl rfl

theorem quoted_fn {rows : List Row} (hn : rows.length ≤ 1000) (hok : ∀ r ∈ rows, r.text.length ≤ 50000) : PFn w (d + 4) (Str.ofString "_law_quoted") [.list (rows.map Row.pv)] (.list ((rows.map Row.quoted).map Row.pv)) := by
  refine PFn.of (names := [Str.ofString "rows"]) rfl (fun pm cd doc vs hvs => match vs, hvs with | [a], _ => rfl) rfl (by decide) (by simp [PV.isAcc]) ?_ rfl rfl rfl (by decide)
  dsimp only
  refine PX.cons (PX1.ret (pv := .list ((rows.map Row.quoted).map Row.pv)) ?_ rfl)
  refine PE.comp (items := rows.map Row.pv) (PI.list (by walk_at "pe")) ?_ (by decide) (by decide) rfl (by decide) rfl (by rw [List.length_map]; omega) (by simp) ?_
  · intro p hp; obtain ⟨r, _, rfl⟩ := List.mem_map.mp hp; rfl
  intro i p o hp ho
  rw [List.getElem?_map, Option.map_eq_some_iff] at hp ho
  obtain ⟨r, hr, rfl⟩ := hp
  rw [List.getElem?_map, hr] at ho
  obtain ⟨r', e, rfl⟩ := ho
  cases e
  have ok := hok r (List.mem_of_getElem? hr)
  have p0 : ∀ {sc : Scope} {k : Nat} {pos cp np : Pos} {v : PV} {kk : Nat}, ([.str r.kind, .str r.text, .str r.space, .bool r.first, .int r.line, .int r.col] : List PV)[k]? = some v → k < 6 → sc.kind = .function → sc.names.lookup (Str.ofString "row") = some .local →
      PE w (d + 3) sc (.Subscript (.Name (Str.ofString "row") np) (.Constant (.int k) kk cp) pos) [(Str.ofString "row", r.pv)] v :=
    fun hv hk h1 h2 => PE.idxT (k := _) (PE.name lookSelf rfl h2 h1 (by decide)) PE.int (by omega) (by omega) hv
  have key : r.quoted.pv = .tup ([.str r.kind, .str (if r.kind = kSTR then [34] ++ r.text ++ [34] else r.text)] ++ ([.str r.kind, .str r.text, .str r.space, .bool r.first, .int r.line, .int r.col] : List PV).drop 2) := by
    unfold Row.quoted; split <;> rfl
  rw [key]
  refine PE.tupAdd (PE.tupE (PEs.cons (p0 (k := 0) rfl (by decide) rfl rfl) (PEs.cons ?_ PEs.nil)) (by simp)) (PE.tupFrom (n := 2) (PE.name lookSelf rfl rfl rfl (by decide)) (by walk_at "pei") (by decide) (by simp) (by simp)) (by simp) (by simp) (by simp)
  by_cases hk : r.kind = kSTR
  · rw [if_pos hk]
    refine PE.ifT (PT.castB (PT.cmp (p0 (k := 0) rfl (by decide) rfl rfl) (PE.str (l := kSTR) (by simp [lit]; rfl)) CO.eqS rfl) (by simpa using hk)) ?_
    refine PE.cat (PE.cat (by walk_at "pe") (p0 (k := 1) rfl (by decide) rfl rfl) (by rw [sizeLine_eq]; simp; omega)) (by walk_at "pe") (by rw [sizeLine_eq]; simp; omega)
  · rw [if_neg hk]
    refine PE.ifF (PT.castB (PT.cmp (p0 (k := 0) rfl (by decide) rfl rfl) (PE.str (l := kSTR) (by simp [lit]; rfl)) CO.eqS rfl) (by simpa using hk)) ?_
    exact p0 (k := 1) rfl (by decide) rfl rfl
end
end
section
section
variable {prog : Program} {w : World} {A : Around} {E : Value → Shared → Prop} {s : Shared}

theorem adjust_to (b n : Nat) (hb : b ≤ n) : Builtin.Slice.sliceAdjust none (some (b : Int)) 1 (n : Int) = ((0 : Int), (b : Int)) := by
  unfold Builtin.Slice.sliceAdjust
  have h1 : ¬ ((1 : Int) < 0) := by omega
  have h2 : ¬ ((b : Int) < 0) := by omega
  simp only [h1, h2, if_false]
  congr 1
  omega
theorem places_to (b : Nat) : Builtin.Slice.slicePlaces (0 : Int) (b : Int) 1 = b := by
  unfold Builtin.Slice.slicePlaces
  have h1 : (1 : Int) > 0 := by omega
  simp only [h1, if_true, Int.ediv_one]
  split <;> omega

theorem sliceApplied_to {sl : Addr} {b n : Nat} {u : Tok} {Q : Int × Int × Nat → Shared → Prop} (hs : s.heap.IsSliceOf sl .none (.int b u) .none) (hb : b ≤ n) (h : Q ((0 : Int), 1, b) s) :
    wpAny (model prog w) A (Builtin.Slice.sliceApplied (.ref sl) (pure (n : Int))) Q E s := by
  obtain ⟨os, hos, hcs, hds⟩ := id hs
  unfold Builtin.Slice.sliceApplied Builtin.Slice.sliceFields
  refine wpAny_bind (wpAny_bind (wpAny_field hos hds (x := .none) rfl (wpAny_bind (wpAny_field hos hds (x := .int b u) rfl (wpAny_bind (wpAny_field hos hds (x := .none) rfl (wpAny_pure ?_)))))))
  refine wpAny_bind (slicePart_none ?_)
  show wpAny _ _ (if ((1 : Int) == 0) = true then _ else _) _ _ s
  rw [if_neg (by decide)]
  refine wpAny_bind (slicePart_none (wpAny_bind (slicePart_int (wpAny_bind (wpAny_pure ?_)))))
  show wpAny _ _ (match Builtin.Slice.sliceAdjust none (some (b : Int)) 1 (n : Int) with | (lo, hi) => pure (lo, (1 : Int), Builtin.Slice.slicePlaces lo hi 1)) _ _ s
  rw [adjust_to b n hb]
  show wpAny _ _ (pure ((0 : Int), (1 : Int), Builtin.Slice.slicePlaces (0 : Int) (b : Int) 1)) _ _ s
  rw [places_to b]
  exact wpAny_pure h

theorem pick_to (xs : Array Value) (b : Nat) : ((List.range b).filterMap fun (k : Nat) => xs[((0 : Int) + (k : Int) * 1).toNat]?).toArray = (xs.toList.take b).toArray := by
  have e : (fun (k : Nat) => xs[((0 : Int) + (k : Int) * 1).toNat]?) = fun k => xs[0 + k]? := by
    funext k
    have : ((0 : Int) + (k : Int) * 1).toNat = 0 + k := by omega
    rw [this]
  rw [e]
  have := pick_run xs 0 b
  rw [List.filterMap_map] at this
  have e2 : ((fun x => xs[x]?) ∘ fun x => 0 + x) = fun k => xs[0 + k]? := rfl
  rw [e2] at this
  rw [this, List.drop_zero]

theorem getItem_tuple_to {t sl : Addr} {items : Array Value} {b : Nat} {u : Tok} {Q : Value → Shared → Prop} (ht : IsTup s.heap t items) (hs : s.heap.IsSliceOf sl .none (.int b u) .none) (hb : b < items.size)
    (h : Q (.ref s.heap.objs.size) { s with heap := s.heap.push { cls := .type "tuple", data := .seq (items.toList.take b).toArray } })
    (hsz : items.size ≤ sizeLine := by size_fits) : wpAny (model prog w) A (getItem (.ref t) (.ref sl)) Q E s := by
  have hdrop : sizeOk (.seq (items.toList.take b).toArray) := by
    show (items.toList.take b).toArray.size ≤ sizeLine
    rw [List.size_toArray, List.length_take, Array.length_toList]
    omega
  obtain ⟨os, hos, hcs, hds⟩ := id hs
  have hTs : s.TypeIs (.ref sl) "slice" := ⟨os, hos, hcs⟩
  unfold getItem
  try with_reducible refine wpAny_holding ?_
  first | refine wpAny_bind (wpAny_pure ?_) | skip
  refine wpAny_bind (wpAny_sequenceKey ht.typeIs (by decide) ?_)
  refine wpAny_bind (wpAny_callSpecial?_slot (name := Str.ofString "__getitem__") ht.typeIs slot_tuple_getitem
    (wpAny_call_entry slot_tuple_getitem ht.typeIs entry_tuple_getitem ?_ (args_tuple_getitem _ _)))
  show wpAny _ _ (Builtin.Tuple.tupleItemsOf (.ref t) >>= _) _ _ s
  refine wpAny_bind (tupleItemsOf_ ht ?_)
  refine wpAny_bind (wpAny_typeOf hTs ?_)
  rw [if_pos (by decide)]
  refine wpAny_bind (sliceApplied_to hs (Nat.le_of_lt hb) ?_)
  have hno : ¬ (((0 : Int) == 0 && (1 : Int) == 1 && b == items.size) = true) := by
    have : (b == items.size) = false := by rw [beq_eq_false_iff_ne]; omega
    rw [this]; simp
  show wpAny _ _ (if ((0 : Int) == 0 && (1 : Int) == 1 && b == items.size) = true then _ else _) _ _ s
  rw [if_neg hno, pick_to items b]
  first
    | exact wpAny_bind (m := Builtin.Tuple.tupleExact _) (wpAny_newObj_type (wpAny_pure ⟨_, rfl, wpAny_pure h⟩) hdrop)
    | exact wpAny_bind (m := Builtin.Tuple.tupleExact _) (wpAny_newObj_type (wpAny_bind (wpAny_pure (wpAny_pure ⟨_, rfl, wpAny_pure h⟩))) hdrop)
    | exact wpAny_bind (wpAny_bind (m := Builtin.Tuple.tupleExact _) (wpAny_newObj_type (wpAny_pure (wpAny_pure ⟨_, rfl, wpAny_pure h⟩)) hdrop))
end

section
variable {w : World} {d : Nat} {sc : Scope} {m : Env'}
theorem PE.tupTo {v b : Expr} {p pos : Pos} {x : List PV} {n : Nat} (hv : PE w d sc v m (.tup x)) (hb : PE w d sc b m (.int n)) (hin : n < x.length) (hx : x.length ≤ 100000) :
    PE w d sc (.Subscript v (.Slice .none (some b) .none p) pos) m (.tup (x.take n)) := by
  refine hv.slice (lo := .none) (hi := some b) (l := .none) (u := some (n : Int)) trivial hb fun L own A s va sl pl pu Q E B bk R ra el eu hs q => ?_
  obtain ⟨a1, vs1, n1, rfl, g1, r1⟩ := tupIs ra
  have l1 : vs1.size = x.length := by rw [← Array.length_toList, r1.length]
  have e1 := (ex_some.mp g1).2
  cases pl with
  | some u => cases el
  | none =>
    cases pu with
    | none => cases eu
    | some pv =>
      obtain ⟨i, t⟩ := pv
      cases eu
      refine ⟨"tuple", _, ⟨_, e1, rfl⟩, slot_tuple_getitem.lookup, getItem_tuple_to (u := t) ⟨_, e1, rfl, _, rfl⟩ ⟨_, hs, rfl, rfl⟩ (by rw [l1]; exact hin) ?_ (by rw [l1, sizeLine_eq]; omega)⟩
      refine q _ _ _ (keep_push _ _) (.tup (ex_some.mpr ⟨bk.fresh (noneSize _), Heap.get?_push_size _ rfl⟩) ?_)
      exact (r1.take n).mono (gOf_keep (keep_push _ _))

theorem PE.revAcc {x : Str} {np p pos sp ip : Pos} {k : Nat} {l : List PV} (hx : m.lookup x = some (.acc l)) (hn : l.length ≤ 100000) (hk : sc.kind = .function) (hl : sc.names.lookup x = some .local) (hd : (x == ("__debug__" : Str)) = false := by decide) :
    PE w d sc (.Subscript (.Name x np) (.Slice .none .none (some (.UnaryOp .USub (.Constant (.int 1) k ip) sp)) p) pos) m (.list l.reverse) := by
  intro env L A B own s Q E hE G R X q
  obtain ⟨mv, F, hm⟩ := X.fr
  obtain ⟨v, e1, a, g1, rfl, vs, n, g3, g4⟩ := hm x _ hx
  refine Subscript_ (wpAny_Name (wpAny_loadName_local (m := mv) (v := .ref a) (by rw [hE.sc]; exact hk) (by unfold Env.kindOf; rw [hE.sc]; exact hl) (by rw [hE.loc]; exact F.ns) e1 ?_) hd)
  refine wpAny_Slice ?_
  rw [evalPart_none]
  refine wpAny_pure ?_
  refine wpAny_pure ?_
  have hst : PO w d sc m (some (.UnaryOp .USub (.Constant (.int 1) k ip) sp)) (some (-1)) := PE.neg PE.int
  refine hst.run hE G R X fun pst h3 t3 e3 k3 => ?_
  have k4 := keep_push h3 { cls := .type "slice", data := .fields #[.none, .none, partValue pst] }
  have ga := k4 _ _ (k3 _ _ g3)
  have hsz : vs.size = l.length := by rw [← Array.length_toList, g4.length]
  refine tail_any (T := "list") ⟨_, ga, rfl⟩ slot_list_getitem.lookup ?_ rfl
  cases pst with
  | none => cases e3
  | some pv =>
    obtain ⟨i, t⟩ := pv
    cases e3
    refine wpAny_getItem_list_slice (lo := .none) (hi := .none) (st := some (-1)) (listGet ga) ⟨_, Heap.get?_push_size _ rfl, rfl, rfl⟩ .none .none (by show IsPart (.int (-1) t) _; exact .int _ _) (by decide) ?_ (by rw [hsz, sizeLine_eq]; omega)
    rw [krv_pick]
    refine q _ _ _ ((k3.trans k4).trans (keep_push _ _)) (.list (ex_some.mpr ⟨((X.bk.trans k3).trans k4).fresh (noneSize _), Heap.get?_push_size _ rfl⟩) ?_)
    show VRs w _ vs.toList.reverse l.reverse
    exact (g4.reverse).mono (gOf_keep ((k3.trans k4).trans (keep_push _ _)))

theorem PI.down {e1 e2 e3 : Expr} {np pos : Pos} {n : Nat} (h1 : PE w d sc e1 m (.int ((n : Int) - 1))) (h2 : PE w d sc e2 m (.int (-1))) (h3 : PE w d sc e3 m (.int (-1))) (hn : n < 2 ^ 60) (hk : sc.kind = .function) (hl : sc.names.lookup (Str.ofString "range") = some .globalImplicit)
    (s1 : ∀ env, starEach [e1, e2, e3] env = (false, eval e1 env) :: starEach [e2, e3] env := by intro _; exact star_cons rfl) (s2 : ∀ env, starEach [e2, e3] env = (false, eval e2 env) :: starEach [e3] env := by intro _; exact star_cons rfl)
    (s3 : ∀ env, starEach [e3] env = (false, eval e3 env) :: starEach [] env := by intro _; exact star_cons rfl) (hp : ∀ (p : Pos) env, (backTo p (starEach [e2, e3] env)).any (·.1) = false := by intro _ _; rfl) :
    PI w d sc (.Call (.Name (Str.ofString "range") np) [e1, e2, e3] [] pos) m ((List.range n).map fun i : Nat => .int ((n : Int) - 1 - i)) := by
  intro env L A B own s Q E hE G Rm X q
  refine wpAny_Call_NameR (nameB (w := w) (m := m) (v := .type "range") rfl (by decide) nsRange hE G X hk hl (by decide) ?_)
  refine PyProof.Rows.callWith_type1 ?_ (s1 _) (hp _ _)
  refine PEs.cons h1 (PEs.cons h2 (PEs.cons h3 PEs.nil s3) s2) s1 env L A B own s pos _ E hE G Rm X fun vs h1 t1 k1 r1 => ?_
  cases r1 with
  | cons ra rs => cases rs with
    | cons rb rs => cases rs with
      | cons rc rs => cases rs; cases ra with
        | int _ ta => cases rb with
          | int _ tb => cases rc with
            | int _ tc =>
              refine call_range_3 (by decide) ?_ (Or.inl (PyProof.noPylong_small (by omega)))
              have hsz : Builtin.Range.rangeSize ((n : Int) - 1) (-1) (-1) = (n : Int) := by
                unfold Builtin.Range.rangeSize
                rw [if_neg (by decide)]
                split
                · rw [show (- -1 : Int) = 1 by decide, Int.ediv_one]; omega
                · omega
              refine wpAny_pyIter_range (a := (n : Int) - 1) (b := -1) (c := -1) (IsRange.new ..) ?_ ?_
              · unfold Builtin.Range.small
                rw [hsz]
                rw [if_neg (show ¬ ((-1 : Int) > 0) by decide)]
                have a1 : Builtin.Range.rangeFitsLong ((n : Int) - 1) = true := by
                  unfold Builtin.Range.rangeFitsLong
                  simp only [Bool.and_eq_true, decide_eq_true_eq]; omega
                have a2 : Builtin.Range.rangeFitsLong (-1) = true := by decide
                have a3 : Builtin.Range.rangeFitsLong (n : Int) = true := by
                  unfold Builtin.Range.rangeFitsLong
                  simp only [Bool.and_eq_true, decide_eq_true_eq]; omega
                have a4 : Builtin.Range.rangeFitsLong (-1 + (-1 + 1)) = true := by decide
                rw [a1, a2, a3, a4]
                simp
              rw [hsz]
              have kk : Keep h1 (h1.push { cls := .type "range", data := .fields #[.int ((n : Int) - 1) ta, .int (-1) tb, .int (-1) tc] }) := keep_push _ _
              generalize hh2 : h1.push { cls := .type "range", data := .fields #[.int ((n : Int) - 1) ta, .int (-1) tb, .int (-1) tc] } = h2 at kk ⊢
              have X2 := (X.keep k1).keep kk
              have fn := X2.bk.fresh (noneSize h2)
              have el : ((List.range n).map fun i : Nat => PV.int ((n : Int) - 1 - i)).length = n := by simp
              refine q h2.objs.size [h2.objs.size] [h2.objs.size] (fun i v => i < n ∧ ∃ t, v = .int ((n : Int) - 1 + i * (-1)) t) (fun i h => IsRangeIter h h2.objs.size ((n : Int) - 1 + (i : Nat) * (-1)) ((n : Int) - (i : Nat)) (-1)) h2 _ _ (k1.trans kk) (keep_push _ _) ?_ ?_ ?_ ?_ (fun i h hs => ⟨_, _, hs, rfl, by decide⟩) ?_ ?_
              · rw [el]
                have W := Walks.range (prog := P) (w := w) (A := A) Rm.hh h2.objs.size ((n : Int) - 1) (-1) n
                exact ⟨W.sub, W.frame, fun i s Q E hi st hQ => W.item i s Q E hi st fun v h' tk hv => hQ v h' tk ⟨hi, hv⟩, W.done, W.self⟩
              · have e1 : ((n : Int) - 1 + ((0 : Nat) : Int) * (-1)) = (n : Int) - 1 := by simp
                have e2 : ((n : Int) - ((0 : Nat) : Int)) = n := by simp
                dsimp only
                rw [e1, e2]; exact Heap.get?_push_size _ rfl
              · intro b hb; rw [List.mem_singleton.mp hb]; exact fn
              · intro i h hs b hb; rw [List.mem_singleton.mp hb]; exact ⟨_, hs⟩
              · intro b hb; rw [List.mem_singleton.mp hb]; exact noneSize h2
              · rintro i v ⟨hi, t, rfl⟩
                refine ⟨.int ((n : Int) - 1 - i), by simp [hi], ?_⟩
                have : ((n : Int) - 1 + (i : Int) * (-1)) = (n : Int) - 1 - i := by omega
                rw [this]; exact .int _ t
end
end
section
def jF (glue : List Nat) : List Row → List (List Nat) × List Row
  | [] => ([], [])
  | r :: l => if r.kind = kSTR then (r.text :: (jF glue l).1, (jF glue l).2)
    else ([], r :: match l with
      | [] => []
      | q :: _ => if q.kind = kSTR then { q with text := joinL glue (jF glue l).1 } :: (jF glue l).2 else (jF glue l).2)
def jn (glue : List Nat) (l : List Row) : List Row := match l with
  | [] => []
  | q :: _ => if q.kind = kSTR then { q with text := joinL glue (jF glue l).1 } :: (jF glue l).2 else (jF glue l).2
theorem jF_str {glue : List Nat} {r : Row} {l : List Row} (h : r.kind = kSTR) : jF glue (r :: l) = (r.text :: (jF glue l).1, (jF glue l).2) := by
  show (if r.kind = kSTR then _ else _) = _
  rw [if_pos h]
theorem jF_not {glue : List Nat} {r : Row} {l : List Row} (h : ¬ r.kind = kSTR) : jF glue (r :: l) = ([], r :: jn glue l) := by
  show (if r.kind = kSTR then _ else _) = _
  rw [if_neg h]; rfl
theorem jn_str {glue : List Nat} {r : Row} {l : List Row} (h : r.kind = kSTR) : jn glue (r :: l) = { r with text := joinL glue (r.text :: (jF glue l).1) } :: (jF glue l).2 := by
  show (if r.kind = kSTR then _ else _) = _
  rw [if_pos h, jF_str h]
theorem jn_not {glue : List Nat} {r : Row} {l : List Row} (h : ¬ r.kind = kSTR) : jn glue (r :: l) = r :: jn glue l := by
  show (if r.kind = kSTR then _ else _) = _
  rw [if_neg h, jF_not h]
def pend (rows : List Row) (a : Nat) : Prop := ∃ r, 0 < a ∧ rows[a - 1]? = some r ∧ r.kind = kSTR

theorem jF_texts {glue : List Nat} {k : Nat} : ∀ {l : List Row}, (∀ r ∈ l, r.text.length ≤ k) → (∀ t ∈ (jF glue l).1, t.length ≤ k) ∧ (jF glue l).1.length ≤ l.length
  | [], _ => ⟨fun t ht => (by cases ht), Nat.le_refl _⟩
  | r :: l, h => by
    by_cases hk : r.kind = kSTR
    · rw [jF_str hk]
      have ih := jF_texts (glue := glue) (l := l) fun q hq => h q (List.mem_cons_of_mem _ hq)
      refine ⟨fun t ht => ?_, by simp only [List.length_cons]; omega⟩
      rcases List.mem_cons.mp ht with rfl | ht
      · exact h r (List.mem_cons_self ..)
      · exact ih.1 t ht
    · rw [jF_not hk]; exact ⟨fun t ht => (by cases ht), Nat.zero_le _⟩
theorem sum_le {k : Nat} : ∀ {l : List (List Nat)}, (∀ t ∈ l, t.length ≤ k) → (l.map List.length).sum ≤ k * l.length
  | [], _ => by simp
  | t :: l, h => by
    have h1 := h t (List.mem_cons_self ..)
    have h2 := sum_le (l := l) fun q hq => h q (List.mem_cons_of_mem _ hq)
    rw [List.map_cons, List.sum_cons, List.length_cons, Nat.mul_add]; omega

section
variable {w : World} {d : Nat}
theorem joined_fn {rows : List Row} {glue : List Nat} (hn : rows.length ≤ 100) (hlen : ∀ r ∈ rows, r.text.length ≤ 500) (hg : glue.length ≤ 2) :
    PFn w (d + 1) (Str.ofString "_law_joined") [.list (rows.map Row.pv), .str glue] (.list ((jn glue rows).map Row.pv)) := by
  refine PFn.of (names := [Str.ofString "rows", Str.ofString "glue"]) rfl (fun pm cd doc vs hvs => match vs, hvs with | [a, b], _ => rfl) rfl (by decide) (by simp [PV.isAcc]) ?_ rfl rfl rfl (by decide)
  dsimp only
  refine PX.cons (PX1.newAcc rfl rfl ?_)
  show PX _ _ _ _ _ _
  refine PX.cons (PX1.newAcc rfl rfl ?_)
  show PX _ _ _ _ _ _
  refine PX.cons (PX1.for (PI.down (n := rows.length) (PE.sub (PE.castI (PE.lenL (by walk_at "pe") (by simp; omega) rfl rfl) (by simp)) (by walk_at "pe")) (PE.neg PE.int) (PE.neg PE.int) (by omega) rfl rfl) (by simp [PV.isAcc]) rfl rfl
    (fun i m' => i ≤ rows.length ∧ m'.lookup (Str.ofString "rows") = some (.list (rows.map Row.pv)) ∧ m'.lookup (Str.ofString "glue") = some (.str glue) ∧ ∃ (os : List Row) (ts : List (List Nat)), m'.lookup (Str.ofString "out") = some (.acc (os.map Row.pv)) ∧ m'.lookup (Str.ofString "parts") = some (.acc (ts.map .str)) ∧
      os.length ≤ i ∧ ts.length ≤ i ∧ (∀ t ∈ ts, t.length ≤ 500) ∧
      (pend rows (rows.length - i) → os.reverse = (jF glue (rows.drop (rows.length - i))).2 ∧ ts.reverse = (jF glue (rows.drop (rows.length - i))).1) ∧
      (¬ pend rows (rows.length - i) → os.reverse = jn glue (rows.drop (rows.length - i)) ∧ ts = [])) ?init ?turn ?fin)
  case init =>
    refine ⟨Nat.zero_le _, rfl, rfl, [], [], rfl, rfl, Nat.le_refl _, Nat.le_refl _, (fun t ht => by cases ht), fun _ => ?_, fun _ => ?_⟩
    · rw [Nat.sub_zero, List.drop_length]; exact ⟨rfl, rfl⟩
    · rw [Nat.sub_zero, List.drop_length]; exact ⟨rfl, rfl⟩
  case fin =>
    rintro m' ⟨hi, h1, h2, os, ts, h3, h4, h5, h6, h7, h8, h9⟩
    show PX _ _ _ _ _ _
    simp only [List.length_map, List.length_range, Nat.sub_self, List.drop_zero] at h5 h8 h9
    have hnp : ¬ pend rows 0 := fun ⟨r, h, _⟩ => by omega
    obtain ⟨e, _⟩ := h9 hnp
    refine PX.cons (PX1.ret (PE.revAcc h3 (by simp; omega) rfl rfl) ?_)
    show PF.ret _ = PF.ret _
    rw [← e, List.map_reverse]
  case turn =>
    rintro i m' p ⟨hi, h1, h2, os, ts, h3, h4, h5, h6, h7, h8, h9⟩ hp
    simp only [List.getElem?_map, Option.map_eq_some_iff] at hp
    obtain ⟨i', hi', rfl⟩ := hp
    obtain ⟨hlt, e⟩ := List.getElem?_eq_some_iff.mp hi'
    rw [List.getElem_range] at e
    subst e
    rw [List.length_range] at hlt
    obtain ⟨b, hb⟩ : ∃ b, rows.length - i = b + 1 := ⟨rows.length - i - 1, by omega⟩
    have hbi : ((rows.length : Int) - 1 - (i : Nat)) = (b : Nat) := by omega
    rw [hbi]
    have hbl : b < rows.length := by omega
    have hr : rows[b]? = some rows[b] := List.getElem?_eq_getElem hbl
    have hd : rows.drop b = rows[b] :: rows.drop (b + 1) := List.drop_eq_getElem_cons hbl
    generalize rows[b] = r at hr hd
    have hri : (rows.map Row.pv)[((b : Nat) : Int).toNat]? = some r.pv := by rw [Int.toNat_natCast, List.getElem?_map, hr]; rfl
    have hrl := hlen r (List.mem_of_getElem? hr)
    rw [hb] at h8 h9
    have hb' : rows.length - (i + 1) = b := by omega
    have prow : ∀ {sc : Scope} {m2 : Env'} {np ip pos : Pos}, m2.lookup (Str.ofString "rows") = some (.list (rows.map Row.pv)) → m2.lookup (Str.ofString "at") = some (.int (b : Nat)) → sc.kind = .function → sc.names.lookup (Str.ofString "rows") = some .local → sc.names.lookup (Str.ofString "at") = some .local →
        PE w d sc (.Subscript (.Name (Str.ofString "rows") np) (.Name (Str.ofString "at") ip) pos) m2 r.pv :=
      fun a1 a2 a3 a4 a5 => PE.idxL (k := (b : Nat)) (PE.name a1 rfl a4 a3 (by decide)) (PE.name a2 rfl a5 a3 (by decide)) (by omega) (by omega) hri
    refine PX.cons (PX1.tup2 (a := .str r.kind) (b := .str r.text) (PE.tupTo (n := 2) (x := [.str r.kind, .str r.text, .str r.space, .bool r.first, .int r.line, .int r.col]) (prow (by walk_at "lk") lookSelf rfl rfl rfl) (by walk_at "pei") (by simp) (by simp)) rfl rfl rfl rfl rfl ?_)
    show PX _ _ _ _ _ _
    refine PX.cons (PX1.if (b := decide (r.kind ≠ kSTR)) (PT.cmp (a := .str r.kind) (b := .str kSTR) (by walk_at "pe") (PE.str (by simp [lit]; rfl)) CO.neS rfl) (fun hk => ?_) (fun hk => ?_))
    · have hk : ¬ r.kind = kSTR := by simpa using hk
      have hnp : ¬ pend rows (b + 1) := fun ⟨r', _, e, k⟩ => by
        rw [Nat.add_sub_cancel, hr] at e; cases e; exact hk k
      obtain ⟨e1, e2⟩ := h9 hnp
      subst e2
      refine PX.cons (PX1.append (l := os.map Row.pv) (by walk_at "lk") (prow (by walk_at "lk") (by walk_at "lk") rfl rfl rfl) rfl (by simp; omega) rfl rfl ?_)
      refine PX.nil (PX.nil ⟨hlt, by walk_at "lk", by walk_at "lk", os ++ [r], [], ?_, by walk_at "lk", by simp; omega, Nat.zero_le _, (fun t ht => by cases ht), fun _ => ?_, fun _ => ?_⟩)
      · rw [List.map_append]; exact lookSelf
      · rw [hb', hd, jF_not hk, List.reverse_append, e1]; exact ⟨rfl, rfl⟩
      · rw [hb', hd, jn_not hk, List.reverse_append, e1]; exact ⟨rfl, rfl⟩
    · have hk : r.kind = kSTR := by simpa using hk
      obtain ⟨e1, e2⟩ := h8 ⟨r, by omega, by rw [Nat.add_sub_cancel]; exact hr, hk⟩
      refine PX.cons (PX1.append (l := ts.map .str) (by walk_at "lk") (pv := .str r.text) (by walk_at "pe") rfl (by simp; omega) rfl rfl ?_)
      show PX _ _ _ _ _ _
      have e3 : (ts ++ [r.text]).reverse = (jF glue (rows.drop b)).1 := by rw [hd, jF_str hk, List.reverse_append, e2]; rfl
      have e4 : os.reverse = (jF glue (rows.drop b)).2 := by rw [hd, jF_str hk, e1]
      have hts : ∀ t ∈ ts ++ [r.text], t.length ≤ 500 := fun t ht => by
        rcases List.mem_append.mp ht with ht | ht
        · exact h7 t ht
        · rw [List.mem_singleton.mp ht]; exact hrl
      have hpd : ∃ (bb : Bool), (bb = true ↔ ¬ pend rows b) ∧ bb = (decide ((b : Int) = 0) || decide ((match rows[b - 1]? with | some q => q.kind | none => []) ≠ kSTR)) := by
        refine ⟨_, ?_, rfl⟩
        by_cases h0 : b = 0
        · subst h0; simp; exact fun ⟨r, h, _⟩ => by omega
        · have hq : rows[b - 1]? = some rows[b - 1] := List.getElem?_eq_getElem (by omega)
          unfold pend
          rw [hq]
          simp [h0]; omega
      obtain ⟨bb, hbb, hbe⟩ := hpd
      refine PX.cons (PX1.if (b := bb) ?_ (fun hb1 => ?_) (fun hb1 => PX.nil ?_))
      · rw [hbe]
        refine PT.or2 (PT.castB (by walk_at "cmp") (by simp)) (fun h0 => ?_)
        have h0 : b ≠ 0 := by simpa using h0
        have hq : rows[b - 1]? = some rows[b - 1] := List.getElem?_eq_getElem (by omega)
        rw [hq]
        refine PT.cmp (a := .str rows[b - 1].kind) (b := .str kSTR) (PE.idxT (k := 0) (l := [.str rows[b - 1].kind, .str rows[b - 1].text, .str rows[b - 1].space, .bool rows[b - 1].first, .int rows[b - 1].line, .int rows[b - 1].col]) (PE.idxL (k := (b : Int) - 1) (l := rows.map Row.pv) (by walk_at "pe") (by walk_at "pe") (by omega) (by omega) ?_) (by walk_at "pe") (by omega) (by omega) rfl) (PE.str (by simp [lit]; rfl)) CO.neS rfl
        rw [show ((b : Int) - 1).toNat = b - 1 by omega, List.getElem?_map, hq]; rfl
      · have hnp : ¬ pend rows b := hbb.mp hb1
        refine PX.cons (PX1.append (l := os.map Row.pv) (by walk_at "lk") (pv := ({ r with text := joinL glue (ts ++ [r.text]).reverse } : Row).pv)
          (PE.tupAdd (a := [.str r.kind, .str (joinL glue (ts ++ [r.text]).reverse)]) (b := ([.str r.kind, .str r.text, .str r.space, .bool r.first, .int r.line, .int r.col] : List PV).drop 2)
            (PE.tupE (PEs.cons (by walk_at "pe") (PEs.cons (PE.joinM (sep := glue) (l := (ts ++ [r.text]).reverse) (by walk_at "pe") ?he ?hb) PEs.nil)) (by simp))
            (PE.tupFrom (n := 2) (x := [.str r.kind, .str r.text, .str r.space, .bool r.first, .int r.line, .int r.col]) (prow (by walk_at "lk") (by walk_at "lk") rfl rfl rfl) (by walk_at "pei") (by decide) (by simp) (by simp)) (by simp) (by simp) (by simp)) rfl (by simp; omega) rfl rfl ?_)
        case he =>
          rw [List.map_reverse, List.map_append]
          refine' PE.revAcc ?a1 ?a2 ?a3 ?a4
          case a1 => exact lookSelf
          case a2 => simp; omega
          case a3 => rfl
          case a4 => rfl
        case hb =>
          have := sum_le (k := 500) (l := (ts ++ [r.text]).reverse) (fun t ht => hts t (List.mem_reverse.mp ht))
          simp only [List.length_reverse, List.length_append, List.length_cons, List.length_nil] at this ⊢
          have h10 : (ts.length + (0 + 1)) * glue.length ≤ (ts.length + (0 + 1)) * 2 := Nat.mul_le_mul_left _ hg
          omega
        show PX _ _ _ _ _ _
        refine PX.cons (PX1.newAcc rfl rfl ?_)
        refine PX.nil (PX.nil (PX.nil ⟨hlt, by walk_at "lk", by walk_at "lk", os ++ [{ r with text := joinL glue (ts ++ [r.text]).reverse }], [], ?_, lookSelf, by simp; omega, Nat.zero_le _, (fun t ht => by cases ht), fun h => ?_, fun _ => ?_⟩))
        · rw [List.map_append]; walk_at "lk"
        · rw [hb'] at h; exact absurd h hnp
        · rw [hb', hd, jn_str hk, List.reverse_append, e1, List.reverse_append, e2]; exact ⟨rfl, rfl⟩
      · have hpp : pend rows b := Classical.not_not.mp (fun h => by rw [hbb.mpr h] at hb1; cases hb1)
        refine PX.nil (PX.nil ⟨hlt, by walk_at "lk", by walk_at "lk", os, ts ++ [r.text], by walk_at "lk", ?_, by omega, by simp; omega, hts, fun _ => ?_, fun h => ?_⟩)
        · rw [List.map_append]; walk_at "lk"
        · rw [hb']; exact ⟨e4, e3⟩
        · rw [hb'] at h; exact absurd hpp h
end
end
section
noncomputable abbrev KW (w : World) : Frag := hd.heap_39 w.params
section
open Builtin Builtin.ObjectAttr Builtin.Getset_descriptor
variable {w : World} {A : Around} {E : Value → Shared → Prop} {s : Shared} {C x : Addr} {ox od : Obj} {name : Str}

def slotPut (ox : Obj) (i : Nat) (v : Value) : Obj := { ox with slots := (ox.slots ++ Array.replicate (i + 1 - ox.slots.size) none).setIfInBounds i (some v) }

theorem descSet {p i : Nat} {v : Value} {R : Result → Shared → Prop} (X : (KW w).In s.heap) (I : InstAt s.heap x ox C (some od)) (hp : slotIn (KW w) p C = some i) (hi : i < 1000)
    (h : R (.ok (.ret .none)) { s with heap := s.heap.update x fun o => slotPut o i v }) :
    codeAny (model P w) A (.call (.builtin "member_descriptor.__set__") ⟨[.ref p, .ref x, v], []⟩) R s := by
  obtain ⟨n, tn, owner, behind, tb, d, sl, cd, ho, hc, hm, hb, rfl⟩ := slot_of X hp
  obtain ⟨hh, g, dr, t, os⟩ := s
  have L0 := I.type (M := model P w)
  have L1 := looks_mroIn (M := model P w) X hm
  have L2 : Looks (model P w) hh (Slots.slotNamesOf (.ref C)) cd.slotNames := (looks_clsIn X hc).andThen .now
  have hx := I.at_
  dsimp only at ho hx L0 L1
  have f0 := looks_field (M := model P w) ho 0 (v := .str n tn) rfl
  have f1 := looks_field (M := model P w) ho 1 (v := owner) rfl
  have f3 := looks_field (M := model P w) ho 3 (v := .builtin "proto.slot#set") rfl
  have f4 := looks_field (M := model P w) ho 4 (v := .int behind tb) rfl
  have f5 : Looks (model P w) hh (Builtin.Getset_descriptor.descrItself (.ref p)) [.ref p] := ((Looks.ld (part := none) ho).andThen .now).andThen (Looks.of_pure (by kernel_rfl))
  refine codeAny_call_builtin KF.slot_mset.plain KF.entry_mset (KF.slot_mset.check _ _ _ _ _ _ _ _ ⟨_, ho, rfl⟩ (KF.args_mset _ _ _) ?_)
  unfold Builtin.«member_descriptor.__set__» Builtin.Getset_descriptor.descrSet Builtin.Getset_descriptor.descrStoreThrough Builtin.Getset_descriptor.descrCheckInstance Builtin.Getset_descriptor.descrNameAndClass isInstance
  repeat lk
  refine ⟨Code.quiet_builtin _ (by decide +kernel), codeAny_builtin KF.entry_slotset ?_⟩
  unfold Builtin.«proto.slot#set» Slots.target
  repeat lk
  rw [if_neg hb]
  refine wpAny_pure (wpAny_bind ?_)
  unfold setSlotAt
  dsimp only
  rw [if_neg (by rw [sizeLine_eq]; omega)]
  exact wpAny_updatePart hx (wpAny_pure h)

theorem setSlotA {p i : Nat} {v : Value} {Q : Unit → Shared → Prop} (X : (KW w).In s.heap) (I : InstAt s.heap x ox C (some od))
    (hs : findIn (KW w) (.ref C) "__setattr__" = some (some (.builtin "object.__setattr__"))) (hp : plainOver (KW w) C = true) (ht : takerIn (KW w) C name = some (some (.ref p)))
    (hT : typeIn (KW w) (.ref p) = some (.type "member_descriptor")) (hsl : slotIn (KW w) p C = some i) (hi : i < 1000) (hf : ox.data = .plain)
    (q : ∀ h', Heap.SameBut x s.heap h' → h'.get? x = some (slotPut ox i v) → Q () { s with heap := h', toks := s.toks + 1 }) : wpAny (model P w) A (setAttr (.ref x) name v) Q E s := by
  refine set_plain X I hs (osa_descr (s := { s with toks := s.toks + 1 }) KF.slot_mset X I hp ht hT (descSet (s := { s with toks := s.toks + 1 }) X I hsl hi ?_))
  refine q _ (Heap.SameBut.update ..) (Heap.get?_update_self _ I.at_ ?_)
  show Obj.isFreed (slotPut ox i v) = false
  unfold slotPut Obj.isFreed
  simp only [hf]

theorem getSlotA {p i : Nat} {v : Value} {expr : Bool} {Q : Value → Shared → Prop} (X : (KW w).In s.heap) (I : InstAt s.heap x ox C (some od))
    (hga : findIn (KW w) (.ref C) "__getattribute__" = some (some (.builtin "object.__getattribute__"))) (hgt : findIn (KW w) (.ref C) "__getattr__" = some none)
    (hf : findObj (KW w) C (some od) name = some (.bind (.builtin "member_descriptor.__get__") (.ref p))) (hsl : slotIn (KW w) p C = some i) (hv : (ox.slots[i]?).join = some v) (hh : handedIn v = true)
    (q : Q v { s with toks := s.toks + 1 }) : wpAny (model P w) A (getAttr (.ref x) name expr) Q E s := by
  refine get_bind X I hga hf hgt ?_
  refine wpAny_call (slot_get (s := { s with toks := s.toks + 1 }) X I hsl hv ?_)
  show wpAny _ _ (handedOut v) _ _ _
  rw [handedOut_of hh]; exact wpAny_pure q
end
end
section
section
open Builtin Builtin.ObjectAttr Builtin.Getset_descriptor
variable {w : World} {A : Around} {E : Value → Shared → Prop} {s : Shared} {C x dx : Addr} {ox od : Obj} {name : Str} {m1 : Str → Option Value} {ns : List Str}

theorem setDictA {v : Value} {Q : Unit → Shared → Prop} (X : (KW w).In s.heap) (I : InstAt s.heap x ox C (some od)) (hd : ox.dict = some dx)
    (hs : findIn (KW w) (.ref C) "__setattr__" = some (some (.builtin "object.__setattr__"))) (hp : plainOver (KW w) C = true) (ht : takerIn (KW w) C name = some none)
    (hh : (clsIn (KW w) C).any (·.hasDict) = true) (hn : s.heap.Ns1 dx m1) (hw : Within m1 ns) (hz : ns.length ≤ 100)
    (q : ∀ h' tk, Heap.SameBut dx s.heap h' → h'.Ns1 dx (fun y => if y = name then some v else m1 y) → Q () { s with heap := h', toks := tk }) : wpAny (model P w) A (setAttr (.ref x) name v) Q E s := by
  refine set_plain X I hs (osa_open (s := { s with toks := s.toks + 1 }) X I hp ht fun b => ?_)
  obtain ⟨cd, hc, hd'⟩ := any_some hh
  obtain ⟨hx, hcl, hno, -⟩ := I
  obtain ⟨hp0, gg, dd, tt, os⟩ := s
  obtain ⟨oc, odi, oda, osl⟩ := ox
  dsimp only at hcl hd
  subst hcl hd
  refine wpAny_bind (wpAny_pure (wpAny_bind (wpAny_bind (wpAny_loadPart hx (wpAny_bind ((looks_clsIn X hc).at ?_))))))
  rw [hd']
  refine wpAny_pure (a := some dx) (wpAny_bind (wpAny_pure (wpAny_bind ?_)))
  refine wpAny_nsSet1 hn fun h' hn' hsb => ?_
  obtain ⟨oD, esD, epD, hoD, hdD, hcD⟩ := hn'.count (Within.cons name v hw)
  refine wpAny_bind (wpAny_lookBehind hoD (by rw [hdD]; exact pastItsLine_dict (Nat.le_trans hcD (by rw [List.length_cons, sizeLine_eq]; omega))) ?_)
  exact wpAny_pure (q h' _ hsb hn')

theorem lookIn_ns {h : Heap} {v : Value} (hn : h.Ns1 dx m1) (ho : h.get? dx = some od) (hv : m1 name = some v) : lookIn name od = some (some v) := by
  obtain ⟨o, es, ep, e1, e2, e3, _, e4⟩ := hn
  rw [ho] at e1; cases e1
  have := e4 name
  rw [hv] at this
  unfold lookIn
  rw [e2]
  dsimp only
  unfold nsFind findBy at this
  rw [Option.map_eq_some_iff] at this
  obtain ⟨en, h1, h2⟩ := this
  rw [← Array.find?_toList] at h1
  rw [h1, ← h2]

theorem getDictA {v : Value} {expr : Bool} {Q : Value → Shared → Prop} (X : (KW w).In s.heap) (I : InstAt s.heap x ox C (some od)) (ho : s.heap.get? dx = some od) (hn : s.heap.Ns1 dx m1) (hv : m1 name = some v)
    (hga : findIn (KW w) (.ref C) "__getattribute__" = some (some (.builtin "object.__getattribute__")))
    (hf : findObj (KW w) C (some od) name = (lookIn name od).bind fun own => match own with | some v => some (.value v) | none => some .missing) (hh : handedIn v = true)
    (q : Q v { s with toks := s.toks + 1 }) : wpAny (model P w) A (getAttr (.ref x) name expr) Q E s := by
  refine get_value X I hga ?_ hh q
  rw [hf, lookIn_ns hn ho hv]; rfl
end
theorem gaTok (w : World) : findIn (KW w) (.ref 155) "__getattribute__" = some (some (.builtin "object.__getattribute__")) := by kernel_rfl
theorem gaLoc (w : World) : findIn (KW w) (.ref 107) "__getattribute__" = some (some (.builtin "object.__getattribute__")) := by kernel_rfl
theorem gtTok (w : World) : findIn (KW w) (.ref 155) "__getattr__" = some none := by kernel_rfl
theorem gtLoc (w : World) : findIn (KW w) (.ref 107) "__getattr__" = some none := by kernel_rfl
theorem saTok (w : World) : findIn (KW w) (.ref 155) "__setattr__" = some (some (.builtin "object.__setattr__")) := by kernel_rfl
theorem saLoc (w : World) : findIn (KW w) (.ref 107) "__setattr__" = some (some (.builtin "object.__setattr__")) := by kernel_rfl
theorem poTok (w : World) : plainOver (KW w) 155 = true := by kernel_rfl
theorem poLoc (w : World) : plainOver (KW w) 107 = true := by kernel_rfl
theorem hdTok (w : World) : (clsIn (KW w) 155).any (·.hasDict) = true := by kernel_rfl
theorem tk_typ (w : World) : takerIn (KW w) 155 (Str.ofString "typ") = some (some (.ref 77)) := by kernel_rfl
theorem tk_val (w : World) : takerIn (KW w) 155 (Str.ofString "val") = some (some (.ref 78)) := by kernel_rfl
theorem tk_loc (w : World) : takerIn (KW w) 155 (Str.ofString "loc") = some (some (.ref 76)) := by kernel_rfl
theorem tk_space (w : World) : takerIn (KW w) 155 (Str.ofString "space") = some none := by kernel_rfl
theorem tk_first (w : World) : takerIn (KW w) 155 (Str.ofString "first") = some none := by kernel_rfl
theorem tk_col (w : World) : takerIn (KW w) 107 (Str.ofString "col") = some (some (.ref 108)) := by kernel_rfl
theorem tk_filename (w : World) : takerIn (KW w) 107 (Str.ofString "filename") = some (some (.ref 109)) := by kernel_rfl
theorem tk_length (w : World) : takerIn (KW w) 107 (Str.ofString "length") = some (some (.ref 110)) := by kernel_rfl
theorem tk_row (w : World) : takerIn (KW w) 107 (Str.ofString "row") = some (some (.ref 111)) := by kernel_rfl
theorem tk_source (w : World) : takerIn (KW w) 107 (Str.ofString "source") = some (some (.ref 112)) := by kernel_rfl
theorem ty76 (w : World) : typeIn (KW w) (.ref 76) = some (.type "member_descriptor") := by kernel_rfl
theorem ty77 (w : World) : typeIn (KW w) (.ref 77) = some (.type "member_descriptor") := by kernel_rfl
theorem ty78 (w : World) : typeIn (KW w) (.ref 78) = some (.type "member_descriptor") := by kernel_rfl
theorem ty108 (w : World) : typeIn (KW w) (.ref 108) = some (.type "member_descriptor") := by kernel_rfl
theorem ty109 (w : World) : typeIn (KW w) (.ref 109) = some (.type "member_descriptor") := by kernel_rfl
theorem ty110 (w : World) : typeIn (KW w) (.ref 110) = some (.type "member_descriptor") := by kernel_rfl
theorem ty111 (w : World) : typeIn (KW w) (.ref 111) = some (.type "member_descriptor") := by kernel_rfl
theorem ty112 (w : World) : typeIn (KW w) (.ref 112) = some (.type "member_descriptor") := by kernel_rfl
theorem sl76 (w : World) : slotIn (KW w) 76 155 = some 0 := by kernel_rfl
theorem sl77 (w : World) : slotIn (KW w) 77 155 = some 1 := by kernel_rfl
theorem sl78 (w : World) : slotIn (KW w) 78 155 = some 2 := by kernel_rfl
theorem sl108 (w : World) : slotIn (KW w) 108 107 = some 0 := by kernel_rfl
theorem sl109 (w : World) : slotIn (KW w) 109 107 = some 1 := by kernel_rfl
theorem sl110 (w : World) : slotIn (KW w) 110 107 = some 2 := by kernel_rfl
theorem sl111 (w : World) : slotIn (KW w) 111 107 = some 3 := by kernel_rfl
theorem sl112 (w : World) : slotIn (KW w) 112 107 = some 4 := by kernel_rfl
theorem fo_typ (w : World) (od : Obj) : findObj (KW w) 155 (some od) (Str.ofString "typ") = some (.bind (.builtin "member_descriptor.__get__") (.ref 77)) := by kernel_rfl
theorem fo_val (w : World) (od : Obj) : findObj (KW w) 155 (some od) (Str.ofString "val") = some (.bind (.builtin "member_descriptor.__get__") (.ref 78)) := by kernel_rfl
theorem fo_loc (w : World) (od : Obj) : findObj (KW w) 155 (some od) (Str.ofString "loc") = some (.bind (.builtin "member_descriptor.__get__") (.ref 76)) := by kernel_rfl
theorem fo_row (w : World) (od : Obj) : findObj (KW w) 107 (some od) (Str.ofString "row") = some (.bind (.builtin "member_descriptor.__get__") (.ref 111)) := by kernel_rfl
theorem fo_col (w : World) (od : Obj) : findObj (KW w) 107 (some od) (Str.ofString "col") = some (.bind (.builtin "member_descriptor.__get__") (.ref 108)) := by kernel_rfl
theorem fo_space (w : World) (od : Obj) : findObj (KW w) 155 (some od) (Str.ofString "space") = (lookIn (Str.ofString "space") od).bind fun own => match own with | some v => some (.value v) | none => some .missing := by kernel_rfl
theorem fo_first (w : World) (od : Obj) : findObj (KW w) 155 (some od) (Str.ofString "first") = (lookIn (Str.ofString "first") od).bind fun own => match own with | some v => some (.value v) | none => some .missing := by kernel_rfl
theorem mkTok (w : World) : makesIn (KW w) 155 = true := by kernel_rfl
theorem mkLoc (w : World) : makesIn (KW w) 107 = true := by kernel_rfl
theorem inTok (w : World) : findIn (KW w) (.ref 155) "__init__" = some (some (.ref 130)) := by kernel_rfl
theorem inLoc (w : World) : findIn (KW w) (.ref 107) "__init__" = some (some (.ref 96)) := by kernel_rfl
theorem fn130 (w : World) : typeIn (KW w) (.ref 130) = some (.type "function") := by kernel_rfl
theorem fn96 (w : World) : typeIn (KW w) (.ref 96) = some (.type "function") := by kernel_rfl
theorem fn64 (w : World) : typeIn (KW w) (.ref 64) = some (.type "function") := by kernel_rfl
end
section
section
variable {w : World} {d : Nat} {sc : Scope} {m : Env'}
theorem instAt {h : Heap} {x dx C : Addr} {ox od : Obj} (h1 : h.get? x = some ox) (h2 : ox.cls = .ref C) (h3 : ox.data = .plain) (h4 : ox.dict = some dx) (h5 : h.get? dx = some od) : InstAt h x ox C (some od) :=
  ⟨h1, h2, by unfold notCls; rw [h3], by rw [h4]; exact h5⟩

theorem slotAt (ox : Obj) (i : Nat) (v : Value) (j : Nat) : ((slotPut ox i v).slots[j]?).join = if j = i then some v else (ox.slots[j]?).join := by
  unfold slotPut
  simp only []
  have hsz : i < (ox.slots ++ Array.replicate (i + 1 - ox.slots.size) (none : Option Value)).size := by rw [Array.size_append, Array.size_replicate]; omega
  rw [Array.getElem?_setIfInBounds]
  by_cases h : i = j
  · subst h
    rw [if_pos rfl, if_pos hsz, if_pos rfl]; rfl
  · rw [if_neg h, if_neg (Ne.symm h), Array.getElem?_append]
    split
    · rfl
    · rename_i hj
      rw [Array.getElem?_replicate, Array.getElem?_eq_none (by omega)]
      split <;> rfl

theorem slotStep {env : Env} {L : Addr} {A : Around} {B : Heap} {own : Own} {s : Shared} {x attr : Str} {np ap pos : Pos} {e : Expr} {pv : PV} {rest : List Stmt} {y dy C : Addr} {oy od : Obj} {p i : Nat} {Q : Flow → Shared → Prop} {E : Value → Shared → Prop}
    (hE : EnvOk env sc L) (G : Gd w B) (Rm : Room A d) (X : St w B L own m s.heap) (hself : m.lookup x = some (.adr y)) (hk : sc.kind = .function) (hl : sc.names.lookup x = some .local) (hdb : (x == ("__debug__" : Str)) = false)
    (hy : y ∈ own.hid) (hyL : y ≠ L) (hyA : y ∉ own.acc.map Prod.snd) (hyB : B.get? y = none) (he : PE w d sc e m pv)
    (h1 : s.heap.get? y = some oy) (h2 : oy.cls = .ref C) (h3 : oy.data = .plain) (h4 : oy.dict = some dy) (h5 : s.heap.get? dy = some od)
    (hs : findIn (KW w) (.ref C) "__setattr__" = some (some (.builtin "object.__setattr__"))) (hp : plainOver (KW w) C = true) (ht : takerIn (KW w) C attr = some (some (.ref p)))
    (hT : typeIn (KW w) (.ref p) = some (.type "member_descriptor")) (hsl : slotIn (KW w) p C = some i) (hi : i < 1000)
    (q : ∀ h' tk v, St w B L own m h' → VR w (gOf h' L own) v pv → (∀ b o, b ≠ y → s.heap.get? b = some o → h'.get? b = some o) → h'.get? y = some (slotPut oy i v) → wpAny (model P w) A (execs rest env) Q E { s with heap := h', toks := tk })
    (hsw : ∀ env, swapsWith e (some (.Attribute (.Name x np) attr ap)) pos.line env = pure false := by intro _; rfl) :
    wpAny (model P w) A (execs (.Assign [.Attribute (.Name x np) attr ap] e pos :: rest) env) Q E s := by
  refine wpAny_execs_cons (plainObj_wpAny_Assign_Attribute (he env L A B own s _ E hE G Rm X fun v s1 t1 k1 r1 => ?_) (hsw _))
  have X1 := X.keep k1
  obtain ⟨mv, F, hm⟩ := X1.fr
  obtain ⟨vs, e1, e2⟩ := hm x _ hself
  cases e2
  refine wpAny_Name (wpAny_loadName_local (m := mv) (v := .ref y) (by rw [hE.sc]; exact hk) (by unfold Env.kindOf; rw [hE.sc]; exact hl) (by rw [hE.loc]; exact F.ns) e1 ?_) hdb
  have I := instAt (k1 _ _ h1) h2 h3 h4 (k1 _ _ h5)
  refine setSlotA (s := { s with heap := s1, toks := t1 }) (G.keep X1.base).k I hs hp ht hT hsl hi h3 fun h' sb hy' => ?_
  have kb : ∀ b o, b ≠ y → s1.get? b = some o → h'.get? b = some o := fun b o hb e => (sb.2 b hb).trans e
  have hsub : Sub (gOf s1 L own) (gOf h' L own) := fun b o e => by
    obtain ⟨hn, e⟩ := ex_some.mp e
    refine ex_some.mpr ⟨hn, kb b o (fun h => hn ?_) e⟩
    unfold Own.all
    rw [h]
    exact List.mem_cons_of_mem _ (List.mem_append_right _ hy)
  have X2 : St w B L own m h' := X1.move rfl (fun mv F => ⟨F.ns.at fun o e => kb L o (Ne.symm hyL) e, fun b o e => kb b o (fun h => by rw [h, hyB] at e; cases e) (F.keep b o e), F.above⟩) hsub
    (fun p hp o e => kb _ o (fun h => hyA (List.mem_map.mpr ⟨p, hp, h⟩)) e) fun b hb => by
      by_cases h : b = y
      · rw [h]; exact ⟨_, hy'⟩
      · obtain ⟨o, e⟩ := X1.there b hb; exact ⟨o, kb b o h e⟩
  exact q h' _ v X2 (r1.mono hsub) (fun b o hb e => kb b o hb (k1 _ _ e)) hy'

inductive LocP (p : Addr → Prop) (h : Heap) (y : Addr) (line col : Nat) : Prop
  | mk (oy : Obj) (dy : Addr) (ody : Obj) (t1 t2 : Tok) (e1 : h.get? y = some oy) (e2 : oy.cls = .ref 107) (e3 : oy.data = .plain) (e4 : oy.dict = some dy) (e5 : h.get? dy = some ody) (e6 : ody.cls = .type "dict")
    (e7 : (oy.slots[0]?).join = some (.int col t1)) (e8 : (oy.slots[3]?).join = some (.int line t2)) (e9 : p y) (e10 : p dy) : LocP p h y line col
abbrev LocAt (h0 h : Heap) (y : Addr) (line col : Nat) : Prop := LocP (fun b => h0.get? b = none) h y line col

theorem wTypeCall (C : Addr) (vals : List Value) : Code.weight (.builtin "type.__call__" ⟨.ref C :: vals, []⟩) = 1 := rfl
theorem uTypeCall (C : Addr) (vals : List Value) : Code.cUnits (.builtin "type.__call__" ⟨.ref C :: vals, []⟩) = 1 := rfl
theorem look_zip {w : World} {g : Gt} : ∀ (ns : List Str) {vs : List Value} {ps : List PV}, VRs w g vs ps → ∀ (acc : Env') (accv : List (Str × Value)), (∀ x pv, acc.lookup x = some pv → ∃ v, accv.lookup x = some v ∧ VR w g v pv) →
    ∀ x pv, ((ns.zip ps).reverse ++ acc).lookup x = some pv → ∃ v, ((ns.zip vs).reverse ++ accv).lookup x = some v ∧ VR w g v pv
  | [], vs, ps, _, acc, accv, ha => by simpa using ha
  | n :: ns, _, _, .nil, acc, accv, ha => by simpa using ha
  | n :: ns, _, _, .cons (v := v) (vs := vs) (p := p) (ps := ps) hv hr, acc, accv, ha => by
    have := look_zip ns hr ((n, p) :: acc) ((n, v) :: accv) (fun x pv e => by
      rw [List.lookup_cons] at e ⊢
      by_cases hx : x = n
      · subst hx; rw [beq_self_eq_true] at e ⊢; cases e; exact ⟨v, rfl, hv⟩
      · have hb : (x == n) = false := beq_eq_false_iff_ne.mpr hx
        rw [hb] at e ⊢; exact ha x pv e)
    simpa using this
theorem Room.under {A : Around} {d : Nat} (r : Room A (d + 1)) (C : Addr) (vals : List Value) : Room (A.under (.builtin "type.__call__" ⟨.ref C :: vals, []⟩)) d := by
  refine ⟨r.hh, ?_, ?_⟩
  · have := r.dep
    show A.depth + Code.weight _ + d < recursionLimit
    rw [wTypeCall]; omega
  · have := r.un
    show A.units + Code.cUnits _ + 8 * (d + 1) < cLine
    rw [uTypeCall]; omega

theorem VR.notAcc {w : World} {g : Gt} {v : Value} {p : PV} (r : VR w g v p) : p.isAcc = false := by cases r <;> rfl
theorem St.enter {w : World} {h h₁ : Heap} {L y : Addr} {names : List Str} {vs : List Value} {ps : List PV} (hns : h₁.Ns L (fun x => ((names.zip vs).reverse).lookup x)) (hk : Keep h h₁) (hL : h.objs.size ≤ L) (hy : ∃ o, h₁.get? y = some o) (Z : List Addr) (hZ : ∀ b ∈ Z, ∃ o, h₁.get? b = some o)
    (hv : VRs w (gOf h₁ L ⟨[], y :: Z⟩) vs ps) : St w h L ⟨[], y :: Z⟩ ((names.zip ps).reverse) h₁ := by
  refine ⟨⟨_, ⟨hns, hk, hL⟩, fun x pv e => ?_⟩, (fun p hp => nomatch hp), List.nodup_nil, fun b hb => ?_⟩
  · obtain ⟨v, e1, e2⟩ := look_zip names hv [] [] (fun x pv e => by cases e) x pv (by simpa using e)
    exact ⟨v, by simpa using e1, .of_VR e2.notAcc e2⟩
  · rcases List.mem_cons.mp hb with rfl | hb
    · exact hy
    · exact hZ b hb

theorem make_loc {A : Around} {s : Shared} {f : List Nat} {t0 t1 t2 t3 : Tok} {line col : Nat} {ln : Int} {Q E : Value → Shared → Prop} (G : Gd w s.heap) (Rm : Room A 3)
    (q : ∀ y h' tk, Keep s.heap h' → LocAt s.heap h' y line col → Q (.ref y) { s with heap := h', toks := tk }) :
    wpAny (model P w) A (call (.ref 107) [.str (S f) t0, .int line t1, .int col t2, .int ln t3]) Q E s := by
  refine wpAny_call ?_
  obtain ⟨h, g, dr, t, os⟩ := s
  have GK := G.k
  refine make_core (makes_of G.k (mkLoc w)) (looks_findIn G.k (inLoc w)) (fun self => bind_fn G.k self (fn96 w)) (.inl rfl) ?_
  have k0 : Keep h ((h.push emptyDict).push (instObj 107 h.objs.size)) := (keep_push _ _).trans (keep_push _ _)
  have G1 := G.keep k0
  obtain ⟨mean, mg, mb, T⟩ := G1.top
  have Rm1 := Rm.under 107 [.str (S f) t0, .int line t1, .int col t2, .int ln t3]
  refine codeAny_call_def (binds := [(Str.ofString "self", .ref (h.objs.size + 1)), (Str.ofString "filename", .str (S f) t0), (Str.ofString "row", .int line t1), (Str.ofString "col", .int col t2), (Str.ofString "ln", .int ln t3), (Str.ofString "source", .none)])
    (by have := Rm1.dep; omega) (G1.k 96 _ rfl) rfl T.nolimit (codeRec_of G1.k (by kernel_rfl)) rfl (kp_binds G1.k fun S => by kernel_rfl) (by decide) (locs rfl) (fun h₁ hns hk₁ => ?_)
  dsimp only at hns hk₁ ⊢
  have Rm2 := fun env => Rm1.deeper (env := env)
  have hy0 : ((h.push emptyDict).push (instObj 107 h.objs.size)).get? (h.objs.size + 1) = some (instObj 107 h.objs.size) := Heap.get?_push_at (by rw [Heap.size_push]) rfl
  have hd0 : ((h.push emptyDict).push (instObj 107 h.objs.size)).get? h.objs.size = some emptyDict := keep_push _ _ _ _ (Heap.get?_push_size _ rfl)
  have hyn : h.get? (h.objs.size + 1) = none := Heap.get?_none_of_le (Nat.le_succ _)
  have hsz : ((h.push emptyDict).push (instObj 107 h.objs.size)).objs.size = h.objs.size + 2 := by rw [Heap.size_push, Heap.size_push]
  have hyL : h.objs.size + 1 ≠ ((h.push emptyDict).push (instObj 107 h.objs.size)).objs.size := by rw [hsz]; exact Nat.ne_of_lt (Nat.lt_succ_self _)
  have hyd : h.objs.size ≠ h.objs.size + 1 := Nat.ne_of_lt (Nat.lt_succ_self _)
  have hy1 := hk₁ _ _ hy0
  have hd1 := hk₁ _ _ hd0
  have kh : Keep h h₁ := fun b o e => hk₁ b o (k0 b o e)
  have X : St w h ((h.push emptyDict).push (instObj 107 h.objs.size)).objs.size ⟨[], [h.objs.size + 1]⟩ (([Str.ofString "self", Str.ofString "filename", Str.ofString "row", Str.ofString "col", Str.ofString "ln", Str.ofString "source"].zip [PV.adr (h.objs.size + 1), .str f, .int line, .int col, .int ln, .none]).reverse) h₁ :=
    St.enter (vs := [.ref (h.objs.size + 1), .str (S f) t0, .int line t1, .int col t2, .int ln t3, .none]) hns kh (by rw [hsz]; exact Nat.le_add_right _ _) ⟨_, hy1⟩ [] (by simp) (.cons (.adr _) (.cons (.str _ _) (.cons (.int _ _) (.cons (.int _ _) (.cons (.int _ _) (.cons .none .nil))))))
  generalize ((h.push emptyDict).push (instObj 107 h.objs.size)).objs.size = L at *
  refine slotStep (i := 1) ⟨rfl, rfl, rfl, rfl⟩ G (Rm2 _) X rfl rfl rfl (by decide) (List.mem_singleton.mpr rfl) hyL (by simp) hyn (PE.name (pv := .str f) rfl rfl rfl rfl (by decide)) hy1 rfl rfl rfl hd1 (saLoc w) (poLoc w) (tk_filename w) (ty109 w) (sl109 w) (by decide) fun h2 tk2 v2 X2 r2 kb2 hy2 => ?_
  have hd2 := kb2 _ _ hyd hd1
  refine slotStep (i := 3) ⟨rfl, rfl, rfl, rfl⟩ G (Rm2 _) X2 rfl rfl rfl (by decide) (List.mem_singleton.mpr rfl) hyL (by simp) hyn (PE.name (pv := .int line) rfl rfl rfl rfl (by decide)) hy2 rfl rfl rfl hd2 (saLoc w) (poLoc w) (tk_row w) (ty111 w) (sl111 w) (by decide) fun h3 tk3 v3 X3 r3 kb3 hy3 => ?_
  have hd3 := kb3 _ _ hyd hd2
  refine slotStep (i := 0) ⟨rfl, rfl, rfl, rfl⟩ G (Rm2 _) X3 rfl rfl rfl (by decide) (List.mem_singleton.mpr rfl) hyL (by simp) hyn (PE.name (pv := .int col) rfl rfl rfl rfl (by decide)) hy3 rfl rfl rfl hd3 (saLoc w) (poLoc w) (tk_col w) (ty108 w) (sl108 w) (by decide) fun h4 tk4 v4 X4 r4 kb4 hy4 => ?_
  have hd4 := kb4 _ _ hyd hd3
  refine slotStep (i := 2) ⟨rfl, rfl, rfl, rfl⟩ G (Rm2 _) X4 rfl rfl rfl (by decide) (List.mem_singleton.mpr rfl) hyL (by simp) hyn (PE.name (pv := .int ln) rfl rfl rfl rfl (by decide)) hy4 rfl rfl rfl hd4 (saLoc w) (poLoc w) (tk_length w) (ty110 w) (sl110 w) (by decide) fun h5 tk5 v5 X5 r5 kb5 hy5 => ?_
  have hd5 := kb5 _ _ hyd hd4
  refine slotStep (i := 4) ⟨rfl, rfl, rfl, rfl⟩ G (Rm2 _) X5 rfl rfl rfl (by decide) (List.mem_singleton.mpr rfl) hyL (by simp) hyn (PE.name (pv := .none) rfl rfl rfl rfl (by decide)) hy5 rfl rfl rfl hd5 (saLoc w) (poLoc w) (tk_source w) (ty112 w) (sl112 w) (by decide) fun h6 tk6 v6 X6 r6 kb6 hy6 => ?_
  have hd6 := kb6 _ _ hyd hd5
  refine wpAny_execs_nil ⟨rfl, ?_⟩
  cases r3
  cases r4
  rename_i t4 t5
  refine q _ h6 tk6 X6.base ⟨_, _, _, t5, t4, hy6, rfl, rfl, rfl, hd6, rfl, ?_, ?_, hyn, Heap.get?_none_of_le (Nat.le_refl _)⟩
  · rw [slotAt, if_neg (by decide), slotAt, if_neg (by decide), slotAt, if_pos rfl]
  · rw [slotAt, if_neg (by decide), slotAt, if_neg (by decide), slotAt, if_neg (by decide), slotAt, if_pos rfl]
end
end
section
section
variable {w : World} {d : Nat} {sc : Scope} {m : Env'}
theorem PE.class {x : Str} {a : Addr} {pos : Pos} (hm : nsIn (hd.heap_39 w.params) mainGlobals x = some (some (.ref a))) (hk : sc.kind = .function) (hl : sc.names.lookup x = some .globalImplicit) (hd : (x == ("__debug__" : Str)) = false) :
    PE w d sc (.Name x pos) m (.adr a) := by
  intro env L A B own s Q E hE G R X q
  obtain ⟨mv, F, _⟩ := X.fr
  obtain ⟨mean, mg, mb, T⟩ := G.top
  exact Calls.Name_function_global (by rw [hE.sc]; exact hk) (by unfold Env.kindOf; rw [hE.sc]; exact hl)
    (Calls.loadGlobal_global (by rw [hE.glob]; exact T.g.keeps F.keep) (mg_of G.k T.g hm) (q _ s.heap s.toks (Keep.refl _) (.adr a))) hd
theorem nsSL : nsIn (hd.heap_39 w.params) mainGlobals (Str.ofString "SourceLocation") = some (some (.ref 107)) := by kernel_rfl
theorem nsCT : nsIn (hd.heap_39 w.params) mainGlobals (Str.ofString "CToken") = some (some (.ref 155)) := by kernel_rfl
theorem nsIsI : nsIn (hd.heap_39 w.params) mainGlobals (Str.ofString "isinstance") = some .none := by kernel_rfl
theorem nsSuper : nsIn (hd.heap_39 w.params) mainGlobals (Str.ofString "super") = some .none := by kernel_rfl
theorem isLoc : isIn (hd.heap_39 w.params) (.ref 107) 107 = true := by kernel_rfl

theorem assertStep {env : Env} {L : Addr} {A : Around} {B : Heap} {own : Own} {s : Shared} {x : Str} {np n2 n3 cp pos : Pos} {rest : List Stmt} {y line col : Nat} {Q : Flow → Shared → Prop} {E : Value → Shared → Prop}
    (hE : EnvOk env sc L) (G : Gd w B) (Rm : Room A d) (X : St w B L own m s.heap) (hx : m.lookup x = some (.adr y)) (hk : sc.kind = .function) (hl : sc.names.lookup x = some .local) (hdb : (x == ("__debug__" : Str)) = false)
    (hi : sc.names.lookup (Str.ofString "isinstance") = some .globalImplicit) (hs : sc.names.lookup (Str.ofString "SourceLocation") = some .globalImplicit) {h0 : Heap} (hy : LocAt h0 s.heap y line col)
    (q : ∀ h' tk, Keep s.heap h' → wpAny (model P w) A (execs rest env) Q E { s with heap := h', toks := tk })
    (h1 : ∀ env, starEach [Expr.Name x n2, .Name (Str.ofString "SourceLocation") n3] env = (false, eval (.Name x n2) env) :: starEach [.Name (Str.ofString "SourceLocation") n3] env := by intro _; exact star_cons rfl)
    (h2 : ∀ env, starEach [Expr.Name (Str.ofString "SourceLocation") n3] env = (false, eval (.Name (Str.ofString "SourceLocation") n3) env) :: starEach [] env := by intro _; exact star_cons rfl)
    (hp : ∀ (p : Pos) env, (backTo p (starEach [Expr.Name (Str.ofString "SourceLocation") n3] env)).any (·.1) = false := by intro _ _; rfl) :
    wpAny (model P w) A (execs (.Assert (.Call (.Name (Str.ofString "isinstance") np) [.Name x n2, .Name (Str.ofString "SourceLocation") n3] [] cp) .none pos :: rest) env) Q E s := by
  refine wpAny_execs_cons (wpAny_Assert_holds (isTrue_plain ?_ rfl))
  refine wpAny_Call_NameR (nameB (w := w) (m := m) (v := .builtin "isinstance") rfl (by decide) nsIsI hE G X hk hi (by decide) ?_)
  refine PyProof.Rows.callWith_builtin1 ?_ (h1 _) (hp _ _)
  refine PEs.cons (PE.name hx rfl hl hk hdb) (PEs.cons (PE.class nsSL hk hs (by decide)) PEs.nil h2) h1 env L A B own s cp _ E hE G Rm X fun vs s1 t1 k1 r1 => ?_
  cases r1 with
  | cons ra rs => cases rs with
    | cons rb rs => cases rs; obtain rfl := ra.inv; obtain rfl := rb.inv
                    obtain ⟨oy, dy, ody, ta, tb, e1, e2, e3, e4, e5, e6, e7, e8⟩ := hy
                    have I := instAt (k1 _ _ e1) e2 e3 e4 (k1 _ _ e5)
                    refine isi_call (s := { s with heap := s1, toks := t1 }) (G.keep (X.keep k1).base).k (fun M => I.type) isLoc (by intro e; cases e) ?_
                    refine wpAny_truthy_bool ?_
                    exact ⟨rfl, q s1 t1 k1⟩

theorem dictStep {env : Env} {L : Addr} {A : Around} {B : Heap} {own : Own} {s : Shared} {x attr : Str} {np ap pos : Pos} {e : Expr} {pv : PV} {rest : List Stmt} {y dy C : Addr} {oy : Obj} {m1 : Str → Option Value} {ns : List Str} {Q : Flow → Shared → Prop} {E : Value → Shared → Prop}
    (hE : EnvOk env sc L) (G : Gd w B) (Rm : Room A d) (X : St w B L own m s.heap) (hself : m.lookup x = some (.adr y)) (hk : sc.kind = .function) (hl : sc.names.lookup x = some .local) (hdb : (x == ("__debug__" : Str)) = false)
    (hy : dy ∈ own.hid) (hyL : dy ≠ L) (hyA : dy ∉ own.acc.map Prod.snd) (hyB : B.get? dy = none) (he : PE w d sc e m pv)
    (h1 : s.heap.get? y = some oy) (h2 : oy.cls = .ref C) (h3 : oy.data = .plain) (h4 : oy.dict = some dy) (hn : s.heap.Ns1 dy m1) (hw : Within m1 ns) (hz : ns.length ≤ 100)
    (hs : findIn (KW w) (.ref C) "__setattr__" = some (some (.builtin "object.__setattr__"))) (hp : plainOver (KW w) C = true) (ht : takerIn (KW w) C attr = some none) (hh : (clsIn (KW w) C).any (·.hasDict) = true)
    (q : ∀ h' tk v, St w B L own m h' → VR w (gOf h' L own) v pv → (∀ b o, b ≠ dy → s.heap.get? b = some o → h'.get? b = some o) → h'.Ns1 dy (fun z => if z = attr then some v else m1 z) → wpAny (model P w) A (execs rest env) Q E { s with heap := h', toks := tk })
    (hsw : ∀ env, swapsWith e (some (.Attribute (.Name x np) attr ap)) pos.line env = pure false := by intro _; rfl) :
    wpAny (model P w) A (execs (.Assign [.Attribute (.Name x np) attr ap] e pos :: rest) env) Q E s := by
  refine wpAny_execs_cons (plainObj_wpAny_Assign_Attribute (he env L A B own s _ E hE G Rm X fun v s1 t1 k1 r1 => ?_) (hsw _))
  have X1 := X.keep k1
  obtain ⟨mv, F, hm⟩ := X1.fr
  obtain ⟨vs, e1, e2⟩ := hm x _ hself
  cases e2
  refine wpAny_Name (wpAny_loadName_local (m := mv) (v := .ref y) (by rw [hE.sc]; exact hk) (by unfold Env.kindOf; rw [hE.sc]; exact hl) (by rw [hE.loc]; exact F.ns) e1 ?_) hdb
  have hn1 : s1.Ns1 dy m1 := hn.at fun o e => k1 _ _ e
  obtain ⟨od, es, ep, g1, g2⟩ := id hn1
  have I := instAt (k1 _ _ h1) h2 h3 h4 g1
  refine setDictA (s := { s with heap := s1, toks := t1 }) (G.keep X1.base).k I h4 hs hp ht hh hn1 hw hz fun h' tk sb hy' => ?_
  have kb : ∀ b o, b ≠ dy → s1.get? b = some o → h'.get? b = some o := fun b o hb e => (sb.2 b hb).trans e
  have hsub : Sub (gOf s1 L own) (gOf h' L own) := fun b o e => by
    obtain ⟨hn, e⟩ := ex_some.mp e
    refine ex_some.mpr ⟨hn, kb b o (fun h => hn ?_) e⟩
    unfold Own.all
    rw [h]
    exact List.mem_cons_of_mem _ (List.mem_append_right _ hy)
  have X2 : St w B L own m h' := X1.move rfl (fun mv F => ⟨F.ns.at fun o e => kb L o (Ne.symm hyL) e, fun b o e => kb b o (fun h => by rw [h, hyB] at e; cases e) (F.keep b o e), F.above⟩) hsub
    (fun p hp o e => kb _ o (fun h => hyA (List.mem_map.mpr ⟨p, hp, h⟩)) e) fun b hb => by
      by_cases h : b = dy
      · rw [h]; obtain ⟨o, _, _, e, _⟩ := hy'; exact ⟨o, e⟩
      · obtain ⟨o, e⟩ := X1.there b hb; exact ⟨o, kb b o h e⟩
  exact q h' tk v X2 (r1.mono hsub) (fun b o hb e => kb b o hb (k1 _ _ e)) hy'

inductive TokP (p : Addr → Prop) (h : Heap) (x : Addr) (r : Row) : Prop
  | mk (ox : Obj) (dx : Addr) (m1 : Str → Option Value) (y : Addr) (t1 t2 t3 : Tok) (e1 : h.get? x = some ox) (e2 : ox.cls = .ref 155) (e3 : ox.data = .plain) (e4 : ox.dict = some dx) (e5 : h.Ns1 dx m1) (e6 : m1 (Str.ofString "space") = some (.str (S r.space) t3)) (e7 : m1 (Str.ofString "first") = some (.bool r.first))
    (e8 : (ox.slots[0]?).join = some (.ref y)) (e9 : LocP p h y r.line r.col) (e10 : (ox.slots[1]?).join = some (.str (S r.kind) t1)) (e11 : (ox.slots[2]?).join = some (.str (S r.text) t2)) (e12 : p x) (e13 : p dx) : TokP p h x r
abbrev TokAt (h0 h : Heap) (x : Addr) (r : Row) : Prop := TokP (fun b => h0.get? b = none) h x r
theorem LocAt.keep {h0 h h' : Heap} {y : Addr} {line col : Nat} (x : LocAt h0 h y line col) (k : Keep h h') : LocAt h0 h' y line col := by
  obtain ⟨oy, dy, ody, t1, t2, a, b, c, e, f, g1, g2, g3, g4, g5⟩ := x
  exact ⟨oy, dy, ody, t1, t2, k _ _ a, b, c, e, k _ _ f, g1, g2, g3, g4, g5⟩

theorem put_cls {ox : Obj} {i : Nat} {v : Value} {c : Value} (h : ox.cls = c) : (slotPut ox i v).cls = c := h
theorem put_data {ox : Obj} {i : Nat} {v : Value} {c : Data} (h : ox.data = c) : (slotPut ox i v).data = c := h
theorem put_dict {ox : Obj} {i : Nat} {v : Value} {c : Option Addr} (h : ox.dict = c) : (slotPut ox i v).dict = c := h
theorem token_init {A : Around} {h : Heap} {s : Shared} {x dx y : Addr} {ox od : Obj} {kind text : List Nat} {tk1 tk2 : Tok} {line col : Nat} {R : Result → Shared → Prop} (G : Gd w h) (Rm : Room A 2) (kh : Keep h s.heap) (hsz : h.objs.size ≤ s.heap.objs.size) (hxn : h.get? x = none)
    (hx : s.heap.get? x = some ox) (h2 : ox.cls = .ref 155) (h3 : ox.data = .plain) (h4 : ox.dict = some dx) (hdx : s.heap.get? dx = some od) (hxd : dx ≠ x) {h0 : Heap} (hl : LocAt h0 h y line col)
    (q : ∀ h' tk t1 t2, (∀ b o, b ≠ x → s.heap.get? b = some o → h'.get? b = some o) → h'.get? x = some (slotPut (slotPut (slotPut ox 1 (.str (S kind) t1)) 2 (.str (S text) t2)) 0 (.ref y)) → R (.ok (.ret .none)) { s with heap := h', toks := tk }) :
    codeAny (model P w) A (.call (.ref 64) ⟨[.ref x, .str (S kind) tk1, .str (S text) tk2, .ref y], []⟩) R s := by
  have G1 := G.keep kh
  obtain ⟨mean, mg, mb, T⟩ := G1.top
  refine codeAny_call_def (binds := [(Str.ofString "self", .ref x), (Str.ofString "typ", .str (S kind) tk1), (Str.ofString "val", .str (S text) tk2), (Str.ofString "loc", .ref y)])
    (by have := Rm.dep; omega) (G1.k 64 _ rfl) rfl T.nolimit (codeRec_of G1.k (by kernel_rfl)) rfl (kp_binds G1.k fun S => by kernel_rfl) (by decide) (locs rfl) (fun h₁ hns hk₁ => ?_)
  have Rm2 := fun env => Rm.deeper (env := env)
  have hx1 := hk₁ _ _ hx
  have hd1 := hk₁ _ _ hdx
  have kh1 : Keep h h₁ := fun b o e => hk₁ b o (kh b o e)
  have hyL : x ≠ s.heap.objs.size := Nat.ne_of_lt (Heap.lt_size hx)
  have X : St w h s.heap.objs.size ⟨[], [x]⟩ (([Str.ofString "self", Str.ofString "typ", Str.ofString "val", Str.ofString "loc"].zip [PV.adr x, .str kind, .str text, .adr y]).reverse) h₁ :=
    St.enter (vs := [.ref x, .str (S kind) tk1, .str (S text) tk2, .ref y]) hns kh1 hsz ⟨_, hx1⟩ [] (by simp) (.cons (.adr _) (.cons (.str _ _) (.cons (.str _ _) (.cons (.adr _) .nil))))
  generalize s.heap.objs.size = L at *
  refine slotStep (i := 1) ⟨rfl, rfl, rfl, rfl⟩ G (Rm2 _) X rfl rfl rfl (by decide) (List.mem_singleton.mpr rfl) hyL (by simp) hxn (PE.name (pv := .str kind) rfl rfl rfl rfl (by decide)) hx1 h2 h3 h4 hd1 (saTok w) (poTok w) (tk_typ w) (ty77 w) (sl77 w) (by decide) fun h2' tk2 v2 X2 r2 kb2 hy2 => ?_
  have hd2 := kb2 _ _ hxd hd1
  refine slotStep (i := 2) ⟨rfl, rfl, rfl, rfl⟩ G (Rm2 _) X2 rfl rfl rfl (by decide) (List.mem_singleton.mpr rfl) hyL (by simp) hxn (PE.name (pv := .str text) rfl rfl rfl rfl (by decide)) hy2 (put_cls h2) (put_data h3) (put_dict h4) hd2 (saTok w) (poTok w) (tk_val w) (ty78 w) (sl78 w) (by decide) fun h3' tk3 v3 X3 r3 kb3 hy3 => ?_
  have hd3 := kb3 _ _ hxd hd2
  refine assertStep ⟨rfl, rfl, rfl, rfl⟩ G (Rm2 _) X3 rfl rfl rfl (by decide) rfl rfl (hl.keep X3.base) fun h4' tk4 k4 => ?_
  refine slotStep (i := 0) ⟨rfl, rfl, rfl, rfl⟩ G (Rm2 _) (X3.keep k4) rfl rfl rfl (by decide) (List.mem_singleton.mpr rfl) hyL (by simp) hxn (PE.name (pv := .adr y) rfl rfl rfl rfl (by decide)) (k4 _ _ hy3) (put_cls (put_cls h2)) (put_data (put_data h3)) (put_dict (put_dict h4)) (k4 _ _ hd3) (saTok w) (poTok w) (tk_loc w) (ty76 w) (sl76 w) (by decide) fun h5 tk5 v5 X5 r5 kb5 hy5 => ?_
  obtain ⟨_, rfl⟩ := r2.inv
  obtain ⟨_, rfl⟩ := r3.inv
  obtain rfl := r5.inv
  refine wpAny_execs_nil (q h5 tk5 _ _ (fun b o hb e => kb5 b o hb (k4 _ _ (kb3 b o hb (kb2 b o hb (hk₁ _ _ e))))) hy5)
end
end
section
section
variable {w : World} {d : Nat} {sc : Scope} {m : Env'}
theorem make_tok {A : Around} {s : Shared} {r : Row} {y : Addr} {t1 t2 t3 : Tok} {Q E : Value → Shared → Prop} (G : Gd w s.heap) (Rm : Room A 5) {h0 : Heap} (hl : LocAt h0 s.heap y r.line r.col) (k00 : Keep h0 s.heap)
    (q : ∀ x h' tk, Keep s.heap h' → TokAt h0 h' x r → Q (.ref x) { s with heap := h', toks := tk }) :
    wpAny (model P w) A (call (.ref 155) [.str (S r.kind) t1, .str (S r.text) t2, .str (S r.space) t3, .bool r.first, .ref y]) Q E s := by
  refine wpAny_call ?_
  obtain ⟨h, g, dr, t, os⟩ := s
  have GK := G.k
  dsimp only at GK
  obtain ⟨meanG, mgG, mbG, TG⟩ := G.top
  dsimp only at TG
  refine make_core (makes_of G.k (mkTok w)) (looks_findIn G.k (inTok w)) (fun self => bind_fn G.k self (fn130 w)) (.inl rfl) ?_
  have k0 : Keep h ((h.push emptyDict).push (instObj 155 h.objs.size)) := (keep_push _ _).trans (keep_push _ _)
  have G1 := G.keep k0
  obtain ⟨mean, mg, mb, T⟩ := G1.top
  have Rm1 := Rm.under 155 [.str (S r.kind) t1, .str (S r.text) t2, .str (S r.space) t3, .bool r.first, .ref y]
  have hx0 : ((h.push emptyDict).push (instObj 155 h.objs.size)).get? (h.objs.size + 1) = some (instObj 155 h.objs.size) := Heap.get?_push_at (by rw [Heap.size_push]) rfl
  have hd0 : ((h.push emptyDict).push (instObj 155 h.objs.size)).get? h.objs.size = some emptyDict := keep_push _ _ _ _ (Heap.get?_push_size _ rfl)
  have hsz : ((h.push emptyDict).push (instObj 155 h.objs.size)).objs.size = h.objs.size + 2 := by rw [Heap.size_push, Heap.size_push]
  refine ks_codeAny_call_defAt (binds := [(Str.ofString "self", .ref (h.objs.size + 1)), (Str.ofString "typ", .str (S r.kind) t1), (Str.ofString "val", .str (S r.text) t2), (Str.ofString "space", .str (S r.space) t3), (Str.ofString "first", .bool r.first), (Str.ofString "loc", .ref y)])
    (by have := Rm1.dep; omega) (G1.k 130 _ rfl) rfl T.nolimit (codeRec_of G1.k (by kernel_rfl)) rfl (kp_binds G1.k fun S => by kernel_rfl) (by decide) (locs rfl) (fun h₁ hns hk₁ => ?_)
  have Rm2 := fun env => Rm1.deeper (env := env)
  have hxn : h.get? (h.objs.size + 1) = none := Heap.get?_none_of_le (Nat.le_succ _)
  have hdn : h.get? h.objs.size = none := Heap.get?_none_of_le (Nat.le_refl _)
  have hx1 := hk₁ _ _ hx0
  have hd1 := hk₁ _ _ hd0
  have kh : Keep h h₁ := fun b o e => hk₁ b o (k0 b o e)
  have hxL : h.objs.size + 1 ≠ ((h.push emptyDict).push (instObj 155 h.objs.size)).objs.size := by rw [hsz]; exact Nat.ne_of_lt (Nat.lt_succ_self _)
  have hdL : h.objs.size ≠ ((h.push emptyDict).push (instObj 155 h.objs.size)).objs.size := by rw [hsz]; exact Nat.ne_of_lt (Nat.lt_of_lt_of_le (Nat.lt_succ_self _) (Nat.le_succ _))
  have hdx : h.objs.size ≠ h.objs.size + 1 := Nat.ne_of_lt (Nat.lt_succ_self _)
  have hLsz : h.objs.size ≤ ((h.push emptyDict).push (instObj 155 h.objs.size)).objs.size := by rw [hsz]; exact Nat.le_add_right _ _
  have F : Fr h ((h.push emptyDict).push (instObj 155 h.objs.size)).objs.size h₁ _ := ⟨hns, kh, hLsz⟩
  have N : News h ((h.push emptyDict).push (instObj 155 h.objs.size)).objs.size h₁ [(h.objs.size + 1, instObj 155 h.objs.size), (h.objs.size, emptyDict)] := by
    intro p hp
    simp only [List.mem_cons, List.not_mem_nil, or_false] at hp
    rcases hp with rfl | rfl
    · exact ⟨hx1, hxL, hxn⟩
    · exact ⟨hd1, hdL, hdn⟩
  have I1 : InstAt h₁ (h.objs.size + 1) (instObj 155 h.objs.size) 155 (some emptyDict) := instAt hx1 rfl rfl rfl hd1
  generalize ((h.push emptyDict).push (instObj 155 h.objs.size)).objs.size = L at *
  refine ks_wpAt_execs_cons (ks_wpAt_Expr_any (ks_wpAt_MethodCall ?_))
  refine ks_node (K := hd.heap_39 w.params) (C := 155) (D := 155) F GK N TG rfl rfl rfl I1 rfl rfl (by first | rfl | decide +kernel) rfl rfl (by kernel_rfl) nsSuper (by decide) rfl rfl rfl rfl (by decide +kernel) rfl (fun so h2 F2 N2 _ => ?_)
  have mso : (so, ks_superObj 155 (h.objs.size + 1) 155) ∈ (so, ks_superObj 155 (h.objs.size + 1) 155) :: [(h.objs.size + 1, instObj 155 h.objs.size), (h.objs.size, emptyDict)] := List.mem_cons_self ..
  have hx2 := (N2 (h.objs.size + 1, instObj 155 h.objs.size) (by simp)).1
  have hd2 := (N2 (h.objs.size, emptyDict) (by simp)).1
  refine ks_method (K := hd.heap_39 w.params) (C := 155) (D := 155) (x := h.objs.size + 1) F2 GK N2 mso (instAt hx2 rfl rfl rfl hd2) (by kernel_rfl) (by kernel_rfl : ks_superIn (KW w) 155 155 (Str.ofString "__init__") = some (some (.ref 64))) (fn64 w) (by decide) (fun qm h3 F3 N3 _ => ?_)
  have hx3 := (N3 (h.objs.size + 1, instObj 155 h.objs.size) (by simp)).1
  have hd3 := (N3 (h.objs.size, emptyDict) (by simp)).1
  have hq3 := (N3 (qm, methodObj (.ref 64) (.ref (h.objs.size + 1))) (by simp)).1
  have X3 : St w h L ⟨[], [h.objs.size + 1, h.objs.size]⟩ (([Str.ofString "self", Str.ofString "typ", Str.ofString "val", Str.ofString "space", Str.ofString "first", Str.ofString "loc"].zip [PV.adr (h.objs.size + 1), .str r.kind, .str r.text, .str r.space, .bool r.first, .adr y]).reverse) h3 :=
    St.enter (vs := [.ref (h.objs.size + 1), .str (S r.kind) t1, .str (S r.text) t2, .str (S r.space) t3, .bool r.first, .ref y]) F3.ns F3.keep hLsz ⟨_, hx3⟩ [h.objs.size] (by intro b hb; rw [List.mem_singleton.mp hb]; exact ⟨_, hd3⟩) (.cons (.adr _) (.cons (.str _ _) (.cons (.str _ _) (.cons (.str _ _) (.cons (.bool _) (.cons (.adr _) .nil))))))
  refine callWith_M (h₀ := h) GK N3 (List.mem_cons_self ..) (by kernel_rfl) ?_
  refine PEs.cons (w := w) (d := 1) (PE.name (pv := .str r.kind) rfl rfl rfl rfl (by decide)) (PEs.cons (PE.name (pv := .str r.text) rfl rfl rfl rfl (by decide)) (PEs.cons (PE.name (pv := .adr y) rfl rfl rfl rfl (by decide)) PEs.nil (by intro _; exact star_cons rfl)) (by intro _; exact star_cons rfl)) (by intro _; exact star_cons rfl)
    _ L _ h ⟨[], [h.objs.size + 1, h.objs.size]⟩ _ _ _ _ ⟨rfl, rfl, rfl, rfl⟩ G ((Rm2 _).less (by omega)) X3 fun vs h4 t4 k4 r4 => ?_
  have F4 : Fr h L h4 _ := ⟨F3.ns.keeps k4, fun b o e => k4 _ _ (F3.keep b o e), F3.above⟩
  have hx4 := k4 _ _ hx3
  have hd4 := k4 _ _ hd3
  have hq4 := k4 _ _ hq3
  refine ⟨⟨hq4, fun a o e => F4.keep _ _ (GK a o e)⟩, ?_⟩
  have hs4 : h.objs.size ≤ h4.objs.size := by
    obtain ⟨o, _, _, ho, _⟩ := F4.ns
    exact Nat.le_trans hLsz (Nat.le_of_lt (Heap.lt_size ho))
  cases r4 with
  | cons ra rs => cases rs with
    | cons rb rs => cases rs with
      | cons rc rs =>
        cases rs; obtain ⟨_, rfl⟩ := ra.inv; obtain ⟨_, rfl⟩ := rb.inv; obtain rfl := rc.inv
        refine wpAny_call (method_call hq4 ?_)
        refine token_init (h := h) G ((Rm2 _).less (by omega)) F4.keep hs4 hxn hx4 rfl rfl rfl hd4 hdx hl fun h5 t5 u1 u2 k5 hx5 => ?_
        refine wpAt_of_wpAny ?_
        have kh5 : Keep h h5 := fun b o e => k5 b o (fun hb => by rw [hb, hxn] at e; cases e) (F4.keep b o e)
        have hd5 := k5 _ _ hdx hd4
        have X5 : St w h L ⟨[], [h.objs.size + 1, h.objs.size]⟩ (([Str.ofString "self", Str.ofString "typ", Str.ofString "val", Str.ofString "space", Str.ofString "first", Str.ofString "loc"].zip [PV.adr (h.objs.size + 1), .str r.kind, .str r.text, .str r.space, .bool r.first, .adr y]).reverse) h5 :=
          St.enter (vs := [.ref (h.objs.size + 1), .str (S r.kind) t1, .str (S r.text) t2, .str (S r.space) t3, .bool r.first, .ref y]) (F4.ns.at fun o e => k5 _ _ (Ne.symm hxL) e) kh5 hLsz ⟨_, hx5⟩ [h.objs.size] (by intro b hb; rw [List.mem_singleton.mp hb]; exact ⟨_, hd5⟩) (.cons (.adr _) (.cons (.str _ _) (.cons (.str _ _) (.cons (.str _ _) (.cons (.bool _) (.cons (.adr _) .nil))))))
        have n5 : h5.Ns1 h.objs.size (fun _ => none) := Heap.Ns1.of_empty ⟨_, #[], _, hd5, rfl, fun e he => absurd he (by simp), fun _ => rfl⟩
        refine dictStep (C := 155) ⟨rfl, rfl, rfl, rfl⟩ G (Rm2 _) X5 rfl rfl rfl (by decide) (List.mem_cons_of_mem _ (List.mem_singleton.mpr rfl)) hdL (by simp) hdn (PE.name (pv := .str r.space) rfl rfl rfl rfl (by decide)) hx5 (put_cls (put_cls (put_cls rfl))) (put_data (put_data (put_data rfl))) (put_dict (put_dict (put_dict rfl))) n5 Within.nil (by decide) (saTok w) (poTok w) (tk_space w) (hdTok w) fun h6 t6 v6 X6 r6 k6 n6 => ?_
        have hx6 := k6 _ _ (Ne.symm hdx) hx5
        refine dictStep (C := 155) ⟨rfl, rfl, rfl, rfl⟩ G (Rm2 _) X6 rfl rfl rfl (by decide) (List.mem_cons_of_mem _ (List.mem_singleton.mpr rfl)) hdL (by simp) hdn (PE.name (pv := .bool r.first) rfl rfl rfl rfl (by decide)) hx6 (put_cls (put_cls (put_cls rfl))) (put_data (put_data (put_data rfl))) (put_dict (put_dict (put_dict rfl))) n6 (Within.cons _ _ Within.nil) (by simp) (saTok w) (poTok w) (tk_first w) (hdTok w) fun h7 t7 v7 X7 r7 k7 n7 => ?_
        have hx7 := k7 _ _ (Ne.symm hdx) hx6
        obtain ⟨_, rfl⟩ := r6.inv
        obtain rfl := r7.inv
        rename_i u3
        refine wpAny_execs_nil ⟨rfl, ?_⟩
        have fresh0 : ∀ b, h.get? b = none → h0.get? b = none := fun b hb => by
          cases hc : h0.get? b with
          | none => rfl
          | some o => have := k00 _ _ hc; dsimp only at this; rw [hb] at this; cases this
        refine q _ h7 t7 X7.base ⟨_, _, _, y, u1, u2, u3, hx7, put_cls (put_cls (put_cls rfl)), put_data (put_data (put_data rfl)), put_dict (put_dict (put_dict rfl)), n7, ?_, ?_, ?_, hl.keep X7.base, ?_, ?_, fresh0 _ hxn, fresh0 _ hdn⟩
        · rw [if_neg (by decide), if_pos rfl]
        · rw [if_pos rfl]
        · rw [slotAt, if_pos rfl]
        · rw [slotAt, if_neg (by decide), slotAt, if_neg (by decide), slotAt, if_pos rfl]
        · rw [slotAt, if_neg (by decide), slotAt, if_pos rfl]
end
end
section
section
variable {w : World} {d : Nat} {sc : Scope} {m : Env'}

theorem TG.tup6 {a b c e f g : Str} {pa pb pc pe pf pg tp : Pos} {k : Nat} {p1 p2 p3 p4 p5 p6 : PV} (h1 : p1.isAcc = false) (h2 : p2.isAcc = false) (h3 : p3.isAcc = false) (h4 : p4.isAcc = false) (h5 : p5.isAcc = false) (h6 : p6.isAcc = false)
    (hk : sc.kind = .function) (l1 : sc.names.lookup a = some .local) (l2 : sc.names.lookup b = some .local) (l3 : sc.names.lookup c = some .local) (l4 : sc.names.lookup e = some .local) (l5 : sc.names.lookup f = some .local) (l6 : sc.names.lookup g = some .local) :
    TG w sc (.Tuple [.Name a pa, .Name b pb, .Name c pc, .Name e pe, .Name f pf, .Name g pg] k tp) (.tup [p1, p2, p3, p4, p5, p6]) [(g, p6), (f, p5), (e, p4), (c, p3), (b, p2), (a, p1)] := by
  intro env L A B own s v Q E hE hh X r q
  obtain ⟨t, vs, n, rfl, ge, rs⟩ := tupIs r
  have ht : s.heap.get? t = some { cls := .type "tuple", data := .seq vs n } := gOf_sub _ _ ge
  have hsz : vs.size = 6 := by rw [← Array.length_toList, rs.length]; rfl
  refine wpAny_assign_Tuple hh ⟨_, ht, rfl, n, rfl⟩ (by rw [hsz]; rfl) rfl fun h0 hx => ?_
  have k0 : Keep s.heap h0 := keep_ext hx
  generalize hvs : vs.toList = l at rs ⊢
  cases rs with
  | cons r1 rs => cases rs with
    | cons r2 rs => cases rs with
      | cons r3 rs => cases rs with
        | cons r4 rs => cases rs with
          | cons r5 rs => cases rs with
            | cons r6 rs => cases rs with
              | nil =>
                have g0 := gOf_keep (L := L) (own := own) k0
                refine assignInOrder_cons (wpAny_assign_Name (store hE (s := { s with heap := h0 }) (X.keep k0) h1 (r1.mono g0) hk l1 fun ha ta ka Xa => ?_))
                have ga := fun b o e => ka.sub b o (g0 b o e)
                refine assignInOrder_cons (wpAny_assign_Name (store hE (s := { s with heap := ha, toks := ta }) Xa h2 (r2.mono ga) hk l2 fun hb tb kb Xb => ?_))
                have gb := fun b o e => kb.sub b o (ga b o e)
                refine assignInOrder_cons (wpAny_assign_Name (store hE (s := { s with heap := hb, toks := tb }) Xb h3 (r3.mono gb) hk l3 fun hc tc kc Xc => ?_))
                have gc := fun b o e => kc.sub b o (gb b o e)
                refine assignInOrder_cons (wpAny_assign_Name (store hE (s := { s with heap := hc, toks := tc }) Xc h4 (r4.mono gc) hk l4 fun hd td kd Xd => ?_))
                have gd := fun b o e => kd.sub b o (gc b o e)
                refine assignInOrder_cons (wpAny_assign_Name (store hE (s := { s with heap := hd, toks := td }) Xd h5 (r5.mono gd) hk l5 fun he te ke Xe => ?_))
                have gee := fun b o e => ke.sub b o (gd b o e)
                refine assignInOrder_cons (wpAny_assign_Name (store hE (s := { s with heap := he, toks := te }) Xe h6 (r6.mono gee) hk l6 fun hf tf kf Xf => ?_))
                refine assignInOrder_nil ?_
                exact q hf tf ((((((Stp.of_keep k0).trans ka).trans kb).trans kc).trans kd).trans ke |>.trans kf) Xf

theorem enterFn {name : Str} {args : List PV} {rc : DefRec} {names : List Str} (hd : (recsOf VW).find? (fun e => e.name == name) = some rc)
    (hb : ∀ (pm cd doc : Value) (vs : List Value), vs.length = args.length → bindArgs (Calls.docDef rc.name rc.params rc.body rc.scope pm cd doc) ⟨vs, []⟩ = pure (names.zip vs))
    (hn : names.length = args.length) (hl : ∀ x ∈ names, rc.scope.names.lookup x = some .local)
    {A : Around} {s : Shared} {vs : List Value} {a : Addr} {Z : List Addr} {Q E : Value → Shared → Prop} (G : Gd w s.heap) (Rm : Room A (d + 1)) (hg : ∃ mg, s.heap.Ns mainGlobals mg ∧ mg name = some (.ref a))
    (hZ : ∀ b ∈ Z, ∃ o, s.heap.get? b = some o) (hv : VRs w (ex s.heap Z) vs args)
    (hbody : ∀ (env : Env) (A' : Around) (h₁ : Heap) (tk : Nat) (E' : Value → Shared → Prop), EnvOk env rc.scope s.heap.objs.size → Room A' d → St w s.heap s.heap.objs.size ⟨[], Z⟩ ((names.zip args).reverse) h₁ →
      wpAny (model P w) A' (execs rc.body env) (fun f s' => Q (match f with | .ret v => v | _ => .none) s') E' { s with heap := h₁, toks := tk })
    (hco : rc.scope.isCoroutine = false) (hgen : rc.scope.isGenerator = false) (hk : rc.scope.kind = .function) (hcell : ∀ x ∈ rc.scope.names, x.2 ≠ .cell) : wpAny (model P w) A (call (.ref a) vs) Q E s := by
  obtain ⟨mean, mg, mb, T⟩ := G.top
  have hmem := List.mem_of_find?_eq_some hd
  have hnm : rc.name = name := beq_iff_eq.mp (List.find?_some (p := fun e : DefRec => e.name == name) hd)
  obtain ⟨a', o, pm, code, doc, f1, f2, f3, f4⟩ := T.fn rc hmem
  obtain ⟨mg', G', hg'⟩ := hg
  have e1 : mg' = mg := nsUnique G' T.g
  subst e1
  rw [hnm, hg'] at f1
  cases f1
  have hlen : vs.length = args.length := hv.length
  refine wpAny_call (PyProof.Rows.call_plain (by have := Rm.dep; omega) f2 f3 T.nolimit f4 (hb pm code doc vs hlen) (fun x hx => hl x.1 (List.of_mem_zip hx).1) (fun h₁ F => ?_) hco hgen hk hcell)
  have X : St w s.heap s.heap.objs.size ⟨[], Z⟩ ((names.zip args).reverse) h₁ := by
    refine ⟨⟨_, F, fun x pv e => ?_⟩, (fun p hp => nomatch hp), List.nodup_nil, fun b hb => let ⟨o, e⟩ := hZ b hb; ⟨o, F.keep _ _ e⟩⟩
    have sub : Sub (ex s.heap Z) (gOf h₁ s.heap.objs.size ⟨[], Z⟩) := fun b o e => by
      obtain ⟨hn, e⟩ := ex_some.mp e
      refine ex_some.mpr ⟨fun hm => ?_, F.keep _ _ e⟩
      unfold Own.all at hm
      rcases List.mem_cons.mp hm with rfl | hm
      · rw [noneSize] at e; cases e
      · exact hn (by simpa using hm)
    obtain ⟨v, e1, e2⟩ := look_zip names (hv.mono sub) [] [] (fun x pv e => by cases e) x pv (by simpa using e)
    exact ⟨v, by simpa using e1, .of_VR e2.notAcc e2⟩
  exact hbody _ _ h₁ _ _ (EnvOk.of ..) Rm.deeper X

theorem TokAt.move {h0 h h' : Heap} {x : Addr} {r : Row} (t : TokAt h0 h x r) (k : ∀ b o, h0.get? b = none → h.get? b = some o → h'.get? b = some o) : TokAt h0 h' x r := by
  obtain ⟨ox, dx, m1, y, t1, t2, t3, e1, e2, e3, e4, e5, e6, e7, e8, ⟨oy, dy, ody, u1, u2, f1, f2, f3, f4, f5, f6, f7, f8, f9, f10⟩, e10, e11, e12, e13⟩ := t
  exact ⟨ox, dx, m1, y, t1, t2, t3, k _ _ e12 e1, e2, e3, e4, e5.at fun o e => k _ _ e13 e, e6, e7, e8, ⟨oy, dy, ody, u1, u2, k _ _ f9 f1, f2, f3, f4, k _ _ f10 f5, f6, f7, f8, f9, f10⟩, e10, e11, e12, e13⟩
theorem TokAt.older {h0 h1 h : Heap} {x : Addr} {r : Row} (t : TokAt h1 h x r) (k : Keep h0 h1) : TokAt h0 h x r := by
  have f : ∀ b, h1.get? b = none → h0.get? b = none := fun b hb => by
    cases hc : h0.get? b with
    | none => rfl
    | some o => rw [k _ _ hc] at hb; cases hb
  obtain ⟨ox, dx, m1, y, t1, t2, t3, e1, e2, e3, e4, e5, e6, e7, e8, ⟨oy, dy, ody, u1, u2, f1, f2, f3, f4, f5, f6, f7, f8, f9, f10⟩, e10, e11, e12, e13⟩ := t
  exact ⟨ox, dx, m1, y, t1, t2, t3, e1, e2, e3, e4, e5, e6, e7, e8, ⟨oy, dy, ody, u1, u2, f1, f2, f3, f4, f5, f6, f7, f8, f _ f9, f _ f10⟩, e10, e11, f _ e12, f _ e13⟩
theorem LocAt.older {h0 h1 h : Heap} {y : Addr} {line col : Nat} (t : LocAt h1 h y line col) (k : Keep h0 h1) : LocAt h0 h y line col := by
  have f : ∀ b, h1.get? b = none → h0.get? b = none := fun b hb => by
    cases hc : h0.get? b with
    | none => rfl
    | some o => rw [k _ _ hc] at hb; cases hb
  obtain ⟨oy, dy, ody, u1, u2, f1, f2, f3, f4, f5, f6, f7, f8, f9, f10⟩ := t
  exact ⟨oy, dy, ody, u1, u2, f1, f2, f3, f4, f5, f6, f7, f8, f _ f9, f _ f10⟩
theorem TokAt.fresh {h0 h : Heap} {x : Addr} {r : Row} (t : TokAt h0 h x r) : h0.get? x = none := by
  obtain ⟨ox, dx, m1, y, t1, t2, t3, e1, e2, e3, e4, e5, e6, e7, e8, e9, e10, e11, e12, e13⟩ := t
  exact e12
theorem TokAt.get {h0 h : Heap} {x : Addr} {r : Row} (t : TokAt h0 h x r) : ∃ o, h.get? x = some o := by
  obtain ⟨ox, dx, m1, y, t1, t2, t3, e1, _⟩ := t
  exact ⟨ox, e1⟩

def Toks (h0 h : Heap) (D : Addr) (xs : List Addr) (rows : List Row) : Prop :=
  xs.length = rows.length ∧ (∃ n, h.get? D = some { cls := .type "list", data := .seq (xs.map Value.ref).toArray n }) ∧ h0.get? D = none ∧ ∀ (i : Nat) (x : Addr) (r : Row), xs[i]? = some x → rows[i]? = some r → TokAt h0 h x r

theorem made_call {A : Around} {s : Shared} {a : Addr} {v : Value} {Z : List Addr} {rows : List Row} {Q E : Value → Shared → Prop} (hn : rows.length ≤ 1000) (hlen : ∀ r ∈ rows, r.text.length ≤ 50000)
    (G : Gd w s.heap) (Rm : Room A (d + 10)) (hg : ∃ mg, s.heap.Ns mainGlobals mg ∧ mg (Str.ofString "_law_made") = some (.ref a)) (hZ : ∀ b ∈ Z, ∃ o, s.heap.get? b = some o) (hv : VRs w (ex s.heap Z) [v] [.list (rows.map Row.pv)])
    (q : ∀ D xs h' tk, Keep s.heap h' → Toks s.heap h' D xs (rows.map Row.quoted) → Q (.ref D) { s with heap := h', toks := tk }) : wpAny (model P w) A (call (.ref a) [v]) Q E s := by
  refine enterFn (d := d + 9) (args := [.list (rows.map Row.pv)]) (names := [Str.ofString "rows"]) rfl (fun pm cd doc vs hvs => match vs, hvs with | [a], _ => rfl) rfl (by decide) G Rm hg hZ hv (fun env A' h₁ tk E' hE Rm' X => ?_) rfl rfl rfl (by decide)
  dsimp only
  refine wpAny_execs_cons (wpAny_Return_some ?_)
  have hfree : ∀ {sc : Scope} (env : Env), (∀ x ∈ sc.names, x.2 ≠ NameKind.free) → relabel sc env = sc := fun env h => relabel_none h
  refine compG (d := d + 9) (w := w) (cl := []) (items := (rows.map Row.quoted).map Row.pv) [] (fun _ _ => True)
    (fun i g v => ∃ x r, v = .ref x ∧ (rows.map Row.quoted)[i]? = some r ∧ ∀ h : Heap, (∀ b o, g b = some o → h.get? b = some o) → TokAt s.heap h x r)
    (fun p => match p with | .tup [a, b, c, e, f, g] => [(Str.ofString "column", g), (Str.ofString "line", f), (Str.ofString "first", e), (Str.ofString "space", c), (Str.ofString "val", b), (Str.ofString "kind", a)] | _ => [])
    (PI.list (PE.callF (quoted_fn (d := d + 5) hn hlen) rfl rfl rfl (by decide) (PEs.cons (PE.name (pv := .list (rows.map Row.pv)) rfl rfl rfl rfl (by decide)) PEs.nil))) (s := { s with heap := h₁, toks := tk }) hE G Rm' X
    (closureFor_none (by decide)) (by decide) rfl (by decide) ?htg (by rw [List.length_map, List.length_map]; omega) (by simp) (by simp) trivial (fun _ _ _ _ _ => trivial) ?hR ?helt ?hq (by intro _; rfl)
  case htg =>
    intro p hp
    obtain ⟨r, _, rfl⟩ := List.mem_map.mp hp
    rw [relabel_none (by decide)]
    exact TG.tup6 rfl rfl rfl rfl rfl rfl rfl rfl rfl rfl rfl rfl rfl
  case hR =>
    rintro i g g' v k ⟨x, r, e1, e2, e3⟩
    exact ⟨x, r, e1, e2, fun h hh => e3 h fun b o e => hh b o (k b o e)⟩
  case hq =>
    intro D h' tk' ys n k hD eD hsz hr _ _
    have kk : Keep s.heap h' := fun b o e => k b o (by simp) (X.base _ _ e)
    have hsz' : ys.size = rows.length := by rw [hsz, List.length_map, List.length_map]
    have hys : ∀ i, i < ys.size → ∃ x r, ys[i]? = some (.ref x) ∧ (rows.map Row.quoted)[i]? = some r ∧ TokAt s.heap h' x r := fun i hi => by
      have e := Array.getElem?_eq_getElem hi
      obtain ⟨x, r, e1, e2, e3⟩ := hr i _ e
      exact ⟨x, r, by rw [e, e1], e2, e3 h' gOf_sub⟩
    let xs : List Addr := ys.toList.map fun v => match v with | .ref x => x | _ => 0
    have hxs : ys = (xs.map Value.ref).toArray := by
      apply Array.ext'
      show ys.toList = xs.map Value.ref
      apply List.ext_getElem?
      intro i
      rw [List.getElem?_map, List.getElem?_map, Array.getElem?_toList]
      by_cases hi : i < ys.size
      · obtain ⟨x, r, e1, _⟩ := hys i hi
        rw [e1]; rfl
      · rw [Array.getElem?_eq_none (by omega)]; rfl
    refine q D xs h' tk' kk ⟨?_, ⟨n, by rw [← hxs]; exact eD⟩, ?_, fun i x r e1 e2 => ?_⟩
    · show (ys.toList.map _).length = _
      rw [List.length_map, Array.length_toList, hsz', List.length_map]
    · cases hc : s.heap.get? D with
      | none => rfl
      | some o => have := X.base _ _ hc; dsimp only at hD; rw [hD] at this; cases this
    · have e1' : (ys.toList.map fun v => match v with | .ref x => x | _ => 0)[i]? = some x := e1
      rw [List.getElem?_map, Array.getElem?_toList] at e1'
      by_cases hi : i < ys.size
      · obtain ⟨x', r', f1, f2, f3⟩ := hys i hi
        rw [f1] at e1'
        cases e1'
        rw [f2] at e2
        cases e2
        exact f3
      · rw [Array.getElem?_eq_none (by omega)] at e1'; cases e1'
  case helt =>
    intro i p cenv C Z' s' hp hE' _ hZ' X' _ Q' E'' q'
    rw [relabel_none (by decide)] at hE'
    rw [List.getElem?_map, Option.map_eq_some_iff] at hp
    obtain ⟨r, hr, rfl⟩ := hp
    have X' : St w s.heap C ⟨[], Z'⟩ [(Str.ofString "column", .int r.col), (Str.ofString "line", .int r.line), (Str.ofString "first", .bool r.first), (Str.ofString "space", .str r.space), (Str.ofString "val", .str r.text), (Str.ofString "kind", .str r.kind)] s'.heap := X'
    refine wpAny_Call_NameR (PE.class (d := d + 9) nsCT rfl rfl (by decide) cenv C A' s.heap ⟨[], Z'⟩ s' _ E'' hE' G Rm' X' fun v0 h0 t0 k0 r0 => ?_)
    obtain rfl := r0.inv
    refine callWith_K (K := KW w) (h₀ := s.heap) G.k (by kernel_rfl) ?_
    have X0 := X'.keep k0
    refine args_cons (PE.name (d := d + 9) (pv := .str r.kind) rfl rfl rfl rfl (by decide) cenv C A' s.heap ⟨[], Z'⟩ _ _ _ hE' G Rm' X0 fun v1 h1 t1 k1 r1 => ?_) (star_cons rfl)
    have X1 := X0.keep k1
    refine args_cons (PE.name (d := d + 9) (pv := .str r.text) rfl rfl rfl rfl (by decide) cenv C A' s.heap ⟨[], Z'⟩ _ _ _ hE' G Rm' X1 fun v2 h2 t2 k2 r2 => ?_) (star_cons rfl)
    have X2 := X1.keep k2
    refine args_cons (PE.name (d := d + 9) (pv := .str r.space) rfl rfl rfl rfl (by decide) cenv C A' s.heap ⟨[], Z'⟩ _ _ _ hE' G Rm' X2 fun v3 h3 t3 k3 r3 => ?_) (star_cons rfl)
    have X3 := X2.keep k3
    refine args_cons (PE.name (d := d + 9) (pv := .bool r.first) rfl rfl rfl rfl (by decide) cenv C A' s.heap ⟨[], Z'⟩ _ _ _ hE' G Rm' X3 fun v4 h4 t4 k4 r4 => ?_) (star_cons rfl)
    have X4 := X3.keep k4
    refine args_cons ?_ (star_cons rfl)
    refine wpAny_Call_NameR (PE.class (d := d + 9) nsSL rfl rfl (by decide) cenv C A' s.heap ⟨[], Z'⟩ _ _ _ hE' G Rm' X4 fun v5 h5 t5 k5 r5 => ?_)
    obtain rfl := r5.inv
    have X5 := X4.keep k5
    refine callWith_K (K := KW w) (h₀ := s.heap) G.k (by kernel_rfl) ?_
    refine PEs.cons (w := w) (d := d + 9) (PE.str (l := [116, 46, 99]) (by simp [lit])) (PEs.cons (PE.name (pv := .int r.line) rfl rfl rfl rfl (by decide)) (PEs.cons (PE.name (pv := .int r.col) rfl rfl rfl rfl (by decide)) (PEs.cons PE.int PEs.nil (by intro _; exact star_cons rfl)) (by intro _; exact star_cons rfl)) (by intro _; exact star_cons rfl)) (by intro _; exact star_cons rfl)
      cenv C A' s.heap ⟨[], Z'⟩ _ _ _ _ hE' G Rm' X5 fun vs h6 t6 k6 r6 => ?_
    have X6 := X5.keep k6
    refine ⟨(G.keep X6.base).k, ?_⟩
    cases r6 with
    | cons ra rs => cases rs with
      | cons rb rs => cases rs with
        | cons rc rs => cases rs with
          | cons rd rs =>
            cases rs; obtain ⟨_, rfl⟩ := ra.inv; obtain ⟨_, rfl⟩ := rb.inv; obtain ⟨_, rfl⟩ := rc.inv; obtain ⟨_, rfl⟩ := rd.inv
            refine make_loc (s := { s' with heap := h6, toks := t6 }) (G.keep X6.base) (Rm'.less (by omega)) fun y h7 t7 k7 hl => ?_
            have X7 := X6.keep k7
            refine args_nil ⟨(G.keep X7.base).k, ?_⟩
            obtain ⟨_, rfl⟩ := r1.inv; obtain ⟨_, rfl⟩ := r2.inv; obtain ⟨_, rfl⟩ := r3.inv; obtain rfl := r4.inv
            have k06 : Keep s'.heap h6 := ((((k0.trans k1).trans k2).trans k3).trans k4).trans (k5.trans k6)
            refine make_tok (s := { s' with heap := h7, toks := t7 }) (r := r) (G.keep X7.base) (Rm'.less (by omega)) (h0 := s'.heap) (hl.older k06) (k06.trans k7) fun x h8 t8 k8 ht => ?_
            refine q' (.ref x) h8 t8 (fun b o _ e => k8 _ _ (k7 _ _ (k06 _ _ e))) (by simp) trivial ⟨x, r, rfl, hr, fun h hh => ?_⟩
            refine (ht.move fun b o hb e => hh b o (ex_some.mpr ⟨fun hm => ?_, e⟩)).older X'.base
            obtain ⟨o', e'⟩ := X'.bk.new b hm
            rw [hb] at e'; cases e'
end
end
section
section
variable {w : World} {d : Nat} {sc : Scope} {m : Env'}
theorem TokAt.keep {h0 h h' : Heap} {x : Addr} {r : Row} (t : TokAt h0 h x r) (k : Keep h h') : TokAt h0 h' x r := t.move fun b o _ e => k b o e

theorem attrE {env : Env} {A : Around} {s : Shared} {E : Value → Shared → Prop} {o : Expr} {attr : Str} {pos : Pos} {Q : Value → Shared → Prop} (h : wpAny (model P w) A (eval o env) (fun v s₁ => wpAny (model P w) A (getAttr v attr true) Q E s₁) E s)
    (hb : attributeBase o attr env (eval o env) = eval o env := by rfl) : wpAny (model P w) A (eval (.Attribute o attr pos) env) Q E s := by
  rw [arm_eval_Attribute, hb]
  exact wpAny_bind (wpAny_mono h (fun o s₁ h₁ => wpAny_bind (wpAny_standAt (wpAny_bind (wpAny_holding (wpAny_mono h₁ (fun r s₂ h₂ => wpAny_bind (wpAny_letTemporaryGo (wpAny_pure h₂))) fun _ _ y => y))))) fun _ _ y => y)

theorem get_typ {A : Around} {s : Shared} {E : Value → Shared → Prop} {Q : Value → Shared → Prop} {p : Addr → Prop} {x : Addr} {r : Row} {b : Bool} (X : (KW w).In s.heap) (t : TokP p s.heap x r)
    (q : ∀ u tk, Q (.str (S r.kind) u) { s with toks := tk }) : wpAny (model P w) A (getAttr (.ref x) (Str.ofString "typ") b) Q E s := by
  obtain ⟨ox, dx, m1, y, t1, t2, t3, e1, e2, e3, e4, e5, e6, e7, e8, e9, e10, e11, e12⟩ := t
  obtain ⟨od, es, ep, g1, g2⟩ := id e5
  exact getSlotA X (instAt e1 e2 e3 e4 g1) (gaTok w) (gtTok w) (fo_typ w od) (sl77 w) e10 rfl (q _ _)
theorem get_val {A : Around} {s : Shared} {E : Value → Shared → Prop} {Q : Value → Shared → Prop} {p : Addr → Prop} {x : Addr} {r : Row} {b : Bool} (X : (KW w).In s.heap) (t : TokP p s.heap x r)
    (q : ∀ u tk, Q (.str (S r.text) u) { s with toks := tk }) : wpAny (model P w) A (getAttr (.ref x) (Str.ofString "val") b) Q E s := by
  obtain ⟨ox, dx, m1, y, t1, t2, t3, e1, e2, e3, e4, e5, e6, e7, e8, e9, e10, e11, e12⟩ := t
  obtain ⟨od, es, ep, g1, g2⟩ := id e5
  exact getSlotA X (instAt e1 e2 e3 e4 g1) (gaTok w) (gtTok w) (fo_val w od) (sl78 w) e11 rfl (q _ _)
theorem get_space {A : Around} {s : Shared} {E : Value → Shared → Prop} {Q : Value → Shared → Prop} {p : Addr → Prop} {x : Addr} {r : Row} {b : Bool} (X : (KW w).In s.heap) (t : TokP p s.heap x r)
    (q : ∀ u tk, Q (.str (S r.space) u) { s with toks := tk }) : wpAny (model P w) A (getAttr (.ref x) (Str.ofString "space") b) Q E s := by
  obtain ⟨ox, dx, m1, y, t1, t2, t3, e1, e2, e3, e4, e5, e6, e7, e8, e9, e10, e11, e12⟩ := t
  obtain ⟨od, es, ep, g1, g2⟩ := id e5
  exact getDictA X (instAt e1 e2 e3 e4 g1) g1 e5 e6 (gaTok w) (fo_space w od) rfl (q _ _)
theorem get_first {A : Around} {s : Shared} {E : Value → Shared → Prop} {Q : Value → Shared → Prop} {p : Addr → Prop} {x : Addr} {r : Row} {b : Bool} (X : (KW w).In s.heap) (t : TokP p s.heap x r)
    (q : ∀ tk, Q (.bool r.first) { s with toks := tk }) : wpAny (model P w) A (getAttr (.ref x) (Str.ofString "first") b) Q E s := by
  obtain ⟨ox, dx, m1, y, t1, t2, t3, e1, e2, e3, e4, e5, e6, e7, e8, e9, e10, e11, e12⟩ := t
  obtain ⟨od, es, ep, g1, g2⟩ := id e5
  exact getDictA X (instAt e1 e2 e3 e4 g1) g1 e5 e7 (gaTok w) (fo_first w od) rfl (q _)
theorem get_loc {A : Around} {s : Shared} {E : Value → Shared → Prop} {Q : Value → Shared → Prop} {p : Addr → Prop} {x : Addr} {r : Row} {b : Bool} (X : (KW w).In s.heap) (t : TokP p s.heap x r)
    (q : ∀ y tk, LocP p s.heap y r.line r.col → Q (.ref y) { s with toks := tk }) : wpAny (model P w) A (getAttr (.ref x) (Str.ofString "loc") b) Q E s := by
  obtain ⟨ox, dx, m1, y, t1, t2, t3, e1, e2, e3, e4, e5, e6, e7, e8, e9, e10, e11, e12⟩ := t
  obtain ⟨od, es, ep, g1, g2⟩ := id e5
  exact getSlotA X (instAt e1 e2 e3 e4 g1) (gaTok w) (gtTok w) (fo_loc w od) (sl76 w) e8 rfl (q _ _ e9)
theorem get_row {A : Around} {s : Shared} {E : Value → Shared → Prop} {Q : Value → Shared → Prop} {p : Addr → Prop} {y : Addr} {line col : Nat} {b : Bool} (X : (KW w).In s.heap) (t : LocP p s.heap y line col)
    (q : ∀ u tk, Q (.int line u) { s with toks := tk }) : wpAny (model P w) A (getAttr (.ref y) (Str.ofString "row") b) Q E s := by
  obtain ⟨oy, dy, ody, u1, u2, f1, f2, f3, f4, f5, f6, f7, f8, f9, f10⟩ := t
  exact getSlotA X (instAt f1 f2 f3 f4 f5) (gaLoc w) (gtLoc w) (fo_row w ody) (sl111 w) f8 rfl (q _ _)
theorem get_col {A : Around} {s : Shared} {E : Value → Shared → Prop} {Q : Value → Shared → Prop} {p : Addr → Prop} {y : Addr} {line col : Nat} {b : Bool} (X : (KW w).In s.heap) (t : LocP p s.heap y line col)
    (q : ∀ u tk, Q (.int col u) { s with toks := tk }) : wpAny (model P w) A (getAttr (.ref y) (Str.ofString "col") b) Q E s := by
  obtain ⟨oy, dy, ody, u1, u2, f1, f2, f3, f4, f5, f6, f7, f8, f9, f10⟩ := t
  exact getSlotA X (instAt f1 f2 f3 f4 f5) (gaLoc w) (gtLoc w) (fo_col w ody) (sl108 w) f7 rfl (q _ _)

theorem view_call {A : Around} {s : Shared} {a : Addr} {v : Value} {Z : List Addr} {rows : List Row} {xs : List Addr} {h0 : Heap} {Q E : Value → Shared → Prop} (hn : rows.length ≤ 1000) (hx : xs.length = rows.length)
    (htok : ∀ (i : Nat) (x : Addr) (r : Row), xs[i]? = some x → rows[i]? = some r → TokAt h0 s.heap x r)
    (G : Gd w s.heap) (Rm : Room A (d + 10)) (hg : ∃ mg, s.heap.Ns mainGlobals mg ∧ mg (Str.ofString "_law_view") = some (.ref a)) (hZ : ∀ b ∈ Z, ∃ o, s.heap.get? b = some o) (hv : VRs w (ex s.heap Z) [v] [.list (xs.map PV.adr)])
    (q : ∀ v' h' tk, Keep s.heap h' → VR w (ex h' Z) v' (.list (rows.map Row.pv)) → Q v' { s with heap := h', toks := tk }) : wpAny (model P w) A (call (.ref a) [v]) Q E s := by
  refine enterFn (d := d + 9) (args := [.list (xs.map PV.adr)]) (names := [Str.ofString "tokens"]) rfl (fun pm cd doc vs hvs => match vs, hvs with | [a], _ => rfl) rfl (by decide) G Rm hg hZ hv (fun env A' h₁ tk E' hE Rm' X => ?_) rfl rfl rfl (by decide)
  dsimp only
  refine wpAny_execs_cons (wpAny_Return_some ?_)
  refine compG (d := d + 9) (w := w) (cl := []) (items := xs.map PV.adr) [] (fun _ _ => True) (fun i g v => ∀ o, (rows.map Row.pv)[i]? = some o → VR w g v o) (fun p => [(Str.ofString "t", p)])
    (PI.list (PE.name (pv := .list (xs.map PV.adr)) rfl rfl rfl rfl (by decide))) (s := { s with heap := h₁, toks := tk }) hE G Rm' X
    (closureFor_none (by decide)) (by decide) rfl (by decide) ?htg (by rw [List.length_map]; omega) (by simp) (by simp) trivial (fun _ _ _ _ _ => trivial) (fun i g g' v k h o ho => (h o ho).mono k) ?helt ?hq (by intro _; rfl)
  case htg =>
    intro p hp
    obtain ⟨x, _, rfl⟩ := List.mem_map.mp hp
    rw [relabel_none (by decide)]
    exact TG.name rfl rfl rfl
  case hq =>
    intro D h' tk' ys n k hD eD hsz hr _ _
    have kk : Keep s.heap h' := fun b o e => k b o (by simp) (X.base _ _ e)
    have hsub : Sub (gOf h' s.heap.objs.size ⟨[], Z⟩) (ex h' Z) := fun b o e => by
      obtain ⟨hn, e⟩ := ex_some.mp e
      exact ex_some.mpr ⟨fun hm => hn (List.mem_cons_of_mem _ (by simpa using hm)), e⟩
    refine q (.ref D) h' tk' kk (VR.mono hsub (.list (ex_some.mpr ⟨X.bk.fresh hD, eD⟩) (vrs_of (by rw [Array.length_toList, hsz, List.length_map, List.length_map, hx]) fun i v p e1 e2 => hr i v (by rw [← Array.getElem?_toList]; exact e1) p e2)))
  case helt =>
    intro i p cenv C Z' s' hp hE' _ hZ' X' _ Q' E'' q'
    rw [relabel_none (by decide)] at hE'
    rw [List.getElem?_map, Option.map_eq_some_iff] at hp
    obtain ⟨x, hxi, rfl⟩ := hp
    have hlt := (List.getElem?_eq_some_iff.mp hxi).1
    have hri : rows[i]? = some rows[i] := List.getElem?_eq_getElem (by omega)
    generalize rows[i] = r at hri
    have ht : TokAt h0 s'.heap x r := (htok i x r hxi hri).keep X'.base
    have nm : ∀ {np : Pos} {s'' : Shared} {Q'' E3 : Value → Shared → Prop}, St w s.heap C ⟨[], Z'⟩ [(Str.ofString "t", .adr x)] s''.heap → (∀ h' tk, Keep s''.heap h' → Q'' (.ref x) { s'' with heap := h', toks := tk }) → wpAny (model P w) A' (eval (.Name (Str.ofString "t") np) cenv) Q'' E3 s'' :=
      fun hX hq => PE.name (d := d + 9) (pv := .adr x) rfl rfl rfl rfl (by decide) cenv C A' s.heap ⟨[], Z'⟩ _ _ _ hE' G Rm' hX fun v h' tk k r => by obtain rfl := r.inv; exact hq h' tk k
    refine Tuple_ ?_
    refine args_cons (attrE (nm X' fun h1 t1 k1 => get_typ (s := { s' with heap := h1, toks := t1 }) (G.keep (X'.keep k1).base).k (ht.keep k1) fun u1 tk1 => ?_)) (star_cons rfl)
    have X1 := X'.keep k1
    have T1 := ht.keep k1
    refine args_cons (attrE (nm (s'' := { s' with heap := h1, toks := tk1 }) X1 fun h2 t2 k2 => get_val (s := { s' with heap := h2, toks := t2 }) (G.keep (X1.keep k2).base).k (T1.keep k2) fun u2 tk2 => ?_)) (star_cons rfl)
    have X2 := X1.keep k2
    have T2 := T1.keep k2
    refine args_cons (attrE (nm (s'' := { s' with heap := h2, toks := tk2 }) X2 fun h3 t3 k3 => get_space (s := { s' with heap := h3, toks := t3 }) (G.keep (X2.keep k3).base).k (T2.keep k3) fun u3 tk3 => ?_)) (star_cons rfl)
    have X3 := X2.keep k3
    have T3 := T2.keep k3
    refine args_cons (attrE (nm (s'' := { s' with heap := h3, toks := tk3 }) X3 fun h4 t4 k4 => get_first (s := { s' with heap := h4, toks := t4 }) (G.keep (X3.keep k4).base).k (T3.keep k4) fun tk4 => ?_)) (star_cons rfl)
    have X4 := X3.keep k4
    have T4 := T3.keep k4
    refine args_cons (attrE (attrE (nm (s'' := { s' with heap := h4, toks := tk4 }) X4 fun h5 t5 k5 => get_loc (s := { s' with heap := h5, toks := t5 }) (G.keep (X4.keep k5).base).k (T4.keep k5) fun y1 tk5 hl1 => get_row (s := { s' with heap := h5, toks := tk5 }) (G.keep (X4.keep k5).base).k hl1 fun u5 tk6 => ?_))) (star_cons rfl)
    have X5 := X4.keep k5
    have T5 := T4.keep k5
    refine args_cons (attrE (attrE (nm (s'' := { s' with heap := h5, toks := tk6 }) X5 fun h6 t6 k6 => get_loc (s := { s' with heap := h6, toks := t6 }) (G.keep (X5.keep k6).base).k (T5.keep k6) fun y2 tk7 hl2 => get_col (s := { s' with heap := h6, toks := tk7 }) (G.keep (X5.keep k6).base).k hl2 fun u6 tk8 => ?_))) (star_cons rfl)
    have X6 := X5.keep k6
    refine args_nil ?_
    refine wpAny_newObj_type ?_ (by show (6 : Nat) ≤ sizeLine; rw [sizeLine_eq]; decide)
    have k06 : Keep s'.heap h6 := ((((k1.trans k2).trans k3).trans k4).trans k5).trans k6
    refine q' _ _ _ (fun b o _ e => keep_push _ _ _ _ (k06 _ _ e)) (by simp) trivial fun o ho => ?_
    rw [List.getElem?_map, hri] at ho
    cases ho
    refine .tup (n := 0) (ex_some.mpr ⟨X6.bk.fresh (noneSize _), Heap.get?_push_size _ rfl⟩) ?_
    exact .cons (.str _ _) (.cons (.str _ _) (.cons (.str _ _) (.cons (.bool _) (.cons (.int _ _) (.cons (.int _ _) .nil)))))
end
end
section
section
variable {w : World}
theorem TokP.weak {p p' : Addr → Prop} {h : Heap} {x : Addr} {r : Row} (t : TokP p h x r) (k : ∀ b o, p b → h.get? b = some o → p' b) : TokP p' h x r := by
  obtain ⟨ox, dx, m1, y, t1, t2, t3, e1, e2, e3, e4, e5, e6, e7, e8, ⟨oy, dy, ody, u1, u2, f1, f2, f3, f4, f5, f6, f7, f8, f9, f10⟩, e10, e11, e12, e13⟩ := t
  obtain ⟨od, es, ep, g1, g2⟩ := id e5
  exact ⟨ox, dx, m1, y, t1, t2, t3, e1, e2, e3, e4, e5, e6, e7, e8, ⟨oy, dy, ody, u1, u2, f1, f2, f3, f4, f5, f6, f7, f8, k _ _ f9 f1, k _ _ f10 f5⟩, e10, e11, k _ _ e12 e1, k _ _ e13 g1⟩
theorem TokP.to {p : Addr → Prop} {h h' : Heap} {x : Addr} {r : Row} (t : TokP p h x r) (k : ∀ b o, p b → h.get? b = some o → h'.get? b = some o) : TokP p h' x r := by
  obtain ⟨ox, dx, m1, y, t1, t2, t3, e1, e2, e3, e4, e5, e6, e7, e8, ⟨oy, dy, ody, u1, u2, f1, f2, f3, f4, f5, f6, f7, f8, f9, f10⟩, e10, e11, e12, e13⟩ := t
  exact ⟨ox, dx, m1, y, t1, t2, t3, k _ _ e12 e1, e2, e3, e4, e5.at fun o e => k _ _ e13 e, e6, e7, e8, ⟨oy, dy, ody, u1, u2, k _ _ f9 f1, f2, f3, f4, k _ _ f10 f5, f6, f7, f8, f9, f10⟩, e10, e11, e12, e13⟩
theorem TokP.other {p : Addr → Prop} {h h' : Heap} {x z : Addr} {oz : Obj} {r : Row} (t : TokP p h x r) (hz : h.get? z = some oz) (hc : oz.cls = .ref 155) (hd : oz.data = .plain) (hne : x ≠ z)
    (k : ∀ b o, b ≠ z → h.get? b = some o → h'.get? b = some o) : TokP p h' x r := by
  obtain ⟨ox, dx, m1, y, t1, t2, t3, e1, e2, e3, e4, e5, e6, e7, e8, ⟨oy, dy, ody, u1, u2, f1, f2, f3, f4, f5, f6, f7, f8, f9, f10⟩, e10, e11, e12, e13⟩ := t
  obtain ⟨od, es, ep, g1, g2, g3⟩ := id e5
  have n1 : dx ≠ z := fun e => by rw [e, hz] at g1; cases g1; rw [hd] at g2; cases g2
  have n2 : y ≠ z := fun e => by rw [e, hz] at f1; cases f1; rw [hc] at f2; cases f2
  have n3 : dy ≠ z := fun e => by rw [e, hz] at f5; cases f5; rw [hc] at f6; cases f6
  exact ⟨ox, dx, m1, y, t1, t2, t3, k _ _ hne e1, e2, e3, e4, e5.at fun o e => k _ _ n1 e, e6, e7, e8, ⟨oy, dy, ody, u1, u2, k _ _ n2 f1, f2, f3, f4, k _ _ n3 f5, f6, f7, f8, f9, f10⟩, e10, e11, e12, e13⟩
theorem TokP.obj {p : Addr → Prop} {h : Heap} {x : Addr} {r : Row} (t : TokP p h x r) : ∃ ox, h.get? x = some ox ∧ ox.cls = .ref 155 ∧ ox.data = .plain ∧ p x := by
  obtain ⟨ox, dx, m1, y, t1, t2, t3, e1, e2, e3, e4, e5, e6, e7, e8, e9, e10, e11, e12, e13⟩ := t
  exact ⟨ox, e1, e2, e3, e12⟩

theorem set_val {A : Around} {s : Shared} {E : Value → Shared → Prop} {Q : Unit → Shared → Prop} {p : Addr → Prop} {x : Addr} {r : Row} {text : List Nat} {u : Tok} (X : (KW w).In s.heap) (t : TokP p s.heap x r)
    (q : ∀ h' tk, Heap.SameBut x s.heap h' → TokP p h' x { r with text := text } → Q () { s with heap := h', toks := tk }) : wpAny (model P w) A (setAttr (.ref x) (Str.ofString "val") (.str (S text) u)) Q E s := by
  obtain ⟨ox, dx, m1, y, t1, t2, t3, e1, e2, e3, e4, e5, e6, e7, e8, ⟨oy, dy, ody, u1, u2, f1, f2, f3, f4, f5, f6, f7, f8, f9, f10⟩, e10, e11, e12, e13⟩ := t
  obtain ⟨od, es, ep, g1, g2, g3⟩ := id e5
  have n1 : dx ≠ x := fun e => by rw [e, e1] at g1; cases g1; rw [e3] at g2; cases g2
  have n2 : y ≠ x := fun e => by rw [e, e1] at f1; cases f1; rw [e2] at f2; cases f2
  have n3 : dy ≠ x := fun e => by rw [e, e1] at f5; cases f5; rw [e2] at f6; cases f6
  refine setSlotA X (instAt e1 e2 e3 e4 g1) (saTok w) (poTok w) (tk_val w) (ty78 w) (sl78 w) (by decide) e3 fun h' sb hx' => ?_
  have k : ∀ b o, b ≠ x → s.heap.get? b = some o → h'.get? b = some o := fun b o hb e => (sb.2 b hb).trans e
  refine q h' _ sb ⟨_, dx, m1, y, t1, u, t3, hx', put_cls e2, put_data e3, put_dict e4, e5.at fun o e => k _ _ n1 e, e6, e7, ?_, ⟨oy, dy, ody, u1, u2, k _ _ n2 f1, f2, f3, f4, k _ _ n3 f5, f6, f7, f8, f9, f10⟩, ?_, ?_, e12, e13⟩
  · rw [slotAt, if_neg (by decide)]; exact e8
  · rw [slotAt, if_neg (by decide)]; exact e10
  · rw [slotAt, if_pos rfl]
end
end
section
section
variable {w : World}
structure GWalk (w : World) (A : Around) (I : Addr) (fp wr : List Addr) (n : Nat) (V : Nat → Value → Prop) (Inv : Nat → Shared → Prop) (Fin : Shared → Prop) : Prop where
  sub : ∀ b ∈ wr, b ∈ fp
  frame : ∀ i (s : Shared) h', Inv i s → (∀ b ∈ fp, ∀ o, s.heap.get? b = some o → h'.get? b = some o) → Inv i { s with heap := h' }
  item : ∀ i (s : Shared) (Q : Option Value → Shared → Prop) (E : Value → Shared → Prop), i < n → Inv i s →
    (∀ v s', V i v → Inv (i + 1) s' → (∀ b o, b ∉ wr → s.heap.get? b = some o → s'.heap.get? b = some o) → Q (some v) s') → wpAny (model P w) A (pyNext (.ref I)) Q E s
  done : ∀ (s : Shared) (Q : Option Value → Shared → Prop) (E : Value → Shared → Prop), Inv n s → (∀ s', Fin s' → (∀ b o, b ∉ wr → s.heap.get? b = some o → s'.heap.get? b = some o) → Q none s') → wpAny (model P w) A (pyNext (.ref I)) Q E s
  self : ∀ i (s : Shared) (Q : Value → Shared → Prop) (E : Value → Shared → Prop), Inv i s → Q (.ref I) s → wpAny (model P w) A (pyIter (.ref I)) Q E s
  typ : ∀ i s, Inv i s → s.TypeIs (.ref I) "generator"

variable {A : Around} {s : Shared} {R : Result → Shared → Prop} {I : Addr} {fp wr : List Addr} {n : Nat} {V : Nat → Value → Prop} {Inv : Nat → Shared → Prop} {Fin : Shared → Prop}

theorem gw_loop (W : GWalk w A.in1 I fp wr n V Inv Fin) (hn : n ≤ sizeLine) (Sa : Addr) (hSf : Sa ∉ fp) (res : Value) :
    ∀ (k i : Nat) (s : Shared) (acc : Array Value) (c : Nat), n - i = k → i ≤ n → Inv i s → s.heap.get? Sa = some { cls := .type "list", dict := none, data := .seq acc c, slots := #[] } → ItemsOf V acc i →
    (∀ s' acc' c', (∀ b o, b ∉ Sa :: wr → s.heap.get? b = some o → s'.heap.get? b = some o) → s'.heap.get? Sa = some { cls := .type "list", dict := none, data := .seq acc' c', slots := #[] } → ItemsOf V acc' n → Fin s' → R (.ok (.ret res)) s') →
    codeAny (model P w) A (.builtin "list.extend.loop" ⟨[.ref Sa, .ref I, res], []⟩) R s := by
  have hSw : Sa ∉ wr := fun h => hSf (W.sub _ h)
  intro k
  induction k with
  | zero =>
    intro i s acc c hk hi hst hS hacc hR
    obtain rfl : i = n := by omega
    refine codeAny_builtin F.entry_extend_loop ?_
    rw [Around.under_plainId F.plain_extend_loop _]
    show wpAny _ A.in1 (pyNext (.ref I) >>= _) _ _ s
    refine wpAny_bind (W.done s _ _ hst fun s' hf hm => ?_)
    exact wpAny_pure (hR s' acc c (fun b o hb e => hm b o (fun h => hb (List.mem_cons_of_mem _ h)) e) (hm Sa _ hSw hS) hacc hf)
  | succ k ih =>
    intro i s acc c hk hi hst hS hacc hR
    refine codeAny_builtin F.entry_extend_loop ?_
    rw [Around.under_plainId F.plain_extend_loop _]
    show wpAny _ A.in1 (pyNext (.ref I) >>= _) _ _ s
    refine wpAny_bind (W.item i s _ _ (by omega) hst fun v s' hP hst' hm => ?_)
    have hS' := hm Sa _ hSw hS
    show wpAny _ A.in1 (updateSeq Sa (·.push v) >>= _) _ _ _
    refine wpAny_bind ?_
    refine wpAny_updateSeq hS' rfl (wpAny_pure ⟨plainId_quiet F.plain_extend_loop _, ih (i + 1) _ (acc.push v) _ (by omega) (by omega) (W.frame _ s' _ hst' fun b hb o e => ?_) (Heap.get?_update_self _ hS' rfl) (hacc.push hP) fun s'' acc' c' hm'' hS'' hacc' hf => ?_⟩)
      (by rw [hacc.1]; omega) (by show (acc.push v).size ≤ sizeLine + 1; rw [Array.size_push, hacc.1]; omega)
    · exact (Heap.get?_update_other _ _ (fun h : Sa = b => hSf (by rw [h]; exact hb))).trans e
    · refine hR s'' acc' c' (fun b o hb e => hm'' b o hb ?_) hS'' hacc' hf
      exact (Heap.get?_update_other _ _ (fun h : Sa = b => hb (by rw [h]; exact List.mem_cons_self))).trans (hm b o (fun h => hb (List.mem_cons_of_mem _ h)) e)
end

section
variable {w : World} {A : Around} {E : Value → Shared → Prop} {s : Shared} {I : Addr} {fp wr : List Addr} {n : Nat} {V : Nat → Value → Prop} {Inv : Nat → Shared → Prop} {Fin : Shared → Prop}

theorem gw_extend {R : Result → Shared → Prop} (W : GWalk w A.in1 I fp wr n V Inv Fin) (Sa : Addr) (res : Value) (c₀ : Nat) (hst : Inv 0 s) (hSf : Sa ∉ fp) (hI : I ∈ fp) (hn : n ≤ sizeLine)
    (hS : s.heap.get? Sa = some { cls := .type "list", data := .seq #[] c₀ })
    (hR : ∀ s' acc' c', (∀ b o, b ∉ Sa :: wr → s.heap.get? b = some o → s'.heap.get? b = some o) → s'.heap.get? Sa = some { cls := .type "list", dict := none, data := .seq acc' c', slots := #[] } → ItemsOf V acc' n → Fin s' → R (.ok (.ret res)) s') :
    wpAny (model P w) A.in1 (Builtin.List.listExtendWith (.ref Sa) (.ref I) res)
      (fun fin s' => match fin with | .done f => R (.ok f) s' | .again c' => c'.quiet = true ∧ codeAny (model P w) A c' R s') (fun e s' => R (.error e) s') s := by
  have hSI : Sa ≠ I := fun e => hSf (e ▸ hI)
  have hT := W.typ 0 s hst
  unfold Builtin.List.listExtendWith
  refine wpAny_bind (wpAny_typeOf hT ?_)
  have h1 : Builtin.List.listSameRef (.ref Sa) (.ref I) = false := by simp [Builtin.List.listSameRef, hSI]
  have h2 : (Value.type "generator" == Value.type "list") = false := by decide
  have h3 : (Value.type "generator" == Value.type "tuple") = false := by decide
  simp only [h1, h2, h3, Bool.or_false, Bool.false_eq_true, if_false]
  refine wpAny_bind (W.self 0 _ _ _ hst ?_)
  refine wpAny_bind (wpAny_holding ?_)
  unfold Builtin.List.listLengthHint
  refine wpAny_bind (wpAny_specialOf hT F.gen_no_len ?_)
  show wpAny _ A.in1 (specialOf (Value.ref I) (Str.ofString "__length_hint__") >>= _) _ _ _
  refine wpAny_bind (wpAny_specialOf hT F.gen_no_hint ?_)
  refine wpAny_pure ?_
  show wpAny _ A.in1 (rule "list.extend.makes-room" >>= fun _ => Builtin.List.listTouch (.ref Sa) >>= fun _ =>
    again (.builtin "list.extend.loop" ⟨[.ref Sa, .ref I, res], []⟩)) _ _ _
  refine wpAny_bind (wpAny_rule ?_)
  refine wpAny_bind ?_
  show wpAny _ A.in1 (updateSeq Sa (·.push .none) >>= fun _ => updateSeq Sa (·.pop)) _ _ _
  refine wpAny_bind (wpAny_updateSeq hS rfl ?_)
  have hS₂ := Heap.get?_update_self (Obj.mapSeq (·.push Value.none)) hS rfl
  refine wpAny_updateSeq (hz := by seq_fits) hS₂ rfl ?_
  have hS₃ := Heap.get?_update_self (Obj.mapSeq (·.pop)) hS₂ rfl
  have oth : ∀ b o, b ≠ Sa → s.heap.get? b = some o → ((s.heap.update Sa (Obj.mapSeq (·.push Value.none))).update Sa (Obj.mapSeq (·.pop))).get? b = some o :=
    fun b o hb e => (Heap.get?_update_other _ _ (Ne.symm hb)).trans ((Heap.get?_update_other _ _ (Ne.symm hb)).trans e)
  refine wpAny_pure ⟨plainId_quiet F.plain_extend_loop _, gw_loop W hn _ hSf _ n 0 _ _ _ rfl (Nat.zero_le _)
    (W.frame 0 s _ hst fun b hb o e => oth b o (fun h => hSf (h ▸ hb)) e) hS₃ (ItemsOf.nil V) fun s' acc' c' hm hS' hacc hf => ?_⟩
  exact hR s' acc' c' (fun b o hb e => hm b o hb (oth b o (fun h => hb (h ▸ List.mem_cons_self)) e)) hS' hacc hf

theorem gw_list {Q : Value → Shared → Prop} (W : GWalk w A.in1.in1 I fp wr n V Inv Fin) (hst : Inv 0 s) (hfp : ∀ b ∈ fp, b < s.heap.objs.size) (hI : I ∈ fp) (hn : n ≤ sizeLine)
    (hQ : ∀ s' acc' c', (∀ b o, b ∉ wr → s.heap.get? b = some o → s'.heap.get? b = some o) → s'.heap.get? s.heap.objs.size = some { cls := .type "list", dict := none, data := .seq acc' c', slots := #[] } → ItemsOf V acc' n → Fin s' → Q (.ref s.heap.objs.size) s') :
    wpAny (model P w) A (call (.type "list") [.ref I]) Q E s := by
  have hSf : s.heap.objs.size ∉ fp := fun hm => Nat.lt_irrefl _ (hfp _ hm)
  refine callType_codes (Q₁ := fun obj s₁ => obj = .ref s.heap.objs.size ∧ s₁ = { s with heap := s.heap.push { cls := .type "list", data := .seq #[] } }) F.called_list (F.typeCall_list_1 _) F.entry_list_init
    (code_list_new _ ⟨rfl, rfl⟩) fun obj s₁ h₁ => ?_
  obtain ⟨rfl, rfl⟩ := h₁
  have hS : (s.heap.push { cls := .type "list", data := .seq #[] }).get? s.heap.objs.size = some { cls := .type "list", data := .seq #[] } := Heap.get?_push_size _ rfl
  refine ⟨⟨_, hS, rfl⟩, F.args_list_init_2 _ _, ?_⟩
  show wpAny _ A.in1.in1 (do let old ← Builtin.List.listItems (.ref s.heap.objs.size); Builtin.List.listUpdate (.ref s.heap.objs.size) (fun _ => #[]); letGo old.toList.reverse; Builtin.List.listExtendWith (.ref s.heap.objs.size) (.ref I) .none) _ _ _
  refine wpAny_bind ?_
  unfold Builtin.List.listItems
  refine wpAny_bind (wpAny_seqItems hS rfl (wpAny_pure ?_))
  show wpAny _ A.in1.in1 (updateSeq s.heap.objs.size (fun _ => #[]) >>= fun _ => letGo (#[] : Array Value).toList.reverse >>= fun _ => Builtin.List.listExtendWith (.ref s.heap.objs.size) (.ref I) .none) _ _ _
  refine wpAny_bind (wpAny_updateSeq hS rfl ?_)
  have hS₂ := Heap.get?_update_self (Obj.mapSeq (fun _ => (#[] : Array Value))) hS rfl
  have oth : ∀ b o, b ≠ s.heap.objs.size → s.heap.get? b = some o → ((s.heap.push { cls := .type "list", data := .seq #[] }).update s.heap.objs.size (Obj.mapSeq (fun _ => (#[] : Array Value)))).get? b = some o :=
    fun b o hb e => (Heap.get?_update_other _ _ (Ne.symm hb)).trans (Heap.get?_push_of_some _ e)
  refine wpAny_bind (wpAny_letGo ?_)
  refine gw_extend W _ .none _ (W.frame 0 s _ hst fun b hb o e => oth b o (fun h => hSf (h ▸ hb)) e) hSf hI hn hS₂ fun s' acc' c' hm hS' hacc hf => ?_
  refine ⟨rfl, hQ s' acc' c' (fun b o hb e => hm b o (fun h => ?_) (oth b o (fun h => ?_) e)) hS' hacc hf⟩
  · rcases List.mem_cons.mp h with rfl | h
    · rw [Heap.get?_none_of_le (Nat.le_refl _)] at e; cases e
    · exact hb h
  · rw [h, Heap.get?_none_of_le (Nat.le_refl _)] at e; cases e
end
end
section
section
variable {w : World} {A : Around} {R : GenEnd} {Y : Protocol} {n : Nat} {s₀ : Shared} {c : Code} {fs : List Frame} {s : Shared} {env : Env}
  {K : Flow → Sem PySem.Fin} {H : Value → Sem PySem.Fin} {gd : Bool → Bool} {lv : List Value → List Value}

theorem seg_stmt {α : Type} {m : Sem α} {K : α → Sem PySem.Fin} (h : wpAny (model P w) (A.over c fs) m (fun a s' => Seg (model P w) A R Y n s₀ c (K a) fs s') (fun _ _ => False) s) : Seg (model P w) A R Y n s₀ c (m.wrap K H gd lv) fs s :=
  seg_wrap (wpAny_mono h (fun _ _ x => x) fun _ _ x => x.elim)

def backFrom (env : Env) (K : Flow → Sem PySem.Fin) (H : Value → Sem PySem.Fin) (gd : Bool → Bool) (lv : List Value → List Value) (r : Result) : Sem PySem.Fin :=
  ((match r with | .ok f => (.pure f : Sem Flow) | .error e => .raise e).onRaise fun (x : Value) => do
    if (← field x 1) == Value.none then unsupported "frame.own-activation:exception-without-traceback"
    setFlight x env.frame).wrap K H gd lv

theorem seg_For {target iter : Expr} {body orelse : List Stmt} {pos : Pos} (hs : ∀ x, foldedSetIterable iter env x = pure x)
    (h : wpAny (model P w) (A.over c fs) (eval iter env) (fun x s₁ => wpAny (model P w) (A.over c fs) (pyIter x) (fun it s₂ =>
      ∀ p l, Seg (model P w) A R Y n s₀ (.forLoop target it body orelse env) ((model P w).den (.forLoop target it body orelse env)) (.ret (backFrom env K H gd lv) none (gd false) l c p [] :: fs) s₂) (fun _ _ => False) s₁) (fun _ _ => False) s) :
    Seg (model P w) A R Y n s₀ c ((exec (.For target iter body orelse pos) env).wrap K H gd lv) fs s := by
  rw [exec_For]
  refine seg_at ?_
  show Seg _ A R Y n s₀ c (Sem.wrap K H gd lv (eval iter env >>= fun v => foldedSetIterable iter env v >>= fun x => standAt iter.pos >>= fun _ => holding [x] (pyIter x) >>= fun it => runOwn (.forLoop target it body orelse env) env)) fs s
  rw [Sem.bind_eq_wrap', Sem.wrap_wrap]
  refine seg_stmt (wpAny_mono h (fun x s₁ h₁ => ?_) fun _ _ e => e)
  rw [hs x]
  refine seg_at ?_
  show Seg _ A R Y n s₀ c (Sem.wrap K H gd lv (holding [x] (pyIter x) >>= fun it => runOwn (.forLoop target it body orelse env) env)) fs s₁
  rw [Sem.bind_eq_wrap', Sem.wrap_wrap]
  refine seg_stmt (wpAny_holding (wpAny_mono h₁ (fun it s₂ h₂ => ?_) fun _ _ e => e))
  exact seg_call (fun p => h₂ p _)

theorem seg_forLoop {target : Expr} {it : Value} {body orelse : List Stmt} 
    (h : wpAny (model P w) (A.over (.forLoop target it body orelse env) fs) (pyNext it) (fun r s₁ => match r with
      | none => Seg (model P w) A R Y n s₀ (.block orelse env) ((model P w).den (.block orelse env)) fs s₁
      | some v => wpAny (model P w) (A.over (.forLoop target it body orelse env) fs) (letOwnedTupleGo target it v) (fun _ s₁' => wpAny (model P w) (A.over (.forLoop target it body orelse env) fs) (assign target env v) (fun _ s₂ =>
          ∀ H, Seg (model P w) A R Y n s₀ (.forLoop target it body orelse env) ((execs body env).wrap (fun f => match f with
            | .next | .cont => .pure (.again (.forLoop target it body orelse env))
            | .brk => .pure (.done .next)
            | .ret v => .pure (.done (.ret v))) H id id) fs s₂) (fun _ _ => False) s₁') (fun _ _ => False) s₁) (fun _ _ => False) s) :
    Seg (model P w) A R Y n s₀ (.forLoop target it body orelse env) ((model P w).den (.forLoop target it body orelse env)) fs s := by
  show Seg _ A R Y n s₀ _ ((forTurn target it body orelse env).onRaise (fun x => do noteFrame x env; theTreesLotGoes x)) fs s
  unfold forTurn
  rw [Sem.onRaise_eq_wrap]
  refine seg_at ?_
  show Seg _ A R Y n s₀ _ (Sem.wrap _ _ id id (((pyNext it).onRaise (fun _ => standAt { target.pos with line := 0 }) >>= fun r => match r with
    | none => again (.block orelse env)
    | some v => letOwnedTupleGo target it v >>= fun _ => assign target env v >>= fun _ => execs body env >>= fun f => match f with
      | .next | .cont => again (.forLoop target it body orelse env)
      | .brk => pure (.done .next)
      | .ret v => pure (.done (.ret v)) : Sem PySem.Fin))) fs s
  rw [Sem.bind_eq_wrap', Sem.wrap_wrap]
  refine seg_stmt (wpAny_onRaise (wpAny_mono h (fun r s₁ h₁ => ?_) fun _ _ e => e.elim))
  cases r with
  | none => exact seg_again rfl h₁
  | some v =>
    show Seg _ A R Y n s₀ _ (Sem.wrap _ _ _ _ (letOwnedTupleGo target it v >>= fun _ => assign target env v >>= fun _ => execs body env >>= fun f => match f with
      | .next | .cont => again (.forLoop target it body orelse env)
      | .brk => pure (.done .next)
      | .ret v => pure (.done (.ret v)))) fs s₁
    rw [Sem.bind_eq_wrap', Sem.wrap_wrap]
    refine seg_stmt (wpAny_mono h₁ (fun _ s₂ h₂ => ?_) fun _ _ e => e)
    show Seg _ A R Y n s₀ _ (Sem.wrap _ _ _ _ (assign target env v >>= fun _ => execs body env >>= fun f => match f with
      | .next | .cont => again (.forLoop target it body orelse env)
      | .brk => pure (.done .next)
      | .ret v => pure (.done (.ret v)))) fs s₂
    rw [Sem.bind_eq_wrap', Sem.wrap_wrap]
    refine seg_stmt (wpAny_mono h₂ (fun _ s₃ h₃ => ?_) fun _ _ e => e)
    show Seg _ A R Y n s₀ _ (Sem.wrap _ _ _ _ (execs body env >>= fun f => match f with
      | .next | .cont => again (.forLoop target it body orelse env)
      | .brk => pure (.done .next)
      | .ret v => pure (.done (.ret v)))) fs s₃
    rw [Sem.bind_eq_wrap', Sem.wrap_wrap]
    refine Eq.mp (congrArg (fun t => Seg (model P w) A R Y n s₀ (.forLoop target it body orelse env) t fs s₃) (Sem.wrap_congr (execs body env) id id (fun f => ?_) (fun e => rfl))) (h₃ _)
    cases f <;> rfl
end

section
variable {w : World} {A : Around} {R : GenEnd} {Y : Protocol} {n : Nat} {s₀ : Shared} {c : Code} {fs : List Frame} {s : Shared} {env : Env}
  {K : Flow → Sem PySem.Fin} {H : Value → Sem PySem.Fin} {gd : Bool → Bool} {lv : List Value → List Value}
theorem seg_If {test : Expr} {body orelse : List Stmt} {pos : Pos}
    (h : wpAny (model P w) (A.over c fs) (isTrue test env (eval test env)) (fun b s₁ => Seg (model P w) A R Y n s₀ c ((execs (if b = true then body else orelse) env).wrap K H gd lv) fs s₁) (fun _ _ => False) s) :
    Seg (model P w) A R Y n s₀ c ((exec (.If test body orelse pos) env).wrap K H gd lv) fs s := by
  rw [exec_If]
  refine seg_at ?_
  show Seg _ A R Y n s₀ c (Sem.wrap K H gd lv (isTrue test env (eval test env) >>= fun b => if b = true then execs body env else execs orelse env)) fs s
  rw [Sem.bind_eq_wrap', Sem.wrap_wrap]
  refine seg_stmt (wpAny_mono h (fun b s₁ h₁ => ?_) fun _ _ e => e)
  cases b with
  | true => exact h₁
  | false => exact h₁

theorem seg_blockNil {K : Flow → Sem PySem.Fin} {l : List Value} {p : Pos} {g : Bool} (h : Seg (model P w) A R Y n s₀ c (K .next) fs s) :
    Seg (model P w) A R Y n s₀ (.block [] env) ((model P w).den (.block [] env)) (.ret (backFrom env K H gd lv) none g l c p [] :: fs) s := by
  show Seg _ A R Y n s₀ _ (leafOf (.ok .next)) _ s
  exact seg_leaf (.ok .next) h
theorem seg_funcEnd {env : Env} (h : R n s₀ (.ok (.ret .none)) s) : Seg (model P w) A R Y n s₀ c (.pure (.done (.ret .none))) [] s := seg_end (.ok (.ret .none)) h
end
end
section
section
variable {w : World} {A : Around}
def Mv (wr : List Addr) (s s' : Shared) : Prop := (∀ b o, b ∉ wr → s.heap.get? b = some o → s'.heap.get? b = some o) ∧ (s'.gens, s'.os) = (s.gens, s.os)
theorem Mv.refl {wr : List Addr} {s : Shared} : Mv wr s s := ⟨fun _ _ _ e => e, rfl⟩
theorem Mv.trans {wr : List Addr} {a b c : Shared} (x : Mv wr a b) (y : Mv wr b c) : Mv wr a c := ⟨fun q o h e => y.1 q o h (x.1 q o h e), y.2.trans x.2⟩
def Yp (N : Nat) (V : Nat → Value → Prop) (J : Nat → Heap → Prop) (wr : List Addr) : Protocol := fun k s₀ v s' kap =>
  k < N ∧ V (N - 1 - k) v ∧ J (N - k) s'.heap ∧ Mv wr s₀ s' ∧ ∀ s'', J (N - k) s''.heap → kap (.send .none) s''
def Rp (Jf : Heap → Prop) (wr : List Addr) : GenEnd := fun n s₀ r s₁ => r = .ok (.ret .none) ∧ n = 0 ∧ Mv wr s₀ s₁ ∧ Jf s₁.heap

def BareBut (g : Nat) (gens : Array GenState) : Prop := ∀ (j : Nat) (y : GenState), j ≠ g → gens[j]? = some y → y.bare = true
theorem BareBut.set {g : Nat} {gens : Array GenState} (h : BareBut g gens) (x : GenState) : BareBut g (gens.setIfInBounds g x) := fun j y hj e => by
  rw [Array.getElem?_setIfInBounds_ne (Ne.symm hj)] at e
  exact h j y hj e
theorem BareBut.all {g : Nat} {gens : Array GenState} (h : BareBut g gens) : AllBare (gens.setIfInBounds g .finished) := fun y hy => by
  obtain ⟨j, hj, e⟩ := Array.mem_iff_getElem.mp hy
  have e2 : (gens.setIfInBounds g .finished)[j]? = some y := by rw [Array.getElem?_eq_getElem hj, e]
  by_cases hjg : j = g
  · subst hjg
    have hlt : j < gens.size := by rw [Array.size_setIfInBounds] at hj; exact hj
    rw [Array.getElem?_setIfInBounds_self_of_lt hlt] at e2
    cases e2
    rfl
  · exact h.set _ j y hjg e2
theorem BareBut.push {gens : Array GenState} (h : AllBare gens) (x : GenState) : BareBut gens.size (gens.push x) := fun j y hj e => by
  rw [Array.getElem?_push, if_neg hj] at e
  obtain ⟨hlt, e3⟩ := Array.getElem?_eq_some_iff.mp e
  exact h y (e3 ▸ Array.getElem_mem hlt)

def GInv (w : World) (A : Around) (G g : Nat) (N : Nat) (V : Nat → Value → Prop) (J : Nat → Heap → Prop) (Jf : Heap → Prop) (wr : List Addr) (os0 : OsState) (i : Nat) (s : Shared) : Prop :=
  s.heap.IsGen G g ∧ J i s.heap ∧ (s.os = os0 ∧ BareBut g s.gens) ∧ ∃ gs, s.gens[g]? = some gs ∧ ∀ s2 : Shared, J i s2.heap → gs.Goes (model P w) A.in1 (Rp Jf wr) (Yp N V J wr) (N - i) (.send .none) s2

theorem gwalkOf {G g N : Nat} {V : Nat → Value → Prop} {J : Nat → Heap → Prop} {Jf : Heap → Prop} {fp wr : List Addr} {os0 : OsState} (hh : A.handled = none) (hroom : A.depth < recursionLimit)
    (hsub : ∀ b ∈ wr, b ∈ fp) (hG : G ∈ fp) (hGw : G ∉ wr) (hJ : ∀ i h h', J i h → (∀ b ∈ fp, ∀ o, h.get? b = some o → h'.get? b = some o) → J i h') (hlim : ∀ i h, J i h → h.NoLimit) (hF : ∀ h h', Jf h → Keep h h' → Jf h') :
    GWalk w A G fp wr N V (GInv w A G g N V J Jf wr os0) (fun s => Jf s.heap ∧ s.os = os0 ∧ AllBare s.gens) where
  sub := hsub
  frame := fun i s h' ⟨a, b, ob, gs, c, e⟩ k => ⟨(let ⟨o, nm, qn, ho, r⟩ := a; ⟨o, nm, qn, k G hG o ho, r⟩), hJ _ _ _ b k, ob, gs, c, e⟩
  self := fun i s Q E ⟨a, _⟩ q => wpAny_pyIter_gen a q
  typ := fun i s ⟨a, _⟩ => a.typeIs
  item := fun i s Q E hi ⟨a, b, ob, gs, c, e⟩ q => by
    obtain ⟨m, hm⟩ : ∃ m, N - i = m + 1 := ⟨N - i - 1, by omega⟩
    have hg : g < s.gens.size := (Array.getElem?_eq_some_iff.mp c).1
    refine wpAny_pyNext_gen (n := N - i) (P := fun n s₀ s₁ => n = 0 ∧ Mv wr s₀ s₁ ∧ Jf s₁.heap) hh (hlim _ _ b) hroom a c (e _ b) (fun v s₁ gs' hY => ?_) (fun s₁ hP h' k => ?_)
    · rw [hm] at hY
      obtain ⟨h1, h2, h3, h4, h5⟩ := hY
      simp only [Nat.add_sub_cancel] at h2 h3 h5
      have e1 : N - 1 - m = i := by omega
      have e2 : N - m = i + 1 := by omega
      rw [e1] at h2
      rw [e2] at h3 h5
      obtain ⟨hge, hoe⟩ := Prod.mk.inj h4.2
      refine q v _ h2 ⟨(let ⟨o, nm, qn, ho, r⟩ := a; ⟨o, nm, qn, h4.1 G o hGw ho, r⟩), h3, ⟨hoe.trans ob.1, ?_⟩, gs', ?_, fun s2 h => ?_⟩ fun b o hb ee => h4.1 b o hb ee
      · show BareBut g (s₁.gens.setIfInBounds g gs')
        rw [hge]
        exact (ob.2.set _).set _
      · show (s₁.gens.set! g gs')[g]? = some gs'
        have : s₁.gens.size = s.gens.size := by rw [hge]; show (s.gens.set! g _).size = _; simp
        simp [this, hg]
      · have := h5 s2 h
        rw [show N - (i + 1) = m by omega]
        exact this
    · have := hP.1; omega
  done := fun s Q E ⟨a, b, ob, gs, c, e⟩ q => by
    have hg : g < s.gens.size := (Array.getElem?_eq_some_iff.mp c).1
    refine wpAny_pyNext_gen (n := N - N) (P := fun n s₀ s₁ => n = 0 ∧ Mv wr s₀ s₁ ∧ Jf s₁.heap) hh (hlim _ _ b) hroom a c (e _ b) (fun v s₁ gs' hY => ?_) (fun s₁ hP h' k => ?_)
    · obtain ⟨h1, h2, h3, h4, h5⟩ := hY
      have h6 := h5 s₁ h3
      rw [Nat.sub_self] at h6
      exact h6.elim
    · obtain ⟨hge, hoe⟩ := Prod.mk.inj hP.2.1.2
      refine q _ ⟨hF _ _ hP.2.2 k, hoe.trans ob.1, ?_⟩ fun b o hb ee => k b o (hP.2.1.1 b o hb ee)
      show AllBare (s₁.gens.setIfInBounds g .finished)
      rw [hge]
      exact (ob.2.set _).all
end
end
section
section
variable {w : World} {A : Around} {d : Nat}
theorem Room.overFunc (r : Room A (d + 1)) (body : List Stmt) (env : Env) : Room (A.over (.func body env) []) d := by
  refine ⟨r.hh, ?_, ?_⟩
  · have := r.dep
    show A.depth + 0 + 1 + d < recursionLimit
    omega
  · have := r.un
    show A.units + 0 + 3 + 8 * (d + 1) < cLine
    omega
theorem Room.overLoop (r : Room A (d + 2)) {target : Expr} {it : Value} {body orelse : List Stmt} {env : Env} {k : Result → Sem PySem.Fin} {g : Bool} {l : List Value} {bd : List Stmt} {env2 : Env} {p : Pos} :
    Room (A.over (.forLoop target it body orelse env) [.ret k none g l (.func bd env2) p []]) d := by
  refine ⟨r.hh, ?_, ?_⟩
  · have := r.dep
    show A.depth + (1 + 0) + 0 + d < recursionLimit
    omega
  · have := r.un
    show A.units + (3 + 0) + 0 + 8 * (d + 1) < cLine
    omega
theorem Room.in1 (r : Room A (d + 1)) : Room A.in1 d := ⟨r.hh, by have := r.dep; show A.depth + d < _; omega, by have := r.un; show A.units + 1 + 8 * (d + 1) < cLine; omega⟩
end
end
section
section
variable {w : World} {d : Nat} {sc : Scope} {m : Env'}
theorem PE.attrTyp {x : Str} {np pos : Pos} {a : Addr} {kind text : List Nat} (h : m.lookup x = some (.tok a kind text)) (hk : sc.kind = .function) (hl : sc.names.lookup x = some .local) (hd : (x == ("__debug__" : Str)) = false) :
    PE w d sc (.Attribute (.Name x np) (Str.ofString "typ") pos) m (.str kind) := by
  intro env L A B own s Q E hE G R X q
  refine attrE (PE.name h rfl hl hk hd env L A B own s _ E hE G R X fun v h1 t1 k1 r1 => ?_)
  cases r1 with
  | @tok _ ox dx od _ _ u1 u2 g1 g2 g3 g4 g5 g6 g7 =>
    exact getSlotA (s := { s with heap := h1, toks := t1 }) (G.keep (X.keep k1).base).k (instAt (ex_some.mp g1).2 g2 g3 g4 (ex_some.mp g5).2) (gaTok w) (gtTok w) (fo_typ w od) (sl77 w) g6 rfl (q _ h1 _ k1 (.str _ _))
theorem PE.attrVal {x : Str} {np pos : Pos} {a : Addr} {kind text : List Nat} (h : m.lookup x = some (.tok a kind text)) (hk : sc.kind = .function) (hl : sc.names.lookup x = some .local) (hd : (x == ("__debug__" : Str)) = false) :
    PE w d sc (.Attribute (.Name x np) (Str.ofString "val") pos) m (.str text) := by
  intro env L A B own s Q E hE G R X q
  refine attrE (PE.name h rfl hl hk hd env L A B own s _ E hE G R X fun v h1 t1 k1 r1 => ?_)
  cases r1 with
  | @tok _ ox dx od _ _ u1 u2 g1 g2 g3 g4 g5 g6 g7 =>
    exact getSlotA (s := { s with heap := h1, toks := t1 }) (G.keep (X.keep k1).base).k (instAt (ex_some.mp g1).2 g2 g3 g4 (ex_some.mp g5).2) (gaTok w) (gtTok w) (fo_val w od) (sl78 w) g7 rfl (q _ h1 _ k1 (.str _ _))
end
end
section
section
variable {w : World} {d : Nat} {sc : Scope} {m : Env'}
theorem noBoolTok (w : World) : findIn (KW w) (.ref 155) "__bool__" = some none := by kernel_rfl
theorem noLenTok (w : World) : findIn (KW w) (.ref 155) "__len__" = some none := by kernel_rfl
theorem PT.tokTrue {x : Str} {np : Pos} {a : Addr} {kind text : List Nat} (h : m.lookup x = some (.tok a kind text)) (hk : sc.kind = .function) (hl : sc.names.lookup x = some .local) (hd : (x == ("__debug__" : Str)) = false) :
    PT w d sc (.Name x np) m true := by
  intro env L A B own s Q E hE G R X q
  refine isTrue_plain (PE.name h rfl hl hk hd env L A B own s _ E hE G R X fun v h1 t1 k1 r1 => ?_) rfl
  cases r1 with
  | @tok _ ox dx od _ _ u1 u2 g1 g2 g3 g4 g5 g6 g7 =>
    obtain ⟨mv, F, _⟩ := (X.keep k1).fr
    exact truthy_K0 (s := { s with heap := h1, toks := t1 }) F G.k (instAt (ex_some.mp g1).2 g2 g3 g4 (ex_some.mp g5).2) (noBoolTok w) (noLenTok w) (q h1 t1 k1)
theorem PT.noneFalse {x : Str} {np : Pos} (h : m.lookup x = some .none) (hk : sc.kind = .function) (hl : sc.names.lookup x = some .local) (hd : (x == ("__debug__" : Str)) = false) :
    PT w d sc (.Name x np) m false := by
  intro env L A B own s Q E hE G R X q
  refine isTrue_plain (PE.name h rfl hl hk hd env L A B own s _ E hE G R X fun v h1 t1 k1 r1 => ?_) rfl
  obtain rfl := r1.inv
  exact PyProof.Rows.truthy_none (q h1 t1 k1)
end
end
section
section
variable {w : World} {d : Nat} {sc : Scope} {m : Env'}
theorem valStep {env : Env} {L : Addr} {A : Around} {B : Heap} {own : Own} {s : Shared} {x : Str} {np ap pos : Pos} {e : Expr} {new : List Nat} {a : Addr} {kind text : List Nat} {r : Row} {p : Addr → Prop} {Q : Flow → Shared → Prop} {E : Value → Shared → Prop}
    (hE : EnvOk env sc L) (G : Gd w B) (Rm : Room A d) (X : St w B L own m s.heap) (hx : m.lookup x = some (.tok a kind text)) (hk : sc.kind = .function) (hl : sc.names.lookup x = some .local) (hd : (x == ("__debug__" : Str)) = false)
    (he : PE w d sc e m (.str new)) (ht : TokP p s.heap a r)
    (q : ∀ h1 h' tk, Keep s.heap h1 → Heap.SameBut a h1 h' → TokP p h' a { r with text := new } → Q .next { s with heap := h', toks := tk })
    (hsw : ∀ env, swapsWith e (some (.Attribute (.Name x np) (Str.ofString "val") ap)) pos.line env = pure false := by intro _; rfl) :
    wpAny (model P w) A (exec (.Assign [.Attribute (.Name x np) (Str.ofString "val") ap] e pos) env) Q E s := by
  refine plainObj_wpAny_Assign_Attribute (he env L A B own s _ E hE G Rm X fun v s1 t1 k1 r1 => ?_) (hsw _)
  have X1 := X.keep k1
  refine PE.name hx rfl hl hk hd env L A B own { s with heap := s1, toks := t1 } _ E hE G Rm X1 fun v2 s2 t2 k2 r2 => ?_
  obtain ⟨_, rfl⟩ := r1.inv
  obtain rfl := r2.inv
  refine set_val (s := { s with heap := s2, toks := t2 }) (G.keep (X1.keep k2).base).k (ht.to fun b o _ e => k2 _ _ (k1 _ _ e)) fun h' tk sb t' => ?_
  exact q s2 h' tk (k1.trans k2) sb t'
end
end
section
def Row.conv (r : Row) : Row := if r.kind = kSTR then { r with text := rd ((r.text.drop 1).take (r.text.length - 1 - 1)) } else if r.kind = kCHR then { r with text := rd r.text } else r
theorem conv_quoted (r : Row) : r.quoted.conv = r.told := by
  unfold Row.conv Row.quoted Row.told
  by_cases h : r.kind = kSTR
  · rw [if_pos h]
    have e : (([34] ++ r.text ++ [34]).drop 1).take (([34] ++ r.text ++ [34]).length - 1 - 1) = r.text := by
      have : ([34] ++ r.text ++ [34]).drop 1 = r.text ++ [34] := by simp
      rw [this]
      have l : ([34] ++ r.text ++ [34]).length - 1 - 1 = r.text.length := by simp
      rw [l, List.take_left' rfl]
    have h1 : r.kind = kSTR ∨ r.kind = kCHR := Or.inl h
    rw [if_pos h1]
    refine (if_pos h).trans ?_
    show ({ kind := r.kind, text := rd ((([34] ++ r.text ++ [34]).drop 1).take (([34] ++ r.text ++ [34]).length - 1 - 1)), space := r.space, first := r.first, line := r.line, col := r.col } : Row) = _
    rw [e]
  · rw [if_neg h]
    by_cases h2 : r.kind = kCHR
    · rw [if_neg h, if_pos h2, if_pos (Or.inr h2)]
    · rw [if_neg h, if_neg h2, if_neg (by rintro (a | a); exact h a; exact h2 a)]
end
section
section
variable {w : World} {d : Nat}
theorem genCall {name : Str} {args : List PV} {rc : DefRec} {names : List Str} (hd : (recsOf VW).find? (fun e => e.name == name) = some rc)
    (hb : ∀ (pm cd doc : Value) (vs : List Value), vs.length = args.length → bindArgs (Calls.docDef rc.name rc.params rc.body rc.scope pm cd doc) ⟨vs, []⟩ = pure (names.zip vs))
    (hl : ∀ x ∈ names, rc.scope.names.lookup x = some .local) {A : Around} {s : Shared} {vs : List Value} {a : Addr} {Q E : Value → Shared → Prop} (hlen : vs.length = args.length)
    (G : Gd w s.heap) (Rm : Room A (d + 1)) (hg : ∃ mg, s.heap.Ns mainGlobals mg ∧ mg name = some (.ref a))
    (q : ∀ (env : Env) (h' : Heap) (tk : Nat), EnvOk env rc.scope s.heap.objs.size → Keep s.heap h' → h'.Ns s.heap.objs.size (fun x => ((names.zip vs).reverse).lookup x) → h'.objs.size = s.heap.objs.size + 2 → h'.IsGen (s.heap.objs.size + 1) s.gens.size →
      Q (.ref (s.heap.objs.size + 1)) { s with heap := h', gens := s.gens.push (.fresh (.func rc.body env)), toks := tk })
    (hco : rc.scope.isCoroutine = false) (hgen : rc.scope.isGenerator = true) (hk : rc.scope.kind = .function) (hcell : ∀ x ∈ rc.scope.names, x.2 ≠ .cell) : wpAny (model P w) A (call (.ref a) vs) Q E s := by
  obtain ⟨mean, mg, mb, T⟩ := G.top
  have hmem := List.mem_of_find?_eq_some hd
  have hnm : rc.name = name := beq_iff_eq.mp (List.find?_some (p := fun e : DefRec => e.name == name) hd)
  obtain ⟨a', o, pm, code, doc, f1, f2, f3, f4⟩ := T.fn rc hmem
  obtain ⟨mg', G', hg'⟩ := hg
  have e1 : mg' = mg := nsUnique G' T.g
  subst e1
  rw [hnm, hg'] at f1
  cases f1
  refine wpAny_call (codeAny_call_generator (fd := Calls.docDef rc.name rc.params rc.body rc.scope pm code doc) (body := rc.body) (by have := Rm.dep; omega) f2 f3 hco hgen rfl f4 ?_)
  rw [hb pm code doc vs hlen]
  refine wpAny_pure (wpAny_newFunctionEnv hcell (fun x hx => hl x.1 (List.of_mem_zip hx).1) (fun h₁ hns hsb => ?_) hk)
  have hsz : h₁.objs.size = s.heap.objs.size + 1 := by rw [hsb.1, Heap.size_push]
  refine ⟨T.nolimit.fresh _ hsb, ?_⟩
  have k1 : Keep s.heap h₁ := fun b o e => hsb.extBut b o (Nat.ne_of_lt (Heap.lt_size e)) (Heap.get?_push_of_some _ e)
  have := q (newEnv rc.scope s.heap.objs.size mainGlobals [] ((Calls.docDef rc.name rc.params rc.body rc.scope pm code doc).qualname ++ ".<locals>.") (some a) code none builtinsNs) (h₁.push { cls := .type "generator", data := .fields #[.int s.gens.size 0, .str rc.name (s.toks + (names.zip vs).length), .str rc.name (s.toks + (names.zip vs).length + 1)] }) (s.toks + (names.zip vs).length + 1 + 1) ⟨rfl, rfl, rfl, rfl⟩ (k1.trans (keep_push _ _)) (hns.at fun o e => keep_push _ _ _ _ e) (by rw [Heap.size_push, hsz])
    ⟨_, _, _, (by rw [← hsz]; exact Heap.get?_push_size _ rfl), rfl, rfl, rfl⟩
  rw [← hsz] at this
  exact this
end
end
section
section
variable {w : World} {d : Nat}
theorem CO.inLs {k : List Nat} {ys : List (List Nat)} : CO w d .In (.str k) (.list (ys.map .str)) (decide (k ∈ ys)) := by
  intro L own A B s va vb Q E G kk R ra rb q
  cases ra with
  | str _ t =>
    cases rb with
    | @list a vs n _ g rs =>
      obtain ⟨ql, h1, h2⟩ := strs_of_vrs rs
      have hS := strsAre_of_values ql
      rw [h2] at hS
      have hv : vs = (strValues ql).toArray := by rw [← h1]
      refine in_list_strs (vs := strValues ql) (ys := ys.map S) (hv ▸ listGet (gOf_sub _ _ g)) hS ?_
      have e : (ys.map S).any (· == S k) = decide (k ∈ ys) := by
        rw [Bool.eq_iff_iff, List.any_eq_true, decide_eq_true_iff]
        constructor
        · rintro ⟨y, hy, e⟩
          obtain ⟨z, hz, rfl⟩ := List.mem_map.mp hy
          rw [beq_iff_eq, S_inj] at e
          exact e ▸ hz
        · intro h
          exact ⟨S k, List.mem_map.mpr ⟨k, h, rfl⟩, beq_iff_eq.mpr rfl⟩
      rw [e]
      exact q s.heap s.toks (Keep.refl _)
end
section
variable {w : World} {d : Nat}
def FS (B : Heap) (L : Addr) (h : Heap) (l : List (Str × Value)) : Prop := ∃ mv, Fr B L h mv ∧ ∀ p ∈ l, mv p.1 = some p.2
theorem FS.keeps {B : Heap} {L : Addr} {h h' : Heap} {l : List (Str × Value)} (x : FS B L h l) (k : ∀ b o, b = L ∨ b < L → h.get? b = some o → h'.get? b = some o) : FS B L h' l := by
  obtain ⟨mv, F, e⟩ := x
  exact ⟨mv, ⟨F.ns.at fun o e => k _ _ (.inl rfl) e, fun b o eb => k _ _ (.inr (Nat.lt_of_lt_of_le (Heap.lt_size eb) F.above)) (F.keep b o eb), F.above⟩, e⟩
theorem FS.move {B : Heap} {L a : Addr} {h h' : Heap} {l : List (Str × Value)} (x : FS B L h l) (ha : a ≠ L) (hb : B.get? a = none) (k : ∀ b o, b ≠ a → h.get? b = some o → h'.get? b = some o) : FS B L h' l := by
  obtain ⟨mv, F, e⟩ := x
  exact ⟨mv, ⟨F.ns.at fun o e => k _ _ ha.symm e, fun b o eb => k _ _ (fun h => by rw [h, hb] at eb; cases eb) (F.keep b o eb), F.above⟩, e⟩
theorem FS.base {B : Heap} {L : Addr} {h : Heap} {l : List (Str × Value)} (x : FS B L h l) : Keep B h := let ⟨_, F, _⟩ := x; F.keep
theorem FS.st {B : Heap} {L : Addr} {h : Heap} {l : List (Str × Value)} {m : Env'} (x : FS B L h l) (hm : ∀ y pv, m.lookup y = some pv → ∃ v, (y, v) ∈ l ∧ VR w (gOf h L ⟨[], []⟩) v pv) : St w B L ⟨[], []⟩ m h := by
  obtain ⟨mv, F, e⟩ := x
  refine ⟨⟨mv, F, fun y pv ey => ?_⟩, (fun p hp => nomatch hp), List.nodup_nil, (fun b hb => nomatch hb)⟩
  obtain ⟨v, hv, r⟩ := hm y pv ey
  exact ⟨v, e _ hv, .of_VR r.notAcc r⟩
theorem FS.of {B : Heap} {L : Addr} {h : Heap} {l : List (Str × Value)} {m : Env'} {own : Own} (X : St w B L own m h) (hm : ∀ p ∈ l, ∃ pv, m.lookup p.1 = some pv ∧ pv.isAcc = false ∧ ∀ g v, VR w g v pv → v = p.2) : FS B L h l := by
  obtain ⟨⟨mv, F, hx⟩, _⟩ := X
  refine ⟨mv, F, fun p hp => ?_⟩
  obtain ⟨pv, e1, e2, e3⟩ := hm p hp
  obtain ⟨v, f1, f2⟩ := hx _ _ e1
  rw [f1, e3 _ _ (f2.VR e2)]
theorem FS.less {B : Heap} {L : Addr} {h : Heap} {l l' : List (Str × Value)} (x : FS B L h l) (k : ∀ p ∈ l', p ∈ l) : FS B L h l' := by
  obtain ⟨mv, F, e⟩ := x
  exact ⟨mv, F, fun p hp => e p (k p hp)⟩

theorem TokP.vr {p : Addr → Prop} {h : Heap} {L x : Addr} {r : Row} (t : TokP p h x r) (hp : ∀ b, p b → b ≠ L) : VR w (gOf h L ⟨[], []⟩) (.ref x) (.tok x r.kind r.text) := by
  obtain ⟨ox, dx, m1, y, t1, t2, t3, e1, e2, e3, e4, e5, e6, e7, e8, e9, e10, e11, e12, e13⟩ := t
  obtain ⟨od, es, ep, g1, g2⟩ := e5
  have hh : ∀ b, p b → b ∉ (Own.mk [] []).all L := fun b hb hm => hp b hb (by simpa [Own.all] using hm)
  exact .tok (ex_some.mpr ⟨hh _ e12, e1⟩) e2 e3 e4 (ex_some.mpr ⟨hh _ e13, g1⟩) e10 e11

variable {A : Around} {R : GenEnd} {Y : Protocol} {fs : List Frame} {env : Env}
theorem genFor {target : Expr} {it : Value} {body orelse : List Stmt} {N : Nat} {I : Nat → Nat → Shared → Shared → Prop}
    (turn : ∀ i n s₀ s, i < N → I i n s₀ s → (∀ n' s₀' s', I (i + 1) n' s₀' s' → Seg (model P w) A R Y n' s₀' (.forLoop target it body orelse env) ((model P w).den (.forLoop target it body orelse env)) fs s') →
      Seg (model P w) A R Y n s₀ (.forLoop target it body orelse env) ((model P w).den (.forLoop target it body orelse env)) fs s)
    (fin : ∀ n s₀ s, I N n s₀ s → Seg (model P w) A R Y n s₀ (.forLoop target it body orelse env) ((model P w).den (.forLoop target it body orelse env)) fs s) :
    ∀ i n s₀ s, i ≤ N → I i n s₀ s → Seg (model P w) A R Y n s₀ (.forLoop target it body orelse env) ((model P w).den (.forLoop target it body orelse env)) fs s := by
  have main : ∀ k i n s₀ s, N - i = k → i ≤ N → I i n s₀ s → Seg (model P w) A R Y n s₀ (.forLoop target it body orelse env) ((model P w).den (.forLoop target it body orelse env)) fs s := by
    intro k
    induction k with
    | zero =>
      intro i n s₀ s hk hi h
      obtain rfl : i = N := by omega
      exact fin n s₀ s h
    | succ k ih =>
      intro i n s₀ s hk hi h
      exact turn i n s₀ s (by omega) h fun n' s₀' s' h' => ih (i + 1) n' s₀' s' (by omega) (by omega) h'
  exact fun i n s₀ s hi h => main _ i n s₀ s rfl hi h
end
end
section
section
variable {w : World} {d : Nat}
abbrev nTok : Str := Str.ofString "token"
abbrev nToks : Str := Str.ofString "tokens"
def LP (M : Nat) (B : Heap) : Addr → Prop := fun b => b < M ∧ B.get? b = none

theorem tst {M : Nat} {B P0 h : Heap} {L It x : Addr} {r : Row} (hM : M ≤ L) (f : FS B L h [(nTok, .ref x), (nToks, .ref It)]) (t : TokP (LP M P0) h x r) : St w B L ⟨[], []⟩ [(nTok, .tok x r.kind r.text), (nToks, .adr It)] h := by
  refine f.st fun y pv e => ?_
  rw [List.lookup_cons] at e
  by_cases hy : y = nTok
  · subst hy
    rw [beq_self_eq_true] at e
    cases e
    exact ⟨_, by simp, t.vr fun b hb => Nat.ne_of_lt (Nat.lt_of_lt_of_le hb.1 hM)⟩
  · rw [beq_eq_false_iff_ne.mpr hy, List.lookup_cons] at e
    by_cases hy2 : y = nToks
    · subst hy2
      rw [beq_self_eq_true] at e
      cases e
      exact ⟨_, by simp, .adr _⟩
    · rw [beq_eq_false_iff_ne.mpr hy2] at e
      cases e

theorem ifVal {sc : Scope} {env : Env} {L It x : Addr} {A : Around} {B P0 : Heap} {M : Nat} {s : Shared} {np ap p1 p2 : Pos} {test e : Expr} {b : Bool} {new : List Nat} {r : Row} {Q : Flow → Shared → Prop} {E : Value → Shared → Prop}
    (hE : EnvOk env sc L) (G : Gd w B) (Rm : Room A d) (hP0 : ∀ b, P0.get? b = none → B.get? b = none) (hM : M ≤ L) (hk : sc.kind = .function) (hl : sc.names.lookup nTok = some .local)
    (F : FS B L s.heap [(nTok, .ref x), (nToks, .ref It)]) (T : TokP (LP M P0) s.heap x r)
    (ht : PT w d sc test [(nTok, .tok x r.kind r.text), (nToks, .adr It)] b) (he : b = true → PE w d sc e [(nTok, .tok x r.kind r.text), (nToks, .adr It)] (.str new))
    (q : ∀ h' tk, FS B L h' [(nTok, .ref x), (nToks, .ref It)] → TokP (LP M P0) h' x (if b = true then { r with text := new } else r) → (∀ c o, c ≠ x → s.heap.get? c = some o → h'.get? c = some o) → Q .next { s with heap := h', toks := tk })
    (hsw : ∀ env, swapsWith e (some (.Attribute (.Name nTok np) (Str.ofString "val") ap)) p1.line env = pure false := by intro _; rfl) :
    wpAny (model P w) A (exec (.If test [.Assign [.Attribute (.Name nTok np) (Str.ofString "val") ap] e p1] [] p2) env) Q E s := by
  have X := tst (w := w) hM F T
  refine wpAny_If (ht env L A B ⟨[], []⟩ s _ E hE G Rm X fun h1 t1 k1 => ?_)
  have F1 := F.keeps fun c o _ e => k1 c o e
  have T1 := T.to fun c o _ e => k1 c o e
  cases b with
  | false =>
    rw [if_neg Bool.false_ne_true]
    exact wpAny_execs_nil (q h1 t1 F1 T1 fun c o _ e => k1 c o e)
  | true =>
    rw [if_pos rfl]
    refine wpAny_execs_cons (valStep (s := { s with heap := h1, toks := t1 }) (r := r) (p := LP M P0) hE G Rm (X.keep k1) (by rw [List.lookup_cons, beq_self_eq_true]) hk hl (by decide) (he rfl) T1 (fun h2 h3 t3 k2 sb T3 => ?_) hsw)
    refine wpAny_execs_nil (q h3 t3 ?_ T3 fun c o hc e => (sb.2 c hc).trans (k2 _ _ (k1 _ _ e)))
    obtain ⟨ox, _, _, _, hp⟩ := T.obj
    exact (F1.keeps fun c o _ e => k2 c o e).move (Nat.ne_of_lt (Nat.lt_of_lt_of_le hp.1 hM)) (hP0 _ hp.2) fun c o hc e => (sb.2 c hc).trans e

theorem PE.cutEnds {sc : Scope} {m : Env'} {v : Expr} {l : List Nat} {k1 k2 : Nat} {p1 p2 p3 p4 p5 : Pos} (h : PE w d sc v m (.str l)) (h2 : 2 ≤ l.length) (h3 : l.length ≤ 100000) :
    PE w d sc (.Subscript v (.Slice (some (.Constant (.int 1) k1 p1)) (some (.UnaryOp .USub (.Constant (.int 1) k2 p2) p3)) .none p4) p5) m (.str ((l.drop 1).take (l.length - 1 - 1))) := by
  have hneg : cutHi (some (-1)) l.length = ((l.length - 1 : Nat) : Int) := by
    unfold cutHi
    simp only []
    rw [if_pos (by decide)]; omega
  have := PE.sliceS (w := w) (d := d) (p := p4) (pos := p5) (lo := some (.Constant (.int 1) k1 p1)) (l := some 1) (u := some (-1)) (hi := some (.UnaryOp .USub (.Constant (.int 1) k2 p2) p3)) h PE.int (PE.neg PE.int) (by decide) (by rw [hneg]; show (1 : Int) ≤ _; omega) (by rw [hneg]; omega) (by rw [sizeLine_eq]; omega)
  rw [hneg, Int.toNat_natCast] at this
  exact this

structure RowC (r : Row) : Prop where
  len : r.text.length ≤ 50000
  str : r.kind = kSTR → 2 ≤ r.text.length ∧ good ((r.text.drop 1).take (r.text.length - 1 - 1))
  chr : r.kind = kCHR → good r.text

structure CJ (M : Nat) (B P0 : Heap) (L It D : Addr) (xs : List Addr) (rows : List Row) (i : Nat) (h : Heap) : Prop where
  fs : FS B L h [(nToks, .ref It)]
  it : h.IsListIter It D i
  li : h.IsList D (xs.map Value.ref).toArray
  tk : ∀ (j : Nat) (x : Addr) (r : Row), xs[j]? = some x → rows[j]? = some r → TokP (LP M P0) h x (if j < i then r.conv else r)
structure CC (M : Nat) (B : Heap) (L It D : Addr) (xs : List Addr) (rows : List Row) : Prop where
  mi : M ≤ It
  il : It < L
  dm : D < M
  ib : B.get? It = none
  nd : xs.Nodup
  len : xs.length = rows.length
  xm : ∀ x ∈ xs, x < M
  small : rows.length ≤ 1000

theorem CJ.frame {M : Nat} {B P0 : Heap} {L It D : Addr} {xs : List Addr} {rows : List Row} (c : CC M B L It D xs rows) (i : Nat) (h h' : Heap) (x : CJ M B P0 L It D xs rows i h) (k : ∀ b ∈ List.range (L + 2), ∀ o, h.get? b = some o → h'.get? b = some o) : CJ M B P0 L It D xs rows i h' := by
  have kk : ∀ b o, b < L + 2 → h.get? b = some o → h'.get? b = some o := fun b o hb e => k b (List.mem_range.mpr hb) o e
  have a1 := c.mi
  have a2 := c.il
  have a3 := c.dm
  refine ⟨x.fs.keeps fun b o hb e => kk b o ?_ e, ?_, ?_, fun j x' r e1 e2 => (x.tk j x' r e1 e2).to fun b o hb e => kk b o ?_ e⟩
  · rcases hb with rfl | hb
    · exact Nat.lt_add_of_pos_right (by decide)
    · exact Nat.lt_trans hb (Nat.lt_add_of_pos_right (by decide))
  · obtain ⟨o, e, r⟩ := x.it
    exact ⟨o, kk _ _ (Nat.lt_trans a2 (Nat.lt_add_of_pos_right (by decide))) e, r⟩
  · obtain ⟨o, e, r⟩ := x.li
    exact ⟨o, kk _ _ (Nat.lt_trans (Nat.lt_of_lt_of_le a3 (Nat.le_trans a1 (Nat.le_of_lt a2))) (Nat.lt_add_of_pos_right (by decide))) e, r⟩
  · exact Nat.lt_trans (Nat.lt_of_lt_of_le hb.1 (Nat.le_trans a1 (Nat.le_of_lt a2))) (Nat.lt_add_of_pos_right (by decide))

def Vx (xs : List Addr) (i : Nat) (v : Value) : Prop := ∃ x, xs[i]? = some x ∧ v = .ref x
def CF (M : Nat) (P0 : Heap) (xs : List Addr) (rows : List Row) (h : Heap) : Prop := ∀ (j : Nat) (x : Addr) (r : Row), xs[j]? = some x → rows[j]? = some r → TokP (LP M P0) h x r.conv

theorem convert_gen {A : Around} {s : Shared} {a : Addr} {B P0 : Heap} {L M It D : Nat} {xs : List Addr} {rows : List Row} {Q E : Value → Shared → Prop} (hLe : s.heap.objs.size = L) (hok : ∀ r ∈ rows, RowC r)
    (G : Gd w B) (hP0 : ∀ b, P0.get? b = none → B.get? b = none) (kB : Keep B s.heap) (Rm : Room A (d + 1)) (hg : ∃ mg, s.heap.Ns mainGlobals mg ∧ mg (Str.ofString "string_convert") = some (.ref a))
    (C : CC M B L It D xs rows) (hsz : B.objs.size ≤ L) (hit : s.heap.IsListIter It D 0) (hli : s.heap.IsList D (xs.map Value.ref).toArray) (htk : ∀ (j : Nat) (x : Addr) (r : Row), xs[j]? = some x → rows[j]? = some r → TokP (LP M P0) s.heap x r)
    (q : ∀ h' tk gs, Keep s.heap h' → CJ M B P0 L It D xs rows 0 h' → h'.objs.size = L + 2 → h'.IsGen (L + 1) s.gens.size →
      (∀ (A2 : Around) (s2 : Shared), Room A2 (d + 6) → CJ M B P0 L It D xs rows 0 s2.heap →
        gs.Goes (model P w) A2 (Rp (CF M P0 xs rows) (L :: It :: xs)) (Yp rows.length (Vx xs) (CJ M B P0 L It D xs rows) (L :: It :: xs)) rows.length (.send .none) s2) →
      Q (.ref (L + 1)) { s with heap := h', gens := s.gens.push gs, toks := tk }) : wpAny (model P w) A (call (.ref a) [.ref It]) Q E s := by
  refine genCall (d := d) (args := [.adr It]) (names := [nToks]) rfl (fun pm cd doc vs hvs => match vs, hvs with | [a], _ => rfl) (by decide) rfl (G.keep kB) Rm hg (fun env h' tk hE k hns hs2 hgen => ?_) rfl rfl rfl (by decide)
  rw [hLe] at hE hns hs2 hgen ⊢
  have a1 := C.mi
  have a2 := C.il
  have a3 := C.dm
  have a4 := C.len
  have a5 := C.small
  have hML : M ≤ L := Nat.le_trans a1 (Nat.le_of_lt a2)
  have hfs : FS B L h' [(nToks, .ref It)] := ⟨_, ⟨hns, fun b o e => k b o (kB b o e), hsz⟩, fun p hp => by
    rcases List.mem_singleton.mp hp with rfl
    rfl⟩
  have hx : ∀ i (h : i < rows.length), ∃ x, xs[i]? = some x := fun i h => ⟨_, List.getElem?_eq_getElem (by omega)⟩
  refine q h' tk _ k ⟨hfs, let ⟨o, e, r⟩ := hit; ⟨o, k _ _ e, r⟩, let ⟨o, e, r⟩ := hli; ⟨o, k _ _ e, r⟩, fun j x r e1 e2 => ?_⟩ hs2 hgen fun A2 s2 Rm2 hJ => ⟨rfl, ?_⟩
  · rw [if_neg (Nat.not_lt_zero _)]
    exact (htk j x r e1 e2).to fun b o _ e => k b o e
  refine seg_func (seg_execs_cons (seg_For (fun _ => rfl) ?_))
  have X0 : St w B L ⟨[], []⟩ [(nToks, .adr It)] s2.heap := hJ.fs.st fun y pv e => by
    rw [List.lookup_cons] at e
    by_cases hy : y = nToks
    · subst hy
      rw [beq_self_eq_true] at e
      cases e
      exact ⟨_, by simp, .adr _⟩
    · rw [beq_eq_false_iff_ne.mpr hy] at e
      cases e
  refine PE.name (d := d) (pv := .adr It) rfl rfl rfl rfl (by decide) env L _ B ⟨[], []⟩ s2 _ _ hE G (Room.less (Rm2.overFunc (d := d + 5) _ _) (by omega)) X0 fun v h1 t1 k1 r1 => ?_
  obtain rfl := r1.inv
  have J1 : CJ M B P0 L It D xs rows 0 h1 := CJ.frame C 0 _ _ hJ fun b _ o e => k1 b o e
  refine wpAny_pyIter_listiter (s := { s2 with heap := h1, toks := t1 }) J1.it ?_
  intro p l
  refine genFor (N := rows.length) (I := fun i n s₀ s' => n = rows.length - i ∧ CJ M B P0 L It D xs rows i s'.heap ∧ Mv (L :: It :: xs) s₀ s') ?turn ?fin 0 _ _ _ (Nat.zero_le _) ⟨rfl, J1, fun b o _ e => k1 b o e, rfl⟩
  case fin =>
    rintro n s₀ s' ⟨hn, J, mv⟩
    have hn0 : n = 0 := by omega
    subst hn0
    refine seg_forLoop (wpAny_pyNext_list_end (Room.overLoop (d := d) (Rm2.less (by omega))).hh J.it J.li (by simp; omega) fun h2 ext => ?_)
    refine seg_blockNil (seg_execs_nil (seg_funcEnd (env := env) ⟨rfl, rfl, mv.trans ⟨fun b o hb e => ext b o (fun h => hb (h ▸ by simp)) e, rfl⟩, fun j x r e1 e2 => ?_⟩))
    have hj : j < rows.length := (List.getElem?_eq_some_iff.mp e2).1
    have := J.tk j x r e1 e2
    rw [if_pos hj] at this
    exact this.to fun b o hb e => ext b o (Nat.ne_of_lt (Nat.lt_of_lt_of_le hb.1 a1)) e
  case turn =>
    rintro i n s₀ s' hi ⟨hn, J, mv⟩ ih
    obtain ⟨x, hxi⟩ := hx i hi
    have hri : rows[i]? = some rows[i] := List.getElem?_eq_getElem hi
    generalize rows[i] = r at hri
    have hrc := hok r (List.mem_of_getElem? hri)
    have hr0 := J.tk i x r hxi hri
    rw [if_neg (Nat.lt_irrefl _)] at hr0
    obtain ⟨ox, ho1, ho2, ho3, hpx⟩ := hr0.obj
    have hxL : x ≠ L := Nat.ne_of_lt (Nat.lt_of_lt_of_le hpx.1 hML)
    have hxI : x ≠ It := Nat.ne_of_lt (Nat.lt_of_lt_of_le hpx.1 a1)
    have hxD : x ≠ D := fun h => by
      obtain ⟨o, e, c, _⟩ := J.li
      rw [← h, ho1] at e
      cases e
      rw [ho2] at c
      cases c
    have Rl : ∀ {k g l bd env2 p target body orelse}, Room ((A2).over (.forLoop target (.ref It) body orelse env) [.ret k none g l (.func bd env2) p []]) (d + 4) := fun {k g l bd env2 p target body orelse} => Room.overLoop (d := d + 4) Rm2
    refine seg_forLoop (wpAny_pyNext_list_item (x := .ref x) J.it J.li (by simp [hxi]) fun h2 it2 sb2 => ?_)
    have kI : ∀ b o, b ≠ It → s'.heap.get? b = some o → h2.get? b = some o := fun b o hb e => (sb2.2 b hb).trans e
    have F2 : FS B L h2 [(nToks, .ref It)] := J.fs.move (Nat.ne_of_lt a2) C.ib kI
    refine go_quiet (s := { s' with heap := h2 }) ?_ ?_
    · obtain ⟨o, e, c, _⟩ := it2
      exact ⟨o, _, e, c, by decide⟩
    have T2 : TokP (LP M P0) h2 x r := hr0.to fun b o hb e => kI b o (Nat.ne_of_lt (Nat.lt_of_lt_of_le hb.1 a1)) e
    have X2 : St w B L ⟨[], []⟩ [(nToks, .adr It)] h2 := F2.st fun y pv e => by
      rw [List.lookup_cons] at e
      by_cases hy : y = nToks
      · subst hy
        rw [beq_self_eq_true] at e
        cases e
        exact ⟨_, by simp, .adr _⟩
      · rw [beq_eq_false_iff_ne.mpr hy] at e
        cases e
    refine wpAny_assign_Name (store hE (s := { s' with heap := h2 }) X2 (pv := .tok x r.kind r.text) rfl (T2.vr fun b hb => Nat.ne_of_lt (Nat.lt_of_lt_of_le hb.1 hML)) rfl rfl fun h3 t3 k3 X3 => ?_)
    have kL : ∀ b o, b ≠ L → h2.get? b = some o → h3.get? b = some o := fun b o hb e => k3.keep b o hb (by simp) (by simp) e
    have F3 : FS B L h3 [(nTok, .ref x), (nToks, .ref It)] := FS.of X3 fun p hp => by
      rcases List.mem_cons.mp hp with rfl | hp
      · exact ⟨_, List.lookup_cons_self, rfl, fun g v r => r.inv⟩
      · rcases List.mem_singleton.mp hp with rfl
        exact ⟨.adr It, rfl, rfl, fun g v r => r.inv⟩
    have T3 : TokP (LP M P0) h3 x r := T2.to fun b o hb e => kL b o (Nat.ne_of_lt (Nat.lt_of_lt_of_le hb.1 hML)) e
    have k03 : ∀ b o, b ≠ L → b ≠ It → s'.heap.get? b = some o → h3.get? b = some o := fun b o h1 h2 e => kL b o h1 (kI b o h2 e)
    intro H
    refine seg_execs_cons (seg_stmt ?_)
    refine ifVal (d := d + 4) (s := { s' with heap := h3, toks := t3 }) (b := decide (r.kind = kSTR)) (new := (r.text.drop 1).take (r.text.length - 1 - 1)) hE G Rl hP0 hML rfl rfl F3 T3
      (PT.cmp (PE.attrTyp lookSelf rfl rfl (by decide)) (PE.str (l := kSTR) (by simp [lit]; rfl)) CO.eqS rfl) (fun hb => ?_) fun h4 t4 F4 T4 k4 => ?_
    · have hb' : r.kind = kSTR := of_decide_eq_true hb
      obtain ⟨g1, _⟩ := hrc.str hb'
      have g3 := hrc.len
      exact PE.cutEnds (PE.attrVal lookSelf rfl rfl (by decide)) g1 (by omega)
    generalize hr1 : (if decide (r.kind = kSTR) = true then ({ r with text := (r.text.drop 1).take (r.text.length - 1 - 1) } : Row) else r) = r1 at T4
    have hkind : r1.kind = r.kind := by rw [← hr1]; split <;> rfl
    refine seg_execs_cons (seg_stmt ?_)
    refine ifVal (d := d + 4) (s := { s' with heap := h4, toks := t4 }) (b := decide (r1.kind ∈ [kSTR, kCHR])) (new := rd r1.text) hE G Rl hP0 hML rfl rfl F4 T4
      (PT.cmp (PE.attrTyp lookSelf rfl rfl (by decide)) (PE.listE (ps := [kSTR, kCHR].map .str) (PEs.cons (PE.str (l := kSTR) (by simp [lit]; rfl)) (PEs.cons (PE.str (l := kCHR) (by simp [lit]; rfl)) PEs.nil)) (by simp)) CO.inLs rfl) (fun hb => ?_) fun h5 t5 F5 T5 k5 => ?_
    · have hb' := of_decide_eq_true hb
      have hlen : r1.text.length ≤ 50000 := by
        have := hrc.len
        rw [← hr1]; split
        · show ((r.text.drop 1).take (r.text.length - 1 - 1)).length ≤ _
          rw [List.length_take, List.length_drop]; omega
        · exact this
      have hgood : good r1.text := by
        by_cases hs : r.kind = kSTR
        · rw [if_pos (decide_eq_true hs)] at hr1
          rw [← hr1]
          exact (hrc.str hs).2
        · rw [if_neg (by simpa using hs)] at hr1
          subst hr1
          refine hrc.chr ?_
          simpa [hs] using hb'
      exact PE.callF (replace_fn (by omega) hgood) rfl rfl rfl (by decide) (PEs.cons (PE.attrVal lookSelf rfl rfl (by decide)) PEs.nil)
    have hconv : (if decide (r1.kind ∈ [kSTR, kCHR]) = true then ({ r1 with text := rd r1.text } : Row) else r1) = r.conv := by
      unfold Row.conv
      by_cases hs : r.kind = kSTR
      · rw [if_pos (decide_eq_true hs)] at hr1
        rw [if_pos hs, if_pos (by rw [hkind, hs]; decide), ← hr1]
      · rw [if_neg (by simpa using hs)] at hr1
        subst hr1
        rw [if_neg hs]
        by_cases hc : r.kind = kCHR
        · rw [if_pos hc, if_pos (by rw [hc]; decide)]
        · rw [if_neg hc, if_neg (by simp [hs, hc])]
    rw [hconv] at T5
    obtain ⟨m, rfl⟩ : ∃ m, n = m + 1 := ⟨n - 1, by omega⟩
    refine seg_execs_cons (seg_Expr_Yield rfl rfl rfl (PE.name (d := d + 4) (pv := .tok x r.conv.kind r.conv.text) lookSelf rfl rfl rfl (by decide) env L _ B ⟨[], []⟩ { s' with heap := h5, toks := t5 } _ _ hE G Rl (tst hML F5 T5) fun v h6 t6 k6 r6 => ?_) (by rw [hE.sc]) (by unfold interactive; rw [hE.sc]; rfl))
    obtain rfl := r6.inv
    intro kap hk
    have k05 : ∀ b o, b ≠ L → b ≠ It → b ≠ x → s'.heap.get? b = some o → h6.get? b = some o := fun b o c1 c2 c3 e => k6 b o (k5 b o c3 (k4 b o c3 (k03 b o c1 c2 e)))
    have J6 : CJ M B P0 L It D xs rows (i + 1) h6 := by
      refine ⟨(F5.keeps fun b o _ e => k6 b o e).less (by simp), ?_, ?_, fun j z r' e1 e2 => ?_⟩
      · obtain ⟨o, e, c⟩ := it2
        exact ⟨o, k6 _ _ (k5 _ _ hxI.symm (k4 _ _ hxI.symm (kL _ _ (Nat.ne_of_lt a2) e))), c⟩
      · obtain ⟨o, e, c⟩ := J.li
        exact ⟨o, k05 _ _ (Nat.ne_of_lt (Nat.lt_of_lt_of_le a3 hML)) (Nat.ne_of_lt (Nat.lt_of_lt_of_le a3 a1)) hxD.symm e, c⟩
      · by_cases hji : j = i
        · subst hji
          rw [hxi] at e1
          cases e1
          rw [hri] at e2
          cases e2
          rw [if_pos (Nat.lt_succ_self _)]
          exact T5.to fun b o _ e => k6 b o e
        · have hzx : z ≠ x := fun h => by
            subst h
            exact hji ((List.getElem?_inj (List.getElem?_eq_some_iff.mp e1).1 C.nd).mp (e1.trans hxi.symm))
          have hT := (J.tk j z r' e1 e2).to (h' := h3) fun b o hb e => k03 b o (Nat.ne_of_lt (Nat.lt_of_lt_of_le hb.1 hML)) (Nat.ne_of_lt (Nat.lt_of_lt_of_le hb.1 a1)) e
          have hT' := hT.other (z := x) (h' := h6) (k03 _ _ hxL hxI ho1) ho2 ho3 hzx fun b o hb e => k6 _ _ (k5 b o hb (k4 b o hb e))
          by_cases hlt : j < i
          · rw [if_pos hlt] at hT'
            rw [if_pos (Nat.lt_succ_of_lt hlt)]
            exact hT'
          · rw [if_neg hlt] at hT'
            rw [if_neg (by omega)]
            exact hT'
    have e1 : rows.length - 1 - m = i := by omega
    have e2 : rows.length - m = i + 1 := by omega
    refine ⟨by omega, by rw [e1]; exact ⟨x, hxi, rfl⟩, by rw [e2]; exact J6, mv.trans ⟨fun b o hb e => ?_, rfl⟩, fun s'' hJ'' => hk .none s'' ?_⟩
    · simp only [List.mem_cons, not_or] at hb
      exact k05 b o hb.1 hb.2.1 (fun h => hb.2.2 (h ▸ List.mem_of_getElem? hxi)) e
    · rw [e2] at hJ''
      exact seg_execs_nil (seg_again rfl (ih m s'' s'' ⟨by omega, hJ'', Mv.refl⟩))
end
end
section
section
variable {w : World} {d : Nat}
theorem call_iter_list {A : Around} {s : Shared} {D : Addr} {items : Array Value} {Q E : Value → Shared → Prop} (hl : s.heap.IsList D items)
    (q : Q (.ref s.heap.objs.size) { s with heap := s.heap.push { cls := .type "list_iterator", data := .fields #[.ref D, .int 0 0] } }) : wpAny (model P w) A (call (.builtin "iter") [.ref D]) Q E s := by
  refine call_function_entry (by decide +kernel) (by decide +kernel) kdk_entry_iter (kdk_args_iter _) ?_
  unfold Builtin.«iter»
  refine wpAny_bind (m := someArgs "iter" 1 2 _) (wpAny_of_eq (a := [Value.ref D]) (by first | rfl | kernel_rfl!) ?_)
  show wpAny _ _ (pyIter (.ref D) >>= _) _ _ _
  refine wpAny_bind (wpAny_pyIter_list hl ?_)
  exact wpAny_pure ⟨_, rfl, q⟩

theorem itemsOf_vx {zs : List Addr} {acc : Array Value} (h : ItemsOf (Vx zs) acc zs.length) : acc = (zs.map Value.ref).toArray := by
  apply Array.ext'
  show acc.toList = zs.map Value.ref
  apply List.ext_getElem?
  intro i
  rw [List.getElem?_map, Array.getElem?_toList]
  by_cases hi : i < acc.size
  · have e := Array.getElem?_eq_getElem hi
    obtain ⟨x, e1, e2⟩ := h.2 i _ e
    rw [e, e1, e2]
    rfl
  · have h1 := h.1
    rw [Array.getElem?_eq_none (by omega), List.getElem?_eq_none (by omega)]
    rfl

theorem list_gen {A : Around} {s : Shared} {L g N : Nat} {zs : List Addr} {J : Nat → Heap → Prop} {Jf : Heap → Prop} {wr : List Addr} {gs : GenState} {Q E : Value → Shared → Prop} (Rm : Room A (d + 9)) (hlen : zs.length = N) (hN : N ≤ 1000)
    (hwr : ∀ b ∈ wr, b < L + 1) (hgen : s.heap.IsGen (L + 1) g) (hsz : s.heap.objs.size = L + 2) (hgs : s.gens[g]? = some gs) (hbb : BareBut g s.gens) (J0 : J 0 s.heap)
    (goes : ∀ (A2 : Around) (s2 : Shared), Room A2 (d + 6) → J 0 s2.heap → gs.Goes (model P w) A2 (Rp Jf wr) (Yp N (Vx zs) J wr) N (.send .none) s2)
    (hJ : ∀ i h h', J i h → (∀ b ∈ List.range (L + 2), ∀ o, h.get? b = some o → h'.get? b = some o) → J i h') (hlim : ∀ i h, J i h → h.NoLimit) (hF : ∀ h h', Jf h → Keep h h' → Jf h')
    (q : ∀ s' n, (∀ b o, b ∉ wr → s.heap.get? b = some o → s'.heap.get? b = some o) → s'.heap.get? (L + 2) = some { cls := .type "list", data := .seq (zs.map Value.ref).toArray n } → Jf s'.heap → s'.os = s.os → AllBare s'.gens → Q (.ref (L + 2)) s') :
    wpAny (model P w) A (call (.type "list") [.ref (L + 1)]) Q E s := by
  have W := gwalkOf (w := w) (A := A.in1.in1) (G := L + 1) (g := g) (N := N) (V := Vx zs) (J := J) (Jf := Jf) (fp := List.range (L + 2)) (wr := wr) (os0 := s.os) Rm.hh (by have := Rm.dep; show A.depth < _; omega)
    (fun b hb => List.mem_range.mpr (Nat.lt_succ_of_lt (hwr b hb))) (List.mem_range.mpr (Nat.lt_succ_self _)) (fun h => Nat.lt_irrefl _ (hwr _ h)) hJ hlim hF
  refine gw_list W ⟨hgen, J0, ⟨rfl, hbb⟩, gs, hgs, fun s2 h2 => goes _ s2 (((Rm.in1).in1).in1) h2⟩ (fun b hb => by rw [hsz]; exact List.mem_range.mp hb) (List.mem_range.mpr (Nat.lt_succ_self _)) (by rw [sizeLine_eq]; omega) fun s' acc c k e hi hf => ?_
  rw [hsz] at e ⊢
  subst hlen
  rw [itemsOf_vx hi] at e
  exact q s' c k e hf.1 hf.2.1 hf.2.2

theorem eval_listGen {sc : Scope} {env : Env} {L : Addr} {A : Around} {B : Heap} {own : Own} {m : Env'} {s : Shared} {F : Str} {e : Expr} {p1 p2 p3 p4 p5 p6 : Pos} {Q E : Value → Shared → Prop}
    (hE : EnvOk env sc L) (G : Gd w B) (X : St w B L own m s.heap) (hk : sc.kind = .function) (hl1 : sc.names.lookup (Str.ofString "list") = some .globalImplicit) (hl2 : sc.names.lookup F = some .globalImplicit) (hl3 : sc.names.lookup (Str.ofString "iter") = some .globalImplicit)
    (hd : (F == ("__debug__" : Str)) = false) (hdef : ((recsOf VW).find? (fun e => e.name == F)).isSome = true) (hst : notStar e = true)
    (h : ∀ a mg, B.Ns mainGlobals mg → mg F = some (.ref a) → wpAny (model P w) A (eval e env) (fun v s1 => wpAny (model P w) A (call (.builtin "iter") [v]) (fun v2 s2 => Keep B s2.heap ∧ wpAny (model P w) A (call (.ref a) [v2]) (fun v3 s3 => wpAny (model P w) A (call (.type "list") [v3]) Q E s3) E s2) E s1) E s) :
    wpAny (model P w) A (eval (.Call (.Name (Str.ofString "list") p1) [.Call (.Name F p2) [.Call (.Name (Str.ofString "iter") p3) [e] [] p4] [] p5] [] p6) env) Q E s := by
  obtain ⟨mean, mg, mb, T⟩ := G.top
  obtain ⟨a, o, fd, g1, g2, g3⟩ := find_isSome_fn hdef T
  refine wpAny_Call_NameR (nameB (v := .type "list") (by kernel_rfl) (by decide) nsList hE G X hk hl1 (by decide) ?_)
  refine PyProof.Rows.callWith_type1 ?_ (star_cons rfl)
  refine args_cons (wpAny_Call_NameR (Calls.Name_function_global (by rw [hE.sc]; exact hk) (by unfold Env.kindOf; rw [hE.sc]; exact hl2) (Calls.loadGlobal_global (by rw [hE.glob]; exact T.g.keeps X.base) g1 ?_) hd)) (star_cons rfl)
  refine callWith_def g3 ?_ (star_cons rfl)
  refine args_cons (wpAny_Call_NameR (nameB (v := .builtin "iter") (by kernel_rfl) (by decide) nsIter hE G X hk hl3 (by decide) ?_)) (star_cons rfl)
  refine PyProof.Rows.callWith_builtin1 ?_ (star_cons hst)
  refine args_cons (wkQ (h a mg T.g g1) fun v1 s1 h1 => ?_) (star_cons hst)
  refine args_nil (wkQ h1 fun v2 s2 h2 => ?_)
  refine args_nil ⟨h2.1 _ _ g2, wkQ h2.2 fun v3 s3 h3 => ?_⟩
  exact args_nil h3
end
end
section
section
variable {w : World} {A : Around} {d : Nat}
def Yk (N : Nat) (V : Nat → Value → Prop) (fp wr : List Addr) : Protocol := fun k s₀ v s' kap =>
  k < N ∧ V (N - 1 - k) v ∧ Mv wr s₀ s' ∧ ∃ K : Heap → Prop, K s'.heap ∧ (∀ h h', K h → (∀ b ∈ fp, ∀ o, h.get? b = some o → h'.get? b = some o) → K h') ∧ (∀ h, K h → h.NoLimit) ∧ ∀ s'', K s''.heap → kap (.send .none) s''
def GInvK (w : World) (A : Around) (G g : Nat) (N : Nat) (V : Nat → Value → Prop) (Jf : Heap → Prop) (fp wr : List Addr) (os0 : OsState) (i : Nat) (s : Shared) : Prop :=
  s.heap.IsGen G g ∧ (s.os = os0 ∧ BareBut g s.gens) ∧ ∃ (K : Heap → Prop) (gs : GenState), s.gens[g]? = some gs ∧ K s.heap ∧ (∀ h h', K h → (∀ b ∈ fp, ∀ o, h.get? b = some o → h'.get? b = some o) → K h') ∧ (∀ h, K h → h.NoLimit) ∧
    ∀ s2 : Shared, K s2.heap → gs.Goes (model P w) A.in1 (Rp Jf wr) (Yk N V fp wr) (N - i) (.send .none) s2

theorem gwalkK {G g N : Nat} {V : Nat → Value → Prop} {Jf : Heap → Prop} {fp wr : List Addr} {os0 : OsState} (hh : A.handled = none) (hroom : A.depth < recursionLimit)
    (hsub : ∀ b ∈ wr, b ∈ fp) (hG : G ∈ fp) (hGw : G ∉ wr) (hF : ∀ h h', Jf h → Keep h h' → Jf h') :
    GWalk w A G fp wr N V (GInvK w A G g N V Jf fp wr os0) (fun s => Jf s.heap ∧ s.os = os0 ∧ AllBare s.gens) where
  sub := hsub
  frame := fun i s h' ⟨a, ob, K, gs, c, b, e1, e2, e⟩ k => ⟨(let ⟨o, nm, qn, ho, r⟩ := a; ⟨o, nm, qn, k G hG o ho, r⟩), ob, K, gs, c, e1 _ _ b k, e1, e2, e⟩
  self := fun i s Q E ⟨a, _⟩ q => wpAny_pyIter_gen a q
  typ := fun i s ⟨a, _⟩ => a.typeIs
  item := fun i s Q E hi ⟨a, ob, K, gs, c, b, x1, x2, e⟩ q => by
    obtain ⟨m, hm⟩ : ∃ m, N - i = m + 1 := ⟨N - i - 1, by omega⟩
    have hg : g < s.gens.size := (Array.getElem?_eq_some_iff.mp c).1
    refine wpAny_pyNext_gen (n := N - i) (P := fun n s₀ s₁ => n = 0 ∧ Mv wr s₀ s₁ ∧ Jf s₁.heap) hh (x2 _ b) hroom a c (e _ b) (fun v s₁ gs' hY => ?_) (fun s₁ hP h' k => ?_)
    · rw [hm] at hY
      obtain ⟨h1, h2, h4, K', h3, y1, y2, h5⟩ := hY
      simp only [Nat.add_sub_cancel] at h2 h5
      have e1 : N - 1 - m = i := by omega
      rw [e1] at h2
      obtain ⟨hge, hoe⟩ := Prod.mk.inj h4.2
      refine q v _ h2 ⟨(let ⟨o, nm, qn, ho, r⟩ := a; ⟨o, nm, qn, h4.1 G o hGw ho, r⟩), ⟨hoe.trans ob.1, by show BareBut g (s₁.gens.setIfInBounds g gs'); rw [hge]; exact (ob.2.set _).set _⟩, K', gs', ?_, h3, y1, y2, fun s2 h => ?_⟩ fun b o hb ee => h4.1 b o hb ee
      · show (s₁.gens.set! g gs')[g]? = some gs'
        have : s₁.gens.size = s.gens.size := by rw [hge]; show (s.gens.set! g _).size = _; simp
        simp [this, hg]
      · have := h5 s2 h
        rw [show N - (i + 1) = m by omega]
        exact this
    · have := hP.1; omega
  done := fun s Q E ⟨a, ob, K, gs, c, b, x1, x2, e⟩ q => by
    have hg : g < s.gens.size := (Array.getElem?_eq_some_iff.mp c).1
    refine wpAny_pyNext_gen (n := N - N) (P := fun n s₀ s₁ => n = 0 ∧ Mv wr s₀ s₁ ∧ Jf s₁.heap) hh (x2 _ b) hroom a c (e _ b) (fun v s₁ gs' hY => ?_) (fun s₁ hP h' k => ?_)
    · obtain ⟨h1, h2, h4, K', h3, y1, y2, h5⟩ := hY
      have h6 := h5 s₁ h3
      rw [Nat.sub_self] at h6
      exact h6.elim
    · obtain ⟨hge, hoe⟩ := Prod.mk.inj hP.2.1.2
      refine q _ ⟨hF _ _ hP.2.2 k, hoe.trans ob.1, ?_⟩ fun b o hb ee => k b o (hP.2.1.1 b o hb ee)
      show AllBare (s₁.gens.setIfInBounds g .finished)
      rw [hge]
      exact (ob.2.set _).all

theorem list_genK {s : Shared} {L g N : Nat} {zs : List Addr} {K : Heap → Prop} {Jf : Heap → Prop} {wr : List Addr} {gs : GenState} {Q E : Value → Shared → Prop} (Rm : Room A (d + 9)) (hlen : zs.length = N) (hN : N ≤ 1000)
    (hwr : ∀ b ∈ wr, b < L + 1) (hgen : s.heap.IsGen (L + 1) g) (hsz : s.heap.objs.size = L + 2) (hgs : s.gens[g]? = some gs) (hbb : BareBut g s.gens) (J0 : K s.heap)
    (goes : ∀ (A2 : Around) (s2 : Shared), Room A2 (d + 6) → K s2.heap → gs.Goes (model P w) A2 (Rp Jf wr) (Yk N (Vx zs) (List.range (L + 2)) wr) N (.send .none) s2)
    (hJ : ∀ h h', K h → (∀ b ∈ List.range (L + 2), ∀ o, h.get? b = some o → h'.get? b = some o) → K h') (hlim : ∀ h, K h → h.NoLimit) (hF : ∀ h h', Jf h → Keep h h' → Jf h')
    (q : ∀ s' n, (∀ b o, b ∉ wr → s.heap.get? b = some o → s'.heap.get? b = some o) → s'.heap.get? (L + 2) = some { cls := .type "list", data := .seq (zs.map Value.ref).toArray n } → Jf s'.heap → s'.os = s.os → AllBare s'.gens → Q (.ref (L + 2)) s') :
    wpAny (model P w) A (call (.type "list") [.ref (L + 1)]) Q E s := by
  have W := gwalkK (w := w) (A := A.in1.in1) (G := L + 1) (g := g) (N := N) (V := Vx zs) (Jf := Jf) (fp := List.range (L + 2)) (wr := wr) (os0 := s.os) Rm.hh (by have := Rm.dep; show A.depth < _; omega)
    (fun b hb => List.mem_range.mpr (Nat.lt_succ_of_lt (hwr b hb))) (List.mem_range.mpr (Nat.lt_succ_self _)) (fun h => Nat.lt_irrefl _ (hwr _ h)) hF
  refine gw_list W ⟨hgen, ⟨rfl, hbb⟩, K, gs, hgs, J0, hJ, hlim, fun s2 h2 => goes _ s2 (((Rm.in1).in1).in1) h2⟩ (fun b hb => by rw [hsz]; exact List.mem_range.mp hb) (List.mem_range.mpr (Nat.lt_succ_self _)) (by rw [sizeLine_eq]; omega) fun s' acc c k e hi hf => ?_
  rw [hsz] at e ⊢
  subst hlen
  rw [itemsOf_vx hi] at e
  exact q s' c k e hf.1 hf.2.1 hf.2.2

theorem memLook {β : Type} {k : Str} {y : β} : ∀ {l : List (Str × β)}, l.lookup k = some y → (k, y) ∈ l
  | (a, b) :: l, h => by
    rw [List.lookup_cons] at h
    by_cases e : k = a
    · subst e; rw [beq_self_eq_true] at h; cases h; exact List.mem_cons_self ..
    · rw [beq_eq_false_iff_ne.mpr e] at h; exact List.mem_cons_of_mem _ (memLook h)
theorem FS.stL {B h : Heap} {L : Addr} (ml : List (Str × Value × PV)) (F : FS B L h (ml.map fun t => (t.1, t.2.1))) (hm : ∀ t ∈ ml, VR w (gOf h L ⟨[], []⟩) t.2.1 t.2.2) : St w B L ⟨[], []⟩ (ml.map fun t => (t.1, t.2.2)) h := by
  refine F.st fun y pv e => ?_
  have : (y, pv) ∈ ml.map fun t => (t.1, t.2.2) := memLook e
  obtain ⟨t, ht, e2⟩ := List.mem_map.mp this
  cases e2
  exact ⟨t.2.1, List.mem_map.mpr ⟨t, ht, rfl⟩, hm t ht⟩

structure KS (M : Nat) (B P0 : Heap) (L It D : Addr) (xs : List Addr) (l : List (Str × Value)) (i : Nat) (all : List (Addr × Row)) (h : Heap) : Prop where
  fs : FS B L h l
  it : h.IsListIter It D i
  li : h.IsList D (xs.map Value.ref).toArray
  tk : ∀ p ∈ all, TokP (LP M P0) h p.1 p.2
theorem KS.frame {M : Nat} {B P0 : Heap} {L It D : Addr} {xs : List Addr} {l : List (Str × Value)} {i : Nat} {all : List (Addr × Row)} (a1 : M ≤ It) (a2 : It < L) (a3 : D < M) (h h' : Heap) (x : KS M B P0 L It D xs l i all h) (k : ∀ b ∈ List.range (L + 2), ∀ o, h.get? b = some o → h'.get? b = some o) : KS M B P0 L It D xs l i all h' := by
  have kk : ∀ b o, b < L + 2 → h.get? b = some o → h'.get? b = some o := fun b o hb e => k b (List.mem_range.mpr hb) o e
  refine ⟨x.fs.keeps fun b o hb e => kk b o ?_ e, ?_, ?_, fun p hp => (x.tk p hp).to fun b o hb e => kk b o ?_ e⟩
  · rcases hb with rfl | hb
    · exact Nat.lt_add_of_pos_right (by decide)
    · exact Nat.lt_trans hb (Nat.lt_add_of_pos_right (by decide))
  · obtain ⟨o, e, r⟩ := x.it
    exact ⟨o, kk _ _ (Nat.lt_trans a2 (Nat.lt_add_of_pos_right (by decide))) e, r⟩
  · obtain ⟨o, e, r⟩ := x.li
    exact ⟨o, kk _ _ (Nat.lt_trans (Nat.lt_of_lt_of_le a3 (Nat.le_trans a1 (Nat.le_of_lt a2))) (Nat.lt_add_of_pos_right (by decide))) e, r⟩
  · exact Nat.lt_trans (Nat.lt_of_lt_of_le hb.1 (Nat.le_trans a1 (Nat.le_of_lt a2))) (Nat.lt_add_of_pos_right (by decide))
theorem KS.keep {M : Nat} {B P0 : Heap} {L It D : Addr} {xs : List Addr} {l : List (Str × Value)} {i : Nat} {all : List (Addr × Row)} {h h' : Heap} (x : KS M B P0 L It D xs l i all h) (k : Keep h h') : KS M B P0 L It D xs l i all h' :=
  ⟨x.fs.keeps fun b o _ e => k b o e, let ⟨o, e, r⟩ := x.it; ⟨o, k _ _ e, r⟩, let ⟨o, e, r⟩ := x.li; ⟨o, k _ _ e, r⟩, fun p hp => (x.tk p hp).to fun b o _ e => k b o e⟩
theorem KS.less {M : Nat} {B P0 : Heap} {L It D : Addr} {xs : List Addr} {l l' : List (Str × Value)} {i : Nat} {all all' : List (Addr × Row)} {h : Heap} (x : KS M B P0 L It D xs l i all h) (k : ∀ p ∈ l', p ∈ l) (k2 : ∀ p ∈ all', p ∈ all) : KS M B P0 L It D xs l' i all' h :=
  ⟨x.fs.less k, x.it, x.li, fun p hp => x.tk p (k2 p hp)⟩
theorem KS.local {M : Nat} {B P0 : Heap} {L It D : Addr} {xs : List Addr} {l l' : List (Str × Value)} {i : Nat} {all : List (Addr × Row)} {h h' : Heap} (a1 : M ≤ It) (a2 : It < L) (a3 : D < M) (x : KS M B P0 L It D xs l i all h) (f : FS B L h' l') (k : ∀ b o, b ≠ L → h.get? b = some o → h'.get? b = some o) : KS M B P0 L It D xs l' i all h' :=
  ⟨f, let ⟨o, e, r⟩ := x.it; ⟨o, k _ _ (Nat.ne_of_lt a2) e, r⟩, let ⟨o, e, r⟩ := x.li; ⟨o, k _ _ (Nat.ne_of_lt (Nat.lt_of_lt_of_le a3 (Nat.le_trans a1 (Nat.le_of_lt a2)))) e, r⟩,
    fun p hp => (x.tk p hp).to fun b o hb e => k b o (Nat.ne_of_lt (Nat.lt_of_lt_of_le hb.1 (Nat.le_trans a1 (Nat.le_of_lt a2)))) e⟩

variable {R : GenEnd} {fs : List Frame} {env : Env} {c : Code} {Kf : Flow → Sem PySem.Fin} {H : Value → Sem PySem.Fin} {gd : Bool → Bool} {lv : List Value → List Value} {sc : Scope}
theorem yieldTok {B : Heap} {L : Addr} {m : Env'} {x : Str} {np yp pos : Pos} {N k : Nat} {V : Nat → Value → Prop} {fp wr : List Addr} {s₀ s : Shared} {z : Addr} {kind text : List Nat} (Kp : Heap → Prop)
    (hE : EnvOk env sc L) (G : Gd w B) (Rm : Room (A.over c fs) d) (hk : sc.kind = .function) (hco : sc.isCoroutine = false) (hl : sc.names.lookup x = some .local) (hd : (x == ("__debug__" : Str)) = false)
    (hfs : splitAtGen fs = none) (hgd : gd false = false) (hfg : fs.any Frame.guarded = false) (X : St w B L ⟨[], []⟩ m s.heap) (hm : m.lookup x = some (.tok z kind text)) (mv : Mv wr s₀ s)
    (J : ∀ h', Keep s.heap h' → Kp h') (hKf : ∀ h h', Kp h → (∀ b ∈ fp, ∀ o, h.get? b = some o → h'.get? b = some o) → Kp h') (hKb : ∀ h, Kp h → Keep B h)
    (hV : k < N ∧ V (N - 1 - k) (.ref z)) (cont : ∀ s'', Kp s''.heap → Seg (model P w) A R (Yk N V fp wr) k s'' c (Kf .next) fs s'') :
    Seg (model P w) A R (Yk N V fp wr) (k + 1) s₀ c ((exec (.Expr (.Yield (some (.Name x np)) yp) pos) env).wrap Kf H gd lv) fs s := by
  refine seg_Expr_Yield hfs hgd hfg (PE.name (d := d) (pv := .tok z kind text) hm rfl hl hk hd env L _ B ⟨[], []⟩ s _ _ hE G Rm X fun v h6 t6 k6 r6 => ?_) (by rw [hE.sc]; exact hco) (by unfold interactive; rw [hE.sc, hk]; rfl)
  obtain rfl := r6.inv
  intro kap hkap
  refine ⟨hV.1, hV.2, mv.trans ⟨fun b o _ e => k6 b o e, rfl⟩, Kp, J h6 k6, hKf, fun h x => ?_, fun s'' hs => hkap .none s'' (cont s'' hs)⟩
  obtain ⟨_, _, _, T⟩ := (G.keep (hKb h x)).top
  exact T.nolimit
end
section
def Row.plus (q : Row) (t : List Nat) : Row := { q with text := q.text ++ t }
def cc : Option (Addr × Row) → List (Addr × Row) → List (Addr × Row)
  | none, [] => []
  | some p, [] => [p]
  | none, p :: l => if p.2.kind = kSTR then cc (some p) l else p :: cc none l
  | some q, p :: l => if p.2.kind = kSTR then cc (some (q.1, q.2.plus p.2.text)) l else q :: p :: cc none l
def ol (o : Option (Addr × Row)) : Nat := match o with | none => 0 | some _ => 1
theorem cc_len : ∀ (l : List (Addr × Row)) (o : Option (Addr × Row)), (cc o l).length ≤ l.length + ol o
  | [], none => by simp [cc]
  | [], some p => by simp [cc, ol]
  | p :: l, none => by
    unfold cc
    split
    · have : _ ≤ l.length + 1 := cc_len l (some p)
      show _ ≤ l.length + 1 + 0
      omega
    · have : _ ≤ l.length + 0 := cc_len l none
      show (cc none l).length + 1 ≤ l.length + 1 + 0
      omega
  | p :: l, some q => by
    unfold cc
    split
    · have : _ ≤ l.length + 1 := cc_len l (some (q.1, q.2.plus p.2.text))
      show _ ≤ l.length + 1 + 1
      omega
    · have : _ ≤ l.length + 0 := cc_len l none
      show (cc none l).length + 1 + 1 ≤ l.length + 1 + 1
      omega
end
end
section
section
variable {w : World} {d : Nat}
abbrev nSt : Str := Str.ofString "string_token"
def opv (o : Option (Addr × Row)) : PV := match o with | none => .none | some p => .tok p.1 p.2.kind p.2.text
def ov (o : Option (Addr × Row)) : Value := match o with | none => .none | some p => .ref p.1
def tlen (ps : List (Addr × Row)) : Nat := (ps.map fun p => p.2.text.length).sum

theorem setName {sc : Scope} {env : Env} {L : Addr} {A : Around} {B : Heap} {s : Shared} {m : Env'} {x : Str} {xp pos : Pos} {e : Expr} {pv : PV} {Q : Flow → Shared → Prop} {E : Value → Shared → Prop}
    (hE : EnvOk env sc L) (G : Gd w B) (Rm : Room A d) (hk : sc.kind = .function) (hl : sc.names.lookup x = some .local) (X : St w B L ⟨[], []⟩ m s.heap) (he : PE w d sc e m pv) (hp : pv.isAcc = false)
    (q : ∀ h' tk, (∀ b o, b ≠ L → s.heap.get? b = some o → h'.get? b = some o) → St w B L ⟨[], []⟩ ((x, pv) :: m) h' → Q .next { s with heap := h', toks := tk })
    (hs : ∀ env, swapsWith e (some (.Name x xp)) pos.line env = pure false := by intro _; rfl) : wpAny (model P w) A (exec (.Assign [.Name x xp] e pos) env) Q E s := by
  refine wpAny_Assign_Name (he env L A B ⟨[], []⟩ s _ E hE G Rm X fun v h1 t1 k1 r1 => ?_) (hs _)
  refine store hE (s := { s with heap := h1, toks := t1 }) (X.keep k1) hp r1 hk hl fun h2 t2 k2 X2 => ?_
  exact q h2 t2 (fun b o hb e => k2.keep b o hb (by simp) (by simp) (k1 _ _ e)) X2

structure QJ (M : Nat) (B P0 : Heap) (L It D : Addr) (xs : List Addr) (ps : List (Addr × Row)) (i : Nat) (out : List (Addr × Row)) (pend : Option (Addr × Row)) (h : Heap) : Prop where
  ks : KS M B P0 L It D xs [(nToks, .ref It), (nSt, ov pend)] i (out ++ pend.toList ++ ps.drop i) h
  eq : out ++ cc pend (ps.drop i) = cc none ps
  nd : ((out ++ pend.toList ++ ps.drop i).map Prod.fst).Nodup
  tl : tlen pend.toList + tlen (ps.drop i) ≤ 100000
  inx : ∀ p ∈ out ++ pend.toList ++ ps.drop i, p.1 ∈ xs
theorem QJ.mk' {M : Nat} {B P0 : Heap} {L It D : Addr} {xs : List Addr} {ps : List (Addr × Row)} {i : Nat} {out : List (Addr × Row)} {pend : Option (Addr × Row)} {h : Heap} {l2 : List (Addr × Row)} (e : ps.drop i = l2)
    (ks : KS M B P0 L It D xs [(nToks, .ref It), (nSt, ov pend)] i (out ++ pend.toList ++ l2) h) (eq : out ++ cc pend l2 = cc none ps) (nd : ((out ++ pend.toList ++ l2).map Prod.fst).Nodup) (tl : tlen pend.toList + tlen l2 ≤ 100000) (inx : ∀ p ∈ out ++ pend.toList ++ l2, p.1 ∈ xs) :
    QJ M B P0 L It D xs ps i out pend h ∧ ps.drop i = l2 := by
  subst e
  exact ⟨⟨ks, eq, nd, tl, inx⟩, rfl⟩

theorem vxAt {out rest all : List (Addr × Row)} {p : Addr × Row} {k : Nat} (e : out ++ p :: rest = all) (hk : k = rest.length) : k < all.length ∧ Vx (all.map Prod.fst) (all.length - 1 - k) (.ref p.1) := by
  subst e
  subst hk
  refine ⟨by simp; omega, p.1, ?_, rfl⟩
  rw [List.getElem?_map, show (out ++ p :: rest).length - 1 - rest.length = out.length by simp, List.getElem?_append_right (Nat.le_refl _), Nat.sub_self]
  rfl

theorem opv_vr {M : Nat} {P0 h : Heap} {L : Addr} {pend : Option (Addr × Row)} (hML : M ≤ L) (ht : ∀ p ∈ pend.toList, TokP (LP M P0) h p.1 p.2) : VR w (gOf h L ⟨[], []⟩) (ov pend) (opv pend) := by
  cases pend with
  | none => exact .none
  | some p => exact (ht p (by simp)).vr fun b hb => Nat.ne_of_lt (Nat.lt_of_lt_of_le hb.1 hML)

theorem concat_gen {A : Around} {s : Shared} {a : Addr} {B P0 : Heap} {L M It D : Nat} {xs : List Addr} {ps : List (Addr × Row)} {Q E : Value → Shared → Prop} (hLe : s.heap.objs.size = L) (hxs : xs = ps.map Prod.fst) (hsum : tlen ps ≤ 100000)
    (G : Gd w B) (hP0 : ∀ b, P0.get? b = none → B.get? b = none) (kB : Keep B s.heap) (Rm : Room A (d + 1)) (hg : ∃ mg, s.heap.Ns mainGlobals mg ∧ mg (Str.ofString "string_concat") = some (.ref a))
    (a1 : M ≤ It) (a2 : It < L) (a3 : D < M) (ib : B.get? It = none) (hnd : xs.Nodup) (hsz : B.objs.size ≤ L) (hit : s.heap.IsListIter It D 0) (hli : s.heap.IsList D (xs.map Value.ref).toArray) (htk : ∀ p ∈ ps, TokP (LP M P0) s.heap p.1 p.2)
    (q : ∀ h' tk gs, Keep s.heap h' → KS M B P0 L It D xs [(nToks, .ref It)] 0 ps h' → h'.objs.size = L + 2 → h'.IsGen (L + 1) s.gens.size →
      (∀ (A2 : Around) (s2 : Shared), Room A2 (d + 6) → KS M B P0 L It D xs [(nToks, .ref It)] 0 ps s2.heap →
        gs.Goes (model P w) A2 (Rp (fun h => ∀ p ∈ cc none ps, TokP (LP M P0) h p.1 p.2) (L :: It :: xs)) (Yk (cc none ps).length (Vx ((cc none ps).map Prod.fst)) (List.range (L + 2)) (L :: It :: xs)) (cc none ps).length (.send .none) s2) →
      Q (.ref (L + 1)) { s with heap := h', gens := s.gens.push gs, toks := tk }) : wpAny (model P w) A (call (.ref a) [.ref It]) Q E s := by
  refine genCall (d := d) (args := [.adr It]) (names := [nToks]) rfl (fun pm cd doc vs hvs => match vs, hvs with | [a], _ => rfl) (by decide) rfl (G.keep kB) Rm hg (fun env h' tk hE k hns hs2 hgen => ?_) rfl rfl rfl (by decide)
  rw [hLe] at hE hns hs2 hgen ⊢
  have hML : M ≤ L := Nat.le_trans a1 (Nat.le_of_lt a2)
  have hfs : FS B L h' [(nToks, .ref It)] := ⟨_, ⟨hns, fun b o e => k b o (kB b o e), hsz⟩, fun p hp => by
    rcases List.mem_singleton.mp hp with rfl
    rfl⟩
  refine q h' tk _ k ⟨hfs, let ⟨o, e, r⟩ := hit; ⟨o, k _ _ e, r⟩, let ⟨o, e, r⟩ := hli; ⟨o, k _ _ e, r⟩, fun p hp => (htk p hp).to fun b o _ e => k b o e⟩ hs2 hgen fun A2 s2 Rm2 hJ => ⟨rfl, ?_⟩
  have X0 : St w B L ⟨[], []⟩ [(nToks, .adr It)] s2.heap := FS.stL [(nToks, .ref It, .adr It)] hJ.fs (by simp; exact .adr _)
  have Rf : ∀ {bd}, Room (A2.over (.func bd env) []) (d + 5) := Room.overFunc (d := d + 5) Rm2 _ _
  have Rl : ∀ {k g l bd env2 p target body orelse}, Room ((A2).over (.forLoop target (.ref It) body orelse env) [.ret k none g l (.func bd env2) p []]) (d + 4) := fun {k g l bd env2 p target body orelse} => Room.overLoop (d := d + 4) Rm2
  refine seg_func (seg_execs_cons (seg_stmt (setName (d := d + 5) hE G Rf rfl rfl X0 PE.none rfl fun h1 t1 k1 X1 => ?_)))
  have J1 : KS M B P0 L It D xs [(nToks, .ref It), (nSt, .none)] 0 ps h1 := hJ.local a1 a2 a3 (FS.of X1 fun p hp => by
      rcases List.mem_cons.mp hp with rfl | hp
      · exact ⟨.adr It, rfl, rfl, fun g v r => r.inv⟩
      · rcases List.mem_singleton.mp hp with rfl
        exact ⟨.none, rfl, rfl, fun g v r => r.inv⟩) k1
  refine seg_execs_cons (seg_For (fun _ => rfl) ?_)
  refine PE.name (d := d + 5) (pv := .adr It) rfl rfl rfl rfl (by decide) env L _ B ⟨[], []⟩ _ _ _ hE G Rf X1 fun v h2 t2 k2 r2 => ?_
  obtain rfl := r2.inv
  have J2 := J1.keep k2
  refine wpAny_pyIter_listiter (s := { s2 with heap := h2, toks := t2 }) J2.it ?_
  intro p l
  have mv2 : Mv (L :: It :: xs) s2 { s2 with heap := h2, toks := t2 } := ⟨fun b o hb e => k2 _ _ (k1 b o (fun h => hb (h ▸ List.mem_cons_self)) e), rfl⟩
  refine genFor (N := ps.length) (I := fun i n s₀ s' => ∃ out pend, QJ M B P0 L It D xs ps i out pend s'.heap ∧ n = (cc pend (ps.drop i)).length ∧ Mv (L :: It :: xs) s₀ s') ?turn ?fin 0 _ _ _ (Nat.zero_le _)
    ⟨[], none, ⟨J2, rfl, by rw [hxs] at hnd; exact hnd, by show 0 + tlen ps ≤ _; omega, fun p hp => hxs ▸ List.mem_map.mpr ⟨p, hp, rfl⟩⟩, rfl, mv2⟩
  case fin =>
    rintro n s₀ s' ⟨out, pend, J, hn, mv⟩
    have e0 : ps.drop ps.length = [] := List.drop_length
    have Jk := J.ks
    have Je := J.eq
    rw [e0] at Jk Je hn
    refine seg_forLoop (wpAny_pyNext_list_end (Rl).hh Jk.it Jk.li (by rw [hxs]; simp) fun h3 ext => ?_)
    have kI : ∀ b o, b ≠ It → s'.heap.get? b = some o → h3.get? b = some o := fun b o hb e => ext b o hb e
    have F3 : FS B L h3 [(nToks, .ref It), (nSt, ov pend)] := Jk.fs.move (Nat.ne_of_lt a2) ib kI
    have T3 : ∀ p ∈ out ++ pend.toList ++ [], TokP (LP M P0) h3 p.1 p.2 := fun p hp => (Jk.tk p hp).to fun b o hb e => kI b o (Nat.ne_of_lt (Nat.lt_of_lt_of_le hb.1 a1)) e
    have mv3 : Mv (L :: It :: xs) s₀ { s' with heap := h3 } := mv.trans ⟨fun b o hb e => kI b o (fun h => hb (h ▸ by simp)) e, rfl⟩
    refine seg_blockNil (seg_execs_cons (seg_If ?_))
    have X3 : St w B L ⟨[], []⟩ [(nToks, .adr It), (nSt, opv pend)] h3 := FS.stL [(nToks, .ref It, .adr It), (nSt, ov pend, opv pend)] F3 (fun t ht => by
      rcases List.mem_cons.mp ht with rfl | ht
      · exact .adr _
      · rcases List.mem_singleton.mp ht with rfl
        exact opv_vr hML fun p hp => T3 p (by simp at hp ⊢; exact .inr hp))
    have hfin : ∀ (n' : Nat) (s₀' s'' : Shared) (all : List (Addr × Row)), n' = 0 → cc none ps = all → Mv (L :: It :: xs) s₀' s'' → (∀ p ∈ all, TokP (LP M P0) s''.heap p.1 p.2) → Rp (fun h => ∀ p ∈ cc none ps, TokP (LP M P0) h p.1 p.2) (L :: It :: xs) n' s₀' (.ok (.ret .none)) s'' :=
      fun n' s₀' s'' all e1 e2 m t => ⟨rfl, e1, m, fun p hp => t p (e2 ▸ hp)⟩
    cases pend with
    | none =>
      have h0 : n = 0 := hn
      subst h0
      refine PT.noneFalse (d := d + 5) (x := nSt) (m := [(nToks, .adr It), (nSt, .none)]) rfl rfl rfl (by decide) env L _ B ⟨[], []⟩ { s' with heap := h3 } _ _ hE G Rf X3 fun h4 t4 k4 => ?_
      exact seg_execs_nil (seg_execs_nil (seg_funcEnd (env := env) (hfin _ _ _ out rfl (Je.symm.trans (List.append_nil _)) (mv3.trans ⟨fun b o _ e => k4 b o e, rfl⟩) fun p hp => (T3 p (by simp [hp])).to fun b o _ e => k4 b o e)))
    | some y =>
      have h0 : n = 0 + 1 := hn
      subst h0
      refine PT.tokTrue (d := d + 5) (x := nSt) (m := [(nToks, .adr It), (nSt, opv (some y))]) (a := y.1) (kind := y.2.kind) (text := y.2.text) rfl rfl rfl (by decide) env L _ B ⟨[], []⟩ { s' with heap := h3 } _ _ hE G Rf X3 fun h4 t4 k4 => ?_
      rw [if_pos rfl]
      have T4 : ∀ p ∈ out ++ [y], TokP (LP M P0) h4 p.1 p.2 := fun p hp => (T3 p (by simpa using hp)).to fun b o _ e => k4 b o e
      refine seg_execs_cons (yieldTok (d := d + 5) (fun h => Keep B h ∧ ∀ p ∈ out ++ [y], TokP (LP M P0) h p.1 p.2) hE G Rf rfl rfl rfl (by decide) rfl rfl rfl (X3.keep k4) (x := nSt) (z := y.1) (kind := y.2.kind) (text := y.2.text) rfl (mv3.trans ⟨fun b o _ e => k4 b o e, rfl⟩)
        (fun h5 k5 => ⟨(F3.base.trans k4).trans k5, fun p hp => (T4 p hp).to fun b o _ e => k5 b o e⟩) (fun h h' x k => ⟨fun b o e => k b (List.mem_range.mpr ?_) o (x.1 b o e), fun p hp => (x.2 p hp).to fun b o hb e => k b (List.mem_range.mpr ?_) o e⟩) (fun h x => x.1) (vxAt Je rfl) fun s'' x => ?_)
      · exact Nat.lt_trans (Nat.lt_of_lt_of_le (Heap.lt_size e) hsz) (Nat.lt_add_of_pos_right (by decide))
      · exact Nat.lt_trans (Nat.lt_of_lt_of_le hb.1 hML) (Nat.lt_add_of_pos_right (by decide))
      · exact seg_execs_nil (seg_execs_nil (seg_funcEnd (env := env) (hfin _ _ _ (out ++ [y]) rfl Je.symm Mv.refl x.2)))
  case turn =>
    rintro i n s₀ s' hi ⟨out, pend, J, hn, mv⟩ ih
    have hdrop : ps.drop i = ps[i] :: ps.drop (i + 1) := List.drop_eq_getElem_cons hi
    have hxi : xs[i]? = some ps[i].1 := by rw [hxs, List.getElem?_map, List.getElem?_eq_getElem hi]; rfl
    generalize ps[i] = c at hdrop hxi
    obtain ⟨x, r⟩ := c
    have Jk := J.ks
    have Je := J.eq
    have Jn := J.nd
    have Jt := J.tl
    have Jx := J.inx
    rw [hdrop] at Jk Je Jn Jt Jx hn
    generalize hl2 : ps.drop (i + 1) = l2 at hdrop Jk Je Jn Jt Jx hn
    have again : ∀ (n' : Nat) (s₀' s'' : Shared) (out' : List (Addr × Row)) (pend' : Option (Addr × Row)), KS M B P0 L It D xs [(nToks, .ref It), (nSt, ov pend')] (i + 1) (out' ++ pend'.toList ++ l2) s''.heap → out' ++ cc pend' l2 = cc none ps → ((out' ++ pend'.toList ++ l2).map Prod.fst).Nodup → tlen pend'.toList + tlen l2 ≤ 100000 → (∀ p ∈ out' ++ pend'.toList ++ l2, p.1 ∈ xs) →
        n' = (cc pend' l2).length → Mv (L :: It :: xs) s₀' s'' → _ := fun n' s₀' s'' out' pend' k1 k2 k3 k4 k5 k6 k7 =>
      ih n' s₀' s'' ⟨out', pend', (QJ.mk' hl2 k1 k2 k3 k4 k5).1, by rw [k6, hl2], k7⟩
    have hr0 : TokP (LP M P0) s'.heap x r := Jk.tk (x, r) (by simp)
    obtain ⟨ox, ho1, ho2, ho3, hpx⟩ := hr0.obj
    refine seg_forLoop (wpAny_pyNext_list_item (x := .ref x) Jk.it Jk.li (by simp [hxi]) fun h2 it2 sb2 => ?_)
    have kI : ∀ b o, b ≠ It → s'.heap.get? b = some o → h2.get? b = some o := fun b o hb e => (sb2.2 b hb).trans e
    have K2 : KS M B P0 L It D xs [(nToks, .ref It), (nSt, ov pend)] (i + 1) (out ++ pend.toList ++ (x, r) :: l2) h2 :=
      ⟨Jk.fs.move (Nat.ne_of_lt a2) ib kI, it2, let ⟨o, e, z⟩ := Jk.li; ⟨o, kI _ _ (Nat.ne_of_lt (Nat.lt_of_lt_of_le a3 a1)) e, z⟩, fun p hp => (Jk.tk p hp).to fun b o hb e => kI b o (Nat.ne_of_lt (Nat.lt_of_lt_of_le hb.1 a1)) e⟩
    refine go_quiet (s := { s' with heap := h2 }) ?_ ?_
    · obtain ⟨o, e, c, _⟩ := it2
      exact ⟨o, _, e, c, by decide⟩
    have stOf : ∀ (h : Heap) (all : List (Addr × Row)), FS B L h [(nTok, .ref x), (nToks, .ref It), (nSt, ov pend)] → TokP (LP M P0) h x r → (∀ p ∈ pend.toList, TokP (LP M P0) h p.1 p.2) → St w B L ⟨[], []⟩ [(nTok, .tok x r.kind r.text), (nToks, .adr It), (nSt, opv pend)] h :=
      fun h all F T Tp => FS.stL [(nTok, .ref x, .tok x r.kind r.text), (nToks, .ref It, .adr It), (nSt, ov pend, opv pend)] F (fun t ht => by
        rcases List.mem_cons.mp ht with rfl | ht
        · exact T.vr fun b hb => Nat.ne_of_lt (Nat.lt_of_lt_of_le hb.1 hML)
        rcases List.mem_cons.mp ht with rfl | ht
        · exact .adr _
        · rcases List.mem_singleton.mp ht with rfl
          exact opv_vr hML Tp)
    have X2 : St w B L ⟨[], []⟩ [(nToks, .adr It), (nSt, opv pend)] h2 := FS.stL [(nToks, .ref It, .adr It), (nSt, ov pend, opv pend)] K2.fs (fun t ht => by
      rcases List.mem_cons.mp ht with rfl | ht
      · exact .adr _
      · rcases List.mem_singleton.mp ht with rfl
        exact opv_vr hML fun p hp => K2.tk p (by simp at hp ⊢; exact .inr (.inl hp)))
    refine wpAny_assign_Name (store hE (s := { s' with heap := h2 }) X2 (pv := .tok x r.kind r.text) rfl ((K2.tk (x, r) (by simp)).vr fun b hb => Nat.ne_of_lt (Nat.lt_of_lt_of_le hb.1 hML)) rfl rfl fun h3 t3 k3 X3 => ?_)
    have kL : ∀ b o, b ≠ L → h2.get? b = some o → h3.get? b = some o := fun b o hb e => k3.keep b o hb (by simp) (by simp) e
    have K3 : KS M B P0 L It D xs [(nTok, .ref x), (nToks, .ref It), (nSt, ov pend)] (i + 1) (out ++ pend.toList ++ (x, r) :: l2) h3 := K2.local a1 a2 a3 (FS.of X3 fun p hp => by
      rcases List.mem_cons.mp hp with rfl | hp
      · exact ⟨_, List.lookup_cons_self, rfl, fun g v r => r.inv⟩
      rcases List.mem_cons.mp hp with rfl | hp
      · exact ⟨.adr It, rfl, rfl, fun g v r => r.inv⟩
      · rcases List.mem_singleton.mp hp with rfl
        refine ⟨opv pend, rfl, ?_, fun g v r => ?_⟩
        · cases pend <;> rfl
        · cases pend <;> exact r.inv) kL
    have mv3 : Mv (L :: It :: xs) s₀ { s' with heap := h3, toks := t3 } := mv.trans ⟨fun b o hb e => kL b o (fun h => hb (h ▸ List.mem_cons_self)) (kI b o (fun h => hb (h ▸ by simp)) e), rfl⟩
    intro H
    refine seg_execs_cons (seg_If ?_)
    refine PT.cmp (d := d + 4) (m := [(nTok, .tok x r.kind r.text), (nToks, .adr It), (nSt, opv pend)]) (c := decide (r.kind = kSTR)) (PE.attrTyp lookSelf rfl rfl (by decide)) (PE.str (l := kSTR) (by simp [lit]; rfl)) CO.eqS rfl env L _ B ⟨[], []⟩ { s' with heap := h3, toks := t3 } _ _ hE G Rl
      X3 fun h4 t4 k4 => ?_
    have K4 := K3.keep k4
    have X4 := X3.keep k4
    have mv4 : Mv (L :: It :: xs) s₀ { s' with heap := h4, toks := t4 } := mv3.trans ⟨fun b o _ e => k4 b o e, rfl⟩
    by_cases hs : r.kind = kSTR
    · rw [if_pos (decide_eq_true hs)]
      cases pend with
      | some y =>
        obtain ⟨y, t⟩ := y
        refine seg_execs_cons (seg_If ?_)
        refine PT.tokTrue (d := d + 4) (x := nSt) (a := y) (kind := t.kind) (text := t.text) rfl rfl rfl (by decide) env L _ B ⟨[], []⟩ { s' with heap := h4, toks := t4 } _ _ hE G Rl X4 fun h5 t5 k5 => ?_
        rw [if_pos rfl]
        have K5 := K4.keep k5
        have hyt : TokP (LP M P0) h5 y t := K5.tk (y, t) (by simp)
        have hJt : t.text.length + (r.text.length + tlen l2) ≤ 100000 := by
          have e1 : tlen (some (y, t)).toList = t.text.length + 0 := rfl
          have e2 : tlen ((x, r) :: l2) = r.text.length + tlen l2 := rfl
          rw [e1, e2] at Jt
          omega
        refine seg_execs_cons (seg_stmt (valStep (d := d + 4) (s := { s' with heap := h5, toks := t5 }) (x := nSt) (a := y) (kind := t.kind) (text := t.text) (r := t) (p := LP M P0) (new := t.text ++ r.text) hE G Rl (X4.keep k5) rfl rfl rfl (by decide)
          (PE.cat (PE.attrVal (kind := t.kind) (a := y) rfl rfl rfl (by decide)) (PE.attrVal (kind := r.kind) (a := x) rfl rfl rfl (by decide)) (by rw [sizeLine_eq, List.length_append]; omega)) hyt fun h6 h7 t7 k6 sb T7 => ?_))
        obtain ⟨oy, oy1, oy2, oy3, hpy⟩ := hyt.obj
        have kY : ∀ b o, b ≠ y → h5.get? b = some o → h7.get? b = some o := fun b o hb e => (sb.2 b hb).trans (k6 _ _ e)
        refine seg_execs_nil (seg_execs_nil (seg_execs_nil (seg_again rfl (again n s₀ _ out (some (y, t.plus r.text)) ⟨?_, ?_, ?_, ?_⟩ ?_ ?_ ?_ ?_ ?_ (mv4.trans ⟨fun b o hb e => kY b o ?_ (k5 _ _ e), rfl⟩)))))
        · exact (K5.fs.move (Nat.ne_of_lt (Nat.lt_of_lt_of_le hpy.1 hML)) (hP0 _ hpy.2) kY).less fun p hp => List.mem_cons_of_mem _ hp
        · obtain ⟨o, e, z⟩ := K5.it
          exact ⟨o, kY _ _ (Nat.ne_of_gt (Nat.lt_of_lt_of_le hpy.1 a1)) e, z⟩
        · obtain ⟨o, e, c, z⟩ := K5.li
          refine ⟨o, kY _ _ (fun h => ?_) e, c, z⟩
          rw [h, oy1] at e
          cases e
          rw [oy2] at c
          cases c
        · intro p hp
          have hp' : p ∈ out ∨ p = (y, t.plus r.text) ∨ p ∈ l2 := by simpa [or_assoc] using hp
          have hnd : ∀ p : Addr × Row, p ∈ out ∨ p ∈ l2 → p.1 ≠ y := by
            intro p hp h
            have Jn2 : (out.map Prod.fst ++ y :: x :: l2.map Prod.fst).Nodup := by simpa using Jn
            rw [List.nodup_append] at Jn2
            rcases hp with hp | hp
            · exact Jn2.2.2 _ (List.mem_map.mpr ⟨p, hp, rfl⟩) _ (List.mem_cons_self) h
            · exact (List.nodup_cons.mp Jn2.2.1).1 (h ▸ List.mem_cons_of_mem _ (List.mem_map.mpr ⟨p, hp, rfl⟩))
          rcases hp' with hp' | rfl | hp'
          · exact (K5.tk p (by simp [hp'])).other oy1 oy2 oy3 (hnd p (.inl hp')) kY
          · exact T7
          · exact (K5.tk p (by simp [hp'])).other oy1 oy2 oy3 (hnd p (.inr hp')) kY
        · rw [← Je]
          show _ = out ++ (if r.kind = kSTR then cc (some (y, t.plus r.text)) l2 else _)
          rw [if_pos hs]
        · have Jn2 : (out.map Prod.fst ++ y :: x :: l2.map Prod.fst).Nodup := by simpa using Jn
          have : (out.map Prod.fst ++ y :: l2.map Prod.fst).Nodup := Jn2.sublist (List.Sublist.append (List.Sublist.refl _) (List.Sublist.cons_cons _ (List.sublist_cons_self ..)))
          simpa using this
        · show (t.text ++ r.text).length + 0 + tlen l2 ≤ _
          rw [List.length_append]; omega
        · intro p hp
          have hp' : p ∈ out ∨ p = (y, t.plus r.text) ∨ p ∈ l2 := by simpa [or_assoc] using hp
          rcases hp' with hp' | rfl | hp'
          · exact Jx p (by simp [hp'])
          · exact Jx (y, t) (by simp)
          · exact Jx p (by simp [hp'])
        · rw [hn]
          show (if r.kind = kSTR then cc (some (y, t.plus r.text)) l2 else _).length = _
          rw [if_pos hs]
        · rintro rfl
          exact hb (List.mem_cons_of_mem _ (List.mem_cons_of_mem _ (Jx (b, t) (by simp))))
      | none =>
        refine seg_execs_cons (seg_If ?_)
        refine PT.noneFalse (d := d + 4) (x := nSt) rfl rfl rfl (by decide) env L _ B ⟨[], []⟩ { s' with heap := h4, toks := t4 } _ _ hE G Rl X4 fun h5 t5 k5 => ?_
        rw [if_neg Bool.false_ne_true]
        have K5 := K4.keep k5
        refine seg_execs_cons (seg_stmt (setName (d := d + 4) (s := { s' with heap := h5, toks := t5 }) hE G Rl rfl rfl (X4.keep k5) (PE.name (pv := .tok x r.kind r.text) lookSelf rfl rfl rfl (by decide)) rfl fun h6 t6 k6 X6 => ?_))
        have K6 : KS M B P0 L It D xs [(nToks, .ref It), (nSt, .ref x)] (i + 1) (out ++ (none : Option (Addr × Row)).toList ++ (x, r) :: l2) h6 := K5.local a1 a2 a3 (FS.of X6 fun p hp => by
          rcases List.mem_cons.mp hp with rfl | hp
          · exact ⟨.adr It, rfl, rfl, fun g v r => r.inv⟩
          · rcases List.mem_singleton.mp hp with rfl
            exact ⟨_, lookSelf, rfl, fun g v r => r.inv⟩) k6
        refine seg_execs_nil (seg_execs_nil (seg_execs_nil (seg_again rfl (again n s₀ _ out (some (x, r)) (K6.less (fun p hp => hp) ?_) ?_ ?_ ?_ ?_ ?_ (mv4.trans ⟨fun b o hb e => k6 b o (fun h => hb (h ▸ List.mem_cons_self)) (k5 _ _ e), rfl⟩)))))
        · intro p hp; simpa using hp
        · rw [← Je]
          show _ = out ++ (if r.kind = kSTR then cc (some (x, r)) l2 else _)
          rw [if_pos hs]
        · simpa using Jn
        · show r.text.length + 0 + tlen l2 ≤ _
          have e2 : tlen ((x, r) :: l2) = r.text.length + tlen l2 := rfl
          rw [e2] at Jt
          omega
        · intro p hp
          exact Jx p (by simpa using hp)
        · rw [hn]
          show (if r.kind = kSTR then cc (some (x, r)) l2 else _).length = _
          rw [if_pos hs]
    · rw [if_neg (by simpa using hs)]
      cases pend with
      | some y =>
        obtain ⟨y, t⟩ := y
        have Je' : out ++ (y, t) :: (x, r) :: cc none l2 = cc none ps := by
          rw [← Je]
          show _ = out ++ (if r.kind = kSTR then _ else (y, t) :: (x, r) :: cc none l2)
          rw [if_neg hs]
        have Je2 : (out ++ [(y, t)]) ++ (x, r) :: cc none l2 = cc none ps := by rw [← Je']; simp
        have hn' : n = (cc none l2).length + 1 + 1 := by
          rw [hn]
          show (if r.kind = kSTR then _ else (y, t) :: (x, r) :: cc none l2).length = _
          rw [if_neg hs]; rfl
        subst hn'
        refine seg_execs_cons (seg_If ?_)
        refine PT.tokTrue (d := d + 4) (x := nSt) (a := y) (kind := t.kind) (text := t.text) rfl rfl rfl (by decide) env L _ B ⟨[], []⟩ { s' with heap := h4, toks := t4 } _ _ hE G Rl X4 fun h5 t5 k5 => ?_
        rw [if_pos rfl]
        have K5 := K4.keep k5
        refine seg_execs_cons (yieldTok (d := d + 4) (KS M B P0 L It D xs [(nTok, .ref x), (nToks, .ref It), (nSt, ov (some (y, t)))] (i + 1) (out ++ (some (y, t)).toList ++ (x, r) :: l2)) hE G Rl rfl rfl rfl (by decide) rfl rfl rfl (X4.keep k5) (x := nSt) (z := y) (kind := t.kind) (text := t.text) rfl (mv4.trans ⟨fun b o _ e => k5 b o e, rfl⟩)
          (fun h6 k6 => K5.keep k6) (fun h h' x k => KS.frame a1 a2 a3 h h' x k) (fun h x => x.fs.base) (vxAt Je' rfl) fun s'' K6 => ?_)
        have X6 := stOf _ [] K6.fs (K6.tk (x, r) (by simp)) fun p hp => K6.tk p (by simp at hp ⊢; simp [hp])
        refine seg_execs_cons (seg_stmt (setName (d := d + 4) hE G Rl rfl rfl X6 PE.none rfl fun h7 t7 k7 X7 => ?_))
        have K7 : KS M B P0 L It D xs [(nToks, .ref It), (nSt, .none)] (i + 1) (out ++ (some (y, t)).toList ++ (x, r) :: l2) h7 := K6.local a1 a2 a3 (FS.of X7 fun p hp => by
          rcases List.mem_cons.mp hp with rfl | hp
          · exact ⟨.adr It, rfl, rfl, fun g v r => r.inv⟩
          · rcases List.mem_singleton.mp hp with rfl
            exact ⟨.none, rfl, rfl, fun g v r => r.inv⟩) k7
        refine seg_execs_nil (seg_execs_cons (yieldTok (d := d + 4) (KS M B P0 L It D xs [(nToks, .ref It), (nSt, .none)] (i + 1) (out ++ (some (y, t)).toList ++ (x, r) :: l2)) hE G Rl rfl rfl rfl (by decide) rfl rfl rfl X7 (x := nTok) (z := x) (kind := r.kind) (text := r.text) rfl ⟨fun b o hb e => k7 b o (fun h => hb (h ▸ List.mem_cons_self)) e, rfl⟩
          (fun h6 k6 => K7.keep k6) (fun h h' x k => KS.frame a1 a2 a3 h h' x k) (fun h x => x.fs.base) (vxAt Je2 rfl) fun s3 K8 => ?_))
        refine seg_execs_nil (seg_execs_nil (seg_again rfl (again _ s3 s3 (out ++ [(y, t), (x, r)]) none (K8.less (fun p hp => hp) ?_) ?_ ?_ ?_ ?_ rfl Mv.refl)))
        · intro p hp; simpa using hp
        · rw [← Je']; simp
        · simpa using Jn
        · show 0 + tlen l2 ≤ _
          have e2 : tlen ((x, r) :: l2) = r.text.length + tlen l2 := rfl
          rw [e2] at Jt
          omega
        · intro p hp
          exact Jx p (by simpa using hp)
      | none =>
        have Je' : out ++ (x, r) :: cc none l2 = cc none ps := by
          rw [← Je]
          show _ = out ++ (if r.kind = kSTR then _ else (x, r) :: cc none l2)
          rw [if_neg hs]
        have hn' : n = (cc none l2).length + 1 := by
          rw [hn]
          show (if r.kind = kSTR then _ else (x, r) :: cc none l2).length = _
          rw [if_neg hs]; rfl
        subst hn'
        refine seg_execs_cons (seg_If ?_)
        refine PT.noneFalse (d := d + 4) (x := nSt) rfl rfl rfl (by decide) env L _ B ⟨[], []⟩ { s' with heap := h4, toks := t4 } _ _ hE G Rl X4 fun h5 t5 k5 => ?_
        rw [if_neg Bool.false_ne_true]
        have K5 := K4.keep k5
        refine seg_execs_nil (seg_execs_cons (yieldTok (d := d + 4) (KS M B P0 L It D xs [(nTok, .ref x), (nToks, .ref It), (nSt, .none)] (i + 1) (out ++ (none : Option (Addr × Row)).toList ++ (x, r) :: l2)) hE G Rl rfl rfl rfl (by decide) rfl rfl rfl (X4.keep k5) (x := nTok) (z := x) (kind := r.kind) (text := r.text) rfl (mv4.trans ⟨fun b o _ e => k5 b o e, rfl⟩)
          (fun h6 k6 => K5.keep k6) (fun h h' x k => KS.frame a1 a2 a3 h h' x k) (fun h x => x.fs.base) (vxAt Je' rfl) fun s3 K8 => ?_))
        refine seg_execs_nil (seg_execs_nil (seg_again rfl (again _ s3 s3 (out ++ [(x, r)]) none (K8.less (fun p hp => List.mem_cons_of_mem _ hp) ?_) ?_ ?_ ?_ ?_ rfl Mv.refl)))
        · intro p hp; simpa using hp
        · rw [← Je']; simp
        · simpa using Jn
        · show 0 + tlen l2 ≤ _
          have e2 : tlen ((x, r) :: l2) = r.text.length + tlen l2 := rfl
          rw [e2] at Jt
          omega
        · intro p hp
          exact Jx p (by simpa using hp)
end
end
section
section
variable {w : World} {d : Nat} {sc : Scope} {m : Env'}
abbrev nTape : Str := Str.ofString "tape"
def KT (c T : Addr) (h h' : Heap) : Prop := ∀ b o, b ≠ c → b ≠ T → h.get? b = some o → h'.get? b = some o
theorem KT.of_keep {c T : Addr} {h h' : Heap} (k : Keep h h') : KT c T h h' := fun b o _ _ e => k b o e
theorem KT.trans {c T : Addr} {a b e : Heap} (x : KT c T a b) (y : KT c T b e) : KT c T a e := fun q o h1 h2 k => y q o h1 h2 (x q o h1 h2 k)
def TT (w : World) (c T : Addr) (l : List Nat) (h : Heap) : Prop :=
  h.IsCell c (some (.ref T)) ∧ ∃ vs n, h.get? T = some { cls := .type "list", data := .seq vs n } ∧ ∀ g, VRs w g vs.toList (l.map fun n : Nat => PV.int n)
theorem TT.at {c T : Addr} {l : List Nat} {h h' : Heap} (x : TT w c T l h) (k : ∀ b o, b = c ∨ b = T → h.get? b = some o → h'.get? b = some o) : TT w c T l h' :=
  ⟨let ⟨o, e, r⟩ := x.1; ⟨o, k _ _ (.inl rfl) e, r⟩, let ⟨vs, n, e, r⟩ := x.2; ⟨vs, n, k _ _ (.inr rfl) e, r⟩⟩
theorem TT.keep {c T : Addr} {l : List Nat} {h h' : Heap} (x : TT w c T l h) (k : Keep h h') : TT w c T l h' := x.at fun b o _ e => k b o e
theorem TT.there {c T : Addr} {l : List Nat} {h : Heap} (x : TT w c T l h) : (∃ o, h.get? c = some o) ∧ ∃ o, h.get? T = some o := ⟨let ⟨o, e, _⟩ := x.1; ⟨o, e⟩, let ⟨_, _, e, _⟩ := x.2; ⟨_, e⟩⟩
structure Sepa (B : Heap) (L : Addr) (own : Own) (c T : Addr) : Prop where
  hc : c ∈ own.hid
  ht : T ∈ own.hid
  bc : B.get? c = none
  bt : B.get? T = none
  cl : c ≠ L
  tl : T ≠ L
  ct : c ≠ T
  ac : ∀ p ∈ own.acc, p.2 ≠ c ∧ p.2 ≠ T
theorem Sepa.sub {B : Heap} {L : Addr} {own : Own} {c T : Addr} {h h' : Heap} (S : Sepa B L own c T) (k : KT c T h h') : Sub (gOf h L own) (gOf h' L own) := fun b o e => by
  obtain ⟨hn, e⟩ := ex_some.mp e
  refine ex_some.mpr ⟨hn, k b o (fun h => hn ?_) (fun h => hn ?_) e⟩
  · subst h; exact List.mem_cons_of_mem _ (List.mem_append_right _ S.hc)
  · subst h; exact List.mem_cons_of_mem _ (List.mem_append_right _ S.ht)
theorem St.kt {B : Heap} {L : Addr} {own : Own} {c T : Addr} {h h' : Heap} {l : List Nat} (X : St w B L own m h) (S : Sepa B L own c T) (k : KT c T h h') (t : TT w c T l h') : St w B L own m h' := by
  refine X.move (own' := own) rfl (fun mv F => ⟨F.ns.at fun o e => k _ _ S.cl.symm S.tl.symm e, fun b o e => k b o (fun h => by rw [h, S.bc] at e; cases e) (fun h => by rw [h, S.bt] at e; cases e) (F.keep b o e), F.above⟩) (S.sub k)
    (fun p hp o e => k _ _ (S.ac p hp).1 (S.ac p hp).2 e) fun b hb => ?_
  by_cases h1 : b = c
  · subst h1; exact t.there.1
  by_cases h2 : b = T
  · subst h2; exact t.there.2
  obtain ⟨o, e⟩ := X.there b hb
  exact ⟨o, k b o h1 h2 e⟩

def TE (w : World) (d : Nat) (sc : Scope) (e : Expr) (m : Env') (l : List Nat) (pv : PV) (l' : List Nat) : Prop :=
  ∀ (env : Env) (L : Addr) (A : Around) (B : Heap) (own : Own) (s : Shared) (Q E : Value → Shared → Prop) (c T : Addr),
    EnvOk env sc L → Gd w B → Room A d → St w B L own m s.heap → Sepa B L own c T → env.cells.lookup nTape = some c → TT w c T l s.heap →
    (∀ v h' tk, KT c T s.heap h' → TT w c T l' h' → VR w (gOf h' L own) v pv → Q v { s with heap := h', toks := tk }) →
    wpAny (model P w) A (eval e env) Q E s
theorem TE.ofPE {e : Expr} {pv : PV} {l : List Nat} (h : PE w d sc e m pv) : TE w d sc e m l pv l := by
  intro env L A B own s Q E c T hE G R X S hc t q
  exact h env L A B own s Q E hE G R X fun v h1 t1 k1 r1 => q v h1 t1 (.of_keep k1) (t.keep k1) r1
theorem TE.bin {x y : Expr} {op : Operator} {pos : Pos} {a b r : PV} {l l1 l2 : List Nat} (hl : TE w d sc x m l a l1) (hr : TE w d sc y m l1 b l2)
    (ho : ∀ (L : Addr) (own : Own) (A : Around) (B : Heap) (s : Shared) (va vb : Value) (Q E : Value → Shared → Prop), Gd w B → Bk B L own s.heap → Room A d → VR w (gOf s.heap L own) va a → VR w (gOf s.heap L own) vb b →
      (∀ v h' tk, Keep s.heap h' → VR w (gOf h' L own) v r → Q v { s with heap := h', toks := tk }) → wpAny (model P w) A (binaryOp op va vb) Q E s) :
    TE w d sc (.BinOp x op y pos) m l r l2 := by
  intro env L A B own s Q E c T hE G R X S hc t q
  refine wpAny_BinOp (hl env L A B own s _ E c T hE G R X S hc t fun v1 h1 t1 k1 w1 r1 => ?_)
  have X1 := X.kt S k1 w1
  refine hr env L A B own _ _ E c T hE G R X1 S hc w1 fun v2 h2 t2 k2 w2 r2 => ?_
  have X2 := X1.kt S k2 w2
  refine ho L own A B _ v1 v2 Q E G X2.bk R (r1.mono (S.sub k2)) r2 fun v3 h3 t3 k3 r3 => ?_
  exact q v3 h3 t3 ((k1.trans k2).trans (.of_keep k3)) (w2.keep k3) r3
theorem catO {a b : List Nat} (hn : (a ++ b).length ≤ sizeLine) (L : Addr) (own : Own) (A : Around) (B : Heap) (s : Shared) (va vb : Value) (Q E : Value → Shared → Prop) (_ : Gd w B) (_ : Bk B L own s.heap) (_ : Room A d) (ra : VR w (gOf s.heap L own) va (.str a)) (rb : VR w (gOf s.heap L own) vb (.str b))
    (q : ∀ v h' tk, Keep s.heap h' → VR w (gOf h' L own) v (.str (a ++ b)) → Q v { s with heap := h', toks := tk }) : wpAny (model P w) A (binaryOp .Add va vb) Q E s := by
  obtain ⟨_, rfl⟩ := ra.inv; obtain ⟨_, rfl⟩ := rb.inv
  refine PySem.P.add_str ?_
  rw [S_len, S_len, S_app]
  split
  · rename_i h; have : a = [] := List.length_eq_zero_iff.mp (by simpa using h); subst this; exact q _ s.heap s.toks (Keep.refl _) (.str _ _)
  · split
    · rename_i h; have : b = [] := List.length_eq_zero_iff.mp (by simpa using h); subst this; rw [List.append_nil] at q; exact q _ s.heap s.toks (Keep.refl _) (.str _ _)
    · exact ⟨by rw [S_len]; exact hn, q _ s.heap _ (Keep.refl _) (.str _ _)⟩
theorem TE.cat {x y : Expr} {pos : Pos} {a b : List Nat} {l l1 l2 : List Nat} (hl : TE w d sc x m l (.str a) l1) (hr : TE w d sc y m l1 (.str b) l2) (hn : (a ++ b).length ≤ sizeLine) : TE w d sc (.BinOp x .Add y pos) m l (.str (a ++ b)) l2 :=
  hl.bin hr (catO hn)

theorem next_call {A : Around} {s : Shared} {a T : Addr} {l : List Nat} {vs : Array Value} {n : Nat} {Q E : Value → Shared → Prop} (hl : l.length ≤ 1000) (G : Gd w s.heap) (Rm : Room A (d + 1)) (hg : ∃ mg, s.heap.Ns mainGlobals mg ∧ mg (Str.ofString "_law_next") = some (.ref a))
    (hT : s.heap.get? T = some { cls := .type "list", data := .seq vs n }) (hv : ∀ g, VRs w g vs.toList (l.map fun n : Nat => PV.int n))
    (q : ∀ v h' tk vs' n', (∀ b o, b ≠ T → s.heap.get? b = some o → h'.get? b = some o) → h'.get? T = some { cls := .type "list", data := .seq vs' n' } → (∀ g, VRs w g vs'.toList (l.tail.map fun n : Nat => PV.int n)) → (∀ g, VR w g v (.int (l.headD 0 : Nat))) → Q v { s with heap := h', toks := tk }) :
    wpAny (model P w) A (call (.ref a) [.ref T]) Q E s := by
  refine enterFn (d := d) (Z := []) (args := [.adr T]) (names := [nTape]) rfl (fun pm cd doc vs hvs => match vs, hvs with | [a], _ => rfl) rfl (by decide) G Rm hg (by simp) (.cons (.adr _) .nil) (fun env A' h₁ tk E' hE Rm' X => ?_) rfl rfl rfl (by decide)
  dsimp only
  refine wpAny_execs_cons (wpAny_Return_some ?_)
  have hT1 := X.base _ _ hT
  have hlen : vs.size = l.length := by rw [← Array.length_toList, (hv (fun _ => none)).length, List.length_map]
  refine wpAny_IfExp ?_
  refine isTrue_plain (PE.name (d := d) (pv := .adr T) rfl rfl rfl rfl (by decide) env _ A' s.heap ⟨[], []⟩ { s with heap := h₁, toks := tk } _ E' hE G Rm' X fun v h2 t2 k2 r2 => ?_) rfl
  obtain rfl := r2.inv
  have hT2 := k2 _ _ hT1
  refine wpAny_truthy_list (s := { s with heap := h2, toks := t2 }) (listGet hT2) (by rw [hlen]; omega) ?_
  cases l with
  | nil =>
    have hvs : vs = #[] := by
      have : vs.toList = [] := List.length_eq_zero_iff.mp (by rw [Array.length_toList, hlen]; rfl)
      apply Array.ext'; rw [this]
    subst hvs
    dsimp only [Array.isEmpty, Array.size]
    refine wpAny_Constant_int ?_
    exact q _ h2 _ _ n (fun b o _ e => k2 _ _ (X.base _ _ e)) hT2 hv fun g => .int _ _
  | cons x l =>
    have hne : (!vs.isEmpty) = true := by
      have : vs.size ≠ 0 := by rw [hlen]; simp
      simpa [Array.isEmpty] using this
    rw [hne]
    show wpAny _ _ (eval _ _) _ _ _
    obtain ⟨y, ys, hys, ry, rys⟩ : ∃ y ys, vs.toList = y :: ys ∧ (∀ g, VR w g y (.int x)) ∧ ∀ g, VRs w g ys (l.map fun n : Nat => PV.int n) := by
      cases hvl : vs.toList with
      | nil => have := hv (fun _ => none); rw [hvl] at this; cases this
      | cons y ys => exact ⟨y, ys, rfl, fun g => by have := hv g; rw [hvl] at this; cases this with | cons a _ => exact a, fun g => by have := hv g; rw [hvl] at this; cases this with | cons _ b => exact b⟩
    have X2 := X.keep k2
    refine wpAny_Call_method1_late rfl rfl rfl (PE.name (d := d) (pv := .adr T) rfl rfl rfl rfl (by decide) env _ A' s.heap ⟨[], []⟩ _ _ _ hE G Rm' X2 fun v h3 t3 k3 r3 => ?_)
    obtain rfl := r3.inv
    have hT3 := k3 _ _ hT2
    refine ⟨"list", "list.pop", PySem.F.plainAttrs_list, PySem.F.slot_list_pop, PySem.F.type_list_pop, ⟨_, hT3, rfl⟩, (fun a e => by cases e; exact ⟨_, hT3, rfl⟩), ?_⟩
    refine Calls.callWith_builtin (first := [.ref T]) rfl (Calls.evalArgs_plain (Calls.spliced_cons ?_))
    refine wpAny_Constant_int ?_
    refine Calls.spliced_nil ?_
    have hvs : vs = (([] : List Value) ++ y :: ys).toArray := by rw [List.nil_append, ← hys]
    have hsz : vs.size ≤ sizeLine := by rw [hlen, sizeLine_eq]; omega
    refine call_meets PySem.F.slot_list_pop ⟨_, hT3, rfl⟩ PySem.F.entry_list_pop (PySem.F.args_list_pop_2 _ _) (PySem.MeetsSeq.list_pop_at T vs n 0 _ 0 y (by decide) ?_ (by rw [← Array.getElem?_toList, hys]; rfl) hsz) ⟨hT3, ?_⟩
    · unfold seqIndex?
      have : 0 < vs.size := by rw [hlen]; simp
      simp [this]
    · have hu := PySem.IsL.update hT3 (fun xs => xs.eraseIdxIfInBounds 0)
      have he : vs.eraseIdxIfInBounds 0 = ys.toArray := by
        rw [hvs]; exact kl_erase [] ys y
      rw [he] at hu
      refine q y _ _ ys.toArray _ (fun b o hb e => (Heap.get?_update_other _ _ (Ne.symm hb)).trans (k3 _ _ (k2 _ _ (X.base _ _ e)))) hu (fun g => rys g) fun g => ry g
end
end
section
section
variable {w : World} {d : Nat} {sc : Scope} {m : Env'}
theorem foldRep (c : Nat) : ∀ (n : Nat) (a : Array Nat), ((List.replicate n (S [c]).cps).foldl (· ++ ·) a) = a ++ (List.replicate n c).toArray
  | 0, a => by simp
  | n + 1, a => by
    rw [List.replicate_succ, List.foldl_cons, foldRep c n, List.replicate_succ]
    apply Array.ext'
    simp [S]
theorem PE.mulS {x y : Expr} {pos : Pos} {c n : Nat} (hx : PE w d sc x m (.str [c])) (hy : PE w d sc y m (.int n)) (hn : n ≤ 1000) : PE w d sc (.BinOp x .Mult y pos) m (.str (List.replicate n c)) := by
  refine hx.bin hy fun L own A B s va vb Q E G k R ra rb q => ?_
  cases ra with
  | str _ t => cases rb with
    | int _ u =>
      refine PySem.P.mul_str (by simp; omega) (fun h1 h2 => ?_) (fun h1 h2 => ?_) ?_
      · rw [S_len]
        simp only [List.length_singleton, Int.not_lt] at *
        have h3 : (1 : Int) ≤ n := by omega
        rw [Int.not_lt.symm] at *
        have : (n : Int) ≤ 2 ^ 63 - 1 := by omega
        have := (Int.le_ediv_iff_mul_le (a := 1) (b := 2 ^ 63 - 1) (c := (n : Int)) (by omega)).mpr (by omega)
        omega
      · rw [S_len]
        simp [Builtin.Str.tooLong, sizeLine_eq]
        omega
      · by_cases h0 : n = 0
        · subst h0
          rw [if_pos (by decide)]
          exact ⟨by show (0 : Nat) ≤ sizeLine; omega, q _ s.heap _ (Keep.refl _) (.str [] _)⟩
        · rw [if_neg (by omega)]
          by_cases h1 : n = 1
          · subst h1
            rw [if_pos (by simp)]
            exact q _ s.heap s.toks (Keep.refl _) (.str [c] t)
          · rw [if_neg (by simp [S_len]; omega), foldRep, Array.empty_append, Int.toNat_natCast]
            exact ⟨by show (List.replicate n c).toArray.size ≤ sizeLine; rw [List.size_toArray, List.length_replicate, sizeLine_eq]; omega, q _ s.heap _ (Keep.refl _) (.str (List.replicate n c) _)⟩
end
section
variable {w : World} {d : Nat} {sc : Scope} {m : Env'}
theorem tapeName {env : Env} {L : Addr} {A : Around} {s : Shared} {Q E : Value → Shared → Prop} {c T : Addr} {l : List Nat} {np : Pos} (hE : EnvOk env sc L) (hk : sc.kind = .function) (hl : sc.names.lookup nTape = some .cell) (hc : env.cells.lookup nTape = some c)
    (t : TT w c T l s.heap) (q : Q (.ref T) s) : wpAny (model P w) A (eval (.Name nTape np) env) Q E s :=
  wpAny_Name (wpAny_loadName_cell (by rw [hE.sc]; exact hk) (by unfold Env.kindOf; rw [hE.sc]; exact hl) hc t.1 q) (by decide)

theorem TE.next {np ap pos : Pos} {l : List Nat} (hk : sc.kind = .function) (hl1 : sc.names.lookup (Str.ofString "_law_next") = some .globalImplicit) (hl2 : sc.names.lookup nTape = some .cell) (hlen : l.length ≤ 1000) :
    TE w (d + 1) sc (.Call (.Name (Str.ofString "_law_next") np) [.Name nTape ap] [] pos) m l (.int (l.headD 0 : Nat)) l.tail := by
  intro env L A B own s Q E c T hE G Rm X S hc t q
  obtain ⟨mv, F, hm⟩ := X.fr
  obtain ⟨mean, mg, mb, T'⟩ := G.top
  obtain ⟨a, o, fd, g1, g2, g3⟩ := find_isSome_fn (name := Str.ofString "_law_next") rfl T'
  refine wpAny_Call_NameR (Calls.Name_function_global (by rw [hE.sc]; exact hk) (by unfold Env.kindOf; rw [hE.sc]; exact hl1) (Calls.loadGlobal_global (by rw [hE.glob]; exact T'.g.keeps F.keep) g1 ?_) (by decide))
  refine callWith_def g3 ?_ (star_cons rfl)
  refine args_cons (tapeName hE hk hl2 hc t ?_) (star_cons rfl)
  refine args_nil ⟨F.keep _ _ g2, ?_⟩
  obtain ⟨tc, vs, n, e, hv⟩ := t
  refine next_call (l := l) hlen (G.keep F.keep) Rm ⟨mg, T'.g.keeps F.keep, g1⟩ e hv fun v h' tk vs' n' k e' hv' r => ?_
  exact q v h' tk (fun b o _ hb e => k b o hb e) ⟨let ⟨o, e, r⟩ := tc; ⟨o, k _ _ S.ct e, r⟩, vs', n', e', hv'⟩ (r _)
theorem TE.callF {x : Str} {e : Expr} {np pos : Pos} {p r : PV} {l l' : List Nat} (hF : PFn w d x [p] r) (hdef : ((recsOf VW).find? (fun e => e.name == x)).isSome = true)
    (hk : sc.kind = .function) (hl : sc.names.lookup x = some .globalImplicit) (hd : (x == ("__debug__" : Str)) = false) (he : TE w d sc e m l p l') (hst : notStar e = true) :
    TE w d sc (.Call (.Name x np) [e] [] pos) m l r l' := by
  intro env L A B own s Q E c T hE G Rm X S hc t q
  obtain ⟨mv, F, hm⟩ := X.fr
  obtain ⟨mean, mg, mb, T'⟩ := G.top
  obtain ⟨a, o, fd, g1, g2, g3⟩ := find_isSome_fn hdef T'
  refine wpAny_Call_NameR (Calls.Name_function_global (by rw [hE.sc]; exact hk) (by unfold Env.kindOf; rw [hE.sc]; exact hl) (Calls.loadGlobal_global (by rw [hE.glob]; exact T'.g.keeps F.keep) g1 ?_) hd)
  refine callWith_def g3 ?_ (star_cons hst)
  refine args_cons (he env L A B own s _ E c T hE G Rm X S hc t fun v h1 t1 k1 w1 r1 => ?_) (star_cons hst)
  have X1 := X.kt S k1 w1
  have kB := X1.base
  refine args_nil ⟨kB _ _ g2, ?_⟩
  exact hF A _ [v] a (own.all L) Q E (G.keep kB) Rm ⟨mg, T'.g.keeps kB, g1⟩ X1.bk.new (.cons r1 .nil) fun v h2 t2 k2 r2 => q v h2 t2 (k1.trans (.of_keep k2)) (w1.keep k2) r2

structure ScR (scope scr : Scope) : Prop where
  kind : scr.kind = .function
  tape : scr.names.lookup nTape = some .cell
  same : ∀ x k, scope.names.lookup x = some k → k ≠ .free → scr.names.lookup x = some k
theorem lookRel {env : Env} : ∀ {names : List (Str × NameKind)} {x : Str} {k : NameKind}, names.lookup x = some k →
    (names.map fun (n, k) => if (k == NameKind.free && env.scope.kind == .function && env.kindOf n == some .cell) then (n, NameKind.cell) else (n, k)).lookup x = some (if (k == NameKind.free && env.scope.kind == .function && env.kindOf x == some .cell) then NameKind.cell else k)
  | [], _, _, h => by simp at h
  | (n, kd) :: names, x, k, h => by
    rw [List.lookup_cons] at h
    by_cases hx : x = n
    · subst hx
      rw [beq_self_eq_true] at h
      cases h
      rw [List.map_cons]
      dsimp only
      by_cases hc : (kd == NameKind.free && env.scope.kind == .function && env.kindOf x == some .cell) = true
      · rw [if_pos hc, if_pos hc, List.lookup_cons, beq_self_eq_true]
      · rw [if_neg hc, if_neg hc, List.lookup_cons, beq_self_eq_true]
    · have hb := beq_eq_false_iff_ne.mpr hx
      rw [hb] at h
      have := lookRel (env := env) h
      rw [List.map_cons]
      dsimp only
      by_cases hc : (kd == NameKind.free && env.scope.kind == .function && env.kindOf n == some .cell) = true
      · rw [if_pos hc, List.lookup_cons, hb]; exact this
      · rw [if_neg hc, List.lookup_cons, hb]; exact this
theorem ScR.of {scope : Scope} {env : Env} {L : Addr} (hE : EnvOk env sc L) (hk : sc.kind = .function) (hl : sc.names.lookup nTape = some .cell) (hs : scope.kind = .function) (ht : scope.names.lookup nTape = some .free) : ScR scope (relabel scope env) := by
  refine ⟨hs, ?_, fun x k h hk => ?_⟩
  · have := lookRel (env := env) ht
    unfold relabel
    rw [this, hE.sc, hk]
    have : env.kindOf nTape = some .cell := by unfold Env.kindOf; rw [hE.sc]; exact hl
    rw [this]
    rfl
  · have := lookRel (env := env) h
    unfold relabel
    rw [this]
    have : (k == NameKind.free) = false := by simpa using hk
    rw [this]
    rfl

theorem TE.comp {elt iter : Expr} {x : Str} {xp : Pos} {scope : Scope} {pos : Pos} {items : List PV} {l : List Nat} {f : Nat → List Nat} (hi : PI w d sc iter m items) (hit : ∀ p ∈ items, p.isAcc = false)
    (hk : sc.kind = .function) (hl : sc.names.lookup nTape = some .cell) (hfr : scope.names.lookup nTape = some .free) (hclos : ∀ (env : Env) (c : Addr), env.cells.lookup nTape = some c → closureFor scope env = pure [(nTape, c)])
    (hcell : ∀ y ∈ scope.names, y.2 ≠ .cell) (hkind : scope.kind = .function) (hnames : ∀ y ∈ scope.names, y.2 = .local → scope.names.lookup y.1 = some .local) (hx : scope.names.lookup x = some .local) (hn : items.length ≤ 100000)
    (helt : ∀ (scr : Scope) (i : Nat) p, ScR scope scr → items[i]? = some p → TE w d scr elt [(x, p)] (l.drop i) (.str (f i)) (l.drop (i + 1)))
    (hs : ∀ env y, foldedSetIterable iter env y = pure y := by intro _ _; rfl) :
    TE w d sc (.ListComp elt [⟨.Name x xp, iter, [], 0⟩] scope pos) m l (.list ((List.range items.length).map fun i => .str (f i))) (l.drop items.length) := by
  intro env L A B own s Q E c T hE G Rm X S hc t q
  have hrel := ScR.of hE hk hl hkind hfr
  refine compG (cl := [(nTape, c)]) [c, T] (fun i h => TT w c T (l.drop i) h) (fun i g v => VR w g v (.str (f i))) (fun p => [(x, p)]) hi hE G Rm X (hclos env c hc) hcell hkind hnames
    (fun p hp => TG.name (hit p hp) hrel.kind (hrel.same _ _ hx (by decide))) hn ?_ ?_ t (fun i h h' x k => x.at fun b o hb e => k b (by rcases hb with rfl | rfl <;> simp) o e) (fun i g g' v k h => h.mono k) ?_ ?_ (hs env)
  · intro b hb
    rcases List.mem_cons.mp hb with rfl | hb
    · exact S.hc
    · rcases List.mem_singleton.mp hb with rfl
      exact S.ht
  · intro b hb
    rcases List.mem_cons.mp hb with rfl | hb
    · exact S.bc
    · rcases List.mem_singleton.mp hb with rfl
      exact S.bt
  · intro i p cenv C Z s' hp hE' hcl hZ X' hext Q' E' q'
    have inZ : ∀ b ∈ own.hid, b ∈ Z := fun b hb => hZ b (List.mem_cons_of_mem _ (List.mem_append_right _ hb))
    obtain ⟨mv, F, _⟩ := id X'.fr
    obtain ⟨oC, es, ep, e1, e2, _⟩ := F.ns
    have S' : Sepa B C ⟨[], Z⟩ c T := by
      refine ⟨inZ c S.hc, inZ T S.ht, S.bc, S.bt, fun h => ?_, fun h => ?_, S.ct, fun p hp => nomatch hp⟩
      · obtain ⟨⟨o, e, r⟩, _⟩ := hext
        rw [h, e1] at e
        cases e
        rw [e2] at r
        cases r
      · obtain ⟨_, vs, n, e, _⟩ := hext
        rw [h, e1] at e
        cases e
        cases e2
    refine helt _ i p hrel hp cenv C A B ⟨[], Z⟩ s' Q' E' c T hE' G Rm X' S' (by rw [hcl]; exact List.lookup_cons_self) hext fun v h' tk k w' r => q' v h' tk (fun b o hb e => k b o (fun h => hb (h ▸ by simp)) (fun h => hb (h ▸ by simp)) e) ?_ w' r
    intro b hb
    rcases List.mem_cons.mp hb with rfl | hb
    · exact w'.there.1
    · rcases List.mem_singleton.mp hb with rfl
      exact w'.there.2
  · intro D h' tk ys n k hD eD hsz hr hext hx
    refine q (.ref D) h' tk (fun b o h1 h2 e => k b o (by simp [h1, h2]) e) hext (.list (ex_some.mpr ⟨X.bk.fresh hD, eD⟩) (vrs_of (by rw [Array.length_toList, hsz]; simp) fun i v p e1 e2 => ?_))
    rw [List.getElem?_map, Option.map_eq_some_iff] at e2
    obtain ⟨j, e2, rfl⟩ := e2
    have hj : j = i := by
      obtain ⟨hlt, e3⟩ := List.getElem?_eq_some_iff.mp e2
      rw [List.getElem_range] at e3
      exact e3.symm
    subst hj
    exact hr _ v (by rw [← Array.getElem?_toList]; exact e1)

theorem TE.join {o e : Expr} {apos pos : Pos} {sep : List Nat} {ls : List (List Nat)} {l l' : List Nat} (ho : PE w d sc o m (.str sep)) (he : TE w d sc e m l (.list (ls.map .str)) l') (hl : (ls.map List.length).sum + ls.length * sep.length ≤ 1000000)
    (hbase : ∀ env, attributeBase o (Str.ofString "join") env (eval o env) = eval o env := by intro _; rfl) (hline : (apos.endLine == pos.line) = true := by rfl)
    (htrees : ∀ (p : Pos) env, backTo p (starEach [e] env) = [(false, eval e env)] := by intro _ _; rfl) :
    TE w d sc (.Call (.Attribute o (Str.ofString "join") apos) [e] [] pos) m l (.str (joinL sep ls)) l' := by
  intro env L A B own s Q E c T hE G R X S hc t q
  refine wpAny_Call_method1_late (hbase _) hline (htrees _ _) (ho env L A B own s _ E hE G R X fun v1 h1 t1 k1 r1 => ?_)
  cases r1 with
  | str _ tt =>
    refine ⟨"str", "str.join", PySem.F.plainAttrs_str, PySem.F.slot_str_join, PySem.F.type_str_join, typeIs_str _ _ _, (fun _ e => nomatch e), ?_⟩
    refine Calls.callWith_builtin (first := [.str (Mine.S sep) tt]) rfl (Calls.evalArgs_plain (Calls.spliced_cons ?_))
    refine he env L A B own _ _ E c T hE G R (X.keep k1) S hc (t.keep k1) fun v2 h2 t2 k2 w2 r2 => ?_
    refine Calls.spliced_nil ?_
    cases r2 with
    | @list a vs n _ e rs =>
      have e' := gOf_sub _ _ e
      obtain ⟨ql, hq1, hq2⟩ := strs_of_vrs rs
      have hvs : vs = (strValues ql).toArray := by rw [← hq1]
      refine SC.join (l := ql) (hvs ▸ listGet e') hq2 (joinOk hl) fun t' k' => ?_
      have ej : Txt.join (Mine.S sep) (ls.map Mine.S) = Mine.S (joinL sep ls) := by
        show Builtin.Str.glued (Mine.S sep) (ls.map Mine.S) = _
        rw [StrLaws.glued_eq_join, join_S]
      rw [ej]
      exact q _ h2 k' ((KT.of_keep k1).trans k2) w2 (.str _ _)
end
end
section
section
variable {w : World} {d : Nat} {sc : Scope} {m : Env'}
theorem PE.lenAcc {x : Str} {np xp pos : Pos} {l : List PV} (hx : m.lookup x = some (.acc l)) (hn : l.length < 2 ^ 62) (hk : sc.kind = .function) (hlx : sc.names.lookup x = some .local) (hl : sc.names.lookup nLen = some .globalImplicit) (hd : (x == ("__debug__" : Str)) = false := by decide)
    (hs : ∀ env, starEach [Expr.Name x xp] env = (false, eval (.Name x xp) env) :: starEach [] env := by intro _; exact star_cons rfl) (hp : ∀ (p : Pos) env, (backTo p (starEach ([] : List Expr) env)).any (·.1) = false := by intro _ _; rfl) :
    PE w d sc (.Call (.Name nLen np) [.Name x xp] [] pos) m (.int l.length) := by
  intro env L A B own s Q E hE G R X q
  obtain ⟨mv, F, hm⟩ := id X.fr
  obtain ⟨v, e1, a, g1, rfl, vs, n, g3, g4⟩ := hm x _ hx
  refine wpAny_Call_NameR (nameB (w := w) (m := m) (v := .builtin "len") rfl (by decide) nsLen hE G X hk hl (by decide) ?_)
  refine PyProof.Rows.callWith_builtin1 ?_ (hs _) (hp _ _)
  refine args_cons (wpAny_Name (wpAny_loadName_local (m := mv) (v := .ref a) (by rw [hE.sc]; exact hk) (by unfold Env.kindOf; rw [hE.sc]; exact hlx) (by rw [hE.loc]; exact F.ns) e1 ?_) hd) (hs _)
  refine args_nil ?_
  have hsz : vs.size = l.length := by rw [← Array.length_toList, g4.length]
  refine Calls.call_len_list (listGet g3) (by rw [hsz]; omega) ?_
  rw [hsz]
  exact q _ s.heap _ (Keep.refl _) (.int _ _)
theorem PT.acc {x : Str} {np : Pos} {l : List PV} (hx : m.lookup x = some (.acc l)) (hn : l.length < 2 ^ 62) (hk : sc.kind = .function) (hl : sc.names.lookup x = some .local) (hd : (x == ("__debug__" : Str)) = false := by decide) :
    PT w d sc (.Name x np) m (!l.isEmpty) := by
  intro env L A B own s Q E hE G R X q
  obtain ⟨mv, F, hm⟩ := id X.fr
  obtain ⟨v, e1, a, g1, rfl, vs, n, g3, g4⟩ := hm x _ hx
  refine isTrue_plain (wpAny_Name (wpAny_loadName_local (m := mv) (v := .ref a) (by rw [hE.sc]; exact hk) (by unfold Env.kindOf; rw [hE.sc]; exact hl) (by rw [hE.loc]; exact F.ns) e1 ?_) hd) rfl
  have hsz : vs.size = l.length := by rw [← Array.length_toList, g4.length]
  refine wpAny_truthy_list (listGet g3) (by rw [hsz]; omega) ?_
  have e : (!vs.isEmpty) = !l.isEmpty := by
    unfold Array.isEmpty
    rw [hsz]
    cases l <;> rfl
  rw [e]
  exact q s.heap _ (Keep.refl _)

theorem PE.listTo {v b : Expr} {p pos : Pos} {x : List PV} {n : Nat} (hv : PE w d sc v m (.list x)) (hb : PE w d sc b m (.int n)) (hx : x.length ≤ 100000) :
    PE w d sc (.Subscript v (.Slice .none (some b) .none p) pos) m (.list (x.take n)) := by
  refine hv.slice (lo := .none) (hi := some b) (l := .none) (u := some (n : Int)) trivial hb fun L own A s va sl pl pu Q E B bk R ra el eu hs q => ?_
  cases ra with
  | @list a1 vs1 n1 _ g1 r1 =>
    have l1 : vs1.size = x.length := by rw [← Array.length_toList, r1.length]
    have e1 := (ex_some.mp g1).2
    cases pl with
    | some u => cases el
    | none =>
      cases pu with
      | none => cases eu
      | some pv =>
        obtain ⟨i, t⟩ := pv
        cases eu
        refine ⟨"list", _, ⟨_, e1, rfl⟩, slot_list_getitem.lookup, wpAny_getItem_list_slice (lo := .none) (hi := some (n : Int)) (st := .none) (listGet e1) ⟨_, hs, rfl, rfl⟩ .none (by show IsPart (.int (n : Int) t) _; exact .int _ _) .none (by decide) ?_ (by rw [l1, sizeLine_eq]; omega)⟩
        rw [slicePick_upto']
        refine q _ _ _ (keep_push _ _) (.list (ex_some.mpr ⟨bk.fresh (noneSize _), Heap.get?_push_size _ rfl⟩) ?_)
        exact (r1.take n).mono (gOf_keep (keep_push _ _))

theorem PE.idxK {v i : Expr} {pos : Pos} {a b : Addr} {k : Nat} {vs : Array Value} (hv : PE w d sc v m (.adr a)) (hi : PE w d sc i m (.int k)) (ha : (hd.heap_39 w.params).lookup a = some { cls := .type "list", data := .seq vs }) (hb : vs[k]? = some (.ref b)) (hk : k < 1000)
    (hs : ∀ o r, subscripted i false o r = operate [o, r] (getItem o r) := by intro _ _; rfl) : PE w d sc (.Subscript v i pos) m (.adr b) := by
  refine hv.sub2 hi (fun L own A B s va vb Q E G kk R ra rb q => ?_) hs
  obtain ⟨_, rfl⟩ := rb.inv
  obtain rfl := ra.inv
  have e' := kk.base _ _ (G.k a _ ha)
  refine ⟨"list", _, ⟨_, e', rfl⟩, slot_list_getitem.lookup, wpAny_getItem_list (listGet e') (by omega) (by omega) (by simpa using hb) (q (.ref b) s.heap s.toks (Keep.refl _) (.adr b))⟩
theorem PX1.tup2K {R : PF → Env' → Prop} {x y : Str} {xp yp tp pos : Pos} {k : Nat} {e : Expr} {t : Addr} {ca cb : Str} {ta tb : Tok} {a b : List Nat} (h : PE w d sc e m (.adr t)) (ht : (hd.heap_39 w.params).lookup t = some { cls := .type "tuple", data := .seq #[.str ca ta, .str cb tb] })
    (hca : ca.cps.toList = a) (hcb : cb.cps.toList = b) (hk : sc.kind = .function)
    (hlx : sc.names.lookup x = some .local) (hly : sc.names.lookup y = some .local) (hr : R .next ((y, .str b) :: (x, .str a) :: m))
    (hw : ∀ env : Env, swappedStores [.Tuple [.Name x xp, .Name y yp] k tp] e env = pure none := by intro _; rfl)
    (hs : ∀ env, swapsWithSole [.Tuple [.Name x xp, .Name y yp] k tp] e pos.line env = pure false := by intro _; rfl) : PX1 w d sc (.Assign [.Tuple [.Name x xp, .Name y yp] k tp] e pos) m R := by
  intro env L A B own s Q E hE G Rm X q
  refine Assign_Tuple (h env L A B own s _ E hE G Rm X fun v h1 t1 k1 r1 => ?_) (hs _) (hw _)
  obtain rfl := r1.inv
  have ht : (h1.get? t) = some { cls := .type "tuple", data := .seq #[.str ca ta, .str cb tb] } := (X.keep k1).base _ _ (G.k t _ ht)
  refine wpAny_assign_Tuple (s := { s with heap := h1, toks := t1 }) Rm.hh ⟨_, ht, rfl, _, rfl⟩ rfl rfl fun h2 hx => ?_
  have k2 : Keep h1 h2 := keep_ext hx
  have ra : ∀ g, VR w g (.str ca ta) (.str a) := fun g => by
    have := VR.str (w := w) (g := g) a ta
    rw [← hca, S_toList] at this
    rw [← hca]; exact this
  have rb : ∀ g, VR w g (.str cb tb) (.str b) := fun g => by
    have := VR.str (w := w) (g := g) b tb
    rw [← hcb, S_toList] at this
    rw [← hcb]; exact this
  refine assignInOrder_cons (wpAny_assign_Name (store hE (s := { s with heap := h2, toks := t1 }) ((X.keep k1).keep k2) rfl (ra _) hk hlx fun h3 t3 k3 X3 => ?_))
  refine assignInOrder_cons (wpAny_assign_Name (store hE (s := { s with heap := h3, toks := t3 }) X3 rfl (rb _) hk hly fun h4 t4 k4 X4 => ?_))
  refine assignInOrder_nil ?_
  exact q .next .next _ own h4 t4 hr ((((Stp.of_keep k1).trans (.of_keep k2)).trans k3).trans k4) X4 trivial
end
section
variable {w : World} {d : Nat} {sc : Scope} {m : Env'}
def TX1 (w : World) (d : Nat) (sc : Scope) (st : Stmt) (m : Env') (l : List Nat) (R : PF → Env' → List Nat → Prop) : Prop :=
  ∀ (env : Env) (L : Addr) (A : Around) (B : Heap) (own : Own) (s : Shared) (Q : Flow → Shared → Prop) (E : Value → Shared → Prop) (c T : Addr),
    EnvOk env sc L → Gd w B → Room A d → St w B L own m s.heap → Sepa B L own c T → env.cells.lookup nTape = some c → TT w c T l s.heap →
    (∀ f pf m' l' own' h' tk, R pf m' l' → own'.hid = own.hid → St w B L own' m' h' → Sepa B L own' c T → TT w c T l' h' → FR w (gOf h' L own') f pf → Q f { s with heap := h', toks := tk }) →
    wpAny (model P w) A (exec st env) Q E s
def TX (w : World) (d : Nat) (sc : Scope) (ss : List Stmt) (m : Env') (l : List Nat) (R : PF → Env' → List Nat → Prop) : Prop :=
  ∀ (env : Env) (L : Addr) (A : Around) (B : Heap) (own : Own) (s : Shared) (Q : Flow → Shared → Prop) (E : Value → Shared → Prop) (c T : Addr),
    EnvOk env sc L → Gd w B → Room A d → St w B L own m s.heap → Sepa B L own c T → env.cells.lookup nTape = some c → TT w c T l s.heap →
    (∀ f pf m' l' own' h' tk, R pf m' l' → own'.hid = own.hid → St w B L own' m' h' → Sepa B L own' c T → TT w c T l' h' → FR w (gOf h' L own') f pf → Q f { s with heap := h', toks := tk }) →
    wpAny (model P w) A (execs ss env) Q E s
def tbh (w : World) (d : Nat) (sc : Scope) (rest : List Stmt) (R : PF → Env' → List Nat → Prop) : PF → Env' → List Nat → Prop
  | .next, m, l => TX w d sc rest m l R
  | f, m, l => R f m l
variable {R : PF → Env' → List Nat → Prop} {l : List Nat}
theorem TX.nil (h : R .next m l) : TX w d sc [] m l R := by
  intro env L A B own s Q E c T hE G Rm X S hc t q
  exact wpAny_execs_nil (q .next .next m l own s.heap s.toks h rfl X S t trivial)
theorem TX.cons {st : Stmt} {rest : List Stmt} (h : TX1 w d sc st m l (tbh w d sc rest R)) : TX w d sc (st :: rest) m l R := by
  intro env L A B own s Q E c T hE G Rm X S hc t q
  refine wpAny_execs_cons (h env L A B own s _ E c T hE G Rm X S hc t fun f pf m' l' own' h' tk hr ho X' S' t' hf => ?_)
  cases f with
  | next =>
    cases pf with
    | next => exact hr env L A B own' _ Q E c T hE G Rm X' S' hc t' fun f2 pf2 m2 l2 own2 h2 tk2 hr2 ho2 X2 S2 t2 hf2 => q f2 pf2 m2 l2 own2 h2 tk2 hr2 (ho2.trans ho) X2 S2 t2 hf2
    | brk => exact hf.elim
    | cont => exact hf.elim
    | ret v => exact hf.elim
  | brk => cases pf with
    | brk => exact q .brk .brk m' l' own' h' tk hr ho X' S' t' hf
    | next => exact hf.elim
    | cont => exact hf.elim
    | ret v => exact hf.elim
  | cont => cases pf with
    | cont => exact q .cont .cont m' l' own' h' tk hr ho X' S' t' hf
    | next => exact hf.elim
    | brk => exact hf.elim
    | ret v => exact hf.elim
  | ret v => cases pf with
    | ret pv => exact q (.ret v) (.ret pv) m' l' own' h' tk hr ho X' S' t' hf
    | next => exact hf.elim
    | brk => exact hf.elim
    | cont => exact hf.elim
theorem TX1.ofPX {st : Stmt} {R' : PF → Env' → Prop} (h : PX1 w d sc st m R') (k : ∀ f m', R' f m' → R f m' l) : TX1 w d sc st m l R := by
  intro env L A B own s Q E c T hE G Rm X S hc t q
  refine h env L A B own s Q E hE G Rm X fun f pf m' own' h' tk hr ks X' hf => ?_
  have ha : ∀ b, b = c ∨ b = T → b ≠ L ∧ b ∉ own.acc.map Prod.snd := fun b hb => by
    refine ⟨(by rcases hb with rfl | rfl; exact S.cl; exact S.tl), fun hm => ?_⟩
    obtain ⟨p, hp, rfl⟩ := List.mem_map.mp hm
    rcases hb with h | h
    · exact (S.ac p hp).1 h
    · exact (S.ac p hp).2 h
  have t' : TT w c T l h' := t.at fun b o hb e => ks.keep b o (ha b hb).1 (ha b hb).2 (by simp) e
  refine q f pf m' l own' h' tk (k _ _ hr) ks.hid X' ⟨by rw [ks.hid]; exact S.hc, by rw [ks.hid]; exact S.ht, S.bc, S.bt, S.cl, S.tl, S.ct, fun p hp => ?_⟩ t' hf
  rcases ks.fresh p hp with h1 | ⟨_, h1 | h1⟩
  · obtain ⟨p', hp', e⟩ := List.mem_map.mp h1
    rw [← e]
    exact S.ac p' hp'
  · cases h1
  · obtain ⟨⟨oc, ec⟩, oT, eT⟩ := t.there
    exact ⟨fun h => (by rw [h, ec] at h1; cases h1), fun h => (by rw [h, eT] at h1; cases h1)⟩
theorem TX1.assign {x : Str} {xp pos : Pos} {e : Expr} {pv : PV} {l' : List Nat} (h : TE w d sc e m l pv l') (hp : pv.isAcc = false) (hk : sc.kind = .function) (hl : sc.names.lookup x = some .local) (hr : R .next ((x, pv) :: m) l')
    (hs : ∀ env, swapsWith e (some (.Name x xp)) pos.line env = pure false := by intro _; rfl) : TX1 w d sc (.Assign [.Name x xp] e pos) m l R := by
  intro env L A B own s Q E c T hE G Rm X S hc t q
  refine wpAny_Assign_Name (h env L A B own s _ E c T hE G Rm X S hc t fun v h1 t1 k1 w1 r1 => ?_) (hs _)
  refine store hE (s := { s with heap := h1, toks := t1 }) (X.kt S k1 w1) hp r1 hk hl fun h2 t2 k2 X2 => ?_
  refine q .next .next _ l' own h2 t2 hr rfl X2 S (w1.at fun b o hb e => k2.keep b o (by rcases hb with rfl | rfl; exact S.cl; exact S.tl) (fun hm => ?_) (by simp) e) trivial
  obtain ⟨p, hp, rfl⟩ := List.mem_map.mp hm
  rcases hb with h | h
  · exact (S.ac p hp).1 h
  · exact (S.ac p hp).2 h
theorem TX1.if {t : Expr} {body orelse : List Stmt} {pos : Pos} {b : Bool} (ht : PT w d sc t m b) (h1 : b = true → TX w d sc body m l R) (h2 : b = false → TX w d sc orelse m l R) : TX1 w d sc (.If t body orelse pos) m l R := by
  intro env L A B own s Q E c T hE G Rm X S hc tt q
  refine wpAny_If (ht env L A B own s _ E hE G Rm X fun h' t' k' => ?_)
  have go : ∀ {ss : List Stmt}, TX w d sc ss m l R → wpAny (model P w) A (execs ss env) Q E { s with heap := h', toks := t' } := fun hh =>
    hh env L A B own _ Q E c T hE G Rm (X.keep k') S hc (tt.keep k') fun f pf m' l' own' h2 tk hr ho X' S' t2 hf => q f pf m' l' own' h2 tk hr ho X' S' t2 hf
  cases b with
  | true => rw [if_pos rfl]; exact go (h1 rfl)
  | false => rw [if_neg Bool.false_ne_true]; exact go (h2 rfl)
def TTst (w : World) (d : Nat) (sc : Scope) (e : Expr) (m : Env') (l : List Nat) (b : Bool) : Prop :=
  ∀ (env : Env) (L : Addr) (A : Around) (B : Heap) (own : Own) (s : Shared) (Q : Bool → Shared → Prop) (E : Value → Shared → Prop) (c T : Addr),
    EnvOk env sc L → Gd w B → Room A d → St w B L own m s.heap → env.cells.lookup nTape = some c → TT w c T l s.heap →
    (∀ h' tk, Keep s.heap h' → Q b { s with heap := h', toks := tk }) → wpAny (model P w) A (isTrue e env (eval e env)) Q E s
theorem TTst.tapeOr {np pos : Pos} {y : Expr} {b : Bool} (hk : sc.kind = .function) (hl : sc.names.lookup nTape = some .cell) (hlen : l.length < 2 ^ 62) (hy : PT w d sc y m b) : TTst w d sc (.BoolOp .Or [.Name nTape np, y] pos) m l (!l.isEmpty || b) := by
  intro env L A B own s Q E c T hE G Rm X hc t q
  refine isTrue_or (isTrue_plain (tapeName hE hk hl hc t ?_) rfl)
  obtain ⟨_, vs, n, e, hv⟩ := t
  have hsz : vs.size = l.length := by rw [← Array.length_toList, (hv (fun _ => none)).length, List.length_map]
  refine wpAny_truthy_list (listGet e) (by rw [hsz]; omega) ?_
  have e : (!vs.isEmpty) = !l.isEmpty := by
    unfold Array.isEmpty
    rw [hsz]
    cases l <;> rfl
  rw [e]
  cases l with
  | cons x l =>
    show if (true = true) then _ else _
    rw [if_pos rfl]
    exact q _ _ (Keep.refl _)
  | nil =>
    show if (false = true) then _ else _
    rw [if_neg Bool.false_ne_true]
    show wpAny _ _ (isTrue (.BoolOp .Or [y] pos) env _) _ _ _
    have h1 : PT w d sc (.BoolOp .Or [y] pos) m b := by
      cases b with
      | true => exact PT.orT hy
      | false => exact PT.orF hy PT.orNil
    exact h1 env L A B own _ Q E hE G Rm X q
theorem TX1.while {t : Expr} {body : List Stmt} {pos : Pos} (Inv : Nat → Env' → List Nat → Prop)
    (turn : ∀ n m' l', Inv n m' l' → ∃ b, TTst w d sc t m' l' b ∧ (b = true → TX w d sc body m' l' (fun f m2 l2 => f = .next ∧ ∃ n', n' < n ∧ Inv n' m2 l2)) ∧ (b = false → R .next m' l'))
    (n : Nat) (h : Inv n m l) : TX1 w d sc (.While t body [] pos) m l R := by
  intro env L A B own s Q E c T hE G Rm X S hc tt q
  refine wpAny_While (codeAny_whileLoop (fun n s' => ∃ m' l' own' h' tk, s' = { s with heap := h', toks := tk } ∧ Inv n m' l' ∧ own'.hid = own.hid ∧ St w B L own' m' h' ∧ Sepa B L own' c T ∧ TT w c T l' h') ?_ n ⟨m, l, own, s.heap, s.toks, rfl, h, rfl, X, S, tt⟩)
  rintro n s' ⟨m', l', own', h', tk, rfl, hi, ho, X', S', t'⟩
  obtain ⟨b, ht, hb, hn⟩ := turn n m' l' hi
  refine ht env L A B own' _ _ _ c T hE G Rm X' hc t' fun h2 t2 k2 => ?_
  cases b with
  | false =>
    rw [if_neg Bool.false_ne_true]
    exact wpAny_execs_nil (q .next .next m' l' own' h2 t2 (hn rfl) ho (X'.keep k2) S' (t'.keep k2) trivial)
  | true =>
    rw [if_pos rfl]
    refine hb rfl env L A B own' _ _ _ c T hE G Rm (X'.keep k2) S' hc (t'.keep k2) fun f pf m3 l3 own3 h3 t3 hr ho3 X3 S3 tt3 hf => ?_
    obtain ⟨rfl, n', hn', hi'⟩ := hr
    cases f with
    | next => exact ⟨n', hn', m3, l3, own3, h3, t3, rfl, hi', ho3.trans ho, X3, S3, tt3⟩
    | brk => exact hf.elim
    | cont => exact hf.elim
    | ret v => exact hf.elim
end
end
section
section
theorem hrun_app (a r : List Nat) : hrun (a ++ r) ≤ a.length + hrun r := by
  induction a with
  | nil => simp
  | cons c a ih =>
    rw [List.cons_append, hrun_cons, List.length_cons]
    split <;> omega
theorem good_free {p r : List Nat} (h : 92 ∉ p) (g : good r) : good (p ++ r) := by
  induction p with
  | nil => exact g
  | cons c p ih =>
    refine ⟨fun e => absurd (e ▸ List.mem_cons_self) h, ih fun hm => h (List.mem_cons_of_mem _ hm)⟩
structure GT (n : Nat) (r : List Nat) : Prop where
  g : good r
  h : hrun r ≤ n
  t : ∀ t, r = 120 :: t ∨ r = 85 :: t → hrun t ≤ n
theorem GT.ok {n : Nat} {r : List Nat} (x : GT n r) (hn : n ≤ 4) : okAfter r := by
  cases r with
  | nil => trivial
  | cons k r =>
    refine ⟨fun e => ?_, fun e h8 => ?_⟩
    · subst e; have := x.t r (.inl rfl); omega
    · subst e; have := x.t r (.inr rfl); omega
theorem GT.nil : GT 0 [] := ⟨trivial, by decide, fun t h => by rcases h with h | h <;> cases h⟩
theorem GT.quote : GT 0 [39] := ⟨⟨fun h => (by cases h), trivial⟩, by decide, fun t h => by rcases h with h | h <;> cases h⟩
theorem GT.back {n : Nat} {p r : List Nat} (g : okAfter (p ++ r)) (g2 : good (p ++ r)) : GT n (92 :: p ++ r) :=
  ⟨⟨fun _ => g, g2⟩, by rw [List.cons_append, hrun_cons, if_neg (by decide)]; exact Nat.zero_le _, fun t h => by rcases h with h | h <;> cases h⟩
theorem ok_other {k : Nat} {r : List Nat} (h1 : k ≠ 120) (h2 : k ≠ 85) : okAfter (k :: r) := ⟨fun e => absurd e h1, fun e => absurd e h2⟩
theorem digL_hex {base : Nat} {sg : List Nat} (hb : base = 8 ∨ base = 16) (hs : sg = SMA ∨ sg = BGA) : ∀ n v, ∀ c ∈ digL base sg n v, isHex c = true
  | 0, _, c, h => by cases h
  | n + 1, v, c, h => by
    rcases List.mem_append.mp h with h | h
    · exact digL_hex hb hs n _ c h
    · rcases List.mem_singleton.mp h with rfl
      have hlt : v % base < 16 := by
        rcases hb with rfl | rfl
        · have := Nat.mod_lt v (show 0 < 8 by decide); omega
        · exact Nat.mod_lt v (by decide)
      have : ∀ i, i < 16 → isHex (SMA.getD i 0) = true ∧ isHex (BGA.getD i 0) = true := by decide
      rcases hs with rfl | rfl
      · exact (this _ hlt).1
      · exact (this _ hlt).2
theorem hex_no {p : List Nat} (h : ∀ c ∈ p, isHex c = true) : 92 ∉ p := fun hm => by have := h _ hm; revert this; decide
theorem worth_app (b : Nat) (x : List Nat) (c : Nat) : worth b (x ++ [c]) = worth b x * b + hexv c := by
  unfold worth
  rw [List.foldl_append]; rfl
theorem worth_dig {sg : List Nat} (hs : sg = SMA ∨ sg = BGA) : ∀ n v, v < 16 ^ n → worth 16 (digL 16 sg n v) = v
  | 0, v, h => by have : v = 0 := by simpa using h
                  subst this; rfl
  | n + 1, v, h => by
    show worth 16 (digL 16 sg n (v / 16) ++ [_]) = v
    rw [worth_app, worth_dig hs n (v / 16) (by rw [Nat.pow_succ] at h; exact Nat.div_lt_of_lt_mul (by rw [Nat.mul_comm]; exact h))]
    have : ∀ i, i < 16 → hexv (SMA.getD i 0) = i ∧ hexv (BGA.getD i 0) = i := by decide
    have hm := this (v % 16) (Nat.mod_lt _ (by decide))
    have e : hexv (sg.getD (v % 16) 0) = v % 16 := by rcases hs with rfl | rfl; exact hm.1; exact hm.2
    rw [e]
    omega
theorem digL_head {base : Nat} {sg : List Nat} {n v : Nat} : ∃ c t, digL base sg (n + 1) v = c :: t := by
  cases h : digL base sg (n + 1) v with
  | nil => have := digL_len base sg (n + 1) v; rw [h] at this; cases this
  | cons c t => exact ⟨c, t, rfl⟩
theorem fold_worth (b : Nat) : ∀ (y : List Nat) (a : Nat), y.foldl (fun acc c => acc * b + hexv c) a = a * b ^ y.length + y.foldl (fun acc c => acc * b + hexv c) 0
  | [], a => by simp
  | c :: y, a => by
    rw [List.foldl_cons, fold_worth b y (a * b + hexv c), List.foldl_cons, fold_worth b y (0 * b + hexv c), List.length_cons, Nat.pow_succ, Nat.zero_mul, Nat.zero_add, Nat.add_mul, Nat.mul_assoc, Nat.mul_comm b (b ^ y.length), Nat.add_assoc]
theorem worth_cat (b : Nat) (x y : List Nat) : worth b (x ++ y) = worth b x * b ^ y.length + worth b y := by
  unfold worth
  rw [List.foldl_append, fold_worth b y]

theorem GT.mono {n m : Nat} {r : List Nat} (x : GT n r) (h : n ≤ m) : GT m r := ⟨x.g, Nat.le_trans x.h h, fun t e => Nat.le_trans (x.t t e) h⟩
theorem GT.plain {n : Nat} {r : List Nat} (x : GT n r) : ∀ p ∈ plainT, GT (n + 1) (p ++ r) := by
  have h92 : ∀ p ∈ plainT, 92 ∉ p := by decide
  intro p hp
  refine ⟨good_free (h92 p hp) x.g, ?_, ?_⟩
  · have h0 := x.h
    unfold plainT at hp
    simp only [List.mem_cons, List.not_mem_nil, or_false] at hp
    rcases hp with rfl | rfl | rfl | rfl | rfl | rfl | rfl | rfl | rfl | rfl | rfl | rfl <;>
      simp only [List.cons_append, List.nil_append, hrun_cons] <;> (repeat (first | rw [if_pos (by decide)] | rw [if_neg (by decide)])) <;> omega
  · intro t ht
    have h0 := x.h
    unfold plainT at hp
    simp only [List.mem_cons, List.not_mem_nil, or_false] at hp
    rcases hp with rfl | rfl | rfl | rfl | rfl | rfl | rfl | rfl | rfl | rfl | rfl | rfl <;>
      (rcases ht with ht | ht <;> (simp only [List.cons_append, List.nil_append] at ht; cases ht) <;> omega)

theorem GT.lone {n : Nat} {r : List Nat} (x : GT n r) (hn : n ≤ 4) : GT (n + 1) (92 :: r) :=
  (GT.back (p := []) (n := n + 1) (x.ok hn) x.g)
theorem pieceL_len (n : Nat) : (pieceL n).length ≤ 10 := by
  have h1 : ∀ i, (plainT.getD i []).length ≤ 10 := fun i => by
    rw [List.getD_eq_getElem?_getD]
    by_cases hi : i < plainT.length
    · have : ∀ p ∈ plainT, p.length ≤ 10 := by decide
      rw [List.getElem?_eq_getElem hi]
      exact this _ (List.getElem_mem hi)
    · rw [List.getElem?_eq_none (by omega)]; decide
  have h2 : ∀ i, (brokenT.getD i []).length ≤ 10 := fun i => by
    rw [List.getD_eq_getElem?_getD]
    by_cases hi : i < brokenT.length
    · have : ∀ p ∈ brokenT, p.length ≤ 10 := by decide
      rw [List.getElem?_eq_getElem hi]
      exact this _ (List.getElem_mem hi)
    · rw [List.getElem?_eq_none (by omega)]; decide
  unfold pieceL
  simp only []
  repeat' split
  all_goals first | exact h1 _ | exact h2 _ | (simp only [List.length_append, List.length_cons, List.length_nil, digL_len]; omega)
theorem GT.piece {n k : Nat} {r : List Nat} (x : GT n r) (hn : n ≤ 2) : GT (n + 1) (pieceL k ++ r) := by
  unfold pieceL
  simp only []
  have hsg : ∀ v : Nat, (if v / 5 % 2 ≠ 0 then BGA else SMA) = SMA ∨ (if v / 5 % 2 ≠ 0 then BGA else SMA) = BGA := fun v => by split; exact .inr rfl; exact .inl rfl
  have hsg := hsg (k / 11)
  generalize (if k / 11 / 5 % 2 ≠ 0 then BGA else SMA) = sg at hsg ⊢
  split
  · have hlt : k / 11 % 12 < plainT.length := Nat.mod_lt _ (by decide)
    rw [List.getD_eq_getElem?_getD, List.getElem?_eq_getElem hlt]
    exact x.plain _ (List.getElem_mem hlt)
  split
  · have hlt : k / 11 % 12 < SIMP.length := Nat.mod_lt _ (by decide)
    rw [List.getD_eq_getElem?_getD, List.getElem?_eq_getElem hlt]
    have hs : ∀ c ∈ SIMP, c ≠ 120 ∧ c ≠ 85 := by decide
    have := hs _ (List.getElem_mem hlt)
    generalize SIMP[k / 11 % 12] = c at this
    exact GT.back (p := [c]) (ok_other this.1 this.2) ⟨fun _ => x.ok (by omega), x.g⟩
  split
  · obtain ⟨c, t, e⟩ := digL_head (base := 8) (sg := SMA) (n := k / 11 % 3) (v := 65 + 11 * (k / 11))
    have hx := digL_hex (base := 8) (sg := SMA) (.inl rfl) (.inl rfl) (k / 11 % 3 + 1) (65 + 11 * (k / 11))
    rw [Nat.add_comm 1, e] at *
    have hc := hx c List.mem_cons_self
    refine GT.back (p := c :: t) (ok_other (fun h => ?_) (fun h => ?_)) (good_free (hex_no hx) x.g)
    · subst h; revert hc; decide
    · subst h; revert hc; decide
  split
  · have key : ∀ m v, m ≤ 2 → GT (n + 1) ([92, 120] ++ digL 16 sg m v ++ r) := fun m v hm => by
      have hx := digL_hex (base := 16) (.inr rfl) hsg m v
      have hl := digL_len 16 sg m v
      generalize digL 16 sg m v = p at hx hl
      refine GT.back (p := 120 :: p) ⟨fun _ => ?_, fun h => by cases h⟩ ⟨fun h => (by cases h), good_free (hex_no hx) x.g⟩
      have : hrun (p.append r) ≤ p.length + hrun r := hrun_app p r
      have := x.h
      omega
    split
    · exact key _ _ (by decide)
    · exact key _ _ (by decide)
  split
  · have hx := digL_hex (base := 16) (.inr rfl) hsg 4 ((65 + 4099 * (k / 11)) % 55296)
    generalize digL 16 sg 4 ((65 + 4099 * (k / 11)) % 55296) = p at hx
    exact GT.back (p := 117 :: p) (ok_other (by decide) (by decide)) ⟨fun h => (by cases h), good_free (hex_no hx) x.g⟩
  split
  · have hx := digL_hex (base := 16) (.inr rfl) hsg 8 (65536 + (62976 + 4099 * (k / 11)) % 1048576)
    have hl := digL_len 16 sg 8 (65536 + (62976 + 4099 * (k / 11)) % 1048576)
    have hm : (62976 + 4099 * (k / 11)) % 1048576 < 1048576 := Nat.mod_lt _ (by decide)
    have hw := worth_dig hsg 8 (65536 + (62976 + 4099 * (k / 11)) % 1048576) (by omega)
    generalize digL 16 sg 8 (65536 + (62976 + 4099 * (k / 11)) % 1048576) = p at hx hl hw
    refine GT.back (p := 85 :: p) ⟨fun h => (by cases h), fun _ _ => ?_⟩ ⟨fun h => (by cases h), good_free (hex_no hx) x.g⟩
    show worth 16 ((p ++ r).take 8) ≤ _
    rw [List.take_append_of_le_length (by omega), List.take_of_length_le (by omega), hw]
    omega
  split
  · exact GT.back (p := [117, 52, 49]) (ok_other (by decide) (by decide)) ⟨fun h => (by cases h), fun h => (by cases h), fun h => (by cases h), x.g⟩
  split
  · refine GT.back (p := [85, 48, 48, 48, 49, 102, 54]) ⟨fun h => (by cases h), fun _ h8 => ?_⟩ ⟨fun h => (by cases h), fun h => (by cases h), fun h => (by cases h), fun h => (by cases h), fun h => (by cases h), fun h => (by cases h), fun h => (by cases h), x.g⟩
    show worth 16 (([48, 48, 48, 49, 102, 54] ++ r).take 8) ≤ _
    have e : ([48, 48, 48, 49, 102, 54] ++ r).take 8 = [48, 48, 48, 49, 102, 54] ++ r.take 2 := by simp
    have h8' : 8 ≤ hrun ([48, 48, 48, 49, 102, 54] ++ r) := h8
    have hh := take_hrun _ 8 h8'
    rw [e] at hh ⊢
    rw [worth_cat]
    have hl : (r.take 2).length ≤ 2 := by rw [List.length_take]; omega
    have hw := worth_lt (b := 16) (r.take 2) fun c hc => hex_lt (hh c (List.mem_append_right _ hc))
    have e0 : worth 16 [48, 48, 48, 49, 102, 54] = 502 := by decide
    rw [e0]
    have hp : 16 ^ (r.take 2).length ≤ 256 := by
      have := Nat.pow_le_pow_right (n := 16) (by decide) hl
      simpa using this
    have := Nat.mul_le_mul_left 502 hp
    omega
  split
  · exact x.lone (by omega)
  split
  · have hlt : k / 11 % 5 < brokenT.length := Nat.mod_lt _ (by decide)
    rw [List.getD_eq_getElem?_getD, List.getElem?_eq_getElem hlt]
    have hm := List.getElem_mem hlt
    generalize brokenT[k / 11 % 5] = p at hm
    show GT (n + 1) (p ++ r)
    have h0 := x.h
    unfold brokenT at hm
    simp only [List.mem_cons, List.not_mem_nil, or_false] at hm
    rcases hm with rfl | rfl | rfl | rfl | rfl
    · exact GT.back (p := [113]) (ok_other (by decide) (by decide)) ⟨fun h => (by cases h), x.g⟩
    · exact GT.back (p := [120]) ⟨fun _ => by show hrun r ≤ 4; omega, fun h => by cases h⟩ ⟨fun h => (by cases h), x.g⟩
    · exact GT.back (p := [56]) (ok_other (by decide) (by decide)) ⟨fun h => (by cases h), x.g⟩
    · exact GT.back (p := [32]) (ok_other (by decide) (by decide)) ⟨fun h => (by cases h), x.g⟩
    · exact GT.back (p := [65]) (ok_other (by decide) (by decide)) ⟨fun h => (by cases h), x.g⟩
  · exact x.mono (Nat.le_succ n)

theorem good_pieces (f : Nat → Nat) (m : Nat) (hm : m ≤ 3) : good (joinL [] ((List.range m).map fun i => pieceL (f i))) ∧ (joinL [] ((List.range m).map fun i => pieceL (f i))).length ≤ 30 := by
  have a := pieceL_len
  match m, hm with
  | 0, _ => exact ⟨trivial, Nat.zero_le _⟩
  | 1, _ =>
    have := (GT.nil.piece (k := f 0) (by decide)).g
    rw [List.append_nil] at this
    exact ⟨this, by have := a (f 0); show (pieceL (f 0)).length ≤ 30; omega⟩
  | 2, _ =>
    have := ((GT.nil.piece (k := f 1) (by decide)).piece (k := f 0) (by decide)).g
    rw [List.append_nil] at this
    refine ⟨by show good (pieceL (f 0) ++ [] ++ pieceL (f 1)); rw [List.append_nil]; exact this, ?_⟩
    have h0 := a (f 0)
    have h1 := a (f 1)
    show (pieceL (f 0) ++ [] ++ pieceL (f 1)).length ≤ 30
    simp only [List.length_append, List.length_nil]; omega
  | 3, _ =>
    have := (((GT.nil.piece (k := f 2) (by decide)).piece (k := f 1) (by decide)).piece (k := f 0) (by decide)).g
    rw [List.append_nil] at this
    refine ⟨by show good (pieceL (f 0) ++ [] ++ (pieceL (f 1) ++ [] ++ pieceL (f 2))); rw [List.append_nil, List.append_nil]; exact this, ?_⟩
    have h0 := a (f 0)
    have h1 := a (f 1)
    have h2 := a (f 2)
    show (pieceL (f 0) ++ [] ++ (pieceL (f 1) ++ [] ++ pieceL (f 2))).length ≤ 30
    simp only [List.length_append, List.length_nil]; omega
theorem good_char (x k : Nat) (hx : x ≤ 1) : good (List.replicate x 76 ++ [39] ++ pieceL k ++ [39]) ∧ (List.replicate x 76 ++ [39] ++ pieceL k ++ [39]).length ≤ 30 := by
  have := (GT.quote.piece (k := k) (by decide)).g
  refine ⟨?_, ?_⟩
  · rw [List.append_assoc]
    refine good_free ?_ this
    intro h
    rcases List.mem_append.mp h with h | h
    · have := List.eq_of_mem_replicate h; omega
    · simp at h
  · have := pieceL_len k
    simp only [List.length_append, List.length_replicate, List.length_singleton]; omega
end
end
section
section
def Stop34 (s : List Nat) : Prop := s = [] ∨ ∃ t, s = 34 :: t
theorem hrun_stop34 {s : List Nat} (hs : Stop34 s) : ∀ r : List Nat, hrun (r ++ s) = hrun r
  | [] => by
    rcases hs with rfl | ⟨t, rfl⟩
    · rfl
    · rw [List.nil_append, hrun_cons, if_neg (by decide), hrun_nil]
  | c :: r => by rw [List.cons_append, hrun_cons, hrun_cons, hrun_stop34 hs r]
theorem ok_stop34 {s : List Nat} (hs : Stop34 s) : ∀ p : List Nat, okAfter p → okAfter (p ++ s)
  | [], _ => by
    rcases hs with rfl | ⟨t, rfl⟩
    · trivial
    · exact ok_other (by decide) (by decide)
  | k :: r, h => by
    refine ⟨fun e => ?_, fun e h8 => ?_⟩
    · show hrun (r ++ s) ≤ 4
      rw [hrun_stop34 hs]; exact h.1 e
    · have h8' : 8 ≤ hrun (r ++ s) := h8
      rw [hrun_stop34 hs] at h8'
      show worth 16 ((r ++ s).take 8) ≤ _
      rw [List.take_append_of_le_length (Nat.le_trans h8' (hrun_le r))]
      exact h.2 e h8'
theorem good_app34 {s : List Nat} (hs : Stop34 s) (g : good s) : ∀ p : List Nat, good p → good (p ++ s)
  | [], _ => g
  | _ :: p, h => ⟨fun e => ok_stop34 hs p (h.1 e), good_app34 hs g p h.2⟩
theorem good_glue : ∀ ts : List (List Nat), (∀ t ∈ ts, good t) → good (joinL [34, 34] ts)
  | [], _ => trivial
  | [x], h => h x (by simp)
  | x :: y :: r, h => by
    show good (x ++ [34, 34] ++ joinL [34, 34] (y :: r))
    rw [List.append_assoc]
    refine good_app34 (.inr ⟨_, rfl⟩) ?_ x (h x (by simp))
    exact ⟨fun e => (by cases e), fun e => (by cases e), good_glue (y :: r) fun t ht => h t (List.mem_cons_of_mem _ ht)⟩
theorem joinL_len {g : List Nat} {k : Nat} (hg : g.length ≤ 2) : ∀ ts : List (List Nat), (∀ t ∈ ts, t.length ≤ k) → (joinL g ts).length ≤ (k + 2) * ts.length
  | [], _ => by simp [joinL]
  | [x], h => by have := h x (by simp); show x.length ≤ (k + 2) * 1; omega
  | x :: y :: r, h => by
    have h1 := h x (by simp)
    have h2 := joinL_len hg (y :: r) fun t ht => h t (List.mem_cons_of_mem _ ht)
    show (x ++ g ++ joinL g (y :: r)).length ≤ (k + 2) * ((y :: r).length + 1)
    rw [List.length_append, List.length_append, Nat.mul_add]; omega

structure RowL (r : Row) : Prop where
  len : r.text.length ≤ 600
  str : r.kind = kSTR → good r.text
  chr : r.kind = kCHR → good r.text
theorem RowL.ok {r : Row} (h : RowL r) : r.Ok := ⟨by have := h.len; omega, fun e => e.elim h.str h.chr⟩
theorem quoted_kind (r : Row) : r.quoted.kind = r.kind := by unfold Row.quoted; split <;> rfl
theorem told_kind (r : Row) : r.told.kind = r.kind := by unfold Row.told; split <;> rfl
theorem quoted_col (r : Row) : r.quoted.col = r.col := by unfold Row.quoted; split <;> rfl
theorem quoted_text {r : Row} (h : r.kind = kSTR) : r.quoted.text = [34] ++ r.text ++ [34] := by unfold Row.quoted; rw [if_pos h]
theorem quoted_not {r : Row} (h : ¬ r.kind = kSTR) : r.quoted = r := by unfold Row.quoted; rw [if_neg h]
theorem quoted_with {r : Row} {t : List Nat} (h : r.kind = kSTR) : ({ r with text := t } : Row).quoted = { r.quoted with text := [34] ++ t ++ [34] } := by
  have e : r.quoted = { r with text := [34] ++ r.text ++ [34] } := by unfold Row.quoted; rw [if_pos h]
  rw [e]
  unfold Row.quoted
  exact if_pos h
theorem told_len (r : Row) : r.told.text.length ≤ r.text.length := by
  unfold Row.told
  split
  · exact rd_len r.text
  · exact Nat.le_refl _
theorem quoted_len (r : Row) : r.quoted.text.length ≤ r.text.length + 2 := by
  unfold Row.quoted
  split
  · simp only [List.length_append, List.length_singleton]; omega
  · omega
theorem RowL.conv {r : Row} (h : RowL r) : RowC r.quoted := by
  refine ⟨by have := quoted_len r; have := h.len; omega, fun e => ?_, fun e => ?_⟩
  · rw [quoted_kind] at e
    rw [quoted_text e]
    refine ⟨by simp, ?_⟩
    have e1 : ([34] ++ r.text ++ [34]).drop 1 = r.text ++ [34] := by simp
    have e2 : ([34] ++ r.text ++ [34]).length - 1 - 1 = r.text.length := by simp
    rw [e1, e2, List.take_left' rfl]
    exact h.str e
  · rw [quoted_kind] at e
    have hn : ¬ r.kind = kSTR := by rw [e]; decide
    rw [quoted_not hn]
    exact h.chr e

theorem jF_good {g : List Nat} : ∀ {l : List Row}, (∀ r ∈ l, RowL r) → ∀ t ∈ (jF g l).1, good t
  | [], _, t, ht => by cases ht
  | r :: l, h, t, ht => by
    by_cases hk : r.kind = kSTR
    · rw [jF_str hk] at ht
      rcases List.mem_cons.mp ht with rfl | ht
      · exact (h r List.mem_cons_self).str hk
      · exact jF_good (fun q hq => h q (List.mem_cons_of_mem _ hq)) t ht
    · rw [jF_not hk] at ht; cases ht
theorem joinQ : ∀ (ts : List (List Nat)), ts ≠ [] → joinL [] (ts.map fun t => [34] ++ t ++ [34]) = [34] ++ joinL [34, 34] ts ++ [34]
  | [], h => absurd rfl h
  | [x], _ => rfl
  | x :: y :: r, _ => by
    show [34] ++ x ++ [34] ++ [] ++ joinL [] ((y :: r).map fun t => [34] ++ t ++ [34]) = [34] ++ (x ++ [34, 34] ++ joinL [34, 34] (y :: r)) ++ [34]
    rw [joinQ (y :: r) (by simp)]
    simp
theorem jF_quoted : ∀ l : List Row, jF [] (l.map Row.quoted) = ((jF [34, 34] l).1.map fun t => [34] ++ t ++ [34], (jF [34, 34] l).2.map Row.quoted) ∧ jn [] (l.map Row.quoted) = (jn [34, 34] l).map Row.quoted
  | [] => ⟨rfl, rfl⟩
  | r :: l => by
    obtain ⟨ih1, ih2⟩ := jF_quoted l
    by_cases hk : r.kind = kSTR
    · have hq : r.quoted.kind = kSTR := by rw [quoted_kind]; exact hk
      rw [List.map_cons, jF_str hq, jF_str hk, jn_str hq, jn_str hk, ih1]
      refine ⟨?_, ?_⟩
      · rw [quoted_text hk]; rfl
      · rw [List.map_cons]
        refine congrArg (fun z => z :: (jF [34, 34] l).2.map Row.quoted) (?_ : _ = ({ r with text := joinL [34, 34] (r.text :: (jF [34, 34] l).1) } : Row).quoted)
        have e : ({ r with text := joinL [34, 34] (r.text :: (jF [34, 34] l).1) } : Row).quoted = { r.quoted with text := [34] ++ joinL [34, 34] (r.text :: (jF [34, 34] l).1) ++ [34] } := quoted_with hk
        refine Eq.trans ?_ e.symm
        have : r.quoted.text :: ((jF [34, 34] l).1.map fun t => [34] ++ t ++ [34]) = (r.text :: (jF [34, 34] l).1).map fun t => [34] ++ t ++ [34] := by
          rw [quoted_text hk]; rfl
        refine congrArg (fun t => ({ r.quoted with text := t } : Row)) ?_
        dsimp only
        rw [this, joinQ _ (by simp)]
    · have hq : ¬ r.quoted.kind = kSTR := by rw [quoted_kind]; exact hk
      rw [List.map_cons, jF_not hq, jF_not hk, jn_not hq, jn_not hk, ih2]
      exact ⟨rfl, rfl⟩

theorem plus_text (q : Row) (a b : List Nat) : (({ q with text := a } : Row).plus b) = { q with text := a ++ b } := rfl
theorem cc_jn : ∀ (l : List (Addr × Row)), (cc none l).map Prod.snd = jn [] (l.map Prod.snd) ∧ ∀ (x : Addr) (q : Row), (cc (some (x, q)) l).map Prod.snd = { q with text := joinL [] (q.text :: (jF [] (l.map Prod.snd)).1) } :: (jF [] (l.map Prod.snd)).2
  | [] => ⟨rfl, fun x q => rfl⟩
  | p :: l => by
    obtain ⟨ih1, ih2⟩ := cc_jn l
    obtain ⟨y, r⟩ := p
    by_cases hk : r.kind = kSTR
    · refine ⟨?_, fun x q => ?_⟩
      · show (if r.kind = kSTR then cc (some (y, r)) l else _).map Prod.snd = _
        rw [if_pos hk, ih2, List.map_cons, jn_str hk]
      · show (if r.kind = kSTR then cc (some (x, q.plus r.text)) l else _).map Prod.snd = _
        rw [if_pos hk, ih2, List.map_cons, jF_str hk]
        have : ∀ (a b : List Nat) (ts : List (List Nat)), joinL [] ((a ++ b) :: ts) = joinL [] (a :: b :: ts) := by
          intro a b ts
          cases ts with
          | nil => show a ++ b = a ++ [] ++ b; simp
          | cons t ts => show a ++ b ++ [] ++ joinL [] (t :: ts) = a ++ [] ++ (b ++ [] ++ joinL [] (t :: ts)); simp
        show ({ q with text := joinL [] ((q.text ++ r.text) :: (jF [] (l.map Prod.snd)).1) } : Row) :: _ = _
        rw [this]
    · refine ⟨?_, fun x q => ?_⟩
      · show (if r.kind = kSTR then _ else (y, r) :: cc none l).map Prod.snd = _
        rw [if_neg hk, List.map_cons, ih1, List.map_cons, jn_not hk]
      · show (if r.kind = kSTR then _ else (x, q) :: (y, r) :: cc none l).map Prod.snd = _
        rw [if_neg hk, List.map_cons, List.map_cons, ih1, List.map_cons, jF_not hk]
        rfl
theorem cc_sub : ∀ (l : List (Addr × Row)), ((cc none l).map Prod.fst).Sublist (l.map Prod.fst) ∧ ∀ (p : Addr × Row), ((cc (some p) l).map Prod.fst).Sublist (p.1 :: l.map Prod.fst)
  | [] => ⟨.slnil, fun p => List.Sublist.refl _⟩
  | p :: l => by
    obtain ⟨ih1, ih2⟩ := cc_sub l
    by_cases hk : p.2.kind = kSTR
    · refine ⟨?_, fun q => ?_⟩
      · show ((if p.2.kind = kSTR then cc (some p) l else _).map Prod.fst).Sublist _
        rw [if_pos hk]; exact ih2 p
      · show ((if p.2.kind = kSTR then cc (some (q.1, q.2.plus p.2.text)) l else _).map Prod.fst).Sublist _
        rw [if_pos hk]
        exact (ih2 _).trans (List.Sublist.cons_cons _ (List.sublist_cons_self ..))
    · refine ⟨?_, fun q => ?_⟩
      · show ((if p.2.kind = kSTR then _ else p :: cc none l).map Prod.fst).Sublist _
        rw [if_neg hk]; exact List.Sublist.cons_cons _ ih1
      · show ((if p.2.kind = kSTR then _ else q :: p :: cc none l).map Prod.fst).Sublist _
        rw [if_neg hk]; exact List.Sublist.cons_cons _ (List.Sublist.cons_cons _ ih1)

theorem jn_rowL {l : List Row} (hn : l.length ≤ 18) (h : ∀ r ∈ l, RowL r) (h30 : ∀ r ∈ l, r.text.length ≤ 30) : ∀ r ∈ jn [34, 34] l, RowL r := by
  have main : ∀ (l : List Row), l.length ≤ 18 → (∀ r ∈ l, RowL r) → (∀ r ∈ l, r.text.length ≤ 30) → (∀ r ∈ jn [34, 34] l, RowL r) ∧ ∀ r ∈ (jF [34, 34] l).2, RowL r := by
    intro l
    induction l with
    | nil => intro _ _ _; exact ⟨fun r hr => (by cases hr), fun r hr => (by cases hr)⟩
    | cons r l ih =>
      intro hn h h30
      obtain ⟨i1, i2⟩ := ih (by simp only [List.length_cons] at hn; omega) (fun q hq => h q (List.mem_cons_of_mem _ hq)) fun q hq => h30 q (List.mem_cons_of_mem _ hq)
      by_cases hk : r.kind = kSTR
      · rw [jn_str hk, jF_str hk]
        refine ⟨fun q hq => ?_, i2⟩
        rcases List.mem_cons.mp hq with rfl | hq
        · have ht := jF_texts (glue := [34, 34]) (l := r :: l) h30
          have hg := jF_good (g := [34, 34]) h
          rw [jF_str hk] at ht hg
          have hl := joinL_len (g := [34, 34]) (by decide) _ ht.1
          have h2 : (r.text :: (jF [34, 34] l).1).length ≤ 18 := Nat.le_trans ht.2 hn
          have := Nat.mul_le_mul_left (30 + 2) h2
          exact ⟨Nat.le_trans hl (by omega), fun _ => good_glue _ hg, fun _ => good_glue _ hg⟩
        · exact i2 q hq
      · rw [jn_not hk, jF_not hk]
        have : ∀ q ∈ r :: jn [34, 34] l, RowL q := fun q hq => by
          rcases List.mem_cons.mp hq with rfl | hq
          · exact h q List.mem_cons_self
          · exact i1 q hq
        exact ⟨this, this⟩
  exact (main l hn h h30).1
theorem jn_len (g : List Nat) : ∀ l : List Row, (jn g l).length ≤ l.length ∧ (jF g l).2.length ≤ l.length
  | [] => ⟨Nat.le_refl _, Nat.le_refl _⟩
  | r :: l => by
    obtain ⟨i1, i2⟩ := jn_len g l
    by_cases hk : r.kind = kSTR
    · rw [jn_str hk, jF_str hk]
      simp only [List.length_cons]
      exact ⟨by omega, by omega⟩
    · rw [jn_not hk, jF_not hk]
      simp only [List.length_cons]
      exact ⟨by omega, by omega⟩
end
end
section
section
variable {w : World} {d : Nat} {sc : Scope} {m : Env'}
theorem TX1.mono {st : Stmt} {l : List Nat} {R R' : PF → Env' → List Nat → Prop} (h : TX1 w d sc st m l R) (k : ∀ f m' l', R f m' l' → R' f m' l') : TX1 w d sc st m l R' := by
  intro env L A B own s Q E c T hE G Rm X S hc t q
  exact h env L A B own s Q E c T hE G Rm X S hc t fun f pf m' l' own' h' tk hr => q f pf m' l' own' h' tk (k _ _ _ hr)
def othK : Nat → Nat → List Nat
  | 0, _ => [73, 68]
  | 1, _ => [78, 85, 77, 66, 69, 82]
  | 2, 0 => [92]
  | 2, 1 => [43]
  | 2, 2 => [35, 35]
  | 2, _ => [40]
  | _, 0 => [87, 83]
  | _, 1 => [66, 79, 76]
  | _, _ => [87, 83]
def othT : Nat → Nat → List Nat
  | 0, 0 => [76]
  | 0, 1 => [110]
  | 0, 2 => [105, 110, 116]
  | 0, _ => [120, 52, 49]
  | 1, 0 => [48]
  | 1, 1 => [49, 50]
  | 1, 2 => [48, 120, 49, 70]
  | 1, _ => [55, 117]
  | 2, 0 => [92]
  | 2, 1 => [43]
  | 2, 2 => [35, 35]
  | 2, _ => [40]
  | _, 0 => [32, 32]
  | _, 1 => []
  | _, 2 => []
  | _, _ => [9]
theorem oth_fine : ∀ i, i < 4 → ∀ j, j < 4 → othK i j ≠ kSTR ∧ othK i j ≠ kCHR ∧ (othT i j).length ≤ 30 := by decide
theorem nsOth : nsIn (hd.heap_39 w.params) mainGlobals (Str.ofString "_law_OTHERS") = some (some (.ref 201)) := by kernel_rfl
theorem oth0 : (hd.heap_39 w.params).lookup 201 = some { cls := .type "list", data := .seq #[.ref 185, .ref 190, .ref 195, .ref 200] } := by kernel_rfl
theorem oth1 : ∀ i, i < 4 → (hd.heap_39 w.params).lookup (185 + 5 * i : Nat) = some { cls := .type "list", data := .seq #[.ref (181 + 5 * i : Nat), .ref (182 + 5 * i : Nat), .ref (183 + 5 * i : Nat), .ref (184 + 5 * i : Nat)] }
  | 0, _ => by kernel_rfl
  | 1, _ => by kernel_rfl
  | 2, _ => by kernel_rfl
  | 3, _ => by kernel_rfl
theorem oth2 : ∀ i, i < 4 → ∀ j, j < 4 → ∃ ca ta cb tb, (hd.heap_39 w.params).lookup (181 + j + 5 * i : Nat) = some { cls := .type "tuple", data := .seq #[.str ca ta, .str cb tb] } ∧ ca.cps.toList = othK i j ∧ cb.cps.toList = othT i j
  | 0, _, 0, _ => ⟨_, _, _, _, rfl, by simp [lit, othK], by simp [lit, othT]⟩
  | 0, _, 1, _ => ⟨_, _, _, _, rfl, by simp [lit, othK], by simp [lit, othT]⟩
  | 0, _, 2, _ => ⟨_, _, _, _, rfl, by simp [lit, othK], by simp [lit, othT]⟩
  | 0, _, 3, _ => ⟨_, _, _, _, rfl, by simp [lit, othK], by simp [lit, othT]⟩
  | 1, _, 0, _ => ⟨_, _, _, _, rfl, by simp [lit, othK], by simp [lit, othT]⟩
  | 1, _, 1, _ => ⟨_, _, _, _, rfl, by simp [lit, othK], by simp [lit, othT]⟩
  | 1, _, 2, _ => ⟨_, _, _, _, rfl, by simp [lit, othK], by simp [lit, othT]⟩
  | 1, _, 3, _ => ⟨_, _, _, _, rfl, by simp [lit, othK], by simp [lit, othT]⟩
  | 2, _, 0, _ => ⟨_, _, _, _, rfl, by simp [lit, othK], by simp [lit, othT]⟩
  | 2, _, 1, _ => ⟨_, _, _, _, rfl, by simp [lit, othK], by simp [lit, othT]⟩
  | 2, _, 2, _ => ⟨_, _, _, _, rfl, by simp [lit, othK], by simp [lit, othT]⟩
  | 2, _, 3, _ => ⟨_, _, _, _, rfl, by simp [lit, othK], by simp [lit, othT]⟩
  | 3, _, 0, _ => ⟨_, _, _, _, rfl, by simp [lit, othK], by simp [lit, othT]⟩
  | 3, _, 1, _ => ⟨_, _, _, _, rfl, by simp [lit, othK], by simp [lit, othT]⟩
  | 3, _, 2, _ => ⟨_, _, _, _, rfl, by simp [lit, othK], by simp [lit, othT]⟩
  | 3, _, 3, _ => ⟨_, _, _, _, rfl, by simp [lit, othK], by simp [lit, othT]⟩
end
end
section
section
variable {w : World} {d : Nat}
abbrev nRows : Str := Str.ofString "rows"
structure RowsAre (rows : List Row) : Prop where
  ok : ∀ r ∈ rows, RowL r ∧ r.text.length ≤ 30
  col : ∀ (i : Nat) (r : Row), rows[i]? = some r → r.col = 1 + 3 * i
  len : rows.length ≤ 18
theorem tail_lt {l : List Nat} {k : Nat} (h : ∀ x ∈ l, x < k) : ∀ x ∈ l.tail, x < k := fun x hx => h x (List.mem_of_mem_tail hx)
theorem drop_lt {l : List Nat} {k n : Nat} (h : ∀ x ∈ l, x < k) : ∀ x ∈ l.drop n, x < k := fun x hx => h x (List.mem_of_mem_drop hx)
theorem head_lt {l : List Nat} {k : Nat} (hk : 0 < k) (h : ∀ x ∈ l, x < k) : l.headD 0 < k := by
  cases l with
  | nil => exact hk
  | cons a l => exact h a List.mem_cons_self

theorem oth0get : ∀ i, i < 4 → (#[.ref 185, .ref 190, .ref 195, .ref 200] : Array Value)[i]? = some (.ref (185 + 5 * i : Nat))
  | 0, _ => rfl
  | 1, _ => rfl
  | 2, _ => rfl
  | 3, _ => rfl
theorem oth1get (i : Nat) : ∀ j, j < 4 → (#[.ref (181 + 5 * i : Nat), .ref (182 + 5 * i : Nat), .ref (183 + 5 * i : Nat), .ref (184 + 5 * i : Nat)] : Array Value)[j]? = some (.ref (181 + j + 5 * i : Nat))
  | 0, _ => rfl
  | 1, _ => rfl
  | 2, _ => rfl
  | 3, _ => rfl
theorem TX1.px {sc : Scope} {m : Env'} {st : Stmt} {l : List Nat} {R : PF → Env' → List Nat → Prop} (h : PX1 w d sc st m fun f m' => R f m' l) : TX1 w d sc st m l R := TX1.ofPX h fun _ _ h => h
theorem TE.compN {sc : Scope} {m : Env'} {elt iter : Expr} {x : Str} {xp : Pos} {scope : Scope} {pos : Pos} {items : List PV} {l : List Nat} {f : Nat → List Nat} {n : Nat} (hi : PI w d sc iter m items) (hlen : items.length = n) (hit : ∀ p ∈ items, p.isAcc = false)
    (hk : sc.kind = .function) (hl : sc.names.lookup nTape = some .cell) (hfr : scope.names.lookup nTape = some .free) (hclos : ∀ (env : Env) (c : Addr), env.cells.lookup nTape = some c → closureFor scope env = pure [(nTape, c)])
    (hcell : ∀ y ∈ scope.names, y.2 ≠ .cell) (hkind : scope.kind = .function) (hnames : ∀ y ∈ scope.names, y.2 = .local → scope.names.lookup y.1 = some .local) (hx : scope.names.lookup x = some .local) (hn : items.length ≤ 100000)
    (helt : ∀ (scr : Scope) (i : Nat) p, ScR scope scr → items[i]? = some p → TE w d scr elt [(x, p)] (l.drop i) (.str (f i)) (l.drop (i + 1)))
    (hs : ∀ env y, foldedSetIterable iter env y = pure y := by intro _ _; rfl) :
    TE w d sc (.ListComp elt [⟨.Name x xp, iter, [], 0⟩] scope pos) m l (.list (((List.range n).map f).map .str)) (l.drop n) := by
  subst hlen
  rw [List.map_map]
  exact TE.comp hi hit hk hl hfr hclos hcell hkind hnames hx hn helt hs

theorem lawLoop {rc : DefRec} (hrc : (recsOf VW).find? (fun e => e.name == Str.ofString "law") = some rc) {st : Stmt} (hst : rc.body[2]? = some st) {m : Env'} {l : List Nat} {R : PF → Env' → List Nat → Prop} (hl : l.length ≤ 18) (hlt : ∀ x ∈ l, x < 1000000000) (hm : m.lookup nRows = some (.acc []))
    (hR : ∀ m' l' rows, RowsAre rows → m'.lookup nRows = some (.acc (rows.map Row.pv)) → R .next m' l') : TX1 w (d + 4) rc.scope st m l R := by
  have e : (recsOf VW).find? (fun e => e.name == Str.ofString "law") = some _ := rfl
  rw [e] at hrc
  cases hrc
  cases hst
  dsimp only
  refine TX1.while (fun n m' l' => ∃ rows, RowsAre rows ∧ m'.lookup nRows = some (.acc (rows.map Row.pv)) ∧ rows.length + l'.length ≤ 18 ∧ (∀ x ∈ l', x < 1000000000) ∧ n = l'.length + (if rows.isEmpty then 1 else 0)) ?_ (l.length + 1) ⟨[], ⟨fun r hr => (by cases hr), fun i r hr => (by simp at hr), by simp⟩, hm, by simp; omega, hlt, rfl⟩
  rintro n m' l' ⟨rows, hrows, hm', hsz, hlt', rfl⟩
  have hlen := hrows.len
  refine ⟨!l'.isEmpty || !(!(rows.map Row.pv).isEmpty), TTst.tapeOr rfl rfl (by omega) (PT.not (PT.acc hm' (by simp; omega) rfl rfl)), fun hb => ?_, fun _ => hR m' l' rows hrows hm'⟩
  have hx := head_lt (k := 1000000000) (by decide) hlt'
  have hl1 := tail_lt hlt'
  have hl1n : l'.tail.length = l'.length - 1 := List.length_tail
  have hcase : (1 ≤ l'.length) ∨ (l'.length = 0 ∧ rows.length = 0) := by
    cases l' with
    | cons a b => exact .inl (by simp)
    | nil =>
      refine .inr ⟨rfl, ?_⟩
      cases rows with
      | nil => rfl
      | cons a b => exact absurd hb (by simp)
  refine TX.cons (TX1.assign (TE.next rfl rfl rfl (by omega)) rfl rfl rfl ?_)
  show TX _ _ _ _ _ _ _
  generalize hxe : l'.headD 0 = x at hx
  generalize hle : l'.tail = l1 at hl1 hl1n
  refine TX.cons (TX1.px (PX1.tup2s (a := .int (x % 8 : Nat)) (b := .int (x / 8 : Nat)) (PE.tupE (PEs.cons (by walk_at "pei") (PEs.cons (by walk_at "pei") PEs.nil)) (by simp)) rfl rfl rfl rfl rfl ?_ (by intro env h; cases env; cases h; rfl)))
  show TX _ _ _ _ _ _ _
  refine TX.cons (TX1.mono (R := fun f m2 l2 => f = .next ∧ m2.lookup (Str.ofString "n") = some (.int x) ∧ m2.lookup nRows = some (.acc (rows.map Row.pv)) ∧ (∃ k t, m2.lookup (Str.ofString "kind") = some (.str k) ∧ m2.lookup (Str.ofString "text") = some (.str t) ∧ t.length ≤ 30 ∧ (k = kSTR → good t) ∧ (k = kCHR → good t)) ∧
    l2.length ≤ l1.length ∧ ∀ z ∈ l2, z < 1000000000) ?body ?rest)
  case rest =>
    rintro f m2 l2 ⟨rfl, hn2, hr2, ⟨k, t, hk2, ht2, hlen2, hg1, hg2⟩, hl2, hlt2⟩
    show TX _ _ _ _ _ _ _
    have hx3 : x % 3 < 3 := Nat.mod_lt _ (by decide)
    refine TX.cons (TX1.px (PX1.append hr2 (pv := Row.pv { kind := k, text := t, space := List.replicate (x % 3) 32, first := decide ((x : Int) % 5 = 0), line := 1 + rows.length / 4, col := 1 + 3 * rows.length }) ?_ rfl (by simp; omega) rfl rfl ?_))
    · refine PE.tupE (PEs.cons (PE.name hk2 rfl rfl rfl (by decide)) (PEs.cons (PE.name ht2 rfl rfl rfl (by decide)) (PEs.cons (PE.mulS (PE.str (by simp [lit])) ?e1 (by omega)) (PEs.cons (PE.cmp ?e2 PE.int CO.eqI rfl) (PEs.cons ?e3 (PEs.cons ?e4 PEs.nil)))))) (by simp)
      case e1 => exact PE.castI (PE.modp (PE.name hn2 rfl rfl rfl (by decide)) PE.int (by decide)) (by omega)
      case e2 => exact PE.modp (PE.name hn2 rfl rfl rfl (by decide)) PE.int (by decide)
      case e3 => exact PE.castI (PE.add PE.int (PE.divp (PE.lenAcc hr2 (by simp; omega) rfl rfl rfl) PE.int (by decide) (by decide))) (by rw [List.length_map]; push_cast; rfl)
      case e4 => exact PE.castI (PE.add PE.int (PE.mulp PE.int (PE.lenAcc hr2 (by simp; omega) rfl rfl rfl) (by omega))) (by rw [List.length_map]; push_cast; rfl)
    · refine TX.nil ⟨rfl, l2.length, ?_, rows ++ [{ kind := k, text := t, space := List.replicate (x % 3) 32, first := decide ((x : Int) % 5 = 0), line := 1 + rows.length / 4, col := 1 + 3 * rows.length }], ⟨?_, ?_, ?_⟩, ?_, ?_, hlt2, ?_⟩
      · rcases hcase with h | ⟨h, h'⟩
        · omega
        · rw [if_pos (by rw [List.length_eq_zero_iff.mp h']; rfl)]; omega
      · intro r hr
        rcases List.mem_append.mp hr with hr | hr
        · exact hrows.ok r hr
        · rcases List.mem_singleton.mp hr with rfl
          exact ⟨⟨by show t.length ≤ 600; omega, hg1, hg2⟩, hlen2⟩
      · intro i r hi
        by_cases h : i < rows.length
        · rw [List.getElem?_append_left h] at hi
          exact hrows.col i r hi
        · rw [List.getElem?_append_right (by omega)] at hi
          by_cases h2 : i - rows.length = 0
          · rw [h2] at hi
            cases hi
            show 1 + 3 * rows.length = 1 + 3 * i
            omega
          · rw [List.getElem?_eq_none (by simp; omega)] at hi
            cases hi
      · rw [List.length_append, List.length_singleton]; omega
      · rw [List.map_append]
        exact lookSelf
      · rw [List.length_append, List.length_singleton]; omega
      · simp
  case body =>
    refine TX1.if (b := decide (((x % 8 : Nat) : Int) < 3)) (by walk_at "cmp") (fun hb => ?_) (fun hb => ?_)
    · refine TX.cons (TX1.px (PX1.assign (pv := .str kSTR) (PE.str (by simp [lit]; rfl)) rfl rfl rfl ?_))
      show TX _ _ _ _ _ _ _
      have hm3 : x / 8 % 3 < 3 := Nat.mod_lt _ (by decide)
      refine TX.cons (TX1.assign (pv := .str (joinL [] ((List.range (1 + x / 8 % 3)).map fun i => pieceL ((l1.drop i).headD 0)))) (l' := l1.drop (1 + x / 8 % 3)) (TE.join (PE.str (by simp [lit])) (TE.compN (items := (List.range (1 + x / 8 % 3)).map fun i : Nat => .int i) (PI.range1 (by walk_at "pei") (by omega) rfl rfl) (by simp) ?_ rfl rfl rfl ?_ (by decide) rfl (by decide) rfl (by simp; omega) ?_) ?_) rfl rfl rfl ?_)
      · intro p hp
        obtain ⟨i, _, rfl⟩ := List.mem_map.mp hp
        rfl
      · intro env c hc
        simp [closureFor, cellOf, hc]
      · intro scr i p hsc hp
        rw [← List.tail_drop]
        exact TE.callF (piece_fn (d := d + 2) (n := (l1.drop i).headD 0)) rfl hsc.kind (hsc.same _ _ rfl (by decide)) (by decide) (TE.next hsc.kind (hsc.same _ _ rfl (by decide)) hsc.tape (by rw [List.length_drop]; omega)) rfl
      · have hp := sum_le (k := 10) (l := (List.range (1 + x / 8 % 3)).map fun i => pieceL ((l1.drop i).headD 0)) (fun t ht => by obtain ⟨i, _, rfl⟩ := List.mem_map.mp ht; exact pieceL_len _)
        rw [List.length_map, List.length_range] at hp
        rw [List.length_map, List.length_range, List.length_nil]
        omega
      · have hg := good_pieces (fun i => (l1.drop i).headD 0) (1 + x / 8 % 3) (by omega)
        refine TX.nil ⟨rfl, by walk_at "lk", by walk_at "lk", ⟨kSTR, _, by walk_at "lk", by walk_at "lk", hg.2, fun _ => hg.1, fun h => absurd h (by decide)⟩, by rw [List.length_drop]; omega, drop_lt hl1⟩
    · have hb' : ¬ (((x % 8 : Nat) : Int) < 3) := of_decide_eq_false hb
      refine TX.cons (TX1.if (b := decide (((x % 8 : Nat) : Int) = 3)) (by walk_at "cmp") (fun hc => ?_) (fun hc => ?_))
      · refine TX.cons (TX1.px (PX1.assign (pv := .str kCHR) (PE.str (by simp [lit]; rfl)) rfl rfl rfl ?_))
        show TX _ _ _ _ _ _ _
        have hm2 : x / 8 % 2 < 2 := Nat.mod_lt _ (by decide)
        have hg := good_char (x / 8 % 2) (l1.headD 0) (by omega)
        refine TX.cons (TX1.assign (pv := .str (List.replicate (x / 8 % 2) 76 ++ [39] ++ pieceL (l1.headD 0) ++ [39])) (l' := l1.tail) (TE.cat (TE.cat (TE.ofPE (PE.cat (PE.mulS (PE.str (by simp [lit])) (by walk_at "pei") (by omega)) (PE.str (by simp [lit])) (by rw [sizeLine_eq, List.length_append, List.length_replicate, List.length_singleton]; omega)))
          (TE.callF (piece_fn (d := d + 2) (n := l1.headD 0)) rfl rfl rfl (by decide) (TE.next rfl rfl rfl (by omega)) rfl) (by have := hg.2; simp only [List.length_append] at this ⊢; rw [sizeLine_eq]; omega)) (TE.ofPE (PE.str (by simp [lit]))) (by have := hg.2; rw [sizeLine_eq]; omega)) rfl rfl rfl ?_)
        refine TX.nil (TX.nil ⟨rfl, by walk_at "lk", by walk_at "lk", ⟨kCHR, _, by walk_at "lk", by walk_at "lk", hg.2, fun h => absurd h (by decide), fun _ => hg.1⟩, by rw [List.length_tail]; omega, tail_lt hl1⟩)
      · have hc' : ¬ (((x % 8 : Nat) : Int) = 3) := of_decide_eq_false hc
        have h8 : x % 8 < 8 := Nat.mod_lt _ (by decide)
        have h4 : x / 8 % 4 < 4 := Nat.mod_lt _ (by decide)
        have hi4 : x % 8 - 4 < 4 := by omega
        have hof := oth_fine _ hi4 _ h4
        obtain ⟨ca, ta, cb, tb, e1, e2, e3⟩ := oth2 (w := w) _ hi4 _ h4
        refine TX.cons (TX1.px (PX1.tup2K (t := (181 + x / 8 % 4 + 5 * (x % 8 - 4) : Nat)) (PE.idxK (k := x / 8 % 4) (PE.idxK (k := x % 8 - 4) (PE.class nsOth rfl rfl (by decide)) (by walk_at "pei") oth0 (oth0get _ hi4) (by omega)) (by walk_at "pei") (oth1 _ hi4) (oth1get _ _ h4) (by omega)) e1 e2 e3 rfl rfl rfl ?_))
        refine TX.nil (TX.nil ⟨rfl, by walk_at "lk", by walk_at "lk", ⟨_, _, by walk_at "lk", by walk_at "lk", hof.2.2, fun h => absurd h hof.1, fun h => absurd h hof.2.1⟩, Nat.le_refl _, hl1⟩)
end
end
section
section
variable {w : World} {d : Nat}
inductive Scal : PV → Prop
  | bool (b) : Scal (.bool b)
  | int (i) : Scal (.int i)
  | str (l) : Scal (.str l)
theorem scal_eq {A : Around} {s : Shared} {g g' : Gt} {v v' : Value} {p : PV} (h : Scal p) (r : VR w g v p) (r' : VR w g' v' p) : SeqAt.EqAt A s v v' true := by
  cases h with
  | bool b => obtain rfl := r.inv; obtain rfl := r'.inv; have := SeqAt.EqAt.bool_bool (A := A) (s := s) b b; rwa [beq_self_eq_true] at this
  | int i => obtain ⟨t, rfl⟩ := r.inv; obtain ⟨t', rfl⟩ := r'.inv; have := SeqAt.EqAt.int_int (A := A) (s := s) i t i t'; rwa [beq_self_eq_true] at this
  | str l => obtain ⟨t, rfl⟩ := r.inv; obtain ⟨t', rfl⟩ := r'.inv; have := SeqAt.EqAt.str_str (A := A) (s := s) (S l) t (S l) t'; rwa [beq_self_eq_true] at this
theorem tup_eq {A : Around} {s : Shared} {Z Z' : List Addr} {v v' : Value} {l : List PV} (hu : A.units < cLine) (h : ∀ p ∈ l, Scal p) (r : VR w (ex s.heap Z) v (.tup l)) (r' : VR w (ex s.heap Z') v' (.tup l)) : SeqAt.EqAt A s v v' true := by
  obtain ⟨a, vs, n, rfl, e, rs⟩ := tupIs r
  obtain ⟨a', vs', n', rfl, e', rs'⟩ := tupIs r'
  by_cases hne : a = a'
  · subst hne; exact SeqAt.EqAt.same _
  have l1 : vs.size = l.length := by rw [← Array.length_toList, rs.length]
  have l2 : vs'.size = l.length := by rw [← Array.length_toList, rs'.length]
  have := SeqAt.EqAt.of_refs hne (SeqAt.RcAt.tuples (A := A) (s := s) (e := fun _ => true) ⟨_, ex_sub _ _ e, rfl, n, rfl⟩ ⟨_, ex_sub _ _ e', rfl, n', rfl⟩ hu fun j h1 h2 => by
    have hl : j < l.length := by omega
    obtain ⟨x, hx, rx⟩ := rs.get (List.getElem?_eq_getElem hl)
    obtain ⟨x', hx', rx'⟩ := rs'.get (List.getElem?_eq_getElem hl)
    have e1 : vs[j] = x := by rw [Array.getElem?_toList, Array.getElem?_eq_getElem h1] at hx; exact Option.some.inj hx
    have e2 : vs'[j] = x' := by rw [Array.getElem?_toList, Array.getElem?_eq_getElem h2] at hx'; exact Option.some.inj hx'
    rw [e1, e2]
    exact scal_eq (h _ (List.getElem_mem hl)) rx rx')
  have e3 : ((List.range (min vs.size vs'.size)).all (fun _ => true) && vs.size == vs'.size) = true := by
    rw [l1, l2]; simp
  rwa [e3] at this
theorem rows_scal {r : Row} : ∀ p ∈ ([.str r.kind, .str r.text, .str r.space, .bool r.first, .int r.line, .int r.col] : List PV), Scal p := by
  intro p hp
  simp only [List.mem_cons, List.not_mem_nil, or_false] at hp
  rcases hp with rfl | rfl | rfl | rfl | rfl | rfl <;> constructor
theorem rows_each {A : Around} {s : Shared} {Z Z' : List Addr} {vs vs' : Array Value} {rows : List Row} (hu : A.units < cLine) (rs : VRs w (ex s.heap Z) vs.toList (rows.map Row.pv)) (rs' : VRs w (ex s.heap Z') vs'.toList (rows.map Row.pv)) :
    ∀ j (h1 : j < vs.size) (h2 : j < vs'.size), SeqAt.EqAt A s vs[j] vs'[j] ((fun _ => true) j) := fun j h1 h2 => by
  have l1 : vs.size = rows.length := by rw [← Array.length_toList, rs.length, List.length_map]
  have hl : j < rows.length := by omega
  have hr : (rows.map Row.pv)[j]? = some rows[j].pv := by rw [List.getElem?_map, List.getElem?_eq_getElem hl]; rfl
  obtain ⟨x, hx, rx⟩ := rs.get hr
  obtain ⟨x', hx', rx'⟩ := rs'.get hr
  have e1 : vs[j] = x := by rw [Array.getElem?_toList, Array.getElem?_eq_getElem h1] at hx; exact Option.some.inj hx
  have e2 : vs'[j] = x' := by rw [Array.getElem?_toList, Array.getElem?_eq_getElem h2] at hx'; exact Option.some.inj hx'
  rw [e1, e2]
  exact tup_eq hu rows_scal rx rx'
theorem rows_eq {A : Around} {s : Shared} {Z Z' : List Addr} {v v' : Value} {rows : List Row} {Q E : Value → Shared → Prop} (Rm : Room A d) (r : VR w (ex s.heap Z) v (.list (rows.map Row.pv))) (r' : VR w (ex s.heap Z') v' (.list (rows.map Row.pv))) (q : Q (.bool true) s) :
    wpAny (model P w) A (compareOp .Eq v v') Q E s := by
  cases r with
  | @list a vs n _ e rs => cases r' with
    | @list a' vs' n' _ e' rs' =>
      have hu : A.units + 8 < cLine := by have := Rm.un; omega
      have l1 : vs.size = rows.length := by rw [← Array.length_toList, rs.length, List.length_map]
      have l2 : vs'.size = rows.length := by rw [← Array.length_toList, rs'.length, List.length_map]
      refine SeqAt.eq_listAt (e := fun _ => true) (listGet (ex_sub _ _ e)) (listGet (ex_sub _ _ e')) (l1.trans l2.symm) (by omega) (rows_each (by show A.units + 1 < cLine; omega) rs rs') ?_
      have : (List.range vs.size).all (fun _ => true) = true := by simp
      rw [this]
      exact q
theorem rows_ne {A : Around} {s : Shared} {Z Z' : List Addr} {v v' : Value} {rows : List Row} {Q E : Value → Shared → Prop} (Rm : Room A d) (r : VR w (ex s.heap Z) v (.list (rows.map Row.pv))) (r' : VR w (ex s.heap Z') v' (.list (rows.map Row.pv))) (q : Q (.bool false) s) :
    wpAny (model P w) A (compareOp .NotEq v v') Q E s := by
  cases r with
  | @list a vs n _ e rs => cases r' with
    | @list a' vs' n' _ e' rs' =>
      have hu : A.units + 8 < cLine := by have := Rm.un; omega
      have l1 : vs.size = rows.length := by rw [← Array.length_toList, rs.length, List.length_map]
      have l2 : vs'.size = rows.length := by rw [← Array.length_toList, rs'.length, List.length_map]
      refine SeqAt.RcNeAt.lists (e := fun _ => true) (listGet (ex_sub _ _ e)) (listGet (ex_sub _ _ e')) (l1.trans l2.symm) (by omega) (rows_each (by show A.units + 1 < cLine; omega) rs rs') P w E Q ?_
      have : (!(List.range vs.size).all (fun _ => true)) = false := by simp
      rw [this]
      exact q

theorem St.freeze {B h : Heap} {L : Addr} {own : Own} {m : Env'} {x : Str} {l : List PV} (X : St w B L own m h) (hx : m.lookup x = some (.acc l)) : St w B L ⟨[], []⟩ [(x, .list l)] h := by
  obtain ⟨⟨mv, F, hm⟩, n1, n2, n3⟩ := X
  obtain ⟨v, e1, a, g1, rfl, vs, n, g3, g4⟩ := hm x _ hx
  have haL := (n1 _ (mem_of_lookup g1)).2.1
  have hsub : Sub (gOf h L own) (gOf h L ⟨[], []⟩) := fun b o e => by
    obtain ⟨hb, e⟩ := ex_some.mp e
    refine ex_some.mpr ⟨fun hm => hb ?_, e⟩
    unfold Own.all at hm ⊢
    simp at hm
    subst hm
    exact List.mem_cons_self
  refine ⟨⟨mv, F, fun y pv e => ?_⟩, (fun p hp => nomatch hp), List.nodup_nil, (fun b hb => nomatch hb)⟩
  rw [List.lookup_cons] at e
  by_cases hy : y = x
  · subst hy
    rw [beq_self_eq_true] at e
    cases e
    exact ⟨_, e1, VR.list (ex_some.mpr ⟨by unfold Own.all; simpa using haL, g3⟩) (g4.mono hsub)⟩
  · rw [beq_eq_false_iff_ne.mpr hy] at e
    cases e
theorem setNameO {sc : Scope} {env : Env} {L : Addr} {A : Around} {B : Heap} {own : Own} {s : Shared} {m : Env'} {x : Str} {xp pos : Pos} {e : Expr} {pv : PV} {Q : Flow → Shared → Prop} {E : Value → Shared → Prop}
    (hE : EnvOk env sc L) (G : Gd w B) (Rm : Room A d) (hk : sc.kind = .function) (hl : sc.names.lookup x = some .local) (hna : own.acc = []) (X : St w B L own m s.heap) (he : PE w d sc e m pv) (hp : pv.isAcc = false)
    (q : ∀ h' tk, (∀ b o, b ≠ L → s.heap.get? b = some o → h'.get? b = some o) → St w B L own ((x, pv) :: m) h' → Q .next { s with heap := h', toks := tk })
    (hs : ∀ env, swapsWith e (some (.Name x xp)) pos.line env = pure false := by intro _; rfl) : wpAny (model P w) A (exec (.Assign [.Name x xp] e pos) env) Q E s := by
  refine wpAny_Assign_Name (he env L A B own s _ E hE G Rm X fun v h1 t1 k1 r1 => ?_) (hs _)
  refine store hE (s := { s with heap := h1, toks := t1 }) (X.keep k1) hp r1 hk hl fun h2 t2 k2 X2 => ?_
  exact q h2 t2 (fun b o hb e => k2.keep b o hb (by rw [hna]; simp) (by simp) (k1 _ _ e)) X2
end
end
section
section
variable {w : World} {d : Nat}
theorem tokLP {B h : Heap} {x : Addr} {r : Row} (t : TokAt B h x r) : TokP (LP h.objs.size B) h x r := t.weak fun _ _ hb e => ⟨Heap.lt_size e, hb⟩
theorem tokB {M : Nat} {B h : Heap} {x : Addr} {r : Row} (t : TokP (LP M B) h x r) : TokAt B h x r := t.weak fun _ _ hb _ => hb.2
theorem CF.keep {M : Nat} {P0 : Heap} {xs : List Addr} {rows : List Row} (h h' : Heap) (x : CF M P0 xs rows h) (k : Keep h h') : CF M P0 xs rows h' := fun j x' r e1 e2 => (x j x' r e1 e2).to fun b o _ e => k b o e

theorem runConv {A : Around} {s : Shared} {a : Addr} {B P0 : Heap} {D : Nat} {xs : List Addr} {rows : List Row} {Q E : Value → Shared → Prop} (hok : ∀ r ∈ rows, RowC r)
    (G : Gd w B) (hP0 : ∀ b, P0.get? b = none → B.get? b = none) (kB : Keep B s.heap) (hb : AllBare s.gens) (hsz : B.objs.size ≤ s.heap.objs.size) (Rm : Room A (d + 9)) {mg : Str → Option Value} (hg : B.Ns mainGlobals mg) (ha : mg (Str.ofString "string_convert") = some (.ref a))
    (hli : s.heap.IsList D (xs.map Value.ref).toArray) (hnd : xs.Nodup) (hlen : xs.length = rows.length) (hsm : rows.length ≤ 1000) (htk : ∀ (j : Nat) (x : Addr) (r : Row), xs[j]? = some x → rows[j]? = some r → TokAt P0 s.heap x r)
    (q : ∀ D2 s' n, s.heap.get? D2 = none → (∀ b o, b ∉ xs → s.heap.get? b = some o → s'.heap.get? b = some o) → s'.heap.get? D2 = some { cls := .type "list", data := .seq (xs.map Value.ref).toArray n } →
      (∀ (j : Nat) (x : Addr) (r : Row), xs[j]? = some x → rows[j]? = some r → TokAt P0 s'.heap x r.conv) → s'.os = s.os → AllBare s'.gens → Q (.ref D2) s') :
    wpAny (model P w) A (call (.builtin "iter") [.ref D]) (fun v2 s2 => Keep B s2.heap ∧ wpAny (model P w) A (call (.ref a) [v2]) (fun v3 s3 => wpAny (model P w) A (call (.type "list") [v3]) Q E s3) E s2) E s := by
  refine call_iter_list hli ?_
  have hp : Keep s.heap (s.heap.push { cls := .type "list_iterator", data := .fields #[.ref D, .int 0 0] }) := keep_push _ _
  have hIt : (s.heap.push { cls := .type "list_iterator", data := .fields #[.ref D, .int 0 0] }).IsListIter s.heap.objs.size D 0 := ⟨_, Heap.get?_push_size _ rfl, rfl, rfl⟩
  have hs1 : (s.heap.push { cls := .type "list_iterator", data := .fields #[.ref D, .int 0 0] }).objs.size = s.heap.objs.size + 1 := Heap.size_push _ _
  generalize s.heap.push { cls := .type "list_iterator", data := .fields #[.ref D, .int 0 0] } = h1 at hp hIt hs1 ⊢
  have hx : ∀ x ∈ xs, ∃ o, s.heap.get? x = some o := fun x hxm => by
    obtain ⟨j, hj, e⟩ := List.getElem_of_mem hxm
    exact (htk j x rows[j] (by rw [List.getElem?_eq_getElem hj, e]) (List.getElem?_eq_getElem (by omega))).get
  have C : CC s.heap.objs.size B h1.objs.size s.heap.objs.size D xs rows := by
    refine ⟨Nat.le_refl _, by rw [hs1]; exact Nat.lt_succ_self _, ?_, ?_, hnd, hlen, fun x hxm => ?_, hsm⟩
    · obtain ⟨o, e, _⟩ := hli
      exact Heap.lt_size e
    · cases hc : B.get? s.heap.objs.size with
      | none => rfl
      | some o => have := kB _ _ hc; rw [noneSize] at this; cases this
    · obtain ⟨o, e⟩ := hx x hxm
      exact Heap.lt_size e
  refine ⟨kB.trans hp, ?_⟩
  refine convert_gen (d := d) (s := { s with heap := h1 }) (L := h1.objs.size) (M := s.heap.objs.size) rfl hok G hP0 (kB.trans hp) (Rm.less (by omega)) ⟨mg, hg.keeps (kB.trans hp), ha⟩ C (Nat.le_trans hsz (Nat.le_of_lt C.il)) hIt (let ⟨o, e, r⟩ := hli; ⟨o, hp _ _ e, r⟩)
    (fun j x r e1 e2 => (tokLP (htk j x r e1 e2)).to fun b o _ e => hp b o e) fun h3 t3 gs k3 J3 hs3 hgen goes => ?_
  refine list_gen (d := d) (s := { s with heap := h3, gens := s.gens.push gs, toks := t3 }) (L := h1.objs.size) (g := s.gens.size) (N := rows.length) (zs := xs) (J := CJ s.heap.objs.size B P0 h1.objs.size s.heap.objs.size D xs rows) (Jf := CF s.heap.objs.size P0 xs rows) (wr := h1.objs.size :: s.heap.objs.size :: xs) (gs := gs)
    Rm hlen hsm ?_ hgen hs3 (by simp) (.push hb gs) J3 (fun A2 s2 R2 J2 => goes A2 s2 R2 J2) (CJ.frame C) (fun i h J => ?_) CF.keep fun s' n kk e hf ho hbb => ?_
  · intro b hb
    rcases List.mem_cons.mp hb with rfl | hb
    · exact Nat.lt_succ_self _
    rcases List.mem_cons.mp hb with rfl | hb
    · exact Nat.lt_succ_of_lt C.il
    · exact Nat.lt_succ_of_lt (Nat.lt_trans (C.xm b hb) C.il)
  · obtain ⟨_, _, _, T⟩ := (G.keep J.fs.base).top
    exact T.nolimit
  · refine q _ s' n ?_ (fun b o hb eb => ?_) e (fun j x r e1 e2 => tokB (hf j x r e1 e2)) ho hbb
    · refine Heap.get?_none_of_le ?_
      exact Nat.le_trans (Nat.le_of_lt C.il) (Nat.le_add_right _ 2)
    · have hlt := Heap.lt_size eb
      refine kk b o ?_ (k3 _ _ (hp _ _ eb))
      intro hm
      rcases List.mem_cons.mp hm with rfl | hm
      · exact Nat.lt_asymm hlt C.il
      rcases List.mem_cons.mp hm with rfl | hm
      · exact Nat.lt_irrefl _ hlt
      · exact hb hm

theorem runConc {A : Around} {s : Shared} {a : Addr} {B P0 : Heap} {D : Nat} {ps : List (Addr × Row)} {Q E : Value → Shared → Prop} (hsum : tlen ps ≤ 100000)
    (G : Gd w B) (hP0 : ∀ b, P0.get? b = none → B.get? b = none) (kB : Keep B s.heap) (hb : AllBare s.gens) (hsz : B.objs.size ≤ s.heap.objs.size) (Rm : Room A (d + 9)) {mg : Str → Option Value} (hg : B.Ns mainGlobals mg) (ha : mg (Str.ofString "string_concat") = some (.ref a))
    (hli : s.heap.IsList D ((ps.map Prod.fst).map Value.ref).toArray) (hnd : (ps.map Prod.fst).Nodup) (hsm : ps.length ≤ 900) (htk : ∀ p ∈ ps, TokAt P0 s.heap p.1 p.2)
    (q : ∀ D2 s' n, s.heap.get? D2 = none → (∀ b o, b ∉ ps.map Prod.fst → s.heap.get? b = some o → s'.heap.get? b = some o) → s'.heap.get? D2 = some { cls := .type "list", data := .seq (((cc none ps).map Prod.fst).map Value.ref).toArray n } →
      (∀ p ∈ cc none ps, TokAt P0 s'.heap p.1 p.2) → s'.os = s.os → AllBare s'.gens → Q (.ref D2) s') :
    wpAny (model P w) A (call (.builtin "iter") [.ref D]) (fun v2 s2 => Keep B s2.heap ∧ wpAny (model P w) A (call (.ref a) [v2]) (fun v3 s3 => wpAny (model P w) A (call (.type "list") [v3]) Q E s3) E s2) E s := by
  refine call_iter_list hli ?_
  have hp : Keep s.heap (s.heap.push { cls := .type "list_iterator", data := .fields #[.ref D, .int 0 0] }) := keep_push _ _
  have hIt : (s.heap.push { cls := .type "list_iterator", data := .fields #[.ref D, .int 0 0] }).IsListIter s.heap.objs.size D 0 := ⟨_, Heap.get?_push_size _ rfl, rfl, rfl⟩
  have hs1 : (s.heap.push { cls := .type "list_iterator", data := .fields #[.ref D, .int 0 0] }).objs.size = s.heap.objs.size + 1 := Heap.size_push _ _
  generalize s.heap.push { cls := .type "list_iterator", data := .fields #[.ref D, .int 0 0] } = h1 at hp hIt hs1 ⊢
  have hx : ∀ x ∈ ps.map Prod.fst, x < s.heap.objs.size := fun x hxm => by
    obtain ⟨p, hpm, rfl⟩ := List.mem_map.mp hxm
    obtain ⟨o, e⟩ := (htk p hpm).get
    exact Heap.lt_size e
  have dm : D < s.heap.objs.size := by
    obtain ⟨o, e, _⟩ := hli
    exact Heap.lt_size e
  have ib : B.get? s.heap.objs.size = none := by
    cases hc : B.get? s.heap.objs.size with
    | none => rfl
    | some o => have := kB _ _ hc; rw [noneSize] at this; cases this
  have il : s.heap.objs.size < h1.objs.size := by rw [hs1]; exact Nat.lt_succ_self _
  refine ⟨kB.trans hp, ?_⟩
  refine concat_gen (d := d) (s := { s with heap := h1 }) (L := h1.objs.size) (M := s.heap.objs.size) rfl rfl hsum G hP0 (kB.trans hp) (Rm.less (by omega)) ⟨mg, hg.keeps (kB.trans hp), ha⟩ (Nat.le_refl _) il dm ib hnd (Nat.le_trans hsz (Nat.le_of_lt il)) hIt (let ⟨o, e, r⟩ := hli; ⟨o, hp _ _ e, r⟩)
    (fun p hpm => (tokLP (htk p hpm)).to fun b o _ e => hp b o e) fun h3 t3 gs k3 J3 hs3 hgen goes => ?_
  have hcl : (cc none ps).length ≤ ps.length + 0 := cc_len ps none
  refine list_genK (d := d) (s := { s with heap := h3, gens := s.gens.push gs, toks := t3 }) (L := h1.objs.size) (g := s.gens.size) (N := (cc none ps).length) (zs := (cc none ps).map Prod.fst) (K := KS s.heap.objs.size B P0 h1.objs.size s.heap.objs.size D (ps.map Prod.fst) [(nToks, .ref s.heap.objs.size)] 0 ps)
    (Jf := fun h => ∀ p ∈ cc none ps, TokP (LP s.heap.objs.size P0) h p.1 p.2) (wr := h1.objs.size :: s.heap.objs.size :: ps.map Prod.fst) (gs := gs)
    Rm (by simp) (by omega) ?_ hgen hs3 (by simp) (.push hb gs) J3 (fun A2 s2 R2 J2 => goes A2 s2 R2 J2) (fun h h' x k => KS.frame (Nat.le_refl _) il dm h h' x k) (fun h J => ?_) (fun h h' x k p hpm => (x p hpm).to fun b o _ e => k b o e) fun s' n kk e hf ho hbb => ?_
  · intro b hb
    rcases List.mem_cons.mp hb with rfl | hb
    · exact Nat.lt_succ_self _
    rcases List.mem_cons.mp hb with rfl | hb
    · exact Nat.lt_succ_of_lt il
    · exact Nat.lt_succ_of_lt (Nat.lt_trans (hx b hb) il)
  · obtain ⟨_, _, _, T⟩ := (G.keep J.fs.base).top
    exact T.nolimit
  · refine q _ s' n ?_ (fun b o hb eb => ?_) e (fun p hpm => tokB (hf p hpm)) ho hbb
    · refine Heap.get?_none_of_le ?_
      exact Nat.le_trans (Nat.le_of_lt il) (Nat.le_add_right _ 2)
    · have hlt := Heap.lt_size eb
      refine kk b o ?_ (k3 _ _ (hp _ _ eb))
      intro hm
      rcases List.mem_cons.mp hm with rfl | hm
      · exact Nat.lt_asymm hlt il
      rcases List.mem_cons.mp hm with rfl | hm
      · exact Nat.lt_irrefl _ hlt
      · exact hb hm
end
end
section
section
variable {w : World} {d : Nat}
theorem vrs_adr {g : Gt} : ∀ xs : List Addr, VRs w g (xs.map Value.ref) (xs.map PV.adr)
  | [] => .nil
  | x :: xs => .cons (.adr x) (vrs_adr xs)
theorem refs_of {g : Gt} : ∀ {vs : List Value} {xs : List Addr}, VRs w g vs (xs.map PV.adr) → vs = xs.map Value.ref
  | [], [], _ => rfl
  | [], x :: xs, h => by cases h
  | v :: vs, [], h => by cases h
  | v :: vs, x :: xs, h => by
    cases h with
    | cons a b => cases a; rw [refs_of b]; rfl
theorem madeE {sc : Scope} {env : Env} {L : Addr} {A : Around} {B : Heap} {own : Own} {s : Shared} {m : Env'} {np xp pos : Pos} {rows : List Row} {Q E : Value → Shared → Prop}
    (hE : EnvOk env sc L) (G : Gd w B) (Rm : Room A (d + 10)) (hk : sc.kind = .function) (hl : sc.names.lookup (Str.ofString "_law_made") = some .globalImplicit) (hl2 : sc.names.lookup nRows = some .local) (X : St w B L own m s.heap) (hx : m.lookup nRows = some (.list (rows.map Row.pv)))
    (hn : rows.length ≤ 1000) (hlen : ∀ r ∈ rows, r.text.length ≤ 50000)
    (q : ∀ (D : Addr) (xs : List Addr) (h' : Heap) (tk : Nat), Keep s.heap h' → s.heap.get? D = none → h'.IsList D (xs.map Value.ref).toArray → xs.length = rows.length → (∀ (i : Nat) (x : Addr) (r : Row), xs[i]? = some x → rows[i]? = some r → TokAt s.heap h' x r.quoted) → Q (.ref D) { s with heap := h', toks := tk }) :
    wpAny (model P w) A (eval (.Call (.Name (Str.ofString "_law_made") np) [.Name nRows xp] [] pos) env) Q E s := by
  obtain ⟨mean, mg, mb, T⟩ := G.top
  obtain ⟨a, o, fd, g1, g2, g3⟩ := find_isSome_fn (name := Str.ofString "_law_made") rfl T
  refine wpAny_Call_NameR (Calls.Name_function_global (by rw [hE.sc]; exact hk) (by unfold Env.kindOf; rw [hE.sc]; exact hl) (Calls.loadGlobal_global (by rw [hE.glob]; exact T.g.keeps X.base) g1 ?_) (by decide))
  refine callWith_def g3 ?_ (star_cons rfl)
  refine args_cons (PE.name (d := d + 10) (pv := .list (rows.map Row.pv)) hx rfl hl2 hk (by decide) env L A B own s _ E hE G Rm X fun v h1 t1 k1 r1 => ?_) (star_cons rfl)
  have X1 := X.keep k1
  refine args_nil ⟨X1.base _ _ g2, ?_⟩
  refine made_call (d := d) (s := { s with heap := h1, toks := t1 }) hn hlen (G.keep X1.base) Rm ⟨mg, T.g.keeps X1.base, g1⟩ X1.bk.new (.cons r1 .nil) fun D xs h2 t2 k2 TT => ?_
  obtain ⟨t1', ⟨n, t2'⟩, t3, t4⟩ := TT
  rw [List.length_map] at t1'
  refine q D xs h2 t2 (k1.trans k2) ?_ ⟨_, t2', rfl, n, rfl⟩ t1' fun i x r e1 e2 => (t4 i x r.quoted e1 (by rw [List.getElem?_map, e2]; rfl)).older k1
  cases hc : s.heap.get? D with
  | none => rfl
  | some o => have := k1 _ _ hc; dsimp only at t3; rw [t3] at this; cases this
theorem toks_nodup {h0 h : Heap} {xs : List Addr} {rows : List Row} (hrows : RowsAre rows) (hlen : xs.length = rows.length) (ht : ∀ (i : Nat) (x : Addr) (r : Row), xs[i]? = some x → rows[i]? = some r → TokAt h0 h x r.quoted) : xs.Nodup := by
  refine List.pairwise_iff_getElem.mpr fun i j hi hj hij hx => ?_
  have e1 := List.getElem?_eq_getElem hi
  have e2 := List.getElem?_eq_getElem hj
  have r1 : rows[i]? = some rows[i] := List.getElem?_eq_getElem (by omega)
  have r2 : rows[j]? = some rows[j] := List.getElem?_eq_getElem (by omega)
  have a := ht i _ _ e1 r1
  have b := ht j _ _ e2 r2
  rw [hx] at a
  have c1 := hrows.col i _ r1
  have c2 := hrows.col j _ r2
  have : rows[i].quoted.col = rows[j].quoted.col := by
    obtain ⟨ox, dx, m1, y, t1, t2, t3, a1, a2, a3, a4, a5, a6, a7, a8, ⟨oy, dy, ody, u1, u2, f1, f2, f3, f4, f5, f6, f7, f8, f9, f10⟩, _⟩ := a
    obtain ⟨ox', dx', m1', y', t1', t2', t3', b1, b2, b3, b4, b5, b6, b7, b8, ⟨oy', dy', ody', u1', u2', g1, g2, g3, g4, g5, g6, g7, g8, g9, g10⟩, _⟩ := b
    rw [a1] at b1; cases b1
    rw [a8] at b8; cases b8
    rw [f1] at g1; cases g1
    rw [f7] at g7
    have e7 := Option.some.inj g7
    injection e7 with e7 _
    exact Int.ofNat.inj e7
  rw [quoted_col, quoted_col] at this
  omega
end
end
section
section
variable {w : World} {d : Nat}
theorem viewE {sc : Scope} {env : Env} {L : Addr} {A : Around} {B : Heap} {own : Own} {s : Shared} {m : Env'} {e : Expr} {np pos : Pos} {Q E : Value → Shared → Prop}
    (hE : EnvOk env sc L) (G : Gd w B) (Rm : Room A (d + 10)) (hk : sc.kind = .function) (hl : sc.names.lookup (Str.ofString "_law_view") = some .globalImplicit) (X : St w B L own m s.heap) (hst : notStar e = true)
    (h : wpAny (model P w) A (eval e env) (fun v s1 => Keep B s1.heap ∧ ∃ (D : Addr) (n : Nat) (xs : List Addr) (rows : List Row) (P0 : Heap), v = .ref D ∧ s1.heap.get? D = some { cls := .type "list", data := .seq (xs.map Value.ref).toArray n } ∧ xs.length = rows.length ∧ rows.length ≤ 1000 ∧
      (∀ (i : Nat) (x : Addr) (r : Row), xs[i]? = some x → rows[i]? = some r → TokAt P0 s1.heap x r) ∧ ∀ v' h' tk, Keep s1.heap h' → VR w (ex h' []) v' (.list (rows.map Row.pv)) → Q v' { s1 with heap := h', toks := tk }) E s) :
    wpAny (model P w) A (eval (.Call (.Name (Str.ofString "_law_view") np) [e] [] pos) env) Q E s := by
  obtain ⟨mean, mg, mb, T⟩ := G.top
  obtain ⟨a, o, fd, g1, g2, g3⟩ := find_isSome_fn (name := Str.ofString "_law_view") rfl T
  refine wpAny_Call_NameR (Calls.Name_function_global (by rw [hE.sc]; exact hk) (by unfold Env.kindOf; rw [hE.sc]; exact hl) (Calls.loadGlobal_global (by rw [hE.glob]; exact T.g.keeps X.base) g1 ?_) (by decide))
  refine callWith_def g3 ?_ (star_cons hst)
  refine args_cons (wkQ h fun v s1 ⟨kB, D, n, xs, rows, P0, hv, hD, hlen, hsm, htk, q⟩ => ?_) (star_cons hst)
  subst hv
  refine args_nil ⟨kB _ _ g2, ?_⟩
  exact view_call (d := d) (Z := []) (xs := xs) hsm hlen htk (G.keep kB) Rm ⟨mg, T.g.keeps kB, g1⟩ (by simp) (.cons (.list (ex_some.mpr ⟨by simp, hD⟩) (vrs_adr xs)) .nil) fun v' h' tk k r => q v' h' tk k r
theorem St.unhide {B : Heap} {L : Addr} {Z : List Addr} {m : Env'} {h h' : Heap} (X : St w B L ⟨[], Z⟩ m h) (hL : L ∉ Z) (hZ : ∀ b ∈ Z, B.get? b = none) (k : ∀ b o, b ∉ Z → h.get? b = some o → h'.get? b = some o) : St w B L ⟨[], []⟩ m h' := by
  refine X.move (own' := ⟨[], []⟩) rfl (fun mv F => ⟨F.ns.at fun o e => k _ _ hL e, fun b o e => k b o (fun h => by rw [hZ b h] at e; cases e) (F.keep b o e), F.above⟩) (fun b o e => ?_) (fun p hp => nomatch hp) (fun b hb => nomatch hb)
  obtain ⟨hn, e⟩ := ex_some.mp e
  unfold Own.all at hn
  simp only [List.map_nil, List.nil_append, List.mem_cons, not_or] at hn
  refine ex_some.mpr ⟨?_, k b o hn.2 e⟩
  unfold Own.all
  simpa using hn.1
theorem St.bsize {B : Heap} {L : Addr} {own : Own} {m : Env'} {h h' : Heap} (X : St w B L own m h) (k : Keep h h') : B.objs.size ≤ h'.objs.size ∧ ∃ o, h'.get? L = some o := by
  obtain ⟨mv, F, _⟩ := X.fr
  obtain ⟨o, _, _, ho, _⟩ := F.ns
  exact ⟨Nat.le_trans F.above (Nat.le_of_lt (Heap.lt_size (k _ _ ho))), o, k _ _ ho⟩

theorem tlen_le {k : Nat} : ∀ ps : List (Addr × Row), (∀ p ∈ ps, p.2.text.length ≤ k) → tlen ps ≤ k * ps.length
  | [], _ => by simp [tlen]
  | p :: ps, h => by
    have h1 := h p List.mem_cons_self
    have h2 := tlen_le ps fun q hq => h q (List.mem_cons_of_mem _ hq)
    show p.2.text.length + tlen ps ≤ k * (ps.length + 1)
    rw [Nat.mul_add]; omega
theorem zip_at {xs : List Addr} {rows : List Row} {p : Addr × Row} (h : p ∈ xs.zip rows) : ∃ i : Nat, xs[i]? = some p.1 ∧ rows[i]? = some p.2 := by
  obtain ⟨i, hi⟩ := List.mem_iff_getElem?.mp h
  rw [List.getElem?_zip_eq_some] at hi
  exact ⟨i, hi.1, hi.2⟩
theorem listAt {g : Gt} {v : Value} {xs : List Addr} (r : VR w g v (.list (xs.map PV.adr))) : ∃ D n, v = .ref D ∧ g D = some { cls := .type "list", data := .seq (xs.map Value.ref).toArray n } := by
  cases r with
  | @list a vs n _ e rs =>
    refine ⟨a, n, rfl, ?_⟩
    rw [← refs_of rs]
    exact e

theorem lawRest {rc : DefRec} (hrc : (recsOf VW).find? (fun e => e.name == Str.ofString "law") = some rc) {env : Env} {L : Addr} {A : Around} {B : Heap} {s : Shared} {rows : List Row} {Q : Flow → Shared → Prop} {E : Value → Shared → Prop}
    (hE : EnvOk env rc.scope L) (G : Gd w B) (Rm : Room A (d + 12)) (X : St w B L ⟨[], []⟩ [(nRows, .list (rows.map Row.pv))] s.heap) (hrows : RowsAre rows) (hb : AllBare s.gens) (q : ∀ s', Keep B s'.heap → s'.os = s.os → AllBare s'.gens → Q (.ret (.bool true)) s') :
    wpAny (model P w) A (execs (rc.body.drop 3) env) Q E s := by
  have e : (recsOf VW).find? (fun e => e.name == Str.ofString "law") = some _ := rfl
  rw [e] at hrc
  cases hrc
  dsimp only [List.drop]
  dsimp only at hE
  have hlen := hrows.len
  have hL : ∀ r ∈ rows, RowL r := fun r hr => (hrows.ok r hr).1
  have h50 : ∀ r ∈ rows, r.text.length ≤ 50000 := fun r hr => by have := (hrows.ok r hr).2; omega
  have hcq : ∀ r ∈ rows.map Row.quoted, RowC r := fun r hr => by
    obtain ⟨r', hr', rfl⟩ := List.mem_map.mp hr
    exact (hL r' hr').conv
  have kB0 : Keep B s.heap := X.base
  have hP0 : ∀ b, s.heap.get? b = none → B.get? b = none := fun b hb => by
    cases hc : B.get? b with
    | none => rfl
    | some o => have := kB0 _ _ hc; rw [hb] at this; cases this
  obtain ⟨_, oL, hLs⟩ := X.bsize (Keep.refl _)
  refine wpAny_execs_cons (wpAny_Assign_Name (eval_listGen hE G X rfl rfl rfl rfl (by decide) rfl rfl fun a mg hmg ha => madeE (d := d + 2) hE G Rm rfl rfl rfl X List.lookup_cons_self (by omega) h50 fun D xs h1 t1 k1 hD hli hxl htk => ?_) rfl)
  have hnd := toks_nodup hrows hxl htk
  have hxf : ∀ x ∈ xs, s.heap.get? x = none := fun x hx => by
    obtain ⟨j, hj, e⟩ := List.getElem_of_mem hx
    exact (htk j x rows[j] (by rw [List.getElem?_eq_getElem hj, e]) (List.getElem?_eq_getElem (by omega))).fresh
  have hxe : ∀ x ∈ xs, ∃ o, h1.get? x = some o := fun x hx => by
    obtain ⟨j, hj, e⟩ := List.getElem_of_mem hx
    exact (htk j x rows[j] (by rw [List.getElem?_eq_getElem hj, e]) (List.getElem?_eq_getElem (by omega))).get
  refine runConv (d := d + 3) (s := { s with heap := h1, toks := t1 }) (P0 := s.heap) (rows := rows.map Row.quoted) hcq G hP0 (kB0.trans k1) hb (X.bsize k1).1 (Rm.less (by omega)) hmg ha hli hnd (by rw [List.length_map]; exact hxl) (by rw [List.length_map]; omega)
    (fun j x r e1 e2 => ?_) fun D2 s2 n2 hD2 k2 eD2 ht2 ho2 hb2 => ?_
  · rw [List.getElem?_map, Option.map_eq_some_iff] at e2
    obtain ⟨r', e3, rfl⟩ := e2
    exact htk j x r' e1 e3
  have kS2 : Keep s.heap s2.heap := fun b o e => k2 b o (fun hm => by rw [hxf b hm] at e; cases e) (k1 b o e)
  have ht2' : ∀ (j : Nat) (x : Addr) (r : Row), xs[j]? = some x → rows[j]? = some r → TokAt s.heap s2.heap x r.told := fun j x r e1 e2 => by
    have := ht2 j x r.quoted e1 (by rw [List.getElem?_map, e2]; rfl)
    rwa [conv_quoted] at this
  have hxe2 : ∀ x ∈ xs, ∃ o, s2.heap.get? x = some o := fun x hx => by
    obtain ⟨j, hj, e⟩ := List.getElem_of_mem hx
    exact (ht2' j x rows[j] (by rw [List.getElem?_eq_getElem hj, e]) (List.getElem?_eq_getElem (by omega))).get
  have X2 : St w B L ⟨[], xs⟩ [(nRows, .list (rows.map Row.pv))] s2.heap := by
    have := X.hide kS2 hxf hxe2
    simpa using this
  have hLx : L ∉ xs := fun h => by rw [hxf L h] at hLs; cases hLs
  have hxB : ∀ x ∈ xs, B.get? x = none := fun x hx => hP0 x (hxf x hx)
  have hD2n : D2 ∉ (Own.mk [] xs).all L := fun hm => by
    unfold Own.all at hm
    simp only [List.map_nil, List.nil_append, List.mem_cons] at hm
    rcases hm with h | h
    · have := k1 _ _ hLs; rw [← h] at this; dsimp only at hD2; rw [hD2] at this; cases this
    · obtain ⟨o, e⟩ := hxe _ h; dsimp only at hD2; rw [hD2] at e; cases e
  refine store hE (s := s2) X2 (pv := .list (xs.map PV.adr)) rfl (.list (ex_some.mpr ⟨hD2n, eD2⟩) (vrs_adr xs)) rfl rfl fun h3 t3 k3 X3 => ?_
  have mvL : ∀ (ha hb : Heap), (∀ b o, b ≠ L → ha.get? b = some o → hb.get? b = some o) → (∀ (j : Nat) (x : Addr) (r : Row), xs[j]? = some x → rows[j]? = some r → TokAt s.heap ha x r.told) → ∀ (j : Nat) (x : Addr) (r : Row), xs[j]? = some x → rows[j]? = some r → TokAt s.heap hb x r.told :=
    fun ha hb k ht j x r e1 e2 => (ht j x r e1 e2).to fun b o hb' e => k b o (fun h => by rw [h, hLs] at hb'; cases hb') e
  have ht3 := mvL s2.heap h3 (fun b o hb e => k3.keep b o hb (by simp) (by simp) e) ht2'
  have hOk : ∀ r ∈ rows, r.Ok := fun r hr => (hL r hr).ok
  refine wpAny_execs_cons (setNameO (d := d + 12) (s := { s2 with heap := h3, toks := t3 }) hE G Rm rfl rfl rfl X3 (PE.callF (told_fn (d := d + 8) (by omega) hOk) rfl rfl rfl (by decide) (PEs.cons (PE.name (pv := .list (rows.map Row.pv)) rfl rfl rfl rfl (by decide)) PEs.nil)) rfl fun h4 t4 k4 X4 => ?_)
  have ht4 := mvL h3 h4 k4 ht3
  refine wpAny_execs_cons (wpAny_If (wpAny_isTrue_Compare1 (viewE (d := d + 2) (s := { s2 with heap := h4, toks := t4 }) hE G Rm rfl rfl X4 rfl (PE.name (d := d + 12) (pv := .list (xs.map PV.adr)) rfl rfl rfl rfl (by decide) env L A B _ _ _ _ hE G Rm X4 fun v h5 t5 k5 r5 => ?_)) rfl))
  obtain ⟨Dc, nc, rfl, ec⟩ := listAt r5
  refine ⟨(X4.keep k5).base, Dc, nc, xs, rows.map Row.told, s.heap, rfl, (ex_some.mp ec).2, by rw [List.length_map]; exact hxl, by rw [List.length_map]; omega, fun i x r e1 e2 => ?_, fun v6 h6 t6 k6 r6 => ?_⟩
  · rw [List.getElem?_map, Option.map_eq_some_iff] at e2
    obtain ⟨r', e3, rfl⟩ := e2
    exact (ht4 i x r' e1 e3).to fun b o _ e => k5 b o e
  refine PE.name (d := d + 12) (pv := .list ((rows.map Row.told).map Row.pv)) rfl rfl rfl rfl (by decide) env L A B _ _ _ _ hE G Rm ((X4.keep k5).keep k6) fun v7 h7 t7 k7 r7 => ?_
  refine rows_ne (d := d + 12) (Z := []) Rm (r6.mono (ex_keep k7)) r7 ?_
  refine wpAny_truthy_bool ?_
  rw [if_neg Bool.false_ne_true]
  refine wpAny_execs_nil ?_
  have X7 := ((X4.keep k5).keep k6).keep k7
  have ht7 := mvL h4 h7 (fun b o _ e => k7 _ _ (k6 _ _ (k5 b o e))) ht4
  have hps1 : (xs.zip (rows.map Row.told)).map Prod.fst = xs := List.map_fst_zip (by rw [List.length_map]; omega)
  have hps2 : (xs.zip (rows.map Row.told)).map Prod.snd = rows.map Row.told := List.map_snd_zip (by rw [List.length_map]; omega)
  have hpl : (xs.zip (rows.map Row.told)).length ≤ 18 := by rw [List.length_zip]; omega
  have hpt : ∀ p ∈ xs.zip (rows.map Row.told), TokAt s.heap h7 p.1 p.2 := fun p hp => by
    obtain ⟨i, e1, e2⟩ := zip_at hp
    rw [List.getElem?_map, Option.map_eq_some_iff] at e2
    obtain ⟨r', e3, e4⟩ := e2
    rw [← e4]
    exact ht7 i p.1 r' e1 e3
  have hpx : ∀ p ∈ xs.zip (rows.map Row.told), p.2.text.length ≤ 30 := fun p hp => by
    obtain ⟨i, e1, e2⟩ := zip_at hp
    rw [List.getElem?_map, Option.map_eq_some_iff] at e2
    obtain ⟨r', e3, e4⟩ := e2
    rw [← e4]
    have := told_len r'
    have := (hrows.ok r' (List.mem_of_getElem? e3)).2
    omega
  have hrj : ((cc none (xs.zip (rows.map Row.told))).map Prod.snd) = jn [] (rows.map Row.told) := by rw [(cc_jn _).1, hps2]
  have htl := tlen_le _ hpx
  have hcl : (cc none (xs.zip (rows.map Row.told))).length ≤ (xs.zip (rows.map Row.told)).length + 0 := cc_len _ none
  generalize xs.zip (rows.map Row.told) = ps at hps1 hps2 hpl hpt hpx hrj htl hcl
  refine wpAny_execs_cons (wpAny_If (wpAny_isTrue_Compare1 (viewE (d := d + 2) (s := { s2 with heap := h7, toks := t7 }) hE G Rm rfl rfl X7 rfl
    (eval_listGen hE G X7 rfl rfl rfl rfl (by decide) rfl rfl fun a mg hmg ha => PE.name (d := d + 12) (pv := .list (xs.map PV.adr)) rfl rfl rfl rfl (by decide) env L A B _ _ _ _ hE G Rm X7 fun v h8 t8 k8 r8 => ?_)) rfl))
  obtain ⟨Dd, nd, rfl, ed⟩ := listAt r8
  refine runConc (d := d + 3) (s := { s2 with heap := h8, toks := t8 }) (P0 := s.heap) (ps := ps) (by omega) G hP0 (X7.keep k8).base hb2 (X7.bsize k8).1 (Rm.less (by omega)) hmg ha (by rw [hps1]; exact listGet (ex_some.mp ed).2) (by rw [hps1]; exact hnd) (by omega) (fun p hp => (hpt p hp).to fun b o _ e => k8 b o e) fun D9 s9 n9 hD9 k9 e9 ht9 ho9 hb9 => ?_
  rw [hps1] at k9
  have X9 : St w B L ⟨[], []⟩ _ s9.heap := (X7.keep k8).unhide hLx hxB k9
  refine ⟨X9.base, D9, n9, (cc none ps).map Prod.fst, (cc none ps).map Prod.snd, s.heap, rfl, e9, by simp, by rw [List.length_map]; omega, fun i x r e1 e2 => ?_, fun v10 h10 t10 k10 r10 => ?_⟩
  · rw [List.getElem?_map, Option.map_eq_some_iff] at e1 e2
    obtain ⟨p1, a1, a2⟩ := e1
    obtain ⟨p2, b1, b2⟩ := e2
    rw [a1] at b1
    cases b1
    rw [← a2, ← b2]
    exact ht9 p1 (List.mem_of_getElem? a1)
  rw [hrj] at r10
  have X10 := X9.keep k10
  refine PE.callF (w := w) (d := d + 12) (c := .list ((jn [] (rows.map Row.told)).map Row.pv)) (joined_fn (d := d + 11) (rows := rows.map Row.told) (glue := []) (by rw [List.length_map]; omega) (fun r hr => ?_) (by decide)) rfl rfl rfl (by decide) (PEs.cons (PE.name (pv := .list ((rows.map Row.told).map Row.pv)) rfl rfl rfl rfl (by decide)) (PEs.cons (PE.str (by simp [lit])) PEs.nil)) (by intro _; exact star_cons rfl) env L A B _ _ _ _ hE G Rm X10 fun v11 h11 t11 k11 r11 => ?_
  · obtain ⟨r', hr', rfl⟩ := List.mem_map.mp hr
    have := told_len r'
    have := (hrows.ok r' hr').2
    omega
  refine rows_ne (d := d + 12) (Z := []) Rm (r10.mono (ex_keep k11)) r11 ?_
  refine wpAny_truthy_bool ?_
  rw [if_neg Bool.false_ne_true]
  refine wpAny_execs_nil ?_
  have X11 := X10.keep k11
  have hLs11 : ∃ o, h11.get? L = some o := (X11.bsize (Keep.refl _)).2
  clear ht7 ht4 ht3 ht2' r10 r11 r8 ed r6 r7 r5 ec
  clear hpt hps1 hps2 hpl hpx hrj htl hcl hnd hxl htk hxf hxe hxe2 hLx hxB
  obtain ⟨oL11, hLs11⟩ := hLs11
  have hP1 : ∀ b, h11.get? b = none → B.get? b = none := fun b hb => by
    cases hc : B.get? b with
    | none => rfl
    | some o => have := X11.base _ _ hc; rw [hb] at this; cases this
  refine wpAny_execs_cons (wpAny_Assign_Name (eval_listGen hE G X11 rfl rfl rfl rfl (by decide) rfl rfl fun a mg hmg ha => madeE (d := d + 2) (rows := rows) hE G Rm rfl rfl rfl X11 rfl (by omega) h50 fun Dm ys h12 t12 k12 hDm hlm hyl hty => ?_) rfl)
  have hynd := toks_nodup hrows hyl hty
  have hyf : ∀ x ∈ ys, h11.get? x = none := fun x hx => by
    obtain ⟨j, hj, e⟩ := List.getElem_of_mem hx
    exact (hty j x rows[j] (by rw [List.getElem?_eq_getElem hj, e]) (List.getElem?_eq_getElem (by omega))).fresh
  have hye : ∀ x ∈ ys, ∃ o, h12.get? x = some o := fun x hx => by
    obtain ⟨j, hj, e⟩ := List.getElem_of_mem hx
    exact (hty j x rows[j] (by rw [List.getElem?_eq_getElem hj, e]) (List.getElem?_eq_getElem (by omega))).get
  have hqs1 : (ys.zip (rows.map Row.quoted)).map Prod.fst = ys := List.map_fst_zip (by rw [List.length_map]; omega)
  have hqs2 : (ys.zip (rows.map Row.quoted)).map Prod.snd = rows.map Row.quoted := List.map_snd_zip (by rw [List.length_map]; omega)
  have hql : (ys.zip (rows.map Row.quoted)).length ≤ 18 := by rw [List.length_zip]; omega
  have hqt : ∀ p ∈ ys.zip (rows.map Row.quoted), TokAt h11 h12 p.1 p.2 := fun p hp => by
    obtain ⟨i, e1, e2⟩ := zip_at hp
    rw [List.getElem?_map, Option.map_eq_some_iff] at e2
    obtain ⟨r', e3, e4⟩ := e2
    rw [← e4]
    exact hty i p.1 r' e1 e3
  have hqx : ∀ p ∈ ys.zip (rows.map Row.quoted), p.2.text.length ≤ 32 := fun p hp => by
    obtain ⟨i, e1, e2⟩ := zip_at hp
    rw [List.getElem?_map, Option.map_eq_some_iff] at e2
    obtain ⟨r', e3, e4⟩ := e2
    rw [← e4]
    have := quoted_len r'
    have := (hrows.ok r' (List.mem_of_getElem? e3)).2
    omega
  have hqj : ((cc none (ys.zip (rows.map Row.quoted))).map Prod.snd) = (jn [34, 34] rows).map Row.quoted := by rw [(cc_jn _).1, hqs2, (jF_quoted rows).2]
  have hqtl := tlen_le _ hqx
  have hqcl : (cc none (ys.zip (rows.map Row.quoted))).length ≤ (ys.zip (rows.map Row.quoted)).length + 0 := cc_len _ none
  have hzs := (cc_sub (ys.zip (rows.map Row.quoted))).1
  generalize ys.zip (rows.map Row.quoted) = qs at hqs1 hqs2 hql hqt hqx hqj hqtl hqcl hzs
  rw [hqs1] at hzs
  refine runConc (d := d + 3) (s := { s9 with heap := h12, toks := t12 }) (P0 := h11) (ps := qs) (by omega) G hP1 (X11.base.trans k12) hb9 (X11.bsize k12).1 (Rm.less (by omega)) hmg ha (by rw [hqs1]; exact hlm) (by rw [hqs1]; exact hynd) (by omega) hqt fun D13 s13 n13 hD13 k13 e13 ht13 ho13 hb13 => ?_
  rw [hqs1] at k13
  have hzl : ((cc none qs).map Prod.fst).length = ((jn [34, 34] rows).map Row.quoted).length := by rw [← hqj, List.length_map, List.length_map]
  have ht13' : ∀ (j : Nat) (x : Addr) (r : Row), ((cc none qs).map Prod.fst)[j]? = some x → ((jn [34, 34] rows).map Row.quoted)[j]? = some r → TokAt h11 s13.heap x r := fun j x r e1 e2 => by
    rw [← hqj] at e2
    rw [List.getElem?_map, Option.map_eq_some_iff] at e1 e2
    obtain ⟨p1, a1, a2⟩ := e1
    obtain ⟨p2, b1, b2⟩ := e2
    rw [a1] at b1
    cases b1
    rw [← a2, ← b2]
    exact ht13 p1 (List.mem_of_getElem? a1)
  generalize hze : (cc none qs).map Prod.fst = zs at hzs hzl ht13' e13
  have hznd : zs.Nodup := hynd.sublist hzs
  have hzf : ∀ x ∈ zs, h11.get? x = none := fun x hx => hyf x (hzs.subset hx)
  have hjl : (jn [34, 34] rows).length ≤ 18 := Nat.le_trans (jn_len _ _).1 hlen
  have hze13 : ∀ x ∈ zs, ∃ o, s13.heap.get? x = some o := fun x hx => by
    obtain ⟨j, hj, e⟩ := List.getElem_of_mem hx
    have hj2 : j < ((jn [34, 34] rows).map Row.quoted).length := by omega
    exact (ht13' j x _ (by rw [List.getElem?_eq_getElem hj, e]) (List.getElem?_eq_getElem hj2)).get
  have kS13 : Keep h11 s13.heap := fun b o e => k13 b o (fun hm => by rw [hyf b hm] at e; cases e) (k12 b o e)
  have X13 : St w B L ⟨[], zs ++ []⟩ _ s13.heap := X11.hide kS13 hzf hze13
  rw [List.append_nil] at X13
  have hLz : L ∉ zs := fun h => by have := hzf L h; rw [hLs11] at this; cases this
  have hzB : ∀ x ∈ zs, B.get? x = none := fun x hx => hP1 x (hzf x hx)
  have hD13n : D13 ∉ (Own.mk [] zs).all L := fun hm => by
    unfold Own.all at hm
    simp only [List.map_nil, List.nil_append, List.mem_cons] at hm
    rcases hm with h | h
    · have := k12 _ _ hLs11; rw [← h] at this; dsimp only at hD13; rw [hD13] at this; cases this
    · obtain ⟨o, e⟩ := hye _ (hzs.subset h); dsimp only at hD13; rw [hD13] at e; cases e
  refine store hE (s := s13) X13 (pv := .list (zs.map PV.adr)) rfl (.list (ex_some.mpr ⟨hD13n, e13⟩) (vrs_adr zs)) rfl rfl fun h14 t14 k14 X14 => ?_
  have mvZ : ∀ (ha hb : Heap), (∀ b o, b ≠ L → ha.get? b = some o → hb.get? b = some o) → (∀ (j : Nat) (x : Addr) (r : Row), zs[j]? = some x → ((jn [34, 34] rows).map Row.quoted)[j]? = some r → TokAt h11 ha x r) → ∀ (j : Nat) (x : Addr) (r : Row), zs[j]? = some x → ((jn [34, 34] rows).map Row.quoted)[j]? = some r → TokAt h11 hb x r :=
    fun ha hb k ht j x r e1 e2 => (ht j x r e1 e2).to fun b o hb' e => k b o (fun h => by rw [h, hLs11] at hb'; cases hb') e
  have ht14 := mvZ s13.heap h14 (fun b o hb e => k14.keep b o hb (by simp) (by simp) e) ht13'
  have hjL := jn_rowL hlen hL fun r hr => (hrows.ok r hr).2
  refine wpAny_execs_cons (setNameO (d := d + 12) (s := { s13 with heap := h14, toks := t14 }) hE G Rm rfl rfl rfl X14 (PE.callF (c := .list ((jn [34, 34] rows).map Row.pv)) (joined_fn (d := d + 11) (rows := rows) (glue := [34, 34]) (by omega) (fun r hr => by have := (hrows.ok r hr).2; omega) (by decide)) rfl rfl rfl (by decide)
    (PEs.cons (PE.name (pv := .list (rows.map Row.pv)) rfl rfl rfl rfl (by decide)) (PEs.cons (PE.str (by simp [lit])) PEs.nil)) (by intro _; exact star_cons rfl)) rfl fun h15 t15 k15 X15 => ?_)
  have ht15 := mvZ h14 h15 k15 ht14
  refine wpAny_execs_cons (wpAny_If (wpAny_isTrue_Compare1 (viewE (d := d + 2) (s := { s13 with heap := h15, toks := t15 }) hE G Rm rfl rfl X15 rfl (PE.name (d := d + 12) (pv := .list (zs.map PV.adr)) rfl rfl rfl rfl (by decide) env L A B _ _ _ _ hE G Rm X15 fun v h16 t16 k16 r16 => ?_)) rfl))
  obtain ⟨Dg, ng, rfl, eg⟩ := listAt r16
  refine ⟨(X15.keep k16).base, Dg, ng, zs, (jn [34, 34] rows).map Row.quoted, h11, rfl, (ex_some.mp eg).2, hzl, by rw [List.length_map]; omega, fun i x r e1 e2 => (ht15 i x r e1 e2).to fun b o _ e => k16 b o e, fun v17 h17 t17 k17 r17 => ?_⟩
  have X17 := (X15.keep k16).keep k17
  refine PE.callF (w := w) (d := d + 12) (c := .list (((jn [34, 34] rows).map Row.quoted).map Row.pv)) (quoted_fn (d := d + 8) (by omega) (fun r hr => by have := (hjL r hr).len; omega)) rfl rfl rfl (by decide) (PEs.cons (PE.name (pv := .list ((jn [34, 34] rows).map Row.pv)) rfl rfl rfl rfl (by decide)) PEs.nil) (by intro _; exact star_cons rfl) env L A B _ _ _ _ hE G Rm X17 fun v18 h18 t18 k18 r18 => ?_
  refine rows_ne (d := d + 12) (Z := []) Rm (r17.mono (ex_keep k18)) r18 ?_
  refine wpAny_truthy_bool ?_
  rw [if_neg Bool.false_ne_true]
  refine wpAny_execs_nil ?_
  have X18 := X17.keep k18
  have ht18 := mvZ h15 h18 (fun b o _ e => k18 _ _ (k17 _ _ (k16 b o e))) ht15
  refine wpAny_execs_cons (wpAny_Return_some (wpAny_Compare1 (viewE (d := d + 2) (s := { s13 with heap := h18, toks := t18 }) hE G Rm rfl rfl X18 rfl
    (eval_listGen hE G X18 rfl rfl rfl rfl (by decide) rfl rfl fun a mg hmg ha => PE.name (d := d + 12) (pv := .list (zs.map PV.adr)) rfl rfl rfl rfl (by decide) env L A B _ _ _ _ hE G Rm X18 fun v h19 t19 k19 r19 => ?_)) rfl))
  obtain ⟨Dh, nh, rfl, eh⟩ := listAt r19
  refine runConv (d := d + 3) (s := { s13 with heap := h19, toks := t19 }) (P0 := h11) (xs := zs) (rows := (jn [34, 34] rows).map Row.quoted) (fun r hr => ?_) G hP1 (X18.keep k19).base hb13 (X18.bsize k19).1 (Rm.less (by omega)) hmg ha (listGet (ex_some.mp eh).2) hznd hzl (by rw [List.length_map]; omega)
    (fun j x r e1 e2 => (ht18 j x r e1 e2).to fun b o _ e => k19 b o e) fun D20 s20 n20 hD20 k20 e20 ht20 ho20 hb20 => ?_
  · obtain ⟨r', hr', rfl⟩ := List.mem_map.mp hr
    exact (hjL r' hr').conv
  have X20 : St w B L ⟨[], []⟩ _ s20.heap := (X18.keep k19).unhide hLz hzB k20
  refine ⟨X20.base, D20, n20, zs, (jn [34, 34] rows).map Row.told, h11, rfl, e20, by rw [hzl, List.length_map, List.length_map], by rw [List.length_map]; omega, fun i x r e1 e2 => ?_, fun v21 h21 t21 k21 r21 => ?_⟩
  · rw [List.getElem?_map, Option.map_eq_some_iff] at e2
    obtain ⟨r', e3, rfl⟩ := e2
    have := ht20 i x r'.quoted e1 (by rw [List.getElem?_map, e3]; rfl)
    rwa [conv_quoted] at this
  have X21 := X20.keep k21
  refine PE.callF (w := w) (d := d + 12) (c := .list (((jn [34, 34] rows).map Row.told).map Row.pv)) (told_fn (d := d + 8) (by omega) (fun r hr => (hjL r hr).ok)) rfl rfl rfl (by decide) (PEs.cons (PE.name (pv := .list ((jn [34, 34] rows).map Row.pv)) rfl rfl rfl rfl (by decide)) PEs.nil) (by intro _; exact star_cons rfl) env L A B _ _ _ _ hE G Rm X21 fun v22 h22 t22 k22 r22 => ?_
  refine rows_eq (d := d + 12) (Z := []) Rm (r21.mono (ex_keep k22)) r22 ?_
  exact q _ (X21.keep k22).base (ho20.trans (ho13.trans (ho9.trans ho2))) hb20
end
end
section
section
variable {w : World} {d : Nat}
theorem lawWalk {rc : DefRec} (hrc : (recsOf VW).find? (fun e => e.name == Str.ofString "law") = some rc) {env : Env} {L c : Addr} {A : Around} {B : Heap} {s : Shared} {ns : List Int} {Q : Flow → Shared → Prop} {E : Value → Shared → Prop}
    (hE : EnvOk env rc.scope L) (hc : env.cells.lookup nTape = some c) (G : Gd w B) (Rm : Room A (d + 12)) (X : St w B L ⟨[], []⟩ [(Str.ofString "script", .list (ns.map .int))] s.heap) (hcell : s.heap.IsCell c none) (hcL : c ≠ L) (hcB : B.get? c = none) (hns : ns.length ≤ 1000) (hb : AllBare s.gens) (q : ∀ s', Keep B s'.heap → s'.os = s.os → AllBare s'.gens → Q (.ret (.bool true)) s') :
    wpAny (model P w) A (execs rc.body env) Q E s := by
  have hrest : ∀ {s' : Shared} {rows : List Row} (_ : s'.gens = s.gens) (_ : s'.os = s.os) (_ : EnvOk env rc.scope L) (_ : St w B L ⟨[], []⟩ [(nRows, .list (rows.map Row.pv))] s'.heap) (_ : RowsAre rows), wpAny (model P w) A (execs (rc.body.drop 3) env) Q E s' := fun hg ho hE X hr => lawRest hrc hE G Rm X hr (by rw [hg]; exact hb) fun s'' k o b => q s'' k (o.trans ho) b
  have hloop : ∀ {m : Env'} {l : List Nat} {R : PF → Env' → List Nat → Prop} {st : Stmt} (hst : rc.body[2]? = some st) (hl : l.length ≤ 18) (hlt : ∀ x ∈ l, x < 1000000000) (hm : m.lookup nRows = some (.acc [])) (hR : ∀ m' l' rows, RowsAre rows → m'.lookup nRows = some (.acc (rows.map Row.pv)) → R .next m' l'), TX1 w (d + 8 + 4) rc.scope st m l R :=
    fun hst hl hlt hm hR => lawLoop hrc hst hl hlt hm hR
  have e : (recsOf VW).find? (fun e => e.name == Str.ofString "law") = some _ := rfl
  rw [e] at hrc
  cases hrc
  dsimp only at hE hrest hloop ⊢
  dsimp only [List.drop] at hrest
  obtain ⟨oc, hoc, hod⟩ := id hcell
  have hkind : env.kindOf (Str.ofString "tape") = some .cell := by unfold Env.kindOf; rw [hE.sc]; rfl
  refine wpAny_execs_cons (wpAny_Assign_Name ?_ ?hsw)
  case hsw =>
    unfold swapsWith
    dsimp only
    rw [hkind]
    have : (some NameKind.cell == some NameKind.local) = false := rfl
    rw [this, Bool.and_false, Bool.false_and, Bool.false_and]
  refine compG (d := d + 12) (w := w) (cl := []) (items := (ns.map PV.int).take 18) [] (fun _ _ => True) (fun i g v => ∀ n, (ns.take 18)[i]? = some n → VR w g v (.int ((n % 1000000000).toNat : Nat))) (fun p => [(Str.ofString "n", p)])
    (PI.list (PE.listTo (PE.name (pv := .list (ns.map .int)) rfl rfl rfl rfl (by decide)) (by walk_at "pei") (by rw [List.length_map]; omega))) hE G Rm X (closureFor_none (by decide)) (by decide) rfl (by decide) (fun p hp => ?_) (by rw [List.length_take, List.length_map]; omega) (by simp) (by simp) trivial (fun _ _ _ _ _ => trivial) (fun i g g' v k h n e => (h n e).mono k) ?helt ?hq (by intro _; rfl)
  · rw [relabel_none (by decide)]
    refine TG.name ?_ rfl rfl
    obtain ⟨n, _, rfl⟩ := List.mem_map.mp (List.mem_of_mem_take hp)
    rfl
  case helt =>
    intro i p cenv C Z s' hp hE' _ hZ X' _ Q' E'' q'
    rw [relabel_none (by decide)] at hE'
    rw [← List.map_take, List.getElem?_map, Option.map_eq_some_iff] at hp
    obtain ⟨n, hn, rfl⟩ := hp
    have hpos : (0 : Int) ≤ n % 1000000000 := Int.emod_nonneg _ (by decide)
    refine PE.castI (b := ((n % 1000000000).toNat : Nat)) (PE.modp (w := w) (d := d + 12) (PE.name (pv := .int n) lookSelf rfl rfl rfl (by decide)) PE.int (by decide)) (by omega) cenv C A B ⟨[], Z⟩ s' Q' E'' hE' G Rm X' fun v h' tk k r => q' v h' tk (fun b o _ e => k b o e) (by simp) trivial fun n' hn' => ?_
    rw [hn] at hn'
    cases hn'
    exact r
  case hq =>
    intro D h' tk' ys n k hD eD hsz hr _ _
    have hk : Keep s.heap h' := fun b o e => k b o (by simp) e
    obtain ⟨mv, F, _⟩ := X.fr
    obtain ⟨oL, esL, epL, hoL, _⟩ := id F.ns
    have hDc : D ≠ c := fun h => by rw [h, hoc] at hD; cases hD
    have hDL : D ≠ L := fun h => by rw [h, hoL] at hD; cases hD
    refine wpAny_storeName_cell (s := { s with heap := h', toks := tk' }) (by rw [hE.sc]) (by unfold Env.kindOf; rw [hE.sc]; rfl) hc ⟨oc, hk _ _ hoc, hod⟩ fun h2 hc2 sb2 => ?_
    have k2 : ∀ b o, b ≠ c → s.heap.get? b = some o → h2.get? b = some o := fun b o hb e => (sb2.2 b hb).trans (hk _ _ e)
    have eD2 : h2.get? D = some { cls := .type "list", data := .seq ys n } := (sb2.2 D hDc).trans eD
    have hBD : B.get? D = none := by
      cases hcc : B.get? D with
      | none => rfl
      | some o => have := X.base _ _ hcc; rw [hD] at this; cases this
    have X2 : St w B L ⟨[], [c, D]⟩ [] h2 := by
      refine ⟨⟨mv, ⟨F.ns.at fun o e => k2 _ _ (Ne.symm hcL) e, fun b o e => k2 b o (fun h => by rw [h, hcB] at e; cases e) (F.keep b o e), F.above⟩, fun x pv e => by cases e⟩, (fun p hp => nomatch hp), List.nodup_nil, fun b hb => ?_⟩
      rcases List.mem_cons.mp hb with rfl | hb
      · obtain ⟨o, e, _⟩ := hc2
        exact ⟨o, e⟩
      · rcases List.mem_singleton.mp hb with rfl
        exact ⟨_, eD2⟩
    have S2 : Sepa B L ⟨[], [c, D]⟩ c D := ⟨by simp, by simp, hcB, hBD, hcL, hDL, hDc.symm, fun p hp => nomatch hp⟩
    have T2 : TT w c D ((ns.take 18).map fun n => (n % 1000000000).toNat) h2 := by
      refine ⟨hc2, ys, n, eD2, fun g => vrs_of (by rw [Array.length_toList, hsz]; simp) fun i v p e1 e2 => ?_⟩
      rw [List.map_map, List.getElem?_map, Option.map_eq_some_iff] at e2
      obtain ⟨m, hm, rfl⟩ := e2
      have := hr i v (by rw [← Array.getElem?_toList]; exact e1) m hm
      cases this
      exact .int _ _
    have hl18 : ((ns.take 18).map fun n => (n % 1000000000).toNat).length ≤ 18 := by rw [List.length_map, List.length_take]; omega
    have hlt : ∀ x ∈ (ns.take 18).map fun n => (n % 1000000000).toNat, x < 1000000000 := fun x hx => by
      obtain ⟨m, _, rfl⟩ := List.mem_map.mp hx
      have h1 : m % 1000000000 < 1000000000 := Int.emod_lt_of_pos _ (by decide)
      have h2 : (0 : Int) ≤ m % 1000000000 := Int.emod_nonneg _ (by decide)
      omega
    refine wpAny_execs_cons ((TX1.px (w := w) (d := d + 12) (R := fun f m l => f = .next ∧ m = [(nRows, .acc [])] ∧ l = (ns.take 18).map fun n => (n % 1000000000).toNat) (PX1.newAcc rfl rfl ⟨rfl, rfl, rfl⟩)) env L A B ⟨[], [c, D]⟩ { s with heap := h2, toks := tk' } _ E c D hE G Rm X2 S2 hc T2 fun f pf m' l' own' h3 t3 hr3 ho3 X3 S3 T3 hf3 => ?_)
    obtain ⟨rfl, rfl, rfl⟩ := hr3
    cases f with
    | brk => exact hf3.elim
    | cont => exact hf3.elim
    | ret v => exact hf3.elim
    | next =>
      refine wpAny_execs_cons (hloop (R := fun f m l => f = .next ∧ ∃ rows, RowsAre rows ∧ m.lookup nRows = some (.acc (rows.map Row.pv))) rfl hl18 hlt lookSelf (fun m' l' rows h1 h2 => ⟨rfl, rows, h1, h2⟩) env L A B own' { s with heap := h3, toks := t3 } _ E c D hE G Rm X3 S3 hc T3 fun f pf m' l' own4 h4 t4 hr4 ho4 X4 S4 T4 hf4 => ?_)
      obtain ⟨rfl, rows, hrows, hlook⟩ := hr4
      cases f with
      | brk => exact hf4.elim
      | cont => exact hf4.elim
      | ret v => exact hf4.elim
      | next => exact hrest (s' := { s with heap := h4, toks := t4 }) rfl rfl hE (X4.freeze hlook) hrows
end
end
section
section
variable {w : World}
theorem lawCall {s : Shared} {fa l : Addr} {vs : List Value} {ns : List Int} {R : Result → Shared → Prop} (G : Gd w s.heap) (hg : ∃ mg, s.heap.Ns mainGlobals mg ∧ mg (Str.ofString "law") = some (.ref fa)) (hl : s.heap.get? l = some { cls := .type "list", data := .seq vs.toArray })
    (hvs : VRs w s.heap.get? vs (ns.map .int)) (hns : ns.length ≤ 1000) (hb : AllBare s.gens) (hR : ∀ s', Keep s.heap s'.heap → s'.os = s.os → AllBare s'.gens → R (.ok (.ret (.bool true))) s') :
    codeAny (model P w) callerA (.call (.ref fa) ⟨[.ref l], []⟩) R s := by
  have hrc : ∃ rc, (recsOf VW).find? (fun e => e.name == Str.ofString "law") = some rc := ⟨_, rfl⟩
  obtain ⟨rc, hrc⟩ := hrc
  obtain ⟨mean, mg, mb, T⟩ := G.top
  have hmem := List.mem_of_find?_eq_some hrc
  have hnm : rc.name = Str.ofString "law" := beq_iff_eq.mp (List.find?_some (p := fun e : DefRec => e.name == Str.ofString "law") hrc)
  obtain ⟨a', o, pm, code, doc, f1, f2, f3, f4⟩ := T.fn rc hmem
  obtain ⟨mg', G', hg'⟩ := hg
  have e1 : mg' = mg := nsUnique G' T.g
  subst e1
  rw [hnm, hg'] at f1
  cases f1
  have hwalk := fun {env : Env} {L c : Addr} {A : Around} {B : Heap} {s : Shared} {Q : Flow → Shared → Prop} {E : Value → Shared → Prop} => lawWalk (w := w) (d := 0) (ns := ns) hrc (env := env) (L := L) (c := c) (A := A) (B := B) (s := s) (Q := Q) (E := E)
  clear hmem hnm
  have e : (recsOf VW).find? (fun e => e.name == Str.ofString "law") = some _ := rfl
  rw [e] at hrc
  cases hrc
  dsimp only at f2 f3 f4 hwalk
  refine call_cells_ret (binds := [(Str.ofString "script", .ref l)]) (by decide) f2 f3 T.nolimit f4 rfl (by intro x hx; rcases List.mem_singleton.mp hx with rfl; exact .inl rfl) (fun h₁ tk F X => ?_) rfl rfl rfl
  have hlt := Heap.lt_size hl
  refine hwalk (c := s.heap.objs.size + 1) ⟨rfl, rfl, rfl, rfl⟩ rfl G (Room.deeper (d := 12) ⟨rfl, by decide, by decide⟩) ?_ (X.cell nTape (s.heap.objs.size + 1) rfl) (Nat.succ_ne_self _) (Heap.get?_none_of_le (Nat.le_succ _)) hns hb fun s' k o b => hR s' k o b
  refine ⟨⟨_, F, fun x pv e => ?_⟩, (fun p hp => nomatch hp), List.nodup_nil, fun b hb => nomatch hb⟩
  rw [List.lookup_cons] at e
  by_cases hx : x = Str.ofString "script"
  · subst hx
    rw [beq_self_eq_true] at e
    cases e
    have hsub : Sub s.heap.get? (gOf h₁ s.heap.objs.size ⟨[], []⟩) := fun b o e => by
      refine ex_some.mpr ⟨fun hm => ?_, F.keep b o e⟩
      unfold Own.all at hm
      simp at hm
      rw [hm, noneSize] at e
      cases e
    exact ⟨.ref l, rfl, VR.list (hsub _ _ hl) (hvs.mono hsub)⟩
  · rw [beq_eq_false_iff_ne.mpr hx] at e
    cases e
end
end
section
section
variable {w : World}
theorem well_vrs {P : Params} {h : Heap} : ∀ {vs : List Value} {ns : List Int}, WellAll P h vs (ofPys (ns.map .int)) → VRs w h.get? vs (ns.map PV.int)
  | [], [], _ => .nil
  | [], _ :: _, x => by cases x
  | _ :: _, [], x => by cases x
  | v :: vs, n :: ns, x => by
    have x' : WellAll P h (v :: vs) (.int n :: ofPys (ns.map .int)) := x
    cases x' with
    | cons a b =>
      cases a
      exact .cons (.int _ _) (well_vrs b)
theorem well_list {P : Params} {h : Heap} {l : Addr} {ns : List Int} (x : Well P h (.ref l) (ofPy (.list (ns.map .int)))) : ∃ vs : List Value, h.get? l = some { cls := .type "list", data := .seq vs.toArray } ∧ VRs w h.get? vs (ns.map PV.int) := by
  have x' : Well P h (.ref l) (.list (ofPys (ns.map .int))) := x
  cases x' with
  | list a b => exact ⟨_, a, well_vrs b⟩
end
end
end Mine
theorem PySem.Challenge.cw_qt0003_01_holds : PySem.Challenge.rw_qt0003_01.Holds := by

  refine holds_law (by rw [PySem.W.Fast.te9446332074065402090]; kernel_rfl) fun said => ?_
  refine holds_open (q := Mine.hd.view_39) (loose := Mine.LO) (Xt := fun s => xlAt Mine.hd.view_39 [] s && recOk (RowW.records PySem.Challenge.rw_qt0003_01.row.toRowW) s) (XP := XL Mine.hd.view_39 []) (Yf := Hook.obs Mine.HK) (Ya := Hook.val Mine.HK) (YP := Hook.says Mine.HK) (N := 3706) Mine.hd.left (Hook.of Mine.HK) (Hook.keeps Mine.HK) (fun s e => xl_of s (Bool.and_eq_true_iff.mp e).1) XL.keeps (by rfl) (by rfl) (by rfl) (fun s e => recFacts_of (Bool.and_eq_true_iff.mp e).2) (by rfl) (by first | assumption | decide +kernel) (by decide +kernel) ⟨rfl, rfl, rfl, rfl, rfl, by decide +kernel⟩ ?hw ?hc
  case hw => w_witness2
  intro w s₀ s₁ mg mb G Y fa o pm cd doc dV kV ho hd hcd hD hmg hg args vals as hpre hlay hrd hwl hlo
  have KX : (Mine.hd.heap_39 w.params).In s₁.heap := kIn_of Y
  refine Ground.open G ?_
  intro T B D TE TW
  wrow_args hpre hlay hrd hwl hlo
  refine enter_call ?_
  rename Well _ _ _ _ => wl
  obtain ⟨vs, hl, hvs⟩ := Mine.well_list wl
  rename ¬ _ < _ => hlen
  refine Mine.lawCall ⟨⟨_, mg, mb, T⟩, KX⟩ ⟨mg, T.g, hmg⟩ hl hvs (by omega) (.of_eq hg) fun s' k os b => ?_
  refine ⟨.inl ⟨_, _, [], rfl, fun _ => rfl, ReadsW.bool true, ?_, fun _ => ⟨List.nodup_nil, fun _ hm => nomatch hm⟩⟩, .of_keep k, os, b⟩
  first | rfl | wrow_post
