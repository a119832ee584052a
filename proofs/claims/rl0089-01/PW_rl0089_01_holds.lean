import PyProof.Rows.All
import Wide.All
import OpenK.AllK
import Wide.FinOn
import Lean
import PySem.Challenge.RW_rl0089_01
set_option Elab.async false
set_option maxRecDepth 100000
set_option maxHeartbeats 0
set_option linter.all false
set_option genSizeOf false
set_option genInjectivity false
namespace Mine
section
open PySem PySem.W
/-! the objects that the top leaves behind, as far as they are read; a def's parts are taken from the program -/
noncomputable def outS (i : Nat) : Stmt := PySem.Challenge.pw_rl0089_01.main.body.getD i default
noncomputable def nestS (i j : Nat) : Stmt := match outS i with
  | .ClassDef _ _ _ b _ _ _ _ _ _ _ => b.getD j default
  | s => s
noncomputable def fnO (name qual : String) (s : Stmt) (m c : Value) : Obj := match s with
  | .FunctionDef _ a b _ _ _ sc _ _ _ => { cls := .type "function", data := .func { name := Str.ofString name, qualname := Str.ofString qual, params := a, body := .stmts b, scope := sc, globals := 3, closure := [], defaults := .none, kwdefaults := .none, annotations := .none, pyModule := m, code := c, closureTuple := .none, builtins := 0 } }
  | _ => default
noncomputable def hd.o_187 (_ : PySem.Params) : PySem.Obj := fnO "parse229" "parse229" (outS 8) (PySem.Value.str (PySem.Str.ofString "cpy313.ftplib") 308) (PySem.Value.ref 137)
noncomputable def hd.o_111 (_ : PySem.Params) : PySem.Obj := fnO "less" "Whitespace.less" (nestS 2 6) (PySem.Value.str (PySem.Str.ofString "cpy313.tabnanny") 194) (PySem.Value.ref 72)
noncomputable def hd.o_76 (_ : PySem.Params) : PySem.Obj := fnO "__init__" "Whitespace.__init__" (nestS 2 1) (PySem.Value.str (PySem.Str.ofString "cpy313.tabnanny") 194) (PySem.Value.ref 37)
noncomputable def hd.o_251 (P : PySem.Params) : PySem.Obj := { cls := PySem.Value.type "dict", data := PySem.Data.dict #[{ hash := PySem.PyData.keyHash P (PySem.Str.ofString "__name__"), key := PySem.Value.str (PySem.Str.ofString "__name__") 165, val := PySem.Value.str (PySem.Str.ofString "law_rl0089_01") 446 }, { hash := PySem.PyData.keyHash P (PySem.Str.ofString "__doc__"), key := PySem.Value.str (PySem.Str.ofString "__doc__") 166, val := PySem.Value.none }, { hash := PySem.PyData.keyHash P (PySem.Str.ofString "__package__"), key := PySem.Value.str (PySem.Str.ofString "__package__") 167, val := PySem.Value.none }, { hash := PySem.PyData.keyHash P (PySem.Str.ofString "__loader__"), key := PySem.Value.str (PySem.Str.ofString "__loader__") 168, val := PySem.Value.builtin "__main__.__loader__#opaque" }, { hash := PySem.PyData.keyHash P (PySem.Str.ofString "__spec__"), key := PySem.Value.str (PySem.Str.ofString "__spec__") 169, val := PySem.Value.none }, { hash := PySem.PyData.keyHash P (PySem.Str.ofString "__annotations__"), key := PySem.Value.str (PySem.Str.ofString "__annotations__") 170, val := PySem.Value.ref 6 }, { hash := PySem.PyData.keyHash P (PySem.Str.ofString "__builtins__"), key := PySem.Value.str (PySem.Str.ofString "__builtins__") 171, val := PySem.Value.ref 4 }, { hash := PySem.PyData.keyHash P (PySem.Str.ofString "__file__"), key := PySem.Value.str (PySem.Str.ofString "__file__") 173, val := PySem.Value.str (PySem.Str.ofString "/claim/cut.py") 172 }, { hash := PySem.PyData.keyHash P (PySem.Str.ofString "__cached__"), key := PySem.Value.str (PySem.Str.ofString "__cached__") 174, val := PySem.Value.none }, { hash := PySem.PyData.keyHash P (PySem.Str.ofString "_wall"), key := PySem.Value.str (PySem.Str.ofString "_wall") 193, val := PySem.Value.ref 21 }, { hash := PySem.PyData.keyHash P (PySem.Str.ofString "Whitespace"), key := PySem.Value.str (PySem.Str.ofString "Whitespace") 298, val := PySem.Value.ref 83 }, { hash := PySem.PyData.keyHash P (PySem.Str.ofString "format_witnesses"), key := PySem.Value.str (PySem.Str.ofString "format_witnesses") 307, val := PySem.Value.ref 94 }, { hash := PySem.PyData.keyHash P (PySem.Str.ofString "Error"), key := PySem.Value.str (PySem.Str.ofString "Error") 329, val := PySem.Value.ref 104 }, { hash := PySem.PyData.keyHash P (PySem.Str.ofString "error_reply"), key := PySem.Value.str (PySem.Str.ofString "error_reply") 345, val := PySem.Value.ref 117 }, { hash := PySem.PyData.keyHash P (PySem.Str.ofString "error_proto"), key := PySem.Value.str (PySem.Str.ofString "error_proto") 361, val := PySem.Value.ref 129 }, { hash := PySem.PyData.keyHash P (PySem.Str.ofString "parse229"), key := PySem.Value.str (PySem.Str.ofString "parse229") 374, val := PySem.Value.ref 138 }, { hash := PySem.PyData.keyHash P (PySem.Str.ofString "parse257"), key := PySem.Value.str (PySem.Str.ofString "parse257") 385, val := PySem.Value.ref 145 }, { hash := PySem.PyData.keyHash P (PySem.Str.ofString "_netrclex"), key := PySem.Value.str (PySem.Str.ofString "_netrclex") 445, val := PySem.Value.ref 183 }, { hash := PySem.PyData.keyHash P (PySem.Str.ofString "_law_lexer"), key := PySem.Value.str (PySem.Str.ofString "_law_lexer") 456, val := PySem.Value.ref 194 }, { hash := PySem.PyData.keyHash P (PySem.Str.ofString "_law_spelled"), key := PySem.Value.str (PySem.Str.ofString "_law_spelled") 462, val := PySem.Value.ref 199 }, { hash := PySem.PyData.keyHash P (PySem.Str.ofString "_law_runs"), key := PySem.Value.str (PySem.Str.ofString "_law_runs") 476, val := PySem.Value.ref 206 }, { hash := PySem.PyData.keyHash P (PySem.Str.ofString "_law_lead"), key := PySem.Value.str (PySem.Str.ofString "_law_lead") 482, val := PySem.Value.ref 211 }, { hash := PySem.PyData.keyHash P (PySem.Str.ofString "_law_column"), key := PySem.Value.str (PySem.Str.ofString "_law_column") 492, val := PySem.Value.ref 218 }, { hash := PySem.PyData.keyHash P (PySem.Str.ofString "law"), key := PySem.Value.str (PySem.Str.ofString "law") 498, val := PySem.Value.ref 223 }] 24 }
noncomputable def hd.o_128 (P : PySem.Params) : PySem.Obj := { cls := PySem.Value.none, data := PySem.Data.dict #[{ hash := PySem.PyData.keyHash P (PySem.Str.ofString "type.__subclasses__.Exception.0"), key := PySem.Value.str (PySem.Str.ofString "type.__subclasses__.Exception.0") 326, val := PySem.Value.int 104 0 }, { hash := PySem.PyData.keyHash P (PySem.Str.ofString "type.__subclasses__.Exception.n"), key := PySem.Value.str (PySem.Str.ofString "type.__subclasses__.Exception.n") 327, val := PySem.Value.int 1 0 }] 2 }
noncomputable def hd.o_75 (P : PySem.Params) : PySem.Obj := { cls := PySem.Value.type "code", data := PySem.Data.fields #[PySem.Value.str (PySem.Str.ofString "__init__") 213, PySem.Value.str (PySem.Str.ofString "Whitespace.__init__") 214, PySem.Value.str (PySem.Str.ofString "/claim/cut.py") 215, PySem.Value.int 8 0, PySem.Value.int 2 0, PySem.Value.int 0 0, PySem.Value.int 0 0, PySem.Value.int 3 0, PySem.Value.ref 32, PySem.Value.bool true, PySem.Value.int 181 0, PySem.Value.ref 33, PySem.Value.none, PySem.Value.ref 34, PySem.Value.ref 35, PySem.Value.ref 36, PySem.Value.int 225 0, PySem.Value.int 8 0, PySem.Value.str (PySem.Str.ofString "/claim/cut.py") 226] }
noncomputable def hd.o_89 (P : PySem.Params) : PySem.Obj := { cls := PySem.Value.type "code", data := PySem.Data.fields #[PySem.Value.str (PySem.Str.ofString "indent_level") 237, PySem.Value.str (PySem.Str.ofString "Whitespace.indent_level") 238, PySem.Value.str (PySem.Str.ofString "/claim/cut.py") 239, PySem.Value.int 35 0, PySem.Value.int 2 0, PySem.Value.int 0 0, PySem.Value.int 0 0, PySem.Value.int 3 0, PySem.Value.ref 46, PySem.Value.bool true, PySem.Value.int 181 0, PySem.Value.ref 47, PySem.Value.none, PySem.Value.ref 48, PySem.Value.ref 49, PySem.Value.ref 50, PySem.Value.int 246 0, PySem.Value.int 35 0, PySem.Value.str (PySem.Str.ofString "/claim/cut.py") 247] }
noncomputable def hd.o_83 (_ : PySem.Params) : PySem.Obj := fnO "longest_run_of_spaces" "Whitespace.longest_run_of_spaces" (nestS 2 2) (PySem.Value.str (PySem.Str.ofString "cpy313.tabnanny") 194) (PySem.Value.ref 44)
noncomputable def hd.o_82 (P : PySem.Params) : PySem.Obj := { cls := PySem.Value.type "code", data := PySem.Data.fields #[PySem.Value.str (PySem.Str.ofString "longest_run_of_spaces") 228, PySem.Value.str (PySem.Str.ofString "Whitespace.longest_run_of_spaces") 229, PySem.Value.str (PySem.Str.ofString "/claim/cut.py") 230, PySem.Value.int 31 0, PySem.Value.int 1 0, PySem.Value.int 0 0, PySem.Value.int 0 0, PySem.Value.int 3 0, PySem.Value.ref 39, PySem.Value.bool true, PySem.Value.int 181 0, PySem.Value.ref 40, PySem.Value.none, PySem.Value.ref 41, PySem.Value.ref 42, PySem.Value.ref 43, PySem.Value.int 234 0, PySem.Value.int 31 0, PySem.Value.str (PySem.Str.ofString "/claim/cut.py") 235] }
noncomputable def hd.o_110 (P : PySem.Params) : PySem.Obj := { cls := PySem.Value.type "code", data := PySem.Data.fields #[PySem.Value.str (PySem.Str.ofString "less") 265, PySem.Value.str (PySem.Str.ofString "Whitespace.less") 266, PySem.Value.str (PySem.Str.ofString "/claim/cut.py") 267, PySem.Value.int 48 0, PySem.Value.int 2 0, PySem.Value.int 0 0, PySem.Value.int 0 0, PySem.Value.int 3 0, PySem.Value.ref 67, PySem.Value.bool true, PySem.Value.int 181 0, PySem.Value.ref 68, PySem.Value.none, PySem.Value.ref 69, PySem.Value.ref 70, PySem.Value.ref 71, PySem.Value.int 272 0, PySem.Value.int 48 0, PySem.Value.str (PySem.Str.ofString "/claim/cut.py") 273] }
noncomputable def hd.o_90 (_ : PySem.Params) : PySem.Obj := fnO "indent_level" "Whitespace.indent_level" (nestS 2 3) (PySem.Value.str (PySem.Str.ofString "cpy313.tabnanny") 194) (PySem.Value.ref 51)
noncomputable def hd.o_137 (_ : PySem.Params) : PySem.Obj := fnO "format_witnesses" "format_witnesses" (outS 3) (PySem.Value.str (PySem.Str.ofString "cpy313.tabnanny") 194) (PySem.Value.ref 93)
noncomputable def hd.o_120 (P : PySem.Params) : PySem.Obj := { cls := PySem.Value.type "dict", data := PySem.Data.dict #[{ hash := PySem.PyData.keyHash P (PySem.Str.ofString "__module__"), key := PySem.Value.str (PySem.Str.ofString "__module__") 203, val := PySem.Value.str (PySem.Str.ofString "cpy313.tabnanny") 194 }, { hash := PySem.PyData.keyHash P (PySem.Str.ofString "__firstlineno__"), key := PySem.Value.str (PySem.Str.ofString "__firstlineno__") 207, val := PySem.Value.int 5 206 }, { hash := PySem.PyData.keyHash P (PySem.Str.ofString "S"), key := PySem.Value.str (PySem.Str.ofString "S") 211, val := PySem.Value.str (PySem.Str.ofString " ") 209 }, { hash := PySem.PyData.keyHash P (PySem.Str.ofString "T"), key := PySem.Value.str (PySem.Str.ofString "T") 212, val := PySem.Value.str (PySem.Str.ofString "\t") 210 }, { hash := PySem.PyData.keyHash P (PySem.Str.ofString "__init__"), key := PySem.Value.str (PySem.Str.ofString "__init__") 227, val := PySem.Value.ref 38 }, { hash := PySem.PyData.keyHash P (PySem.Str.ofString "longest_run_of_spaces"), key := PySem.Value.str (PySem.Str.ofString "longest_run_of_spaces") 236, val := PySem.Value.ref 45 }, { hash := PySem.PyData.keyHash P (PySem.Str.ofString "indent_level"), key := PySem.Value.str (PySem.Str.ofString "indent_level") 248, val := PySem.Value.ref 52 }, { hash := PySem.PyData.keyHash P (PySem.Str.ofString "equal"), key := PySem.Value.str (PySem.Str.ofString "equal") 256, val := PySem.Value.ref 59 }, { hash := PySem.PyData.keyHash P (PySem.Str.ofString "not_equal_witness"), key := PySem.Value.str (PySem.Str.ofString "not_equal_witness") 264, val := PySem.Value.ref 66 }, { hash := PySem.PyData.keyHash P (PySem.Str.ofString "less"), key := PySem.Value.str (PySem.Str.ofString "less") 274, val := PySem.Value.ref 73 }, { hash := PySem.PyData.keyHash P (PySem.Str.ofString "not_less_witness"), key := PySem.Value.str (PySem.Str.ofString "not_less_witness") 285, val := PySem.Value.ref 80 }, { hash := PySem.PyData.keyHash P (PySem.Str.ofString "__static_attributes__"), key := PySem.Value.str (PySem.Str.ofString "__static_attributes__") 291, val := PySem.Value.ref 81 }, { hash := PySem.PyData.keyHash P (PySem.Str.ofString "__dict__"), key := PySem.Value.str (PySem.Str.ofString "__dict__") 293, val := PySem.Value.ref 84 }, { hash := PySem.PyData.keyHash P (PySem.Str.ofString "__weakref__"), key := PySem.Value.str (PySem.Str.ofString "__weakref__") 295, val := PySem.Value.ref 85 }, { hash := PySem.PyData.keyHash P (PySem.Str.ofString "__doc__"), key := PySem.Value.str (PySem.Str.ofString "__doc__") 296, val := PySem.Value.none }] 4 }
noncomputable def hd.o_118 (_ : PySem.Params) : PySem.Obj := fnO "not_less_witness" "Whitespace.not_less_witness" (nestS 2 7) (PySem.Value.str (PySem.Str.ofString "cpy313.tabnanny") 194) (PySem.Value.ref 79)
noncomputable def hd.o_117 (P : PySem.Params) : PySem.Obj := { cls := PySem.Value.type "code", data := PySem.Data.fields #[PySem.Value.str (PySem.Str.ofString "not_less_witness") 275, PySem.Value.str (PySem.Str.ofString "Whitespace.not_less_witness") 276, PySem.Value.str (PySem.Str.ofString "/claim/cut.py") 277, PySem.Value.int 59 0, PySem.Value.int 2 0, PySem.Value.int 0 0, PySem.Value.int 0 0, PySem.Value.int 3 0, PySem.Value.ref 74, PySem.Value.bool true, PySem.Value.int 181 0, PySem.Value.ref 75, PySem.Value.none, PySem.Value.ref 76, PySem.Value.ref 77, PySem.Value.ref 78, PySem.Value.int 283 0, PySem.Value.int 59 0, PySem.Value.str (PySem.Str.ofString "/claim/cut.py") 284] }
noncomputable def hd.o_136 (P : PySem.Params) : PySem.Obj := { cls := PySem.Value.type "code", data := PySem.Data.fields #[PySem.Value.str (PySem.Str.ofString "format_witnesses") 299, PySem.Value.str (PySem.Str.ofString "format_witnesses") 300, PySem.Value.str (PySem.Str.ofString "/claim/cut.py") 301, PySem.Value.int 66 0, PySem.Value.int 1 0, PySem.Value.int 0 0, PySem.Value.int 0 0, PySem.Value.int 3 0, PySem.Value.ref 88, PySem.Value.bool true, PySem.Value.int 181 0, PySem.Value.ref 89, PySem.Value.none, PySem.Value.ref 90, PySem.Value.ref 91, PySem.Value.ref 92, PySem.Value.int 305 0, PySem.Value.int 66 0, PySem.Value.str (PySem.Str.ofString "/claim/cut.py") 306] }
noncomputable def hd.o_121 (P : PySem.Params) : PySem.Obj := { cls := PySem.Value.type "type", data := PySem.Data.cls { name := PySem.Str.ofString "Whitespace", bases := [PySem.Value.type "object"], mro := [PySem.Value.ref 83, PySem.Value.type "object"], ns := 82, qualname := PySem.Str.ofString "Whitespace" }, slots := #[none, none, some (PySem.Value.str (PySem.Str.ofString "Whitespace") 196), some (PySem.Value.str (PySem.Str.ofString "Whitespace") 204), some (PySem.Value.builtin "object.__new__"), some (PySem.Value.bool true)] }
noncomputable def hd.o_177 (P : PySem.Params) : PySem.Obj := { cls := PySem.Value.type "dict", data := PySem.Data.dict #[{ hash := PySem.PyData.keyHash P (PySem.Str.ofString "__module__"), key := PySem.Value.str (PySem.Str.ofString "__module__") 353, val := PySem.Value.str (PySem.Str.ofString "cpy313.ftplib") 308 }, { hash := PySem.PyData.keyHash P (PySem.Str.ofString "__firstlineno__"), key := PySem.Value.str (PySem.Str.ofString "__firstlineno__") 357, val := PySem.Value.int 77 356 }, { hash := PySem.PyData.keyHash P (PySem.Str.ofString "__static_attributes__"), key := PySem.Value.str (PySem.Str.ofString "__static_attributes__") 358, val := PySem.Value.ref 127 }, { hash := PySem.PyData.keyHash P (PySem.Str.ofString "__doc__"), key := PySem.Value.str (PySem.Str.ofString "__doc__") 359, val := PySem.Value.none }] 2 }
noncomputable def hd.o_168 (P : PySem.Params) : PySem.Obj := { cls := PySem.Value.type "type", data := PySem.Data.cls { name := PySem.Str.ofString "Error", bases := [PySem.Value.type "Exception"], mro := [PySem.Value.ref 104, PySem.Value.type "Exception", PySem.Value.type "BaseException", PySem.Value.type "object"], ns := 103, qualname := PySem.Str.ofString "Error", subclasses := [PySem.Value.ref 117, PySem.Value.ref 129] }, slots := #[some (PySem.Value.ref 95), none, some (PySem.Value.str (PySem.Str.ofString "Error") 310), some (PySem.Value.str (PySem.Str.ofString "Error") 318), some (PySem.Value.builtin "Exception.__new__"), some (PySem.Value.bool true)] }
noncomputable def hd.o_146 (P : PySem.Params) : PySem.Obj := { cls := PySem.Value.type "dict", data := PySem.Data.dict #[{ hash := PySem.PyData.keyHash P (PySem.Str.ofString "__module__"), key := PySem.Value.str (PySem.Str.ofString "__module__") 317, val := PySem.Value.str (PySem.Str.ofString "cpy313.ftplib") 308 }, { hash := PySem.PyData.keyHash P (PySem.Str.ofString "__firstlineno__"), key := PySem.Value.str (PySem.Str.ofString "__firstlineno__") 321, val := PySem.Value.int 73 320 }, { hash := PySem.PyData.keyHash P (PySem.Str.ofString "__static_attributes__"), key := PySem.Value.str (PySem.Str.ofString "__static_attributes__") 322, val := PySem.Value.ref 102 }, { hash := PySem.PyData.keyHash P (PySem.Str.ofString "__weakref__"), key := PySem.Value.str (PySem.Str.ofString "__weakref__") 324, val := PySem.Value.ref 105 }, { hash := PySem.PyData.keyHash P (PySem.Str.ofString "__doc__"), key := PySem.Value.str (PySem.Str.ofString "__doc__") 325, val := PySem.Value.none }] 3 }
noncomputable def hd.o_186 (P : PySem.Params) : PySem.Obj := { cls := PySem.Value.type "code", data := PySem.Data.fields #[PySem.Value.str (PySem.Str.ofString "parse229") 362, PySem.Value.str (PySem.Str.ofString "parse229") 363, PySem.Value.str (PySem.Str.ofString "/claim/cut.py") 364, PySem.Value.int 79 0, PySem.Value.int 2 0, PySem.Value.int 0 0, PySem.Value.int 0 0, PySem.Value.int 3 0, PySem.Value.ref 132, PySem.Value.bool true, PySem.Value.int 181 0, PySem.Value.ref 133, PySem.Value.none, PySem.Value.ref 134, PySem.Value.ref 135, PySem.Value.ref 136, PySem.Value.int 372 0, PySem.Value.int 79 0, PySem.Value.str (PySem.Str.ofString "/claim/cut.py") 373] }
noncomputable def hd.o_178 (P : PySem.Params) : PySem.Obj := { cls := PySem.Value.type "type", data := PySem.Data.cls { name := PySem.Str.ofString "error_proto", bases := [PySem.Value.ref 104], mro := [PySem.Value.ref 129, PySem.Value.ref 104, PySem.Value.type "Exception", PySem.Value.type "BaseException", PySem.Value.type "object"], ns := 128, qualname := PySem.Str.ofString "error_proto" }, slots := #[some (PySem.Value.ref 120), none, some (PySem.Value.str (PySem.Str.ofString "error_proto") 346), some (PySem.Value.str (PySem.Str.ofString "error_proto") 354), some (PySem.Value.builtin "Exception.__new__"), some (PySem.Value.bool true)] }
noncomputable def hd.o_245 (_ : PySem.Params) : PySem.Obj := fnO "_law_lexer" "_law_lexer" (outS 13) (PySem.Value.str (PySem.Str.ofString "law_rl0089_01") 446) (PySem.Value.ref 193)
noncomputable def hd.o_217 (_ : PySem.Params) : PySem.Obj := fnO "_read_char" "_netrclex._read_char" (nestS 11 1) (PySem.Value.str (PySem.Str.ofString "cpy313.netrc") 386) (PySem.Value.ref 165)
noncomputable def hd.o_209 (P : PySem.Params) : PySem.Obj := { cls := PySem.Value.type "code", data := PySem.Data.fields #[PySem.Value.str (PySem.Str.ofString "__init__") 400, PySem.Value.str (PySem.Str.ofString "_netrclex.__init__") 401, PySem.Value.str (PySem.Str.ofString "/claim/cut.py") 402, PySem.Value.int 116 0, PySem.Value.int 2 0, PySem.Value.int 0 0, PySem.Value.int 0 0, PySem.Value.int 3 0, PySem.Value.ref 153, PySem.Value.bool true, PySem.Value.int 181 0, PySem.Value.ref 154, PySem.Value.none, PySem.Value.ref 155, PySem.Value.ref 156, PySem.Value.ref 157, PySem.Value.int 405 0, PySem.Value.int 116 0, PySem.Value.str (PySem.Str.ofString "/claim/cut.py") 406] }
noncomputable def hd.o_194 (_ : PySem.Params) : PySem.Obj := fnO "parse257" "parse257" (outS 9) (PySem.Value.str (PySem.Str.ofString "cpy313.ftplib") 308) (PySem.Value.ref 144)
noncomputable def hd.o_193 (P : PySem.Params) : PySem.Obj := { cls := PySem.Value.type "code", data := PySem.Data.fields #[PySem.Value.str (PySem.Str.ofString "parse257") 375, PySem.Value.str (PySem.Str.ofString "parse257") 376, PySem.Value.str (PySem.Str.ofString "/claim/cut.py") 377, PySem.Value.int 96 0, PySem.Value.int 1 0, PySem.Value.int 0 0, PySem.Value.int 0 0, PySem.Value.int 3 0, PySem.Value.ref 139, PySem.Value.bool true, PySem.Value.int 181 0, PySem.Value.ref 140, PySem.Value.none, PySem.Value.ref 141, PySem.Value.ref 142, PySem.Value.ref 143, PySem.Value.int 383 0, PySem.Value.int 96 0, PySem.Value.str (PySem.Str.ofString "/claim/cut.py") 384] }
noncomputable def hd.o_216 (P : PySem.Params) : PySem.Obj := { cls := PySem.Value.type "code", data := PySem.Data.fields #[PySem.Value.str (PySem.Str.ofString "_read_char") 408, PySem.Value.str (PySem.Str.ofString "_netrclex._read_char") 409, PySem.Value.str (PySem.Str.ofString "/claim/cut.py") 410, PySem.Value.int 122 0, PySem.Value.int 1 0, PySem.Value.int 0 0, PySem.Value.int 0 0, PySem.Value.int 3 0, PySem.Value.ref 160, PySem.Value.bool true, PySem.Value.int 181 0, PySem.Value.ref 161, PySem.Value.none, PySem.Value.ref 162, PySem.Value.ref 163, PySem.Value.ref 164, PySem.Value.int 413 0, PySem.Value.int 122 0, PySem.Value.str (PySem.Str.ofString "/claim/cut.py") 414] }
noncomputable def hd.o_210 (_ : PySem.Params) : PySem.Obj := fnO "__init__" "_netrclex.__init__" (nestS 11 0) (PySem.Value.str (PySem.Str.ofString "cpy313.netrc") 386) (PySem.Value.ref 158)
noncomputable def hd.o_233 (P : PySem.Params) : PySem.Obj := { cls := PySem.Value.type "dict", data := PySem.Data.dict #[{ hash := PySem.PyData.keyHash P (PySem.Str.ofString "__module__"), key := PySem.Value.str (PySem.Str.ofString "__module__") 395, val := PySem.Value.str (PySem.Str.ofString "cpy313.netrc") 386 }, { hash := PySem.PyData.keyHash P (PySem.Str.ofString "__firstlineno__"), key := PySem.Value.str (PySem.Str.ofString "__firstlineno__") 399, val := PySem.Value.int 114 398 }, { hash := PySem.PyData.keyHash P (PySem.Str.ofString "__init__"), key := PySem.Value.str (PySem.Str.ofString "__init__") 407, val := PySem.Value.ref 159 }, { hash := PySem.PyData.keyHash P (PySem.Str.ofString "_read_char"), key := PySem.Value.str (PySem.Str.ofString "_read_char") 415, val := PySem.Value.ref 166 }, { hash := PySem.PyData.keyHash P (PySem.Str.ofString "get_token"), key := PySem.Value.str (PySem.Str.ofString "get_token") 425, val := PySem.Value.ref 173 }, { hash := PySem.PyData.keyHash P (PySem.Str.ofString "push_token"), key := PySem.Value.str (PySem.Str.ofString "push_token") 433, val := PySem.Value.ref 180 }, { hash := PySem.PyData.keyHash P (PySem.Str.ofString "__static_attributes__"), key := PySem.Value.str (PySem.Str.ofString "__static_attributes__") 438, val := PySem.Value.ref 181 }, { hash := PySem.PyData.keyHash P (PySem.Str.ofString "__dict__"), key := PySem.Value.str (PySem.Str.ofString "__dict__") 440, val := PySem.Value.ref 184 }, { hash := PySem.PyData.keyHash P (PySem.Str.ofString "__weakref__"), key := PySem.Value.str (PySem.Str.ofString "__weakref__") 442, val := PySem.Value.ref 185 }, { hash := PySem.PyData.keyHash P (PySem.Str.ofString "__doc__"), key := PySem.Value.str (PySem.Str.ofString "__doc__") 443, val := PySem.Value.none }] 4 }
noncomputable def hd.o_224 (_ : PySem.Params) : PySem.Obj := fnO "get_token" "_netrclex.get_token" (nestS 11 2) (PySem.Value.str (PySem.Str.ofString "cpy313.netrc") 386) (PySem.Value.ref 172)
noncomputable def hd.o_223 (P : PySem.Params) : PySem.Obj := { cls := PySem.Value.type "code", data := PySem.Data.fields #[PySem.Value.str (PySem.Str.ofString "get_token") 416, PySem.Value.str (PySem.Str.ofString "_netrclex.get_token") 417, PySem.Value.str (PySem.Str.ofString "/claim/cut.py") 418, PySem.Value.int 128 0, PySem.Value.int 1 0, PySem.Value.int 0 0, PySem.Value.int 0 0, PySem.Value.int 3 0, PySem.Value.ref 167, PySem.Value.bool true, PySem.Value.int 181 0, PySem.Value.ref 168, PySem.Value.none, PySem.Value.ref 169, PySem.Value.ref 170, PySem.Value.ref 171, PySem.Value.int 423 0, PySem.Value.int 128 0, PySem.Value.str (PySem.Str.ofString "/claim/cut.py") 424] }
noncomputable def hd.o_244 (P : PySem.Params) : PySem.Obj := { cls := PySem.Value.type "code", data := PySem.Data.fields #[PySem.Value.str (PySem.Str.ofString "_law_lexer") 448, PySem.Value.str (PySem.Str.ofString "_law_lexer") 449, PySem.Value.str (PySem.Str.ofString "/claim/cut.py") 450, PySem.Value.int 158 0, PySem.Value.int 1 0, PySem.Value.int 0 0, PySem.Value.int 0 0, PySem.Value.int 3 0, PySem.Value.ref 188, PySem.Value.bool true, PySem.Value.int 181 0, PySem.Value.ref 189, PySem.Value.none, PySem.Value.ref 190, PySem.Value.ref 191, PySem.Value.ref 192, PySem.Value.int 454 0, PySem.Value.int 158 0, PySem.Value.str (PySem.Str.ofString "/claim/cut.py") 455] }
noncomputable def hd.o_234 (P : PySem.Params) : PySem.Obj := { cls := PySem.Value.type "type", data := PySem.Data.cls { name := PySem.Str.ofString "_netrclex", bases := [PySem.Value.type "object"], mro := [PySem.Value.ref 183, PySem.Value.type "object"], ns := 182, qualname := PySem.Str.ofString "_netrclex" }, slots := #[none, none, some (PySem.Value.str (PySem.Str.ofString "_netrclex") 388), some (PySem.Value.str (PySem.Str.ofString "_netrclex") 396), some (PySem.Value.builtin "object.__new__"), some (PySem.Value.bool true)] }
noncomputable def hd.o_264 (_ : PySem.Params) : PySem.Obj := fnO "_law_lead" "_law_lead" (outS 16) (PySem.Value.str (PySem.Str.ofString "law_rl0089_01") 446) (PySem.Value.ref 210)
noncomputable def hd.o_258 (P : PySem.Params) : PySem.Obj := { cls := PySem.Value.type "code", data := PySem.Data.fields #[PySem.Value.str (PySem.Str.ofString "_law_runs") 463, PySem.Value.str (PySem.Str.ofString "_law_runs") 464, PySem.Value.str (PySem.Str.ofString "/claim/cut.py") 465, PySem.Value.int 169 0, PySem.Value.int 2 0, PySem.Value.int 0 0, PySem.Value.int 0 0, PySem.Value.int 3 0, PySem.Value.ref 200, PySem.Value.bool true, PySem.Value.int 181 0, PySem.Value.ref 201, PySem.Value.none, PySem.Value.ref 202, PySem.Value.ref 203, PySem.Value.ref 204, PySem.Value.int 474 0, PySem.Value.int 169 0, PySem.Value.str (PySem.Str.ofString "/claim/cut.py") 475] }
noncomputable def hd.o_250 (_ : PySem.Params) : PySem.Obj := fnO "_law_spelled" "_law_spelled" (outS 14) (PySem.Value.str (PySem.Str.ofString "law_rl0089_01") 446) (PySem.Value.ref 198)
noncomputable def hd.o_249 (P : PySem.Params) : PySem.Obj := { cls := PySem.Value.type "code", data := PySem.Data.fields #[PySem.Value.str (PySem.Str.ofString "_law_spelled") 457, PySem.Value.str (PySem.Str.ofString "_law_spelled") 458, PySem.Value.str (PySem.Str.ofString "/claim/cut.py") 459, PySem.Value.int 163 0, PySem.Value.int 2 0, PySem.Value.int 0 0, PySem.Value.int 0 0, PySem.Value.int 3 0, PySem.Value.ref 195, PySem.Value.bool true, PySem.Value.int 181 0, PySem.Value.ref 196, PySem.Value.none, PySem.Value.none, PySem.Value.none, PySem.Value.ref 197, PySem.Value.int 460 0, PySem.Value.int 163 0, PySem.Value.str (PySem.Str.ofString "/claim/cut.py") 461] }
noncomputable def hd.o_263 (P : PySem.Params) : PySem.Obj := { cls := PySem.Value.type "code", data := PySem.Data.fields #[PySem.Value.str (PySem.Str.ofString "_law_lead") 477, PySem.Value.str (PySem.Str.ofString "_law_lead") 478, PySem.Value.str (PySem.Str.ofString "/claim/cut.py") 479, PySem.Value.int 179 0, PySem.Value.int 2 0, PySem.Value.int 0 0, PySem.Value.int 0 0, PySem.Value.int 3 0, PySem.Value.ref 207, PySem.Value.bool true, PySem.Value.int 181 0, PySem.Value.ref 208, PySem.Value.none, PySem.Value.none, PySem.Value.none, PySem.Value.ref 209, PySem.Value.int 480 0, PySem.Value.int 179 0, PySem.Value.str (PySem.Str.ofString "/claim/cut.py") 481] }
noncomputable def hd.o_259 (_ : PySem.Params) : PySem.Obj := fnO "_law_runs" "_law_runs" (outS 15) (PySem.Value.str (PySem.Str.ofString "law_rl0089_01") 446) (PySem.Value.ref 205)
noncomputable def hd.o_275 (P : PySem.Params) : PySem.Obj := { cls := PySem.Value.type "code", data := PySem.Data.fields #[PySem.Value.str (PySem.Str.ofString "law") 493, PySem.Value.str (PySem.Str.ofString "law") 494, PySem.Value.str (PySem.Str.ofString "/claim/cut.py") 495, PySem.Value.int 186 0, PySem.Value.int 1 0, PySem.Value.int 0 0, PySem.Value.int 0 0, PySem.Value.int 3 0, PySem.Value.ref 219, PySem.Value.bool true, PySem.Value.int 181 0, PySem.Value.ref 220, PySem.Value.none, PySem.Value.none, PySem.Value.none, PySem.Value.ref 221, PySem.Value.int 496 0, PySem.Value.int 186 0, PySem.Value.str (PySem.Str.ofString "/claim/cut.py") 497] }
noncomputable def hd.o_271 (_ : PySem.Params) : PySem.Obj := fnO "_law_column" "_law_column" (outS 17) (PySem.Value.str (PySem.Str.ofString "law_rl0089_01") 446) (PySem.Value.ref 217)
noncomputable def hd.o_270 (P : PySem.Params) : PySem.Obj := { cls := PySem.Value.type "code", data := PySem.Data.fields #[PySem.Value.str (PySem.Str.ofString "_law_column") 483, PySem.Value.str (PySem.Str.ofString "_law_column") 484, PySem.Value.str (PySem.Str.ofString "/claim/cut.py") 485, PySem.Value.int 181 0, PySem.Value.int 2 0, PySem.Value.int 0 0, PySem.Value.int 0 0, PySem.Value.int 3 0, PySem.Value.ref 212, PySem.Value.bool true, PySem.Value.int 181 0, PySem.Value.ref 213, PySem.Value.none, PySem.Value.ref 214, PySem.Value.ref 215, PySem.Value.ref 216, PySem.Value.int 490 0, PySem.Value.int 181 0, PySem.Value.str (PySem.Str.ofString "/claim/cut.py") 491] }
noncomputable def hd.o_276 (_ : PySem.Params) : PySem.Obj := fnO "law" "law" (outS 18) (PySem.Value.str (PySem.Str.ofString "law_rl0089_01") 446) (PySem.Value.ref 222)
end
end Mine

namespace Mine
section
open PySem PySem.W PyProof.Rows Sem
/-- the caller's own place -/
noncomputable abbrev Gc : Ctx := ⟨.builtin "claim.caller" {}, none, none, [], none⟩
/-- a claim's call, its run known in the caller's own place -/
theorem callAt {c : ClaimW} {tree : List Value → Sem PySem.Fin} {w : World} {s : Shared} {free : Addr → Prop} {gens : Prop} {kept : Heap → Prop} (hz : s.asleep) (hgens : s.gens = #[])
    (spec : ∀ args, c.pre args = true → WData.layableAll args = true → ∀ ord : List DictEntry → List DictEntry, (∀ l, (ord l).Perm l) →
      ∃ vs s₁, layAllW c.records (classAt s.heap) w.params ord args s = some (vs, s₁) ∧
        wp (model c.prog w) Gc (tree vs) (fun fin _ s' => ∃ f, fin = .done f ∧ (c.Ends s args vs s₁ (.ok f) s' ∧ s'.os = s.os ∧ AllBare s'.gens ∧ kept s'.heap)) (fun _ _ _ => False) default s₁) :
    c.CallFrom (fun vs => ⟨tree vs, .builtin "claim.caller" {}, default, []⟩) w free gens kept s := by
  intro args hpre hlay ord hord
  obtain ⟨vs, s₁, hlaid, hcode⟩ := spec args hpre hlay ord hord
  have hal := layAllW_rest _ _ _ hlaid
  obtain ⟨k, r, s', s'', hsched, hrun, hfo, hcase, hos, hkp⟩ := wp_halts_full (M := model c.prog w) (c := .builtin "claim.caller" {}) (t := tree vs) (p := default) (s := s₁)
    (R := fun r s' => c.Ends s args vs s₁ r s' ∧ s'.os = s.os ∧ kept s'.heap)
    (Shared.asleep_of_life hal.2.2.2 hz)
    (wp_mono _ _ _ (by rintro fin p' s' ⟨f, rfl, h1, h2, h3, h4⟩; exact ⟨⟨h1, h2, h4⟩, leftWithCleanup_false_of_bare h3⟩) (fun _ _ _ h => h.elim) _ _ hcode)
  obtain ⟨eh, _, _, eo, _⟩ := Shared.forget_eq hfo
  have hcase := hcase.congr eh
  have hkp : kept s''.heap := by rw [eh]; exact hkp
  rw [← eo] at hos
  have hlife : s''.heap.life = s.heap.life := (runN_life _ _ _ hrun).trans hal.2.2.2
  refine ⟨vs, s₁, hlaid, k, _, s'', hsched, ?_, (fun _ i x hx => by rw [hgens] at hx; simp at hx), hkp, by rw [hlife], Shared.rest_eq hos⟩
  rcases hcase with ⟨v, rfl, d1, d2, d3, d4, d5⟩ | ⟨e, ob, cls, rfl, d1, d2, d3, d4, d5⟩
  · exact .inl ⟨v, rfl, d1, d2, d3, fun b o y _ => d4 b o y, d5⟩
  · exact .inr ⟨e, ob, cls, rfl, d1, d2, d3, d4, fun b o y _ => d5 b o y⟩
/-- a row from its call's run in the caller's own place -/
theorem holdsAt {r : OpenRow} {q : Program} {loose : List Str} {Xt : Shared → Bool} {XP : (Str → Option Value) → Heap → Prop} {α : Type} {Yf : Shared → α} {Ya : World → α} {d : DefRec} {kwd : List (Str × Expr)} {N : Nat}
    (left : LeftO r.prog q loose Xt Yf Ya N) (hX : ∀ s, Xt s = true → XP (s.heap.nsMap mainGlobals) s.heap)
    (hdef : defOf q r.name = some (d, kwd)) (hp : r.prog.theDef r.name = some (d.params, d.body, d.scope)) (hk : kwWritten? d.params.kwonlyargs d.params.kw_defaults = some kwd)
    (hRf : ∀ s, Xt s = true → RecFacts r.records s.heap) (hwr : (!r.writes || r.records.isEmpty) = true)
    (k1 : r.wellSaid = true) (ok : (chainsOk q && opensWell r.prog && (frees r.toRowW && r.within.isEmpty)) = true) (hb : r.prog.bare) (hw : r.toRowW.promised)
    (call : ∀ (w : World) (s s₁ : Shared), Yf s = Ya w → s.gens = #[] → ∀ (args : List WData) (vs : List Value) (as : List Addr), r.claim.pre args = true → WData.layableAll args = true → Laid r.records w s s₁ args vs as →
      ∃ f, s.heap.nsMap mainGlobals r.name = some f ∧
        ∀ p, wp (model r.prog w) Gc (PySem.call f vs) (fun v _ s' => GoodWG r.claim (classAt s.heap) (ExcName.means s.heap) args s₁ (.ok (.ret v)) s') (fun _ _ _ => False) p s₁) : r.Holds := by
  obtain ⟨ok, k5⟩ := Bool.and_eq_true_iff.mp ok
  obtain ⟨hch, o1⟩ := Bool.and_eq_true_iff.mp ok
  obtain ⟨k5, k6⟩ := Bool.and_eq_true_iff.mp k5
  obtain ⟨hsame, hu, ha, hap, hm⟩ := frees_parts k5
  refine ⟨k1, hw, ⟨hb, o1, by show r.makers.map _ = []; rw [hm]; rfl⟩, hw.witness, fun w => ⟨(left.behind hX hch w).1, fun s' hs' => ?_⟩⟩
  obtain ⟨s₀, hf, hg0, s, hT, hz, hgens, hg, G00, y⟩ := (left.behind (XP := fun mg h => XP mg h ∧ RecFacts r.records h) (fun s hs => ⟨hX s hs, hRf s hs⟩) hch w).2 s' hs'
  have G0 : Ground q loose [] XP w s (s.heap.nsMap mainGlobals) (s.heap.nsMap builtinsNs) s.heap := ⟨G00.T, G00.B, G00.D, G00.TE, G00.TD, G00.W, G00.X.1, G00.cls, G00.has, G00.apart, G00.once, G00.K⟩
  have RF := G00.X.2
  have hgens : s.gens = #[] := Array.eq_empty_of_size_eq_zero (beq_iff_eq.mp hgens)
  have G := RF.ground G0
  have hT' := hT
  refine ⟨s₀, hf, hg0, s, hT, fun n hn => ?_, RF.1, RF.2.1, ?_⟩
  · obtain rfl : n = r.name := by split at hn <;> simp_all
    exact pinned_of_view hg G0 hdef hp hk
  refine callAt (c := r.claim) hz hgens fun args hpre hlay ord hord => ?_
  obtain ⟨⟨vs, s₁⟩, hlaid⟩ := Option.isSome_iff_exists.mp (layAllW_isSome (P := w.params) (ord := ord) G.has args r.args s (pre_splitW hpre).1)
  have keeps := layAllW_keeps _ _ _ hlaid
  have hal := layAllW_rest _ _ _ hlaid
  obtain ⟨as, hrd, hin, hold⟩ := reads_layAllW hord _ _ _ hlaid hlay s₁.heap (fun _ _ e => e)
  have L : Laid r.records w s s₁ args vs as := ⟨⟨ord, hord, hlaid⟩, hrd, hin, hold, keeps, hal.1.trans hgens, hal.2.2.1⟩
  obtain ⟨f, hf, h⟩ := call w s s₁ y hgens args vs as hpre hlay L
  have hi := ident_freeW hu ha hap
  have hwi : r.claim.within = [] := List.isEmpty_iff.mp k6
  refine ⟨vs, s₁, hlaid, ?_⟩
  have hns : s₁.heap.Ns mainGlobals (s.heap.nsMap mainGlobals) := by
    obtain ⟨o, es, ep, h1, h2, h3, h4⟩ := G.T.g
    exact ⟨o, es, ep, keeps _ _ h1, h2, h3, h4⟩
  show wp _ _ (nsGet mainNs r.name >>= _) _ _ _ _
  rw [wp_bind']
  refine (wp_nsGet _ _ _ _ _ hns _ _).mpr ?_
  rw [hf]
  show wp _ _ (PySem.call f vs >>= _) _ _ _ _
  rw [wp_bind']
  refine wp_mono _ _ _ ?_ (fun _ _ _ h => h) _ _ (h _)
  intro v p' s' g
  have z := g.laid (c := r.claim) hsame hwi hi L
  exact ⟨_, rfl, z.1, z.2.1, z.2.2, fun _ => ⟨namesKept_of hT' hg r.keeps keeps g.2.1.old, noTable hwr ‹_›⟩⟩
end
end Mine

namespace Mine
section
open PySem PySem.W
/-- the trees, in the library's quick twins -/
noncomputable abbrev D : Code → Sem Fin := PySem.W.Fast.tw11892475500146522536 PySem.W.Fast.tw14364793385576792824
theorem D_eq : denote table = D := by
  rw [table_eq_tree]
  exact congr PySem.W.Fast.te11892475500146522536 PySem.W.Fast.te14364793385576792824

noncomputable abbrev Ent := Addr × Obj

/-- a tree of known objects, by number; a place holds one object, or a whole list of them -/
inductive PT where
  | nil
  | node (v : List Ent) (l r : PT)

noncomputable def PT.get (t : PT) : Nat → List Ent :=
  @PT.rec (fun _ => Nat → List Ent) (fun _ => [])
    (fun v _ _ gl gr i => @Bool.rec (fun _ => List Ent) (@Bool.rec (fun _ => List Ent) (gr (Nat.sub (Nat.div i 2) 1)) (gl (Nat.div i 2)) (Nat.beq (Nat.mod i 2) 1)) v (Nat.beq i 0)) t
noncomputable def PT.put (w : List Ent) (t : PT) : Nat → PT :=
  @PT.rec (fun _ => Nat → PT) (fun _ => .nil)
    (fun v l r sl sr i => @Bool.rec (fun _ => PT) (@Bool.rec (fun _ => PT) (.node v l (sr (Nat.sub (Nat.div i 2) 1))) (.node v (sl (Nat.div i 2)) r) (Nat.beq (Nat.mod i 2) 1)) (.node w l r) (Nat.beq i 0)) t
noncomputable def PT.ins (w : List Ent) (t : PT) : Nat → PT :=
  @PT.rec (fun _ => Nat → PT) (fun _ => .node w .nil .nil)
    (fun v l r sl sr i => @Bool.rec (fun _ => PT) (.node v l (sr (Nat.sub (Nat.div i 2) 1))) (.node v (sl (Nat.div i 2)) r) (Nat.beq (Nat.mod i 2) 1)) t
noncomputable def PT.toL : PT → List Ent
  | .nil => []
  | .node v l r => v ++ (l.toL ++ r.toL)

theorem PT.at (t : PT) : ∀ i, (∃ l₁ l₂, t.toL = l₁ ++ (t.get i ++ l₂) ∧ ∀ w, (t.put w i).toL = l₁ ++ (w ++ l₂)) ∨ (t.get i = [] ∧ ∀ w, (t.put w i).toL = t.toL) := by
  induction t with
  | nil => intro i; exact .inr ⟨rfl, fun _ => rfl⟩
  | node v l r il ir =>
    intro i
    have eg : (PT.node v l r).get i = @Bool.rec (fun _ => List Ent) (@Bool.rec (fun _ => List Ent) (r.get (Nat.sub (Nat.div i 2) 1)) (l.get (Nat.div i 2)) (Nat.beq (Nat.mod i 2) 1)) v (Nat.beq i 0) := rfl
    have ep : ∀ w, (PT.node v l r).put w i = @Bool.rec (fun _ => PT) (@Bool.rec (fun _ => PT) (.node v l (r.put w (Nat.sub (Nat.div i 2) 1))) (.node v (l.put w (Nat.div i 2)) r) (Nat.beq (Nat.mod i 2) 1)) (.node w l r) (Nat.beq i 0) := fun _ => rfl
    rw [eg]
    cases h0 : Nat.beq i 0 with
    | true =>
      refine .inl ⟨[], l.toL ++ r.toL, rfl, fun w => ?_⟩
      rw [ep, h0]; rfl
    | false =>
      cases h1 : Nat.beq (Nat.mod i 2) 1 with
      | true =>
        rcases il (Nat.div i 2) with ⟨l₁, l₂, e, f⟩ | ⟨e, f⟩
        · refine .inl ⟨v ++ l₁, l₂ ++ r.toL, ?_, fun w => ?_⟩
          · show v ++ (l.toL ++ r.toL) = _
            rw [e]; simp [List.append_assoc]
          · rw [ep, h0, h1]
            show v ++ ((l.put w (Nat.div i 2)).toL ++ r.toL) = _
            rw [f]; simp [List.append_assoc]
        · refine .inr ⟨e, fun w => ?_⟩
          rw [ep, h0, h1]
          show v ++ ((l.put w (Nat.div i 2)).toL ++ r.toL) = _
          rw [f]; rfl
      | false =>
        rcases ir (Nat.sub (Nat.div i 2) 1) with ⟨l₁, l₂, e, f⟩ | ⟨e, f⟩
        · refine .inl ⟨v ++ (l.toL ++ l₁), l₂, ?_, fun w => ?_⟩
          · show v ++ (l.toL ++ r.toL) = _
            rw [e]; simp [List.append_assoc]
          · rw [ep, h0, h1]
            show v ++ (l.toL ++ (r.put w (Nat.sub (Nat.div i 2) 1)).toL) = _
            rw [f]; simp [List.append_assoc]
        · refine .inr ⟨e, fun w => ?_⟩
          rw [ep, h0, h1]
          show v ++ (l.toL ++ (r.put w (Nat.sub (Nat.div i 2) 1)).toL) = _
          rw [f]; rfl

theorem PT.at_some {t : PT} {i : Nat} {x : Ent} (h : t.get i = [x]) : ∃ l₁ l₂, t.toL = l₁ ++ x :: l₂ ∧ ∀ w, (t.put w i).toL = l₁ ++ (w ++ l₂) := by
  rcases t.at i with ⟨l₁, l₂, e, f⟩ | ⟨e, _⟩
  · rw [h] at e; exact ⟨l₁, l₂, e, f⟩
  · rw [h] at e; cases e

/-- what is put back where something was taken out (or anywhere) -/
theorem PT.put_sub (t : PT) (i : Nat) (x : List Ent) : ∃ l, (t.put x i).toL.Perm l ∧ l.Sublist (x ++ t.toL) := by
  rcases t.at i with ⟨l₁, l₂, e, f⟩ | ⟨_, f⟩
  · refine ⟨x ++ (l₁ ++ l₂), ?_, ?_⟩
    · rw [f, ← List.append_assoc, ← List.append_assoc]
      exact List.perm_append_comm.append_right _
    · rw [e]
      refine List.Sublist.append_left (List.Sublist.append_left ?_ l₁) _
      exact List.sublist_append_right _ _
  · exact ⟨t.toL, by rw [f], List.sublist_append_right _ _⟩

theorem perm_mid (a b c : List Ent) : (a ++ (b ++ c)).Perm (b ++ (a ++ c)) := by
  rw [← List.append_assoc, ← List.append_assoc]
  exact List.perm_append_comm.append_right _
theorem PT.ins_perm (w : List Ent) (t : PT) : ∀ i, (t.ins w i).toL.Perm (w ++ t.toL) := by
  induction t with
  | nil => intro i; exact List.Perm.refl _
  | node v l r il ir =>
    intro i
    have ep : (PT.node v l r).ins w i = @Bool.rec (fun _ => PT) (.node v l (r.ins w (Nat.sub (Nat.div i 2) 1))) (.node v (l.ins w (Nat.div i 2)) r) (Nat.beq (Nat.mod i 2) 1) := rfl
    rw [ep]
    cases Nat.beq (Nat.mod i 2) 1 with
    | true =>
      show (v ++ ((l.ins w (Nat.div i 2)).toL ++ r.toL)).Perm (w ++ (v ++ (l.toL ++ r.toL)))
      refine ((((il (Nat.div i 2)).append_right r.toL).append_left v)).trans ?_
      rw [List.append_assoc w]
      exact perm_mid v w _
    | false =>
      show (v ++ (l.toL ++ (r.ins w (Nat.sub (Nat.div i 2) 1)).toL)).Perm (w ++ (v ++ (l.toL ++ r.toL)))
      refine ((((ir (Nat.sub (Nat.div i 2) 1)).append_left l.toL).append_left v)).trans ?_
      refine ((perm_mid l.toL w _).append_left v).trans (perm_mid v w _)

/-- the top's objects, by address -/
inductive ST where
  | nil
  | node (k : Nat) (o : Obj) (l r : ST)
noncomputable def ST.get (t : ST) : Nat → Option Obj :=
  @ST.rec (fun _ => Nat → Option Obj) (fun _ => none)
    (fun k o _ _ gl gr a => @Bool.rec (fun _ => Option Obj) (@Bool.rec (fun _ => Option Obj) (gr a) (gl a) (Nat.ble a k)) (some o) (Nat.beq a k)) t

inductive Ob where
  | addr (a b : Addr)
  | code (c d : Code)
  | bool (b c : Bool)
  | ents (x y : List Ent)
  | nat (a b : Nat)
  | ctx (a b : Option Value × List Code)
noncomputable def Ob.ok : Ob → Prop
  | .addr a b => a = b
  | .code a b => a = b
  | .bool a b => a = b
  | .ents a b => a = b
  | .nat a b => a = b
  | .ctx a b => a = b
noncomputable def Ob.diag : Ob → Ob
  | .addr a _ => .addr a a
  | .code a _ => .code a a
  | .bool a _ => .bool a a
  | .ents a _ => .ents a a
  | .nat a _ => .nat a a
  | .ctx a _ => .ctx a a
theorem Ob.ok_of_diag {o : Ob} (h : o = o.diag) : o.ok := by
  cases o <;> (simp only [Ob.diag] at h; injection h with _ h; first | exact h.symm | exact h)

structure Eff where
  r : Result
  n : Nat
  t : Nat
  post : List Obj
  news : List Ent

structure Spec where
  c : Code
  ctx : Option (Option Value × List Code)
  at? : Option (Nat × Nat)
  pre : List Ent
  eff : Nat → Nat → Eff

/-- a spec as the executor has it: objects in lots -/
structure XEff where
  r : Result
  n : Nat
  t : Nat
  post : List (List Ent)
  news : List (List Ent)
structure XS where
  c : Code
  ctx : Option (Option Value × List Code)
  at? : Option (Nat × Nat)
  pre : List (List Ent)
  eff : Nat → Nat → XEff
noncomputable def pair : List Ent → List Obj → List Ent
  | e :: es, o :: os => (e.1, o) :: pair es os
  | _, _ => []
noncomputable def sing : List Ent → List (List Ent)
  | [] => []
  | e :: l => [e] :: sing l
noncomputable def Eff.x (pre : List Ent) (e : Eff) : XEff := ⟨e.r, e.n, e.t, sing (pair pre e.post), sing e.news⟩
noncomputable def Spec.x (x : Spec) : XS := ⟨x.c, x.ctx, x.at?, sing x.pre, fun n t => (x.eff n t).x x.pre⟩

structure Sy where
  T : PT
  m : Nat
  n : Nat
  t : Nat
  orc : Nat
  ss : List XS
  obs : List Ob

inductive Out where
  | ret (r : Result) (S : Sy)
  | stuck (k : Nat)

/-- reads the digits for the lots that a spec speaks of; they are taken out, and put back as the spec leaves them -/
noncomputable def useEnts (pre : List (List Ent)) : List (List Ent) → PT → Nat → List Ob → (PT → Nat → List Ob → Out) → Out :=
  @List.rec (List Ent) (fun _ => List (List Ent) → PT → Nat → List Ob → (PT → Nat → List Ob → Out) → Out)
    (fun _ T orc obs k => k T orc obs)
    (fun e _ ih post T orc obs k =>
      match post with
      | o :: post => ih post (T.put [] (Nat.sub (Nat.mod orc 128) 1)) (Nat.div orc 128) (.ents (T.get (Nat.sub (Nat.mod orc 128) 1)) e :: obs) fun T' orc' obs' => k (T'.put o (Nat.sub (Nat.mod orc 128) 1)) orc' obs'
      | _ => .stuck 3) pre
noncomputable def addNews (l : List (List Ent)) : PT → Nat → (PT → Nat → Out) → Out :=
  @List.rec (List Ent) (fun _ => PT → Nat → (PT → Nat → Out) → Out) (fun T m k => k T m) (fun e _ ih T m k => ih (T.ins e m) (Nat.succ m) k) l

noncomputable def ctxObs (hd : Option Value) (below : List (Code × Pos)) (n t : Nat) (c : Code) (x : XS) (obs : List Ob) : List Ob :=
  match x.ctx, x.at? with
  | none, none => .code c x.c :: obs
  | some y, none => .ctx (hd, below.map (·.1)) y :: .code c x.c :: obs
  | none, some a => .nat n a.1 :: .nat t a.2 :: .code c x.c :: obs
  | some y, some a => .nat n a.1 :: .nat t a.2 :: .ctx (hd, below.map (·.1)) y :: .code c x.c :: obs

noncomputable def useSpec (hd : Option Value) (below : List (Code × Pos)) (c : Code) (S : Sy) (k : Result → Sy → Out) : Out :=
  match S.ss with
  | [] => .stuck 4
  | x :: ss =>
    useEnts x.pre (x.eff S.n S.t).post S.T (Nat.div S.orc 128) (ctxObs hd below S.n S.t c x S.obs)
      fun T orc obs => addNews (x.eff S.n S.t).news T S.m fun T m => k (x.eff S.n S.t).r ⟨T, m, (x.eff S.n S.t).n, (x.eff S.n S.t).t, orc, ss, obs⟩

noncomputable abbrev ExTy := Code → Option Value → List (Code × Pos) → Sem Fin → Pos → Sy → Out

noncomputable def Sy.next (S : Sy) : Sy := { S with orc := Nat.div S.orc 128 }
noncomputable def Sy.say (S : Sy) (o : Ob) : Sy := { S with orc := Nat.div S.orc 128, obs := o :: S.obs }

noncomputable def exStep (prog : Program) (P : Params) (st : ST) (ih : ExTy) (c : Code) (hd : Option Value) (below : List (Code × Pos)) (t : Sem Fin) (p : Pos) (S : Sy) : Out :=
  match t with
  | .pure (.done f) => .ret (.ok f) S
  | .pure (.again c') => match Nat.mod S.orc 128 with
    | 0 => ih c' hd below (D c') p (S.say (.bool c'.quiet true))
    | _ + 1 => useSpec hd below c' { S with obs := .bool c'.quiet true :: S.obs } fun r S => .ret r S
  | .raise e => .ret (.error e) S
  | .rule _ k => ih c hd below (k ()) p S
  | .at q k => ih c hd below (k ()) q S
  | .point _ k => ih c hd below (k ()) p S
  | .ask k => ih c hd below (k ⟨prog, P⟩) p S
  | .load a _ k => match Nat.mod S.orc 128 with
    | 0 => (match st.get a with
      | some o => ih c hd below (k o) p S.next
      | none => .stuck 1)
    | i + 1 => (match S.T.get i with
      | [x] => ih c hd below (k x.2) p (S.say (.addr a x.1))
      | _ => .stuck 2)
  | .loadIfAlive a k => match Nat.mod S.orc 128 with
    | 0 => (match st.get a with
      | some o => ih c hd below (k (some o)) p S.next
      | none => .stuck 1)
    | i + 1 => (match S.T.get i with
      | [x] => ih c hd below (k (some x.2)) p (S.say (.addr a x.1))
      | _ => .stuck 2)
  | .update a _ f k => match Nat.mod S.orc 128 with
    | 0 => .stuck 5
    | i + 1 => (match S.T.get i with
      | [x] => ih c hd below (k ()) p { S with T := S.T.put [(x.1, f x.2)] i, orc := Nat.div S.orc 128, obs := .addr a x.1 :: .bool (f x.2).isFreed false :: S.obs }
      | _ => .stuck 2)
  | .alloc o k => ih c hd below (k S.n) p { S with T := S.T.ins [(S.n, o)] S.m, m := Nat.succ S.m, n := Nat.succ S.n, obs := .bool o.isFreed false :: S.obs }
  | .fresh k => ih c hd below (k S.t) p { S with t := Nat.succ S.t }
  | .handled _ k => ih c hd below (k hd) p S
  | .stack k => ih c hd below (k ((c, p) :: below)) p S
  | .call c' h _ _ k => match Nat.mod S.orc 128 with
    | 0 => (match ih c' (markOver h hd none) ((c, p) :: below) (D c') p S.next with
      | .ret r S => ih c hd below (k r) p S
      | .stuck n => .stuck n)
    | _ + 1 => useSpec (markOver h hd none) ((c, p) :: below) c' S fun r S => ih c hd below (k r) p S
  | _ => .stuck 6

noncomputable def ex (prog : Program) (P : Params) (st : ST) (fuel : Nat) : ExTy :=
  @Nat.rec (fun _ => ExTy) (fun _ _ _ _ _ _ => .stuck 40) (fun _ ih => exStep prog P st ih) fuel
theorem ex_succ (prog : Program) (P : Params) (st : ST) (n : Nat) : ex prog P st (n + 1) = exStep prog P st (ex prog P st n) := rfl
theorem ex_zero (prog : Program) (P : Params) (st : ST) : ex prog P st 0 = fun _ _ _ _ _ _ => .stuck 40 := rfl

/-! ## soundness -/

/-- generators: those that were there stand as they stood, all are quiet -/
noncomputable def GLe (g' g : Array GenState) : Prop := g.size ≤ g'.size ∧ (∀ i, i < g.size → g'[i]? = g[i]?) ∧ (PyProof.Rows.AllBare g → PyProof.Rows.AllBare g')
theorem GLe.refl (g : Array GenState) : GLe g g := ⟨Nat.le_refl _, fun _ _ => rfl, fun x => x⟩
theorem GLe.of_eq {g' g : Array GenState} (h : g' = g) : GLe g' g := h ▸ GLe.refl g'
theorem GLe.trans {a b c : Array GenState} (h : GLe c b) (k : GLe b a) : GLe c a :=
  ⟨Nat.le_trans k.1 h.1, fun i hi => (h.2.1 i (Nat.lt_of_lt_of_le hi k.1)).trans (k.2.1 i hi), fun x => h.2.2 (k.2.2 x)⟩
/-- what a run may change: the named addresses and what is new -/
structure Fra (A : List Addr) (s s' : Shared) : Prop where
  keep : ∀ b, b < s.heap.objs.size → b ∉ A → s'.heap.get? b = s.heap.get? b
  mono : s.heap.objs.size ≤ s'.heap.objs.size
  gens : GLe s'.gens s.gens
  drawn : s'.drawn = s.drawn
  os : s'.os = s.os
  life : s'.heap.life = s.heap.life

noncomputable def Stat (st : ST) (h : Heap) : Prop := ∀ a o, st.get a = some o → h.get? a = some o
noncomputable def Hold (l : List Ent) (h : Heap) : Prop := ∀ q ∈ l, h.get? q.1 = some q.2
noncomputable def adr (l : List Ent) : List Addr := l.map (·.1)

structure PreOk (st : ST) (pre : List Ent) (n t : Nat) (s : Shared) : Prop where
  size : s.heap.objs.size = n
  toks : s.toks = t
  own : Hold pre s.heap
  nodup : (adr pre).Nodup
  stat : Stat st s.heap
  apart : ∀ q ∈ pre, st.get q.1 = none

structure PostOk (pre : List Ent) (e : Eff) (s s' : Shared) : Prop where
  size : s'.heap.objs.size = e.n
  toks : s'.toks = e.t
  len : pre.length = e.post.length
  own : Hold (pair pre e.post) s'.heap
  news : Hold e.news s'.heap
  fresh : ∀ q ∈ e.news, s.heap.objs.size ≤ q.1
  nodup : (adr e.news).Nodup
  fra : Fra (adr pre) s s'

noncomputable def Spec.Valid (M : Model) (st : ST) (x : Spec) : Prop :=
  ∀ hd below p n t s, (∀ y, x.ctx = some y → (hd, below.map (·.1)) = y) → (∀ a, x.at? = some a → n = a.1 ∧ t = a.2) → PreOk st x.pre n t s →
    ∃ s', Returns M ⟨x.c, hd, hd, below, none⟩ p s (x.eff n t).r s' ∧ PostOk x.pre (x.eff n t) s s'

structure XPost (pre : List (List Ent)) (e : XEff) (s s' : Shared) : Prop where
  size : s'.heap.objs.size = e.n
  toks : s'.toks = e.t
  len : adr e.post.flatten = adr pre.flatten
  own : Hold e.post.flatten s'.heap
  news : Hold e.news.flatten s'.heap
  fresh : ∀ q ∈ e.news.flatten, s.heap.objs.size ≤ q.1
  nodup : (adr e.news.flatten).Nodup
  fra : Fra (adr pre.flatten) s s'
noncomputable def XS.Valid (M : Model) (st : ST) (x : XS) : Prop :=
  ∀ hd below p n t s, (∀ y, x.ctx = some y → (hd, below.map (·.1)) = y) → (∀ a, x.at? = some a → n = a.1 ∧ t = a.2) → PreOk st x.pre.flatten n t s →
    ∃ s', Returns M ⟨x.c, hd, hd, below, none⟩ p s (x.eff n t).r s' ∧ XPost x.pre (x.eff n t) s s'
theorem sing_flat : ∀ l : List Ent, (sing l).flatten = l
  | [] => rfl
  | e :: l => by show e :: (sing l).flatten = e :: l; rw [sing_flat l]
theorem adr_pair : ∀ {pre : List Ent} {post : List Obj}, pre.length = post.length → adr (pair pre post) = adr pre
  | [], [], _ => rfl
  | e :: es, o :: os, h => by
    show e.1 :: adr (pair es os) = e.1 :: adr es
    rw [adr_pair (Nat.succ.inj h)]
  | [], _ :: _, h => by cases h
  | _ :: _, [], h => by cases h
theorem PostOk.x {pre : List Ent} {e : Eff} {s s' : Shared} (h : PostOk pre e s s') : XPost (sing pre) (e.x pre) s s' := by
  obtain ⟨a, b, c, d, f, g, i, j⟩ := h
  have e1 : (e.x pre).post.flatten = pair pre e.post := sing_flat _
  have e2 : (e.x pre).news.flatten = e.news := sing_flat _
  refine ⟨a, b, ?_, ?_, ?_, ?_, ?_, ?_⟩
  · rw [e1, sing_flat]; exact adr_pair c
  · rw [e1]; exact d
  · rw [e2]; exact f
  · rw [e2]; exact g
  · rw [e2]; exact i
  · rw [sing_flat]; exact j
theorem Spec.Valid.x {M : Model} {st : ST} {x : Spec} (h : x.Valid M st) : x.x.Valid M st := by
  intro hd below p n t s h1 h2 hp
  have hp' : PreOk st x.pre n t s := by
    have : PreOk st (sing x.pre).flatten n t s := hp
    rwa [sing_flat] at this
  obtain ⟨s', hr, po⟩ := h hd below p n t s h1 h2 hp'
  exact ⟨s', hr, po.x⟩

structure Inv (st : ST) (T : PT) (n t : Nat) (s : Shared) : Prop where
  size : s.heap.objs.size = n
  toks : s.toks = t
  own : Hold T.toL s.heap
  nodup : (adr T.toL).Nodup
  stat : Stat st s.heap
  apart : ∀ q ∈ T.toL, st.get q.1 = none

structure Go (st : ST) (T : PT) (s : Shared) (T' : PT) (n' t' : Nat) (s' : Shared) : Prop where
  inv : Inv st T' n' t' s'
  fra : Fra (adr T.toL) s s'
  sub : ∀ q ∈ T'.toL, q.1 ∈ adr T.toL ∨ s.heap.objs.size ≤ q.1

theorem Fra.refl (A : List Addr) (s : Shared) : Fra A s s := ⟨fun _ _ _ => rfl, Nat.le_refl _, GLe.refl _, rfl, rfl, rfl⟩
theorem Go.refl {st : ST} {T : PT} {n t : Nat} {s : Shared} (I : Inv st T n t s) : Go st T s T n t s :=
  ⟨I, Fra.refl _ _, fun q hq => .inl (List.mem_map.mpr ⟨q, hq, rfl⟩)⟩
theorem Go.trans {st : ST} {T T₁ T₂ : PT} {n₁ t₁ n₂ t₂ : Nat} {s s₁ s₂ : Shared} (g : Go st T s T₁ n₁ t₁ s₁) (h : Go st T₁ s₁ T₂ n₂ t₂ s₂) : Go st T s T₂ n₂ t₂ s₂ := by
  have key : ∀ b, b ∈ adr T₁.toL → b ∈ adr T.toL ∨ s.heap.objs.size ≤ b := by
    intro b hb
    obtain ⟨q, hq, rfl⟩ := List.mem_map.mp hb
    exact g.sub q hq
  refine ⟨h.inv, ⟨fun b hb hA => ?_, Nat.le_trans g.fra.mono h.fra.mono, h.fra.gens.trans g.fra.gens, h.fra.drawn.trans g.fra.drawn, h.fra.os.trans g.fra.os, h.fra.life.trans g.fra.life⟩, fun q hq => ?_⟩
  · rw [h.fra.keep b (Nat.lt_of_lt_of_le hb g.fra.mono), g.fra.keep b hb hA]
    intro hm
    rcases key b hm with x | x
    · exact hA x
    · exact absurd hb (Nat.not_lt.mpr x)
  · rcases h.sub q hq with x | x
    · exact key _ x
    · exact .inr (Nat.le_trans g.fra.mono x)

theorem Inv.fresh {st : ST} {T : PT} {n t : Nat} {s : Shared} (I : Inv st T n t s) {a : Addr} (h : n ≤ a) : st.get a = none := by
  cases e : st.get a with
  | none => rfl
  | some o =>
    have := Heap.lt_size (I.stat a o e)
    rw [I.size] at this
    exact absurd this (Nat.not_lt.mpr h)
theorem Inv.below {st : ST} {T : PT} {n t : Nat} {s : Shared} (I : Inv st T n t s) {q : Ent} (h : q ∈ T.toL) : q.1 < n := by
  have := Heap.lt_size (I.own q h)
  rwa [I.size] at this

theorem go_alloc {st : ST} {T : PT} {n t : Nat} {s : Shared} (I : Inv st T n t s) (o : Obj) (hf : o.isFreed = false) (m : Nat) :
    Go st T s (T.ins [(n, o)] m) (Nat.succ n) t { s with heap := s.heap.push o } := by
  have hp := PT.ins_perm [(n, o)] T m
  have mem : ∀ q, q ∈ (T.ins [(n, o)] m).toL → q = (n, o) ∨ q ∈ T.toL := fun q hq => List.mem_cons.mp (hp.mem_iff.mp hq)
  refine ⟨⟨?_, I.toks, fun q hq => ?_, ?_, fun a o' e => Heap.get?_push_of_some _ (I.stat a o' e), fun q hq => ?_⟩, ⟨fun b hb _ => ?_, ?_, GLe.refl _, rfl, rfl, ?_⟩, fun q hq => ?_⟩
  · show (s.heap.push o).objs.size = _
    rw [Heap.size_push, I.size]
  · rcases mem q hq with rfl | hq
    · show (s.heap.push o).get? n = some o
      rw [← I.size]; exact Heap.get?_push_size _ hf
    · exact Heap.get?_push_of_some _ (I.own q hq)
  · have : ((n, o) :: T.toL).map (·.1) = n :: adr T.toL := rfl
    refine ((hp.map (·.1)).nodup_iff).mpr ?_
    show (n :: adr T.toL).Nodup
    refine List.nodup_cons.mpr ⟨fun hm => ?_, I.nodup⟩
    obtain ⟨q, hq, e⟩ := List.mem_map.mp hm
    have := I.below hq
    rw [e] at this
    exact Nat.lt_irrefl _ this
  · rcases mem q hq with rfl | hq
    · exact I.fresh (Nat.le_refl _)
    · exact I.apart q hq
  · show (s.heap.push o).get? b = s.heap.get? b
    have : (s.heap.push o).objs[b]? = s.heap.objs[b]? := by
      cases hh : s.heap
      simp only [Heap.push]
      rw [hh] at hb
      rw [Array.getElem?_push]
      split
      · rename_i e; subst e; exact absurd hb (Nat.lt_irrefl _)
      · rfl
    unfold Heap.get?
    rw [this]
  · show s.heap.objs.size ≤ (s.heap.push o).objs.size
    rw [Heap.size_push]; exact Nat.le_succ _
  · cases s.heap; rfl
  · rcases mem q hq with rfl | hq
    · right; rw [I.size]; exact Nat.le_refl _
    · left; exact List.mem_map.mpr ⟨q, hq, rfl⟩

theorem go_update {st : ST} {T : PT} {n t : Nat} {s : Shared} (I : Inv st T n t s) {i : Nat} {x : Ent} (hx : T.get i = [x]) (f : Obj → Obj) (hf : (f x.2).isFreed = false) :
    Go st T s (T.put [(x.1, f x.2)] i) n t { s with heap := s.heap.update x.1 f } := by
  obtain ⟨l₁, l₂, e, g⟩ := PT.at_some hx
  have e' : (T.put [(x.1, f x.2)] i).toL = l₁ ++ (x.1, f x.2) :: l₂ := g _
  have ha : adr (T.put [(x.1, f x.2)] i).toL = adr T.toL := by rw [e', e]; simp [adr]
  have hxm : x ∈ T.toL := by rw [e]; simp
  have nd := I.nodup
  rw [e] at nd
  have nd' : (adr l₁ ++ x.1 :: adr l₂).Nodup := by simpa [adr] using nd
  have ne : ∀ q, q ∈ l₁ ∨ q ∈ l₂ → x.1 ≠ q.1 := by
    rintro q hq rfl'
    have h2 := (List.perm_middle (l₁ := adr l₁) (l₂ := adr l₂) (a := x.1)).nodup_iff.mp nd'
    refine (List.nodup_cons.mp h2).1 ?_
    rw [rfl']
    rcases hq with hq | hq
    · exact List.mem_append_left _ (List.mem_map.mpr ⟨q, hq, rfl⟩)
    · exact List.mem_append_right _ (List.mem_map.mpr ⟨q, hq, rfl⟩)
  have hS : Heap.SameBut x.1 s.heap (s.heap.update x.1 f) := Heap.SameBut.update ..
  have hs : (s.heap.update x.1 f).objs.size = s.heap.objs.size := hS.1
  refine ⟨⟨?_, I.toks, fun q hq => ?_, ?_, fun a o e2 => ?_, fun q hq => ?_⟩, ⟨fun b hb hA => ?_, ?_, GLe.refl _, rfl, rfl, ?_⟩, fun q hq => ?_⟩
  · show (s.heap.update x.1 f).objs.size = _
    rw [hs, I.size]
  · rw [e'] at hq
    rcases List.mem_append.mp hq with hq | hq
    · show (s.heap.update x.1 f).get? q.1 = _
      rw [Heap.get?_update_other _ _ (ne q (.inl hq))]
      exact I.own q (by rw [e]; exact List.mem_append_left _ hq)
    · rcases List.mem_cons.mp hq with rfl | hq
      · exact Heap.get?_update_self f (I.own x hxm) hf
      · show (s.heap.update x.1 f).get? q.1 = _
        rw [Heap.get?_update_other _ _ (ne q (.inr hq))]
        exact I.own q (by rw [e]; exact List.mem_append_right _ (List.mem_cons_of_mem _ hq))
  · rw [ha]; exact I.nodup
  · show (s.heap.update x.1 f).get? a = _
    rw [Heap.get?_update_other]
    · exact I.stat a o e2
    · rintro rfl
      have := I.apart x hxm
      rw [e2] at this; cases this
  · have : q.1 ∈ adr T.toL := by rw [← ha]; exact List.mem_map.mpr ⟨q, hq, rfl⟩
    obtain ⟨q', hq', e3⟩ := List.mem_map.mp this
    rw [← e3]; exact I.apart q' hq'
  · show (s.heap.update x.1 f).get? b = _
    refine Heap.get?_update_other _ _ ?_
    rintro rfl
    exact hA (List.mem_map.mpr ⟨x, hxm, rfl⟩)
  · exact Nat.le_of_eq hs.symm
  · cases s.heap; rfl
  · left; rw [← ha]; exact List.mem_map.mpr ⟨q, hq, rfl⟩

theorem useEnts_cons (e : List Ent) (pre post : List (List Ent)) (T : PT) (orc : Nat) (obs : List Ob) (k : PT → Nat → List Ob → Out) :
    useEnts (e :: pre) post T orc obs k = (match post with
      | o :: post => useEnts pre post (T.put [] (Nat.sub (Nat.mod orc 128) 1)) (Nat.div orc 128) (.ents (T.get (Nat.sub (Nat.mod orc 128) 1)) e :: obs) fun T' orc' obs' => k (T'.put o (Nat.sub (Nat.mod orc 128) 1)) orc' obs'
      | _ => .stuck 3) := rfl
/-- lots taken out and put back -/
theorem useEnts_sound (pre : List (List Ent)) : ∀ (post : List (List Ent)) (T : PT) (orc : Nat) (obs : List Ob) (k : PT → Nat → List Ob → Out) (r : Result) (S' : Sy),
    useEnts pre post T orc obs k = .ret r S' → ∃ Tf orc' obs', k Tf orc' obs' = .ret r S' ∧ (∀ o ∈ obs, o ∈ obs') ∧
      ((∀ o ∈ obs', o.ok) → ∃ T₁ : PT, T.toL.Perm (pre.flatten ++ T₁.toL) ∧ ∃ l, Tf.toL.Perm l ∧ l.Sublist (post.flatten ++ T₁.toL)) := by
  induction pre with
  | nil =>
    intro post T orc obs k r S' h
    exact ⟨T, orc, obs, h, fun _ x => x, fun _ => ⟨T, List.Perm.refl _, T.toL, List.Perm.refl _, List.sublist_append_right _ _⟩⟩
  | cons e pre ih =>
    intro post T orc obs k r S' h
    rw [useEnts_cons] at h
    generalize hi : Nat.sub (Nat.mod orc 128) 1 = i at h
    cases post with
    | nil => cases h
    | cons o post =>
      obtain ⟨Tf, orc', obs', h1, h2, h3⟩ := ih _ _ _ _ _ _ _ h
      refine ⟨_, _, _, h1, fun ob hb => h2 ob (List.mem_cons_of_mem _ hb), fun ok => ?_⟩
      obtain ⟨T₁, p1, l, p2, p3⟩ := h3 ok
      have hxe : T.get i = e := ok _ (h2 _ (List.mem_cons_self ..))
      have q0 : T.toL.Perm (e ++ (T.put [] i).toL) := by
        rcases T.at i with ⟨l₁, l₂, e1, g⟩ | ⟨e1, g⟩
        · rw [g, e1, hxe]; exact perm_mid ..
        · rw [g, ← hxe, e1]; exact List.Perm.refl _
      refine ⟨T₁, ?_, ?_⟩
      · rw [List.flatten_cons, List.append_assoc]
        exact q0.trans (p1.append_left e)
      · obtain ⟨l', q1, q2⟩ := PT.put_sub Tf i o
        have hperm : (o ++ Tf.toL).Perm (o ++ l) := p2.append_left o
        obtain ⟨l'', r1, r2⟩ := List.exists_perm_sublist q2 hperm
        refine ⟨l'', q1.trans r1.symm, r2.trans ?_⟩
        rw [List.flatten_cons, List.append_assoc]
        exact List.Sublist.append_left p3 o

theorem addNews_sound (l : List (List Ent)) : ∀ (T : PT) (m : Nat) (k : PT → Nat → Out), ∃ Tf m', addNews l T m k = k Tf m' ∧ Tf.toL.Perm (l.flatten ++ T.toL) := by
  induction l with
  | nil => intro T m k; exact ⟨T, m, rfl, List.Perm.refl _⟩
  | cons e l ih =>
    intro T m k
    obtain ⟨Tf, m', h1, h2⟩ := ih (T.ins e m) (Nat.succ m) k
    refine ⟨Tf, m', h1, h2.trans ?_⟩
    refine ((PT.ins_perm e T m).append_left l.flatten).trans ?_
    rw [List.flatten_cons, List.append_assoc]
    exact perm_mid ..

theorem ctxObs_sub {hd : Option Value} {below : List (Code × Pos)} {n t : Nat} {c : Code} {x : XS} {obs : List Ob} : ∀ o ∈ obs, o ∈ ctxObs hd below n t c x obs := by
  intro o ho
  unfold ctxObs
  split <;> simp [ho]
theorem ctxObs_ok {hd : Option Value} {below : List (Code × Pos)} {n t : Nat} {c : Code} {x : XS} {obs : List Ob} (ok : ∀ o ∈ ctxObs hd below n t c x obs, o.ok) :
    c = x.c ∧ (∀ y, x.ctx = some y → (hd, below.map (·.1)) = y) ∧ (∀ a, x.at? = some a → n = a.1 ∧ t = a.2) := by
  obtain ⟨xc, cx, at', pre, eff⟩ := x
  cases cx with
  | none =>
    cases at' with
    | none => exact ⟨ok (.code c xc) (by simp [ctxObs]), (fun y hy => nomatch hy), (fun a ha => nomatch ha)⟩
    | some a => exact ⟨ok (.code c xc) (by simp [ctxObs]), (fun y hy => nomatch hy), fun a' ha => by cases ha; exact ⟨ok (.nat n a.1) (by simp [ctxObs]), ok (.nat t a.2) (by simp [ctxObs])⟩⟩
  | some y =>
    cases at' with
    | none => exact ⟨ok (.code c xc) (by simp [ctxObs]), (fun y' hy => by cases hy; exact ok (.ctx _ _) (by simp [ctxObs])), (fun a ha => nomatch ha)⟩
    | some a => exact ⟨ok (.code c xc) (by simp [ctxObs]), (fun y' hy => by cases hy; exact ok (.ctx _ _) (by simp [ctxObs])), fun a' ha => by cases ha; exact ⟨ok (.nat n a.1) (by simp [ctxObs]), ok (.nat t a.2) (by simp [ctxObs])⟩⟩

theorem useSpec_sound {M : Model} {st : ST} {hd : Option Value} {below : List (Code × Pos)} {p : Pos} {c : Code} {S : Sy} {k : Result → Sy → Out} {r : Result} {S' : Sy}
    (V : ∀ x ∈ S.ss, x.Valid M st) (h : useSpec hd below c S k = .ret r S') :
    ∃ r₁ S₁, k r₁ S₁ = .ret r S' ∧ (∀ o ∈ S.obs, o ∈ S₁.obs) ∧ (∀ x ∈ S₁.ss, x ∈ S.ss) ∧
      ((∀ o ∈ S₁.obs, o.ok) → ∀ s, Inv st S.T S.n S.t s → ∃ s', Returns M ⟨c, hd, hd, below, none⟩ p s r₁ s' ∧ Go st S.T s S₁.T S₁.n S₁.t s') := by
  unfold useSpec at h
  split at h
  · cases h
  · rename_i x ss hss
    obtain ⟨Tf, orc', obs', h1, h2, h3⟩ := useEnts_sound _ _ _ _ _ _ _ _ h
    obtain ⟨Tn, m', h4, h5⟩ := addNews_sound (x.eff S.n S.t).news Tf S.m (fun T m => k (x.eff S.n S.t).r ⟨T, m, (x.eff S.n S.t).n, (x.eff S.n S.t).t, orc', ss, obs'⟩)
    rw [h4] at h1
    refine ⟨_, _, h1, fun o ho => h2 _ (ctxObs_sub o ho), fun y hy => by rw [hss]; exact List.mem_cons_of_mem _ hy, fun ok s I => ?_⟩
    obtain ⟨T₁, p1, l, p2, p3⟩ := h3 ok
    obtain ⟨rfl, hc, ha⟩ := ctxObs_ok fun o ho => ok o (h2 o ho)
    have ndp : (adr x.pre.flatten ++ adr T₁.toL).Nodup := by
      have hp : (adr S.T.toL).Perm (adr (x.pre.flatten ++ T₁.toL)) := p1.map _
      have := hp.nodup_iff.mp I.nodup
      simpa [adr] using this
    have memp : ∀ q, q ∈ x.pre.flatten ∨ q ∈ T₁.toL → q ∈ S.T.toL := fun q hq => p1.mem_iff.mpr (by rcases hq with hq | hq <;> simp [hq])
    have pre : PreOk st x.pre.flatten S.n S.t s := ⟨I.size, I.toks, fun q hq => I.own q (memp q (.inl hq)), (List.nodup_append.mp ndp).1, I.stat, fun q hq => I.apart q (memp q (.inl hq))⟩
    obtain ⟨s', hr, po⟩ := V x (by rw [hss]; exact List.mem_cons_self ..) hd below p S.n S.t s hc ha pre
    refine ⟨s', hr, ?_⟩
    have ap := po.len
    have memf : ∀ q, q ∈ Tf.toL → q ∈ (x.eff S.n S.t).post.flatten ∨ q ∈ T₁.toL := fun q hq => by
      have := p3.subset (p2.mem_iff.mp hq)
      exact List.mem_append.mp this
    have memn : ∀ q, q ∈ Tn.toL → q ∈ (x.eff S.n S.t).news.flatten ∨ q ∈ (x.eff S.n S.t).post.flatten ∨ q ∈ T₁.toL := fun q hq => by
      rcases List.mem_append.mp (h5.mem_iff.mp hq) with hq | hq
      · exact .inl hq
      · exact .inr (memf q hq)
    have adp : ∀ q, q ∈ (x.eff S.n S.t).post.flatten → q.1 ∈ adr x.pre.flatten := fun q hq => by rw [← ap]; exact List.mem_map.mpr ⟨q, hq, rfl⟩
    have inT : ∀ q, q ∈ (x.eff S.n S.t).post.flatten ∨ q ∈ T₁.toL → q.1 ∈ adr S.T.toL := fun q hq => by
      rcases hq with hq | hq
      · obtain ⟨q', hq', e⟩ := List.mem_map.mp (adp q hq)
        rw [← e]; exact List.mem_map.mpr ⟨q', memp q' (.inl hq'), rfl⟩
      · exact List.mem_map.mpr ⟨q, memp q (.inr hq), rfl⟩
    have old : ∀ a, a ∈ adr S.T.toL → a < s.heap.objs.size ∧ st.get a = none := fun a hq => by
      obtain ⟨q, hq', rfl⟩ := List.mem_map.mp hq
      exact ⟨Heap.lt_size (I.own q hq'), I.apart q hq'⟩
    have presub : ∀ a, a ∈ adr x.pre.flatten → a ∈ adr S.T.toL := fun a hq => by
      obtain ⟨q, hq', rfl⟩ := List.mem_map.mp hq
      exact List.mem_map.mpr ⟨q, memp q (.inl hq'), rfl⟩
    refine ⟨⟨po.size, po.toks, fun q hq => ?_, ?_, fun a o e => ?_, fun q hq => ?_⟩, ⟨fun b hb hA => po.fra.keep b hb fun hm => hA (presub b hm), po.fra.mono, po.fra.gens, po.fra.drawn, po.fra.os, po.fra.life⟩, fun q hq => ?_⟩
    · rcases memn q hq with hq | hq | hq
      · exact po.news q hq
      · exact po.own q hq
      · have hT := memp q (.inr hq)
        rw [po.fra.keep q.1 (Heap.lt_size (I.own q hT))]
        · exact I.own q hT
        · intro hm
          exact (List.nodup_append.mp ndp).2.2 _ hm _ (List.mem_map.mpr ⟨q, hq, rfl⟩) rfl
    · refine ((h5.map (·.1)).nodup_iff).mpr ?_
      rw [List.map_append]
      refine List.nodup_append.mpr ⟨po.nodup, ?_, fun a ha b hb e => ?_⟩
      · refine ((p2.map (·.1)).nodup_iff).mpr ?_
        have sl := p3.map (·.1)
        rw [List.map_append] at sl
        refine sl.nodup ?_
        show (adr ((x.eff S.n S.t).post.flatten) ++ adr T₁.toL).Nodup
        rw [ap]; exact ndp
      · subst e
        obtain ⟨q, hq, rfl⟩ := List.mem_map.mp ha
        obtain ⟨q', hq', e⟩ := List.mem_map.mp hb
        have := (old _ (inT q' (memf q' hq'))).1
        rw [e] at this
        exact absurd this (Nat.not_lt.mpr (po.fresh q hq))
    · rw [po.fra.keep a (Heap.lt_size (I.stat a o e))]
      · exact I.stat a o e
      · intro hm
        have := (old a (presub a hm)).2
        rw [e] at this; cases this
    · rcases memn q hq with hq | hq
      · have := po.fresh q hq
        rw [I.size] at this
        exact I.fresh this
      · exact (old _ (inT q hq)).2
    · rcases memn q hq with hq | hq
      · exact .inr (po.fresh q hq)
      · exact .inl (inT q hq)

/-- THE EXECUTOR IS SOUND -/
noncomputable abbrev RunE (w : World) (prog : Program) (st : ST) (c : Code) (hd : Option Value) (below : List (Code × Pos)) (t : Sem Fin) (p : Pos) (S : Sy) (r : Result) (S' : Sy) : Prop :=
  ∀ s, Inv st S.T S.n S.t s → ∃ s', Runs (model prog w) ⟨c, hd, hd, below, none⟩ p t [] s (.ret r) s' ∧ Go st S.T s S'.T S'.n S'.t s'
noncomputable abbrev SoundE (w : World) (prog : Program) (st : ST) (c : Code) (hd : Option Value) (below : List (Code × Pos)) (t : Sem Fin) (p : Pos) (S : Sy) (r : Result) (S' : Sy) : Prop :=
  (∀ o ∈ S.obs, o ∈ S'.obs) ∧ (∀ x ∈ S'.ss, x ∈ S.ss) ∧
      ((∀ o ∈ S'.obs, o.ok) → RunE w prog st c hd below t p S r S')
theorem ex_sound {w : World} {prog : Program} {st : ST} : ∀ (fuel : Nat) (c : Code) (hd : Option Value) (below : List (Code × Pos)) (t : Sem Fin) (p : Pos) (S : Sy) (r : Result) (S' : Sy),
    ex prog w.params st fuel c hd below t p S = .ret r S' → (∀ x ∈ S.ss, x.Valid (model prog w) st) →
    SoundE w prog st c hd below t p S r S' := by
  intro fuel
  induction fuel with
  | zero => intro c hd below t p S r S' h; cases h
  | succ fuel ih =>
    intro c hd below t p S r S' h V
    rw [ex_succ] at h
    cases t with
    | pure fin =>
      cases fin with
      | done f =>
        cases h
        exact ⟨fun _ x => x, fun _ x => x, fun _ s I => ⟨s, .done, Go.refl I⟩⟩
      | again c' =>
        delta exStep at h; dsimp only at h
        split at h
        · obtain ⟨h1, h2, h3⟩ := ih _ _ _ _ _ _ _ _ h V
          refine ⟨fun o ho => h1 o (List.mem_cons_of_mem _ ho), h2, fun ok s I => ?_⟩
          obtain ⟨s', hr, g⟩ := h3 ok s I
          have hq : c'.quiet = true := ok _ (h1 _ (List.mem_cons_self ..))
          refine ⟨s', .again hq ?_, g⟩
          show Runs _ _ _ (denote table c') _ _ _ _
          rw [D_eq]; exact hr
        · obtain ⟨r₁, S₁, h1, h2, h3, h4⟩ := useSpec_sound (M := model prog w) (st := st) (S := { S with obs := .bool c'.quiet true :: S.obs }) V h
          cases h1
          refine ⟨fun o ho => h2 o (List.mem_cons_of_mem _ ho), h3, fun ok s I => ?_⟩
          obtain ⟨s', hr, g⟩ := h4 ok s I
          exact ⟨s', .again (ok _ (h2 _ (List.mem_cons_self ..))) hr, g⟩
    | raise e =>
      cases h
      exact ⟨fun _ x => x, fun _ x => x, fun _ s I => ⟨s, .raise, Go.refl I⟩⟩
    | rule tag k =>
      obtain ⟨h1, h2, h3⟩ := ih _ _ _ _ _ _ _ _ h V
      exact ⟨h1, h2, fun ok s I => let ⟨s', hr, g⟩ := h3 ok s I; ⟨s', .rule hr, g⟩⟩
    | «at» q k =>
      obtain ⟨h1, h2, h3⟩ := ih _ _ _ _ _ _ _ _ h V
      exact ⟨h1, h2, fun ok s I => let ⟨s', hr, g⟩ := h3 ok s I; ⟨s', .at hr, g⟩⟩
    | point l k =>
      obtain ⟨h1, h2, h3⟩ := ih _ _ _ _ _ _ _ _ h V
      exact ⟨h1, h2, fun ok s I => let ⟨s', hr, g⟩ := h3 ok s I; ⟨s', .point hr, g⟩⟩
    | ask k =>
      obtain ⟨h1, h2, h3⟩ := ih _ _ _ _ _ _ _ _ h V
      exact ⟨h1, h2, fun ok s I => let ⟨s', hr, g⟩ := h3 ok s I; ⟨s', .ask hr, g⟩⟩
    | load a q k =>
      delta exStep at h; dsimp only at h
      split at h
      · split at h
        · rename_i o ho
          obtain ⟨h1, h2, h3⟩ := ih _ _ _ _ _ _ _ _ h V
          exact ⟨h1, h2, fun ok s I => let ⟨s', hr, g⟩ := h3 ok s I; ⟨s', .load (I.stat a o ho) hr, g⟩⟩
        · cases h
      · split at h
        · rename_i x hx
          obtain ⟨h1, h2, h3⟩ := ih _ _ _ _ _ _ _ _ h V
          refine ⟨fun o ho => h1 o (List.mem_cons_of_mem _ ho), h2, fun ok s I => ?_⟩
          obtain ⟨s', hr, g⟩ := h3 ok s I
          have ha : a = x.1 := ok _ (h1 _ (List.mem_cons_self ..))
          obtain ⟨l₁, l₂, e, _⟩ := PT.at_some hx
          exact ⟨s', .load (by rw [ha]; exact I.own x (by rw [e]; simp)) hr, g⟩
        · cases h
    | loadIfAlive a k =>
      delta exStep at h; dsimp only at h
      split at h
      · split at h
        · rename_i o ho
          obtain ⟨h1, h2, h3⟩ := ih _ _ _ _ _ _ _ _ h V
          refine ⟨h1, h2, fun ok s I => ?_⟩
          obtain ⟨s', hr, g⟩ := h3 ok s I
          exact ⟨s', .loadIfAlive (by rw [I.stat a o ho]; exact hr), g⟩
        · cases h
      · split at h
        · rename_i x hx
          obtain ⟨h1, h2, h3⟩ := ih _ _ _ _ _ _ _ _ h V
          refine ⟨fun o ho => h1 o (List.mem_cons_of_mem _ ho), h2, fun ok s I => ?_⟩
          obtain ⟨s', hr, g⟩ := h3 ok s I
          have ha : a = x.1 := ok _ (h1 _ (List.mem_cons_self ..))
          obtain ⟨l₁, l₂, e, _⟩ := PT.at_some hx
          exact ⟨s', .loadIfAlive (by rw [ha, I.own x (by rw [e]; simp)]; exact hr), g⟩
        · cases h
    | update a q f k =>
      delta exStep at h; dsimp only at h
      split at h
      · cases h
      · split at h
        · rename_i x hx
          obtain ⟨h1, h2, h3⟩ := ih _ _ _ _ _ _ _ _ h V
          refine ⟨fun o ho => h1 o (List.mem_cons_of_mem _ (List.mem_cons_of_mem _ ho)), h2, fun ok s I => ?_⟩
          have ha : a = x.1 := ok _ (h1 _ (List.mem_cons_self ..))
          have hf : (f x.2).isFreed = false := ok _ (h1 _ (List.mem_cons_of_mem _ (List.mem_cons_self ..)))
          have g1 := go_update I hx f hf
          obtain ⟨s', hr, g⟩ := h3 ok _ g1.inv
          obtain ⟨l₁, l₂, e, _⟩ := PT.at_some hx
          subst ha
          exact ⟨s', .update (by rw [I.own x (by rw [e]; simp)]; rfl) hr, g1.trans g⟩
        · cases h
    | alloc o k =>
      obtain ⟨h1, h2, h3⟩ := ih _ _ _ _ _ _ _ _ h V
      refine ⟨fun o' ho => h1 o' (List.mem_cons_of_mem _ ho), h2, fun ok s I => ?_⟩
      have hf : o.isFreed = false := ok _ (h1 _ (List.mem_cons_self ..))
      have g1 := go_alloc I o hf S.m
      obtain ⟨s', hr, g⟩ := h3 ok _ g1.inv
      exact ⟨s', .alloc (by rw [I.size]; exact hr), g1.trans g⟩
    | fresh k =>
      obtain ⟨h1, h2, h3⟩ := ih _ _ _ _ _ _ _ _ h V
      refine ⟨h1, h2, fun ok s I => ?_⟩
      have I' : Inv st S.T S.n (Nat.succ S.t) { s with toks := s.toks + 1 } := ⟨I.size, by show s.toks + 1 = _; rw [I.toks], I.own, I.nodup, I.stat, I.apart⟩
      obtain ⟨s', hr, g⟩ := h3 ok _ I'
      exact ⟨s', .fresh (by rw [I.toks]; rw [I.toks] at hr; exact hr), ⟨g.inv, ⟨g.fra.keep, g.fra.mono, g.fra.gens, g.fra.drawn, g.fra.os, g.fra.life⟩, g.sub⟩⟩
    | handled own k =>
      obtain ⟨h1, h2, h3⟩ := ih _ _ _ _ _ _ _ _ h V
      refine ⟨h1, h2, fun ok s I => ?_⟩
      obtain ⟨s', hr, g⟩ := h3 ok s I
      exact ⟨s', .handled (by cases own <;> exact hr), g⟩
    | stack k =>
      obtain ⟨h1, h2, h3⟩ := ih _ _ _ _ _ _ _ _ h V
      exact ⟨h1, h2, fun ok s I => let ⟨s', hr, g⟩ := h3 ok s I; ⟨s', .stack hr, g⟩⟩
    | call c' m g l k =>
      delta exStep at h; dsimp only at h
      split at h
      · split at h
        · rename_i r₁ S₁ hs
          obtain ⟨h1, h2, h3⟩ := ih _ _ _ _ _ _ _ _ hs V
          obtain ⟨h4, h5, h6⟩ := ih _ _ _ _ _ _ _ _ h (fun x hx => V x (h2 x hx))
          refine ⟨fun o ho => h4 o (h1 o ho), fun x hx => h2 x (h5 x hx), fun ok s I => ?_⟩
          obtain ⟨s₁, hr1, g1⟩ := h3 (fun o ho => ok o (h4 o ho)) s I
          obtain ⟨s', hr, g2⟩ := h6 ok s₁ g1.inv
          refine ⟨s', .call (r := r₁) (s₁ := s₁) ?_ hr, g1.trans g2⟩
          show Runs _ _ _ (denote table c') _ _ _ _
          rw [D_eq]; exact hr1
        · cases h
      · obtain ⟨r₁, S₁, h1, h2, h3, h4⟩ := useSpec_sound (M := model prog w) (st := st) V h
        obtain ⟨h5, h6, h7⟩ := ih _ _ _ _ _ _ _ _ h1 (fun x hx => V x (h3 x hx))
        refine ⟨fun o ho => h5 o (h2 o ho), fun x hx => h3 x (h6 x hx), fun ok s I => ?_⟩
        obtain ⟨s₁, hr1, g1⟩ := h4 (fun o ho => ok o (h5 o ho)) s I
        obtain ⟨s', hr, g2⟩ := h7 ok s₁ g1.inv
        exact ⟨s', .call (r := r₁) (s₁ := s₁) hr1 hr, g1.trans g2⟩
    | unsupported => cases h
    | finish => cases h
    | register => cases h
    | choose => cases h
    | os => cases h
    | newGen => cases h
    | genState => cases h
    | resume => cases h
    | yield => cases h
    | fork => cases h
    | thread => cases h
    | await => cases h
end
end Mine

namespace Mine
section
open PySem PySem.W
noncomputable def st (P : Params) : ST := (.node 138 (hd.o_187 P) (.node 73 (hd.o_111 P) (.node 38 (hd.o_76 P) (.node 3 (hd.o_251 P) (.node 2 (hd.o_128 P) (.node 0 (PySem.W.boot_o_0 P) .nil .nil) .nil) (.node 37 (hd.o_75 P) (.node 4 (PySem.W.boot_o_4 P) .nil .nil) .nil)) (.node 51 (hd.o_89 P) (.node 45 (hd.o_83 P) (.node 44 (hd.o_82 P) .nil .nil) .nil) (.node 72 (hd.o_110 P) (.node 52 (hd.o_90 P) .nil .nil) .nil))) (.node 94 (hd.o_137 P) (.node 82 (hd.o_120 P) (.node 80 (hd.o_118 P) (.node 79 (hd.o_117 P) .nil .nil) .nil) (.node 93 (hd.o_136 P) (.node 83 (hd.o_121 P) .nil .nil) .nil)) (.node 128 (hd.o_177 P) (.node 104 (hd.o_168 P) (.node 103 (hd.o_146 P) .nil .nil) .nil) (.node 137 (hd.o_186 P) (.node 129 (hd.o_178 P) .nil .nil) .nil)))) (.node 194 (hd.o_245 P) (.node 166 (hd.o_217 P) (.node 158 (hd.o_209 P) (.node 145 (hd.o_194 P) (.node 144 (hd.o_193 P) .nil .nil) .nil) (.node 165 (hd.o_216 P) (.node 159 (hd.o_210 P) .nil .nil) .nil)) (.node 182 (hd.o_233 P) (.node 173 (hd.o_224 P) (.node 172 (hd.o_223 P) .nil .nil) .nil) (.node 193 (hd.o_244 P) (.node 183 (hd.o_234 P) .nil .nil) .nil))) (.node 211 (hd.o_264 P) (.node 205 (hd.o_258 P) (.node 199 (hd.o_250 P) (.node 198 (hd.o_249 P) .nil .nil) .nil) (.node 210 (hd.o_263 P) (.node 206 (hd.o_259 P) .nil .nil) .nil)) (.node 222 (hd.o_275 P) (.node 218 (hd.o_271 P) (.node 217 (hd.o_270 P) .nil .nil) .nil) (.node 223 (hd.o_276 P) .nil .nil)))))
end
end Mine

namespace Mine
section
open PySem PySem.W PyProof.Rows Sem
noncomputable abbrev thePw : Program := PySem.Challenge.pw_rl0089_01
noncomputable abbrev theRow : OpenRow := PySem.Challenge.rw_rl0089_01.row
/-- the program, its last def alone -/
noncomputable def q1 : Program := { thePw with main := { thePw.main with body := [outS 18] } }
noncomputable def loose1 : List Str := (thePw.main.scope.names.map (·.1)).filter fun n => !(n == ("law" : Str))
noncomputable def ST.list : ST → List Ent
  | .nil => []
  | .node k o l r => (k, o) :: (l.list ++ r.list)
theorem ST.mem : ∀ (t : ST) (a : Nat) (o : Obj), t.get a = some o → (a, o) ∈ t.list
  | .nil, _, _, h => nomatch h
  | .node k v l r, a, o, h => by
    have e : (ST.node k v l r).get a = @Bool.rec (fun _ => Option Obj) (@Bool.rec (fun _ => Option Obj) (r.get a) (l.get a) (Nat.ble a k)) (some v) (Nat.beq a k) := rfl
    rw [e] at h
    cases h1 : Nat.beq a k with
    | true =>
      rw [h1] at h
      have := Nat.eq_of_beq_eq_true h1
      subst this
      cases h
      exact List.mem_cons_self ..
    | false =>
      rw [h1] at h
      refine List.mem_cons_of_mem _ ?_
      cases h2 : Nat.ble a k with
      | true => rw [h2] at h; exact List.mem_append_left _ (ST.mem l a o h)
      | false => rw [h2] at h; exact List.mem_append_right _ (ST.mem r a o h)
/-- the tables that the law's defs keep their code in, empty yet -/
noncomputable def tab0 : List Ent := [(89, { cls := .none, data := .fields #[] }), (189, { cls := .none, data := .fields #[] })]
noncomputable def allSt (P : Params) : List Ent := tab0 ++ (st P).list
noncomputable def as0 : List Nat := [89, 189, 138, 73, 38, 3, 2, 0, 37, 4, 51, 45, 44, 72, 52, 94, 82, 80, 79, 93, 83, 128, 104, 103, 137, 129, 194, 166, 158, 145, 144, 165, 159, 182, 173, 172, 193, 183, 211, 205, 199, 198, 210, 206, 222, 218, 217, 223]
theorem as0_eq (P : Params) : (allSt P).map (·.1) = as0 := by kernel_rfl
noncomputable def obs1 (s : Shared) : List (Option Obj) := as0.map s.heap.get?
noncomputable def val1 (w : World) : List (Option Obj) := (allSt w.params).map fun q => some q.2
theorem boot1 : ∀ w : World, (fencedOpening treeTable thePw w 3688).map (fun s => (s.heap, s.gens, s.drawn, s.toks)) = some (boot_heap w.params, Array.mk [], boot_drawn, boot_toks) :=
  boot_open (by kernel_rfl) (by decide) (fun s => by kernel_rfl)
theorem top_f : ∀ (w : World) (os : OsState), (topFrom treeTable thePw (w.withFollow "special-get-raises" false) 3688 ⟨boot_heap (w.withFollow "special-get-raises" false).params, Array.mk [], boot_drawn, boot_toks, os⟩).map (fun s => (openSeen q1 loose1 (importedModules thePw.main.body) (fun _ => true) true s, obs1 s)) = some (openGood q1 loose1, val1 (w.withFollow "special-get-raises" false)) := by
  intro w os
  unfold topFrom
  rw [PySem.W.Fast.te14082659384304107361, PySem.W.Fast.te14364793385576792824, PySem.W.Fast.te4187177175401517315]
  kernel_rfl
theorem top_t : ∀ (w : World) (os : OsState), (topFrom treeTable thePw (w.withFollow "special-get-raises" true) 3688 ⟨boot_heap (w.withFollow "special-get-raises" true).params, Array.mk [], boot_drawn, boot_toks, os⟩).map (fun s => (openSeen q1 loose1 (importedModules thePw.main.body) (fun _ => true) true s, obs1 s)) = some (openGood q1 loose1, val1 (w.withFollow "special-get-raises" true)) := by
  intro w os
  unfold topFrom
  rw [PySem.W.Fast.te14082659384304107361, PySem.W.Fast.te14364793385576792824, PySem.W.Fast.te4187177175401517315]
  kernel_rfl
end
end Mine

namespace Mine
section
open PySem PySem.W PyProof.Rows Sem
noncomputable def TopIs (w : World) : Prop := ∀ os : OsState, (topFrom treeTable thePw w 3688 ⟨boot_heap w.params, Array.mk [], boot_drawn, boot_toks, os⟩).map (fun s => (openSeen q1 loose1 (importedModules thePw.main.body) (fun _ => true) true s, obs1 s)) = some (openGood q1 loose1, val1 w)
theorem top_any (w : World) : TopIs w := byRow2 (P := TopIs) "special-get-raises" top_f top_t w
theorem left1 : LeftO thePw q1 loose1 (fun _ => true) obs1 val1 3688 := fun w => by
  obtain ⟨⟨h, gs, d, k, os⟩, e, e'⟩ := Option.map_eq_some_iff.mp (boot1 w)
  obtain ⟨rfl, rfl, rfl, rfl⟩ : h = boot_heap w.params ∧ gs = Array.mk [] ∧ d = boot_drawn ∧ k = boot_toks := by simpa using e'
  unfold openEnds
  rw [e]
  exact top_any w os
end
end Mine

namespace Mine
section
open PySem PySem.W
noncomputable def PT.build (l : List (List Ent)) : PT → Nat → PT :=
  @List.rec (List Ent) (fun _ => PT → Nat → PT) (fun T _ => T) (fun e _ ih T m => ih (T.ins e m) (Nat.succ m)) l
theorem PT.build_perm (l : List (List Ent)) : ∀ (T : PT) (m : Nat), (PT.build l T m).toL.Perm (l.flatten ++ T.toL) := by
  induction l with
  | nil => intro T m; exact List.Perm.refl _
  | cons e l ih =>
    intro T m
    refine (ih (T.ins e m) (Nat.succ m)).trans ?_
    refine ((PT.ins_perm e T m).append_left l.flatten).trans ?_
    rw [List.flatten_cons, List.append_assoc]
    exact perm_mid ..
noncomputable def objs : List Ent → List Obj
  | [] => []
  | e :: l => e.2 :: objs l

/-- the end: the wanted lots are found by their digits -/
noncomputable def closingX (want : List (List Ent)) (o : Out) : Out :=
  match o with
  | .ret r S => useEnts want want S.T S.orc S.obs fun T orc obs => .ret r { S with T := T, orc := orc, obs := obs }
  | .stuck k => .stuck k
noncomputable def closing (want : List Ent) (o : Out) : Out := closingX (sing want) o
noncomputable def rep : Out → Result × Nat × Nat × List Ob
  | .ret r S => (r, S.n, S.t, S.obs)
  | .stuck k => (.ok .next, k, 0, [])
noncomputable def dia (r : Result) (n t : Nat) : Out → Result × Nat × Nat × List Ob
  | .ret _ S => (r, n, t, S.obs.map Ob.diag)
  | .stuck k => (.ok .brk, k, 1, [])

theorem ok_of_map {l : List Ob} (h : l = l.map Ob.diag) : ∀ o ∈ l, o.ok := by
  intro o ho
  induction l with
  | nil => cases ho
  | cons a l ih =>
    rw [List.map_cons] at h
    injection h with h1 h2
    rcases List.mem_cons.mp ho with rfl | ho
    · exact Ob.ok_of_diag h1
    · exact ih h2 ho

/-- the start of a run over the entries of pre -/
noncomputable def beginX (pre : List (List Ent)) (n t orc : Nat) (ss : List XS) : Sy := ⟨PT.build pre .nil 0, pre.length, n, t, orc, ss, []⟩
noncomputable def begin_ (pre : List Ent) (n t orc : Nat) (ss : List Spec) : Sy := beginX (sing pre) n t orc (ss.map Spec.x)
theorem adr_append' (a b : List Ent) : adr (a ++ b) = adr a ++ adr b := List.map_append ..

theorem runX_ok {w : World} {prog : Program} {st : ST} {c : Code} {hd : Option Value} {below : List (Code × Pos)} {tr : Sem Fin} {p : Pos} (fuel orc : Nat) (ss : List XS) {pre : List (List Ent)} {n t : Nat} {e : XEff}
    (V : ∀ y ∈ ss, y.Valid (model prog w) st) (len : adr e.post.flatten = adr pre.flatten)
    (h : rep (closingX (e.post ++ e.news) (ex prog w.params st fuel c hd below tr p (beginX pre n t orc ss))) =
      dia e.r e.n e.t (closingX (e.post ++ e.news) (ex prog w.params st fuel c hd below tr p (beginX pre n t orc ss))))
    {s : Shared} (hp : PreOk st pre.flatten n t s) : ∃ s', Runs (model prog w) ⟨c, hd, hd, below, none⟩ p tr [] s (.ret e.r) s' ∧ XPost pre e s s' := by
  have perm0 : (PT.build pre .nil 0).toL.Perm pre.flatten := by
    have := PT.build_perm pre .nil 0
    rwa [show pre.flatten ++ PT.nil.toL = pre.flatten from List.append_nil _] at this
  cases hc : closingX (e.post ++ e.news) (ex prog w.params st fuel c hd below tr p (beginX pre n t orc ss)) with
  | stuck k =>
    rw [hc] at h
    have : (0 : Nat) = 1 := congrArg (fun x => x.2.2.1) h
    cases this
  | ret r' S' =>
    rw [hc] at h
    have h1 : r' = e.r := congrArg (fun x => x.1) h
    have h2 : S'.n = e.n := congrArg (fun x => x.2.1) h
    have h3 : S'.t = e.t := congrArg (fun x => x.2.2.1) h
    have h4 : S'.obs = S'.obs.map Ob.diag := congrArg (fun x => x.2.2.2) h
    have ok := ok_of_map h4
    unfold closingX at hc
    split at hc
    · rename_i r₁ S₁ he
      obtain ⟨Tf, orc', obs', k1, k2, k3⟩ := useEnts_sound _ _ _ _ _ _ _ _ hc
      cases k1
      have ok : ∀ o ∈ obs', o.ok := ok
      obtain ⟨T₁, p1, _⟩ := k3 ok
      obtain ⟨_, _, E⟩ := ex_sound fuel _ _ _ _ _ _ _ _ he V
      have I : Inv st (beginX pre n t orc ss).T (beginX pre n t orc ss).n (beginX pre n t orc ss).t s := by
        refine ⟨hp.size, hp.toks, fun q hq => hp.own q (perm0.mem_iff.mp hq), ?_, hp.stat, fun q hq => hp.apart q (perm0.mem_iff.mp hq)⟩
        have hpa : (adr (PT.build pre .nil 0).toL).Perm (adr pre.flatten) := perm0.map _
        exact hpa.nodup_iff.mpr hp.nodup
      obtain ⟨s', hr, g⟩ := E (fun o ho => ok o (k2 o ho)) s I
      have h2' : S₁.n = e.n := h2
      have h3' : S₁.t = e.t := h3
      rw [h1] at hr
      refine ⟨s', hr, ?_⟩
      rw [List.flatten_append] at p1
      have mem : ∀ q, q ∈ e.post.flatten ++ e.news.flatten → q ∈ S₁.T.toL := fun q hq => p1.mem_iff.mpr (List.mem_append_left _ hq)
      have nd : (adr (e.post.flatten ++ e.news.flatten) ++ adr T₁.toL).Nodup := by
        have hpa : (adr S₁.T.toL).Perm (adr ((e.post.flatten ++ e.news.flatten) ++ T₁.toL)) := p1.map _
        have := hpa.nodup_iff.mp g.inv.nodup
        rwa [adr_append'] at this
      have nd2 : (adr pre.flatten ++ adr e.news.flatten).Nodup := by
        have := (List.nodup_append.mp nd).1
        rw [adr_append', len] at this
        exact this
      have asub : ∀ a, a ∈ adr (PT.build pre .nil 0).toL → a ∈ adr pre.flatten := fun a ha => by
        obtain ⟨q, hq, rfl⟩ := List.mem_map.mp ha
        exact List.mem_map.mpr ⟨q, perm0.mem_iff.mp hq, rfl⟩
      refine ⟨by rw [g.inv.size, h2'], by rw [g.inv.toks, h3'], len, fun q hq => g.inv.own q (mem q (List.mem_append_left _ hq)), fun q hq => g.inv.own q (mem q (List.mem_append_right _ hq)), fun q hq => ?_, (List.nodup_append.mp nd2).2.1,
        ⟨fun b hb hA => g.fra.keep b hb fun hm => hA (asub b hm), g.fra.mono, g.fra.gens, g.fra.drawn, g.fra.os, g.fra.life⟩⟩
      rcases g.sub q (mem q (List.mem_append_right _ hq)) with hm | hm
      · exact absurd rfl ((List.nodup_append.mp nd2).2.2 _ (asub _ hm) _ (List.mem_map.mpr ⟨q, hq, rfl⟩))
      · exact hm
    · cases hc

theorem XPost.ok {pre : List Ent} {e : Eff} {s s' : Shared} (len : pre.length = e.post.length) (h : XPost (sing pre) (e.x pre) s s') : PostOk pre e s s' := by
  obtain ⟨a, b, _, d, f, g, i, j⟩ := h
  have e1 : (e.x pre).post.flatten = pair pre e.post := sing_flat _
  have e2 : (e.x pre).news.flatten = e.news := sing_flat _
  rw [e1] at d
  rw [e2] at f g i
  rw [sing_flat] at j
  exact ⟨a, b, len, d, f, g, i, j⟩
theorem sing_app : ∀ (a b : List Ent), sing (a ++ b) = sing a ++ sing b
  | [], _ => rfl
  | e :: a, b => by show [e] :: sing (a ++ b) = _; rw [sing_app a b]; rfl
theorem map_valid {M : Model} {st : ST} {ss : List Spec} (V : ∀ y ∈ ss, y.Valid M st) : ∀ y ∈ ss.map Spec.x, y.Valid M st := by
  intro y hy
  obtain ⟨x, hx, rfl⟩ := List.mem_map.mp hy
  exact (V x hx).x
theorem run_ok {w : World} {prog : Program} {st : ST} {c : Code} {hd : Option Value} {below : List (Code × Pos)} {tr : Sem Fin} {p : Pos} (fuel orc : Nat) (ss : List Spec) {pre : List Ent} {n t : Nat} {e : Eff}
    (V : ∀ y ∈ ss, y.Valid (model prog w) st) (len : pre.length = e.post.length)
    (h : rep (closing (pair pre e.post ++ e.news) (ex prog w.params st fuel c hd below tr p (begin_ pre n t orc ss))) =
      dia e.r e.n e.t (closing (pair pre e.post ++ e.news) (ex prog w.params st fuel c hd below tr p (begin_ pre n t orc ss))))
    {s : Shared} (hp : PreOk st pre n t s) : ∃ s', Runs (model prog w) ⟨c, hd, hd, below, none⟩ p tr [] s (.ret e.r) s' ∧ PostOk pre e s s' := by
  have h2 : closing (pair pre e.post ++ e.news) (ex prog w.params st fuel c hd below tr p (begin_ pre n t orc ss)) = closingX ((e.x pre).post ++ (e.x pre).news) (ex prog w.params st fuel c hd below tr p (beginX (sing pre) n t orc (ss.map Spec.x))) := by
    show closingX (sing (pair pre e.post ++ e.news)) _ = _
    rw [sing_app]; rfl
  rw [h2] at h
  obtain ⟨s', hr, po⟩ := runX_ok fuel orc (ss.map Spec.x) (pre := sing pre) (e := e.x pre) (map_valid V) (by
    rw [show (e.x pre).post.flatten = pair pre e.post from sing_flat _, sing_flat]; exact adr_pair len) h (by rw [sing_flat]; exact hp)
  exact ⟨s', hr, po.ok len⟩

/-- a contract by one run of its code -/
theorem valid_of_ex {w : World} {prog : Program} {st : ST} {x : Spec}
    (H : ∀ hd below p n t, (∀ y, x.ctx = some y → (hd, below.map (·.1)) = y) → (∀ a, x.at? = some a → n = a.1 ∧ t = a.2) → ∃ (fuel orc : Nat) (ss : List Spec), (∀ y ∈ ss, y.Valid (model prog w) st) ∧ x.pre.length = (x.eff n t).post.length ∧
      rep (closing (pair x.pre (x.eff n t).post ++ (x.eff n t).news) (ex prog w.params st fuel x.c hd below (D x.c) p (begin_ x.pre n t orc ss))) =
      dia (x.eff n t).r (x.eff n t).n (x.eff n t).t (closing (pair x.pre (x.eff n t).post ++ (x.eff n t).news) (ex prog w.params st fuel x.c hd below (D x.c) p (begin_ x.pre n t orc ss)))) :
    x.Valid (model prog w) st := by
  intro hd below p n t s hc ha hp
  obtain ⟨fuel, orc, ss, V, len, h⟩ := H hd below p n t hc ha
  obtain ⟨s', hr, po⟩ := run_ok fuel orc ss V len h hp
  refine ⟨s', ?_, po⟩
  show Runs _ _ _ (denote table x.c) _ _ _ _
  rw [D_eq]; exact hr

/-- a stack of given codes, its places by q -/
noncomputable def mkB : List Code → (Nat → Pos) → List (Code × Pos)
  | [], _ => []
  | c :: cs, q => (c, q 0) :: mkB cs fun i => q (i + 1)
theorem mkB_of : ∀ (below : List (Code × Pos)), ∃ q, below = mkB (below.map (·.1)) q
  | [] => ⟨fun _ => default, rfl⟩
  | (c, p) :: l => by
    obtain ⟨q, hq⟩ := mkB_of l
    refine ⟨fun i => match i with | 0 => p | i + 1 => q i, ?_⟩
    show (c, p) :: l = (c, p) :: mkB (l.map (·.1)) q
    rw [← hq]

/-- a contract in a given place and at a given state -/
noncomputable def mk (c : Code) (hd : Option Value) (cs : List Code) (n t : Nat) (pre : List Ent) (e : Eff) : Spec := ⟨c, some (hd, cs), some (n, t), pre, fun _ _ => e⟩
theorem mk_valid {w : World} {prog : Program} {st : ST} {c : Code} {hd : Option Value} {cs : List Code} {n t : Nat} {pre : List Ent} {e : Eff} (fuel orc : Nat) (ss : List Spec) (V : ∀ y ∈ ss, y.Valid (model prog w) st) (len : pre.length = e.post.length)
    (h : ∀ p q, rep (closing (pair pre e.post ++ e.news) (ex prog w.params st fuel c hd (mkB cs q) (D c) p (begin_ pre n t orc ss))) =
      dia e.r e.n e.t (closing (pair pre e.post ++ e.news) (ex prog w.params st fuel c hd (mkB cs q) (D c) p (begin_ pre n t orc ss)))) :
    (mk c hd cs n t pre e).Valid (model prog w) st := by
  intro hd' below p n' t' s hc ha hp
  have e1 := hc _ rfl
  obtain ⟨rfl, rfl⟩ := ha _ rfl
  injection e1 with e1 e2
  subst e1 e2
  obtain ⟨q, hq⟩ := mkB_of below
  obtain ⟨s', hr, po⟩ := run_ok fuel orc ss V len (h p q) hp
  refine ⟨s', ?_, po⟩
  rw [← hq] at hr
  show Runs _ _ _ (denote table c) _ _ _ _
  rw [D_eq]; exact hr

theorem mk_intro {w : World} {prog : Program} {st : ST} {c : Code} {hd : Option Value} {cs : List Code} {n t : Nat} {pre : List Ent} {e : Eff}
    (H : ∀ below p s, below.map (·.1) = cs → PreOk st pre n t s → ∃ s', Returns (model prog w) ⟨c, hd, hd, below, none⟩ p s e.r s' ∧ PostOk pre e s s') : (mk c hd cs n t pre e).Valid (model prog w) st := by
  intro hd' below p n' t' s hc ha hp
  have e1 := hc _ rfl
  obtain ⟨rfl, rfl⟩ := ha _ rfl
  injection e1 with e1 e2
  subst e1
  exact H below p s e2 hp
theorem mk_elim {w : World} {prog : Program} {st : ST} {c : Code} {hd : Option Value} {cs : List Code} {n t : Nat} {pre : List Ent} {e : Eff} (V : (mk c hd cs n t pre e).Valid (model prog w) st)
    (below : List (Code × Pos)) (p : Pos) {s : Shared} (h : below.map (·.1) = cs) (hp : PreOk st pre n t s) : ∃ s', Returns (model prog w) ⟨c, hd, hd, below, none⟩ p s e.r s' ∧ PostOk pre e s s' :=
  V hd below p n t s (fun y hy => by cases hy; rw [h]) (fun a ha => by cases ha; exact ⟨rfl, rfl⟩) hp

theorem adr_append (a b : List Ent) : adr (a ++ b) = adr a ++ adr b := List.map_append ..
theorem pair_append {b : List Ent} {y : List Obj} : ∀ (a : List Ent) (x : List Obj), a.length = x.length → pair (a ++ b) (x ++ y) = pair a x ++ pair b y := by
  intro a
  induction a with
  | nil => intro x h; cases x with
    | nil => rfl
    | cons o x => cases h
  | cons e a ih => intro x h; cases x with
    | nil => cases h
    | cons o x =>
      have := ih x (Nat.succ.inj h)
      show (e.1, o) :: pair (a ++ b) (x ++ y) = _
      rw [this]; rfl
theorem pair_objs (l : List Ent) : pair l (objs l) = l := by
  induction l with
  | nil => rfl
  | cons a l ih => show (a.1, a.2) :: pair l (objs l) = _; rw [ih]
theorem objs_length (l : List Ent) : l.length = (objs l).length := by
  induction l with
  | nil => rfl
  | cons a l ih => show l.length + 1 = (objs l).length + 1; rw [ih]

theorem all_nil {Q : Spec → Prop} : ∀ y ∈ ([] : List Spec), Q y := fun _ h => nomatch h
theorem all_cons {Q : Spec → Prop} {x : Spec} {l : List Spec} (h : Q x) (k : ∀ y ∈ l, Q y) : ∀ y ∈ x :: l, Q y := fun y hy => by
  rcases List.mem_cons.mp hy with rfl | hy
  · exact h
  · exact k y hy

/-- a built-in by the library's word for it -/
theorem valid_of_meets {w : World} {prog : Program} {st : ST} {x : Spec} {id : String} {B : Builtin} {args : Args} {S : PySem.Spec} (hc : x.c = .builtin id args) (plain : plainId id = true)
    (entry : entryFor table id = some B) (g : Meets (B args) S)
    (H : ∀ A n t s, (∀ a, x.at? = some a → n = a.1 ∧ t = a.2) → PreOk st x.pre n t s → S A (fun r s' => r = (x.eff n t).r ∧ PostOk x.pre (x.eff n t) s s') s) : x.Valid (model prog w) st := by
  intro hd below p n t s _ ha hp
  let A : Around := { handled := hd, depth := frameCount below, frames := none, guards := none, units := unitsOf below }
  have hb : Ctx.Below ⟨x.c, hd, hd, below, none⟩ A := ⟨rfl, Nat.le_refl _, (fun _ h => nomatch h), (fun _ h => nomatch h), Nat.le_refl _⟩
  have hcode : codeAny (model prog w) A (.builtin id args) (fun r s' => r = (x.eff n t).r ∧ PostOk x.pre (x.eff n t) s s') s := by
    refine codeAny_of_tree ?_
    rw [Around.under_plainId plain]
    have := g prog w A _ s (H A n t s ha hp)
    have hden : denote table (.builtin id args) = B args := by
      show (match entryFor table id with | some b => b args | none => unsupported _) = _
      rw [entry]
    show wpAny _ _ (denote table (.builtin id args)) _ _ _
    rw [hden]
    exact this
  obtain ⟨r, s', hr, rfl, po⟩ := hcode ⟨x.c, hd, hd, below, none⟩ p hc hb
  exact ⟨s', hr, po⟩

/-- a built-in by a word for its tree -/
theorem valid_of_body {w : World} {prog : Program} {st : ST} {x : Spec} {id : String} {B : Builtin} {args : Args} (hc : x.c = .builtin id args) (plain : plainId id = true)
    (entry : entryFor table id = some B)
    (H : ∀ A n t s, (∀ a, x.at? = some a → n = a.1 ∧ t = a.2) → PreOk st x.pre n t s → wpAny (model prog w) A (B args) (fun fin s' => ∃ v, fin = .done (.ret v) ∧ (.ok (.ret v) = (x.eff n t).r ∧ PostOk x.pre (x.eff n t) s s')) (fun e s' => .error e = (x.eff n t).r ∧ PostOk x.pre (x.eff n t) s s') s) : x.Valid (model prog w) st := by
  intro hd below p n t s _ ha hp
  let A : Around := { handled := hd, depth := frameCount below, frames := none, guards := none, units := unitsOf below }
  have hb : Ctx.Below ⟨x.c, hd, hd, below, none⟩ A := ⟨rfl, Nat.le_refl _, (fun _ h => nomatch h), (fun _ h => nomatch h), Nat.le_refl _⟩
  have hcode : codeAny (model prog w) A (.builtin id args) (fun r s' => r = (x.eff n t).r ∧ PostOk x.pre (x.eff n t) s s') s := by
    refine codeAny_of_tree ?_
    rw [Around.under_plainId plain]
    have hden : denote table (.builtin id args) = B args := by
      show (match entryFor table id with | some b => b args | none => unsupported _) = _
      rw [entry]
    show wpAny _ _ (denote table (.builtin id args)) _ _ _
    rw [hden]
    exact wpAny_mono (H _ n t s ha hp) (fun fin s' h => by obtain ⟨v, rfl, h1⟩ := h; exact h1) fun _ _ h => h
  obtain ⟨r, s', hr, rfl, po⟩ := hcode ⟨x.c, hd, hd, below, none⟩ p hc hb
  exact ⟨s', hr, po⟩

/-- a step that changes nothing but the count of tokens -/
theorem post_pure {pre : List Ent} {e : Eff} {s s' : Shared} (hp : Hold pre s.heap) (hs : s'.heap = s.heap) (hg : s'.gens = s.gens) (hdr : s'.drawn = s.drawn) (ho : s'.os = s.os) (hn : e.n = s.heap.objs.size) (ht : s'.toks = e.t) (hpo : e.post = objs pre) (hnw : e.news = []) : PostOk pre e s s' := by
  have pp : ∀ l : List Ent, pair l (objs l) = l := by
    intro l
    induction l with
    | nil => rfl
    | cons a l ih => show (a.1, a.2) :: pair l (objs l) = _; rw [ih]
  have ll : ∀ l : List Ent, l.length = (objs l).length := by
    intro l
    induction l with
    | nil => rfl
    | cons a l ih => show l.length + 1 = (objs l).length + 1; rw [ih]
  refine ⟨by rw [hs, hn], ht, by rw [hpo]; exact ll pre, by rw [hpo, pp, hs]; exact hp, by rw [hnw]; exact fun _ h => (nomatch h), by rw [hnw]; exact fun _ h => (nomatch h), by rw [hnw]; exact List.nodup_nil, ⟨fun b _ _ => by rw [hs], Nat.le_of_eq (by rw [hs]), GLe.of_eq hg, hdr, ho, by rw [hs]⟩⟩

/-! contracts in lots -/
noncomputable def mkx (c : Code) (hd : Option Value) (cs : List Code) (n t : Nat) (pre : List (List Ent)) (e : XEff) : XS := ⟨c, some (hd, cs), some (n, t), pre, fun _ _ => e⟩
theorem mkx_valid {w : World} {prog : Program} {st : ST} {c : Code} {hd : Option Value} {cs : List Code} {n t : Nat} {pre : List (List Ent)} {e : XEff} (fuel orc : Nat) (ss : List XS) (V : ∀ y ∈ ss, y.Valid (model prog w) st) (len : adr e.post.flatten = adr pre.flatten)
    (h : ∀ p q, rep (closingX (e.post ++ e.news) (ex prog w.params st fuel c hd (mkB cs q) (D c) p (beginX pre n t orc ss))) =
      dia e.r e.n e.t (closingX (e.post ++ e.news) (ex prog w.params st fuel c hd (mkB cs q) (D c) p (beginX pre n t orc ss)))) :
    (mkx c hd cs n t pre e).Valid (model prog w) st := by
  intro hd' below p n' t' s hc ha hp
  have e1 := hc _ rfl
  obtain ⟨rfl, rfl⟩ := ha _ rfl
  injection e1 with e1 e2
  subst e1 e2
  obtain ⟨q, hq⟩ := mkB_of below
  obtain ⟨s', hr, po⟩ := runX_ok fuel orc ss V len (h p q) hp
  refine ⟨s', ?_, po⟩
  rw [← hq] at hr
  show Runs _ _ _ (denote table c) _ _ _ _
  rw [D_eq]; exact hr
theorem mkx_intro {w : World} {prog : Program} {st : ST} {c : Code} {hd : Option Value} {cs : List Code} {n t : Nat} {pre : List (List Ent)} {e : XEff}
    (H : ∀ below p s, below.map (·.1) = cs → PreOk st pre.flatten n t s → ∃ s', Returns (model prog w) ⟨c, hd, hd, below, none⟩ p s e.r s' ∧ XPost pre e s s') : (mkx c hd cs n t pre e).Valid (model prog w) st := by
  intro hd' below p n' t' s hc ha hp
  have e1 := hc _ rfl
  obtain ⟨rfl, rfl⟩ := ha _ rfl
  injection e1 with e1 e2
  subst e1
  exact H below p s e2 hp
theorem mkx_elim {w : World} {prog : Program} {st : ST} {c : Code} {hd : Option Value} {cs : List Code} {n t : Nat} {pre : List (List Ent)} {e : XEff} (V : (mkx c hd cs n t pre e).Valid (model prog w) st)
    (below : List (Code × Pos)) (p : Pos) {s : Shared} (h : below.map (·.1) = cs) (hp : PreOk st pre.flatten n t s) : ∃ s', Returns (model prog w) ⟨c, hd, hd, below, none⟩ p s e.r s' ∧ XPost pre e s s' :=
  V hd below p n t s (fun y hy => by cases hy; rw [h]) (fun a ha => by cases ha; exact ⟨rfl, rfl⟩) hp
/-- the same contract, its lots parted otherwise -/
theorem mkx_flat {w : World} {prog : Program} {st : ST} {c : Code} {hd : Option Value} {cs : List Code} {n t : Nat} {pre pre' : List (List Ent)} {e e' : XEff} (V : (mkx c hd cs n t pre e).Valid (model prog w) st)
    (h1 : pre'.flatten = pre.flatten) (h2 : e'.post.flatten = e.post.flatten) (h3 : e'.news.flatten = e.news.flatten) (hr : e'.r = e.r) (hn : e'.n = e.n) (ht : e'.t = e.t) : (mkx c hd cs n t pre' e').Valid (model prog w) st := by
  refine mkx_intro fun below p s hb hp => ?_
  obtain ⟨s', r, a, b, c, d, f, g, i, j⟩ := mkx_elim V below p hb (by rw [← h1]; exact hp)
  exact ⟨s', by rw [hr]; exact r, ⟨by rw [hn]; exact a, by rw [ht]; exact b, by rw [h1, h2]; exact c, by rw [h2]; exact d, by rw [h3]; exact f, by rw [h3]; exact g, by rw [h3]; exact i, by rw [h1]; exact j⟩⟩
theorem allx_nil {Q : XS → Prop} : ∀ y ∈ ([] : List XS), Q y := fun _ h => nomatch h
theorem allx_cons {Q : XS → Prop} {x : XS} {l : List XS} (h : Q x) (k : ∀ y ∈ l, Q y) : ∀ y ∈ x :: l, Q y := fun y hy => by
  rcases List.mem_cons.mp hy with rfl | hy
  · exact h
  · exact k y hy
end
end Mine

namespace Mine
section
open PySem PySem.W
noncomputable def app1 {α : Type} (f : Bool → α) (b : Bool) : α := f b
noncomputable def app2 {α : Type} (f : Bool → Bool → α) (b c : Bool) : α := f b c
theorem split1 {α : Type} {f g : Bool → α} (h0 : app1 f false = app1 g false) (h1 : app1 f true = app1 g true) (b : Bool) : f b = g b := by
  cases b
  · exact h0
  · exact h1
theorem split2 {α : Type} {f g : Bool → Bool → α} (h0 : app2 f false false = app2 g false false) (h1 : app2 f false true = app2 g false true) (h2 : app2 f true false = app2 g true false) (h3 : app2 f true true = app2 g true true) (b c : Bool) : f b c = g b c := by
  cases b <;> cases c
  · exact h0
  · exact h1
  · exact h2
  · exact h3
theorem lt3 : ∀ {n : Nat}, n < 3 → n = 0 ∨ n = 1 ∨ n = 2
  | 0, _ => .inl rfl
  | 1, _ => .inr (.inl rfl)
  | 2, _ => .inr (.inr rfl)
  | n + 3, h => absurd h (Nat.not_lt.mpr (Nat.le_add_left 3 n))
theorem lt4 : ∀ {n : Nat}, n < 4 → n = 0 ∨ n = 1 ∨ n = 2 ∨ n = 3
  | 0, _ => .inl rfl
  | 1, _ => .inr (.inl rfl)
  | 2, _ => .inr (.inr (.inl rfl))
  | 3, _ => .inr (.inr (.inr rfl))
  | n + 4, h => absurd h (Nat.not_lt.mpr (Nat.le_add_left 4 n))
theorem lt8 : ∀ {n : Nat}, n < 8 → n = 0 ∨ n = 1 ∨ n = 2 ∨ n = 3 ∨ n = 4 ∨ n = 5 ∨ n = 6 ∨ n = 7
  | 0, _ => .inl rfl
  | 1, _ => .inr (.inl rfl)
  | 2, _ => .inr (.inr (.inl rfl))
  | 3, _ => .inr (.inr (.inr (.inl rfl)))
  | 4, _ => .inr (.inr (.inr (.inr (.inl rfl))))
  | 5, _ => .inr (.inr (.inr (.inr (.inr (.inl rfl)))))
  | 6, _ => .inr (.inr (.inr (.inr (.inr (.inr (.inl rfl))))))
  | 7, _ => .inr (.inr (.inr (.inr (.inr (.inr (.inr rfl))))))
  | n + 8, h => absurd h (Nat.not_lt.mpr (Nat.le_add_left 8 n))
theorem in6 {n : Nat} (h : 1 ≤ n ∧ n ≤ 6) : n = 1 ∨ n = 2 ∨ n = 3 ∨ n = 4 ∨ n = 5 ∨ n = 6 := by
  rcases lt8 (Nat.lt_of_le_of_lt h.2 (by decide : 6 < 8)) with rfl | rfl | rfl | rfl | rfl | rfl | rfl | rfl
  · exact absurd h.1 (by decide)
  · exact .inl rfl
  · exact .inr (.inl rfl)
  · exact .inr (.inr (.inl rfl))
  · exact .inr (.inr (.inr (.inl rfl)))
  · exact .inr (.inr (.inr (.inr (.inl rfl))))
  · exact .inr (.inr (.inr (.inr (.inr rfl))))
  · exact absurd h.2 (by decide)
theorem m3 (n : Nat) : n % 3 = 0 ∨ n % 3 = 1 ∨ n % 3 = 2 := lt3 (Nat.mod_lt _ (by decide))
theorem or4 {a b c d : Prop} (h : ((a ∨ b) ∨ c) ∨ d) : a ∨ b ∨ c ∨ d := by
  rcases h with ((h | h) | h) | h
  · exact .inl h
  · exact .inr (.inl h)
  · exact .inr (.inr (.inl h))
  · exact .inr (.inr (.inr h))
end
end Mine

namespace Mine
section
open PySem PySem.W
/-! objects of the call, written out; K gives the tokens -/
noncomputable def de (P : Params) (name : String) (k : Tok) (v : Value) : DictEntry := ⟨reduceHash (P.strHash (Str.ofString name).cps), .str (Str.ofString name) k, v⟩
noncomputable def dictO (es : List DictEntry) (ep : Nat) : Obj := { cls := .type "dict", data := .dict ⟨es⟩ ep }
noncomputable def frameO (es : List DictEntry) (ep : Nat) : Obj := { cls := .type "frame", data := .dict ⟨es⟩ ep }
noncomputable def lstO (xs : Array Value) (ep : Nat) : Obj := { cls := .type "list", data := .seq xs ep }
noncomputable def tupO (xs : List Value) : Obj := { cls := .type "tuple", data := .seq ⟨xs⟩ }
noncomputable def cellO (v : Value) : Obj := { cls := .type "cell", data := .cell (some v) }
noncomputable def instO (c d : Addr) : Obj := { cls := .ref c, dict := some d }

/-- the def that an object is -/
noncomputable def fdOf (o : Obj) : FuncData := match o.data with | .func f => f | _ => default
noncomputable def bodyOf (f : FuncData) : List Stmt := match f.body with | .stmts b => b | _ => []
noncomputable def lamOf : Stmt → Arguments × Expr × Scope
  | .Assign _ (.Lambda a b s _) _ => (a, b, s)
  | _ => (default, default, default)

/-- the lambda of _law_lexer, lex its def -/
noncomputable def lamO (lex : FuncData) (cell tup code : Addr) (k : Tok) : Obj :=
  { cls := .type "function", data := .func { name := "<lambda>", qualname := "_law_lexer.<locals>.<lambda>", params := (lamOf ((bodyOf lex).getD 2 default)).1, body := .expr (lamOf ((bodyOf lex).getD 2 default)).2.1, scope := (lamOf ((bodyOf lex).getD 2 default)).2.2, globals := 3, closure := [("tape", cell)], defaults := .none, kwdefaults := .none, pyModule := lex.pyModule, code := .ref code, closureTuple := .ref tup, builtins := lex.builtins } }
noncomputable def lamC (a : Value) (k : Tok) (rest : List Value) : Obj := { cls := .type "code", data := .fields ⟨a :: .str "_law_lexer.<locals>.<lambda>" k :: rest⟩ }

/-- where a lexer's parts lie -/
structure Lx where
  L : Addr
  Ld : Addr
  PB : Addr
  S : Addr
  Sd : Addr
  SPB : Addr
  F : Addr
  C : Addr
  U : Addr
  E : Addr
  T : Addr
/-- the lexer's attributes -/
noncomputable def lexD (P : Params) (x : Lx) (K : Nat → Tok) (line : Int) (lk : Tok) : Obj := dictO [de P "lineno" (K 0) (.int line lk), de P "instream" (K 1) (.ref x.S), de P "whitespace" (K 2) (.str "\n\t\r " (K 3)), de P "pushback" (K 4) (.ref x.PB)] 4
noncomputable def srcD (P : Params) (x : Lx) (K : Nat → Tok) : Obj := dictO [de P "lineno" (K 5) (.int 1 (K 6)), de P "instream" (K 7) .none, de P "whitespace" (K 8) (.str "\n\t\r " (K 9)), de P "pushback" (K 10) (.ref x.SPB), de P "read" (K 11) (.ref x.F)] 5

/-- signs still to be read, each with its token; the list holds them from behind -/
noncomputable def tapeA : List (Nat × Tok) → Array Value
  | [] => #[]
  | x :: l => (tapeA l).push (.str ⟨#[x.1]⟩ x.2)
noncomputable def chV (c : Nat) (k : Tok) : Value := .str ⟨#[c]⟩ k

/-- what a read looks at -/
noncomputable def lexE (P : Params) (lex : FuncData) (x : Lx) (K : Nat → Tok) (a0 : Value) (more : List Value) (line : Int) (lk : Tok) (tape : Array Value) (ep : Nat) : List Ent :=
  [(x.L, instO 183 x.Ld), (x.Ld, lexD P x K line lk), (x.S, instO 183 x.Sd), (x.Sd, srcD P x K), (x.F, lamO lex x.E x.U x.C 0), (x.C, lamC a0 (K 12) more), (x.E, cellO (.ref x.T)), (x.T, lstO tape ep)]
end
end Mine

namespace Mine
section
open PySem PySem.W
noncomputable abbrev prog := PySem.Challenge.pw_rl0089_01

/-- a built-in that only makes a value -/
noncomputable def pureS (id : String) (args : List Value) (v : Nat → Value) (dt : Nat) : Spec := ⟨.builtin id ⟨args, []⟩, none, none, [], fun n t => ⟨.ok (.ret (v t)), n, t + dt, [], []⟩⟩

section
variable {w : World} {st : ST}
theorem pure_val {id : String} {B : Builtin} {args : List Value} {v : Value} (plain : plainId id = true) (entry : entryFor table id = some B) (g : Gives (B ⟨args, []⟩) (.val v)) : (pureS id args (fun _ => v) 0).Valid (model prog w) st :=
  valid_of_meets rfl plain entry g.meets fun _ _ _ _ _ hp => ⟨rfl, post_pure hp.own rfl rfl rfl rfl hp.size.symm hp.toks rfl rfl⟩
theorem pure_int {id : String} {B : Builtin} {args : List Value} {i : Int} (plain : plainId id = true) (entry : entryFor table id = some B) (g : Gives (B ⟨args, []⟩) (.int i)) : (pureS id args (fun t => .int i t) 1).Valid (model prog w) st :=
  valid_of_meets rfl plain entry g.meets fun _ n t s _ hp => ⟨by show _ = Except.ok _; rw [hp.toks], post_pure hp.own rfl rfl rfl rfl hp.size.symm (by show s.toks + 1 = t + 1; rw [hp.toks]) rfl rfl⟩
theorem pure_str {id : String} {B : Builtin} {args : List Value} {x : Str} (plain : plainId id = true) (entry : entryFor table id = some B) (g : Gives (B ⟨args, []⟩) (.str x)) (hx : x.length ≤ sizeLine) : (pureS id args (fun t => .str x t) 1).Valid (model prog w) st :=
  valid_of_meets rfl plain entry g.meets fun _ n t s _ hp => ⟨hx, by show _ = Except.ok _; rw [hp.toks], post_pure hp.own rfl rfl rfl rfl hp.size.symm (by show s.toks + 1 = t + 1; rw [hp.toks]) rfl rfl⟩

/-! strs -/
noncomputable abbrev eqS (x : Str) (a : Tok) (y : Str) (b : Tok) (r : Bool) : Spec := pureS "str.__eq__" [.str x a, .str y b] (fun _ => .bool r) 0
theorem eqV (x : Str) (a : Tok) (y : Str) (b : Tok) (r : Bool) (h : (x.cps.toList == y.cps.toList) = r) : (eqS x a y b r).Valid (model prog w) st :=
  pure_val (by decide +kernel) PySem.F.entry_str_eq (h ▸ gives_str_eq x y a b)
noncomputable abbrev inS (x : Str) (a : Tok) (y : Str) (b : Tok) (r : Bool) : Spec := pureS "str.__contains__" [.str x a, .str y b] (fun _ => .bool r) 0
theorem inV (x : Str) (a : Tok) (y : Str) (b : Tok) (r : Bool) (h : (!(PySem.Builtin.Str.occurrences x y 0 x.length 1).isEmpty) = r) : (inS x a y b r).Valid (model prog w) st :=
  pure_val (by decide +kernel) PySem.F.entry_str_contains (h ▸ gives_str_contains x y a b)
noncomputable abbrev addS (x : Str) (a : Tok) (y : Str) (b : Tok) : Spec := pureS "str.__add__" [.str x a, .str y b] (fun t => .str (x ++ y) t) 1
theorem addV (x : Str) (a : Tok) (y : Str) (b : Tok) (hx : (x.length == 0) = false) (hy : (y.length == 0) = false) (hz : (x ++ y).length ≤ sizeLine) : (addS x a y b).Valid (model prog w) st := by
  refine pure_str (by decide +kernel) PySem.F.entry_str_add ?_ hz
  have := gives_str_add x y a b
  rw [hx, hy] at this
  exact this

/-! lists -/
noncomputable abbrev lenS (a : Addr) (xs : Array Value) (ep k : Nat) : Spec := ⟨.builtin "len" ⟨[.ref a], []⟩, none, none, [(a, lstO xs ep)], fun n t => ⟨.ok (.ret (.int (Int.ofNat k) (t + 1))), n, t + 2, [lstO xs ep], []⟩⟩
theorem isList_of {h : Heap} {a : Addr} {xs : Array Value} {ep : Nat} (e : h.get? a = some (lstO xs ep)) : h.IsList a xs := ⟨_, e, rfl, ep, rfl⟩
theorem lenV (a : Addr) (xs : Array Value) (ep k : Nat) (h : xs.size = k) (hk : k ≤ sizeLine) : (lenS a xs ep k).Valid (model prog w) st := by
  subst h
  refine valid_of_body rfl plain_len entry_len fun A n t s _ hp => ?_
  have ho := hp.own (a, lstO xs ep) (List.mem_cons_self ..)
  refine wpAny_len_body_list (isList_of ho) (by have : sizeLine = 16777216 := rfl; omega) ⟨?_, post_pure hp.own rfl rfl rfl rfl hp.size.symm ?_ rfl rfl⟩
  · show Except.ok (Flow.ret (Value.int _ (s.toks + 1))) = _
    rw [hp.toks]; rfl
  · show s.toks + 1 + 1 = t + 2
    rw [hp.toks]

/-- one object of the ledger is turned -/
theorem post_update {a : Addr} {o o' : Obj} {e : Eff} {s s' : Shared} {f : Obj → Obj} (ho : s.heap.get? a = some o) (hs : s'.heap = s.heap.update a f) (hf : f o = o') (hfr : o'.isFreed = false) (hg : s'.gens = s.gens) (hdr : s'.drawn = s.drawn) (hos : s'.os = s.os) (hn : e.n = s.heap.objs.size) (ht : s'.toks = e.t) (hpo : e.post = [o']) (hnw : e.news = []) : PostOk [(a, o)] e s s' := by
  have hS : Heap.SameBut a s.heap (s.heap.update a f) := Heap.SameBut.update ..
  refine ⟨by rw [hs, hS.1, hn], ht, by rw [hpo]; rfl, ?_, by rw [hnw]; exact fun _ h => (nomatch h), by rw [hnw]; exact fun _ h => (nomatch h), by rw [hnw]; exact List.nodup_nil, ⟨fun b _ hA => ?_, Nat.le_of_eq (by rw [hs, hS.1]), GLe.of_eq hg, hdr, hos, ?_⟩⟩
  · rw [hpo, hs]
    intro q hq
    rcases List.mem_cons.mp hq with rfl | hq
    · show (s.heap.update a f).get? a = some o'
      subst hf
      exact Heap.get?_update_self f ho hfr
    · cases hq
  · rw [hs]
    refine Heap.get?_update_other _ _ ?_
    rintro rfl
    exact hA (List.mem_cons_self ..)
  · rw [hs]; cases s.heap; rfl

noncomputable abbrev popS (a : Addr) (xs : Array Value) (v : Value) (ep : Nat) : Spec := ⟨.builtin "list.pop" ⟨[.ref a], []⟩, none, none, [(a, lstO (xs.push v) ep)], fun n t => ⟨.ok (.ret v), n, t, [lstO xs (ep + 1)], []⟩⟩
theorem popV (a : Addr) (xs : Array Value) (v : Value) (ep : Nat) (h : xs.size < sizeLine) : (popS a xs v ep).Valid (model prog w) st := by
  refine valid_of_meets rfl (by decide +kernel) PySem.F.entry_list_pop (PySem.MeetsSeq.list_pop_last a (xs.push v) ep v (by simp) (by simp; exact h)) fun _ n t s _ hp => ?_
  have ho := hp.own (a, lstO (xs.push v) ep) (List.mem_cons_self ..)
  refine ⟨ho, rfl, post_update ho rfl ?_ rfl rfl rfl rfl hp.size.symm hp.toks rfl rfl⟩
  have e : (xs.push v).eraseIdxIfInBounds ((xs.push v).size - 1) = xs := by
    apply Array.ext'
    simp only [Array.eraseIdxIfInBounds, Array.size_push, Nat.add_sub_cancel, Nat.lt_succ_self, dite_true, Array.toList_eraseIdx, Array.toList_push]
    rw [← Array.length_toList, List.eraseIdx_append_of_length_le (Nat.le_refl _), Nat.sub_self]
    simp
  show Obj.mapSeq _ (lstO (xs.push v) ep) = lstO xs (ep + 1)
  unfold lstO Obj.mapSeq
  simp only [e]
  simp
end
end
end Mine

namespace Mine
section
open PySem PySem.W
noncomputable def forOf : Stmt → Expr × List Stmt
  | .For t _ b _ _ => (t, b)
  | _ => (default, [])
noncomputable def ifOf : Stmt → List Stmt × List Stmt
  | .If _ b o _ => (b, o)
  | _ => ([], [])
/-- the loops of get_token: A, and within it B (in quotes) and C (bare) -/
noncomputable def gtA (gt : FuncData) : Expr × List Stmt := forOf ((bodyOf gt).getD 3 default)
noncomputable def gtB (gt : FuncData) : Expr × List Stmt := forOf ((ifOf ((gtA gt).2.getD 1 default)).1.getD 0 default)
noncomputable def gtC (gt : FuncData) : Expr × List Stmt := forOf ((ifOf ((gtA gt).2.getD 1 default)).2.getD 2 default)
noncomputable def gtEnv (gt : FuncData) (F : Addr) : Env := { scope := gt.scope, locals := F, globals := 3, cells := [], qual := "_netrclex.get_token.<locals>.", func := some 173, code := .ref 172, frame := some F, builtins := 0 }
noncomputable def gtLoop (gt : FuncData) (F I : Addr) (x : Expr × List Stmt) : Code := .forLoop x.1 (.ref I) x.2 [] (gtEnv gt F)
/-- get_token's frame; fs: the name ch, once it is bound -/
noncomputable def gtF (P : Params) (x : Lx) (I : Addr) (g0 g1 g2 : Tok) (tok : Value) : Option (Tok × Value) → Obj
  | none => frameO [de P "self" g0 (.ref x.L), de P "token" g1 tok, de P "fiter" g2 (.ref I)] 3
  | some (kc, ch) => frameO [de P "self" g0 (.ref x.L), de P "token" g1 tok, de P "fiter" g2 (.ref I), de P "ch" kc ch] 4
noncomputable def mthO (x : Lx) : Obj := { cls := .type "method", data := .fields #[.ref 166, .ref x.L] }
noncomputable def itO (M : Addr) (k : Tok) : Obj := { cls := .type "callable_iterator", data := .fields #[.ref M, .str "" k, .bool false] }
noncomputable def itX : Obj := { cls := .type "callable_iterator", data := .fields #[.none, .none, .bool true] }
noncomputable abbrev nextC (I : Addr) : Code := .builtin "callable_iterator.__next__" ⟨[.ref I], []⟩
noncomputable abbrev readC (x : Lx) : Code := .call (.ref 166) ⟨[.ref x.L], []⟩
noncomputable def stopO (tup : Addr) : Obj := { cls := .type "StopIteration", data := .fields #[.ref tup, .none, .none, .none, .bool false, .none] }
/-- a text and a place that the loops of get_token share -/
structure Gx where
  x : Lx
  F : Addr
  M : Addr
  I : Addr
  K : Nat → Tok
  a0 : Value
  more : List Value
  g0 : Tok
  g1 : Tok
  g2 : Tok
  g3 : Tok
noncomputable def Gx.lex (g : Gx) (P : Params) (lx : FuncData) (line : Int) (lk : Tok) (cs : List (Nat × Tok)) (ep : Nat) : List Ent := lexE P lx g.x g.K g.a0 g.more line lk (tapeA cs) ep
/-- what the loops of get_token look at -/
noncomputable def Gx.all (g : Gx) (P : Params) (lx : FuncData) (line : Int) (lk : Tok) (cs : List (Nat × Tok)) (ep : Nat) (tok : Value) (fs : Option (Tok × Value)) : List Ent :=
  g.lex P lx line lk cs ep ++ [(g.F, gtF P g.x g.I g.g0 g.g1 g.g2 tok fs), (g.M, mthO g.x), (g.I, itO g.M g.g3)]
noncomputable def Gx.nxt (g : Gx) (P : Params) (lx : FuncData) (line : Int) (lk : Tok) (cs : List (Nat × Tok)) (ep : Nat) : List Ent :=
  g.lex P lx line lk cs ep ++ [(g.M, mthO g.x), (g.I, itO g.M g.g3)]
noncomputable def Gx.nxtO (g : Gx) (P : Params) (lx : FuncData) (cds : List Code) (c : Nat) (k : Tok) (r : List (Nat × Tok)) (n t : Nat) (line : Int) (lk : Tok) (ep : Nat) : Spec :=
  Mine.mk (nextC g.I) none cds n t (g.nxt P lx line lk ((c, k) :: r) ep) ⟨.ok (.ret (chV c k)), n + 2, t + 9, objs (g.nxt P lx line lk r (ep + 1)), []⟩
noncomputable def Gx.nxtN (g : Gx) (P : Params) (lx : FuncData) (cds : List Code) (k : Tok) (r : List (Nat × Tok)) (n t : Nat) (line : Int) (lk : Tok) (ep : Nat) : Spec :=
  Mine.mk (nextC g.I) none cds n t (g.nxt P lx line lk ((10, k) :: r) ep) ⟨.ok (.ret (chV 10 k)), n + 2, t + 14, objs (g.nxt P lx (line + 1) (t + 11) r (ep + 1)), []⟩
noncomputable def Gx.redO (g : Gx) (P : Params) (lx : FuncData) (cds : List Code) (c : Nat) (k : Tok) (r : List (Nat × Tok)) (n t : Nat) (line : Int) (lk : Tok) (ep : Nat) : Spec :=
  Mine.mk (readC g.x) none cds n t (g.lex P lx line lk ((c, k) :: r) ep) ⟨.ok (.ret (chV c k)), n + 2, t + 9, objs (g.lex P lx line lk r (ep + 1)), []⟩
noncomputable def Gx.redN (g : Gx) (P : Params) (lx : FuncData) (cds : List Code) (k : Tok) (r : List (Nat × Tok)) (n t : Nat) (line : Int) (lk : Tok) (ep : Nat) : Spec :=
  Mine.mk (readC g.x) none cds n t (g.lex P lx line lk ((10, k) :: r) ep) ⟨.ok (.ret (chV 10 k)), n + 2, t + 14, objs (g.lex P lx (line + 1) (t + 11) r (ep + 1)), []⟩
noncomputable def Gx.nxtE (g : Gx) (P : Params) (lx : FuncData) (cds : List Code) (n t : Nat) (line : Int) (lk : Tok) (ep : Nat) : Spec :=
  Mine.mk (nextC g.I) none cds n t (g.nxt P lx line lk [] ep) ⟨.error (.ref (n + 3)), n + 4, t + 10, objs (g.lex P lx line lk [] ep) ++ [mthO g.x, itX], [(n + 2, tupO []), (n + 3, stopO (n + 2))]⟩
end
end Mine

namespace Mine
section
open PySem PySem.W
/-- the world's two rows that are asked -/
noncomputable def Wf (w : World) (b1 b2 : Bool) : World := (w.withFollow "comprehension-iter-twice" b1).withFollow "special-get-raises" b2
noncomputable def stW (w : World) : ST := st w.params
noncomputable def lexF (w : World) : FuncData := fdOf (hd.o_245 w.params)
noncomputable def gtFd (w : World) : FuncData := fdOf (hd.o_224 w.params)
noncomputable def white (c : Nat) : Bool := c == 10 || c == 9 || c == 13 || c == 32
noncomputable def bump (c : Nat) (line : Int) : Int := if c = 10 then line + 1 else line


/-- below get_token: the law, or a list comprehension of the law -/
inductive Bs where
  | law (b : List Stmt) (e : Env)
  | comp (elt : Expr) (gens : List Comprehension) (sc : Scope) (ps : Pos) (d : Nat) (it acc : Value) (e' : Env) (b : List Stmt) (e : Env)
noncomputable def Bs.codes : Bs → List Code
  | .law b e => [.func b e, .builtin "claim.caller" {}]
  | .comp elt gens sc ps d it acc e' b e => [.compLoop (.ListComp elt gens sc ps) d it acc e', .func b e, .builtin "claim.caller" {}]

theorem tapeA_size : ∀ cs : List (Nat × Tok), (tapeA cs).size = cs.length
  | [] => rfl
  | (_, _) :: l => by show ((tapeA l).push _).size = _; rw [Array.size_push, tapeA_size l]; rfl

theorem len1 (c : Nat) : ((⟨#[c]⟩ : Str).length == 0) = false := rfl
end
end Mine

namespace Mine
section
open PySem PySem.W Sem
theorem entry_cin : entryFor table "callable_iterator.__next__" = some Builtin.«callable_iterator.__next__» := entryFor_of_tree (by kernel_rfl)

theorem wp_field {α : Type} {M : Model} {Γ : Ctx} {a : Addr} {i : Nat} {c : Value} {vs : List Value} {v : Value} {k : Value → Sem α} {Q E p s} (ho : s.heap.get? a = some { cls := c, data := .fields ⟨vs⟩ }) (hv : vs[i]? = some v) (h : wp M Γ (k v) Q E p s) : wp M Γ (field (.ref a) i >>= k) Q E p s := by
  rw [wp_bind']
  unfold field
  simp only [wp_bind']
  show wp M Γ (load a) _ E p s
  refine (wp_load_of M Γ _ p s ho _).mpr ?_
  show wp M Γ (match (⟨vs⟩ : Array Value)[i]? with | some x => Pure.pure x | none => PySem.unsupported "internal:no-such-field") _ _ _ _
  rw [show (⟨vs⟩ : Array Value)[i]? = some v by simpa using hv]
  exact h

theorem wp_eqBool_str {α : Type} {prog : Program} {w : World} {Γ : Ctx} {x y : Str} {a b : Tok} {k : Bool → Sem α} {vs : List Value} {Q E p s} (h : ∀ p', wp (model prog w) Γ (k (x == y)) Q E p' s) : wp (model prog w) Γ (holding vs (eqBool (.str x a) (.str y b)) >>= k) Q E p s := by
  rw [wp_bind', wp_holding]
  let A : Around := { handled := Γ.handled, depth := frameCount Γ.below + Γ.code.weight, frames := none, guards := none, units := Γ.units }
  have hA : Γ.In A := ⟨rfl, Nat.le_refl _, (fun _ h => nomatch h), (fun _ h => nomatch h), Nat.le_refl _⟩
  have := PyProof.Rows.eqBool_str (prog := prog) (w := w) (A := A) (E := fun _ _ => False) (s := s) (x := x) (y := y) (t := a) (u := b) (Q := fun r s' => r = (x == y) ∧ s' = s) ⟨rfl, rfl⟩
  refine wp_mono _ _ _ ?_ ?_ p s (this Γ p hA)
  · rintro r p' s' ⟨rfl, rfl⟩; exact h p'
  · intro _ _ _ h; cases h

/-- a bound method of a def is called out of a slot -/
theorem wp_outOfSlot {α : Type} {M : Model} {Γ : Ctx} {m f : Addr} {self : Value} {of : Obj} {fd : FuncData} {k : Value → Sem α} {Q E p s} (ho : s.heap.get? m = some { cls := .type "method", data := .fields ⟨[.ref f, self]⟩ }) (hf : s.heap.get? f = some of) (hd : of.data = .func fd)
    (h : wpCode M (Γ.enter (.call (.ref m) ⟨[], []⟩) none p) (fun r s' => ∃ v, r = .ok (.ret v) ∧ wp M Γ (k v) Q E p s') p s) : wp M Γ (callOutOfASlot (.ref m) >>= k) Q E p s := by
  rw [wp_bind']
  unfold callOutOfASlot
  rw [wp_bind']
  have hb : wp M Γ (borrowsExactly (.ref m)) (fun b p' s' => b = true ∧ p' = p ∧ s' = s) (fun _ _ _ => False) p s := by
    unfold borrowsExactly
    show wp M Γ (load m >>= _) _ _ _ _
    rw [wp_bind']
    refine (wp_load_of M Γ _ p s ho _).mpr ?_
    show wp M Γ (load f >>= _) _ _ _ _
    rw [wp_bind']
    refine (wp_load_of M Γ _ p s hf _).mpr ?_
    show wp M Γ (match of.data with | .func _ => Pure.pure true | _ => Pure.pure false) _ _ _ _
    rw [hd]
    exact ⟨rfl, rfl, rfl⟩
  refine wp_mono _ _ _ ?_ ?_ p s hb
  · rintro b p' s' ⟨rfl, rfl, rfl⟩
    show wp M Γ (callBorrowed (.ref m) []) _ _ _ _
    unfold callBorrowed
    rw [wp_call]
    refine wpCode_mono ?_ h
    rintro r s' ⟨v, rfl, h'⟩
    exact h'
  · intro _ _ _ h; cases h

theorem hold_sub {l l' : List Ent} {h : Heap} (H : Hold l h) (hs : ∀ q ∈ l', q ∈ l) : Hold l' h := fun q hq => H q (hs q hq)
theorem wp_run {w : World} {prog : Program} {st : ST} {c : Code} {hd : Option Value} {below : List (Code × Pos)} {tr : Sem PySem.Fin} {p : Pos} (fuel orc : Nat) (ss : List Mine.Spec) {pre : List Ent} {n t : Nat} {e : Eff} {R : Result → Shared → Prop}
    (V : ∀ y ∈ ss, y.Valid (model prog w) st) (len : pre.length = e.post.length)
    (h : rep (closing (pair pre e.post ++ e.news) (ex prog w.params st fuel c hd below tr p (begin_ pre n t orc ss))) =
      dia e.r e.n e.t (closing (pair pre e.post ++ e.news) (ex prog w.params st fuel c hd below tr p (begin_ pre n t orc ss))))
    {s : Shared} (hp : PreOk st pre n t s) (H : ∀ s', PostOk pre e s s' → R e.r s') : wp (model prog w) ⟨c, hd, hd, below, none⟩ tr (finPost (model prog w) ⟨c, hd, hd, below, none⟩ R) (fun e _ s' => R (.error e) s') p s := by
  obtain ⟨s', hr, po⟩ := run_ok fuel orc ss V len h hp
  exact (wp_iff_runs _ _ _ _ _ _).mpr ⟨_, s', hr, H s' po⟩


theorem den_builtin {id : String} {B : Builtin} {args : Args} (entry : entryFor table id = some B) : denote table (.builtin id args) = B args := by
  show (match entryFor table id with | some b => b args | none => PySem.unsupported _) = _
  rw [entry]
theorem slotArgs_one (slot : String) (v : Value) : slotArgs slot 0 ⟨[v], []⟩ = Pure.pure (v, []) := rfl

/-- the iterator is told the sentinel: it ends -/
theorem next_end {w : World} (codes : List Code) (n t n1 t1 : Nat) (κ τ : Tok) (Es : List Ent) (x : Lx) (M I : Addr) (hM : (M, mthO x) ∈ Es)
    (VR : (mk (.call (.ref M) ⟨[], []⟩) none (nextC I :: codes) n t Es ⟨.ok (.ret (.str "" τ)), n1, t1, objs Es, []⟩).Valid (model prog w) (stW w)) :
    (mk (nextC I) none codes n t (Es ++ [(I, itO M κ)]) ⟨.error (.ref (n1 + 1)), n1 + 2, t1, objs Es ++ [itX], [(n1, tupO []), (n1 + 1, stopO n1)]⟩).Valid (model prog w) (stW w) := by
  refine mk_intro fun below p s e2 hp => ?_
  have hI := hp.own (I, itO M κ) (List.mem_append_right _ (List.mem_singleton.mpr rfl))
  have hMm := hp.own (M, mthO x) (List.mem_append_left _ hM)
  have h166' : (stW w).get 166 = some (hd.o_217 w.params) := by kernel_rfl
  have h166 : s.heap.get? 166 = some (hd.o_217 w.params) := hp.stat 166 _ h166'
  have nd : (adr Es ++ [I]).Nodup := by have := hp.nodup; rw [adr_append] at this; exact this
  have hIE : I ∉ adr Es := fun hm => (List.nodup_append.mp nd).2.2 I hm I (List.mem_singleton.mpr rfl) rfl
  have preE : PreOk (stW w) Es n t s := ⟨hp.size, hp.toks, hold_sub hp.own (fun q hq => List.mem_append_left _ hq), (List.nodup_append.mp nd).1, hp.stat, fun q hq => hp.apart q (List.mem_append_left _ hq)⟩
  obtain ⟨s1, hr1, po1⟩ := mk_elim VR ((nextC I, p) :: below) p (by rw [← e2]; rfl) preE
  have hI1 : s1.heap.get? I = some (itO M κ) := by rw [po1.fra.keep I (Heap.lt_size hI) hIE]; exact hI
  have po1own : Hold Es s1.heap := by have := po1.own; rw [pair_objs] at this; exact this
  have stat1 : Stat (stW w) s1.heap := fun a o e => by
    rw [po1.fra.keep a (Heap.lt_size (hp.stat a o e))]
    · exact hp.stat a o e
    · intro hm
      obtain ⟨q, hq, rfl⟩ := List.mem_map.mp hm
      have := hp.apart q (List.mem_append_left _ hq)
      rw [e] at this; cases this
  have preT : PreOk (stW w) [(M, mthO x), (I, itO M κ)] n1 t1 s1 := by
    refine ⟨po1.size, po1.toks, ?_, ?_, stat1, ?_⟩
    · intro q hq
      rcases List.mem_cons.mp hq with rfl | hq
      · exact po1own _ hM
      · rw [List.mem_singleton.mp hq]; exact hI1
    · show [M, I].Nodup
      refine List.nodup_cons.mpr ⟨?_, List.nodup_cons.mpr ⟨List.not_mem_nil, List.nodup_nil⟩⟩
      intro hm
      rw [List.mem_singleton] at hm
      exact hIE (hm ▸ List.mem_map.mpr ⟨_, hM, rfl⟩)
    · intro q hq
      rcases List.mem_cons.mp hq with rfl | hq
      · exact hp.apart _ (List.mem_append_left _ hM)
      · rw [List.mem_singleton.mp hq]; exact hp.apart (I, itO M κ) (List.mem_append_right _ (List.mem_singleton.mpr rfl))
  have h : wpCode (model prog w) ⟨nextC I, none, none, below, none⟩ (fun r s' => r = .error (.ref (n1 + 1)) ∧ PostOk (Es ++ [(I, itO M κ)]) ⟨.error (.ref (n1 + 1)), n1 + 2, t1, objs Es ++ [itX], [(n1, tupO []), (n1 + 1, stopO n1)]⟩ s s') p s := by
    refine (wpCode_iff_wp _ _ _ _ _).mpr ?_
    rw [show (model prog w).den (Ctx.code ⟨nextC I, none, none, below, none⟩) = _ from den_builtin entry_cin]
    unfold Builtin.«callable_iterator.__next__»
    rw [slotArgs_one, pure_bind]
    refine wp_field hI rfl ?_
    rw [if_neg (by decide)]
    refine wp_field hI rfl ?_
    rw [wp_bind', wp_attempt]
    have := wp_outOfSlot (α := Value) (M := model prog w) (Γ := ⟨nextC I, none, none, below, none⟩) (m := M) (f := 166) (self := .ref x.L) (k := fun v => Pure.pure v) (p := p) (s := s) (Q := fun v p' s' => v = .str "" τ ∧ p' = p ∧ s' = s1) (E := fun _ _ _ => False) hMm h166 rfl ⟨_, s1, hr1, _, rfl, rfl, rfl, rfl⟩
    rw [_root_.bind_pure] at this
    refine wp_mono _ _ _ ?_ ?_ p s this
    · rintro v p' s' ⟨rfl, rfl, rfl⟩
      show wp _ _ (field (.ref I) 2 >>= _) _ _ _ _
      refine wp_field hI1 rfl ?_
      show wp _ _ (field (.ref I) 1 >>= _) _ _ _ _
      refine wp_field hI1 rfl ?_
      refine wp_eqBool_str fun p' => ?_
      refine wp_run (st := stW w) (pre := [(M, mthO x), (I, itO M κ)]) (n := n1) (t := t1) (e := ⟨.error (.ref (n1 + 1)), n1 + 2, t1, [mthO x, itX], [(n1, tupO []), (n1 + 1, stopO n1)]⟩) 100 77826970189555178135355522 [] all_nil rfl ?_ preT ?_
      · kernel_rfl
      · intro s2 po2
        refine ⟨rfl, ?_⟩
        have hM1 : M ∈ adr Es := List.mem_map.mpr ⟨_, hM, rfl⟩
        have own2 : Hold [(M, mthO x), (I, itX)] s2.heap := po2.own
        refine ⟨po2.size, po2.toks, ?_, ?_, po2.news, ?_, po2.nodup, ⟨fun b hb hA => ?_, Nat.le_trans po1.fra.mono po2.fra.mono, po2.fra.gens.trans po1.fra.gens, po2.fra.drawn.trans po1.fra.drawn, po2.fra.os.trans po1.fra.os, po2.fra.life.trans po1.fra.life⟩⟩
        · rw [List.length_append, List.length_append, ← objs_length]; rfl
        · rw [pair_append _ _ (objs_length Es), pair_objs]
          intro q hq
          rcases List.mem_append.mp hq with hq | hq
          · by_cases hqM : q.1 = M
            · have h1 := po1own q hq
              have h2 := own2 (M, mthO x) (List.mem_cons_self ..)
              have h3 := po1own (M, mthO x) hM
              rw [hqM] at h1 ⊢
              rw [h3] at h1
              rw [h2]; exact h1
            · rw [po2.fra.keep q.1 (Heap.lt_size (po1own q hq))]
              · exact po1own q hq
              · intro hm
                rcases List.mem_cons.mp hm with hm | hm
                · exact hqM hm
                · have hm : q.1 = I := List.mem_singleton.mp hm
                  exact hIE (hm ▸ List.mem_map.mpr ⟨q, hq, rfl⟩)
          · have : q = (I, itX) := List.mem_singleton.mp hq
            subst this
            exact own2 _ (List.mem_cons_of_mem _ (List.mem_cons_self ..))
        · intro q hq
          exact Nat.le_trans po1.fra.mono (po2.fresh q hq)
        · have hA' : b ∉ adr Es ∧ b ≠ I := by
            rw [adr_append] at hA
            exact ⟨fun h => hA (List.mem_append_left _ h), fun h => hA (List.mem_append_right _ (by rw [h]; exact List.mem_singleton.mpr rfl))⟩
          rw [po2.fra.keep b (Nat.lt_of_lt_of_le hb po1.fra.mono), po1.fra.keep b hb hA'.1]
          intro hm
          rcases List.mem_cons.mp hm with hm | hm
          · exact hA'.1 (hm ▸ hM1)
          · exact hA'.2 (List.mem_singleton.mp hm)
    · intro _ _ _ h; cases h
  obtain ⟨r, s', hr, rfl, po⟩ := h
  exact ⟨s', hr, po⟩
end
end Mine

namespace Mine
section
open PySem PySem.W Sem
theorem valid_of_wp {w : World} {prog : Program} {st : ST} {x : Mine.Spec} {id : String} {B : Builtin} {args : Args} (hc : x.c = .builtin id args) (entry : entryFor table id = some B)
    (H : ∀ hd below p n t s, (∀ y, x.ctx = some y → (hd, below.map (·.1)) = y) → (∀ a, x.at? = some a → n = a.1 ∧ t = a.2) → PreOk st x.pre n t s →
      wp (model prog w) ⟨x.c, hd, hd, below, none⟩ (B args) (finPost (model prog w) ⟨x.c, hd, hd, below, none⟩ (fun r s' => r = (x.eff n t).r ∧ PostOk x.pre (x.eff n t) s s')) (fun e _ s' => (.error e : Result) = (x.eff n t).r ∧ PostOk x.pre (x.eff n t) s s') p s) : x.Valid (model prog w) st := by
  intro hd below p n t s h1 h2 hp
  have h := H hd below p n t s h1 h2 hp
  have hd' : (model prog w).den (Ctx.code ⟨x.c, hd, hd, below, none⟩) = B args := by
    show denote table x.c = B args
    rw [hc]; exact den_builtin entry
  rw [← hd'] at h
  obtain ⟨r, s', hr, rfl, po⟩ := (wpCode_iff_wp _ _ _ _ _).mpr h
  exact ⟨s', hr, po⟩

/-- an iterator over a text -/
noncomputable def sitO (x : Str) (k : Tok) (i : Nat) : Obj := { cls := .type "str_ascii_iterator", data := .fields ⟨[.str x k, .int (Int.ofNat i) 0]⟩ }
noncomputable def sitX (i : Nat) : Obj := { cls := .type "str_ascii_iterator", data := .fields ⟨[.none, .int (Int.ofNat i) 0]⟩ }
noncomputable def ascii (x : Str) : Bool := x.cps.all (· < 128)
noncomputable def siterS (x : Str) (k : Tok) : Mine.Spec := ⟨.builtin "str.__iter__" ⟨[.str x k], []⟩, none, none, [], fun n t => ⟨.ok (.ret (.ref n)), n + 1, t, [], [(n, sitO x k 0)]⟩⟩
noncomputable def snextS (a : Addr) (x : Str) (k : Tok) (i c : Nat) : Mine.Spec := ⟨.builtin "str_ascii_iterator.__next__" ⟨[.ref a], []⟩, none, none, [(a, sitO x k i)], fun n t => ⟨.ok (.ret (chV c t)), n, t + 1, [sitO x k (i + 1)], []⟩⟩
noncomputable def sendS (cds : List Code) (a : Addr) (x : Str) (k : Tok) (i : Nat) : Mine.Spec := ⟨.builtin "str_ascii_iterator.__next__" ⟨[.ref a], []⟩, some (none, cds), none, [(a, sitO x k i)], fun n t => ⟨.error (.ref (n + 1)), n + 2, t, [sitX i], [(n, tupO []), (n + 1, stopO n)]⟩⟩
section
variable {w : World}
theorem siterV (x : Str) (k : Tok) (h : ascii x = true) : (siterS x k).Valid (model prog w) (stW w) := by
  have key : (⟨.builtin "str.__iter__" ⟨[.str x k], []⟩, none, none, [], fun n t => ⟨.ok (.ret (.ref n)), n + 1, t, [], [(n, { cls := .type (if (true && x.cps.all (· < 128)) = true then "str_ascii_iterator" else "str_iterator"), data := .fields ⟨[.str x k, .int (Int.ofNat 0) 0]⟩ })]⟩⟩ : Mine.Spec).Valid (model prog w) (stW w) :=
    valid_of_ex fun hd below p n t _ _ => ⟨100, 1, [], all_nil, rfl, by kernel_rfl⟩
  have e : (if (true && x.cps.all (· < 128)) = true then "str_ascii_iterator" else "str_iterator") = "str_ascii_iterator" := by
    unfold ascii at h
    rw [h]; rfl
  simp only [e] at key
  exact key

theorem entry_san : entryFor table "str_ascii_iterator.__next__" = some Builtin.«str_ascii_iterator.__next__» := entryFor_of_tree (by kernel_rfl)
theorem snextV (a : Addr) (x : Str) (k : Tok) (i c : Nat) (h : x.cps.toList[i]? = some c) : (snextS a x k i c).Valid (model prog w) (stW w) := by
  refine valid_of_wp (id := "str_ascii_iterator.__next__") (args := ⟨[.ref a], []⟩) rfl entry_san fun hd below p n t s _ _ hp => ?_
  have ho := hp.own (a, sitO x k i) (List.mem_cons_self ..)
  show wp _ _ (slotArgs "__next__" 0 ⟨[.ref a], []⟩ >>= _) _ _ _ _
  rw [slotArgs_one, pure_bind]
  show wp _ _ (field (.ref a) 0 >>= _) _ _ _ _
  refine wp_field ho rfl ?_
  show wp _ _ (field (.ref a) 1 >>= _) _ _ _ _
  refine wp_field ho rfl ?_
  show wp _ _ (match x.cps[i]? with | some c => _ | none => _) _ _ _ _
  rw [show x.cps[i]? = some c by rw [← Array.getElem?_toList]; exact h]
  refine wp_run (st := stW w) (pre := [(a, sitO x k i)]) (n := n) (t := t) (e := ⟨.ok (.ret (chV c t)), n, t + 1, [sitO x k (i + 1)], []⟩) 100 16513 [] all_nil rfl ?_ hp fun s' po => ⟨rfl, po⟩
  kernel_rfl
theorem sendV (cds : List Code) (a : Addr) (x : Str) (k : Tok) (i : Nat) (h : x.cps.toList[i]? = none) : (sendS cds a x k i).Valid (model prog w) (stW w) := by
  refine valid_of_wp (id := "str_ascii_iterator.__next__") (args := ⟨[.ref a], []⟩) rfl entry_san fun hd below p n t s hc _ hp => ?_
  obtain rfl : hd = none := (Prod.mk.inj (hc _ rfl)).1
  have ho := hp.own (a, sitO x k i) (List.mem_cons_self ..)
  show wp _ _ (slotArgs "__next__" 0 ⟨[.ref a], []⟩ >>= _) _ _ _ _
  rw [slotArgs_one, pure_bind]
  show wp _ _ (field (.ref a) 0 >>= _) _ _ _ _
  refine wp_field ho rfl ?_
  show wp _ _ (field (.ref a) 1 >>= _) _ _ _ _
  refine wp_field ho rfl ?_
  show wp _ _ (match x.cps[i]? with | some c => _ | none => _) _ _ _ _
  rw [show x.cps[i]? = none by rw [← Array.getElem?_toList]; exact h]
  refine wp_run (st := stW w) (pre := [(a, sitO x k i)]) (n := n) (t := t) (e := ⟨.error (.ref (n + 1)), n + 2, t, [sitX i], [(n, tupO []), (n + 1, stopO n)]⟩) 100 809517185 [] all_nil rfl ?_ hp fun s' po => ⟨rfl, po⟩
  kernel_rfl
end
end
end Mine

namespace Mine
section
open PySem PySem.W Sem
/-- what an iterator hands on, as a flow -/
noncomputable def flowN : Option Value → Flow
  | some v => .ret v
  | none => .next
theorem wp_next {M : Model} {Γ : Ctx} {it : Value} {f : Flow} {p : Pos} {s s' : Shared} (h : Runs M Γ p ((PySem.W.Fast.tw9404975358583537561 it).bind fun o => .pure (.done (flowN o))) [] s (.ret (.ok f)) s') :
    wp M Γ (pyNext it) (fun o _ s'' => flowN o = f ∧ s'' = s') (fun _ _ _ => False) p s := by
  have e : pyNext it = PySem.W.Fast.tw9404975358583537561 it := congrFun PySem.W.Fast.te9404975358583537561 it
  rw [e]
  have := (wp_iff_runs M Γ _ (fun r s'' => r = .ok f ∧ s'' = s') p s).mpr ⟨_, s', h, rfl, rfl⟩
  rw [Sem.wp_bind] at this
  refine wp_mono _ _ _ ?_ ?_ p s this
  · rintro o p' s'' ⟨h1, h2⟩
    injection h1 with h1
    exact ⟨h1, h2⟩
  · rintro _ _ _ ⟨h1, _⟩; cases h1

theorem wp_updateSeq {α : Type} {M : Model} {Γ : Ctx} {a : Addr} {xs : Array Value} {ep : Nat} {f : Array Value → Array Value} {k : Unit → Sem α} {Q E p s} (ho : s.heap.get? a = some (lstO xs ep)) (hz : (f xs).size ≤ sizeLine)
    (h : wp M Γ (k ()) Q E p { s with heap := s.heap.update a (Obj.mapSeq f) }) : wp M Γ (updateSeq a f >>= k) Q E p s := by
  rw [wp_bind']
  unfold updateSeq
  rw [wp_bind']
  refine (wp_load_of M Γ _ p s ho _).mpr ?_
  show wp M Γ (update a (Obj.mapSeq f) >>= fun _ => lookBehind a) _ _ _ _
  rw [wp_bind']
  show wp M Γ (.update a none (Obj.mapSeq f) .pure) _ _ _ _
  rw [wp_update]
  refine ⟨by rw [ho]; rfl, ?_⟩
  show wp M Γ (lookBehind a) _ _ _ _
  unfold lookBehind
  rw [wp_bind']
  have ho' : (s.heap.update a (Obj.mapSeq f)).get? a = some (Obj.mapSeq f (lstO xs ep)) := Heap.get?_update_self _ ho rfl
  show wp M Γ (.load a none .pure) _ _ _ _
  rw [wp_load]
  refine ⟨_, ho', ?_⟩
  have : (Obj.mapSeq f (lstO xs ep)).data.pastItsLine = none := by
    show (if (f xs).size > sizeLine + 1 then some "sequence:memory" else none) = none
    rw [if_neg (by omega)]
  rw [wp_pure]
  rw [this]
  exact h

theorem wpCode_builtin {prog : Program} {w : World} {id : String} {B : Builtin} {args : Args} {hd : Option Value} {below : List (Code × Pos)} {R : Result → Shared → Prop} {p : Pos} {s : Shared} (entry : entryFor table id = some B)
    (h : wp (model prog w) ⟨.builtin id args, hd, hd, below, none⟩ (B args) (finPost (model prog w) ⟨.builtin id args, hd, hd, below, none⟩ R) (fun e _ s' => R (.error e) s') p s) : wpCode (model prog w) ⟨.builtin id args, hd, hd, below, none⟩ R p s := by
  refine (wpCode_iff_wp _ _ _ _ _).mpr ?_
  have hd' : (model prog w).den (Ctx.code ⟨.builtin id args, hd, hd, below, none⟩) = B args := den_builtin entry
  rw [hd']
  exact h

/-- signs with their tokens, from k on -/
noncomputable def chs : List Nat → Tok → List Value
  | [], _ => []
  | c :: l, k => chV c k :: chs l (k + 1)

noncomputable abbrev extC (l it : Addr) (res : Value) : Code := .builtin "list.extend.loop" ⟨[.ref l, .ref it, res], []⟩

/-- list.extend.loop over a text -/
theorem extV {w : World} (cds : List Code) (l it : Addr) (res : Value) (x : Str) (k : Tok) : ∀ (rest : List Nat) (i : Nat) (xs : Array Value) (ep n t : Nat), x.cps.toList.drop i = rest → xs.size + rest.length < 1000000 →
    (mk (extC l it res) none cds n t [(l, lstO xs ep), (it, sitO x k i)] ⟨.ok (.ret res), n + 2, t + rest.length, [lstO (xs ++ (chs rest t).toArray) (ep + rest.length), sitX (i + rest.length)], []⟩).Valid (model prog w) (stW w) := by
  intro rest
  induction rest with
  | nil =>
    intro i xs ep n t hx hz
    have hnone : x.cps.toList[i]? = none := by
      rw [List.getElem?_eq_none_iff]
      exact List.drop_eq_nil_iff.mp hx
    refine mk_intro fun below p s e2 hp => ?_
    obtain ⟨s1, hr, po⟩ := run_ok (w := w) (prog := prog) (st := stW w) (c := extC l it res) (hd := none) (below := below) (tr := (PySem.W.Fast.tw9404975358583537561 (.ref it)).bind fun o => .pure (.done (flowN o))) (p := p) 60 1130435931308034
      [sendS (extC l it res :: below.map (·.1)) it x k i] (all_cons (sendV _ _ _ _ _ hnone) all_nil) (pre := [(l, lstO xs ep), (it, sitO x k i)]) (n := n) (t := t) (e := ⟨.ok .next, n + 2, t, [lstO xs ep, sitX i], []⟩) rfl (by kernel_rfl) hp
    have hw := wp_next hr
    have key : wpCode (model prog w) ⟨extC l it res, none, none, below, none⟩ (fun r s' => r = .ok (.ret res) ∧ s' = s1) p s := by
      refine wpCode_builtin F.entry_extend_loop ?_
      show wp _ _ (pyNext (.ref it) >>= _) _ _ _ _
      rw [wp_bind']
      refine wp_mono _ _ _ ?_ ?_ p s hw
      · rintro o p' s' ⟨h1, rfl⟩
        cases o with
        | some v => cases h1
        | none => exact ⟨rfl, rfl⟩
      · intro _ _ _ h; cases h
    obtain ⟨r, s', hr', rfl, rfl⟩ := key
    refine ⟨s', hr', ?_⟩
    have e1 : xs ++ (chs [] t).toArray = xs := by simp [chs]
    rw [e1]
    exact ⟨po.size, po.toks, rfl, po.own, po.news, po.fresh, po.nodup, po.fra⟩
  | cons c rest ih =>
    intro i xs ep n t hx hz
    have hsome : x.cps.toList[i]? = some c := by
      have := congrArg (fun l => l[0]?) hx
      simpa using this
    have hdrop : x.cps.toList.drop (i + 1) = rest := by
      have := congrArg List.tail hx
      simpa using this
    have hz' : xs.size + (rest.length + 1) < 1000000 := hz
    have V := ih (i + 1) (xs.push (chV c t)) (ep + 1) n (t + 1) hdrop (by rw [Array.size_push]; omega)
    refine mk_intro fun below p s e2 hp => ?_
    obtain ⟨s1, hr, po⟩ := run_ok (w := w) (prog := prog) (st := stW w) (c := extC l it res) (hd := none) (below := below) (tr := (PySem.W.Fast.tw9404975358583537561 (.ref it)).bind fun o => .pure (.done (flowN o))) (p := p) 60 8830991761410
      [snextS it x k i c] (all_cons (snextV _ _ _ _ _ hsome) all_nil) (pre := [(l, lstO xs ep), (it, sitO x k i)]) (n := n) (t := t) (e := ⟨.ok (.ret (chV c t)), n, t + 1, [lstO xs ep, sitO x k (i + 1)], []⟩) rfl (by kernel_rfl) hp
    have hw := wp_next hr
    have hl1 : s1.heap.get? l = some (lstO xs ep) := po.own (l, lstO xs ep) (List.mem_cons_self ..)
    have hi1 : s1.heap.get? it = some (sitO x k (i + 1)) := po.own (it, sitO x k (i + 1)) (List.mem_cons_of_mem _ (List.mem_cons_self ..))
    have hm : Obj.mapSeq (fun a => a.push (chV c t)) (lstO xs ep) = lstO (xs.push (chV c t)) (ep + 1) := by
      unfold lstO Obj.mapSeq
      simp
    have po2 : PostOk [(l, lstO xs ep)] ⟨.ok .next, n, t + 1, [lstO (xs.push (chV c t)) (ep + 1)], []⟩ s1 { s1 with heap := s1.heap.update l (Obj.mapSeq fun a => a.push (chV c t)) } :=
      post_update hl1 rfl hm rfl rfl rfl rfl po.size.symm po.toks rfl rfl
    have hne : l ≠ it := by
      have := hp.nodup
      intro h
      subst h
      exact (List.nodup_cons.mp this).1 (List.mem_cons_self ..)
    have hp2 : PreOk (stW w) [(l, lstO (xs.push (chV c t)) (ep + 1)), (it, sitO x k (i + 1))] n (t + 1) { s1 with heap := s1.heap.update l (Obj.mapSeq fun a => a.push (chV c t)) } := by
      refine ⟨po2.size, po2.toks, ?_, hp.nodup, fun a o e => ?_, ?_⟩
      · intro q hq
        rcases List.mem_cons.mp hq with rfl | hq
        · exact po2.own _ (List.mem_cons_self ..)
        · rw [List.mem_singleton.mp hq]
          show (s1.heap.update l _).get? it = _
          rw [Heap.get?_update_other _ _ hne]; exact hi1
      · have ha : s1.heap.get? a = some o := by
          rw [po.fra.keep a (Heap.lt_size (hp.stat a o e))]
          · exact hp.stat a o e
          · intro hm
            obtain ⟨q, hq, rfl⟩ := List.mem_map.mp hm
            have := hp.apart q hq
            rw [e] at this; cases this
        show (s1.heap.update l _).get? a = _
        rw [Heap.get?_update_other]
        · exact ha
        · rintro rfl
          have := hp.apart (l, lstO xs ep) (List.mem_cons_self ..)
          rw [e] at this; cases this
      · intro q hq
        rcases List.mem_cons.mp hq with rfl | hq
        · exact hp.apart (l, lstO xs ep) (List.mem_cons_self ..)
        · rw [List.mem_singleton.mp hq]
          exact hp.apart (it, sitO x k i) (List.mem_cons_of_mem _ (List.mem_cons_self ..))
    have key : wpCode (model prog w) ⟨extC l it res, none, none, below, none⟩ (fun r s' => r = .ok (.ret res) ∧ PostOk [(l, lstO (xs.push (chV c t)) (ep + 1)), (it, sitO x k (i + 1))] ⟨.ok (.ret res), n + 2, t + 1 + rest.length, [lstO (xs.push (chV c t) ++ (chs rest (t + 1)).toArray) (ep + 1 + rest.length), sitX (i + 1 + rest.length)], []⟩ { s1 with heap := s1.heap.update l (Obj.mapSeq fun a => a.push (chV c t)) } s') p s := by
      refine wpCode_builtin F.entry_extend_loop ?_
      show wp _ _ (pyNext (.ref it) >>= _) _ _ _ _
      rw [wp_bind']
      refine wp_mono _ _ _ ?_ ?_ p s hw
      · rintro o p' s' ⟨h1, rfl⟩
        cases o with
        | none => cases h1
        | some v =>
          injection h1 with h1
          subst h1
          show wp _ _ (updateSeq l (fun a => a.push (chV c t)) >>= _) _ _ _ _
          refine wp_updateSeq hl1 (by rw [Array.size_push]; have : sizeLine = 16777216 := rfl; omega) ?_
          obtain ⟨s', hr', po'⟩ := mk_elim V below p' e2 hp2
          exact ⟨plainId_quiet F.plain_extend_loop _, _, s', hr', rfl, po'⟩
      · intro _ _ _ h; cases h
    obtain ⟨r, s', hr', rfl, po3⟩ := key
    refine ⟨s', hr', ?_⟩
    have e1 : xs ++ (chs (c :: rest) t).toArray = xs.push (chV c t) ++ (chs rest (t + 1)).toArray := by
      apply Array.ext'
      simp [chs]
    refine ⟨po3.size, by rw [po3.toks]; show t + 1 + rest.length = t + (rest.length + 1); omega, rfl, ?_, po3.news, (fun _ h => nomatch h), List.nodup_nil, ⟨fun b hb hA => ?_, ?_, ?_, ?_, ?_, ?_⟩⟩
    · have := po3.own
      show Hold [(l, lstO (xs ++ (chs (c :: rest) t).toArray) (ep + (rest.length + 1))), (it, sitX (i + (rest.length + 1)))] s'.heap
      rw [e1, show ep + (rest.length + 1) = ep + 1 + rest.length by omega, show i + (rest.length + 1) = i + 1 + rest.length by omega]
      exact this
    · rw [po3.fra.keep b (Nat.lt_of_lt_of_le hb (Nat.le_trans po.fra.mono po2.fra.mono)) hA, po2.fra.keep b (Nat.lt_of_lt_of_le hb po.fra.mono) (fun h => hA (by rw [List.mem_singleton.mp h]; exact List.mem_cons_self ..)), po.fra.keep b hb hA]
    · exact Nat.le_trans po.fra.mono (Nat.le_trans po2.fra.mono po3.fra.mono)
    · exact po3.fra.gens.trans (po2.fra.gens.trans po.fra.gens)
    · exact po3.fra.drawn.trans (po2.fra.drawn.trans po.fra.drawn)
    · exact po3.fra.os.trans (po2.fra.os.trans po.fra.os)
    · exact po3.fra.life.trans (po2.fra.life.trans po.fra.life)
end
end Mine

namespace Mine
section
open PySem PySem.W Sem
/-- a step that makes one new object -/
theorem post_push {pre : List Ent} {e : Eff} {s s' : Shared} {n : Nat} {o : Obj} (hp : Hold pre s.heap) (hn0 : s.heap.objs.size = n) (ho' : o.isFreed = false) (hs : s'.heap = s.heap.push o) (hg : s'.gens = s.gens) (hdr : s'.drawn = s.drawn) (ho : s'.os = s.os) (hn : e.n = n + 1) (ht : s'.toks = e.t) (hpo : e.post = objs pre) (hnw : e.news = [(n, o)]) : PostOk pre e s s' := by
  refine ⟨by rw [hs, Heap.size_push, hn, hn0], ht, by rw [hpo]; exact objs_length pre, ?_, ?_, ?_, ?_, ⟨fun b hb _ => ?_, ?_, GLe.of_eq hg, hdr, ho, ?_⟩⟩
  · rw [hpo, pair_objs, hs]
    intro q hq
    have := hp q hq
    exact Heap.get?_push_of_some _ this
  · rw [hnw, hs]
    intro q hq
    rw [List.mem_singleton.mp hq, ← hn0]
    exact Heap.get?_push_size _ ho'
  · rw [hnw]
    intro q hq
    rw [List.mem_singleton.mp hq]; exact Nat.le_of_eq hn0
  · rw [hnw]; simp [adr]
  · rw [hs]; exact Heap.get?_push_ne _ _ _ (Nat.ne_of_lt hb)
  · rw [hs, Heap.size_push]; exact Nat.le_succ _
  · rw [hs]; cases s.heap; rfl

noncomputable def slcO (l u s : Value) : Obj := { cls := .type "slice", data := .fields ⟨[l, u, s]⟩ }
noncomputable abbrev lslS (l sl : Addr) (xs : Array Value) (ep : Nat) (vl vu vs : Value) (ys : Array Value) : Mine.Spec := ⟨.builtin "list.__getitem__" ⟨[.ref l, .ref sl], []⟩, none, none, [(l, lstO xs ep), (sl, slcO vl vu vs)], fun n t => ⟨.ok (.ret (.ref n)), n + 1, t, [lstO xs ep, slcO vl vu vs], [(n, lstO ys 0)]⟩⟩
theorem lslV {w : World} {st : ST} (l sl : Addr) (xs : Array Value) (ep : Nat) (vl vu vs : Value) (ys : Array Value) {lo hi sp : Option Int} (pl : IsPart vl lo) (pu : IsPart vu hi) (ps : IsPart vs sp) (h0 : sp ≠ some 0) (hy : slicePick xs lo hi sp = ys) (hsz : xs.size ≤ sizeLine) : (lslS l sl xs ep vl vu vs ys).Valid (model prog w) st := by
  refine valid_of_body rfl (by decide +kernel) entry_list_getitem fun A n t s _ hp => ?_
  have ho := hp.own (l, lstO xs ep) (List.mem_cons_self ..)
  have hos : s.heap.get? sl = some (slcO vl vu vs) := hp.own (sl, slcO vl vu vs) (List.mem_cons_of_mem _ (List.mem_cons_self ..))
  have hTs : s.TypeIs (.ref sl) "slice" := ⟨_, hos, rfl⟩
  show wpAny _ _ (Builtin.List.listSubscript? (.ref sl) >>= _) _ _ s
  refine wpAny_bind ?_
  · unfold Builtin.List.listSubscript?
    refine wpAny_bind (wpAny_specialOf hTs slice_no_index ?_)
    simp only [Option.isNone_none, if_true]
    refine wpAny_pure ?_
    show wpAny _ _ (typeOf (.ref sl) >>= _) _ _ s
    refine wpAny_bind (wpAny_typeOf hTs ?_)
    rw [if_neg (by decide)]
    rw [listSliceParts_eq]
    have hstep : ¬ ((rawPart sp == rawInt 0) = true) := by
      cases sp with
      | none => exact Bool.false_ne_true
      | some c =>
        intro hh
        have : c = 0 := by simpa [rawPart, rawInt] using hh
        exact h0 (by rw [this])
    refine wpAny_bind (wpAny_bind (wpAny_field hos rfl (x := vs) rfl (wpAny_bind (wpAny_listPart ps ?_))))
    rw [if_neg hstep]
    refine wpAny_bind (wpAny_field hos rfl (x := vl) rfl (wpAny_bind (wpAny_listPart pl ?_)))
    refine wpAny_bind (wpAny_field hos rfl (x := vu) rfl (wpAny_bind (wpAny_listPart pu (wpAny_pure ?_))))
    refine wpAny_bind (m := Builtin.List.listItems (.ref l)) ?_
    · unfold Builtin.List.listItems
      refine wpAny_bind (wpAny_seqItems ho rfl (wpAny_pure ?_))
      refine wpAny_bind (wpAny_of_eq (sliceIndices_raw lo hi sp xs.size h0) ?_)
      refine wpAny_bind (wpAny_newObj_type (wpAny_pure ⟨_, rfl, ?_, ?_⟩) (Nat.le_trans (slicePick_size_le xs lo hi sp) hsz))
      · show Except.ok (Flow.ret (Value.ref s.heap.objs.size)) = _
        rw [hp.size]
      · subst hy
        exact post_push hp.own hp.size rfl rfl rfl rfl rfl rfl hp.toks rfl rfl
end
end Mine

namespace Mine
section
open PySem PySem.W Sem
noncomputable def Kf (l : List Nat) (i : Nat) : Nat := l.getD i 0
/-- signs with their tokens -/
noncomputable def num : List Nat → Tok → List (Nat × Tok)
  | [], _ => []
  | c :: l, k => (c, k) :: num l (k + 1)
theorem tapeA_num : ∀ (l : List Nat) (k : Tok), tapeA (num l k) = (chs l k).reverse.toArray
  | [], _ => rfl
  | c :: l, k => by
    show (tapeA (num l (k + 1))).push (chV c k) = _
    rw [tapeA_num l (k + 1)]
    simp [chs]
theorem chs_length : ∀ (l : List Nat) (k : Tok), (chs l k).length = l.length
  | [], _ => rfl
  | c :: l, k => by show (chs l (k + 1)).length + 1 = _; rw [chs_length]; rfl
noncomputable def fldO (l : List Value) : Obj := { cls := .none, data := .fields ⟨l⟩ }
noncomputable def lawCds (b : List Stmt) (e : Env) : List Code := [.func b e, .builtin "claim.caller" {}]
noncomputable def lx1 (n : Nat) : Lx := ⟨n + 21, n + 20, n + 23, n + 9, n + 8, n + 11, n + 19, n + 18, n + 12, n + 1, n + 7⟩
noncomputable def lx2 (n C : Nat) : Lx := ⟨n + 15, n + 14, n + 17, n + 9, n + 8, n + 11, n + 13, C, n + 12, n + 1, n + 7⟩
noncomputable def K1 (T : Nat) : Nat → Tok := Kf [T + 28, T + 30, T + 33, T + 31, T + 35, T + 6, T + 4, T + 8, T + 11, T + 9, T + 13, T + 23, T + 16]
noncomputable def K2 (T q : Nat) : Nat → Tok := Kf [T + 21, T + 23, T + 26, T + 24, T + 28, T + 6, T + 4, T + 8, T + 11, T + 9, T + 13, T + 16, q]
noncomputable def more1 (n T : Nat) : List Value := [.str "/claim/cut.py" (T + 17), .int 161 0, .int 1 0, .int 0 0, .int 0 0, .int 19 0, .ref (n + 13), .bool true, .int 181 0, .ref (n + 14), .none, .ref (n + 15), .ref (n + 16), .ref (n + 17), .int (Int.ofNat (T + 20)) 0, .int 161 0, .str "/claim/cut.py" (T + 21)]
noncomputable def lexEnv (w : World) (n : Nat) : Env := { scope := (lexF w).scope, locals := n, globals := 3, cells := [("tape", n + 1)], qual := "_law_lexer.<locals>.", func := some 194, code := .ref 193, frame := some n, builtins := 0 }
/-- what _law_lexer makes, at its first call -/
noncomputable def lexer1 (w : World) (n T : Nat) (tape : Array Value) : List Ent :=
  lexE w.params (lexF w) (lx1 n) (K1 T) (.str "<lambda>" (T + 15)) (more1 n T) 1 (T + 26) tape 0 ++ [(n + 23, lstO #[] 0), (n + 24, tupO [.ref (n + 21), .ref (n + 7)])]
noncomputable def lexE2 (P : Params) (lex : FuncData) (x : Lx) (K : Nat → Tok) (line : Int) (lk : Tok) (tape : Array Value) (ep : Nat) : List Ent :=
  [(x.L, instO 183 x.Ld), (x.Ld, lexD P x K line lk), (x.S, instO 183 x.Sd), (x.Sd, srcD P x K), (x.F, lamO lex x.E x.U x.C 0), (x.E, cellO (.ref x.T)), (x.T, lstO tape ep)]
noncomputable def lexer2 (w : World) (n T C q : Nat) (tape : Array Value) : List Ent :=
  lexE2 w.params (lexF w) (lx2 n C) (K2 T q) 1 (T + 19) tape 0 ++ [(n + 17, lstO #[] 0), (n + 18, tupO [.ref (n + 15), .ref (n + 7)])]
section
variable (w : World) (b1 b2 : Bool) (b : List Stmt) (e : Env) (x : Str) (k : Tok) (n t : Nat)
noncomputable abbrev lexC (x : Str) (k : Tok) : Code := .call (.ref 194) ⟨[.str x k], []⟩
noncomputable def lexer1S : Mine.Spec := mk (lexC x k) none (lawCds b e) n t [(189, fldO [])] ⟨.ok (.ret (.ref (n + 24))), n + 25, t + 1 + x.cps.toList.length + 36, [fldO [.int 161 0, .int 18 0, .ref (n + 18)]], lexer1 w n (t + 1 + x.cps.toList.length) (tapeA (num x.cps.toList (t + 1)))⟩
noncomputable def lexer2S (C q : Nat) : Mine.Spec := mk (lexC x k) none (lawCds b e) n t [(189, fldO [.int 161 0, .int 18 0, .ref C])] ⟨.ok (.ret (.ref (n + 18))), n + 19, t + 1 + x.cps.toList.length + 29, [fldO [.int 161 0, .int 18 0, .ref C]], lexer2 w n (t + 1 + x.cps.toList.length) C q (tapeA (num x.cps.toList (t + 1)))⟩
theorem rev_pick (l : List Nat) (t : Nat) : slicePick (#[] ++ (chs l t).toArray) none none (some (-1)) = tapeA (num l t) := by
  rw [krv_pick, tapeA_num]; simp
variable (ha : ascii x = true) (hz : x.cps.toList.length < 1000000)
include ha hz
theorem lexer1V : (lexer1S (Wf w b1 b2) b e x k n t).Valid (model prog (Wf w b1 b2)) (stW (Wf w b1 b2)) := by
  have V1 := extV (w := Wf w b1 b2) (.builtin "type.__call__" ⟨[.type "list", .str x k], []⟩ :: .func (bodyOf (lexF (Wf w b1 b2))) (lexEnv (Wf w b1 b2) n) :: lawCds b e) (n + 2) (n + 3) .none x k x.cps.toList 0 #[] 0 (n + 4) (t + 1) rfl (by simpa using hz)
  have V2 := lslV (w := Wf w b1 b2) (st := stW (Wf w b1 b2)) (n + 2) (n + 6) (#[] ++ (chs x.cps.toList (t + 1)).toArray) (0 + x.cps.toList.length) .none .none (.int (-1) (t + 1 + x.cps.toList.length + 1)) (tapeA (num x.cps.toList (t + 1))) .none .none (.int (-1) _) (by decide) (rev_pick _ _) (by have : sizeLine = 16777216 := rfl; rw [Array.size_append, List.size_toArray, List.size_toArray, chs_length]; show 0 + x.cps.toList.length ≤ _; omega)
  unfold lexer1S
  generalize hT : t + 1 + x.cps.toList.length = T at *
  generalize hl : x.cps.toList = l at *
  refine mk_valid 700 234908057103423184979291110091616569442539531882751756001080212115725637801031160359878588425817031686453936328678714562221698437835406181529769665775495441540015980823594189748089309873011024175425653085191953691647407368688127826708446192161486372074702503841286483779274830387348445129663405643186140910471256799784081778388811798244865172722592169443776425265472088756128679629676609082759822493279226483335295475491087771778512182709143725944105338498986904597578621134888630728855592305129066425829958842385350248800086848613943788805656998775822550763741529037534387163279382086572006533724233916645872844968762927892448375859448159702312609055472808419876002517254625054372610944285043707648013492089374176667560627437568
    [siterS x k, _, _] (all_cons (siterV x k ha) (all_cons V1 (all_cons V2 all_nil))) rfl ?_
  intro p q
  (generalize b2 = c2; revert c2; refine split1 ?_ ?_ <;> kernel_rfl)
theorem lexer2V (C q : Nat) : (lexer2S (Wf w b1 b2) b e x k n t C q).Valid (model prog (Wf w b1 b2)) (stW (Wf w b1 b2)) := by
  have V1 := extV (w := Wf w b1 b2) (.builtin "type.__call__" ⟨[.type "list", .str x k], []⟩ :: .func (bodyOf (lexF (Wf w b1 b2))) (lexEnv (Wf w b1 b2) n) :: lawCds b e) (n + 2) (n + 3) .none x k x.cps.toList 0 #[] 0 (n + 4) (t + 1) rfl (by simpa using hz)
  have V2 := lslV (w := Wf w b1 b2) (st := stW (Wf w b1 b2)) (n + 2) (n + 6) (#[] ++ (chs x.cps.toList (t + 1)).toArray) (0 + x.cps.toList.length) .none .none (.int (-1) (t + 1 + x.cps.toList.length + 1)) (tapeA (num x.cps.toList (t + 1))) .none .none (.int (-1) _) (by decide) (rev_pick _ _) (by have : sizeLine = 16777216 := rfl; rw [Array.size_append, List.size_toArray, List.size_toArray, chs_length]; show 0 + x.cps.toList.length ≤ _; omega)
  unfold lexer2S
  generalize hT : t + 1 + x.cps.toList.length = T at *
  generalize hl : x.cps.toList = l at *
  refine mk_valid 700 656258722699937535917780640740494051734924984270490002683753466239538643668269205926316599168485359354941553107201979345434694005824722066771298750995858202660931865271556465768393910800213953516496834699120941740315760539213445120384356538851667210014380749829086629403089475521844996098556968098173413095890204938275315640236149626411840082775650473054810091772789754519634096793514239711216965725417029726755614078159119224727015865434120947380827604019060138063666555431925923619268808292410386813968002815825282714037292437932612868089594207843958600132658347265941220991590211040892659952901109022210664416555218213305319366631789534351367894726141964531753996581309449724736757778533129073235986098020958488002560
    [siterS x k, _, _] (all_cons (siterV x k ha) (all_cons V1 (all_cons V2 all_nil))) rfl ?_
  intro p q
  (generalize b2 = c2; revert c2; refine split1 ?_ ?_ <;> kernel_rfl)
end
end
end Mine

namespace Mine
section
open PySem PySem.W Sem
/-- a built-in that only makes a value, at a given state -/
noncomputable abbrev giveS (id : String) (args : List Value) (n t : Nat) (v : Value) (t' : Nat) : Mine.Spec := ⟨.builtin id ⟨args, []⟩, none, some (n, t), [], fun _ _ => ⟨.ok (.ret v), n, t', [], []⟩⟩
section
variable {w : World} {st : ST}
theorem give_str {id : String} {B : Builtin} {args : List Value} {y : Str} {m : Made} (n t : Nat) (plain : plainId id = true) (entry : entryFor table id = some B) (g : Gives (B ⟨args, []⟩) m)
    (hm : (∃ k, m = .val (.str y k)) ∨ (m = .str y ∧ y.length ≤ sizeLine)) : ∃ k t', (giveS id args n t (.str y k) t').Valid (model prog w) st := by
  rcases hm with ⟨k, rfl⟩ | ⟨rfl, hy⟩
  · refine ⟨k, t, valid_of_meets rfl plain entry g.meets fun _ n' t' s ha hp => ?_⟩
    obtain ⟨rfl, rfl⟩ := ha _ rfl
    exact ⟨rfl, post_pure hp.own rfl rfl rfl rfl hp.size.symm hp.toks rfl rfl⟩
  · refine ⟨t, t + 1, valid_of_meets rfl plain entry g.meets fun _ n' t' s ha hp => ?_⟩
    obtain ⟨rfl, rfl⟩ := ha _ rfl
    exact ⟨hy, by show _ = Except.ok _; rw [hp.toks], post_pure hp.own rfl rfl rfl rfl hp.size.symm (by show s.toks + 1 = t' + 1; rw [hp.toks]) rfl rfl⟩
theorem Str.ext' {x y : Str} (h : x.cps.toList = y.cps.toList) : x = y := by
  cases x; cases y; congr; exact Array.ext' h
theorem add_give (x y : Str) (a b : Tok) (n t : Nat) (hz : (x ++ y).length ≤ sizeLine) : ∃ k t', (giveS "str.__add__" [.str x a, .str y b] n t (.str (x ++ y) k) t').Valid (model prog w) st := by
  have g := gives_str_add x y a b
  refine give_str n t (by decide +kernel) PySem.F.entry_str_add g ?_
  by_cases hx : x.length = 0
  · rw [if_pos (by simpa using hx)]
    left
    refine ⟨b, ?_⟩
    have : x ++ y = y := by
      apply Str.ext'
      show (x.cps ++ y.cps).toList = _
      rw [Array.toList_append, List.length_eq_zero_iff.mp (show x.cps.toList.length = 0 from hx)]; rfl
    rw [this]
  · rw [if_neg (by simpa using hx)]
    by_cases hy : y.length = 0
    · rw [if_pos (by simpa using hy)]
      left
      refine ⟨a, ?_⟩
      have : x ++ y = x := by
        apply Str.ext'
        show (x.cps ++ y.cps).toList = _
        rw [Array.toList_append, List.length_eq_zero_iff.mp (show y.cps.toList.length = 0 from hy)]; exact List.append_nil _
      rw [this]
    · rw [if_neg (by simpa using hy)]
      exact .inr ⟨rfl, hz⟩
/-- a sign written k times -/
noncomputable def rpt (c : Nat) (k : Nat) : Str := ⟨⟨List.replicate k c⟩⟩
theorem fold_rep (c : Nat) : ∀ (k : Nat) (a : Array Nat), ((List.replicate k #[c]).foldl (· ++ ·) a).toList = a.toList ++ List.replicate k c
  | 0, a => by simp
  | k + 1, a => by
    rw [List.replicate_succ, List.foldl_cons, fold_rep c k]
    simp [List.replicate_succ]
theorem mul_give (c : Nat) (i : Nat) (a b : Tok) (n t : Nat) (hi : i < 1000000) : ∃ k t', (giveS "str.__mul__" [.str ⟨#[c]⟩ a, .int (Int.ofNat i) b] n t (.str (rpt c i) k) t').Valid (model prog w) st := by
  have g := gives_str_mul ⟨#[c]⟩ (Int.ofNat i) a b (by simp; omega) (by
    intro h _
    show ¬ ((1 : Int) > _)
    have : (0 : Int) < i := by simp at h; omega
    have : (1 : Int) ≤ (2 ^ 63 - 1) / (i : Int) := by
      apply (Int.le_ediv_iff_mul_le this).mpr
      omega
    exact Int.not_lt.mpr this) (by
    intro _ _
    show decide _ = false
    have : sizeLine = 16777216 := rfl
    simp [Str.length]
    omega)
  refine give_str n t (by decide +kernel) PySem.F.entry_str_mul g ?_
  by_cases h0 : i = 0
  · subst h0
    right
    exact ⟨rfl, Nat.zero_le _⟩
  · rw [if_neg (by simp; omega)]
    by_cases h1 : i = 1
    · subst h1
      left
      exact ⟨a, rfl⟩
    · rw [if_neg (by simp [Str.length]; omega)]
      right
      refine ⟨?_, ?_⟩
      · congr 1
        apply Str.ext'
        have := fold_rep c i #[]
        exact this
      · show (rpt c i).cps.size ≤ _
        have : sizeLine = 16777216 := rfl
        simp [rpt]; omega

/-! lists: the iterator, append, join -/
noncomputable abbrev appS (l : Addr) (xs : Array Value) (ep : Nat) (v : Value) : Mine.Spec := ⟨.builtin "list.append" ⟨[.ref l, v], []⟩, none, none, [(l, lstO xs ep)], fun n t => ⟨.ok (.ret .none), n, t, [lstO (xs.push v) (ep + 1)], []⟩⟩
theorem appV (l : Addr) (xs : Array Value) (ep : Nat) (v : Value) (h : xs.size ≤ sizeLine) : (appS l xs ep v).Valid (model prog w) st := by
  refine valid_of_meets rfl (by decide +kernel) PySem.F.entry_list_append (PySem.list_append l xs ep v h) fun _ n t s _ hp => ?_
  have ho := hp.own (l, lstO xs ep) (List.mem_cons_self ..)
  refine ⟨ho, rfl, post_update ho rfl ?_ rfl rfl rfl rfl hp.size.symm hp.toks rfl rfl⟩
  show Obj.mapSeq _ (lstO xs ep) = lstO (xs.push v) (ep + 1)
  unfold lstO Obj.mapSeq
  simp
/-- texts with their tokens, joined -/
noncomputable def strVs (l : List (Str × Tok)) : Array Value := (strValues l).toArray
noncomputable def cat : List (Str × Tok) → List Nat
  | [] => []
  | x :: l => x.1.cps.toList ++ cat l
theorem glue_fold : ∀ (l : List (Str × Tok)) (a : Array Nat), ((l.map (·.1)).foldl (fun acc p => acc ++ (⟨#[]⟩ : Str).cps ++ p.cps) a).toList = a.toList ++ cat l
  | [], a => by simp [cat]
  | x :: l, a => by
    rw [List.map_cons, List.foldl_cons, glue_fold l]
    simp [cat]
theorem join_give (l : Addr) (xs : List (Str × Tok)) (ep : Nat) (a : Tok) (n t : Nat) (hz : PySem.Builtin.Str.tooLong ((xs.map (·.1)).toArray.foldl (· + ·.length + (⟨#[]⟩ : Str).length) 0) = false) (hy : (cat xs).length ≤ sizeLine) :
    ∃ k t', (⟨.builtin "str.join" ⟨[.str ⟨#[]⟩ a, .ref l], []⟩, none, some (n, t), [(l, lstO (strVs xs) ep)], fun _ _ => ⟨.ok (.ret (.str ⟨⟨cat xs⟩⟩ k)), n, t', [lstO (strVs xs) ep], []⟩⟩ : Mine.Spec).Valid (model prog w) st := by
  have g := meets_str_join_list ⟨#[]⟩ a l xs hz
  have key : (∃ k, joinMade ⟨#[]⟩ xs = .val (.str ⟨⟨cat xs⟩⟩ k)) ∨ joinMade ⟨#[]⟩ xs = .str ⟨⟨cat xs⟩⟩ := by
    match xs with
    | [] => right; rfl
    | [p] =>
      left
      refine ⟨p.2, ?_⟩
      show Made.val (.str p.1 p.2) = _
      congr 2
      apply Str.ext'
      simp [cat]
    | p :: q :: r =>
      right
      show Made.str _ = _
      congr 1
      apply Str.ext'
      exact glue_fold (q :: r) p.1.cps
  rcases key with ⟨k, hk⟩ | hk
  · refine ⟨k, t, valid_of_meets rfl (by decide +kernel) PySem.F.entry_str_join g fun _ n' t' s ha hp => ?_⟩
    obtain ⟨rfl, rfl⟩ := ha _ rfl
    have ho := hp.own (l, lstO (strVs xs) ep) (List.mem_cons_self ..)
    refine ⟨isList_of ho, ?_⟩
    rw [hk]
    exact ⟨rfl, post_pure hp.own rfl rfl rfl rfl hp.size.symm hp.toks rfl rfl⟩
  · refine ⟨t, t + 1, valid_of_meets rfl (by decide +kernel) PySem.F.entry_str_join g fun _ n' t' s ha hp => ?_⟩
    obtain ⟨rfl, rfl⟩ := ha _ rfl
    have ho := hp.own (l, lstO (strVs xs) ep) (List.mem_cons_self ..)
    refine ⟨isList_of ho, ?_⟩
    rw [hk]
    exact ⟨hy, by show _ = Except.ok _; rw [hp.toks], post_pure hp.own rfl rfl rfl rfl hp.size.symm (by show s.toks + 1 = t' + 1; rw [hp.toks]) rfl rfl⟩
end
noncomputable def litO (l : Addr) (i : Nat) : Obj := { cls := .type "list_iterator", data := .fields ⟨[.ref l, .int (Int.ofNat i) 0]⟩ }
noncomputable def litX (i : Nat) : Obj := { cls := .type "list_iterator", data := .fields ⟨[.none, .int (Int.ofNat i) 0]⟩ }
noncomputable def lnextS (a l : Addr) (xs : Array Value) (ep i : Nat) (v : Value) : Mine.Spec := ⟨.builtin "list_iterator.__next__" ⟨[.ref a], []⟩, none, none, [(a, litO l i), (l, lstO xs ep)], fun n t => ⟨.ok (.ret v), n, t, [litO l (i + 1), lstO xs ep], []⟩⟩
noncomputable def lendS (cds : List Code) (a l : Addr) (xs : Array Value) (ep i : Nat) : Mine.Spec := ⟨.builtin "list_iterator.__next__" ⟨[.ref a], []⟩, some (none, cds), none, [(a, litO l i), (l, lstO xs ep)], fun n t => ⟨.error (.ref (n + 1)), n + 2, t, [litX i, lstO xs ep], [(n, tupO []), (n + 1, stopO n)]⟩⟩
section
variable {w : World}
theorem entry_lin : entryFor table "list_iterator.__next__" = some Builtin.«list_iterator.__next__» := entryFor_of_tree (by kernel_rfl)
theorem wp_seqItems {α : Type} {M : Model} {Γ : Ctx} {a : Addr} {xs : Array Value} {ep : Nat} {k : Option (Array Value) → Sem α} {Q E p s} (ho : s.heap.get? a = some (lstO xs ep)) (h : wp M Γ (k (some xs)) Q E p s) : wp M Γ (seqItems? (.ref a) >>= k) Q E p s := by
  rw [wp_bind']
  unfold seqItems?
  simp only [wp_bind']
  refine (wp_load_of M Γ _ p s ho _).mpr ?_
  exact h
theorem lnextV (a l : Addr) (xs : Array Value) (ep i : Nat) (v : Value) (h : xs.toList[i]? = some v) : (lnextS a l xs ep i v).Valid (model prog w) (stW w) := by
  refine valid_of_wp (id := "list_iterator.__next__") (args := ⟨[.ref a], []⟩) rfl entry_lin fun hd below p n t s _ _ hp => ?_
  have ho := hp.own (a, litO l i) (List.mem_cons_self ..)
  have hl := hp.own (l, lstO xs ep) (List.mem_cons_of_mem _ (List.mem_cons_self ..))
  show wp _ _ (slotArgs "__next__" 0 ⟨[.ref a], []⟩ >>= _) _ _ _ _
  rw [slotArgs_one, pure_bind]
  show wp _ _ (field (.ref a) 0 >>= _) _ _ _ _
  refine wp_field ho rfl ?_
  show wp _ _ (field (.ref a) 1 >>= _) _ _ _ _
  refine wp_field ho rfl ?_
  show wp _ _ (seqItems? (.ref l) >>= _) _ _ _ _
  refine wp_seqItems hl ?_
  show wp _ _ (match xs[i]? with | some x => _ | none => _) _ _ _ _
  rw [show xs[i]? = some v by rw [← Array.getElem?_toList]; exact h]
  refine wp_run (st := stW w) (pre := [(a, litO l i), (l, lstO xs ep)]) (n := n) (t := t) (e := ⟨.ok (.ret v), n, t, [litO l (i + 1), lstO xs ep], []⟩) 100 (1 + 128 * (1 + 128 * (1 + 128 * 2))) [] all_nil rfl ?_ hp fun s' po => ⟨rfl, po⟩
  kernel_rfl
theorem lendV (cds : List Code) (a l : Addr) (xs : Array Value) (ep i : Nat) (h : xs.toList[i]? = none) : (lendS cds a l xs ep i).Valid (model prog w) (stW w) := by
  refine valid_of_wp (id := "list_iterator.__next__") (args := ⟨[.ref a], []⟩) rfl entry_lin fun hd below p n t s hc _ hp => ?_
  obtain rfl : hd = none := (Prod.mk.inj (hc _ rfl)).1
  have ho := hp.own (a, litO l i) (List.mem_cons_self ..)
  have hl := hp.own (l, lstO xs ep) (List.mem_cons_of_mem _ (List.mem_cons_self ..))
  show wp _ _ (slotArgs "__next__" 0 ⟨[.ref a], []⟩ >>= _) _ _ _ _
  rw [slotArgs_one, pure_bind]
  show wp _ _ (field (.ref a) 0 >>= _) _ _ _ _
  refine wp_field ho rfl ?_
  show wp _ _ (field (.ref a) 1 >>= _) _ _ _ _
  refine wp_field ho rfl ?_
  show wp _ _ (seqItems? (.ref l) >>= _) _ _ _ _
  refine wp_seqItems hl ?_
  show wp _ _ (match xs[i]? with | some x => _ | none => _) _ _ _ _
  rw [show xs[i]? = none by rw [← Array.getElem?_toList]; exact h]
  refine wp_run (st := stW w) (pre := [(a, litO l i), (l, lstO xs ep)]) (n := n) (t := t) (e := ⟨.error (.ref (n + 1)), n + 2, t, [litX i, lstO xs ep], [(n, tupO []), (n + 1, stopO n)]⟩) 100 (1 + 128 * (1 + 128 * (1 + 128 * (2 + 128 * (3 + 128 * 4))))) [] all_nil rfl ?_ hp fun s' po => ⟨rfl, po⟩
  kernel_rfl
end
end
end Mine

namespace Mine
section
open PySem PySem.W
noncomputable def lcOf : Stmt → Expr
  | .Return (some (.BinOp (.Call _ (lc :: _) _ _) _ _ _)) _ => lc
  | _ => default
noncomputable def scOf : Expr → Scope
  | .ListComp _ _ sc _ => sc
  | _ => default
noncomputable def compEnv (lc : Expr) (loc fr : Addr) (qual : Str) (code : Addr) : Env := { scope := scOf lc, locals := loc, globals := 3, cells := [], qual := qual, func := none, code := .ref code, frame := some fr, builtins := 0 }
noncomputable def funEnv (f : FuncData) (fr : Addr) (qual : Str) (fn code : Addr) : Env := { scope := f.scope, locals := fr, globals := 3, cells := [], qual := qual, func := some fn, code := .ref code, frame := some fr, builtins := 0 }
/-- a dict of one name, once it is bound -/
noncomputable def oneO (P : Params) (name : String) (fs : Option (Tok × Value)) : Obj := match fs with | none => dictO [] 0 | some (k, v) => dictO [de P name k v] 1
noncomputable def leadLoop (f : FuncData) (it acc loc fr : Addr) : Code := .compLoop (lcOf ((bodyOf f).getD 0 default)) 0 (.ref it) (.ref acc) (compEnv (lcOf ((bodyOf f).getD 0 default)) loc fr "_law_lead.<locals>." 210)
end
end Mine

namespace Mine
section
open PySem PySem.W Sem
noncomputable def natVs (l : List (Nat × Tok)) : List Value := l.map fun r => .int (Int.ofNat r.1) r.2
noncomputable def natA (l : List (Nat × Tok)) : Array Value := ⟨natVs l⟩
theorem natVs_get {l : List (Nat × Tok)} {i : Nat} {r : Nat × Tok} (h : l[i]? = some r) : (natA l).toList[i]? = some (.int (Int.ofNat r.1) r.2) := by
  show (natVs l)[i]? = _
  unfold natVs
  rw [List.getElem?_map, h]; rfl
theorem natVs_none {l : List (Nat × Tok)} {i : Nat} (h : l[i]? = none) : (natA l).toList[i]? = none := by
  show (natVs l)[i]? = _
  unfold natVs
  rw [List.getElem?_map, h]; rfl
noncomputable def leadL : List (Nat × Tok) → List Nat
  | [] => []
  | r :: l => List.replicate r.1 32 ++ [9] ++ leadL l
noncomputable def leadF (w : World) : FuncData := fdOf (hd.o_264 w.params)
theorem cat_append : ∀ (a b : List (Str × Tok)), cat (a ++ b) = cat a ++ cat b
  | [], _ => rfl
  | x :: a, b => by show x.1.cps.toList ++ cat (a ++ b) = _; rw [cat_append a b]; simp [cat]
theorem join_fits : ∀ (l : List (Str × Tok)) (k : Nat), (l.map (·.1)).foldl (fun a x => a + x.length + (⟨#[]⟩ : Str).length) k = k + (cat l).length
  | [], k => rfl
  | x :: l, k => by
    rw [List.map_cons, List.foldl_cons, join_fits l]
    show k + x.1.cps.toList.length + 0 + _ = k + (x.1.cps.toList ++ cat l).length
    rw [List.length_append]; omega
theorem join_ok {l : List (Str × Tok)} (h : (cat l).length ≤ sizeLine) : PySem.Builtin.Str.tooLong ((l.map (·.1)).toArray.foldl (· + ·.length + (⟨#[]⟩ : Str).length) 0) = false := by
  rw [List.foldl_toArray, join_fits]
  show decide _ = false
  simp; omega
section
variable (w : World) (b1 b2 : Bool) (b : List Stmt) (e : Env)
noncomputable def kOf (fs : Option (Tok × Value)) (t : Tok) : Tok := match fs with | none => t | some (k, _) => k
noncomputable def leadPre (w : World) (it l acc loc : Addr) (xs : Array Value) (ep i : Nat) (ys : Array Value) (ep2 : Nat) (fs : Option (Tok × Value)) : List Ent := [(it, litO l i), (l, lstO xs ep), (acc, lstO ys ep2), (loc, oneO w.params "blanks" fs)]
noncomputable def leadCds (w : World) (fr : Addr) (b : List Stmt) (e : Env) : List Code := .func (bodyOf (leadF w)) (funEnv (leadF w) fr "_law_lead.<locals>." 211 210) :: lawCds b e
variable (it l acc loc fr : Addr) (xs : Array Value) (ep : Nat)
theorem lead_turn (i : Nat) (ys : Array Value) (ep2 : Nat) (fs : Option (Tok × Value)) (r : Nat) (k : Tok) (n t t1 t2 k1 k2 : Nat) (y : Str) (er : Result) (en et : Nat) (p1 p2 p3 p4 : Obj) (hx : xs.toList[i]? = some (.int (Int.ofNat r) k)) (hy : ys.size ≤ sizeLine)
    (V1 : (giveS "str.__mul__" [.str ⟨#[32]⟩ (t + 1), .int (Int.ofNat r) k] n (t + 2) (.str (rpt 32 r) k1) t1).Valid (model prog (Wf w b1 b2)) (stW (Wf w b1 b2)))
    (V2 : (giveS "str.__add__" [.str (rpt 32 r) k1, .str ⟨#[9]⟩ t1] n (t1 + 1) (.str y k2) t2).Valid (model prog (Wf w b1 b2)) (stW (Wf w b1 b2)))
    (V : (mk (leadLoop (leadF (Wf w b1 b2)) it acc loc fr) none (leadCds (Wf w b1 b2) fr b e) n t2 (leadPre (Wf w b1 b2) it l acc loc xs ep (i + 1) (ys.push (.str y k2)) (ep2 + 1) (some (kOf fs t, .int (Int.ofNat r) k))) ⟨er, en, et, [p1, p2, p3, p4], []⟩).Valid (model prog (Wf w b1 b2)) (stW (Wf w b1 b2))) :
    (mk (leadLoop (leadF (Wf w b1 b2)) it acc loc fr) none (leadCds (Wf w b1 b2) fr b e) n t (leadPre (Wf w b1 b2) it l acc loc xs ep i ys ep2 fs) ⟨er, en, et, [p1, p2, p3, p4], []⟩).Valid (model prog (Wf w b1 b2)) (stW (Wf w b1 b2)) := by
  refine mk_valid 300 3157036981060333527744777858682773027400943705600259276801 [lnextS it l xs ep i (.int (Int.ofNat r) k), _, _, appS acc ys ep2 (.str y k2), _] (all_cons (lnextV _ _ _ _ _ _ hx) (all_cons V1 (all_cons V2 (all_cons (appV _ _ _ _ hy) (all_cons V all_nil))))) rfl ?_
  intro p q
  rcases fs with _ | ⟨kf, vf⟩ <;> (generalize b2 = c2; revert c2; refine split1 ?_ ?_ <;> kernel_rfl)
theorem lead_end (i : Nat) (ys : Array Value) (ep2 : Nat) (fs : Option (Tok × Value)) (n t : Nat) (hx : xs.toList[i]? = none) :
    (mk (leadLoop (leadF (Wf w b1 b2)) it acc loc fr) none (leadCds (Wf w b1 b2) fr b e) n t (leadPre (Wf w b1 b2) it l acc loc xs ep i ys ep2 fs) ⟨.ok .next, n + 2, t, [litX i, lstO xs ep, lstO ys ep2, oneO (Wf w b1 b2).params "blanks" fs], []⟩).Valid (model prog (Wf w b1 b2)) (stW (Wf w b1 b2)) := by
  refine mk_valid 300 4750181303575507910657 [lendS (leadLoop (leadF (Wf w b1 b2)) it acc loc fr :: leadCds (Wf w b1 b2) fr b e) it l xs ep i] (all_cons (lendV _ _ _ _ _ _ hx) all_nil) rfl ?_
  intro p q
  rcases fs with _ | ⟨kf, vf⟩ <;> (generalize b2 = c2; revert c2; refine split1 ?_ ?_ <;> kernel_rfl)
theorem rpt_add (r : Nat) : (rpt 32 r ++ (⟨#[9]⟩ : Str)).cps.toList = List.replicate r 32 ++ [9] := by
  show ((rpt 32 r).cps ++ #[9]).toList = _
  rw [Array.toList_append]; rfl
theorem StrVsPush (ys : List (Str × Tok)) (y : Str) (k : Tok) : (strVs ys).push (.str y k) = strVs (ys ++ [(y, k)]) := by
  apply Array.ext'
  simp [strVs, strValues]
theorem lead_loop (rs : List (Nat × Tok)) : ∀ (rest : List (Nat × Tok)) (i : Nat) (ys : List (Str × Tok)) (ep2 : Nat) (fs : Option (Tok × Value)) (n t : Nat), rs.drop i = rest → ys.length + rest.length ≤ 1000 → (∀ r ∈ rest, r.1 ≤ 1000) →
    ∃ (n' t' i' : Nat) (ys' : List (Str × Tok)) (ep2' : Nat) (fs' : Option (Tok × Value)), cat ys' = cat ys ++ leadL rest ∧
      (mk (leadLoop (leadF (Wf w b1 b2)) it acc loc fr) none (leadCds (Wf w b1 b2) fr b e) n t (leadPre (Wf w b1 b2) it l acc loc (natA rs) ep i (strVs ys) ep2 fs) ⟨.ok .next, n', t', [litX i', lstO (natA rs) ep, lstO (strVs ys') ep2', oneO (Wf w b1 b2).params "blanks" fs'], []⟩).Valid (model prog (Wf w b1 b2)) (stW (Wf w b1 b2)) := by
  intro rest
  induction rest with
  | nil =>
    intro i ys ep2 fs n t hx _ _
    have hn : rs[i]? = none := List.getElem?_eq_none_iff.mpr (List.drop_eq_nil_iff.mp hx)
    exact ⟨n + 2, t, i, ys, ep2, fs, by simp [leadL], lead_end w b1 b2 b e it l acc loc fr _ ep i _ ep2 fs n t (natVs_none hn)⟩
  | cons r rest ih =>
    intro i ys ep2 fs n t hx hz hr
    have hs : rs[i]? = some r := by
      have := congrArg (fun l => l[0]?) hx
      simpa using this
    have hd : rs.drop (i + 1) = rest := by
      have := congrArg List.tail hx
      simpa using this
    have hz' : ys.length + (rest.length + 1) ≤ 1000 := hz
    have hr1 : r.1 ≤ 1000 := hr r (List.mem_cons_self ..)
    have hsl : sizeLine = 16777216 := rfl
    obtain ⟨k1, t1, V1⟩ := mul_give (w := Wf w b1 b2) (st := stW (Wf w b1 b2)) 32 r.1 (t + 1) r.2 n (t + 2) (by omega)
    obtain ⟨k2, t2, V2⟩ := add_give (w := Wf w b1 b2) (st := stW (Wf w b1 b2)) (rpt 32 r.1) ⟨#[9]⟩ k1 t1 n (t1 + 1) (by
      show (rpt 32 r.1 ++ (⟨#[9]⟩ : Str)).cps.toList.length ≤ _
      rw [rpt_add]; simp; omega)
    obtain ⟨n', t', i', ys', ep2', fs', hc, V⟩ := ih (i + 1) (ys ++ [(rpt 32 r.1 ++ ⟨#[9]⟩, k2)]) (ep2 + 1) (some (kOf fs t, .int (Int.ofNat r.1) r.2)) n t2 hd (by simp; omega) fun r' h' => hr r' (List.mem_cons_of_mem _ h')
    rw [← StrVsPush] at V
    refine ⟨n', t', i', ys', ep2', fs', ?_, lead_turn w b1 b2 b e it l acc loc fr _ ep i _ ep2 fs r.1 r.2 n t t1 t2 k1 k2 _ _ _ _ _ _ _ _ (natVs_get hs) (by simp [strVs, strValues]; omega) V1 V2 V⟩
    rw [hc, cat_append]
    show _ ++ ((rpt 32 r.1 ++ (⟨#[9]⟩ : Str)).cps.toList ++ []) ++ _ = _
    rw [rpt_add]
    simp [leadL]
noncomputable abbrev leadC (l : Addr) (back : Nat) (kb : Tok) : Code := .call (.ref 211) ⟨[.ref l, .int (Int.ofNat back) kb], []⟩
/-- _law_lead whole -/
theorem leadV (rs : List (Nat × Tok)) (back : Nat) (kb : Tok) (n t : Nat) (hz : rs.length ≤ 1000) (hr : ∀ r ∈ rs, r.1 ≤ 1000) (hy : (leadL rs).length ≤ 1000000) (hb : back ≤ 1000) : ∃ (n' t' k : Nat),
    (mk (leadC l back kb) none (lawCds b e) n t [(l, lstO (natA rs) ep)] ⟨.ok (.ret (.str ⟨⟨leadL rs ++ List.replicate back 32⟩⟩ k)), n', t', [lstO (natA rs) ep], []⟩).Valid (model prog (Wf w b1 b2)) (stW (Wf w b1 b2)) := by
  obtain ⟨n1, t1, i', ys, ep2, fs, hc, VL⟩ := lead_loop w b1 b2 b e (n + 1) l (n + 2) (n + 3) n ep rs rs 0 [] 0 none (n + 4) (t + 3) rfl (by simpa using hz) hr
  have hsl : sizeLine = 16777216 := rfl
  have hcl : (cat ys).length ≤ sizeLine := by rw [hc]; show (leadL rs).length ≤ _; omega
  obtain ⟨k2, t2, VJ⟩ := join_give (w := Wf w b1 b2) (st := stW (Wf w b1 b2)) (n + 2) ys ep2 (t + 2) n1 t1 (join_ok hcl) hcl
  obtain ⟨k3, t3, VM⟩ := mul_give (w := Wf w b1 b2) (st := stW (Wf w b1 b2)) 32 back t2 kb n1 (t2 + 1) (by omega)
  have e4 : (⟨⟨cat ys⟩⟩ ++ rpt 32 back : Str) = ⟨⟨leadL rs ++ List.replicate back 32⟩⟩ := by
    apply Str.ext'
    show ((⟨cat ys⟩ : Array Nat) ++ (rpt 32 back).cps).toList = _
    rw [Array.toList_append, hc]; rfl
  obtain ⟨k4, t4, VA⟩ := add_give (w := Wf w b1 b2) (st := stW (Wf w b1 b2)) ⟨⟨cat ys⟩⟩ (rpt 32 back) k2 k3 n1 t3 (by
    rw [e4]
    show (leadL rs ++ List.replicate back 32).length ≤ _
    rw [List.length_append, List.length_replicate]; omega)
  rw [← e4]
  refine ⟨n1, t4, k4, ?_⟩
  rcases fs with _ | ⟨kf, vf⟩ <;> cases b1
  · refine mk_valid 300 119497492632016814429468165092569140575975297875716447489881325903110671114993664 [_, _, _, _] (all_cons VL (all_cons VJ (all_cons VM (all_cons VA all_nil)))) rfl ?_
    intro p q
    (generalize b2 = c2; revert c2; refine split1 ?_ ?_ <;> kernel_rfl)
  · refine mk_valid 300 27170584105992205520457938540077780099842634352827864078621998088192 [_, _, _, _] (all_cons VL (all_cons VJ (all_cons VM (all_cons VA all_nil)))) rfl ?_
    intro p q
    (generalize b2 = c2; revert c2; refine split1 ?_ ?_ <;> kernel_rfl)
  · refine mk_valid 300 1957846919282963487612406417685858335282456619465846629887908589259426235588513136640 [_, _, _, _] (all_cons VL (all_cons VJ (all_cons VM (all_cons VA all_nil)))) rfl ?_
    intro p q
    (generalize b2 = c2; revert c2; refine split1 ?_ ?_ <;> kernel_rfl)
  · refine mk_valid 300 445162849992576295247182865224626388062898865970684210061559944674574336 [_, _, _, _] (all_cons VL (all_cons VJ (all_cons VM (all_cons VA all_nil)))) rfl ?_
    intro p q
    (generalize b2 = c2; revert c2; refine split1 ?_ ?_ <;> kernel_rfl)
end
end
end Mine

namespace Mine
section
open PySem PySem.W
noncomputable def colFor (f : FuncData) : Expr × List Stmt := forOf ((bodyOf f).getD 1 default)
noncomputable def colLoop (f : FuncData) (it fr : Addr) : Code := .forLoop (colFor f).1 (.ref it) (colFor f).2 [] (funEnv f fr "_law_column.<locals>." 218 217)
noncomputable def colFr (P : Params) (K : Nat → Tok) (lead size col : Value) (fs : Option (Tok × Value)) : Obj := match fs with
  | none => frameO [de P "lead" (K 0) lead, de P "size" (K 1) size, de P "column" (K 2) col] 3
  | some (k, v) => frameO [de P "lead" (K 0) lead, de P "size" (K 1) size, de P "column" (K 2) col, de P "sign" k v] 4
end
end Mine

namespace Mine
section
open PySem PySem.W Sem
/-- the column after the signs of a lead -/
noncomputable def colL (size : Nat) : List Nat → Nat → Nat
  | [], c => c
  | x :: l, c => colL size l (if x = 32 then c + 1 else (c / size + 1) * size)
noncomputable def colF (w : World) : FuncData := fdOf (hd.o_271 w.params)
theorem entry_ifd : entryFor table "int.__floordiv__" = some Builtin.«int.__floordiv__» := entryFor_of_tree (by kernel_rfl)
theorem mulOk {a b : Nat} (hb : b < 1000000) : IntMulOk (Int.ofNat a) (Int.ofNat b) := by
  refine IntMulOk.of_right ?_
  unfold Builtin.Int.intBits
  by_cases h0 : b = 0
  · subst h0; decide
  · rw [if_neg (by simpa using h0)]
    show b.log2 + 1 ≤ 64
    have h20 : b < 2 ^ 20 := by omega
    have := (Nat.log2_lt h0).mpr h20
    omega
section
variable {w : World} {st : ST}
noncomputable abbrev fdivS (a : Nat) (s : Tok) (b : Nat) (u : Tok) : Mine.Spec := pureS "int.__floordiv__" [.int (Int.ofNat a) s, .int (Int.ofNat b) u] (fun t => .int (Int.ofNat (a / b)) t) 1
theorem fdivV (a : Nat) (s : Tok) (b : Nat) (u : Tok) (h0 : b ≠ 0) (hb : b < 1000000) : (fdivS a s b u).Valid (model prog w) st := by
  have g := PySem.AutoIntG4.int___floordiv___int_int_1 (Int.ofNat a) s (Int.ofNat b) u (by simp; exact h0) (by
    rw [PyProof.noPylong_of_log2]
    · exact Bool.false_ne_true
    · show Nat.log2 b < 9000
      have h20 : b < 2 ^ 20 := by omega
      have := (Nat.log2_lt h0).mpr h20
      omega)
  have e : (Int.ofNat a).fdiv (Int.ofNat b) = Int.ofNat (a / b) := by
    cases b with
    | zero => exact absurd rfl h0
    | succ b => cases a <;> first | rfl | simp [Int.fdiv]
  rw [e] at g
  exact pure_int (by decide +kernel) entry_ifd g
noncomputable abbrev mulS (a : Nat) (s : Tok) (b : Nat) (u : Tok) : Mine.Spec := pureS "int.__mul__" [.int (Int.ofNat a) s, .int (Int.ofNat b) u] (fun t => .int (Int.ofNat (a * b)) t) 1
theorem mulV (a : Nat) (s : Tok) (b : Nat) (u : Tok) (hb : b < 1000000) : (mulS a s b u).Valid (model prog w) st :=
  pure_int (by decide +kernel) PySem.F.entry_int_mul (gives_int_mul (Int.ofNat a) (Int.ofNat b) s u (mulOk hb))
end
section
variable (w : World) (b1 b2 : Bool) (b : List Stmt) (e : Env) (fe : Expr) (fi : Value) (fb fo : List Stmt) (fv : Env)
noncomputable def forCds (fe : Expr) (fi : Value) (fb fo : List Stmt) (fv : Env) (b : List Stmt) (e : Env) : List Code := .forLoop fe fi fb fo fv :: lawCds b e
noncomputable def colCds (w : World) (fr : Addr) (fe : Expr) (fi : Value) (fb fo : List Stmt) (fv : Env) (b : List Stmt) (e : Env) : List Code := .func (bodyOf (colF w)) (funEnv (colF w) fr "_law_column.<locals>." 218 217) :: forCds fe fi fb fo fv b e
noncomputable def colPre (w : World) (it fr : Addr) (K : Nat → Tok) (x : Str) (k : Tok) (size : Nat) (ks : Tok) (i : Nat) (col : Nat) (kc : Tok) (fs : Option (Tok × Value)) : List Ent := [(fr, colFr w.params K (.str x k) (.int (Int.ofNat size) ks) (.int (Int.ofNat col) kc) fs), (it, sitO x k i)]
variable (it fr : Addr) (K : Nat → Tok) (x : Str) (k : Tok) (size : Nat) (ks : Tok)
theorem col_space (i : Nat) (col : Nat) (kc : Tok) (fs : Option (Tok × Value)) (n t : Nat) (er : Result) (en et : Nat) (p1 p2 : Obj) (hx : x.cps.toList[i]? = some 32)
    (V : (mk (colLoop (colF (Wf w b1 b2)) it fr) none (colCds (Wf w b1 b2) fr fe fi fb fo fv b e) n (t + 6) (colPre (Wf w b1 b2) it fr K x k size ks (i + 1) (col + 1) (t + 4) (some (kOf fs (t + 1), chV 32 t))) ⟨er, en, et, [p1, p2], []⟩).Valid (model prog (Wf w b1 b2)) (stW (Wf w b1 b2))) :
    (mk (colLoop (colF (Wf w b1 b2)) it fr) none (colCds (Wf w b1 b2) fr fe fi fb fo fv b e) n t (colPre (Wf w b1 b2) it fr K x k size ks i col kc fs) ⟨er, en, et, [p1, p2], []⟩).Valid (model prog (Wf w b1 b2)) (stW (Wf w b1 b2)) := by
  refine mk_valid 300 21864476535847147466851135384003358523394 [snextS it x k i 32, eqS ⟨#[32]⟩ t " " (t + 2) true, _] (all_cons (snextV _ _ _ _ _ hx) (all_cons (eqV _ _ _ _ _ (by decide +kernel)) (all_cons V all_nil))) rfl ?_
  intro p q
  rcases fs with _ | ⟨kf, vf⟩ <;> (generalize b2 = c2; revert c2; refine split1 ?_ ?_ <;> kernel_rfl)
theorem col_tab (i : Nat) (col : Nat) (kc : Tok) (fs : Option (Tok × Value)) (n t : Nat) (er : Result) (en et : Nat) (p1 p2 : Obj) (hx : x.cps.toList[i]? = some 9) (h0 : size ≠ 0) (h1 : size < 1000000)
    (V : (mk (colLoop (colF (Wf w b1 b2)) it fr) none (colCds (Wf w b1 b2) fr fe fi fb fo fv b e) n (t + 8) (colPre (Wf w b1 b2) it fr K x k size ks (i + 1) ((col / size + 1) * size) (t + 6) (some (kOf fs (t + 1), chV 9 t))) ⟨er, en, et, [p1, p2], []⟩).Valid (model prog (Wf w b1 b2)) (stW (Wf w b1 b2))) :
    (mk (colLoop (colF (Wf w b1 b2)) it fr) none (colCds (Wf w b1 b2) fr fe fi fb fo fv b e) n t (colPre (Wf w b1 b2) it fr K x k size ks i col kc fs) ⟨er, en, et, [p1, p2], []⟩).Valid (model prog (Wf w b1 b2)) (stW (Wf w b1 b2)) := by
  refine mk_valid 300 96160984745597903976166392864621702899824020827439106 [snextS it x k i 9, eqS ⟨#[9]⟩ t " " (t + 2) false, fdivS col kc size ks, mulS (col / size + 1) (t + 5) size ks, _] (all_cons (snextV _ _ _ _ _ hx) (all_cons (eqV _ _ _ _ _ (by decide +kernel)) (all_cons (fdivV _ _ _ _ h0 h1) (all_cons (mulV _ _ _ _ h1) (all_cons V all_nil))))) rfl ?_
  intro p q
  rcases fs with _ | ⟨kf, vf⟩ <;> (generalize b2 = c2; revert c2; refine split1 ?_ ?_ <;> kernel_rfl)
theorem col_end (i : Nat) (col : Nat) (kc : Tok) (fs : Option (Tok × Value)) (n t : Nat) (hx : x.cps.toList[i]? = none) :
    (mk (colLoop (colF (Wf w b1 b2)) it fr) none (colCds (Wf w b1 b2) fr fe fi fb fo fv b e) n t (colPre (Wf w b1 b2) it fr K x k size ks i col kc fs) ⟨.ok .next, n + 2, t, [colFr (Wf w b1 b2).params K (.str x k) (.int (Int.ofNat size) ks) (.int (Int.ofNat col) kc) fs, sitX i], []⟩).Valid (model prog (Wf w b1 b2)) (stW (Wf w b1 b2)) := by
  refine mk_valid 300 144678276007231490 [sendS (colLoop (colF (Wf w b1 b2)) it fr :: colCds (Wf w b1 b2) fr fe fi fb fo fv b e) it x k i] (all_cons (sendV _ _ _ _ _ hx) all_nil) rfl ?_
  intro p q
  rcases fs with _ | ⟨kf, vf⟩ <;> (generalize b2 = c2; revert c2; refine split1 ?_ ?_ <;> kernel_rfl)
theorem col_loop (h0 : size ≠ 0) (h1 : size < 1000000) : ∀ (rest : List Nat) (i col : Nat) (kc : Tok) (fs : Option (Tok × Value)) (n t : Nat), x.cps.toList.drop i = rest → (∀ c ∈ rest, c = 32 ∨ c = 9) →
    ∃ (n' t' i' kc' : Nat) (fs' : Option (Tok × Value)), (mk (colLoop (colF (Wf w b1 b2)) it fr) none (colCds (Wf w b1 b2) fr fe fi fb fo fv b e) n t (colPre (Wf w b1 b2) it fr K x k size ks i col kc fs) ⟨.ok .next, n', t', [colFr (Wf w b1 b2).params K (.str x k) (.int (Int.ofNat size) ks) (.int (Int.ofNat (colL size rest col)) kc') fs', sitX i'], []⟩).Valid (model prog (Wf w b1 b2)) (stW (Wf w b1 b2)) := by
  intro rest
  induction rest with
  | nil =>
    intro i col kc fs n t hx _
    have hn : x.cps.toList[i]? = none := List.getElem?_eq_none_iff.mpr (List.drop_eq_nil_iff.mp hx)
    exact ⟨n + 2, t, i, kc, fs, col_end w b1 b2 b e fe fi fb fo fv it fr K x k size ks i col kc fs n t hn⟩
  | cons c rest ih =>
    intro i col kc fs n t hx hc
    have hs : x.cps.toList[i]? = some c := by
      have := congrArg (fun l => l[0]?) hx
      simpa using this
    have hd : x.cps.toList.drop (i + 1) = rest := by
      have := congrArg List.tail hx
      simpa using this
    have hc' : ∀ c ∈ rest, c = 32 ∨ c = 9 := fun c h => hc c (List.mem_cons_of_mem _ h)
    rcases hc c (List.mem_cons_self ..) with rfl | rfl
    · obtain ⟨n', t', i', kc', fs', V⟩ := ih (i + 1) (col + 1) (t + 4) (some (kOf fs (t + 1), chV 32 t)) n (t + 6) hd hc'
      exact ⟨n', t', i', kc', fs', col_space w b1 b2 b e fe fi fb fo fv it fr K x k size ks i col kc fs n t _ _ _ _ _ hs V⟩
    · obtain ⟨n', t', i', kc', fs', V⟩ := ih (i + 1) ((col / size + 1) * size) (t + 6) (some (kOf fs (t + 1), chV 9 t)) n (t + 8) hd hc'
      exact ⟨n', t', i', kc', fs', col_tab w b1 b2 b e fe fi fb fo fv it fr K x k size ks i col kc fs n t _ _ _ _ _ hs h0 h1 V⟩
noncomputable abbrev colC (x : Str) (k : Tok) (size : Nat) (ks : Tok) : Code := .call (.ref 218) ⟨[.str x k, .int (Int.ofNat size) ks], []⟩
/-- _law_column whole -/
theorem colV (n t : Nat) (h0 : size ≠ 0) (h1 : size < 1000000) (ha : ascii x = true) (hc : ∀ c ∈ x.cps.toList, c = 32 ∨ c = 9) : ∃ (n' t' k' : Nat),
    (mk (colC x k size ks) none (forCds fe fi fb fo fv b e) n t [] ⟨.ok (.ret (.int (Int.ofNat (colL size x.cps.toList 0)) k')), n', t', [], []⟩).Valid (model prog (Wf w b1 b2)) (stW (Wf w b1 b2)) := by
  obtain ⟨n', t', i', kc', fs', V⟩ := col_loop w b1 b2 b e fe fi fb fo fv (n + 1) n (Kf [t, t + 1, t + 3]) x k size ks h0 h1 x.cps.toList 0 0 (t + 2) none (n + 2) (t + 4) rfl hc
  refine ⟨n', t', kc', ?_⟩
  refine mk_valid 300 675039478312489112249568340803076096 [siterS x k, _] (all_cons (siterV x k ha) (all_cons V all_nil)) rfl ?_
  intro p q
  rcases fs' with _ | ⟨kf, vf⟩ <;> (generalize b2 = c2; revert c2; refine split1 ?_ ?_ <;> kernel_rfl)
end
end
end Mine

namespace Mine
section
open PySem PySem.W
noncomputable def lcA : Stmt → Expr
  | .Assign _ (.Call _ (lc :: _) _ _) _ => lc
  | .Return (some (.Call _ (lc :: _) _ _)) _ => lc
  | _ => default
/-- the two comprehensions of _law_spelled -/
noncomputable def swc (f : FuncData) (two : Bool) : Expr := match two with
  | true => lcA ((ifOf ((bodyOf f).getD 0 default)).1.getD 0 default)
  | false => lcA ((bodyOf f).getD 2 default)
noncomputable def ownScope (s : Scope) : Scope := { s with names := s.names.map fun x => match x.2 with | .free => (x.1, .cell) | _ => x }
noncomputable def swEnv (f : FuncData) (two : Bool) (loc fr cell : Addr) : Env := { scope := ownScope (scOf (swc f two)), locals := loc, globals := 3, cells := match two with | true => [] | false => [("hidden", cell)], qual := "_law_spelled.<locals>.", func := none, code := .ref 198, frame := some fr, builtins := 0 }
noncomputable def swLoop (f : FuncData) (two : Bool) (it acc loc fr cell : Addr) : Code := .compLoop (swc f two) 0 (.ref it) (.ref acc) (swEnv f two loc fr cell)
noncomputable def swFEnv (f : FuncData) (fr cell : Addr) : Env := { scope := f.scope, locals := fr, globals := 3, cells := [("hidden", cell)], qual := "_law_spelled.<locals>.", func := some 199, code := .ref 198, frame := some fr, builtins := 0 }
end
end Mine

namespace Mine
section
open PySem PySem.W Sem
noncomputable def occ (hid : Str) (c : Nat) : Bool := !(PySem.Builtin.Str.occurrences hid ⟨#[c]⟩ 0 hid.length 1).isEmpty
noncomputable def spellL (esc : Nat → Bool) : List Nat → List Nat
  | [] => []
  | c :: l => (if esc c then [92, c] else [c]) ++ spellL esc l
noncomputable def swF (w : World) : FuncData := fdOf (hd.o_250 w.params)
noncomputable def swCds (w : World) (fr cell : Addr) (b : List Stmt) (e : Env) : List Code := .func (bodyOf (swF w)) (swFEnv (swF w) fr cell) :: lawCds b e
noncomputable def swPre (w : World) (it acc loc : Addr) (x : Str) (k : Tok) (i : Nat) (ys : Array Value) (ep : Nat) (fs : Option (Tok × Value)) (more : List Ent) : List Ent := (it, sitO x k i) :: (acc, lstO ys ep) :: (loc, oneO w.params "sign" fs) :: more
section
variable (w : World) (b1 b2 : Bool) (b : List Stmt) (e : Env) (it acc loc fr cell : Addr) (x : Str) (k : Tok) (hid : Str) (kh : Tok)
theorem sw_yes (i c : Nat) (ys : Array Value) (ep : Nat) (fs : Option (Tok × Value)) (n t : Nat) (er : Result) (en et : Nat) (p1 p2 p3 p4 : Obj) (hx : x.cps.toList[i]? = some c) (hy : ys.size ≤ sizeLine) (ho : occ hid c = true)
    (V : (mk (swLoop (swF (Wf w b1 b2)) false it acc loc fr cell) none (swCds (Wf w b1 b2) fr cell b e) n (t + 4) (swPre (Wf w b1 b2) it acc loc x k (i + 1) (ys.push (.str (⟨#[92]⟩ ++ ⟨#[c]⟩) (t + 3))) (ep + 1) (some (kOf fs (t + 1), chV c t)) [(cell, cellO (.str hid kh))]) ⟨er, en, et, [p1, p2, p3, p4], []⟩).Valid (model prog (Wf w b1 b2)) (stW (Wf w b1 b2))) :
    (mk (swLoop (swF (Wf w b1 b2)) false it acc loc fr cell) none (swCds (Wf w b1 b2) fr cell b e) n t (swPre (Wf w b1 b2) it acc loc x k i ys ep fs [(cell, cellO (.str hid kh))]) ⟨er, en, et, [p1, p2, p3, p4], []⟩).Valid (model prog (Wf w b1 b2)) (stW (Wf w b1 b2)) := by
  refine mk_valid 300 24664351414533855684841422458247802449111308643587866625 [snextS it x k i c, inS hid kh ⟨#[c]⟩ t true, addS ⟨#[92]⟩ (t + 2) ⟨#[c]⟩ t, appS acc ys ep (.str (⟨#[92]⟩ ++ ⟨#[c]⟩) (t + 3)), _] (all_cons (snextV _ _ _ _ _ hx) (all_cons (inV _ _ _ _ _ ho) (all_cons (addV _ _ _ _ rfl rfl (by show 2 ≤ 16777216; omega)) (all_cons (appV _ _ _ _ hy) (all_cons V all_nil))))) rfl ?_
  intro p q
  rcases fs with _ | ⟨kf, vf⟩ <;> (generalize b2 = c2; revert c2; refine split1 ?_ ?_ <;> kernel_rfl)
theorem sw_no (i c : Nat) (ys : Array Value) (ep : Nat) (fs : Option (Tok × Value)) (n t : Nat) (er : Result) (en et : Nat) (p1 p2 p3 p4 : Obj) (hx : x.cps.toList[i]? = some c) (hy : ys.size ≤ sizeLine) (ho : occ hid c = false)
    (V : (mk (swLoop (swF (Wf w b1 b2)) false it acc loc fr cell) none (swCds (Wf w b1 b2) fr cell b e) n (t + 2) (swPre (Wf w b1 b2) it acc loc x k (i + 1) (ys.push (chV c t)) (ep + 1) (some (kOf fs (t + 1), chV c t)) [(cell, cellO (.str hid kh))]) ⟨er, en, et, [p1, p2, p3, p4], []⟩).Valid (model prog (Wf w b1 b2)) (stW (Wf w b1 b2))) :
    (mk (swLoop (swF (Wf w b1 b2)) false it acc loc fr cell) none (swCds (Wf w b1 b2) fr cell b e) n t (swPre (Wf w b1 b2) it acc loc x k i ys ep fs [(cell, cellO (.str hid kh))]) ⟨er, en, et, [p1, p2, p3, p4], []⟩).Valid (model prog (Wf w b1 b2)) (stW (Wf w b1 b2)) := by
  refine mk_valid 300 1505392542390982402639246976514798317966138923827201 [snextS it x k i c, inS hid kh ⟨#[c]⟩ t false, appS acc ys ep (chV c t), _] (all_cons (snextV _ _ _ _ _ hx) (all_cons (inV _ _ _ _ _ ho) (all_cons (appV _ _ _ _ hy) (all_cons V all_nil)))) rfl ?_
  intro p q
  rcases fs with _ | ⟨kf, vf⟩ <;> (generalize b2 = c2; revert c2; refine split1 ?_ ?_ <;> kernel_rfl)
theorem sw_end (i : Nat) (ys : Array Value) (ep : Nat) (fs : Option (Tok × Value)) (n t : Nat) (hx : x.cps.toList[i]? = none) :
    (mk (swLoop (swF (Wf w b1 b2)) false it acc loc fr cell) none (swCds (Wf w b1 b2) fr cell b e) n t (swPre (Wf w b1 b2) it acc loc x k i ys ep fs [(cell, cellO (.str hid kh))]) ⟨.ok .next, n + 2, t, [sitX i, lstO ys ep, oneO (Wf w b1 b2).params "sign" fs, cellO (.str hid kh)], []⟩).Valid (model prog (Wf w b1 b2)) (stW (Wf w b1 b2)) := by
  refine mk_valid 300 37110791433915219969 [sendS (swLoop (swF (Wf w b1 b2)) false it acc loc fr cell :: swCds (Wf w b1 b2) fr cell b e) it x k i] (all_cons (sendV _ _ _ _ _ hx) all_nil) rfl ?_
  intro p q
  rcases fs with _ | ⟨kf, vf⟩ <;> (generalize b2 = c2; revert c2; refine split1 ?_ ?_ <;> kernel_rfl)
theorem sw2_yes (i c : Nat) (ys : Array Value) (ep : Nat) (fs : Option (Tok × Value)) (n t : Nat) (er : Result) (en et : Nat) (p1 p2 p3 : Obj) (hx : x.cps.toList[i]? = some c) (hy : ys.size ≤ sizeLine)
    (V : (mk (swLoop (swF (Wf w b1 b2)) true it acc loc fr cell) none (swCds (Wf w b1 b2) fr cell b e) n (t + 4) (swPre (Wf w b1 b2) it acc loc x k (i + 1) (ys.push (.str (⟨#[92]⟩ ++ ⟨#[c]⟩) (t + 3))) (ep + 1) (some (kOf fs (t + 1), chV c t)) []) ⟨er, en, et, [p1, p2, p3], []⟩).Valid (model prog (Wf w b1 b2)) (stW (Wf w b1 b2))) :
    (mk (swLoop (swF (Wf w b1 b2)) true it acc loc fr cell) none (swCds (Wf w b1 b2) fr cell b e) n t (swPre (Wf w b1 b2) it acc loc x k i ys ep fs []) ⟨er, en, et, [p1, p2, p3], []⟩).Valid (model prog (Wf w b1 b2)) (stW (Wf w b1 b2)) := by
  refine mk_valid 300 4203254871066636233021504940951918537097217 [snextS it x k i c, addS ⟨#[92]⟩ (t + 2) ⟨#[c]⟩ t, appS acc ys ep (.str (⟨#[92]⟩ ++ ⟨#[c]⟩) (t + 3)), _] (all_cons (snextV _ _ _ _ _ hx) (all_cons (addV _ _ _ _ rfl rfl (by show 2 ≤ 16777216; omega)) (all_cons (appV _ _ _ _ hy) (all_cons V all_nil)))) rfl ?_
  intro p q
  rcases fs with _ | ⟨kf, vf⟩ <;> (generalize b2 = c2; revert c2; refine split1 ?_ ?_ <;> kernel_rfl)
theorem sw2_end (i : Nat) (ys : Array Value) (ep : Nat) (fs : Option (Tok × Value)) (n t : Nat) (hx : x.cps.toList[i]? = none) :
    (mk (swLoop (swF (Wf w b1 b2)) true it acc loc fr cell) none (swCds (Wf w b1 b2) fr cell b e) n t (swPre (Wf w b1 b2) it acc loc x k i ys ep fs []) ⟨.ok .next, n + 2, t, [sitX i, lstO ys ep, oneO (Wf w b1 b2).params "sign" fs], []⟩).Valid (model prog (Wf w b1 b2)) (stW (Wf w b1 b2)) := by
  refine mk_valid 300 217303252136378369 [sendS (swLoop (swF (Wf w b1 b2)) true it acc loc fr cell :: swCds (Wf w b1 b2) fr cell b e) it x k i] (all_cons (sendV _ _ _ _ _ hx) all_nil) rfl ?_
  intro p q
  rcases fs with _ | ⟨kf, vf⟩ <;> (generalize b2 = c2; revert c2; refine split1 ?_ ?_ <;> kernel_rfl)
end
end
end Mine

namespace Mine
section
open PySem PySem.W Sem
theorem chV_push (ys : List (Str × Tok)) (c : Nat) (k : Tok) : (strVs ys).push (chV c k) = strVs (ys ++ [(⟨#[c]⟩, k)]) := StrVsPush ys ⟨#[c]⟩ k
theorem two_signs (c : Nat) : ((⟨#[92]⟩ : Str) ++ ⟨#[c]⟩).cps.toList = [92, c] := rfl
theorem spell_len (esc : Nat → Bool) : ∀ l : List Nat, (spellL esc l).length ≤ 2 * l.length
  | [] => Nat.le_refl _
  | c :: l => by
    have := spell_len esc l
    show ((if esc c then [92, c] else [c]) ++ spellL esc l).length ≤ 2 * (l.length + 1)
    rw [List.length_append]
    cases esc c <;> simp <;> omega
section
variable (w : World) (b1 b2 : Bool) (b : List Stmt) (e : Env) (it acc loc fr cell : Addr) (x : Str) (k : Tok) (hid : Str) (kh : Tok)
theorem strVs_size (ys : List (Str × Tok)) : (strVs ys).size = ys.length := by simp [strVs, strValues]
theorem sw_loop : ∀ (rest : List Nat) (i : Nat) (ys : List (Str × Tok)) (ep : Nat) (fs : Option (Tok × Value)) (n t : Nat), x.cps.toList.drop i = rest → ys.length + rest.length ≤ 1000000 →
    ∃ (n' t' i' : Nat) (ys' : List (Str × Tok)) (ep' : Nat) (fs' : Option (Tok × Value)), cat ys' = cat ys ++ spellL (occ hid) rest ∧
      (mk (swLoop (swF (Wf w b1 b2)) false it acc loc fr cell) none (swCds (Wf w b1 b2) fr cell b e) n t (swPre (Wf w b1 b2) it acc loc x k i (strVs ys) ep fs [(cell, cellO (.str hid kh))]) ⟨.ok .next, n', t', [sitX i', lstO (strVs ys') ep', oneO (Wf w b1 b2).params "sign" fs', cellO (.str hid kh)], []⟩).Valid (model prog (Wf w b1 b2)) (stW (Wf w b1 b2)) := by
  intro rest
  have hsl : sizeLine = 16777216 := rfl
  induction rest with
  | nil =>
    intro i ys ep fs n t hx _
    have hn : x.cps.toList[i]? = none := List.getElem?_eq_none_iff.mpr (List.drop_eq_nil_iff.mp hx)
    exact ⟨n + 2, t, i, ys, ep, fs, by simp [spellL], sw_end w b1 b2 b e it acc loc fr cell x k hid kh i _ ep fs n t hn⟩
  | cons c rest ih =>
    intro i ys ep fs n t hx hz
    have hs : x.cps.toList[i]? = some c := by
      have := congrArg (fun l => l[0]?) hx
      simpa using this
    have hd : x.cps.toList.drop (i + 1) = rest := by
      have := congrArg List.tail hx
      simpa using this
    have hz' : ys.length + (rest.length + 1) ≤ 1000000 := hz
    cases ho : occ hid c with
    | true =>
      obtain ⟨n', t', i', ys', ep', fs', hc, V⟩ := ih (i + 1) (ys ++ [(⟨#[92]⟩ ++ ⟨#[c]⟩, t + 3)]) (ep + 1) (some (kOf fs (t + 1), chV c t)) n (t + 4) hd (by simp; omega)
      rw [← StrVsPush] at V
      refine ⟨n', t', i', ys', ep', fs', ?_, sw_yes w b1 b2 b e it acc loc fr cell x k hid kh i c _ ep fs n t _ _ _ _ _ _ _ hs (by rw [strVs_size]; omega) ho V⟩
      rw [hc, cat_append]
      simp [spellL, ho, cat, two_signs]
    | false =>
      obtain ⟨n', t', i', ys', ep', fs', hc, V⟩ := ih (i + 1) (ys ++ [(⟨#[c]⟩, t)]) (ep + 1) (some (kOf fs (t + 1), chV c t)) n (t + 2) hd (by simp; omega)
      rw [← chV_push] at V
      refine ⟨n', t', i', ys', ep', fs', ?_, sw_no w b1 b2 b e it acc loc fr cell x k hid kh i c _ ep fs n t _ _ _ _ _ _ _ hs (by rw [strVs_size]; omega) ho V⟩
      rw [hc, cat_append]
      simp [spellL, ho, cat]
theorem sw2_loop : ∀ (rest : List Nat) (i : Nat) (ys : List (Str × Tok)) (ep : Nat) (fs : Option (Tok × Value)) (n t : Nat), x.cps.toList.drop i = rest → ys.length + rest.length ≤ 1000000 →
    ∃ (n' t' i' : Nat) (ys' : List (Str × Tok)) (ep' : Nat) (fs' : Option (Tok × Value)), cat ys' = cat ys ++ spellL (fun _ => true) rest ∧
      (mk (swLoop (swF (Wf w b1 b2)) true it acc loc fr cell) none (swCds (Wf w b1 b2) fr cell b e) n t (swPre (Wf w b1 b2) it acc loc x k i (strVs ys) ep fs []) ⟨.ok .next, n', t', [sitX i', lstO (strVs ys') ep', oneO (Wf w b1 b2).params "sign" fs'], []⟩).Valid (model prog (Wf w b1 b2)) (stW (Wf w b1 b2)) := by
  intro rest
  have hsl : sizeLine = 16777216 := rfl
  induction rest with
  | nil =>
    intro i ys ep fs n t hx _
    have hn : x.cps.toList[i]? = none := List.getElem?_eq_none_iff.mpr (List.drop_eq_nil_iff.mp hx)
    exact ⟨n + 2, t, i, ys, ep, fs, by simp [spellL], sw2_end w b1 b2 b e it acc loc fr cell x k i _ ep fs n t hn⟩
  | cons c rest ih =>
    intro i ys ep fs n t hx hz
    have hs : x.cps.toList[i]? = some c := by
      have := congrArg (fun l => l[0]?) hx
      simpa using this
    have hd : x.cps.toList.drop (i + 1) = rest := by
      have := congrArg List.tail hx
      simpa using this
    have hz' : ys.length + (rest.length + 1) ≤ 1000000 := hz
    obtain ⟨n', t', i', ys', ep', fs', hc, V⟩ := ih (i + 1) (ys ++ [(⟨#[92]⟩ ++ ⟨#[c]⟩, t + 3)]) (ep + 1) (some (kOf fs (t + 1), chV c t)) n (t + 4) hd (by simp; omega)
    rw [← StrVsPush] at V
    refine ⟨n', t', i', ys', ep', fs', ?_, sw2_yes w b1 b2 b e it acc loc fr cell x k i c _ ep fs n t _ _ _ _ _ _ hs (by rw [strVs_size]; omega) V⟩
    rw [hc, cat_append]
    simp [spellL, cat, two_signs]
noncomputable abbrev swC (x : Str) (k : Tok) (form : Int) (kf : Tok) : Code := .call (.ref 199) ⟨[.str x k, .int form kf], []⟩
/-- _law_spelled whole, form 2 -/
theorem sw2V (kf : Tok) (n t : Nat) (ha : ascii x = true) (hz : x.cps.toList.length ≤ 1000000) : ∃ (n' t' k' : Nat),
    (mk (swC x k 2 kf) none (lawCds b e) n t [] ⟨.ok (.ret (.str ⟨⟨spellL (fun _ => true) x.cps.toList⟩⟩ k')), n', t', [], []⟩).Valid (model prog (Wf w b1 b2)) (stW (Wf w b1 b2)) := by
  obtain ⟨n1, t1, i', ys, ep, fs, hc, VL⟩ := sw2_loop w b1 b2 b e (n + 2) (n + 3) (n + 4) n (n + 1) x k x.cps.toList 0 [] 0 none (n + 5) (t + 4) rfl (by simpa using hz)
  have hsl : sizeLine = 16777216 := rfl
  have hc' : cat ys = spellL (fun _ => true) x.cps.toList := hc
  have hcl : (cat ys).length ≤ sizeLine := by
    rw [hc']
    have := spell_len (fun _ => true) x.cps.toList
    omega
  obtain ⟨k2, t2, VJ⟩ := join_give (w := (Wf w b1 b2)) (st := stW (Wf w b1 b2)) (n + 3) ys ep (t + 3) n1 t1 (join_ok hcl) hcl
  rw [← hc']
  refine ⟨n1, t2, k2, ?_⟩
  rcases fs with _ | ⟨kg, vg⟩ <;> cases b1
  · refine mk_valid 300 51522481934922491345300928053607887208370278795036354379005952 [siterS x k, _, _] (all_cons (siterV x k ha) (all_cons VL (all_cons VJ all_nil))) rfl ?_
    intro p q
    (generalize b2 = c2; revert c2; refine split1 ?_ ?_ <;> kernel_rfl)
  · refine mk_valid 300 11714856085500853354060985474759254640773627396096 [siterS x k, _, _] (all_cons (siterV x k ha) (all_cons VL (all_cons VJ all_nil))) rfl ?_
    intro p q
    (generalize b2 = c2; revert c2; refine split1 ?_ ?_ <;> kernel_rfl)
  · refine mk_valid 300 844144344027996983792271511680910974535513299467741055369716187136 [siterS x k, _, _] (all_cons (siterV x k ha) (all_cons VL (all_cons VJ all_nil))) rfl ?_
    intro p q
    (generalize b2 = c2; revert c2; refine split1 ?_ ?_ <;> kernel_rfl)
  · refine mk_valid 300 191936202106261813194519266609507821069481023906004992 [siterS x k, _, _] (all_cons (siterV x k ha) (all_cons VL (all_cons VJ all_nil))) rfl ?_
    intro p q
    (generalize b2 = c2; revert c2; refine split1 ?_ ?_ <;> kernel_rfl)
/-- _law_spelled whole, form 1 -/
theorem sw1V (kf : Tok) (n t : Nat) (ha : ascii x = true) (hz : x.cps.toList.length ≤ 1000000) : ∃ (n' t' k' : Nat),
    (mk (swC x k 1 kf) none (lawCds b e) n t [] ⟨.ok (.ret (.str ⟨⟨spellL (occ "\\ \t\n\r") x.cps.toList⟩⟩ k')), n', t', [], []⟩).Valid (model prog (Wf w b1 b2)) (stW (Wf w b1 b2)) := by
  obtain ⟨n1, t1, i', ys, ep, fs, hc, VL⟩ := sw_loop w b1 b2 b e (n + 2) (n + 3) (n + 4) n (n + 1) x k "\\ \t\n\r" (t + 4) x.cps.toList 0 [] 0 none (n + 5) (t + 6) rfl (by simpa using hz)
  have hsl : sizeLine = 16777216 := rfl
  have hc' : cat ys = spellL (occ "\\ \t\n\r") x.cps.toList := hc
  have hcl : (cat ys).length ≤ sizeLine := by
    rw [hc']
    have := spell_len (occ "\\ \t\n\r") x.cps.toList
    omega
  obtain ⟨k2, t2, VJ⟩ := join_give (w := (Wf w b1 b2)) (st := stW (Wf w b1 b2)) (n + 3) ys ep (t + 5) n1 t1 (join_ok hcl) hcl
  rw [← hc']
  refine ⟨n1, t2 + 2, k2, ?_⟩
  rcases fs with _ | ⟨kg, vg⟩ <;> cases b1
  · refine mk_valid 300 248661737709793017836624152952244555606165296284232800515931953038801456926724857020416 [siterS x k, _, _] (all_cons (siterV x k ha) (all_cons VL (all_cons VJ all_nil))) rfl ?_
    intro p q
    (generalize b2 = c2; revert c2; refine split1 ?_ ?_ <;> kernel_rfl)
  · refine mk_valid 300 56539133245176576073532522275906173623024455060727661863351468429261422592 [siterS x k, _, _] (all_cons (siterV x k ha) (all_cons VL (all_cons VJ all_nil))) rfl ?_
    intro p q
    (generalize b2 = c2; revert c2; refine split1 ?_ ?_ <;> kernel_rfl)
  · refine mk_valid 300 4074073910637248804245602323570170382846153630196920075621086103029314278184677465418383360 [siterS x k, _, _] (all_cons (siterV x k ha) (all_cons VL (all_cons VJ all_nil))) rfl ?_
    intro p q
    (generalize b2 = c2; revert c2; refine split1 ?_ ?_ <;> kernel_rfl)
  · refine mk_valid 300 926337159088973022391110663095371447661621064543519457163319154332748736380928 [siterS x k, _, _] (all_cons (siterV x k ha) (all_cons VL (all_cons VJ all_nil))) rfl ?_
    intro p q
    (generalize b2 = c2; revert c2; refine split1 ?_ ?_ <;> kernel_rfl)
/-- _law_spelled whole, form 0 -/
theorem sw0V (kf : Tok) (n t : Nat) (ha : ascii x = true) (hz : x.cps.toList.length ≤ 1000000) : ∃ (n' t' k' : Nat),
    (mk (swC x k 0 kf) none (lawCds b e) n t [] ⟨.ok (.ret (.str ⟨⟨34 :: (spellL (occ "\"\\") x.cps.toList ++ [34])⟩⟩ k')), n', t', [], []⟩).Valid (model prog (Wf w b1 b2)) (stW (Wf w b1 b2)) := by
  obtain ⟨n1, t1, i', ys, ep, fs, hc, VL⟩ := sw_loop w b1 b2 b e (n + 2) (n + 3) (n + 4) n (n + 1) x k "\"\\" (t + 4) x.cps.toList 0 [] 0 none (n + 5) (t + 6) rfl (by simpa using hz)
  have hsl : sizeLine = 16777216 := rfl
  have hc' : cat ys = spellL (occ "\"\\") x.cps.toList := hc
  have hle : (cat ys).length ≤ 2000000 := by
    rw [hc']
    have := spell_len (occ "\"\\") x.cps.toList
    omega
  obtain ⟨k2, t2, VJ⟩ := join_give (w := (Wf w b1 b2)) (st := stW (Wf w b1 b2)) (n + 3) ys ep (t + 5) n1 t1 (join_ok (by omega)) (by omega)
  obtain ⟨k3, t3, VA⟩ := add_give (w := (Wf w b1 b2)) (st := stW (Wf w b1 b2)) ⟨#[34]⟩ ⟨⟨cat ys⟩⟩ (t2 + 2) k2 n1 (t2 + 3) (by
    show ((#[34] : Array Nat) ++ (⟨cat ys⟩ : Array Nat)).size ≤ _
    rw [Array.size_append]
    show 1 + (cat ys).length ≤ _
    omega)
  obtain ⟨k4, t4, VB⟩ := add_give (w := (Wf w b1 b2)) (st := stW (Wf w b1 b2)) ((⟨#[34]⟩ : Str) ++ (⟨⟨cat ys⟩⟩ : Str)) ⟨#[34]⟩ k3 t3 n1 (t3 + 1) (by
    show ((#[34] : Array Nat) ++ (⟨cat ys⟩ : Array Nat) ++ #[34]).size ≤ _
    rw [Array.size_append, Array.size_append]
    show 1 + (cat ys).length + 1 ≤ _
    omega)
  have e4 : ((⟨#[34]⟩ : Str) ++ (⟨⟨cat ys⟩⟩ : Str)) ++ (⟨#[34]⟩ : Str) = ⟨⟨34 :: (spellL (occ "\"\\") x.cps.toList ++ [34])⟩⟩ := by
    apply Str.ext'
    show ((#[34] : Array Nat) ++ (⟨cat ys⟩ : Array Nat) ++ #[34]).toList = _
    rw [hc']
    simp
  rw [← e4]
  refine ⟨n1, t4, k4, ?_⟩
  rcases fs with _ | ⟨kg, vg⟩ <;> cases b1
  · refine mk_valid 300 66753669193142846756809983045799475289901174866598027217579123041275028232046000788354789031936 [siterS x k, _, _, _, _] (all_cons (siterV x k ha) (all_cons VL (all_cons VJ (all_cons VA (all_cons VB all_nil))))) rfl ?_
    intro p q
    (generalize b2 = c2; revert c2; refine split1 ?_ ?_ <;> kernel_rfl)
  · refine mk_valid 300 15178027113766540141298260788471333237312803212996620195019761975108721462464233472 [siterS x k, _, _, _, _] (all_cons (siterV x k ha) (all_cons VL (all_cons VJ (all_cons VA (all_cons VB all_nil))))) rfl ?_
    intro p q
    (generalize b2 = c2; revert c2; refine split1 ?_ ?_ <;> kernel_rfl)
  · refine mk_valid 300 1093692116060452401263574762232730804750336432809083493808866223876307046995432884813622271495127040 [siterS x k, _, _, _, _] (all_cons (siterV x k ha) (all_cons VL (all_cons VJ (all_cons VA (all_cons VB all_nil))))) rfl ?_
    intro p q
    (generalize b2 = c2; revert c2; refine split1 ?_ ?_ <;> kernel_rfl)
  · refine mk_valid 300 248676796231950993675030704760668141887057666863725018103761225394349988028743589838848 [siterS x k, _, _, _, _] (all_cons (siterV x k ha) (all_cons VL (all_cons VJ (all_cons VA (all_cons VB all_nil))))) rfl ?_
    intro p q
    (generalize b2 = c2; revert c2; refine split1 ?_ ?_ <;> kernel_rfl)
end
end
end Mine

namespace Mine
section
open PySem PySem.W Sem
section
variable {w : World} {st : ST}
noncomputable abbrev neS (x : Str) (a : Tok) (y : Str) (b : Tok) (r : Bool) : Mine.Spec := pureS "str.__ne__" [.str x a, .str y b] (fun _ => .bool r) 0
theorem neV (x : Str) (a : Tok) (y : Str) (b : Tok) (r : Bool) (h : (x.cps.toList != y.cps.toList) = r) : (neS x a y b r).Valid (model prog w) st :=
  pure_val (by decide +kernel) PySem.F.entry_str_ne (h ▸ gives_str_ne x y a b)
noncomputable abbrev ltS (a : Int) (s : Tok) (b : Int) (u : Tok) (r : Bool) : Mine.Spec := pureS "int.__lt__" [.int a s, .int b u] (fun _ => .bool r) 0
theorem ltV (a : Int) (s : Tok) (b : Int) (u : Tok) (r : Bool) (h : decide (a < b) = r) : (ltS a s b u r).Valid (model prog w) st :=
  pure_val (by decide +kernel) PySem.F.entry_int_lt (h ▸ gives_int_lt a b s u)
noncomputable abbrev geS (a : Int) (s : Tok) (b : Int) (u : Tok) (r : Bool) : Mine.Spec := pureS "int.__ge__" [.int a s, .int b u] (fun _ => .bool r) 0
theorem geV (a : Int) (s : Tok) (b : Int) (u : Tok) (r : Bool) (h : decide (a ≥ b) = r) : (geS a s b u r).Valid (model prog w) st :=
  pure_val (by decide +kernel) PySem.F.entry_int_ge (h ▸ gives_int_ge a b s u)
/-- a sign of a text -/
noncomputable abbrev atS (x : Str) (a : Tok) (i : Nat) (b : Tok) (c : Nat) : Mine.Spec := pureS "str.__getitem__" [.str x a, .int (Int.ofNat i) b] (fun t => chV c t) 1
theorem atV (x : Str) (a : Tok) (i : Nat) (b : Tok) (c : Nat) (h : x.cps.toList[i]? = some c) (hz : i < 1000000) : (atS x a i b c).Valid (model prog w) st := by
  refine pure_str (by decide +kernel) PySem.F.entry_str_getitem (gives_str_getitem x (Int.ofNat i) a b c (by simp; omega) ?_) (by show 1 ≤ 16777216; omega)
  have hlt : i < x.cps.size := by
    rw [← Array.length_toList]
    exact (List.getElem?_eq_some_iff.mp h).1
  have e : seqIndex? (Int.ofNat i) x.length = some i := by
    unfold seqIndex? Str.length
    simp
    omega
  rw [e]
  show x.cps[i]? = some c
  rw [← Array.getElem?_toList]; exact h
end
end
end Mine

namespace Mine
section
open PySem PySem.W
/-- above get_token's frame: one loop, or two -/
inductive Ct where
  | one (t : Expr) (i : Value) (b o : List Stmt) (e : Env) (gb : List Stmt) (ge : Env)
  | two (t : Expr) (i : Value) (b o : List Stmt) (e : Env) (t' : Expr) (i' : Value) (b' o' : List Stmt) (e' : Env) (gb : List Stmt) (ge : Env)
noncomputable def Ct.codes : Ct → List Code
  | .one t i b o e gb ge => [.forLoop t i b o e, .func gb ge]
  | .two t i b o e t' i' b' o' e' gb ge => [.forLoop t i b o e, .forLoop t' i' b' o' e', .func gb ge]

theorem eq_nl {c : Nat} (h : c ≠ 10) : ((⟨#[c]⟩ : Str).cps.toList == (Str.ofString "\n").cps.toList) = false := by
  rw [show (Str.ofString "\n").cps.toList = [10] from by decide +kernel]
  simp [h]

section
variable (w : World) (b1 b2 : Bool) (g : Gx) (C : Ct) (B : Bs) (c : Nat) (k : Tok) (r : List (Nat × Tok)) (n t : Nat) (line : Int) (lk : Tok) (ep : Nat)
/-- the next sign, no line's end -/
theorem nxtO_ok (h0 : c ≠ 0) (hc : c ≠ 10) (hr : r.length < 1000000) : (g.nxtO (Wf w b1 b2).params (lexF (Wf w b1 b2)) (C.codes ++ B.codes) c k r n t line lk ep).Valid (model prog (Wf w b1 b2)) (stW (Wf w b1 b2)) := by
  cases c with
  | zero => exact absurd rfl h0
  | succ c =>
    refine mk_valid 300 94100369137236904418677795142149509008929988845554047565326368537503621624123013937264064333215849611925522754840853627409736697128337284372852216509128076574798955529832484228392635160941216023818
      [lenS g.x.T (tapeA ((c + 1, k) :: r)) ep (r.length + 1), popS g.x.T (tapeA r) (chV (c + 1) k) ep, eqS ⟨#[c + 1]⟩ k "\n" (t + 8) false]
      (all_cons (lenV _ _ _ _ (tapeA_size _) (by have : sizeLine = 16777216 := rfl; omega)) (all_cons (popV _ _ _ _ (by have : sizeLine = 16777216 := rfl; rw [tapeA_size]; omega)) (all_cons (eqV _ _ _ _ _ (eq_nl hc)) all_nil))) rfl ?_
    intro p q
    cases b2 <;> cases C <;> cases B <;> kernel_rfl
/-- the next sign, a line's end -/
theorem nxtN_ok (hr : r.length < 1000000) : (g.nxtN (Wf w b1 b2).params (lexF (Wf w b1 b2)) (C.codes ++ B.codes) k r n t line lk ep).Valid (model prog (Wf w b1 b2)) (stW (Wf w b1 b2)) := by
  refine mk_valid 300 5320350752150063692448590592179415559376110389261300734176341043978991574885199481182061392922873940453344804207301366642367852263033296538918141305602543860771499013772610131975149576179352715251983437317701605770077387401158231784070552722239572782139194833345483785482
    [lenS g.x.T (tapeA ((10, k) :: r)) ep (r.length + 1), popS g.x.T (tapeA r) (chV 10 k) ep]
    (all_cons (lenV _ _ _ _ (tapeA_size _) (by have : sizeLine = 16777216 := rfl; omega)) (all_cons (popV _ _ _ _ (by have : sizeLine = 16777216 := rfl; rw [tapeA_size]; omega)) all_nil)) rfl ?_
  intro p q
  cases b2 <;> cases C <;> cases B <;> kernel_rfl
/-- _read_char, no line's end -/
theorem redO_ok (h0 : c ≠ 0) (hc : c ≠ 10) (hr : r.length < 1000000) : (g.redO (Wf w b1 b2).params (lexF (Wf w b1 b2)) (C.codes ++ B.codes) c k r n t line lk ep).Valid (model prog (Wf w b1 b2)) (stW (Wf w b1 b2)) := by
  cases c with
  | zero => exact absurd rfl h0
  | succ c =>
    refine mk_valid 300 30399479089392687711527581256463299369079255093756210609781911891963703664891281405315401902707978857812925982259642603138713751033298842955153986172688689804694681436160
      [lenS g.x.T (tapeA ((c + 1, k) :: r)) ep (r.length + 1), popS g.x.T (tapeA r) (chV (c + 1) k) ep, eqS ⟨#[c + 1]⟩ k "\n" (t + 8) false]
      (all_cons (lenV _ _ _ _ (tapeA_size _) (by have : sizeLine = 16777216 := rfl; omega)) (all_cons (popV _ _ _ _ (by have : sizeLine = 16777216 := rfl; rw [tapeA_size]; omega)) (all_cons (eqV _ _ _ _ _ (eq_nl hc)) all_nil))) rfl ?_
    intro p q
    cases b2 <;> cases C <;> cases B <;> kernel_rfl
/-- _read_char, a line's end -/
theorem redN_ok (hr : r.length < 1000000) : (g.redN (Wf w b1 b2).params (lexF (Wf w b1 b2)) (C.codes ++ B.codes) k r n t line lk ep).Valid (model prog (Wf w b1 b2)) (stW (Wf w b1 b2)) := by
  refine mk_valid 300 1718759372796330943282998910241469112341154427900303009664624982281851117231677378810474991368224138084812059316619123179789904937628519581630556162325560532369115219919771263841386581888548409019994845669266480231940020340394790872393827106816
    [lenS g.x.T (tapeA ((10, k) :: r)) ep (r.length + 1), popS g.x.T (tapeA r) (chV 10 k) ep]
    (all_cons (lenV _ _ _ _ (tapeA_size _) (by have : sizeLine = 16777216 := rfl; omega)) (all_cons (popV _ _ _ _ (by have : sizeLine = 16777216 := rfl; rw [tapeA_size]; omega)) all_nil)) rfl ?_
  intro p q
  cases b2 <;> cases C <;> cases B <;> kernel_rfl
/-- nothing is left -/
theorem nxtE_ok : (g.nxtE (Wf w b1 b2).params (lexF (Wf w b1 b2)) (C.codes ++ B.codes) n t line lk ep).Valid (model prog (Wf w b1 b2)) (stW (Wf w b1 b2)) := by
  refine next_end (w := Wf w b1 b2) (C.codes ++ B.codes) n t (n + 2) (t + 10) g.g3 (t + 7) (lexE (Wf w b1 b2).params (lexF (Wf w b1 b2)) g.x g.K g.a0 g.more line lk (tapeA []) ep ++ [(g.M, mthO g.x)]) g.x g.M g.I (List.mem_append_right _ (List.mem_singleton.mpr rfl)) ?_
  refine mk_valid 300 2087595077745346224568254260838471507579562068481018176743457560121770862348604952165990170898974945260919420344225092403716353178594582649274005080067416757280702473 [] all_nil rfl ?_
  intro p q
  cases b2 <;> cases C <;> cases B <;> kernel_rfl
end
end
end Mine

namespace Mine
section
open PySem PySem.W
/-- loop C: signs up to a blank; true: it was met; false: the tape's end -/
noncomputable def scanC : List (Nat × Tok) → Str → Int → Option (Bool × Str × List (Nat × Tok) × Int)
  | [], y, line => some (false, y, [], line)
  | (c, _) :: r, y, line =>
    if c = 0 then none
    else if white c then some (true, y, r, bump c line)
    else if c = 92 then (match r with
      | [] => none
      | (d, _) :: r' => if d = 0 then none else scanC r' (y ++ ⟨#[d]⟩) (bump d line))
    else scanC r (y ++ ⟨#[c]⟩) line
/-- loop B: signs up to a closing mark -/
noncomputable def scanB : List (Nat × Tok) → Str → Int → Option (Str × List (Nat × Tok) × Int)
  | [], _, _ => none
  | (c, _) :: r, y, line =>
    if c = 0 then none
    else if c = 34 then some (y, r, line)
    else if c = 92 then (match r with
      | [] => none
      | (d, _) :: r' => if d = 0 then none else scanB r' (y ++ ⟨#[d]⟩) (bump d line))
    else scanB r (y ++ ⟨#[c]⟩) (bump c line)

noncomputable abbrev gfd (w : World) := gtFd w
noncomputable def codeA (w : World) (g : Gx) : Code := gtLoop (gtFd w) g.F g.I (gtA (gtFd w))
noncomputable def codeB (w : World) (g : Gx) : Code := gtLoop (gtFd w) g.F g.I (gtB (gtFd w))
noncomputable def codeC (w : World) (g : Gx) : Code := gtLoop (gtFd w) g.F g.I (gtC (gtFd w))
noncomputable def ctA (w : World) (g : Gx) (gb : List Stmt) (ge : Env) : Ct := .one (gtA (gtFd w)).1 (.ref g.I) (gtA (gtFd w)).2 [] (gtEnv (gtFd w) g.F) gb ge
noncomputable def ctB (w : World) (g : Gx) (gb : List Stmt) (ge : Env) : Ct := .two (gtB (gtFd w)).1 (.ref g.I) (gtB (gtFd w)).2 [] (gtEnv (gtFd w) g.F) (gtA (gtFd w)).1 (.ref g.I) (gtA (gtFd w)).2 [] (gtEnv (gtFd w) g.F) gb ge
noncomputable def ctC (w : World) (g : Gx) (gb : List Stmt) (ge : Env) : Ct := .two (gtC (gtFd w)).1 (.ref g.I) (gtC (gtFd w)).2 [] (gtEnv (gtFd w) g.F) (gtA (gtFd w)).1 (.ref g.I) (gtA (gtFd w)).2 [] (gtEnv (gtFd w) g.F) gb ge

theorem eq_lit {c d : Nat} {s : String} (hs : (Str.ofString s).cps.toList = [d]) (h : c ≠ d) : ((⟨#[c]⟩ : Str).cps.toList == (Str.ofString s).cps.toList) = false := by
  rw [hs]; simp [h]
theorem not_white {c : Nat} (h : white c = false) : (!(PySem.Builtin.Str.occurrences (Str.ofString "\n\t\r ") ⟨#[c]⟩ 0 (Str.ofString "\n\t\r ").length 1).isEmpty) = false := by
  rw [StrLaws.found_one, show (Str.ofString "\n\t\r ").cps.toList = [10, 9, 13, 32] from by decide +kernel]
  unfold white at h
  simp only [Bool.or_eq_false_iff, beq_eq_false_iff_ne] at h
  simp [h.1.1.1, h.1.1.2, h.1.2, h.2]
theorem add_len {y : Str} {c : Nat} {k : Nat} (h : y.length + (k + 1) < 1000000) : (y ++ (⟨#[c]⟩ : Str)).length + k < 1000000 ∧ ((y ++ (⟨#[c]⟩ : Str)).length == 0) = false ∧ (y ++ (⟨#[c]⟩ : Str)).length ≤ sizeLine := by
  rw [Str.length_append]
  have : (⟨#[c]⟩ : Str).length = 1 := rfl
  have : sizeLine = 16777216 := rfl
  refine ⟨by omega, ?_, by omega⟩
  rw [beq_eq_false_iff_ne]; omega
theorem len_one (c : Nat) : ((⟨#[c]⟩ : Str).length == 0) = false := rfl
theorem empty_add (c : Nat) : (⟨#[]⟩ : Str) ++ (⟨#[c]⟩ : Str) = ⟨#[c]⟩ := rfl

section
variable (w : World) (b1 b2 : Bool) (g : Gx) (B : Bs) (gb : List Stmt) (ge : Env)
noncomputable abbrev VC (w : World) (g : Gx) (B : Bs) (gb : List Stmt) (ge : Env) (c : Code) (n t : Nat) (pre : List Ent) (e : Eff) : Prop :=
  (mk c none (codeA w g :: .func gb ge :: B.codes) n t pre e).Valid (model prog w) (stW w)
noncomputable abbrev Gx.al (g : Gx) (w : World) := g.all w.params (lexF w)

theorem C_ord {c : Nat} {k : Tok} {r : List (Nat × Tok)} {n t : Nat} {line : Int} {lk : Tok} {ep : Nat} {y : Str} {tk : Tok} {kc : Tok} {ch : Value} {e : Eff} {o0 o1 o2 o3 o4 o5 o6 o7 o8 o9 o10 : Obj}
    (h0 : c ≠ 0) (hw : white c = false) (h92 : c ≠ 92) (hy : (y.length == 0) = false) (hz : y.length + (r.length + 1) < 1000000) (he : e.post = [o0, o1, o2, o3, o4, o5, o6, o7, o8, o9, o10]) (hn : e.news = [])
    (V : VC (Wf w b1 b2) g B gb ge (codeC (Wf w b1 b2) g) (n + 2) (t + 14) (g.al (Wf w b1 b2) line lk r (ep + 1) (.str (y ++ ⟨#[c]⟩) (t + 12)) (some (kc, chV c k))) e) :
    VC (Wf w b1 b2) g B gb ge (codeC (Wf w b1 b2) g) n t (g.al (Wf w b1 b2) line lk ((c, k) :: r) ep (.str y tk) (some (kc, ch))) e := by
  obtain ⟨er, en, et, epo, ew⟩ := e
  simp only at he hn
  subst he hn
  have h10 : c ≠ 10 := by rintro rfl; cases hw
  have L := add_len (c := c) hz
  refine mk_valid 300 8052412298774468600562863950388012890310932047087326721025567687788800472253988402651922277101341398000564208940044903850987767648665611
    [g.nxtO (Wf w b1 b2).params (lexF (Wf w b1 b2)) ((ctC (Wf w b1 b2) g gb ge).codes ++ B.codes) c k r n t line lk ep, inS "\n\t\r " (g.K 3) ⟨#[c]⟩ k false, eqS ⟨#[c]⟩ k "\\" (t + 11) false, addS y tk ⟨#[c]⟩ k, _]
    (all_cons (nxtO_ok w b1 b2 g _ B c k r n t line lk ep h0 h10 (by omega)) (all_cons (inV _ _ _ _ _ (not_white hw)) (all_cons (eqV _ _ _ _ _ (eq_lit (d := 92) (by decide +kernel) h92)) (all_cons (addV _ _ _ _ hy (len_one c) L.2.2) (all_cons (V) all_nil))))) rfl ?_
  intro p q
  cases b2 <;> cases B <;> kernel_rfl
theorem C_esc {d : Nat} {k k2 : Tok} {r : List (Nat × Tok)} {n t : Nat} {line : Int} {lk : Tok} {ep : Nat} {y : Str} {tk : Tok} {kc : Tok} {ch : Value} {e : Eff} {o0 o1 o2 o3 o4 o5 o6 o7 o8 o9 o10 : Obj}
    (h0 : d ≠ 0) (h10 : d ≠ 10) (hy : (y.length == 0) = false) (hz : y.length + (r.length + 1) < 1000000) (he : e.post = [o0, o1, o2, o3, o4, o5, o6, o7, o8, o9, o10]) (hn : e.news = [])
    (V : VC (Wf w b1 b2) g B gb ge (codeC (Wf w b1 b2) g) (n + 4) (t + 24) (g.al (Wf w b1 b2) line lk r (ep + 2) (.str (y ++ ⟨#[d]⟩) (t + 22)) (some (kc, chV d k2))) e) :
    VC (Wf w b1 b2) g B gb ge (codeC (Wf w b1 b2) g) n t (g.al (Wf w b1 b2) line lk ((92, k) :: (d, k2) :: r) ep (.str y tk) (some (kc, ch))) e := by
  obtain ⟨er, en, et, epo, ew⟩ := e
  simp only at he hn
  subst he hn
  have L := add_len (c := d) hz
  have hl : ((d, k2) :: r).length < 1000000 := by simp; omega
  refine mk_valid 300 808732979434980290635311868696924358730166785207562701366828665240633931450735060486141715178039280091663764747357192113375151411807957632005976179226338585643154258358775828744785398327821910027
    [g.nxtO (Wf w b1 b2).params (lexF (Wf w b1 b2)) ((ctC (Wf w b1 b2) g gb ge).codes ++ B.codes) 92 k ((d, k2) :: r) n t line lk ep, g.redO (Wf w b1 b2).params (lexF (Wf w b1 b2)) ((ctC (Wf w b1 b2) g gb ge).codes ++ B.codes) d k2 r (n + 2) (t + 12) line lk (ep + 1), addS y tk ⟨#[d]⟩ k2, _]
    (all_cons (nxtO_ok w b1 b2 g _ B 92 k ((d, k2) :: r) n t line lk ep (by decide) (by decide) hl) (all_cons (redO_ok w b1 b2 g _ B d k2 r (n + 2) (t + 12) line lk (ep + 1) h0 h10 (by omega)) (all_cons (addV _ _ _ _ hy (len_one d) L.2.2) (all_cons (V) all_nil)))) rfl ?_
  intro p q
  cases b2 <;> cases B <;> kernel_rfl
theorem C_escnl {k k2 : Tok} {r : List (Nat × Tok)} {n t : Nat} {line : Int} {lk : Tok} {ep : Nat} {y : Str} {tk : Tok} {kc : Tok} {ch : Value} {e : Eff} {o0 o1 o2 o3 o4 o5 o6 o7 o8 o9 o10 : Obj}
    (hy : (y.length == 0) = false) (hz : y.length + (r.length + 1) < 1000000) (he : e.post = [o0, o1, o2, o3, o4, o5, o6, o7, o8, o9, o10]) (hn : e.news = [])
    (V : VC (Wf w b1 b2) g B gb ge (codeC (Wf w b1 b2) g) (n + 4) (t + 29) (g.al (Wf w b1 b2) (line + 1) (t + 23) r (ep + 2) (.str (y ++ ⟨#[10]⟩) (t + 27)) (some (kc, chV 10 k2))) e) :
    VC (Wf w b1 b2) g B gb ge (codeC (Wf w b1 b2) g) n t (g.al (Wf w b1 b2) line lk ((92, k) :: (10, k2) :: r) ep (.str y tk) (some (kc, ch))) e := by
  obtain ⟨er, en, et, epo, ew⟩ := e
  simp only at he hn
  subst he hn
  have L := add_len (c := 10) hz
  have hl : ((10, k2) :: r).length < 1000000 := by simp; omega
  refine mk_valid 300 808732979434980290635311868696924358730166785207562701366828665240633931450735060486141715178039280091663764747357192113375151411807957632005976179226338585643154258358775828744785398327821910027
    [g.nxtO (Wf w b1 b2).params (lexF (Wf w b1 b2)) ((ctC (Wf w b1 b2) g gb ge).codes ++ B.codes) 92 k ((10, k2) :: r) n t line lk ep, g.redN (Wf w b1 b2).params (lexF (Wf w b1 b2)) ((ctC (Wf w b1 b2) g gb ge).codes ++ B.codes) k2 r (n + 2) (t + 12) line lk (ep + 1), addS y tk ⟨#[10]⟩ k2, _]
    (all_cons (nxtO_ok w b1 b2 g _ B 92 k ((10, k2) :: r) n t line lk ep (by decide) (by decide) hl) (all_cons (redN_ok w b1 b2 g _ B k2 r (n + 2) (t + 12) line lk (ep + 1) (by omega)) (all_cons (addV _ _ _ _ hy (len_one 10) L.2.2) (all_cons (V) all_nil)))) rfl ?_
  intro p q
  cases b2 <;> cases B <;> kernel_rfl
theorem B_ord {c : Nat} {k : Tok} {r : List (Nat × Tok)} {n t : Nat} {line : Int} {lk : Tok} {ep : Nat} {y : Str} {tk : Tok} {kc : Tok} {ch : Value} {e : Eff} {o0 o1 o2 o3 o4 o5 o6 o7 o8 o9 o10 : Obj}
    (h0 : c ≠ 0) (h10 : c ≠ 10) (h34 : c ≠ 34) (h92 : c ≠ 92) (hy : (y.length == 0) = false) (hz : y.length + (r.length + 1) < 1000000) (he : e.post = [o0, o1, o2, o3, o4, o5, o6, o7, o8, o9, o10]) (hn : e.news = [])
    (V : VC (Wf w b1 b2) g B gb ge (codeB (Wf w b1 b2) g) (n + 2) (t + 14) (g.al (Wf w b1 b2) line lk r (ep + 1) (.str (y ++ ⟨#[c]⟩) (t + 12)) (some (kc, chV c k))) e) :
    VC (Wf w b1 b2) g B gb ge (codeB (Wf w b1 b2) g) n t (g.al (Wf w b1 b2) line lk ((c, k) :: r) ep (.str y tk) (some (kc, ch))) e := by
  obtain ⟨er, en, et, epo, ew⟩ := e
  simp only at he hn
  subst he hn
  have L := add_len (c := c) hz
  refine mk_valid 300 25408933020896143484823428485844240226955712026445110594813699546858131625872254974086823215403104209125387
    [g.nxtO (Wf w b1 b2).params (lexF (Wf w b1 b2)) ((ctB (Wf w b1 b2) g gb ge).codes ++ B.codes) c k r n t line lk ep, eqS ⟨#[c]⟩ k "\"" (t + 10) false, eqS ⟨#[c]⟩ k "\\" (t + 11) false, addS y tk ⟨#[c]⟩ k, _]
    (all_cons (nxtO_ok w b1 b2 g _ B c k r n t line lk ep h0 h10 (by omega)) (all_cons (eqV _ _ _ _ _ (eq_lit (d := 34) (by decide +kernel) h34)) (all_cons (eqV _ _ _ _ _ (eq_lit (d := 92) (by decide +kernel) h92)) (all_cons (addV _ _ _ _ hy (len_one c) L.2.2) (all_cons (V) all_nil))))) rfl ?_
  intro p q
  cases b2 <;> cases B <;> kernel_rfl
theorem B_esc {d : Nat} {k k2 : Tok} {r : List (Nat × Tok)} {n t : Nat} {line : Int} {lk : Tok} {ep : Nat} {y : Str} {tk : Tok} {kc : Tok} {ch : Value} {e : Eff} {o0 o1 o2 o3 o4 o5 o6 o7 o8 o9 o10 : Obj}
    (h0 : d ≠ 0) (h10 : d ≠ 10) (hy : (y.length == 0) = false) (hz : y.length + (r.length + 1) < 1000000) (he : e.post = [o0, o1, o2, o3, o4, o5, o6, o7, o8, o9, o10]) (hn : e.news = [])
    (V : VC (Wf w b1 b2) g B gb ge (codeB (Wf w b1 b2) g) (n + 4) (t + 24) (g.al (Wf w b1 b2) line lk r (ep + 2) (.str (y ++ ⟨#[d]⟩) (t + 22)) (some (kc, chV d k2))) e) :
    VC (Wf w b1 b2) g B gb ge (codeB (Wf w b1 b2) g) n t (g.al (Wf w b1 b2) line lk ((92, k) :: (d, k2) :: r) ep (.str y tk) (some (kc, ch))) e := by
  obtain ⟨er, en, et, epo, ew⟩ := e
  simp only at he hn
  subst he hn
  have L := add_len (c := d) hz
  have hl : ((d, k2) :: r).length < 1000000 := by simp; omega
  refine mk_valid 300 2551911320956657906434665956759477156465644154383436134176796171622338346739932976264722146472369545895170701466390680524223006167641109830546686391605830838246359051
    [g.nxtO (Wf w b1 b2).params (lexF (Wf w b1 b2)) ((ctB (Wf w b1 b2) g gb ge).codes ++ B.codes) 92 k ((d, k2) :: r) n t line lk ep, g.redO (Wf w b1 b2).params (lexF (Wf w b1 b2)) ((ctB (Wf w b1 b2) g gb ge).codes ++ B.codes) d k2 r (n + 2) (t + 12) line lk (ep + 1), addS y tk ⟨#[d]⟩ k2, _]
    (all_cons (nxtO_ok w b1 b2 g _ B 92 k ((d, k2) :: r) n t line lk ep (by decide) (by decide) hl) (all_cons (redO_ok w b1 b2 g _ B d k2 r (n + 2) (t + 12) line lk (ep + 1) h0 h10 (by omega)) (all_cons (addV _ _ _ _ hy (len_one d) L.2.2) (all_cons (V) all_nil)))) rfl ?_
  intro p q
  cases b2 <;> cases B <;> kernel_rfl
theorem B_escnl {k k2 : Tok} {r : List (Nat × Tok)} {n t : Nat} {line : Int} {lk : Tok} {ep : Nat} {y : Str} {tk : Tok} {kc : Tok} {ch : Value} {e : Eff} {o0 o1 o2 o3 o4 o5 o6 o7 o8 o9 o10 : Obj}
    (hy : (y.length == 0) = false) (hz : y.length + (r.length + 1) < 1000000) (he : e.post = [o0, o1, o2, o3, o4, o5, o6, o7, o8, o9, o10]) (hn : e.news = [])
    (V : VC (Wf w b1 b2) g B gb ge (codeB (Wf w b1 b2) g) (n + 4) (t + 29) (g.al (Wf w b1 b2) (line + 1) (t + 23) r (ep + 2) (.str (y ++ ⟨#[10]⟩) (t + 27)) (some (kc, chV 10 k2))) e) :
    VC (Wf w b1 b2) g B gb ge (codeB (Wf w b1 b2) g) n t (g.al (Wf w b1 b2) line lk ((92, k) :: (10, k2) :: r) ep (.str y tk) (some (kc, ch))) e := by
  obtain ⟨er, en, et, epo, ew⟩ := e
  simp only at he hn
  subst he hn
  have L := add_len (c := 10) hz
  have hl : ((10, k2) :: r).length < 1000000 := by simp; omega
  refine mk_valid 300 2551911320956657906434665956759477156465644154383436134176796171622338346739932976264722146472369545895170701466390680524223006167641109830546686391605830838246359051
    [g.nxtO (Wf w b1 b2).params (lexF (Wf w b1 b2)) ((ctB (Wf w b1 b2) g gb ge).codes ++ B.codes) 92 k ((10, k2) :: r) n t line lk ep, g.redN (Wf w b1 b2).params (lexF (Wf w b1 b2)) ((ctB (Wf w b1 b2) g gb ge).codes ++ B.codes) k2 r (n + 2) (t + 12) line lk (ep + 1), addS y tk ⟨#[10]⟩ k2, _]
    (all_cons (nxtO_ok w b1 b2 g _ B 92 k ((10, k2) :: r) n t line lk ep (by decide) (by decide) hl) (all_cons (redN_ok w b1 b2 g _ B k2 r (n + 2) (t + 12) line lk (ep + 1) (by omega)) (all_cons (addV _ _ _ _ hy (len_one 10) L.2.2) (all_cons (V) all_nil)))) rfl ?_
  intro p q
  cases b2 <;> cases B <;> kernel_rfl
theorem B_nl {k : Tok} {r : List (Nat × Tok)} {n t : Nat} {line : Int} {lk : Tok} {ep : Nat} {y : Str} {tk : Tok} {kc : Tok} {ch : Value} {e : Eff} {o0 o1 o2 o3 o4 o5 o6 o7 o8 o9 o10 : Obj}
    (hy : (y.length == 0) = false) (hz : y.length + (r.length + 1) < 1000000) (he : e.post = [o0, o1, o2, o3, o4, o5, o6, o7, o8, o9, o10]) (hn : e.news = [])
    (V : VC (Wf w b1 b2) g B gb ge (codeB (Wf w b1 b2) g) (n + 2) (t + 19) (g.al (Wf w b1 b2) (line + 1) (t + 11) r (ep + 1) (.str (y ++ ⟨#[10]⟩) (t + 17)) (some (kc, chV 10 k))) e) :
    VC (Wf w b1 b2) g B gb ge (codeB (Wf w b1 b2) g) n t (g.al (Wf w b1 b2) line lk ((10, k) :: r) ep (.str y tk) (some (kc, ch))) e := by
  obtain ⟨er, en, et, epo, ew⟩ := e
  simp only at he hn
  subst he hn
  have L := add_len (c := 10) hz
  refine mk_valid 300 25408933020896143484823428485844240226955712026445110594813699368452084967035539607185211190564354219229195
    [g.nxtN (Wf w b1 b2).params (lexF (Wf w b1 b2)) ((ctB (Wf w b1 b2) g gb ge).codes ++ B.codes) k r n t line lk ep, addS y tk ⟨#[10]⟩ k, _]
    (all_cons (nxtN_ok w b1 b2 g _ B k r n t line lk ep (by omega)) (all_cons (addV _ _ _ _ hy (len_one 10) L.2.2) (all_cons (V) all_nil))) rfl ?_
  intro p q
  cases b2 <;> cases B <;> kernel_rfl
theorem B_ord0 {c : Nat} {k : Tok} {r : List (Nat × Tok)} {n t : Nat} {line : Int} {lk : Tok} {ep : Nat} {y : Str} {tk : Tok} {kc : Tok} {ch : Value} {e : Eff} {o0 o1 o2 o3 o4 o5 o6 o7 o8 o9 o10 : Obj}
    (h0 : c ≠ 0) (h10 : c ≠ 10) (h34 : c ≠ 34) (h92 : c ≠ 92) (hz : r.length < 900000) (he : e.post = [o0, o1, o2, o3, o4, o5, o6, o7, o8, o9, o10]) (hn : e.news = [])
    (V : VC (Wf w b1 b2) g B gb ge (codeB (Wf w b1 b2) g) (n + 2) (t + 13) (g.al (Wf w b1 b2) line lk r (ep + 1) (.str ⟨#[c]⟩ k) (some (kc, chV c k))) e) :
    VC (Wf w b1 b2) g B gb ge (codeB (Wf w b1 b2) g) n t (g.al (Wf w b1 b2) line lk ((c, k) :: r) ep (.str ⟨#[]⟩ tk) (some (kc, ch))) e := by
  obtain ⟨er, en, et, epo, ew⟩ := e
  simp only at he hn
  subst he hn
  refine mk_valid 300 25408933020896143484823428485844240226955712026445110546923213894799104802173910375639661227317506640887819
    [g.nxtO (Wf w b1 b2).params (lexF (Wf w b1 b2)) ((ctB (Wf w b1 b2) g gb ge).codes ++ B.codes) c k r n t line lk ep, eqS ⟨#[c]⟩ k "\"" (t + 10) false, eqS ⟨#[c]⟩ k "\\" (t + 11) false, _]
    (all_cons (nxtO_ok w b1 b2 g _ B c k r n t line lk ep h0 h10 (by omega)) (all_cons (eqV _ _ _ _ _ (eq_lit (d := 34) (by decide +kernel) h34)) (all_cons (eqV _ _ _ _ _ (eq_lit (d := 92) (by decide +kernel) h92)) (all_cons (V) all_nil)))) rfl ?_
  intro p q
  cases b2 <;> cases B <;> kernel_rfl
theorem B_nl0 {k : Tok} {r : List (Nat × Tok)} {n t : Nat} {line : Int} {lk : Tok} {ep : Nat} {y : Str} {tk : Tok} {kc : Tok} {ch : Value} {e : Eff} {o0 o1 o2 o3 o4 o5 o6 o7 o8 o9 o10 : Obj}
    (hz : r.length < 900000) (he : e.post = [o0, o1, o2, o3, o4, o5, o6, o7, o8, o9, o10]) (hn : e.news = [])
    (V : VC (Wf w b1 b2) g B gb ge (codeB (Wf w b1 b2) g) (n + 2) (t + 18) (g.al (Wf w b1 b2) (line + 1) (t + 11) r (ep + 1) (.str ⟨#[10]⟩ k) (some (kc, chV 10 k))) e) :
    VC (Wf w b1 b2) g B gb ge (codeB (Wf w b1 b2) g) n t (g.al (Wf w b1 b2) line lk ((10, k) :: r) ep (.str ⟨#[]⟩ tk) (some (kc, ch))) e := by
  obtain ⟨er, en, et, epo, ew⟩ := e
  simp only at he hn
  subst he hn
  refine mk_valid 300 25408933020896143484823428485844240226955712026445110546923213716393058143337195008738049202478756650991627
    [g.nxtN (Wf w b1 b2).params (lexF (Wf w b1 b2)) ((ctB (Wf w b1 b2) g gb ge).codes ++ B.codes) k r n t line lk ep, _]
    (all_cons (nxtN_ok w b1 b2 g _ B k r n t line lk ep (by omega)) (all_cons (V) all_nil)) rfl ?_
  intro p q
  cases b2 <;> cases B <;> kernel_rfl
theorem B_esc0 {d : Nat} {k k2 : Tok} {r : List (Nat × Tok)} {n t : Nat} {line : Int} {lk : Tok} {ep : Nat} {y : Str} {tk : Tok} {kc : Tok} {ch : Value} {e : Eff} {o0 o1 o2 o3 o4 o5 o6 o7 o8 o9 o10 : Obj}
    (h0 : d ≠ 0) (h10 : d ≠ 10) (hz : r.length < 900000) (he : e.post = [o0, o1, o2, o3, o4, o5, o6, o7, o8, o9, o10]) (hn : e.news = [])
    (V : VC (Wf w b1 b2) g B gb ge (codeB (Wf w b1 b2) g) (n + 4) (t + 23) (g.al (Wf w b1 b2) line lk r (ep + 2) (.str ⟨#[d]⟩ k2) (some (kc, chV d k2))) e) :
    VC (Wf w b1 b2) g B gb ge (codeB (Wf w b1 b2) g) n t (g.al (Wf w b1 b2) line lk ((92, k) :: (d, k2) :: r) ep (.str ⟨#[]⟩ tk) (some (kc, ch))) e := by
  obtain ⟨er, en, et, epo, ew⟩ := e
  simp only at he hn
  subst he hn
  have hl : ((d, k2) :: r).length < 1000000 := by simp; omega
  refine mk_valid 300 2551911320956657906434665956759477156465644154383436129366980962101527896022276714040159914406971685730931606257858770826258922732923017616891137699599527028843528203
    [g.nxtO (Wf w b1 b2).params (lexF (Wf w b1 b2)) ((ctB (Wf w b1 b2) g gb ge).codes ++ B.codes) 92 k ((d, k2) :: r) n t line lk ep, g.redO (Wf w b1 b2).params (lexF (Wf w b1 b2)) ((ctB (Wf w b1 b2) g gb ge).codes ++ B.codes) d k2 r (n + 2) (t + 12) line lk (ep + 1), _]
    (all_cons (nxtO_ok w b1 b2 g _ B 92 k ((d, k2) :: r) n t line lk ep (by decide) (by decide) hl) (all_cons (redO_ok w b1 b2 g _ B d k2 r (n + 2) (t + 12) line lk (ep + 1) h0 h10 (by omega)) (all_cons (V) all_nil))) rfl ?_
  intro p q
  cases b2 <;> cases B <;> kernel_rfl
theorem B_escnl0 {k k2 : Tok} {r : List (Nat × Tok)} {n t : Nat} {line : Int} {lk : Tok} {ep : Nat} {y : Str} {tk : Tok} {kc : Tok} {ch : Value} {e : Eff} {o0 o1 o2 o3 o4 o5 o6 o7 o8 o9 o10 : Obj}
    (hz : r.length < 900000) (he : e.post = [o0, o1, o2, o3, o4, o5, o6, o7, o8, o9, o10]) (hn : e.news = [])
    (V : VC (Wf w b1 b2) g B gb ge (codeB (Wf w b1 b2) g) (n + 4) (t + 28) (g.al (Wf w b1 b2) (line + 1) (t + 23) r (ep + 2) (.str ⟨#[10]⟩ k2) (some (kc, chV 10 k2))) e) :
    VC (Wf w b1 b2) g B gb ge (codeB (Wf w b1 b2) g) n t (g.al (Wf w b1 b2) line lk ((92, k) :: (10, k2) :: r) ep (.str ⟨#[]⟩ tk) (some (kc, ch))) e := by
  obtain ⟨er, en, et, epo, ew⟩ := e
  simp only at he hn
  subst he hn
  have hl : ((10, k2) :: r).length < 1000000 := by simp; omega
  refine mk_valid 300 2551911320956657906434665956759477156465644154383436129366980962101527896022276714040159914406971685730931606257858770826258922732923017616891137699599527028843528203
    [g.nxtO (Wf w b1 b2).params (lexF (Wf w b1 b2)) ((ctB (Wf w b1 b2) g gb ge).codes ++ B.codes) 92 k ((10, k2) :: r) n t line lk ep, g.redN (Wf w b1 b2).params (lexF (Wf w b1 b2)) ((ctB (Wf w b1 b2) g gb ge).codes ++ B.codes) k2 r (n + 2) (t + 12) line lk (ep + 1), _]
    (all_cons (nxtO_ok w b1 b2 g _ B 92 k ((10, k2) :: r) n t line lk ep (by decide) (by decide) hl) (all_cons (redN_ok w b1 b2 g _ B k2 r (n + 2) (t + 12) line lk (ep + 1) (by omega)) (all_cons (V) all_nil))) rfl ?_
  intro p q
  cases b2 <;> cases B <;> kernel_rfl
theorem C_w9 {k : Tok} {r : List (Nat × Tok)} {n t : Nat} {line : Int} {lk : Tok} {ep : Nat} {tok : Value} {kc : Tok} {ch : Value} (hz : r.length < 900000) :
    VC (Wf w b1 b2) g B gb ge (codeC (Wf w b1 b2) g) n t (g.al (Wf w b1 b2) line lk ((9, k) :: r) ep tok (some (kc, ch))) ⟨.ok (.ret tok), n + 2, t + 11, objs (g.al (Wf w b1 b2) line lk r (ep + 1) tok (some (kc, chV 9 k))), []⟩ := by
  refine mk_valid 300 5777322490052061649481265007477976486156210092421664423101451050642124991227395037775492464651
    [g.nxtO (Wf w b1 b2).params (lexF (Wf w b1 b2)) ((ctC (Wf w b1 b2) g gb ge).codes ++ B.codes) 9 k r n t line lk ep] (all_cons (nxtO_ok w b1 b2 g _ B 9 k r n t line lk ep (by decide) (by decide) (by omega)) all_nil) rfl ?_
  intro p q
  cases b2 <;> cases B <;> kernel_rfl
theorem C_w13 {k : Tok} {r : List (Nat × Tok)} {n t : Nat} {line : Int} {lk : Tok} {ep : Nat} {tok : Value} {kc : Tok} {ch : Value} (hz : r.length < 900000) :
    VC (Wf w b1 b2) g B gb ge (codeC (Wf w b1 b2) g) n t (g.al (Wf w b1 b2) line lk ((13, k) :: r) ep tok (some (kc, ch))) ⟨.ok (.ret tok), n + 2, t + 11, objs (g.al (Wf w b1 b2) line lk r (ep + 1) tok (some (kc, chV 13 k))), []⟩ := by
  refine mk_valid 300 5777322490052061649481265007477976486156210092421664423101451050642124991227395037775492464651
    [g.nxtO (Wf w b1 b2).params (lexF (Wf w b1 b2)) ((ctC (Wf w b1 b2) g gb ge).codes ++ B.codes) 13 k r n t line lk ep] (all_cons (nxtO_ok w b1 b2 g _ B 13 k r n t line lk ep (by decide) (by decide) (by omega)) all_nil) rfl ?_
  intro p q
  cases b2 <;> cases B <;> kernel_rfl
theorem C_w32 {k : Tok} {r : List (Nat × Tok)} {n t : Nat} {line : Int} {lk : Tok} {ep : Nat} {tok : Value} {kc : Tok} {ch : Value} (hz : r.length < 900000) :
    VC (Wf w b1 b2) g B gb ge (codeC (Wf w b1 b2) g) n t (g.al (Wf w b1 b2) line lk ((32, k) :: r) ep tok (some (kc, ch))) ⟨.ok (.ret tok), n + 2, t + 11, objs (g.al (Wf w b1 b2) line lk r (ep + 1) tok (some (kc, chV 32 k))), []⟩ := by
  refine mk_valid 300 5777322490052061649481265007477976486156210092421664423101451050642124991227395037775492464651
    [g.nxtO (Wf w b1 b2).params (lexF (Wf w b1 b2)) ((ctC (Wf w b1 b2) g gb ge).codes ++ B.codes) 32 k r n t line lk ep] (all_cons (nxtO_ok w b1 b2 g _ B 32 k r n t line lk ep (by decide) (by decide) (by omega)) all_nil) rfl ?_
  intro p q
  cases b2 <;> cases B <;> kernel_rfl
theorem C_w10 {k : Tok} {r : List (Nat × Tok)} {n t : Nat} {line : Int} {lk : Tok} {ep : Nat} {tok : Value} {kc : Tok} {ch : Value} (hz : r.length < 900000) :
    VC (Wf w b1 b2) g B gb ge (codeC (Wf w b1 b2) g) n t (g.al (Wf w b1 b2) line lk ((10, k) :: r) ep tok (some (kc, ch))) ⟨.ok (.ret tok), n + 2, t + 16, objs (g.al (Wf w b1 b2) (line + 1) (t + 11) r (ep + 1) tok (some (kc, chV 10 k))), []⟩ := by
  refine mk_valid 300 5777322490052061649481265007477976486156210092421664423101451050642124991227395037775492464651
    [g.nxtN (Wf w b1 b2).params (lexF (Wf w b1 b2)) ((ctC (Wf w b1 b2) g gb ge).codes ++ B.codes) k r n t line lk ep] (all_cons (nxtN_ok w b1 b2 g _ B k r n t line lk ep (by omega)) all_nil) rfl ?_
  intro p q
  cases b2 <;> cases B <;> kernel_rfl
theorem B_close {k : Tok} {r : List (Nat × Tok)} {n t : Nat} {line : Int} {lk : Tok} {ep : Nat} {tok : Value} {kc : Tok} {ch : Value} (hz : r.length < 900000) :
    VC (Wf w b1 b2) g B gb ge (codeB (Wf w b1 b2) g) n t (g.al (Wf w b1 b2) line lk ((34, k) :: r) ep tok (some (kc, ch))) ⟨.ok (.ret tok), n + 2, t + 11, objs (g.al (Wf w b1 b2) line lk r (ep + 1) tok (some (kc, chV 34 k))), []⟩ := by
  refine mk_valid 300 18230015397024717295591091533925311138535061682332106764752961547
    [g.nxtO (Wf w b1 b2).params (lexF (Wf w b1 b2)) ((ctB (Wf w b1 b2) g gb ge).codes ++ B.codes) 34 k r n t line lk ep] (all_cons (nxtO_ok w b1 b2 g _ B 34 k r n t line lk ep (by decide) (by decide) (by omega)) all_nil) rfl ?_
  intro p q
  cases b2 <;> cases B <;> kernel_rfl
theorem C_end  {n t : Nat} {line : Int} {lk : Tok} {ep : Nat} {tok : Value} {kc : Tok} {ch : Value}  :
    VC (Wf w b1 b2) g B gb ge (codeC (Wf w b1 b2) g) n t (g.al (Wf w b1 b2) line lk [] ep tok (some (kc, ch))) ⟨.ok .next, n + 4, t + 10, objs (g.lex (Wf w b1 b2).params (lexF (Wf w b1 b2)) line lk [] ep) ++ [gtF (Wf w b1 b2).params g.x g.I g.g0 g.g1 g.g2 tok (some (kc, ch)), mthO g.x, itX], []⟩ := by
  refine mk_valid 300 67912099499347497878935168109227849035940809237487337483
    [g.nxtE (Wf w b1 b2).params (lexF (Wf w b1 b2)) ((ctC (Wf w b1 b2) g gb ge).codes ++ B.codes) n t line lk ep] (all_cons (nxtE_ok w b1 b2 g _ B n t line lk ep) all_nil) rfl ?_
  intro p q
  cases b2 <;> cases B <;> kernel_rfl
end
end
end Mine

namespace Mine
section
open PySem PySem.W
noncomputable def whileOf : Stmt → Expr × List Stmt
  | .While t b _ _ => (t, b)
  | _ => (default, [])
noncomputable def prW (f : FuncData) : Expr × List Stmt := whileOf ((bodyOf f).getD 5 default)
noncomputable def prEnv (f : FuncData) (fr : Addr) : Env := funEnv f fr "parse257.<locals>." 145 144
noncomputable def prLoop (f : FuncData) (fr : Addr) : Code := .whileLoop (prW f).1 (prW f).2 [] (prEnv f fr)
noncomputable def prFr (P : Params) (K : Nat → Tok) (resp dir i n : Value) (fs : Option (Tok × Value)) : Obj := match fs with
  | none => frameO [de P "resp" (K 0) resp, de P "dirname" (K 1) dir, de P "i" (K 2) i, de P "n" (K 3) n] 4
  | some (k, v) => frameO [de P "resp" (K 0) resp, de P "dirname" (K 1) dir, de P "i" (K 2) i, de P "n" (K 3) n, de P "c" k v] 5
end
end Mine

namespace Mine
section
open PySem PySem.W Sem
noncomputable def prF (w : World) : FuncData := fdOf (hd.o_194 w.params)
noncomputable def cmpCds (elt : Expr) (gens : List Comprehension) (sc : Scope) (ps : Pos) (d : Nat) (it acc : Value) (e' : Env) (b : List Stmt) (e : Env) : List Code := .compLoop (.ListComp elt gens sc ps) d it acc e' :: lawCds b e
noncomputable def prCds (w : World) (fr : Addr) (B : Bs) : List Code := .func (bodyOf (prF w)) (prEnv (prF w) fr) :: B.codes
noncomputable def prPre (w : World) (fr : Addr) (K : Nat → Tok) (x : Str) (k : Tok) (dir : Str) (kd : Tok) (i : Nat) (ki : Tok) (N : Nat) (kn : Tok) (fs : Option (Tok × Value)) : List Ent := [(fr, prFr w.params K (.str x k) (.str dir kd) (.int (Int.ofNat i) ki) (.int (Int.ofNat N) kn) fs)]
section
variable (w : World) (b1 b2 : Bool) (B : Bs) (fr : Addr) (K : Nat → Tok) (x : Str) (k : Tok) (N : Nat) (kn : Tok)
theorem pr_plain (dir : Str) (kd : Tok) (i : Nat) (ki : Tok) (fs : Option (Tok × Value)) (c n t k2 t2 : Nat) (er : Result) (en et : Nat) (p1 : Obj) (hx : x.cps.toList[i]? = some c) (hi : i < 1000000) (hN : i < N) (hc : c ≠ 34)
    (VA : (giveS "str.__add__" [.str dir kd, .str ⟨#[c]⟩ t] n (t + 6) (.str (dir ++ ⟨#[c]⟩) k2) t2).Valid (model prog (Wf w b1 b2)) (stW (Wf w b1 b2)))
    (V : (mk (prLoop (prF (Wf w b1 b2)) fr) none (prCds (Wf w b1 b2) fr B) n (t2 + 1) (prPre (Wf w b1 b2) fr K x k (dir ++ ⟨#[c]⟩) k2 (i + 1) (t + 3) N kn (some (kOf fs (t + 1), chV c t))) ⟨er, en, et, [p1], []⟩).Valid (model prog (Wf w b1 b2)) (stW (Wf w b1 b2))) :
    (mk (prLoop (prF (Wf w b1 b2)) fr) none (prCds (Wf w b1 b2) fr B) n t (prPre (Wf w b1 b2) fr K x k dir kd i ki N kn fs) ⟨er, en, et, [p1], []⟩).Valid (model prog (Wf w b1 b2)) (stW (Wf w b1 b2)) := by
  refine mk_valid 300 6178249739552425852864574168317029213994787747099836545 [ltS (Int.ofNat i) ki (Int.ofNat N) kn true, atS x k i ki c, eqS ⟨#[c]⟩ t "\"" (t + 5) false, _, _] (all_cons (ltV _ _ _ _ _ (by simpa using hN)) (all_cons (atV _ _ _ _ _ hx hi) (all_cons (eqV _ _ _ _ _ (eq_lit (d := 34) (by decide +kernel) hc)) (all_cons VA (all_cons V all_nil))))) rfl ?_
  intro p q
  rcases fs with _ | ⟨kf, vf⟩ <;> cases B <;> (generalize b2 = c2; revert c2; refine split1 ?_ ?_ <;> kernel_rfl)
theorem pr_twice (dir : Str) (kd : Tok) (i : Nat) (ki : Tok) (fs : Option (Tok × Value)) (n t k2 t2 : Nat) (er : Result) (en et : Nat) (p1 : Obj) (hx : x.cps.toList[i]? = some 34) (hx1 : x.cps.toList[i + 1]? = some 34) (hi : i + 1 < 1000000) (hN : i + 1 < N)
    (VA : (giveS "str.__add__" [.str dir kd, .str ⟨#[34]⟩ t] n (t + 11) (.str (dir ++ ⟨#[34]⟩) k2) t2).Valid (model prog (Wf w b1 b2)) (stW (Wf w b1 b2)))
    (V : (mk (prLoop (prF (Wf w b1 b2)) fr) none (prCds (Wf w b1 b2) fr B) n (t2 + 1) (prPre (Wf w b1 b2) fr K x k (dir ++ ⟨#[34]⟩) k2 (i + 2) (t + 9) N kn (some (kOf fs (t + 1), chV 34 t))) ⟨er, en, et, [p1], []⟩).Valid (model prog (Wf w b1 b2)) (stW (Wf w b1 b2))) :
    (mk (prLoop (prF (Wf w b1 b2)) fr) none (prCds (Wf w b1 b2) fr B) n t (prPre (Wf w b1 b2) fr K x k dir kd i ki N kn fs) ⟨er, en, et, [p1], []⟩).Valid (model prog (Wf w b1 b2)) (stW (Wf w b1 b2)) := by
  refine mk_valid 300 250619583702513107334433022958681070313650389897698685274101863793498560175791279177857 [ltS (Int.ofNat i) ki (Int.ofNat N) kn true, atS x k i ki 34, eqS ⟨#[34]⟩ t "\"" (t + 5) true, geS (Int.ofNat (i + 1)) (t + 3) (Int.ofNat N) kn false, atS x k (i + 1) (t + 3) 34, neS ⟨#[34]⟩ (t + 6) "\"" (t + 7) false, _, _] (all_cons (ltV _ _ _ _ _ (by simp; omega)) (all_cons (atV _ _ _ _ _ hx (by omega)) (all_cons (eqV _ _ _ _ _ (by decide +kernel)) (all_cons (geV _ _ _ _ _ (by simp; omega)) (all_cons (atV _ _ _ _ _ hx1 hi) (all_cons (neV _ _ _ _ _ (by decide +kernel)) (all_cons VA (all_cons V all_nil)))))))) rfl ?_
  intro p q
  rcases fs with _ | ⟨kf, vf⟩ <;> cases B <;> (generalize b2 = c2; revert c2; refine split1 ?_ ?_ <;> kernel_rfl)
theorem pr_close (dir : Str) (kd : Tok) (i : Nat) (ki : Tok) (fs : Option (Tok × Value)) (c n t : Nat) (hx : x.cps.toList[i]? = some 34) (hx1 : x.cps.toList[i + 1]? = some c) (hc : c ≠ 34) (hi : i + 1 < 1000000) (hN : i + 1 < N) :
    (mk (prLoop (prF (Wf w b1 b2)) fr) none (prCds (Wf w b1 b2) fr B) n t (prPre (Wf w b1 b2) fr K x k dir kd i ki N kn fs) ⟨.ok .next, n, t + 8, [prFr (Wf w b1 b2).params K (.str x k) (.str dir kd) (.int (Int.ofNat (i + 1)) (t + 3)) (.int (Int.ofNat N) kn) (some (kOf fs (t + 1), chV 34 t))], []⟩).Valid (model prog (Wf w b1 b2)) (stW (Wf w b1 b2)) := by
  refine mk_valid 300 101218313376541897030560388575140019576761548341322190946433 [ltS (Int.ofNat i) ki (Int.ofNat N) kn true, atS x k i ki 34, eqS ⟨#[34]⟩ t "\"" (t + 5) true, geS (Int.ofNat (i + 1)) (t + 3) (Int.ofNat N) kn false, atS x k (i + 1) (t + 3) c, neS ⟨#[c]⟩ (t + 6) "\"" (t + 7) true] (all_cons (ltV _ _ _ _ _ (by simp; omega)) (all_cons (atV _ _ _ _ _ hx (by omega)) (all_cons (eqV _ _ _ _ _ (by decide +kernel)) (all_cons (geV _ _ _ _ _ (by simp; omega)) (all_cons (atV _ _ _ _ _ hx1 hi) (all_cons (neV _ _ _ _ _ (by rw [bne, eq_lit (d := 34) (by decide +kernel) hc]; rfl)) all_nil)))))) rfl ?_
  intro p q
  rcases fs with _ | ⟨kf, vf⟩ <;> cases B <;> (generalize b2 = c2; revert c2; refine split1 ?_ ?_ <;> kernel_rfl)
end
end
end Mine

namespace Mine
section
open PySem PySem.W Sem
/-- quotes written twice -/
noncomputable def dbl : List Nat → List Nat
  | [] => []
  | c :: l => (if c = 34 then [34, 34] else [c]) ++ dbl l
theorem get_of_drop {l r : List Nat} {i : Nat} {c : Nat} (h : l.drop i = c :: r) : l[i]? = some c ∧ l.drop (i + 1) = r := by
  have h1 := congrArg (fun l => l[0]?) h
  have h2 := congrArg List.tail h
  exact ⟨by simpa using h1, by simpa using h2⟩
section
variable (w : World) (b1 b2 : Bool) (B : Bs) (fr : Addr) (K : Nat → Tok) (x : Str) (k : Tok) (kn : Tok)
theorem pr_loop (hN : x.cps.toList.length < 1000000) (c : Nat) (tail : List Nat) (hc : c ≠ 34) : ∀ (name : List Nat) (dir : Str) (kd : Tok) (i : Nat) (ki : Tok) (fs : Option (Tok × Value)) (n t : Nat), x.cps.toList.drop i = dbl name ++ 34 :: c :: tail → dir.length + name.length < 1000000 →
    ∃ (t' kd' i' ki' : Nat) (fs' : Tok × Value), (mk (prLoop (prF (Wf w b1 b2)) fr) none (prCds (Wf w b1 b2) fr B) n t (prPre (Wf w b1 b2) fr K x k dir kd i ki x.cps.toList.length kn fs) ⟨.ok .next, n, t', [prFr (Wf w b1 b2).params K (.str x k) (.str ⟨⟨dir.cps.toList ++ name⟩⟩ kd') (.int (Int.ofNat i') ki') (.int (Int.ofNat x.cps.toList.length) kn) (some fs')], []⟩).Valid (model prog (Wf w b1 b2)) (stW (Wf w b1 b2)) := by
  intro name
  have hsl : sizeLine = 16777216 := rfl
  have lt_of : ∀ {i d : Nat}, x.cps.toList[i]? = some d → i < x.cps.toList.length := fun h => (List.getElem?_eq_some_iff.mp h).1
  induction name with
  | nil =>
    intro dir kd i ki fs n t hx _
    obtain ⟨h1, h2⟩ := get_of_drop (show x.cps.toList.drop i = 34 :: c :: tail from hx)
    obtain ⟨h3, _⟩ := get_of_drop h2
    have := lt_of h3
    refine ⟨t + 8, kd, i + 1, t + 3, (kOf fs (t + 1), chV 34 t), ?_⟩
    rw [List.append_nil]
    exact pr_close w b1 b2 B fr K x k _ kn dir kd i ki fs c n t h1 h3 hc (by omega) this
  | cons d name ih =>
    intro dir kd i ki fs n t hx hz
    have hz' : dir.length + (name.length + 1) < 1000000 := hz
    have hl : (dir ++ (⟨#[d]⟩ : Str)).length = dir.length + 1 := by
      show (dir.cps ++ #[d]).size = dir.cps.size + 1
      rw [Array.size_append]; rfl
    have ht : (dir ++ (⟨#[d]⟩ : Str)).cps.toList ++ name = dir.cps.toList ++ d :: name := by
      show (dir.cps ++ #[d]).toList ++ name = _
      rw [Array.toList_append]; simp
    by_cases hd : d = 34
    · subst hd
      obtain ⟨h1, h2⟩ := get_of_drop (show x.cps.toList.drop i = 34 :: 34 :: (dbl name ++ 34 :: c :: tail) from hx)
      obtain ⟨h3, h4⟩ := get_of_drop h2
      have := lt_of h3
      obtain ⟨k2, t2, VA⟩ := add_give (w := Wf w b1 b2) (st := stW (Wf w b1 b2)) dir ⟨#[34]⟩ kd t n (t + 11) (by rw [hl]; omega)
      obtain ⟨t', kd', i', ki', fs', V⟩ := ih (dir ++ ⟨#[34]⟩) k2 (i + 2) (t + 9) (some (kOf fs (t + 1), chV 34 t)) n (t2 + 1) h4 (by rw [hl]; omega)
      rw [ht] at V
      exact ⟨t', kd', i', ki', fs', pr_twice w b1 b2 B fr K x k _ kn dir kd i ki fs n t k2 t2 _ _ _ _ h1 h3 (by omega) this VA V⟩
    · have hx' : x.cps.toList.drop i = d :: (dbl name ++ 34 :: c :: tail) := by
        rw [hx]; simp [dbl, hd]
      obtain ⟨h1, h2⟩ := get_of_drop hx'
      have := lt_of h1
      obtain ⟨k2, t2, VA⟩ := add_give (w := Wf w b1 b2) (st := stW (Wf w b1 b2)) dir ⟨#[d]⟩ kd t n (t + 6) (by rw [hl]; omega)
      obtain ⟨t', kd', i', ki', fs', V⟩ := ih (dir ++ ⟨#[d]⟩) k2 (i + 1) (t + 3) (some (kOf fs (t + 1), chV d t)) n (t2 + 1) h2 (by rw [hl]; omega)
      rw [ht] at V
      exact ⟨t', kd', i', ki', fs', pr_plain w b1 b2 B fr K x k _ kn dir kd i ki fs d n t k2 t2 _ _ _ _ h1 (by omega) this hd VA V⟩
end
end
end Mine

namespace Mine
section
open PySem PySem.W Sem
section
variable {w : World} {st : ST}
/-- len of a text -/
noncomputable abbrev slenS (x : Str) (k : Tok) : Mine.Spec := ⟨.builtin "len" ⟨[.str x k], []⟩, none, none, [], fun n t => ⟨.ok (.ret (.int (Int.ofNat x.cps.toList.length) (t + 1))), n, t + 2, [], []⟩⟩
theorem slenV (x : Str) (k : Tok) (h : x.cps.toList.length < 1000000) : (slenS x k).Valid (model prog w) st := by
  refine valid_of_body rfl plain_len entry_len fun A n t s _ hp => ?_
  have e : (x.length : Int) = Int.ofNat x.cps.toList.length := rfl
  refine wpAny_len_body (typeIs_str _ _ _) PySem.F.slot_str_len PySem.F.entry_str_len (by unfold argsOk; kernel_rfl) (gives_str_len x k) (by omega) (by rw [e, Int.ofNat_eq_natCast]; omega) ⟨?_, post_pure hp.own rfl rfl rfl rfl hp.size.symm ?_ rfl rfl⟩
  · show Except.ok (Flow.ret (Value.int _ (s.toks + 1))) = _
    rw [hp.toks]; rfl
  · show s.toks + 1 + 1 = t + 2
    rw [hp.toks]
/-- a part of a text, not the whole -/
theorem sslV (a : Addr) (x : Str) (k : Tok) (l u s0 : Option (Int × Tok)) (y : Str) (h0 : ((s0.map (·.1)).getD 1 == 0) = false) (hm : sliceMade x k l u s0 = .str y) (hy : y.length ≤ sizeLine) :
    (⟨.builtin "str.__getitem__" ⟨[.str x k, .ref a], []⟩, none, none, [(a, slcO (partValue l) (partValue u) (partValue s0))], fun n t => ⟨.ok (.ret (.str y t)), n, t + 1, [slcO (partValue l) (partValue u) (partValue s0)], []⟩⟩ : Mine.Spec).Valid (model prog w) st := by
  refine valid_of_meets rfl (by decide +kernel) PySem.F.entry_str_getitem (meets_str_getitem_slice x k a l u s0 h0) fun _ n t s _ hp => ?_
  have ho := hp.own (a, slcO (partValue l) (partValue u) (partValue s0)) (List.mem_cons_self ..)
  refine ⟨⟨_, ho, rfl, rfl⟩, ?_⟩
  rw [hm]
  exact ⟨hy, by show _ = Except.ok _; rw [hp.toks], post_pure hp.own rfl rfl rfl rfl hp.size.symm (by show s.toks + 1 = t + 1; rw [hp.toks]) rfl rfl⟩
end
end
end Mine

namespace Mine
section
open PySem PySem.W Sem
theorem pick_257 (x : Str) (k k1 : Tok) (r : List Nat) (h : x.cps.toList = 50 :: 53 :: 55 :: 32 :: 34 :: r) : sliceMade x k none (some (3, k1)) none = .str ⟨#[50, 53, 55]⟩ := by
  have hl : x.length = r.length + 5 := by
    show x.cps.toList.length = _
    rw [h]; rfl
  have e : slicePicked x none (some (3, k1)) none = [0, 1, 2] := by
    unfold slicePicked Builtin.Str.strSliceIndices
    simp only [Option.map_none, Option.map_some, Option.getD_none]
    have e3 : max 0 (min (if (3 : Int) < 0 then (3 : Int) + (x.length : Int) else 3) (x.length : Int)) = ((3 : Nat) : Int) := by rw [hl]; simp; omega
    simp only [show (1 : Int) > 0 by decide, if_true, e3]
    exact sliceRange_one 0 3
  unfold sliceMade
  rw [e, if_neg (by simp [hl])]
  congr 2
  have : ∀ i : Nat, x.cps[i]? = (50 :: 53 :: 55 :: 32 :: 34 :: r)[i]? := fun i => by rw [← Array.getElem?_toList, h]
  simp [this]
theorem pick_sq (x : Str) (k k1 k2 : Tok) (r : List Nat) (h : x.cps.toList = 50 :: 53 :: 55 :: 32 :: 34 :: r) : sliceMade x k (some (3, k1)) (some (5, k2)) none = .str ⟨#[32, 34]⟩ := by
  have hl : x.length = r.length + 5 := by
    show x.cps.toList.length = _
    rw [h]; rfl
  have e : slicePicked x (some (3, k1)) (some (5, k2)) none = [3, 4] := by
    unfold slicePicked Builtin.Str.strSliceIndices
    simp only [Option.map_none, Option.map_some, Option.getD_none]
    have e3 : max 0 (min (if (3 : Int) < 0 then (3 : Int) + (x.length : Int) else 3) (x.length : Int)) = ((3 : Nat) : Int) := by rw [hl]; simp; omega
    have e5 : max 0 (min (if (5 : Int) < 0 then (5 : Int) + (x.length : Int) else 5) (x.length : Int)) = ((5 : Nat) : Int) := by rw [hl]; simp; omega
    simp only [show (1 : Int) > 0 by decide, if_true, e3, e5]
    exact sliceRange_one 3 5
  unfold sliceMade
  rw [e, if_neg (by simp [hl])]
  congr 2
  have : ∀ i : Nat, x.cps[i]? = (50 :: 53 :: 55 :: 32 :: 34 :: r)[i]? := fun i => by rw [← Array.getElem?_toList, h]
  simp [this]
section
variable (w : World) (b1 b2 : Bool) (B : Bs) (x : Str) (k : Tok)
/-- parse257 whole -/
theorem parse257V (hN : x.cps.toList.length < 1000000) (c : Nat) (tail name : List Nat) (hc : c ≠ 34) (hx : x.cps.toList = 50 :: 53 :: 55 :: 32 :: 34 :: (dbl name ++ 34 :: c :: tail)) (hz : name.length < 1000000) (n t : Nat) : ∃ (t' k' : Nat),
    (mk (.call (.ref 145) ⟨[.str x k], []⟩) none B.codes n t [] ⟨.ok (.ret (.str ⟨⟨name⟩⟩ k')), n + 3, t', [], []⟩).Valid (model prog (Wf w b1 b2)) (stW (Wf w b1 b2)) := by
  obtain ⟨t', kd', i', ki', ⟨kf, vf⟩, V⟩ := pr_loop w b1 b2 B n (Kf [t, t + 9, t + 11, t + 14]) x k (t + 13) hN c tail hc name ⟨#[]⟩ (t + 8) 5 (t + 10) none (n + 3) (t + 15) (by rw [hx]; rfl) (by show 0 + name.length < _; omega)
  refine ⟨t', kd', ?_⟩
  have V1 := sslV (w := Wf w b1 b2) (st := stW (Wf w b1 b2)) (n + 1) x k none (some (3, t + 1)) none ⟨#[50, 53, 55]⟩ rfl (pick_257 x k (t + 1) _ hx) (by decide)
  have V2 := sslV (w := Wf w b1 b2) (st := stW (Wf w b1 b2)) (n + 2) x k (some (3, t + 4)) (some (5, t + 5)) none ⟨#[32, 34]⟩ rfl (pick_sq x k (t + 4) (t + 5) _ hx) (by decide)
  refine mk_valid 300 212283044623185490778485199976256064277758778317387801742903623680 [_, neS ⟨#[50, 53, 55]⟩ (t + 2) "257" (t + 3) false, _, neS ⟨#[32, 34]⟩ (t + 6) " \"" (t + 7) false, slenS x k, _] (all_cons V1 (all_cons (neV _ _ _ _ _ (by decide +kernel)) (all_cons V2 (all_cons (neV _ _ _ _ _ (by decide +kernel)) (all_cons (slenV x k hN) (all_cons V all_nil)))))) rfl ?_
  intro p q
  cases B <;> (generalize b2 = c2; revert c2; refine split1 ?_ ?_ <;> kernel_rfl)
end
end
end Mine

namespace Mine
section
open PySem PySem.W Sem
section
variable {w : World} {st : ST}
noncomputable abbrev laddS (l b : Addr) (xs : Array Value) (ep : Nat) (ys : Array Value) (ep2 : Nat) : Mine.Spec := ⟨.builtin "list.__add__" ⟨[.ref l, .ref b], []⟩, none, none, [(l, lstO xs ep), (b, lstO ys ep2)], fun n t => ⟨.ok (.ret (.ref n)), n + 1, t, [lstO xs ep, lstO ys ep2], [(n, lstO (xs ++ ys) 0)]⟩⟩
theorem laddV (l b : Addr) (xs : Array Value) (ep : Nat) (ys : Array Value) (ep2 : Nat) (h : xs.size + ys.size ≤ sizeLine) : (laddS l b xs ep ys ep2).Valid (model prog w) st := by
  refine valid_of_meets rfl (by decide +kernel) PySem.F.entry_list_add (PySem.AutoSeq1.list___add___list_list_0 l xs ep b ys ep2 h) fun _ n t s _ hp => ?_
  have h1 := hp.own (l, lstO xs ep) (List.mem_cons_self ..)
  have h2 := hp.own (b, lstO ys ep2) (List.mem_cons_of_mem _ (List.mem_cons_self ..))
  refine ⟨h1, h2, ?_, post_push hp.own hp.size rfl rfl rfl rfl rfl rfl hp.toks rfl rfl⟩
  show Except.ok (Flow.ret (Value.ref s.heap.objs.size)) = _
  rw [hp.size]
noncomputable abbrev subS (a : Nat) (s : Tok) (b : Nat) (u : Tok) : Mine.Spec := pureS "int.__sub__" [.int (Int.ofNat a) s, .int (Int.ofNat b) u] (fun t => .int (Int.ofNat (a - b)) t) 1
theorem subV (a : Nat) (s : Tok) (b : Nat) (u : Tok) (h : b ≤ a) : (subS a s b u).Valid (model prog w) st := by
  have g := gives_int_sub (Int.ofNat a) (Int.ofNat b) s u
  have e : Int.ofNat a - Int.ofNat b = Int.ofNat (a - b) := by
    simp only [Int.ofNat_eq_natCast]; omega
  rw [e] at g
  exact pure_int (by decide +kernel) PySem.F.entry_int_sub g
end
end
end Mine

namespace Mine
section
open PySem PySem.W Sem
/-- a contract with the contracts that its run uses -/
structure Con where
  c : Code
  cs : List Code
  n : Nat
  t : Nat
  pre : List Ent
  e : Eff
  ss : List Mine.Spec
noncomputable abbrev Con.sp (C : Con) : Mine.Spec := Mine.mk C.c none C.cs C.n C.t C.pre C.e
theorem Con.valid {w : World} {st : ST} (C : Con) (fuel orc : Nat) (V : ∀ y ∈ C.ss, y.Valid (model prog w) st) (len : C.pre.length = C.e.post.length)
    (h : ∀ p q, rep (closing (pair C.pre C.e.post ++ C.e.news) (ex prog w.params st fuel C.c none (mkB C.cs q) (D C.c) p (begin_ C.pre C.n C.t orc C.ss))) =
      dia C.e.r C.e.n C.e.t (closing (pair C.pre C.e.post ++ C.e.news) (ex prog w.params st fuel C.c none (mkB C.cs q) (D C.c) p (begin_ C.pre C.n C.t orc C.ss)))) :
    C.sp.Valid (model prog w) st := mk_valid fuel orc C.ss V len h
end
end Mine

namespace Mine
section
open PySem PySem.W Sem
theorem fits_nat {i : Nat} (h : i < 1000000) : Builtin.List.listFitsIndex (Int.ofNat i) = true := by
  refine fitsIndex_of (Int.natCast_nonneg i) ?_
  rw [Int.ofNat_eq_natCast]; omega
section
variable {w : World} {st : ST}
/-! an item of a list, by its place -/
noncomputable abbrev lgetS (l : Addr) (xs : Array Value) (ep i : Nat) (u : Tok) (v : Value) : Mine.Spec := ⟨.builtin "list.__getitem__" ⟨[.ref l, .int (Int.ofNat i) u], []⟩, none, none, [(l, lstO xs ep)], fun n t => ⟨.ok (.ret v), n, t, [lstO xs ep], []⟩⟩
theorem lget_body {A : Around} {s : Shared} {E : Value → Shared → Prop} {l : Addr} {o : Obj} {items : Array Value} {ne : Nat} {k : Int} {t : Tok} {x : Value} {Q : Value → Shared → Prop} (ho : s.heap.get? l = some o) (hd : o.data = .seq items ne)
    (h0 : 0 ≤ k) (hfit : Builtin.List.listFitsIndex k = true) (hx : items[k.toNat]? = some x) (h : Q x s) : wpAny (model prog w) A (Builtin.«list.__getitem__» ⟨[.ref l, .int k t], []⟩) (fun fin s' => ∃ r, fin = .done (.ret r) ∧ Q r s') E s := by
  show wpAny _ _ (Builtin.List.listSubscript? (.int k t) >>= _) _ _ s
  refine wpAny_bind (wpAny_listSubscript_int hfit ?_)
  clear hfit
  obtain ⟨j, rfl⟩ := Int.eq_ofNat_of_zero_le h0
  have hx' : items[j]? = some x := hx
  show wpAny _ _ ((seqItemAt l j >>= fun r => Pure.pure (r.map (j, ·))) >>= _) _ _ s
  refine wpAny_bind (wpAny_bind (wpAny_seqItemAt ho hd (wpAny_pure ?_)))
  rw [hx']
  exact wpAny_pure ⟨x, rfl, h⟩
theorem lgetV (l : Addr) (xs : Array Value) (ep i : Nat) (u : Tok) (v : Value) (h : xs.toList[i]? = some v) (hz : i < 1000000) : (lgetS l xs ep i u v).Valid (model prog w) st := by
  refine valid_of_body rfl (by decide +kernel) entry_list_getitem fun A n t s _ hp => ?_
  have ho := hp.own (l, lstO xs ep) (List.mem_cons_self ..)
  have h0 : (0 : Int) ≤ Int.ofNat i := by simp
  have hf := fits_nat hz
  have hx : xs[(Int.ofNat i).toNat]? = some v := by rw [← Array.getElem?_toList]; exact h
  generalize Int.ofNat i = k at *
  exact lget_body ho rfl h0 hf hx ⟨rfl, post_pure hp.own rfl rfl rfl rfl hp.size.symm hp.toks rfl rfl⟩
noncomputable abbrev lsetS (l : Addr) (xs : Array Value) (ep i : Nat) (u : Tok) (v : Value) (ys : Array Value) : Mine.Spec := ⟨.builtin "list.__setitem__" ⟨[.ref l, .int (Int.ofNat i) u, v], []⟩, none, none, [(l, lstO xs ep)], fun n t => ⟨.ok (.ret .none), n, t, [lstO ys ep], []⟩⟩
theorem lset_body {A : Around} {s : Shared} {E : Value → Shared → Prop} {l : Addr} {o : Obj} {items : Array Value} {ne : Nat} {k : Int} {t : Tok} {v : Value} {Q : Value → Shared → Prop} (ho : s.heap.get? l = some o) (hd : o.data = .seq items ne)
    (h0 : 0 ≤ k) (hfit : Builtin.List.listFitsIndex k = true) (hn : k.toNat < items.size) (h : Q .none { s with heap := s.heap.update l (Obj.mapSeq (·.setIfInBounds k.toNat v)) }) : wpAny (model prog w) A (Builtin.«list.__setitem__» ⟨[.ref l, .int k t, v], []⟩) (fun fin s' => ∃ r, fin = .done (.ret r) ∧ Q r s') E s := by
  show wpAny _ _ (Builtin.List.listSubscript? (.int k t) >>= _) _ _ s
  refine wpAny_bind (wpAny_listSubscript_int hfit ?_)
  clear hfit
  obtain ⟨j, rfl⟩ := Int.eq_ofNat_of_zero_le h0
  have hj : j < items.size := hn
  show wpAny _ _ ((seqItemAt l j >>= fun r => Pure.pure (r.map (j, ·))) >>= _) _ _ s
  refine wpAny_bind (wpAny_bind (wpAny_seqItemAt ho hd (wpAny_pure ?_)))
  rw [Array.getElem?_eq_getElem hj]
  show wpAny _ _ (setSeqItemAt l j v >>= _) _ _ s
  refine wpAny_bind (wpAny_setSeqItemAt ho hd ?_)
  exact wpAny_pure ⟨.none, rfl, h⟩
theorem lsetV (l : Addr) (xs : Array Value) (ep i : Nat) (u : Tok) (v : Value) (ys : Array Value) (h : i < xs.size) (hy : xs.setIfInBounds i v = ys) (hz : i < 1000000) : (lsetS l xs ep i u v ys).Valid (model prog w) st := by
  refine valid_of_body rfl (by decide +kernel) entry_list_setitem fun A n t s _ hp => ?_
  have ho := hp.own (l, lstO xs ep) (List.mem_cons_self ..)
  have h0 : (0 : Int) ≤ Int.ofNat i := by simp
  have hf := fits_nat hz
  have hx : (Int.ofNat i).toNat < xs.size := h
  have hy : xs.setIfInBounds (Int.ofNat i).toNat v = ys := hy
  generalize Int.ofNat i = k at *
  refine lset_body ho rfl h0 hf hx ⟨rfl, post_update ho rfl ?_ rfl rfl rfl rfl hp.size.symm hp.toks rfl rfl⟩
  subst hy
  show Obj.mapSeq _ (lstO xs ep) = lstO (xs.setIfInBounds k.toNat v) ep
  unfold lstO Obj.mapSeq
  simp
/-! a list of one item, written k times -/
theorem foldl_rep {v : Value} : ∀ (k : Nat) (a : Array Value), List.foldl (fun x1 x2 => x1 ++ x2) a (List.replicate k #[v]) = a ++ (⟨List.replicate k v⟩ : Array Value)
  | 0, a => by simp
  | k + 1, a => by
    rw [List.replicate_succ, List.foldl_cons, foldl_rep k]
    apply Array.ext'
    simp [List.replicate_succ]
noncomputable abbrev lmulS (l : Addr) (v : Value) (ep : Nat) (i : Int) (u : Tok) : Mine.Spec := ⟨.builtin "list.__mul__" ⟨[.ref l, .int i u], []⟩, none, none, [(l, lstO #[v] ep)], fun n t => ⟨.ok (.ret (.ref n)), n + 1, t, [lstO #[v] ep], [(n, lstO ⟨List.replicate i.toNat v⟩ 0)]⟩⟩
theorem lmulV (l : Addr) (v : Value) (ep : Nat) (i : Int) (u : Tok) (h : i < 1000000) (h' : -1000000 < i) : (lmulS l v ep i u).Valid (model prog w) st := by
  have hsl : sizeLine = 16777216 := rfl
  have g := PySem.AutoListH.list___mul___list_int_3 l #[v] ep i u (by simp [Builtin.List.listFitsIndex]; omega) (by simp; omega) (by simp [Builtin.List.listTooLong]; omega)
  refine valid_of_meets rfl (by decide +kernel) PySem.F.entry_list_mul g fun _ n t s _ hp => ?_
  have h1 := hp.own (l, lstO #[v] ep) (List.mem_cons_self ..)
  refine ⟨h1, ?_, ?_⟩
  · show Except.ok (Flow.ret (Value.ref s.heap.objs.size)) = _
    rw [hp.size]
  · have e : List.foldl (fun x1 x2 => x1 ++ x2) #[] (List.replicate (if (#[v] : Array Value).isEmpty = true then 0 else i.toNat) #[v]) = (⟨List.replicate i.toNat v⟩ : Array Value) := by
      rw [if_neg (by simp), foldl_rep]; simp
    rw [e]
    exact post_push hp.own hp.size rfl rfl rfl rfl rfl rfl hp.toks rfl rfl
/-! tuples -/
theorem tup_len_body {A : Around} {s : Shared} {E : Value → Shared → Prop} {l : Addr} {items : Array Value} {Q : Value → Shared → Prop} (hl : s.heap.get? l = some { cls := .type "tuple", data := .seq items }) (hfit : (items.size : Int) < 2 ^ 63)
    (h : Q (.int items.size (s.toks + 1)) { s with toks := s.toks + 1 + 1 }) : wpAny (model prog w) A (Builtin.«len» ⟨[.ref l], []⟩) (fun fin s' => ∃ r, fin = .done (.ret r) ∧ Q r s') E s := by
  have hT : s.TypeIs (.ref l) "tuple" := ⟨_, hl, rfl⟩
  unfold Builtin.«len»
  refine wpAny_bind (m := oneArg "len" _) (wpAny_pure ?_)
  refine wpAny_bind (m := callSpecial? (.ref l) (Str.ofString "__len__")) (wpAny_callSpecial?_slot (name := Str.ofString "__len__") hT F.slot_tuple_len
    (call_meets F.slot_tuple_len hT F.entry_tuple_len (F.args_tuple_len_1 _) (AutoSeq1.tuple___len___tuple_0 l items 0) ⟨hl, ?_⟩))
  show wpAny _ _ _ _ _ { s with toks := s.toks + 1 }
  refine wpAny_bind (wpAny_holding (wpAny_pure ?_))
  refine wpAny_bind (wpAny_letGo ?_)
  show wpAny _ _ (if ((items.size : Nat) : Int) < 0 then _ else _) _ _ _
  rw [if_neg (by omega)]
  show wpAny _ _ (if ((items.size : Nat) : Int) ≥ 2 ^ 63 then _ else _) _ _ _
  rw [if_neg (by omega)]
  exact wpAny_bind (wpAny_mkInt (wpAny_pure ⟨_, rfl, h⟩))
noncomputable abbrev tlenS (a : Addr) (xs : List Value) : Mine.Spec := ⟨.builtin "len" ⟨[.ref a], []⟩, none, none, [(a, tupO xs)], fun n t => ⟨.ok (.ret (.int (Int.ofNat xs.length) (t + 1))), n, t + 2, [tupO xs], []⟩⟩
theorem tlenV (a : Addr) (xs : List Value) (hk : xs.length < 1000000) : (tlenS a xs).Valid (model prog w) st := by
  refine valid_of_body rfl plain_len entry_len fun A n t s _ hp => ?_
  have ho := hp.own (a, tupO xs) (List.mem_cons_self ..)
  have e : (⟨xs⟩ : Array Value).size = xs.length := rfl
  refine tup_len_body ho (by rw [e]; omega) ⟨?_, post_pure hp.own rfl rfl rfl rfl hp.size.symm ?_ rfl rfl⟩
  · show Except.ok (Flow.ret (Value.int _ (s.toks + 1))) = _
    rw [hp.toks]; rfl
  · show s.toks + 1 + 1 = t + 2
    rw [hp.toks]
noncomputable abbrev tgetS (l : Addr) (xs : List Value) (i : Nat) (u : Tok) (v : Value) : Mine.Spec := ⟨.builtin "tuple.__getitem__" ⟨[.ref l, .int (Int.ofNat i) u], []⟩, none, none, [(l, tupO xs)], fun n t => ⟨.ok (.ret v), n, t, [tupO xs], []⟩⟩
theorem tgetV (l : Addr) (xs : List Value) (i : Nat) (u : Tok) (v : Value) (h : xs[i]? = some v) (hz : i < 1000000) : (tgetS l xs i u v).Valid (model prog w) st := by
  have hlt : i < xs.length := (List.getElem?_eq_some_iff.mp h).1
  have g := PySem.MeetsSeq.tuple_getitem_at l ⟨xs⟩ 0 (Int.ofNat i) u i v (by rw [Int.ofNat_eq_natCast]; omega) (by rw [Int.ofNat_eq_natCast]; omega) (by
    have := seqIndex_of (k := Int.ofNat i) (n := (⟨xs⟩ : Array Value).size) (by simp) (by rw [Int.ofNat_eq_natCast]; exact Int.ofNat_lt.mpr hlt)
    simpa using this) (by simpa using h)
  refine valid_of_meets rfl (by decide +kernel) PySem.F.entry_tuple_getitem g fun _ n t s _ hp => ?_
  exact ⟨hp.own (l, tupO xs) (List.mem_cons_self ..), rfl, post_pure hp.own rfl rfl rfl rfl hp.size.symm hp.toks rfl rfl⟩
/-! ranges by ones -/
noncomputable def rngO (a : Int) (ka : Tok) (b : Int) (kb : Tok) (c : Int) (kc : Tok) : Obj := { cls := .type "range", data := .fields ⟨[.int a ka, .int b kb, .int c kc]⟩ }
noncomputable def ritO (x left : Nat) : Obj := { cls := .type "range_iterator", data := .fields ⟨[.int (Int.ofNat x) 0, .int (Int.ofNat left) 0, .int 1 0]⟩ }
noncomputable abbrev riterS (r : Addr) (a : Nat) (ka : Tok) (b : Nat) (kb kc : Tok) : Mine.Spec := ⟨.builtin "range.__iter__" ⟨[.ref r], []⟩, none, none, [(r, rngO (Int.ofNat a) ka (Int.ofNat b) kb 1 kc)], fun n t => ⟨.ok (.ret (.ref n)), n + 1, t, [rngO (Int.ofNat a) ka (Int.ofNat b) kb 1 kc], [(n, ritO a (b - a))]⟩⟩
theorem riterV (r : Addr) (a : Nat) (ka : Tok) (b : Nat) (kb kc : Tok) (ha : a < 1000000) (hb : b < 1000000) : (riterS r a ka b kb kc).Valid (model prog w) st := by
  have hsz : Builtin.Range.rangeSize (Int.ofNat a) (Int.ofNat b) 1 = Int.ofNat (b - a) := by
    unfold Builtin.Range.rangeSize
    simp only [Int.ofNat_eq_natCast]
    rw [if_pos (by decide)]
    split <;> omega
  have hsmall : (Builtin.Range.rangeFitsLong (Int.ofNat a) && Builtin.Range.rangeFitsLong (Int.ofNat b) && Builtin.Range.rangeFitsLong 1 && Builtin.Range.rangeFitsLong (Builtin.Range.rangeSize (Int.ofNat a) (Int.ofNat b) 1) && (Builtin.Range.rangeSize (Int.ofNat a) (Int.ofNat b) 1 == 0 || if (1 : Int) > 0 then Builtin.Range.rangeFitsLong (Int.ofNat b + (1 - 1)) else Builtin.Range.rangeFitsLong (Int.ofNat b + (1 + 1)))) = true := by
    have hf : ∀ k : Nat, k < 1000000 → Builtin.Range.rangeFitsLong (Int.ofNat k) = true := fun k hk => by
      unfold Builtin.Range.rangeFitsLong
      simp only [Int.ofNat_eq_natCast, Bool.and_eq_true, decide_eq_true_eq]
      omega
    rw [hsz, hf a ha, hf b hb, hf (b - a) (by omega), if_pos (by decide), show Int.ofNat b + (1 - 1) = Int.ofNat b by simp, hf b hb]
    simp; decide
  have g := PySem.AutoRange.range___iter___range_1 r (Int.ofNat a) (Int.ofNat b) 1 ka kb kc (by rw [hsmall]; decide)
  rw [hsmall, hsz] at g
  refine valid_of_meets rfl (by decide +kernel) PySem.F.entry_range_iter g fun _ n t s _ hp => ?_
  refine ⟨hp.own (r, rngO (Int.ofNat a) ka (Int.ofNat b) kb 1 kc) (List.mem_cons_self ..), ?_, post_push hp.own hp.size rfl rfl rfl rfl rfl rfl hp.toks rfl rfl⟩
  show Except.ok (Flow.ret (Value.ref s.heap.objs.size)) = _
  rw [hp.size]
noncomputable abbrev rnextS (it : Addr) (x left : Nat) : Mine.Spec := ⟨.builtin "range_iterator.__next__" ⟨[.ref it], []⟩, none, none, [(it, ritO x (left + 1))], fun n t => ⟨.ok (.ret (.int (Int.ofNat x) t)), n, t + 1, [ritO (x + 1) left], []⟩⟩
theorem rnextV (it : Addr) (x left : Nat) : (rnextS it x left).Valid (model prog w) st := by
  have g := PySem.AutoRange.range_iterator___next___range_iterator_1 it (Int.ofNat x) (Int.ofNat (left + 1)) 1 (by simp only [Int.ofNat_eq_natCast]; omega)
  refine valid_of_meets rfl (by decide +kernel) PySem.F.entry_range_iterator_next g fun _ n t s _ hp => ?_
  have ho := hp.own (it, ritO x (left + 1)) (List.mem_cons_self ..)
  refine ⟨ho, by show _ = Except.ok _; rw [hp.toks], ?_⟩
  have e1 : Int.ofNat (left + 1) - 1 = Int.ofNat left := by simp only [Int.ofNat_eq_natCast]; omega
  have e2 : (Int.ofNat x + 1) = Int.ofNat (x + 1) := by simp only [Int.ofNat_eq_natCast]; omega
  rw [e1, e2]
  have h1 := Heap.get?_update_self (h := s.heap) (Obj.mapFields fun z => z.setIfInBounds 0 (rawInt (Int.ofNat (x + 1)))) ho rfl
  have hS1 : Heap.SameBut it s.heap (s.heap.update it (Obj.mapFields fun z => z.setIfInBounds 0 (rawInt (Int.ofNat (x + 1))))) := Heap.SameBut.update ..
  have po := post_update (e := ⟨.ok (.ret (.int (Int.ofNat x) t)), n, t + 1, [ritO (x + 1) left], []⟩) (s := { s with heap := s.heap.update it (Obj.mapFields fun z => z.setIfInBounds 0 (rawInt (Int.ofNat (x + 1)))) }) (s' := { s with heap := (s.heap.update it (Obj.mapFields fun z => z.setIfInBounds 0 (rawInt (Int.ofNat (x + 1))))).update it (Obj.mapFields fun z => z.setIfInBounds 1 (rawInt (Int.ofNat left))), toks := s.toks + 1 }) h1 rfl (o' := ritO (x + 1) left) rfl rfl rfl rfl rfl (by show n = _; rw [hS1.1]; exact hp.size.symm) (by show s.toks + 1 = t + 1; rw [hp.toks]) rfl rfl
  refine ⟨po.size, po.toks, rfl, po.own, po.news, fun q hq => (nomatch hq), po.nodup, ⟨fun b hb hA => ?_, ?_, GLe.refl _, rfl, rfl, ?_⟩⟩
  · rw [po.fra.keep b (by rw [hS1.1]; exact hb) hA]
    refine Heap.get?_update_other _ _ ?_
    rintro rfl
    exact hA (List.mem_cons_self ..)
  · exact Nat.le_trans (Nat.le_of_eq hS1.1.symm) po.fra.mono
  · rw [po.fra.life]
    show (s.heap.update it _).life = _
    cases s.heap; rfl
end
end
end Mine

namespace Mine
section
open PySem PySem.W Sem
open PySem.AutoSeq1 (wpAny_loadPart')
/-- tuple of a list: the items are first collected in a list of their own -/
noncomputable def collH (h : Heap) (xs : Array Value) : Heap := (h.push (lstO #[] 0)).update h.objs.size (Obj.mapSeq (· ++ xs))
theorem collect_l {w : World} {A : Around} {E : Value → Shared → Prop} {s : Shared} {Q : List Value → Shared → Prop} {it : Addr} {xs : Array Value} {ep : Nat} (ho : s.heap.get? it = some (lstO xs ep)) (hz : xs.size ≤ sizeLine)
    (hQ : Q xs.toList { s with heap := collH s.heap xs }) : wpAny (model prog w) A (collect (.ref it)) Q E s := by
  have hn : (s.heap.push (lstO #[] 0)).get? s.heap.objs.size = some (lstO #[] 0) := Heap.get?_push_size _ rfl
  obtain ⟨e1, hu⟩ : ∃ e, (collH s.heap xs).get? s.heap.objs.size = some (lstO xs e) := by
    have h := Heap.get?_update_self (Obj.mapSeq (· ++ xs)) hn rfl
    have he : ∃ e, Obj.mapSeq (· ++ xs) (lstO #[] 0) = lstO xs e := by
      unfold lstO Obj.mapSeq
      simp only [Array.empty_append]
      exact ⟨_, rfl⟩
    obtain ⟨e, he⟩ := he
    exact ⟨e, by rw [← he]; exact h⟩
  unfold collect
  refine wpAny_bind (wpAny_runValue (codeAny_builtin F.entry_proto_collect ?_))
  rw [Around.under_plainId F.plain_proto_collect _]
  show wpAny _ A.in1 (newList [] >>= fun l => again (.builtin "list.__iadd__" ⟨[l, .ref it], []⟩)) _ _ s
  refine wpAny_bind (wpAny_newObj_type (wpAny_pure ⟨plainId_quiet F.plain_list_iadd _, codeAny_builtin F.entry_list_iadd ?_⟩))
  rw [Around.under_plainId F.plain_list_iadd _]
  show wpAny _ A.in1 (Builtin.List.listExtendWith (.ref s.heap.objs.size) (.ref it) (.ref s.heap.objs.size)) _ _ _
  refine wpAny_mono (wpAny_extend_seq (hsz := hz) (A := A) (R := fun r s' => r = .ok (.ret (.ref s.heap.objs.size)) ∧ s' = { s with heap := collH s.heap xs }) (s := { s with heap := s.heap.push (lstO #[] 0) }) _ it _ 0 (.inl rfl) hn (Heap.get?_push_of_some _ ho) rfl rfl ⟨rfl, rfl⟩) (fun fin s' h => ?_) (fun e s' h => absurd h.1 (by simp))
  have last : wpAny (model prog w) A (load s.heap.objs.size >>= fun o => match o.data with | .seq ys _ => Pure.pure ys.toList | _ => PySem.unsupported "internal:collect") Q E { s with heap := collH s.heap xs } :=
    wpAny_bind (wpAny_load hu (wpAny_pure hQ))
  cases fin with
  | done f => obtain ⟨e, rfl⟩ := h; cases e; exact last
  | again c' => exact ⟨h.1, codeAny_mono h.2 fun r s'' hr => by obtain ⟨rfl, rfl⟩ := hr; exact last⟩
section
variable {w : World} {st : ST}
theorem collH_size (h : Heap) (xs : Array Value) : (collH h xs).objs.size = h.objs.size + 1 := by
  unfold collH
  rw [(Heap.SameBut.update ..).1]
  simp [Heap.push]
theorem collH_old {h : Heap} {xs : Array Value} {b : Addr} (hb : b < h.objs.size) : (collH h xs).get? b = h.get? b := by
  unfold collH
  rw [Heap.get?_update_other _ _ (Nat.ne_of_gt hb)]
  exact Heap.get?_push_ne _ _ _ (Nat.ne_of_lt hb)
noncomputable abbrev ltupS (L : Addr) (xs : Array Value) (ep : Nat) (ys : List Value) : Mine.Spec := ⟨.builtin "tuple.__new__" ⟨[.type "tuple", .ref L], []⟩, none, none, [(L, lstO xs ep)], fun n t => ⟨.ok (.ret (.ref (n + 1))), n + 2, t, [lstO xs ep], [(n + 1, tupO ys)]⟩⟩
theorem ltupV (L : Addr) (xs : Array Value) (ep : Nat) (hz : xs.size ≤ sizeLine) : (ltupS L xs ep xs.toList).Valid (model prog w) st := by
  refine valid_of_body rfl F.plain_tuple_new F.entry_tuple_new fun A n t s _ hp => ?_
  have ho := hp.own (L, lstO xs ep) (List.mem_cons_self ..)
  have hn := hp.size
  have ht := hp.toks
  clear hp
  obtain ⟨hh, g, d, tk, os⟩ := s
  have hsub := sub_tuple_self
  have hinit := init_tuple_lookup
  have hmh := madeHere_tuple
  have hT : Shared.TypeIs ⟨hh, g, d, tk, os⟩ (.ref L) "list" := ⟨_, ho, rfl⟩
  wp_walk using wpAny_loadPart' ho, wpAny_typeOf hT, collect_l ho hz
  have hs : (collH hh xs).objs.size = n + 1 := by rw [collH_size]; exact congrArg (· + 1) hn
  refine ⟨_, rfl, ?_, ?_⟩
  · show Except.ok (Flow.ret (Value.ref (collH hh xs).objs.size)) = Except.ok (Flow.ret (Value.ref (n + 1)))
    rw [hs]
  have e0 : ({ cls := .type "tuple", dict := none, data := Data.seq xs.toList.toArray } : Obj) = tupO xs.toList := rfl
  have hlt : ∀ {b : Addr}, b < hh.objs.size → ((collH hh xs).push (tupO xs.toList)).get? b = hh.get? b := fun {b} hb => by
    rw [Heap.get?_push_ne _ _ _ (by rw [collH_size]; exact Nat.ne_of_lt (Nat.lt_succ_of_lt hb)), collH_old hb]
  have hn' : hh.objs.size = n := hn
  refine ⟨?_, ht, rfl, ?_, ?_, ?_, by simp [adr], ⟨fun b hb _ => hlt hb, ?_, GLe.refl _, rfl, rfl, ?_⟩⟩
  · show ((collH hh xs).push _).objs.size = n + 2
    rw [Heap.size_push, hs]
  · intro q hq
    rw [List.mem_singleton.mp hq]
    exact (hlt (Heap.lt_size ho)).trans ho
  · intro q hq
    rw [List.mem_singleton.mp hq]
    show ((collH hh xs).push _).get? (n + 1) = _
    rw [← hs]
    exact Heap.get?_push_size _ rfl
  · intro q hq
    rw [List.mem_singleton.mp hq]
    show hh.objs.size ≤ n + 1
    rw [hn']; exact Nat.le_succ _
  · show hh.objs.size ≤ ((collH hh xs).push _).objs.size
    rw [Heap.size_push, hs, hn']; exact Nat.le_add_right n 2
  · show ((collH hh xs).push _).life = hh.life
    cases hh; rfl
end
end
end Mine

namespace Mine
section
open PySem PySem.W Sem
/-- a contract in lots, with the contracts that its run uses -/
structure ConX where
  c : Code
  cs : List Code
  n : Nat
  t : Nat
  pre : List (List Ent)
  e : XEff
  ss : List XS
noncomputable abbrev ConX.sp (C : ConX) : XS := Mine.mkx C.c none C.cs C.n C.t C.pre C.e
theorem ConX.valid {w : World} {st : ST} (C : ConX) (fuel orc : Nat) (V : ∀ y ∈ C.ss, y.Valid (model prog w) st) (len : adr C.e.post.flatten = adr C.pre.flatten)
    (h : ∀ p q, rep (closingX (C.e.post ++ C.e.news) (ex prog w.params st fuel C.c none (mkB C.cs q) (D C.c) p (beginX C.pre C.n C.t orc C.ss))) =
      dia C.e.r C.e.n C.e.t (closingX (C.e.post ++ C.e.news) (ex prog w.params st fuel C.c none (mkB C.cs q) (D C.c) p (beginX C.pre C.n C.t orc C.ss)))) :
    C.sp.Valid (model prog w) st := mkx_valid fuel orc C.ss V len h
end
end Mine

namespace Mine
section
open PySem PySem.W Sem
noncomputable abbrev laddS' (l b : Addr) (xs : Array Value) (ep : Nat) (ys : Array Value) (ep2 : Nat) (zs : Array Value) : Mine.Spec := ⟨.builtin "list.__add__" ⟨[.ref l, .ref b], []⟩, none, none, [(l, lstO xs ep), (b, lstO ys ep2)], fun n t => ⟨.ok (.ret (.ref n)), n + 1, t, [lstO xs ep, lstO ys ep2], [(n, lstO zs 0)]⟩⟩
theorem laddV' {w : World} {st : ST} (l b : Addr) (xs : Array Value) (ep : Nat) (ys : Array Value) (ep2 : Nat) (zs : Array Value) (hz : xs ++ ys = zs) (h : xs.size + ys.size ≤ sizeLine) : (laddS' l b xs ep ys ep2 zs).Valid (model prog w) st := by
  subst hz; exact laddV l b xs ep ys ep2 h
noncomputable def wsQ : Str := "Whitespace.__init__.<locals>."
noncomputable def wsFor (f : FuncData) : Expr × List Stmt := forOf ((bodyOf f).getD 4 default)
/-- where the parts of a Whitespace under way lie -/
structure Wx where
  F : Addr
  I : Addr
  O : Addr
  x : Str
  k : Tok
  K : Nat → Tok
  b : List Stmt
  e : Env
noncomputable def Wx.env (g : Wx) (f : FuncData) : Env := funEnv f g.F wsQ 38 37
noncomputable def Wx.cds (g : Wx) (f : FuncData) : List Code := .func (bodyOf f) (g.env f) :: .builtin "type.__call__" ⟨[.ref 83, .str g.x g.k], []⟩ :: lawCds g.b g.e
noncomputable def Wx.loop (g : Wx) (f : FuncData) : Code := .forLoop (wsFor f).1 (.ref g.I) (wsFor f).2 [] (g.env f)
structure Wv where
  L : Addr
  b : Nat
  kb : Tok
  n : Nat
  kn : Tok
  nt : Nat
  knt : Tok
  fs : Option (Tok × Value)
noncomputable def Wx.fr (g : Wx) (P : Params) (v : Wv) : Obj := match v.fs with
  | none => frameO [de P "self" (g.K 0) (.ref g.O), de P "ws" (g.K 1) (.str g.x g.k), de P "T" (g.K 2) (.str "\t" 210), de P "S" (g.K 3) (.str " " 209), de P "count" (g.K 4) (.ref v.L), de P "b" (g.K 5) (.int (Int.ofNat v.b) v.kb), de P "n" (g.K 6) (.int (Int.ofNat v.n) v.kn), de P "nt" (g.K 7) (.int (Int.ofNat v.nt) v.knt)] 8
  | some (k, x) => frameO [de P "self" (g.K 0) (.ref g.O), de P "ws" (g.K 1) (.str g.x g.k), de P "T" (g.K 2) (.str "\t" 210), de P "S" (g.K 3) (.str " " 209), de P "count" (g.K 4) (.ref v.L), de P "b" (g.K 5) (.int (Int.ofNat v.b) v.kb), de P "n" (g.K 6) (.int (Int.ofNat v.n) v.kn), de P "nt" (g.K 7) (.int (Int.ofNat v.nt) v.knt), de P "ch" k x] 9
noncomputable def Wx.pre (g : Wx) (P : Params) (v : Wv) (i : Nat) (cnts : List (Nat × Tok)) (ep : Nat) : List Ent := [(g.F, g.fr P v), (g.I, sitO g.x g.k i), (v.L, lstO (natA cnts) ep)]
structure Wr where
  r : Result
  n : Nat
  t : Nat
  p1 : Obj
  p2 : Obj
  p3 : Obj
  nw : Option Ent
noncomputable def Wr.eff (r : Wr) : Eff := ⟨r.r, r.n, r.t, [r.p1, r.p2, r.p3], match r.nw with | none => [] | some x => [x]⟩
noncomputable def Wx.at (g : Wx) (P : Params) (f : FuncData) (n t : Nat) (v : Wv) (i : Nat) (cnts : List (Nat × Tok)) (ep : Nat) (r : Wr) : Mine.Spec := Mine.mk (g.loop f) none (g.cds f) n t (g.pre P v i cnts ep) r.eff
noncomputable def wsSpC (g : Wx) (P : Params) (f : FuncData) (n t : Nat) (v : Wv) (i : Nat) (cnts : List (Nat × Tok)) (ep : Nat) (r : Wr) : Con :=
  ⟨g.loop f, g.cds f, n, t, g.pre P v i cnts ep, r.eff, [snextS g.I g.x g.k i 32, eqS ⟨#[32]⟩ t " " 209 true, g.at P f n (t + 8) { v with b := v.b + 1, kb := t + 6, n := v.n + 1, kn := t + 3, fs := some (kOf v.fs (t + 1), chV 32 t) } (i + 1) cnts ep r]⟩
noncomputable def wsTbC (g : Wx) (P : Params) (f : FuncData) (n t : Nat) (v : Wv) (i : Nat) (cnts : List (Nat × Tok)) (ep c : Nat) (kc : Tok) (r : Wr) : Con :=
  ⟨g.loop f, g.cds f, n, t, g.pre P v i cnts ep, r.eff, [snextS g.I g.x g.k i 9, eqS ⟨#[9]⟩ t " " 209 false, eqS ⟨#[9]⟩ t "\t" 210 true, lenS v.L (natA cnts) ep cnts.length, geS (Int.ofNat v.b) v.kb (Int.ofNat cnts.length) (t + 9) false,
    lgetS v.L (natA cnts) ep v.b v.kb (.int (Int.ofNat c) kc), lsetS v.L (natA cnts) ep v.b v.kb (.int (Int.ofNat (c + 1)) (t + 11)) (natA (cnts.set v.b (c + 1, t + 11))),
    g.at P f n (t + 14) { v with b := 0, kb := t + 12, n := v.n + 1, kn := t + 3, nt := v.nt + 1, knt := t + 6, fs := some (kOf v.fs (t + 1), chV 9 t) } (i + 1) (cnts.set v.b (c + 1, t + 11)) ep r]⟩
noncomputable def wsGrC (g : Wx) (P : Params) (f : FuncData) (n t : Nat) (v : Wv) (i : Nat) (cnts : List (Nat × Tok)) (ep c : Nat) (kc : Tok) (r : Wr) : Con :=
  let more := cnts ++ List.replicate (v.b - cnts.length + 1) (0, t + 10)
  ⟨g.loop f, g.cds f, n, t, g.pre P v i cnts ep, { r with p3 := lstO (natA cnts) ep, nw := some (r.nw.getD (n + 2, r.p3)) }.eff, [snextS g.I g.x g.k i 9, eqS ⟨#[9]⟩ t " " 209 false, eqS ⟨#[9]⟩ t "\t" 210 true, lenS v.L (natA cnts) ep cnts.length, geS (Int.ofNat v.b) v.kb (Int.ofNat cnts.length) (t + 9) true,
    lenS v.L (natA cnts) ep cnts.length, subS v.b v.kb cnts.length (t + 12), lmulS n (.int 0 (t + 10)) 0 (Int.ofNat (v.b - cnts.length + 1)) (t + 15), laddS' v.L (n + 1) (natA cnts) ep ⟨List.replicate (v.b - cnts.length + 1) (.int 0 (t + 10))⟩ 0 (natA (cnts ++ List.replicate (v.b - cnts.length + 1) (0, t + 10))),
    lgetS (n + 2) (natA more) 0 v.b v.kb (.int (Int.ofNat c) kc), lsetS (n + 2) (natA more) 0 v.b v.kb (.int (Int.ofNat (c + 1)) (t + 18)) (natA (more.set v.b (c + 1, t + 18))),
    g.at P f (n + 3) (t + 21) { v with L := n + 2, b := 0, kb := t + 19, n := v.n + 1, kn := t + 3, nt := v.nt + 1, knt := t + 6, fs := some (kOf v.fs (t + 1), chV 9 t) } (i + 1) (more.set v.b (c + 1, t + 18)) 0 r]⟩
noncomputable def wsOtC (g : Wx) (P : Params) (f : FuncData) (n t : Nat) (v : Wv) (i : Nat) (cnts : List (Nat × Tok)) (ep c : Nat) : Con :=
  ⟨g.loop f, g.cds f, n, t, g.pre P v i cnts ep, ⟨.ok .next, n, t + 2, [g.fr P { v with fs := some (kOf v.fs (t + 1), chV c t) }, sitO g.x g.k (i + 1), lstO (natA cnts) ep], []⟩, [snextS g.I g.x g.k i c, eqS ⟨#[c]⟩ t " " 209 false, eqS ⟨#[c]⟩ t "\t" 210 false]⟩
noncomputable def wsEnC (g : Wx) (P : Params) (f : FuncData) (n t : Nat) (v : Wv) (i : Nat) (cnts : List (Nat × Tok)) (ep : Nat) : Con :=
  ⟨g.loop f, g.cds f, n, t, g.pre P v i cnts ep, ⟨.ok .next, n + 2, t, [g.fr P v, sitX i, lstO (natA cnts) ep], []⟩, [sendS (g.loop f :: g.cds f) g.I g.x g.k i]⟩
end
end Mine

namespace Mine
section
open PySem PySem.W Sem
noncomputable def wsF (w : World) : FuncData := fdOf (hd.o_76 w.params)
theorem natA_set (l : List (Nat × Tok)) (i c : Nat) (k : Tok) : (natA l).setIfInBounds i (.int (Int.ofNat c) k) = natA (l.set i (c, k)) := by
  apply Array.ext'
  show ((natVs l).toArray.setIfInBounds i _).toList = natVs (l.set i (c, k))
  rw [Array.toList_setIfInBounds]
  unfold natVs
  rw [List.map_set]
theorem natA_app (l : List (Nat × Tok)) (d : Nat) (k : Tok) : natA l ++ ⟨List.replicate d (.int 0 k)⟩ = natA (l ++ List.replicate d (0, k)) := by
  apply Array.ext'
  show (natA l ++ _).toList = natVs _
  rw [Array.toList_append]
  unfold natA natVs
  simp
theorem natA_size (l : List (Nat × Tok)) : (natA l).size = l.length := by
  show (natVs l).length = _
  unfold natVs; simp
section
variable (w : World) (b1 b2 : Bool) (g : Wx) (n t : Nat) (v : Wv) (i : Nat) (cnts : List (Nat × Tok)) (ep : Nat)
theorem ws_space (r : Wr) (hx : g.x.cps.toList[i]? = some 32) (V : (g.at ((Wf w b1 b2)).params (wsF (Wf w b1 b2)) n (t + 8) { v with b := v.b + 1, kb := t + 6, n := v.n + 1, kn := t + 3, fs := some (kOf v.fs (t + 1), chV 32 t) } (i + 1) cnts ep r).Valid (model prog (Wf w b1 b2)) (stW (Wf w b1 b2))) :
    (wsSpC g ((Wf w b1 b2)).params (wsF (Wf w b1 b2)) n t v i cnts ep r).sp.Valid (model prog (Wf w b1 b2)) (stW (Wf w b1 b2)) := by
  rcases r with ⟨r, rn, rt, p1, p2, p3, _ | nw⟩
  · refine Con.valid _ 300 2366222133884864249519663847403999266191983478330324189186 (all_cons (snextV _ _ _ _ _ hx) (all_cons (eqV _ _ _ _ _ (by decide +kernel)) (all_cons (V) all_nil))) rfl ?_
    intro p q
    rcases v with ⟨L, b, kb, nn, kn, nt, knt, _ | ⟨kf, vf⟩⟩ <;> (generalize b2 = c2; revert c2; refine split1 ?_ ?_ <;> kernel_rfl)
  · refine Con.valid _ 300 404100733198632433135010186932694649896742731924028533014530 (all_cons (snextV _ _ _ _ _ hx) (all_cons (eqV _ _ _ _ _ (by decide +kernel)) (all_cons (V) all_nil))) rfl ?_
    intro p q
    rcases v with ⟨L, b, kb, nn, kn, nt, knt, _ | ⟨kf, vf⟩⟩ <;> (generalize b2 = c2; revert c2; refine split1 ?_ ?_ <;> kernel_rfl)
theorem ws_tab (r : Wr) (c : Nat) (kc : Tok) (hx : g.x.cps.toList[i]? = some 9) (hc : cnts[v.b]? = some (c, kc)) (hz : cnts.length < 1000)
    (V : (g.at ((Wf w b1 b2)).params (wsF (Wf w b1 b2)) n (t + 14) { v with b := 0, kb := t + 12, n := v.n + 1, kn := t + 3, nt := v.nt + 1, knt := t + 6, fs := some (kOf v.fs (t + 1), chV 9 t) } (i + 1) (cnts.set v.b (c + 1, t + 11)) ep r).Valid (model prog (Wf w b1 b2)) (stW (Wf w b1 b2))) :
    (wsTbC g ((Wf w b1 b2)).params (wsF (Wf w b1 b2)) n t v i cnts ep c kc r).sp.Valid (model prog (Wf w b1 b2)) (stW (Wf w b1 b2)) := by
  have hsl : sizeLine = 16777216 := rfl
  have hlt : v.b < cnts.length := (List.getElem?_eq_some_iff.mp hc).1
  have V4 := lenV (w := (Wf w b1 b2)) (st := stW (Wf w b1 b2)) v.L (natA cnts) ep cnts.length (natA_size cnts) (by omega)
  have V5 := geV (w := (Wf w b1 b2)) (st := stW (Wf w b1 b2)) (Int.ofNat v.b) v.kb (Int.ofNat cnts.length) (t + 9) false (by simp; omega)
  have V6 := lgetV (w := (Wf w b1 b2)) (st := stW (Wf w b1 b2)) v.L (natA cnts) ep v.b v.kb (.int (Int.ofNat c) kc) (natVs_get hc) (by omega)
  have V7 := lsetV (w := (Wf w b1 b2)) (st := stW (Wf w b1 b2)) v.L (natA cnts) ep v.b v.kb (.int (Int.ofNat (c + 1)) (t + 11)) (natA (cnts.set v.b (c + 1, t + 11))) (by rw [natA_size]; exact hlt) (natA_set ..) (by omega)
  have V2 := eqV (w := (Wf w b1 b2)) (st := stW (Wf w b1 b2)) ⟨#[9]⟩ t " " 209 false (by decide +kernel)
  have V3 := eqV (w := (Wf w b1 b2)) (st := stW (Wf w b1 b2)) ⟨#[9]⟩ t "\t" 210 true (by decide +kernel)
  rcases r with ⟨r, rn, rt, p1, p2, p3, _ | nw⟩
  · refine Con.valid _ 300 1045188157967029385770905970675714549575062518611481650908440515855997779334459843503658512176220730251349645682289053514445389826 (all_cons (snextV _ _ _ _ _ hx) (all_cons (V2) (all_cons (V3) (all_cons (V4) (all_cons (V5) (all_cons (V6) (all_cons (V7) (all_cons (V) all_nil)))))))) rfl ?_
    intro p q
    rcases v with ⟨L, b, kb, nn, kn, nt, knt, _ | ⟨kf, vf⟩⟩ <;> (generalize b2 = c2; revert c2; refine split1 ?_ ?_ <;> kernel_rfl)
  · refine Con.valid _ 300 178496048581699180398789413755833071569507035342663742461819133675191761478894499718062020502841153728484387147212117650568791490562 (all_cons (snextV _ _ _ _ _ hx) (all_cons (V2) (all_cons (V3) (all_cons (V4) (all_cons (V5) (all_cons (V6) (all_cons (V7) (all_cons (V) all_nil)))))))) rfl ?_
    intro p q
    rcases v with ⟨L, b, kb, nn, kn, nt, knt, _ | ⟨kf, vf⟩⟩ <;> (generalize b2 = c2; revert c2; refine split1 ?_ ?_ <;> kernel_rfl)
theorem ws_grow (r : Wr) (c : Nat) (kc : Tok) (hx : g.x.cps.toList[i]? = some 9) (hb : cnts.length ≤ v.b) (hc : (cnts ++ List.replicate (v.b - cnts.length + 1) (0, t + 10))[v.b]? = some (c, kc)) (hz : v.b < 1000)
    (V : (g.at ((Wf w b1 b2)).params (wsF (Wf w b1 b2)) (n + 3) (t + 21) { v with L := n + 2, b := 0, kb := t + 19, n := v.n + 1, kn := t + 3, nt := v.nt + 1, knt := t + 6, fs := some (kOf v.fs (t + 1), chV 9 t) } (i + 1) ((cnts ++ List.replicate (v.b - cnts.length + 1) (0, t + 10)).set v.b (c + 1, t + 18)) 0 r).Valid (model prog (Wf w b1 b2)) (stW (Wf w b1 b2))) :
    (wsGrC g ((Wf w b1 b2)).params (wsF (Wf w b1 b2)) n t v i cnts ep c kc r).sp.Valid (model prog (Wf w b1 b2)) (stW (Wf w b1 b2)) := by
  have hsl : sizeLine = 16777216 := rfl
  have V4 := lenV (w := (Wf w b1 b2)) (st := stW (Wf w b1 b2)) v.L (natA cnts) ep cnts.length (natA_size cnts) (by omega)
  have V5 := geV (w := (Wf w b1 b2)) (st := stW (Wf w b1 b2)) (Int.ofNat v.b) v.kb (Int.ofNat cnts.length) (t + 9) true (by simp; omega)
  have V6 := subV (w := (Wf w b1 b2)) (st := stW (Wf w b1 b2)) v.b v.kb cnts.length (t + 12) hb
  have V7 := lmulV (w := (Wf w b1 b2)) (st := stW (Wf w b1 b2)) n (.int 0 (t + 10)) 0 (Int.ofNat (v.b - cnts.length + 1)) (t + 15) (by simp; omega) (by simp; omega)
  have V8 := laddV' (w := (Wf w b1 b2)) (st := stW (Wf w b1 b2)) v.L (n + 1) (natA cnts) ep ⟨List.replicate (v.b - cnts.length + 1) (.int 0 (t + 10))⟩ 0 _ (natA_app ..) (by rw [natA_size]; simp; omega)
  have V9 := lgetV (w := (Wf w b1 b2)) (st := stW (Wf w b1 b2)) (n + 2) _ 0 v.b v.kb (.int (Int.ofNat c) kc) (natVs_get hc) (by omega)
  have V10 := lsetV (w := (Wf w b1 b2)) (st := stW (Wf w b1 b2)) (n + 2) (natA (cnts ++ List.replicate (v.b - cnts.length + 1) (0, t + 10))) 0 v.b v.kb (.int (Int.ofNat (c + 1)) (t + 18)) _ (by rw [natA_size]; simp; omega) (natA_set ..) (by omega)
  have V2 := eqV (w := (Wf w b1 b2)) (st := stW (Wf w b1 b2)) ⟨#[9]⟩ t " " 209 false (by decide +kernel)
  have V3 := eqV (w := (Wf w b1 b2)) (st := stW (Wf w b1 b2)) ⟨#[9]⟩ t "\t" 210 true (by decide +kernel)
  rcases r with ⟨r, rn, rt, p1, p2, p3, _ | nw⟩
  · refine Con.valid _ 400 56283412734048204981485954025068713105355044738080828561995147123801591335509615102367922535748846794437756818542065961890922171447876155629538202945961715691620868731913235950613134272536965578754 (all_cons (snextV _ _ _ _ _ hx) (all_cons (V2) (all_cons (V3) (all_cons (V4) (all_cons (V5) (all_cons (V4) (all_cons (V6) (all_cons (V7) (all_cons (V8) (all_cons (V9) (all_cons (V10) (all_cons (V) all_nil)))))))))))) rfl ?_
    intro p q
    rcases v with ⟨L, b, kb, nn, kn, nt, knt, _ | ⟨kf, vf⟩⟩ <;> (generalize b2 = c2; revert c2; refine split1 ?_ ?_ <;> kernel_rfl)
  · refine Con.valid _ 400 65627291118938460789263073473542909738736376720925879299821333400459306877952986389932031973326823421184416268548787308063212638717253052649959653328752810349160953825003058568382860618258010112002 (all_cons (snextV _ _ _ _ _ hx) (all_cons (V2) (all_cons (V3) (all_cons (V4) (all_cons (V5) (all_cons (V4) (all_cons (V6) (all_cons (V7) (all_cons (V8) (all_cons (V9) (all_cons (V10) (all_cons (V) all_nil)))))))))))) rfl ?_
    intro p q
    rcases v with ⟨L, b, kb, nn, kn, nt, knt, _ | ⟨kf, vf⟩⟩ <;> (generalize b2 = c2; revert c2; refine split1 ?_ ?_ <;> kernel_rfl)
theorem ws_other (c : Nat) (hx : g.x.cps.toList[i]? = some c) (h1 : c ≠ 32) (h2 : c ≠ 9) : (wsOtC g ((Wf w b1 b2)).params (wsF (Wf w b1 b2)) n t v i cnts ep c).sp.Valid (model prog (Wf w b1 b2)) (stW (Wf w b1 b2)) := by
  refine Con.valid _ 300 2004267469145795934516501441547370498 (all_cons (snextV _ _ _ _ _ hx) (all_cons (eqV _ _ _ _ _ (eq_lit (d := 32) (by decide +kernel) h1)) (all_cons (eqV _ _ _ _ _ (eq_lit (d := 9) (by decide +kernel) h2)) all_nil))) rfl ?_
  intro p q
  rcases v with ⟨L, b, kb, nn, kn, nt, knt, _ | ⟨kf, vf⟩⟩ <;> (generalize b2 = c2; revert c2; refine split1 ?_ ?_ <;> kernel_rfl)
theorem ws_end (hx : g.x.cps.toList[i]? = none) : (wsEnC g ((Wf w b1 b2)).params (wsF (Wf w b1 b2)) n t v i cnts ep).sp.Valid (model prog (Wf w b1 b2)) (stW (Wf w b1 b2)) := by
  refine Con.valid _ 300 27814794420931297282 (all_cons (sendV _ _ _ _ _ hx) all_nil) rfl ?_
  intro p q
  rcases v with ⟨L, b, kb, nn, kn, nt, knt, _ | ⟨kf, vf⟩⟩ <;> (generalize b2 = c2; revert c2; refine split1 ?_ ?_ <;> kernel_rfl)
end
end
end Mine

namespace Mine
section
open PySem PySem.W Sem
noncomputable abbrev leS (a : Int) (s : Tok) (b : Int) (u : Tok) (r : Bool) : Mine.Spec := pureS "int.__le__" [.int a s, .int b u] (fun _ => .bool r) 0
theorem leV {w : World} {st : ST} (a : Int) (s : Tok) (b : Int) (u : Tok) (r : Bool) (h : decide (a ≤ b) = r) : (leS a s b u r).Valid (model prog w) st :=
  pure_val (by decide +kernel) PySem.F.entry_int_le (h ▸ gives_int_le a b s u)
/-- an object of class Whitespace, whole -/
structure Wo where
  D : Addr
  O : Addr
  N : Addr
  C : Addr
  raw : Str
  k : Tok
  K : Nat → Tok
  n : Nat
  kn : Tok
  nt : Nat
  knt : Tok
  b : Nat
  kb : Tok
  cnts : List (Nat × Tok)
  sim : Bool
noncomputable def Wo.dict (o : Wo) (P : Params) : Obj := dictO [de P "raw" (o.K 0) (.str o.raw o.k), de P "n" (o.K 1) (.int (Int.ofNat o.n) o.kn), de P "nt" (o.K 2) (.int (Int.ofNat o.nt) o.knt), de P "norm" (o.K 3) (.ref o.N), de P "is_simple" (o.K 4) (.bool o.sim)] 5
noncomputable def Wo.ents (o : Wo) (P : Params) : List Ent := [(o.D, o.dict P), (o.O, instO 83 o.D), (o.N, tupO [.ref o.C, .int (Int.ofNat o.b) o.kb]), (o.C, tupO (natVs o.cnts))]
noncomputable def wsG (x : Str) (k : Tok) (b : List Stmt) (e : Env) (n t : Nat) : Wx := ⟨n + 2, n + 8, n + 1, x, k, Kf [t, t + 1, t + 6, t + 7, t + 8, t + 10, t + 11, t + 12], b, e⟩
noncomputable def wsV (n t : Nat) : Wv := ⟨n + 7, 0, t + 9, 0, t + 9, 0, t + 9, none⟩
noncomputable def wsO (x : Str) (k : Tok) (n t n' t' : Nat) (v : Wv) (cnts : List (Nat × Tok)) : Wo := ⟨n, n + 1, n' + 2, n' + 1, x, k, Kf [t + 3, t' + 1, t' + 3, t' + 5, t' + 10], v.n, v.kn, v.nt, v.knt, v.b, v.kb, cnts, decide (Int.ofNat cnts.length ≤ 1)⟩
noncomputable def wsRes (g : Wx) (P : Params) (v : Wv) (it : Obj) (cnts0 cnts : List (Nat × Tok)) (ep0 ep n t : Nat) : Bool → Wr
  | false => ⟨.ok .next, n, t, g.fr P v, it, lstO (natA cnts) ep, none⟩
  | true => ⟨.ok .next, n, t, g.fr P v, it, lstO (natA cnts0) ep0, some (v.L, lstO (natA cnts) ep)⟩
noncomputable def wsCallC (P : Params) (f : FuncData) (x : Str) (k : Tok) (b : List Stmt) (e : Env) (n t : Nat) (v : Wv) (it : Obj) (cnts : List (Nat × Tok)) (ep n' t' : Nat) (grown : Bool) (c0 : List (Nat × Tok)) (e0 : Nat) : Con :=
  ⟨.call (.ref 83) ⟨[.str x k], []⟩, lawCds b e, n, t, [], ⟨.ok (.ret (.ref (n + 1))), n' + 3, t' + 11, [], (wsO x k n t n' t' v cnts).ents P⟩,
    [siterS x k, (wsG x k b e n t).at P f (n + 9) (t + 14) (wsV n t) 0 [] 0 (wsRes (wsG x k b e n t) P v it c0 cnts e0 ep n' t' grown), ltupS v.L (natA cnts) ep (natVs cnts), lenS v.L (natA cnts) ep cnts.length, leS (Int.ofNat cnts.length) (t' + 7) 1 (t' + 8) (decide (Int.ofNat cnts.length ≤ 1))]⟩
end
end Mine

namespace Mine
section
open PySem PySem.W Sem
noncomputable def bumpC (c : List Nat) (b : Nat) : List Nat := if b < c.length then c.set b (c.getD b 0 + 1) else (c ++ List.replicate (b - c.length + 1) 0).set b 1
/-- what Whitespace reads off a text: blanks behind, signs, tabs, counts -/
noncomputable def wsGo : List Nat → Nat → Nat → Nat → List Nat → Nat × Nat × Nat × List Nat
  | [], b, n, nt, c => (b, n, nt, c)
  | x :: l, b, n, nt, c => if x = 32 then wsGo l (b + 1) (n + 1) nt c else if x = 9 then wsGo l 0 (n + 1) (nt + 1) (bumpC c b) else (b, n, nt, c)
section
variable (w : World) (b1 b2 : Bool)
theorem ws_loop (g : Wx) : ∀ (l : List Nat) (i : Nat) (v : Wv) (cnts : List (Nat × Tok)) (ep n t : Nat), g.x.cps.toList.drop i = l → v.b + l.length < 900 → cnts.length ≤ 900 →
    ∃ (n' t' : Nat) (v' : Wv) (it' : Obj) (cnts' : List (Nat × Tok)) (ep' : Nat) (grown : Bool) (c0 : List (Nat × Tok)) (e0 : Nat), wsGo l v.b v.n v.nt (cnts.map (·.1)) = (v'.b, v'.n, v'.nt, cnts'.map (·.1)) ∧ cnts'.length ≤ 900 ∧ (grown = false → v'.L = v.L) ∧
      (g.at ((Wf w b1 b2)).params (wsF (Wf w b1 b2)) n t v i cnts ep (wsRes g ((Wf w b1 b2)).params v' it' c0 cnts' e0 ep' n' t' grown)).Valid (model prog (Wf w b1 b2)) (stW (Wf w b1 b2)) := by
  intro l
  induction l with
  | nil =>
    intro i v cnts ep n t hx _ hc
    have hn : g.x.cps.toList[i]? = none := List.getElem?_eq_none_iff.mpr (List.drop_eq_nil_iff.mp hx)
    exact ⟨n + 2, t, v, sitX i, cnts, ep, false, [], 0, rfl, hc, fun _ => rfl, ws_end w b1 b2 g n t v i cnts ep hn⟩
  | cons x l ih =>
    intro i v cnts ep n t hx hz hc
    have hz' : v.b + (l.length + 1) < 900 := hz
    obtain ⟨h1, h2⟩ := get_of_drop hx
    by_cases e1 : x = 32
    · subst e1
      obtain ⟨n', t', v', it', cnts', ep', grown, c0, e0, hr, hc', hL, V⟩ := ih (i + 1) { v with b := v.b + 1, kb := t + 6, n := v.n + 1, kn := t + 3, fs := some (kOf v.fs (t + 1), chV 32 t) } cnts ep n (t + 8) h2 (by show v.b + 1 + l.length < 900; omega) hc
      refine ⟨n', t', v', it', cnts', ep', grown, c0, e0, ?_, hc', hL, ws_space w b1 b2 g n t v i cnts ep _ h1 V⟩
      rw [← hr]; simp [wsGo]
    · by_cases e2 : x = 9
      · subst e2
        by_cases hb : v.b < cnts.length
        · have hg : cnts[v.b]? = some (cnts[v.b].1, cnts[v.b].2) := List.getElem?_eq_getElem hb
          obtain ⟨n', t', v', it', cnts', ep', grown, c0, e0, hr, hc', hL, V⟩ := ih (i + 1) { v with b := 0, kb := t + 12, n := v.n + 1, kn := t + 3, nt := v.nt + 1, knt := t + 6, fs := some (kOf v.fs (t + 1), chV 9 t) } (cnts.set v.b (cnts[v.b].1 + 1, t + 11)) ep n (t + 14) h2 (by show 0 + l.length < 900; omega) (by rw [List.length_set]; exact hc)
          refine ⟨n', t', v', it', cnts', ep', grown, c0, e0, ?_, hc', hL, ws_tab w b1 b2 g n t v i cnts ep _ _ _ h1 hg (by omega) V⟩
          rw [← hr]
          show wsGo (9 :: l) _ _ _ _ = _
          rw [wsGo, if_neg (by decide), if_pos rfl]
          congr 1
          unfold bumpC
          rw [if_pos (by rw [List.length_map]; exact hb), List.map_set]
          congr 2
          simp [List.getD_eq_getElem?_getD, hg]
        · have hb' : cnts.length ≤ v.b := by omega
          have hg : (cnts ++ List.replicate (v.b - cnts.length + 1) (0, t + 10))[v.b]? = some (0, t + 10) := by
            rw [List.getElem?_append_right hb', List.getElem?_replicate]
            rw [if_pos (by omega)]
          obtain ⟨n', t', v', it', cnts', ep', grown, c0, e0, hr, hc', hL, V⟩ := ih (i + 1) { v with L := n + 2, b := 0, kb := t + 19, n := v.n + 1, kn := t + 3, nt := v.nt + 1, knt := t + 6, fs := some (kOf v.fs (t + 1), chV 9 t) } ((cnts ++ List.replicate (v.b - cnts.length + 1) (0, t + 10)).set v.b (0 + 1, t + 18)) 0 (n + 3) (t + 21) h2 (by show 0 + l.length < 900; omega) (by rw [List.length_set, List.length_append, List.length_replicate]; omega)
          have V' := ws_grow w b1 b2 g n t v i cnts ep _ 0 (t + 10) h1 hb' hg (by omega) V
          have key : ∃ c1 e1, (g.at ((Wf w b1 b2)).params (wsF (Wf w b1 b2)) n t v i cnts ep (wsRes g ((Wf w b1 b2)).params v' it' c1 cnts' e1 ep' n' t' true)).Valid (model prog (Wf w b1 b2)) (stW (Wf w b1 b2)) := by
            refine ⟨cnts, ep, ?_⟩
            cases grown with
            | true => exact V'
            | false =>
              have hL' : v'.L = n + 2 := hL rfl
              have e : wsRes g ((Wf w b1 b2)).params v' it' cnts cnts' ep ep' n' t' true = { (wsRes g ((Wf w b1 b2)).params v' it' c0 cnts' e0 ep' n' t' false) with p3 := lstO (natA cnts) ep, nw := some (n + 2, lstO (natA cnts') ep') } := by
                rw [← hL']; rfl
              rw [e]
              exact V'
          obtain ⟨c1, e1, V2⟩ := key
          refine ⟨n', t', v', it', cnts', ep', true, c1, e1, ?_, hc', (fun h => nomatch h), V2⟩
          rw [← hr]
          show wsGo (9 :: l) _ _ _ _ = _
          rw [wsGo, if_neg (by decide), if_pos rfl]
          congr 1
          unfold bumpC
          rw [if_neg (by rw [List.length_map]; omega), List.map_set]
          simp
      · refine ⟨n, t + 2, { v with fs := some (kOf v.fs (t + 1), chV x t) }, sitO g.x g.k (i + 1), cnts, ep, false, [], 0, ?_, hc, fun _ => rfl, ws_other w b1 b2 g n t v i cnts ep x h1 e1 e2⟩
        simp [wsGo, e1, e2]
theorem ws_call (x : Str) (k : Tok) (b : List Stmt) (e : Env) (n t : Nat) (v : Wv) (it : Obj) (cnts : List (Nat × Tok)) (ep n' t' : Nat) (grown : Bool) (c0 : List (Nat × Tok)) (e0 : Nat) (ha : ascii x = true) (hc : cnts.length ≤ 900) (hL : grown = false → v.L = n + 7)
    (V : ((wsG x k b e n t).at ((Wf w b1 b2)).params (wsF (Wf w b1 b2)) (n + 9) (t + 14) (wsV n t) 0 [] 0 (wsRes (wsG x k b e n t) ((Wf w b1 b2)).params v it c0 cnts e0 ep n' t' grown)).Valid (model prog (Wf w b1 b2)) (stW (Wf w b1 b2))) :
    (wsCallC ((Wf w b1 b2)).params (wsF (Wf w b1 b2)) x k b e n t v it cnts ep n' t' grown c0 e0).sp.Valid (model prog (Wf w b1 b2)) (stW (Wf w b1 b2)) := by
  have hsl : sizeLine = 16777216 := rfl
  have V3 : (ltupS v.L (natA cnts) ep (natVs cnts)).Valid (model prog (Wf w b1 b2)) (stW (Wf w b1 b2)) := ltupV (w := (Wf w b1 b2)) (st := stW (Wf w b1 b2)) v.L (natA cnts) ep (by rw [natA_size]; omega)
  have V4 := lenV (w := (Wf w b1 b2)) (st := stW (Wf w b1 b2)) v.L (natA cnts) ep cnts.length (natA_size cnts) (by omega)
  have V5 := leV (w := (Wf w b1 b2)) (st := stW (Wf w b1 b2)) (Int.ofNat cnts.length) (t' + 7) 1 (t' + 8) _ rfl
  obtain ⟨vL, vb, vkb, vn, vkn, vnt, vknt, vfs⟩ := v
  cases grown with
  | false =>
    have hL' : vL = n + 7 := hL rfl
    subst hL'
    refine Con.valid _ 700 1584687261790692810928338075982812221713536490355960546473458776558673323998415258426560527359658727889450857152955356749659791151815464341782302882249447999926586008804232063576646685623299883031543040686287356473559362122277384460151981678298893036566656343924645031760179014846090958986862908814909835973113993743849211991168852411774425199090607705623035083854344449310194024915859259836931205906677760948889691543314040795611013081854100047476552812298555489879672550590087490020246891607131417735969255467818244098470663053565210562955743961781633024 (all_cons (siterV x k ha) (all_cons (V) (all_cons (V3) (all_cons (V4) (all_cons (V5) all_nil))))) rfl ?_
    intro p q
    rcases vfs with _ | ⟨kf, vf⟩ <;> (generalize b2 = c2; revert c2; refine split1 ?_ ?_ <;> kernel_rfl)
  | true =>
    refine Con.valid _ 700 1743031315163669236954306679377732317102467688811178669303495772051596471037960236405625534740576923059014494645319036767163793717835206876025743697478877075278194922616978749752586075314041796742547034140499093505798384589267305159687071236089990105833919963809592287556992189900994966768243253638702685720971714644299531645788841296094625839856714292277045242643519776142491476473282024012894174284456548611708814528206778761932664995453229096474277050689866255802951665592505839076035978651573599588670418659588491699256879923830509405552240514018836480 (all_cons (siterV x k ha) (all_cons (V) (all_cons (V3) (all_cons (V4) (all_cons (V5) all_nil))))) rfl ?_
    intro p q
    rcases vfs with _ | ⟨kf, vf⟩ <;> (generalize b2 = c2; revert c2; refine split1 ?_ ?_ <;> kernel_rfl)
/-- Whitespace(text), whole -/
theorem whiteV (x : Str) (k : Tok) (b : List Stmt) (e : Env) (n t : Nat) (ha : ascii x = true) (hz : x.cps.toList.length < 900) : ∃ (o : Wo) (n' t' : Nat), wsGo x.cps.toList 0 0 0 [] = (o.b, o.n, o.nt, o.cnts.map (·.1)) ∧ o.cnts.length ≤ 900 ∧ o.sim = decide (Int.ofNat o.cnts.length ≤ 1) ∧ o.O = n + 1 ∧
    (Mine.mk (.call (.ref 83) ⟨[.str x k], []⟩) none (lawCds b e) n t [] ⟨.ok (.ret (.ref (n + 1))), n', t', [], o.ents ((Wf w b1 b2)).params⟩).Valid (model prog (Wf w b1 b2)) (stW (Wf w b1 b2)) := by
  obtain ⟨n', t', v', it', cnts', ep', grown, c0, e0, hr, hc', hL, V⟩ := ws_loop w b1 b2 (wsG x k b e n t) x.cps.toList 0 (wsV n t) [] 0 (n + 9) (t + 14) rfl (by show 0 + _ < _; omega) (by simp)
  exact ⟨wsO x k n t n' t' v' cnts', n' + 3, t' + 11, hr, hc', rfl, rfl, ws_call w b1 b2 x k b e n t v' it' cnts' ep' n' t' grown c0 e0 ha hc' hL V⟩
end
end
end Mine

namespace Mine
section
open PySem PySem.W Sem
noncomputable abbrev subZ (a : Int) (s : Tok) (b : Int) (u : Tok) (z : Int) : Mine.Spec := pureS "int.__sub__" [.int a s, .int b u] (fun t => .int z t) 1
theorem subZV {w : World} {st : ST} (a : Int) (s : Tok) (b : Int) (u : Tok) (z : Int) (h : a - b = z) : (subZ a s b u z).Valid (model prog w) st := by
  subst h
  exact pure_int (by decide +kernel) PySem.F.entry_int_sub (gives_int_sub a b s u)
noncomputable abbrev gtS (a : Int) (s : Tok) (b : Int) (u : Tok) (r : Bool) : Mine.Spec := pureS "int.__gt__" [.int a s, .int b u] (fun _ => .bool r) 0
theorem gtV {w : World} {st : ST} (a : Int) (s : Tok) (b : Int) (u : Tok) (r : Bool) (h : decide (a > b) = r) : (gtS a s b u r).Valid (model prog w) st :=
  pure_val (by decide +kernel) PySem.F.entry_int_gt (h ▸ gives_int_gt a b s u)
theorem mulV' {w : World} {st : ST} (a : Nat) (s : Tok) (b : Nat) (u : Tok) (ha : a < 1000000) : (mulS a s b u).Valid (model prog w) st := by
  refine pure_int (by decide +kernel) PySem.F.entry_int_mul (gives_int_mul (Int.ofNat a) (Int.ofNat b) s u (IntMulOk.of_left ?_))
  unfold Builtin.Int.intBits
  by_cases h0 : a = 0
  · subst h0; decide
  · rw [if_neg (by simpa using h0)]
    show a.log2 + 1 ≤ 64
    have h20 : a < 2 ^ 20 := by omega
    have := (Nat.log2_lt h0).mpr h20
    omega
/-- a call within a def of the law's -/
noncomputable def defCds (b1 : List Stmt) (e1 : Env) (b : List Stmt) (e : Env) : List Code := .func b1 e1 :: lawCds b e
noncomputable def lrC (o : Wo) (P : Params) (b1 : List Stmt) (e1 : Env) (b : List Stmt) (e : Env) (n t : Nat) (z : Int) : Bool → Con
  | true => ⟨.call (.ref 45) ⟨[.ref o.O], []⟩, defCds b1 e1 b e, n, t, o.ents P, ⟨.ok (.ret (.int (Int.ofNat o.b) o.kb)), n + 9, t + 8, objs (o.ents P), []⟩, [tlenS o.C (natVs o.cnts), subZ (Int.ofNat (natVs o.cnts).length) (t + 5) 1 (t + 6) z, gtS (Int.ofNat o.b) o.kb z (t + 7) true]⟩
  | false => ⟨.call (.ref 45) ⟨[.ref o.O], []⟩, defCds b1 e1 b e, n, t, o.ents P, ⟨.ok (.ret (.int z (t + 7))), n + 9, t + 8, objs (o.ents P), []⟩, [tlenS o.C (natVs o.cnts), subZ (Int.ofNat (natVs o.cnts).length) (t + 5) 1 (t + 6) z, gtS (Int.ofNat o.b) o.kb z (t + 7) false]⟩
noncomputable def ilQ : Str := "Whitespace.indent_level.<locals>."
noncomputable def ilFor (f : FuncData) : Expr × List Stmt := forOf ((bodyOf f).getD 2 default)
structure Ix where
  F : Addr
  I : Addr
  C : Addr
  O : Addr
  K : Nat → Tok
  ts : Nat
  kts : Tok
  b : Nat
  kb : Tok
  cnts : List (Nat × Tok)
  cds : List Code
noncomputable def Ix.env (g : Ix) (f : FuncData) : Env := funEnv f g.F ilQ 52 51
noncomputable def Ix.loop (g : Ix) (f : FuncData) : Code := .forLoop (ilFor f).1 (.ref g.I) (ilFor f).2 [] (g.env f)
noncomputable def Ix.fr (g : Ix) (P : Params) (il : Nat) (kil : Tok) : Option (Tok × Value) → Obj
  | none => frameO [de P "self" (g.K 0) (.ref g.O), de P "tabsize" (g.K 1) (.int (Int.ofNat g.ts) g.kts), de P "count" (g.K 2) (.ref g.C), de P "trailing" (g.K 3) (.int (Int.ofNat g.b) g.kb), de P "il" (g.K 4) (.int (Int.ofNat il) kil)] 5
  | some (k, v) => frameO [de P "self" (g.K 0) (.ref g.O), de P "tabsize" (g.K 1) (.int (Int.ofNat g.ts) g.kts), de P "count" (g.K 2) (.ref g.C), de P "trailing" (g.K 3) (.int (Int.ofNat g.b) g.kb), de P "il" (g.K 4) (.int (Int.ofNat il) kil), de P "i" k v] 6
noncomputable def loopCds (fe : Expr) (fi : Value) (fb fo : List Stmt) (fv : Env) (b1 : List Stmt) (e1 : Env) (b : List Stmt) (e : Env) : List Code := .forLoop fe fi fb fo fv :: defCds b1 e1 b e
noncomputable def Ix.pre (g : Ix) (P : Params) (x left : Nat) (il : Nat) (kil : Tok) (fs : Option (Tok × Value)) : List Ent := [(g.F, g.fr P il kil fs), (g.I, ritO x left), (g.C, tupO (natVs g.cnts))]
noncomputable def Ix.at (g : Ix) (P : Params) (f : FuncData) (n t : Nat) (x left : Nat) (il : Nat) (kil : Tok) (fs : Option (Tok × Value)) (e : Eff) : Mine.Spec := Mine.mk (g.loop f) none (.func (bodyOf f) (g.env f) :: g.cds) n t (g.pre P x left il kil fs) e
noncomputable def ilTurnC (g : Ix) (P : Params) (f : FuncData) (n t : Nat) (x left : Nat) (il : Nat) (kil : Tok) (fs : Option (Tok × Value)) (c : Nat) (kc : Tok) (er : Result) (en et : Nat) (p1 p2 p3 : Obj) : Con :=
  ⟨g.loop f, .func (bodyOf f) (g.env f) :: g.cds, n, t, g.pre P x (left + 1) il kil fs, ⟨er, en, et, [p1, p2, p3], []⟩, [rnextS g.I x left, fdivS x t g.ts g.kts, tgetS g.C (natVs g.cnts) x t (.int (Int.ofNat c) kc), mulS (x / g.ts) (t + 2) c kc,
    g.at P f n (t + 6) (x + 1) left (il + x / g.ts * c) (t + 4) (some (kOf fs (t + 1), .int (Int.ofNat x) t)) ⟨er, en, et, [p1, p2, p3], []⟩]⟩
noncomputable def ritX (x : Nat) : Obj := ritO x 0
noncomputable def ilEndC (g : Ix) (P : Params) (f : FuncData) (n t : Nat) (x : Nat) (il : Nat) (kil : Tok) (fs : Option (Tok × Value)) : Con :=
  ⟨g.loop f, .func (bodyOf f) (g.env f) :: g.cds, n, t, g.pre P x 0 il kil fs, ⟨.ok .next, n + 2, t, [g.fr P il kil fs, ritO x 0, tupO (natVs g.cnts)], []⟩, []⟩
noncomputable def ilX (o : Wo) (n t ts : Nat) (kts : Tok) (cds : List Code) : Ix := ⟨n, n + 5, o.C, o.O, Kf [t, t + 1, t + 3, t + 4, t + 6], ts, kts, o.b, o.kb, o.cnts, cds⟩
noncomputable def ilC (o : Wo) (P : Params) (f : FuncData) (cds : List Code) (n t ts : Nat) (kts : Tok) (n' t' x' il : Nat) (kil : Tok) (fs : Option (Tok × Value)) : Con :=
  ⟨.call (.ref 52) ⟨[.ref o.O, .int (Int.ofNat ts) kts], []⟩, cds, n, t, o.ents P, ⟨.ok (.ret (.int (Int.ofNat (o.b + ts * (il + o.nt))) (t' + 3))), n', t' + 4, objs (o.ents P), []⟩,
    [tlenS o.C (natVs o.cnts), riterS (n + 4) ts kts (natVs o.cnts).length (t + 8) (t + 9), (ilX o n t ts kts cds).at P f (n + 6) (t + 10) ts ((natVs o.cnts).length - ts) 0 (t + 5) none ⟨.ok .next, n', t', [(ilX o n t ts kts cds).fr P il kil fs, ritO x' 0, tupO (natVs o.cnts)], []⟩, mulS ts kts (il + o.nt) (t' + 1)]⟩
end
end Mine

namespace Mine
section
open PySem PySem.W Sem
noncomputable def ilF (w : World) : FuncData := fdOf (hd.o_90 w.params)
theorem natVs_len (l : List (Nat × Tok)) : (natVs l).length = l.length := by unfold natVs; simp
theorem natVs_at {l : List (Nat × Tok)} {i : Nat} {r : Nat × Tok} (h : l[i]? = some r) : (natVs l)[i]? = some (.int (Int.ofNat r.1) r.2) := by
  unfold natVs; rw [List.getElem?_map, h]; rfl
/-- the longest run of spaces -/
noncomputable def lrN (b m : Nat) : Nat := max (m - 1) b
noncomputable def ilGo (ts : Nat) : List Nat → Nat → Nat → Nat
  | [], _, il => il
  | c :: l, x, il => ilGo ts l (x + 1) (il + x / ts * c)
section
variable (w : World) (b1 b2 : Bool) (bb1 : List Stmt) (ee1 : Env) (b : List Stmt) (e : Env)
theorem lrunV (o : Wo) (n t : Nat) (hc : o.cnts.length ≤ 900) : ∃ k, (Mine.mk (.call (.ref 45) ⟨[.ref o.O], []⟩) none (defCds bb1 ee1 b e) n t (o.ents ((Wf w b1 b2)).params) ⟨.ok (.ret (.int (Int.ofNat (lrN o.b o.cnts.length)) k)), n + 9, t + 8, objs (o.ents ((Wf w b1 b2)).params), []⟩).Valid (model prog (Wf w b1 b2)) (stW (Wf w b1 b2)) := by
  have V1 := tlenV (w := (Wf w b1 b2)) (st := stW (Wf w b1 b2)) o.C (natVs o.cnts) (by rw [natVs_len]; omega)
  by_cases h : o.cnts.length - 1 < o.b ∨ o.cnts.length = 0
  · refine ⟨o.kb, ?_⟩
    have e1 : lrN o.b o.cnts.length = o.b := by unfold lrN; omega
    rw [e1]
    have V : (lrC o ((Wf w b1 b2)).params bb1 ee1 b e n t (Int.ofNat (natVs o.cnts).length - 1) true).sp.Valid (model prog (Wf w b1 b2)) (stW (Wf w b1 b2)) := by
      refine Con.valid _ 500 129737841212411021435586608141879167476964653973989370168341541787293122338660548664382034565457073892115770721680014324827445444700846639749233449318422305198022148278671491155033078303964459947289812988261159266952244700523045146935883463012238574388996003265069056 (all_cons (V1) (all_cons (subZV _ _ _ _ _ rfl) (all_cons (gtV _ _ _ _ _ (by rw [natVs_len]; simp only [Int.ofNat_eq_natCast, decide_eq_true_eq]; omega)) all_nil))) rfl ?_
      intro p q
      (generalize b1 = c1; generalize b2 = c2; revert c1 c2; refine split2 ?_ ?_ ?_ ?_ <;> kernel_rfl)
    exact V
  · refine ⟨t + 7, ?_⟩
    have e1 : lrN o.b o.cnts.length = o.cnts.length - 1 := by unfold lrN; omega
    rw [e1]
    have V : (lrC o ((Wf w b1 b2)).params bb1 ee1 b e n t (Int.ofNat (o.cnts.length - 1)) false).sp.Valid (model prog (Wf w b1 b2)) (stW (Wf w b1 b2)) := by
      refine Con.valid _ 500 61863823515134344785493187018336852777926820466950564348696772470639460401101471956294614446847137525857109393953397791369765481961799694899730100488151501926417785288174194374972182398184015874410055551594081271775675648703530022410508666444700271018479009792 (all_cons (V1) (all_cons (subZV _ _ _ _ _ (by rw [natVs_len]; simp only [Int.ofNat_eq_natCast]; omega)) (all_cons (gtV _ _ _ _ _ (by simp only [Int.ofNat_eq_natCast, decide_eq_false_iff_not]; omega)) all_nil))) rfl ?_
      intro p q
      (generalize b1 = c1; generalize b2 = c2; revert c1 c2; refine split2 ?_ ?_ ?_ ?_ <;> kernel_rfl)
    exact V
theorem il_turn (g : Ix) (n t x left il : Nat) (kil : Tok) (fs : Option (Tok × Value)) (c : Nat) (kc : Tok) (er : Result) (en et : Nat) (p1 p2 p3 : Obj) (fe : Expr) (fi : Value) (fb fo : List Stmt) (fv : Env) (hcds : g.cds = loopCds fe fi fb fo fv bb1 ee1 b e)
    (h0 : g.ts ≠ 0) (hts : g.ts < 1000000) (hx : g.cnts[x]? = some (c, kc)) (hc : c < 1000000) (hlen : x < 1000000)
    (V : (g.at ((Wf w b1 b2)).params (ilF (Wf w b1 b2)) n (t + 6) (x + 1) left (il + x / g.ts * c) (t + 4) (some (kOf fs (t + 1), .int (Int.ofNat x) t)) ⟨er, en, et, [p1, p2, p3], []⟩).Valid (model prog (Wf w b1 b2)) (stW (Wf w b1 b2))) :
    (ilTurnC g ((Wf w b1 b2)).params (ilF (Wf w b1 b2)) n t x left il kil fs c kc er en et p1 p2 p3).sp.Valid (model prog (Wf w b1 b2)) (stW (Wf w b1 b2)) := by
  have V1 := tgetV (w := (Wf w b1 b2)) (st := stW (Wf w b1 b2)) g.C (natVs g.cnts) x t (.int (Int.ofNat c) kc) (natVs_at hx) hlen
  have V2 := fdivV (w := (Wf w b1 b2)) (st := stW (Wf w b1 b2)) x t g.ts g.kts h0 hts
  have V3 := mulV (w := (Wf w b1 b2)) (st := stW (Wf w b1 b2)) (x / g.ts) (t + 2) c kc hc
  obtain ⟨gF, gI, gC, gO, gK, gts, gkts, gb, gkb, gcnts, gcds⟩ := g
  obtain rfl : gcds = _ := hcds
  refine Con.valid _ 300 10406755000429389190232616716310815575233156719340318496443740817752066 (all_cons (rnextV _ _ _) (all_cons (V2) (all_cons (V1) (all_cons (V3) (all_cons (V) all_nil))))) rfl ?_
  intro p q
  rcases fs with _ | ⟨kf, vf⟩ <;> (generalize b2 = c2; revert c2; refine split1 ?_ ?_ <;> kernel_rfl)
theorem il_end (g : Ix) (n t x il : Nat) (kil : Tok) (fs : Option (Tok × Value)) (fe : Expr) (fi : Value) (fb fo : List Stmt) (fv : Env) (hcds : g.cds = loopCds fe fi fb fo fv bb1 ee1 b e) :
    (ilEndC g ((Wf w b1 b2)).params (ilF (Wf w b1 b2)) n t x il kil fs).sp.Valid (model prog (Wf w b1 b2)) (stW (Wf w b1 b2)) := by
  obtain ⟨gF, gI, gC, gO, gK, gts, gkts, gb, gkb, gcnts, gcds⟩ := g
  obtain rfl : gcds = _ := hcds
  refine Con.valid _ 300 455717591792572734406658 all_nil rfl ?_
  intro p q
  rcases fs with _ | ⟨kf, vf⟩ <;> (generalize b2 = c2; revert c2; refine split1 ?_ ?_ <;> kernel_rfl)
theorem il_loop (g : Ix) (fe : Expr) (fi : Value) (fb fo : List Stmt) (fv : Env) (hcds : g.cds = loopCds fe fi fb fo fv bb1 ee1 b e) (h0 : g.ts ≠ 0) (hts : g.ts < 1000000) (hcs : ∀ c ∈ g.cnts, c.1 < 1000000) (hlen : g.cnts.length ≤ 900) : ∀ (rest : List (Nat × Tok)) (x il : Nat) (kil : Tok) (fs : Option (Tok × Value)) (n t : Nat), g.cnts.drop x = rest →
    ∃ (n' t' x' : Nat) (kil' : Tok) (fs' : Option (Tok × Value)), (g.at ((Wf w b1 b2)).params (ilF (Wf w b1 b2)) n t x rest.length il kil fs ⟨.ok .next, n', t', [g.fr ((Wf w b1 b2)).params (ilGo g.ts (rest.map (·.1)) x il) kil' fs', ritO x' 0, tupO (natVs g.cnts)], []⟩).Valid (model prog (Wf w b1 b2)) (stW (Wf w b1 b2)) := by
  intro rest
  induction rest with
  | nil =>
    intro x il kil fs n t _
    exact ⟨n + 2, t, x, kil, fs, il_end w b1 b2 bb1 ee1 b e g n t x il kil fs fe fi fb fo fv hcds⟩
  | cons c rest ih =>
    intro x il kil fs n t hx
    have hs : g.cnts[x]? = some c := by
      have := congrArg (fun l => l[0]?) hx
      simpa using this
    have hd : g.cnts.drop (x + 1) = rest := by
      have := congrArg List.tail hx
      simpa using this
    have hlt : x < g.cnts.length := (List.getElem?_eq_some_iff.mp hs).1
    obtain ⟨n', t', x', kil', fs', V⟩ := ih (x + 1) (il + x / g.ts * c.1) (t + 4) (some (kOf fs (t + 1), .int (Int.ofNat x) t)) n (t + 6) hd
    exact ⟨n', t', x', kil', fs', il_turn w b1 b2 bb1 ee1 b e g n t x rest.length il kil fs c.1 c.2 _ _ _ _ _ _ fe fi fb fo fv hcds h0 hts hs (hcs c (List.mem_of_getElem? hs)) (by omega) V⟩
/-- indent_level whole -/
theorem ilevV (o : Wo) (fe : Expr) (fi : Value) (fb fo : List Stmt) (fv : Env) (n t ts : Nat) (kts : Tok) (h0 : ts ≠ 0) (hts : ts < 1000000) (hcs : ∀ c ∈ o.cnts, c.1 < 1000000) (hlen : o.cnts.length ≤ 900) : ∃ (n' t' : Nat) (k : Tok),
    (Mine.mk (.call (.ref 52) ⟨[.ref o.O, .int (Int.ofNat ts) kts], []⟩) none (loopCds fe fi fb fo fv bb1 ee1 b e) n t (o.ents ((Wf w b1 b2)).params) ⟨.ok (.ret (.int (Int.ofNat (o.b + ts * (ilGo ts ((o.cnts.map (·.1)).drop ts) ts 0 + o.nt))) k)), n', t', objs (o.ents ((Wf w b1 b2)).params), []⟩).Valid (model prog (Wf w b1 b2)) (stW (Wf w b1 b2)) := by
  obtain ⟨n', t', x', kil', fs', V⟩ := il_loop w b1 b2 bb1 ee1 b e (ilX o n t ts kts (loopCds fe fi fb fo fv bb1 ee1 b e)) fe fi fb fo fv rfl h0 hts hcs hlen (o.cnts.drop ts) ts 0 (t + 5) none (n + 6) (t + 10) rfl
  refine ⟨n', t' + 4, t' + 3, ?_⟩
  have el : (o.cnts.drop ts).length = (natVs o.cnts).length - ts := by rw [natVs_len, List.length_drop]
  rw [el] at V
  have V1 := tlenV (w := (Wf w b1 b2)) (st := stW (Wf w b1 b2)) o.C (natVs o.cnts) (by rw [natVs_len]; omega)
  have V2 := riterV (w := (Wf w b1 b2)) (st := stW (Wf w b1 b2)) (n + 4) ts kts (natVs o.cnts).length (t + 8) (t + 9) hts (by rw [natVs_len]; omega)
  rw [List.map_drop] at V
  have V3 := mulV' (w := (Wf w b1 b2)) (st := stW (Wf w b1 b2)) ts kts (ilGo ts ((o.cnts.map (·.1)).drop ts) ts 0 + o.nt) (t' + 1) hts
  have key : (ilC o ((Wf w b1 b2)).params (ilF (Wf w b1 b2)) (loopCds fe fi fb fo fv bb1 ee1 b e) n t ts kts n' t' x' (ilGo ts ((o.cnts.map (·.1)).drop ts) ts 0) kil' fs').sp.Valid (model prog (Wf w b1 b2)) (stW (Wf w b1 b2)) := by
    refine Con.valid _ 400 230460699201080315409503546776452583877361797792626904722490184980864912864417568996203396214432850352763888901831546213286710429685954296437515876916879845737770781368812767001267199956575652879762466721296481747268252872521171265976305504485453676544 (all_cons (V1) (all_cons (V2) (all_cons (V) (all_cons (V3) all_nil)))) rfl ?_
    intro p q
    rcases fs' with _ | ⟨kf, vf⟩ <;> (generalize b1 = c1; generalize b2 = c2; revert c1 c2; refine split2 ?_ ?_ ?_ ?_ <;> kernel_rfl)
  exact key
end
end
end Mine

namespace Mine
section
open PySem PySem.W Sem
/-- a row of a list of witnesses: where it lies, the size, the two columns -/
noncomputable abbrev Row := Addr × (Nat × Tok) × (Nat × Tok) × (Nat × Tok)
noncomputable def iv (x : Nat × Tok) : Value := .int (Int.ofNat x.1) x.2
noncomputable def rowE (r : Row) : Ent := (r.1, tupO [iv r.2.1, iv r.2.2.1, iv r.2.2.2])
noncomputable def rowsE : List Row → List Ent
  | [] => []
  | r :: l => rowE r :: rowsE l
noncomputable def rowVs (l : List Row) : List Value := l.map fun r => .ref r.1
noncomputable def rowA (l : List Row) : Array Value := ⟨rowVs l⟩
noncomputable abbrev appS' (l : Addr) (xs : Array Value) (ep : Nat) (v : Value) (ys : Array Value) : Mine.Spec := ⟨.builtin "list.append" ⟨[.ref l, v], []⟩, none, none, [(l, lstO xs ep)], fun n t => ⟨.ok (.ret .none), n, t, [lstO ys (ep + 1)], []⟩⟩
theorem appV' {w : World} {st : ST} (l : Addr) (xs : Array Value) (ep : Nat) (v : Value) (ys : Array Value) (hy : xs.push v = ys) (h : xs.size ≤ sizeLine) : (appS' l xs ep v ys).Valid (model prog w) st := by
  subst hy; exact appV l xs ep v h
noncomputable def levC (o : Wo) (ts : Nat) (kts : Tok) : Code := .call (.ref 52) ⟨[.ref o.O, .int (Int.ofNat ts) kts], []⟩
noncomputable def levS (o : Wo) (P : Params) (ts : Nat) (kts : Tok) (cds : List Code) (n t v : Nat) (k : Tok) (n' t' : Nat) : Mine.Spec := Mine.mk (levC o ts kts) none cds n t (o.ents P) ⟨.ok (.ret (.int (Int.ofNat v) k)), n', t', objs (o.ents P), []⟩
noncomputable def nlQ : Str := "Whitespace.not_less_witness.<locals>."
noncomputable def nlFor (f : FuncData) : Expr × List Stmt := forOf ((bodyOf f).getD 2 default)
structure Nx where
  F : Addr
  I : Addr
  L : Addr
  o1 : Wo
  o2 : Wo
  K : Nat → Tok
  m : Nat
  km : Tok
  b : List Stmt
  e : Env
noncomputable def Nx.env (g : Nx) (f : FuncData) : Env := funEnv f g.F nlQ 80 79
noncomputable def Nx.loop (g : Nx) (f : FuncData) : Code := .forLoop (nlFor f).1 (.ref g.I) (nlFor f).2 [] (g.env f)
noncomputable def Nx.cds (g : Nx) (f : FuncData) : List Code := .func (bodyOf f) (g.env f) :: lawCds g.b g.e
noncomputable def Nx.in (g : Nx) (f : FuncData) : List Code := loopCds (nlFor f).1 (.ref g.I) (nlFor f).2 [] (g.env f) (bodyOf f) (g.env f) g.b g.e
noncomputable def Nx.fr (g : Nx) (P : Params) : Option (Tok × Value) → Obj
  | none => frameO [de P "self" (g.K 0) (.ref g.o1.O), de P "other" (g.K 1) (.ref g.o2.O), de P "n" (g.K 2) (.int (Int.ofNat g.m) g.km), de P "a" (g.K 3) (.ref g.L)] 4
  | some (k, v) => frameO [de P "self" (g.K 0) (.ref g.o1.O), de P "other" (g.K 1) (.ref g.o2.O), de P "n" (g.K 2) (.int (Int.ofNat g.m) g.km), de P "a" (g.K 3) (.ref g.L), de P "ts" k v] 5
noncomputable def Nx.lots (g : Nx) (P : Params) (p1 p2 p3 : Obj) : List (List Ent) := [(g.F, p1)] :: [(g.I, p2)] :: [(g.L, p3)] :: sing (g.o1.ents P ++ g.o2.ents P)
noncomputable def Nx.at (g : Nx) (P : Params) (f : FuncData) (n t x left : Nat) (R : List Row) (ep : Nat) (fs : Option (Tok × Value)) (er : Result) (en et : Nat) (p1 p2 p3 : Obj) (B : List (List Ent)) : XS :=
  mkx (g.loop f) none (g.cds f) n t (g.lots P (g.fr P fs) (ritO x left) (lstO (rowA R) ep)) ⟨er, en, et, g.lots P p1 p2 p3, B⟩
noncomputable def nlAppC (g : Nx) (P : Params) (f : FuncData) (n t x left : Nat) (R : List Row) (ep : Nat) (fs : Option (Tok × Value)) (v1 v2 : Nat) (k1 n1 t1 k2 n2 t2 k3 n3 t3 k4 n4 t4 : Nat) (er : Result) (en et : Nat) (p1 p2 p3 : Obj) (B : List Ent) : ConX :=
  let r : Row := (n4, (x, t), (v1, k3), (v2, k4))
  ⟨g.loop f, g.cds f, n, t, g.lots P (g.fr P fs) (ritO x (left + 1)) (lstO (rowA R) ep), ⟨er, en, et, g.lots P p1 p2 p3, [[rowE r], B]⟩,
    [(rnextS g.I x left).x, (levS g.o1 P x t (g.in f) n (t + 2) v1 k1 n1 t1).x, (levS g.o2 P x t (g.in f) n1 t1 v2 k2 n2 t2).x, (geS (Int.ofNat v1) k1 (Int.ofNat v2) k2 true).x, (levS g.o1 P x t (g.in f) n2 t2 v1 k3 n3 t3).x, (levS g.o2 P x t (g.in f) n3 t3 v2 k4 n4 t4).x,
      (appS' g.L (rowA R) ep (.ref n4) (rowA (R ++ [r]))).x, g.at P f (n4 + 1) t4 (x + 1) left (R ++ [r]) (ep + 1) (some (kOf fs (t + 1), .int (Int.ofNat x) t)) er en et p1 p2 p3 [B]]⟩
noncomputable def nlSkipC (g : Nx) (P : Params) (f : FuncData) (n t x left : Nat) (R : List Row) (ep : Nat) (fs : Option (Tok × Value)) (v1 v2 : Nat) (k1 n1 t1 k2 n2 t2 : Nat) (er : Result) (en et : Nat) (p1 p2 p3 : Obj) (B : List Ent) : ConX :=
  ⟨g.loop f, g.cds f, n, t, g.lots P (g.fr P fs) (ritO x (left + 1)) (lstO (rowA R) ep), ⟨er, en, et, g.lots P p1 p2 p3, [B]⟩,
    [(rnextS g.I x left).x, (levS g.o1 P x t (g.in f) n (t + 2) v1 k1 n1 t1).x, (levS g.o2 P x t (g.in f) n1 t1 v2 k2 n2 t2).x, (geS (Int.ofNat v1) k1 (Int.ofNat v2) k2 false).x,
      g.at P f n2 t2 (x + 1) left R ep (some (kOf fs (t + 1), .int (Int.ofNat x) t)) er en et p1 p2 p3 [B]]⟩
noncomputable def nlEndC (g : Nx) (P : Params) (f : FuncData) (n t x : Nat) (R : List Row) (ep : Nat) (fs : Option (Tok × Value)) : ConX :=
  ⟨g.loop f, g.cds f, n, t, g.lots P (g.fr P fs) (ritO x 0) (lstO (rowA R) ep), ⟨.ok .next, n + 2, t, g.lots P (g.fr P fs) (ritO x 0) (lstO (rowA R) ep), []⟩, []⟩
noncomputable def lrS (o : Wo) (P : Params) (cds : List Code) (n t m : Nat) (k : Tok) : Mine.Spec := Mine.mk (.call (.ref 45) ⟨[.ref o.O], []⟩) none cds n t (o.ents P) ⟨.ok (.ret (.int (Int.ofNat m) k)), n + 9, t + 8, objs (o.ents P), []⟩
noncomputable def nlG (o1 o2 : Wo) (b : List Stmt) (e : Env) (n t m : Nat) : Nx := ⟨n, n + 26, n + 24, o1, o2, Kf [t, t + 1, t + 20, t + 21], m + 1, t + 19, b, e⟩
noncomputable def nlC (o1 o2 : Wo) (P : Params) (f : FuncData) (b : List Stmt) (e : Env) (n t m1 k1 m2 k2 : Nat) (gt : Bool) (m : Nat) (n' t' x' : Nat) (R : List Row) (ep : Nat) (fs : Option (Tok × Value)) (B : List Ent) : ConX :=
  let g := nlG o1 o2 b e n t m
  ⟨.call (.ref 80) ⟨[.ref o1.O, .ref o2.O], []⟩, lawCds b e, n, t, sing (o1.ents P ++ o2.ents P), ⟨.ok (.ret (.ref (n + 24))), n', t', sing (o1.ents P ++ o2.ents P), [[(n + 24, lstO (rowA R) ep)], B]⟩,
    [(lrS o1 P (defCds (bodyOf f) (g.env f) b e) (n + 1) (t + 2) m1 k1).x, (lrS o2 P (defCds (bodyOf f) (g.env f) b e) (n + 10) (t + 10) m2 k2).x, (gtS (Int.ofNat m2) k2 (Int.ofNat m1) k1 gt).x, (riterS (n + 25) 1 (t + 22) (m + 2) (t + 24) (t + 25)).x,
      g.at P f (n + 27) (t + 26) 1 (m + 1) [] 0 none (.ok .next) n' t' (g.fr P fs) (ritO x' 0) (lstO (rowA R) ep) [B]]⟩
end
end Mine

namespace Mine
section
open PySem PySem.W Sem
noncomputable def nlF (w : World) : FuncData := fdOf (hd.o_118 w.params)
noncomputable def levN (o : Wo) (ts : Nat) : Nat := o.b + ts * (ilGo ts ((o.cnts.map (·.1)).drop ts) ts 0 + o.nt)
noncomputable def rowV (r : Row) : Nat × Nat × Nat := (r.2.1.1, r.2.2.1.1, r.2.2.2.1)
noncomputable def nlGo (f1 f2 : Nat → Nat) : Nat → Nat → List (Nat × Nat × Nat)
  | _, 0 => []
  | x, left + 1 => if f1 x ≥ f2 x then (x, f1 x, f2 x) :: nlGo f1 f2 (x + 1) left else nlGo f1 f2 (x + 1) left
theorem rowA_push (R : List Row) (r : Row) : (rowA R).push (.ref r.1) = rowA (R ++ [r]) := by
  apply Array.ext'
  show ((rowA R).push (.ref r.1)).toList = rowVs _
  rw [Array.toList_push]
  unfold rowA rowVs
  simp
theorem rowA_size (R : List Row) : (rowA R).size = R.length := by
  show (rowVs R).length = _
  unfold rowVs; simp
section
variable (w : World) (b1 b2 : Bool)
/-- the lists of tabs and blanks are small -/
noncomputable def Wo.small (o : Wo) : Prop := (∀ c ∈ o.cnts, c.1 < 1000000) ∧ o.cnts.length ≤ 900
theorem nl_app (g : Nx) (n t x left : Nat) (R : List Row) (ep : Nat) (fs : Option (Tok × Value)) (v1 v2 : Nat) (k1 n1 t1 k2 n2 t2 k3 n3 t3 k4 n4 t4 : Nat) (er : Result) (en et : Nat) (p1 p2 p3 : Obj) (B : List Ent)
    (V1 : (levS g.o1 ((Wf w b1 b2)).params x t (g.in (nlF (Wf w b1 b2))) n (t + 2) v1 k1 n1 t1).Valid (model prog (Wf w b1 b2)) (stW (Wf w b1 b2))) (V2 : (levS g.o2 ((Wf w b1 b2)).params x t (g.in (nlF (Wf w b1 b2))) n1 t1 v2 k2 n2 t2).Valid (model prog (Wf w b1 b2)) (stW (Wf w b1 b2))) (hge : v2 ≤ v1)
    (V3 : (levS g.o1 ((Wf w b1 b2)).params x t (g.in (nlF (Wf w b1 b2))) n2 t2 v1 k3 n3 t3).Valid (model prog (Wf w b1 b2)) (stW (Wf w b1 b2))) (V4 : (levS g.o2 ((Wf w b1 b2)).params x t (g.in (nlF (Wf w b1 b2))) n3 t3 v2 k4 n4 t4).Valid (model prog (Wf w b1 b2)) (stW (Wf w b1 b2))) (hR : R.length ≤ 1000)
    (V : (g.at ((Wf w b1 b2)).params (nlF (Wf w b1 b2)) (n4 + 1) t4 (x + 1) left (R ++ [(n4, (x, t), (v1, k3), (v2, k4))]) (ep + 1) (some (kOf fs (t + 1), .int (Int.ofNat x) t)) er en et p1 p2 p3 [B]).Valid (model prog (Wf w b1 b2)) (stW (Wf w b1 b2))) :
    (nlAppC g ((Wf w b1 b2)).params (nlF (Wf w b1 b2)) n t x left R ep fs v1 v2 k1 n1 t1 k2 n2 t2 k3 n3 t3 k4 n4 t4 er en et p1 p2 p3 B).sp.Valid (model prog (Wf w b1 b2)) (stW (Wf w b1 b2)) := by
  have hsl : sizeLine = 16777216 := rfl
  have V0 := rnextV (w := (Wf w b1 b2)) (st := stW (Wf w b1 b2)) g.I x left
  have VG := geV (w := (Wf w b1 b2)) (st := stW (Wf w b1 b2)) (Int.ofNat v1) k1 (Int.ofNat v2) k2 true (by simp only [Int.ofNat_eq_natCast, decide_eq_true_eq]; omega)
  have VA := appV' (w := (Wf w b1 b2)) (st := stW (Wf w b1 b2)) g.L (rowA R) ep (.ref n4) (rowA (R ++ [(n4, (x, t), (v1, k3), (v2, k4))])) (rowA_push R (n4, (x, t), (v1, k3), (v2, k4))) (by rw [rowA_size]; omega)
  refine ConX.valid _ 400 3894326629927556362613315143116822228786477235988170111352292285636024852177165712077843874456792286978723423375632982196637612998983548703543331500306465148250515424189749656363070782263864725549402045687874770042350148364430601546351672855618478533463865171479592209910261015713447938 (allx_cons (V0.x) (allx_cons (V1.x) (allx_cons (V2.x) (allx_cons (VG.x) (allx_cons (V3.x) (allx_cons (V4.x) (allx_cons (VA.x) (allx_cons (V) allx_nil)))))))) rfl ?_
  intro p q
  rcases fs with _ | ⟨kf, vf⟩ <;> (generalize b2 = c2; revert c2; refine split1 ?_ ?_ <;> kernel_rfl)
theorem nl_skip (g : Nx) (n t x left : Nat) (R : List Row) (ep : Nat) (fs : Option (Tok × Value)) (v1 v2 : Nat) (k1 n1 t1 k2 n2 t2 : Nat) (er : Result) (en et : Nat) (p1 p2 p3 : Obj) (B : List Ent)
    (V1 : (levS g.o1 ((Wf w b1 b2)).params x t (g.in (nlF (Wf w b1 b2))) n (t + 2) v1 k1 n1 t1).Valid (model prog (Wf w b1 b2)) (stW (Wf w b1 b2))) (V2 : (levS g.o2 ((Wf w b1 b2)).params x t (g.in (nlF (Wf w b1 b2))) n1 t1 v2 k2 n2 t2).Valid (model prog (Wf w b1 b2)) (stW (Wf w b1 b2))) (hge : ¬ v2 ≤ v1)
    (V : (g.at ((Wf w b1 b2)).params (nlF (Wf w b1 b2)) n2 t2 (x + 1) left R ep (some (kOf fs (t + 1), .int (Int.ofNat x) t)) er en et p1 p2 p3 [B]).Valid (model prog (Wf w b1 b2)) (stW (Wf w b1 b2))) :
    (nlSkipC g ((Wf w b1 b2)).params (nlF (Wf w b1 b2)) n t x left R ep fs v1 v2 k1 n1 t1 k2 n2 t2 er en et p1 p2 p3 B).sp.Valid (model prog (Wf w b1 b2)) (stW (Wf w b1 b2)) := by
  have V0 := rnextV (w := (Wf w b1 b2)) (st := stW (Wf w b1 b2)) g.I x left
  have VG := geV (w := (Wf w b1 b2)) (st := stW (Wf w b1 b2)) (Int.ofNat v1) k1 (Int.ofNat v2) k2 false (by simp only [Int.ofNat_eq_natCast, decide_eq_false_iff_not]; omega)
  refine ConX.valid _ 400 2784069442562313747492815686909450669374429754440813206014951481330864868440402691372904350325434531233210838097201517801649324548545640303647763905114080225582415874 (allx_cons (V0.x) (allx_cons (V1.x) (allx_cons (V2.x) (allx_cons (VG.x) (allx_cons (V) allx_nil))))) rfl ?_
  intro p q
  rcases fs with _ | ⟨kf, vf⟩ <;> (generalize b2 = c2; revert c2; refine split1 ?_ ?_ <;> kernel_rfl)
theorem nl_end (g : Nx) (n t x : Nat) (R : List Row) (ep : Nat) (fs : Option (Tok × Value)) : (nlEndC g ((Wf w b1 b2)).params (nlF (Wf w b1 b2)) n t x R ep fs).sp.Valid (model prog (Wf w b1 b2)) (stW (Wf w b1 b2)) := by
  refine ConX.valid _ 400 120636122423696253276644029182998833299458 allx_nil rfl ?_
  intro p q
  rcases fs with _ | ⟨kf, vf⟩ <;> (generalize b2 = c2; revert c2; refine split1 ?_ ?_ <;> kernel_rfl)
theorem nl_loop (g : Nx) (h1 : g.o1.small) (h2 : g.o2.small) : ∀ (left x : Nat) (R : List Row) (ep : Nat) (fs : Option (Tok × Value)) (n t : Nat), x ≠ 0 → x + left ≤ 1000 → R.length + left ≤ 1000 →
    ∃ (n' t' x' : Nat) (R' : List Row) (ep' : Nat) (fs' : Option (Tok × Value)), R'.map rowV = nlGo (levN g.o1) (levN g.o2) x left ∧
      (g.at ((Wf w b1 b2)).params (nlF (Wf w b1 b2)) n t x left R ep fs (.ok .next) n' t' (g.fr ((Wf w b1 b2)).params fs') (ritO x' 0) (lstO (rowA (R ++ R')) ep') [rowsE R']).Valid (model prog (Wf w b1 b2)) (stW (Wf w b1 b2)) := by
  intro left
  induction left with
  | zero =>
    intro x R ep fs n t _ _ _
    refine ⟨n + 2, t, x, [], ep, fs, rfl, ?_⟩
    rw [List.append_nil]
    exact mkx_flat (nl_end w b1 b2 g n t x R ep fs) rfl rfl rfl rfl rfl rfl
  | succ left ih =>
    intro x R ep fs n t hx hz hR
    obtain ⟨n1, t1, k1, V1⟩ := ilevV w b1 b2 (bodyOf (nlF (Wf w b1 b2))) (g.env (nlF (Wf w b1 b2))) g.b g.e g.o1 (nlFor (nlF (Wf w b1 b2))).1 (.ref g.I) (nlFor (nlF (Wf w b1 b2))).2 [] (g.env (nlF (Wf w b1 b2))) n (t + 2) x t hx (by omega) h1.1 h1.2
    obtain ⟨n2, t2, k2, V2⟩ := ilevV w b1 b2 (bodyOf (nlF (Wf w b1 b2))) (g.env (nlF (Wf w b1 b2))) g.b g.e g.o2 (nlFor (nlF (Wf w b1 b2))).1 (.ref g.I) (nlFor (nlF (Wf w b1 b2))).2 [] (g.env (nlF (Wf w b1 b2))) n1 t1 x t hx (by omega) h2.1 h2.2
    by_cases hge : levN g.o2 x ≤ levN g.o1 x
    · obtain ⟨n3, t3, k3, V3⟩ := ilevV w b1 b2 (bodyOf (nlF (Wf w b1 b2))) (g.env (nlF (Wf w b1 b2))) g.b g.e g.o1 (nlFor (nlF (Wf w b1 b2))).1 (.ref g.I) (nlFor (nlF (Wf w b1 b2))).2 [] (g.env (nlF (Wf w b1 b2))) n2 t2 x t hx (by omega) h1.1 h1.2
      obtain ⟨n4, t4, k4, V4⟩ := ilevV w b1 b2 (bodyOf (nlF (Wf w b1 b2))) (g.env (nlF (Wf w b1 b2))) g.b g.e g.o2 (nlFor (nlF (Wf w b1 b2))).1 (.ref g.I) (nlFor (nlF (Wf w b1 b2))).2 [] (g.env (nlF (Wf w b1 b2))) n3 t3 x t hx (by omega) h2.1 h2.2
      obtain ⟨n', t', x', R', ep', fs', hr, V⟩ := ih (x + 1) (R ++ [(n4, (x, t), (levN g.o1 x, k3), (levN g.o2 x, k4))]) (ep + 1) (some (kOf fs (t + 1), .int (Int.ofNat x) t)) (n4 + 1) t4 (by omega) (by omega) (by rw [List.length_append]; show _ + 1 + left ≤ _; omega)
      refine ⟨n', t', x', (n4, (x, t), (levN g.o1 x, k3), (levN g.o2 x, k4)) :: R', ep', fs', ?_, ?_⟩
      · rw [nlGo, if_pos hge, ← hr]; rfl
      · have V' := nl_app w b1 b2 g n t x left R ep fs (levN g.o1 x) (levN g.o2 x) k1 n1 t1 k2 n2 t2 k3 n3 t3 k4 n4 t4 _ _ _ _ _ _ _ V1 V2 hge V3 V4 (by omega) V
        rw [List.append_assoc] at V'
        exact mkx_flat V' rfl rfl (by show (rowsE (_ :: R') ++ [] : List Ent) = [rowE _] ++ (rowsE R' ++ []); simp [rowsE]) rfl rfl rfl
    · obtain ⟨n', t', x', R', ep', fs', hr, V⟩ := ih (x + 1) R ep (some (kOf fs (t + 1), .int (Int.ofNat x) t)) n2 t2 (by omega) (by omega) (by omega)
      refine ⟨n', t', x', R', ep', fs', ?_, nl_skip w b1 b2 g n t x left R ep fs (levN g.o1 x) (levN g.o2 x) k1 n1 t1 k2 n2 t2 _ _ _ _ _ _ _ V1 V2 hge V⟩
      rw [nlGo, if_neg hge, ← hr]
/-- not_less_witness whole -/
theorem nlwV (o1 o2 : Wo) (h1 : o1.small) (h2 : o2.small) (z1 : o1.b ≤ 900) (z2 : o2.b ≤ 900) (b : List Stmt) (e : Env) (n t : Nat) : ∃ (n' t' : Nat) (R : List Row) (ep : Nat), R.map rowV = nlGo (levN o1) (levN o2) 1 (max (lrN o1.b o1.cnts.length) (lrN o2.b o2.cnts.length) + 1) ∧
    (mkx (.call (.ref 80) ⟨[.ref o1.O, .ref o2.O], []⟩) none (lawCds b e) n t (sing (o1.ents ((Wf w b1 b2)).params ++ o2.ents ((Wf w b1 b2)).params)) ⟨.ok (.ret (.ref (n + 24))), n', t', sing (o1.ents ((Wf w b1 b2)).params ++ o2.ents ((Wf w b1 b2)).params), [[(n + 24, lstO (rowA R) ep)], rowsE R]⟩).Valid (model prog (Wf w b1 b2)) (stW (Wf w b1 b2)) := by
  have hl1 : lrN o1.b o1.cnts.length ≤ 900 := by unfold lrN; have := h1.2; omega
  have hl2 : lrN o2.b o2.cnts.length ≤ 900 := by unfold lrN; have := h2.2; omega
  let m := max (lrN o1.b o1.cnts.length) (lrN o2.b o2.cnts.length)
  obtain ⟨k1, V1⟩ := lrunV w b1 b2 (bodyOf (nlF (Wf w b1 b2))) ((nlG o1 o2 b e n t m).env (nlF (Wf w b1 b2))) b e o1 (n + 1) (t + 2) h1.2
  obtain ⟨k2, V2⟩ := lrunV w b1 b2 (bodyOf (nlF (Wf w b1 b2))) ((nlG o1 o2 b e n t m).env (nlF (Wf w b1 b2))) b e o2 (n + 10) (t + 10) h2.2
  obtain ⟨n', t', x', R, ep, fs, hr, V⟩ := nl_loop w b1 b2 (nlG o1 o2 b e n t m) h1 h2 (m + 1) 1 [] 0 none (n + 27) (t + 26) (by decide) (by show 1 + (m + 1) ≤ 1000; omega) (by show 0 + (m + 1) ≤ 1000; omega)
  refine ⟨n', t', R, ep, hr, ?_⟩
  have V3 := riterV (w := (Wf w b1 b2)) (st := stW (Wf w b1 b2)) (n + 25) 1 (t + 22) (m + 2) (t + 24) (t + 25) (by decide) (by omega)
  by_cases hg : lrN o1.b o1.cnts.length < lrN o2.b o2.cnts.length
  · have em : m = lrN o2.b o2.cnts.length := by show max _ _ = _; omega
    have VG := gtV (w := (Wf w b1 b2)) (st := stW (Wf w b1 b2)) (Int.ofNat (lrN o2.b o2.cnts.length)) k2 (Int.ofNat (lrN o1.b o1.cnts.length)) k1 true (by simp only [Int.ofNat_eq_natCast, decide_eq_true_eq]; omega)
    clear_value m
    subst em
    have key : (nlC o1 o2 ((Wf w b1 b2)).params (nlF (Wf w b1 b2)) b e n t (lrN o1.b o1.cnts.length) k1 (lrN o2.b o2.cnts.length) k2 true (lrN o2.b o2.cnts.length) n' t' x' R ep fs (rowsE R)).sp.Valid (model prog (Wf w b1 b2)) (stW (Wf w b1 b2)) := by
      refine ConX.valid _ 500 123046084639176353793154456406687022132424488914092617400137041539848222957537065219282119340662674271978070755203672167036618505323115712524096076730330510791365966100255916956040139614284844155072503085777948829514499387806748658914178491909225658111484508949256825466263012195228103508418432097115639799745635201600702258736152576 (allx_cons (V1.x) (allx_cons (V2.x) (allx_cons (VG.x) (allx_cons (V3.x) (allx_cons (V) allx_nil))))) rfl ?_
      intro p q
      rcases fs with _ | ⟨kf, vf⟩ <;> (generalize b1 = c1; generalize b2 = c2; revert c1 c2; refine split2 ?_ ?_ ?_ ?_ <;> kernel_rfl)
    exact key
  · have em : m = lrN o1.b o1.cnts.length := by show max _ _ = _; omega
    have VG := gtV (w := (Wf w b1 b2)) (st := stW (Wf w b1 b2)) (Int.ofNat (lrN o2.b o2.cnts.length)) k2 (Int.ofNat (lrN o1.b o1.cnts.length)) k1 false (by simp only [Int.ofNat_eq_natCast, decide_eq_false_iff_not]; omega)
    clear_value m
    subst em
    have key : (nlC o1 o2 ((Wf w b1 b2)).params (nlF (Wf w b1 b2)) b e n t (lrN o1.b o1.cnts.length) k1 (lrN o2.b o2.cnts.length) k2 false (lrN o1.b o1.cnts.length) n' t' x' R ep fs (rowsE R)).sp.Valid (model prog (Wf w b1 b2)) (stW (Wf w b1 b2)) := by
      refine ConX.valid _ 500 58672945327366043945862987712234030786716694314047154140537758607792006949203999147072848959285103927601848008729778369444188358937795501955875979763090499796417936325531240097645672136185528897382828684187344314862691565346715454420635722960076391280800212646809715793750344806790620801673233218902806252936305313207260692480 (allx_cons (V1.x) (allx_cons (V2.x) (allx_cons (VG.x) (allx_cons (V3.x) (allx_cons (V) allx_nil))))) rfl ?_
      intro p q
      rcases fs with _ | ⟨kf, vf⟩ <;> (generalize b1 = c1; generalize b2 = c2; revert c1 c2; refine split2 ?_ ?_ ?_ ?_ <;> kernel_rfl)
    exact key
end
end
end Mine

namespace Mine
section
open PySem PySem.W Sem
noncomputable def leQ : Str := "Whitespace.less.<locals>."
noncomputable def leFor (f : FuncData) : Expr × List Stmt := forOf ((bodyOf f).getD 3 default)
structure Ex where
  F : Addr
  I : Addr
  o1 : Wo
  o2 : Wo
  K : Nat → Tok
  m : Nat
  km : Tok
  b : List Stmt
  e : Env
noncomputable def Ex.env (g : Ex) (f : FuncData) : Env := funEnv f g.F leQ 73 72
noncomputable def Ex.loop (g : Ex) (f : FuncData) : Code := .forLoop (leFor f).1 (.ref g.I) (leFor f).2 [] (g.env f)
noncomputable def Ex.cds (g : Ex) (f : FuncData) : List Code := .func (bodyOf f) (g.env f) :: lawCds g.b g.e
noncomputable def Ex.in (g : Ex) (f : FuncData) : List Code := loopCds (leFor f).1 (.ref g.I) (leFor f).2 [] (g.env f) (bodyOf f) (g.env f) g.b g.e
noncomputable def Ex.fr (g : Ex) (P : Params) : Option (Tok × Value) → Obj
  | none => frameO [de P "self" (g.K 0) (.ref g.o1.O), de P "other" (g.K 1) (.ref g.o2.O), de P "n" (g.K 2) (.int (Int.ofNat g.m) g.km)] 3
  | some (k, v) => frameO [de P "self" (g.K 0) (.ref g.o1.O), de P "other" (g.K 1) (.ref g.o2.O), de P "n" (g.K 2) (.int (Int.ofNat g.m) g.km), de P "ts" k v] 4
noncomputable def Ex.two (g : Ex) (P : Params) : List Ent := g.o1.ents P ++ g.o2.ents P
noncomputable def Ex.pre (g : Ex) (P : Params) (x left : Nat) (fs : Option (Tok × Value)) : List Ent := (g.F, g.fr P fs) :: (g.I, ritO x left) :: g.two P
noncomputable def Ex.at (g : Ex) (P : Params) (f : FuncData) (n t x left : Nat) (fs : Option (Tok × Value)) (er : Result) (en et : Nat) (p1 p2 : Obj) : Mine.Spec :=
  Mine.mk (g.loop f) none (g.cds f) n t (g.pre P x left fs) ⟨er, en, et, p1 :: p2 :: objs (g.two P), []⟩
noncomputable def leGoC (g : Ex) (P : Params) (f : FuncData) (n t x left : Nat) (fs : Option (Tok × Value)) (v1 v2 : Nat) (k1 n1 t1 k2 n2 t2 : Nat) (er : Result) (en et : Nat) (p1 p2 : Obj) : Con :=
  ⟨g.loop f, g.cds f, n, t, g.pre P x (left + 1) fs, ⟨er, en, et, p1 :: p2 :: objs (g.two P), []⟩,
    [rnextS g.I x left, levS g.o1 P x t (g.in f) n (t + 2) v1 k1 n1 t1, levS g.o2 P x t (g.in f) n1 t1 v2 k2 n2 t2, geS (Int.ofNat v1) k1 (Int.ofNat v2) k2 false,
      g.at P f n2 t2 (x + 1) left (some (kOf fs (t + 1), .int (Int.ofNat x) t)) er en et p1 p2]⟩
noncomputable def leStopC (g : Ex) (P : Params) (f : FuncData) (n t x left : Nat) (fs : Option (Tok × Value)) (v1 v2 : Nat) (k1 n1 t1 k2 n2 t2 : Nat) : Con :=
  ⟨g.loop f, g.cds f, n, t, g.pre P x (left + 1) fs, ⟨.ok (.ret (.bool false)), n2, t2, g.fr P (some (kOf fs (t + 1), .int (Int.ofNat x) t)) :: ritO (x + 1) left :: objs (g.two P), []⟩,
    [rnextS g.I x left, levS g.o1 P x t (g.in f) n (t + 2) v1 k1 n1 t1, levS g.o2 P x t (g.in f) n1 t1 v2 k2 n2 t2, geS (Int.ofNat v1) k1 (Int.ofNat v2) k2 true]⟩
noncomputable def leEndC (g : Ex) (P : Params) (f : FuncData) (n t x : Nat) (fs : Option (Tok × Value)) : Con :=
  ⟨g.loop f, g.cds f, n, t, g.pre P x 0 fs, ⟨.ok .next, n + 2, t, g.fr P fs :: ritO x 0 :: objs (g.two P), []⟩, []⟩
noncomputable def leG (o1 o2 : Wo) (b : List Stmt) (e : Env) (n t m d : Nat) : Ex := ⟨n, n + 25, o1, o2, Kf [t, t + 1, t + d + 18], m + 1, t + d + 17, b, e⟩
noncomputable def flowB : Bool → Flow
  | true => .next
  | false => .ret (.bool false)
noncomputable def leC (o1 o2 : Wo) (P : Params) (f : FuncData) (b : List Stmt) (e : Env) (n t d m1 k1 m2 k2 : Nat) (gt : Bool) (m : Nat) (n' t' : Nat) (r : Bool) (p1 p2 : Obj) : Con :=
  let g := leG o1 o2 b e n t m d
  ⟨.call (.ref 73) ⟨[.ref o1.O, .ref o2.O], []⟩, lawCds b e, n, t, g.two P, ⟨.ok (.ret (.bool r)), n', t', objs (g.two P), []⟩,
    [geS (Int.ofNat o1.n) o1.kn (Int.ofNat o2.n) o2.kn false, lrS o1 P (defCds (bodyOf f) (g.env f) b e) (n + 1) (t + d) m1 k1, lrS o2 P (defCds (bodyOf f) (g.env f) b e) (n + 10) (t + d + 8) m2 k2, gtS (Int.ofNat m2) k2 (Int.ofNat m1) k1 gt, riterS (n + 24) 2 (t + d + 19) (m + 2) (t + d + 21) (t + d + 22),
      g.at P f (n + 26) (t + d + 23) 2 m none (.ok (flowB r)) n' t' p1 p2]⟩
noncomputable def leFewC (o1 o2 : Wo) (P : Params) (b : List Stmt) (e : Env) (n t : Nat) : Con :=
  ⟨.call (.ref 73) ⟨[.ref o1.O, .ref o2.O], []⟩, lawCds b e, n, t, o1.ents P ++ o2.ents P, ⟨.ok (.ret (.bool false)), n + 1, t + 4, objs (o1.ents P ++ o2.ents P), []⟩, [geS (Int.ofNat o1.n) o1.kn (Int.ofNat o2.n) o2.kn true]⟩
noncomputable def leSimC (o1 o2 : Wo) (P : Params) (b : List Stmt) (e : Env) (n t : Nat) (r : Bool) : Con :=
  ⟨.call (.ref 73) ⟨[.ref o1.O, .ref o2.O], []⟩, lawCds b e, n, t, o1.ents P ++ o2.ents P, ⟨.ok (.ret (.bool r)), n + 1, t + 8, objs (o1.ents P ++ o2.ents P), []⟩,
    [geS (Int.ofNat o1.n) o1.kn (Int.ofNat o2.n) o2.kn false, leS (Int.ofNat o1.nt) o1.knt (Int.ofNat o2.nt) o2.knt r]⟩
end
end Mine

namespace Mine
section
open PySem PySem.W Sem
noncomputable def leF (w : World) : FuncData := fdOf (hd.o_111 w.params)
noncomputable def lsGo (f1 f2 : Nat → Nat) : Nat → Nat → Bool
  | _, 0 => true
  | x, left + 1 => if f1 x ≥ f2 x then false else lsGo f1 f2 (x + 1) left
noncomputable def lessN (o1 o2 : Wo) : Bool := if o1.n ≥ o2.n then false else if o1.sim && o2.sim then decide (o1.nt ≤ o2.nt) else lsGo (levN o1) (levN o2) 2 (max (lrN o1.b o1.cnts.length) (lrN o2.b o2.cnts.length))
section
variable (w : World) (b1 b2 : Bool)
theorem le_loop (g : Ex) (h1 : g.o1.small) (h2 : g.o2.small) : ∀ (left x : Nat) (fs : Option (Tok × Value)) (n t : Nat), x ≠ 0 → x + left ≤ 1000 →
    ∃ (n' t' : Nat) (p1 p2 : Obj), (g.at ((Wf w b1 b2)).params (leF (Wf w b1 b2)) n t x left fs (.ok (flowB (lsGo (levN g.o1) (levN g.o2) x left))) n' t' p1 p2).Valid (model prog (Wf w b1 b2)) (stW (Wf w b1 b2)) := by
  intro left
  induction left with
  | zero =>
    intro x fs n t _ _
    refine ⟨n + 2, t, g.fr ((Wf w b1 b2)).params fs, ritO x 0, ?_⟩
    have V : (leEndC g ((Wf w b1 b2)).params (leF (Wf w b1 b2)) n t x fs).sp.Valid (model prog (Wf w b1 b2)) (stW (Wf w b1 b2)) := by
      refine Con.valid _ 400 856729267525914137536166804066469445634 all_nil rfl ?_
      intro p q
      rcases fs with _ | ⟨kf, vf⟩ <;> (generalize b2 = c2; revert c2; refine split1 ?_ ?_ <;> kernel_rfl)
    exact V
  | succ left ih =>
    intro x fs n t hx hz
    obtain ⟨n1, t1, k1, V1⟩ := ilevV w b1 b2 (bodyOf (leF (Wf w b1 b2))) (g.env (leF (Wf w b1 b2))) g.b g.e g.o1 (leFor (leF (Wf w b1 b2))).1 (.ref g.I) (leFor (leF (Wf w b1 b2))).2 [] (g.env (leF (Wf w b1 b2))) n (t + 2) x t hx (by omega) h1.1 h1.2
    obtain ⟨n2, t2, k2, V2⟩ := ilevV w b1 b2 (bodyOf (leF (Wf w b1 b2))) (g.env (leF (Wf w b1 b2))) g.b g.e g.o2 (leFor (leF (Wf w b1 b2))).1 (.ref g.I) (leFor (leF (Wf w b1 b2))).2 [] (g.env (leF (Wf w b1 b2))) n1 t1 x t hx (by omega) h2.1 h2.2
    have V0 := rnextV (w := (Wf w b1 b2)) (st := stW (Wf w b1 b2)) g.I x left
    by_cases hge : levN g.o2 x ≤ levN g.o1 x
    · have VG := geV (w := (Wf w b1 b2)) (st := stW (Wf w b1 b2)) (Int.ofNat (levN g.o1 x)) k1 (Int.ofNat (levN g.o2 x)) k2 true (by simp only [Int.ofNat_eq_natCast, decide_eq_true_eq]; omega)
      refine ⟨n2, t2, g.fr ((Wf w b1 b2)).params (some (kOf fs (t + 1), .int (Int.ofNat x) t)), ritO (x + 1) left, ?_⟩
      rw [lsGo, if_pos hge]
      have V : (leStopC g ((Wf w b1 b2)).params (leF (Wf w b1 b2)) n t x left fs (levN g.o1 x) (levN g.o2 x) k1 n1 t1 k2 n2 t2).sp.Valid (model prog (Wf w b1 b2)) (stW (Wf w b1 b2)) := by
        refine Con.valid _ 400 7319850434917478978592459519607543743865391200194510184418987980078355665381711628033688088652175550926990197503961899089743948151816194 (all_cons (V0) (all_cons (V1) (all_cons (V2) (all_cons (VG) all_nil)))) rfl ?_
        intro p q
        rcases fs with _ | ⟨kf, vf⟩ <;> (generalize b2 = c2; revert c2; refine split1 ?_ ?_ <;> kernel_rfl)
      exact V
    · have VG := geV (w := (Wf w b1 b2)) (st := stW (Wf w b1 b2)) (Int.ofNat (levN g.o1 x)) k1 (Int.ofNat (levN g.o2 x)) k2 false (by simp only [Int.ofNat_eq_natCast, decide_eq_false_iff_not]; omega)
      obtain ⟨n', t', p1, p2, V⟩ := ih (x + 1) (some (kOf fs (t + 1), .int (Int.ofNat x) t)) n2 t2 (by omega) (by omega)
      refine ⟨n', t', p1, p2, ?_⟩
      rw [lsGo, if_neg hge]
      have V : (leGoC g ((Wf w b1 b2)).params (leF (Wf w b1 b2)) n t x left fs (levN g.o1 x) (levN g.o2 x) k1 n1 t1 k2 n2 t2 (.ok (flowB (lsGo (levN g.o1) (levN g.o2) (x + 1) left))) n' t' p1 p2).sp.Valid (model prog (Wf w b1 b2)) (stW (Wf w b1 b2)) := by
        refine Con.valid _ 400 1106144523311139137925362117746231819868838073025594120232338782177697638463866075101693425562869101779197285917323493794042487515004422222178812993152168787970 (all_cons (V0) (all_cons (V1) (all_cons (V2) (all_cons (VG) (all_cons (V) all_nil))))) rfl ?_
        intro p q
        rcases fs with _ | ⟨kf, vf⟩ <;> (generalize b2 = c2; revert c2; refine split1 ?_ ?_ <;> kernel_rfl)
      exact V
theorem le_call (o1 o2 : Wo) (b : List Stmt) (e : Env) (n t d m1 k1 m2 k2 : Nat) (gt : Bool) (m : Nat) (n' t' : Nat) (r : Bool) (p1 p2 : Obj) (hd : d = bif o1.sim then 6 else 5) (hs : (o1.sim && o2.sim) = false)
    (V1 : (lrS o1 ((Wf w b1 b2)).params (defCds (bodyOf (leF (Wf w b1 b2))) ((leG o1 o2 b e n t m d).env (leF (Wf w b1 b2))) b e) (n + 1) (t + d) m1 k1).Valid (model prog (Wf w b1 b2)) (stW (Wf w b1 b2))) (V2 : (lrS o2 ((Wf w b1 b2)).params (defCds (bodyOf (leF (Wf w b1 b2))) ((leG o1 o2 b e n t m d).env (leF (Wf w b1 b2))) b e) (n + 10) (t + d + 8) m2 k2).Valid (model prog (Wf w b1 b2)) (stW (Wf w b1 b2)))
    (VE : (geS (Int.ofNat o1.n) o1.kn (Int.ofNat o2.n) o2.kn false).Valid (model prog (Wf w b1 b2)) (stW (Wf w b1 b2))) (VG : (gtS (Int.ofNat m2) k2 (Int.ofNat m1) k1 gt).Valid (model prog (Wf w b1 b2)) (stW (Wf w b1 b2))) (hm : m = bif gt then m2 else m1) (hz : m < 1000)
    (V : ((leG o1 o2 b e n t m d).at ((Wf w b1 b2)).params (leF (Wf w b1 b2)) (n + 26) (t + d + 23) 2 m none (.ok (flowB r)) n' t' p1 p2).Valid (model prog (Wf w b1 b2)) (stW (Wf w b1 b2))) :
    (leC o1 o2 ((Wf w b1 b2)).params (leF (Wf w b1 b2)) b e n t d m1 k1 m2 k2 gt m n' t' r p1 p2).sp.Valid (model prog (Wf w b1 b2)) (stW (Wf w b1 b2)) := by
  have V3 := riterV (w := (Wf w b1 b2)) (st := stW (Wf w b1 b2)) (n + 24) 2 (t + d + 19) (m + 2) (t + d + 21) (t + d + 22) (by decide) (by omega)
  obtain ⟨D1, O1, N1, C1, raw1, kk1, K1, n1, kn1, nt1, knt1, bb1, kb1, c1, s1⟩ := o1
  obtain ⟨D2, O2, N2, C2, raw2, kk2, K2, n2, kn2, nt2, knt2, bb2, kb2, c2, s2⟩ := o2
  cases gt <;> cases s1 <;> cases r <;> simp only [cond_true, cond_false] at hm hd <;> subst hm hd
  · refine Con.valid _ 500 3093020100709530197900442970999864135308088587355744908865171726076157744973234894723808525686060826084751709132141693960485969020030972740410989585947511365669182724051396688334400602994791419048050419563620199683304559763299326220412162350766580222171303317426819921728608270188529984984323730162241947216074346981608474616550238153950083229487098888520483208989313945496761367883125509898137429824651264 (all_cons (VE) (all_cons (V1) (all_cons (V2) (all_cons (VG) (all_cons (V3) (all_cons (V) all_nil)))))) rfl ?_
    intro p q
    (generalize b1 = c1; generalize b2 = c2; revert c1 c2; refine split2 ?_ ?_ ?_ ?_ <;> kernel_rfl)
  · refine Con.valid _ 500 3093020100709530197900442970999864135308088587355744908865171726076157744973234894723808525686060826084751709132141693960485969020030972740410989585947511365669182724051396688334400602994791419048050419563620199683304559763299326220412162350766580222171303317426819921728608270188529984984323730162241947216074346981608474616550238153950083229487098888520483208989313945496761367883125509898137429824651264 (all_cons (VE) (all_cons (V1) (all_cons (V2) (all_cons (VG) (all_cons (V3) (all_cons (V) all_nil)))))) rfl ?_
    intro p q
    (generalize b1 = c1; generalize b2 = c2; revert c1 c2; refine split2 ?_ ?_ ?_ ?_ <;> kernel_rfl)
  · refine Con.valid _ 500 980217196795603626872206005706702977288989173580832895896262067690484256038997388926259766986144255403985884062504049310545997435644973882324915551033565177294203678259260230373247196669306275153015160238632886162292705173203762644901567941175564711008399641880942463131797965817470788521269120310377366425460804527786929604639339173793061243842317727041934475249714990586307025193766254013094322196946925045708616845384215155938836480 (all_cons (VE) (all_cons (V1) (all_cons (V2) (all_cons (VG) (all_cons (V3) (all_cons (V) all_nil)))))) rfl ?_
    intro p q
    cases s2
    · (generalize b1 = c1; generalize b2 = c2; revert c1 c2; refine split2 ?_ ?_ ?_ ?_ <;> kernel_rfl)
    · cases hs
  · refine Con.valid _ 500 980217196795603626872206005706702977288989173580832895896262067690484256038997388926259766986144255403985884062504049310545997435644973882324915551033565177294203678259260230373247196669306275153015160238632886162292705173203762644901567941175564711008399641880942463131797965817470788521269120310377366425460804527786929604639339173793061243842317727041934475249714990586307025193766254013094322196946925045708616845384215155938836480 (all_cons (VE) (all_cons (V1) (all_cons (V2) (all_cons (VG) (all_cons (V3) (all_cons (V) all_nil)))))) rfl ?_
    intro p q
    cases s2
    · (generalize b1 = c1; generalize b2 = c2; revert c1 c2; refine split2 ?_ ?_ ?_ ?_ <;> kernel_rfl)
    · cases hs
  · refine Con.valid _ 500 6486533290243192673587309777518307071089628597150275147116412615684066367186109505939824497259573833545289216309889217772621074201631483082482905513147658359669889657040268735744758373939879792970912432161449802805283356912502219406797611408047184035623403109085514473274457926128761457679938426997166204621281954342362294004300290560516291807956931978978901672364859241901643750422042713402152713107991326507008 (all_cons (VE) (all_cons (V1) (all_cons (V2) (all_cons (VG) (all_cons (V3) (all_cons (V) all_nil)))))) rfl ?_
    intro p q
    (generalize b1 = c1; generalize b2 = c2; revert c1 c2; refine split2 ?_ ?_ ?_ ?_ <;> kernel_rfl)
  · refine Con.valid _ 500 6486533290243192673587309777518307071089628597150275147116412615684066367186109505939824497259573833545289216309889217772621074201631483082482905513147658359669889657040268735744758373939879792970912432161449802805283356912502219406797611408047184035623403109085514473274457926128761457679938426997166204621281954342362294004300290560516291807956931978978901672364859241901643750422042713402152713107991326507008 (all_cons (VE) (all_cons (V1) (all_cons (V2) (all_cons (VG) (all_cons (V3) (all_cons (V) all_nil)))))) rfl ?_
    intro p q
    (generalize b1 = c1; generalize b2 = c2; revert c1 c2; refine split2 ?_ ?_ ?_ ?_ <;> kernel_rfl)
  · refine Con.valid _ 500 2055664454694293737302300569279823562227558223353390869294637787781234438520695452181483522854526397508979804733448492019710160659758881367134101489785085475505453820691794094906769210975524320553586573316308103324110858332991448777118896823186787749757052646784677704416973718857069851782595392450299593730376293687654702466604631529751641879826233666760711916101207795890695448517062224682173029417339906485343380275795450029124310228156416 (all_cons (VE) (all_cons (V1) (all_cons (V2) (all_cons (VG) (all_cons (V3) (all_cons (V) all_nil)))))) rfl ?_
    intro p q
    cases s2
    · (generalize b1 = c1; generalize b2 = c2; revert c1 c2; refine split2 ?_ ?_ ?_ ?_ <;> kernel_rfl)
    · cases hs
  · refine Con.valid _ 500 2055664454694293737302300569279823562227558223353390869294637787781234438520695452181483522854526397508979804733448492019710160659758881367134101489785085475505453820691794094906769210975524320553586573316308103324110858332991448777118896823186787749757052646784677704416973718857069851782595392450299593730376293687654702466604631529751641879826233666760711916101207795890695448517062224682173029417339906485343380275795450029124310228156416 (all_cons (VE) (all_cons (V1) (all_cons (V2) (all_cons (VG) (all_cons (V3) (all_cons (V) all_nil)))))) rfl ?_
    intro p q
    cases s2
    · (generalize b1 = c1; generalize b2 = c2; revert c1 c2; refine split2 ?_ ?_ ?_ ?_ <;> kernel_rfl)
    · cases hs
/-- less whole -/
theorem lessV (o1 o2 : Wo) (h1 : o1.small) (h2 : o2.small) (z1 : o1.b ≤ 900) (z2 : o2.b ≤ 900) (b : List Stmt) (e : Env) (n t : Nat) : ∃ (n' t' : Nat),
    (Mine.mk (.call (.ref 73) ⟨[.ref o1.O, .ref o2.O], []⟩) none (lawCds b e) n t (o1.ents ((Wf w b1 b2)).params ++ o2.ents ((Wf w b1 b2)).params) ⟨.ok (.ret (.bool (lessN o1 o2))), n', t', objs (o1.ents ((Wf w b1 b2)).params ++ o2.ents ((Wf w b1 b2)).params), []⟩).Valid (model prog (Wf w b1 b2)) (stW (Wf w b1 b2)) := by
  have hl1 : lrN o1.b o1.cnts.length ≤ 900 := by unfold lrN; have := h1.2; omega
  have hl2 : lrN o2.b o2.cnts.length ≤ 900 := by unfold lrN; have := h2.2; omega
  unfold lessN
  by_cases hn : o1.n ≥ o2.n
  · rw [if_pos hn]
    have VE := geV (w := (Wf w b1 b2)) (st := stW (Wf w b1 b2)) (Int.ofNat o1.n) o1.kn (Int.ofNat o2.n) o2.kn true (by simp only [Int.ofNat_eq_natCast, decide_eq_true_eq]; omega)
    refine ⟨n + 1, t + 4, ?_⟩
    have V : (leFewC o1 o2 ((Wf w b1 b2)).params b e n t).sp.Valid (model prog (Wf w b1 b2)) (stW (Wf w b1 b2)) := by
      refine Con.valid _ 400 537671732025475537825519500134530892037474990374235130315106415940349838102628671261043981434880 (all_cons (VE) all_nil) rfl ?_
      intro p q
      (generalize b1 = c1; generalize b2 = c2; revert c1 c2; refine split2 ?_ ?_ ?_ ?_ <;> kernel_rfl)
    exact V
  · rw [if_neg hn]
    have VE := geV (w := (Wf w b1 b2)) (st := stW (Wf w b1 b2)) (Int.ofNat o1.n) o1.kn (Int.ofNat o2.n) o2.kn false (by simp only [Int.ofNat_eq_natCast, decide_eq_false_iff_not]; omega)
    cases hs : (o1.sim && o2.sim) with
    | true =>
      rw [if_pos rfl]
      have VL := leV (w := (Wf w b1 b2)) (st := stW (Wf w b1 b2)) (Int.ofNat o1.nt) o1.knt (Int.ofNat o2.nt) o2.knt (decide (o1.nt ≤ o2.nt)) (by simp only [Int.ofNat_eq_natCast]; congr 1; simp)
      refine ⟨n + 1, t + 8, ?_⟩
      have V : (leSimC o1 o2 ((Wf w b1 b2)).params b e n t (decide (o1.nt ≤ o2.nt))).sp.Valid (model prog (Wf w b1 b2)) (stW (Wf w b1 b2)) := by
        generalize decide (o1.nt ≤ o2.nt) = r at VL ⊢
        obtain ⟨D1, O1, N1, C1, raw1, kk1, K1, n1, kn1, nt1, knt1, bb1, kb1, c1, s1⟩ := o1
        obtain ⟨D2, O2, N2, C2, raw2, kk2, K2, n2, kn2, nt2, knt2, bb2, kb2, c2, s2⟩ := o2
        cases s1 <;> cases s2 <;> first | cases hs | skip
        refine Con.valid _ 400 88857776926307916311687776181441318711292401159887195835110387104335754885995668859421490713040332309931927647725958759640112897726506385483582673723852354620208292771695816910137568406386694116780740068431662397145088 (all_cons (VE) (all_cons (VL) all_nil)) rfl ?_
        intro p q
        (generalize b1 = c1; generalize b2 = c2; revert c1 c2; refine split2 ?_ ?_ ?_ ?_ <;> kernel_rfl)
      exact V
    | false =>
      rw [if_neg (by decide)]
      generalize hd : (bif o1.sim then 6 else 5) = d
      generalize hm : max (lrN o1.b o1.cnts.length) (lrN o2.b o2.cnts.length) = m
      obtain ⟨k1, V1⟩ := lrunV w b1 b2 (bodyOf (leF (Wf w b1 b2))) ((leG o1 o2 b e n t m d).env (leF (Wf w b1 b2))) b e o1 (n + 1) (t + d) h1.2
      obtain ⟨k2, V2⟩ := lrunV w b1 b2 (bodyOf (leF (Wf w b1 b2))) ((leG o1 o2 b e n t m d).env (leF (Wf w b1 b2))) b e o2 (n + 10) (t + d + 8) h2.2
      obtain ⟨n', t', p1, p2, V⟩ := le_loop w b1 b2 (leG o1 o2 b e n t m d) h1 h2 m 2 none (n + 26) (t + d + 23) (by decide) (by omega)
      refine ⟨n', t', ?_⟩
      have VG : ∀ gt : Bool, gt = decide (lrN o1.b o1.cnts.length < lrN o2.b o2.cnts.length) → (gtS (Int.ofNat (lrN o2.b o2.cnts.length)) k2 (Int.ofNat (lrN o1.b o1.cnts.length)) k1 gt).Valid (model prog (Wf w b1 b2)) (stW (Wf w b1 b2)) := fun gt hg => gtV _ _ _ _ _ (by rw [hg]; simp only [Int.ofNat_eq_natCast]; congr 1; simp)
      have key := le_call w b1 b2 o1 o2 b e n t d _ k1 _ k2 (decide (lrN o1.b o1.cnts.length < lrN o2.b o2.cnts.length)) m n' t' _ p1 p2 hd.symm hs V1 V2 VE (VG _ rfl) (by
        rw [← hm]
        by_cases hg : lrN o1.b o1.cnts.length < lrN o2.b o2.cnts.length
        · rw [decide_eq_true hg, cond_true]; omega
        · rw [decide_eq_false hg, cond_false]; omega) (by omega) V
      exact key
end
end
end Mine

namespace Mine
section
open PySem PySem.W Sem
theorem pair_len : ∀ {pre : List Ent} {post : List Obj}, pre.length = post.length → (pair pre post).length = pre.length
  | [], [], _ => rfl
  | e :: es, o :: ob, h => by show (pair es ob).length + 1 = es.length + 1; rw [pair_len (Nat.succ.inj h)]
  | [], _ :: _, h => by cases h
  | _ :: _, [], h => by cases h
theorem pair_pair : ∀ {pre : List Ent} {p1 p2 : List Obj}, pre.length = p1.length → pair (pair pre p1) p2 = pair pre p2
  | [], [], _, _ => rfl
  | e :: es, o :: ob, [], h => rfl
  | e :: es, o :: ob, o2 :: ob2, h => by show (e.1, o2) :: pair (pair es ob) ob2 = (e.1, o2) :: pair es ob2; rw [pair_pair (Nat.succ.inj h)]
  | [], _ :: _, _, h => by cases h
  | _ :: _, [], _, h => by cases h
/-- what holds behind a step is what the next one asks -/
theorem PostOk.next {st : ST} {pre : List Ent} {e : Eff} {n t : Nat} {s s' : Shared} (hp : PreOk st pre n t s) (po : PostOk pre e s s') : PreOk st (pair pre e.post) e.n e.t s' := by
  have ha : adr (pair pre e.post) = adr pre := adr_pair po.len
  refine ⟨po.size, po.toks, po.own, by rw [ha]; exact hp.nodup, fun a o h => ?_, fun q hq => ?_⟩
  · rw [po.fra.keep a (Heap.lt_size (hp.stat a o h))]
    · exact hp.stat a o h
    · intro hm
      obtain ⟨q, hq, rfl⟩ := List.mem_map.mp hm
      have := hp.apart q hq
      rw [h] at this; cases this
  · have : q.1 ∈ adr pre := by rw [← ha]; exact List.mem_map.mpr ⟨q, hq, rfl⟩
    obtain ⟨q', hq', e'⟩ := List.mem_map.mp this
    rw [← e']; exact hp.apart q' hq'
theorem PostOk.trans {pre : List Ent} {e1 e2 : Eff} {s s1 s2 : Shared} (po1 : PostOk pre e1 s s1) (po2 : PostOk (pair pre e1.post) e2 s1 s2) : PostOk pre e2 s s2 := by
  have ha : adr (pair pre e1.post) = adr pre := adr_pair po1.len
  refine ⟨po2.size, po2.toks, ?_, ?_, po2.news, fun q hq => Nat.le_trans po1.fra.mono (po2.fresh q hq), po2.nodup, ⟨fun b hb hA => ?_, Nat.le_trans po1.fra.mono po2.fra.mono, po2.fra.gens.trans po1.fra.gens, po2.fra.drawn.trans po1.fra.drawn, po2.fra.os.trans po1.fra.os, po2.fra.life.trans po1.fra.life⟩⟩
  · rw [← po2.len, pair_len po1.len]
  · have := po2.own
    rwa [pair_pair po1.len] at this
  · rw [po2.fra.keep b (Nat.lt_of_lt_of_le hb po1.fra.mono) (by rw [ha]; exact hA), po1.fra.keep b hb hA]
theorem PreOk.cons_ne {st : ST} {n t : Nat} {s : Shared} {a b : Ent} {l : List Ent} (hp : PreOk st (a :: b :: l) n t s) : a.1 ≠ b.1 := by
  intro h
  have := hp.nodup
  have h2 := (List.nodup_cons.mp (show (a.1 :: b.1 :: adr l).Nodup from this)).1
  exact h2 (by rw [h]; exact List.mem_cons_self ..)

noncomputable def fitsZ (i : Int) : Bool := decide (-(2 ^ 63) ≤ i) && decide (i < 2 ^ 63)
/-- ints, each with its token -/
noncomputable def izVs (l : List (Int × Tok)) : List Value := l.map fun r => .int r.1 r.2
noncomputable def izA (l : List (Int × Tok)) : Array Value := ⟨izVs l⟩
theorem izA_get {l : List (Int × Tok)} {i : Nat} {r : Int × Tok} (h : l[i]? = some r) : (izA l).toList[i]? = some (.int r.1 r.2) := by
  show (izVs l)[i]? = _
  unfold izVs
  rw [List.getElem?_map, h]; rfl
theorem izA_none {l : List (Int × Tok)} {i : Nat} (h : l[i]? = none) : (izA l).toList[i]? = none := by
  show (izVs l)[i]? = _
  unfold izVs
  rw [List.getElem?_map, h]; rfl
noncomputable def fitAll : Int → List (Int × Tok) → Prop
  | _, [] => True
  | a, b :: l => (fitsZ b.1 && fitsZ (a + b.1)) = true ∧ fitAll (a + b.1) l
noncomputable def totalZ : Int → List (Int × Tok) → Int
  | a, [] => a
  | a, b :: l => totalZ (a + b.1) l
noncomputable abbrev sumC (it st : Addr) : Code := .builtin "sum.loop" ⟨[.ref it, .ref st, .int 0 0, .int 0 0], []⟩
theorem seq_one (v x : Value) (e : Nat) : Obj.mapSeq (fun _ => #[x]) (lstO #[v] e) = lstO #[x] e := rfl
section
variable {w : World}
theorem wp_seqItems' {α : Type} {M : Model} {Γ : Ctx} {a : Addr} {xs : Array Value} {ep : Nat} {k : Option (Array Value) → Sem α} {Q E p s} (ho : s.heap.get? a = some (lstO xs ep)) (h : wp M Γ (k (some xs)) Q E p s) : wp M Γ (seqItems? (.ref a) >>= k) Q E p s := wp_seqItems ho h
theorem sumLoopV (cds : List Code) (l it st : Addr) (xs : List (Int × Tok)) (ep e2 : Nat) : ∀ (rest : List (Int × Tok)) (i : Nat) (a : Int) (k : Tok) (n t : Nat), xs.drop i = rest → fitAll a rest →
    ∃ (i' k' : Nat), (mk (sumC it st) none cds n t [(it, litO l i), (l, lstO (izA xs) ep), (st, lstO #[.int a k] e2)] ⟨.ok (.ret (.int (totalZ a rest) k')), n + 2, t + rest.length, [litX i', lstO (izA xs) ep, lstO #[.int (totalZ a rest) k'] e2], []⟩).Valid (model prog w) (stW w) := by
  intro rest
  induction rest with
  | nil =>
    intro i a k n t hx _
    refine ⟨i, k, ?_⟩
    have hnone : xs[i]? = none := List.getElem?_eq_none_iff.mpr (List.drop_eq_nil_iff.mp hx)
    refine mk_intro fun below p s e2' hp => ?_
    obtain ⟨s1, hr, po⟩ := run_ok (w := w) (prog := prog) (st := stW w) (c := sumC it st) (hd := none) (below := below) (tr := (PySem.W.Fast.tw9404975358583537561 (.ref it)).bind fun o => .pure (.done (flowN o))) (p := p) 60 27814816307816185857
      [lendS (sumC it st :: below.map (·.1)) it l (izA xs) ep i] (all_cons (lendV _ _ _ _ _ _ (izA_none hnone)) all_nil) (pre := [(it, litO l i), (l, lstO (izA xs) ep), (st, lstO #[.int a k] e2)]) (n := n) (t := t) (e := ⟨.ok .next, n + 2, t, [litX i, lstO (izA xs) ep, lstO #[.int a k] e2], []⟩) rfl (by kernel_rfl) hp
    have hw := wp_next hr
    have hs0 := hp.own (st, lstO #[.int a k] e2) (List.mem_cons_of_mem _ (List.mem_cons_of_mem _ (List.mem_cons_self ..)))
    have key : wpCode (model prog w) ⟨sumC it st, none, none, below, none⟩ (fun r s' => r = .ok (.ret (.int a k)) ∧ s' = s1) p s := by
      refine wpCode_builtin F.entry_sum_loop ?_
      show wp _ _ (seqItems? (.ref st) >>= _) _ _ _ _
      refine wp_seqItems hs0 ?_
      show wp _ _ (MonadExcept.tryCatch (pyNext (.ref it)) _ >>= _) _ _ _ _
      rw [wp_bind', wp_tryCatch']
      refine wp_mono _ _ _ ?_ ?_ p s hw
      · rintro o p' s' ⟨h1, rfl⟩
        cases o with
        | some v => cases h1
        | none => exact ⟨rfl, rfl⟩
      · intro _ _ _ h; cases h
    obtain ⟨r, s', hr', rfl, rfl⟩ := key
    exact ⟨s', hr', ⟨po.size, po.toks, rfl, po.own, po.news, po.fresh, po.nodup, po.fra⟩⟩
  | cons b rest ih =>
    intro i a k n t hx hf
    have hsome : xs[i]? = some b := by
      have := congrArg (fun l => l[0]?) hx
      simpa using this
    have hdrop : xs.drop (i + 1) = rest := by
      have := congrArg List.tail hx
      simpa using this
    obtain ⟨hf1, hf2⟩ := hf
    obtain ⟨i', k', V⟩ := ih (i + 1) (a + b.1) t n (t + 1) hdrop hf2
    refine ⟨i', k', ?_⟩
    refine mk_intro fun below p s e2' hp => ?_
    obtain ⟨s1, hr, po⟩ := run_ok (w := w) (prog := prog) (st := stW w) (c := sumC it st) (hd := none) (below := below) (tr := (PySem.W.Fast.tw9404975358583537561 (.ref it)).bind fun o => .pure (.done (flowN o))) (p := p) 60 217303149057163265
      [lnextS it l (izA xs) ep i (.int b.1 b.2)] (all_cons (lnextV _ _ _ _ _ _ (izA_get hsome)) all_nil) (pre := [(it, litO l i), (l, lstO (izA xs) ep), (st, lstO #[.int a k] e2)]) (n := n) (t := t) (e := ⟨.ok (.ret (.int b.1 b.2)), n, t, [litO l (i + 1), lstO (izA xs) ep, lstO #[.int a k] e2], []⟩) rfl (by kernel_rfl) hp
    have hw := wp_next hr
    have hs0 := hp.own (st, lstO #[.int a k] e2) (List.mem_cons_of_mem _ (List.mem_cons_of_mem _ (List.mem_cons_self ..)))
    have hs1 : s1.heap.get? st = some (lstO #[.int a k] e2) := po.own (st, lstO #[.int a k] e2) (List.mem_cons_of_mem _ (List.mem_cons_of_mem _ (List.mem_cons_self ..)))
    have hp1 := po.next hp
    let s2 : Shared := { s1 with heap := s1.heap.update st (Obj.mapSeq fun _ => #[.int (a + b.1) t]), toks := s1.toks + 1 }
    have po2 : PostOk [(st, lstO #[.int a k] e2)] ⟨.ok .next, n, t + 1, [lstO #[.int (a + b.1) t] e2], []⟩ s1 s2 :=
      post_update hs1 rfl (seq_one _ _ _) rfl rfl rfl rfl po.size.symm (by show s1.toks + 1 = t + 1; rw [po.toks]) rfl rfl
    have nd : (it :: l :: st :: []).Nodup := hp.nodup
    have n1 : st ≠ it := fun h => (List.nodup_cons.mp nd).1 (by rw [h]; simp)
    have n2 : st ≠ l := fun h => (List.nodup_cons.mp (List.nodup_cons.mp nd).2).1 (by rw [h]; simp)
    have po3 : PostOk [(it, litO l (i + 1)), (l, lstO (izA xs) ep), (st, lstO #[.int a k] e2)] ⟨.ok .next, n, t + 1, [litO l (i + 1), lstO (izA xs) ep, lstO #[.int (a + b.1) t] e2], []⟩ s1 s2 := by
      refine ⟨po2.size, po2.toks, rfl, ?_, po2.news, po2.fresh, po2.nodup, ⟨fun b' hb hA => po2.fra.keep b' hb (fun h => hA (by rw [List.mem_singleton.mp h]; simp [adr])), po2.fra.mono, po2.fra.gens, po2.fra.drawn, po2.fra.os, po2.fra.life⟩⟩
      intro q hq
      rcases List.mem_cons.mp hq with rfl | hq
      · show (s1.heap.update st _).get? it = _
        rw [Heap.get?_update_other _ _ n1]
        exact po.own _ (List.mem_cons_self ..)
      · rcases List.mem_cons.mp hq with rfl | hq
        · show (s1.heap.update st _).get? l = _
          rw [Heap.get?_update_other _ _ n2]
          exact po.own _ (List.mem_cons_of_mem _ (List.mem_cons_self ..))
        · rw [List.mem_singleton.mp hq]
          exact po2.own _ (List.mem_cons_self ..)
    have hp2 := po3.next hp1
    have key : wpCode (model prog w) ⟨sumC it st, none, none, below, none⟩ (fun r s' => r = .ok (.ret (.int (totalZ (a + b.1) rest) k')) ∧ PostOk [(it, litO l (i + 1)), (l, lstO (izA xs) ep), (st, lstO #[.int (a + b.1) t] e2)] ⟨.ok (.ret (.int (totalZ (a + b.1) rest) k')), n + 2, t + 1 + rest.length, [litX i', lstO (izA xs) ep, lstO #[.int (totalZ (a + b.1) rest) k'] e2], []⟩ s2 s') p s := by
      refine wpCode_builtin F.entry_sum_loop ?_
      show wp _ _ (seqItems? (.ref st) >>= _) _ _ _ _
      refine wp_seqItems hs0 ?_
      show wp _ _ (MonadExcept.tryCatch (pyNext (.ref it)) _ >>= _) _ _ _ _
      rw [wp_bind', wp_tryCatch']
      refine wp_mono _ _ _ ?_ ?_ p s hw
      · rintro o p' s' ⟨h1, rfl⟩
        cases o with
        | none => cases h1
        | some v =>
          injection h1 with h1
          subst h1
          show wp _ _ (if (fitsZ b.1 && fitsZ (a + b.1)) = true then (mkInt (a + b.1) >>= _) else _) _ _ _ _
          rw [if_pos hf1]
          show wp _ _ (.fresh _) _ _ _ _
          rw [wp_fresh]
          show wp _ _ (updateSeq st (fun _ => #[.int (a + b.1) s'.toks]) >>= _) _ _ _ _
          have ht : s'.toks = t := po.toks
          rw [ht]
          refine wp_updateSeq (xs := #[.int a k]) (ep := e2) hs1 (by show 1 ≤ _; have : sizeLine = 16777216 := rfl; omega) ?_
          obtain ⟨s'', hr', po'⟩ := mk_elim V below p' e2' hp2
          refine ⟨plainId_quiet F.plain_sum_loop _, _, s'', ?_, rfl, po'⟩
          rw [show ({ heap := s'.heap.update st (Obj.mapSeq fun _ => #[.int (a + b.1) t]), gens := s'.gens, drawn := s'.drawn, toks := t + 1, os := s'.os } : Shared) = s2 by show _ = ({ s' with heap := _, toks := s'.toks + 1 } : Shared); rw [ht]]
          exact hr'
      · intro _ _ _ h; cases h
    obtain ⟨r, s', hr', rfl, po4⟩ := key
    refine ⟨s', hr', ?_⟩
    have := (po.trans po3).trans po4
    exact ⟨this.size, by rw [this.toks]; show t + 1 + rest.length = t + (rest.length + 1); omega, rfl, this.own, this.news, this.fresh, this.nodup, this.fra⟩
end
end
end Mine

namespace Mine
section
open PySem PySem.W Sem
theorem PostOk.frame {pre : List Ent} {e : Eff} {s s' : Shared} (po : PostOk pre e s s') (rest : List Ent) (hr : Hold rest s.heap) (hd : ∀ q ∈ rest, q.1 ∉ adr pre) : PostOk (pre ++ rest) ⟨e.r, e.n, e.t, e.post ++ objs rest, e.news⟩ s s' := by
  refine ⟨po.size, po.toks, ?_, ?_, po.news, po.fresh, po.nodup, ⟨fun b hb hA => po.fra.keep b hb fun h => hA ?_, po.fra.mono, po.fra.gens, po.fra.drawn, po.fra.os, po.fra.life⟩⟩
  · rw [List.length_append, List.length_append, po.len, ← objs_length]
  · show Hold (pair (pre ++ rest) (e.post ++ objs rest)) s'.heap
    rw [pair_append _ _ po.len, pair_objs]
    intro q hq
    rcases List.mem_append.mp hq with hq | hq
    · exact po.own q hq
    · rw [po.fra.keep q.1 (Heap.lt_size (hr q hq)) (hd q hq)]; exact hr q hq
  · rw [adr_append]; exact List.mem_append_left _ h
theorem PreOk.tail1 {st : ST} {n t : Nat} {s : Shared} {a : Ent} {rest : List Ent} (hp : PreOk st (a :: rest) n t s) : Hold rest s.heap ∧ ∀ q ∈ rest, q.1 ∉ adr [a] := by
  refine ⟨fun q hq => hp.own q (List.mem_cons_of_mem _ hq), fun q hq h => ?_⟩
  have nd : (a.1 :: adr rest).Nodup := hp.nodup
  have : q.1 = a.1 := by simpa [adr] using h
  exact (List.nodup_cons.mp nd).1 (by rw [← this]; exact List.mem_map.mpr ⟨q, hq, rfl⟩)
section
variable {w : World} {st : ST}
noncomputable abbrev linS (l : Addr) (cs : List (Nat × Tok)) (ep x : Nat) (u : Tok) (r : Bool) : Mine.Spec := ⟨.builtin "list.__contains__" ⟨[.ref l, .int (Int.ofNat x) u], []⟩, none, none, [(l, lstO (natA cs) ep)], fun n t => ⟨.ok (.ret (.bool r)), n, t, [lstO (natA cs) ep], []⟩⟩
noncomputable def natEq (x : Nat) : Value → Bool
  | .int b _ => b == Int.ofNat x
  | _ => false
theorem linV (l : Addr) (cs : List (Nat × Tok)) (ep x : Nat) (u : Tok) (r : Bool) (h : cs.any (fun c => c.1 == x) = r) : (linS l cs ep x u r).Valid (model prog w) st := by
  have he : ∀ y, y ∈ natA cs → PySem.MeetsSeq.EqGives y (.int (Int.ofNat x) u) (natEq x y) := by
    intro y hy
    have : y ∈ natVs cs := by
      have := Array.mem_toList_iff.mpr hy
      exact this
    unfold natVs at this
    obtain ⟨c, _, rfl⟩ := List.mem_map.mp this
    exact PySem.MeetsSeq.EqGives.int _ _ _ _
  refine valid_of_meets rfl (by decide +kernel) F.entry_list_contains (PySem.MeetsSeq.list_contains l (natA cs) ep (.int (Int.ofNat x) u) (natEq x) he) fun _ n t s _ hp => ?_
  have e : (natA cs).any (natEq x) = r := by
    rw [← Array.any_toList]
    show (natVs cs).any (natEq x) = r
    unfold natVs
    rw [List.any_map, ← h]
    congr 1
    funext c
    show (Int.ofNat c.1 == Int.ofNat x) = (c.1 == x)
    rw [Bool.eq_iff_iff]
    simp only [beq_iff_eq, Int.ofNat_eq_natCast]
    omega
  refine ⟨hp.own (l, lstO (natA cs) ep) (List.mem_cons_self ..), ?_⟩
  rw [e]
  exact ⟨rfl, post_pure hp.own rfl rfl rfl rfl hp.size.symm hp.toks rfl rfl⟩
noncomputable def extEp (xs ys : Array Value) (ep : Nat) : Nat := if (xs ++ ys).size == xs.size then ep else ep + 1
noncomputable abbrev lextS (l b : Addr) (xs : Array Value) (ep : Nat) (ys : Array Value) (ep2 : Nat) (zs : Array Value) (ep3 : Nat) : Mine.Spec := ⟨.builtin "list.extend" ⟨[.ref l, .ref b], []⟩, none, none, [(l, lstO xs ep), (b, lstO ys ep2)], fun n t => ⟨.ok (.ret .none), n, t, [lstO zs ep3, lstO ys ep2], []⟩⟩
theorem lextV (l b : Addr) (xs : Array Value) (ep : Nat) (ys : Array Value) (ep2 : Nat) (zs : Array Value) (hz : xs ++ ys = zs) (h : xs.size + ys.size ≤ sizeLine) : (lextS l b xs ep ys ep2 zs (extEp xs ys ep)).Valid (model prog w) st := by
  subst hz
  have hsl : sizeLine = 16777216 := rfl
  refine valid_of_meets rfl (by decide +kernel) F.entry_list_extend (PySem.AutoSeq1.list_extend_list_list_0 l xs ep b ys ep2 (by
    intro h'
    have h2 := (Bool.and_eq_true_iff.mp h').2
    simp [Builtin.List.listTooLong] at h2
    omega) (by omega) (by omega)) fun _ n t s _ hp => ?_
  have ho := hp.own (l, lstO xs ep) (List.mem_cons_self ..)
  refine ⟨ho, hp.own (b, lstO ys ep2) (List.mem_cons_of_mem _ (List.mem_cons_self ..)), rfl, ?_⟩
  have po := post_update (e := ⟨.ok (.ret .none), n, t, [lstO (xs ++ ys) (extEp xs ys ep)], []⟩) (s := s) (s' := { s with heap := s.heap.update l (Obj.mapSeq fun x => x ++ ys), toks := s.toks }) ho rfl (o' := lstO (xs ++ ys) (extEp xs ys ep)) rfl rfl rfl rfl rfl hp.size.symm hp.toks rfl rfl
  obtain ⟨h1, h2⟩ := hp.tail1
  exact po.frame [(b, lstO ys ep2)] h1 h2
noncomputable abbrev linitS (l b : Addr) (ys : Array Value) (ep2 : Nat) (ep3 : Nat) : Mine.Spec := ⟨.builtin "list.__init__" ⟨[.ref l, .ref b], []⟩, none, none, [(l, lstO #[] 0), (b, lstO ys ep2)], fun n t => ⟨.ok (.ret .none), n, t, [lstO ys ep3, lstO ys ep2], []⟩⟩
theorem linitV (l b : Addr) (ys : Array Value) (ep2 : Nat) (h : ys.size ≤ sizeLine) : (linitS l b ys ep2 (extEp #[] ys 0)).Valid (model prog w) st := by
  have M : Meets (Builtin.«list.__init__» ⟨[.ref l, .ref b], []⟩) (fun _ R s => b ≠ l ∧ s.heap.get? l = some (lstO #[] 0) ∧ s.heap.get? b = some (lstO ys ep2) ∧ R (.ok (.ret .none)) { s with heap := (s.heap.update l (Obj.mapSeq (fun _ => (#[] : Array Value)))).update l (Obj.mapSeq (· ++ ys)) }) :=
    fun prog w A R s hs => wpAny_list_init_seq (hsz := h) l b (.inl rfl) hs.1 hs.2.1 hs.2.2.1 rfl rfl hs.2.2.2
  refine valid_of_meets rfl (by decide +kernel) F.entry_list_init M fun _ n t s _ hp => ?_
  have ho := hp.own (l, lstO #[] 0) (List.mem_cons_self ..)
  obtain ⟨h1, h2⟩ := hp.tail1
  refine ⟨fun e => h2 (b, lstO ys ep2) (List.mem_cons_self ..) (by rw [e]; simp [adr]), ho, h1 _ (List.mem_cons_self ..), rfl, ?_⟩
  have po1 := post_update (e := ⟨.ok .next, n, t, [lstO #[] 0], []⟩) (s := s) (s' := { s with heap := s.heap.update l (Obj.mapSeq fun _ => (#[] : Array Value)) }) ho rfl (o' := lstO #[] 0) rfl rfl rfl rfl rfl hp.size.symm hp.toks rfl rfl
  have ho1 := po1.own (l, lstO #[] 0) (List.mem_cons_self ..)
  have e2 : Obj.mapSeq (· ++ ys) (lstO #[] 0) = lstO ys (extEp #[] ys 0) := by
    unfold lstO Obj.mapSeq extEp
    simp
  have po2 := post_update (e := ⟨.ok (.ret .none), n, t, [lstO ys (extEp #[] ys 0)], []⟩) (s := { s with heap := s.heap.update l (Obj.mapSeq fun _ => (#[] : Array Value)) }) (s' := { s with heap := (s.heap.update l (Obj.mapSeq fun _ => (#[] : Array Value))).update l (Obj.mapSeq (· ++ ys)) }) ho1 rfl e2 rfl rfl rfl rfl po1.size.symm hp.toks rfl rfl
  exact (po1.trans po2).frame [(b, lstO ys ep2)] h1 h2
end
theorem ret_of_D {w : World} {prog : Program} {c : Code} {hd : Option Value} {below : List (Code × Pos)} {p : Pos} {s s' : Shared} {r : Result} (h : Runs (model prog w) ⟨c, hd, hd, below, none⟩ p (D c) [] s (.ret r) s') : Returns (model prog w) ⟨c, hd, hd, below, none⟩ p s r s' := by
  show Runs _ _ _ (denote table c) _ _ _ _
  rw [D_eq]; exact h
noncomputable def sumS (cds : List Code) (l : Addr) (xs : List (Int × Tok)) (ep n t : Nat) (v : Int) (k : Tok) : Mine.Spec := Mine.mk (.builtin "sum" ⟨[.ref l], []⟩) none cds n t [(l, lstO (izA xs) ep)] ⟨.ok (.ret (.int v k)), n + 4, t + 1 + xs.length, [lstO (izA xs) ep], []⟩
noncomputable def sumC2 (cds : List Code) (l : Addr) (xs : List (Int × Tok)) (ep n t : Nat) (v : Int) (k : Tok) (i' : Nat) : Con :=
  ⟨.builtin "sum" ⟨[.ref l], []⟩, cds, n, t, [(l, lstO (izA xs) ep)], ⟨.ok (.ret (.int v k)), n + 4, t + 1 + xs.length, [lstO (izA xs) ep], []⟩,
    [Mine.mk (sumC n (n + 1)) none cds (n + 2) (t + 1) [(n, litO l 0), (l, lstO (izA xs) ep), (n + 1, lstO #[.int 0 t] 0)] ⟨.ok (.ret (.int v k)), n + 4, t + 1 + xs.length, [litX i', lstO (izA xs) ep, lstO #[.int v k] 0], []⟩]⟩
end
end Mine

namespace Mine
section
open PySem PySem.W Sem
theorem sumV {w : World} {b1 b2 : Bool} (cds : List Code) (l : Addr) (xs : List (Int × Tok)) (ep n t : Nat) (hf : fitAll 0 xs) : ∃ k, (sumS cds l xs ep n t (totalZ 0 xs) k).Valid (model prog (Wf w b1 b2)) (stW (Wf w b1 b2)) := by
  obtain ⟨i', k, V⟩ := sumLoopV (w := (Wf w b1 b2)) cds l n (n + 1) xs ep 0 xs 0 0 t (n + 2) (t + 1) rfl hf
  refine ⟨k, ?_⟩
  refine mk_intro fun below p s e2 hp => ?_
  subst e2
  obtain ⟨s', hr, po⟩ := run_ok (w := (Wf w b1 b2)) (prog := prog) (st := stW (Wf w b1 b2)) (c := .builtin "sum" ⟨[.ref l], []⟩) (hd := none) (below := below) (tr := D (.builtin "sum" ⟨[.ref l], []⟩)) (p := p) 300 1208334924788688486529 _ (all_cons V all_nil) (pre := [(l, lstO (izA xs) ep)]) (n := n) (t := t) (e := ⟨.ok (.ret (.int (totalZ 0 xs) k)), n + 4, t + 1 + xs.length, [lstO (izA xs) ep], []⟩) rfl (by (generalize b1 = c1; generalize b2 = c2; revert c1 c2; refine split2 ?_ ?_ ?_ ?_ <;> kernel_rfl)) hp
  exact ⟨s', ret_of_D hr, po⟩
end
end Mine

namespace Mine
section
open PySem PySem.W Sem
noncomputable def rnQ : Str := "_law_runs.<locals>."
noncomputable def rnFor (f : FuncData) (i : Nat) : Expr × List Stmt := forOf ((bodyOf f).getD i default)
structure Rx where
  F : Addr
  I : Addr
  M : Addr
  C : Addr
  S : Addr
  K : Nat → Tok
  cs : List (Nat × Tok)
  epc : Nat
  b : List Stmt
  e : Env
noncomputable def Rx.env (g : Rx) (f : FuncData) : Env := funEnv f g.F rnQ 206 205
noncomputable def Rx.cds (g : Rx) (f : FuncData) : List Code := .func (bodyOf f) (g.env f) :: lawCds g.b g.e
noncomputable def Rx.loop1 (g : Rx) (f : FuncData) : Code := .forLoop (rnFor f 1).1 (.ref g.I) (rnFor f 1).2 [] (g.env f)
noncomputable def mL (m : Nat → Int × Tok) : List (Int × Tok) := [m 0, m 1, m 2, m 3, m 4, m 5, m 6, m 7]
noncomputable def rnEl (m : Nat → Int × Tok) : Nat → List (Int × Tok)
  | 3 => [m 6]
  | 2 => [m 4, m 6]
  | 1 => [m 2, m 3, m 4, m 5, m 6]
  | _ => []
noncomputable def mset (m : Nat → Int × Tok) (s : Nat) (x : Int × Tok) : Nat → Int × Tok := fun i => bif Nat.beq i s then x else m i
noncomputable def cutZ (r : Bool) : Int := bif r then -1 else 0
noncomputable def rdO (s : Nat) : Obj := { cls := .type "range_iterator", data := .fields ⟨[.int (Int.ofNat s) 0, .int (Int.ofNat s) 0, .int (-1) 0]⟩ }
noncomputable def Rx.fr1 (g : Rx) (P : Params) : Option (Tok × Value) → Obj
  | none => frameO [de P "chosen" (g.K 0) (.ref g.C), de P "shared" (g.K 1) (.ref g.S), de P "more" (g.K 2) (.ref g.M)] 3
  | some (k, v) => frameO [de P "chosen" (g.K 0) (.ref g.C), de P "shared" (g.K 1) (.ref g.S), de P "more" (g.K 2) (.ref g.M), de P "size" k v] 4
noncomputable def Rx.pre1 (g : Rx) (P : Params) (s : Nat) (m : Nat → Int × Tok) (fs : Option (Tok × Value)) : List Ent := [(g.F, g.fr1 P fs), (g.I, rdO s), (g.M, lstO (izA (mL m)) 0), (g.C, lstO (natA g.cs) g.epc)]
noncomputable def Rx.at1 (g : Rx) (P : Params) (f : FuncData) (n t s : Nat) (m : Nat → Int × Tok) (fs : Option (Tok × Value)) (e : Eff) : Mine.Spec := Mine.mk (g.loop1 f) none (g.cds f) n t (g.pre1 P s m fs) e
noncomputable def rnNew (m : Nat → Int × Tok) (t s : Nat) (r : Bool) : Int × Tok := (cutZ r - totalZ 0 (rnEl m s), t + 7 + (bif r then 1 else 0) + (rnEl m s).length)
noncomputable def rnTurnC (g : Rx) (P : Params) (f : FuncData) (n t s : Nat) (m : Nat → Int × Tok) (fs : Option (Tok × Value)) (r : Bool) (k : Tok) (er : Result) (en et : Nat) (p1 p2 p3 p4 : Obj) : Con :=
  let d := bif r then 1 else 0
  ⟨g.loop1 f, g.cds f, n, t, g.pre1 P s m fs, ⟨er, en, et, [p1, p2, p3, p4], []⟩, [linS g.C g.cs g.epc s t r, sumS (g.loop1 f :: g.cds f) (n + 1) (rnEl m s) 0 (n + 2) (t + 6 + d) (totalZ 0 (rnEl m s)) k,
    g.at1 P f (n + 6) (t + 8 + d + (rnEl m s).length) (s - 1) (mset m s (rnNew m t s r)) (some (kOf fs (t + 1), .int (Int.ofNat s) t)) ⟨er, en, et, [p1, p2, p3, p4], []⟩]⟩
noncomputable def rnEndC (g : Rx) (P : Params) (f : FuncData) (n t : Nat) (m : Nat → Int × Tok) (fs : Option (Tok × Value)) : Con :=
  ⟨g.loop1 f, g.cds f, n, t, g.pre1 P 0 m fs, ⟨.ok .next, n + 2, t, [g.fr1 P fs, rdO 0, lstO (izA (mL m)) 0, lstO (natA g.cs) g.epc], []⟩, []⟩
/-! the second loop -/
structure Ry where
  F : Addr
  I : Addr
  M : Addr
  C : Addr
  S : Addr
  A : Addr
  B : Addr
  K : Nat → Tok
  sz : Value
  ms : List (Int × Tok)
  b : List Stmt
  e : Env
noncomputable def Ry.env (g : Ry) (f : FuncData) : Env := funEnv f g.F rnQ 206 205
noncomputable def Ry.cds (g : Ry) (f : FuncData) : List Code := .func (bodyOf f) (g.env f) :: lawCds g.b g.e
noncomputable def Ry.loop (g : Ry) (f : FuncData) : Code := .forLoop (rnFor f 3).1 (.ref g.I) (rnFor f 3).2 [] (g.env f)
noncomputable def Ry.fr (g : Ry) (P : Params) : Option ((Tok × Value) × (Tok × Value)) → Obj
  | none => frameO [de P "chosen" (g.K 0) (.ref g.C), de P "shared" (g.K 1) (.ref g.S), de P "more" (g.K 2) (.ref g.M), de P "size" (g.K 3) g.sz, de P "second" (g.K 4) (.ref g.B), de P "first" (g.K 5) (.ref g.A)] 6
  | some ((k, v), (k2, v2)) => frameO [de P "chosen" (g.K 0) (.ref g.C), de P "shared" (g.K 1) (.ref g.S), de P "more" (g.K 2) (.ref g.M), de P "size" (g.K 3) g.sz, de P "second" (g.K 4) (.ref g.B), de P "first" (g.K 5) (.ref g.A), de P "blanks" k v, de P "gain" k2 v2] 8
noncomputable def Ry.pre (g : Ry) (P : Params) (x left : Nat) (xs : List (Nat × Tok)) (ep : Nat) (ys : List (Nat × Tok)) (ep2 : Nat) (fs : Option ((Tok × Value) × (Tok × Value))) : List Ent := [(g.F, g.fr P fs), (g.I, ritO x left), (g.M, lstO (izA g.ms) 0), (g.A, lstO (natA xs) ep), (g.B, lstO (natA ys) ep2)]
noncomputable def Ry.at (g : Ry) (P : Params) (f : FuncData) (n t x left : Nat) (xs : List (Nat × Tok)) (ep : Nat) (ys : List (Nat × Tok)) (ep2 : Nat) (fs : Option ((Tok × Value) × (Tok × Value))) (e : Eff) : Mine.Spec := Mine.mk (g.loop f) none (g.cds f) n t (g.pre P x left xs ep ys ep2 fs) e
noncomputable def kOf1 (fs : Option ((Tok × Value) × (Tok × Value))) (t : Tok) : Tok := match fs with | none => t | some ((k, _), _) => k
noncomputable def kOf2 (fs : Option ((Tok × Value) × (Tok × Value))) (t : Tok) : Tok := match fs with | none => t | some (_, (k, _)) => k
noncomputable def repN (i : Int) (x : Nat) (k : Tok) : List (Nat × Tok) := List.replicate i.toNat (x, k)
noncomputable abbrev negZ (a : Int) (s : Tok) (z : Int) : Mine.Spec := pureS "int.__neg__" [.int a s] (fun t => .int z t) 1
theorem negZV {w : World} {st : ST} (a : Int) (s : Tok) (z : Int) (h : -a = z) : (negZ a s z).Valid (model prog w) st := by
  subst h
  exact pure_int (by decide +kernel) PySem.F.entry_int_neg (gives_int_neg a s)
noncomputable def ryTurnC (g : Ry) (P : Params) (f : FuncData) (n t x left : Nat) (xs : List (Nat × Tok)) (ep : Nat) (ys : List (Nat × Tok)) (ep2 : Nat) (fs : Option ((Tok × Value) × (Tok × Value))) (a b : Int × Tok) (z z' : Int) (er : Result) (en et : Nat) (p1 p2 p3 p4 p5 : Obj) : Con :=
  ⟨g.loop f, g.cds f, n, t, g.pre P x (left + 1) xs ep ys ep2 fs, ⟨er, en, et, [p1, p2, p3, p4, p5], []⟩,
    [rnextS g.I x left, lgetS g.M (izA g.ms) 0 x t (.int a.1 a.2), lgetS g.M (izA g.ms) 0 (x + 1) (t + 3) (.int b.1 b.2), subZ a.1 a.2 b.1 b.2 z, negZ z (t + 4) z', lmulS n (.int (Int.ofNat x) t) 0 z' (t + 6),
      lextS g.A (n + 1) (natA xs) ep ⟨List.replicate z'.toNat (.int (Int.ofNat x) t)⟩ 0 (natA (xs ++ repN z' x t)) (extEp (natA xs) ⟨List.replicate z'.toNat (.int (Int.ofNat x) t)⟩ ep), lmulS (n + 2) (.int (Int.ofNat x) t) 0 z (t + 4),
      lextS g.B (n + 3) (natA ys) ep2 ⟨List.replicate z.toNat (.int (Int.ofNat x) t)⟩ 0 (natA (ys ++ repN z x t)) (extEp (natA ys) ⟨List.replicate z.toNat (.int (Int.ofNat x) t)⟩ ep2),
      g.at P f (n + 4) (t + 7) (x + 1) left (xs ++ repN z' x t) (extEp (natA xs) ⟨List.replicate z'.toNat (.int (Int.ofNat x) t)⟩ ep) (ys ++ repN z x t) (extEp (natA ys) ⟨List.replicate z.toNat (.int (Int.ofNat x) t)⟩ ep2) (some ((kOf1 fs (t + 1), .int (Int.ofNat x) t), (kOf2 fs (t + 5), .int z (t + 4)))) ⟨er, en, et, [p1, p2, p3, p4, p5], []⟩]⟩
noncomputable def ryEndC (g : Ry) (P : Params) (f : FuncData) (n t x : Nat) (xs : List (Nat × Tok)) (ep : Nat) (ys : List (Nat × Tok)) (ep2 : Nat) (fs : Option ((Tok × Value) × (Tok × Value))) : Con :=
  ⟨g.loop f, g.cds f, n, t, g.pre P x 0 xs ep ys ep2 fs, ⟨.ok .next, n + 2, t, objs (g.pre P x 0 xs ep ys ep2 fs), []⟩, []⟩
noncomputable def rnX (n t : Nat) (C S : Addr) (cs : List (Nat × Tok)) (epc : Nat) (b : List Stmt) (e : Env) : Rx := ⟨n, n + 4, n + 2, C, S, Kf [t, t + 1, t + 4], cs, epc, b, e⟩
noncomputable def rnY (n t n1 t1 : Nat) (C S : Addr) (ks : Tok) (sz : Value) (m : Nat → Int × Tok) (b : List Stmt) (e : Env) : Ry := ⟨n, n1 + 8, n + 2, C, S, n1, n1 + 2, Kf [t, t + 1, t + 4, ks, t1 + 2, t1 + 3], sz, mL m, b, e⟩
noncomputable def rnC (P : Params) (f : FuncData) (C S : Addr) (cs : List (Nat × Tok)) (epc : Nat) (sh : List (Nat × Tok)) (eps : Nat) (b : List Stmt) (e : Env) (n t n1 t1 : Nat) (ks : Tok) (sz : Value) (m : Nat → Int × Tok) (n2 t2 x' : Nat) (fl : List (Nat × Tok)) (ep : Nat) (sl : List (Nat × Tok)) (ep2 : Nat) (fs : Option ((Tok × Value) × (Tok × Value))) : Con :=
  let g1 := rnX n t C S cs epc b e
  let g2 := rnY n t n1 t1 C S ks sz m b e
  ⟨.call (.ref 206) ⟨[.ref C, .ref S], []⟩, lawCds b e, n, t, [(C, lstO (natA cs) epc), (S, lstO (natA sh) eps)], ⟨.ok (.ret (.ref (n2 + 2))), n2 + 3, t2 + 2, [lstO (natA cs) epc, lstO (natA sh) eps], [(n2 + 2, tupO [.ref n1, .ref (n2 + 1)]), (n1, lstO (natA fl) ep), (n2 + 1, lstO (natA sl.reverse) 0)]⟩,
    [g1.at1 P f (n + 5) (t + 9) 6 (fun _ => (0, t + 2)) none ⟨.ok .next, n1, t1, [g1.fr1 P (some (ks, sz)), rdO 0, lstO (izA (mL m)) 0, lstO (natA cs) epc], []⟩,
      linitS n1 S (natA sh) eps (extEp #[] (natA sh) 0), lslS S (n1 + 1) (natA sh) eps .none .none (.int (-1) (t1 + 1)) (natA sh.reverse),
      g2.at P f (n1 + 9) (t1 + 7) 0 7 sh (extEp #[] (natA sh) 0) sh.reverse 0 none ⟨.ok .next, n2, t2, objs (g2.pre P x' 0 fl ep sl ep2 fs), []⟩,
      lslS (n1 + 2) n2 (natA sl) ep2 .none .none (.int (-1) (t2 + 1)) (natA sl.reverse)]⟩
end
end Mine

namespace Mine
section
open PySem PySem.W Sem
noncomputable def rnF (w : World) : FuncData := fdOf (hd.o_259 w.params)
noncomputable def rnGo (r : Nat → Bool) : Nat → (Nat → Int × Tok) → Nat → Nat → (Nat → Int × Tok) × Nat × Nat
  | 0, m, n, t => (m, n + 2, t)
  | s + 1, m, n, t => rnGo r s (mset m (s + 1) (rnNew m t (s + 1) (r (s + 1)))) (n + 6) (t + 8 + (bif r (s + 1) then 1 else 0) + (rnEl m (s + 1)).length)
section
variable (w : World) (b1 b2 : Bool)
theorem rn_turn (g : Rx) (n t s : Nat) (m : Nat → Int × Tok) (fs : Option (Tok × Value)) (r : Bool) (er : Result) (en et : Nat) (p1 p2 p3 p4 : Obj) (hs : s = 1 ∨ s = 2 ∨ s = 3 ∨ s = 4 ∨ s = 5 ∨ s = 6) (hr : g.cs.any (fun c => c.1 == s) = r) (hf : fitAll 0 (rnEl m s))
    (V : (g.at1 ((Wf w b1 b2)).params (rnF (Wf w b1 b2)) (n + 6) (t + 8 + (bif r then 1 else 0) + (rnEl m s).length) (s - 1) (mset m s (rnNew m t s r)) (some (kOf fs (t + 1), .int (Int.ofNat s) t)) ⟨er, en, et, [p1, p2, p3, p4], []⟩).Valid (model prog (Wf w b1 b2)) (stW (Wf w b1 b2))) :
    (g.at1 ((Wf w b1 b2)).params (rnF (Wf w b1 b2)) n t s m fs ⟨er, en, et, [p1, p2, p3, p4], []⟩).Valid (model prog (Wf w b1 b2)) (stW (Wf w b1 b2)) := by
  obtain ⟨k, VS⟩ := sumV (w := w) (b1 := b1) (b2 := b2) (g.loop1 (rnF (Wf w b1 b2)) :: g.cds (rnF (Wf w b1 b2))) (n + 1) (rnEl m s) 0 (n + 2) (t + 6 + (bif r then 1 else 0)) hf
  have VL := linV (w := (Wf w b1 b2)) (st := stW (Wf w b1 b2)) g.C g.cs g.epc s t r hr
  have key : (rnTurnC g ((Wf w b1 b2)).params (rnF (Wf w b1 b2)) n t s m fs r k er en et p1 p2 p3 p4).sp.Valid (model prog (Wf w b1 b2)) (stW (Wf w b1 b2)) := by
    cases r
    · refine Con.valid _ 400 22847494239777841210700992704363981663874729620311327838378724726221392068082852167295982557918797497325929329016132889526935043997698 (all_cons (VL) (all_cons (VS) (all_cons (V) all_nil))) rfl ?_
      intro p q
      rcases fs with _ | ⟨kf, vf⟩ <;> rcases hs with rfl | rfl | rfl | rfl | rfl | rfl <;> (generalize b2 = c2; revert c2; refine split1 ?_ ?_ <;> kernel_rfl)
    · refine Con.valid _ 400 374333345624520150396125064468299475580923570099180795303997025914411287643469449908977378137419330787811332817212465017307101182109450242 (all_cons (VL) (all_cons (VS) (all_cons (V) all_nil))) rfl ?_
      intro p q
      rcases fs with _ | ⟨kf, vf⟩ <;> rcases hs with rfl | rfl | rfl | rfl | rfl | rfl <;> (generalize b2 = c2; revert c2; refine split1 ?_ ?_ <;> kernel_rfl)
  exact key
theorem fit_small {B : Int} (h1 : 0 ≤ B) (h2 : B ≤ 1000000000) : ∀ (l : List (Int × Tok)) (a c : Int), (∀ x ∈ l, -B ≤ x.1 ∧ x.1 ≤ B) → -c ≤ a → a ≤ c → c + B * l.length ≤ 1000000000000 → fitAll a l
  | [], _, _, _, _, _, _ => trivial
  | x :: l, a, c, hx, ha, ha', hc => by
    have hx1 := hx x (List.mem_cons_self ..)
    have e : B * ((x :: l).length : Nat) = B * (l.length : Nat) + B := by
      show B * ((l.length + 1 : Nat) : Int) = _
      rw [Int.natCast_add, Int.mul_add]; simp
    rw [e] at hc
    have h0 : 0 ≤ B * (l.length : Nat) := Int.mul_nonneg h1 (Int.natCast_nonneg _)
    refine ⟨?_, fit_small h1 h2 l (a + x.1) (c + B) (fun y hy => hx y (List.mem_cons_of_mem _ hy)) (by omega) (by omega) (by omega)⟩
    unfold fitsZ
    simp only [Bool.and_eq_true, decide_eq_true_eq]
    omega
theorem total_small {B : Int} : ∀ (l : List (Int × Tok)) (a : Int), (∀ x ∈ l, -B ≤ x.1 ∧ x.1 ≤ B) → a - B * l.length ≤ totalZ a l ∧ totalZ a l ≤ a + B * l.length
  | [], a, _ => by simp [totalZ]
  | x :: l, a, hx => by
    have hx1 := hx x (List.mem_cons_self ..)
    have := total_small l (a + x.1) (fun y hy => hx y (List.mem_cons_of_mem _ hy))
    have e : B * ((x :: l).length : Nat) = B * (l.length : Nat) + B := by
      show B * ((l.length + 1 : Nat) : Int) = _
      rw [Int.natCast_add, Int.mul_add]; simp
    rw [e, totalZ]
    omega
theorem rnEl_mem {m : Nat → Int × Tok} {s : Nat} {x : Int × Tok} (h : x ∈ rnEl m s) : ∃ i, x = m i := by
  unfold rnEl at h
  split at h <;> simp at h <;> rcases h with h | h | h | h | h <;> first | exact ⟨_, h⟩ | (rcases h with h | h <;> exact ⟨_, h⟩) | exact ⟨_, rfl⟩
theorem rnEl_len (m : Nat → Int × Tok) (s : Nat) : (rnEl m s).length ≤ 5 := by
  unfold rnEl; split <;> simp
theorem rn_loop1 (g : Rx) : ∀ (s : Nat), s ≤ 6 → ∀ (B : Int) (m : Nat → Int × Tok) (fs : Option (Tok × Value)) (n t : Nat), 1 ≤ B → B * 6 ^ s ≤ 100000000 → (∀ i, -B ≤ (m i).1 ∧ (m i).1 ≤ B) → (0 < s ∨ fs.isSome = true) →
    ∃ (fs' : Tok × Value), (g.at1 ((Wf w b1 b2)).params (rnF (Wf w b1 b2)) n t s m fs ⟨.ok .next, (rnGo (fun i => g.cs.any fun c => c.1 == i) s m n t).2.1, (rnGo (fun i => g.cs.any fun c => c.1 == i) s m n t).2.2, [g.fr1 ((Wf w b1 b2)).params (some fs'), rdO 0, lstO (izA (mL (rnGo (fun i => g.cs.any fun c => c.1 == i) s m n t).1)) 0, lstO (natA g.cs) g.epc], []⟩).Valid (model prog (Wf w b1 b2)) (stW (Wf w b1 b2)) := by
  intro s
  induction s with
  | zero =>
    intro _ B m fs n t _ _ _ hfs
    rcases fs with _ | fs
    · simp at hfs
    refine ⟨fs, ?_⟩
    have V : (rnEndC g ((Wf w b1 b2)).params (rnF (Wf w b1 b2)) n t m (some fs)).sp.Valid (model prog (Wf w b1 b2)) (stW (Wf w b1 b2)) := by
      refine Con.valid _ 300 77826970047691789869023234 all_nil rfl ?_
      intro p q
      rcases fs with ⟨kf, vf⟩
      (generalize b2 = c2; revert c2; refine split1 ?_ ?_ <;> kernel_rfl)
    exact V
  | succ s ih =>
    intro hs B m fs n t hB hz hm _
    have hpow : B * 6 ^ (s + 1) = (6 * B) * 6 ^ s := by rw [Int.pow_succ, ← Int.mul_assoc, Int.mul_comm (6 * B), Int.mul_comm B, Int.mul_assoc, Int.mul_comm B 6]
    have h6 : B ≤ B * 6 ^ (s + 1) := by
      have h1 : (1 : Int) ≤ 6 ^ (s + 1) := by
        have : 0 < (6 : Int) ^ (s + 1) := Int.pow_pos (by decide)
        omega
      have := Int.mul_le_mul_of_nonneg_left h1 (show (0 : Int) ≤ B by omega)
      simpa using this
    have hel : ∀ x ∈ rnEl m (s + 1), -B ≤ x.1 ∧ x.1 ≤ B := fun x hx => by obtain ⟨i, rfl⟩ := rnEl_mem hx; exact hm i
    have hlen := rnEl_len m (s + 1)
    have hlB : B * ((rnEl m (s + 1)).length : Nat) ≤ B * 5 := Int.mul_le_mul_of_nonneg_left (by omega) (by omega)
    have hf : fitAll 0 (rnEl m (s + 1)) := fit_small (B := B) (by omega) (by omega) _ 0 0 hel (by omega) (by omega) (by omega)
    have htot := total_small (B := B) (rnEl m (s + 1)) 0 hel
    generalize hr : g.cs.any (fun c => c.1 == s + 1) = r
    have hnew : -(6 * B) ≤ (rnNew m t (s + 1) r).1 ∧ (rnNew m t (s + 1) r).1 ≤ 6 * B := by
      show -(6 * B) ≤ cutZ r - totalZ 0 _ ∧ cutZ r - totalZ 0 _ ≤ 6 * B
      cases r <;> simp only [cutZ, cond_true, cond_false] <;> omega
    obtain ⟨fs', V⟩ := ih (by omega) (6 * B) (mset m (s + 1) (rnNew m t (s + 1) r)) (some (kOf fs (t + 1), .int (Int.ofNat (s + 1)) t)) (n + 6) (t + 8 + (bif r then 1 else 0) + (rnEl m (s + 1)).length) (by omega) (by rw [← hpow]; exact hz) (fun i => by
      unfold mset
      cases Nat.beq i (s + 1) with
      | true => exact hnew
      | false => have := hm i; show _ ≤ (m i).1 ∧ (m i).1 ≤ _; omega) (.inr rfl)
    refine ⟨fs', ?_⟩
    have e : rnGo (fun i => g.cs.any fun c => c.1 == i) (s + 1) m n t = rnGo (fun i => g.cs.any fun c => c.1 == i) s (mset m (s + 1) (rnNew m t (s + 1) r)) (n + 6) (t + 8 + (bif r then 1 else 0) + (rnEl m (s + 1)).length) := by
      show rnGo _ s (mset m (s + 1) (rnNew m t (s + 1) (g.cs.any fun c => c.1 == s + 1))) _ (t + 8 + (bif (g.cs.any fun c => c.1 == s + 1) then 1 else 0) + _) = _
      rw [hr]
    rw [e]
    exact rn_turn w b1 b2 g n t (s + 1) m fs r _ _ _ _ _ _ _ (by omega) hr hf V
/-! the second loop -/
noncomputable def runsA (v : Nat → Int) : Nat → Nat → List Nat
  | _, 0 => []
  | x, l + 1 => List.replicate (-(v x - v (x + 1))).toNat x ++ runsA v (x + 1) l
noncomputable def runsB (v : Nat → Int) : Nat → Nat → List Nat
  | _, 0 => []
  | x, l + 1 => List.replicate (v x - v (x + 1)).toNat x ++ runsB v (x + 1) l
theorem natA_rep (xs : List (Nat × Tok)) (i : Int) (x : Nat) (k : Tok) : natA xs ++ ⟨List.replicate i.toNat (.int (Int.ofNat x) k)⟩ = natA (xs ++ repN i x k) := by
  apply Array.ext'
  show (natA xs ++ _).toList = natVs _
  rw [Array.toList_append]
  unfold natA natVs repN
  simp
theorem ry_loop (g : Ry) (hms : ∀ c ∈ g.ms, -47000 ≤ c.1 ∧ c.1 ≤ 47000) (hml : g.ms.length ≤ 100) (v : Nat → Int) (hv : ∀ i c, g.ms[i]? = some c → c.1 = v i) : ∀ (left x : Nat) (xs : List (Nat × Tok)) (ep : Nat) (ys : List (Nat × Tok)) (ep2 : Nat) (fs : Option ((Tok × Value) × (Tok × Value))) (n t : Nat), x + left < g.ms.length → xs.length + 100000 * left ≤ 900000 → ys.length + 100000 * left ≤ 900000 →
    ∃ (n' t' x' : Nat) (xs' : List (Nat × Tok)) (ep' : Nat) (ys' : List (Nat × Tok)) (ep2' : Nat) (fs' : Option ((Tok × Value) × (Tok × Value))), xs'.map (·.1) = xs.map (·.1) ++ runsA v x left ∧ ys'.map (·.1) = ys.map (·.1) ++ runsB v x left ∧ xs'.length ≤ 900000 ∧ ys'.length ≤ 900000 ∧
      (g.at ((Wf w b1 b2)).params (rnF (Wf w b1 b2)) n t x left xs ep ys ep2 fs ⟨.ok .next, n', t', objs (g.pre ((Wf w b1 b2)).params x' 0 xs' ep' ys' ep2' fs'), []⟩).Valid (model prog (Wf w b1 b2)) (stW (Wf w b1 b2)) := by
  intro left
  induction left with
  | zero =>
    intro x xs ep ys ep2 fs n t _ _ _
    refine ⟨n + 2, t, x, xs, ep, ys, ep2, fs, by simp [runsA], by simp [runsB], by omega, by omega, ?_⟩
    have V : (ryEndC g ((Wf w b1 b2)).params (rnF (Wf w b1 b2)) n t x xs ep ys ep2 fs).sp.Valid (model prog (Wf w b1 b2)) (stW (Wf w b1 b2)) := by
      refine Con.valid _ 300 12457227362902057488813686786 all_nil rfl ?_
      intro p q
      rcases fs with _ | ⟨⟨kf, vf⟩, ⟨kg, vg⟩⟩ <;> (generalize b2 = c2; revert c2; refine split1 ?_ ?_ <;> kernel_rfl)
    exact V
  | succ left ih =>
    intro x xs ep ys ep2 fs n t hx hxs hys
    have hsl : sizeLine = 16777216 := rfl
    have ha : g.ms[x]? = some g.ms[x] := List.getElem?_eq_getElem (by omega)
    have hb : g.ms[x + 1]? = some g.ms[x + 1] := List.getElem?_eq_getElem (by omega)
    generalize g.ms[x] = a at ha
    generalize g.ms[x + 1] = b at hb
    have ba := hms a (List.mem_of_getElem? ha)
    have bb := hms b (List.mem_of_getElem? hb)
    have hl1 : (xs ++ repN (-(a.1 - b.1)) x t).length = xs.length + (-(a.1 - b.1)).toNat := by unfold repN; simp
    have hl2 : (ys ++ repN (a.1 - b.1) x t).length = ys.length + (a.1 - b.1).toNat := by unfold repN; simp
    obtain ⟨n', t', x', xs', ep', ys', ep2', fs', h1, h2, h3, h4, V⟩ := ih (x + 1) (xs ++ repN (-(a.1 - b.1)) x t) (extEp (natA xs) ⟨List.replicate (-(a.1 - b.1)).toNat (.int (Int.ofNat x) t)⟩ ep) (ys ++ repN (a.1 - b.1) x t) (extEp (natA ys) ⟨List.replicate (a.1 - b.1).toNat (.int (Int.ofNat x) t)⟩ ep2) (some ((kOf1 fs (t + 1), .int (Int.ofNat x) t), (kOf2 fs (t + 5), .int (a.1 - b.1) (t + 4)))) (n + 4) (t + 7) (by omega) (by rw [hl1]; omega) (by rw [hl2]; omega)
    have W1 := rnextV (w := (Wf w b1 b2)) (st := stW (Wf w b1 b2)) g.I x left
    have W2 := lgetV (w := (Wf w b1 b2)) (st := stW (Wf w b1 b2)) g.M (izA g.ms) 0 x t (.int a.1 a.2) (izA_get ha) (by omega)
    have W3 := lgetV (w := (Wf w b1 b2)) (st := stW (Wf w b1 b2)) g.M (izA g.ms) 0 (x + 1) (t + 3) (.int b.1 b.2) (izA_get hb) (by omega)
    have W4 := subZV (w := (Wf w b1 b2)) (st := stW (Wf w b1 b2)) a.1 a.2 b.1 b.2 _ rfl
    have W5 := negZV (w := (Wf w b1 b2)) (st := stW (Wf w b1 b2)) (a.1 - b.1) (t + 4) _ rfl
    have W6 := lmulV (w := (Wf w b1 b2)) (st := stW (Wf w b1 b2)) n (.int (Int.ofNat x) t) 0 (-(a.1 - b.1)) (t + 6) (by omega) (by omega)
    have W7 := lextV (w := (Wf w b1 b2)) (st := stW (Wf w b1 b2)) g.A (n + 1) (natA xs) ep ⟨List.replicate (-(a.1 - b.1)).toNat (.int (Int.ofNat x) t)⟩ 0 _ (natA_rep ..) (by rw [natA_size]; simp; omega)
    have W8 := lmulV (w := (Wf w b1 b2)) (st := stW (Wf w b1 b2)) (n + 2) (.int (Int.ofNat x) t) 0 (a.1 - b.1) (t + 4) (by omega) (by omega)
    have W9 := lextV (w := (Wf w b1 b2)) (st := stW (Wf w b1 b2)) g.B (n + 3) (natA ys) ep2 ⟨List.replicate (a.1 - b.1).toNat (.int (Int.ofNat x) t)⟩ 0 _ (natA_rep ..) (by rw [natA_size]; simp; omega)
    refine ⟨n', t', x', xs', ep', ys', ep2', fs', ?_, ?_, h3, h4, ?_⟩
    · rw [h1, runsA, hv x a ha, hv (x + 1) b hb]
      unfold repN
      simp
    · rw [h2, runsB, hv x a ha, hv (x + 1) b hb]
      unfold repN
      simp
    · have key : (ryTurnC g ((Wf w b1 b2)).params (rnF (Wf w b1 b2)) n t x left xs ep ys ep2 fs a b (a.1 - b.1) (-(a.1 - b.1)) (.ok .next) n' t' (g.fr ((Wf w b1 b2)).params fs') (ritO x' 0) (lstO (izA g.ms) 0) (lstO (natA xs') ep') (lstO (natA ys') ep2')).sp.Valid (model prog (Wf w b1 b2)) (stW (Wf w b1 b2)) := by
        refine Con.valid _ 400 652437936821188282514655089826131408259939628999359125332056458793370558959435781357353550133271123948077726822367039367208956532838216979000572658847726008089872757084841020784642 (all_cons (W1) (all_cons (W2) (all_cons (W3) (all_cons (W4) (all_cons (W5) (all_cons (W6) (all_cons (W7) (all_cons (W8) (all_cons (W9) (all_cons (V) all_nil)))))))))) rfl ?_
        intro p q
        rcases fs with _ | ⟨⟨kf, vf⟩, ⟨kg, vg⟩⟩ <;> (generalize b2 = c2; revert c2; refine split1 ?_ ?_ <;> kernel_rfl)
      exact key
theorem rnGo_small (r : Nat → Bool) : ∀ (s : Nat) (B : Int) (m : Nat → Int × Tok) (n t : Nat), 1 ≤ B → (∀ i, -B ≤ (m i).1 ∧ (m i).1 ≤ B) → ∀ i, -(B * 6 ^ s) ≤ ((rnGo r s m n t).1 i).1 ∧ ((rnGo r s m n t).1 i).1 ≤ B * 6 ^ s := by
  intro s
  induction s with
  | zero => intro B m n t _ hm i; simpa [rnGo] using hm i
  | succ s ih =>
    intro B m n t hB hm i
    have hpow : B * 6 ^ (s + 1) = (6 * B) * 6 ^ s := by rw [Int.pow_succ, ← Int.mul_assoc, Int.mul_comm (6 * B), Int.mul_comm B, Int.mul_assoc, Int.mul_comm B 6]
    have hel : ∀ x ∈ rnEl m (s + 1), -B ≤ x.1 ∧ x.1 ≤ B := fun x hx => by obtain ⟨i, rfl⟩ := rnEl_mem hx; exact hm i
    have hlen := rnEl_len m (s + 1)
    have hlB : B * ((rnEl m (s + 1)).length : Nat) ≤ B * 5 := Int.mul_le_mul_of_nonneg_left (by omega) (by omega)
    have htot := total_small (B := B) (rnEl m (s + 1)) 0 hel
    have hnew : -(6 * B) ≤ (rnNew m t (s + 1) (r (s + 1))).1 ∧ (rnNew m t (s + 1) (r (s + 1))).1 ≤ 6 * B := by
      show -(6 * B) ≤ cutZ _ - totalZ 0 _ ∧ cutZ _ - totalZ 0 _ ≤ 6 * B
      cases r (s + 1) <;> simp only [cutZ, cond_true, cond_false] <;> omega
    rw [hpow]
    exact ih (6 * B) _ _ _ (by omega) (fun j => by
      unfold mset
      cases Nat.beq j (s + 1) with
      | true => exact hnew
      | false => have := hm j; show _ ≤ (m j).1 ∧ (m j).1 ≤ _; omega) i
theorem totalZ_map : ∀ (l l' : List (Int × Tok)) (a : Int), l.map (·.1) = l'.map (·.1) → totalZ a l = totalZ a l'
  | [], [], _, _ => rfl
  | x :: l, y :: l', a, h => by
    obtain ⟨h1, h2⟩ := List.cons.inj (show x.1 :: l.map (·.1) = y.1 :: l'.map (·.1) from h)
    rw [totalZ, totalZ, h1]
    exact totalZ_map l l' _ h2
  | [], _ :: _, _, h => by cases h
  | _ :: _, [], _, h => by cases h
theorem rnGo_val (r : Nat → Bool) : ∀ (s : Nat) (m m' : Nat → Int × Tok) (n t n' t' : Nat), (∀ i, (m i).1 = (m' i).1) → ∀ i, ((rnGo r s m n t).1 i).1 = ((rnGo r s m' n' t').1 i).1 := by
  intro s
  induction s with
  | zero => intro m m' n t n' t' h i; exact h i
  | succ s ih =>
    intro m m' n t n' t' h i
    refine ih _ _ _ _ _ _ (fun j => ?_) i
    unfold mset
    cases Nat.beq j (s + 1) with
    | false => exact h j
    | true =>
      show cutZ _ - totalZ 0 _ = cutZ _ - totalZ 0 _
      congr 1
      refine totalZ_map _ _ _ ?_
      unfold rnEl
      split <;> simp [h]
noncomputable def moreZ (r : Nat → Bool) (i : Nat) : Int := ((rnGo r 6 (fun _ => (0, 0)) 0 0).1 i).1
theorem rn_call (C S : Addr) (cs : List (Nat × Tok)) (epc : Nat) (sh : List (Nat × Tok)) (eps : Nat) (b : List Stmt) (e : Env) (n t n1 t1 : Nat) (ks : Tok) (sz : Value) (m : Nat → Int × Tok) (n2 t2 x' : Nat) (fl : List (Nat × Tok)) (ep : Nat) (sl : List (Nat × Tok)) (ep2 : Nat) (fs : Option ((Tok × Value) × (Tok × Value))) (hsh : sh.length ≤ 100) (hsl' : sl.length ≤ 900000)
    (V1 : ((rnX n t C S cs epc b e).at1 ((Wf w b1 b2)).params (rnF (Wf w b1 b2)) (n + 5) (t + 9) 6 (fun _ => (0, t + 2)) none ⟨.ok .next, n1, t1, [(rnX n t C S cs epc b e).fr1 ((Wf w b1 b2)).params (some (ks, sz)), rdO 0, lstO (izA (mL m)) 0, lstO (natA cs) epc], []⟩).Valid (model prog (Wf w b1 b2)) (stW (Wf w b1 b2)))
    (V2 : ((rnY n t n1 t1 C S ks sz m b e).at ((Wf w b1 b2)).params (rnF (Wf w b1 b2)) (n1 + 9) (t1 + 7) 0 7 sh (extEp #[] (natA sh) 0) sh.reverse 0 none ⟨.ok .next, n2, t2, objs ((rnY n t n1 t1 C S ks sz m b e).pre ((Wf w b1 b2)).params x' 0 fl ep sl ep2 fs), []⟩).Valid (model prog (Wf w b1 b2)) (stW (Wf w b1 b2))) :
    (rnC ((Wf w b1 b2)).params (rnF (Wf w b1 b2)) C S cs epc sh eps b e n t n1 t1 ks sz m n2 t2 x' fl ep sl ep2 fs).sp.Valid (model prog (Wf w b1 b2)) (stW (Wf w b1 b2)) := by
  have hsl : sizeLine = 16777216 := rfl
  have rev : ∀ l : List (Nat × Tok), slicePick (natA l) none none (some (-1)) = natA l.reverse := fun l => by
    rw [krv_pick]
    apply Array.ext'
    show (natVs l).reverse = natVs l.reverse
    unfold natVs
    rw [List.map_reverse]
  have W1 := linitV (w := (Wf w b1 b2)) (st := stW (Wf w b1 b2)) n1 S (natA sh) eps (by rw [natA_size]; omega)
  have W2 : (lslS S (n1 + 1) (natA sh) eps .none .none (.int (-1) (t1 + 1)) (natA sh.reverse)).Valid (model prog (Wf w b1 b2)) (stW (Wf w b1 b2)) := lslV S (n1 + 1) (natA sh) eps _ _ _ _ (lo := none) (hi := none) (sp := some (-1)) IsPart.none IsPart.none (IsPart.int _ _) (by simp) (rev sh) (by rw [natA_size]; omega)
  have W3 : (lslS (n1 + 2) n2 (natA sl) ep2 .none .none (.int (-1) (t2 + 1)) (natA sl.reverse)).Valid (model prog (Wf w b1 b2)) (stW (Wf w b1 b2)) := lslV (n1 + 2) n2 (natA sl) ep2 _ _ _ _ (lo := none) (hi := none) (sp := some (-1)) IsPart.none IsPart.none (IsPart.int _ _) (by simp) (rev sl) (by rw [natA_size]; omega)
  refine Con.valid _ 600 58498009818459219843170251340342166659702537533137754251295914552468720592342104444208009415172309600410032198438504789679952463312300899262943414629395899466528232222196473313354399307606952708376896461684678106560846943199048281991716090793481646638236042526741498051078055783289420697358078034480344839375591678979036200960 (all_cons (V1) (all_cons (W1) (all_cons (W2) (all_cons (V2) (all_cons (W3) all_nil))))) rfl ?_
  intro p q
  rcases fs with _ | ⟨⟨kf, vf⟩, ⟨kg, vg⟩⟩ <;> (generalize b1 = c1; generalize b2 = c2; revert c1 c2; refine split2 ?_ ?_ ?_ ?_ <;> kernel_rfl)
/-- _law_runs whole -/
theorem runsV (C S : Addr) (cs : List (Nat × Tok)) (epc : Nat) (sh : List (Nat × Tok)) (eps : Nat) (b : List Stmt) (e : Env) (n t : Nat) (hsh : sh.length ≤ 100) : ∃ (n' t' T A B : Nat) (fl : List (Nat × Tok)) (ep : Nat) (sl : List (Nat × Tok)),
    fl.map (·.1) = sh.map (·.1) ++ runsA (moreZ fun i => cs.any fun c => c.1 == i) 0 7 ∧ sl.map (·.1) = ((sh.map (·.1)).reverse ++ runsB (moreZ fun i => cs.any fun c => c.1 == i) 0 7).reverse ∧
    (Mine.mk (.call (.ref 206) ⟨[.ref C, .ref S], []⟩) none (lawCds b e) n t [(C, lstO (natA cs) epc), (S, lstO (natA sh) eps)] ⟨.ok (.ret (.ref T)), n', t', [lstO (natA cs) epc, lstO (natA sh) eps], [(T, tupO [.ref A, .ref B]), (A, lstO (natA fl) ep), (B, lstO (natA sl) 0)]⟩).Valid (model prog (Wf w b1 b2)) (stW (Wf w b1 b2)) := by
  obtain ⟨⟨ks, sz⟩, V1⟩ := rn_loop1 w b1 b2 (rnX n t C S cs epc b e) 6 (by decide) 1 (fun _ => (0, t + 2)) none (n + 5) (t + 9) (by decide) (by decide) (fun i => by simp) (.inl (by decide))
  have hsm := rnGo_small (fun i => cs.any fun c => c.1 == i) 6 1 (fun _ => (0, t + 2)) (n + 5) (t + 9) (by decide) (fun i => by simp)
  have hvl := rnGo_val (fun i => cs.any fun c => c.1 == i) 6 (fun _ => (0, t + 2)) (fun _ => (0, 0)) (n + 5) (t + 9) 0 0 (fun _ => rfl)
  have V1' : ((rnX n t C S cs epc b e).at1 ((Wf w b1 b2)).params (rnF (Wf w b1 b2)) (n + 5) (t + 9) 6 (fun _ => (0, t + 2)) none ⟨.ok .next, (rnGo (fun i => cs.any fun c => c.1 == i) 6 (fun _ => (0, t + 2)) (n + 5) (t + 9)).2.1, (rnGo (fun i => cs.any fun c => c.1 == i) 6 (fun _ => (0, t + 2)) (n + 5) (t + 9)).2.2, [(rnX n t C S cs epc b e).fr1 ((Wf w b1 b2)).params (some (ks, sz)), rdO 0, lstO (izA (mL (rnGo (fun i => cs.any fun c => c.1 == i) 6 (fun _ => (0, t + 2)) (n + 5) (t + 9)).1)) 0, lstO (natA cs) epc], []⟩).Valid (model prog (Wf w b1 b2)) (stW (Wf w b1 b2)) := V1
  generalize rnGo (fun i => cs.any fun c => c.1 == i) 6 (fun _ => (0, t + 2)) (n + 5) (t + 9) = R at V1' hsm hvl
  clear V1
  obtain ⟨m, n1, t1⟩ := R
  have hb : ∀ i, -47000 ≤ (m i).1 ∧ (m i).1 ≤ 47000 := fun i => by
    have this : -((1 : Int) * 6 ^ 6) ≤ (m i).1 ∧ (m i).1 ≤ 1 * 6 ^ 6 := hsm i
    have h6 : (1 : Int) * 6 ^ 6 = 46656 := by decide
    rw [h6] at this
    exact ⟨Int.le_trans (by decide) this.1, Int.le_trans this.2 (by decide)⟩
  obtain ⟨n2, t2, x', fl, ep, sl, ep2, fs, h1, h2, h3, h4, V2⟩ := ry_loop w b1 b2 (rnY n t n1 t1 C S ks sz m b e) (fun c hc => by
    have hc' : c ∈ mL m := hc
    unfold mL at hc'
    simp only [List.mem_cons, List.not_mem_nil, or_false] at hc'
    rcases hc' with h | h | h | h | h | h | h | h <;> (subst h; exact hb _)) (by show 8 ≤ 100; decide) (moreZ fun i => cs.any fun c => c.1 == i) (fun i c hc => by
    have hc' : (mL m)[i]? = some c := hc
    have hi : i < 8 := (List.getElem?_eq_some_iff.mp hc').1
    have : c = m i := by
      unfold mL at hc'
      rcases (show i = 0 ∨ i = 1 ∨ i = 2 ∨ i = 3 ∨ i = 4 ∨ i = 5 ∨ i = 6 ∨ i = 7 by omega) with h | h | h | h | h | h | h | h <;> (subst h; exact (Option.some.inj hc').symm)
    rw [this]
    exact hvl i) 7 0 sh (extEp #[] (natA sh) 0) sh.reverse 0 none (n1 + 9) (t1 + 7) (by show 0 + 7 < 8; decide) (by omega) (by rw [List.length_reverse]; omega)
  refine ⟨n2 + 3, t2 + 2, n2 + 2, n1, n2 + 1, fl, ep, sl.reverse, h1, ?_, rn_call w b1 b2 C S cs epc sh eps b e n t n1 t1 ks sz m n2 t2 x' fl ep sl ep2 fs hsh h4 V1' V2⟩
  rw [List.map_reverse, h2, List.map_reverse]
end
end
end Mine

namespace Mine
section
open PySem PySem.W
/-! the executor with one generator of the run's own -/
inductive GK where
  | none
  | fresh (c : Code)
  | susp (kk : Resume → Sem PySem.Fin) (l : List Value) (c : Code) (p : Pos)
  | run
  | fin
noncomputable def GK.at (g : Nat) (gens : Array GenState) : GK → Prop
  | .none => gens.size = g
  | .fresh c => gens[g]? = some (.fresh c)
  | .susp kk l c p => gens[g]? = some (.suspended kk l c p [] false)
  | .run => gens[g]? = some .running
  | .fin => gens[g]? = some .finished
structure SyG where
  S : Sy
  g : Nat
  k : GK
  rw : List (Code × Sem PySem.Fin)
inductive OutG where
  | ret (r : Result) (S : SyG)
  | yld (v : Value) (l : List Value) (kk : Resume → Sem PySem.Fin) (c : Code) (p : Pos) (S : SyG)
  | stuck (k : Nat)
noncomputable abbrev ExGTy := Code → Option Value → List (Code × Pos) → Sem PySem.Fin → Pos → SyG → OutG
noncomputable def SyG.next (G : SyG) : SyG := { G with S := G.S.next }
noncomputable def SyG.say (G : SyG) (o : Ob) : SyG := { G with S := G.S.say o }
noncomputable def SyG.tell (G : SyG) (o : Ob) : SyG := { G with S := { G.S with obs := o :: G.S.obs } }
noncomputable def SyG.twice (G : SyG) (o o' : Ob) : SyG := { G with S := { G.S with orc := Nat.div G.S.orc 128, obs := o :: o' :: G.S.obs } }
noncomputable def SyG.turn (G : SyG) (k : GK) : SyG := { G with k := k }

noncomputable def exGStep (prog : Program) (P : Params) (st : ST) (ih : ExGTy) (c : Code) (hd : Option Value) (below : List (Code × Pos)) (t : Sem PySem.Fin) (p : Pos) (G : SyG) : OutG :=
  match t with
  | .pure (.done f) => .ret (.ok f) G
  | .pure (.again c') => match Nat.mod G.S.orc 128 with
    | 0 => ih c' hd below (D c') p (G.say (.bool c'.quiet true))
    | 1 => (match G.k with
      | .none => .stuck 20
      | k => match useSpec hd below c' { G.S with obs := .bool c'.quiet true :: G.S.obs } .ret with
        | .ret r S => .ret r ⟨S, G.g, k, G.rw⟩
        | .stuck n => .stuck n)
    | _ + 2 => match G.rw with
      | x :: rw => ih c' hd below x.2 p ({ G with rw := rw }.twice (.bool c'.quiet true) (.code c' x.1))
      | [] => .stuck 29
  | .raise e => .ret (.error e) G
  | .rule _ k => ih c hd below (k ()) p G
  | .at q k => ih c hd below (k ()) q G
  | .point _ k => ih c hd below (k ()) p G
  | .ask k => ih c hd below (k ⟨prog, P⟩) p G
  | .load a _ k => match Nat.mod G.S.orc 128 with
    | 0 => (match st.get a with
      | some o => ih c hd below (k o) p G.next
      | none => .stuck 1)
    | i + 1 => (match G.S.T.get i with
      | [x] => ih c hd below (k x.2) p (G.say (.addr a x.1))
      | _ => .stuck 2)
  | .loadIfAlive a k => match Nat.mod G.S.orc 128 with
    | 0 => (match st.get a with
      | some o => ih c hd below (k (some o)) p G.next
      | none => .stuck 1)
    | i + 1 => (match G.S.T.get i with
      | [x] => ih c hd below (k (some x.2)) p (G.say (.addr a x.1))
      | _ => .stuck 2)
  | .update a _ f k => match Nat.mod G.S.orc 128 with
    | 0 => .stuck 5
    | i + 1 => (match G.S.T.get i with
      | [x] => ih c hd below (k ()) p { G with S := { G.S with T := G.S.T.put [(x.1, f x.2)] i, orc := Nat.div G.S.orc 128, obs := .addr a x.1 :: .bool (f x.2).isFreed false :: G.S.obs } }
      | _ => .stuck 2)
  | .alloc o k => ih c hd below (k G.S.n) p { G with S := { G.S with T := G.S.T.ins [(G.S.n, o)] G.S.m, m := Nat.succ G.S.m, n := Nat.succ G.S.n, obs := .bool o.isFreed false :: G.S.obs } }
  | .fresh k => ih c hd below (k G.S.t) p { G with S := { G.S with t := Nat.succ G.S.t } }
  | .handled own k => match own with
    | true => match hd with
      | none => ih c hd below (k none) p G
      | some _ => .stuck 21
    | false => ih c hd below (k hd) p G
  | .stack k => ih c hd below (k ((c, p) :: below)) p G
  | .call c' h _ _ k => match Nat.mod G.S.orc 128 with
    | 0 => (match ih c' (markOver h hd none) ((c, p) :: below) (D c') p G.next with
      | .ret r G => ih c hd below (k r) p G
      | .yld .. => .stuck 22
      | .stuck n => .stuck n)
    | _ + 1 => match G.k with
      | .none => .stuck 20
      | x => match useSpec (markOver h hd none) ((c, p) :: below) c' G.S .ret with
        | .ret r S => ih c hd below (k r) p ⟨S, G.g, x, G.rw⟩
        | .stuck n => .stuck n
  | .newGen c' k => match G.k with
    | .none => ih c hd below (k G.g) p (G.turn (.fresh c'))
    | _ => .stuck 23
  | .genState g k => match G.k with
    | .none => .stuck 24
    | .fresh c' => ih c hd below (k (.fresh, some [(c', default)])) p (G.tell (.nat g G.g))
    | .susp _ _ c' p' => ih c hd below (k (.suspended, some [(c', p')])) p (G.tell (.nat g G.g))
    | .run => ih c hd below (k (.running, none)) p (G.tell (.nat g G.g))
    | .fin => ih c hd below (k (.finished, none)) p (G.tell (.nat g G.g))
  | .resume g r _ k => match hd with
    | some _ => .stuck 25
    | none => match G.k with
      | .fresh c' => match r with
        | .send .none => (match ih c' none ((c, p) :: below) (D c') p ((G.turn .run).tell (.nat g G.g)) with
          | .ret r₁ G₁ => (match G₁.k with
            | .run => ih c none below (k (End.ret r₁).result) p (G₁.turn .fin)
            | _ => .stuck 26)
          | .yld v l kk c₁ p₁ G₁ => (match G₁.k with
            | .run => ih c none below (k (.yielded v)) p (G₁.turn (.susp kk l c₁ p₁))
            | _ => .stuck 26)
          | .stuck n => .stuck n)
        | _ => .stuck 27
      | .susp kk₀ _ c₀ p₀ => (match ih c₀ none ((c, p) :: below) (kk₀ r) p₀ ((G.turn .run).tell (.nat g G.g)) with
          | .ret r₁ G₁ => (match G₁.k with
            | .run => ih c none below (k (End.ret r₁).result) p (G₁.turn .fin)
            | _ => .stuck 26)
          | .yld v l kk c₁ p₁ G₁ => (match G₁.k with
            | .run => ih c none below (k (.yielded v)) p (G₁.turn (.susp kk l c₁ p₁))
            | _ => .stuck 26)
          | .stuck n => .stuck n)
      | .fin => ih c none below (k .finished) p (G.tell (.nat g G.g))
      | _ => .stuck 28
  | .yield v g₀ l kk => .yld v l kk c p (G.tell (.bool g₀ false))
  | _ => .stuck 6

noncomputable def exG (prog : Program) (P : Params) (st : ST) (fuel : Nat) : ExGTy :=
  @Nat.rec (fun _ => ExGTy) (fun _ _ _ _ _ _ => .stuck 40) (fun _ ih => exGStep prog P st ih) fuel
theorem exG_succ (prog : Program) (P : Params) (st : ST) (n : Nat) : exG prog P st (n + 1) = exGStep prog P st (exG prog P st n) := rfl

/-! soundness -/
/-- as GLe, but the run's own generator may turn -/
noncomputable def GX (g : Nat) (g' g0 : Array GenState) : Prop := g0.size ≤ g'.size ∧ (∀ i, i < g0.size → i ≠ g → g'[i]? = g0[i]?) ∧ (PyProof.Rows.AllBare g0 → PyProof.Rows.AllBare g')
theorem GX.refl (g : Nat) (a : Array GenState) : GX g a a := ⟨Nat.le_refl _, fun _ _ _ => rfl, fun x => x⟩
theorem GX.trans {g : Nat} {a b c : Array GenState} (h : GX g c b) (k : GX g b a) : GX g c a :=
  ⟨Nat.le_trans k.1 h.1, fun i hi hg => (h.2.1 i (Nat.lt_of_lt_of_le hi k.1) hg).trans (k.2.1 i hi hg), fun x => h.2.2 (k.2.2 x)⟩
theorem GLe.gx {g : Nat} {a b : Array GenState} (h : GLe a b) : GX g a b := ⟨h.1, fun i hi _ => h.2.1 i hi, h.2.2⟩
theorem GX.set {g : Nat} {a : Array GenState} {x : GenState} (hx : x.bare = true) : GX g (a.setIfInBounds g x) a := by
  refine ⟨by simp, fun i _ hg => ?_, fun hb y hy => ?_⟩
  · rw [Array.getElem?_setIfInBounds_ne (Ne.symm hg)]
  · rcases Array.mem_or_eq_of_mem_setIfInBounds hy with h | h
    · exact hb y h
    · rw [h]; exact hx
theorem GX.push {g : Nat} {a : Array GenState} {x : GenState} (hx : x.bare = true) : GX g (a.push x) a := by
  refine ⟨by simp, fun i hi _ => ?_, fun hb => hb.push hx⟩
  rw [Array.getElem?_push_lt hi, Array.getElem?_eq_getElem hi]
structure FraG (g : Nat) (A : List Addr) (s s' : Shared) : Prop where
  keep : ∀ b, b < s.heap.objs.size → b ∉ A → s'.heap.get? b = s.heap.get? b
  mono : s.heap.objs.size ≤ s'.heap.objs.size
  gens : GX g s'.gens s.gens
  drawn : s'.drawn = s.drawn
  os : s'.os = s.os
  life : s'.heap.life = s.heap.life
structure GoG (g : Nat) (st : ST) (T : PT) (s : Shared) (T' : PT) (n' t' : Nat) (k : GK) (s' : Shared) : Prop where
  inv : Inv st T' n' t' s'
  gk : k.at g s'.gens
  fra : FraG g (adr T.toL) s s'
  sub : ∀ q ∈ T'.toL, q.1 ∈ adr T.toL ∨ s.heap.objs.size ≤ q.1
theorem GoG.refl {g : Nat} {st : ST} {T : PT} {n t : Nat} {k : GK} {s : Shared} (I : Inv st T n t s) (hk : k.at g s.gens) : GoG g st T s T n t k s :=
  ⟨I, hk, ⟨fun _ _ _ => rfl, Nat.le_refl _, GX.refl _ _, rfl, rfl, rfl⟩, fun q hq => .inl (List.mem_map.mpr ⟨q, hq, rfl⟩)⟩
theorem Go.g {g : Nat} {st : ST} {T T' : PT} {n t : Nat} {k : GK} {s s' : Shared} (h : Go st T s T' n t s') (hk : k.at g s'.gens) : GoG g st T s T' n t k s' :=
  ⟨h.inv, hk, ⟨h.fra.keep, h.fra.mono, h.fra.gens.gx, h.fra.drawn, h.fra.os, h.fra.life⟩, h.sub⟩
theorem GoG.trans {g : Nat} {st : ST} {T T₁ T₂ : PT} {n₁ t₁ n₂ t₂ : Nat} {k₁ k₂ : GK} {s s₁ s₂ : Shared} (a : GoG g st T s T₁ n₁ t₁ k₁ s₁) (b : GoG g st T₁ s₁ T₂ n₂ t₂ k₂ s₂) : GoG g st T s T₂ n₂ t₂ k₂ s₂ := by
  have key : ∀ x, x ∈ adr T₁.toL → x ∈ adr T.toL ∨ s.heap.objs.size ≤ x := by
    intro x hx
    obtain ⟨q, hq, rfl⟩ := List.mem_map.mp hx
    exact a.sub q hq
  refine ⟨b.inv, b.gk, ⟨fun x hx hA => ?_, Nat.le_trans a.fra.mono b.fra.mono, b.fra.gens.trans a.fra.gens, b.fra.drawn.trans a.fra.drawn, b.fra.os.trans a.fra.os, b.fra.life.trans a.fra.life⟩, fun q hq => ?_⟩
  · rw [b.fra.keep x (Nat.lt_of_lt_of_le hx a.fra.mono), a.fra.keep x hx hA]
    intro hm
    rcases key x hm with y | y
    · exact hA y
    · exact absurd hx (Nat.not_lt.mpr y)
  · rcases b.sub q hq with y | y
    · exact key _ y
    · exact .inr (Nat.le_trans a.fra.mono y)
/-- a change of the generators alone -/
theorem GoG.gen {g : Nat} {st : ST} {T : PT} {n t : Nat} {k : GK} {s : Shared} {gens : Array GenState} (I : Inv st T n t s) (hx : GX g gens s.gens) (hk : k.at g gens) : GoG g st T s T n t k { s with gens := gens } :=
  ⟨⟨I.size, I.toks, I.own, I.nodup, I.stat, I.apart⟩, hk, ⟨fun _ _ _ => rfl, Nat.le_refl _, hx, rfl, rfl, rfl⟩, fun q hq => .inl (List.mem_map.mpr ⟨q, hq, rfl⟩)⟩
theorem GK.at_keep {g : Nat} {k : GK} {a b : Array GenState} (h : GLe b a) (hk : k.at g a) (hn : k ≠ .none) : k.at g b := by
  have key : ∀ x : GenState, a[g]? = some x → b[g]? = some x := fun x hx => by
    have hlt : g < a.size := (Array.getElem?_eq_some_iff.mp hx).1
    rw [h.2.1 g hlt]; exact hx
  cases k with
  | none => exact absurd rfl hn
  | fresh c => exact key _ hk
  | susp kk l c p => exact key _ hk
  | run => exact key _ hk
  | fin => exact key _ hk
theorem GK.lt {g : Nat} {k : GK} {a : Array GenState} (hk : k.at g a) (hn : k ≠ .none) : g < a.size := by
  cases k with
  | none => exact absurd rfl hn
  | fresh c => exact (Array.getElem?_eq_some_iff.mp hk).1
  | susp kk l c p => exact (Array.getElem?_eq_some_iff.mp hk).1
  | run => exact (Array.getElem?_eq_some_iff.mp hk).1
  | fin => exact (Array.getElem?_eq_some_iff.mp hk).1
noncomputable def OutG.fin : OutG → Option (End × SyG)
  | .ret r S => some (.ret r, S)
  | .yld v l kk c p S => some (.susp v false l kk c p [], S)
  | .stuck _ => none
theorem OutG.fin_none {n : Nat} {x : End × SyG} (h : (OutG.stuck n).fin = some x) : False := by cases h
end
end Mine

namespace Mine
section
open PySem PySem.W
theorem set_at {g : Nat} {a : Array GenState} {x : GenState} (h : g < a.size) : (a.setIfInBounds g x)[g]? = some x := by
  rw [Array.getElem?_setIfInBounds_self_of_lt h]
/-- what a wake leaves -/
theorem GoG.set {g : Nat} {st : ST} {T : PT} {n t : Nat} {k k' : GK} {s : Shared} {x : GenState} (I : Inv st T n t s) (hk : k.at g s.gens) (hn : k ≠ .none) (hb : x.bare = true) (hk' : ∀ a : Array GenState, a[g]? = some x → k'.at g a) :
    GoG g st T s T n t k' (s.setGen g x) :=
  GoG.gen I (GX.set hb) (hk' _ (set_at (GK.lt hk hn)))

noncomputable abbrev RunG (w : World) (prog : Program) (st : ST) (c : Code) (hd : Option Value) (below : List (Code × Pos)) (t : Sem PySem.Fin) (p : Pos) (G : SyG) (e : End) (G' : SyG) : Prop :=
  ∀ s, Inv st G.S.T G.S.n G.S.t s → G.k.at G.g s.gens → ∃ s', Runs (model prog w) ⟨c, hd, hd, below, none⟩ p t [] s e s' ∧ GoG G.g st G.S.T s G'.S.T G'.S.n G'.S.t G'.k s'
noncomputable abbrev SoundG (w : World) (prog : Program) (st : ST) (c : Code) (hd : Option Value) (below : List (Code × Pos)) (t : Sem PySem.Fin) (p : Pos) (G : SyG) (e : End) (G' : SyG) : Prop :=
  (∀ ob ∈ G.S.obs, ob ∈ G'.S.obs) ∧ ((∀ x ∈ G'.S.ss, x ∈ G.S.ss) ∧ ∀ x ∈ G'.rw, x ∈ G.rw) ∧ G'.g = G.g ∧
      ((∀ ob ∈ G'.S.obs, ob.ok) → RunG w prog st c hd below t p G e G')
/-- THE EXECUTOR WITH A GENERATOR IS SOUND -/
theorem exG_sound {w : World} {prog : Program} {st : ST} : ∀ (fuel : Nat) (c : Code) (hd : Option Value) (below : List (Code × Pos)) (t : Sem PySem.Fin) (p : Pos) (G : SyG) (o : OutG) (e : End) (G' : SyG),
    exG prog w.params st fuel c hd below t p G = o → o.fin = some (e, G') → (∀ x ∈ G.S.ss, x.Valid (model prog w) st) ∧ (∀ x ∈ G.rw, denote table x.1 = x.2) →
    SoundG w prog st c hd below t p G e G' := by
  intro fuel
  induction fuel with
  | zero => intro c hd below t p G o e G' h hf; subst h; cases hf
  | succ fuel ih =>
    intro c hd below t p G o e G' h hf V
    rw [exG_succ] at h
    cases t with
    | pure fin =>
      cases fin with
      | done f =>
        subst h; cases hf
        exact ⟨fun _ x => x, ⟨fun _ x => x, fun _ x => x⟩, rfl, fun _ s I hk => ⟨s, .done, GoG.refl I hk⟩⟩
      | again c' =>
        delta exGStep at h; dsimp only at h
        split at h
        · obtain ⟨h1, h2, hg, h3⟩ := ih _ _ _ _ _ _ _ _ _ h hf V
          refine ⟨fun o ho => h1 o (List.mem_cons_of_mem _ ho), h2, hg, fun ok s I hk => ?_⟩
          obtain ⟨s', hr, g⟩ := h3 ok s I hk
          have hq : c'.quiet = true := ok _ (h1 _ (List.mem_cons_self ..))
          refine ⟨s', .again hq ?_, g⟩
          show Runs _ _ _ (denote table c') _ _ _ _
          rw [D_eq]; exact hr
        · split at h
          · subst h; cases hf
          · rename_i k0 hne
            split at h
            · rename_i r₁ S₁ hu
              subst h; cases hf
              obtain ⟨r₂, S₂, h1, h2, h3, h4⟩ := useSpec_sound (M := model prog w) (st := st) (S := { G.S with obs := .bool c'.quiet true :: G.S.obs }) V.1 hu
              cases h1
              refine ⟨fun o ho => h2 o (List.mem_cons_of_mem _ ho), ⟨h3, fun _ x => x⟩, rfl, fun ok s I hk => ?_⟩
              obtain ⟨s', hr, g⟩ := h4 ok s I
              exact ⟨s', .again (ok _ (h2 _ (List.mem_cons_self ..))) hr, g.g (GK.at_keep g.fra.gens hk hne)⟩
            · subst h; cases hf
        · split at h
          · rename_i x rw hrw
            obtain ⟨h1, h2, hg, h3⟩ := ih _ _ _ _ _ _ _ _ _ h hf ⟨V.1, fun y hy => V.2 y (by rw [hrw]; exact List.mem_cons_of_mem _ hy)⟩
            refine ⟨fun o ho => h1 o (List.mem_cons_of_mem _ (List.mem_cons_of_mem _ ho)), ⟨h2.1, fun y hy => by rw [hrw]; exact List.mem_cons_of_mem _ (h2.2 y hy)⟩, hg, fun ok s I hk => ?_⟩
            obtain ⟨s', hr, g⟩ := h3 ok s I hk
            have hq : c'.quiet = true := ok _ (h1 _ (List.mem_cons_self ..))
            have hc : c' = x.1 := ok _ (h1 _ (List.mem_cons_of_mem _ (List.mem_cons_self ..)))
            refine ⟨s', .again hq ?_, g⟩
            have hx : denote table x.1 = x.2 := V.2 x (by rw [hrw]; exact List.mem_cons_self ..)
            show Runs _ _ _ (denote table c') _ _ _ _
            have hden : denote table c' = x.2 := by rw [hc]; exact hx
            rw [hden]
            exact hr
          · subst h; cases hf
    | raise x =>
      subst h; cases hf
      exact ⟨fun _ x => x, ⟨fun _ x => x, fun _ x => x⟩, rfl, fun _ s I hk => ⟨s, .raise, GoG.refl I hk⟩⟩
    | rule tag k =>
      obtain ⟨h1, h2, hg, h3⟩ := ih _ _ _ _ _ _ _ _ _ h hf V
      exact ⟨h1, h2, hg, fun ok s I hk => let ⟨s', hr, g⟩ := h3 ok s I hk; ⟨s', .rule hr, g⟩⟩
    | «at» q k =>
      obtain ⟨h1, h2, hg, h3⟩ := ih _ _ _ _ _ _ _ _ _ h hf V
      exact ⟨h1, h2, hg, fun ok s I hk => let ⟨s', hr, g⟩ := h3 ok s I hk; ⟨s', .at hr, g⟩⟩
    | point l k =>
      obtain ⟨h1, h2, hg, h3⟩ := ih _ _ _ _ _ _ _ _ _ h hf V
      exact ⟨h1, h2, hg, fun ok s I hk => let ⟨s', hr, g⟩ := h3 ok s I hk; ⟨s', .point hr, g⟩⟩
    | ask k =>
      obtain ⟨h1, h2, hg, h3⟩ := ih _ _ _ _ _ _ _ _ _ h hf V
      exact ⟨h1, h2, hg, fun ok s I hk => let ⟨s', hr, g⟩ := h3 ok s I hk; ⟨s', .ask hr, g⟩⟩
    | load a q k =>
      delta exGStep at h; dsimp only at h
      split at h
      · split at h
        · rename_i ob ho
          obtain ⟨h1, h2, hg, h3⟩ := ih _ _ _ _ _ _ _ _ _ h hf V
          exact ⟨h1, h2, hg, fun ok s I hk => let ⟨s', hr, g⟩ := h3 ok s I hk; ⟨s', .load (I.stat a ob ho) hr, g⟩⟩
        · subst h; cases hf
      · split at h
        · rename_i x hx
          obtain ⟨h1, h2, hg, h3⟩ := ih _ _ _ _ _ _ _ _ _ h hf V
          refine ⟨fun ob hob => h1 ob (List.mem_cons_of_mem _ hob), h2, hg, fun ok s I hk => ?_⟩
          obtain ⟨s', hr, g⟩ := h3 ok s I hk
          have ha : a = x.1 := ok _ (h1 _ (List.mem_cons_self ..))
          obtain ⟨l₁, l₂, e', _⟩ := PT.at_some hx
          exact ⟨s', .load (by rw [ha]; exact I.own x (by rw [e']; simp)) hr, g⟩
        · subst h; cases hf
    | loadIfAlive a k =>
      delta exGStep at h; dsimp only at h
      split at h
      · split at h
        · rename_i ob ho
          obtain ⟨h1, h2, hg, h3⟩ := ih _ _ _ _ _ _ _ _ _ h hf V
          refine ⟨h1, h2, hg, fun ok s I hk => ?_⟩
          obtain ⟨s', hr, g⟩ := h3 ok s I hk
          exact ⟨s', .loadIfAlive (by rw [I.stat a ob ho]; exact hr), g⟩
        · subst h; cases hf
      · split at h
        · rename_i x hx
          obtain ⟨h1, h2, hg, h3⟩ := ih _ _ _ _ _ _ _ _ _ h hf V
          refine ⟨fun ob hob => h1 ob (List.mem_cons_of_mem _ hob), h2, hg, fun ok s I hk => ?_⟩
          obtain ⟨s', hr, g⟩ := h3 ok s I hk
          have ha : a = x.1 := ok _ (h1 _ (List.mem_cons_self ..))
          obtain ⟨l₁, l₂, e', _⟩ := PT.at_some hx
          exact ⟨s', .loadIfAlive (by rw [ha, I.own x (by rw [e']; simp)]; exact hr), g⟩
        · subst h; cases hf
    | update a q f k =>
      delta exGStep at h; dsimp only at h
      split at h
      · subst h; cases hf
      · split at h
        · rename_i x hx
          obtain ⟨h1, h2, hg, h3⟩ := ih _ _ _ _ _ _ _ _ _ h hf V
          refine ⟨fun ob hob => h1 ob (List.mem_cons_of_mem _ (List.mem_cons_of_mem _ hob)), h2, hg, fun ok s I hk => ?_⟩
          have ha : a = x.1 := ok _ (h1 _ (List.mem_cons_self ..))
          have hfr : (f x.2).isFreed = false := ok _ (h1 _ (List.mem_cons_of_mem _ (List.mem_cons_self ..)))
          have g1 := go_update I hx f hfr
          obtain ⟨s', hr, g⟩ := h3 ok _ g1.inv hk
          obtain ⟨l₁, l₂, e', _⟩ := PT.at_some hx
          subst ha
          exact ⟨s', .update (by rw [I.own x (by rw [e']; simp)]; rfl) hr, (g1.g (k := G.k) hk).trans g⟩
        · subst h; cases hf
    | alloc ob k =>
      obtain ⟨h1, h2, hg, h3⟩ := ih _ _ _ _ _ _ _ _ _ h hf V
      refine ⟨fun o' ho => h1 o' (List.mem_cons_of_mem _ ho), h2, hg, fun ok s I hk => ?_⟩
      have hfr : ob.isFreed = false := ok _ (h1 _ (List.mem_cons_self ..))
      have g1 := go_alloc I ob hfr G.S.m
      obtain ⟨s', hr, g⟩ := h3 ok _ g1.inv hk
      exact ⟨s', .alloc (by rw [I.size]; exact hr), (g1.g (k := G.k) hk).trans g⟩
    | fresh k =>
      obtain ⟨h1, h2, hg, h3⟩ := ih _ _ _ _ _ _ _ _ _ h hf V
      refine ⟨h1, h2, hg, fun ok s I hk => ?_⟩
      have I' : Inv st G.S.T G.S.n (Nat.succ G.S.t) { s with toks := s.toks + 1 } := ⟨I.size, by show s.toks + 1 = _; rw [I.toks], I.own, I.nodup, I.stat, I.apart⟩
      obtain ⟨s', hr, g⟩ := h3 ok _ I' hk
      exact ⟨s', .fresh (by rw [I.toks]; rw [I.toks] at hr; exact hr), ⟨g.inv, g.gk, ⟨g.fra.keep, g.fra.mono, g.fra.gens, g.fra.drawn, g.fra.os, g.fra.life⟩, g.sub⟩⟩
    | handled own k =>
      delta exGStep at h; dsimp only at h
      split at h
      · split at h
        · obtain ⟨h1, h2, hg, h3⟩ := ih _ _ _ _ _ _ _ _ _ h hf V
          exact ⟨h1, h2, hg, fun ok s I hk => let ⟨s', hr, g⟩ := h3 ok s I hk; ⟨s', .handled hr, g⟩⟩
        · subst h; cases hf
      · obtain ⟨h1, h2, hg, h3⟩ := ih _ _ _ _ _ _ _ _ _ h hf V
        exact ⟨h1, h2, hg, fun ok s I hk => let ⟨s', hr, g⟩ := h3 ok s I hk; ⟨s', .handled hr, g⟩⟩
    | stack k =>
      obtain ⟨h1, h2, hg, h3⟩ := ih _ _ _ _ _ _ _ _ _ h hf V
      exact ⟨h1, h2, hg, fun ok s I hk => let ⟨s', hr, g⟩ := h3 ok s I hk; ⟨s', .stack hr, g⟩⟩
    | call c' m gd l k =>
      delta exGStep at h; dsimp only at h
      split at h
      · split at h
        · rename_i r₁ G₁ hs
          obtain ⟨h1, h2, hg1, h3⟩ := ih _ _ _ _ _ _ _ _ _ hs rfl V
          obtain ⟨h4, h5, hg2, h6⟩ := ih _ _ _ _ _ _ _ _ _ h hf ⟨fun x hx => V.1 x (h2.1 x hx), fun x hx => V.2 x (h2.2 x hx)⟩
          have hg1' : G₁.g = G.g := hg1
          refine ⟨fun o ho => h4 o (h1 o ho), ⟨fun x hx => h2.1 x (h5.1 x hx), fun x hx => h2.2 x (h5.2 x hx)⟩, hg2.trans hg1', fun ok s I hk => ?_⟩
          obtain ⟨s₁, hr1, g1⟩ := h3 (fun o ho => ok o (h4 o ho)) s I hk
          obtain ⟨s', hr, g2⟩ := h6 ok s₁ g1.inv (by rw [hg1']; exact g1.gk)
          rw [hg1'] at g2
          refine ⟨s', .call (r := r₁) (s₁ := s₁) ?_ hr, g1.trans g2⟩
          show Runs _ _ _ (denote table c') _ _ _ _
          rw [D_eq]; exact hr1
        · subst h; cases hf
        · subst h; cases hf
      · split at h
        · subst h; cases hf
        · rename_i k0 hne
          split at h
          · rename_i r₁ S₁ hu
            obtain ⟨r₂, S₂, h1, h2, h3, h4⟩ := useSpec_sound (M := model prog w) (st := st) V.1 hu
            cases h1
            obtain ⟨h5, h6, hg, h7⟩ := ih _ _ _ _ _ _ _ _ _ h hf ⟨fun x hx => V.1 x (h3 x hx), V.2⟩
            refine ⟨fun o ho => h5 o (h2 o ho), ⟨fun x hx => h3 x (h6.1 x hx), h6.2⟩, hg, fun ok s I hk => ?_⟩
            obtain ⟨s₁, hr1, g1⟩ := h4 (fun o ho => ok o (h5 o ho)) s I
            have g1' := g1.g (GK.at_keep g1.fra.gens hk hne)
            obtain ⟨s', hr, g2⟩ := h7 ok s₁ g1'.inv g1'.gk
            exact ⟨s', .call (r := r₁) (s₁ := s₁) hr1 hr, g1'.trans g2⟩
          · subst h; cases hf
    | newGen c' k =>
      delta exGStep at h; dsimp only at h
      split at h
      · rename_i hn
        obtain ⟨h1, h2, hg, h3⟩ := ih _ _ _ _ _ _ _ _ _ h hf V
        refine ⟨h1, h2, hg, fun ok s I hk => ?_⟩
        rw [hn] at hk
        have hk' : s.gens.size = G.g := hk
        have g0 : GoG G.g st G.S.T s G.S.T G.S.n G.S.t (.fresh c') { s with gens := s.gens.push (.fresh c') } := GoG.gen I (GX.push rfl) (by
          show (s.gens.push (.fresh c'))[G.g]? = _
          rw [← hk', Array.getElem?_push_size])
        obtain ⟨s', hr, g⟩ := h3 ok _ g0.inv g0.gk
        exact ⟨s', .newGen (by rw [hk']; exact hr), g0.trans g⟩
      · subst h; cases hf
    | genState i k =>
      delta exGStep at h; dsimp only at h
      split at h
      · subst h; cases hf
      all_goals
        rename_i hn
        obtain ⟨h1, h2, hg, h3⟩ := ih _ _ _ _ _ _ _ _ _ h hf V
        refine ⟨fun ob hob => h1 ob (List.mem_cons_of_mem _ hob), h2, hg, fun ok s I hk => ?_⟩
        have hi : i = G.g := ok _ (h1 _ (List.mem_cons_self ..))
        subst hi
        obtain ⟨s', hr, g⟩ := h3 ok s I hk
        rw [hn] at hk
        exact ⟨s', .genState hk hr, g⟩
    | resume i r l k =>
      delta exGStep at h; dsimp only at h
      split at h
      · subst h; cases hf
      · split at h
        · rename_i c' hn
          split at h
          · split at h
            · rename_i r₁ G₁ hs
              split at h
              · rename_i hn1
                obtain ⟨h1, h2, hg1, h3⟩ := ih _ _ _ _ _ _ _ _ _ hs rfl V
                obtain ⟨h4, h5, hg2, h6⟩ := ih _ _ _ _ _ _ _ _ _ h hf ⟨fun x hx => V.1 x (h2.1 x hx), fun x hx => V.2 x (h2.2 x hx)⟩
                have hg1' : G₁.g = G.g := hg1
                refine ⟨fun o ho => h4 o (h1 o (List.mem_cons_of_mem _ ho)), ⟨fun x hx => h2.1 x (h5.1 x hx), fun x hx => h2.2 x (h5.2 x hx)⟩, hg2.trans hg1', fun ok s I hk => ?_⟩
                have hi : i = G.g := ok _ (h4 _ (h1 _ (List.mem_cons_self ..)))
                subst hi
                rw [hn] at hk
                have g0 := GoG.set (k' := .run) (x := .running) I hk (by simp) rfl (fun a ha => ha)
                obtain ⟨s₁, hr1, g1⟩ := h3 (fun o ho => ok o (h4 o ho)) _ g0.inv g0.gk
                have gk1 := g1.gk
                rw [hn1] at gk1
                have g2 := GoG.set (k' := .fin) (x := .finished) g1.inv gk1 (by simp) rfl (fun a ha => ha)
                obtain ⟨s', hr, g3⟩ := h6 ok _ g2.inv (by rw [show (G₁.turn .fin).g = G.g from hg1']; exact g2.gk)
                rw [show (G₁.turn .fin).g = G.g from hg1'] at g3
                refine ⟨s', .resumeFresh (e₁ := .ret r₁) (s₁ := s₁) hk ?_ rfl hr, ((g0.trans g1).trans g2).trans g3⟩
                show Runs _ _ _ (denote table c') _ _ _ _
                rw [D_eq]; exact hr1
              · subst h; cases hf
            · rename_i v l₁ kk c₁ p₁ G₁ hs
              split at h
              · rename_i hn1
                obtain ⟨h1, h2, hg1, h3⟩ := ih _ _ _ _ _ _ _ _ _ hs rfl V
                obtain ⟨h4, h5, hg2, h6⟩ := ih _ _ _ _ _ _ _ _ _ h hf ⟨fun x hx => V.1 x (h2.1 x hx), fun x hx => V.2 x (h2.2 x hx)⟩
                have hg1' : G₁.g = G.g := hg1
                refine ⟨fun o ho => h4 o (h1 o (List.mem_cons_of_mem _ ho)), ⟨fun x hx => h2.1 x (h5.1 x hx), fun x hx => h2.2 x (h5.2 x hx)⟩, hg2.trans hg1', fun ok s I hk => ?_⟩
                have hi : i = G.g := ok _ (h4 _ (h1 _ (List.mem_cons_self ..)))
                subst hi
                rw [hn] at hk
                have g0 := GoG.set (k' := .run) (x := .running) I hk (by simp) rfl (fun a ha => ha)
                obtain ⟨s₁, hr1, g1⟩ := h3 (fun o ho => ok o (h4 o ho)) _ g0.inv g0.gk
                have gk1 := g1.gk
                rw [hn1] at gk1
                have g2 := GoG.set (k' := .susp kk l₁ c₁ p₁) (x := .suspended kk l₁ c₁ p₁ [] false) g1.inv gk1 (by simp) rfl (fun a ha => ha)
                obtain ⟨s', hr, g3⟩ := h6 ok _ g2.inv (by rw [show (G₁.turn (.susp kk l₁ c₁ p₁)).g = G.g from hg1']; exact g2.gk)
                rw [show (G₁.turn (.susp kk l₁ c₁ p₁)).g = G.g from hg1'] at g3
                refine ⟨s', .resumeFresh (e₁ := .susp v false l₁ kk c₁ p₁ []) (s₁ := s₁) hk ?_ rfl hr, ((g0.trans g1).trans g2).trans g3⟩
                show Runs _ _ _ (denote table c') _ _ _ _
                rw [D_eq]; exact hr1
              · subst h; cases hf
            · subst h; cases hf
          · subst h; cases hf
        · rename_i kk₀ l₀ c₀ p₀ hn
          split at h
          · rename_i r₁ G₁ hs
            split at h
            · rename_i hn1
              obtain ⟨h1, h2, hg1, h3⟩ := ih _ _ _ _ _ _ _ _ _ hs rfl V
              obtain ⟨h4, h5, hg2, h6⟩ := ih _ _ _ _ _ _ _ _ _ h hf ⟨fun x hx => V.1 x (h2.1 x hx), fun x hx => V.2 x (h2.2 x hx)⟩
              have hg1' : G₁.g = G.g := hg1
              refine ⟨fun o ho => h4 o (h1 o (List.mem_cons_of_mem _ ho)), ⟨fun x hx => h2.1 x (h5.1 x hx), fun x hx => h2.2 x (h5.2 x hx)⟩, hg2.trans hg1', fun ok s I hk => ?_⟩
              have hi : i = G.g := ok _ (h4 _ (h1 _ (List.mem_cons_self ..)))
              subst hi
              rw [hn] at hk
              have g0 := GoG.set (k' := .run) (x := .running) I hk (by simp) rfl (fun a ha => ha)
              obtain ⟨s₁, hr1, g1⟩ := h3 (fun o ho => ok o (h4 o ho)) _ g0.inv g0.gk
              have gk1 := g1.gk
              rw [hn1] at gk1
              have g2 := GoG.set (k' := .fin) (x := .finished) g1.inv gk1 (by simp) rfl (fun a ha => ha)
              obtain ⟨s', hr, g3⟩ := h6 ok _ g2.inv (by rw [show (G₁.turn .fin).g = G.g from hg1']; exact g2.gk)
              rw [show (G₁.turn .fin).g = G.g from hg1'] at g3
              exact ⟨s', .resumeSuspended (e₁ := .ret r₁) (s₁ := s₁) hk hr1 rfl hr, ((g0.trans g1).trans g2).trans g3⟩
            · subst h; cases hf
          · rename_i v l₁ kk c₁ p₁ G₁ hs
            split at h
            · rename_i hn1
              obtain ⟨h1, h2, hg1, h3⟩ := ih _ _ _ _ _ _ _ _ _ hs rfl V
              obtain ⟨h4, h5, hg2, h6⟩ := ih _ _ _ _ _ _ _ _ _ h hf ⟨fun x hx => V.1 x (h2.1 x hx), fun x hx => V.2 x (h2.2 x hx)⟩
              have hg1' : G₁.g = G.g := hg1
              refine ⟨fun o ho => h4 o (h1 o (List.mem_cons_of_mem _ ho)), ⟨fun x hx => h2.1 x (h5.1 x hx), fun x hx => h2.2 x (h5.2 x hx)⟩, hg2.trans hg1', fun ok s I hk => ?_⟩
              have hi : i = G.g := ok _ (h4 _ (h1 _ (List.mem_cons_self ..)))
              subst hi
              rw [hn] at hk
              have g0 := GoG.set (k' := .run) (x := .running) I hk (by simp) rfl (fun a ha => ha)
              obtain ⟨s₁, hr1, g1⟩ := h3 (fun o ho => ok o (h4 o ho)) _ g0.inv g0.gk
              have gk1 := g1.gk
              rw [hn1] at gk1
              have g2 := GoG.set (k' := .susp kk l₁ c₁ p₁) (x := .suspended kk l₁ c₁ p₁ [] false) g1.inv gk1 (by simp) rfl (fun a ha => ha)
              obtain ⟨s', hr, g3⟩ := h6 ok _ g2.inv (by rw [show (G₁.turn (.susp kk l₁ c₁ p₁)).g = G.g from hg1']; exact g2.gk)
              rw [show (G₁.turn (.susp kk l₁ c₁ p₁)).g = G.g from hg1'] at g3
              exact ⟨s', .resumeSuspended (e₁ := .susp v false l₁ kk c₁ p₁ []) (s₁ := s₁) hk hr1 rfl hr, ((g0.trans g1).trans g2).trans g3⟩
            · subst h; cases hf
          · subst h; cases hf
        · rename_i hn
          obtain ⟨h1, h2, hg, h3⟩ := ih _ _ _ _ _ _ _ _ _ h hf V
          refine ⟨fun ob hob => h1 ob (List.mem_cons_of_mem _ hob), h2, hg, fun ok s I hk => ?_⟩
          have hi : i = G.g := ok _ (h1 _ (List.mem_cons_self ..))
          subst hi
          obtain ⟨s', hr, g⟩ := h3 ok s I hk
          rw [hn] at hk
          exact ⟨s', .resumeFinished hk hr, g⟩
        · subst h; cases hf
    | yield v g₀ l kk =>
      subst h; cases hf
      refine ⟨fun o ho => List.mem_cons_of_mem _ ho, ⟨fun _ x => x, fun _ x => x⟩, rfl, fun ok s I hk => ?_⟩
      have hg : g₀ = false := ok _ (List.mem_cons_self ..)
      subst hg
      exact ⟨s, .yield, GoG.refl I hk⟩
    | unsupported => subst h; cases hf
    | finish => subst h; cases hf
    | register => subst h; cases hf
    | choose => subst h; cases hf
    | os => subst h; cases hf
    | fork => subst h; cases hf
    | thread => subst h; cases hf
    | await => subst h; cases hf
end
end Mine

namespace Mine
section
open PySem PySem.W
open PySem.Builtin PySem.Builtin.List
noncomputable def OutG.out : OutG → Out
  | .ret r G => .ret r G.S
  | .yld .. => .stuck 30
  | .stuck n => .stuck n
theorem GX.le {a b : Array GenState} (h : GX a.size b a) : GLe b a := ⟨h.1, fun i hi => h.2.1 i hi (Nat.ne_of_lt hi), h.2.2⟩
/-- a contract by a run that makes one generator and uses it up -/
theorem mkg_valid {w : World} {prog : Program} {st : ST} {c : Code} {hd : Option Value} {cs : List Code} {n t : Nat} {pre : List (List Ent)} {e : XEff} (fuel orc : Nat) (ss : List XS) (rw : List (Code × Sem PySem.Fin)) (V : ∀ y ∈ ss, y.Valid (model prog w) st) (R : ∀ x ∈ rw, denote table x.1 = x.2) (len : adr e.post.flatten = adr pre.flatten)
    (h : ∀ p q g, rep (closingX (e.post ++ e.news) (exG prog w.params st fuel c hd (mkB cs q) (D c) p ⟨beginX pre n t orc ss, g, .none, rw⟩).out) =
      dia e.r e.n e.t (closingX (e.post ++ e.news) (exG prog w.params st fuel c hd (mkB cs q) (D c) p ⟨beginX pre n t orc ss, g, .none, rw⟩).out)) :
    (mkx c hd cs n t pre e).Valid (model prog w) st := by
  refine fun hd' below p n' t' s hc' ha hp => ?_
  have e1 := hc' _ rfl
  obtain ⟨rfl, rfl⟩ := ha _ rfl
  injection e1 with e1 e2
  subst e1 e2
  obtain ⟨q, hq⟩ := mkB_of below
  have h := h p q s.gens.size
  rw [← hq] at h
  have hp : PreOk st pre.flatten n' t' s := hp
  have perm0 : (PT.build pre .nil 0).toL.Perm pre.flatten := by
    have := PT.build_perm pre .nil 0
    rwa [show pre.flatten ++ PT.nil.toL = pre.flatten from List.append_nil _] at this
  cases ho : exG prog w.params st fuel c hd' below (D c) p ⟨beginX pre n' t' orc ss, s.gens.size, .none, rw⟩ with
  | stuck k =>
    rw [ho] at h
    have : (0 : Nat) = 1 := congrArg (fun x => x.2.2.1) h
    cases this
  | yld v l kk c₁ p₁ G =>
    rw [ho] at h
    have : (0 : Nat) = 1 := congrArg (fun x => x.2.2.1) h
    cases this
  | ret r₁ G₁ =>
    rw [ho] at h
    cases hc : closingX (e.post ++ e.news) (OutG.ret r₁ G₁).out with
    | stuck k =>
      rw [hc] at h
      have : (0 : Nat) = 1 := congrArg (fun x => x.2.2.1) h
      cases this
    | ret r' S' =>
      rw [hc] at h
      have h1 : r' = e.r := congrArg (fun x => x.1) h
      have h2 : S'.n = e.n := congrArg (fun x => x.2.1) h
      have h3 : S'.t = e.t := congrArg (fun x => x.2.2.1) h
      have h4 : S'.obs = S'.obs.map Ob.diag := congrArg (fun x => x.2.2.2) h
      have ok := ok_of_map h4
      have hc : useEnts (e.post ++ e.news) (e.post ++ e.news) G₁.S.T G₁.S.orc G₁.S.obs (fun T orc obs => .ret r₁ { G₁.S with T := T, orc := orc, obs := obs }) = .ret r' S' := hc
      obtain ⟨Tf, orc', obs', k1, k2, k3⟩ := useEnts_sound _ _ _ _ _ _ _ _ hc
      cases k1
      have ok : ∀ o ∈ obs', o.ok := ok
      obtain ⟨T₁, p1, _⟩ := k3 ok
      obtain ⟨_, _, hg, E⟩ := exG_sound fuel _ _ _ _ _ _ _ _ _ ho rfl ⟨V, R⟩
      have I : Inv st (beginX pre n' t' orc ss).T (beginX pre n' t' orc ss).n (beginX pre n' t' orc ss).t s := by
        refine ⟨hp.size, hp.toks, fun q hq => hp.own q (perm0.mem_iff.mp hq), ?_, hp.stat, fun q hq => hp.apart q (perm0.mem_iff.mp hq)⟩
        have hpa : (adr (PT.build pre .nil 0).toL).Perm (adr pre.flatten) := perm0.map _
        exact hpa.nodup_iff.mpr hp.nodup
      obtain ⟨s', hr, g⟩ := E (fun o ho => ok o (k2 o ho)) s I rfl
      have h2' : G₁.S.n = e.n := h2
      have h3' : G₁.S.t = e.t := h3
      rw [h1] at hr
      refine ⟨s', ret_of_D hr, ?_⟩
      rw [List.flatten_append] at p1
      have mem : ∀ q, q ∈ e.post.flatten ++ e.news.flatten → q ∈ G₁.S.T.toL := fun q hq => p1.mem_iff.mpr (List.mem_append_left _ hq)
      have nd : (adr (e.post.flatten ++ e.news.flatten) ++ adr T₁.toL).Nodup := by
        have hpa : (adr G₁.S.T.toL).Perm (adr ((e.post.flatten ++ e.news.flatten) ++ T₁.toL)) := p1.map _
        have := hpa.nodup_iff.mp g.inv.nodup
        rwa [adr_append'] at this
      have nd2 : (adr pre.flatten ++ adr e.news.flatten).Nodup := by
        have := (List.nodup_append.mp nd).1
        rw [adr_append', len] at this
        exact this
      have asub : ∀ a, a ∈ adr (PT.build pre .nil 0).toL → a ∈ adr pre.flatten := fun a ha => by
        obtain ⟨q, hq, rfl⟩ := List.mem_map.mp ha
        exact List.mem_map.mpr ⟨q, perm0.mem_iff.mp hq, rfl⟩
      refine ⟨g.inv.size.trans h2', g.inv.toks.trans h3', len, fun q hq => g.inv.own q (mem q (List.mem_append_left _ hq)), fun q hq => g.inv.own q (mem q (List.mem_append_right _ hq)), fun q hq => ?_, (List.nodup_append.mp nd2).2.1,
        ⟨fun b hb hA => g.fra.keep b hb fun hm => hA (asub b hm), g.fra.mono, g.fra.gens.le, g.fra.drawn, g.fra.os, g.fra.life⟩⟩
      rcases g.sub q (mem q (List.mem_append_right _ hq)) with hm | hm
      · exact absurd rfl ((List.nodup_append.mp nd2).2.2 _ (asub _ hm) _ (List.mem_map.mpr ⟨q, hq, rfl⟩))
      · exact hm
/-- list.extend for an iterable that is not the list itself -/
noncomputable def extTree (S G : Addr) : Sem PySem.Fin := do
  let t ← Fast.tw14684505520029207082 (.ref G)
  if false || t == .type "list" || t == .type "tuple" then
    let xs ← listItems (.ref G)
    let mine ← listItems (.ref S)
    if !mine.isEmpty && listTooLong (mine.size + xs.size) then PySem.unsupported "list.extend:memory"
    listUpdate (.ref S) (· ++ xs)
    return ← ret (.ref S)
  let iter ← Fast.tw8711993805878244202 (.ref G)
  let room ← holding [iter] (Fast.tw15112759502256325868 (.ref G))
  if room || ["set", "frozenset", "dict", "dict_keys", "dict_values", "dict_items"].any (t == .type ·) then rule "list.extend.makes-room"; listTouch (.ref S)
  again (.builtin "list.extend.loop" ⟨[.ref S, iter, .ref S], []⟩)
theorem extTree_eq (S G : Addr) (h : S ≠ G) : denote table (.builtin "list.__iadd__" ⟨[.ref S, .ref G], []⟩) = extTree S G := by
  have hden : denote table (.builtin "list.__iadd__" ⟨[.ref S, .ref G], []⟩) = listExtendWith (.ref S) (.ref G) (.ref S) := by
    refine (den_builtin F.entry_list_iadd).trans ?_
    unfold «list.__iadd__»
    rfl
  have h1 : listSameRef (.ref S) (.ref G) = false := by
    show (S == G) = false
    simpa using h
  rw [hden]
  unfold listExtendWith extTree
  rw [h1]
  have e1 : typeOf (.ref G) = Fast.tw14684505520029207082 (.ref G) := congrFun Fast.te14684505520029207082 _
  have e2 : pyIter (.ref G) = Fast.tw8711993805878244202 (.ref G) := congrFun Fast.te8711993805878244202 _
  have e3 : listLengthHint (.ref G) = Fast.tw15112759502256325868 (.ref G) := congrFun Fast.te15112759502256325868 _
  rw [e1, e2, e3]
  rfl
end
end Mine

namespace Mine
section
open PySem PySem.W Sem
theorem entry_irepr : entryFor table "int.__repr__" = some Builtin.«int.__repr__» := F.entry_int_repr
noncomputable abbrev reprS (x : Nat) (k : Tok) : Mine.Spec := pureS "int.__repr__" [.int (Int.ofNat x) k] (fun t => .str ⟨#[48 + x]⟩ t) 1
theorem digit_text : ∀ x, x < 10 → (Str.ofString (toString (Int.ofNat x))) = (⟨#[48 + x]⟩ : Str) := by decide
theorem reprV {w : World} {st : ST} (x : Nat) (k : Tok) (h : x < 10) : (reprS x k).Valid (model prog w) st := by
  have g := PySem.gives_int_repr (Int.ofNat x) k (by
    show Nat.log2 x < 1920
    by_cases h0 : x = 0
    · subst h0; decide
    · have := (Nat.log2_lt h0).mpr (show x < 2 ^ 4 by omega)
      omega)
  rw [show ((toString (Int.ofNat x) : String) : Str) = (⟨#[48 + x]⟩ : Str) from digit_text x h] at g
  exact pure_str (by decide +kernel) F.entry_int_repr g (by show 1 ≤ _; have : sizeLine = 16777216 := rfl; omega)
noncomputable def fwJoin : List Nat → List Nat
  | [] => []
  | [c] => [c]
  | c :: l => c :: 44 :: 32 :: fwJoin l
/-- what format_witnesses says of these sizes -/
noncomputable def fwL (l : List Nat) : List Nat := [97, 116, 32, 116, 97, 98, 32, 115, 105, 122, 101] ++ (if 1 < l.length then [115] else []) ++ [32] ++ fwJoin (l.map (48 + ·))
noncomputable def fwTok (t : Nat) : List Row → Nat
  | [] => t + 16
  | [_] => t + 21
  | l => t + 22 + 3 * l.length
noncomputable def fwEnd (t : Nat) : List Row → Nat
  | [] => t + 19
  | [_] => t + 22
  | l => t + 23 + 3 * l.length
noncomputable def fwC (L : Addr) (R : List Row) (ep : Nat) (b : List Stmt) (e : Env) (n t : Nat) : ConX :=
  ⟨.call (.ref 94) ⟨[.ref L], []⟩, lawCds b e, n, t, [(L, lstO (rowA R) ep)] :: [(89, fldO [])] :: sing (rowsE R), ⟨.ok (.ret (.str ⟨⟨fwL (R.map fun r => r.2.1.1)⟩⟩ (fwTok t R))), n + 12, fwEnd t R, [(L, lstO (rowA R) ep)] :: [(89, fldO [.int 67 0, .int 13 0, .ref (n + 4)])] :: sing (rowsE R), []⟩,
    R.map fun r => (reprS r.2.1.1 r.2.1.2).x⟩
end
end Mine

namespace Mine
section
open PySem PySem.W Sem
section
variable (w : World) (b1 b2 : Bool)
theorem ConX.validG {st : ST} (C : ConX) (fuel orc : Nat) (rw : List (Code × Sem PySem.Fin)) (V : ∀ y ∈ C.ss, y.Valid (model prog w) st) (R : ∀ x ∈ rw, denote table x.1 = x.2) (len : adr C.e.post.flatten = adr C.pre.flatten)
    (h : ∀ p q g, rep (closingX (C.e.post ++ C.e.news) (exG prog w.params st fuel C.c none (mkB C.cs q) (D C.c) p ⟨beginX C.pre C.n C.t orc C.ss, g, .none, rw⟩).out) =
      dia C.e.r C.e.n C.e.t (closingX (C.e.post ++ C.e.news) (exG prog w.params st fuel C.c none (mkB C.cs q) (D C.c) p ⟨beginX C.pre C.n C.t orc C.ss, g, .none, rw⟩).out)) :
    C.sp.Valid (model prog w) st := mkg_valid fuel orc C.ss rw V R len h
theorem rwR (n : Nat) : ∀ x ∈ [((.builtin "list.__iadd__" ⟨[.ref (n + 7), .ref (n + 6)], []⟩, extTree (n + 7) (n + 6)) : Code × Sem PySem.Fin)], denote table x.1 = x.2 := fun x hx => by
  rw [List.mem_singleton.mp hx]
  exact extTree_eq _ _ (fun h => absurd (Nat.add_left_cancel (h : n + 7 = n + 6)) (by decide))
/-- format_witnesses whole -/
theorem fw_call (L : Addr) (R : List Row) (ep : Nat) (b : List Stmt) (e : Env) (n t : Nat) (hR : R.length ≤ 6) (hd : ∀ r ∈ R, r.2.1.1 < 10) : (fwC L R ep b e n t).sp.Valid (model prog (Wf w b1 b2)) (stW (Wf w b1 b2)) := by
  have V : ∀ y ∈ (fwC L R ep b e n t).ss, y.Valid (model prog (Wf w b1 b2)) (stW (Wf w b1 b2)) := by
    intro y hy
    obtain ⟨r, hr, rfl⟩ := List.mem_map.mp hy
    exact (reprV r.2.1.1 r.2.1.2 (hd r hr)).x
  match R, hR, V with
  | [], _, V =>
    cases b1
    · refine ConX.validG _ _ 1500 644614673641392664948167826481048972603553226373032799872421092063646473339637063483285451177495450534035015277299433471017999607179661671046725765146033784688388263934145501456180187952285300952683597840384 _ V (rwR n) rfl ?_
      intro p q g
      (generalize b2 = c2; revert c2; refine split1 ?_ ?_ <;> kernel_rfl)
    · refine ConX.validG _ _ 1500 146568407590482971715611671807220993902122758375647375487095500731300076670320546977307228111816925232859607935548536308422040492943232855927737186293730524171098008432783718317597111944612986880 _ V (rwR n) rfl ?_
      intro p q g
      (generalize b2 = c2; revert c2; refine split1 ?_ ?_ <;> kernel_rfl)
  | [(a0, (x0, k0), u0, v0)], _, V =>
    cases b1
    · refine ConX.validG _ _ 1500 3944498954575274155619445091899947871715503404212608954646456133863000654821276714874714700217539679017649915853798175842845574073543682698833840757878555230511028699042267603752912851795730142467339243501454658002626213490323729290029071312252541486367559976344034008205670950600743287248054714368 _ V (rwR n) rfl ?_
      intro p q g
      (generalize b2 = c2; revert c2; refine split1 ?_ ?_ <;> kernel_rfl)
    · refine ConX.validG _ _ 1500 896875225083766544143928761491212724585125989554537444438768974092227075475711152392867620669116986168239672191202356735367532495684424513996162740124799335847157087251207398464560152054075433241416771952828590693461457373211450667497669305382703179649231474290026012606067421518823424 _ V (rwR n) rfl ?_
      intro p q g
      (generalize b2 = c2; revert c2; refine split1 ?_ ?_ <;> kernel_rfl)
  | [(a0, (x0, k0), u0, v0), (a1, (x1, k1), u1, v1)], _, V =>
    cases b1
    · refine ConX.validG _ _ 1500 736706922123504390493595743410153620158405289650111566828709341730726366731151492204787694077446616530175838995203610093231797589945850322192718068085884305265851647817542194310739280666724614780638370865099740379215226765157723749554609906285732950711585208227693854477200924516496590745143117491343953996082213837960539576815816545766978711324496444089328940555527649914412371656122903254102261760 _ V (rwR n) rfl ?_
      intro p q g
      (generalize b2 = c2; revert c2; refine split1 ?_ ?_ <;> kernel_rfl)
    · refine ConX.validG _ _ 1500 167507760607692123470223064807704217891661139594841999230245469727998708260918531824424393125229156914923769135203567678498029088119858516209369115150794710931643668986349028798654053540923226769482055457297005973308643796642251614468123824625574130768879650731484463523275504228980148142039079535396728416036121014582608309129344375262871128881004465882163084238362535465807198399053824 _ V (rwR n) rfl ?_
      intro p q g
      (generalize b2 = c2; revert c2; refine split1 ?_ ?_ <;> kernel_rfl)
  | [(a0, (x0, k0), u0, v0), (a1, (x1, k1), u1, v1), (a2, (x2, k2), u2, v2)], _, V =>
    cases b1
    · refine ConX.validG _ _ 1500 3753226239721771576499942963450413540231536901628434889992830349319034026709794516294843875750828774348591654058055328673506363869502240094660704424570159424255873272018175212468645855462208122023740860285145513124065507356089961444200660208716590272706564864545599323412250857865694277442462642994500993821078240025851285144651686515947701039056744741384861498068822561567736867136627690252103524047181326715114757509296868442783489324493324979687231695690562592885485774551747555819094016 _ V (rwR n) rfl ?_
      intro p q g
      (generalize b2 = c2; revert c2; refine split1 ?_ ?_ <;> kernel_rfl)
    · refine ConX.validG _ _ 1500 853384844895520376780937786736652365159792885067062090909719324672331373837958953184816863483963237365194721418914770918833338298441558457548286338480956925253820661968842435378211543016324895239390766684015378160453453200736921972793575198174173754684162500904130711981508934028555422046898148208697647037516526930027825530679869079340219115044652673983058673692488430004478974952985017570230060783435477751507226306052226594505937097749292108156561507323560548423810028765184 _ V (rwR n) rfl ?_
      intro p q g
      (generalize b2 = c2; revert c2; refine split1 ?_ ?_ <;> kernel_rfl)
  | [(a0, (x0, k0), u0, v0), (a1, (x1, k1), u1, v1), (a2, (x2, k2), u2, v2), (a3, (x3, k3), u3, v3)], _, V =>
    cases b1
    · refine ConX.validG _ _ 1500 18353920138424575362476547569079016633167469830561789887843288149230968006595945430206455783132842532387981077250329168365572051719852999424038713880734924530701791401979060159638558141328737036540026884169838890334607735251795178947082973526611323705100143748901185468489794251832247948165733131899521222021252189160405754973412989751975667185079588308628961505357466808678384004356833032039723310562488791420441628095739416525859163717352532156771495345133052949368772640388684597168861755934342934603383993658020262587165415953775814775457886070182272864109171793830782437539840 _ V (rwR n) rfl ?_
      intro p q g
      (generalize b2 = c2; revert c2; refine split1 ?_ ?_ <;> kernel_rfl)
    · refine ConX.validG _ _ 1500 4173198280665150232943357779977081152803173115571960326597783966742774283965433239747302601047713899876721615612570796739776608710565824236263941629825904904169372321571031570701633914115686147065395490283171714130414269505262195468067823987123875600696042908771502304373324080150325232390453750644956294768519953586384361863886849676413400444534906525547958496044308687641747384158596340066588552515755061856615126237426964106776114590165111298776481170757104101566768146950637463314261218949424282654901547612420799704834012375763979199981246784191719579477184987136 _ V (rwR n) rfl ?_
      intro p q g
      (generalize b2 = c2; revert c2; refine split1 ?_ ?_ <;> kernel_rfl)
  | [(a0, (x0, k0), u0, v0), (a1, (x1, k1), u1, v1), (a2, (x2, k2), u2, v2), (a3, (x3, k3), u3, v3), (a4, (x4, k4), u4, v4)], _, V =>
    cases b1
    · refine ConX.validG _ _ 1500 87254099653934034655845163773644683738508689239629591980912826388333387679248880640547589061769746911320128324135564181165700849225508558311085452910163438736283764040576856277063244047533106283966959733043924023804880029924512299683445099923731040829425673108018354287794334435569220528027954812185755127478326073241394998829561472249919074069860881947958577689945611230235198483129246088142462928107122277095259603379809794691276388034664399996287565691031343623203068916018207134507820776921209846607290123636373418696549072446662443942533303630312311447207758980659355025681008845559156810393053003783451704894862273459703807379374763256047317798623287868236201328640 _ V (rwR n) rfl ?_
      intro p q g
      (generalize b2 = c2; revert c2; refine split1 ?_ ?_ <;> kernel_rfl)
    · refine ConX.validG _ _ 1500 19839285335805023954854997049015920251465260944230429227198516488973243140037284465631180196798992917893003396815302990300028988991814130329449984153635213882872395524959041785464988617498671893364862565486856516100688174884569957540280734047821861356493553354998392544028850906117718415777734392619494230411493407073384105121831788039780593423952469026507646433389166129526347159100907012576149765688369888515639923612027313240850250630197569988988008319900323754882963138702099771423450108464988964055669166665420395152675278608150322357004361121858290879974662662626088088725308444635538700419290319196387474927862457252590664674252154047759053165334495232 _ V (rwR n) rfl ?_
      intro p q g
      (generalize b2 = c2; revert c2; refine split1 ?_ ?_ <;> kernel_rfl)
  | [(a0, (x0, k0), u0, v0), (a1, (x1, k1), u1, v1), (a2, (x2, k2), u2, v2), (a3, (x3, k3), u3, v3), (a4, (x4, k4), u4, v4), (a5, (x5, k5), u5, v5)], _, V =>
    cases b1
    · refine ConX.validG _ _ 1500 406319450853387683200863843985287462063403137035351318774259533212117522120106099411072013870050604622986722051042465054650551275626793700078479539007849085390544077924694970247983797017295529023312398298061260140694555992213399612093536430687087103514647743220101341451160908039030705545047995554912764176664017821164919245898497207151949840561236512663701768036507691695346883682205029396412031138868640399970420320999678000356199737271068912518100111101532437149976503614722932777521852703002480743322466984000325347088940532563346419394315023152749434367877271687184967915076401156597072903206321703745803222416038867634702069688288235696439397149756797353788296306015949816898583815164216481565877206872655267103211744833778484812004791863185662161000218624 _ V (rwR n) rfl ?_
      intro p q g
      (generalize b2 = c2; revert c2; refine split1 ?_ ?_ <;> kernel_rfl)
    · refine ConX.validG _ _ 1500 92386346944610450737141910391366641775540105535435786526763771055838679358227204695838739523890263768177356280612563081069891103567623235921582713446661974874255992727897812585066230216692822301254727403388928937759955259073967593415895050995251745806546692442703111157961963735722453189975566500587038757808845234914069634646352189327433243434196927560993064625224108498365895612142828530616505108552846741070066018664801504282013351546781657934411694236935645028546901725058645019435483096231673867651458518594228132107887298062302402148433207719960918067926575460475070921137611801679483963695838545405374368895581437545109299743623948346910981124816477439118635171015801540079441806169153569543277496850905177203647663757904923110169526055092224 _ V (rwR n) rfl ?_
      intro p q g
      (generalize b2 = c2; revert c2; refine split1 ?_ ?_ <;> kernel_rfl)
  | _ :: _ :: _ :: _ :: _ :: _ :: _ :: _, h, _ => exact absurd h (by simp)
theorem formatV (L : Addr) (R : List Row) (ep : Nat) (b : List Stmt) (e : Env) (n t : Nat) (hR : R.length ≤ 6) (hd : ∀ r ∈ R, r.2.1.1 < 10) : ∃ (t' k : Nat) (o : Obj), (∃ l, o = fldO l) ∧
    (mkx (.call (.ref 94) ⟨[.ref L], []⟩) none (lawCds b e) n t [[(L, lstO (rowA R) ep)], [(89, fldO [])], rowsE R] ⟨.ok (.ret (.str ⟨⟨fwL (R.map fun r => r.2.1.1)⟩⟩ k)), n + 12, t', [[(L, lstO (rowA R) ep)], [(89, o)], rowsE R], []⟩).Valid (model prog (Wf w b1 b2)) (stW (Wf w b1 b2)) := by
  refine ⟨fwEnd t R, fwTok t R, fldO [.int 67 0, .int 13 0, .ref (n + 4)], ⟨_, rfl⟩, mkx_flat (fw_call w b1 b2 L R ep b e n t hR hd) ?_ ?_ rfl rfl rfl rfl⟩
  · show [(L, lstO (rowA R) ep)] ++ ([(89, fldO [])] ++ (rowsE R ++ [])) = [(L, lstO (rowA R) ep)] ++ ([(89, fldO [])] ++ (sing (rowsE R)).flatten)
    rw [sing_flat, List.append_nil]
  · show [(L, lstO (rowA R) ep)] ++ ([(89, _)] ++ (rowsE R ++ [])) = [(L, lstO (rowA R) ep)] ++ ([(89, _)] ++ (sing (rowsE R)).flatten)
    rw [sing_flat, List.append_nil]
end
end
end Mine

namespace Mine
section
open PySem PySem.W Sem
/-! an exception leaves a frame: the frames compared, once and for all -/
noncomputable def place2 (pos : Pos) (hadNext : Bool) (ids : List String) : List Value :=
  if pos.line == 0 then [] else [rawInt pos.line, rawInt pos.endLine, rawInt pos.col, rawInt pos.endCol] ++ [if (EntryCells.make ids).length > sizeLine then .none else .str (EntryCells.make ids) 0, .bool hadNext]
noncomputable def note2 (env : Env) (outer : List Env) (f : Addr) (ids : List String) (e : Value) : Sem Unit := do
  let head ← Fast.tw6609576154772507232 e 1
  if head != .none then
    if (← Fast.tw6609576154772507232 head 3) == rawInt f then return
    Fast.tw17858455048448223758 head 3 .none
  Fast.tw9112722382718976056 (env :: outer)
  let acts ← stack
  Fast.tw17858455048448223758 e 1 (← Fast.tw7687323783571163205 head (.ref f) .none (rawInt f) .none (place2 ((acts.head?.map (·.2)).getD default) (head != .none) ids))
section
variable {M : Model} {Γ : Ctx}
/-- the stack is the frame's own activation on top of ones that are all told -/
theorem wp_frameOf {env : Env} {outer : List Env} {f : Addr} {α : Type} {k : Value → Sem α} {Q E p s} (hf : env.frame = some f) (hc : Γ.code.isFrame = true) (he : Γ.code.env? = some env) (hb : (Γ.below.filter (·.1.isFrame)).filterMap (·.1.env?) = outer) :
    wp M Γ (frameOf env >>= k) Q E p s = wp M Γ (readyFrames (env :: outer) >>= fun _ => k (.ref f)) Q E p s := by
  unfold frameOf frameEnvs PySem.stack
  simp only [wp_bind', wp_stack, wp_pure]
  show wp M Γ (Sem.pure _) _ E p s = _
  rw [wp_pure]
  have h1 : (((Γ.code, p) :: Γ.below).filter (·.1.isFrame)).filterMap (·.1.env?) = env :: outer := by
    rw [List.filter_cons_of_pos (by exact hc), List.filterMap_cons_some (by exact he), hb]
  rw [h1]
  have h2 : ((env :: outer).dropWhile fun x => x.frame != env.frame) = env :: outer := by simp [List.dropWhile]
  rw [h2]
  unfold frameObject
  simp only [wp_bind', wp_pure, hf]
  rfl
theorem wp_entryPlace {f : Addr} {env : Env} {ids : List String} {b : Bool} {α : Type} {k : List Value → Sem α} {Q E p s} (hf : env.frame = some f) (hc : Γ.code.isFrame = true) (he : Γ.code.env? = some env)
    (hi : (Γ.below.filterMap fun (c, _) => match c with | .builtin id _ => some id | _ => none).eraseDups = ids) :
    wp M Γ (entryPlaceOf f b >>= k) Q E p s = wp M Γ (k (place2 p b ids)) Q E p s := by
  unfold entryPlaceOf PySem.stack
  simp only [wp_bind']
  show wp M Γ (Sem.stack .pure) _ E p s = _
  rw [wp_stack]
  simp only [wp_pure]
  have h1 : (((Γ.code, p) :: Γ.below).find? fun (c, _) => c.env?.bind (·.frame) == some f) = some (Γ.code, p) := by
    rw [List.find?_cons_of_pos]
    show (Γ.code.env?.bind (·.frame) == some f) = true
    rw [he]
    show (env.frame == some f) = true
    rw [hf]; simp
  rw [h1]
  show wp M Γ (Sem.pure _) _ E p s = _
  rw [wp_pure]
  unfold place2 EntryCells.cells EntryCells.beneath
  have h2 : (((Γ.code, p) :: Γ.below).dropWhile fun (c, _) => !(c.isFrame && c.env?.bind (·.frame) == some f)) = (Γ.code, p) :: Γ.below := by
    rw [List.dropWhile_cons_of_neg]
    show ¬ (!(Γ.code.isFrame && Γ.code.env?.bind (·.frame) == some f)) = true
    rw [hc, he]
    show ¬ (!(true && env.frame == some f)) = true
    rw [hf]; simp
  rw [h2]
  subst hi
  rfl
theorem wp_note {env : Env} {outer : List Env} {f : Addr} {ids : List String} {e : Value} {Q E p s} (hf : env.frame = some f) (hc : Γ.code.isFrame = true) (he : Γ.code.env? = some env) (hb : (Γ.below.filter (·.1.isFrame)).filterMap (·.1.env?) = outer)
    (hi : (Γ.below.filterMap fun (c, _) => match c with | .builtin id _ => some id | _ => none).eraseDups = ids) :
    wp M Γ (note2 env outer f ids e) Q E p s → wp M Γ (noteFrame e env) Q E p s := by
  have e1 : field = Fast.tw6609576154772507232 := Fast.te6609576154772507232
  have e2 : setField = Fast.tw17858455048448223758 := Fast.te17858455048448223758
  have e3 : readyFrames = Fast.tw9112722382718976056 := Fast.te9112722382718976056
  have e4 : @EntryCells.newEntry = @Fast.tw7687323783571163205 := Fast.te7687323783571163205
  unfold noteFrame note2
  rw [← e1, ← e2, ← e3, ← e4]
  simp only [hf]
  intro h
  rw [wp_bind'] at h ⊢
  refine wp_mono _ _ _ ?_ (fun _ _ _ x => x) p s h
  intro head p1 s1 h1
  have tail : ∀ {p s}, wp M Γ (readyFrames (env :: outer) >>= fun _ => stack >>= fun acts => EntryCells.newEntry head (.ref f) .none (rawInt f) .none (place2 ((acts.head?.map (·.2)).getD default) (head != .none) ids) >>= fun b => setField e 1 b) Q E p s →
      wp M Γ (frameOf env >>= fun a => entryPlaceOf f (head != .none) >>= fun pl => EntryCells.newEntry head a .none (rawInt f) .none pl >>= fun b => setField e 1 b) Q E p s := by
    intro p s h
    rw [wp_frameOf hf hc he hb]
    rw [wp_bind'] at h ⊢
    refine wp_mono _ _ _ ?_ (fun _ _ _ x => x) p s h
    intro _ p2 s2 h2
    rw [wp_entryPlace hf hc he hi]
    rw [wp_bind'] at h2
    have h3 : wp M Γ (Sem.stack .pure) _ E p2 s2 := h2
    rw [wp_stack, wp_pure] at h3
    exact h3
  by_cases hn : (head != .none) = true
  · rw [if_pos hn] at h1 ⊢
    rw [wp_bind'] at h1 ⊢
    refine wp_mono _ _ _ ?_ (fun _ _ _ x => x) p1 s1 h1
    intro h3 p2 s2 h4
    by_cases hq : (h3 == rawInt f) = true
    · rw [if_pos hq] at h4 ⊢; exact h4
    · rw [if_neg hq] at h4 ⊢
      rw [wp_bind'] at h4 ⊢
      refine wp_mono _ _ _ ?_ (fun _ _ _ x => x) p2 s2 h4
      intro _ p3 s3 h5
      exact tail h5
  · rw [if_neg hn] at h1 ⊢
    exact tail h1
end
end
end Mine

namespace Mine
section
open PySem PySem.W Sem
/-- the law's own frame -/
noncomputable def lawEnv (f : FuncData) (L : Addr) : Env := { scope := f.scope, locals := L, globals := 3, cells := [("reader", L + 3), ("sums", L + 2), ("script", L + 1)], qual := "law.<locals>.", func := some 223, code := .ref 222, frame := some L, builtins := 0 }
noncomputable def slots0 (L : Addr) : Array (Option Value) := #[some (.ref 222), some (.ref 3), none, some .notImplemented, none, some (.ref 223), some (.ref 0), some (.ref (L + 3)), some (.ref (L + 2)), some (.ref (L + 1))]
noncomputable def lfO (es : List DictEntry) (ep : Nat) (sl : Array (Option Value)) : Obj := { frameO es ep with slots := sl }
noncomputable def lawF (w : World) : FuncData := fdOf (hd.o_276 w.params)
/-- a def's activation, its frames compared -/
noncomputable def fun2 (body : List Stmt) (env : Env) (outer : List Env) (f : Addr) (ids : List String) : Sem PySem.Fin := do
  PySem.point
  match ← (Fast.tw12563942051412417395 body env).onRaise (fun e => do note2 env outer f ids e; Fast.tw5670386056902412789 e none) with
  | .ret v => Fast.tw6905046200447255374 v
  | _ => Fast.tw6905046200447255374 .none
theorem fun2_ok {w : World} {prog : Program} {body : List Stmt} {env : Env} {outer : List Env} {f : Addr} {ids : List String} {below : List (Code × Pos)} {p : Pos} {s s' : Shared} {r : Result} (hf : env.frame = some f)
    (hb : (below.filter (·.1.isFrame)).filterMap (·.1.env?) = outer) (hi : (below.filterMap fun (c, _) => match c with | .builtin id _ => some id | _ => none).eraseDups = ids)
    (h : Runs (model prog w) ⟨.func body env, none, none, below, none⟩ p (fun2 body env outer f ids) [] s (.ret r) s') : Returns (model prog w) ⟨.func body env, none, none, below, none⟩ p s r s' := by
  have e1 : execs = Fast.tw12563942051412417395 := Fast.te12563942051412417395
  have e2 : setFlight = Fast.tw5670386056902412789 := Fast.te5670386056902412789
  have e3 : @ret = @Fast.tw6905046200447255374 := Fast.te6905046200447255374
  have hw := (wp_iff_runs (model prog w) ⟨.func body env, none, none, below, none⟩ (fun2 body env outer f ids) (fun r' s'' => r' = r ∧ s'' = s') p s).mpr ⟨r, s', h, rfl, rfl⟩
  have hw2 : wp (model prog w) ⟨.func body env, none, none, below, none⟩ (denote table (.func body env)) (finPost (model prog w) ⟨.func body env, none, none, below, none⟩ (fun r' s'' => r' = r ∧ s'' = s')) (fun e _ s'' => (.error e : Result) = r ∧ s'' = s') p s := by
    unfold fun2 at hw
    rw [← e1, ← e2, ← e3] at hw
    show wp _ _ (PySem.point >>= fun _ => ((execs body env).onRaise (leaving env)) >>= _) _ _ _ _
    rw [wp_bind'] at hw ⊢
    refine wp_mono _ _ _ ?_ (fun _ _ _ x => x) p s hw
    intro _ p1 s1 h1
    rw [wp_bind'] at h1 ⊢
    rw [wp_onRaise] at h1 ⊢
    refine wp_mono _ _ _ ?_ ?_ p1 s1 h1
    · intro a p2 s2 h2; exact h2
    · intro e p2 s2 h2
      unfold leaving
      rw [wp_bind'] at h2 ⊢
      exact wp_note hf rfl rfl hb hi h2
  obtain ⟨r', s'', hr, rfl, rfl⟩ := (wp_iff_runs _ _ _ _ _ _).mp hw2
  exact hr
end
end Mine

namespace Mine
section
open PySem PySem.W Sem
noncomputable abbrev neZ (a : Int) (s : Tok) (b : Int) (u : Tok) (r : Bool) : Mine.Spec := pureS "int.__ne__" [.int a s, .int b u] (fun _ => .bool r) 0
theorem neZV {w : World} {st : ST} (a : Int) (s : Tok) (b : Int) (u : Tok) (r : Bool) (h : (a != b) = r) : (neZ a s b u r).Valid (model prog w) st :=
  pure_val (by decide +kernel) PySem.F.entry_int_ne (h ▸ gives_int_ne a b s u)
noncomputable abbrev find2S (x : Str) (k : Tok) (c : Nat) (k1 : Tok) (i : Int) : Mine.Spec := pureS "str.find" [.str x k, .str ⟨#[c]⟩ k1] (fun t => .int i t) 1
theorem find2V {w : World} {st : ST} (x : Str) (k : Tok) (c : Nat) (k1 : Tok) (i : Int) (h : (match Builtin.Str.occurrences x ⟨#[c]⟩ 0 x.length 1 with | i :: _ => (i : Int) | [] => -1) = i) : (find2S x k c k1 i).Valid (model prog w) st :=
  pure_int (by decide +kernel) PySem.F.entry_str_find (h ▸ gives_str_find x ⟨#[c]⟩ k k1)
noncomputable abbrev find3S (x : Str) (k : Tok) (c : Nat) (k1 : Tok) (j : Int) (k2 : Tok) (i : Int) : Mine.Spec := pureS "str.find" [.str x k, .str ⟨#[c]⟩ k1, .int j k2] (fun t => .int i t) 1
theorem find3V {w : World} {st : ST} (x : Str) (k : Tok) (c : Nat) (k1 : Tok) (j : Int) (k2 : Tok) (i : Int) (h : (match Builtin.Str.occurrences x ⟨#[c]⟩ (fromIndex x.length j) x.length 1 with | i :: _ => (i : Int) | [] => -1) = i) : (find3S x k c k1 j k2 i).Valid (model prog w) st :=
  pure_int (by decide +kernel) PySem.F.entry_str_find (h ▸ gives_str_find_from x ⟨#[c]⟩ j k k1 k2)
noncomputable def partsL (x : Str) (c : Nat) : List Str := Builtin.Str.partsBetween x (Builtin.Str.occurrences x ⟨#[c]⟩ 0 x.length (x.length + 1)) 1
noncomputable abbrev splitS (x : Str) (k : Tok) (c : Nat) (k1 : Tok) (l : List Str) : Mine.Spec := ⟨.builtin "str.split" ⟨[.str x k, .str ⟨#[c]⟩ k1], []⟩, none, none, [], fun n t => ⟨.ok (.ret (.ref n)), n + 1, t + l.length, [], [(n, lstO ⟨strsFrom t l⟩ 0)]⟩⟩
theorem splitV {w : World} {st : ST} (x : Str) (k : Tok) (c : Nat) (k1 : Tok) (l : List Str) (h1 : (decide (x.length < 1) || decide (Builtin.Str.strKind x < Builtin.Str.strKind ⟨#[c]⟩)) = false) (hf : (Builtin.Str.occurrences x ⟨#[c]⟩ 0 x.length (x.length + 1)).isEmpty = false) (hx : x.length ≤ 10000) (hl : partsL x c = l) (hn : l.length ≤ 10000) : (splitS x k c k1 l).Valid (model prog w) st := by
  have hsl : sizeLine = 16777216 := rfl
  subst hl
  refine valid_of_meets rfl (by decide +kernel) F.entry_str_split (meets_str_split_sep x ⟨#[c]⟩ k k1 h1 rfl hf (by omega) (by show (partsL x c).length ≤ _; omega)) fun _ n t s _ hp => ?_
  refine ⟨?_, ?_⟩
  · show Except.ok (Flow.ret (Value.ref s.heap.objs.size)) = _
    rw [hp.size]
  · have ht := hp.toks
    subst ht
    exact post_push hp.own hp.size rfl rfl rfl rfl rfl rfl rfl rfl rfl
noncomputable def p2Env (f : FuncData) (F : Addr) : Env := funEnv f F "parse229.<locals>." 138 137
noncomputable def slots2 (L : Addr) : Array (Option Value) := #[some (.ref 137), some (.ref 3), none, some (.ref L), none, some (.ref 138), some (.ref 0)]
noncomputable def tbO (F : Addr) (line : Nat) (c1 c2 : Nat) : Obj := { cls := .type "traceback", data := .fields ⟨[.none, .ref F, .none, .none, .none, .int (Int.ofNat line) 0, .int (Int.ofNat line) 0, .int (Int.ofNat c1) 0, .int (Int.ofNat c2) 0, .str "claim.caller" 0, .bool false]⟩ }
noncomputable def p2ManyC (P : Params) (f lf : FuncData) (b : List Stmt) (L : Addr) (es : List DictEntry) (ep : Nat) (F tup : Addr) (K : Nat → Tok) (x : Str) (k : Tok) (r : Nat) (y : Str) (l : List Str) (n t : Nat) : Con :=
  let m := l.length
  ⟨.func (bodyOf f) (p2Env f F), lawCds b (lawEnv lf L), n, t, [(F, frameO [de P "resp" (K 0) (.str x k), de P "peer" (K 1) (.ref tup)] 2), (L, lfO es ep #[])],
    ⟨.error (.ref (n + 4)), n + 7, t + 25 + m + 4,
      [lfO [de P "resp" (K 0) (.str x k), de P "peer" (K 1) (.ref tup), de P "left" (t + 5) (.int 4 (t + 4)), de P "right" (t + 11) (.int (Int.ofNat r) (t + 10)), de P "parts" (t + 25 + m) (.ref (n + 2))] 5 (slots2 L), lfO es ep (slots0 L)],
      [(n + 4, { cls := .ref 129, data := .fields ⟨[.ref (n + 5), .ref (n + 6), .none, .none, .bool false, .none]⟩ }), (n + 6, tbO F 92 8 31)]⟩,
    [⟨.builtin "str.__getitem__" ⟨[.str x k, .ref n], []⟩, none, none, [(n, slcO (partValue none) (partValue (some (3, t))) (partValue none))], fun n' t' => ⟨.ok (.ret (.str ⟨#[50, 50, 57]⟩ t')), n', t' + 1, [slcO (partValue none) (partValue (some (3, t))) (partValue none)], []⟩⟩,
     neS ⟨#[50, 50, 57]⟩ (t + 1) "229" (t + 2) false, find2S x k 40 (t + 3) 4, find3S x k 41 (t + 7) 5 (t + 9) (Int.ofNat r), ltS (Int.ofNat r) (t + 10) 0 (t + 12) false, atS x k 5 (t + 14) 32, subS r (t + 10) 1 (t + 16), atS x k (r - 1) (t + 17) 32, neS ⟨#[32]⟩ (t + 15) ⟨#[32]⟩ (t + 18) false,
     ⟨.builtin "str.__getitem__" ⟨[.str x k, .ref (n + 1)], []⟩, none, none, [(n + 1, slcO (partValue (some (5, t + 20))) (partValue (some (Int.ofNat r, t + 10))) (partValue none))], fun n' t' => ⟨.ok (.ret (.str y t')), n', t' + 1, [slcO (partValue (some (5, t + 20))) (partValue (some (Int.ofNat r, t + 10))) (partValue none)], []⟩⟩,
     atS x k 5 (t + 23) 32, splitS y (t + 21) 32 (t + 24) l, lenS (n + 2) ⟨strsFrom (t + 25) l⟩ 0 m, neZ (Int.ofNat m) (t + 25 + m + 2) 5 (t + 25 + m + 3) true]⟩
/-- the replies that parse229 reads: one size, none -/
noncomputable def okT (d : Nat) : Str := ⟨⟨[50, 50, 57, 32, 40, 32, 116, 97, 98, 32, 115, 105, 122, 101, 32, 48 + d, 32, 41]⟩⟩
noncomputable def noT : Str := ⟨⟨[50, 50, 57, 32, 40, 32, 116, 97, 98, 32, 115, 105, 122, 101, 32, 32, 41]⟩⟩
noncomputable def p2OkC (b : List Stmt) (e : Env) (tup : Addr) (k : Tok) (hs : Str) (kh kp : Tok) (d n t : Nat) : Con :=
  ⟨.call (.ref 138) ⟨[.str (okT d) k, .ref tup], []⟩, lawCds b e, n, t, [(tup, tupO [.str hs kh, .int 21 kp])], ⟨.ok (.ret (.ref (n + 4))), n + 5, t + 41, [tupO [.str hs kh, .int 21 kp]], [(n + 4, tupO [.str hs kh, .int (Int.ofNat d) (t + 39)])]⟩, [neS ⟨#[50, 50, 57]⟩ (t + 3) "229" (t + 4) false, neS ⟨#[32]⟩ (t + 17) ⟨#[32]⟩ (t + 20) false]⟩
noncomputable def excO (c : Value) (a tb : Addr) : Obj := { cls := c, data := .fields ⟨[.ref a, .ref tb, .none, .none, .bool false, .none]⟩ }
noncomputable def p2NoneC (P : Params) (f lf : FuncData) (b : List Stmt) (L : Addr) (es : List DictEntry) (ep : Nat) (F tup : Addr) (K : Nat → Tok) (k : Tok) (hs : Str) (kh kp : Tok) (n t : Nat) : Con :=
  ⟨.func (bodyOf f) (p2Env f F), lawCds b (lawEnv lf L), n, t, [(F, frameO [de P "resp" (K 0) (.str noT k), de P "peer" (K 1) (.ref tup)] 2), (L, lfO es ep #[]), (tup, tupO [.str hs kh, .int 21 kp])],
    ⟨.error (.ref (n + 4)), n + 6, t + 39,
      [lfO [de P "resp" (K 0) (.str noT k), de P "peer" (K 1) (.ref tup), de P "left" (t + 5) (.int 4 (t + 4)), de P "right" (t + 11) (.int 16 (t + 10)), de P "parts" (t + 30) (.ref (n + 2)), de P "host" (t + 35) (.str hs kh)] 6 (slots2 L), lfO es ep (slots0 L), tupO [.str hs kh, .int 21 kp]],
      [(n + 4, excO (.type "ValueError") (n + 3) (n + 5)), (n + 5, tbO F 94 11 24)]⟩, [neS ⟨#[50, 50, 57]⟩ (t + 1) "229" (t + 2) false, neS ⟨#[32]⟩ (t + 15) ⟨#[32]⟩ (t + 18) false]⟩
noncomputable def p2ErrC (P : Params) (f lf : FuncData) (b : List Stmt) (L : Addr) (es : List DictEntry) (ep : Nat) (tup : Addr) (x : Str) (k : Tok) (hs : Str) (kh kp : Tok) (n t : Nat) (S : Mine.Spec) (many : Bool) (line c1 c2 m : Nat) : Con :=
  ⟨.call (.ref 138) ⟨[.str x k, .ref tup], []⟩, lawCds b (lawEnv lf L), n, t, [(L, lfO es ep #[]), (tup, tupO [.str hs kh, .int 21 kp])],
    match many with
    | true => ⟨.error (.ref (n + 5)), n + 8, t + 2 + 25 + m + 4, [lfO es ep (slots0 L), tupO [.str hs kh, .int 21 kp]], [(n + 5, excO (.ref 129) (n + 6) (n + 7)), (n + 7, tbO n line c1 c2)]⟩
    | false => ⟨.error (.ref (n + 5)), n + 7, t + 41, [lfO es ep (slots0 L), tupO [.str hs kh, .int 21 kp]], [(n + 5, excO (.type "ValueError") (n + 4) (n + 6)), (n + 6, tbO n line c1 c2)]⟩,
    [S]⟩
end
end Mine

namespace Mine
section
open PySem PySem.W Sem
noncomputable def p2F (w : World) : FuncData := fdOf (hd.o_187 w.params)
/-- a def of the law's that an exception leaves -/
theorem fun2_valid {w : World} {st : ST} (body : List Stmt) (env : Env) (b : List Stmt) (lf : FuncData) (L F : Addr) (hF : env.frame = some F) {n t : Nat} {pre : List Ent} {e : Eff} (fuel orc : Nat) (ss : List Mine.Spec) (V : ∀ y ∈ ss, y.Valid (model prog w) st) (len : pre.length = e.post.length)
    (h : ∀ p q, rep (closing (pair pre e.post ++ e.news) (ex prog w.params st fuel (.func body env) none (mkB (lawCds b (lawEnv lf L)) q) (fun2 body env [lawEnv lf L] F ["claim.caller"]) p (begin_ pre n t orc ss))) =
      dia e.r e.n e.t (closing (pair pre e.post ++ e.news) (ex prog w.params st fuel (.func body env) none (mkB (lawCds b (lawEnv lf L)) q) (fun2 body env [lawEnv lf L] F ["claim.caller"]) p (begin_ pre n t orc ss)))) :
    (Mine.mk (.func body env) none (lawCds b (lawEnv lf L)) n t pre e).Valid (model prog w) st := by
  refine mk_intro fun below p s e2 hp => ?_
  obtain ⟨q, hq⟩ := mkB_of below
  rw [e2] at hq
  obtain ⟨s', hr, po⟩ := run_ok fuel orc ss V len (h p q) hp
  rw [← hq] at hr
  refine ⟨s', fun2_ok hF ?_ ?_ hr, po⟩
  · rw [hq]; rfl
  · rw [hq]; rfl
/-- a reply that names several sizes -/
structure Is2 (x : Str) (r : Nat) (y : Str) (l : List Str) : Prop where
  s1 : slicePicked x none (some (3, 0)) none = [0, 1, 2] ∧ x.cps.toList.take 3 = [50, 50, 57] ∧ 3 < x.length
  f1 : (match Builtin.Str.occurrences x ⟨#[40]⟩ 0 x.length 1 with | i :: _ => (i : Int) | [] => -1) = 4
  f2 : (match Builtin.Str.occurrences x ⟨#[41]⟩ (fromIndex x.length 5) x.length 1 with | i :: _ => (i : Int) | [] => -1) = Int.ofNat r
  c5 : x.cps.toList[5]? = some 32
  cr : x.cps.toList[r - 1]? = some 32
  rz : 1 ≤ r ∧ r < 1000
  s2 : ∀ k k1 k2, sliceMade x k (some (5, k1)) (some (Int.ofNat r, k2)) none = .str y
  y1 : (decide (y.length < 1) || decide (Builtin.Str.strKind y < Builtin.Str.strKind ⟨#[32]⟩)) = false
  y2 : (Builtin.Str.occurrences y ⟨#[32]⟩ 0 y.length (y.length + 1)).isEmpty = false
  yz : y.length ≤ 1000
  sp : partsL y 32 = l
  ne : l.length ≠ 5
  lz : l.length ≤ 1000
section
variable (w : World) (b1 b2 : Bool)
theorem p2_many (b : List Stmt) (L : Addr) (es : List DictEntry) (ep : Nat) (F tup : Addr) (K : Nat → Tok) (x : Str) (k : Tok) (r : Nat) (y : Str) (l : List Str) (n t : Nat) (H : Is2 x r y l) (hm : ∀ k k1, sliceMade x k none (some (3, k1)) none = .str ⟨#[50, 50, 57]⟩) :
    (p2ManyC ((Wf w b1 b2)).params (p2F (Wf w b1 b2)) (lawF (Wf w b1 b2)) b L es ep F tup K x k r y l n t).sp.Valid (model prog (Wf w b1 b2)) (stW (Wf w b1 b2)) := by
  obtain ⟨_, f1, f2, c5, cr, ⟨r1, rz⟩, s2, y1, y2, yz, sp, ne, lz⟩ := H
  have hsl : sizeLine = 16777216 := rfl
  have V1 := sslV (w := (Wf w b1 b2)) (st := stW (Wf w b1 b2)) n x k none (some (3, t)) none ⟨#[50, 50, 57]⟩ rfl (hm k t) (by decide)
  have V2 := neV (w := (Wf w b1 b2)) (st := stW (Wf w b1 b2)) ⟨#[50, 50, 57]⟩ (t + 1) "229" (t + 2) false (by decide +kernel)
  have V3 := find2V (w := (Wf w b1 b2)) (st := stW (Wf w b1 b2)) x k 40 (t + 3) 4 f1
  have V4 := find3V (w := (Wf w b1 b2)) (st := stW (Wf w b1 b2)) x k 41 (t + 7) 5 (t + 9) (Int.ofNat r) f2
  have V5 := ltV (w := (Wf w b1 b2)) (st := stW (Wf w b1 b2)) (Int.ofNat r) (t + 10) 0 (t + 12) false (by simp)
  have V6 := atV (w := (Wf w b1 b2)) (st := stW (Wf w b1 b2)) x k 5 (t + 14) 32 c5 (by decide)
  have V7 := subV (w := (Wf w b1 b2)) (st := stW (Wf w b1 b2)) r (t + 10) 1 (t + 16) r1
  have V8 := atV (w := (Wf w b1 b2)) (st := stW (Wf w b1 b2)) x k (r - 1) (t + 17) 32 cr (by omega)
  have V9 := neV (w := (Wf w b1 b2)) (st := stW (Wf w b1 b2)) ⟨#[32]⟩ (t + 15) ⟨#[32]⟩ (t + 18) false (by decide +kernel)
  have V10 := sslV (w := (Wf w b1 b2)) (st := stW (Wf w b1 b2)) (n + 1) x k (some (5, t + 20)) (some (Int.ofNat r, t + 10)) none y rfl (s2 k (t + 20) (t + 10)) (by omega)
  have V11 := atV (w := (Wf w b1 b2)) (st := stW (Wf w b1 b2)) x k 5 (t + 23) 32 c5 (by decide)
  have V12 := splitV (w := (Wf w b1 b2)) (st := stW (Wf w b1 b2)) y (t + 21) 32 (t + 24) l y1 y2 (by omega) sp (by omega)
  have V13 := lenV (w := (Wf w b1 b2)) (st := stW (Wf w b1 b2)) (n + 2) ⟨strsFrom (t + 25) l⟩ 0 l.length (by show (strsFrom (t + 25) l).length = _; rw [strsFrom_length]) (by omega)
  have V14 := neZV (w := (Wf w b1 b2)) (st := stW (Wf w b1 b2)) (Int.ofNat l.length) (t + 25 + l.length + 2) 5 (t + 25 + l.length + 3) true (by
    rw [bne_iff_ne]
    intro h
    have h' : ((l.length : Nat) : Int) = 5 := h
    omega)
  have key : (Mine.mk (p2ManyC ((Wf w b1 b2)).params (p2F (Wf w b1 b2)) (lawF (Wf w b1 b2)) b L es ep F tup K x k r y l n t).c none (p2ManyC ((Wf w b1 b2)).params (p2F (Wf w b1 b2)) (lawF (Wf w b1 b2)) b L es ep F tup K x k r y l n t).cs n t (p2ManyC ((Wf w b1 b2)).params (p2F (Wf w b1 b2)) (lawF (Wf w b1 b2)) b L es ep F tup K x k r y l n t).pre (p2ManyC ((Wf w b1 b2)).params (p2F (Wf w b1 b2)) (lawF (Wf w b1 b2)) b L es ep F tup K x k r y l n t).e).Valid (model prog (Wf w b1 b2)) (stW (Wf w b1 b2)) := by
    refine fun2_valid (bodyOf (p2F (Wf w b1 b2))) (p2Env (p2F (Wf w b1 b2)) F) b (lawF (Wf w b1 b2)) L F rfl 600 21038524520959479974318618487856412641823711750988179624358629703894542177558922837753792004236602873972438532124519040985252806366535932421853672826307922335520648310917298609606894110015085860163517936469342012108118444297684631110981516538650198385472029344838003813254529963540481 _ (all_cons (V1) (all_cons (V2) (all_cons (V3) (all_cons (V4) (all_cons (V5) (all_cons (V6) (all_cons (V7) (all_cons (V8) (all_cons (V9) (all_cons (V10) (all_cons (V11) (all_cons (V12) (all_cons (V13) (all_cons (V14) all_nil)))))))))))))) rfl ?_
    intro p q
    (generalize b1 = c1; generalize b2 = c2; revert c1 c2; refine split2 ?_ ?_ ?_ ?_ <;> kernel_rfl)
  exact key
theorem p2_none (b : List Stmt) (L : Addr) (es : List DictEntry) (ep : Nat) (F tup : Addr) (K : Nat → Tok) (k : Tok) (hs : Str) (kh kp : Tok) (n t : Nat) : (p2NoneC ((Wf w b1 b2)).params (p2F (Wf w b1 b2)) (lawF (Wf w b1 b2)) b L es ep F tup K k hs kh kp n t).sp.Valid (model prog (Wf w b1 b2)) (stW (Wf w b1 b2)) := by
  have key : (Mine.mk (p2NoneC ((Wf w b1 b2)).params (p2F (Wf w b1 b2)) (lawF (Wf w b1 b2)) b L es ep F tup K k hs kh kp n t).c none (p2NoneC ((Wf w b1 b2)).params (p2F (Wf w b1 b2)) (lawF (Wf w b1 b2)) b L es ep F tup K k hs kh kp n t).cs n t (p2NoneC ((Wf w b1 b2)).params (p2F (Wf w b1 b2)) (lawF (Wf w b1 b2)) b L es ep F tup K k hs kh kp n t).pre (p2NoneC ((Wf w b1 b2)).params (p2F (Wf w b1 b2)) (lawF (Wf w b1 b2)) b L es ep F tup K k hs kh kp n t).e).Valid (model prog (Wf w b1 b2)) (stW (Wf w b1 b2)) := by
    have V1 := neV (w := (Wf w b1 b2)) (st := stW (Wf w b1 b2)) ⟨#[50, 50, 57]⟩ (t + 1) "229" (t + 2) false (by decide +kernel)
    have V2 := neV (w := (Wf w b1 b2)) (st := stW (Wf w b1 b2)) ⟨#[32]⟩ (t + 15) ⟨#[32]⟩ (t + 18) false (by decide +kernel)
    refine fun2_valid (bodyOf (p2F (Wf w b1 b2))) (p2Env (p2F (Wf w b1 b2)) F) b (lawF (Wf w b1 b2)) L F rfl 600 1933763460275096405348947823312451937870726812980105002247306481208196576612069709251191785623693115659773234350066257957038580372772365619296431816805457098762022194211806162298577125243067313101151693649941537993688612583956466722811108392961 _ (all_cons (V1) (all_cons (V2) all_nil)) rfl ?_
    intro p q
    (generalize b1 = c1; generalize b2 = c2; revert c1 c2; refine split2 ?_ ?_ ?_ ?_ <;> kernel_rfl)
  exact key
/-- parse229 where one size is named -/
theorem p2_ok (b : List Stmt) (e : Env) (tup : Addr) (k : Tok) (hs : Str) (kh kp : Tok) (d n t : Nat) (hd : d = 1 ∨ d = 2 ∨ d = 3 ∨ d = 4 ∨ d = 5 ∨ d = 6) : (p2OkC b e tup k hs kh kp d n t).sp.Valid (model prog (Wf w b1 b2)) (stW (Wf w b1 b2)) := by
  refine Con.valid _ 600 10015250208956097550120803556780429573074659843712164689831686666540363659628304673021417997871630355709014458185566313503676812532399069482504817625789740040185077734024585536466667201691643338771486395345255249792196354827214545338524270592 (all_cons (neV _ _ _ _ _ (by decide +kernel)) (all_cons (neV _ _ _ _ _ (by decide +kernel)) all_nil)) rfl ?_
  intro p q
  rcases hd with rfl | rfl | rfl | rfl | rfl | rfl <;> (generalize b1 = c1; generalize b2 = c2; revert c1 c2; refine split2 ?_ ?_ ?_ ?_ <;> kernel_rfl)
theorem p2_errM (b : List Stmt) (L : Addr) (es : List DictEntry) (ep : Nat) (tup : Addr) (x : Str) (k : Tok) (hs : Str) (kh kp : Tok) (n t : Nat) (r : Nat) (y : Str) (l : List Str) (V : (p2ManyC ((Wf w b1 b2)).params (p2F (Wf w b1 b2)) (lawF (Wf w b1 b2)) b L es ep n tup (Kf [t, t + 1]) x k r y l (n + 1) (t + 2)).sp.Valid (model prog (Wf w b1 b2)) (stW (Wf w b1 b2))) :
    (p2ErrC ((Wf w b1 b2)).params (p2F (Wf w b1 b2)) (lawF (Wf w b1 b2)) b L es ep tup x k hs kh kp n t (p2ManyC ((Wf w b1 b2)).params (p2F (Wf w b1 b2)) (lawF (Wf w b1 b2)) b L es ep n tup (Kf [t, t + 1]) x k r y l (n + 1) (t + 2)).sp true 92 8 31 l.length).sp.Valid (model prog (Wf w b1 b2)) (stW (Wf w b1 b2)) := by
  refine Con.valid _ 300 12457075066795771263690260480 (all_cons (V) all_nil) rfl ?_
  intro p q
  (generalize b1 = c1; generalize b2 = c2; revert c1 c2; refine split2 ?_ ?_ ?_ ?_ <;> kernel_rfl)
theorem p2_errN (b : List Stmt) (L : Addr) (es : List DictEntry) (ep : Nat) (tup : Addr) (k : Tok) (hs : Str) (kh kp : Tok) (n t : Nat) (V : (p2NoneC ((Wf w b1 b2)).params (p2F (Wf w b1 b2)) (lawF (Wf w b1 b2)) b L es ep n tup (Kf [t, t + 1]) k hs kh kp (n + 1) (t + 2)).sp.Valid (model prog (Wf w b1 b2)) (stW (Wf w b1 b2))) :
    (p2ErrC ((Wf w b1 b2)).params (p2F (Wf w b1 b2)) (lawF (Wf w b1 b2)) b L es ep tup noT k hs kh kp n t (p2NoneC ((Wf w b1 b2)).params (p2F (Wf w b1 b2)) (lawF (Wf w b1 b2)) b L es ep n tup (Kf [t, t + 1]) k hs kh kp (n + 1) (t + 2)).sp false 94 11 24 0).sp.Valid (model prog (Wf w b1 b2)) (stW (Wf w b1 b2)) := by
  refine Con.valid _ 300 1594505609712148263339944886272 (all_cons (V) all_nil) rfl ?_
  intro p q
  (generalize b1 = c1; generalize b2 = c2; revert c1 c2; refine split2 ?_ ?_ ?_ ?_ <;> kernel_rfl)
end
end
end Mine

namespace Mine
section
open PySem PySem.W Sem
/-- what holds between two statements of the law -/
structure At (st : ST) (s0 : Shared) (old : List Addr) (lots : List (List Ent)) (n t : Nat) (s : Shared) : Prop where
  pre : PreOk st lots.flatten n t s
  own : ∀ q ∈ lots.flatten, s0.heap.objs.size ≤ q.1 ∨ q.1 ∈ old
  keep : ∀ b, b < s0.heap.objs.size → b ∉ old → s.heap.get? b = s0.heap.get? b
  mono : s0.heap.objs.size ≤ s.heap.objs.size
  gens : GLe s.gens s0.gens
  drawn : s.drawn = s0.drawn
  os : s.os = s0.os
  life : s.heap.life = s0.heap.life
theorem PreOk.sub {st : ST} {a b : List Ent} {n t : Nat} {s : Shared} (h : PreOk st a n t s) (hs : ∃ c, a.Perm (b ++ c)) : PreOk st b n t s := by
  obtain ⟨c, hp⟩ := hs
  have mem : ∀ q, q ∈ b → q ∈ a := fun q hq => hp.mem_iff.mpr (List.mem_append_left _ hq)
  refine ⟨h.size, h.toks, fun q hq => h.own q (mem q hq), ?_, h.stat, fun q hq => h.apart q (mem q hq)⟩
  have hpa : (adr a).Perm (adr (b ++ c)) := hp.map _
  have : (adr (b ++ c)).Nodup := hpa.nodup_iff.mp h.nodup
  rw [adr_append'] at this
  exact (List.nodup_append.mp this).1
theorem At.step {st : ST} {s0 : Shared} {old : List Addr} {pre rest : List (List Ent)} {e : XEff} {n t : Nat} {s s' : Shared} (A : At st s0 old (pre ++ rest) n t s) (po : XPost pre e s s') : At st s0 old ((e.post ++ e.news) ++ rest) e.n e.t s' := by
  obtain ⟨P, own, keep, mono, gens, drawn, os, life⟩ := A
  rw [List.flatten_append] at P own
  have nd : (adr pre.flatten ++ adr rest.flatten).Nodup := by have := P.nodup; rwa [adr_append'] at this
  have hkeep : ∀ q ∈ rest.flatten, s'.heap.get? q.1 = some q.2 := fun q hq => by
    have hq' := P.own q (List.mem_append_right _ hq)
    rw [po.fra.keep q.1 (Heap.lt_size hq')]
    · exact hq'
    · intro hm
      exact (List.nodup_append.mp nd).2.2 _ hm _ (List.mem_map.mpr ⟨q, hq, rfl⟩) rfl
  have pads : ∀ a, a ∈ adr pre.flatten → ∃ q ∈ pre.flatten, q.1 = a := fun a ha => by
    obtain ⟨q, hq, e⟩ := List.mem_map.mp ha; exact ⟨q, hq, e⟩
  have flat : ((e.post ++ e.news) ++ rest).flatten = (e.post.flatten ++ e.news.flatten) ++ rest.flatten := by rw [List.flatten_append, List.flatten_append]
  have cases' : ∀ q ∈ ((e.post ++ e.news) ++ rest).flatten, (q ∈ e.post.flatten ∧ q.1 ∈ adr pre.flatten) ∨ (q ∈ e.news.flatten ∧ s.heap.objs.size ≤ q.1) ∨ q ∈ rest.flatten := fun q hq => by
    rw [flat] at hq
    rcases List.mem_append.mp hq with hq | hq
    · rcases List.mem_append.mp hq with hq | hq
      · exact .inl ⟨hq, by rw [← po.len]; exact List.mem_map.mpr ⟨q, hq, rfl⟩⟩
      · exact .inr (.inl ⟨hq, po.fresh q hq⟩)
    · exact .inr (.inr hq)
  refine ⟨⟨po.size, po.toks, fun q hq => ?_, ?_, fun a o h => ?_, fun q hq => ?_⟩, fun q hq => ?_, fun b hb ho => ?_, Nat.le_trans mono po.fra.mono, po.fra.gens.trans gens, po.fra.drawn.trans drawn, po.fra.os.trans os, po.fra.life.trans life⟩
  · rcases cases' q hq with ⟨h, _⟩ | ⟨h, _⟩ | h
    · exact po.own q h
    · exact po.news q h
    · exact hkeep q h
  · rw [flat, adr_append', adr_append', po.len]
    refine List.nodup_append.mpr ⟨List.nodup_append.mpr ⟨(List.nodup_append.mp nd).1, po.nodup, fun a ha b hb e => ?_⟩, (List.nodup_append.mp nd).2.1, fun a ha b hb e => ?_⟩
    · subst e
      obtain ⟨q, hq, rfl⟩ := pads a ha
      obtain ⟨q', hq', e'⟩ := List.mem_map.mp hb
      have h1 := Heap.lt_size (P.own q (List.mem_append_left _ hq))
      have h2 := po.fresh q' hq'
      rw [e'] at h2
      exact absurd h1 (Nat.not_lt.mpr h2)
    · subst e
      rcases List.mem_append.mp ha with ha | ha
      · exact (List.nodup_append.mp nd).2.2 _ ha _ hb rfl
      · obtain ⟨q', hq', e'⟩ := List.mem_map.mp ha
        obtain ⟨q, hq, e''⟩ := List.mem_map.mp hb
        have h1 := Heap.lt_size (P.own q (List.mem_append_right _ hq))
        have h2 := po.fresh q' hq'
        rw [e', ← e''] at h2
        exact absurd h1 (Nat.not_lt.mpr h2)
  · rw [po.fra.keep a (Heap.lt_size (P.stat a o h))]
    · exact P.stat a o h
    · intro hm
      obtain ⟨q, hq, rfl⟩ := pads a hm
      have := P.apart q (List.mem_append_left _ hq)
      rw [h] at this; cases this
  · rcases cases' q hq with ⟨_, h⟩ | ⟨_, h⟩ | h
    · obtain ⟨q', hq', e'⟩ := pads _ h
      rw [← e']; exact P.apart q' (List.mem_append_left _ hq')
    · cases e' : st.get q.1 with
      | none => rfl
      | some o => exact absurd (Heap.lt_size (P.stat _ o e')) (Nat.not_lt.mpr h)
    · exact P.apart q (List.mem_append_right _ h)
  · rcases cases' q hq with ⟨_, h⟩ | ⟨_, h⟩ | h
    · obtain ⟨q', hq', e'⟩ := pads _ h
      rw [← e']; exact own q' (List.mem_append_left _ hq')
    · exact .inl (Nat.le_trans mono h)
    · exact own q (List.mem_append_right _ h)
  · rw [po.fra.keep b (Nat.lt_of_lt_of_le hb mono)]
    · exact keep b hb ho
    · intro hm
      obtain ⟨q, hq, rfl⟩ := pads b hm
      rcases own q (List.mem_append_left _ hq) with h | h
      · exact absurd hb (Nat.not_lt.mpr h)
      · exact ho h
/-- the lots taken in another order, some left -/
noncomputable def pick {α : Type} (l : List α) : List Nat → List α
  | [] => []
  | i :: is => match l[i]? with | some x => x :: pick l is | none => pick l is
theorem pick_cons {α : Type} (a : α) (l : List α) : ∀ (is : List Nat), pick (a :: l) (is.map (· + 1)) = pick l is
  | [] => rfl
  | i :: is => by
    show (match (a :: l)[i + 1]? with | some x => x :: pick (a :: l) (is.map (· + 1)) | none => pick (a :: l) (is.map (· + 1))) = (match l[i]? with | some x => x :: pick l is | none => pick l is)
    rw [List.getElem?_cons_succ, pick_cons a l is]
theorem pick_perm {α : Type} (l : List α) : ∀ (is is' : List Nat), is.Perm is' → (pick l is).Perm (pick l is') := by
  intro is is' h
  induction h with
  | nil => exact List.Perm.refl _
  | cons x _ ih =>
    unfold pick
    cases l[x]? with
    | none => exact ih
    | some v => exact ih.cons v
  | swap x y r =>
    show (pick l (y :: x :: r)).Perm (pick l (x :: y :: r))
    unfold pick
    cases hx : l[x]? <;> cases hy : l[y]? <;> (unfold pick; simp only [hx, hy]) <;> first | exact List.Perm.refl _ | exact List.Perm.swap _ _ _
  | trans _ _ a b => exact a.trans b
theorem pick_append {α : Type} (l : List α) : ∀ (a b : List Nat), pick l (a ++ b) = pick l a ++ pick l b
  | [], _ => rfl
  | i :: a, b => by
    show (match l[i]? with | some x => x :: pick l (a ++ b) | none => pick l (a ++ b)) = (match l[i]? with | some x => x :: pick l a | none => pick l a) ++ pick l b
    rw [pick_append l a b]
    cases l[i]? <;> rfl
theorem pick_all {α : Type} : ∀ (l : List α), pick l (List.range l.length) = l
  | [] => rfl
  | a :: l => by
    rw [List.length_cons, List.range_succ_eq_map]
    show a :: pick (a :: l) ((List.range l.length).map (· + 1)) = _
    rw [pick_cons, pick_all l]
theorem pick_sub {α : Type} (l : List α) (is : List Nat) (hn : is.Nodup) (hl : ∀ i ∈ is, i < l.length) : ∃ r, l.Perm (pick l is ++ r) := by
  let r := (List.range l.length).filter fun i => !(is.contains i)
  have hr : (List.range l.length).Perm (is ++ r) := by
    refine (List.perm_ext_iff_of_nodup List.nodup_range (List.nodup_append.mpr ⟨hn, List.nodup_range.filter _, fun a ha b hb e => ?_⟩)).mpr fun a => ?_
    · subst e
      have := (List.mem_filter.mp hb).2
      simp at this
      exact this ha
    · rw [List.mem_append, List.mem_filter]
      constructor
      · intro h
        by_cases ha : a ∈ is
        · exact .inl ha
        · exact .inr ⟨h, by simpa using ha⟩
      · rintro (h | ⟨h, _⟩)
        · exact List.mem_range.mpr (hl a h)
        · exact h
  refine ⟨pick l r, ?_⟩
  have := pick_perm l _ _ hr
  rw [pick_all, pick_append] at this
  exact this
theorem At.pick {st : ST} {s0 : Shared} {old : List Addr} {lots : List (List Ent)} {n t : Nat} {s : Shared} (A : At st s0 old lots n t s) (is : List Nat) {lots' : List (List Ent)} (hn : is.Nodup) (hl : ∀ i ∈ is, i < lots.length) (he : Mine.pick lots is = lots') : At st s0 old lots' n t s := by
  subst he
  obtain ⟨r, hr⟩ := pick_sub lots is hn hl
  have hf : lots.flatten.Perm ((Mine.pick lots is).flatten ++ r.flatten) := by
    rw [← List.flatten_append]; exact hr.flatten
  exact ⟨A.pre.sub ⟨r.flatten, hf⟩, fun q hq => A.own q (hf.mem_iff.mpr (List.mem_append_left _ hq)), A.keep, A.mono, A.gens, A.drawn, A.os, A.life⟩
/-- the lots parted otherwise -/
theorem At.flat {st : ST} {s0 : Shared} {old : List Addr} {lots lots' : List (List Ent)} {n t : Nat} {s : Shared} (A : At st s0 old lots n t s) (h : lots'.flatten = lots.flatten) : At st s0 old lots' n t s :=
  ⟨by rw [h]; exact A.pre, by rw [h]; exact A.own, A.keep, A.mono, A.gens, A.drawn, A.os, A.life⟩

/-! statements of the law -/
noncomputable def segT (seg : List Stmt) (env : Env) : Sem PySem.Fin := (Fast.tw12563942051412417395 seg env).bind fun f => .pure (.done f)
theorem execs_append (a b : List Stmt) (env : Env) : execs (a ++ b) env = execs a env >>= fun f => match f with | .next => execs b env | f => Pure.pure f := by
  induction a with
  | nil => rfl
  | cons s a ih =>
    show (exec s env >>= fun f => match f with | .next => execs (a ++ b) env | f => Pure.pure f) = (exec s env >>= fun f => match f with | .next => execs a env | f => Pure.pure f) >>= _
    rw [LawfulMonad.bind_assoc]
    congr 1
    funext f
    cases f with
    | next => exact ih
    | _ => rfl
noncomputable abbrev lawG (body : List Stmt) (env : Env) (p0 : Pos) : Ctx := ⟨.func body env, none, none, [(.builtin "claim.caller" {}, p0)], none⟩
theorem seg_ok {w : World} {st : ST} {body seg : List Stmt} {env : Env} (fuel orc : Nat) (ss : List XS) {pre : List (List Ent)} {n t : Nat} {fl : Flow} {e : XEff} (V : ∀ y ∈ ss, y.Valid (model prog w) st) (len : adr e.post.flatten = adr pre.flatten) (hfl : e.r = .ok fl)
    (h : ∀ p q, rep (closingX (e.post ++ e.news) (ex prog w.params st fuel (.func body env) none (mkB [.builtin "claim.caller" {}] q) (segT seg env) p (beginX pre n t orc ss))) =
      dia e.r e.n e.t (closingX (e.post ++ e.news) (ex prog w.params st fuel (.func body env) none (mkB [.builtin "claim.caller" {}] q) (segT seg env) p (beginX pre n t orc ss))))
    {s0 : Shared} {old : List Addr} {rest : List (List Ent)} {s : Shared} (A : At st s0 old (pre ++ rest) n t s) (p p0 : Pos) :
    wp (model prog w) (lawG body env p0) (execs seg env) (fun f _ s' => f = fl ∧ At st s0 old ((e.post ++ e.news) ++ rest) e.n e.t s') (fun _ _ _ => False) p s := by
  have e1 : execs = Fast.tw12563942051412417395 := Fast.te12563942051412417395
  have hp : PreOk st pre.flatten n t s := A.pre.sub ⟨rest.flatten, by rw [List.flatten_append]⟩
  obtain ⟨s', hr, po⟩ := runX_ok fuel orc ss V len (h p fun _ => p0) hp
  have hw := (wp_iff_runs (model prog w) (lawG body env p0) (segT seg env) (fun r' s'' => r' = .ok fl ∧ s'' = s') p s).mpr ⟨_, s', hr, hfl, rfl⟩
  unfold segT at hw
  rw [Sem.wp_bind, ← e1] at hw
  refine wp_mono _ _ _ ?_ ?_ p s hw
  · rintro f p' s'' ⟨h1, rfl⟩
    injection h1 with h1
    exact ⟨h1, A.step po⟩
  · rintro _ _ _ ⟨h1, _⟩; cases h1
theorem seg_then {w : World} {Γ : Ctx} {l : List Stmt} {env : Env} (j : Nat) {Q : Flow → Pos → Shared → Prop} {E : Value → Pos → Shared → Prop} {p : Pos} {s : Shared}
    (h : wp (model prog w) Γ (execs (l.take j) env) (fun f p' s' => f = .next ∧ wp (model prog w) Γ (execs (l.drop j) env) Q E p' s') E p s) : wp (model prog w) Γ (execs l env) Q E p s := by
  have : execs l env = execs (l.take j) env >>= fun f => match f with | .next => execs (l.drop j) env | f => Pure.pure f := by
    rw [← execs_append, List.take_append_drop]
  rw [this, wp_bind']
  refine wp_mono _ _ _ ?_ (fun _ _ _ x => x) p s h
  rintro f p' s' ⟨rfl, h⟩
  exact h
end
end Mine

namespace Mine
section
open PySem PySem.W Sem
noncomputable abbrev modZS (a : Int) (s : Tok) (b : Int) (u : Tok) (z : Int) : Mine.Spec := pureS "int.__mod__" [.int a s, .int b u] (fun t => .int z t) 1
theorem modZV {w : World} {st : ST} (a : Int) (s : Tok) (b : Int) (u : Tok) (z : Int) (hb : (b == 0) = false) (h : a.fmod b = z) : (modZS a s b u z).Valid (model prog w) st := by
  subst h
  exact pure_int (by decide +kernel) PySem.F.entry_int_mod (PySem.AutoIntG6.int___mod___int_int_1 a s b u (by rw [hb]; decide))
noncomputable def smC (f : FuncData) : Expr := match (bodyOf f).getD 0 default with | .Assign _ lc _ => lc | _ => default
noncomputable def smI (f : FuncData) : Expr := match smC f with | .ListComp (.BinOp _ _ (.Call _ (lc :: _) _ _) _) _ _ _ => lc | _ => default
noncomputable def smEnv (lc : Expr) (L loc : Addr) (cells : List (Str × Addr)) : Env := { scope := ownScope (scOf lc), locals := loc, globals := 3, cells := cells, qual := "law.<locals>.", func := none, code := .ref 222, frame := some L, builtins := 0 }
/-- the comprehension within the first statement -/
structure Sx where
  L : Addr
  it : Addr
  l : Addr
  acc : Addr
  loc : Addr
  oit : Addr
  oacc : Addr
  oloc : Addr
  xs : List (Int × Tok)
noncomputable def Sx.out (g : Sx) (f : FuncData) : Code := .compLoop (smC f) 0 (.ref g.oit) (.ref g.oacc) (smEnv (smC f) g.L g.oloc [("script", g.L + 1)])
noncomputable def Sx.loop (g : Sx) (f : FuncData) : Code := .compLoop (smI f) 0 (.ref g.it) (.ref g.acc) (smEnv (smI f) g.L g.loc [])
noncomputable def Sx.cds (g : Sx) (f : FuncData) : List Code := g.out f :: lawCds (bodyOf f) (lawEnv f g.L)
noncomputable def Sx.pre (g : Sx) (P : Params) (i : Nat) (ys : List (Int × Tok)) (ep2 : Nat) (fs : Option (Tok × Value)) : List Ent := [(g.it, litO g.l i), (g.l, lstO (izA g.xs) 0), (g.acc, lstO (izA ys) ep2), (g.loc, oneO P "number" fs)]
noncomputable def Sx.at (g : Sx) (P : Params) (f : FuncData) (n t i : Nat) (ys : List (Int × Tok)) (ep2 : Nat) (fs : Option (Tok × Value)) (e : Eff) : Mine.Spec := Mine.mk (g.loop f) none (g.cds f) n t (g.pre P i ys ep2 fs) e
noncomputable def smTurnC (g : Sx) (P : Params) (f : FuncData) (n t i : Nat) (ys : List (Int × Tok)) (ep2 : Nat) (fs : Option (Tok × Value)) (x : Int × Tok) (z : Int) (er : Result) (en et : Nat) (p1 p2 p3 p4 : Obj) : Con :=
  ⟨g.loop f, g.cds f, n, t, g.pre P i ys ep2 fs, ⟨er, en, et, [p1, p2, p3, p4], []⟩, [lnextS g.it g.l (izA g.xs) 0 i (.int x.1 x.2), modZS x.1 x.2 1000000 (t + 3) z, appS' g.acc (izA ys) ep2 (.int z (t + 4)) (izA (ys ++ [(z, t + 4)])),
    g.at P f n (t + 5) (i + 1) (ys ++ [(z, t + 4)]) (ep2 + 1) (some (kOf fs t, .int x.1 x.2)) ⟨er, en, et, [p1, p2, p3, p4], []⟩]⟩
noncomputable def smEndC (g : Sx) (P : Params) (f : FuncData) (n t i : Nat) (ys : List (Int × Tok)) (ep2 : Nat) (fs : Option (Tok × Value)) : Con :=
  ⟨g.loop f, g.cds f, n, t, g.pre P i ys ep2 fs, ⟨.ok .next, n + 2, t, [litX i, lstO (izA g.xs) 0, lstO (izA ys) ep2, oneO P "number" fs], []⟩, [lendS (g.loop f :: g.cds f) g.it g.l (izA g.xs) 0 i]⟩
/-! the outer comprehension, a turn -/
noncomputable def enO (f0 : Value) (li : Addr) (j : Nat) (old : Value) : Obj := { cls := .type "enumerate", data := .fields ⟨[f0, .bool false, .ref li, .int (Int.ofNat j) 0, .none, old]⟩ }
noncomputable def smG (f : FuncData) : Comprehension := match smC f with | .ListComp _ (g :: _) _ _ => g | _ => ⟨default, default, [], 0⟩
noncomputable def smElt (f : FuncData) : Expr := match smC f with | .ListComp e _ _ _ => e | _ => default
/-- where the outer comprehension's parts lie -/
structure Ox where
  L : Addr
  S : Addr
  en : Addr
  li : Addr
  il : Addr
  acc : Addr
  loc : Addr
  t0 : Nat
  scr : List (Int × Tok)
  eps : Nat
noncomputable def Ox.env (g : Ox) (f : FuncData) : Env := smEnv (smC f) g.L g.loc [("script", g.L + 1)]
noncomputable def Ox.code (g : Ox) (f : FuncData) : Code := .compLoop (smC f) 0 (.ref g.en) (.ref g.acc) (g.env f)
noncomputable def Ox.nums (g : Ox) : List Value := [.int 18 g.t0, .int 23 (g.t0 + 1), .int 46 (g.t0 + 2)]
noncomputable def locO (P : Params) : Option ((Tok × Value) × (Tok × Value)) → Obj
  | none => dictO [] 0
  | some ((k, v), (k2, v2)) => dictO [de P "place" k v, de P "start" k2 v2] 2
noncomputable def Ox.next (g : Ox) (j : Nat) (old : Value) : List Ent := [(g.en, enO .none g.li j old), (g.li, litO g.il j), (g.il, lstO ⟨g.nums⟩ 0)]
noncomputable def Ox.more (g : Ox) (P : Params) (as : List (Int × Tok)) (fs : Option ((Tok × Value) × (Tok × Value))) : List Ent := [(g.acc, lstO (izA as) as.length), (g.loc, locO P fs), (g.L + 1, cellO (.ref g.S)), (g.S, lstO (izA g.scr) g.eps)]
noncomputable def Ox.sx (g : Ox) (n : Nat) (xs : List (Int × Tok)) : Sx := ⟨g.L, n + 6, n + 5, n + 7, n + 8, g.en, g.acc, g.loc, xs⟩
/-- what one turn leaves -/
noncomputable def fv : Option (Tok × (Int × Tok)) → Option (Tok × Value)
  | none => none
  | some (k, x) => some (k, .int x.1 x.2)
structure Sj where
  xs : List (Int × Tok)
  ys : List (Int × Tok)
  n : Nat
  t : Nat
  i : Nat
  ep : Nat
  fs : Option (Tok × (Int × Tok))
  k : Tok
noncomputable def Sj.nx (j : Sj) : Nat := j.n + 4
noncomputable def Sj.tx (j : Sj) : Nat := j.t + 1 + j.ys.length + 1
noncomputable def Sj.v (j : Sj) (start : Int) : Int × Tok := (start + totalZ 0 j.ys, j.t + 1 + j.ys.length)
noncomputable def sjS (P : Params) (f : FuncData) (g : Ox) (n t : Nat) (p : Nat) (j : Sj) : List XS :=
  [(lslS g.S (n + 4) (izA g.scr) g.eps (.int (Int.ofNat p) t) (.int 63 (t + 3)) (.int 3 (t + 4)) (izA j.xs)).x,
    ((g.sx n j.xs).at P f (n + 9) (t + 5) 0 [] 0 none ⟨.ok .next, j.n, j.t, [litX j.i, lstO (izA j.xs) 0, lstO (izA j.ys) j.ep, oneO P "number" (fv j.fs)], []⟩).x,
    (sumS ((g.sx n j.xs).cds f) (n + 7) j.ys j.ep j.n j.t (totalZ 0 j.ys) j.k).x]
noncomputable def kP (fs : Option ((Tok × Value) × (Tok × Value))) (t : Tok) : Tok := match fs with | none => t | some ((k, _), _) => k
noncomputable def kS (fs : Option ((Tok × Value) × (Tok × Value))) (t : Tok) : Tok := match fs with | none => t | some (_, (k, _)) => k
noncomputable def startOf : Nat → Int
  | 0 => 18
  | 1 => 23
  | _ => 46
/-- the list and its iterator, once the last number is read -/
noncomputable def Ox.all (g : Ox) (P : Params) (j : Nat) (old : Value) (as : List (Int × Tok)) (fs : Option ((Tok × Value) × (Tok × Value))) : List (List Ent) := sing (g.next j old ++ g.more P as fs)
noncomputable def Ox.at (g : Ox) (P : Params) (f : FuncData) (n t : Nat) (j : Nat) (old : Value) (as : List (Int × Tok)) (fs : Option ((Tok × Value) × (Tok × Value))) (e : XEff) : XS := mkx (g.code f) none (lawCds (bodyOf f) (lawEnv f g.L)) n t (g.all P j old as fs) e
noncomputable def smNewFs (fs : Option ((Tok × Value) × (Tok × Value))) (t p : Nat) (st : Value) : Option ((Tok × Value) × (Tok × Value)) := some ((kP fs (t + 1), .int (Int.ofNat p) t), (kS fs (t + 2), st))
/-- the rest of a turn, behind the owned tuple -/
noncomputable def oxRestC (P : Params) (f : FuncData) (g : Ox) (n t p : Nat) (as : List (Int × Tok)) (fs : Option ((Tok × Value) × (Tok × Value))) (j : Sj) (er : Result) (en et : Nat) (q1 q2 q3 q4 q5 q6 q7 : Obj) : ConX :=
  let st := g.nums.getD p .none
  let post := sing [(g.en, q1), (g.li, q2), (g.il, q3), (g.acc, q4), (g.loc, q5), (g.L + 1, q6), (g.S, q7)]
  ⟨g.code f, lawCds (bodyOf f) (lawEnv f g.L), n + 1, t + 1, g.all P (p + 1) st as fs ++ [[(n, tupO [.int (Int.ofNat p) t, st])]], ⟨er, en, et, post ++ [[(n, tupO [.int (Int.ofNat p) t, st])]], []⟩,
    sjS P f g n t p j ++ [g.at P f j.nx j.tx (p + 1) st (as ++ [j.v (startOf p)]) (smNewFs fs t p st) ⟨er, en, et, post, []⟩]⟩
noncomputable def oxEndC (P : Params) (f : FuncData) (g : Ox) (n t : Nat) (old : Value) (as : List (Int × Tok)) (fs : Option ((Tok × Value) × (Tok × Value))) : ConX :=
  ⟨g.code f, lawCds (bodyOf f) (lawEnv f g.L), n, t, g.all P 3 old as fs, ⟨.ok .next, n + 2, t, sing ([(g.en, enO .none g.li 3 old), (g.li, litX 3), (g.il, lstO ⟨g.nums⟩ 0)] ++ g.more P as fs), []⟩, []⟩
noncomputable def cellN : Obj := { cls := .type "cell", data := .cell none }
noncomputable def Ox.of (L S n t : Nat) (scr : List (Int × Tok)) (eps : Nat) : Ox := ⟨L, S, n + 2, n + 1, n, n + 3, n + 4, t, scr, eps⟩
noncomputable def smEnd (P : Params) (g : Ox) (vs : List (Int × Tok)) (n' t' : Nat) (fs : Option ((Tok × Value) × (Tok × Value))) : XEff := ⟨.ok .next, n', t', sing ([(g.en, enO .none g.li 3 (.int 46 (g.t0 + 2))), (g.li, litX 3), (g.il, lstO ⟨g.nums⟩ 0)] ++ g.more P vs fs), []⟩
/-- the first statement -/
noncomputable def smBC (P : Params) (f : FuncData) (L S n t : Nat) (scr : List (Int × Tok)) (eps : Nat) (vs : List (Int × Tok)) (n' t' : Nat) (fs : Option ((Tok × Value) × (Tok × Value))) : ConX :=
  ⟨.func (bodyOf f) (lawEnv f L), [.builtin "claim.caller" {}], n, t, [[(L, lfO [] 0 #[])], [(L + 1, cellO (.ref S))], [(L + 2, cellN)], [(S, lstO (izA scr) eps)]],
    ⟨.ok .next, n', t', [[(L, lfO [] 0 #[])], [(L + 1, cellO (.ref S))], [(L + 2, cellO (.ref (n + 3)))], [(S, lstO (izA scr) eps)]], [[(n + 3, lstO (izA vs) vs.length)]]⟩,
    [(Ox.of L S n t scr eps).at P f (n + 5) (t + 3) 0 .none [] none (smEnd P (Ox.of L S n t scr eps) vs n' t' fs)]⟩
end
end Mine

namespace Mine
section
open PySem PySem.W Sem
theorem izA_push (l : List (Int × Tok)) (r : Int × Tok) : (izA l).push (.int r.1 r.2) = izA (l ++ [r]) := by
  apply Array.ext'
  show ((izA l).push _).toList = izVs _
  rw [Array.toList_push]
  unfold izA izVs
  simp
theorem izA_size (l : List (Int × Tok)) : (izA l).size = l.length := by
  show (izVs l).length = _
  unfold izVs; simp
theorem fmod_small (a : Int) : 0 ≤ a.fmod 1000000 ∧ a.fmod 1000000 ≤ 999999 := by
  rw [Int.fmod_eq_emod_of_nonneg a (by decide)]
  have h1 := Int.emod_nonneg a (show (1000000 : Int) ≠ 0 by decide)
  have h2 := Int.emod_lt_of_pos a (show (0 : Int) < 1000000 by decide)
  omega
section
variable (w : World) (b1 b2 : Bool)
theorem sm_loop (g : Sx) : ∀ (rest : List (Int × Tok)) (i : Nat) (ys : List (Int × Tok)) (ep2 : Nat) (fs : Option (Tok × (Int × Tok))) (n t : Nat), g.xs.drop i = rest → ys.length + rest.length ≤ 1000 → (∀ y ∈ ys, 0 ≤ y.1 ∧ y.1 ≤ 999999) →
    ∃ (n' t' i' : Nat) (ys' : List (Int × Tok)) (ep' : Nat) (fs' : Option (Tok × (Int × Tok))), ys'.length ≤ 1000 ∧ (∀ y ∈ ys', 0 ≤ y.1 ∧ y.1 ≤ 999999) ∧
      (g.at ((Wf w b1 b2)).params (lawF (Wf w b1 b2)) n t i ys ep2 (fv fs) ⟨.ok .next, n', t', [litX i', lstO (izA g.xs) 0, lstO (izA ys') ep', oneO ((Wf w b1 b2)).params "number" (fv fs')], []⟩).Valid (model prog (Wf w b1 b2)) (stW (Wf w b1 b2)) := by
  intro rest
  induction rest with
  | nil =>
    intro i ys ep2 fs n t hx hz hy
    have hn : g.xs[i]? = none := List.getElem?_eq_none_iff.mpr (List.drop_eq_nil_iff.mp hx)
    refine ⟨n + 2, t, i, ys, ep2, fs, by simpa using hz, hy, ?_⟩
    have V : (smEndC g ((Wf w b1 b2)).params (lawF (Wf w b1 b2)) n t i ys ep2 (fv fs)).sp.Valid (model prog (Wf w b1 b2)) (stW (Wf w b1 b2)) := by
      refine Con.valid _ 300 4750181303575507910657 (all_cons (lendV _ _ _ _ _ _ (izA_none hn)) all_nil) rfl ?_
      intro p q
      rcases fs with _ | ⟨kf, vf⟩ <;> (generalize b2 = c2; revert c2; refine split1 ?_ ?_ <;> kernel_rfl)
    exact V
  | cons x rest ih =>
    intro i ys ep2 fs n t hx hz hy
    have hsl : sizeLine = 16777216 := rfl
    have hs : g.xs[i]? = some x := by
      have := congrArg (fun l => l[0]?) hx
      simpa using this
    have hd : g.xs.drop (i + 1) = rest := by
      have := congrArg List.tail hx
      simpa using this
    have hz' : ys.length + (rest.length + 1) ≤ 1000 := hz
    obtain ⟨n', t', i', ys', ep', fs', h1, h2, V⟩ := ih (i + 1) (ys ++ [(x.1.fmod 1000000, t + 4)]) (ep2 + 1) (some (kOf (fv fs) t, x)) n (t + 5) hd (by rw [List.length_append]; show ys.length + 1 + rest.length ≤ _; omega) (fun y hy' => by
      rcases List.mem_append.mp hy' with h | h
      · exact hy y h
      · rw [List.mem_singleton.mp h]; exact fmod_small x.1)
    refine ⟨n', t', i', ys', ep', fs', h1, h2, ?_⟩
    have W1 := lnextV (w := (Wf w b1 b2)) g.it g.l (izA g.xs) 0 i (.int x.1 x.2) (izA_get hs)
    have W2 := modZV (w := (Wf w b1 b2)) (st := stW (Wf w b1 b2)) x.1 x.2 1000000 (t + 3) _ (by decide) rfl
    have W3 := appV' (w := (Wf w b1 b2)) (st := stW (Wf w b1 b2)) g.acc (izA ys) ep2 (.int (x.1.fmod 1000000) (t + 4)) _ (izA_push ys (x.1.fmod 1000000, t + 4)) (by rw [izA_size]; omega)
    have key : (smTurnC g ((Wf w b1 b2)).params (lawF (Wf w b1 b2)) n t i ys ep2 (fv fs) x (x.1.fmod 1000000) (.ok .next) n' t' (litX i') (lstO (izA g.xs) 0) (lstO (izA ys') ep') (oneO ((Wf w b1 b2)).params "number" (fv fs'))).sp.Valid (model prog (Wf w b1 b2)) (stW (Wf w b1 b2)) := by
      refine Con.valid _ 300 192690245426045747543016226726242290609563519495979009 (all_cons (W1) (all_cons (W2) (all_cons (W3) (all_cons (V) all_nil)))) rfl ?_
      intro p q
      rcases fs with _ | ⟨kf, vf⟩ <;> (generalize b2 = c2; revert c2; refine split1 ?_ ?_ <;> kernel_rfl)
    exact key
theorem slice_izA (scr : List (Int × Tok)) (lo hi sp : Option Int) : ∃ xs : List (Int × Tok), slicePick (izA scr) lo hi sp = izA xs ∧ xs.length ≤ scr.length := by
  let is := sliceRange (sliceBounds lo hi sp (izA scr).size).1 (sliceBounds lo hi sp (izA scr).size).2.1 (sliceBounds lo hi sp (izA scr).size).2.2
  have e : slicePick (izA scr) lo hi sp = izA (is.filterMap fun i => scr[i]?) := by
    unfold slicePick
    apply Array.ext'
    show (is.filterMap fun i => (izA scr)[i]?) = izVs (is.filterMap fun i => scr[i]?)
    unfold izVs
    rw [List.map_filterMap]
    congr 1
    funext i
    rw [← Array.getElem?_toList]
    show (izVs scr)[i]? = _
    unfold izVs
    rw [List.getElem?_map]
  refine ⟨_, e, ?_⟩
  have := slicePick_size_le (izA scr) lo hi sp
  rw [e, izA_size, izA_size] at this
  exact this
/-- what the library's names for a comprehension's turn say here -/
noncomputable def smP (f : FuncData) : Pos := match smC f with | .ListComp _ _ _ p => p | _ => default
theorem compTurn_list (elt target iter : Expr) (scope : Scope) (pos : Pos) (it acc : Value) (env : Env) :
    compTurn (.ListComp elt [⟨target, iter, [], 0⟩] scope pos) 0 it acc env = (PySem.standAt iter.pos >>= fun _ => pyNext it >>= fun o => match o with
      | none => Pure.pure (.done .next)
      | some v => letOwnedTupleGo target it v >>= fun _ => assign target env v >>= fun _ => eval elt env >>= fun x => PySem.call (.builtin "list.append") [acc, x] >>= fun _ => PySem.again (.compLoop (.ListComp elt [⟨target, iter, [], 0⟩] scope pos) 0 it acc env)) := by
  unfold compTurn
  simp only [List.getElem?_cons_zero, List.forIn_nil, pure_bind, bne_self_eq_false, Bool.false_eq_true, if_false, if_true, List.getElem?_cons_succ, List.getElem?_nil]
  congr 1
  funext _
  congr 1
  funext o
  cases o with
  | none => rfl
  | some v =>
    show (letOwnedTupleGo target it v >>= fun _ => assign target env v >>= fun _ => (eval elt env >>= fun x => PySem.call (.builtin "list.append") [acc, x] >>= fun _ => Pure.pure ()) >>= fun _ => PySem.again (.compLoop (.ListComp elt [⟨target, iter, [], 0⟩] scope pos) 0 it acc env)) = _
    congr 1
    funext _
    congr 1
    funext _
    rw [LawfulMonad.bind_assoc]
    congr 1
    funext x
    rw [LawfulMonad.bind_assoc]
    congr 1
theorem app_all {Q : XS → Prop} {a b : List XS} (ha : ∀ y ∈ a, Q y) (hb : ∀ y ∈ b, Q y) : ∀ y ∈ a ++ b, Q y := fun y hy => by
  rcases List.mem_append.mp hy with h | h
  · exact ha y h
  · exact hb y h
theorem intV_beq (n : Nat) : (some (Value.int (Int.ofNat n) 0) == some (rawInt n)) = true := by
  show ((Value.int (Int.ofNat n) 0) == Value.int (Int.ofNat n) 0) = true
  exact beq_self_eq_true _
theorem den_out (w : World) (g : Ox) : (model prog w).den (g.code (lawF w)) = (compTurn (.ListComp (smElt (lawF w)) [⟨(smG (lawF w)).target, (smG (lawF w)).iter, [], 0⟩] (scOf (smC (lawF w))) (smP (lawF w))) 0 (.ref g.en) (.ref g.acc) (g.env (lawF w))).onRaise (fun x => do noteFrame x (g.env (lawF w)); theTreesLotGoes x) := by kernel_rfl
theorem code_out (w : World) (g : Ox) : Code.compLoop (.ListComp (smElt (lawF w)) [⟨(smG (lawF w)).target, (smG (lawF w)).iter, [], 0⟩] (scOf (smC (lawF w))) (smP (lawF w))) 0 (.ref g.en) (.ref g.acc) (g.env (lawF w)) = g.code (lawF w) := by kernel_rfl
noncomputable def oxRest (f : FuncData) (g : Ox) (v : Value) : Sem PySem.Fin :=
  Fast.tw17772580674575903948 (smG f).target (g.env f) v >>= fun _ => Fast.tw14044960220447912780 (smElt f) (g.env f) >>= fun x => Fast.tw11478286150595567475 (.builtin "list.append") [.ref g.acc, x] [] >>= fun _ => .pure (.again (g.code f))
theorem At.init {st : ST} {pre : List (List Ent)} {n t : Nat} {s : Shared} (hp : PreOk st pre.flatten n t s) : At st s (adr pre.flatten) pre n t s :=
  ⟨hp, fun q hq => .inr (List.mem_map.mpr ⟨q, hq, rfl⟩), fun _ _ _ => rfl, Nat.le_refl _, GLe.refl _, rfl, rfl, rfl⟩
theorem At.final {st : ST} {pre post news : List (List Ent)} {r : Result} {n t : Nat} {s s' : Shared} (A : At st s (adr pre.flatten) (post ++ news) n t s') (len : adr post.flatten = adr pre.flatten) : XPost pre ⟨r, n, t, post, news⟩ s s' := by
  have P := A.pre
  rw [List.flatten_append] at P
  have nd : (adr post.flatten ++ adr news.flatten).Nodup := by have := P.nodup; rwa [adr_append'] at this
  refine ⟨P.size, P.toks, len, fun q hq => P.own q (List.mem_append_left _ hq), fun q hq => P.own q (List.mem_append_right _ hq), fun q hq => ?_, (List.nodup_append.mp nd).2.1, ⟨A.keep, A.mono, A.gens, A.drawn, A.os, A.life⟩⟩
  rcases A.own q (by rw [List.flatten_append]; exact List.mem_append_right _ hq) with h | h
  · exact h
  · rw [← len] at h
    exact absurd rfl ((List.nodup_append.mp nd).2.2 _ h _ (List.mem_map.mpr ⟨q, hq, rfl⟩))
theorem owned_eq (w : World) (r a : Addr) : letOwnedTupleGo (smG (lawF w)).target (.ref r) (.ref a) = (PySem.load r >>= fun o => match o.cls, o.data with
    | .type n, .fields vs => if ["enumerate", "zip", "dict_itemiterator", "dict_reverseitemiterator", "odict_iterator", "itertools.zip_longest", "itertools.pairwise"].contains n && vs[0]? == some (rawInt a) then (PySem.rule "for.unpacks-the-owned-tuple" >>= fun _ => updateField r 0 .none) else Pure.pure ()
    | _, _ => Pure.pure ()) := by kernel_rfl
theorem oxRest_eq (f : FuncData) (g : Ox) (v : Value) : oxRest f g v = (assign (smG f).target (g.env f) v >>= fun _ => eval (smElt f) (g.env f) >>= fun x => PySem.call (.builtin "list.append") [.ref g.acc, x] >>= fun _ => PySem.again (g.code f)) := by
  rw [PySem.W.Fast.te17772580674575903948, PySem.W.Fast.te14044960220447912780, PySem.W.Fast.te11478286150595567475]; rfl
theorem rest_turn (g : Ox) (n t p : Nat) (hp3 : p = 0 ∨ p = 1 ∨ p = 2) (as : List (Int × Tok)) (fs : Option ((Tok × Value) × (Tok × Value))) (j : Sj) (er : Result) (en et : Nat) (q1 q2 q3 q4 q5 q6 q7 : Obj) (has : as.length = p)
    (VS : ∀ x ∈ (oxRestC ((Wf w b1 b2)).params (lawF (Wf w b1 b2)) g n t p as fs j er en et q1 q2 q3 q4 q5 q6 q7).ss, x.Valid (model prog (Wf w b1 b2)) (stW (Wf w b1 b2))) (below : List (Code × Pos)) (hb : below.map (·.1) = lawCds (bodyOf (lawF (Wf w b1 b2))) (lawEnv (lawF (Wf w b1 b2)) g.L)) (p0 : Pos) {s : Shared}
    (hp : PreOk (stW (Wf w b1 b2)) (oxRestC ((Wf w b1 b2)).params (lawF (Wf w b1 b2)) g n t p as fs j er en et q1 q2 q3 q4 q5 q6 q7).pre.flatten (n + 1) (t + 1) s) :
    ∃ s', Runs (model prog (Wf w b1 b2)) ⟨g.code (lawF (Wf w b1 b2)), none, none, below, none⟩ p0 (oxRest (lawF (Wf w b1 b2)) g (.ref n)) [] s (.ret er) s' ∧ XPost (oxRestC ((Wf w b1 b2)).params (lawF (Wf w b1 b2)) g n t p as fs j er en et q1 q2 q3 q4 q5 q6 q7).pre (oxRestC ((Wf w b1 b2)).params (lawF (Wf w b1 b2)) g n t p as fs j er en et q1 q2 q3 q4 q5 q6 q7).e s s' := by
  obtain ⟨q, hq⟩ := mkB_of below
  rw [hb] at hq
  rw [hq]
  refine runX_ok (w := (Wf w b1 b2)) (prog := prog) (st := stW (Wf w b1 b2)) 600 (bif j.fs.isSome then (bif b1 then 75265464676355759768248541241650595126951803855482886285534610141741514374296698416277311550012488760385274243432906354315598595525240303364749465590679425911476564000306260210102186996890408715272 else 331021014326467801769840664404578856068295644904965843849275462077327082222569920808473008232519987966338479087085812790177512550893282310419369233814875107588635135430924789010729443407143764341220638556554248) else (bif b1 then 4593839396750229478042513503518713081478991934538750383638586999378597908066950970547382451267215600200410117221529711784809718347308149986098222282408782959010240078481395700594476774724862984 else 20203919331449450791616251489537283695574685357969106680253629077485424842441891671358868285634698972087828936721907088231151172778619340822638767349964537437979732134250239707113874507518036194329668748296)) (oxRestC ((Wf w b1 b2)).params (lawF (Wf w b1 b2)) g n t p as fs j er en et q1 q2 q3 q4 q5 q6 q7).ss (pre := (oxRestC ((Wf w b1 b2)).params (lawF (Wf w b1 b2)) g n t p as fs j er en et q1 q2 q3 q4 q5 q6 q7).pre) (n := n + 1) (t := t + 1) (e := (oxRestC ((Wf w b1 b2)).params (lawF (Wf w b1 b2)) g n t p as fs j er en et q1 q2 q3 q4 q5 q6 q7).e) VS rfl ?_ hp
  obtain ⟨xs, ys, jn, jt, ji, je, jf, jk⟩ := j
  rcases hp3 with rfl | rfl | rfl
  · cases as with
    | nil => rcases fs with _ | ⟨⟨kf, vf⟩, ⟨kg, vg⟩⟩ <;> rcases jf with _ | ⟨kj, vj⟩ <;> (generalize b1 = c1; generalize b2 = c2; revert c1 c2; refine split2 ?_ ?_ ?_ ?_ <;> kernel_rfl)
    | cons a l => cases has
  · rcases as with _ | ⟨a, _ | ⟨b, l⟩⟩
    · cases has
    · rcases fs with _ | ⟨⟨kf, vf⟩, ⟨kg, vg⟩⟩ <;> rcases jf with _ | ⟨kj, vj⟩ <;> (generalize b1 = c1; generalize b2 = c2; revert c1 c2; refine split2 ?_ ?_ ?_ ?_ <;> kernel_rfl)
    · cases has
  · rcases as with _ | ⟨a, _ | ⟨b, _ | ⟨c, l⟩⟩⟩
    · cases has
    · cases has
    · rcases fs with _ | ⟨⟨kf, vf⟩, ⟨kg, vg⟩⟩ <;> rcases jf with _ | ⟨kj, vj⟩ <;> (generalize b1 = c1; generalize b2 = c2; revert c1 c2; refine split2 ?_ ?_ ?_ ?_ <;> kernel_rfl)
    · cases has
theorem out_turn (g : Ox) (n t p : Nat) (hp3 : p = 0 ∨ p = 1 ∨ p = 2) (old : Value) (as : List (Int × Tok)) (fs : Option ((Tok × Value) × (Tok × Value))) (j : Sj) (er : Result) (en et : Nat) (q1 q2 q3 q4 q5 q6 q7 : Obj) (has : as.length = p) (her : er = .ok .next)
    (VS : ∀ x ∈ sjS ((Wf w b1 b2)).params (lawF (Wf w b1 b2)) g n t p j, x.Valid (model prog (Wf w b1 b2)) (stW (Wf w b1 b2)))
    (V : (g.at ((Wf w b1 b2)).params (lawF (Wf w b1 b2)) j.nx j.tx (p + 1) (g.nums.getD p .none) (as ++ [j.v (startOf p)]) (smNewFs fs t p (g.nums.getD p .none)) ⟨er, en, et, sing [(g.en, q1), (g.li, q2), (g.il, q3), (g.acc, q4), (g.loc, q5), (g.L + 1, q6), (g.S, q7)], []⟩).Valid (model prog (Wf w b1 b2)) (stW (Wf w b1 b2))) :
    (g.at ((Wf w b1 b2)).params (lawF (Wf w b1 b2)) n t p old as fs ⟨er, en, et, sing [(g.en, q1), (g.li, q2), (g.il, q3), (g.acc, q4), (g.loc, q5), (g.L + 1, q6), (g.S, q7)], []⟩).Valid (model prog (Wf w b1 b2)) (stW (Wf w b1 b2)) := by
  refine mkx_intro fun below p0 s e2 hp => ?_
  obtain ⟨q, hq⟩ := mkB_of below
  rw [e2] at hq
  have A0 := At.init hp
  have hall : g.all ((Wf w b1 b2)).params p old as fs = sing (g.next p old) ++ sing (g.more ((Wf w b1 b2)).params as fs) := sing_app _ _
  rw [hall] at A0
  have st1 : ∃ v, g.nums.getD p .none = .int (startOf p) v := by rcases hp3 with rfl | rfl | rfl <;> exact ⟨_, rfl⟩
  -- the next number
  obtain ⟨s1, hr1, po1⟩ := runX_ok (w := (Wf w b1 b2)) (prog := prog) (st := stW (Wf w b1 b2)) (c := g.code (lawF (Wf w b1 b2))) (hd := none) (below := below) (tr := (PySem.W.Fast.tw9404975358583537561 (.ref g.en)).bind fun o => .pure (.done (flowN o))) (p := (smG (lawF (Wf w b1 b2))).iter.pos) 100 847460659253572988403998936912062092523007215965415337372346761217 [] (pre := sing (g.next p old)) (n := n) (t := t)
    (e := ⟨.ok (.ret (.ref n)), n + 1, t + 1, sing [(g.en, enO (.int (Int.ofNat n) 0) g.li (p + 1) (g.nums.getD p .none)), (g.li, litO g.il (p + 1)), (g.il, lstO ⟨g.nums⟩ 0)], [[(n, tupO [.int (Int.ofNat p) t, g.nums.getD p .none])]]⟩) allx_nil rfl (by
      rcases hp3 with rfl | rfl | rfl <;> (generalize b2 = c2; revert c2; refine split1 ?_ ?_ <;> kernel_rfl)) (A0.pre.sub ⟨(sing (g.more ((Wf w b1 b2)).params as fs)).flatten, by rw [List.flatten_append]⟩)
  have A1 := A0.step po1
  have hw1 := wp_next hr1
  -- the owned tuple
  have hE1 : s1.heap.get? g.en = some (enO (.int (Int.ofNat n) 0) g.li (p + 1) (g.nums.getD p .none)) := po1.own (g.en, _) (List.mem_cons_self ..)
  let s2 : Shared := { s1 with heap := s1.heap.update g.en (Obj.mapFields fun vs => vs.setIfInBounds 0 .none) }
  have po2 : PostOk [(g.en, enO (.int (Int.ofNat n) 0) g.li (p + 1) (g.nums.getD p .none))] ⟨.ok .next, n + 1, t + 1, [enO .none g.li (p + 1) (g.nums.getD p .none)], []⟩ s1 s2 :=
    post_update hE1 rfl rfl rfl rfl rfl rfl po1.size.symm po1.toks rfl rfl
  have A2 := (At.flat (lots' := [[(g.en, enO (.int (Int.ofNat n) 0) g.li (p + 1) (g.nums.getD p .none))]] ++ ([(g.li, litO g.il (p + 1))] :: [(g.il, lstO ⟨g.nums⟩ 0)] :: [(n, tupO [.int (Int.ofNat p) t, g.nums.getD p .none])] :: sing (g.more ((Wf w b1 b2)).params as fs))) A1 rfl).step po2.x
  have A3 := At.pick A2 [0, 1, 2, 4, 5, 6, 7, 3] (lots' := g.all ((Wf w b1 b2)).params (p + 1) (g.nums.getD p .none) as fs ++ [[(n, tupO [.int (Int.ofNat p) t, g.nums.getD p .none])]]) (by decide) (by
    intro i hi
    show i < 8
    revert i
    decide) rfl
  have A3' : At (stW (Wf w b1 b2)) s (adr (g.all ((Wf w b1 b2)).params p old as fs).flatten) ((g.all ((Wf w b1 b2)).params (p + 1) (g.nums.getD p .none) as fs ++ [[(n, tupO [.int (Int.ofNat p) t, g.nums.getD p .none])]]) ++ []) (n + 1) (t + 1) s2 := by
    rw [List.append_nil, hall]; exact A3
  -- the rest of the turn
  have VR : ∀ x ∈ (oxRestC ((Wf w b1 b2)).params (lawF (Wf w b1 b2)) g n t p as fs j er en et q1 q2 q3 q4 q5 q6 q7).ss, x.Valid (model prog (Wf w b1 b2)) (stW (Wf w b1 b2)) := app_all VS (allx_cons (V) allx_nil)
  have hpr := A3'.pre.sub ⟨[], by rw [List.append_nil, List.append_nil]⟩
  have fin_turn : ∀ {r : Result} {s4 : Shared}, r = er → XPost (oxRestC ((Wf w b1 b2)).params (lawF (Wf w b1 b2)) g n t p as fs j er en et q1 q2 q3 q4 q5 q6 q7).pre (oxRestC ((Wf w b1 b2)).params (lawF (Wf w b1 b2)) g n t p as fs j er en et q1 q2 q3 q4 q5 q6 q7).e s2 s4 → XPost (g.all ((Wf w b1 b2)).params p old as fs) ⟨er, en, et, sing [(g.en, q1), (g.li, q2), (g.il, q3), (g.acc, q4), (g.loc, q5), (g.L + 1, q6), (g.S, q7)], []⟩ s s4 := by
    intro r s4 _ po
    have A4 := (At.step A3' po).pick [0, 1, 2, 3, 4, 5, 6] (lots' := sing [(g.en, q1), (g.li, q2), (g.il, q3), (g.acc, q4), (g.loc, q5), (g.L + 1, q6), (g.S, q7)] ++ []) (by decide) (by
      intro i hi
      show i < 8
      revert i
      decide) rfl
    exact At.final A4 rfl
  suffices hw : wpCode (model prog (Wf w b1 b2)) ⟨g.code (lawF (Wf w b1 b2)), none, none, below, none⟩ (fun r s' => r = er ∧ XPost (g.all ((Wf w b1 b2)).params p old as fs) ⟨er, en, et, sing [(g.en, q1), (g.li, q2), (g.il, q3), (g.acc, q4), (g.loc, q5), (g.L + 1, q6), (g.S, q7)], []⟩ s s') p0 s by
    obtain ⟨r, s', h1, rfl, h2⟩ := hw
    exact ⟨s', h1, h2⟩
  refine (wpCode_iff_wp _ _ _ _ _).mpr ?_
  show wp _ _ ((model prog (Wf w b1 b2)).den (g.code (lawF (Wf w b1 b2)))) _ _ _ _
  rw [den_out, compTurn_list, wp_onRaise, wp_bind', wp_cmd_standAt, wp_bind']
  refine wp_mono _ _ _ ?_ (fun _ _ _ h => False.elim h) _ _ hw1
  rintro o p1 s'' ⟨ho, rfl⟩
  cases o with
  | none => cases ho
  | some v =>
    injection ho with ho
    subst ho
    show wp _ _ (letOwnedTupleGo (smG (lawF (Wf w b1 b2))).target (.ref g.en) (.ref n) >>= _) _ _ _ _
    rw [wp_bind', owned_eq, wp_bind', wp_load_of _ _ _ _ _ hE1]
    show wp _ _ (if (["enumerate", "zip", "dict_itemiterator", "dict_reverseitemiterator", "odict_iterator", "itertools.zip_longest", "itertools.pairwise"].contains "enumerate" && (some (Value.int (Int.ofNat n) 0) == some (rawInt n))) = true then _ else _) _ _ _ _
    rw [intV_beq, if_pos (by decide), wp_bind', wp_cmd_rule]
    unfold updateField
    rw [wp_bind', wp_load_of _ _ _ _ _ hE1]
    show wp _ _ (if 0 < 6 then _ else _) _ _ _ _
    rw [if_pos (by decide), wp_cmd_update]
    refine ⟨by rw [hE1]; rfl, ?_⟩
    obtain ⟨s3, hr3, po3⟩ := rest_turn w b1 b2 g n t p hp3 as fs j er en et q1 q2 q3 q4 q5 q6 q7 has VR below e2 p1 hpr
    rw [code_out, ← oxRest_eq]
    have hw3 := (wp_iff_runs _ _ _ (fun r s'' => r = er ∧ s'' = s3) _ _).mpr ⟨_, _, hr3, rfl, rfl⟩
    refine wp_mono _ _ _ ?_ ?_ _ _ hw3
    · intro fin p2 s4 hf
      cases fin with
      | done f =>
        obtain ⟨h1, rfl⟩ := hf
        exact ⟨h1, fin_turn h1 po3⟩
      | again c =>
        obtain ⟨hq', r, s5, h2, h3, rfl⟩ := hf
        exact ⟨hq', r, s5, h2, h3, fin_turn h3 po3⟩
    · rintro _ _ _ ⟨h1, _⟩; exact absurd h1 (by rw [her]; intro h; cases h)
theorem total_le : ∀ (l : List (Int × Tok)) (a : Int), (∀ y ∈ l, 0 ≤ y.1 ∧ y.1 ≤ 999999) → a ≤ totalZ a l ∧ totalZ a l ≤ a + 999999 * (l.length : Int)
  | [], a, _ => ⟨Int.le_refl _, by show a ≤ _; simp⟩
  | b :: l, a, h => by
    have h1 := h b (List.mem_cons_self ..)
    have h2 := total_le l (a + b.1) fun y hy => h y (List.mem_cons_of_mem _ hy)
    show a ≤ totalZ (a + b.1) l ∧ totalZ (a + b.1) l ≤ _
    rw [List.length_cons]
    omega
theorem turn_any (g : Ox) (hz : g.scr.length ≤ 63) (n t p : Nat) (hp3 : p = 0 ∨ p = 1 ∨ p = 2) (old : Value) (as : List (Int × Tok)) (fs : Option ((Tok × Value) × (Tok × Value))) (has : as.length = p) :
    ∃ j : Sj, (0 ≤ (j.v (startOf p)).1 ∧ (j.v (startOf p)).1 < 2000000000) ∧ ∀ (en et : Nat) (q1 q2 q3 q4 q5 q6 q7 : Obj),
      (g.at ((Wf w b1 b2)).params (lawF (Wf w b1 b2)) j.nx j.tx (p + 1) (g.nums.getD p .none) (as ++ [j.v (startOf p)]) (smNewFs fs t p (g.nums.getD p .none)) ⟨.ok .next, en, et, sing [(g.en, q1), (g.li, q2), (g.il, q3), (g.acc, q4), (g.loc, q5), (g.L + 1, q6), (g.S, q7)], []⟩).Valid (model prog (Wf w b1 b2)) (stW (Wf w b1 b2)) →
      (g.at ((Wf w b1 b2)).params (lawF (Wf w b1 b2)) n t p old as fs ⟨.ok .next, en, et, sing [(g.en, q1), (g.li, q2), (g.il, q3), (g.acc, q4), (g.loc, q5), (g.L + 1, q6), (g.S, q7)], []⟩).Valid (model prog (Wf w b1 b2)) (stW (Wf w b1 b2)) := by
  have hsl : sizeLine = 16777216 := rfl
  obtain ⟨xs, hx, hxl⟩ := slice_izA g.scr (some (Int.ofNat p)) (some 63) (some 3)
  have W1 := lslV (w := (Wf w b1 b2)) (st := stW (Wf w b1 b2)) g.S (n + 4) (izA g.scr) g.eps (.int (Int.ofNat p) t) (.int 63 (t + 3)) (.int 3 (t + 4)) (izA xs) (.int _ _) (.int _ _) (.int _ _) (by decide) hx (by rw [izA_size]; omega)
  obtain ⟨jn, jt, ji, ys, je, jf, hl, hb, W2⟩ := sm_loop w b1 b2 (g.sx n xs) xs 0 [] 0 none (n + 9) (t + 5) rfl (by simp; omega) (fun y hy => nomatch hy)
  have hfit : fitAll 0 ys := fit_small (B := 999999) (by omega) (by omega) ys 0 0 (fun y hy => by have := hb y hy; omega) (by omega) (by omega) (by omega)
  obtain ⟨k, W3⟩ := sumV (w := w) (b1 := b1) (b2 := b2) ((g.sx n xs).cds (lawF (Wf w b1 b2))) (n + 7) ys je jn jt hfit
  have ht := total_le ys 0 hb
  have hs : 0 ≤ startOf p ∧ startOf p ≤ 46 := by rcases hp3 with rfl | rfl | rfl <;> decide
  refine ⟨⟨xs, ys, jn, jt, ji, je, jf, k⟩, ⟨?_, ?_⟩, fun en et q1 q2 q3 q4 q5 q6 q7 V => ?_⟩
  · show 0 ≤ startOf p + totalZ 0 ys; omega
  · show startOf p + totalZ 0 ys < _; omega
  · exact out_turn w b1 b2 g n t p hp3 old as fs ⟨xs, ys, jn, jt, ji, je, jf, k⟩ (.ok .next) en et q1 q2 q3 q4 q5 q6 q7 has rfl (allx_cons W1.x (allx_cons W2.x (allx_cons W3.x allx_nil))) V
theorem out_end (g : Ox) (n t : Nat) (old : Value) (as : List (Int × Tok)) (fs : Option ((Tok × Value) × (Tok × Value))) (ha : as.length = 3) : (oxEndC ((Wf w b1 b2)).params (lawF (Wf w b1 b2)) g n t old as fs).sp.Valid (model prog (Wf w b1 b2)) (stW (Wf w b1 b2)) := by
  refine ConX.valid _ 300 1257259298032508160115096512584776936299970561 allx_nil rfl ?_
  intro p q
  rcases as with _ | ⟨a, _ | ⟨b, _ | ⟨c, _ | ⟨d, l⟩⟩⟩⟩
  · cases ha
  · cases ha
  · cases ha
  · rcases fs with _ | ⟨⟨kf, vf⟩, ⟨kg, vg⟩⟩ <;> (generalize b2 = c2; revert c2; refine split1 ?_ ?_ <;> kernel_rfl)
  · cases ha
theorem comp_all (g : Ox) (hz : g.scr.length ≤ 63) (n t : Nat) : ∃ (v0 v1 v2 : Int × Tok) (n' t' : Nat) (fs' : (Tok × Value) × (Tok × Value)), ((0 ≤ v0.1 ∧ v0.1 < 2000000000) ∧ (0 ≤ v1.1 ∧ v1.1 < 2000000000) ∧ (0 ≤ v2.1 ∧ v2.1 < 2000000000)) ∧
    (g.at ((Wf w b1 b2)).params (lawF (Wf w b1 b2)) n t 0 .none [] none ⟨.ok .next, n', t', sing ([(g.en, enO .none g.li 3 (.int 46 (g.t0 + 2))), (g.li, litX 3), (g.il, lstO ⟨g.nums⟩ 0)] ++ g.more ((Wf w b1 b2)).params [v0, v1, v2] (some fs')), []⟩).Valid (model prog (Wf w b1 b2)) (stW (Wf w b1 b2)) := by
  obtain ⟨j0, h0, H0⟩ := turn_any w b1 b2 g hz n t 0 (.inl rfl) .none [] none rfl
  obtain ⟨j1, h1, H1⟩ := turn_any w b1 b2 g hz j0.nx j0.tx 1 (.inr (.inl rfl)) (g.nums.getD 0 .none) [j0.v (startOf 0)] (smNewFs none t 0 (g.nums.getD 0 .none)) rfl
  obtain ⟨j2, h2, H2⟩ := turn_any w b1 b2 g hz j1.nx j1.tx 2 (.inr (.inr rfl)) (g.nums.getD 1 .none) [j0.v (startOf 0), j1.v (startOf 1)] (smNewFs (smNewFs none t 0 (g.nums.getD 0 .none)) j0.tx 1 (g.nums.getD 1 .none)) rfl
  refine ⟨_, _, _, j2.nx + 2, j2.tx, (((smNewFs (smNewFs (smNewFs none t 0 (g.nums.getD 0 .none)) j0.tx 1 (g.nums.getD 1 .none)) j1.tx 2 (g.nums.getD 2 .none))).getD ((0, .none), (0, .none))), ⟨h0, h1, h2⟩, ?_⟩
  refine H0 _ _ _ _ _ _ _ _ _ (H1 _ _ _ _ _ _ _ _ _ (H2 _ _ _ _ _ _ _ _ _ ?_))
  exact out_end w b1 b2 g j2.nx j2.tx (g.nums.getD 2 .none) [j0.v (startOf 0), j1.v (startOf 1), j2.v (startOf 2)] _ rfl
theorem stmt0 (L S n t : Nat) (scr : List (Int × Tok)) (eps : Nat) (hz : scr.length ≤ 63) :
    ∃ (N0 N1 N2 : Nat) (k0 k1 k2 : Tok) (n' t' : Nat), (N0 < 2000000000 ∧ N1 < 2000000000 ∧ N2 < 2000000000) ∧ ∀ (s0 : Shared) (old : List Addr) (rest : List (List Ent)) (s : Shared) (p p0 : Pos),
      At (stW (Wf w b1 b2)) s0 old ([[(L, lfO [] 0 #[])], [(L + 1, cellO (.ref S))], [(L + 2, cellN)], [(S, lstO (izA scr) eps)]] ++ rest) n t s →
      wp (model prog (Wf w b1 b2)) (lawG (bodyOf (lawF (Wf w b1 b2))) (lawEnv (lawF (Wf w b1 b2)) L) p0) (execs ((bodyOf (lawF (Wf w b1 b2))).take 1) (lawEnv (lawF (Wf w b1 b2)) L)) (fun f _ s' => f = .next ∧
        At (stW (Wf w b1 b2)) s0 old ([[(L, lfO [] 0 #[])], [(L + 1, cellO (.ref S))], [(L + 2, cellO (.ref (n + 3)))], [(S, lstO (izA scr) eps)], [(n + 3, lstO (natA [(N0, k0), (N1, k1), (N2, k2)]) 3)]] ++ rest) n' t' s') (fun _ _ _ => False) p s := by
  obtain ⟨v0, v1, v2, n', t', fs', ⟨⟨a0, c0⟩, ⟨a1, c1⟩, ⟨a2, c2⟩⟩, V⟩ := comp_all w b1 b2 (Ox.of L S n t scr eps) hz (n + 5) (t + 3)
  obtain ⟨z0, k0⟩ := v0
  obtain ⟨z1, k1⟩ := v1
  obtain ⟨z2, k2⟩ := v2
  obtain ⟨N0, rfl⟩ := Int.eq_ofNat_of_zero_le a0
  obtain ⟨N1, rfl⟩ := Int.eq_ofNat_of_zero_le a1
  obtain ⟨N2, rfl⟩ := Int.eq_ofNat_of_zero_le a2
  refine ⟨N0, N1, N2, k0, k1, k2, n', t', ⟨by exact Int.ofNat_lt.mp c0, by exact Int.ofNat_lt.mp c1, by exact Int.ofNat_lt.mp c2⟩, fun s0 old rest s p p0 A => ?_⟩
  let C := smBC ((Wf w b1 b2)).params (lawF (Wf w b1 b2)) L S n t scr eps [(Int.ofNat N0, k0), (Int.ofNat N1, k1), (Int.ofNat N2, k2)] n' t' (some fs')
  have := seg_ok (w := (Wf w b1 b2)) (st := stW (Wf w b1 b2)) (body := bodyOf (lawF (Wf w b1 b2))) (seg := (bodyOf (lawF (Wf w b1 b2))).take 1) (env := lawEnv (lawF (Wf w b1 b2)) L) 600 (bif b1 then 536094969947762533446604915221426525021461298478006640231477564112841145689935339431098371276800 else 2357770612199160739355928855663492631996520433924199645954134641670440187265591557131347887165204234867048448) C.ss (pre := C.pre) (n := n) (t := t) (fl := .next) (e := C.e) (allx_cons V allx_nil) rfl rfl (fun p q => by
    rcases fs' with ⟨⟨kf, vf⟩, ⟨kg, vg⟩⟩; (generalize b1 = c1; generalize b2 = c2; revert c1 c2; refine split2 ?_ ?_ ?_ ?_ <;> kernel_rfl)) A p p0
  exact this
end
end
end Mine

namespace Mine
section
open PySem PySem.W Sem
/-- the names of the law's frame, in the order of their coming -/
noncomputable def lawNames : List String := ["chosen", "shared", "back", "first", "second", "leads", "names", "replies", "white", "text", "lexer", "tape", "words", "told", "lower", "upper", "other", "due", "size", "here", "there", "witnesses", "most", "rest", "opening", "left", "spoken", "words_due"]
/-- what the law's frame holds -/
structure Lv where
  L : Addr
  S : Addr
  su : Addr
  K : Nat → Tok
  N0 : Nat
  N1 : Nat
  N2 : Nat
  k0 : Tok
  k1 : Tok
  k2 : Tok
  ch : Addr
  sh : Addr
  bk : Nat × Tok
  fi : Addr
  se : Addr
  le : Addr
  na : Addr
  re : Addr
  wh : Str × Tok
  tx : Str × Tok
  lx : Addr
  tp : Addr
  wd : Addr
  td : Addr
  lo : Addr
  up : Addr
  ot : Addr
  du : Addr
  sz : Value
  hr : Value
  th : Value
  wi : Addr
  mo : Int × Tok
  rs : Addr
  op : Str × Tok
  lf : Str × Tok
  sp : Addr
  wo : Addr
noncomputable def Lv.v (g : Lv) : List Value := [.ref g.ch, .ref g.sh, .int (Int.ofNat g.bk.1) g.bk.2, .ref g.fi, .ref g.se, .ref g.le, .ref g.na, .ref g.re, .str g.wh.1 g.wh.2, .str g.tx.1 g.tx.2, .ref g.lx, .ref g.tp, .ref g.wd, .ref g.td, .ref g.lo, .ref g.up, .ref g.ot, .ref g.du, g.sz, g.hr, g.th, .ref g.wi, .int g.mo.1 g.mo.2, .ref g.rs, .str g.op.1 g.op.2, .str g.lf.1 g.lf.2, .ref g.sp, .ref g.wo]
noncomputable def zipE (P : Params) (K : Nat → Tok) : List String → List Value → Nat → List DictEntry
  | n :: ns, v :: vs, i => de P n (K i) v :: zipE P K ns vs (i + 1)
  | _, _, _ => []
/-- the law's frame, m names in it -/
noncomputable def Lv.fr (g : Lv) (P : Params) (m : Nat) : Obj := lfO (zipE P g.K (lawNames.take m) g.v 0) m #[]
noncomputable def Lv.frL (g : Lv) (P : Params) (m : Nat) : List Ent := [(g.L, g.fr P m)]
/-- one token more -/
noncomputable def kup (K : Nat → Tok) (m : Nat) (t : Tok) : Nat → Tok := fun i => bif Nat.beq i m then t else K i
noncomputable def Lv.kn (g : Lv) (m : Nat) (t : Tok) : Lv := { g with K := kup g.K m t }
noncomputable def Lv.sums (g : Lv) : Obj := lstO (natA [(g.N0, g.k0), (g.N1, g.k1), (g.N2, g.k2)]) 3
noncomputable def Lv.suL (g : Lv) : List (List Ent) := [[(g.L + 2, cellO (.ref g.su))], [(g.su, g.sums)]]
/-- the law's statements i .. i + j take the lots pre to the lots post -/
noncomputable abbrev Step (w : World) (L : Addr) (i j : Nat) (pre post : List (List Ent)) (n t n' t' : Nat) : Prop :=
  ∀ (s0 : Shared) (old : List Addr) (rest : List (List Ent)) (s : Shared) (p p0 : Pos), At (stW w) s0 old (pre ++ rest) n t s →
    wp (model prog w) (lawG (bodyOf (lawF w)) (lawEnv (lawF w) L) p0) (execs (((bodyOf (lawF w)).drop i).take j) (lawEnv (lawF w) L)) (fun f _ s' => f = .next ∧ At (stW w) s0 old (post ++ rest) n' t' s') (fun _ _ _ => False) p s
end
end Mine

namespace Mine
section
open PySem PySem.W Sem
noncomputable abbrev rshZ (a : Int) (s : Tok) (b : Int) (u : Tok) (z : Int) : Mine.Spec := pureS "int.__rshift__" [.int a s, .int b u] (fun t => .int z t) 1
noncomputable abbrev andZ (a : Int) (s : Tok) (b : Int) (u : Tok) (z : Int) : Mine.Spec := pureS "int.__and__" [.int a s, .int b u] (fun t => .int z t) 1
noncomputable abbrev boolZ (a : Int) (s : Tok) (r : Bool) : Mine.Spec := pureS "int.__bool__" [.int a s] (fun _ => .bool r) 0
noncomputable abbrev fdivZ (a : Int) (s : Tok) (b : Int) (u : Tok) (z : Int) : Mine.Spec := pureS "int.__floordiv__" [.int a s, .int b u] (fun t => .int z t) 1
noncomputable def lawComp (f : FuncData) (i : Nat) : Expr := match (bodyOf f).getD i default with | .Assign _ lc _ => lc | _ => default
noncomputable def compEnv2 (lc : Expr) (L loc : Addr) (cells : List (Str × Addr)) : Env := { scope := ownScope (scOf lc), locals := loc, globals := 3, cells := cells, qual := "law.<locals>.", func := none, code := .ref 222, frame := some L, builtins := 0 }
structure Cx where
  L : Addr
  it : Addr
  acc : Addr
  loc : Addr
  su : Addr
  N : Nat
  k : Tok
  rest : List (Nat × Tok)
noncomputable def Cx.loop (g : Cx) (f : FuncData) : Code := .compLoop (lawComp f 1) 0 (.ref g.it) (.ref g.acc) (compEnv2 (lawComp f 1) g.L g.loc [("sums", g.L + 2)])
noncomputable def Cx.nums (g : Cx) : Obj := lstO (natA ((g.N, g.k) :: g.rest)) 3
noncomputable def Cx.pre (g : Cx) (P : Params) (x left : Nat) (ys : List (Nat × Tok)) (ep : Nat) (fs : Option (Tok × Value)) : List Ent := [(g.it, ritO x left), (g.acc, lstO (natA ys) ep), (g.loc, oneO P "size" fs), (g.L + 2, cellO (.ref g.su)), (g.su, g.nums)]
noncomputable def Cx.at (g : Cx) (P : Params) (f : FuncData) (n t x left : Nat) (ys : List (Nat × Tok)) (ep : Nat) (fs : Option (Tok × Value)) (e : Eff) : Mine.Spec := Mine.mk (g.loop f) none (lawCds (bodyOf f) (lawEnv f g.L)) n t (g.pre P x left ys ep fs) e
noncomputable def bitN (N x : Nat) : Nat := (N / 2 ^ (x - 1)) &&& 1
noncomputable def chTurnC (g : Cx) (P : Params) (f : FuncData) (n t x left : Nat) (ys : List (Nat × Tok)) (ep : Nat) (fs : Option (Tok × Value)) (r : Bool) (er : Result) (en et : Nat) (p1 p2 p3 p4 p5 : Obj) : Con :=
  ⟨g.loop f, lawCds (bodyOf f) (lawEnv f g.L), n, t, g.pre P x (left + 1) ys ep fs, ⟨er, en, et, [p1, p2, p3, p4, p5], []⟩,
    [rnextS g.it x left, lgetS g.su (natA ((g.N, g.k) :: g.rest)) 3 0 (t + 2) (.int (Int.ofNat g.N) g.k), subZ (Int.ofNat x) t 1 (t + 3) (Int.ofNat (x - 1)), rshZ (Int.ofNat g.N) g.k (Int.ofNat (x - 1)) (t + 4) (Int.ofNat (g.N / 2 ^ (x - 1))), andZ (Int.ofNat (g.N / 2 ^ (x - 1))) (t + 5) 1 (t + 6) (Int.ofNat (bitN g.N x)), boolZ (Int.ofNat (bitN g.N x)) (t + 7) r] ++
    (bif r then [appS' g.acc (natA ys) ep (.int (Int.ofNat x) t) (natA (ys ++ [(x, t)]))] else []) ++
    [g.at P f n (t + 8) (x + 1) left (bif r then ys ++ [(x, t)] else ys) (bif r then ep + 1 else ep) (some (kOf fs (t + 1), .int (Int.ofNat x) t)) ⟨er, en, et, [p1, p2, p3, p4, p5], []⟩]⟩
noncomputable def chEndC (g : Cx) (P : Params) (f : FuncData) (n t x : Nat) (ys : List (Nat × Tok)) (ep : Nat) (fs : Option (Tok × Value)) : Con :=
  ⟨g.loop f, lawCds (bodyOf f) (lawEnv f g.L), n, t, g.pre P x 0 ys ep fs, ⟨.ok .next, n + 2, t, objs (g.pre P x 0 ys ep fs), []⟩, []⟩
noncomputable def Cx.of (g : Lv) (n : Nat) : Cx := ⟨g.L, n + 1, n + 2, n + 3, g.su, g.N0, g.k0, [(g.N1, g.k1), (g.N2, g.k2)]⟩
noncomputable def st1C (g : Lv) (P : Params) (f : FuncData) (n t : Nat) (ys : List (Nat × Tok)) (ep : Nat) (fs : Tok × Value) : ConX :=
  ⟨.func (bodyOf f) (lawEnv f g.L), [.builtin "claim.caller" {}], n, t, [g.frL P 0] ++ g.suL,
    ⟨.ok .next, n + 6, t + 52, [({ (g.kn 0 (t + 51)) with ch := n + 2 }).frL P 1] ++ g.suL, [[(n + 2, lstO (natA ys) ep)]]⟩,
    [((Cx.of g n).at P f (n + 4) (t + 3) 1 6 [] 0 none ⟨.ok .next, n + 6, t + 51, objs ((Cx.of g n).pre P 7 0 ys ep (some fs)), []⟩).x]⟩
noncomputable def lv0 : Lv := ⟨301, 300, 308, fun i => 600 + i, 45, 3, 35, 66, 67, 68, 401, 402, (1, 90), 403, 404, 405, 406, 407, ("a", 91), ("b", 92), 408, 409, 410, 411, 412, 413, 414, 415, .int 1 93, .int 2 94, .int 3 95, 416, (4, 96), 417, ("c", 97), ("d", 98), 418, 419⟩
end
end Mine

namespace Mine
section
open PySem PySem.W Sem
theorem rshV {w : World} {st : ST} (A : Nat) (s : Tok) (B : Nat) (u : Tok) (z : Int) (h : Int.ofNat (A / 2 ^ B) = z) : (rshZ (Int.ofNat A) s (Int.ofNat B) u z).Valid (model prog w) st := by
  subst h
  have h0 : ¬ (Int.ofNat B < 0) := by simp
  by_cases hb : Int.ofNat B ≥ ((Builtin.Int.intBits (Int.ofNat A) : Nat) : Int)
  · have g := PySem.AutoIntG9.int___rshift___int_int_1 (Int.ofNat A) s (Int.ofNat B) u h0 hb
    have e : (if Int.ofNat A < 0 then (-1 : Int) else 0) = Int.ofNat (A / 2 ^ B) := by
      rw [if_neg (by simp)]
      have hlt : A < 2 ^ B := by
        unfold Builtin.Int.intBits at hb
        by_cases hA : A = 0
        · subst hA; exact Nat.two_pow_pos B
        · have h1 : ¬ ((Int.ofNat A == 0) = true) := by simp; omega
          rw [if_neg h1] at hb
          have h2 : A.log2 + 1 ≤ B := by
            have : (Int.ofNat A).natAbs = A := rfl
            rw [this] at hb
            exact Int.ofNat_le.mp hb
          exact Nat.lt_of_lt_of_le ((Nat.log2_lt hA).mp (Nat.lt_succ_self _)) (Nat.pow_le_pow_right (by decide) h2)
      rw [Nat.div_eq_of_lt hlt]; rfl
    rw [e] at g
    exact pure_int (by decide +kernel) PySem.F.entry_int_rshift g
  · have g := PySem.AutoIntG0.int___rshift___int_int_2 (Int.ofNat A) s (Int.ofNat B) u h0 hb
    have e : (Int.ofNat A).fdiv (2 ^ (Int.ofNat B).toNat) = Int.ofNat (A / 2 ^ B) := by
      have h1 : (2 : Int) ^ (Int.ofNat B).toNat = Int.ofNat (2 ^ B) := by
        show (2 : Int) ^ B = ((2 ^ B : Nat) : Int)
        simp
      rw [h1]
      exact (Int.ofNat_fdiv A (2 ^ B)).symm
    rw [e] at g
    exact pure_int (by decide +kernel) PySem.F.entry_int_rshift g
theorem andV {w : World} {st : ST} (A : Nat) (s : Tok) (u : Tok) (z : Int) (h : Int.ofNat (A &&& 1) = z) : (andZ (Int.ofNat A) s 1 u z).Valid (model prog w) st := by
  subst h
  exact pure_int (by decide +kernel) PySem.F.entry_int_and (.of_eq rfl)
theorem boolV {w : World} {st : ST} (a : Int) (s : Tok) (r : Bool) (h : (a != 0) = r) : (boolZ a s r).Valid (model prog w) st := by
  subst h
  exact pure_val (by decide +kernel) PySem.F.entry_int_bool (PySem.AutoIntG0.int___bool___int_0 a s)
theorem natA_push (l : List (Nat × Tok)) (x : Nat) (k : Tok) : (natA l).push (.int (Int.ofNat x) k) = natA (l ++ [(x, k)]) := by
  apply Array.ext'
  show ((natA l).push _).toList = natVs _
  rw [Array.toList_push]
  unfold natA natVs
  simp
/-- the sizes of the set -/
noncomputable def chosenL (N : Nat) : Nat → Nat → List Nat
  | _, 0 => []
  | x, l + 1 => (bif bitN N x != 0 then [x] else []) ++ chosenL N (x + 1) l
theorem natA_get {l : List (Nat × Tok)} {i : Nat} {x : Nat × Tok} (h : l[i]? = some x) : (natA l).toList[i]? = some (.int (Int.ofNat x.1) x.2) := by
  show (natVs l)[i]? = _
  unfold natVs
  rw [List.getElem?_map, h]; rfl
section
variable (w : World) (b1 b2 : Bool)
theorem ch_loop (g : Cx) : ∀ (left x : Nat) (ys : List (Nat × Tok)) (ep : Nat) (fs : Option (Tok × Value)) (n t : Nat), 1 ≤ x → ys.length + left ≤ 1000 → (0 < left ∨ fs.isSome = true) →
    ∃ (ys' : List (Nat × Tok)) (ep' : Nat) (fs' : Tok × Value), ys'.map (·.1) = ys.map (·.1) ++ chosenL g.N x left ∧
      (g.at ((Wf w b1 b2)).params (lawF (Wf w b1 b2)) n t x left ys ep fs ⟨.ok .next, n + 2, t + 8 * left, objs (g.pre ((Wf w b1 b2)).params (x + left) 0 ys' ep' (some fs')), []⟩).Valid (model prog (Wf w b1 b2)) (stW (Wf w b1 b2)) := by
  intro left
  induction left with
  | zero =>
    intro x ys ep fs n t _ _ hfs
    rcases fs with _ | fs
    · simp at hfs
    refine ⟨ys, ep, fs, by simp [chosenL], ?_⟩
    have V : (chEndC g ((Wf w b1 b2)).params (lawF (Wf w b1 b2)) n t x ys ep (some fs)).sp.Valid (model prog (Wf w b1 b2)) (stW (Wf w b1 b2)) := by
      refine Con.valid _ 300 97322088776586550893887489 all_nil rfl ?_
      intro p q
      rcases fs with ⟨kf, vf⟩
      (generalize b2 = c2; revert c2; refine split1 ?_ ?_ <;> kernel_rfl)
    exact V
  | succ left ih =>
    intro x ys ep fs n t hx hz hfs
    have hsl : sizeLine = 16777216 := rfl
    have W1 := rnextV (w := (Wf w b1 b2)) (st := stW (Wf w b1 b2)) g.it x left
    have W2 := lgetV (w := (Wf w b1 b2)) (st := stW (Wf w b1 b2)) g.su (natA ((g.N, g.k) :: g.rest)) 3 0 (t + 2) (.int (Int.ofNat g.N) g.k) (by rfl) (by omega)
    have W3 := subZV (w := (Wf w b1 b2)) (st := stW (Wf w b1 b2)) (Int.ofNat x) t 1 (t + 3) (Int.ofNat (x - 1)) (by show (x : Int) - 1 = ((x - 1 : Nat) : Int); omega)
    have W4 := rshV (w := (Wf w b1 b2)) (st := stW (Wf w b1 b2)) g.N g.k (x - 1) (t + 4) _ rfl
    have W5 := andV (w := (Wf w b1 b2)) (st := stW (Wf w b1 b2)) (g.N / 2 ^ (x - 1)) (t + 5) (t + 6) (Int.ofNat (bitN g.N x)) rfl
    generalize hr : (bitN g.N x != 0) = r
    have W6 := boolV (w := (Wf w b1 b2)) (st := stW (Wf w b1 b2)) (Int.ofNat (bitN g.N x)) (t + 7) r (by rw [← hr]; cases bitN g.N x <;> rfl)
    have W7 := appV' (w := (Wf w b1 b2)) (st := stW (Wf w b1 b2)) g.acc (natA ys) ep (.int (Int.ofNat x) t) _ (natA_push ys x t) (by rw [natA_size]; omega)
    obtain ⟨ys', ep', fs', h1, V⟩ := ih (x + 1) (bif r then ys ++ [(x, t)] else ys) (bif r then ep + 1 else ep) (some (kOf fs (t + 1), .int (Int.ofNat x) t)) n (t + 8) (by omega) (by cases r <;> simp <;> omega) (.inr rfl)
    refine ⟨ys', ep', fs', ?_, ?_⟩
    · rw [h1, chosenL, hr]
      cases r <;> simp
    · rw [show t + 8 * (left + 1) = t + 8 + 8 * left by omega, show x + (left + 1) = x + 1 + left by omega]
      have key : (chTurnC g ((Wf w b1 b2)).params (lawF (Wf w b1 b2)) n t x left ys ep fs r (.ok .next) (n + 2) (t + 8 + 8 * left) (ritO (x + 1 + left) 0) (lstO (natA ys') ep') (oneO ((Wf w b1 b2)).params "size" (some fs')) (cellO (.ref g.su)) g.nums).sp.Valid (model prog (Wf w b1 b2)) (stW (Wf w b1 b2)) := by
        cases r
        · refine Con.valid _ 300 2222443626465915845526135231301411702390218125798482500657191398508871681 (all_cons (W1) (all_cons (W2) (all_cons (W3) (all_cons (W4) (all_cons (W5) (all_cons (W6) (all_cons (V) all_nil))))))) rfl ?_
          intro p q
          rcases fs with _ | ⟨kf, vf⟩ <;> (generalize b2 = c2; revert c2; refine split1 ?_ ?_ <;> kernel_rfl)
        · refine Con.valid _ 300 76362581542997988921783611078099886706052053259221031495143555372438986468009984001 (all_cons (W1) (all_cons (W2) (all_cons (W3) (all_cons (W4) (all_cons (W5) (all_cons (W6) (all_cons (W7) (all_cons (V) all_nil)))))))) rfl ?_
          intro p q
          rcases fs with _ | ⟨kf, vf⟩ <;> (generalize b2 = c2; revert c2; refine split1 ?_ ?_ <;> kernel_rfl)
      exact key
theorem stmt1 (g : Lv) (n t : Nat) : ∃ (ys : List (Nat × Tok)) (ep : Nat), ys.map (·.1) = chosenL g.N0 1 6 ∧ Step (Wf w b1 b2) g.L 1 1 (([g.frL ((Wf w b1 b2)).params 0] ++ g.suL)) ((([({ (g.kn 0 (t + 51)) with ch := n + 2 }).frL ((Wf w b1 b2)).params 1] ++ g.suL) ++ [[(n + 2, lstO (natA ys) ep)]])) n t (n + 6) (t + 52) := by
  obtain ⟨ys, ep, fs, h1, V⟩ := ch_loop w b1 b2 (Cx.of g n) 6 1 [] 0 none (n + 4) (t + 3) (by decide) (by simp) (.inl (by decide))
  refine ⟨ys, ep, h1, fun s0 old rest s p p0 A => ?_⟩
  let C := st1C g ((Wf w b1 b2)).params (lawF (Wf w b1 b2)) n t ys ep fs
  have := seg_ok (w := (Wf w b1 b2)) (st := stW (Wf w b1 b2)) (body := bodyOf (lawF (Wf w b1 b2))) (seg := ((bodyOf (lawF (Wf w b1 b2))).drop 1).take 1) (env := lawEnv (lawF (Wf w b1 b2)) g.L) 600 (bif b1 then 43592537846823391010545821369302598658356613484508671247400363565168889692160 else 191722008987390691203189446543991194540096798999355629172358592958458689587124106845749248) C.ss (pre := C.pre) (n := n) (t := t) (fl := .next) (e := C.e) (allx_cons V.x allx_nil) rfl rfl (fun p q => by
    rcases fs with ⟨kf, vf⟩; (generalize b1 = c1; generalize b2 = c2; revert c1 c2; refine split2 ?_ ?_ ?_ ?_ <;> kernel_rfl)) A p p0
  exact this
end
end
end Mine

namespace Mine
section
open PySem PySem.W Sem
noncomputable abbrev runsX (C S : Addr) (cs : List (Nat × Tok)) (epc : Nat) (sh : List (Nat × Tok)) (eps : Nat) (b : List Stmt) (e : Env) (n t n' t' : Nat) (T A B : Addr) (fl : List (Nat × Tok)) (ep : Nat) (sl : List (Nat × Tok)) : Mine.Spec :=
  Mine.mk (.call (.ref 206) ⟨[.ref C, .ref S], []⟩) none (lawCds b e) n t [(C, lstO (natA cs) epc), (S, lstO (natA sh) eps)] ⟨.ok (.ret (.ref T)), n', t', [lstO (natA cs) epc, lstO (natA sh) eps], [(T, tupO [.ref A, .ref B]), (A, lstO (natA fl) ep), (B, lstO (natA sl) 0)]⟩
noncomputable def sharedL (g : Lv) (t : Nat) : List (Nat × Tok) := [(g.N1 % 3, t + 2), (g.N1 / 3 % 3, t + 7)]
noncomputable def st2L (g : Lv) (n t t' : Nat) (A B : Addr) : Lv := { ((((g.kn 1 (t + 13)).kn 2 (t + 17)).kn 3 t').kn 4 (t' + 1)) with sh := n + 2, bk := (g.N2 % 3, t + 16), fi := A, se := B }
noncomputable def st2C (g : Lv) (P : Params) (f : FuncData) (cs : List (Nat × Tok)) (epc : Nat) (n t n' t' : Nat) (T A B : Addr) (fl : List (Nat × Tok)) (ep : Nat) (sl : List (Nat × Tok)) : ConX :=
  let ss := (sharedL g t).take (g.N1 / 9 % 3)
  ⟨.func (bodyOf f) (lawEnv f g.L), [.builtin "claim.caller" {}], n, t, [g.frL P 1] ++ g.suL ++ [[(g.ch, lstO (natA cs) epc)]],
    ⟨.ok .next, n' + 3, t' + 2, [(st2L g n t t' A B).frL P 5] ++ g.suL ++ [[(g.ch, lstO (natA cs) epc)]], [[(n + 2, lstO (natA ss) 0)], [(A, lstO (natA fl) ep)], [(B, lstO (natA sl) 0)]]⟩,
    [(lgetS g.su (natA [(g.N0, g.k0), (g.N1, g.k1), (g.N2, g.k2)]) 3 1 t (.int (Int.ofNat g.N1) g.k1)).x, (modZS (Int.ofNat g.N1) g.k1 3 (t + 1) (Int.ofNat (g.N1 % 3))).x,
     (lgetS g.su (natA [(g.N0, g.k0), (g.N1, g.k1), (g.N2, g.k2)]) 3 1 (t + 3) (.int (Int.ofNat g.N1) g.k1)).x, (fdivZ (Int.ofNat g.N1) g.k1 3 (t + 4) (Int.ofNat (g.N1 / 3))).x, (modZS (Int.ofNat (g.N1 / 3)) (t + 5) 3 (t + 6) (Int.ofNat (g.N1 / 3 % 3))).x,
     (lgetS g.su (natA [(g.N0, g.k0), (g.N1, g.k1), (g.N2, g.k2)]) 3 1 (t + 8) (.int (Int.ofNat g.N1) g.k1)).x, (fdivZ (Int.ofNat g.N1) g.k1 9 (t + 9) (Int.ofNat (g.N1 / 9))).x, (modZS (Int.ofNat (g.N1 / 9)) (t + 10) 3 (t + 11) (Int.ofNat (g.N1 / 9 % 3))).x,
     (lslS n (n + 1) (natA (sharedL g t)) 0 .none (.int (Int.ofNat (g.N1 / 9 % 3)) (t + 12)) .none (natA ss)).x,
     (lgetS g.su (natA [(g.N0, g.k0), (g.N1, g.k1), (g.N2, g.k2)]) 3 2 (t + 14) (.int (Int.ofNat g.N2) g.k2)).x, (modZS (Int.ofNat g.N2) g.k2 3 (t + 15) (Int.ofNat (g.N2 % 3))).x,
     (runsX g.ch (n + 2) cs epc ss 0 (bodyOf f) (lawEnv f g.L) (n + 3) (t + 18) n' t' T A B fl ep sl).x]⟩
end
end Mine

namespace Mine
section
open PySem PySem.W Sem
theorem modNV {w : World} {st : ST} (a : Nat) (s : Tok) (b : Nat) (u : Tok) (hb : b ≠ 0) : (modZS (Int.ofNat a) s (Int.ofNat b) u (Int.ofNat (a % b))).Valid (model prog w) st :=
  modZV (Int.ofNat a) s (Int.ofNat b) u _ (by simpa using hb) (Int.ofNat_fmod a b).symm
theorem fdivNV {w : World} {st : ST} (a : Nat) (s : Tok) (b : Nat) (u : Tok) (h0 : b ≠ 0) (hb : b < 1000000) : (fdivZ (Int.ofNat a) s (Int.ofNat b) u (Int.ofNat (a / b))).Valid (model prog w) st :=
  fdivV (w := w) (st := st) a s b u h0 hb
section
variable (w : World) (b1 b2 : Bool)
theorem stmt2 (g : Lv) (cs : List (Nat × Tok)) (epc : Nat) (n t : Nat) : ∃ (n' t' : Nat) (A B : Addr) (ss fl : List (Nat × Tok)) (ep : Nat) (sl : List (Nat × Tok)), ss.map (·.1) = [g.N1 % 3, g.N1 / 3 % 3].take (g.N1 / 9 % 3) ∧
    fl.map (·.1) = ss.map (·.1) ++ runsA (moreZ fun i => cs.any fun c => c.1 == i) 0 7 ∧ sl.map (·.1) = ((ss.map (·.1)).reverse ++ runsB (moreZ fun i => cs.any fun c => c.1 == i) 0 7).reverse ∧
    Step (Wf w b1 b2) g.L 2 3 (([g.frL ((Wf w b1 b2)).params 1] ++ g.suL ++ [[(g.ch, lstO (natA cs) epc)]])) ((([(st2L g n t t' A B).frL ((Wf w b1 b2)).params 5] ++ g.suL ++ [[(g.ch, lstO (natA cs) epc)]]) ++ [[(n + 2, lstO (natA ss) 0)], [(A, lstO (natA fl) ep)], [(B, lstO (natA sl) 0)]])) n t (n' + 3) (t' + 2) := by
  have hm : g.N1 / 9 % 3 = 0 ∨ g.N1 / 9 % 3 = 1 ∨ g.N1 / 9 % 3 = 2 := m3 _
  have e1 : ((sharedL g t).take (g.N1 / 9 % 3)).map (·.1) = [g.N1 % 3, g.N1 / 3 % 3].take (g.N1 / 9 % 3) := by rw [List.map_take]; rfl
  obtain ⟨n', t', T, A, B, fl, ep, sl, h1, h2, V⟩ := runsV w b1 b2 g.ch (n + 2) cs epc ((sharedL g t).take (g.N1 / 9 % 3)) 0 (bodyOf (lawF (Wf w b1 b2))) (lawEnv (lawF (Wf w b1 b2)) g.L) (n + 3) (t + 18) (by rw [List.length_take]; show min _ 2 ≤ _; omega)
  refine ⟨n', t', A, B, (sharedL g t).take (g.N1 / 9 % 3), fl, ep, sl, e1, h1, h2, fun s0 old rest s p p0 A' => ?_⟩
  have W1 := lgetV (w := (Wf w b1 b2)) (st := stW (Wf w b1 b2)) g.su (natA [(g.N0, g.k0), (g.N1, g.k1), (g.N2, g.k2)]) 3 1 t (.int (Int.ofNat g.N1) g.k1) (by rfl) (by omega)
  have W2 := modNV (w := (Wf w b1 b2)) (st := stW (Wf w b1 b2)) g.N1 g.k1 3 (t + 1) (by decide)
  have W3 := lgetV (w := (Wf w b1 b2)) (st := stW (Wf w b1 b2)) g.su (natA [(g.N0, g.k0), (g.N1, g.k1), (g.N2, g.k2)]) 3 1 (t + 3) (.int (Int.ofNat g.N1) g.k1) (by rfl) (by omega)
  have W4 := fdivNV (w := (Wf w b1 b2)) (st := stW (Wf w b1 b2)) g.N1 g.k1 3 (t + 4) (by decide) (by decide)
  have W5 := modNV (w := (Wf w b1 b2)) (st := stW (Wf w b1 b2)) (g.N1 / 3) (t + 5) 3 (t + 6) (by decide)
  have W6 := lgetV (w := (Wf w b1 b2)) (st := stW (Wf w b1 b2)) g.su (natA [(g.N0, g.k0), (g.N1, g.k1), (g.N2, g.k2)]) 3 1 (t + 8) (.int (Int.ofNat g.N1) g.k1) (by rfl) (by omega)
  have W7 := fdivNV (w := (Wf w b1 b2)) (st := stW (Wf w b1 b2)) g.N1 g.k1 9 (t + 9) (by decide) (by decide)
  have W8 := modNV (w := (Wf w b1 b2)) (st := stW (Wf w b1 b2)) (g.N1 / 9) (t + 10) 3 (t + 11) (by decide)
  have W9 := lslV (w := (Wf w b1 b2)) (st := stW (Wf w b1 b2)) n (n + 1) (natA (sharedL g t)) 0 .none (.int (Int.ofNat (g.N1 / 9 % 3)) (t + 12)) .none (natA ((sharedL g t).take (g.N1 / 9 % 3))) (lo := none) (hi := some (Int.ofNat (g.N1 / 9 % 3))) (sp := none) IsPart.none (IsPart.int _ _) IsPart.none (by simp) (by rcases hm with h | h | h <;> rw [h] <;> kernel_rfl) (show 2 ≤ sizeLine by decide)
  have W10 := lgetV (w := (Wf w b1 b2)) (st := stW (Wf w b1 b2)) g.su (natA [(g.N0, g.k0), (g.N1, g.k1), (g.N2, g.k2)]) 3 2 (t + 14) (.int (Int.ofNat g.N2) g.k2) (by rfl) (by omega)
  have W11 := modNV (w := (Wf w b1 b2)) (st := stW (Wf w b1 b2)) g.N2 g.k2 3 (t + 15) (by decide)
  let C := st2C g ((Wf w b1 b2)).params (lawF (Wf w b1 b2)) cs epc n t n' t' T A B fl ep sl
  have := seg_ok (w := (Wf w b1 b2)) (st := stW (Wf w b1 b2)) (body := bodyOf (lawF (Wf w b1 b2))) (seg := ((bodyOf (lawF (Wf w b1 b2))).drop 2).take 3) (env := lawEnv (lawF (Wf w b1 b2)) g.L) 600 488594019915535043282232422882946696707790941932266161189431566877658819090131434834337187900185977809495151845203162882284901618820538127149828127457577743515228705867726297123573756577021054553401247803531309423000489532990734722 C.ss (pre := C.pre) (n := n) (t := t) (fl := .next) (e := C.e) (allx_cons (W1.x) (allx_cons (W2.x) (allx_cons (W3.x) (allx_cons (W4.x) (allx_cons (W5.x) (allx_cons (W6.x) (allx_cons (W7.x) (allx_cons (W8.x) (allx_cons (W9.x) (allx_cons (W10.x) (allx_cons (W11.x) (allx_cons (V.x) allx_nil)))))))))))) rfl rfl (fun p q => by
    (generalize b1 = c1; generalize b2 = c2; revert c1 c2; refine split2 ?_ ?_ ?_ ?_ <;> kernel_rfl)) A' p p0
  exact this
end
end
end Mine

namespace Mine
section
open PySem PySem.W Sem
open PySem.Builtin.Str PySem.StrLaws in
/-- where a sign stands -/
noncomputable def posL (c : Nat) : List Nat → Nat → List Nat
  | [], _ => []
  | x :: l, i => (if x = c then [i] else []) ++ posL c l (i + 1)
open PySem.Builtin.Str PySem.StrLaws in
theorem occ_go (x : Str) (c : Nat) : ∀ (rest : List Nat) (lo : Nat) (st : Array Nat × Nat), x.cps.toList.drop lo = rest → lo + rest.length = x.length → st.2 ≤ lo → st.1.size + rest.length ≤ x.length →
    (forIn (List.range' lo (rest.length + 1)) st (occBody x ⟨#[c]⟩ x.length (x.length + 1)) : Id (Array Nat × Nat)).run.fst.toList = st.1.toList ++ posL c rest lo := by
  intro rest
  induction rest with
  | nil =>
    intro lo st hd hl hf hs
    show (forIn [lo] st _ : Id (Array Nat × Nat)).run.fst.toList = _
    rw [List.forIn_cons]
    unfold occBody
    have : ¬ (((st.fst.size < x.length + 1 ∧ st.snd ≤ lo) ∧ lo + (⟨#[c]⟩ : Str).length ≤ x.length) ∧ subAt x ⟨#[c]⟩ lo = true) := fun h => by
      have h1 : lo + 1 ≤ x.length := h.1.2
      have h2 : lo + 0 = x.length := hl
      omega
    rw [if_neg this]
    show st.fst.toList = _
    simp [posL]
  | cons a rest ih =>
    intro lo st hd hl hf hs
    have hl' : lo + (rest.length + 1) = x.length := hl
    have hs' : st.1.size + (rest.length + 1) ≤ x.length := hs
    have ha : x.cps.toList[lo]? = some a := by
      have := congrArg (fun l => l[0]?) hd
      simpa using this
    have hd' : x.cps.toList.drop (lo + 1) = rest := by
      have := congrArg List.tail hd
      simpa using this
    show (forIn (lo :: List.range' (lo + 1) (rest.length + 1)) st _ : Id (Array Nat × Nat)).run.fst.toList = _
    rw [List.forIn_cons]
    by_cases hc : a = c
    · subst hc
      have h1 := (subAt_one x a lo).mpr ha
      have hcond : ((st.fst.size < x.length + 1 ∧ st.snd ≤ lo) ∧ lo + (⟨#[a]⟩ : Str).length ≤ x.length) ∧ subAt x ⟨#[a]⟩ lo = true := ⟨⟨⟨by omega, hf⟩, h1.1⟩, h1.2⟩
      have e : occBody x ⟨#[a]⟩ x.length (x.length + 1) lo st = (Pure.pure (ForInStep.yield (st.fst.push lo, lo + 1)) : Id (ForInStep (Array Nat × Nat))) := by
        unfold occBody
        rw [if_pos hcond]; rfl
      rw [e]
      show (forIn (List.range' (lo + 1) (rest.length + 1)) (st.fst.push lo, lo + 1) _ : Id (Array Nat × Nat)).run.fst.toList = _
      rw [ih (lo + 1) (st.fst.push lo, lo + 1) hd' (by omega) (Nat.le_refl _) (by show (st.fst.push lo).size + _ ≤ _; rw [Array.size_push]; omega)]
      show (st.fst.push lo).toList ++ _ = _
      rw [Array.toList_push, posL, if_pos rfl]
      simp
    · have hcond : ¬ (((st.fst.size < x.length + 1 ∧ st.snd ≤ lo) ∧ lo + (⟨#[c]⟩ : Str).length ≤ x.length) ∧ subAt x ⟨#[c]⟩ lo = true) := fun h => by
        have := (subAt_one x c lo).mp ⟨h.1.2, h.2⟩
        rw [ha] at this
        injection this with this
        exact hc this
      have e : occBody x ⟨#[c]⟩ x.length (x.length + 1) lo st = (Pure.pure (ForInStep.yield (st.fst, st.snd)) : Id (ForInStep (Array Nat × Nat))) := by
        unfold occBody
        rw [if_neg hcond]
      rw [e]
      show (forIn (List.range' (lo + 1) (rest.length + 1)) (st.fst, st.snd) _ : Id (Array Nat × Nat)).run.fst.toList = _
      rw [ih (lo + 1) (st.fst, st.snd) hd' (by omega) (by show st.snd ≤ lo + 1; omega) (by show st.fst.size + _ ≤ _; omega)]
      rw [posL, if_neg hc]
      simp
open PySem.Builtin.Str PySem.StrLaws in
theorem occ_pos (x : Str) (c : Nat) : occurrences x ⟨#[c]⟩ 0 x.length (x.length + 1) = posL c x.cps.toList 0 := by
  rw [occ_eq]
  have h := occ_go x c x.cps.toList 0 (#[], 0) rfl (by show 0 + x.cps.toList.length = x.cps.size; rw [Array.length_toList]; omega) (Nat.le_refl _) (by show 0 + x.cps.toList.length ≤ x.cps.size; rw [Array.length_toList]; omega)
  have e : x.length + 1 - 0 = x.cps.toList.length + 1 := by show x.cps.size + 1 - 0 = _; rw [Array.length_toList]; rfl
  rw [e]
  simpa using h
theorem posL_none {c : Nat} : ∀ {l : List Nat} {i : Nat}, (∀ x ∈ l, x ≠ c) → posL c l i = []
  | [], _, _ => rfl
  | x :: l, i, h => by
    rw [posL, if_neg (h x (List.mem_cons_self ..)), posL_none fun y hy => h y (List.mem_cons_of_mem _ hy)]; rfl
theorem posL_app (c : Nat) : ∀ (a b : List Nat) (i : Nat), posL c (a ++ b) i = posL c a i ++ posL c b (i + a.length)
  | [], b, i => by simp [posL]
  | x :: a, b, i => by
    show (if x = c then [i] else []) ++ posL c (a ++ b) (i + 1) = _
    rw [posL_app c a b (i + 1), posL, List.append_assoc, show i + (x :: a).length = i + 1 + a.length by simp; omega]
theorem posL_one {c : Nat} {u v : List Nat} (hu : ∀ x ∈ u, x ≠ c) (hv : ∀ x ∈ v, x ≠ c) : posL c (u ++ c :: v) 0 = [u.length] := by
  rw [posL_app, posL_none hu, posL, if_pos rfl, posL_none hv]; simp
open PySem.Builtin.Str in
theorem repl_one {x z : Str} {c : Nat} {u v : List Nat} (hx : x.cps.toList = u ++ c :: v) (hu : ∀ y ∈ u, y ≠ c) (hv : ∀ y ∈ v, y ≠ c) :
    glued z (partsBetween x (occurrences x ⟨#[c]⟩ 0 x.length (x.length + 1)) 1) = ⟨⟨u ++ (z.cps.toList ++ v)⟩⟩ := by
  rw [occ_pos, hx, posL_one hu hv]
  show glued z [strSub x 0 u.length, strSub x (u.length + 1) x.length] = _
  apply Str.ext'
  show ((strSub x 0 u.length).cps ++ z.cps ++ (strSub x (u.length + 1) x.length).cps).toList = _
  rw [Array.toList_append, Array.toList_append]
  have h1 : (strSub x 0 u.length).cps.toList = u := by
    show (x.cps.extract 0 u.length).toList = u
    rw [Array.toList_extract, hx]
    simp
  have h2 : (strSub x (u.length + 1) x.length).cps.toList = v := by
    show (x.cps.extract (u.length + 1) x.cps.size).toList = v
    rw [Array.toList_extract, ← Array.length_toList, hx]
    simp [List.extract]
    exact List.take_of_length_le (by omega)
  rw [h1, h2, List.append_assoc]
end
end Mine

namespace Mine
section
open PySem PySem.W Sem
noncomputable abbrev leadX (l : Addr) (xs : Array Value) (ep back : Nat) (kb : Tok) (b : List Stmt) (e : Env) (n t n' t' : Nat) (y : Str) (k : Tok) : Mine.Spec := Mine.mk (leadC l back kb) none (lawCds b e) n t [(l, lstO xs ep)] ⟨.ok (.ret (.str y k)), n', t', [lstO xs ep], []⟩
noncomputable abbrev replS (x : Str) (a : Tok) (b c : Tok) (y : Str) : Mine.Spec := pureS "str.replace" [.str x a, .str ⟨#[34]⟩ b, .str ⟨#[34, 34]⟩ c] (fun t => .str y t) 1
structure NmD where
  x0 : Str
  k0 : Tok
  x1 : Str
  k1 : Tok
  n1 : Nat
  t1 : Nat
  n2 : Nat
  t2 : Nat
  k3 : Tok
  t3 : Nat
  y0 : Str
  y1 : Str
noncomputable def NmD.m0 (d : NmD) : Str := d.x0 ++ ⟨#[120, 34, 32, 9]⟩
noncomputable def NmD.m1 (d : NmD) : Str := d.x1 ++ ⟨#[34, 9]⟩
noncomputable def repW (y : Str) : Str := (⟨#[50, 53, 55, 32, 34]⟩ ++ y) ++ ⟨#[34, 32, 34, 121]⟩
noncomputable def NmD.le (d : NmD) : Obj := lstO #[.str d.x0 d.k0, .str d.x1 d.k1] 0
noncomputable def NmD.na (d : NmD) : Obj := lstO #[.str d.m0 d.k3, .str d.m1 (d.t3 + 2)] 0
noncomputable def NmD.re (d : NmD) : Obj := lstO #[.str (repW d.y0) (d.t3 + 11), .str (repW d.y1) (d.t3 + 19)] 2
noncomputable def nmL (g : Lv) (d : NmD) : Lv := { (((g.kn 5 d.t2).kn 6 (d.t3 + 3)).kn 7 (d.t3 + 20)) with le := d.n2, na := d.n2 + 1, re := d.n2 + 3 }
noncomputable def nmC (g : Lv) (P : Params) (f : FuncData) (fl : List (Nat × Tok)) (ep : Nat) (sl : List (Nat × Tok)) (n t : Nat) (d : NmD) : ConX :=
  ⟨.func (bodyOf f) (lawEnv f g.L), [.builtin "claim.caller" {}], n, t, [g.frL P 5, [(g.fi, lstO (natA fl) ep)], [(g.se, lstO (natA sl) 0)]],
    ⟨.ok .next, d.n2 + 7, d.t3 + 21, [(nmL g d).frL P 8, [(g.fi, lstO (natA fl) ep)], [(g.se, lstO (natA sl) 0)]], [[(d.n2, d.le)], [(d.n2 + 1, d.na)], [(d.n2 + 3, d.re)]]⟩,
    [(leadX g.fi (natA fl) ep g.bk.1 g.bk.2 (bodyOf f) (lawEnv f g.L) n t d.n1 d.t1 d.x0 d.k0).x,
     (leadX g.se (natA sl) 0 (g.bk.1 + 1) (d.t1 + 1) (bodyOf f) (lawEnv f g.L) d.n1 (d.t1 + 2) d.n2 d.t2 d.x1 d.k1).x,
     (giveS "str.__add__" [.str d.x0 d.k0, .str ⟨#[120, 34, 32, 9]⟩ (d.t2 + 2)] (d.n2 + 1) (d.t2 + 3) (.str d.m0 d.k3) d.t3).x,
     (addS d.x1 d.k1 ⟨#[34, 9]⟩ (d.t3 + 1)).x,
     (replS d.m0 d.k3 (d.t3 + 6) (d.t3 + 7) d.y0).x, (addS ⟨#[50, 53, 55, 32, 34]⟩ (d.t3 + 5) d.y0 (d.t3 + 8)).x, (addS (⟨#[50, 53, 55, 32, 34]⟩ ++ d.y0) (d.t3 + 9) ⟨#[34, 32, 34, 121]⟩ (d.t3 + 10)).x,
     (replS d.m1 (d.t3 + 2) (d.t3 + 14) (d.t3 + 15) d.y1).x, (addS ⟨#[50, 53, 55, 32, 34]⟩ (d.t3 + 13) d.y1 (d.t3 + 16)).x, (addS (⟨#[50, 53, 55, 32, 34]⟩ ++ d.y1) (d.t3 + 17) ⟨#[34, 32, 34, 121]⟩ (d.t3 + 18)).x]⟩
end
end Mine

namespace Mine
section
open PySem PySem.W Sem
theorem replV {w : World} {st : ST} (x : Str) (a b c : Tok) (u v : List Nat) (hb : b ≠ 0) (hc : c ≠ 0) (hbc : b ≠ c) (hx : x.cps.toList = u ++ 34 :: v) (hu : ∀ y ∈ u, y ≠ 34) (hv : ∀ y ∈ v, y ≠ 34) (hz : x.length ≤ 100000) : (replS x a b c ⟨⟨u ++ ([34, 34] ++ v)⟩⟩).Valid (model prog w) st := by
  have hsl : sizeLine = 16777216 := rfl
  have hlen : x.length = u.length + v.length + 1 := by
    show x.cps.size = _
    rw [← Array.length_toList, hx]; simp; omega
  have ho : PySem.Builtin.Str.occurrences x ⟨#[34]⟩ 0 x.length (x.length + 1) = [u.length] := by rw [occ_pos, hx]; exact posL_one hu hv
  have g := gives_str_replace x ⟨#[34]⟩ ⟨#[34, 34]⟩ a b c (fun _ => ⟨by simp [hb, hc], by simp [hbc], by decide +kernel, by
    rw [ho]
    show decide _ = false
    simp [Str.length] at hlen hz ⊢
    omega⟩)
  have e : ((PySem.Builtin.Str.occurrences x ⟨#[34]⟩ 0 x.length (x.length + 1)).isEmpty || ((⟨#[34]⟩ : Str).length == 0 && (⟨#[34, 34]⟩ : Str).length == 0)) = false := by rw [ho]; rfl
  rw [e] at g
  have r := repl_one (z := ⟨#[34, 34]⟩) hx hu hv
  have r' : PySem.Builtin.Str.glued ⟨#[34, 34]⟩ (PySem.Builtin.Str.partsBetween x (PySem.Builtin.Str.occurrences x ⟨#[34]⟩ 0 x.length (x.length + 1)) (⟨#[34]⟩ : Str).length) = ⟨⟨u ++ ([34, 34] ++ v)⟩⟩ := r
  rw [r'] at g
  exact pure_str (by decide +kernel) PySem.F.entry_str_replace g (by show (u ++ ([34, 34] ++ v)).length ≤ _; simp; omega)
section
variable (w : World) (b1 b2 : Bool)
/-- what the two leads, names and replies are -/
structure NmOk (d : NmD) (X0 X1 : List Nat) : Prop where
  x0 : d.x0 = ⟨⟨X0⟩⟩
  x1 : d.x1 = ⟨⟨X1⟩⟩
  y0 : d.y0 = ⟨⟨X0 ++ [120, 34, 34, 32, 9]⟩⟩
  y1 : d.y1 = ⟨⟨X1 ++ [34, 34, 9]⟩⟩
theorem str_app (X : List Nat) (y : Str) : ((⟨⟨X⟩⟩ : Str) ++ y).cps.toList = X ++ y.cps.toList := by
  show ((⟨X⟩ : Array Nat) ++ y.cps).toList = _
  rw [Array.toList_append]
theorem str_len (x : Str) : x.length = x.cps.toList.length := rfl
theorem lead_no (fl : List (Nat × Tok)) : ∀ y ∈ leadL fl, y ≠ 34 := by
  induction fl with
  | nil => intro y hy; cases hy
  | cons r l ih =>
    intro y hy
    unfold leadL at hy
    rcases List.mem_append.mp hy with h | h
    · rcases List.mem_append.mp h with h | h
      · rw [List.eq_of_mem_replicate h]; decide
      · rw [List.mem_singleton.mp h]; decide
    · exact ih y h
theorem blk_no (fl : List (Nat × Tok)) (k : Nat) : ∀ y ∈ leadL fl ++ List.replicate k 32, y ≠ 34 := fun y hy => by
  rcases List.mem_append.mp hy with h | h
  · exact lead_no fl y h
  · rw [List.eq_of_mem_replicate h]; decide
theorem stmt5 (g : Lv) (fl : List (Nat × Tok)) (ep : Nat) (sl : List (Nat × Tok)) (n t : Nat) (hb : g.bk.1 ≤ 2) (hf : fl.length ≤ 1000) (hf1 : ∀ r ∈ fl, r.1 ≤ 1000) (hf2 : (leadL fl).length ≤ 900) (hs : sl.length ≤ 1000) (hs1 : ∀ r ∈ sl, r.1 ≤ 1000) (hs2 : (leadL sl).length ≤ 900) :
    ∃ d : NmD, NmOk d (leadL fl ++ List.replicate g.bk.1 32) (leadL sl ++ List.replicate (g.bk.1 + 1) 32) ∧ Step (Wf w b1 b2) g.L 5 3 (([g.frL ((Wf w b1 b2)).params 5, [(g.fi, lstO (natA fl) ep)], [(g.se, lstO (natA sl) 0)]])) (([(nmL g d).frL ((Wf w b1 b2)).params 8, [(g.fi, lstO (natA fl) ep)], [(g.se, lstO (natA sl) 0)]] ++ [[(d.n2, d.le)], [(d.n2 + 1, d.na)], [(d.n2 + 3, d.re)]])) n t (d.n2 + 7) (d.t3 + 21) := by
  have hsl : sizeLine = 16777216 := rfl
  obtain ⟨n1, t1, k0, V1⟩ := leadV w b1 b2 (bodyOf (lawF (Wf w b1 b2))) (lawEnv (lawF (Wf w b1 b2)) g.L) g.fi ep fl g.bk.1 g.bk.2 n t hf hf1 (by omega) (by omega)
  obtain ⟨n2, t2, k1, V2⟩ := leadV w b1 b2 (bodyOf (lawF (Wf w b1 b2))) (lawEnv (lawF (Wf w b1 b2)) g.L) g.se 0 sl (g.bk.1 + 1) (t1 + 1) n1 (t1 + 2) hs hs1 (by omega) (by omega)
  have l0 : (leadL fl ++ List.replicate g.bk.1 32).length ≤ 902 := by simp; omega
  have l1 : (leadL sl ++ List.replicate (g.bk.1 + 1) 32).length ≤ 903 := by simp; omega
  have p1 : 0 < (leadL sl ++ List.replicate (g.bk.1 + 1) 32).length := by simp; omega
  have no0 := blk_no fl g.bk.1
  have no1 := blk_no sl (g.bk.1 + 1)
  generalize leadL fl ++ List.replicate g.bk.1 32 = X0 at *
  generalize leadL sl ++ List.replicate (g.bk.1 + 1) 32 = X1 at *
  have e0 : ((⟨⟨X0⟩⟩ : Str) ++ ⟨#[120, 34, 32, 9]⟩).cps.toList = (X0 ++ [120]) ++ 34 :: [32, 9] := by rw [str_app]; simp
  have e1 : ((⟨⟨X1⟩⟩ : Str) ++ ⟨#[34, 9]⟩).cps.toList = X1 ++ 34 :: [9] := by rw [str_app]
  obtain ⟨k3, t3, V3⟩ := add_give (w := (Wf w b1 b2)) (st := stW (Wf w b1 b2)) ⟨⟨X0⟩⟩ ⟨#[120, 34, 32, 9]⟩ k0 (t2 + 2) (n2 + 1) (t2 + 3) (by rw [str_len, e0]; simp; omega)
  have V4 := addV (w := (Wf w b1 b2)) (st := stW (Wf w b1 b2)) ⟨⟨X1⟩⟩ k1 ⟨#[34, 9]⟩ (t3 + 1) (by rw [str_len]; show (X1.length == 0) = false; simp; intro h; rw [h] at p1; exact absurd p1 (by decide)) (by decide) (by rw [str_len, e1]; simp; omega)
  have V5 := replV (w := (Wf w b1 b2)) (st := stW (Wf w b1 b2)) (⟨⟨X0⟩⟩ ++ ⟨#[120, 34, 32, 9]⟩) k3 (t3 + 6) (t3 + 7) (X0 ++ [120]) [32, 9] (Nat.succ_ne_zero _) (Nat.succ_ne_zero _) (fun h => absurd (Nat.add_left_cancel h) (by decide)) e0 (fun y hy => by
    rcases List.mem_append.mp hy with h | h
    · exact no0 y h
    · rw [List.mem_singleton.mp h]; decide) (by decide) (by rw [str_len, e0]; simp; omega)
  have V6 := replV (w := (Wf w b1 b2)) (st := stW (Wf w b1 b2)) (⟨⟨X1⟩⟩ ++ ⟨#[34, 9]⟩) (t3 + 2) (t3 + 14) (t3 + 15) X1 [9] (Nat.succ_ne_zero _) (Nat.succ_ne_zero _) (fun h => absurd (Nat.add_left_cancel h) (by decide)) e1 no1 (by decide) (by rw [str_len, e1]; simp; omega)
  have q0 : (⟨⟨(X0 ++ [120]) ++ ([34, 34] ++ [32, 9])⟩⟩ : Str) = ⟨⟨X0 ++ [120, 34, 34, 32, 9]⟩⟩ := by
    apply Str.ext'
    show (X0 ++ [120]) ++ ([34, 34] ++ [32, 9]) = X0 ++ [120, 34, 34, 32, 9]
    simp
  have q1 : (⟨⟨X1 ++ ([34, 34] ++ [9])⟩⟩ : Str) = ⟨⟨X1 ++ [34, 34, 9]⟩⟩ := rfl
  rw [q0] at V5
  rw [q1] at V6
  have lw : ∀ (Y : List Nat) (a b c : Tok), Y.length ≤ 2000 → 0 < Y.length → (addS ⟨#[50, 53, 55, 32, 34]⟩ a ⟨⟨Y⟩⟩ b).Valid (model prog (Wf w b1 b2)) (stW (Wf w b1 b2)) ∧ (addS (⟨#[50, 53, 55, 32, 34]⟩ ++ ⟨⟨Y⟩⟩) c ⟨#[34, 32, 34, 121]⟩ (c + 1)).Valid (model prog (Wf w b1 b2)) (stW (Wf w b1 b2)) := fun Y a b c hY hp => by
    have e3 : ((⟨#[50, 53, 55, 32, 34]⟩ : Str) ++ ⟨⟨Y⟩⟩).cps.toList = [50, 53, 55, 32, 34] ++ Y := str_app _ _
    have e4 : (((⟨#[50, 53, 55, 32, 34]⟩ : Str) ++ ⟨⟨Y⟩⟩) ++ ⟨#[34, 32, 34, 121]⟩ : Str).cps.toList = ([50, 53, 55, 32, 34] ++ Y) ++ [34, 32, 34, 121] := by
      rw [show (((⟨#[50, 53, 55, 32, 34]⟩ : Str) ++ ⟨⟨Y⟩⟩) ++ ⟨#[34, 32, 34, 121]⟩ : Str) = (⟨⟨[50, 53, 55, 32, 34] ++ Y⟩⟩ : Str) ++ ⟨#[34, 32, 34, 121]⟩ from by rw [show ((⟨#[50, 53, 55, 32, 34]⟩ : Str) ++ ⟨⟨Y⟩⟩) = (⟨⟨[50, 53, 55, 32, 34] ++ Y⟩⟩ : Str) from Str.ext' e3]]
      exact str_app _ _
    refine ⟨addV _ _ _ _ (by decide) (by rw [str_len]; show (Y.length == 0) = false; simp; intro h; rw [h] at hp; exact absurd hp (by decide)) (by rw [str_len, e3]; simp; omega), addV _ _ _ _ (by rw [str_len, e3]; simp) (by decide) (by rw [str_len, e4]; simp; omega)⟩
  obtain ⟨A0, B0⟩ := lw (X0 ++ [120, 34, 34, 32, 9]) (t3 + 5) (t3 + 8) (t3 + 9) (by simp; omega) (by simp)
  obtain ⟨A1, B1⟩ := lw (X1 ++ [34, 34, 9]) (t3 + 13) (t3 + 16) (t3 + 17) (by simp; omega) (by simp)
  let d : NmD := ⟨⟨⟨X0⟩⟩, k0, ⟨⟨X1⟩⟩, k1, n1, t1, n2, t2, k3, t3, ⟨⟨X0 ++ [120, 34, 34, 32, 9]⟩⟩, ⟨⟨X1 ++ [34, 34, 9]⟩⟩⟩
  refine ⟨d, ⟨rfl, rfl, rfl, rfl⟩, fun s0 old rest s p p0 A => ?_⟩
  let C := nmC g ((Wf w b1 b2)).params (lawF (Wf w b1 b2)) fl ep sl n t d
  have := seg_ok (w := (Wf w b1 b2)) (st := stW (Wf w b1 b2)) (body := bodyOf (lawF (Wf w b1 b2))) (seg := ((bodyOf (lawF (Wf w b1 b2))).drop 5).take 3) (env := lawEnv (lawF (Wf w b1 b2)) g.L) 700 (bif b1 then 24609139125498690347643101282539013976666562174601624512138233980756188678041678651620087823764288741186336732075205871766752909420287225933576657937925841850767569539341311233895819831831115074866417676175306735052340874524499128433399037297705088 else 108232138472172456687572982465045218174842666635944569966700206058028773091117550728857246330588602118242636294457879994066302449738735569214745409692028923506810161229003621489314620654339378962357468533992358378781334221590874290303304944710436056427155964032) C.ss (pre := C.pre) (n := n) (t := t) (fl := .next) (e := C.e) (allx_cons (V1.x) (allx_cons (V2.x) (allx_cons (V3.x) (allx_cons (V4.x) (allx_cons (V5.x) (allx_cons (A0.x) (allx_cons (B0.x) (allx_cons (V6.x) (allx_cons (A1.x) (allx_cons (B1.x) allx_nil)))))))))) rfl rfl (fun p q => by
    clear V1 V2 V3 V4 V5 V6 A0 B0 A1 B1
    (generalize b1 = c1; generalize b2 = c2; revert c1 c2; refine split2 ?_ ?_ ?_ ?_ <;> kernel_rfl)) A p p0
  exact this
end
end
end Mine

namespace Mine
section
open PySem PySem.W Sem
noncomputable abbrev swX (x : Str) (k : Tok) (form : Nat) (kf : Tok) (b : List Stmt) (e : Env) (n t n' t' : Nat) (y : Str) (k' : Tok) : Mine.Spec := Mine.mk (swC x k (Int.ofNat form) kf) none (lawCds b e) n t [] ⟨.ok (.ret (.str y k')), n', t', [], []⟩
noncomputable def whN : Nat → Nat
  | 0 => 32
  | 1 => 10
  | 2 => 9
  | _ => 13
structure TxD where
  r0 : Str
  j0 : Tok
  r1 : Str
  j1 : Tok
  y0 : Str
  k0 : Tok
  n1 : Nat
  t1 : Nat
  y1 : Str
  k1 : Tok
  n2 : Nat
  t2 : Nat
noncomputable def reO (r0 : Str) (j0 : Tok) (r1 : Str) (j1 : Tok) : Obj := lstO #[.str r0 j0, .str r1 j1] 2
noncomputable def txW (c : Nat) (y0 y1 : Str) : Str := ((⟨#[c]⟩ ++ y0) ++ ⟨#[c]⟩) ++ y1
noncomputable def txL (g : Lv) (c t : Nat) (d : TxD) : Lv := { ((g.kn 8 (t + 7)).kn 9 (d.t2 + 1)) with wh := (⟨#[c]⟩, t + 6), tx := (txW c d.y0 d.y1, d.t2) }
noncomputable def txC (g : Lv) (P : Params) (f : FuncData) (c n t : Nat) (d : TxD) : ConX :=
  let su := natA [(g.N0, g.k0), (g.N1, g.k1), (g.N2, g.k2)]
  ⟨.func (bodyOf f) (lawEnv f g.L), [.builtin "claim.caller" {}], n, t, [g.frL P 8, [(g.L + 2, cellO (.ref g.su))], [(g.su, g.sums)], [(g.re, reO d.r0 d.j0 d.r1 d.j1)]],
    ⟨.ok .next, d.n2, d.t2 + 2, [(txL g c t d).frL P 10, [(g.L + 2, cellO (.ref g.su))], [(g.su, g.sums)], [(g.re, reO d.r0 d.j0 d.r1 d.j1)]], []⟩,
    [(lgetS g.su su 3 2 (t + 1) (.int (Int.ofNat g.N2) g.k2)).x, (fdivZ (Int.ofNat g.N2) g.k2 27 (t + 2) (Int.ofNat (g.N2 / 27))).x, (modZS (Int.ofNat (g.N2 / 27)) (t + 3) 4 (t + 4) (Int.ofNat (g.N2 / 27 % 4))).x,
     (atS ⟨#[32, 10, 9, 13]⟩ t (g.N2 / 27 % 4) (t + 5) c).x,
     (lgetS g.re #[.str d.r0 d.j0, .str d.r1 d.j1] 2 0 (t + 8) (.str d.r0 d.j0)).x, (lgetS g.su su 3 2 (t + 9) (.int (Int.ofNat g.N2) g.k2)).x, (fdivZ (Int.ofNat g.N2) g.k2 3 (t + 10) (Int.ofNat (g.N2 / 3))).x, (modZS (Int.ofNat (g.N2 / 3)) (t + 11) 3 (t + 12) (Int.ofNat (g.N2 / 3 % 3))).x,
     (swX d.r0 d.j0 (g.N2 / 3 % 3) (t + 13) (bodyOf f) (lawEnv f g.L) n (t + 14) d.n1 d.t1 d.y0 d.k0).x,
     (addS ⟨#[c]⟩ (t + 6) d.y0 d.k0).x, (addS (⟨#[c]⟩ ++ d.y0) d.t1 ⟨#[c]⟩ (t + 6)).x,
     (lgetS g.re #[.str d.r0 d.j0, .str d.r1 d.j1] 2 1 (d.t1 + 2) (.str d.r1 d.j1)).x, (lgetS g.su su 3 2 (d.t1 + 3) (.int (Int.ofNat g.N2) g.k2)).x, (fdivZ (Int.ofNat g.N2) g.k2 9 (d.t1 + 4) (Int.ofNat (g.N2 / 9))).x, (modZS (Int.ofNat (g.N2 / 9)) (d.t1 + 5) 3 (d.t1 + 6) (Int.ofNat (g.N2 / 9 % 3))).x,
     (swX d.r1 d.j1 (g.N2 / 9 % 3) (d.t1 + 7) (bodyOf f) (lawEnv f g.L) d.n1 (d.t1 + 8) d.n2 d.t2 d.y1 d.k1).x,
     (addS ((⟨#[c]⟩ ++ d.y0) ++ ⟨#[c]⟩) (d.t1 + 1) d.y1 d.k1).x]⟩
end
end Mine

namespace Mine
section
open PySem PySem.W Sem
noncomputable def swL : Nat → List Nat → List Nat
  | 0, x => 34 :: (spellL (occ "\"\\") x ++ [34])
  | 1, x => spellL (occ "\\ \t\n\r") x
  | _, x => spellL (fun _ => true) x
theorem swL_len (form : Nat) (x : List Nat) (h : 0 < x.length) : 0 < (swL form x).length ∧ (swL form x).length ≤ 2 * x.length + 2 := by
  have pos : ∀ (e : Nat → Bool) (l : List Nat), 0 < l.length → 0 < (spellL e l).length := fun e l hl => by
    cases l with
    | nil => exact absurd hl (by decide)
    | cons c l => unfold spellL; cases e c <;> simp
  unfold swL
  have l1 := spell_len (occ "\"\\") x
  have l2 := spell_len (occ "\\ \t\n\r") x
  have l3 := spell_len (fun _ => true) x
  split
  · simp; omega
  · exact ⟨pos _ _ h, by omega⟩
  · exact ⟨pos _ _ h, by omega⟩
section
variable (w : World) (b1 b2 : Bool)
theorem swXV (b : List Stmt) (e : Env) (x : Str) (k : Tok) (form : Nat) (hf : form < 3) (kf : Tok) (n t : Nat) (ha : ascii x = true) (hz : x.cps.toList.length ≤ 1000000) : ∃ (n' t' k' : Nat), (swX x k form kf b e n t n' t' ⟨⟨swL form x.cps.toList⟩⟩ k').Valid (model prog (Wf w b1 b2)) (stW (Wf w b1 b2)) := by
  have h3 : form = 0 ∨ form = 1 ∨ form = 2 := lt3 hf
  rcases h3 with rfl | rfl | rfl
  · exact sw0V w b1 b2 b e x k kf n t ha hz
  · exact sw1V w b1 b2 b e x k kf n t ha hz
  · exact sw2V w b1 b2 b e x k kf n t ha hz
theorem stmt8 (g : Lv) (r0 : Str) (j0 : Tok) (r1 : Str) (j1 : Tok) (n t : Nat) (a0 : ascii r0 = true) (a1 : ascii r1 = true) (z0 : r0.cps.toList.length ≤ 3000) (z1 : r1.cps.toList.length ≤ 3000) (p0 : 0 < r0.cps.toList.length) (p1 : 0 < r1.cps.toList.length) :
    ∃ d : TxD, (d.y0 = ⟨⟨swL (g.N2 / 3 % 3) r0.cps.toList⟩⟩ ∧ d.y1 = ⟨⟨swL (g.N2 / 9 % 3) r1.cps.toList⟩⟩) ∧ Step (Wf w b1 b2) g.L 8 2 (([g.frL ((Wf w b1 b2)).params 8, [(g.L + 2, cellO (.ref g.su))], [(g.su, g.sums)], [(g.re, reO r0 j0 r1 j1)]])) (([(txL g (whN (g.N2 / 27 % 4)) t d).frL ((Wf w b1 b2)).params 10, [(g.L + 2, cellO (.ref g.su))], [(g.su, g.sums)], [(g.re, reO r0 j0 r1 j1)]] ++ [])) n t d.n2 (d.t2 + 2) := by
  have hsl : sizeLine = 16777216 := rfl
  have i4 : g.N2 / 27 % 4 = 0 ∨ g.N2 / 27 % 4 = 1 ∨ g.N2 / 27 % 4 = 2 ∨ g.N2 / 27 % 4 = 3 := lt4 (Nat.mod_lt _ (by decide))
  obtain ⟨n1, t1, k0, S0⟩ := swXV w b1 b2 (bodyOf (lawF (Wf w b1 b2))) (lawEnv (lawF (Wf w b1 b2)) g.L) r0 j0 (g.N2 / 3 % 3) (Nat.mod_lt _ (by decide)) (t + 13) n (t + 14) a0 (by omega)
  obtain ⟨n2, t2, k1, S1⟩ := swXV w b1 b2 (bodyOf (lawF (Wf w b1 b2))) (lawEnv (lawF (Wf w b1 b2)) g.L) r1 j1 (g.N2 / 9 % 3) (Nat.mod_lt _ (by decide)) (t1 + 7) n1 (t1 + 8) a1 (by omega)
  have L0 := swL_len (g.N2 / 3 % 3) _ p0
  have L1 := swL_len (g.N2 / 9 % 3) _ p1
  generalize hY0 : swL (g.N2 / 3 % 3) r0.cps.toList = Y0 at *
  generalize hY1 : swL (g.N2 / 9 % 3) r1.cps.toList = Y1 at *
  have W1 := lgetV (w := (Wf w b1 b2)) (st := stW (Wf w b1 b2)) g.su (natA [(g.N0, g.k0), (g.N1, g.k1), (g.N2, g.k2)]) 3 2 (t + 1) (.int (Int.ofNat g.N2) g.k2) (by rfl) (by omega)
  have W2 := fdivNV (w := (Wf w b1 b2)) (st := stW (Wf w b1 b2)) g.N2 g.k2 27 (t + 2) (by decide) (by decide)
  have W3 := modNV (w := (Wf w b1 b2)) (st := stW (Wf w b1 b2)) (g.N2 / 27) (t + 3) 4 (t + 4) (by decide)
  have W4 := atV (w := (Wf w b1 b2)) (st := stW (Wf w b1 b2)) ⟨#[32, 10, 9, 13]⟩ t (g.N2 / 27 % 4) (t + 5) (whN (g.N2 / 27 % 4)) (by rcases i4 with h | h | h | h <;> rw [h] <;> rfl) (by omega)
  have W5 := lgetV (w := (Wf w b1 b2)) (st := stW (Wf w b1 b2)) g.su (natA [(g.N0, g.k0), (g.N1, g.k1), (g.N2, g.k2)]) 3 2 (t + 9) (.int (Int.ofNat g.N2) g.k2) (by rfl) (by omega)
  have W6 := fdivNV (w := (Wf w b1 b2)) (st := stW (Wf w b1 b2)) g.N2 g.k2 3 (t + 10) (by decide) (by decide)
  have W7 := modNV (w := (Wf w b1 b2)) (st := stW (Wf w b1 b2)) (g.N2 / 3) (t + 11) 3 (t + 12) (by decide)
  have W8 := lgetV (w := (Wf w b1 b2)) (st := stW (Wf w b1 b2)) g.su (natA [(g.N0, g.k0), (g.N1, g.k1), (g.N2, g.k2)]) 3 2 (t1 + 3) (.int (Int.ofNat g.N2) g.k2) (by rfl) (by omega)
  have W9 := fdivNV (w := (Wf w b1 b2)) (st := stW (Wf w b1 b2)) g.N2 g.k2 9 (t1 + 4) (by decide) (by decide)
  have W10 := modNV (w := (Wf w b1 b2)) (st := stW (Wf w b1 b2)) (g.N2 / 9) (t1 + 5) 3 (t1 + 6) (by decide)
  have adds : ∀ (X Y : List Nat) (a b : Tok), 0 < X.length → 0 < Y.length → X.length ≤ 20000 → Y.length ≤ 20000 → (addS ⟨⟨X⟩⟩ a ⟨⟨Y⟩⟩ b).Valid (model prog (Wf w b1 b2)) (stW (Wf w b1 b2)) := fun X Y a b hX hY zX zY =>
    addV _ _ _ _ (by rw [str_len]; show (X.length == 0) = false; simp; intro h; rw [h] at hX; exact absurd hX (by decide)) (by rw [str_len]; show (Y.length == 0) = false; simp; intro h; rw [h] at hY; exact absurd hY (by decide)) (by rw [str_len, str_app]; show (X ++ Y).length ≤ _; rw [List.length_append]; omega)
  generalize whN (g.N2 / 27 % 4) = c at *
  have q1 : ((⟨#[c]⟩ : Str) ++ ⟨⟨Y0⟩⟩) = ⟨⟨c :: Y0⟩⟩ := Str.ext' (str_app [c] ⟨⟨Y0⟩⟩)
  have q2 : ((⟨⟨c :: Y0⟩⟩ : Str) ++ ⟨#[c]⟩) = ⟨⟨(c :: Y0) ++ [c]⟩⟩ := Str.ext' (str_app (c :: Y0) ⟨#[c]⟩)
  have A1 : (addS ⟨#[c]⟩ (t + 6) ⟨⟨Y0⟩⟩ k0).Valid (model prog (Wf w b1 b2)) (stW (Wf w b1 b2)) := adds [c] Y0 _ _ (by simp) (by omega) (by simp) (by omega)
  have A2 : (addS (⟨#[c]⟩ ++ ⟨⟨Y0⟩⟩) t1 ⟨#[c]⟩ (t + 6)).Valid (model prog (Wf w b1 b2)) (stW (Wf w b1 b2)) := by rw [q1]; exact adds (c :: Y0) [c] _ _ (by simp) (by simp) (by simp; omega) (by simp)
  have A3 : (addS ((⟨#[c]⟩ ++ ⟨⟨Y0⟩⟩) ++ ⟨#[c]⟩) (t1 + 1) ⟨⟨Y1⟩⟩ k1).Valid (model prog (Wf w b1 b2)) (stW (Wf w b1 b2)) := by rw [q1, q2]; exact adds _ Y1 _ _ (by simp) (by omega) (by simp; omega) (by omega)
  let d : TxD := ⟨r0, j0, r1, j1, ⟨⟨Y0⟩⟩, k0, n1, t1, ⟨⟨Y1⟩⟩, k1, n2, t2⟩
  refine ⟨d, ⟨rfl, rfl⟩, fun s0 old rest s p p0 A => ?_⟩
  have G0 := lgetV (w := (Wf w b1 b2)) (st := stW (Wf w b1 b2)) g.re #[.str r0 j0, .str r1 j1] 2 0 (t + 8) (.str r0 j0) rfl (by omega)
  have G1 := lgetV (w := (Wf w b1 b2)) (st := stW (Wf w b1 b2)) g.re #[.str r0 j0, .str r1 j1] 2 1 (t1 + 2) (.str r1 j1) rfl (by omega)
  let C := txC g ((Wf w b1 b2)).params (lawF (Wf w b1 b2)) c n t d
  have := seg_ok (w := (Wf w b1 b2)) (st := stW (Wf w b1 b2)) (body := bodyOf (lawF (Wf w b1 b2))) (seg := ((bodyOf (lawF (Wf w b1 b2))).drop 8).take 2) (env := lawEnv (lawF (Wf w b1 b2)) g.L) 700 441934809965483141352657521281493039150565269672363612244718415888428443502363098766183916549922187669747502062164421960887291376574212024718331911181980189058 C.ss (pre := C.pre) (n := n) (t := t) (fl := .next) (e := C.e) (allx_cons (W1.x) (allx_cons (W2.x) (allx_cons (W3.x) (allx_cons (W4.x) (allx_cons (G0.x) (allx_cons (W5.x) (allx_cons (W6.x) (allx_cons (W7.x) (allx_cons (S0.x) (allx_cons (A1.x) (allx_cons (A2.x) (allx_cons (G1.x) (allx_cons (W8.x) (allx_cons (W9.x) (allx_cons (W10.x) (allx_cons (S1.x) (allx_cons (A3.x) allx_nil))))))))))))))))) rfl rfl (fun p q => by
    clear W1 W2 W3 W4 G0 W5 W6 W7 S0 A1 A2 G1 W8 W9 W10 S1 A3
    (generalize b1 = c1; generalize b2 = c2; revert c1 c2; refine split2 ?_ ?_ ?_ ?_ <;> kernel_rfl)) A p p0
  exact this
end
end
end Mine

namespace Mine
section
open PySem PySem.W
section
variable (w : World) (b1 b2 : Bool) (g : Gx) (B : Bs) (gb : List Stmt) (ge : Env)
/-- loop C whole -/
theorem loopC (m : Nat) : ∀ (cs : List (Nat × Tok)), cs.length ≤ m → ∀ (y : Str) (line : Int) (b : Bool) (y' : Str) (r : List (Nat × Tok)) (line' : Int), scanC cs y line = some (b, y', r, line') → (y.length == 0) = false → y.length + cs.length < 900000 →
    ∀ (n t : Nat) (lk : Tok) (ep : Nat) (tk kc : Tok) (ch : Value), ∃ (n' t' : Nat) (tk' lk' : Tok) (ep' : Nat) (ch' : Value),
      VC (Wf w b1 b2) g B gb ge (codeC (Wf w b1 b2) g) n t (g.al (Wf w b1 b2) line lk cs ep (.str y tk) (some (kc, ch)))
        (match b with
          | true => ⟨.ok (.ret (.str y' tk')), n', t', objs (g.al (Wf w b1 b2) line' lk' r ep' (.str y' tk') (some (kc, ch'))), []⟩
          | false => ⟨.ok .next, n', t', objs (g.lex (Wf w b1 b2).params (lexF (Wf w b1 b2)) line' lk' [] ep') ++ [gtF (Wf w b1 b2).params g.x g.I g.g0 g.g1 g.g2 (.str y' tk') (some (kc, ch')), mthO g.x, itX], []⟩) := by
  induction m with
  | zero =>
    intro cs hm y line b y' r line' h hy hz n t lk ep tk kc ch
    have : cs = [] := List.eq_nil_of_length_eq_zero (Nat.le_zero.mp hm)
    subst this
    simp only [scanC, Option.some.injEq, Prod.mk.injEq] at h
    obtain ⟨rfl, rfl, rfl, rfl⟩ := h
    exact ⟨_, _, tk, lk, ep, ch, C_end w b1 b2 g B gb ge⟩
  | succ m ih =>
    intro cs hm y line b y' r line' h hy hz n t lk ep tk kc ch
    match cs, hm, h, hz with
    | [], _, h, _ =>
      simp only [scanC, Option.some.injEq, Prod.mk.injEq] at h
      obtain ⟨rfl, rfl, rfl, rfl⟩ := h
      exact ⟨_, _, tk, lk, ep, ch, C_end w b1 b2 g B gb ge⟩
    | (c, k) :: rest, hm, h, hz =>
      have hl : rest.length ≤ m := Nat.le_of_succ_le_succ hm
      have hz' : y.length + (rest.length + 1) < 900000 := hz
      rw [scanC.eq_def] at h
      simp only at h
      by_cases h0 : c = 0
      · rw [if_pos h0] at h; cases h
      rw [if_neg h0] at h
      cases hw : white c with
      | true =>
        rw [hw, if_pos rfl] at h
        simp only [Option.some.injEq, Prod.mk.injEq] at h
        obtain ⟨rfl, rfl, rfl, rfl⟩ := h
        have hc : c = 10 ∨ c = 9 ∨ c = 13 ∨ c = 32 := by
          unfold white at hw
          simp only [Bool.or_eq_true, beq_iff_eq] at hw
          exact or4 hw
        rcases hc with rfl | rfl | rfl | rfl
        · exact ⟨_, _, tk, _, _, _, C_w10 w b1 b2 g B gb ge (by omega)⟩
        · exact ⟨_, _, tk, _, _, _, C_w9 w b1 b2 g B gb ge (by omega)⟩
        · exact ⟨_, _, tk, _, _, _, C_w13 w b1 b2 g B gb ge (by omega)⟩
        · exact ⟨_, _, tk, _, _, _, C_w32 w b1 b2 g B gb ge (by omega)⟩
      | false =>
        rw [hw, if_neg (by decide)] at h
        by_cases h92 : c = 92
        · subst h92
          rw [if_pos rfl] at h
          match rest, hl, h, hz' with
          | [], _, h, _ => cases h
          | (d, k2) :: r', hl, h, hz' =>
            have hl' : r'.length ≤ m := Nat.le_of_succ_le hl
            have hz2 : y.length + (r'.length + 1 + 1) < 900000 := hz'
            simp only at h
            by_cases hd : d = 0
            · rw [if_pos hd] at h; cases h
            rw [if_neg hd] at h
            have L := add_len (c := d) (y := y) (k := r'.length) (by omega)
            have L2 : (y ++ (⟨#[d]⟩ : Str)).length + r'.length < 900000 := by
              rw [Str.length_append]
              have : (⟨#[d]⟩ : Str).length = 1 := rfl
              omega
            by_cases h10 : d = 10
            · subst h10
              obtain ⟨n', t', tk', lk', ep', ch', V⟩ := ih r' hl' _ _ b y' r line' h L.2.1 L2 (n + 4) (t + 29) (t + 23) (ep + 2) (t + 27) kc (chV 10 k2)
              refine ⟨n', t', tk', lk', ep', ch', ?_⟩
              cases b
              · exact C_escnl w b1 b2 g B gb ge hy (by omega) rfl rfl V
              · exact C_escnl w b1 b2 g B gb ge hy (by omega) rfl rfl V
            · rw [show bump d line = line by unfold bump; rw [if_neg h10]] at h
              obtain ⟨n', t', tk', lk', ep', ch', V⟩ := ih r' hl' _ _ b y' r line' h L.2.1 L2 (n + 4) (t + 24) lk (ep + 2) (t + 22) kc (chV d k2)
              refine ⟨n', t', tk', lk', ep', ch', ?_⟩
              cases b
              · exact C_esc w b1 b2 g B gb ge hd h10 hy (by omega) rfl rfl V
              · exact C_esc w b1 b2 g B gb ge hd h10 hy (by omega) rfl rfl V
        · rw [if_neg h92] at h
          have L := add_len (c := c) (y := y) (k := rest.length) (by omega)
          have L2 : (y ++ (⟨#[c]⟩ : Str)).length + rest.length < 900000 := by
            rw [Str.length_append]
            have : (⟨#[c]⟩ : Str).length = 1 := rfl
            omega
          obtain ⟨n', t', tk', lk', ep', ch', V⟩ := ih rest hl _ _ b y' r line' h L.2.1 L2 (n + 2) (t + 14) lk (ep + 1) (t + 12) kc (chV c k)
          refine ⟨n', t', tk', lk', ep', ch', ?_⟩
          cases b
          · exact C_ord w b1 b2 g B gb ge h0 hw h92 hy (by omega) rfl rfl V
          · exact C_ord w b1 b2 g B gb ge h0 hw h92 hy (by omega) rfl rfl V

theorem add_nonempty (y : Str) (c : Nat) : ((y ++ (⟨#[c]⟩ : Str)).length == 0) = false := by
  rw [Str.length_append, beq_eq_false_iff_ne]
  have : (⟨#[c]⟩ : Str).length = 1 := rfl
  omega
theorem add_size {y : Str} {c k : Nat} (h : y.length + (k + 1) < 900000) : (y ++ (⟨#[c]⟩ : Str)).length + k < 900000 := by
  rw [Str.length_append]
  have : (⟨#[c]⟩ : Str).length = 1 := rfl
  omega
/-- loop B whole -/
theorem loopB (m : Nat) : ∀ (cs : List (Nat × Tok)), cs.length ≤ m → ∀ (y : Str) (line : Int) (y' : Str) (r : List (Nat × Tok)) (line' : Int), scanB cs y line = some (y', r, line') → (y = ⟨#[]⟩ ∨ (y.length == 0) = false) → y.length + cs.length < 900000 →
    ∀ (n t : Nat) (lk : Tok) (ep : Nat) (tk kc : Tok) (ch : Value), ∃ (n' t' : Nat) (tk' lk' : Tok) (ep' : Nat) (ch' : Value),
      VC (Wf w b1 b2) g B gb ge (codeB (Wf w b1 b2) g) n t (g.al (Wf w b1 b2) line lk cs ep (.str y tk) (some (kc, ch)))
        ⟨.ok (.ret (.str y' tk')), n', t', objs (g.al (Wf w b1 b2) line' lk' r ep' (.str y' tk') (some (kc, ch'))), []⟩ := by
  induction m with
  | zero =>
    intro cs hm y line y' r line' h hy hz n t lk ep tk kc ch
    have : cs = [] := List.eq_nil_of_length_eq_zero (Nat.le_zero.mp hm)
    subst this
    cases h
  | succ m ih =>
    intro cs hm y line y' r line' h hy hz n t lk ep tk kc ch
    match cs, hm, h, hz with
    | [], _, h, _ => cases h
    | (c, k) :: rest, hm, h, hz =>
      have hl : rest.length ≤ m := Nat.le_of_succ_le_succ hm
      have hz' : y.length + (rest.length + 1) < 900000 := hz
      rw [scanB.eq_def] at h
      simp only at h
      by_cases h0 : c = 0
      · rw [if_pos h0] at h; cases h
      rw [if_neg h0] at h
      by_cases h34 : c = 34
      · subst h34
        rw [if_pos rfl] at h
        simp only [Option.some.injEq, Prod.mk.injEq] at h
        obtain ⟨rfl, rfl, rfl⟩ := h
        exact ⟨_, _, tk, _, _, _, B_close w b1 b2 g B gb ge (by omega)⟩
      rw [if_neg h34] at h
      by_cases h92 : c = 92
      · subst h92
        rw [if_pos rfl] at h
        match rest, hl, h, hz' with
        | [], _, h, _ => cases h
        | (d, k2) :: r', hl, h, hz' =>
          have hl' : r'.length ≤ m := Nat.le_of_succ_le hl
          have hz2 : y.length + (r'.length + 1 + 1) < 900000 := hz'
          simp only at h
          by_cases hd : d = 0
          · rw [if_pos hd] at h; cases h
          rw [if_neg hd] at h
          have L2 := add_size (y := y) (c := d) (k := r'.length) (by omega)
          by_cases h10 : d = 10
          · subst h10
            rcases hy with rfl | hy
            · obtain ⟨n', t', tk', lk', ep', ch', V⟩ := ih r' hl' _ _ y' r line' h (.inr (add_nonempty _ _)) L2 (n + 4) (t + 28) (t + 23) (ep + 2) k2 kc (chV 10 k2)
              exact ⟨n', t', tk', lk', ep', ch', B_escnl0 w b1 b2 g B gb ge (y := ⟨#[]⟩) (by omega) rfl rfl V⟩
            · obtain ⟨n', t', tk', lk', ep', ch', V⟩ := ih r' hl' _ _ y' r line' h (.inr (add_nonempty _ _)) L2 (n + 4) (t + 29) (t + 23) (ep + 2) (t + 27) kc (chV 10 k2)
              exact ⟨n', t', tk', lk', ep', ch', B_escnl w b1 b2 g B gb ge hy (by omega) rfl rfl V⟩
          · rw [show bump d line = line by unfold bump; rw [if_neg h10]] at h
            rcases hy with rfl | hy
            · obtain ⟨n', t', tk', lk', ep', ch', V⟩ := ih r' hl' _ _ y' r line' h (.inr (add_nonempty _ _)) L2 (n + 4) (t + 23) lk (ep + 2) k2 kc (chV d k2)
              exact ⟨n', t', tk', lk', ep', ch', B_esc0 w b1 b2 g B gb ge (y := ⟨#[]⟩) hd h10 (by omega) rfl rfl V⟩
            · obtain ⟨n', t', tk', lk', ep', ch', V⟩ := ih r' hl' _ _ y' r line' h (.inr (add_nonempty _ _)) L2 (n + 4) (t + 24) lk (ep + 2) (t + 22) kc (chV d k2)
              exact ⟨n', t', tk', lk', ep', ch', B_esc w b1 b2 g B gb ge hd h10 hy (by omega) rfl rfl V⟩
      · rw [if_neg h92] at h
        have L2 := add_size (y := y) (c := c) (k := rest.length) (by omega)
        by_cases h10 : c = 10
        · subst h10
          rcases hy with rfl | hy
          · obtain ⟨n', t', tk', lk', ep', ch', V⟩ := ih rest hl _ _ y' r line' h (.inr (add_nonempty _ _)) L2 (n + 2) (t + 18) (t + 11) (ep + 1) k kc (chV 10 k)
            exact ⟨n', t', tk', lk', ep', ch', B_nl0 w b1 b2 g B gb ge (y := ⟨#[]⟩) (by omega) rfl rfl V⟩
          · obtain ⟨n', t', tk', lk', ep', ch', V⟩ := ih rest hl _ _ y' r line' h (.inr (add_nonempty _ _)) L2 (n + 2) (t + 19) (t + 11) (ep + 1) (t + 17) kc (chV 10 k)
            exact ⟨n', t', tk', lk', ep', ch', B_nl w b1 b2 g B gb ge hy (by omega) rfl rfl V⟩
        · rw [show bump c line = line by unfold bump; rw [if_neg h10]] at h
          rcases hy with rfl | hy
          · obtain ⟨n', t', tk', lk', ep', ch', V⟩ := ih rest hl _ _ y' r line' h (.inr (add_nonempty _ _)) L2 (n + 2) (t + 13) lk (ep + 1) k kc (chV c k)
            exact ⟨n', t', tk', lk', ep', ch', B_ord0 w b1 b2 g B gb ge (y := ⟨#[]⟩) h0 h10 h34 h92 (by omega) rfl rfl V⟩
          · obtain ⟨n', t', tk', lk', ep', ch', V⟩ := ih rest hl _ _ y' r line' h (.inr (add_nonempty _ _)) L2 (n + 2) (t + 14) lk (ep + 1) (t + 12) kc (chV c k)
            exact ⟨n', t', tk', lk', ep', ch', B_ord w b1 b2 g B gb ge h0 h10 h34 h92 hy (by omega) rfl rfl V⟩
end
end
end Mine

namespace Mine
section
open PySem PySem.W
noncomputable def kcOf (fs : Option (Tok × Value)) (d : Tok) : Tok := match fs with | none => d | some x => x.1
section
variable (w : World) (b1 b2 : Bool) (g : Gx) (B : Bs) (gb : List Stmt) (ge : Env)
noncomputable abbrev VA (w : World) (_g : Gx) (B : Bs) (gb : List Stmt) (ge : Env) (c : Code) (n t : Nat) (pre : List Ent) (e : Eff) : Prop :=
  (mk c none (.func gb ge :: B.codes) n t pre e).Valid (model prog w) (stW w)
theorem A_w9 {k : Tok} {r : List (Nat × Tok)} {e : Eff} {o0 o1 o2 o3 o4 o5 o6 o7 o8 o9 o10 : Obj} {n t : Nat} {line : Int} {lk : Tok} {ep : Nat} {tk : Tok} {fs : Option (Tok × Value)}
    (hz : r.length < 900000) (he : e.post = [o0, o1, o2, o3, o4, o5, o6, o7, o8, o9, o10]) (hn : e.news = []) 
    (V : VA (Wf w b1 b2) g B gb ge (codeA (Wf w b1 b2) g) (n + 2) (t + 11) (g.al (Wf w b1 b2) line lk r (ep + 1) (.str ⟨#[]⟩ tk) (some (kcOf fs (t + 9), chV 9 k))) e) :
    VA (Wf w b1 b2) g B gb ge (codeA (Wf w b1 b2) g) n t (g.al (Wf w b1 b2) line lk ((9, k) :: r) ep (.str ⟨#[]⟩ tk) fs) e := by
  obtain ⟨er, en, et, epo, ew⟩ := e
  simp only at he hn
  subst he hn
  refine mk_valid 300 873044290808027367038720781450366485797939206351560563654063989408684688900167513765484228528461584125217033974628363
    [g.nxtO (Wf w b1 b2).params (lexF (Wf w b1 b2)) ((ctA (Wf w b1 b2) g gb ge).codes ++ B.codes) 9 k r n t line lk ep, _]
    (all_cons (nxtO_ok w b1 b2 g _ B 9 k r n t line lk ep (by decide) (by decide) (by omega)) (all_cons (V) all_nil)) rfl ?_
  intro p q
  cases b2 <;> cases B <;> cases fs <;> kernel_rfl
theorem A_w13 {k : Tok} {r : List (Nat × Tok)} {e : Eff} {o0 o1 o2 o3 o4 o5 o6 o7 o8 o9 o10 : Obj} {n t : Nat} {line : Int} {lk : Tok} {ep : Nat} {tk : Tok} {fs : Option (Tok × Value)}
    (hz : r.length < 900000) (he : e.post = [o0, o1, o2, o3, o4, o5, o6, o7, o8, o9, o10]) (hn : e.news = []) 
    (V : VA (Wf w b1 b2) g B gb ge (codeA (Wf w b1 b2) g) (n + 2) (t + 11) (g.al (Wf w b1 b2) line lk r (ep + 1) (.str ⟨#[]⟩ tk) (some (kcOf fs (t + 9), chV 13 k))) e) :
    VA (Wf w b1 b2) g B gb ge (codeA (Wf w b1 b2) g) n t (g.al (Wf w b1 b2) line lk ((13, k) :: r) ep (.str ⟨#[]⟩ tk) fs) e := by
  obtain ⟨er, en, et, epo, ew⟩ := e
  simp only at he hn
  subst he hn
  refine mk_valid 300 873044290808027367038720781450366485797939206351560563654063989408684688900167513765484228528461584125217033974628363
    [g.nxtO (Wf w b1 b2).params (lexF (Wf w b1 b2)) ((ctA (Wf w b1 b2) g gb ge).codes ++ B.codes) 13 k r n t line lk ep, _]
    (all_cons (nxtO_ok w b1 b2 g _ B 13 k r n t line lk ep (by decide) (by decide) (by omega)) (all_cons (V) all_nil)) rfl ?_
  intro p q
  cases b2 <;> cases B <;> cases fs <;> kernel_rfl
theorem A_w32 {k : Tok} {r : List (Nat × Tok)} {e : Eff} {o0 o1 o2 o3 o4 o5 o6 o7 o8 o9 o10 : Obj} {n t : Nat} {line : Int} {lk : Tok} {ep : Nat} {tk : Tok} {fs : Option (Tok × Value)}
    (hz : r.length < 900000) (he : e.post = [o0, o1, o2, o3, o4, o5, o6, o7, o8, o9, o10]) (hn : e.news = []) 
    (V : VA (Wf w b1 b2) g B gb ge (codeA (Wf w b1 b2) g) (n + 2) (t + 11) (g.al (Wf w b1 b2) line lk r (ep + 1) (.str ⟨#[]⟩ tk) (some (kcOf fs (t + 9), chV 32 k))) e) :
    VA (Wf w b1 b2) g B gb ge (codeA (Wf w b1 b2) g) n t (g.al (Wf w b1 b2) line lk ((32, k) :: r) ep (.str ⟨#[]⟩ tk) fs) e := by
  obtain ⟨er, en, et, epo, ew⟩ := e
  simp only at he hn
  subst he hn
  refine mk_valid 300 873044290808027367038720781450366485797939206351560563654063989408684688900167513765484228528461584125217033974628363
    [g.nxtO (Wf w b1 b2).params (lexF (Wf w b1 b2)) ((ctA (Wf w b1 b2) g gb ge).codes ++ B.codes) 32 k r n t line lk ep, _]
    (all_cons (nxtO_ok w b1 b2 g _ B 32 k r n t line lk ep (by decide) (by decide) (by omega)) (all_cons (V) all_nil)) rfl ?_
  intro p q
  cases b2 <;> cases B <;> cases fs <;> kernel_rfl
theorem A_w10 {k : Tok} {r : List (Nat × Tok)} {e : Eff} {o0 o1 o2 o3 o4 o5 o6 o7 o8 o9 o10 : Obj} {n t : Nat} {line : Int} {lk : Tok} {ep : Nat} {tk : Tok} {fs : Option (Tok × Value)}
    (hz : r.length < 900000) (he : e.post = [o0, o1, o2, o3, o4, o5, o6, o7, o8, o9, o10]) (hn : e.news = []) 
    (V : VA (Wf w b1 b2) g B gb ge (codeA (Wf w b1 b2) g) (n + 2) (t + 16) (g.al (Wf w b1 b2) (line + 1) (t + 11) r (ep + 1) (.str ⟨#[]⟩ tk) (some (kcOf fs (t + 14), chV 10 k))) e) :
    VA (Wf w b1 b2) g B gb ge (codeA (Wf w b1 b2) g) n t (g.al (Wf w b1 b2) line lk ((10, k) :: r) ep (.str ⟨#[]⟩ tk) fs) e := by
  obtain ⟨er, en, et, epo, ew⟩ := e
  simp only at he hn
  subst he hn
  refine mk_valid 300 873044290808027367038720781450366485797939206351560563654063989408684688900167513765484228528461584125217033974628363
    [g.nxtN (Wf w b1 b2).params (lexF (Wf w b1 b2)) ((ctA (Wf w b1 b2) g gb ge).codes ++ B.codes) k r n t line lk ep, _]
    (all_cons (nxtN_ok w b1 b2 g _ B k r n t line lk ep (by omega)) (all_cons (V) all_nil)) rfl ?_
  intro p q
  cases b2 <;> cases B <;> cases fs <;> kernel_rfl
theorem A_quote {k : Tok} {r : List (Nat × Tok)} {v : Value} {en et : Nat} {o0 o1 o2 o3 o4 o5 o6 o7 o8 o9 o10 : Obj} {n t : Nat} {line : Int} {lk : Tok} {ep : Nat} {tk : Tok} {fs : Option (Tok × Value)}
    (hz : r.length < 900000) 
    (V : VC (Wf w b1 b2) g B gb ge (codeB (Wf w b1 b2) g) (n + 2) (t + 12) (g.al (Wf w b1 b2) line lk r (ep + 1) (.str ⟨#[]⟩ tk) (some (kcOf fs (t + 9), chV 34 k))) ⟨.ok (.ret v), en, et, [o0, o1, o2, o3, o4, o5, o6, o7, o8, o9, o10], []⟩) :
    VA (Wf w b1 b2) g B gb ge (codeA (Wf w b1 b2) g) n t (g.al (Wf w b1 b2) line lk ((34, k) :: r) ep (.str ⟨#[]⟩ tk) fs) ⟨.ok (.ret v), en, et, [o0, o1, o2, o3, o4, o5, o6, o7, o8, o9, o10], []⟩ := by
  refine mk_valid 300 1030708774243131980872046585649665649959799302027239259137897247708845999307892463681222219132556873027337729831331514076071742115238035467
    [g.nxtO (Wf w b1 b2).params (lexF (Wf w b1 b2)) ((ctA (Wf w b1 b2) g gb ge).codes ++ B.codes) 34 k r n t line lk ep, _]
    (all_cons (nxtO_ok w b1 b2 g _ B 34 k r n t line lk ep (by decide) (by decide) (by omega)) (all_cons (V) all_nil)) rfl ?_
  intro p q
  cases b2 <;> cases B <;> cases fs <;> kernel_rfl
theorem A_ord {c : Nat} {k : Tok} {r : List (Nat × Tok)} {v : Value} {en et : Nat} {o0 o1 o2 o3 o4 o5 o6 o7 o8 o9 o10 : Obj} {n t : Nat} {line : Int} {lk : Tok} {ep : Nat} {tk : Tok} {fs : Option (Tok × Value)}
    (h0 : c ≠ 0) (hw : white c = false) (h34 : c ≠ 34) (h92 : c ≠ 92) (hz : r.length < 900000) 
    (V : VC (Wf w b1 b2) g B gb ge (codeC (Wf w b1 b2) g) (n + 2) (t + 14) (g.al (Wf w b1 b2) line lk r (ep + 1) (.str ⟨#[c]⟩ k) (some (kcOf fs (t + 9), chV c k))) ⟨.ok (.ret v), en, et, [o0, o1, o2, o3, o4, o5, o6, o7, o8, o9, o10], []⟩) :
    VA (Wf w b1 b2) g B gb ge (codeA (Wf w b1 b2) g) n t (g.al (Wf w b1 b2) line lk ((c, k) :: r) ep (.str ⟨#[]⟩ tk) fs) ⟨.ok (.ret v), en, et, [o0, o1, o2, o3, o4, o5, o6, o7, o8, o9, o10], []⟩ := by
  have h10 : c ≠ 10 := by rintro rfl; cases hw
  refine mk_valid 300 9506610486494965502748884099570949213451311567364589308922008422827763859633077784418387336669433397727863179615893604262475029066998324197206633237897723915
    [g.nxtO (Wf w b1 b2).params (lexF (Wf w b1 b2)) ((ctA (Wf w b1 b2) g gb ge).codes ++ B.codes) c k r n t line lk ep, inS "\n\t\r " (g.K 3) ⟨#[c]⟩ k false, eqS ⟨#[c]⟩ k "\"" (t + 11) false, eqS ⟨#[c]⟩ k "\\" (t + 12) false, _]
    (all_cons (nxtO_ok w b1 b2 g _ B c k r n t line lk ep h0 h10 (by omega)) (all_cons (inV _ _ _ _ _ (not_white hw)) (all_cons (eqV _ _ _ _ _ (eq_lit (d := 34) (by decide +kernel) h34)) (all_cons (eqV _ _ _ _ _ (eq_lit (d := 92) (by decide +kernel) h92)) (all_cons (V) all_nil))))) rfl ?_
  intro p q
  cases b2 <;> cases B <;> cases fs <;> kernel_rfl
theorem A_ordE {c : Nat} {k : Tok} {r : List (Nat × Tok)} {v ch2 : Value} {en et ep2 : Nat} {kc lk2 : Tok} {line2 : Int} {n t : Nat} {line : Int} {lk : Tok} {ep : Nat} {tk : Tok} {fs : Option (Tok × Value)}
    (h0 : c ≠ 0) (hw : white c = false) (h34 : c ≠ 34) (h92 : c ≠ 92) (hz : r.length < 900000) 
    (V : VC (Wf w b1 b2) g B gb ge (codeC (Wf w b1 b2) g) (n + 2) (t + 14) (g.al (Wf w b1 b2) line lk r (ep + 1) (.str ⟨#[c]⟩ k) (some (kcOf fs (t + 9), chV c k))) ⟨.ok .next, en, et, objs (g.lex (Wf w b1 b2).params (lexF (Wf w b1 b2)) line2 lk2 [] ep2) ++ [gtF (Wf w b1 b2).params g.x g.I g.g0 g.g1 g.g2 v (some (kc, ch2)), mthO g.x, itX], []⟩) :
    VA (Wf w b1 b2) g B gb ge (codeA (Wf w b1 b2) g) n t (g.al (Wf w b1 b2) line lk ((c, k) :: r) ep (.str ⟨#[]⟩ tk) fs) ⟨.ok .next, en + 2, et, objs (g.lex (Wf w b1 b2).params (lexF (Wf w b1 b2)) line2 lk2 [] ep2) ++ [gtF (Wf w b1 b2).params g.x g.I g.g0 g.g1 g.g2 v (some (kc, ch2)), mthO g.x, itX], []⟩ := by
  have h10 : c ≠ 10 := by rintro rfl; cases hw
  refine mk_valid 300 685023479112562821349790399036725350992327236412901215146558650104118951213705860311638375900299189103782342816803138907764645947062867772325490232107282397123777698442952715
    [g.nxtO (Wf w b1 b2).params (lexF (Wf w b1 b2)) ((ctA (Wf w b1 b2) g gb ge).codes ++ B.codes) c k r n t line lk ep, inS "\n\t\r " (g.K 3) ⟨#[c]⟩ k false, eqS ⟨#[c]⟩ k "\"" (t + 11) false, eqS ⟨#[c]⟩ k "\\" (t + 12) false, _]
    (all_cons (nxtO_ok w b1 b2 g _ B c k r n t line lk ep h0 h10 (by omega)) (all_cons (inV _ _ _ _ _ (not_white hw)) (all_cons (eqV _ _ _ _ _ (eq_lit (d := 34) (by decide +kernel) h34)) (all_cons (eqV _ _ _ _ _ (eq_lit (d := 92) (by decide +kernel) h92)) (all_cons (V) all_nil))))) rfl ?_
  intro p q
  cases b2 <;> cases B <;> cases fs <;> kernel_rfl
theorem A_esc {d : Nat} {k k2 : Tok} {r : List (Nat × Tok)} {v : Value} {en et : Nat} {o0 o1 o2 o3 o4 o5 o6 o7 o8 o9 o10 : Obj} {n t : Nat} {line : Int} {lk : Tok} {ep : Nat} {tk : Tok} {fs : Option (Tok × Value)}
    (h0 : d ≠ 0) (h10 : d ≠ 10) (hz : r.length < 900000) 
    (V : VC (Wf w b1 b2) g B gb ge (codeC (Wf w b1 b2) g) (n + 4) (t + 24) (g.al (Wf w b1 b2) line lk r (ep + 2) (.str ⟨#[d]⟩ k2) (some (kcOf fs (t + 9), chV d k2))) ⟨.ok (.ret v), en, et, [o0, o1, o2, o3, o4, o5, o6, o7, o8, o9, o10], []⟩) :
    VA (Wf w b1 b2) g B gb ge (codeA (Wf w b1 b2) g) n t (g.al (Wf w b1 b2) line lk ((92, k) :: (d, k2) :: r) ep (.str ⟨#[]⟩ tk) fs) ⟨.ok (.ret v), en, et, [o0, o1, o2, o3, o4, o5, o6, o7, o8, o9, o10], []⟩ := by
  have hl : ((d, k2) :: r).length < 1000000 := by simp; omega
  refine mk_valid 300 954783378918764246887637865634558646453306396434989705802197747105107688722186042724060105768866882313087375003566129225128452248474207113785595384061141349424028123850466934331985169507867100801007536699497938862091
    [g.nxtO (Wf w b1 b2).params (lexF (Wf w b1 b2)) ((ctA (Wf w b1 b2) g gb ge).codes ++ B.codes) 92 k ((d, k2) :: r) n t line lk ep, g.redO (Wf w b1 b2).params (lexF (Wf w b1 b2)) ((ctA (Wf w b1 b2) g gb ge).codes ++ B.codes) d k2 r (n + 2) (t + 13) line lk (ep + 1), _]
    (all_cons (nxtO_ok w b1 b2 g _ B 92 k ((d, k2) :: r) n t line lk ep (by decide) (by decide) hl) (all_cons (redO_ok w b1 b2 g _ B d k2 r (n + 2) (t + 13) line lk (ep + 1) h0 h10 (by omega)) (all_cons (V) all_nil))) rfl ?_
  intro p q
  cases b2 <;> cases B <;> cases fs <;> kernel_rfl
theorem A_escE {d : Nat} {k k2 : Tok} {r : List (Nat × Tok)} {v ch2 : Value} {en et ep2 : Nat} {kc lk2 : Tok} {line2 : Int} {n t : Nat} {line : Int} {lk : Tok} {ep : Nat} {tk : Tok} {fs : Option (Tok × Value)}
    (h0 : d ≠ 0) (h10 : d ≠ 10) (hz : r.length < 900000) 
    (V : VC (Wf w b1 b2) g B gb ge (codeC (Wf w b1 b2) g) (n + 4) (t + 24) (g.al (Wf w b1 b2) line lk r (ep + 2) (.str ⟨#[d]⟩ k2) (some (kcOf fs (t + 9), chV d k2))) ⟨.ok .next, en, et, objs (g.lex (Wf w b1 b2).params (lexF (Wf w b1 b2)) line2 lk2 [] ep2) ++ [gtF (Wf w b1 b2).params g.x g.I g.g0 g.g1 g.g2 v (some (kc, ch2)), mthO g.x, itX], []⟩) :
    VA (Wf w b1 b2) g B gb ge (codeA (Wf w b1 b2) g) n t (g.al (Wf w b1 b2) line lk ((92, k) :: (d, k2) :: r) ep (.str ⟨#[]⟩ tk) fs) ⟨.ok .next, en + 2, et, objs (g.lex (Wf w b1 b2).params (lexF (Wf w b1 b2)) line2 lk2 [] ep2) ++ [gtF (Wf w b1 b2).params g.x g.I g.g0 g.g1 g.g2 v (some (kc, ch2)), mthO g.x, itX], []⟩ := by
  have hl : ((d, k2) :: r).length < 1000000 := by simp; omega
  refine mk_valid 300 68799393112289435973439361421055015586919724068121641893534106654232864714566671582346149384498900629979714300403625828844552283632280869531112847671345590968308807788129554469565189847761863943391947177175985492430850888055868538891
    [g.nxtO (Wf w b1 b2).params (lexF (Wf w b1 b2)) ((ctA (Wf w b1 b2) g gb ge).codes ++ B.codes) 92 k ((d, k2) :: r) n t line lk ep, g.redO (Wf w b1 b2).params (lexF (Wf w b1 b2)) ((ctA (Wf w b1 b2) g gb ge).codes ++ B.codes) d k2 r (n + 2) (t + 13) line lk (ep + 1), _]
    (all_cons (nxtO_ok w b1 b2 g _ B 92 k ((d, k2) :: r) n t line lk ep (by decide) (by decide) hl) (all_cons (redO_ok w b1 b2 g _ B d k2 r (n + 2) (t + 13) line lk (ep + 1) h0 h10 (by omega)) (all_cons (V) all_nil))) rfl ?_
  intro p q
  cases b2 <;> cases B <;> cases fs <;> kernel_rfl
theorem A_escnl {k k2 : Tok} {r : List (Nat × Tok)} {v : Value} {en et : Nat} {o0 o1 o2 o3 o4 o5 o6 o7 o8 o9 o10 : Obj} {n t : Nat} {line : Int} {lk : Tok} {ep : Nat} {tk : Tok} {fs : Option (Tok × Value)}
    (hz : r.length < 900000) 
    (V : VC (Wf w b1 b2) g B gb ge (codeC (Wf w b1 b2) g) (n + 4) (t + 29) (g.al (Wf w b1 b2) (line + 1) (t + 24) r (ep + 2) (.str ⟨#[10]⟩ k2) (some (kcOf fs (t + 9), chV 10 k2))) ⟨.ok (.ret v), en, et, [o0, o1, o2, o3, o4, o5, o6, o7, o8, o9, o10], []⟩) :
    VA (Wf w b1 b2) g B gb ge (codeA (Wf w b1 b2) g) n t (g.al (Wf w b1 b2) line lk ((92, k) :: (10, k2) :: r) ep (.str ⟨#[]⟩ tk) fs) ⟨.ok (.ret v), en, et, [o0, o1, o2, o3, o4, o5, o6, o7, o8, o9, o10], []⟩ := by
  have hl : ((10, k2) :: r).length < 1000000 := by simp; omega
  refine mk_valid 300 954783378918764246887637865634558646453306396434989705802197747105107688722186042724060105768866882313087375003566129225128452248474207113785595384061141349424028123850466934331985169507867100801007536699497938862091
    [g.nxtO (Wf w b1 b2).params (lexF (Wf w b1 b2)) ((ctA (Wf w b1 b2) g gb ge).codes ++ B.codes) 92 k ((10, k2) :: r) n t line lk ep, g.redN (Wf w b1 b2).params (lexF (Wf w b1 b2)) ((ctA (Wf w b1 b2) g gb ge).codes ++ B.codes) k2 r (n + 2) (t + 13) line lk (ep + 1), _]
    (all_cons (nxtO_ok w b1 b2 g _ B 92 k ((10, k2) :: r) n t line lk ep (by decide) (by decide) hl) (all_cons (redN_ok w b1 b2 g _ B k2 r (n + 2) (t + 13) line lk (ep + 1) (by omega)) (all_cons (V) all_nil))) rfl ?_
  intro p q
  cases b2 <;> cases B <;> cases fs <;> kernel_rfl
theorem A_escnlE {k k2 : Tok} {r : List (Nat × Tok)} {v ch2 : Value} {en et ep2 : Nat} {kc lk2 : Tok} {line2 : Int} {n t : Nat} {line : Int} {lk : Tok} {ep : Nat} {tk : Tok} {fs : Option (Tok × Value)}
    (hz : r.length < 900000) 
    (V : VC (Wf w b1 b2) g B gb ge (codeC (Wf w b1 b2) g) (n + 4) (t + 29) (g.al (Wf w b1 b2) (line + 1) (t + 24) r (ep + 2) (.str ⟨#[10]⟩ k2) (some (kcOf fs (t + 9), chV 10 k2))) ⟨.ok .next, en, et, objs (g.lex (Wf w b1 b2).params (lexF (Wf w b1 b2)) line2 lk2 [] ep2) ++ [gtF (Wf w b1 b2).params g.x g.I g.g0 g.g1 g.g2 v (some (kc, ch2)), mthO g.x, itX], []⟩) :
    VA (Wf w b1 b2) g B gb ge (codeA (Wf w b1 b2) g) n t (g.al (Wf w b1 b2) line lk ((92, k) :: (10, k2) :: r) ep (.str ⟨#[]⟩ tk) fs) ⟨.ok .next, en + 2, et, objs (g.lex (Wf w b1 b2).params (lexF (Wf w b1 b2)) line2 lk2 [] ep2) ++ [gtF (Wf w b1 b2).params g.x g.I g.g0 g.g1 g.g2 v (some (kc, ch2)), mthO g.x, itX], []⟩ := by
  have hl : ((10, k2) :: r).length < 1000000 := by simp; omega
  refine mk_valid 300 68799393112289435973439361421055015586919724068121641893534106654232864714566671582346149384498900629979714300403625828844552283632280869531112847671345590968308807788129554469565189847761863943391947177175985492430850888055868538891
    [g.nxtO (Wf w b1 b2).params (lexF (Wf w b1 b2)) ((ctA (Wf w b1 b2) g gb ge).codes ++ B.codes) 92 k ((10, k2) :: r) n t line lk ep, g.redN (Wf w b1 b2).params (lexF (Wf w b1 b2)) ((ctA (Wf w b1 b2) g gb ge).codes ++ B.codes) k2 r (n + 2) (t + 13) line lk (ep + 1), _]
    (all_cons (nxtO_ok w b1 b2 g _ B 92 k ((10, k2) :: r) n t line lk ep (by decide) (by decide) hl) (all_cons (redN_ok w b1 b2 g _ B k2 r (n + 2) (t + 13) line lk (ep + 1) (by omega)) (all_cons (V) all_nil))) rfl ?_
  intro p q
  cases b2 <;> cases B <;> cases fs <;> kernel_rfl
theorem A_end  {n t : Nat} {line : Int} {lk : Tok} {ep : Nat} {tk : Tok} {fs : Option (Tok × Value)}
     :
    VA (Wf w b1 b2) g B gb ge (codeA (Wf w b1 b2) g) n t (g.al (Wf w b1 b2) line lk [] ep (.str ⟨#[]⟩ tk) fs) ⟨.ok .next, n + 4, t + 10, objs (g.lex (Wf w b1 b2).params (lexF (Wf w b1 b2)) line lk [] ep) ++ [gtF (Wf w b1 b2).params g.x g.I g.g0 g.g1 g.g2 (.str ⟨#[]⟩ tk) fs, mthO g.x, itX], []⟩ := by
  refine mk_valid 300 67912099499347497878935168109227849035940809237487337483
    [g.nxtE (Wf w b1 b2).params (lexF (Wf w b1 b2)) ((ctA (Wf w b1 b2) g gb ge).codes ++ B.codes) n t line lk ep]
    (all_cons (nxtE_ok w b1 b2 g _ B n t line lk ep) all_nil) rfl ?_
  intro p q
  cases b2 <;> cases B <;> cases fs <;> kernel_rfl
end
end
end Mine

namespace Mine
section
open PySem PySem.W
/-- what get_token reads: false, if it met the tape's end -/
noncomputable def scanA : List (Nat × Tok) → Int → Option (Bool × Str × List (Nat × Tok) × Int)
  | [], line => some (false, ⟨#[]⟩, [], line)
  | (c, _) :: r, line =>
    if c = 0 then none
    else if white c then scanA r (bump c line)
    else if c = 34 then (match scanB r ⟨#[]⟩ line with
      | some (y, r', l) => some (true, y, r', l)
      | none => none)
    else if c = 92 then (match r with
      | [] => none
      | (d, _) :: r' => if d = 0 then none else scanC r' ⟨#[d]⟩ (bump d line))
    else scanC r ⟨#[c]⟩ line

section
variable (w : World) (b1 b2 : Bool) (g : Gx) (B : Bs) (gb : List Stmt) (ge : Env)
theorem one_ne (c : Nat) : ((⟨#[c]⟩ : Str).length == 0) = false := rfl
theorem bump_ne {c : Nat} {line : Int} (h : c ≠ 10) : bump c line = line := by unfold bump; rw [if_neg h]

/-- loop A whole -/
theorem loopA : ∀ (cs : List (Nat × Tok)) (line : Int) (b : Bool) (y' : Str) (r : List (Nat × Tok)) (line' : Int), scanA cs line = some (b, y', r, line') → cs.length < 800000 →
    ∀ (n t : Nat) (lk : Tok) (ep : Nat) (tk : Tok) (fs : Option (Tok × Value)), ∃ (n' t' : Nat) (tk' lk' : Tok) (ep' : Nat) (fs' : Option (Tok × Value)),
      VA (Wf w b1 b2) g B gb ge (codeA (Wf w b1 b2) g) n t (g.al (Wf w b1 b2) line lk cs ep (.str ⟨#[]⟩ tk) fs)
        (match b with
          | true => ⟨.ok (.ret (.str y' tk')), n', t', objs (g.al (Wf w b1 b2) line' lk' r ep' (.str y' tk') fs'), []⟩
          | false => ⟨.ok .next, n', t', objs (g.lex (Wf w b1 b2).params (lexF (Wf w b1 b2)) line' lk' [] ep') ++ [gtF (Wf w b1 b2).params g.x g.I g.g0 g.g1 g.g2 (.str y' tk') fs', mthO g.x, itX], []⟩) := by
  intro cs
  induction cs with
  | nil =>
    intro line b y' r line' h _ n t lk ep tk fs
    simp only [scanA, Option.some.injEq, Prod.mk.injEq] at h
    obtain ⟨rfl, rfl, rfl, rfl⟩ := h
    exact ⟨_, _, tk, lk, ep, fs, A_end w b1 b2 g B gb ge⟩
  | cons x rest ih =>
    intro line b y' r line' h hz n t lk ep tk fs
    obtain ⟨c, k⟩ := x
    have hz' : rest.length + 1 < 800000 := hz
    rw [scanA.eq_def] at h
    simp only at h
    by_cases h0 : c = 0
    · rw [if_pos h0] at h; cases h
    rw [if_neg h0] at h
    cases hw : white c with
    | true =>
      rw [hw, if_pos rfl] at h
      have hc : c = 10 ∨ c = 9 ∨ c = 13 ∨ c = 32 := by
        unfold white at hw
        simp only [Bool.or_eq_true, beq_iff_eq] at hw
        exact or4 hw
      rcases hc with rfl | rfl | rfl | rfl
      · obtain ⟨n', t', tk', lk', ep', fs', V⟩ := ih _ _ _ _ _ h (by omega) (n + 2) (t + 16) (t + 11) (ep + 1) tk (some (kcOf fs (t + 14), chV 10 k))
        refine ⟨n', t', tk', lk', ep', fs', ?_⟩
        cases b
        · exact A_w10 w b1 b2 g B gb ge (by omega) rfl rfl V
        · exact A_w10 w b1 b2 g B gb ge (by omega) rfl rfl V
      · obtain ⟨n', t', tk', lk', ep', fs', V⟩ := ih _ _ _ _ _ h (by omega) (n + 2) (t + 11) lk (ep + 1) tk (some (kcOf fs (t + 9), chV 9 k))
        refine ⟨n', t', tk', lk', ep', fs', ?_⟩
        cases b
        · exact A_w9 w b1 b2 g B gb ge (by omega) rfl rfl V
        · exact A_w9 w b1 b2 g B gb ge (by omega) rfl rfl V
      · obtain ⟨n', t', tk', lk', ep', fs', V⟩ := ih _ _ _ _ _ h (by omega) (n + 2) (t + 11) lk (ep + 1) tk (some (kcOf fs (t + 9), chV 13 k))
        refine ⟨n', t', tk', lk', ep', fs', ?_⟩
        cases b
        · exact A_w13 w b1 b2 g B gb ge (by omega) rfl rfl V
        · exact A_w13 w b1 b2 g B gb ge (by omega) rfl rfl V
      · obtain ⟨n', t', tk', lk', ep', fs', V⟩ := ih _ _ _ _ _ h (by omega) (n + 2) (t + 11) lk (ep + 1) tk (some (kcOf fs (t + 9), chV 32 k))
        refine ⟨n', t', tk', lk', ep', fs', ?_⟩
        cases b
        · exact A_w32 w b1 b2 g B gb ge (by omega) rfl rfl V
        · exact A_w32 w b1 b2 g B gb ge (by omega) rfl rfl V
    | false =>
      rw [hw, if_neg (by decide)] at h
      by_cases h34 : c = 34
      · subst h34
        rw [if_pos rfl] at h
        cases hB : scanB rest ⟨#[]⟩ line with
        | none => rw [hB] at h; cases h
        | some z =>
          obtain ⟨y, r', l⟩ := z
          rw [hB] at h
          simp only [Option.some.injEq, Prod.mk.injEq] at h
          obtain ⟨rfl, rfl, rfl, rfl⟩ := h
          obtain ⟨n', t', tk', lk', ep', ch', V⟩ := loopB w b1 b2 g B gb ge rest.length rest (Nat.le_refl _) _ _ _ _ _ hB (.inl rfl) (by show 0 + rest.length < 900000; omega) (n + 2) (t + 12) lk (ep + 1) tk (kcOf fs (t + 9)) (chV 34 k)
          exact ⟨n', t', tk', lk', ep', _, A_quote w b1 b2 g B gb ge (by omega) V⟩
      rw [if_neg h34] at h
      by_cases h92 : c = 92
      · subst h92
        rw [if_pos rfl] at h
        match rest, h, hz' with
        | [], h, _ => cases h
        | (d, k2) :: r', h, hz' =>
          have hz2 : r'.length + 1 + 1 < 800000 := hz'
          simp only at h
          by_cases hd : d = 0
          · rw [if_pos hd] at h; cases h
          rw [if_neg hd] at h
          by_cases h10 : d = 10
          · subst h10
            obtain ⟨n', t', tk', lk', ep', ch', V⟩ := loopC w b1 b2 g B gb ge r'.length r' (Nat.le_refl _) _ _ b _ _ _ h (one_ne _) (by show 1 + r'.length < 900000; omega) (n + 4) (t + 29) (t + 24) (ep + 2) k2 (kcOf fs (t + 9)) (chV 10 k2)
            cases b
            · exact ⟨n' + 2, t', tk', lk', ep', _, A_escnlE w b1 b2 g B gb ge (by omega) V⟩
            · exact ⟨n', t', tk', lk', ep', _, A_escnl w b1 b2 g B gb ge (by omega) V⟩
          · rw [bump_ne h10] at h
            obtain ⟨n', t', tk', lk', ep', ch', V⟩ := loopC w b1 b2 g B gb ge r'.length r' (Nat.le_refl _) _ _ b _ _ _ h (one_ne _) (by show 1 + r'.length < 900000; omega) (n + 4) (t + 24) lk (ep + 2) k2 (kcOf fs (t + 9)) (chV d k2)
            cases b
            · exact ⟨n' + 2, t', tk', lk', ep', _, A_escE w b1 b2 g B gb ge hd h10 (by omega) V⟩
            · exact ⟨n', t', tk', lk', ep', _, A_esc w b1 b2 g B gb ge hd h10 (by omega) V⟩
      · rw [if_neg h92] at h
        obtain ⟨n', t', tk', lk', ep', ch', V⟩ := loopC w b1 b2 g B gb ge rest.length rest (Nat.le_refl _) _ _ b _ _ _ h (one_ne _) (by show 1 + rest.length < 900000; omega) (n + 2) (t + 14) lk (ep + 1) k (kcOf fs (t + 9)) (chV c k)
        cases b
        · exact ⟨n' + 2, t', tk', lk', ep', _, A_ordE w b1 b2 g B gb ge h0 hw h34 h92 (by omega) V⟩
        · exact ⟨n', t', tk', lk', ep', _, A_ord w b1 b2 g B gb ge h0 hw h34 h92 (by omega) V⟩
end

theorem scanC_false (m : Nat) : ∀ (cs : List (Nat × Tok)), cs.length ≤ m → ∀ (y : Str) (line : Int) (y' : Str) (r : List (Nat × Tok)) (l : Int), scanC cs y line = some (false, y', r, l) → r = [] := by
  induction m with
  | zero =>
    intro cs hm y line y' r l h
    have : cs = [] := List.eq_nil_of_length_eq_zero (Nat.le_zero.mp hm)
    subst this
    simp only [scanC, Option.some.injEq, Prod.mk.injEq] at h
    exact h.2.2.1.symm
  | succ m ih =>
    intro cs hm y line y' r l h
    rw [scanC.eq_def] at h
    match cs, hm, h with
    | [], _, h =>
      simp only [Option.some.injEq, Prod.mk.injEq] at h
      exact h.2.2.1.symm
    | (c, k) :: rest, hm, h =>
      have hl : rest.length ≤ m := Nat.le_of_succ_le_succ hm
      simp only at h
      split at h
      · cases h
      split at h
      · simp only [Option.some.injEq, Prod.mk.injEq] at h
        cases h.1
      split at h
      · split at h
        · cases h
        · split at h
          · cases h
          · exact ih _ (Nat.le_of_succ_le hl) _ _ _ _ _ h
      · exact ih rest hl _ _ _ _ _ h
theorem scanA_false : ∀ (cs : List (Nat × Tok)) (line : Int) (y' : Str) (r : List (Nat × Tok)) (l : Int), scanA cs line = some (false, y', r, l) → r = [] := by
  intro cs
  induction cs with
  | nil =>
    intro line y' r l h
    simp only [scanA, Option.some.injEq, Prod.mk.injEq] at h
    exact h.2.2.1.symm
  | cons x rest ih =>
    intro line y' r l h
    rw [scanA.eq_def] at h
    simp only at h
    split at h
    · cases h
    split at h
    · exact ih _ _ _ _ h
    split at h
    · split at h
      · simp only [Option.some.injEq, Prod.mk.injEq] at h
        cases h.1
      · cases h
    split at h
    · split at h
      · cases h
      · split at h
        · cases h
        · exact scanC_false _ _ (Nat.le_refl _) _ _ _ _ _ h
    · exact scanC_false _ _ (Nat.le_refl _) _ _ _ _ _ h

/-- get_token -/
noncomputable def tokS (w : World) (x : Lx) (K : Nat → Tok) (a0 : Value) (more : List Value) (B : Bs) (n t : Nat) (line : Int) (lk : Tok) (cs : List (Nat × Tok)) (ep pe : Nat) (y : Str) (tk' : Tok) (n' t' : Nat) (line' : Int) (lk' : Tok) (r : List (Nat × Tok)) (ep' : Nat) : Spec :=
  mk (.call (.ref 173) ⟨[.ref x.L], []⟩) none B.codes n t (lexE w.params (lexF w) x K a0 more line lk (tapeA cs) ep ++ [(x.PB, lstO #[] pe)])
    ⟨.ok (.ret (.str y tk')), n', t', objs (lexE w.params (lexF w) x K a0 more line' lk' (tapeA r) ep' ++ [(x.PB, lstO #[] pe)]), []⟩
theorem getTok (w : World) (b1 b2 : Bool) (x : Lx) (K : Nat → Tok) (a0 : Value) (more : List Value) (B : Bs) (cs : List (Nat × Tok)) (line : Int) (b : Bool) (y : Str) (r : List (Nat × Tok)) (line' : Int) (h : scanA cs line = some (b, y, r, line')) (hz : cs.length < 800000) (n t : Nat) (lk : Tok) (ep pe : Nat) :
    ∃ (n' t' : Nat) (tk' lk' : Tok) (ep' : Nat), (tokS (Wf w b1 b2) x K a0 more B n t line lk cs ep pe y tk' n' t' line' lk' r ep').Valid (model prog (Wf w b1 b2)) (stW (Wf w b1 b2)) := by
  let g : Gx := ⟨x, n, n + 1, n + 2, K, a0, more, t, t + 5, t + 8, t + 7⟩
  obtain ⟨n', t', tk', lk', ep', fs', V⟩ := loopA (w := w) (b1 := b1) (b2 := b2) g B (bodyOf (gtFd (Wf w b1 b2))) (gtEnv (gtFd (Wf w b1 b2)) n) cs line b y r line' h hz (n + 3) (t + 9) lk ep (t + 4) none
  refine ⟨n', t', tk', lk', ep', ?_⟩
  cases b with
  | true =>
    refine mk_valid 300 19254666064352098066658238022138984486943851831783805588732475099188312485767646038462227875870734207117743319453727493946775631851264819213140183144043900962191023516698808056876793856 [_] (all_cons V all_nil) rfl ?_
    intro p q
    cases b2 <;> cases B <;> kernel_rfl
  | false =>
    obtain rfl := scanA_false _ _ _ _ _ h
    refine mk_valid 300 2464597256237068552473518476126664694488585393649684788857900991344720882415071667578064534171082661785395128944168748541184024295088874266968216535366052014148043669588044128817919459328 [_] (all_cons V all_nil) rfl ?_
    intro p q
    cases b2 <;> cases B <;> cases fs' <;> kernel_rfl
end
end Mine

namespace Mine
section
open PySem PySem.W Sem
noncomputable def lexP (P : Params) (lex : FuncData) (x : Lx) (K : Nat → Tok) (a0 : Value) (more : List Value) (line : Int) (lk : Tok) (cs : List (Nat × Tok)) (ep pe : Nat) : List Ent := lexE P lex x K a0 more line lk (tapeA cs) ep ++ [(x.PB, lstO #[] pe)]
noncomputable def tokX (P : Params) (lex : FuncData) (x : Lx) (K : Nat → Tok) (a0 : Value) (more : List Value) (B : Bs) (n t : Nat) (line : Int) (lk : Tok) (cs : List (Nat × Tok)) (ep pe : Nat) (y : Str) (tk' : Tok) (n' t' : Nat) (line' : Int) (lk' : Tok) (r : List (Nat × Tok)) (ep' : Nat) : Spec :=
  mk (.call (.ref 173) ⟨[.ref x.L], []⟩) none B.codes n t (lexP P lex x K a0 more line lk cs ep pe)
    ⟨.ok (.ret (.str y tk')), n', t', objs (lexP P lex x K a0 more line' lk' r ep' pe), []⟩
/-- what a word leaves -/
structure Wd where
  y : Str
  k : Tok
  n : Nat
  t : Nat
  line : Int
  lk : Tok
  r : List (Nat × Tok)
  ep : Nat
noncomputable def lex1X (P : Params) (lex : FuncData) (b : List Stmt) (e : Env) (x : Str) (k : Tok) (n t T : Nat) : Mine.Spec := mk (lexC x k) none (lawCds b e) n t [(189, fldO [])] ⟨.ok (.ret (.ref (n + 24))), n + 25, T + 36, [fldO [.int 161 0, .int 18 0, .ref (n + 18)]],
  lexE P lex (lx1 n) (K1 T) (.str "<lambda>" (T + 15)) (more1 n T) 1 (T + 26) (tapeA (num x.cps.toList (t + 1))) 0 ++ [(n + 23, lstO #[] 0), (n + 24, tupO [.ref (n + 21), .ref (n + 7)])]⟩
noncomputable def wdsO (a b c : Wd) : Obj := lstO #[.str a.y a.k, .str b.y b.k, .str c.y c.k] 0
noncomputable def tkL (g : Lv) (n T : Nat) (c : Wd) : Lv := { (((g.kn 10 (T + 36)).kn 11 (T + 37)).kn 12 c.t) with lx := n + 21, tp := n + 7, wd := c.n }
noncomputable def lexN (P : Params) (lex : FuncData) (n T : Nat) (line : Int) (lk : Tok) (cs : List (Nat × Tok)) (ep : Nat) : List Ent := lexP P lex (lx1 n) (K1 T) (.str "<lambda>" (T + 15)) (more1 n T) line lk cs ep 0
noncomputable def tkC (g : Lv) (P : Params) (f lex : FuncData) (n t T : Nat) (cs : List (Nat × Tok)) (a b c : Wd) : ConX :=
  let B : Bs := .law (bodyOf f) (lawEnv f g.L)
  let tk := fun n' t' line lk cs ep (d : Wd) => (tokX P lex (lx1 n) (K1 T) (.str "<lambda>" (T + 15)) (more1 n T) B n' t' line lk cs ep 0 d.y d.k d.n d.t d.line d.lk d.r d.ep).x
  ⟨.func (bodyOf f) (lawEnv f g.L), [.builtin "claim.caller" {}], n, t, [g.frL P 10, [(189, fldO [])]],
    ⟨.ok .next, c.n + 1, c.t + 1, [(tkL g n T c).frL P 13, [(189, fldO [.int 161 0, .int 18 0, .ref (n + 18)])]], sing (lexN P lex n T c.line c.lk c.r c.ep) ++ [[(c.n, wdsO a b c)]]⟩,
    [(mk (lexC g.tx.1 g.tx.2) none (lawCds (bodyOf f) (lawEnv f g.L)) n t [(189, fldO [])] ⟨.ok (.ret (.ref (n + 24))), n + 25, T + 36, [fldO [.int 161 0, .int 18 0, .ref (n + 18)]], lexN P lex n T 1 (T + 26) cs 0 ++ [(n + 24, tupO [.ref (n + 21), .ref (n + 7)])]⟩).x,
     tk (n + 28) (T + 38) 1 (T + 26) cs 0 a, tk a.n a.t a.line a.lk a.r a.ep b, tk b.n b.t b.line b.lk b.r b.ep c]⟩
end
end Mine

namespace Mine
section
open PySem PySem.W Sem
section
variable (w : World) (b1 b2 : Bool)
theorem num_len : ∀ (l : List Nat) (k : Tok), (num l k).length = l.length
  | [], _ => rfl
  | _ :: l, k => congrArg (· + 1) (num_len l (k + 1))
theorem stmt10 (g : Lv) (n t : Nat) (ha : ascii g.tx.1 = true) (hz : g.tx.1.cps.toList.length < 100000) (ba bb bc : Bool) (ya yb yc : Str) (ra rb rc : List (Nat × Tok)) (la lb lc : Int)
    (h1 : scanA (num g.tx.1.cps.toList (t + 1)) 1 = some (ba, ya, ra, la)) (h2 : scanA ra la = some (bb, yb, rb, lb)) (h3 : scanA rb lb = some (bc, yc, rc, lc)) (z1 : ra.length < 800000) (z2 : rb.length < 800000) :
    ∃ (a b c : Wd) (T : Nat), (a.y = ya ∧ b.y = yb ∧ c.y = yc ∧ c.line = lc) ∧ Step (Wf w b1 b2) g.L 10 2 (([g.frL ((Wf w b1 b2)).params 10, [(189, fldO [])]])) (([(tkL g n T c).frL ((Wf w b1 b2)).params 13, [(189, fldO [.int 161 0, .int 18 0, .ref (n + 18)])]] ++ (sing (lexN ((Wf w b1 b2)).params (lexF (Wf w b1 b2)) n T c.line c.lk c.r c.ep) ++ [[(c.n, wdsO a b c)]]))) n t (c.n + 1) (c.t + 1) := by
  have V0 := lexer1V w b1 b2 (bodyOf (lawF (Wf w b1 b2))) (lawEnv (lawF (Wf w b1 b2)) g.L) g.tx.1 g.tx.2 n t ha (by omega)
  have hl := num_len g.tx.1.cps.toList (t + 1)
  unfold lexer1S lexer1 at V0
  generalize num g.tx.1.cps.toList (t + 1) = cs at *
  generalize t + 1 + g.tx.1.cps.toList.length = T at *
  let B : Bs := .law (bodyOf (lawF (Wf w b1 b2))) (lawEnv (lawF (Wf w b1 b2)) g.L)
  obtain ⟨n1, t1, k1, lk1, e1, V1⟩ := getTok w b1 b2 (lx1 n) (K1 T) (.str "<lambda>" (T + 15)) (more1 n T) B cs 1 ba ya ra la h1 (by omega) (n + 28) (T + 38) (T + 26) 0 0
  obtain ⟨n2, t2, k2, lk2, e2, V2⟩ := getTok w b1 b2 (lx1 n) (K1 T) (.str "<lambda>" (T + 15)) (more1 n T) B ra la bb yb rb lb h2 z1 n1 t1 lk1 e1 0
  obtain ⟨n3, t3, k3, lk3, e3, V3⟩ := getTok w b1 b2 (lx1 n) (K1 T) (.str "<lambda>" (T + 15)) (more1 n T) B rb lb bc yc rc lc h3 z2 n2 t2 lk2 e2 0
  refine ⟨⟨ya, k1, n1, t1, la, lk1, ra, e1⟩, ⟨yb, k2, n2, t2, lb, lk2, rb, e2⟩, ⟨yc, k3, n3, t3, lc, lk3, rc, e3⟩, T, ⟨rfl, rfl, rfl, rfl⟩, fun s0 old rest s p p0 A => ?_⟩
  let C := tkC g ((Wf w b1 b2)).params (lawF (Wf w b1 b2)) (lexF (Wf w b1 b2)) n t T cs ⟨ya, k1, n1, t1, la, lk1, ra, e1⟩ ⟨yb, k2, n2, t2, lb, lk2, rb, e2⟩ ⟨yc, k3, n3, t3, lc, lk3, rc, e3⟩
  have := seg_ok (w := (Wf w b1 b2)) (st := stW (Wf w b1 b2)) (body := bodyOf (lawF (Wf w b1 b2))) (seg := ((bodyOf (lawF (Wf w b1 b2))).drop 10).take 2) (env := lawEnv (lawF (Wf w b1 b2)) g.L) 700 10033184146410936867063256901700810496501240388901992724916671721037125211550535214444227619049756810556839112000503761120328814902300238510345346870262151570778330399202659041963838121147893481692181414601918378949134784895005354791210054743305096221401788073831608960153866873712206128611456 C.ss (pre := C.pre) (n := n) (t := t) (fl := .next) (e := C.e) (allx_cons (V0.x) (allx_cons (V1.x) (allx_cons (V2.x) (allx_cons (V3.x) allx_nil)))) rfl rfl (fun p q => by
    clear V0 V1 V2 V3
    (generalize b1 = c1; generalize b2 = c2; revert c1 c2; refine split2 ?_ ?_ ?_ ?_ <;> kernel_rfl)) A p p0
  exact this
end
end
end Mine

namespace Mine
section
open PySem PySem.W Sem PySem.SeqAt
/-- a built-in by the library's word for it, its room known -/
theorem valid_of_meets_u {w : World} {prog : Program} {st : ST} {x : Spec} {id : String} {B : Builtin} {args : Args} {S : PySem.Spec} (hc : x.c = .builtin id args) (plain : plainId id = true)
    (entry : entryFor table id = some B) (g : Meets (B args) S)
    (H : ∀ (A : Around) n t s, (∀ y, x.ctx = some y → A.units = (y.2.map Code.cUnits).sum) → (∀ a, x.at? = some a → n = a.1 ∧ t = a.2) → PreOk st x.pre n t s → S A (fun r s' => r = (x.eff n t).r ∧ PostOk x.pre (x.eff n t) s s') s) : x.Valid (model prog w) st := by
  intro hd below p n t s hctx ha hp
  let A : Around := { handled := hd, depth := frameCount below, frames := none, guards := none, units := unitsOf below }
  have hb : Ctx.Below ⟨x.c, hd, hd, below, none⟩ A := ⟨rfl, Nat.le_refl _, (fun _ h => nomatch h), (fun _ h => nomatch h), Nat.le_refl _⟩
  have hcode : codeAny (model prog w) A (.builtin id args) (fun r s' => r = (x.eff n t).r ∧ PostOk x.pre (x.eff n t) s s') s := by
    refine codeAny_of_tree ?_
    rw [Around.under_plainId plain]
    have := g prog w A _ s (H A n t s (fun y hy => by
      have := hctx y hy
      subst this
      show unitsOf below = ((below.map (·.1)).map Code.cUnits).sum
      unfold unitsOf
      rw [List.map_map]; rfl) ha hp)
    have hden : denote table (.builtin id args) = B args := by
      show (match entryFor table id with | some b => b args | none => PySem.unsupported _) = _
      rw [entry]
    show wpAny _ _ (denote table (.builtin id args)) _ _ _
    rw [hden]
    exact this
  obtain ⟨r, s', hr, rfl, po⟩ := hcode ⟨x.c, hd, hd, below, none⟩ p hc hb
  exact ⟨s', hr, po⟩
noncomputable abbrev lneS (l b : Addr) (xs ys : Array Value) (ep ep2 : Nat) (r : Bool) : Mine.Spec := ⟨.builtin "list.__ne__" ⟨[.ref l, .ref b], []⟩, none, none, [(l, lstO xs ep), (b, lstO ys ep2)], fun n t => ⟨.ok (.ret (.bool r)), n, t, [lstO xs ep, lstO ys ep2], []⟩⟩
noncomputable abbrev leqS (l b : Addr) (xs ys : Array Value) (ep ep2 : Nat) (r : Bool) : Mine.Spec := ⟨.builtin "list.__eq__" ⟨[.ref l, .ref b], []⟩, none, none, [(l, lstO xs ep), (b, lstO ys ep2)], fun n t => ⟨.ok (.ret (.bool r)), n, t, [lstO xs ep, lstO ys ep2], []⟩⟩
noncomputable abbrev teqS (l b : Addr) (xs ys : List Value) (r : Bool) : Mine.Spec := ⟨.builtin "tuple.__eq__" ⟨[.ref l, .ref b], []⟩, none, none, [(l, tupO xs), (b, tupO ys)], fun n t => ⟨.ok (.ret (.bool r)), n, t, [tupO xs, tupO ys], []⟩⟩
section
variable {w : World} {st : ST}
theorem lneV (l b : Addr) (xs ys : Array Value) (ep ep2 : Nat) (hsz : xs.size = ys.size) (h : ∀ (A : Around) s j (h1 : j < xs.size) (h2 : j < ys.size), EqAt A s xs[j] ys[j] true) : (lneS l b xs ys ep ep2 false).Valid (model prog w) st := by
  refine valid_of_meets rfl (by decide +kernel) PySem.F.entry_list_ne (list_neAt l b xs ys ep ep2 none none #[] #[] hsz fun _ => true) fun A n t s _ hp => ?_
  refine ⟨hp.own (l, lstO xs ep) (List.mem_cons_self ..), hp.own (b, lstO ys ep2) (List.mem_cons_of_mem _ (List.mem_cons_self ..)), fun j h1 h2 => h _ _ j h1 h2, ?_, post_pure hp.own rfl rfl rfl rfl hp.size.symm hp.toks rfl rfl⟩
  show Except.ok (Flow.ret (.bool _)) = _
  simp
/-- texts in two lists, alike -/
theorem lneStr (l b : Addr) (xs ys : List (Str × Tok)) (ep ep2 : Nat) (h : xs.map (·.1) = ys.map (·.1)) : (lneS l b (strVs xs) (strVs ys) ep ep2 false).Valid (model prog w) st := by
  have hl : xs.length = ys.length := by have := congrArg List.length h; simpa using this
  refine lneV l b _ _ ep ep2 (by simp [strVs, strValues]; exact hl) fun A s j h1 h2 => ?_
  have i1 : j < xs.length := by simpa [strVs, strValues] using h1
  have i2 : j < ys.length := by simpa [strVs, strValues] using h2
  have e1 : (strVs xs)[j] = .str xs[j].1 xs[j].2 := by simp [strVs, strValues]
  have e2 : (strVs ys)[j] = .str ys[j].1 ys[j].2 := by simp [strVs, strValues]
  have e3 : xs[j].1 = ys[j].1 := by
    have := congrArg (fun l => l[j]?) h
    simpa [i1, i2] using this
  rw [e1, e2, e3]
  have := EqAt.str_str (A := A) (s := s) ys[j].1 xs[j].2 ys[j].1 ys[j].2
  rwa [beq_self_eq_true] at this
/-- a list of numbers beside the empty one -/
theorem leqNil (l b : Addr) (xs : Array Value) (ep ep2 : Nat) : (leqS l b xs #[] ep ep2 (decide (xs.size = 0))).Valid (model prog w) st := by
  by_cases h0 : xs.size = 0
  · have e : decide (xs.size = 0) = true := by simpa using h0
    rw [e]
    refine valid_of_meets rfl (by decide +kernel) PySem.F.entry_list_eq (list_eqAt l b xs #[] ep ep2 none none #[] #[] h0 fun _ => true) fun A n t s _ hp => ?_
    refine ⟨hp.own (l, lstO xs ep) (List.mem_cons_self ..), hp.own (b, lstO #[] ep2) (List.mem_cons_of_mem _ (List.mem_cons_self ..)), fun j h1 h2 => absurd h2 (Nat.not_lt_zero _), ?_, post_pure hp.own rfl rfl rfl rfl hp.size.symm hp.toks rfl rfl⟩
    show Except.ok (Flow.ret (.bool _)) = _
    simp
  · have e : decide (xs.size = 0) = false := by simpa using h0
    rw [e]
    refine valid_of_meets rfl (by decide +kernel) PySem.F.entry_list_eq (list_eq_lengthsAt l b xs #[] ep ep2 none none #[] #[] (by simpa using h0)) fun A n t s _ hp => ?_
    exact ⟨hp.own (l, lstO xs ep) (List.mem_cons_self ..), hp.own (b, lstO #[] ep2) (List.mem_cons_of_mem _ (List.mem_cons_self ..)), rfl, post_pure hp.own rfl rfl rfl rfl hp.size.symm hp.toks rfl rfl⟩
/-- a pair of text and number beside one alike -/
theorem teqPair (l b : Addr) (x : Str) (k k' : Tok) (d d' : Int) (j j' : Tok) : (teqS l b [.str x k, .int d j] [.str x k', .int d' j'] (d == d')).Valid (model prog w) st := by
  refine valid_of_meets rfl (by decide +kernel) PySem.F.entry_tuple_eq (tuple_eqAt l b #[.str x k, .int d j] #[.str x k', .int d' j'] 0 0 none none #[] #[] fun i => if i = 0 then true else (d == d')) fun A n t s _ hp => ?_
  refine ⟨hp.own (l, tupO [.str x k, .int d j]) (List.mem_cons_self ..), hp.own (b, tupO [.str x k', .int d' j']) (List.mem_cons_of_mem _ (List.mem_cons_self ..)), fun i h1 h2 => ?_, ?_, post_pure hp.own rfl rfl rfl rfl hp.size.symm hp.toks rfl rfl⟩
  · have hi : i = 0 ∨ i = 1 := by
      have : i < 2 := h1
      omega
    rcases hi with rfl | rfl
    · have := EqAt.str_str (A := A.in1) (s := s) x k x k'
      rwa [beq_self_eq_true] at this
    · exact EqAt.int_int d j d' j'
  · show Except.ok (Flow.ret (.bool _)) = _
    cases h : (d == d') <;> simp [List.range, List.range.loop]
end
/-- rows in two lists, alike -/
noncomputable abbrev lneRowS (cds : List Code) (n t : Nat) (l b : Addr) (R Q : List Row) (ep ep2 : Nat) : XS := mkx (.builtin "list.__ne__" ⟨[.ref l, .ref b], []⟩) none cds n t [[(l, lstO (rowA R) ep)], [(b, lstO (rowA Q) ep2)], rowsE R, rowsE Q] ⟨.ok (.ret (.bool false)), n, t, [[(l, lstO (rowA R) ep)], [(b, lstO (rowA Q) ep2)], rowsE R, rowsE Q], []⟩
theorem row_mem {R : List Row} {r : Row} (h : r ∈ R) : rowE r ∈ rowsE R := by
  induction R with
  | nil => cases h
  | cons a R ih =>
    rcases List.mem_cons.mp h with rfl | h
    · exact List.mem_cons_self ..
    · exact List.mem_cons_of_mem _ (ih h)
theorem adr_rows : ∀ (R : List Row) (j : Nat) (h : j < R.length), rowE R[j] ∈ rowsE R := fun R j h => row_mem (List.getElem_mem h)
theorem lneRowV {w : World} {st : ST} (cds : List Code) (hu : (cds.map Code.cUnits).sum + 1 < cLine) (n t : Nat) (l b : Addr) (R Q : List Row) (ep ep2 : Nat) (h : R.map rowV = Q.map rowV) : (lneRowS cds n t l b R Q ep ep2).Valid (model prog w) st := by
  have hl : R.length = Q.length := by have := congrArg List.length h; simpa using this
  have key : (Mine.mk (.builtin "list.__ne__" ⟨[.ref l, .ref b], []⟩) none cds n t ([(l, lstO (rowA R) ep), (b, lstO (rowA Q) ep2)] ++ (rowsE R ++ rowsE Q)) ⟨.ok (.ret (.bool false)), n, t, objs ([(l, lstO (rowA R) ep), (b, lstO (rowA Q) ep2)] ++ (rowsE R ++ rowsE Q)), []⟩).Valid (model prog w) st := by
    refine valid_of_meets_u rfl (by decide +kernel) PySem.F.entry_list_ne (list_neAt l b (rowA R) (rowA Q) ep ep2 none none #[] #[] (by simp [rowA, rowVs]; exact hl) fun _ => true) fun A n' t' s hA ha hp => ?_
    obtain ⟨rfl, rfl⟩ := ha _ rfl
    have hA' := hA _ rfl
    refine ⟨hp.own (l, lstO (rowA R) ep) (List.mem_cons_self ..), hp.own (b, lstO (rowA Q) ep2) (List.mem_cons_of_mem _ (List.mem_cons_self ..)), fun j h1 h2 => ?_, ?_, post_pure hp.own rfl rfl rfl rfl hp.size.symm hp.toks rfl rfl⟩
    · have i1 : j < R.length := by simpa [rowA, rowVs] using h1
      have i2 : j < Q.length := by simpa [rowA, rowVs] using h2
      have e1 : (rowA R)[j] = .ref R[j].1 := by simp [rowA, rowVs]
      have e2 : (rowA Q)[j] = .ref Q[j].1 := by simp [rowA, rowVs]
      have m1 : rowE R[j] ∈ rowsE R := adr_rows R j i1
      have m2 : rowE Q[j] ∈ rowsE Q := adr_rows Q j i2
      have e3 : rowV R[j] = rowV Q[j] := by
        have := congrArg (fun l => l[j]?) h
        simpa [i1, i2] using this
      rw [e1, e2]
      generalize R[j] = r at *
      generalize Q[j] = q at *
      have o1 := hp.own (rowE r) (List.mem_append_right _ (List.mem_append_left _ m1))
      have o2 := hp.own (rowE q) (List.mem_append_right _ (List.mem_append_right _ m2))
      have hne : r.1 ≠ q.1 := by
        have nd : (adr ([(l, lstO (rowA R) ep), (b, lstO (rowA Q) ep2)] ++ (rowsE R ++ rowsE Q))).Nodup := hp.nodup
        rw [adr_append', adr_append'] at nd
        have nd2 := (List.nodup_append.mp nd).2.1
        exact (List.nodup_append.mp nd2).2.2 _ (List.mem_map.mpr ⟨_, m1, rfl⟩) _ (List.mem_map.mpr ⟨_, m2, rfl⟩)
      obtain ⟨ra, ⟨x1, k1⟩, ⟨x2, k2⟩, ⟨x3, k3⟩⟩ := r
      obtain ⟨qa, ⟨y1, j1⟩, ⟨y2, j2⟩, ⟨y3, j3⟩⟩ := q
      have e4 : x1 = y1 ∧ x2 = y2 ∧ x3 = y3 := by
        have : (x1, x2, x3) = (y1, y2, y3) := e3
        simpa using this
      obtain ⟨rfl, rfl, rfl⟩ := e4
      refine EqAt.of_refs hne ?_
      have rc := RcAt.tuples (A := A.in1) (s := s) (l := ra) (b := qa) (items := #[.int (Int.ofNat x1) k1, .int (Int.ofNat x2) k2, .int (Int.ofNat x3) k3]) (items2 := #[.int (Int.ofNat x1) j1, .int (Int.ofNat x2) j2, .int (Int.ofNat x3) j3]) (e := fun _ => true) ⟨_, o1, rfl, 0, rfl⟩ ⟨_, o2, rfl, 0, rfl⟩ (by show A.units + 1 < cLine; rw [hA']; exact hu) (fun i h1 h2 => by
        have hi : i = 0 ∨ i = 1 ∨ i = 2 := by
          have : i < 3 := h1
          omega
        have g := fun (a : Int) (t u : Tok) => EqAt.int_int (A := A.in1.in1) (s := s) a t a u
        simp only [beq_self_eq_true] at g
        rcases hi with rfl | rfl | rfl
        · exact g _ _ _
        · exact g _ _ _
        · exact g _ _ _)
      exact rc
    · show Except.ok (Flow.ret (.bool (!(List.range (rowA R).size).all fun _ => true))) = Except.ok (Flow.ret (.bool false))
      simp
  have kx : (mkx (.builtin "list.__ne__" ⟨[.ref l, .ref b], []⟩) none cds n t (sing ([(l, lstO (rowA R) ep), (b, lstO (rowA Q) ep2)] ++ (rowsE R ++ rowsE Q))) ⟨.ok (.ret (.bool false)), n, t, sing (pair ([(l, lstO (rowA R) ep), (b, lstO (rowA Q) ep2)] ++ (rowsE R ++ rowsE Q)) (objs ([(l, lstO (rowA R) ep), (b, lstO (rowA Q) ep2)] ++ (rowsE R ++ rowsE Q)))), []⟩).Valid (model prog w) st := key.x
  have fl : ([[(l, lstO (rowA R) ep)], [(b, lstO (rowA Q) ep2)], rowsE R, rowsE Q] : List (List Ent)).flatten = (sing ([(l, lstO (rowA R) ep), (b, lstO (rowA Q) ep2)] ++ (rowsE R ++ rowsE Q))).flatten := by
    rw [sing_flat]
    show [(l, lstO (rowA R) ep)] ++ ([(b, lstO (rowA Q) ep2)] ++ (rowsE R ++ (rowsE Q ++ []))) = _
    rw [List.append_nil]; rfl
  refine mkx_flat kx fl ?_ rfl rfl rfl rfl
  show _ = (sing (pair _ (objs _))).flatten
  rw [pair_objs]
  exact fl
end
end Mine

namespace Mine
section
open PySem PySem.W Sem
noncomputable abbrev countS (x : Str) (a : Tok) (c : Nat) (b : Tok) (z : Int) : Mine.Spec := pureS "str.count" [.str x a, .str ⟨#[c]⟩ b] (fun t => .int z t) 1
noncomputable abbrev prX (x : Str) (k : Tok) (B : Bs) (n t n' t' : Nat) (y : Str) (k' : Tok) : Mine.Spec := Mine.mk (.call (.ref 145) ⟨[.str x k], []⟩) none B.codes n t [] ⟨.ok (.ret (.str y k')), n', t', [], []⟩
noncomputable def compB (lc : Expr) (L it acc loc : Addr) (cells : List (Str × Addr)) (b : List Stmt) (e : Env) : Bs := match lc with
  | .ListComp elt gens sc ps => .comp elt gens sc ps 0 (.ref it) (.ref acc) (compEnv2 lc L loc cells) b e
  | _ => .law b e
noncomputable def toldB (f : FuncData) (L n : Nat) : Bs := compB (lawComp f 13) L (n + 4) (n + 5) (n + 6) [] (bodyOf f) (lawEnv f L)
/-- what the reading leaves -/
structure ToD where
  line : Int
  lk : Tok
  z : Int
  t1 : Nat
  k1 : Tok
  t2 : Nat
  k2 : Tok
  m0 : Str
  q0 : Tok
  m1 : Str
  q1 : Tok
  a0 : Str
  u0 : Tok
  a1 : Str
  u1 : Tok
  r0 : Str
  j0 : Tok
  r1 : Str
  j1 : Tok
  ke : Tok
noncomputable def strs2 (a0 : Str) (u0 : Tok) (a1 : Str) (u1 : Tok) : List (Str × Tok) := [(a0, u0), (a1, u1)]
noncomputable def toL (g : Lv) (n : Nat) (d : ToD) : Lv := { (g.kn 13 d.t2) with td := n + 5 }
noncomputable def toC (g : Lv) (P : Params) (f : FuncData) (x : Lx) (K : Nat → Tok) (n t : Nat) (d : ToD) : ConX :=
  let A : List (Str × Tok) := [(d.a0, d.u0), (d.a1, d.u1), (⟨#[]⟩, d.ke)]
  let R : List (Str × Tok) := [(d.r0, d.j0), (d.r1, d.j1)]
  let M : List (Str × Tok) := [(d.m0, d.q0), (d.m1, d.q1)]
  let T : List (Str × Tok) := [(d.m0, d.k1), (d.m1, d.k2)]
  ⟨.func (bodyOf f) (lawEnv f g.L), [.builtin "claim.caller" {}], n, t, [g.frL P 13, [(g.wd, lstO (strVs A) 0)], [(g.re, lstO (strVs R) 2)], [(g.na, lstO (strVs M) 0)], [(x.L, instO 183 x.Ld)], [(x.Ld, lexD P x K d.line d.lk)]],
    ⟨.ok .next, n + 15, d.t2 + 1, [(toL g n d).frL P 14, [(g.wd, lstO (strVs A) 0)], [(g.re, lstO (strVs R) 2)], [(g.na, lstO (strVs M) 0)], [(x.L, instO 183 x.Ld)], [(x.Ld, lexD P x K d.line d.lk)]], [[(n + 5, lstO (strVs T) 2)]]⟩,
    [(laddS' g.re n (strVs R) 2 (strVs [(⟨#[]⟩, t)]) 0 (strVs (R ++ [(⟨#[]⟩, t)]))).x, (lneS g.wd (n + 1) (strVs A) (strVs (R ++ [(⟨#[]⟩, t)])) 0 0 false).x,
     (countS g.tx.1 g.tx.2 10 (t + 3) d.z).x, (neZ d.line d.lk (1 + d.z) (t + 5) false).x,
     (lslS g.wd (n + 2) (strVs A) 0 .none (.int 2 (t + 6)) .none (strVs [(d.a0, d.u0), (d.a1, d.u1)])).x,
     (prX d.a0 d.u0 (toldB f g.L n) (n + 7) (t + 8) (n + 10) d.t1 d.m0 d.k1).x,
     (prX d.a1 d.u1 (toldB f g.L n) (n + 10) (d.t1 + 1) (n + 13) d.t2 d.m1 d.k2).x,
     (lneS (n + 5) g.na (strVs T) (strVs M) 2 0 false).x]⟩
end
end Mine

namespace Mine
section
open PySem PySem.W Sem
theorem countV {w : World} {st : ST} (x : Str) (a : Tok) (c : Nat) (b : Tok) (z : Int) (h : ((posL c x.cps.toList 0).length : Nat) = z) : (countS x a c b z).Valid (model prog w) st := by
  subst h
  have g := gives_str_count x ⟨#[c]⟩ a b
  rw [occ_pos] at g
  exact pure_int (by decide +kernel) PySem.F.entry_str_count g
section
variable (w : World) (b1 b2 : Bool)
/-- what must hold of the words for the reading to come back -/
structure ToOk (d : ToD) (tx : Str) : Prop where
  e0 : d.a0 = d.r0
  e1 : d.a1 = d.r1
  z : ((posL 10 tx.cps.toList 0).length : Nat) = d.z
  ln : d.line = 1 + d.z
  n0 : d.a0.cps.toList.length < 1000000
  n1 : d.a1.cps.toList.length < 1000000
  p0 : ∃ (c : Nat) (tail : List Nat), c ≠ 34 ∧ d.a0.cps.toList = 50 :: 53 :: 55 :: 32 :: 34 :: (dbl d.m0.cps.toList ++ 34 :: c :: tail)
  p1 : ∃ (c : Nat) (tail : List Nat), c ≠ 34 ∧ d.a1.cps.toList = 50 :: 53 :: 55 :: 32 :: 34 :: (dbl d.m1.cps.toList ++ 34 :: c :: tail)
  s0 : d.m0.cps.toList.length < 1000000
  s1 : d.m1.cps.toList.length < 1000000
noncomputable def ToD.wdA (d : ToD) : List (Str × Tok) := [(d.a0, d.u0), (d.a1, d.u1), (⟨#[]⟩, d.ke)]
noncomputable def ToD.reA (d : ToD) : List (Str × Tok) := [(d.r0, d.j0), (d.r1, d.j1)]
noncomputable def ToD.naA (d : ToD) : List (Str × Tok) := [(d.m0, d.q0), (d.m1, d.q1)]
theorem slice_2 (a b c : Str × Tok) : slicePick (strVs [a, b, c]) none (some 2) none = strVs [a, b] := by kernel_rfl
theorem toldB_codes (w : World) (L n : Nat) : (toldB (lawF w) L n).codes = .compLoop (lawComp (lawF w) 13) 0 (.ref (n + 4)) (.ref (n + 5)) (compEnv2 (lawComp (lawF w) 13) L (n + 6) []) :: lawCds (bodyOf (lawF w)) (lawEnv (lawF w) L) := by kernel_rfl
theorem stmt12 (g : Lv) (x : Lx) (K : Nat → Tok) (n t : Nat) (d : ToD) (hx : g.lx = x.L) (H : ToOk d g.tx.1) :
    ∃ (t1 t2 : Nat) (k1 k2 : Tok), Step (Wf w b1 b2) g.L 12 3 ([g.frL ((Wf w b1 b2)).params 13, [(g.wd, lstO (strVs d.wdA) 0)], [(g.re, lstO (strVs d.reA) 2)], [(g.na, lstO (strVs d.naA) 0)], [(x.L, instO 183 x.Ld)], [(x.Ld, lexD ((Wf w b1 b2)).params x K d.line d.lk)]]) (([({ (g.kn 13 t2) with td := n + 5 } : Lv).frL ((Wf w b1 b2)).params 14, [(g.wd, lstO (strVs d.wdA) 0)], [(g.re, lstO (strVs d.reA) 2)], [(g.na, lstO (strVs d.naA) 0)], [(x.L, instO 183 x.Ld)], [(x.Ld, lexD ((Wf w b1 b2)).params x K d.line d.lk)]] ++ [[(n + 5, lstO (strVs [(d.m0, k1), (d.m1, k2)]) 2)]])) n t (n + 15) (t2 + 1) := by
  have hsl : sizeLine = 16777216 := rfl
  obtain ⟨e0, e1, hz, hln, n0, n1, ⟨c0, tl0, nc0, p0'⟩, ⟨c1, tl1, nc1, p1'⟩, s0', s1'⟩ := H
  obtain ⟨t1, k1, V1⟩ := parse257V w b1 b2 (toldB (lawF (Wf w b1 b2)) g.L n) d.a0 d.u0 n0 c0 tl0 d.m0.cps.toList nc0 p0' s0' (n + 7) (t + 8)
  obtain ⟨t2, k2, V2⟩ := parse257V w b1 b2 (toldB (lawF (Wf w b1 b2)) g.L n) d.a1 d.u1 n1 c1 tl1 d.m1.cps.toList nc1 p1' s1' (n + 10) (t1 + 1)
  refine ⟨t1, t2, k1, k2, fun s0 old rest s p p0 A => ?_⟩
  have W1 := laddV' (w := (Wf w b1 b2)) (st := stW (Wf w b1 b2)) g.re n (strVs d.reA) 2 (strVs [(⟨#[]⟩, t)]) 0 (strVs (d.reA ++ [(⟨#[]⟩, t)])) rfl (show 2 + 1 ≤ sizeLine by decide)
  have W2 := lneStr (w := (Wf w b1 b2)) (st := stW (Wf w b1 b2)) g.wd (n + 1) d.wdA (d.reA ++ [(⟨#[]⟩, t)]) 0 0 (by show [d.a0, d.a1, _] = [d.r0, d.r1, _]; rw [e0, e1])
  have W3 := countV (w := (Wf w b1 b2)) (st := stW (Wf w b1 b2)) g.tx.1 g.tx.2 10 (t + 3) d.z hz
  have W4 := neZV (w := (Wf w b1 b2)) (st := stW (Wf w b1 b2)) d.line d.lk (1 + d.z) (t + 5) false (by rw [hln]; simp)
  have W5 := lslV (w := (Wf w b1 b2)) (st := stW (Wf w b1 b2)) g.wd (n + 2) (strVs d.wdA) 0 .none (.int 2 (t + 6)) .none (strVs [(d.a0, d.u0), (d.a1, d.u1)]) (lo := none) (hi := some 2) (sp := none) IsPart.none (IsPart.int _ _) IsPart.none (by simp) (slice_2 _ _ _) (show 3 ≤ sizeLine by decide)
  have W6 := lneStr (w := (Wf w b1 b2)) (st := stW (Wf w b1 b2)) (n + 5) g.na [(d.m0, k1), (d.m1, k2)] d.naA 2 0 rfl
  obtain ⟨L, S, su, KK, N0, N1, N2, ka, kb, kc, ch, sh, bk, fi, se, le, na, re, wh, tx, lx, tp, wd, td, lo, up, ot, du, sz, hr, th, wi, mo, rs, op, lf, sp, wo⟩ := g
  subst hx
  let D : ToD := { d with t1 := t1, k1 := k1, t2 := t2, k2 := k2 }
  let C := toC ⟨L, S, su, KK, N0, N1, N2, ka, kb, kc, ch, sh, bk, fi, se, le, na, re, wh, tx, x.L, tp, wd, td, lo, up, ot, du, sz, hr, th, wi, mo, rs, op, lf, sp, wo⟩ ((Wf w b1 b2)).params (lawF (Wf w b1 b2)) x K n t D
  have := seg_ok (w := (Wf w b1 b2)) (st := stW (Wf w b1 b2)) (body := bodyOf (lawF (Wf w b1 b2))) (seg := ((bodyOf (lawF (Wf w b1 b2))).drop 12).take 3) (env := lawEnv (lawF (Wf w b1 b2)) L) 700 (bif b1 then 13347240890436135636716625262391909414270202006055033573734851393091989504907434397392482821261720557923528854209554443910510804549230970545485613662498498692096704613197471257167198134543893424211402171213392556674725805711698250715552311912556848837005954408104975164466315393 else 58701786231047292657989675337175725741347874123079642291582147900160138488988326137923769747006364931043768420088205585742960902342241321413836790905775957536413848416299932789142078246829176634288189866304134074397643887584538738186589621757784021237590401072900714015006369097684954955905) C.ss (pre := C.pre) (n := n) (t := t) (fl := .next) (e := C.e) (allx_cons (W1.x) (allx_cons (W2.x) (allx_cons (W3.x) (allx_cons (W4.x) (allx_cons (W5.x) (allx_cons (V1.x) (allx_cons (V2.x) (allx_cons (W6.x) allx_nil)))))))) rfl rfl (fun p q => by
    clear W1 W2 W3 W4 W5 W6 V1 V2
    (generalize b1 = c1; generalize b2 = c2; revert c1 c2; refine split2 ?_ ?_ ?_ ?_ <;> kernel_rfl)) A p p0
  exact this
end
end
end Mine

namespace Mine
section
open PySem PySem.W Sem
noncomputable abbrev wsX (P : Params) (x : Str) (k : Tok) (b : List Stmt) (e : Env) (n t n' t' : Nat) (o : Wo) : Mine.Spec := Mine.mk (.call (.ref 83) ⟨[.str x k], []⟩) none (lawCds b e) n t [] ⟨.ok (.ret (.ref o.O)), n', t', [], o.ents P⟩
noncomputable def wpL (g : Lv) (o1 o2 : Wo) (n2 t2 : Nat) : Lv := { ((((g.kn 14 t2).kn 15 (t2 + 1)).kn 16 (t2 + 2)).kn 17 (t2 + 3)) with lo := o2.O, up := o1.O, ot := n2 + 5, du := n2 + 4 }
noncomputable def wpC (g : Lv) (P : Params) (f : FuncData) (x0 : Str) (k0 : Tok) (x1 : Str) (k1 : Tok) (n t n1 t1 n2 t2 : Nat) (o1 o2 : Wo) : ConX :=
  ⟨.func (bodyOf f) (lawEnv f g.L), [.builtin "claim.caller" {}], n, t, [g.frL P 14, [(g.td, lstO (strVs [(x0, k0), (x1, k1)]) 2)]],
    ⟨.ok .next, n2 + 10, t2 + 4, [(wpL g o1 o2 n2 t2).frL P 18, [(g.td, lstO (strVs [(x0, k0), (x1, k1)]) 2)]], (sing (o1.ents P) ++ sing (o2.ents P)) ++ [[(n2 + 4, lstO #[] 0)], [(n2 + 5, lstO #[] 0)]]⟩,
    [(wsX P x0 k0 (bodyOf f) (lawEnv f g.L) n (t + 1) n1 t1 o1).x, (wsX P x1 k1 (bodyOf f) (lawEnv f g.L) n1 (t1 + 1) n2 t2 o2).x]⟩
end
end Mine

namespace Mine
section
open PySem PySem.W Sem
section
variable (w : World) (b1 b2 : Bool)
noncomputable def WoOk (o : Wo) (l : List Nat) : Prop := wsGo l 0 0 0 [] = (o.b, o.n, o.nt, o.cnts.map (·.1)) ∧ o.cnts.length ≤ 900 ∧ o.sim = decide (Int.ofNat o.cnts.length ≤ 1)
theorem stmt15 (g : Lv) (x0 : Str) (k0 : Tok) (x1 : Str) (k1 : Tok) (n t : Nat) (a0 : ascii x0 = true) (a1 : ascii x1 = true) (z0 : x0.cps.toList.length < 900) (z1 : x1.cps.toList.length < 900) :
    ∃ (n2 t2 : Nat) (o1 o2 : Wo), (WoOk o1 x0.cps.toList ∧ WoOk o2 x1.cps.toList) ∧ Step (Wf w b1 b2) g.L 15 2 ([g.frL ((Wf w b1 b2)).params 14, [(g.td, lstO (strVs [(x0, k0), (x1, k1)]) 2)]]) (([(wpL g o1 o2 n2 t2).frL ((Wf w b1 b2)).params 18, [(g.td, lstO (strVs [(x0, k0), (x1, k1)]) 2)]] ++ ((sing (o1.ents ((Wf w b1 b2)).params) ++ sing (o2.ents ((Wf w b1 b2)).params)) ++ [[(n2 + 4, lstO #[] 0)], [(n2 + 5, lstO #[] 0)]]))) n t (n2 + 10) (t2 + 4) := by
  obtain ⟨o1, n1, t1, h1, l1, s1, rfl', V1⟩ := whiteV w b1 b2 x0 k0 (bodyOf (lawF (Wf w b1 b2))) (lawEnv (lawF (Wf w b1 b2)) g.L) n (t + 1) a0 z0
  obtain ⟨o2, n2, t2, h2, l2, s2, rfl'', V2⟩ := whiteV w b1 b2 x1 k1 (bodyOf (lawF (Wf w b1 b2))) (lawEnv (lawF (Wf w b1 b2)) g.L) n1 (t1 + 1) a1 z1
  rw [← rfl'] at V1
  rw [← rfl''] at V2
  refine ⟨n2, t2, o1, o2, ⟨⟨h1, l1, s1⟩, ⟨h2, l2, s2⟩⟩, fun s0 old rest s p p0 A => ?_⟩
  let C := wpC g ((Wf w b1 b2)).params (lawF (Wf w b1 b2)) x0 k0 x1 k1 n t n1 t1 n2 t2 o1 o2
  have := seg_ok (w := (Wf w b1 b2)) (st := stW (Wf w b1 b2)) (body := bodyOf (lawF (Wf w b1 b2))) (seg := ((bodyOf (lawF (Wf w b1 b2))).drop 15).take 2) (env := lawEnv (lawF (Wf w b1 b2)) g.L) 700 209909643587035273227079893646350546249380481724857928281387787333820586899146289904462785216088919831860907803522005050376620748625243238275765963675919933513398120484354952549910257608204084959207326964316500138538102890177022742449127552 C.ss (pre := C.pre) (n := n) (t := t) (fl := .next) (e := C.e) (allx_cons (V1.x) (allx_cons (V2.x) allx_nil)) rfl rfl (fun p q => by
    clear V1 V2
    (generalize b1 = c1; generalize b2 = c2; revert c1 c2; refine split2 ?_ ?_ ?_ ?_ <;> kernel_rfl)) A p p0
  exact this
end
end
end Mine

namespace Mine
section
open PySem PySem.W Sem
noncomputable abbrev mxC (it best : Addr) : Code := .builtin "max.loop" ⟨[.ref it, .none, .ref best], []⟩
noncomputable def mxBox (m : Option (Nat × Tok)) (e : Nat) : Obj := match m with
  | none => lstO #[] e
  | some (x, k) => lstO #[.int (Int.ofNat x) k, .int (Int.ofNat x) k] e
structure MxG where
  it : Addr
  l : Addr
  best : Addr
  ep : Nat
  xs : List (Nat × Tok)
  b : List Stmt
  en : Env
noncomputable def MxG.cds (g : MxG) : List Code := lawCds g.b g.en
noncomputable def MxG.pre (g : MxG) (i : Nat) (m : Option (Nat × Tok)) (e : Nat) : List Ent := [(g.it, litO g.l i), (g.l, lstO (natA g.xs) g.ep), (g.best, mxBox m e)]
noncomputable def MxG.at (g : MxG) (n t i : Nat) (m : Option (Nat × Tok)) (e : Nat) (f : Eff) : Mine.Spec := Mine.mk (mxC g.it g.best) none g.cds n t (g.pre i m e) f
noncomputable def mxFirstC (g : MxG) (n t i : Nat) (x : Nat × Tok) (er : Result) (en et : Nat) (p1 p2 p3 : Obj) : Con :=
  ⟨mxC g.it g.best, g.cds, n, t, g.pre i none 0, ⟨er, en, et, [p1, p2, p3], []⟩, [lnextS g.it g.l (natA g.xs) g.ep i (.int (Int.ofNat x.1) x.2), g.at n t (i + 1) (some x) 1 ⟨er, en, et, [p1, p2, p3], []⟩]⟩
noncomputable def mxTurnC (g : MxG) (n t i : Nat) (x m : Nat × Tok) (e : Nat) (r : Bool) (er : Result) (en et : Nat) (p1 p2 p3 : Obj) : Con :=
  ⟨mxC g.it g.best, g.cds, n, t, g.pre i (some m) e, ⟨er, en, et, [p1, p2, p3], []⟩, [lnextS g.it g.l (natA g.xs) g.ep i (.int (Int.ofNat x.1) x.2), gtS (Int.ofNat x.1) x.2 (Int.ofNat m.1) m.2 r, g.at n t (i + 1) (some (bif r then x else m)) e ⟨er, en, et, [p1, p2, p3], []⟩]⟩
noncomputable def mxEndC (g : MxG) (n t i : Nat) (m : Nat × Tok) (e : Nat) : Con :=
  ⟨mxC g.it g.best, g.cds, n, t, g.pre i (some m) e, ⟨.ok (.ret (.int (Int.ofNat m.1) m.2)), n + 2, t, [litX i, lstO (natA g.xs) g.ep, lstO #[] (e + 1)], []⟩, [lendS (mxC g.it g.best :: g.cds) g.it g.l (natA g.xs) g.ep i]⟩
noncomputable def maxS (b : List Stmt) (en : Env) (l : Addr) (xs : List (Nat × Tok)) (ep n t : Nat) (m : Nat × Tok) : Mine.Spec := Mine.mk (.builtin "max" ⟨[.ref l], []⟩) none (lawCds b en) n t [(l, lstO (natA xs) ep)] ⟨.ok (.ret (.int (Int.ofNat m.1) m.2)), n + 4, t, [lstO (natA xs) ep], []⟩
noncomputable def maxC2 (b : List Stmt) (en : Env) (l : Addr) (xs : List (Nat × Tok)) (ep n t : Nat) (m : Nat × Tok) (i e : Nat) : Con :=
  ⟨.builtin "max" ⟨[.ref l], []⟩, lawCds b en, n, t, [(l, lstO (natA xs) ep)], ⟨.ok (.ret (.int (Int.ofNat m.1) m.2)), n + 4, t, [lstO (natA xs) ep], []⟩,
    [(⟨n, l, n + 1, ep, xs, b, en⟩ : MxG).at (n + 2) t 0 none 0 ⟨.ok (.ret (.int (Int.ofNat m.1) m.2)), n + 4, t, [litX i, lstO (natA xs) ep, lstO #[] e], []⟩]⟩
end
end Mine

namespace Mine
section
open PySem PySem.W Sem
noncomputable def maxK : Nat × Tok → List (Nat × Tok) → Nat × Tok
  | m, [] => m
  | m, x :: l => maxK (bif decide (x.1 > m.1) then x else m) l
noncomputable def maxN : Nat → List Nat → Nat
  | m, [] => m
  | m, x :: l => maxN (bif decide (x > m) then x else m) l
theorem maxK_fst : ∀ (l : List (Nat × Tok)) (m : Nat × Tok), (maxK m l).1 = maxN m.1 (l.map (·.1))
  | [], _ => rfl
  | x :: l, m => by
    show (maxK (bif decide (x.1 > m.1) then x else m) l).1 = maxN (bif decide (x.1 > m.1) then x.1 else m.1) (l.map (·.1))
    rw [maxK_fst l]
    congr 1
    cases decide (x.1 > m.1) <;> rfl
section
variable (w : World) (b1 b2 : Bool)
theorem mx_loop (g : MxG) : ∀ (rest : List (Nat × Tok)) (i : Nat) (m : Nat × Tok) (e n t : Nat), g.xs.drop i = rest → ∃ (i' : Nat),
    (g.at n t i (some m) e ⟨.ok (.ret (.int (Int.ofNat (maxK m rest).1) (maxK m rest).2)), n + 2, t, [litX i', lstO (natA g.xs) g.ep, lstO #[] (e + 1)], []⟩).Valid (model prog (Wf w b1 b2)) (stW (Wf w b1 b2)) := by
  intro rest
  induction rest with
  | nil =>
    intro i m e n t hx
    have hn : g.xs[i]? = none := List.getElem?_eq_none_iff.mpr (List.drop_eq_nil_iff.mp hx)
    refine ⟨i, ?_⟩
    have V : (mxEndC g n t i m e).sp.Valid (model prog (Wf w b1 b2)) (stW (Wf w b1 b2)) := by
      refine Con.valid _ 300 7466480547331376237034602627 (all_cons (lendV _ _ _ _ _ _ (natVs_none hn)) all_nil) rfl ?_
      intro p q
      (generalize b2 = c2; revert c2; refine split1 ?_ ?_ <;> kernel_rfl)
    exact V
  | cons x rest ih =>
    intro i m e n t hx
    have hs : g.xs[i]? = some x := by
      have := congrArg (fun l => l[0]?) hx
      simpa using this
    have hd : g.xs.drop (i + 1) = rest := by
      have := congrArg List.tail hx
      simpa using this
    have W1 := lnextV (w := (Wf w b1 b2)) g.it g.l (natA g.xs) g.ep i (.int (Int.ofNat x.1) x.2) (natA_get hs)
    generalize hr : decide (x.1 > m.1) = r
    have W2 := gtV (w := (Wf w b1 b2)) (st := stW (Wf w b1 b2)) (Int.ofNat x.1) x.2 (Int.ofNat m.1) m.2 r (by rw [← hr]; simp)
    obtain ⟨i', V⟩ := ih (i + 1) (bif r then x else m) e n t hd
    refine ⟨i', ?_⟩
    have e1 : maxK m (x :: rest) = maxK (bif r then x else m) rest := by rw [maxK, hr]
    rw [e1]
    have key : (mxTurnC g n t i x m e r (.ok (.ret (.int (Int.ofNat (maxK (bif r then x else m) rest).1) (maxK (bif r then x else m) rest).2))) (n + 2) t (litX i') (lstO (natA g.xs) g.ep) (lstO #[] (e + 1))).sp.Valid (model prog (Wf w b1 b2)) (stW (Wf w b1 b2)) := by
      cases r
      · refine Con.valid _ 300 122330817133963391470018364440707 (all_cons (W1) (all_cons (W2) (all_cons (V) all_nil))) rfl ?_
        intro p q
        (generalize b2 = c2; revert c2; refine split1 ?_ ?_ <;> kernel_rfl)
      · refine Con.valid _ 300 256546317814125900130584532352388563075 (all_cons (W1) (all_cons (W2) (all_cons (V) all_nil))) rfl ?_
        intro p q
        (generalize b2 = c2; revert c2; refine split1 ?_ ?_ <;> kernel_rfl)
    exact key
theorem maxV (b : List Stmt) (en : Env) (l : Addr) (x : Nat × Tok) (xs : List (Nat × Tok)) (ep n t : Nat) : (maxS b en l (x :: xs) ep n t (maxK x xs)).Valid (model prog (Wf w b1 b2)) (stW (Wf w b1 b2)) := by
  let g : MxG := ⟨n, l, n + 1, ep, x :: xs, b, en⟩
  obtain ⟨i', V⟩ := mx_loop w b1 b2 g xs 1 x 1 (n + 2) t rfl
  have W1 := lnextV (w := (Wf w b1 b2)) g.it g.l (natA g.xs) g.ep 0 (.int (Int.ofNat x.1) x.2) (natA_get rfl)
  have F : (mxFirstC g (n + 2) t 0 x (.ok (.ret (.int (Int.ofNat (maxK x xs).1) (maxK x xs).2))) (n + 4) t (litX i') (lstO (natA (x :: xs)) ep) (lstO #[] 2)).sp.Valid (model prog (Wf w b1 b2)) (stW (Wf w b1 b2)) := by
    refine Con.valid _ 300 15658344593147332771646554473758851 (all_cons (W1) (all_cons (V) all_nil)) rfl ?_
    intro p q
    (generalize b2 = c2; revert c2; refine split1 ?_ ?_ <;> kernel_rfl)
  have M : (maxC2 b en l (x :: xs) ep n t (maxK x xs) i' 2).sp.Valid (model prog (Wf w b1 b2)) (stW (Wf w b1 b2)) := by
    refine Con.valid _ 300 1208334924788688486529 (all_cons (F) all_nil) rfl ?_
    intro p q
    (generalize b2 = c2; revert c2; refine split1 ?_ ?_ <;> kernel_rfl)
  exact M
end
end
end Mine

namespace Mine
section
open PySem PySem.W Sem
noncomputable def forE (f : FuncData) (i : Nat) : Expr × List Stmt := forOf ((bodyOf f).getD i default)
/-- the three names of the loop -/
structure LpV where
  ks : Tok
  kh : Tok
  kt : Tok
  sz : Nat × Tok
  hr : Nat × Tok
  th : Nat × Tok
noncomputable def LpV.put (v : LpV) (g : Lv) : Lv := { (((g.kn 18 v.ks).kn 19 v.kh).kn 20 v.kt) with sz := iv v.sz, hr := iv v.hr, th := iv v.th }
noncomputable def lpFr (g : Lv) (P : Params) : Option LpV → Obj
  | none => g.fr P 18
  | some v => (v.put g).fr P 21
structure LpG where
  g : Lv
  it : Addr
  cs : List (Nat × Tok)
  epc : Nat
  l0 : Str
  a0 : Tok
  l1 : Str
  a1 : Tok
noncomputable def LpG.loop (G : LpG) (f : FuncData) : Code := .forLoop (forE f 17).1 (.ref G.it) (forE f 17).2 [] (lawEnv f G.g.L)
noncomputable def LpG.lots (G : LpG) (p1 p2 p3 p4 p5 p6 : Obj) : List (List Ent) := [[(G.g.L, p1)], [(G.it, p2)], [(G.g.ch, p3)], [(G.g.le, p4)], [(G.g.du, p5)], [(G.g.ot, p6)]]
noncomputable def LpG.leO (G : LpG) : Obj := lstO #[.str G.l0 G.a0, .str G.l1 G.a1] 0
noncomputable def LpG.pre (G : LpG) (P : Params) (x left : Nat) (R : List Row) (ep : Nat) (Q : List Row) (eq : Nat) (fs : Option LpV) : List (List Ent) := G.lots (lpFr G.g P fs) (ritO x left) (lstO (natA G.cs) G.epc) G.leO (lstO (rowA R) ep) (lstO (rowA Q) eq)
noncomputable def LpG.at (G : LpG) (P : Params) (f : FuncData) (n t x left : Nat) (R : List Row) (ep : Nat) (Q : List Row) (eq : Nat) (fs : Option LpV) (e : XEff) : XS := mkx (G.loop f) none (lawCds (bodyOf f) (lawEnv f G.g.L)) n t (G.pre P x left R ep Q eq fs) e
noncomputable abbrev colX (f : FuncData) (L : Addr) (it : Addr) (x : Str) (k : Tok) (size : Nat) (ks : Tok) (n t n' t' c : Nat) (k' : Tok) : Mine.Spec :=
  Mine.mk (colC x k size ks) none (forCds (forE f 17).1 (.ref it) (forE f 17).2 [] (lawEnv f L) (bodyOf f) (lawEnv f L)) n t [] ⟨.ok (.ret (.int (Int.ofNat c) k')), n', t', [], []⟩
noncomputable def lpNew (fs : Option LpV) (t x n1 t1 c k1 th kth : Nat) : LpV := match fs with
  | none => ⟨t + 1, t1, kth + 1, (x, t), (c, k1), (th, kth)⟩
  | some v => ⟨v.ks, v.kh, v.kt, (x, t), (c, k1), (th, kth)⟩
noncomputable def lpTurnC (G : LpG) (P : Params) (f : FuncData) (n t x left : Nat) (R : List Row) (ep : Nat) (Q : List Row) (eq : Nat) (fs : Option LpV) (r q : Bool) (n1 t1 c k1 th : Nat) (en et : Nat) (p1 p2 p3 p4 p5 p6 : Obj) (B1 B2 : List Ent) : ConX :=
  let kth := bif r then t1 + 3 else t1 + 4
  let rd : Row := (n1, (x, t), (c, k1), (th, kth))
  let rq : Row := (bif r then n1 + 1 else n1, (x, t), (th, kth), (c, k1))
  let nn := bif r then (bif q then n1 + 2 else n1 + 1) else (bif q then n1 + 1 else n1)
  ⟨G.loop f, lawCds (bodyOf f) (lawEnv f G.g.L), n, t, G.pre P x (left + 1) R ep Q eq fs,
    ⟨.ok .next, en, et, G.lots p1 p2 p3 p4 p5 p6, (bif r then [[rowE rd]] else []) ++ [B1] ++ (bif q then [[rowE rq]] else []) ++ [B2]⟩,
    [(rnextS G.it x left).x, (lgetS G.g.le #[.str G.l0 G.a0, .str G.l1 G.a1] 0 0 (t + 2) (.str G.l0 G.a0)).x, (colX f G.g.L G.it G.l0 G.a0 x t n (t + 3) n1 t1 c k1).x, (linS G.g.ch G.cs G.epc x t r).x,
     (subZ (Int.ofNat c + 1) (t1 + 2) (bif r then Int.ofNat x else 0) (bif r then t else t1 + 3) (Int.ofNat th)).x, (linS G.g.ch G.cs G.epc x t r).x] ++
    (bif r then [(appS' G.g.du (rowA R) ep (.ref n1) (rowA (R ++ [rd]))).x] else []) ++ [(geS (Int.ofNat th) kth (Int.ofNat c) k1 q).x] ++
    (bif q then [(appS' G.g.ot (rowA Q) eq (.ref rq.1) (rowA (Q ++ [rq]))).x] else []) ++
    [G.at P f nn (kth + 2) (x + 1) left (bif r then R ++ [rd] else R) (bif r then ep + 1 else ep) (bif q then Q ++ [rq] else Q) (bif q then eq + 1 else eq) (some (lpNew fs t x n1 t1 c k1 th kth)) ⟨.ok .next, en, et, G.lots p1 p2 p3 p4 p5 p6, [B1, B2]⟩]⟩
noncomputable def lpEndC (G : LpG) (P : Params) (f : FuncData) (n t x : Nat) (R : List Row) (ep : Nat) (Q : List Row) (eq : Nat) (fs : Option LpV) : ConX :=
  ⟨G.loop f, lawCds (bodyOf f) (lawEnv f G.g.L), n, t, G.pre P x 0 R ep Q eq fs, ⟨.ok .next, n + 2, t, G.pre P x 0 R ep Q eq fs, []⟩, []⟩
end
end Mine

namespace Mine
section
open PySem PySem.W Sem
noncomputable def lpTh (r : Bool) (x c : Nat) : Nat := bif r then c + 1 - x else c + 1
noncomputable def lpDue (r : Nat → Bool) (c : Nat → Nat) : Nat → Nat → List (Nat × Nat × Nat)
  | _, 0 => []
  | x, l + 1 => (bif r x then [(x, c x, lpTh (r x) x (c x))] else []) ++ lpDue r c (x + 1) l
noncomputable def lpOth (r : Nat → Bool) (c : Nat → Nat) : Nat → Nat → List (Nat × Nat × Nat)
  | _, 0 => []
  | x, l + 1 => (bif decide (lpTh (r x) x (c x) ≥ c x) then [(x, lpTh (r x) x (c x), c x)] else []) ++ lpOth r c (x + 1) l
theorem rowsE_app : ∀ (a b : List Row), rowsE (a ++ b) = rowsE a ++ rowsE b
  | [], _ => rfl
  | _ :: a, b => congrArg (_ :: ·) (rowsE_app a b)
section
variable (w : World) (b1 b2 : Bool)
theorem lp_end (G : LpG) (n t x : Nat) (R : List Row) (ep : Nat) (Q : List Row) (eq : Nat) (fs : Option LpV) : (lpEndC G ((Wf w b1 b2)).params (lawF (Wf w b1 b2)) n t x R ep Q eq fs).sp.Valid (model prog (Wf w b1 b2)) (stW (Wf w b1 b2)) := by
  rcases fs with _ | v
  · refine ConX.valid _ 400 1913933127705246722683821916162 allx_nil rfl ?_
    intro p q
    (generalize b2 = c2; revert c2; refine split1 ?_ ?_ <;> kernel_rfl)
  · refine ConX.valid _ 400 1913933127705246722683821916162 allx_nil rfl ?_
    intro p q
    (generalize b2 = c2; revert c2; refine split1 ?_ ?_ <;> kernel_rfl)
theorem lp_turn (G : LpG) (n t x left : Nat) (R : List Row) (ep : Nat) (Q : List Row) (eq : Nat) (fs : Option LpV) (r q : Bool) (n1 t1 c k1 th : Nat) (en et : Nat) (p1 p2 p3 p4 p5 p6 : Obj) (B1 B2 : List Ent)
    (VS : ∀ y ∈ (lpTurnC G ((Wf w b1 b2)).params (lawF (Wf w b1 b2)) n t x left R ep Q eq fs r q n1 t1 c k1 th en et p1 p2 p3 p4 p5 p6 B1 B2).ss, y.Valid (model prog (Wf w b1 b2)) (stW (Wf w b1 b2))) :
    (lpTurnC G ((Wf w b1 b2)).params (lawF (Wf w b1 b2)) n t x left R ep Q eq fs r q n1 t1 c k1 th en et p1 p2 p3 p4 p5 p6 B1 B2).sp.Valid (model prog (Wf w b1 b2)) (stW (Wf w b1 b2)) := by
  cases r <;> cases q <;> cases fs
  · refine ConX.valid _ 500 357344159375213610574214060150622520697590023025965440644468436256361243998440822680901045576758303280074009049200783618002999345154 VS rfl ?_
    intro p q
    (generalize b2 = c2; revert c2; refine split1 ?_ ?_ <;> kernel_rfl)
  · refine ConX.valid _ 500 357344159375213610574214060150622520697590023025965440644468436256361243998440822680901045576758303280074009049200783618002999345154 VS rfl ?_
    intro p q
    (generalize b2 = c2; revert c2; refine split1 ?_ ?_ <;> kernel_rfl)
  · refine ConX.valid _ 500 994591508547371336653190581433624966707881691789154915028405507488898858502862970125384818699931208589273285032171429734134108445384193273260875977907723337730 VS rfl ?_
    intro p q
    (generalize b2 = c2; revert c2; refine split1 ?_ ?_ <;> kernel_rfl)
  · refine ConX.valid _ 500 994591508547371336653190581433624966707881691789154915028405507488898858502862970125384818699931208589273285032171429734134108445384193273260875977907723337730 VS rfl ?_
    intro p q
    (generalize b2 = c2; revert c2; refine split1 ?_ ?_ <;> kernel_rfl)
  · refine ConX.valid _ 500 127416691756918104520833732098689399295527988522861497342251429034122772318691494039125480374975541626499049792751404105430763936314680317964078324407150634369026 VS rfl ?_
    intro p q
    (generalize b2 = c2; revert c2; refine split1 ?_ ?_ <;> kernel_rfl)
  · refine ConX.valid _ 500 127416691756918104520833732098689399295527988522861497342251429034122772318691494039125480374975541626499049792751404105430763936314680317964078324407150634369026 VS rfl ?_
    intro p q
    (generalize b2 = c2; revert c2; refine split1 ?_ ?_ <;> kernel_rfl)
  · refine ConX.valid _ 500 350281374128282636663428173280907646171122664067685898981243447664217387830811583556598622580012889816636280501040676952525587554491846845255607085435907471423665478799823636220687316713474 VS rfl ?_
    intro p q
    (generalize b2 = c2; revert c2; refine split1 ?_ ?_ <;> kernel_rfl)
  · refine ConX.valid _ 500 350281374128282636663428173280907646171122664067685898981243447664217387830811583556598622580012889816636280501040676952525587554491846845255607085435907471423665478799823636220687316713474 VS rfl ?_
    intro p q
    (generalize b2 = c2; revert c2; refine split1 ?_ ?_ <;> kernel_rfl)
theorem lp_loop (G : LpG) (ha : ascii G.l0 = true) (hc : ∀ c ∈ G.l0.cps.toList, c = 32 ∨ c = 9)
    (hth : ∀ x, (G.cs.any fun c => c.1 == x) = true → x ≤ colL x G.l0.cps.toList 0 + 1) : ∀ (left x : Nat) (R : List Row) (ep : Nat) (Q : List Row) (eq : Nat) (fs : Option LpV) (n t : Nat), x ≠ 0 → x + left ≤ 1000 → R.length + left ≤ 1000 → Q.length + left ≤ 1000 → (0 < left ∨ fs.isSome = true) →
    ∃ (n' t' x' : Nat) (R' : List Row) (ep' : Nat) (Q' : List Row) (eq' : Nat) (v : LpV), R'.map rowV = lpDue (fun x => G.cs.any fun c => c.1 == x) (fun x => colL x G.l0.cps.toList 0) x left ∧ Q'.map rowV = lpOth (fun x => G.cs.any fun c => c.1 == x) (fun x => colL x G.l0.cps.toList 0) x left ∧
      (G.at ((Wf w b1 b2)).params (lawF (Wf w b1 b2)) n t x left R ep Q eq fs ⟨.ok .next, n', t', G.pre ((Wf w b1 b2)).params x' 0 (R ++ R') ep' (Q ++ Q') eq' (some v), [rowsE R', rowsE Q']⟩).Valid (model prog (Wf w b1 b2)) (stW (Wf w b1 b2)) := by
  intro left
  induction left with
  | zero =>
    intro x R ep Q eq fs n t _ _ _ _ hfs
    rcases fs with _ | v
    · simp at hfs
    refine ⟨n + 2, t, x, [], ep, [], eq, v, rfl, rfl, ?_⟩
    rw [List.append_nil, List.append_nil]
    exact mkx_flat (lp_end w b1 b2 G n t x R ep Q eq (some v)) rfl rfl rfl rfl rfl rfl
  | succ left ih =>
    intro x R ep Q eq fs n t hx hz hR hQ _
    obtain ⟨n1, t1, k1, VC⟩ := colV w b1 b2 (bodyOf (lawF (Wf w b1 b2))) (lawEnv (lawF (Wf w b1 b2)) G.g.L) (forE (lawF (Wf w b1 b2)) 17).1 (.ref G.it) (forE (lawF (Wf w b1 b2)) 17).2 [] (lawEnv (lawF (Wf w b1 b2)) G.g.L) G.l0 G.a0 x t n (t + 3) hx (by omega) ha hc
    have hsl : sizeLine = 16777216 := rfl
    have hth' := hth x
    generalize hr : (G.cs.any fun c => c.1 == x) = r at hth'
    generalize hcc : colL x G.l0.cps.toList 0 = c at hth' VC
    generalize hq : decide (lpTh r x c ≥ c) = q
    have VN := rnextV (w := (Wf w b1 b2)) (st := stW (Wf w b1 b2)) G.it x left
    have VL := lgetV (w := (Wf w b1 b2)) (st := stW (Wf w b1 b2)) G.g.le #[.str G.l0 G.a0, .str G.l1 G.a1] 0 0 (t + 2) (.str G.l0 G.a0) rfl (by omega)
    have VI := linV (w := (Wf w b1 b2)) (st := stW (Wf w b1 b2)) G.g.ch G.cs G.epc x t r hr
    have VS := subZV (w := (Wf w b1 b2)) (st := stW (Wf w b1 b2)) (Int.ofNat c + 1) (t1 + 2) (bif r then Int.ofNat x else 0) (bif r then t else t1 + 3) (Int.ofNat (lpTh r x c)) (by
      cases r
      · show (c : Int) + 1 - 0 = ((c + 1 : Nat) : Int); omega
      · have := hth' rfl
        show (c : Int) + 1 - (x : Int) = ((c + 1 - x : Nat) : Int); omega)
    let kth := bif r then t1 + 3 else t1 + 4
    let rd : Row := (n1, (x, t), (c, k1), (lpTh r x c, kth))
    let rq : Row := (bif r then n1 + 1 else n1, (x, t), (lpTh r x c, kth), (c, k1))
    let nn := bif r then (bif q then n1 + 2 else n1 + 1) else (bif q then n1 + 1 else n1)
    have VG := geV (w := (Wf w b1 b2)) (st := stW (Wf w b1 b2)) (Int.ofNat (lpTh r x c)) kth (Int.ofNat c) k1 q (by rw [← hq]; simp)
    have VA := appV' (w := (Wf w b1 b2)) (st := stW (Wf w b1 b2)) G.g.du (rowA R) ep (.ref rd.1) (rowA (R ++ [rd])) (rowA_push R rd) (by rw [rowA_size]; omega)
    have VB := appV' (w := (Wf w b1 b2)) (st := stW (Wf w b1 b2)) G.g.ot (rowA Q) eq (.ref rq.1) (rowA (Q ++ [rq])) (rowA_push Q rq) (by rw [rowA_size]; omega)
    obtain ⟨n', t', x', R', ep', Q', eq', v, hr1, hq1, V⟩ := ih (x + 1) (bif r then R ++ [rd] else R) (bif r then ep + 1 else ep) (bif q then Q ++ [rq] else Q) (bif q then eq + 1 else eq) (some (lpNew fs t x n1 t1 c k1 (lpTh r x c) kth)) nn (kth + 2) (by omega) (by omega)
      (by cases r <;> simp <;> omega) (by cases q <;> simp <;> omega) (.inr rfl)
    have hdue : lpDue (fun x => G.cs.any fun c => c.1 == x) (fun x => colL x G.l0.cps.toList 0) x (left + 1) = (bif r then [(x, c, lpTh r x c)] else []) ++ R'.map rowV := by
      rw [hr1]
      show (bif (G.cs.any fun c => c.1 == x) then [(x, colL x G.l0.cps.toList 0, lpTh (G.cs.any fun c => c.1 == x) x (colL x G.l0.cps.toList 0))] else []) ++ _ = _
      rw [hr, hcc]
    have hoth : lpOth (fun x => G.cs.any fun c => c.1 == x) (fun x => colL x G.l0.cps.toList 0) x (left + 1) = (bif q then [(x, lpTh r x c, c)] else []) ++ Q'.map rowV := by
      rw [hq1]
      show (bif decide (lpTh (G.cs.any fun c => c.1 == x) x (colL x G.l0.cps.toList 0) ≥ colL x G.l0.cps.toList 0) then [(x, lpTh (G.cs.any fun c => c.1 == x) x (colL x G.l0.cps.toList 0), colL x G.l0.cps.toList 0)] else []) ++ _ = _
      rw [hr, hcc, hq]
    have VT := lp_turn w b1 b2 G n t x left R ep Q eq fs r q n1 t1 c k1 (lpTh r x c) n' t' (lpFr G.g ((Wf w b1 b2)).params (some v)) (ritO x' 0) (lstO (natA G.cs) G.epc) G.leO (lstO (rowA ((bif r then R ++ [rd] else R) ++ R')) ep') (lstO (rowA ((bif q then Q ++ [rq] else Q) ++ Q')) eq') (rowsE R') (rowsE Q') (by
      cases r <;> cases q
      · exact (allx_cons (VN.x) (allx_cons (VL.x) (allx_cons (VC.x) (allx_cons (VI.x) (allx_cons (VS.x) (allx_cons (VI.x) (allx_cons (VG.x) (allx_cons (V) allx_nil))))))))
      · exact (allx_cons (VN.x) (allx_cons (VL.x) (allx_cons (VC.x) (allx_cons (VI.x) (allx_cons (VS.x) (allx_cons (VI.x) (allx_cons (VG.x) (allx_cons (VB.x) (allx_cons (V) allx_nil)))))))))
      · exact (allx_cons (VN.x) (allx_cons (VL.x) (allx_cons (VC.x) (allx_cons (VI.x) (allx_cons (VS.x) (allx_cons (VI.x) (allx_cons (VA.x) (allx_cons (VG.x) (allx_cons (V) allx_nil)))))))))
      · exact (allx_cons (VN.x) (allx_cons (VL.x) (allx_cons (VC.x) (allx_cons (VI.x) (allx_cons (VS.x) (allx_cons (VI.x) (allx_cons (VA.x) (allx_cons (VG.x) (allx_cons (VB.x) (allx_cons (V) allx_nil)))))))))))
    refine ⟨n', t', x', (bif r then [rd] else []) ++ R', ep', (bif q then [rq] else []) ++ Q', eq', v, ?_, ?_, ?_⟩
    · rw [hdue]; cases r <;> simp <;> rfl
    · rw [hoth]; cases q <;> simp <;> rfl
    · have eR : R ++ ((bif r then [rd] else []) ++ R') = (bif r then R ++ [rd] else R) ++ R' := by cases r <;> simp
      have eQ : Q ++ ((bif q then [rq] else []) ++ Q') = (bif q then Q ++ [rq] else Q) ++ Q' := by cases q <;> simp
      rw [eR, eQ]
      refine mkx_flat VT rfl rfl ?_ rfl rfl rfl
      show (rowsE ((bif r then [rd] else []) ++ R') ++ (rowsE ((bif q then [rq] else []) ++ Q') ++ []) : List Ent) = ((((bif r then [[rowE rd]] else []) ++ [rowsE R']) ++ (bif q then [[rowE rq]] else [])) ++ [rowsE Q']).flatten
      rw [rowsE_app, rowsE_app]
      cases r <;> cases q <;> simp [rowsE]
end
end
end Mine

namespace Mine
section
open PySem PySem.W Sem
noncomputable def lqC (G : LpG) (P : Params) (f : FuncData) (fl sl : List (Nat × Tok)) (ep n t : Nat) (m : Nat × Tok) (n' t' x' : Nat) (R : List Row) (er : Nat) (Q : List Row) (eq : Nat) (v : LpV) (B1 B2 : List Ent) : ConX :=
  let g := G.g
  ⟨.func (bodyOf f) (lawEnv f g.L), [.builtin "claim.caller" {}], n, t, [g.frL P 18, [(g.fi, lstO (natA fl) ep)], [(g.se, lstO (natA sl) 0)], [(g.ch, lstO (natA G.cs) G.epc)], [(g.le, G.leO)], [(g.du, lstO #[] 0)], [(g.ot, lstO #[] 0)]],
    ⟨.ok .next, n', t', [(v.put g).frL P 21, [(g.fi, lstO (natA fl) ep)], [(g.se, lstO (natA sl) 0)], [(g.ch, lstO (natA G.cs) G.epc)], [(g.le, G.leO)], [(g.du, lstO (rowA R) er)], [(g.ot, lstO (rowA Q) eq)]], [B1, B2]⟩,
    [(laddS' g.fi g.se (natA fl) ep (natA sl) 0 (natA (fl ++ sl))).x, (laddS' n (n + 1) (natA (fl ++ sl)) 0 (natA [(g.bk.1 + 1, t + 2)]) 0 (natA (fl ++ sl ++ [(g.bk.1 + 1, t + 2)]))).x,
     (maxS (bodyOf f) (lawEnv f g.L) (n + 2) (fl ++ sl ++ [(g.bk.1 + 1, t + 2)]) 0 (n + 3) (t + 3) m).x, (riterS (n + 7) 1 t (m.1 + 2) (t + 4) (t + 5)).x,
     G.at P f (n + 9) (t + 6) 1 (m.1 + 1) [] 0 [] 0 none ⟨.ok .next, n', t', G.pre P x' 0 R er Q eq (some v), [B1, B2]⟩]⟩
end
end Mine

namespace Mine
section
open PySem PySem.W Sem
theorem natA_cat (a b : List (Nat × Tok)) : natA a ++ natA b = natA (a ++ b) := by
  apply Array.ext'
  show (natA a ++ natA b).toList = natVs _
  rw [Array.toList_append]
  unfold natA natVs
  simp
noncomputable def maxL : List Nat → Nat
  | [] => 0
  | x :: l => maxN x l
section
variable (w : World) (b1 b2 : Bool)
theorem stmt17 (g : Lv) (cs : List (Nat × Tok)) (epc : Nat) (l0 : Str) (a0 : Tok) (l1 : Str) (a1 : Tok) (fl sl : List (Nat × Tok)) (ep n t : Nat) (ha : ascii l0 = true) (hc : ∀ c ∈ l0.cps.toList, c = 32 ∨ c = 9)
    (hth : ∀ x, (cs.any fun c => c.1 == x) = true → x ≤ colL x l0.cps.toList 0 + 1) (hf : fl.length ≤ 1000) (hs : sl.length ≤ 1000) (hM : maxL (fl.map (·.1) ++ sl.map (·.1) ++ [g.bk.1 + 1]) ≤ 500) :
    ∃ (n' t' : Nat) (R : List Row) (er : Nat) (Q : List Row) (eq : Nat) (v : LpV),
      (R.map rowV = lpDue (fun x => cs.any fun c => c.1 == x) (fun x => colL x l0.cps.toList 0) 1 (maxL (fl.map (·.1) ++ sl.map (·.1) ++ [g.bk.1 + 1]) + 1) ∧
       Q.map rowV = lpOth (fun x => cs.any fun c => c.1 == x) (fun x => colL x l0.cps.toList 0) 1 (maxL (fl.map (·.1) ++ sl.map (·.1) ++ [g.bk.1 + 1]) + 1)) ∧
      Step (Wf w b1 b2) g.L 17 1 ([g.frL ((Wf w b1 b2)).params 18, [(g.fi, lstO (natA fl) ep)], [(g.se, lstO (natA sl) 0)], [(g.ch, lstO (natA cs) epc)], [(g.le, lstO #[.str l0 a0, .str l1 a1] 0)], [(g.du, lstO #[] 0)], [(g.ot, lstO #[] 0)]]) (([(v.put g).frL ((Wf w b1 b2)).params 21, [(g.fi, lstO (natA fl) ep)], [(g.se, lstO (natA sl) 0)], [(g.ch, lstO (natA cs) epc)], [(g.le, lstO #[.str l0 a0, .str l1 a1] 0)], [(g.du, lstO (rowA R) er)], [(g.ot, lstO (rowA Q) eq)]] ++ [rowsE R, rowsE Q])) n t n' t' := by
  have hsl : sizeLine = 16777216 := rfl
  have hv : (fl ++ sl ++ [(g.bk.1 + 1, t + 2)]).map (·.1) = fl.map (·.1) ++ sl.map (·.1) ++ [g.bk.1 + 1] := by simp
  have V3 : ∃ m : Nat × Tok, m.1 = maxL (fl.map (·.1) ++ sl.map (·.1) ++ [g.bk.1 + 1]) ∧ (maxS (bodyOf (lawF (Wf w b1 b2))) (lawEnv (lawF (Wf w b1 b2)) g.L) (n + 2) (fl ++ sl ++ [(g.bk.1 + 1, t + 2)]) 0 (n + 3) (t + 3) m).Valid (model prog (Wf w b1 b2)) (stW (Wf w b1 b2)) := by
    rw [← hv]
    cases hall : fl ++ sl ++ [(g.bk.1 + 1, t + 2)] with
    | nil => simp at hall
    | cons x xs => exact ⟨maxK x xs, maxK_fst xs x, maxV w b1 b2 (bodyOf (lawF (Wf w b1 b2))) (lawEnv (lawF (Wf w b1 b2)) g.L) (n + 2) x xs 0 (n + 3) (t + 3)⟩
  obtain ⟨m, hm, V3⟩ := V3
  rw [← hm] at hM ⊢
  let G : LpG := ⟨g, n + 8, cs, epc, l0, a0, l1, a1⟩
  obtain ⟨n', t', x', R, er, Q, eq, v, h1, h2, V⟩ := lp_loop w b1 b2 G ha hc hth (m.1 + 1) 1 [] 0 [] 0 none (n + 9) (t + 6) (by decide) (by omega) (by show 0 + _ ≤ _; omega) (by show 0 + _ ≤ _; omega) (.inl (by omega))
  refine ⟨n', t', R, er, Q, eq, v, ⟨h1, h2⟩, fun s0 old rest s p p0 A => ?_⟩
  have V1 := laddV' (w := (Wf w b1 b2)) (st := stW (Wf w b1 b2)) g.fi g.se (natA fl) ep (natA sl) 0 (natA (fl ++ sl)) (natA_cat _ _) (by rw [natA_size, natA_size]; omega)
  have V2 := laddV' (w := (Wf w b1 b2)) (st := stW (Wf w b1 b2)) n (n + 1) (natA (fl ++ sl)) 0 (natA [(g.bk.1 + 1, t + 2)]) 0 (natA (fl ++ sl ++ [(g.bk.1 + 1, t + 2)])) (natA_cat _ _) (by rw [natA_size, natA_size, List.length_append]; show _ + 1 ≤ _; omega)
  have V4 := riterV (w := (Wf w b1 b2)) (st := stW (Wf w b1 b2)) (n + 7) 1 t (m.1 + 2) (t + 4) (t + 5) (by decide) (by omega)
  let C := lqC G ((Wf w b1 b2)).params (lawF (Wf w b1 b2)) fl sl ep n t m n' t' x' R er Q eq v (rowsE R) (rowsE Q)
  have := seg_ok (w := (Wf w b1 b2)) (st := stW (Wf w b1 b2)) (body := bodyOf (lawF (Wf w b1 b2))) (seg := ((bodyOf (lawF (Wf w b1 b2))).drop 17).take 1) (env := lawEnv (lawF (Wf w b1 b2)) g.L) 700 625602681287006894170260021389413243920888594557093119474225122490231213624080402047479490266539276738191006053700018696146812665856 C.ss (pre := C.pre) (n := n) (t := t) (fl := .next) (e := C.e) (allx_cons (V1.x) (allx_cons (V2.x) (allx_cons (V3.x) (allx_cons (V4.x) (allx_cons (V) allx_nil))))) rfl rfl (fun p q => by
    clear V1 V2 V3 V4 V
    (generalize b1 = c1; generalize b2 = c2; revert c1 c2; refine split2 ?_ ?_ ?_ ?_ <;> kernel_rfl)) A p p0
  exact this
end
end
end Mine

namespace Mine
section
open PySem PySem.W Sem
noncomputable abbrev nlX (P : Params) (o1 o2 : Wo) (b : List Stmt) (e : Env) (n t n' t' : Nat) (R : List Row) (ep : Nat) : XS :=
  mkx (.call (.ref 80) ⟨[.ref o1.O, .ref o2.O], []⟩) none (lawCds b e) n t (sing (o1.ents P ++ o2.ents P)) ⟨.ok (.ret (.ref (n + 24))), n', t', sing (o1.ents P ++ o2.ents P), [[(n + 24, lstO (rowA R) ep)], rowsE R]⟩
noncomputable def wtL (g : Lv) (n t1 : Nat) : Lv := { (g.kn 21 t1) with wi := n + 24 }
noncomputable def wtC (g : Lv) (P : Params) (f : FuncData) (o1 o2 : Wo) (R Q R1 Q1 : List Row) (er eq e1 e2 n t n1 t1 n2 t2 : Nat) : ConX :=
  ⟨.func (bodyOf f) (lawEnv f g.L), [.builtin "claim.caller" {}], n, t, [g.frL P 21] ++ sing (o1.ents P) ++ sing (o2.ents P) ++ [[(g.du, lstO (rowA R) er)], [(g.ot, lstO (rowA Q) eq)], rowsE R, rowsE Q],
    ⟨.ok .next, n2, t2, [(wtL g n t1).frL P 22] ++ sing (o1.ents P) ++ sing (o2.ents P) ++ [[(g.du, lstO (rowA R) er)], [(g.ot, lstO (rowA Q) eq)], rowsE R, rowsE Q], [[(n + 24, lstO (rowA R1) e1)], rowsE R1]⟩,
    [nlX P o1 o2 (bodyOf f) (lawEnv f g.L) n t n1 t1 R1 e1, lneRowS (lawCds (bodyOf f) (lawEnv f g.L)) n1 (t1 + 1) (n + 24) g.du R1 R e1 er,
     nlX P o2 o1 (bodyOf f) (lawEnv f g.L) n1 (t1 + 1) n2 t2 Q1 e2, lneRowS (lawCds (bodyOf f) (lawEnv f g.L)) n2 t2 (n1 + 24) g.ot Q1 Q e2 eq]⟩
end
end Mine

namespace Mine
section
open PySem PySem.W Sem
theorem law_units (b : List Stmt) (e : Env) : ((lawCds b e).map Code.cUnits).sum + 1 < cLine := by
  show (Code.cUnits (.func b e) + (Code.cUnits (.builtin "claim.caller" {}) + 0)) + 1 < cLine
  have h : Nat.ble ((Code.cUnits (.func b e) + (Code.cUnits (.builtin "claim.caller" {}) + 0)) + 2) cLine = true := by kernel_rfl
  exact Nat.le_of_ble_eq_true h
section
variable (w : World) (b1 b2 : Bool)
theorem WoOk.small {o : Wo} {l : List Nat} (h : WoOk o l) (hc : ∀ c ∈ (wsGo l 0 0 0 []).2.2.2, c < 1000000) : o.small := by
  refine ⟨fun c hm => ?_, h.2.1⟩
  rw [h.1] at hc
  exact hc c.1 (List.mem_map.mpr ⟨c, hm, rfl⟩)
theorem stmt18 (g : Lv) (o1 o2 : Wo) (hu : g.up = o1.O) (hl : g.lo = o2.O) (h1 : o1.small) (h2 : o2.small) (z1 : o1.b ≤ 900) (z2 : o2.b ≤ 900) (R Q : List Row) (er eq n t : Nat)
    (hR : R.map rowV = nlGo (levN o1) (levN o2) 1 (max (lrN o1.b o1.cnts.length) (lrN o2.b o2.cnts.length) + 1)) (hQ : Q.map rowV = nlGo (levN o2) (levN o1) 1 (max (lrN o2.b o2.cnts.length) (lrN o1.b o1.cnts.length) + 1)) :
    ∃ (n1 t1 n2 t2 : Nat) (R1 : List Row) (e1 : Nat), R1.map rowV = R.map rowV ∧ Step (Wf w b1 b2) g.L 18 2 (([g.frL ((Wf w b1 b2)).params 21] ++ sing (o1.ents ((Wf w b1 b2)).params) ++ sing (o2.ents ((Wf w b1 b2)).params) ++ [[(g.du, lstO (rowA R) er)], [(g.ot, lstO (rowA Q) eq)], rowsE R, rowsE Q])) ((([(wtL g n t1).frL ((Wf w b1 b2)).params 22] ++ sing (o1.ents ((Wf w b1 b2)).params) ++ sing (o2.ents ((Wf w b1 b2)).params) ++ [[(g.du, lstO (rowA R) er)], [(g.ot, lstO (rowA Q) eq)], rowsE R, rowsE Q]) ++ [[(n + 24, lstO (rowA R1) e1)], rowsE R1])) n t n2 t2 := by
  obtain ⟨n1, t1, R1, e1, r1, V1⟩ := nlwV w b1 b2 o1 o2 h1 h2 z1 z2 (bodyOf (lawF (Wf w b1 b2))) (lawEnv (lawF (Wf w b1 b2)) g.L) n t
  obtain ⟨n2, t2, Q1, e2, q1, V2⟩ := nlwV w b1 b2 o2 o1 h2 h1 z2 z1 (bodyOf (lawF (Wf w b1 b2))) (lawEnv (lawF (Wf w b1 b2)) g.L) n1 (t1 + 1)
  have hRR : R1.map rowV = R.map rowV := r1.trans hR.symm
  refine ⟨n1, t1, n2, t2, R1, e1, hRR, fun s0 old rest s p p0 A => ?_⟩
  have W1 := lneRowV (w := (Wf w b1 b2)) (st := stW (Wf w b1 b2)) (lawCds (bodyOf (lawF (Wf w b1 b2))) (lawEnv (lawF (Wf w b1 b2)) g.L)) (law_units _ _) n1 (t1 + 1) (n + 24) g.du R1 R e1 er hRR
  have W2 := lneRowV (w := (Wf w b1 b2)) (st := stW (Wf w b1 b2)) (lawCds (bodyOf (lawF (Wf w b1 b2))) (lawEnv (lawF (Wf w b1 b2)) g.L)) (law_units _ _) n2 t2 (n1 + 24) g.ot Q1 Q e2 eq (q1.trans hQ.symm)
  obtain ⟨L, S, su, KK, N0, N1, N2, ka, kb, kc, ch, sh, bk, fi, se, le, na, re, wh, tx, lx, tp, wd, td, lo, up, ot, du, sz, hr, th, wi, mo, rs, op, lf, sp, wo⟩ := g
  subst hu hl
  let C := wtC ⟨L, S, su, KK, N0, N1, N2, ka, kb, kc, ch, sh, bk, fi, se, le, na, re, wh, tx, lx, tp, wd, td, o2.O, o1.O, ot, du, sz, hr, th, wi, mo, rs, op, lf, sp, wo⟩ ((Wf w b1 b2)).params (lawF (Wf w b1 b2)) o1 o2 R Q R1 Q1 er eq e1 e2 n t n1 t1 n2 t2
  have := seg_ok (w := (Wf w b1 b2)) (st := stW (Wf w b1 b2)) (body := bodyOf (lawF (Wf w b1 b2))) (seg := ((bodyOf (lawF (Wf w b1 b2))).drop 18).take 2) (env := lawEnv (lawF (Wf w b1 b2)) L) 700 141187630289439768331885258542165802794319285348583744958812749071868460864275325252660742177886402224568215830714003162917838064739593729124207308296118943176377467775603801087054758714713357418881 C.ss (pre := C.pre) (n := n) (t := t) (fl := .next) (e := C.e) (allx_cons (V1) (allx_cons (W1) (allx_cons (V2) (allx_cons (W2) allx_nil)))) rfl rfl (fun p q => by
    clear V1 V2 W1 W2
    (generalize b1 = c1; generalize b2 = c2; revert c1 c2; refine split2 ?_ ?_ ?_ ?_ <;> kernel_rfl)) A p p0
  exact this
end
end
end Mine

namespace Mine
section
open PySem PySem.W Sem
noncomputable abbrev lessX (P : Params) (o1 o2 : Wo) (b : List Stmt) (e : Env) (n t n' t' : Nat) (r : Bool) : Mine.Spec := Mine.mk (.call (.ref 73) ⟨[.ref o1.O, .ref o2.O], []⟩) none (lawCds b e) n t (o1.ents P ++ o2.ents P) ⟨.ok (.ret (.bool r)), n', t', objs (o1.ents P ++ o2.ents P), []⟩
noncomputable def lsL (g : Lv) (t2 : Nat) (m : Nat × Tok) : Lv := { (g.kn 22 (t2 + 2)) with mo := (Int.ofNat m.1, m.2) }
noncomputable def lsC (g : Lv) (P : Params) (f : FuncData) (o1 o2 : Wo) (cs : List (Nat × Tok)) (epc : Nat) (fl : List (Nat × Tok)) (ep : Nat) (sl : List (Nat × Tok)) (r : Bool) (n t n1 t1 n2 t2 : Nat) (m : Nat × Tok) : ConX :=
  ⟨.func (bodyOf f) (lawEnv f g.L), [.builtin "claim.caller" {}], n, t, [g.frL P 22] ++ sing (o1.ents P) ++ sing (o2.ents P) ++ [[(g.ch, lstO (natA cs) epc)], [(g.fi, lstO (natA fl) ep)], [(g.se, lstO (natA sl) 0)]],
    ⟨.ok .next, n2 + 7, t2 + 3, [(lsL g t2 m).frL P 23] ++ sing (o1.ents P) ++ sing (o2.ents P) ++ [[(g.ch, lstO (natA cs) epc)], [(g.fi, lstO (natA fl) ep)], [(g.se, lstO (natA sl) 0)]], []⟩,
    [(lessX P o1 o2 (bodyOf f) (lawEnv f g.L) n t n1 t1 r).x, (leqS g.ch n1 (natA cs) #[] epc 0 r).x, (lessX P o2 o1 (bodyOf f) (lawEnv f g.L) (n1 + 1) t1 n2 t2 false).x,
     (laddS' g.fi g.se (natA fl) ep (natA sl) 0 (natA (fl ++ sl))).x, (laddS' n2 (n2 + 1) (natA (fl ++ sl)) 0 (natA [(g.bk.1 + 1, t2 + 1)]) 0 (natA (fl ++ sl ++ [(g.bk.1 + 1, t2 + 1)]))).x,
     (maxS (bodyOf f) (lawEnv f g.L) (n2 + 2) (fl ++ sl ++ [(g.bk.1 + 1, t2 + 1)]) 0 (n2 + 3) (t2 + 2) m).x]⟩
end
end Mine

namespace Mine
section
open PySem PySem.W Sem
section
variable (w : World) (b1 b2 : Bool)
theorem stmt20 (g : Lv) (o1 o2 : Wo) (hu : g.up = o1.O) (hl : g.lo = o2.O) (h1 : o1.small) (h2 : o2.small) (z1 : o1.b ≤ 900) (z2 : o2.b ≤ 900) (cs : List (Nat × Tok)) (epc : Nat) (fl : List (Nat × Tok)) (ep : Nat) (sl : List (Nat × Tok)) (n t : Nat)
    (hf : fl.length ≤ 1000) (hs : sl.length ≤ 1000) (hr1 : lessN o1 o2 = decide (cs.length = 0)) (hr2 : lessN o2 o1 = false) :
    ∃ (n2 t2 : Nat) (m : Nat × Tok), m.1 = maxL (fl.map (·.1) ++ sl.map (·.1) ++ [g.bk.1 + 1]) ∧ Step (Wf w b1 b2) g.L 20 2 (([g.frL ((Wf w b1 b2)).params 22] ++ sing (o1.ents ((Wf w b1 b2)).params) ++ sing (o2.ents ((Wf w b1 b2)).params) ++ [[(g.ch, lstO (natA cs) epc)], [(g.fi, lstO (natA fl) ep)], [(g.se, lstO (natA sl) 0)]])) ((([(lsL g t2 m).frL ((Wf w b1 b2)).params 23] ++ sing (o1.ents ((Wf w b1 b2)).params) ++ sing (o2.ents ((Wf w b1 b2)).params) ++ [[(g.ch, lstO (natA cs) epc)], [(g.fi, lstO (natA fl) ep)], [(g.se, lstO (natA sl) 0)]]) ++ [])) n t (n2 + 7) (t2 + 3) := by
  have hsl : sizeLine = 16777216 := rfl
  obtain ⟨n1, t1, V1⟩ := lessV w b1 b2 o1 o2 h1 h2 z1 z2 (bodyOf (lawF (Wf w b1 b2))) (lawEnv (lawF (Wf w b1 b2)) g.L) n t
  obtain ⟨n2, t2, V3⟩ := lessV w b1 b2 o2 o1 h2 h1 z2 z1 (bodyOf (lawF (Wf w b1 b2))) (lawEnv (lawF (Wf w b1 b2)) g.L) (n1 + 1) t1
  have V2 := leqNil (w := (Wf w b1 b2)) (st := stW (Wf w b1 b2)) g.ch n1 (natA cs) epc 0
  rw [natA_size] at V2
  rw [hr1] at V1
  rw [hr2] at V3
  have hv : (fl ++ sl ++ [(g.bk.1 + 1, t2 + 1)]).map (·.1) = fl.map (·.1) ++ sl.map (·.1) ++ [g.bk.1 + 1] := by simp
  have V6 : ∃ m : Nat × Tok, m.1 = maxL (fl.map (·.1) ++ sl.map (·.1) ++ [g.bk.1 + 1]) ∧ (maxS (bodyOf (lawF (Wf w b1 b2))) (lawEnv (lawF (Wf w b1 b2)) g.L) (n2 + 2) (fl ++ sl ++ [(g.bk.1 + 1, t2 + 1)]) 0 (n2 + 3) (t2 + 2) m).Valid (model prog (Wf w b1 b2)) (stW (Wf w b1 b2)) := by
    rw [← hv]
    cases hall : fl ++ sl ++ [(g.bk.1 + 1, t2 + 1)] with
    | nil => simp at hall
    | cons x xs => exact ⟨maxK x xs, maxK_fst xs x, maxV w b1 b2 (bodyOf (lawF (Wf w b1 b2))) (lawEnv (lawF (Wf w b1 b2)) g.L) (n2 + 2) x xs 0 (n2 + 3) (t2 + 2)⟩
  obtain ⟨m, hm, V6⟩ := V6
  refine ⟨n2, t2, m, hm, fun s0 old rest s p p0 A => ?_⟩
  have V4 := laddV' (w := (Wf w b1 b2)) (st := stW (Wf w b1 b2)) g.fi g.se (natA fl) ep (natA sl) 0 (natA (fl ++ sl)) (natA_cat _ _) (by rw [natA_size, natA_size]; omega)
  have V5 := laddV' (w := (Wf w b1 b2)) (st := stW (Wf w b1 b2)) n2 (n2 + 1) (natA (fl ++ sl)) 0 (natA [(g.bk.1 + 1, t2 + 1)]) 0 (natA (fl ++ sl ++ [(g.bk.1 + 1, t2 + 1)])) (natA_cat _ _) (by rw [natA_size, natA_size, List.length_append]; show _ + 1 ≤ _; omega)
  obtain ⟨L, S, su, KK, N0, N1, N2, ka, kb, kc, ch, sh, bk, fi, se, le, na, re, wh, tx, lx, tp, wd, td, lo, up, ot, du, sz, hr, th, wi, mo, rs, op, lf, sp, wo⟩ := g
  subst hu hl
  generalize decide (cs.length = 0) = r at *
  let C := lsC ⟨L, S, su, KK, N0, N1, N2, ka, kb, kc, ch, sh, bk, fi, se, le, na, re, wh, tx, lx, tp, wd, td, o2.O, o1.O, ot, du, sz, hr, th, wi, mo, rs, op, lf, sp, wo⟩ ((Wf w b1 b2)).params (lawF (Wf w b1 b2)) o1 o2 cs epc fl ep sl r n t n1 t1 n2 t2 m
  have := seg_ok (w := (Wf w b1 b2)) (st := stW (Wf w b1 b2)) (body := bodyOf (lawF (Wf w b1 b2))) (seg := ((bodyOf (lawF (Wf w b1 b2))).drop 20).take 2) (env := lawEnv (lawF (Wf w b1 b2)) L) 700 (bif r then 1041644044479425464190446164852092845852196917241652151216006968289816587292280649096926834213193224540944864924486443146916865535206122979275252557613344094144652967514357894109823846681581155860540484825459382550913 else 1041644044479425464190446164852092845852196917241652151216006968289816587292280649096926834213193224540944864924486443146916865535206122979275252557613344094144652967514357894109823846681581155860540484825459382550913) C.ss (pre := C.pre) (n := n) (t := t) (fl := .next) (e := C.e) (allx_cons (V1.x) (allx_cons (V2.x) (allx_cons (V3.x) (allx_cons (V4.x) (allx_cons (V5.x) (allx_cons (V6.x) allx_nil)))))) rfl rfl (fun p q => by
    clear V1 V2 V3 V4 V5 V6 hr1
    cases r <;> (generalize b1 = c1; generalize b2 = c2; revert c1 c2; refine split2 ?_ ?_ ?_ ?_ <;> kernel_rfl)) A p p0
  exact this
end
end
end Mine

namespace Mine
section
open PySem PySem.W Sem
noncomputable abbrev gv (id : String) (args : List Value) (n t : Nat) (y : Str) (k : Tok) (t' : Nat) : Mine.Spec := giveS id args n t (.str y k) t'
structure LtD where
  k1 : Tok
  t1 : Nat
  o3 : Wo
  n2 : Nat
  t2 : Nat
  k3 : Tok
  t3 : Nat
  k4 : Tok
  t4 : Nat
  k5 : Tok
  t5 : Nat
  o4 : Wo
  n6 : Nat
  t6 : Nat
  n7 : Nat
  t7 : Nat
  k8 : Tok
  t8 : Nat
  o5 : Wo
  n9 : Nat
  t9 : Nat
  k10 : Tok
  t10 : Nat
  o6 : Wo
  n11 : Nat
  t11 : Nat
  n12 : Nat
  t12 : Nat
noncomputable def ltC (g : Lv) (P : Params) (f : FuncData) (l0 : Str) (a0 : Tok) (l1 : Str) (a1 : Tok) (M : Nat) (kM : Tok) (n t : Nat) (d : LtD) : ConX :=
  let b := bodyOf f
  let e := lawEnv f g.L
  ⟨.func b e, [.builtin "claim.caller" {}], n, t, [g.frL P 23, [(g.le, lstO #[.str l0 a0, .str l1 a1] 0)]], ⟨.ok .next, d.n12, d.t12, [g.frL P 23, [(g.le, lstO #[.str l0 a0, .str l1 a1] 0)]], []⟩,
    [(lgetS g.le #[.str l0 a0, .str l1 a1] 0 0 (t + 1) (.str l0 a0)).x, (gv "str.__add__" [.str ⟨#[9]⟩ t, .str l0 a0] n (t + 2) (⟨#[9]⟩ ++ l0) d.k1 d.t1).x, (wsX P (⟨#[9]⟩ ++ l0) d.k1 b e n d.t1 d.n2 d.t2 d.o3).x,
     (gv "str.__mul__" [.str ⟨#[32]⟩ d.t2, .int (Int.ofNat M) kM] d.n2 (d.t2 + 1) (rpt 32 M) d.k3 d.t3).x, (gv "str.__add__" [.str (rpt 32 M) d.k3, .str ⟨#[9]⟩ d.t3] d.n2 (d.t3 + 1) (rpt 32 M ++ ⟨#[9]⟩) d.k4 d.t4).x,
     (lgetS g.le #[.str l0 a0, .str l1 a1] 0 0 d.t4 (.str l0 a0)).x, (gv "str.__add__" [.str (rpt 32 M ++ ⟨#[9]⟩) d.k4, .str l0 a0] d.n2 (d.t4 + 1) ((rpt 32 M ++ ⟨#[9]⟩) ++ l0) d.k5 d.t5).x, (wsX P ((rpt 32 M ++ ⟨#[9]⟩) ++ l0) d.k5 b e d.n2 d.t5 d.n6 d.t6 d.o4).x,
     (lessX P d.o3 d.o4 b e d.n6 d.t6 d.n7 d.t7 false).x,
     (gv "str.__mul__" [.str ⟨#[9]⟩ d.t7, .int (Int.ofNat (g.bk.1 + 1)) (d.t7 + 2)] d.n7 (d.t7 + 3) (rpt 9 (g.bk.1 + 1)) d.k8 d.t8).x, (wsX P (rpt 9 (g.bk.1 + 1)) d.k8 b e d.n7 d.t8 d.n9 d.t9 d.o5).x,
     (gv "str.__mul__" [.str ⟨#[32]⟩ d.t9, .int (Int.ofNat (g.bk.1 + 2)) (d.t9 + 2)] d.n9 (d.t9 + 3) (rpt 32 (g.bk.1 + 2)) d.k10 d.t10).x, (wsX P (rpt 32 (g.bk.1 + 2)) d.k10 b e d.n9 d.t10 d.n11 d.t11 d.o6).x,
     (lessX P d.o5 d.o6 b e d.n11 d.t11 d.n12 d.t12 false).x]⟩
end
end Mine

namespace Mine
section
open PySem PySem.W Sem
noncomputable def wsL (l : List Nat) : Nat × Nat × Nat × List Nat := wsGo l 0 0 0 []
noncomputable def levL (l : List Nat) (ts : Nat) : Nat := (wsL l).1 + ts * (ilGo ts ((wsL l).2.2.2.drop ts) ts 0 + (wsL l).2.2.1)
noncomputable def lrL (l : List Nat) : Nat := lrN (wsL l).1 (wsL l).2.2.2.length
noncomputable def simL (l : List Nat) : Bool := decide (Int.ofNat (wsL l).2.2.2.length ≤ 1)
noncomputable def lessL (l l' : List Nat) : Bool := if (wsL l).2.1 ≥ (wsL l').2.1 then false else if simL l && simL l' then decide ((wsL l).2.2.1 ≤ (wsL l').2.2.1) else lsGo (levL l) (levL l') 2 (max (lrL l) (lrL l'))
/-- the figures of a text are small -/
noncomputable def okW (l : List Nat) : Prop := (∀ c ∈ (wsL l).2.2.2, c < 1000000) ∧ (wsL l).1 ≤ 900
theorem WoOk.lev {o : Wo} {l : List Nat} (h : WoOk o l) : levN o = levL l := by
  funext ts
  unfold levN levL wsL
  rw [h.1]
theorem WoOk.lr {o : Wo} {l : List Nat} (h : WoOk o l) : lrN o.b o.cnts.length = lrL l := by
  unfold lrL wsL
  rw [h.1, List.length_map]
theorem WoOk.sm {o : Wo} {l : List Nat} (h : WoOk o l) : o.sim = simL l := by
  rw [h.2.2]
  unfold simL wsL
  rw [h.1, List.length_map]
theorem WoOk.less {o o' : Wo} {l l' : List Nat} (h : WoOk o l) (h' : WoOk o' l') : lessN o o' = lessL l l' := by
  unfold lessN lessL
  rw [h.lev, h'.lev, h.lr, h'.lr, h.sm, h'.sm]
  have e1 : (wsL l).2.1 = o.n := by unfold wsL; rw [h.1]
  have e2 : (wsL l').2.1 = o'.n := by unfold wsL; rw [h'.1]
  have e3 : (wsL l).2.2.1 = o.nt := by unfold wsL; rw [h.1]
  have e4 : (wsL l').2.2.1 = o'.nt := by unfold wsL; rw [h'.1]
  rw [e1, e2, e3, e4]
theorem WoOk.b9 {o : Wo} {l : List Nat} (h : WoOk o l) (k : okW l) : o.b ≤ 900 := by
  have := k.2
  unfold wsL at this
  rw [h.1] at this
  exact this
theorem ascii_app {x y : Str} (hx : ascii x = true) (hy : ascii y = true) : ascii (x ++ y) = true := by
  unfold ascii at *
  show (x.cps ++ y.cps).all _ = true
  rw [Array.all_append, hx, hy]; rfl
theorem rpt_list (c i : Nat) : (rpt c i).cps.toList = List.replicate i c := by
  unfold rpt; simp
theorem ascii_rpt (c i : Nat) (hc : c < 128) : ascii (rpt c i) = true := by
  unfold ascii
  rw [← Array.all_toList, rpt_list]
  simp [hc]
section
variable (w : World) (b1 b2 : Bool)
theorem wsXV (b : List Stmt) (e : Env) (x : Str) (k : Tok) (n t : Nat) (ha : ascii x = true) (hz : x.cps.toList.length < 900) : ∃ (o : Wo) (n' t' : Nat), WoOk o x.cps.toList ∧ o.O = n + 1 ∧ (wsX ((Wf w b1 b2)).params x k b e n t n' t' o).Valid (model prog (Wf w b1 b2)) (stW (Wf w b1 b2)) := by
  obtain ⟨o, n', t', h1, h2, h3, h4, V⟩ := whiteV w b1 b2 x k b e n t ha hz
  rw [← h4] at V
  exact ⟨o, n', t', ⟨h1, h2, h3⟩, h4, V⟩
theorem stmt22 (g : Lv) (l0 : Str) (a0 : Tok) (l1 : Str) (a1 : Tok) (M : Nat) (kM : Tok) (hmo : g.mo = (Int.ofNat M, kM)) (n t : Nat) (ha : ascii l0 = true) (hz : l0.cps.toList.length < 400) (hM : M < 400) (hb : g.bk.1 ≤ 2)
    (w3 : okW (9 :: l0.cps.toList)) (w4 : okW ((List.replicate M 32 ++ [9]) ++ l0.cps.toList)) (w5 : okW (List.replicate (g.bk.1 + 1) 9)) (w6 : okW (List.replicate (g.bk.1 + 2) 32))
    (e1 : lessL (9 :: l0.cps.toList) ((List.replicate M 32 ++ [9]) ++ l0.cps.toList) = false) (e2 : lessL (List.replicate (g.bk.1 + 1) 9) (List.replicate (g.bk.1 + 2) 32) = false) :
    ∃ (n' t' : Nat), Step (Wf w b1 b2) g.L 22 2 ([g.frL ((Wf w b1 b2)).params 23, [(g.le, lstO #[.str l0 a0, .str l1 a1] 0)]]) (([g.frL ((Wf w b1 b2)).params 23, [(g.le, lstO #[.str l0 a0, .str l1 a1] 0)]] ++ [])) n t n' t' := by
  have hsl : sizeLine = 16777216 := rfl
  let b := bodyOf (lawF (Wf w b1 b2))
  let e := lawEnv (lawF (Wf w b1 b2)) g.L
  have a9 : ascii ⟨#[9]⟩ = true := by decide +kernel
  have q3 : (⟨#[9]⟩ ++ l0 : Str).cps.toList = 9 :: l0.cps.toList := str_app [9] l0
  have q4 : (rpt 32 M ++ ⟨#[9]⟩ : Str).cps.toList = List.replicate M 32 ++ [9] := by
    show ((rpt 32 M).cps ++ _).toList = _
    rw [Array.toList_append, rpt_list]
  have q5 : ((rpt 32 M ++ ⟨#[9]⟩) ++ l0 : Str).cps.toList = (List.replicate M 32 ++ [9]) ++ l0.cps.toList := by
    show ((rpt 32 M ++ ⟨#[9]⟩ : Str).cps ++ l0.cps).toList = _
    rw [Array.toList_append, q4]
  obtain ⟨k1, t1, V1⟩ := add_give (w := (Wf w b1 b2)) (st := stW (Wf w b1 b2)) ⟨#[9]⟩ l0 t a0 n (t + 2) (by rw [str_len, q3, List.length_cons]; omega)
  obtain ⟨o3, n2, t2, O3, _, V2⟩ := wsXV w b1 b2 b e (⟨#[9]⟩ ++ l0) k1 n t1 (ascii_app a9 ha) (by rw [q3, List.length_cons]; omega)
  obtain ⟨k3, t3, V3⟩ := mul_give (w := (Wf w b1 b2)) (st := stW (Wf w b1 b2)) 32 M t2 kM n2 (t2 + 1) (by omega)
  obtain ⟨k4, t4, V4⟩ := add_give (w := (Wf w b1 b2)) (st := stW (Wf w b1 b2)) (rpt 32 M) ⟨#[9]⟩ k3 t3 n2 (t3 + 1) (by rw [str_len, q4, List.length_append, List.length_replicate]; show _ + 1 ≤ _; omega)
  obtain ⟨k5, t5, V5⟩ := add_give (w := (Wf w b1 b2)) (st := stW (Wf w b1 b2)) (rpt 32 M ++ ⟨#[9]⟩) l0 k4 a0 n2 (t4 + 1) (by rw [str_len, q5, List.length_append, List.length_append, List.length_replicate]; show _ + 1 + _ ≤ _; omega)
  obtain ⟨o4, n6, t6, O4, _, V6⟩ := wsXV w b1 b2 b e ((rpt 32 M ++ ⟨#[9]⟩) ++ l0) k5 n2 t5 (ascii_app (ascii_app (ascii_rpt _ _ (by decide)) a9) ha) (by rw [q5, List.length_append, List.length_append, List.length_replicate]; show _ + 1 + _ < _; omega)
  rw [q3] at O3
  rw [q5] at O4
  obtain ⟨n7, t7, V7⟩ := lessV w b1 b2 o3 o4 (O3.small w3.1) (O4.small w4.1) (O3.b9 w3) (O4.b9 w4) b e n6 t6
  rw [O3.less O4, e1] at V7
  obtain ⟨k8, t8, V8⟩ := mul_give (w := (Wf w b1 b2)) (st := stW (Wf w b1 b2)) 9 (g.bk.1 + 1) t7 (t7 + 2) n7 (t7 + 3) (by omega)
  obtain ⟨o5, n9, t9, O5, _, V9⟩ := wsXV w b1 b2 b e (rpt 9 (g.bk.1 + 1)) k8 n7 t8 (ascii_rpt _ _ (by decide)) (by rw [rpt_list]; simp; omega)
  obtain ⟨k10, t10, V10⟩ := mul_give (w := (Wf w b1 b2)) (st := stW (Wf w b1 b2)) 32 (g.bk.1 + 2) t9 (t9 + 2) n9 (t9 + 3) (by omega)
  obtain ⟨o6, n11, t11, O6, _, V11⟩ := wsXV w b1 b2 b e (rpt 32 (g.bk.1 + 2)) k10 n9 t10 (ascii_rpt _ _ (by decide)) (by rw [rpt_list]; simp; omega)
  rw [rpt_list] at O5 O6
  obtain ⟨n12, t12, V12⟩ := lessV w b1 b2 o5 o6 (O5.small w5.1) (O6.small w6.1) (O5.b9 w5) (O6.b9 w6) b e n11 t11
  rw [O5.less O6, e2] at V12
  refine ⟨n12, t12, fun s0 old rest s p p0 A => ?_⟩
  have L1 := lgetV (w := (Wf w b1 b2)) (st := stW (Wf w b1 b2)) g.le #[.str l0 a0, .str l1 a1] 0 0 (t + 1) (.str l0 a0) rfl (by omega)
  have L2 := lgetV (w := (Wf w b1 b2)) (st := stW (Wf w b1 b2)) g.le #[.str l0 a0, .str l1 a1] 0 0 t4 (.str l0 a0) rfl (by omega)
  obtain ⟨L, S, su, KK, N0, N1, N2, ka, kb, kc, ch, sh, bk, fi, se, le, na, re, wh, tx, lx, tp, wd, td, lo, up, ot, du, sz, hr, th, wi, mo, rs, op, lf, sp, wo⟩ := g
  subst hmo
  let C := ltC ⟨L, S, su, KK, N0, N1, N2, ka, kb, kc, ch, sh, bk, fi, se, le, na, re, wh, tx, lx, tp, wd, td, lo, up, ot, du, sz, hr, th, wi, (Int.ofNat M, kM), rs, op, lf, sp, wo⟩ ((Wf w b1 b2)).params (lawF (Wf w b1 b2)) l0 a0 l1 a1 M kM n t ⟨k1, t1, o3, n2, t2, k3, t3, k4, t4, k5, t5, o4, n6, t6, n7, t7, k8, t8, o5, n9, t9, k10, t10, o6, n11, t11, n12, t12⟩
  have := seg_ok (w := (Wf w b1 b2)) (st := stW (Wf w b1 b2)) (body := bodyOf (lawF (Wf w b1 b2))) (seg := ((bodyOf (lawF (Wf w b1 b2))).drop 22).take 2) (env := lawEnv (lawF (Wf w b1 b2)) L) 700 761446181105250919002148509229842133351396111064842424644010699086261540638153941072488789430476349647509788421302954443547103634815030955115302592004891509462471565378023970996624804074664401296158864025460686377840652496961664 C.ss (pre := C.pre) (n := n) (t := t) (fl := .next) (e := C.e) (allx_cons (L1.x) (allx_cons (V1.x) (allx_cons (V2.x) (allx_cons (V3.x) (allx_cons (V4.x) (allx_cons (L2.x) (allx_cons (V5.x) (allx_cons (V6.x) (allx_cons (V7.x) (allx_cons (V8.x) (allx_cons (V9.x) (allx_cons (V10.x) (allx_cons (V11.x) (allx_cons (V12.x) allx_nil)))))))))))))) rfl rfl (fun p q => by
    clear V1 V2 V3 V4 V5 V6 V7 V8 V9 V10 V11 V12 L1 L2
    (generalize b1 = c1; generalize b2 = c2; revert c1 c2; refine split2 ?_ ?_ ?_ ?_ <;> kernel_rfl)) A p p0
  exact this
end
end
end Mine

namespace Mine
section
open PySem PySem.W Sem
noncomputable abbrev fwX (L : Addr) (R : List Row) (ep : Nat) (b : List Stmt) (e : Env) (n t n' t' : Nat) (y : Str) (k : Tok) (o : Obj) : XS :=
  mkx (.call (.ref 94) ⟨[.ref L], []⟩) none (lawCds b e) n t [[(L, lstO (rowA R) ep)], [(89, fldO [])], rowsE R] ⟨.ok (.ret (.str y k)), n', t', [[(L, lstO (rowA R) ep)], [(89, o)], rowsE R], []⟩
noncomputable abbrev joinX (l : Addr) (xs : List (Str × Tok)) (ep : Nat) (a : Tok) (n t : Nat) (y : Str) (k : Tok) (t' : Nat) : Mine.Spec := ⟨.builtin "str.join" ⟨[.str ⟨#[]⟩ a, .ref l], []⟩, none, some (n, t), [(l, lstO (strVs xs) ep)], fun _ _ => ⟨.ok (.ret (.str y k)), n, t', [lstO (strVs xs) ep], []⟩⟩
noncomputable def lexN2 (P : Params) (lex : FuncData) (n C T q : Nat) (line : Int) (lk : Tok) (cs : List (Nat × Tok)) (ep : Nat) : List Ent := lexE2 P lex (lx2 n C) (K2 T q) line lk (tapeA cs) ep ++ [((lx2 n C).PB, lstO #[] 0)]
noncomputable def tapS (r : List (Nat × Tok)) : List (Str × Tok) := r.map fun c => (⟨#[c.1]⟩, c.2)
structure RdD where
  t1 : Nat
  y : Str
  k1 : Tok
  o : Obj
  T : Nat
  cs : List (Nat × Tok)
  a : Wd
  lf : Str
  k5 : Tok
  t5 : Nat
noncomputable def rdL (g : Lv) (n : Nat) (d : RdD) : Lv := { (((g.kn 23 (d.T + 29)).kn 24 d.a.t).kn 25 d.t5) with rs := n + 19, op := (d.a.y, d.a.k), lf := (d.lf, d.k5) }
noncomputable def rdC (g : Lv) (P : Params) (f lex : FuncData) (R : List Row) (er C q : Nat) (a0 : Value) (more : List Value) (n t : Nat) (d : RdD) : ConX :=
  let b := bodyOf f
  let e := lawEnv f g.L
  ⟨.func b e, [.builtin "claim.caller" {}], n, t, [g.frL P 23, [(g.L + 3, cellN)], [(g.wi, lstO (rowA R) er)], [(89, fldO [])], rowsE R, [(189, fldO [.int 161 0, .int 18 0, .ref C])], [(C, lamC a0 q more)]],
    ⟨.ok .next, d.a.n + 2, d.t5 + 1, [(rdL g n d).frL P 26, [(g.L + 3, cellO (.ref (n + 27)))], [(g.wi, lstO (rowA R) er)], [(89, d.o)], rowsE R, [(189, fldO [.int 161 0, .int 18 0, .ref C])], [(C, lamC a0 q more)]], sing (lexN2 P lex (n + 12) C d.T q d.a.line d.a.lk d.a.r d.a.ep)⟩,
    [fwX g.wi R er b e n t (n + 12) d.t1 d.y d.k1 d.o,
     (mk (lexC d.y d.k1) none (lawCds b e) (n + 12) d.t1 [(189, fldO [.int 161 0, .int 18 0, .ref C])] ⟨.ok (.ret (.ref (n + 30))), n + 31, d.T + 29, [fldO [.int 161 0, .int 18 0, .ref C]], lexN2 P lex (n + 12) C d.T q 1 (d.T + 19) d.cs 0 ++ [(n + 30, tupO [.ref (n + 27), .ref (n + 19)])]⟩).x,
     (tokX P lex (lx2 (n + 12) C) (K2 d.T q) a0 more (.law b e) (n + 34) (d.T + 30) 1 (d.T + 19) d.cs 0 0 d.a.y d.a.k d.a.n d.a.t d.a.line d.a.lk d.a.r d.a.ep).x,
     (lslS (n + 19) d.a.n (tapeA d.a.r) d.a.ep .none .none (.int (-1) (d.a.t + 3)) (strVs (tapS d.a.r))).x,
     (joinX (d.a.n + 1) (tapS d.a.r) 0 (d.a.t + 1) (d.a.n + 2) (d.a.t + 4) d.lf d.k5 d.t5).x]⟩
end
end Mine

namespace Mine
section
open PySem PySem.W Sem
theorem cat_tapS : ∀ (r : List (Nat × Tok)), cat (tapS r) = r.map (·.1)
  | [] => rfl
  | x :: r => by
    show [x.1] ++ cat (tapS r) = _
    rw [cat_tapS r]; rfl
theorem tape_list : ∀ (r : List (Nat × Tok)), (tapeA r).toList.reverse = strValues (tapS r)
  | [] => rfl
  | x :: r => by
    show ((tapeA r).push _).toList.reverse = _
    rw [Array.toList_push, List.reverse_append, tape_list r]
    rfl
theorem rev_tape (r : List (Nat × Tok)) : slicePick (tapeA r) none none (some (-1)) = strVs (tapS r) := by
  rw [krv_pick]
  apply Array.ext'
  show (tapeA r).toList.reverse = (strValues (tapS r)).toArray.toList
  rw [tape_list]
section
variable (w : World) (b1 b2 : Bool)
theorem stmt24 (g : Lv) (R : List Row) (er C q : Nat) (a0 : Value) (more : List Value) (n t : Nat) (hR : R.length ≤ 6) (hd : ∀ r ∈ R, r.2.1.1 < 10) (ba : Bool) (ya : Str) (la : Int) (rl : List Nat)
    (ha : ascii ⟨⟨fwL (R.map fun r => r.2.1.1)⟩⟩ = true) (hz : (fwL (R.map fun r => r.2.1.1)).length < 1000) (hsc : ∀ k, ∃ ra, scanA (num (fwL (R.map fun r => r.2.1.1)) k) 1 = some (ba, ya, ra, la) ∧ ra.map (·.1) = rl) (hrl : rl.length < 1000) :
    ∃ d : RdD, (d.a.y = ya ∧ d.a.line = la ∧ d.a.r.map (·.1) = rl ∧ d.lf = ⟨⟨rl⟩⟩ ∧ ∃ l, d.o = fldO l) ∧ Step (Wf w b1 b2) g.L 24 3 ([g.frL ((Wf w b1 b2)).params 23, [(g.L + 3, cellN)], [(g.wi, lstO (rowA R) er)], [(89, fldO [])], rowsE R, [(189, fldO [.int 161 0, .int 18 0, .ref C])], [(C, lamC a0 q more)]]) (([(rdL g n d).frL ((Wf w b1 b2)).params 26, [(g.L + 3, cellO (.ref (n + 27)))], [(g.wi, lstO (rowA R) er)], [(89, d.o)], rowsE R, [(189, fldO [.int 161 0, .int 18 0, .ref C])], [(C, lamC a0 q more)]] ++ sing (lexN2 ((Wf w b1 b2)).params (lexF (Wf w b1 b2)) (n + 12) C d.T q d.a.line d.a.lk d.a.r d.a.ep))) n t (d.a.n + 2) (d.t5 + 1) := by
  have hsl : sizeLine = 16777216 := rfl
  obtain ⟨t1, k1, o, ho, V1⟩ := formatV w b1 b2 g.wi R er (bodyOf (lawF (Wf w b1 b2))) (lawEnv (lawF (Wf w b1 b2)) g.L) n t hR hd
  generalize fwL (R.map fun r => r.2.1.1) = Y at *
  have V2 := lexer2V w b1 b2 (bodyOf (lawF (Wf w b1 b2))) (lawEnv (lawF (Wf w b1 b2)) g.L) ⟨⟨Y⟩⟩ k1 (n + 12) t1 ha (by show Y.length < _; omega) C q
  obtain ⟨ra, hs, hra⟩ := hsc (t1 + 1)
  have hl : ra.length < 1000 := by rw [← hra, List.length_map] at hrl; exact hrl
  have hcl := num_len Y (t1 + 1)
  unfold lexer2S lexer2 at V2
  have eY : (⟨⟨Y⟩⟩ : Str).cps.toList = Y := rfl
  rw [eY] at V2
  generalize num Y (t1 + 1) = cs at *
  generalize t1 + 1 + Y.length = T at *
  obtain ⟨n3, t3, k3, lk3, e3, V3⟩ := getTok w b1 b2 (lx2 (n + 12) C) (K2 T q) a0 more (.law (bodyOf (lawF (Wf w b1 b2))) (lawEnv (lawF (Wf w b1 b2)) g.L)) cs 1 ba ya ra la hs (by omega) (n + 34) (T + 30) (T + 19) 0 0
  have V4 := lslV (w := (Wf w b1 b2)) (st := stW (Wf w b1 b2)) (n + 19) n3 (tapeA ra) e3 .none .none (.int (-1) (t3 + 3)) (strVs (tapS ra)) (lo := none) (hi := none) (sp := some (-1)) IsPart.none IsPart.none (IsPart.int _ _) (by simp) (rev_tape ra) (by rw [tapeA_size]; omega)
  have hcat : (cat (tapS ra)).length ≤ sizeLine := by rw [cat_tapS, List.length_map]; omega
  obtain ⟨k5, t5, V5⟩ := join_give (w := (Wf w b1 b2)) (st := stW (Wf w b1 b2)) (n3 + 1) (tapS ra) 0 (t3 + 1) (n3 + 2) (t3 + 4) (join_ok hcat) hcat
  rw [cat_tapS, hra] at V5
  let d : RdD := ⟨t1, ⟨⟨Y⟩⟩, k1, o, T, cs, ⟨ya, k3, n3, t3, la, lk3, ra, e3⟩, ⟨⟨rl⟩⟩, k5, t5⟩
  refine ⟨d, ⟨rfl, rfl, hra, rfl, ho⟩, fun s0 old rest s p p0 A => ?_⟩
  let CC := rdC g ((Wf w b1 b2)).params (lawF (Wf w b1 b2)) (lexF (Wf w b1 b2)) R er C q a0 more n t d
  have := seg_ok (w := (Wf w b1 b2)) (st := stW (Wf w b1 b2)) (body := bodyOf (lawF (Wf w b1 b2))) (seg := ((bodyOf (lawF (Wf w b1 b2))).drop 24).take 3) (env := lawEnv (lawF (Wf w b1 b2)) g.L) 700 733088089215834785175437273490634204223303298898162713667123075352908898887275320937912426407615289258021409900950980643258668388455897480568470210210492599628072568133727733156693674830554141544337597526473821585184552851372785664 CC.ss (pre := CC.pre) (n := n) (t := t) (fl := .next) (e := CC.e) (allx_cons (V1) (allx_cons (V2.x) (allx_cons (V3.x) (allx_cons (V4.x) (allx_cons (V5.x) allx_nil))))) rfl rfl (fun p q => by
    clear V1 V2 V3 V4 V5
    (generalize b1 = c1; generalize b2 = c2; revert c1 c2; refine split2 ?_ ?_ ?_ ?_ <;> kernel_rfl)) A p p0
  exact this
end
end
end Mine

namespace Mine
section
open PySem PySem.W Sem
structure SkG where
  g : Lv
  it : Addr
  acc : Addr
  loc : Addr
  rd : Addr
  n2 : Nat
  C : Nat
  T : Nat
  q : Nat
  a0 : Value
  more : List Value
noncomputable def SkG.cells (G : SkG) : List (Str × Addr) := [("reader", G.g.L + 3)]
noncomputable def SkG.loop (G : SkG) (f : FuncData) : Code := .compLoop (lawComp f 27) 0 (.ref G.it) (.ref G.acc) (compEnv2 (lawComp f 27) G.g.L G.loc G.cells)
noncomputable def SkG.B (G : SkG) (f : FuncData) : Bs := compB (lawComp f 27) G.g.L G.it G.acc G.loc G.cells (bodyOf f) (lawEnv f G.g.L)
noncomputable def SkG.lots (G : SkG) (P : Params) (lex : FuncData) (p1 p2 p3 : Obj) (line : Int) (lk : Tok) (cs : List (Nat × Tok)) (ep : Nat) : List Ent :=
  [(G.it, p1), (G.acc, p2), (G.loc, p3), (G.g.L + 3, cellO (.ref (lx2 G.n2 G.C).L))] ++ lexP P lex (lx2 G.n2 G.C) (K2 G.T G.q) G.a0 G.more line lk cs ep 0
noncomputable def SkG.at (G : SkG) (P : Params) (f lex : FuncData) (n t x left : Nat) (ys : List (Str × Tok)) (e2 : Nat) (fs : Option (Tok × Value)) (line : Int) (lk : Tok) (cs : List (Nat × Tok)) (ep : Nat) (e : Eff) : Mine.Spec :=
  Mine.mk (G.loop f) none (lawCds (bodyOf f) (lawEnv f G.g.L)) n t (G.lots P lex (ritO x left) (lstO (strVs ys) e2) (oneO P "_" fs) line lk cs ep) e
noncomputable def skEff (G : SkG) (P : Params) (lex : FuncData) (en et : Nat) (p1 p2 p3 : Obj) (line : Int) (lk : Tok) (cs : List (Nat × Tok)) (ep : Nat) : Eff := ⟨.ok .next, en, et, objs (G.lots P lex p1 p2 p3 line lk cs ep), []⟩
noncomputable def skTurnC (G : SkG) (P : Params) (f lex : FuncData) (n t x left : Nat) (ys : List (Str × Tok)) (e2 : Nat) (fs : Option (Tok × Value)) (line : Int) (lk : Tok) (cs : List (Nat × Tok)) (ep : Nat) (a : Wd) (E : Eff) : Con :=
  ⟨G.loop f, lawCds (bodyOf f) (lawEnv f G.g.L), n, t, G.lots P lex (ritO x (left + 1)) (lstO (strVs ys) e2) (oneO P "_" fs) line lk cs ep, E,
    [rnextS G.it x left, tokX P lex (lx2 G.n2 G.C) (K2 G.T G.q) G.a0 G.more (G.B f) n (t + 2) line lk cs ep 0 a.y a.k a.n a.t a.line a.lk a.r a.ep, appS' G.acc (strVs ys) e2 (.str a.y a.k) (strVs (ys ++ [(a.y, a.k)])),
      G.at P f lex a.n a.t (x + 1) left (ys ++ [(a.y, a.k)]) (e2 + 1) (some (kOf fs (t + 1), .int (Int.ofNat x) t)) a.line a.lk a.r a.ep E]⟩
noncomputable def skEndC (G : SkG) (P : Params) (f lex : FuncData) (n t x : Nat) (ys : List (Str × Tok)) (e2 : Nat) (fs : Option (Tok × Value)) (line : Int) (lk : Tok) (cs : List (Nat × Tok)) (ep : Nat) : Con :=
  ⟨G.loop f, lawCds (bodyOf f) (lawEnv f G.g.L), n, t, G.lots P lex (ritO x 0) (lstO (strVs ys) e2) (oneO P "_" fs) line lk cs ep, skEff G P lex (n + 2) t (ritO x 0) (lstO (strVs ys) e2) (oneO P "_" fs) line lk cs ep, []⟩
noncomputable def skL (g : Lv) (n t' : Nat) : Lv := { (g.kn 26 t') with sp := n + 2 }
noncomputable def skC (g : Lv) (P : Params) (f lex : FuncData) (n2 C T q : Nat) (a0 : Value) (more : List Value) (ch : List (Nat × Tok)) (epc : Nat) (n t : Nat) (line : Int) (lk : Tok) (cs : List (Nat × Tok)) (ep : Nat) (n' t' x' : Nat) (ys : List (Str × Tok)) (e2 : Nat) (fs : Option (Tok × Value)) (line' : Int) (lk' : Tok) (cs' : List (Nat × Tok)) (ep' : Nat) : ConX :=
  let G : SkG := ⟨g, n + 1, n + 2, n + 3, 0, n2, C, T, q, a0, more⟩
  let rl := fun line lk cs ep => sing ((g.L + 3, cellO (.ref (lx2 n2 C).L)) :: lexP P lex (lx2 n2 C) (K2 T q) a0 more line lk cs ep 0)
  ⟨.func (bodyOf f) (lawEnv f g.L), [.builtin "claim.caller" {}], n, t, [g.frL P 26, [(g.ch, lstO (natA ch) epc)]] ++ rl line lk cs ep,
    ⟨.ok .next, n', t' + 1, [(skL g n t').frL P 27, [(g.ch, lstO (natA ch) epc)]] ++ rl line' lk' cs' ep', [[(n + 2, lstO (strVs ys) e2)]]⟩,
    [(lenS g.ch (natA ch) epc ch.length).x, (riterS n 0 (t + 4) (ch.length + 3) (t + 3) (t + 5)).x,
     (G.at P f lex (n + 4) (t + 6) 0 (ch.length + 3) [] 0 none line lk cs ep (skEff G P lex n' t' (ritO x' 0) (lstO (strVs ys) e2) (oneO P "_" fs) line' lk' cs' ep')).x]⟩
end
end Mine

namespace Mine
section
open PySem PySem.W Sem
/-- the words that come one behind the other -/
noncomputable def scanW : Nat → List (Nat × Tok) → Int → List Str → Prop
  | 0, _, _, ws => ws = []
  | k + 1, cs, line, ws => ∃ b y r l ws', scanA cs line = some (b, y, r, l) ∧ cs.length < 800000 ∧ ws = y :: ws' ∧ scanW k r l ws'
theorem strVs_push (l : List (Str × Tok)) (y : Str) (k : Tok) : (strVs l).push (.str y k) = strVs (l ++ [(y, k)]) := by
  apply Array.ext'
  rw [Array.toList_push]
  simp [strVs, strValues]

section
variable (w : World) (b1 b2 : Bool)
theorem sk_loop (G : SkG) : ∀ (left x : Nat) (ys : List (Str × Tok)) (e2 : Nat) (fs : Option (Tok × Value)) (line : Int) (lk : Tok) (cs : List (Nat × Tok)) (ep n t : Nat) (ws : List Str), scanW left cs line ws → ys.length + left ≤ 1000 → (0 < left ∨ fs.isSome = true) →
    ∃ (n' t' x' : Nat) (ys' : List (Str × Tok)) (e2' : Nat) (fs' : Tok × Value) (line' : Int) (lk' : Tok) (cs' : List (Nat × Tok)) (ep' : Nat), ys'.map (·.1) = ys.map (·.1) ++ ws ∧
      (G.at ((Wf w b1 b2)).params (lawF (Wf w b1 b2)) (lexF (Wf w b1 b2)) n t x left ys e2 fs line lk cs ep (skEff G ((Wf w b1 b2)).params (lexF (Wf w b1 b2)) n' t' (ritO x' 0) (lstO (strVs ys') e2') (oneO ((Wf w b1 b2)).params "_" (some fs')) line' lk' cs' ep')).Valid (model prog (Wf w b1 b2)) (stW (Wf w b1 b2)) := by
  intro left
  induction left with
  | zero =>
    intro x ys e2 fs line lk cs ep n t ws hw _ hfs
    rcases fs with _ | fs
    · simp at hfs
    have hw' : ws = [] := hw
    refine ⟨n + 2, t, x, ys, e2, fs, line, lk, cs, ep, by rw [hw']; simp, ?_⟩
    have V : (skEndC G ((Wf w b1 b2)).params (lawF (Wf w b1 b2)) (lexF (Wf w b1 b2)) n t x ys e2 (some fs) line lk cs ep).sp.Valid (model prog (Wf w b1 b2)) (stW (Wf w b1 b2)) := by
      refine Con.valid _ 300 18250966372410206799446430735650023006027777 all_nil rfl ?_
      intro p q
      rcases fs with ⟨kf, vf⟩
      (generalize b2 = c2; revert c2; refine split1 ?_ ?_ <;> kernel_rfl)
    exact V
  | succ left ih =>
    intro x ys e2 fs line lk cs ep n t ws hw hz _
    have hsl : sizeLine = 16777216 := rfl
    obtain ⟨b, y, r, l, ws', hs, hcl, hws, hw'⟩ := hw
    obtain ⟨n1, t1, k1, lk1, e1, V2⟩ := getTok w b1 b2 (lx2 G.n2 G.C) (K2 G.T G.q) G.a0 G.more (G.B (lawF (Wf w b1 b2))) cs line b y r l hs hcl n (t + 2) lk ep 0
    have V1 := rnextV (w := (Wf w b1 b2)) (st := stW (Wf w b1 b2)) G.it x left
    have V3 := appV' (w := (Wf w b1 b2)) (st := stW (Wf w b1 b2)) G.acc (strVs ys) e2 (.str y k1) _ (strVs_push ys y k1) (by rw [strVs_size]; omega)
    obtain ⟨n', t', x', ys', e2', fs', line', lk', cs', ep', h1, V⟩ := ih (x + 1) (ys ++ [(y, k1)]) (e2 + 1) (some (kOf fs (t + 1), .int (Int.ofNat x) t)) l lk1 r e1 n1 t1 ws' hw' (by rw [List.length_append]; show _ + 1 + left ≤ _; omega) (.inr rfl)
    refine ⟨n', t', x', ys', e2', fs', line', lk', cs', ep', by rw [h1, hws]; simp, ?_⟩
    have key : (skTurnC G ((Wf w b1 b2)).params (lawF (Wf w b1 b2)) (lexF (Wf w b1 b2)) n t x left ys e2 fs line lk cs ep ⟨y, k1, n1, t1, l, lk1, r, e1⟩ (skEff G ((Wf w b1 b2)).params (lexF (Wf w b1 b2)) n' t' (ritO x' 0) (lstO (strVs ys') e2') (oneO ((Wf w b1 b2)).params "_" (some fs')) line' lk' cs' ep')).sp.Valid (model prog (Wf w b1 b2)) (stW (Wf w b1 b2)) := by
      cases fs with
      | none =>
        refine Con.valid _ 400 9517536026488447844504754683364477557321757946871479557207233409675667810072468975691799001947705019843552669637521103878478943035080705 (all_cons (V1) (all_cons (V2) (all_cons (V3) (all_cons (V) all_nil)))) rfl ?_
        intro p q
        clear V1 V2 V3 V
        (generalize b2 = c2; revert c2; refine split1 ?_ ?_ <;> kernel_rfl)
      | some fs =>
        refine Con.valid _ 400 9517536026488447844504754683364477557321757946871479557207233409675667810072468975691799001947705019843552669637521103878478943035080705 (all_cons (V1) (all_cons (V2) (all_cons (V3) (all_cons (V) all_nil)))) rfl ?_
        intro p q
        clear V1 V2 V3 V
        (generalize b2 = c2; revert c2; refine split1 ?_ ?_ <;> kernel_rfl)
    exact key
noncomputable def rdrL (L : Addr) (P : Params) (lex : FuncData) (n2 C T q : Nat) (a0 : Value) (more : List Value) (line : Int) (lk : Tok) (cs : List (Nat × Tok)) (ep : Nat) : List (List Ent) := sing ((L + 3, cellO (.ref (n2 + 15))) :: lexP P lex (lx2 n2 C) (K2 T q) a0 more line lk cs ep 0)
theorem stmt27 (g : Lv) (n2 C T q : Nat) (a0 : Value) (more : List Value) (ch : List (Nat × Tok)) (epc n t : Nat) (line : Int) (lk : Tok) (cs : List (Nat × Tok)) (ep : Nat) (ws : List Str) (hw : scanW (ch.length + 3) cs line ws) (hch : ch.length ≤ 6) :
    ∃ (n' t' : Nat) (ys : List (Str × Tok)) (e2 : Nat) (line' : Int) (lk' : Tok) (cs' : List (Nat × Tok)) (ep' : Nat), ys.map (·.1) = ws ∧ Step (Wf w b1 b2) g.L 27 1 (([g.frL ((Wf w b1 b2)).params 26, [(g.ch, lstO (natA ch) epc)]] ++ rdrL g.L ((Wf w b1 b2)).params (lexF (Wf w b1 b2)) n2 C T q a0 more line lk cs ep)) ((([(skL g n t').frL ((Wf w b1 b2)).params 27, [(g.ch, lstO (natA ch) epc)]] ++ rdrL g.L ((Wf w b1 b2)).params (lexF (Wf w b1 b2)) n2 C T q a0 more line' lk' cs' ep') ++ [[(n + 2, lstO (strVs ys) e2)]])) n t n' (t' + 1) := by
  have hsl : sizeLine = 16777216 := rfl
  let G : SkG := ⟨g, n + 1, n + 2, n + 3, 0, n2, C, T, q, a0, more⟩
  obtain ⟨n', t', x', ys, e2, fs, line', lk', cs', ep', h1, V⟩ := sk_loop w b1 b2 G (ch.length + 3) 0 [] 0 none line lk cs ep (n + 4) (t + 6) ws hw (by show 0 + _ ≤ _; omega) (.inl (by omega))
  refine ⟨n', t', ys, e2, line', lk', cs', ep', h1, fun s0 old rest s p p0 A => ?_⟩
  have V1 := lenV (w := (Wf w b1 b2)) (st := stW (Wf w b1 b2)) g.ch (natA ch) epc ch.length (natA_size _) (by omega)
  have V2 := riterV (w := (Wf w b1 b2)) (st := stW (Wf w b1 b2)) n 0 (t + 4) (ch.length + 3) (t + 3) (t + 5) (by decide) (by omega)
  let CC := skC g ((Wf w b1 b2)).params (lawF (Wf w b1 b2)) (lexF (Wf w b1 b2)) n2 C T q a0 more ch epc n t line lk cs ep n' t' x' ys e2 (some fs) line' lk' cs' ep'
  have := seg_ok (w := (Wf w b1 b2)) (st := stW (Wf w b1 b2)) (body := bodyOf (lawF (Wf w b1 b2))) (seg := ((bodyOf (lawF (Wf w b1 b2))).drop 27).take 1) (env := lawEnv (lawF (Wf w b1 b2)) g.L) 700 (bif b1 then 319304336883350672014156656224235554989773665033172869175616098055508074267543314191578758655484778894661394844254300996108288 else 1404315324810196688077235494403897908512243205897765097701127804722773179556638117243805169912117928210660957999905199990028755638933258240) CC.ss (pre := CC.pre) (n := n) (t := t) (fl := .next) (e := CC.e) (allx_cons (V1.x) (allx_cons (V2.x) (allx_cons (V.x) allx_nil))) rfl rfl (fun p q => by
    clear V1 V2 V
    rcases fs with ⟨kf, vf⟩
    (generalize b1 = c1; generalize b2 = c2; revert c1 c2; refine split2 ?_ ?_ ?_ ?_ <;> kernel_rfl)) A p p0
  exact this
end
end
end Mine

namespace Mine
section
open PySem PySem.W Sem
noncomputable def ext29 (f : FuncData) : Expr × Expr := match (bodyOf f).getD 29 default with
  | .Expr (.Call _ ((.BinOp (.BinOp a _ b _) _ _ _) :: _) _ _) _ => (a, b)
  | _ => (default, default)
noncomputable def dg (x : Nat) : Str := ⟨#[48 + x]⟩
structure WqG where
  L : Addr
  it : Addr
  l : Addr
  acc : Addr
  loc : Addr
  xs : List (Nat × Tok)
noncomputable def WqG.code (G : WqG) (lc : Expr) : Code := .compLoop lc 0 (.ref G.it) (.ref G.acc) (compEnv2 lc G.L G.loc [])
noncomputable def WqG.pre (G : WqG) (P : Params) (i : Nat) (ys : List (Str × Tok)) (e2 : Nat) (fs : Option (Tok × Value)) : List Ent := [(G.it, litO G.l i), (G.l, lstO (natA G.xs) 0), (G.acc, lstO (strVs ys) e2), (G.loc, oneO P "size" fs)]
noncomputable def WqG.cds (G : WqG) (f : FuncData) : List Code := lawCds (bodyOf f) (lawEnv f G.L)
noncomputable def WqG.at (G : WqG) (P : Params) (f : FuncData) (lc : Expr) (n t i : Nat) (ys : List (Str × Tok)) (e2 : Nat) (fs : Option (Tok × Value)) (e : Eff) : Mine.Spec := Mine.mk (G.code lc) none (G.cds f) n t (G.pre P i ys e2 fs) e
noncomputable def wqAC (G : WqG) (P : Params) (f : FuncData) (n t i : Nat) (ys : List (Str × Tok)) (e2 : Nat) (fs : Option (Tok × Value)) (x : Nat × Tok) (E : Eff) : Con :=
  ⟨G.code (ext29 f).1, G.cds f, n, t, G.pre P i ys e2 fs, E, [lnextS G.it G.l (natA G.xs) 0 i (.int (Int.ofNat x.1) x.2), reprS x.1 x.2, addS (dg x.1) (t + 1) ⟨#[44]⟩ (t + 2), appS' G.acc (strVs ys) e2 (.str (dg x.1 ++ ⟨#[44]⟩) (t + 3)) (strVs (ys ++ [(dg x.1 ++ ⟨#[44]⟩, t + 3)])),
    G.at P f (ext29 f).1 n (t + 4) (i + 1) (ys ++ [(dg x.1 ++ ⟨#[44]⟩, t + 3)]) (e2 + 1) (some (kOf fs t, .int (Int.ofNat x.1) x.2)) E]⟩
noncomputable def wqBC (G : WqG) (P : Params) (f : FuncData) (n t i : Nat) (ys : List (Str × Tok)) (e2 : Nat) (fs : Option (Tok × Value)) (x : Nat × Tok) (E : Eff) : Con :=
  ⟨G.code (ext29 f).2, G.cds f, n, t, G.pre P i ys e2 fs, E, [lnextS G.it G.l (natA G.xs) 0 i (.int (Int.ofNat x.1) x.2), reprS x.1 x.2, appS' G.acc (strVs ys) e2 (.str (dg x.1) (t + 1)) (strVs (ys ++ [(dg x.1, t + 1)])),
    G.at P f (ext29 f).2 n (t + 2) (i + 1) (ys ++ [(dg x.1, t + 1)]) (e2 + 1) (some (kOf fs t, .int (Int.ofNat x.1) x.2)) E]⟩
noncomputable def wqEff (G : WqG) (P : Params) (en et i : Nat) (ys : List (Str × Tok)) (e2 : Nat) (fs : Option (Tok × Value)) : Eff := ⟨.ok .next, en, et, [litX i, lstO (natA G.xs) 0, lstO (strVs ys) e2, oneO P "size" fs], []⟩
noncomputable def wqEC (G : WqG) (P : Params) (f : FuncData) (lc : Expr) (n t i : Nat) (ys : List (Str × Tok)) (e2 : Nat) (fs : Option (Tok × Value)) : Con :=
  ⟨G.code lc, G.cds f, n, t, G.pre P i ys e2 fs, wqEff G P (n + 2) t i ys e2 fs, [lendS (G.code lc :: G.cds f) G.it G.l (natA G.xs) 0 i]⟩
/-- the words that are due -/
structure WqD where
  ca : List (Nat × Tok)
  cb : List (Nat × Tok)
  i1 : Nat
  ys1 : List (Str × Tok)
  fs1 : Option (Tok × Value)
  i2 : Nat
  ys2 : List (Str × Tok)
  fs2 : Option (Tok × Value)
  e3 : Nat
  sp : List (Str × Tok)
  e4 : Nat
noncomputable def wqH (r : Bool) (t : Nat) : List (Str × Tok) := [("tab", t), (bif r then "sizes" else "size", t + 4)]
noncomputable def wqT1 (t : Nat) (d : WqD) : Nat := t + 8 + 4 * d.ca.length
noncomputable def wqW (r : Bool) (t : Nat) (d : WqD) : List (Str × Tok) := wqH r t ++ ((d.ys1 ++ d.ys2) ++ [(⟨#[]⟩, wqT1 t d + 2 + 2 * d.cb.length)])
noncomputable def wqL (g : Lv) (n t : Nat) : Lv := { (g.kn 27 (t + 5)) with wo := n }
noncomputable def wqC (g : Lv) (P : Params) (f : FuncData) (ch : List (Nat × Tok)) (epc : Nat) (r : Bool) (n t : Nat) (d : WqD) : ConX :=
  let t1 := wqT1 t d
  let t2 := t1 + 2 + 2 * d.cb.length
  let A : WqG := ⟨g.L, n + 3, n + 2, n + 4, n + 5, d.ca⟩
  let B : WqG := ⟨g.L, n + 10, n + 9, n + 11, n + 12, d.cb⟩
  ⟨.func (bodyOf f) (lawEnv f g.L), [.builtin "claim.caller" {}], n, t, [g.frL P 27, [(g.ch, lstO (natA ch) epc)], [(g.sp, lstO (strVs d.sp) d.e4)]],
    ⟨.ok .next, n + 18, t2 + 2, [(wqL g n t).frL P 28, [(g.ch, lstO (natA ch) epc)], [(g.sp, lstO (strVs d.sp) d.e4)]], []⟩,
    [(lenS g.ch (natA ch) epc ch.length).x, (gtS (Int.ofNat ch.length) (t + 2) 1 (t + 3) r).x, (lslS g.ch (n + 1) (natA ch) epc .none (.int (-1) (t + 7)) .none (natA d.ca)).x,
     (A.at P f (ext29 f).1 (n + 6) (t + 8) 0 [] 0 none (wqEff A P (n + 8) t1 d.i1 d.ys1 d.ca.length d.fs1)).x,
     (lslS g.ch (n + 8) (natA ch) epc (.int (-1) (t1 + 1)) .none .none (natA d.cb)).x,
     (B.at P f (ext29 f).2 (n + 13) (t1 + 2) 0 [] 0 none (wqEff B P (n + 15) t2 d.i2 d.ys2 d.cb.length d.fs2)).x,
     (laddS' (n + 4) (n + 11) (strVs d.ys1) d.ca.length (strVs d.ys2) d.cb.length (strVs (d.ys1 ++ d.ys2))).x, (laddS' (n + 15) (n + 16) (strVs (d.ys1 ++ d.ys2)) 0 (strVs [(⟨#[]⟩, t2)]) 0 (strVs ((d.ys1 ++ d.ys2) ++ [(⟨#[]⟩, t2)]))).x,
     (lextS n (n + 17) (strVs (wqH r t)) 0 (strVs ((d.ys1 ++ d.ys2) ++ [(⟨#[]⟩, t2)])) 0 (strVs (wqW r t d)) d.e3).x,
     (neS g.op.1 g.op.2 "at" (t2 + 1) false).x, (lneS g.sp n (strVs d.sp) (strVs (wqW r t d)) d.e4 d.e3 false).x]⟩
end
end Mine

namespace Mine
section
open PySem PySem.W Sem
section
variable (w : World) (b1 b2 : Bool)
theorem wq_end (G : WqG) (bb : Bool) (n t i : Nat) (ys : List (Str × Tok)) (e2 : Nat) (fs : Option (Tok × Value)) (hn : G.xs[i]? = none) : (wqEC G ((Wf w b1 b2)).params (lawF (Wf w b1 b2)) (bif bb then (ext29 (lawF (Wf w b1 b2))).1 else (ext29 (lawF (Wf w b1 b2))).2) n t i ys e2 fs).sp.Valid (model prog (Wf w b1 b2)) (stW (Wf w b1 b2)) := by
  cases bb
  · refine Con.valid _ 300 4750181303575507910657 (all_cons (lendV _ _ _ _ _ _ (natVs_none hn)) all_nil) rfl ?_
    intro p q
    rcases fs with _ | ⟨kf, vf⟩ <;> (generalize b2 = c2; revert c2; refine split1 ?_ ?_ <;> kernel_rfl)
  · refine Con.valid _ 300 4750181303575507910657 (all_cons (lendV _ _ _ _ _ _ (natVs_none hn)) all_nil) rfl ?_
    intro p q
    rcases fs with _ | ⟨kf, vf⟩ <;> (generalize b2 = c2; revert c2; refine split1 ?_ ?_ <;> kernel_rfl)
theorem wq_loopA (G : WqG) (hx : ∀ c ∈ G.xs, c.1 < 10) : ∀ (rest : List (Nat × Tok)) (i : Nat) (ys : List (Str × Tok)) (e2 : Nat) (fs : Option (Tok × Value)) (n t : Nat), G.xs.drop i = rest → ys.length + rest.length ≤ 1000 →
    ∃ (i' : Nat) (ys' : List (Str × Tok)) (fs' : Option (Tok × Value)), ys'.map (·.1) = ys.map (·.1) ++ rest.map (fun c => dg c.1 ++ ⟨#[44]⟩) ∧
      (G.at ((Wf w b1 b2)).params (lawF (Wf w b1 b2)) (ext29 (lawF (Wf w b1 b2))).1 n t i ys e2 fs (wqEff G ((Wf w b1 b2)).params (n + 2) (t + 4 * rest.length) i' ys' (e2 + rest.length) fs')).Valid (model prog (Wf w b1 b2)) (stW (Wf w b1 b2)) := by
  intro rest
  induction rest with
  | nil =>
    intro i ys e2 fs n t hd _
    have hn : G.xs[i]? = none := List.getElem?_eq_none_iff.mpr (List.drop_eq_nil_iff.mp hd)
    exact ⟨i, ys, fs, by simp, wq_end w b1 b2 G true n t i ys e2 fs hn⟩
  | cons x rest ih =>
    intro i ys e2 fs n t hd hz
    have hsl : sizeLine = 16777216 := rfl
    have hz' : ys.length + (rest.length + 1) ≤ 1000 := hz
    have hs : G.xs[i]? = some x := by
      have := congrArg (fun l => l[0]?) hd
      simpa using this
    have hd' : G.xs.drop (i + 1) = rest := by
      have := congrArg List.tail hd
      simpa using this
    have V1 := lnextV (w := (Wf w b1 b2)) G.it G.l (natA G.xs) 0 i (.int (Int.ofNat x.1) x.2) (natA_get hs)
    have V2 := reprV (w := (Wf w b1 b2)) (st := stW (Wf w b1 b2)) x.1 x.2 (hx x (List.mem_of_getElem? hs))
    have V3 := addV (w := (Wf w b1 b2)) (st := stW (Wf w b1 b2)) (dg x.1) (t + 1) ⟨#[44]⟩ (t + 2) (by rfl) (by decide) (by show (2 : Nat) ≤ 16777216; decide)
    have V4 := appV' (w := (Wf w b1 b2)) (st := stW (Wf w b1 b2)) G.acc (strVs ys) e2 (.str (dg x.1 ++ ⟨#[44]⟩) (t + 3)) _ (strVs_push ys _ _) (by rw [strVs_size]; omega)
    obtain ⟨i', ys', fs', h1, V⟩ := ih (i + 1) (ys ++ [(dg x.1 ++ ⟨#[44]⟩, t + 3)]) (e2 + 1) (some (kOf fs t, .int (Int.ofNat x.1) x.2)) n (t + 4) hd' (by rw [List.length_append]; show _ + 1 + _ ≤ _; omega)
    refine ⟨i', ys', fs', by rw [h1]; simp, ?_⟩
    rw [show t + 4 * (x :: rest).length = t + 4 + 4 * rest.length by simp; omega, show e2 + (x :: rest).length = e2 + 1 + rest.length by simp; omega]
    have key : (wqAC G ((Wf w b1 b2)).params (lawF (Wf w b1 b2)) n t i ys e2 fs x (wqEff G ((Wf w b1 b2)).params (n + 2) (t + 4 + 4 * rest.length) i' ys' (e2 + 1 + rest.length) fs')).sp.Valid (model prog (Wf w b1 b2)) (stW (Wf w b1 b2)) := by
      refine Con.valid _ 400 227488489143971099414110480740109398849420087287743699055136515527379271681 (all_cons (V1) (all_cons (V2) (all_cons (V3) (all_cons (V4) (all_cons (V) all_nil))))) rfl ?_
      intro p q
      clear V1 V2 V3 V4 V
      rcases fs with _ | ⟨kf, vf⟩ <;> (generalize b2 = c2; revert c2; refine split1 ?_ ?_ <;> kernel_rfl)
    exact key
theorem wq_loopB (G : WqG) (hx : ∀ c ∈ G.xs, c.1 < 10) : ∀ (rest : List (Nat × Tok)) (i : Nat) (ys : List (Str × Tok)) (e2 : Nat) (fs : Option (Tok × Value)) (n t : Nat), G.xs.drop i = rest → ys.length + rest.length ≤ 1000 →
    ∃ (i' : Nat) (ys' : List (Str × Tok)) (fs' : Option (Tok × Value)), ys'.map (·.1) = ys.map (·.1) ++ rest.map (fun c => dg c.1) ∧
      (G.at ((Wf w b1 b2)).params (lawF (Wf w b1 b2)) (ext29 (lawF (Wf w b1 b2))).2 n t i ys e2 fs (wqEff G ((Wf w b1 b2)).params (n + 2) (t + 2 * rest.length) i' ys' (e2 + rest.length) fs')).Valid (model prog (Wf w b1 b2)) (stW (Wf w b1 b2)) := by
  intro rest
  induction rest with
  | nil =>
    intro i ys e2 fs n t hd _
    have hn : G.xs[i]? = none := List.getElem?_eq_none_iff.mpr (List.drop_eq_nil_iff.mp hd)
    exact ⟨i, ys, fs, by simp, wq_end w b1 b2 G false n t i ys e2 fs hn⟩
  | cons x rest ih =>
    intro i ys e2 fs n t hd hz
    have hsl : sizeLine = 16777216 := rfl
    have hz' : ys.length + (rest.length + 1) ≤ 1000 := hz
    have hs : G.xs[i]? = some x := by
      have := congrArg (fun l => l[0]?) hd
      simpa using this
    have hd' : G.xs.drop (i + 1) = rest := by
      have := congrArg List.tail hd
      simpa using this
    have V1 := lnextV (w := (Wf w b1 b2)) G.it G.l (natA G.xs) 0 i (.int (Int.ofNat x.1) x.2) (natA_get hs)
    have V2 := reprV (w := (Wf w b1 b2)) (st := stW (Wf w b1 b2)) x.1 x.2 (hx x (List.mem_of_getElem? hs))
    have V4 := appV' (w := (Wf w b1 b2)) (st := stW (Wf w b1 b2)) G.acc (strVs ys) e2 (.str (dg x.1) (t + 1)) _ (strVs_push ys _ _) (by rw [strVs_size]; omega)
    obtain ⟨i', ys', fs', h1, V⟩ := ih (i + 1) (ys ++ [(dg x.1, t + 1)]) (e2 + 1) (some (kOf fs t, .int (Int.ofNat x.1) x.2)) n (t + 2) hd' (by rw [List.length_append]; show _ + 1 + _ ≤ _; omega)
    refine ⟨i', ys', fs', by rw [h1]; simp, ?_⟩
    rw [show t + 2 * (x :: rest).length = t + 2 + 2 * rest.length by simp; omega, show e2 + (x :: rest).length = e2 + 1 + rest.length by simp; omega]
    have key : (wqBC G ((Wf w b1 b2)).params (lawF (Wf w b1 b2)) n t i ys e2 fs x (wqEff G ((Wf w b1 b2)).params (n + 2) (t + 2 + 2 * rest.length) i' ys' (e2 + 1 + rest.length) fs')).sp.Valid (model prog (Wf w b1 b2)) (stW (Wf w b1 b2)) := by
      refine Con.valid _ 400 13884795479978704798224516645341481291359194679235853285385889575354369 (all_cons (V1) (all_cons (V2) (all_cons (V4) (all_cons (V) all_nil)))) rfl ?_
      intro p q
      clear V1 V2 V4 V
      rcases fs with _ | ⟨kf, vf⟩ <;> (generalize b2 = c2; revert c2; refine split1 ?_ ?_ <;> kernel_rfl)
    exact key
theorem slA : ∀ (l : List (Nat × Tok)), l.length ≤ 6 → slicePick (natA l) none (some (-1)) none = natA l.dropLast
  | [], _ => by kernel_rfl
  | [_], _ => by kernel_rfl
  | [_, _], _ => by kernel_rfl
  | [_, _, _], _ => by kernel_rfl
  | [_, _, _, _], _ => by kernel_rfl
  | [_, _, _, _, _], _ => by kernel_rfl
  | [_, _, _, _, _, _], _ => by kernel_rfl
  | _ :: _ :: _ :: _ :: _ :: _ :: _ :: _, h => absurd h (by simp)
theorem slB : ∀ (l : List (Nat × Tok)), l.length ≤ 6 → slicePick (natA l) (some (-1)) none none = natA (l.drop (l.length - 1))
  | [], _ => by kernel_rfl
  | [_], _ => by kernel_rfl
  | [_, _], _ => by kernel_rfl
  | [_, _, _], _ => by kernel_rfl
  | [_, _, _, _], _ => by kernel_rfl
  | [_, _, _, _, _], _ => by kernel_rfl
  | [_, _, _, _, _, _], _ => by kernel_rfl
  | _ :: _ :: _ :: _ :: _ :: _ :: _ :: _, h => absurd h (by simp)
/-- the words that are due, of the sizes -/
noncomputable def dueH (r : Bool) : List Str := ["tab", bif r then "sizes" else "size"]
noncomputable def dueW (cs : List Nat) : List Str := dueH (decide (cs.length > 1)) ++ ((cs.dropLast.map (fun c => dg c ++ ⟨#[44]⟩) ++ (cs.drop (cs.length - 1)).map dg) ++ [⟨#[]⟩])
theorem stmt28 (g : Lv) (ch : List (Nat × Tok)) (epc : Nat) (sp : List (Str × Tok)) (e4 n t : Nat) (hch : ch.length ≤ 6) (hx : ∀ c ∈ ch, c.1 < 10) (hop : g.op.1 = "at") (hsp : sp.map (·.1) = dueW (ch.map (·.1))) :
    ∃ (n' t' : Nat), Step (Wf w b1 b2) g.L 28 3 ([g.frL ((Wf w b1 b2)).params 27, [(g.ch, lstO (natA ch) epc)], [(g.sp, lstO (strVs sp) e4)]]) (([(wqL g n t).frL ((Wf w b1 b2)).params 28, [(g.ch, lstO (natA ch) epc)], [(g.sp, lstO (strVs sp) e4)]] ++ [])) n t n' t' := by
  have hsl : sizeLine = 16777216 := rfl
  let A : WqG := ⟨g.L, n + 3, n + 2, n + 4, n + 5, ch.dropLast⟩
  let B : WqG := ⟨g.L, n + 10, n + 9, n + 11, n + 12, ch.drop (ch.length - 1)⟩
  have la : ch.dropLast.length ≤ 6 := by rw [List.length_dropLast]; omega
  have lb : (ch.drop (ch.length - 1)).length ≤ 6 := by rw [List.length_drop]; omega
  obtain ⟨i1, ys1, fs1, h1, VA⟩ := wq_loopA w b1 b2 A (fun c hc => hx c (List.dropLast_subset _ hc)) ch.dropLast 0 [] 0 none (n + 6) (t + 8) rfl (by show 0 + _ ≤ _; omega)
  obtain ⟨i2, ys2, fs2, h2, VB⟩ := wq_loopB w b1 b2 B (fun c hc => hx c (List.mem_of_mem_drop hc)) (ch.drop (ch.length - 1)) 0 [] 0 none (n + 13) (t + 8 + 4 * ch.dropLast.length + 2) rfl (by show 0 + _ ≤ _; omega)
  have z1 : ys1.length ≤ 6 := by have := congrArg List.length h1; simp at this; omega
  have z2 : ys2.length ≤ 6 := by have := congrArg List.length h2; simp at this; omega
  rw [Nat.zero_add] at VA VB
  generalize hr : decide (ch.length > 1) = r
  let d : WqD := ⟨ch.dropLast, ch.drop (ch.length - 1), i1, ys1, fs1, i2, ys2, fs2, extEp (strVs (wqH r t)) (strVs ((ys1 ++ ys2) ++ [(⟨#[]⟩, t + 8 + 4 * ch.dropLast.length + 2 + 2 * (ch.drop (ch.length - 1)).length)])) 0, sp, e4⟩
  refine ⟨n + 18, t + 8 + 4 * ch.dropLast.length + 2 + 2 * (ch.drop (ch.length - 1)).length + 2, fun s0 old rest s p p0 A' => ?_⟩
  have cat_ : ∀ a b : List (Str × Tok), strVs a ++ strVs b = strVs (a ++ b) := fun a b => by
    apply Array.ext'
    rw [Array.toList_append]
    simp [strVs, strValues]
  have W1 := lenV (w := (Wf w b1 b2)) (st := stW (Wf w b1 b2)) g.ch (natA ch) epc ch.length (natA_size _) (by omega)
  have W2 := gtV (w := (Wf w b1 b2)) (st := stW (Wf w b1 b2)) (Int.ofNat ch.length) (t + 2) 1 (t + 3) r (by rw [← hr]; simp; omega)
  have W3 := lslV (w := (Wf w b1 b2)) (st := stW (Wf w b1 b2)) g.ch (n + 1) (natA ch) epc .none (.int (-1) (t + 7)) .none (natA ch.dropLast) (lo := none) (hi := some (-1)) (sp := none) IsPart.none (IsPart.int _ _) IsPart.none (by simp) (slA ch hch) (by rw [natA_size]; omega)
  have W4 := lslV (w := (Wf w b1 b2)) (st := stW (Wf w b1 b2)) g.ch (n + 8) (natA ch) epc (.int (-1) (t + 8 + 4 * ch.dropLast.length + 1)) .none .none (natA (ch.drop (ch.length - 1))) (lo := some (-1)) (hi := none) (sp := none) (IsPart.int _ _) IsPart.none IsPart.none (by simp) (slB ch hch) (by rw [natA_size]; omega)
  have W5 := laddV' (w := (Wf w b1 b2)) (st := stW (Wf w b1 b2)) (n + 4) (n + 11) (strVs ys1) ch.dropLast.length (strVs ys2) (ch.drop (ch.length - 1)).length (strVs (ys1 ++ ys2)) (cat_ _ _) (by rw [strVs_size, strVs_size]; omega)
  have W6 := laddV' (w := (Wf w b1 b2)) (st := stW (Wf w b1 b2)) (n + 15) (n + 16) (strVs (ys1 ++ ys2)) 0 (strVs [(⟨#[]⟩, t + 8 + 4 * ch.dropLast.length + 2 + 2 * (ch.drop (ch.length - 1)).length)]) 0 _ (cat_ _ _) (by rw [strVs_size, strVs_size, List.length_append]; show _ + 1 ≤ _; omega)
  have W7 := lextV (w := (Wf w b1 b2)) (st := stW (Wf w b1 b2)) n (n + 17) (strVs (wqH r t)) 0 (strVs ((ys1 ++ ys2) ++ [(⟨#[]⟩, t + 8 + 4 * ch.dropLast.length + 2 + 2 * (ch.drop (ch.length - 1)).length)])) 0 (strVs (wqW r t d)) (cat_ _ _) (by rw [strVs_size, strVs_size, List.length_append, List.length_append]; show 2 + (_ + 1) ≤ _; omega)
  have W8 := neV (w := (Wf w b1 b2)) (st := stW (Wf w b1 b2)) g.op.1 g.op.2 "at" (t + 8 + 4 * ch.dropLast.length + 2 + 2 * (ch.drop (ch.length - 1)).length + 1) false (by rw [hop]; decide +kernel)
  have W9 := lneStr (w := (Wf w b1 b2)) (st := stW (Wf w b1 b2)) g.sp n sp (wqW r t d) e4 d.e3 (by
    rw [hsp]
    unfold dueW wqW wqH dueH
    rw [List.length_map, hr]
    simp only [List.map_append, List.map_cons, List.map_nil]
    show _ = ([Str.ofString "tab", _] : List Str) ++ ((ys1.map (·.1) ++ ys2.map (·.1)) ++ _)
    rw [h1, h2]
    simp [List.map_dropLast, List.map_drop]
    rfl)
  let C := wqC g ((Wf w b1 b2)).params (lawF (Wf w b1 b2)) ch epc r n t d
  have := seg_ok (w := (Wf w b1 b2)) (st := stW (Wf w b1 b2)) (body := bodyOf (lawF (Wf w b1 b2))) (seg := ((bodyOf (lawF (Wf w b1 b2))).drop 28).take 3) (env := lawEnv (lawF (Wf w b1 b2)) g.L) 700 (bif b1 then (bif fs1.isSome then (bif fs2.isSome then 33266972173385878838795492475779016513843686905288719720633130628350156007262246522231469113324297020367805305199893711719418473887654368597274744657371148051329191444985457972009402102388870949355117686812178424807424 else 2030454844567009206469451445054871613393779718340375959511299476828012451615127351165011428565445293651281762071509477686765010351400858722088503619864659395904629477497927901044133806472890502832519097892854579200) else (bif fs2.isSome then 2030454844567009206469451445054871613393779718340375959511299476828012451615127351210416815998797425559558429272454450178187162712869529325922675315202560027950296785660662417025001943714635687522171383570965217280 else 123929128696716870512051479800712378747178937886985837372515837208740994361274862742005092075527666848833115360809904643967590963830611411404798005826422485618635300069152614091423171276431000425462689966342144)) else (bif fs1.isSome then (bif fs2.isSome then 643476825612921363682033512804086148355032346415481096529922561933625851878912965580625805685265331258368867972338844532771085636296233953691278440409278404646236190101506694367676448637339697095514063762468396931735183171456697252581147164672 else 39274708594538657451295990771733773703310079737273016145625156368019155998468808933486100137358107510298370889551439084681887325240340385955730451954760647510180798223444184546826165705702549651821953288045039882513495604671085405750181888) else (bif fs2.isSome then 39274708594538657451295990771733773703310079737273016145625156368019155998468808934364368022782307816062552976827322054002141457293471310650102443872604044686793588647202443024655975551459745961755652069870170106863233451676788251590410240 else 2397137975740884854205077561751328961383671858964417489357004172852731689359668514006719979086798554095359551364223576945915974440938744259993313685365243511971868437596211720817929900053911837302350071564644714022656031522982597771264))) C.ss (pre := C.pre) (n := n) (t := t) (fl := .next) (e := C.e) (allx_cons (W1.x) (allx_cons (W2.x) (allx_cons (W3.x) (allx_cons (VA.x) (allx_cons (W4.x) (allx_cons (VB.x) (allx_cons (W5.x) (allx_cons (W6.x) (allx_cons (W7.x) (allx_cons (W8.x) (allx_cons (W9.x) allx_nil))))))))))) rfl rfl (fun p q => by
    clear W1 W2 W3 W4 W5 W6 W7 W8 W9 VA VB h1 h2 hsp hr
    rcases fs1 with _ | ⟨kf, vf⟩ <;> rcases fs2 with _ | ⟨kg, vg⟩ <;> cases r <;> (generalize b1 = c1; generalize b2 = c2; revert c1 c2; refine split2 ?_ ?_ ?_ ?_ <;> kernel_rfl)) A' p p0
  exact this
end
end
end Mine

namespace Mine
section
open PySem PySem.W Sem
/-- the law's frame, all names in it -/
noncomputable def Lv.fr29 (g : Lv) (P : Params) (k : Tok) (a : Addr) : Obj := lfO (zipE P g.K lawNames g.v 0 ++ [de P "heard" k (.ref a)]) 29 #[]
noncomputable def okW1 (l : Str) : Str := (⟨#[50, 50, 57, 32, 40, 32]⟩ ++ l) ++ ⟨#[32, 41]⟩
noncomputable def okC (g : Lv) (P : Params) (f : FuncData) (m0 : Str) (q0 : Tok) (m1 : Str) (q1 : Tok) (d : Nat) (kd : Tok) (epc n t : Nat) : ConX :=
  let b := bodyOf f
  let e := lawEnv f g.L
  let na := strVs [(m0, q0), (m1, q1)]
  ⟨.func b e, [.builtin "claim.caller" {}], n, t, [g.frL P 28, [(g.na, lstO na 0)], [(g.ch, lstO (natA [(d, kd)]) epc)]],
    ⟨.ok (.ret (.bool true)), n + 7, t + 53, [[(g.L, g.fr29 P (t + 47) (n + 5))], [(g.na, lstO na 0)], [(g.ch, lstO (natA [(d, kd)]) epc)]], []⟩,
    [(addS ⟨#[50, 50, 57, 32, 40, 32]⟩ t g.lf.1 g.lf.2).x, (addS (⟨#[50, 50, 57, 32, 40, 32]⟩ ++ g.lf.1) (t + 1) ⟨#[32, 41]⟩ (t + 2)).x, (lgetS g.na na 0 0 (t + 4) (.str m0 q0)).x,
     (⟨.call (.ref 138) ⟨[.str (okW1 g.lf.1) (t + 3), .ref n], []⟩, some (none, lawCds b e), some (n + 1, t + 6), [(n, tupO [.str m0 q0, .int 21 (t + 5)])], fun _ _ => ⟨.ok (.ret (.ref (n + 5))), n + 6, t + 47, [tupO [.str m0 q0, .int 21 (t + 5)]], [(n + 5, tupO [.str m0 q0, .int (Int.ofNat d) (t + 45)])]⟩⟩ : Mine.Spec).x,
     (lenS g.ch (natA [(d, kd)]) epc 1).x, (lgetS g.na na 0 0 (t + 51) (.str m0 q0)).x, (lgetS g.ch (natA [(d, kd)]) epc 0 (t + 52) (.int (Int.ofNat d) kd)).x, (teqS (n + 5) (n + 6) [.str m0 q0, .int (Int.ofNat d) (t + 45)] [.str m0 q0, .int (Int.ofNat d) kd] true).x]⟩
end
end Mine

namespace Mine
section
open PySem PySem.W Sem
section
variable (w : World) (b1 b2 : Bool)
theorem stmt31ok (g : Lv) (m0 : Str) (q0 : Tok) (m1 : Str) (q1 : Tok) (d : Nat) (kd : Tok) (epc n t : Nat) (hd : d = 1 ∨ d = 2 ∨ d = 3 ∨ d = 4 ∨ d = 5 ∨ d = 6) (hlf : g.lf.1 = ⟨⟨[116, 97, 98, 32, 115, 105, 122, 101, 32, 48 + d]⟩⟩) :
    ∃ (n' t' : Nat) (k : Tok) (a : Addr), ∀ (s0 : Shared) (old : List Addr) (rest : List (List Ent)) (s : Shared) (p p0 : Pos),
      At (stW (Wf w b1 b2)) s0 old ([g.frL ((Wf w b1 b2)).params 28, [(g.na, lstO (strVs [(m0, q0), (m1, q1)]) 0)], [(g.ch, lstO (natA [(d, kd)]) epc)]] ++ rest) n t s →
      wp (model prog (Wf w b1 b2)) (lawG (bodyOf (lawF (Wf w b1 b2))) (lawEnv (lawF (Wf w b1 b2)) g.L) p0) (execs ((bodyOf (lawF (Wf w b1 b2))).drop 31) (lawEnv (lawF (Wf w b1 b2)) g.L)) (fun f _ s' => f = .ret (.bool true) ∧
        At (stW (Wf w b1 b2)) s0 old (([[(g.L, g.fr29 ((Wf w b1 b2)).params k a)], [(g.na, lstO (strVs [(m0, q0), (m1, q1)]) 0)], [(g.ch, lstO (natA [(d, kd)]) epc)]] ++ []) ++ rest) n' t' s') (fun _ _ _ => False) p s := by
  have hsl : sizeLine = 16777216 := rfl
  refine ⟨n + 7, t + 53, t + 47, n + 5, fun s0 old rest s p p0 A => ?_⟩
  have W1 := addV (w := (Wf w b1 b2)) (st := stW (Wf w b1 b2)) ⟨#[50, 50, 57, 32, 40, 32]⟩ t g.lf.1 g.lf.2 (by decide) (by rw [hlf]; rfl) (by rw [hlf]; show (16 : Nat) ≤ 16777216; decide)
  have W2 := addV (w := (Wf w b1 b2)) (st := stW (Wf w b1 b2)) (⟨#[50, 50, 57, 32, 40, 32]⟩ ++ g.lf.1) (t + 1) ⟨#[32, 41]⟩ (t + 2) (by rw [hlf]; rfl) (by decide) (by rw [hlf]; show (18 : Nat) ≤ 16777216; decide)
  have W3 := lgetV (w := (Wf w b1 b2)) (st := stW (Wf w b1 b2)) g.na (strVs [(m0, q0), (m1, q1)]) 0 0 (t + 4) (.str m0 q0) rfl (by omega)
  have W4 := p2_ok w b1 b2 (bodyOf (lawF (Wf w b1 b2))) (lawEnv (lawF (Wf w b1 b2)) g.L) n (t + 3) m0 q0 (t + 5) d (n + 1) (t + 6) hd
  have hok : okT d = okW1 g.lf.1 := by rw [hlf]; rfl
  unfold p2OkC at W4
  rw [hok] at W4
  have W5 := lenV (w := (Wf w b1 b2)) (st := stW (Wf w b1 b2)) g.ch (natA [(d, kd)]) epc 1 rfl (by omega)
  have W6 := lgetV (w := (Wf w b1 b2)) (st := stW (Wf w b1 b2)) g.na (strVs [(m0, q0), (m1, q1)]) 0 0 (t + 51) (.str m0 q0) rfl (by omega)
  have W7 := lgetV (w := (Wf w b1 b2)) (st := stW (Wf w b1 b2)) g.ch (natA [(d, kd)]) epc 0 (t + 52) (.int (Int.ofNat d) kd) rfl (by omega)
  have W8 := teqPair (w := (Wf w b1 b2)) (st := stW (Wf w b1 b2)) (n + 5) (n + 6) m0 q0 q0 (Int.ofNat d) (Int.ofNat d) (t + 45) kd
  rw [beq_self_eq_true] at W8
  let C := okC g ((Wf w b1 b2)).params (lawF (Wf w b1 b2)) m0 q0 m1 q1 d kd epc n t
  have := seg_ok (w := (Wf w b1 b2)) (st := stW (Wf w b1 b2)) (body := bodyOf (lawF (Wf w b1 b2))) (seg := (bodyOf (lawF (Wf w b1 b2))).drop 31) (env := lawEnv (lawF (Wf w b1 b2)) g.L) 700 1856628020449405296926150970066696770539399341040922549069410377118593512948691301828549105938130212970032384704640 C.ss (pre := C.pre) (n := n) (t := t) (fl := .ret (.bool true)) (e := C.e) (allx_cons (W1.x) (allx_cons (W2.x) (allx_cons (W3.x) (allx_cons (Spec.Valid.x W4) (allx_cons (W5.x) (allx_cons (W6.x) (allx_cons (W7.x) (allx_cons (W8.x) allx_nil)))))))) rfl rfl (fun p q => by
    clear W1 W2 W3 W4 W5 W6 W7 W8
    (generalize b1 = c1; generalize b2 = c2; revert c1 c2; refine split2 ?_ ?_ ?_ ?_ <;> kernel_rfl)) A p p0
  exact this
end
end
end Mine

namespace Mine
section
open PySem PySem.W Sem
noncomputable def tryOf (f : FuncData) : List Stmt × List ExceptHandler := match (bodyOf f).getD 31 default with
  | .Try b hs _ _ _ => (b, hs)
  | _ => ([], [])
noncomputable def Lv.es (g : Lv) (P : Params) : List DictEntry := zipE P g.K (lawNames.take 28) g.v 0
/-- what the error says: its class, line, columns, where it lies -/
structure ErD where
  many : Bool
  m : Nat
  y : Str
noncomputable def ErD.n (d : ErD) (n : Nat) : Nat := bif d.many then n + 9 else n + 8
noncomputable def ErD.t (d : ErD) (t : Nat) : Nat := bif d.many then t + 6 + 2 + 25 + d.m + 4 else t + 6 + 41
noncomputable def ErD.ex (d : ErD) (n : Nat) : List Ent := bif d.many then [(n + 6, excO (.ref 129) (n + 7) (n + 8)), (n + 8, tbO (n + 1) 92 8 31)] else [(n + 6, excO (.type "ValueError") (n + 5) (n + 7)), (n + 7, tbO (n + 1) 94 11 24)]
noncomputable def erX (g : Lv) (P : Params) (f : FuncData) (d : ErD) (x : Str) (k : Tok) (tup : Addr) (m0 : Str) (q0 kp : Tok) (n t : Nat) : Mine.Spec :=
  Mine.mk (.call (.ref 138) ⟨[.str x k, .ref tup], []⟩) none (lawCds (bodyOf f) (lawEnv f g.L)) (n + 1) (t + 6) [(g.L, lfO (g.es P) 28 #[]), (tup, tupO [.str m0 q0, .int 21 kp])] ⟨.error (.ref (n + 6)), d.n n, d.t t, [lfO (g.es P) 28 (slots0 g.L), tupO [.str m0 q0, .int 21 kp]], d.ex n⟩
/-- the try's body -/
noncomputable def er1C (g : Lv) (P : Params) (f : FuncData) (d : ErD) (m0 : Str) (q0 : Tok) (m1 : Str) (q1 : Tok) (n t : Nat) : ConX :=
  let b := bodyOf f
  let e := lawEnv f g.L
  let na := strVs [(m0, q0), (m1, q1)]
  ⟨.func b e, [.builtin "claim.caller" {}], n, t, [g.frL P 28, [(g.na, lstO na 0)]],
    ⟨.error (.ref (n + 6)), d.n n, d.t t, [[(g.L, lfO (g.es P) 28 (slots0 g.L))], [(g.na, lstO na 0)]], sing (d.ex n)⟩,
    [(addS ⟨#[50, 50, 57, 32, 40, 32]⟩ t g.lf.1 g.lf.2).x, (addS (⟨#[50, 50, 57, 32, 40, 32]⟩ ++ g.lf.1) (t + 1) ⟨#[32, 41]⟩ (t + 2)).x, (lgetS g.na na 0 0 (t + 4) (.str m0 q0)).x,
     (erX g P f d (okW1 g.lf.1) (t + 3) n m0 q0 (t + 5) n t).x]⟩
/-- the try whole -/
noncomputable def erC (g : Lv) (P : Params) (f : FuncData) (d : ErD) (m0 : Str) (q0 : Tok) (m1 : Str) (q1 : Tok) (ch : List (Nat × Tok)) (epc n t : Nat) : ConX :=
  let b := bodyOf f
  let e := lawEnv f g.L
  let na := strVs [(m0, q0), (m1, q1)]
  let n' := d.n n
  let t' := d.t t
  ⟨.func b e, [.builtin "claim.caller" {}], n, t, [g.frL P 28, [(g.na, lstO na 0)], [(g.ch, lstO (natA ch) epc)]],
    ⟨.ok (.ret (.bool true)), bif d.many then n' + 1 else n' + 2, bif d.many then t' + 3 else t', [[(g.L, lfO (g.es P) 28 (slots0 g.L))], [(g.na, lstO na 0)], [(g.ch, lstO (natA ch) epc)]], []⟩,
    (er1C g P f d m0 q0 m1 q1 n t).ss ++ (bif d.many then [(lenS g.ch (natA ch) epc ch.length).x, (gtS (Int.ofNat ch.length) (t' + 1) 1 (t' + 2) true).x] else [(leqS g.ch (n' + 1) (natA ch) #[] epc 0 true).x])⟩
end
end Mine

namespace Mine
section
open PySem PySem.W Sem
noncomputable def tryT (f : FuncData) (L : Addr) : Sem PySem.Fin := (Fast.tw12563942051412417395 (tryOf f).1 (lawEnv f L)).attempt >>= fun r => match r with
  | .ok fl => Pure.pure (.done fl)
  | .error e => note2 (lawEnv f L) [] L ["claim.caller"] e >>= fun _ => Fast.tw5670386056902412789 e none >>= fun _ => Fast.tw14206642085496868694 e (lawEnv f L) (tryOf f).2 >>= fun fl => Pure.pure (.done fl)
section
variable (w : World) (b1 b2 : Bool)
theorem er_rep (g : Lv) (d : ErD) (m0 : Str) (q0 : Tok) (m1 : Str) (q1 : Tok) (ch : List (Nat × Tok)) (epc n t : Nat) (p : Pos) (q : Nat → Pos) :
    let C := erC g ((Wf w b1 b2)).params (lawF (Wf w b1 b2)) d m0 q0 m1 q1 ch epc n t
    rep (closingX (C.e.post ++ C.e.news) (ex prog ((Wf w b1 b2)).params (stW (Wf w b1 b2)) 700 C.c none (mkB C.cs q) (tryT (lawF (Wf w b1 b2)) g.L) p (beginX C.pre n t (bif d.many then 1856626541178073928440445335141270312362661966324322203639142933463943684774036372952827129115961429834657741930624 else 3298034917161227805159908181805600379813839343056919316683355615451800116757200735370667120612343936) C.ss))) =
      dia C.e.r C.e.n C.e.t (closingX (C.e.post ++ C.e.news) (ex prog ((Wf w b1 b2)).params (stW (Wf w b1 b2)) 700 C.c none (mkB C.cs q) (tryT (lawF (Wf w b1 b2)) g.L) p (beginX C.pre n t (bif d.many then 1856626541178073928440445335141270312362661966324322203639142933463943684774036372952827129115961429834657741930624 else 3298034917161227805159908181805600379813839343056919316683355615451800116757200735370667120612343936) C.ss))) := by
  obtain ⟨many, m, y⟩ := d
  cases many <;> (generalize b1 = c1; generalize b2 = c2; revert c1 c2; refine split2 ?_ ?_ ?_ ?_ <;> kernel_rfl)
noncomputable def tryPos (f : FuncData) : Pos := match (bodyOf f).getD 31 default with
  | .Try _ _ _ _ p => p
  | _ => default
theorem exec_try (w : World) : (bodyOf (lawF w)).drop 31 = .Try (tryOf (lawF w)).1 (tryOf (lawF w)).2 [] [] (tryPos (lawF w)) :: (bodyOf (lawF w)).drop 32 := by kernel_rfl
theorem try_hs (w : World) : (tryOf (lawF w)).2.isEmpty = false := by kernel_rfl
theorem tryStmt_eq (B : Sem Flow) (hs : List ExceptHandler) (O : Sem Flow) (env : Env) (he : hs.isEmpty = false) : tryStmt false B hs O [] env = (B.attempt >>= fun r => match r with
    | .ok .next => O
    | .ok f => Pure.pure f
    | .error e => noteFrame e env >>= fun _ => setFlight e none >>= fun _ => handleBy e env hs) := by
  unfold tryStmt
  simp only [List.isEmpty_nil, if_true, he, Bool.false_and, Bool.false_eq_true, if_false]
  congr 1 <;> (funext r; rcases r with e | f <;> first | rfl | (cases f <;> rfl))
theorem execs_try (w : World) (L : Addr) : execs ((bodyOf (lawF w)).drop 31) (lawEnv (lawF w) L) = (standAt (tryPos (lawF w)) >>= fun _ => tryStmt false (execs (tryOf (lawF w)).1 (lawEnv (lawF w) L)) (tryOf (lawF w)).2 (execs [] (lawEnv (lawF w) L)) [] (lawEnv (lawF w) L)) >>= fun f => match f with | .next => execs ((bodyOf (lawF w)).drop 32) (lawEnv (lawF w) L) | f => Pure.pure f := by
  rw [exec_try]; rfl
theorem stmt31er (g : Lv) (d : ErD) (m0 : Str) (q0 : Tok) (m1 : Str) (q1 : Tok) (ch : List (Nat × Tok)) (epc n t : Nat) (VS : ∀ x ∈ (erC g ((Wf w b1 b2)).params (lawF (Wf w b1 b2)) d m0 q0 m1 q1 ch epc n t).ss, x.Valid (model prog (Wf w b1 b2)) (stW (Wf w b1 b2)))
    (s0 : Shared) (old : List Addr) (rest : List (List Ent)) (s : Shared) (p p0 : Pos)
    (A : At (stW (Wf w b1 b2)) s0 old ([g.frL ((Wf w b1 b2)).params 28, [(g.na, lstO (strVs [(m0, q0), (m1, q1)]) 0)], [(g.ch, lstO (natA ch) epc)]] ++ rest) n t s) :
    wp (model prog (Wf w b1 b2)) (lawG (bodyOf (lawF (Wf w b1 b2))) (lawEnv (lawF (Wf w b1 b2)) g.L) p0) (execs ((bodyOf (lawF (Wf w b1 b2))).drop 31) (lawEnv (lawF (Wf w b1 b2)) g.L)) (fun f _ s' => f = .ret (.bool true) ∧
        At (stW (Wf w b1 b2)) s0 old (([[(g.L, lfO (g.es ((Wf w b1 b2)).params) 28 (slots0 g.L))], [(g.na, lstO (strVs [(m0, q0), (m1, q1)]) 0)], [(g.ch, lstO (natA ch) epc)]] ++ []) ++ rest) (erC g (((Wf w b1 b2)).params) (lawF (Wf w b1 b2)) d m0 q0 m1 q1 ch epc n t).e.n (erC g (((Wf w b1 b2)).params) (lawF (Wf w b1 b2)) d m0 q0 m1 q1 ch epc n t).e.t s') (fun _ _ _ => False) p s := by
  let C := erC g ((Wf w b1 b2)).params (lawF (Wf w b1 b2)) d m0 q0 m1 q1 ch epc n t
  have hp : PreOk (stW (Wf w b1 b2)) C.pre.flatten n t s := A.pre.sub ⟨rest.flatten, by rw [List.flatten_append]; exact List.Perm.refl _⟩
  obtain ⟨s', hr, po⟩ := runX_ok (w := (Wf w b1 b2)) (prog := prog) (st := stW (Wf w b1 b2)) (c := .func (bodyOf (lawF (Wf w b1 b2))) (lawEnv (lawF (Wf w b1 b2)) g.L)) (hd := none) (below := mkB [.builtin "claim.caller" {}] fun _ => p0) (tr := tryT (lawF (Wf w b1 b2)) g.L) (p := tryPos (lawF (Wf w b1 b2))) 700 (bif d.many then 1856626541178073928440445335141270312362661966324322203639142933463943684774036372952827129115961429834657741930624 else 3298034917161227805159908181805600379813839343056919316683355615451800116757200735370667120612343936) C.ss (pre := C.pre) (n := n) (t := t) (e := C.e) VS rfl (er_rep w b1 b2 g d m0 q0 m1 q1 ch epc n t _ _) hp
  have A' := A.step po
  have hw := (wp_iff_runs (model prog (Wf w b1 b2)) (lawG (bodyOf (lawF (Wf w b1 b2))) (lawEnv (lawF (Wf w b1 b2)) g.L) p0) (tryT (lawF (Wf w b1 b2)) g.L) (fun r' s'' => r' = .ok (.ret (.bool true)) ∧ s'' = s') (tryPos (lawF (Wf w b1 b2))) s).mpr ⟨_, s', hr, rfl, rfl⟩
  have e1 : execs = Fast.tw12563942051412417395 := Fast.te12563942051412417395
  have e2 : setFlight = Fast.tw5670386056902412789 := Fast.te5670386056902412789
  have e3 : handleBy = Fast.tw14206642085496868694 := Fast.te14206642085496868694
  unfold tryT at hw
  rw [← e1, ← e2, ← e3, wp_bind', wp_attempt] at hw
  rw [execs_try, wp_bind', wp_bind', wp_cmd_standAt, tryStmt_eq _ _ _ _ (try_hs _), wp_bind', wp_attempt]
  refine wp_mono _ _ _ ?_ ?_ _ _ hw
  · rintro a p1 s1 ⟨h1, rfl⟩
    injection h1 with h1
    subst h1
    exact ⟨rfl, A'⟩
  · intro e p1 s1 h
    show wp _ _ (noteFrame e (lawEnv (lawF (Wf w b1 b2)) g.L) >>= fun _ => setFlight e none >>= fun _ => handleBy e (lawEnv (lawF (Wf w b1 b2)) g.L) (tryOf (lawF (Wf w b1 b2))).2) _ _ _ _
    have h' : wp (model prog (Wf w b1 b2)) (lawG (bodyOf (lawF (Wf w b1 b2))) (lawEnv (lawF (Wf w b1 b2)) g.L) p0) (note2 (lawEnv (lawF (Wf w b1 b2)) g.L) [] g.L ["claim.caller"] e >>= fun _ => setFlight e none >>= fun _ => handleBy e (lawEnv (lawF (Wf w b1 b2)) g.L) (tryOf (lawF (Wf w b1 b2))).2 >>= fun fl => Pure.pure (PySem.Fin.done fl)) _ _ p1 s1 := h
    rw [wp_bind'] at h' ⊢
    refine wp_note (outer := []) (f := g.L) (ids := ["claim.caller"]) rfl rfl rfl rfl rfl ?_
    refine wp_mono _ _ _ ?_ ?_ _ _ h'
    · intro _ p2 s2 h2
      rw [wp_bind'] at h2 ⊢
      refine wp_mono _ _ _ ?_ ?_ _ _ h2
      · intro _ p3 s3 h3
        rw [wp_bind'] at h3
        refine wp_mono _ _ _ ?_ ?_ _ _ h3
        · rintro fl p4 s4 ⟨h4, rfl⟩
          injection h4 with h4
          subst h4
          exact ⟨rfl, A'⟩
        · rintro _ _ _ ⟨h4, _⟩; cases h4
      · rintro _ _ _ ⟨h4, _⟩; cases h4
    · rintro _ _ _ ⟨h4, _⟩; cases h4
end
end
end Mine

namespace Mine
section
open PySem PySem.W Sem
section
variable (w : World) (b1 b2 : Bool)
theorem adds2 (l : Str) (kl : Tok) (t : Nat) (h0 : 0 < l.cps.toList.length) (h1 : l.cps.toList.length ≤ 1000) :
    (addS ⟨#[50, 50, 57, 32, 40, 32]⟩ t l kl).Valid (model prog (Wf w b1 b2)) (stW (Wf w b1 b2)) ∧ (addS (⟨#[50, 50, 57, 32, 40, 32]⟩ ++ l) (t + 1) ⟨#[32, 41]⟩ (t + 2)).Valid (model prog (Wf w b1 b2)) (stW (Wf w b1 b2)) := by
  have hsl : sizeLine = 16777216 := rfl
  have e1 : ((⟨#[50, 50, 57, 32, 40, 32]⟩ : Str) ++ l).cps.toList = [50, 50, 57, 32, 40, 32] ++ l.cps.toList := str_app _ _
  have e2 : (((⟨#[50, 50, 57, 32, 40, 32]⟩ : Str) ++ l) ++ ⟨#[32, 41]⟩ : Str).cps.toList = ([50, 50, 57, 32, 40, 32] ++ l.cps.toList) ++ [32, 41] := by
    show (((⟨#[50, 50, 57, 32, 40, 32]⟩ : Str) ++ l).cps ++ _).toList = _
    rw [Array.toList_append, e1]
  refine ⟨addV _ _ _ _ (by decide) (by rw [str_len]; simpa using (fun h => by rw [h] at h0; exact absurd h0 (by decide) : ¬ l.cps.toList = [])) (by rw [str_len, e1, List.length_append]; show 6 + _ ≤ _; omega), addV _ _ _ _ (by rw [str_len, e1]; rfl) (by decide) (by rw [str_len, e2, List.length_append, List.length_append]; show 6 + _ + 2 ≤ _; omega)⟩
theorem er_none (g : Lv) (m0 : Str) (q0 : Tok) (m1 : Str) (q1 : Tok) (epc n t : Nat) (hlf : g.lf.1 = ⟨⟨[116, 97, 98, 32, 115, 105, 122, 101, 32]⟩⟩) : ∀ x ∈ (erC g (Wf w b1 b2).params (lawF (Wf w b1 b2)) ⟨false, 0, ⟨#[]⟩⟩ m0 q0 m1 q1 [] epc n t).ss, x.Valid (model prog (Wf w b1 b2)) (stW (Wf w b1 b2)) := by
  have h1 : 0 < g.lf.1.cps.toList.length := by rw [hlf]; decide
  have h2 : g.lf.1.cps.toList.length ≤ 1000 := by rw [hlf]; decide
  obtain ⟨A1, A2⟩ := adds2 w b1 b2 g.lf.1 g.lf.2 t h1 h2
  have A3 := lgetV (w := Wf w b1 b2) (st := stW (Wf w b1 b2)) g.na (strVs [(m0, q0), (m1, q1)]) 0 0 (t + 4) (.str m0 q0) rfl (by omega)
  have A4 := p2_errN w b1 b2 (bodyOf (lawF (Wf w b1 b2))) g.L (g.es (Wf w b1 b2).params) 28 n (t + 3) m0 q0 (t + 5) (n + 1) (t + 6) (p2_none w b1 b2 _ _ _ _ _ _ _ _ _ _ _ _ _)
  have hx : okW1 g.lf.1 = noT := by rw [hlf]; rfl
  have A5 : (erX g (Wf w b1 b2).params (lawF (Wf w b1 b2)) ⟨false, 0, ⟨#[]⟩⟩ (okW1 g.lf.1) (t + 3) n m0 q0 (t + 5) n t).Valid (model prog (Wf w b1 b2)) (stW (Wf w b1 b2)) := by
    rw [hx]; exact A4
  have A6 := leqNil (w := Wf w b1 b2) (st := stW (Wf w b1 b2)) g.ch (n + 8 + 1) (natA []) epc 0
  exact allx_cons A1.x (allx_cons A2.x (allx_cons A3.x (allx_cons A5.x (allx_cons A6.x allx_nil))))
theorem er_many (g : Lv) (m0 : Str) (q0 : Tok) (m1 : Str) (q1 : Tok) (ch : List (Nat × Tok)) (epc n t : Nat) (r : Nat) (y : Str) (l : List Str) (h1 : 0 < g.lf.1.cps.toList.length) (h2 : g.lf.1.cps.toList.length ≤ 1000) (H : Is2 (okW1 g.lf.1) r y l)
    (hm : ∀ k k1, sliceMade (okW1 g.lf.1) k none (some (3, k1)) none = .str ⟨#[50, 50, 57]⟩) (hch : 1 < ch.length) (hc6 : ch.length ≤ 6) : ∀ x ∈ (erC g (Wf w b1 b2).params (lawF (Wf w b1 b2)) ⟨true, l.length, ⟨#[]⟩⟩ m0 q0 m1 q1 ch epc n t).ss, x.Valid (model prog (Wf w b1 b2)) (stW (Wf w b1 b2)) := by
  have hsl : sizeLine = 16777216 := rfl
  obtain ⟨A1, A2⟩ := adds2 w b1 b2 g.lf.1 g.lf.2 t h1 h2
  have A3 := lgetV (w := Wf w b1 b2) (st := stW (Wf w b1 b2)) g.na (strVs [(m0, q0), (m1, q1)]) 0 0 (t + 4) (.str m0 q0) rfl (by omega)
  have A4 := p2_errM w b1 b2 (bodyOf (lawF (Wf w b1 b2))) g.L (g.es (Wf w b1 b2).params) 28 n (okW1 g.lf.1) (t + 3) m0 q0 (t + 5) (n + 1) (t + 6) r y l (p2_many w b1 b2 _ _ _ _ _ _ _ _ _ _ _ _ _ _ H hm)
  have A5 : (erX g (Wf w b1 b2).params (lawF (Wf w b1 b2)) ⟨true, l.length, ⟨#[]⟩⟩ (okW1 g.lf.1) (t + 3) n m0 q0 (t + 5) n t).Valid (model prog (Wf w b1 b2)) (stW (Wf w b1 b2)) := A4
  have A6 := lenV (w := Wf w b1 b2) (st := stW (Wf w b1 b2)) g.ch (natA ch) epc ch.length (natA_size _) (by omega)
  have A7 := gtV (w := Wf w b1 b2) (st := stW (Wf w b1 b2)) (Int.ofNat ch.length) (t + 6 + 2 + 25 + l.length + 4 + 1) 1 (t + 6 + 2 + 25 + l.length + 4 + 2) true (by simp; omega)
  exact allx_cons A1.x (allx_cons A2.x (allx_cons A3.x (allx_cons A5.x (allx_cons A6.x (allx_cons A7.x allx_nil)))))
end
end
end Mine

namespace Mine
section
open PySem PySem.W Sem
/-! the words read off a text, the tokens left out -/
noncomputable def fsts (l : List (Nat × Tok)) : List Nat := l.map (·.1)
theorem fsts_cons {l : List (Nat × Tok)} {c : Nat} {r : List Nat} (h : fsts l = c :: r) : ∃ k l', l = (c, k) :: l' ∧ fsts l' = r := by
  cases l with
  | nil => cases h
  | cons a l =>
    obtain ⟨h1, h2⟩ := List.cons.inj (show a.1 :: fsts l = c :: r from h)
    obtain ⟨a1, a2⟩ := a
    exact ⟨a2, l, by rw [← h1], h2⟩
theorem fsts_num : ∀ (l : List Nat) (k : Tok), fsts (num l k) = l
  | [], _ => rfl
  | c :: l, k => congrArg (c :: ·) (fsts_num l (k + 1))
/-- a sign that a word may hold -/
noncomputable def plainC (c : Nat) : Prop := c ≠ 0 ∧ c ≠ 10
theorem str_push (y : List Nat) (c : Nat) : (⟨⟨y⟩⟩ : Str) ++ ⟨#[c]⟩ = ⟨⟨y ++ [c]⟩⟩ := Str.ext' (str_app y ⟨#[c]⟩)
theorem bump_not {c : Nat} (h : c ≠ 10) (line : Int) : bump c line = line := if_neg h
theorem scanB_cons (c : Nat) (k : Tok) (r : List (Nat × Tok)) (y : Str) (line : Int) : scanB ((c, k) :: r) y line = (if c = 0 then none
    else if c = 34 then some (y, r, line)
    else if c = 92 then (match r with
      | [] => none
      | (d, _) :: r' => if d = 0 then none else scanB r' (y ++ ⟨#[d]⟩) (bump d line))
    else scanB r (y ++ ⟨#[c]⟩) (bump c line)) := by rw [scanB.eq_def] <;> rfl
theorem scanC_cons (c : Nat) (k : Tok) (r : List (Nat × Tok)) (y : Str) (line : Int) : scanC ((c, k) :: r) y line = (if c = 0 then none
    else if white c then some (true, y, r, bump c line)
    else if c = 92 then (match r with
      | [] => none
      | (d, _) :: r' => if d = 0 then none else scanC r' (y ++ ⟨#[d]⟩) (bump d line))
    else scanC r (y ++ ⟨#[c]⟩) line) := by rw [scanC.eq_def] <;> rfl
/-- in quotes: up to the closing one -/
theorem scanB_quoted (hid : Nat → Bool) (h34 : hid 34 = true) (h92 : hid 92 = true) : ∀ (x : List Nat) (rest : List Nat) (cs : List (Nat × Tok)) (y : List Nat) (line : Int), (∀ c ∈ x, plainC c) → fsts cs = spellL hid x ++ 34 :: rest →
    ∃ r, scanB cs ⟨⟨y⟩⟩ line = some (⟨⟨y ++ x⟩⟩, r, line) ∧ fsts r = rest := by
  intro x
  induction x with
  | nil =>
    intro rest cs y line _ h
    obtain ⟨k, l', rfl, hl⟩ := fsts_cons h
    refine ⟨l', ?_, hl⟩
    rw [scanB_cons, if_neg (by decide), if_pos rfl, List.append_nil]
  | cons c x ih =>
    intro rest cs y line hx h
    have hc := hx c (List.mem_cons_self ..)
    have hx' : ∀ c ∈ x, plainC c := fun d hd => hx d (List.mem_cons_of_mem _ hd)
    cases hh : hid c with
    | true =>
      rw [spellL, hh] at h
      obtain ⟨k, l', rfl, hl⟩ := fsts_cons (show fsts cs = 92 :: (c :: (spellL hid x ++ 34 :: rest)) from h)
      obtain ⟨k2, l2, rfl, hl2⟩ := fsts_cons hl
      obtain ⟨r, h1, h2⟩ := ih rest l2 (y ++ [c]) line hx' hl2
      refine ⟨r, ?_, h2⟩
      rw [scanB_cons, if_neg (by decide), if_neg (by decide), if_pos rfl]
      show (if c = 0 then none else scanB l2 (⟨⟨y⟩⟩ ++ ⟨#[c]⟩) (bump c line)) = _
      rw [if_neg hc.1, str_push, bump_not hc.2, h1, List.append_assoc]; rfl
    | false =>
      rw [spellL, hh] at h
      obtain ⟨k, l', rfl, hl⟩ := fsts_cons (show fsts cs = c :: (spellL hid x ++ 34 :: rest) from h)
      obtain ⟨r, h1, h2⟩ := ih rest l' (y ++ [c]) line hx' hl
      refine ⟨r, ?_, h2⟩
      have n34 : c ≠ 34 := fun e => by rw [e, h34] at hh; cases hh
      have n92 : c ≠ 92 := fun e => by rw [e, h92] at hh; cases hh
      rw [scanB_cons, if_neg hc.1, if_neg n34, if_neg n92, str_push, bump_not hc.2, h1, List.append_assoc]; rfl
/-- bare: up to a blank, or the end -/
theorem scanC_bare (hid : Nat → Bool) (h92 : hid 92 = true) (hw : ∀ c, white c = true → hid c = true) : ∀ (x : List Nat) (rest : List Nat) (cs : List (Nat × Tok)) (y : List Nat) (line : Int), (∀ c ∈ x, plainC c) → fsts cs = spellL hid x ++ rest →
    ∃ cs', scanC cs ⟨⟨y⟩⟩ line = scanC cs' ⟨⟨y ++ x⟩⟩ line ∧ fsts cs' = rest := by
  intro x
  induction x with
  | nil =>
    intro rest cs y line _ h
    exact ⟨cs, by rw [List.append_nil], h⟩
  | cons c x ih =>
    intro rest cs y line hx h
    have hc := hx c (List.mem_cons_self ..)
    have hx' : ∀ c ∈ x, plainC c := fun d hd => hx d (List.mem_cons_of_mem _ hd)
    cases hh : hid c with
    | true =>
      rw [spellL, hh] at h
      obtain ⟨k, l', rfl, hl⟩ := fsts_cons (show fsts cs = 92 :: (c :: (spellL hid x ++ rest)) from h)
      obtain ⟨k2, l2, rfl, hl2⟩ := fsts_cons hl
      obtain ⟨r, h1, h2⟩ := ih rest l2 (y ++ [c]) line hx' hl2
      refine ⟨r, ?_, h2⟩
      rw [scanC_cons, if_neg (by decide), if_neg (by decide), if_pos rfl]
      show (if c = 0 then none else scanC l2 (⟨⟨y⟩⟩ ++ ⟨#[c]⟩) (bump c line)) = _
      rw [if_neg hc.1, str_push, bump_not hc.2, h1, List.append_assoc]; rfl
    | false =>
      rw [spellL, hh] at h
      obtain ⟨k, l', rfl, hl⟩ := fsts_cons (show fsts cs = c :: (spellL hid x ++ rest) from h)
      obtain ⟨r, h1, h2⟩ := ih rest l' (y ++ [c]) line hx' hl
      refine ⟨r, ?_, h2⟩
      have n92 : c ≠ 92 := fun e => by rw [e, h92] at hh; cases hh
      have nw : ¬ (white c = true) := fun e => by rw [hw c e] at hh; cases hh
      rw [scanC_cons, if_neg hc.1, if_neg nw, if_neg n92, str_push, h1, List.append_assoc]; rfl
end
end Mine

namespace Mine
section
open PySem PySem.W Sem
theorem scanA_cons (c : Nat) (k : Tok) (r : List (Nat × Tok)) (line : Int) : scanA ((c, k) :: r) line = (if c = 0 then none
    else if white c then scanA r (bump c line)
    else if c = 34 then (match scanB r ⟨#[]⟩ line with
      | some (y, r', l) => some (true, y, r', l)
      | none => none)
    else if c = 92 then (match r with
      | [] => none
      | (d, _) :: r' => if d = 0 then none else scanC r' ⟨#[d]⟩ (bump d line))
    else scanC r ⟨#[c]⟩ line) := by rw [scanA.eq_def] <;> rfl
theorem scanA_white {cs : List (Nat × Tok)} {c : Nat} {rest : List Nat} (hc : white c = true) (h : fsts cs = c :: rest) (line : Int) : ∃ cs', scanA cs line = scanA cs' (bump c line) ∧ fsts cs' = rest := by
  obtain ⟨k, l', rfl, hl⟩ := fsts_cons h
  refine ⟨l', ?_, hl⟩
  have h0 : c ≠ 0 := fun e => by rw [e] at hc; exact absurd hc (by decide)
  rw [scanA_cons, if_neg h0, if_pos hc]
theorem occ_mem (hid : Str) (c : Nat) : occ hid c = decide (c ∈ hid.cps.toList) := PySem.StrLaws.found_one hid c
theorem word0 {x rest : List Nat} {cs : List (Nat × Tok)} (hx : ∀ c ∈ x, plainC c) (h : fsts cs = swL 0 x ++ rest) (line : Int) : ∃ r, scanA cs line = some (true, ⟨⟨x⟩⟩, r, line) ∧ fsts r = rest := by
  have h' : fsts cs = 34 :: (spellL (occ "\"\\") x ++ 34 :: rest) := by
    rw [h]; show 34 :: (spellL _ x ++ [34]) ++ rest = _; simp
  obtain ⟨k, l', rfl, hl⟩ := fsts_cons h'
  obtain ⟨r, h1, h2⟩ := scanB_quoted (occ "\"\\") (by rw [occ_mem]; decide +kernel) (by rw [occ_mem]; decide +kernel) x rest l' [] line hx hl
  refine ⟨r, ?_, h2⟩
  rw [scanA_cons, if_neg (by decide), if_neg (by decide), if_pos rfl]
  have e : scanB l' ⟨#[]⟩ line = _ := h1
  rw [e]; rfl
/-- a bare word: what is read goes on as in scanC -/
theorem word12 {form c0 : Nat} {x rest : List Nat} {cs : List (Nat × Tok)} (hf : form = 1 ∨ form = 2) (hc0 : c0 = 50) (hx : ∀ c ∈ c0 :: x, plainC c) (h : fsts cs = swL form (c0 :: x) ++ rest) (line : Int) :
    ∃ cs', scanA cs line = scanC cs' ⟨⟨c0 :: x⟩⟩ line ∧ fsts cs' = rest := by
  subst hc0
  have hx' : ∀ c ∈ x, plainC c := fun d hd => hx d (List.mem_cons_of_mem _ hd)
  rcases hf with rfl | rfl
  · have o50 : occ "\\ \t\n\r" 50 = false := by rw [occ_mem]; decide +kernel
    have h' : fsts cs = 50 :: (spellL (occ "\\ \t\n\r") x ++ rest) := by
      rw [h]; show spellL _ (50 :: x) ++ rest = _; rw [spellL, o50]; rfl
    obtain ⟨k, l', rfl, hl⟩ := fsts_cons h'
    obtain ⟨r, h1, h2⟩ := scanC_bare (occ "\\ \t\n\r") (by rw [occ_mem]; decide +kernel) (fun c hc => by
      rw [occ_mem, decide_eq_true_eq]
      unfold white at hc
      simp only [Bool.or_eq_true, beq_iff_eq] at hc
      rcases hc with ((rfl | rfl) | rfl) | rfl <;> decide +kernel) x rest l' [50] line hx' hl
    refine ⟨r, ?_, h2⟩
    rw [scanA_cons, if_neg (by decide), if_neg (by decide), if_neg (by decide), if_neg (by decide)]
    exact h1
  · have h' : fsts cs = 92 :: (50 :: (spellL (fun _ => true) x ++ rest)) := by
      rw [h]; rfl
    obtain ⟨k, l', rfl, hl⟩ := fsts_cons h'
    obtain ⟨k2, l2, rfl, hl2⟩ := fsts_cons hl
    obtain ⟨r, h1, h2⟩ := scanC_bare (fun _ => true) rfl (fun _ _ => rfl) x rest l2 [50] line hx' hl2
    refine ⟨r, ?_, h2⟩
    rw [scanA_cons, if_neg (by decide), if_neg (by decide), if_neg (by decide), if_pos rfl]
    exact h1
theorem fsts_nil {l : List (Nat × Tok)} (h : fsts l = []) : l = [] := List.map_eq_nil_iff.mp h
theorem last_word {f : Nat} (hf : f < 3) {x : List Nat} {cs : List (Nat × Tok)} (hx : ∀ c ∈ 50 :: x, plainC c) (h : fsts cs = swL f (50 :: x)) (line : Int) : ∃ b, scanA cs line = some (b, ⟨⟨50 :: x⟩⟩, [], line) := by
  have h' : fsts cs = swL f (50 :: x) ++ [] := by rw [h, List.append_nil]
  have h3 : f = 0 ∨ f = 1 ∨ f = 2 := lt3 hf
  rcases h3 with rfl | h3
  · obtain ⟨r, h1, h2⟩ := word0 hx h' line
    rw [fsts_nil h2] at h1
    exact ⟨_, h1⟩
  · obtain ⟨r, h1, h2⟩ := word12 h3 rfl hx h' line
    rw [fsts_nil h2] at h1
    exact ⟨false, by rw [h1]; rfl⟩
theorem three_words {c f0 f1 : Nat} (hc : white c = true) (hf0 : f0 < 3) (hf1 : f1 < 3) {x0 x1 : List Nat} {cs : List (Nat × Tok)} (hx0 : ∀ c ∈ 50 :: x0, plainC c) (hx1 : ∀ c ∈ 50 :: x1, plainC c)
    (h : fsts cs = c :: (swL f0 (50 :: x0) ++ c :: swL f1 (50 :: x1))) :
    ∃ ba bb ra, ∃ la : Int, scanA cs 1 = some (ba, ⟨⟨50 :: x0⟩⟩, ra, la) ∧ scanA ra la = some (bb, ⟨⟨50 :: x1⟩⟩, [], bump c (bump c 1)) ∧ ra.length ≤ cs.length := by
  have len : ∀ {l : List (Nat × Tok)}, (fsts l).length = l.length := fun {l} => List.length_map ..
  have hcl : cs.length = (c :: (swL f0 (50 :: x0) ++ c :: swL f1 (50 :: x1))).length := by rw [← h, len]
  obtain ⟨cs1, e1, h1⟩ := scanA_white hc h 1
  have h3 : f0 = 0 ∨ f0 = 1 ∨ f0 = 2 := lt3 hf0
  rcases h3 with rfl | h3
  · obtain ⟨r, e2, h2⟩ := word0 hx0 h1 (bump c 1)
    obtain ⟨r2, e3, h4⟩ := scanA_white hc h2 (bump c 1)
    obtain ⟨b, e5⟩ := last_word hf1 hx1 h4 (bump c (bump c 1))
    refine ⟨_, b, r, bump c 1, by rw [e1, e2], by rw [e3, e5], ?_⟩
    have : r.length = (c :: swL f1 (50 :: x1)).length := by rw [← h2, len]
    rw [hcl, this]; simp; omega
  · obtain ⟨r, e2, h2⟩ := word12 h3 rfl hx0 h1 (bump c 1)
    obtain ⟨k, r', rfl, h4⟩ := fsts_cons h2
    obtain ⟨b, e5⟩ := last_word hf1 hx1 h4 (bump c (bump c 1))
    have h0 : c ≠ 0 := fun e => by rw [e] at hc; exact absurd hc (by decide)
    refine ⟨true, b, r', bump c (bump c 1), by rw [e1, e2, scanC_cons, if_neg h0, if_pos hc], e5, ?_⟩
    have : r'.length = (swL f1 (50 :: x1)).length := by rw [← h4, len]
    rw [hcl, this]; simp; omega
end
end Mine

namespace Mine
section
open PySem PySem.W Sem
/-- a sign of a word in plain text -/
noncomputable def wordC (c : Nat) : Prop := c ≠ 0 ∧ c ≠ 92 ∧ white c = false
theorem scanC_plain : ∀ (x rest : List Nat) (cs : List (Nat × Tok)) (y : List Nat) (line : Int), (∀ c ∈ x, wordC c) → fsts cs = x ++ rest → ∃ cs', scanC cs ⟨⟨y⟩⟩ line = scanC cs' ⟨⟨y ++ x⟩⟩ line ∧ fsts cs' = rest := by
  intro x
  induction x with
  | nil => intro rest cs y line _ h; exact ⟨cs, by rw [List.append_nil], h⟩
  | cons c x ih =>
    intro rest cs y line hx h
    have hc := hx c (List.mem_cons_self ..)
    obtain ⟨k, l', rfl, hl⟩ := fsts_cons (show fsts cs = c :: (x ++ rest) from h)
    obtain ⟨r, h1, h2⟩ := ih rest l' (y ++ [c]) line (fun d hd => hx d (List.mem_cons_of_mem _ hd)) hl
    refine ⟨r, ?_, h2⟩
    rw [scanC_cons, if_neg hc.1, if_neg (by rw [hc.2.2]; decide), if_neg hc.2.1, str_push, h1, List.append_assoc]; rfl
theorem scanA_plain {c : Nat} {x rest : List Nat} {cs : List (Nat × Tok)} (hx : ∀ d ∈ c :: x, wordC d) (hq : c ≠ 34) (h : fsts cs = (c :: x) ++ rest) (line : Int) : ∃ cs', scanA cs line = scanC cs' ⟨⟨c :: x⟩⟩ line ∧ fsts cs' = rest := by
  have hc := hx c (List.mem_cons_self ..)
  obtain ⟨k, l', rfl, hl⟩ := fsts_cons (show fsts cs = c :: (x ++ rest) from h)
  obtain ⟨r, h1, h2⟩ := scanC_plain x rest l' [c] line (fun d hd => hx d (List.mem_cons_of_mem _ hd)) hl
  refine ⟨r, ?_, h2⟩
  rw [scanA_cons, if_neg hc.1, if_neg (by rw [hc.2.2]; decide), if_neg hq, if_neg hc.2.1]
  exact h1
/-- a word with a blank behind it -/
theorem word_sp {c : Nat} {x rest : List Nat} {cs : List (Nat × Tok)} (hx : ∀ d ∈ c :: x, wordC d) (hq : c ≠ 34) (h : fsts cs = (c :: x) ++ 32 :: rest) (line : Int) : ∃ r, scanA cs line = some (true, ⟨⟨c :: x⟩⟩, r, line) ∧ fsts r = rest := by
  obtain ⟨cs', h1, h2⟩ := scanA_plain hx hq h line
  obtain ⟨k, r, rfl, hl⟩ := fsts_cons h2
  exact ⟨r, by rw [h1, scanC_cons, if_neg (by decide), if_pos (by decide)]; rfl, hl⟩
/-- a word at the end -/
theorem word_end {c : Nat} {x : List Nat} {cs : List (Nat × Tok)} (hx : ∀ d ∈ c :: x, wordC d) (hq : c ≠ 34) (h : fsts cs = c :: x) (line : Int) : scanA cs line = some (false, ⟨⟨c :: x⟩⟩, [], line) := by
  obtain ⟨cs', h1, h2⟩ := scanA_plain hx hq (show fsts cs = (c :: x) ++ [] by rw [h, List.append_nil]) line
  rw [h1, fsts_nil h2]; rfl
/-- words with a blank between, the last one at the end, then nothing -/
noncomputable def spaced : List (List Nat) → List Nat
  | [] => []
  | [w] => w
  | w :: ws => w ++ 32 :: spaced ws
noncomputable def wordOk : List Nat → Prop
  | [] => False
  | c :: x => (∀ d ∈ c :: x, wordC d) ∧ c ≠ 34
theorem scanW_spaced : ∀ (ws : List (List Nat)) (cs : List (Nat × Tok)) (line : Int), (∀ x ∈ ws, wordOk x) → fsts cs = spaced ws → cs.length < 800000 → scanW (ws.length + 1) cs line (ws.map (fun x => (⟨⟨x⟩⟩ : Str)) ++ [⟨#[]⟩]) := by
  intro ws
  induction ws with
  | nil =>
    intro cs line _ h _
    rw [fsts_nil h]
    exact ⟨false, ⟨#[]⟩, [], line, [], rfl, by decide, rfl, rfl⟩
  | cons w ws ih =>
    intro cs line hw h hz
    have hw1 := hw w (List.mem_cons_self ..)
    have hws : ∀ x ∈ ws, wordOk x := fun x hx => hw x (List.mem_cons_of_mem _ hx)
    cases w with
    | nil => exact absurd hw1 id
    | cons c x =>
      cases ws with
      | nil =>
        exact ⟨false, _, [], line, _, word_end hw1.1 hw1.2 h line, hz, rfl, ih [] line hws rfl (by decide)⟩
      | cons w2 ws2 =>
        obtain ⟨r, h1, h2⟩ := word_sp hw1.1 hw1.2 (show fsts cs = (c :: x) ++ 32 :: spaced (w2 :: ws2) from h) line
        have hl : r.length < 800000 := by
          have e1 : (fsts r).length = r.length := List.length_map ..
          have e2 : (fsts cs).length = cs.length := List.length_map ..
          have e3 : (fsts cs).length = ((c :: x) ++ 32 :: spaced (w2 :: ws2)).length := congrArg List.length h
          rw [← h2] at e3
          simp only [List.length_append, List.length_cons] at e3
          omega
        exact ⟨true, _, r, line, _, h1, hz, rfl, ih r line hws h2 hl⟩
end
end Mine

namespace Mine
section
open PySem PySem.W Sem
/-! the law in plain lists -/
noncomputable def inL (cs : List Nat) (x : Nat) : Bool := cs.any fun c => c == x
noncomputable def leadN : List Nat → List Nat
  | [] => []
  | r :: l => List.replicate r 32 ++ [9] ++ leadN l
noncomputable def flN (cs ss : List Nat) : List Nat := ss ++ runsA (moreZ (inL cs)) 0 7
noncomputable def slN (cs ss : List Nat) : List Nat := (ss.reverse ++ runsB (moreZ (inL cs)) 0 7).reverse
noncomputable def okWb (l : List Nat) : Bool := (wsL l).2.2.2.all (fun c => decide (c < 1000000)) && decide ((wsL l).1 ≤ 900)
/-- all that the walk asks of the numbers -/
noncomputable def chk (cs ss : List Nat) (bk : Nat) : Bool :=
  let fl := flN cs ss
  let sl := slN cs ss
  let X0 := leadN fl ++ List.replicate bk 32
  let X1 := leadN sl ++ List.replicate (bk + 1) 32
  let m0 := X0 ++ [120, 34, 32, 9]
  let m1 := X1 ++ [34, 9]
  let M := maxL (fl ++ sl ++ [bk + 1])
  let col := fun x => colL x X0 0
  let due := lpDue (inL cs) col 1 (M + 1)
  let oth := lpOth (inL cs) col 1 (M + 1)
  decide (fl.length ≤ 100) && decide (sl.length ≤ 100) && fl.all (fun r => decide (r ≤ 100)) && sl.all (fun r => decide (r ≤ 100)) && decide ((leadN fl).length ≤ 300) && decide ((leadN sl).length ≤ 300) &&
  decide (M ≤ 300) && cs.all (fun x => decide (x ≤ col x + 1)) &&
  decide (due = nlGo (levL m0) (levL m1) 1 (max (lrL m0) (lrL m1) + 1)) && decide (oth = nlGo (levL m1) (levL m0) 1 (max (lrL m1) (lrL m0) + 1)) && decide (due.map (·.1) = cs) &&
  (lessL m0 m1 == decide (cs.length = 0)) && (lessL m1 m0 == false) && okWb m0 && okWb m1 &&
  okWb (9 :: X0) && okWb ((List.replicate M 32 ++ [9]) ++ X0) && okWb (List.replicate (bk + 1) 9) && okWb (List.replicate (bk + 2) 32) &&
  (lessL (9 :: X0) ((List.replicate M 32 ++ [9]) ++ X0) == false) && (lessL (List.replicate (bk + 1) 9) (List.replicate (bk + 2) 32) == false)
noncomputable def subs : List Nat → List (List Nat)
  | [] => [[]]
  | x :: l => (subs l).map (x :: ·) ++ subs l
noncomputable def shs : List (List Nat) := [[], [0], [1], [2], [0, 0], [0, 1], [0, 2], [1, 0], [1, 1], [1, 2], [2, 0], [2, 1], [2, 2]]
end
end Mine

namespace Mine
section
open PySem PySem.W Sem
/-- the check for the sets that hold, of 1, 2, 3, just those of pre -/
noncomputable def chkQ (pre : List Nat) (bk : Nat) : Bool := (subs [4, 5, 6]).all fun cs => shs.all fun ss => chk (pre ++ cs) ss bk
theorem chk_00 : chkQ [] 0 = true := by decide +kernel
theorem chk_01 : chkQ [] 1 = true := by decide +kernel
theorem chk_02 : chkQ [] 2 = true := by decide +kernel
theorem chk_10 : chkQ [1] 0 = true := by decide +kernel
theorem chk_11 : chkQ [1] 1 = true := by decide +kernel
theorem chk_12 : chkQ [1] 2 = true := by decide +kernel
theorem chk_20 : chkQ [2] 0 = true := by decide +kernel
theorem chk_21 : chkQ [2] 1 = true := by decide +kernel
theorem chk_22 : chkQ [2] 2 = true := by decide +kernel
theorem chk_30 : chkQ [3] 0 = true := by decide +kernel
theorem chk_31 : chkQ [3] 1 = true := by decide +kernel
theorem chk_32 : chkQ [3] 2 = true := by decide +kernel
theorem chk_40 : chkQ [1, 2] 0 = true := by decide +kernel
theorem chk_41 : chkQ [1, 2] 1 = true := by decide +kernel
theorem chk_42 : chkQ [1, 2] 2 = true := by decide +kernel
theorem chk_50 : chkQ [1, 3] 0 = true := by decide +kernel
theorem chk_51 : chkQ [1, 3] 1 = true := by decide +kernel
theorem chk_52 : chkQ [1, 3] 2 = true := by decide +kernel
theorem chk_60 : chkQ [2, 3] 0 = true := by decide +kernel
theorem chk_61 : chkQ [2, 3] 1 = true := by decide +kernel
theorem chk_62 : chkQ [2, 3] 2 = true := by decide +kernel
theorem chk_70 : chkQ [1, 2, 3] 0 = true := by decide +kernel
theorem chk_71 : chkQ [1, 2, 3] 1 = true := by decide +kernel
theorem chk_72 : chkQ [1, 2, 3] 2 = true := by decide +kernel
theorem chkQ_all : ∀ pre ∈ subs [1, 2, 3], ∀ bk, bk < 3 → chkQ pre bk = true := fun pre h bk hb => by
  have : pre = [1, 2, 3] ∨ pre = [1, 2] ∨ pre = [1, 3] ∨ pre = [1] ∨ pre = [2, 3] ∨ pre = [2] ∨ pre = [3] ∨ pre = [] := by simpa [subs] using h
  rcases this with rfl | rfl | rfl | rfl | rfl | rfl | rfl | rfl <;> rcases lt3 hb with rfl | rfl | rfl
  · exact chk_70
  · exact chk_71
  · exact chk_72
  · exact chk_40
  · exact chk_41
  · exact chk_42
  · exact chk_50
  · exact chk_51
  · exact chk_52
  · exact chk_10
  · exact chk_11
  · exact chk_12
  · exact chk_60
  · exact chk_61
  · exact chk_62
  · exact chk_20
  · exact chk_21
  · exact chk_22
  · exact chk_30
  · exact chk_31
  · exact chk_32
  · exact chk_00
  · exact chk_01
  · exact chk_02
end
end Mine

namespace Mine
section
open PySem PySem.W Sem
theorem chosen_mem (N : Nat) : ∃ pre cs, chosenL N 1 6 = pre ++ cs ∧ pre ∈ subs [1, 2, 3] ∧ cs ∈ subs [4, 5, 6] := by
  simp only [chosenL]
  generalize (bitN N 1 != 0) = a1
  generalize (bitN N (1 + 1) != 0) = a2
  generalize (bitN N (1 + 1 + 1) != 0) = a3
  generalize (bitN N (1 + 1 + 1 + 1) != 0) = a4
  generalize (bitN N (1 + 1 + 1 + 1 + 1) != 0) = a5
  generalize (bitN N (1 + 1 + 1 + 1 + 1 + 1) != 0) = a6
  refine ⟨(if a1 then [1] else []) ++ ((if a2 then [2] else []) ++ (if a3 then [3] else [])), (if a4 then [4] else []) ++ ((if a5 then [5] else []) ++ (if a6 then [6] else [])), ?_, ?_, ?_⟩
  · revert a1 a2 a3 a4 a5 a6; decide
  · revert a1 a2 a3; decide
  · revert a4 a5 a6; decide
theorem shared_mem (N : Nat) : [N % 3, N / 3 % 3].take (N / 9 % 3) ∈ shs := by
  have h1 : N % 3 < 3 := Nat.mod_lt _ (by decide)
  have h2 : N / 3 % 3 < 3 := Nat.mod_lt _ (by decide)
  have h3 : N / 9 % 3 < 3 := Nat.mod_lt _ (by decide)
  generalize N % 3 = a at *
  generalize N / 3 % 3 = b at *
  generalize N / 9 % 3 = c at *
  have ha : a = 0 ∨ a = 1 ∨ a = 2 := lt3 h1
  have hb : b = 0 ∨ b = 1 ∨ b = 2 := lt3 h2
  have hc : c = 0 ∨ c = 1 ∨ c = 2 := lt3 h3
  rcases ha with rfl | rfl | rfl <;> rcases hb with rfl | rfl | rfl <;> rcases hc with rfl | rfl | rfl <;> decide
theorem chk_of (N0 N1 bk : Nat) (hb : bk < 3) : chk (chosenL N0 1 6) ([N1 % 3, N1 / 3 % 3].take (N1 / 9 % 3)) bk = true := by
  obtain ⟨pre, cs, e, h1, h2⟩ := chosen_mem N0
  rw [e]
  have h := List.all_eq_true.mp (chkQ_all pre h1 bk hb) cs h2
  exact List.all_eq_true.mp h _ (shared_mem N1)
end
end Mine

namespace Mine
section
open PySem PySem.W Sem
theorem leadL_map : ∀ (l : List (Nat × Tok)), leadL l = leadN (l.map (·.1))
  | [] => rfl
  | r :: l => by show List.replicate r.1 32 ++ [9] ++ leadL l = _; rw [leadL_map l]; rfl
theorem inL_map (cs : List (Nat × Tok)) : (fun x => cs.any fun c => c.1 == x) = inL (cs.map (·.1)) := by
  funext x
  unfold inL
  rw [List.any_map]; rfl
theorem leadN_mem : ∀ (l : List Nat), ∀ c ∈ leadN l, c = 32 ∨ c = 9
  | [], _, h => nomatch h
  | r :: l, c, h => by
    rcases List.mem_append.mp (show c ∈ (List.replicate r 32 ++ [9]) ++ leadN l from h) with h | h
    · rcases List.mem_append.mp h with h | h
      · exact .inl (List.eq_of_mem_replicate h)
      · exact .inr (List.mem_singleton.mp h)
    · exact leadN_mem l c h
theorem blank_mem (l : List Nat) (k : Nat) : ∀ c ∈ leadN l ++ List.replicate k 32, c = 32 ∨ c = 9 := fun c h => by
  rcases List.mem_append.mp h with h | h
  · exact leadN_mem l c h
  · exact .inl (List.eq_of_mem_replicate h)
theorem dbl_plain : ∀ (u v : List Nat), (∀ c ∈ u, c ≠ 34) → dbl (u ++ v) = u ++ dbl v
  | [], _, _ => rfl
  | c :: u, v, h => by
    show (if c = 34 then [34, 34] else [c]) ++ dbl (u ++ v) = _
    rw [if_neg (h c (List.mem_cons_self ..)), dbl_plain u v fun d hd => h d (List.mem_cons_of_mem _ hd)]; rfl
end
end Mine

namespace Mine
section
open PySem PySem.W Sem
theorem chain_step {w : World} {Γ : Ctx} {body : List Stmt} {env : Env} {P : Shared → Prop} {Q : Flow → Pos → Shared → Prop} {p : Pos} {s : Shared} (i j : Nat)
    (h : wp (model prog w) Γ (execs ((body.drop i).take j) env) (fun f _ s' => f = .next ∧ P s') (fun _ _ _ => False) p s)
    (k : ∀ p' s', P s' → wp (model prog w) Γ (execs (body.drop (i + j)) env) Q (fun _ _ _ => False) p' s') : wp (model prog w) Γ (execs (body.drop i) env) Q (fun _ _ _ => False) p s := by
  refine seg_then j ?_
  refine wp_mono _ _ _ ?_ (fun _ _ _ x => x) p s h
  rintro f p' s' ⟨rfl, hP⟩
  refine ⟨rfl, ?_⟩
  rw [List.drop_drop]
  exact k p' s' hP
end
end Mine

namespace Mine
section
open PySem PySem.W Sem
/-- from statement i on, the law comes back with True, the lots E left -/
noncomputable def Ends (w : World) (L : Addr) (N T : Nat) (E : List (List Ent)) (i : Nat) (lots : List (List Ent)) (n t : Nat) : Prop :=
  ∀ (s0 : Shared) (old : List Addr) (s : Shared) (p p0 : Pos), At (stW w) s0 old lots n t s →
    wp (model prog w) (lawG (bodyOf (lawF w)) (lawEnv (lawF w) L) p0) (execs ((bodyOf (lawF w)).drop i) (lawEnv (lawF w) L)) (fun f _ s' => f = .ret (.bool true) ∧ At (stW w) s0 old E N T s') (fun _ _ _ => False) p s
theorem all_lt {is : List Nat} {m : Nat} (h : (is.all fun i => Nat.blt i m) = true) : ∀ i ∈ is, i < m := fun i hi => by
  have := List.all_eq_true.mp h i hi
  exact Nat.blt_eq.mp this
theorem Ends.step {w : World} {L : Addr} {N T : Nat} {E : List (List Ent)} {i j : Nat} {pre post rest lots : List (List Ent)} {n t n' t' : Nat} (S : Step w L i j pre post n t n' t') (is : List Nat)
    (hn : is.Nodup) (hl : (is.all fun i => Nat.blt i lots.length) = true) (hp : Mine.pick lots is = pre ++ rest) (k : Ends w L N T E (i + j) (post ++ rest) n' t') : Ends w L N T E i lots n t :=
  fun s0 old s p p0 A => chain_step i j (S s0 old rest s p p0 (A.pick is hn (all_lt hl) hp)) fun p' s' A' => k s0 old s' p' p0 A'
end
end Mine

namespace Mine
section
open PySem PySem.W Sem
noncomputable def X0N (cs ss : List Nat) (bk : Nat) : List Nat := leadN (flN cs ss) ++ List.replicate bk 32
noncomputable def X1N (cs ss : List Nat) (bk : Nat) : List Nat := leadN (slN cs ss) ++ List.replicate (bk + 1) 32
noncomputable def m0N (cs ss : List Nat) (bk : Nat) : List Nat := X0N cs ss bk ++ [120, 34, 32, 9]
noncomputable def m1N (cs ss : List Nat) (bk : Nat) : List Nat := X1N cs ss bk ++ [34, 9]
noncomputable def mxN (cs ss : List Nat) (bk : Nat) : Nat := maxL (flN cs ss ++ slN cs ss ++ [bk + 1])
/-- what the check says -/
structure ChkOk (cs ss : List Nat) (bk : Nat) : Prop where
  fl : (flN cs ss).length ≤ 100
  sl : (slN cs ss).length ≤ 100
  fr : ∀ r ∈ flN cs ss, r ≤ 100
  sr : ∀ r ∈ slN cs ss, r ≤ 100
  l0 : (leadN (flN cs ss)).length ≤ 300
  l1 : (leadN (slN cs ss)).length ≤ 300
  mx : mxN cs ss bk ≤ 300
  col : ∀ x ∈ cs, x ≤ colL x (X0N cs ss bk) 0 + 1
  due : lpDue (inL cs) (fun x => colL x (X0N cs ss bk) 0) 1 (mxN cs ss bk + 1) = nlGo (levL (m0N cs ss bk)) (levL (m1N cs ss bk)) 1 (max (lrL (m0N cs ss bk)) (lrL (m1N cs ss bk)) + 1)
  oth : lpOth (inL cs) (fun x => colL x (X0N cs ss bk) 0) 1 (mxN cs ss bk + 1) = nlGo (levL (m1N cs ss bk)) (levL (m0N cs ss bk)) 1 (max (lrL (m1N cs ss bk)) (lrL (m0N cs ss bk)) + 1)
  szs : (lpDue (inL cs) (fun x => colL x (X0N cs ss bk) 0) 1 (mxN cs ss bk + 1)).map (·.1) = cs
  lt0 : lessL (m0N cs ss bk) (m1N cs ss bk) = decide (cs.length = 0)
  lt1 : lessL (m1N cs ss bk) (m0N cs ss bk) = false
  w0 : okW (m0N cs ss bk)
  w1 : okW (m1N cs ss bk)
  w3 : okW (9 :: X0N cs ss bk)
  w4 : okW ((List.replicate (mxN cs ss bk) 32 ++ [9]) ++ X0N cs ss bk)
  w5 : okW (List.replicate (bk + 1) 9)
  w6 : okW (List.replicate (bk + 2) 32)
  lt3 : lessL (9 :: X0N cs ss bk) ((List.replicate (mxN cs ss bk) 32 ++ [9]) ++ X0N cs ss bk) = false
  lt4 : lessL (List.replicate (bk + 1) 9) (List.replicate (bk + 2) 32) = false
theorem okW_of {l : List Nat} (h : okWb l = true) : okW l := by
  unfold okWb at h
  rw [Bool.and_eq_true, List.all_eq_true, decide_eq_true_eq] at h
  exact ⟨fun c hc => of_decide_eq_true (h.1 c hc), h.2⟩
theorem andl {a b : Bool} (h : (a && b) = true) : a = true := (Bool.and_eq_true_iff.mp h).1
theorem andr {a b : Bool} (h : (a && b) = true) : b = true := (Bool.and_eq_true_iff.mp h).2
theorem chk_ok {cs ss : List Nat} {bk : Nat} (h : chk cs ss bk = true) : ChkOk cs ss bk := by
  unfold chk at h
  dsimp only at h
  exact ⟨of_decide_eq_true (andl (andl (andl (andl (andl (andl (andl (andl (andl (andl (andl (andl (andl (andl (andl (andl (andl (andl (andl (andl h)))))))))))))))))))),
    of_decide_eq_true (andr (andl (andl (andl (andl (andl (andl (andl (andl (andl (andl (andl (andl (andl (andl (andl (andl (andl (andl (andl h)))))))))))))))))))),
    fun r hr => of_decide_eq_true (List.all_eq_true.mp (andr (andl (andl (andl (andl (andl (andl (andl (andl (andl (andl (andl (andl (andl (andl (andl (andl (andl (andl h))))))))))))))))))) r hr),
    fun r hr => of_decide_eq_true (List.all_eq_true.mp (andr (andl (andl (andl (andl (andl (andl (andl (andl (andl (andl (andl (andl (andl (andl (andl (andl (andl h)))))))))))))))))) r hr),
    of_decide_eq_true (andr (andl (andl (andl (andl (andl (andl (andl (andl (andl (andl (andl (andl (andl (andl (andl (andl h))))))))))))))))),
    of_decide_eq_true (andr (andl (andl (andl (andl (andl (andl (andl (andl (andl (andl (andl (andl (andl (andl (andl h)))))))))))))))),
    of_decide_eq_true (andr (andl (andl (andl (andl (andl (andl (andl (andl (andl (andl (andl (andl (andl (andl h))))))))))))))),
    fun r hr => of_decide_eq_true (List.all_eq_true.mp (andr (andl (andl (andl (andl (andl (andl (andl (andl (andl (andl (andl (andl (andl h)))))))))))))) r hr),
    of_decide_eq_true (andr (andl (andl (andl (andl (andl (andl (andl (andl (andl (andl (andl (andl h))))))))))))),
    of_decide_eq_true (andr (andl (andl (andl (andl (andl (andl (andl (andl (andl (andl (andl h)))))))))))),
    of_decide_eq_true (andr (andl (andl (andl (andl (andl (andl (andl (andl (andl (andl h))))))))))),
    eq_of_beq (andr (andl (andl (andl (andl (andl (andl (andl (andl (andl h)))))))))),
    eq_of_beq (andr (andl (andl (andl (andl (andl (andl (andl (andl h))))))))),
    okW_of (andr (andl (andl (andl (andl (andl (andl (andl h)))))))),
    okW_of (andr (andl (andl (andl (andl (andl (andl h))))))),
    okW_of (andr (andl (andl (andl (andl (andl h)))))),
    okW_of (andr (andl (andl (andl (andl h))))),
    okW_of (andr (andl (andl (andl h)))),
    okW_of (andr (andl (andl h))),
    eq_of_beq (andr (andl h)),
    eq_of_beq (andr h)⟩
/-! the two replies -/
noncomputable def r0N (cs ss : List Nat) (bk : Nat) : List Nat := 53 :: 55 :: 32 :: 34 :: ((X0N cs ss bk ++ [120, 34, 34, 32, 9]) ++ [34, 32, 34, 121])
noncomputable def r1N (cs ss : List Nat) (bk : Nat) : List Nat := 53 :: 55 :: 32 :: 34 :: ((X1N cs ss bk ++ [34, 34, 9]) ++ [34, 32, 34, 121])
theorem X0_mem (cs ss : List Nat) (bk : Nat) : ∀ c ∈ X0N cs ss bk, c = 32 ∨ c = 9 := blank_mem _ _
theorem X1_mem (cs ss : List Nat) (bk : Nat) : ∀ c ∈ X1N cs ss bk, c = 32 ∨ c = 9 := blank_mem _ _
/-- the signs of a reply -/
noncomputable def repC (c : Nat) : Bool := decide (c ∈ [32, 9, 34, 120, 121, 50, 53, 55])
theorem r0_mem (cs ss : List Nat) (bk : Nat) : ∀ c ∈ 50 :: r0N cs ss bk, repC c = true := fun c h => by
  unfold r0N at h
  rcases List.mem_cons.mp h with rfl | h; · decide
  rcases List.mem_cons.mp h with rfl | h; · decide
  rcases List.mem_cons.mp h with rfl | h; · decide
  rcases List.mem_cons.mp h with rfl | h; · decide
  rcases List.mem_cons.mp h with rfl | h; · decide
  rcases List.mem_append.mp h with h | h
  · rcases List.mem_append.mp h with h | h
    · rcases X0_mem _ _ _ c h with rfl | rfl <;> decide
    · exact List.all_eq_true.mp (by decide : [120, 34, 34, 32, 9].all repC = true) c h
  · exact List.all_eq_true.mp (by decide : [34, 32, 34, 121].all repC = true) c h
theorem r1_mem (cs ss : List Nat) (bk : Nat) : ∀ c ∈ 50 :: r1N cs ss bk, repC c = true := fun c h => by
  unfold r1N at h
  rcases List.mem_cons.mp h with rfl | h; · decide
  rcases List.mem_cons.mp h with rfl | h; · decide
  rcases List.mem_cons.mp h with rfl | h; · decide
  rcases List.mem_cons.mp h with rfl | h; · decide
  rcases List.mem_cons.mp h with rfl | h; · decide
  rcases List.mem_append.mp h with h | h
  · rcases List.mem_append.mp h with h | h
    · rcases X1_mem _ _ _ c h with rfl | rfl <;> decide
    · exact List.all_eq_true.mp (by decide : [34, 34, 9].all repC = true) c h
  · exact List.all_eq_true.mp (by decide : [34, 32, 34, 121].all repC = true) c h
theorem repC_all {P : Nat → Bool} (hP : ([32, 9, 34, 120, 121, 50, 53, 55].all P) = true) {c : Nat} (h : repC c = true) : P c = true := List.all_eq_true.mp hP c (of_decide_eq_true h)
theorem repC_plain {c : Nat} (h : repC c = true) : plainC c := by
  have := repC_all (P := fun c => !(c == 0) && !(c == 10)) (by decide) h
  simp only [Bool.and_eq_true, Bool.not_eq_true', beq_eq_false_iff_ne] at this
  exact this
theorem repC_lt {c : Nat} (h : repC c = true) : c < 128 := of_decide_eq_true (repC_all (P := fun c => decide (c < 128)) (by decide) h)
theorem ascii_of {l : List Nat} (h : ∀ c ∈ l, c < 128) : ascii ⟨⟨l⟩⟩ = true := by
  unfold ascii
  rw [← Array.all_toList]
  exact List.all_eq_true.mpr fun c hc => decide_eq_true (h c hc)
/-- the signs of a spelled word are its own, strokes and quotes -/
theorem spell_mem (e : Nat → Bool) : ∀ (x : List Nat), ∀ c ∈ spellL e x, c ∈ x ∨ c = 92
  | [], _, h => nomatch h
  | d :: x, c, h => by
    rcases List.mem_append.mp (show c ∈ (if e d then [92, d] else [d]) ++ spellL e x from h) with h | h
    · split at h
      · rcases List.mem_cons.mp h with rfl | h
        · exact .inr rfl
        · exact .inl (by rw [List.mem_singleton.mp h]; exact List.mem_cons_self ..)
      · exact .inl (by rw [List.mem_singleton.mp h]; exact List.mem_cons_self ..)
    · rcases spell_mem e x c h with h | h
      · exact .inl (List.mem_cons_of_mem _ h)
      · exact .inr h
theorem sw_mem (f : Nat) (x : List Nat) : ∀ c ∈ swL f x, c ∈ x ∨ c = 92 ∨ c = 34 := fun c h => by
  unfold swL at h
  split at h
  · rcases List.mem_cons.mp h with rfl | h
    · exact .inr (.inr rfl)
    · rcases List.mem_append.mp h with h | h
      · rcases spell_mem _ _ c h with h | h
        · exact .inl h
        · exact .inr (.inl h)
      · exact .inr (.inr (List.mem_singleton.mp h))
  · rcases spell_mem _ _ c h with h | h
    · exact .inl h
    · exact .inr (.inl h)
  · rcases spell_mem _ _ c h with h | h
    · exact .inl h
    · exact .inr (.inl h)
/-- the text -/
noncomputable def txN (c f0 f1 : Nat) (x0 x1 : List Nat) : List Nat := c :: (swL f0 x0 ++ c :: swL f1 x1)
theorem tx_eq (c : Nat) (y0 y1 : List Nat) : (txW c ⟨⟨y0⟩⟩ ⟨⟨y1⟩⟩).cps.toList = c :: (y0 ++ c :: y1) := by
  unfold txW
  show ((((⟨#[c]⟩ : Str) ++ ⟨⟨y0⟩⟩) ++ ⟨#[c]⟩).cps ++ (⟨y1⟩ : Array Nat)).toList = _
  rw [Array.toList_append]
  show (((⟨#[c]⟩ : Str) ++ ⟨⟨y0⟩⟩).cps ++ #[c]).toList ++ y1 = _
  rw [Array.toList_append]
  show ((#[c] : Array Nat) ++ (⟨y0⟩ : Array Nat)).toList ++ [c] ++ y1 = _
  rw [Array.toList_append]
  simp
theorem tx_lines (c : Nat) (y0 y1 : List Nat) (h0 : ∀ d ∈ y0, d ≠ 10) (h1 : ∀ d ∈ y1, d ≠ 10) : bump c (bump c 1) = 1 + ((posL 10 (c :: (y0 ++ c :: y1)) 0).length : Nat) := by
  have e : (posL 10 (c :: (y0 ++ c :: y1)) 0).length = (if c = 10 then 1 else 0) + (if c = 10 then 1 else 0) := by
    show ((if c = 10 then [0] else []) ++ posL 10 (y0 ++ c :: y1) 1).length = _
    rw [List.length_append, posL_app, posL_none h0]
    show _ + ((if c = 10 then [_] else []) ++ posL 10 y1 _).length = _
    rw [List.length_append, posL_none h1]
    split <;> rfl
  rw [e]
  unfold bump
  split <;> rfl
end
end Mine

namespace Mine
section
open PySem PySem.W Sem
/-! what is said of each set of sizes -/
noncomputable def rlN (cs : List Nat) : List Nat := (fwL cs).drop 3
noncomputable def wdsN (cs : List Nat) : List (List Nat) := [116, 97, 98] :: ([115, 105, 122, 101] ++ if 1 < cs.length then [115] else []) :: (cs.dropLast.map (fun c => [48 + c, 44]) ++ (cs.drop (cs.length - 1)).map fun c => [48 + c])
noncomputable def wordB : List Nat → Bool
  | [] => false
  | c :: x => ((c :: x).all fun d => !(d == 0) && !(d == 92) && !(white d)) && !(c == 34)
theorem wordB_ok : ∀ {x : List Nat}, wordB x = true → wordOk x
  | [], h => nomatch h
  | c :: x, h => by
    unfold wordB at h
    rw [Bool.and_eq_true, List.all_eq_true] at h
    refine ⟨fun d hd => ?_, by simpa using h.2⟩
    have := h.1 d hd
    simp only [Bool.and_eq_true, Bool.not_eq_true', beq_eq_false_iff_ne] at this
    exact ⟨this.1.1, this.1.2, this.2⟩
noncomputable def erx (cs : List Nat) : Str := okW1 ⟨⟨rlN cs⟩⟩
noncomputable def ery (cs : List Nat) : Str := ⟨⟨32 :: (rlN cs ++ [32])⟩⟩
/-- what parse229 asks of a reply, as one check -/
noncomputable def isB (x : Str) (r : Nat) (y : Str) : Bool :=
  decide (slicePicked x none (some (3, 0)) none = [0, 1, 2]) && decide (x.cps.toList.take 3 = [50, 50, 57]) && decide (3 < x.length) &&
  decide ((match Builtin.Str.occurrences x ⟨#[40]⟩ 0 x.length 1 with | i :: _ => (i : Int) | [] => -1) = 4) &&
  decide ((match Builtin.Str.occurrences x ⟨#[41]⟩ (fromIndex x.length 5) x.length 1 with | i :: _ => (i : Int) | [] => -1) = Int.ofNat r) &&
  decide (x.cps.toList[5]? = some 32) && decide (x.cps.toList[r - 1]? = some 32) && decide (1 ≤ r) && decide (r < 1000) &&
  decide ((slicePicked x (some (5, 0)) (some (Int.ofNat r, 0)) none).length ≠ x.length) && decide ((slicePicked x (some (5, 0)) (some (Int.ofNat r, 0)) none).filterMap (x.cps[·]?) = y.cps.toList) &&
  (decide (y.length < 1) || decide (Builtin.Str.strKind y < Builtin.Str.strKind ⟨#[32]⟩)) == false && (Builtin.Str.occurrences y ⟨#[32]⟩ 0 y.length (y.length + 1)).isEmpty == false &&
  decide (y.length ≤ 1000) && decide ((partsL y 32).length ≠ 5) && decide ((partsL y 32).length ≤ 1000) &&
  decide ((slicePicked x none (some (3, 0)) none).length ≠ x.length) && decide ((slicePicked x none (some (3, 0)) none).filterMap (x.cps[·]?) = [50, 50, 57])
theorem made_of {x y : Str} {l u : Option (Int × Tok)} {l' u' : Option (Int × Tok)} (hl : l'.map (·.1) = l.map (·.1)) (hu : u'.map (·.1) = u.map (·.1)) (h1 : (slicePicked x l u none).length ≠ x.length) (h2 : (slicePicked x l u none).filterMap (x.cps[·]?) = y.cps.toList) (k : Tok) : sliceMade x k l' u' none = .str y := by
  have e : slicePicked x l' u' none = slicePicked x l u none := by unfold slicePicked; rw [hl, hu]
  unfold sliceMade
  rw [e, h2]
  have : ((slicePicked x l u none).length == x.length) = false := beq_eq_false_iff_ne.mpr h1
  rw [this, Bool.and_false, if_neg (by decide)]
theorem isB_ok {x : Str} {r : Nat} {y : Str} (h : isB x r y = true) : Is2 x r y (partsL y 32) ∧ ∀ k k1, sliceMade x k none (some (3, k1)) none = .str ⟨#[50, 50, 57]⟩ := by
  unfold isB at h
  exact ⟨⟨⟨(of_decide_eq_true (andl (andl (andl (andl (andl (andl (andl (andl (andl (andl (andl (andl (andl (andl (andl (andl (andl h)))))))))))))))))), (of_decide_eq_true (andr (andl (andl (andl (andl (andl (andl (andl (andl (andl (andl (andl (andl (andl (andl (andl (andl h)))))))))))))))))), (of_decide_eq_true (andr (andl (andl (andl (andl (andl (andl (andl (andl (andl (andl (andl (andl (andl (andl (andl h)))))))))))))))))⟩, (of_decide_eq_true (andr (andl (andl (andl (andl (andl (andl (andl (andl (andl (andl (andl (andl (andl (andl h)))))))))))))))), (of_decide_eq_true (andr (andl (andl (andl (andl (andl (andl (andl (andl (andl (andl (andl (andl (andl h))))))))))))))), (of_decide_eq_true (andr (andl (andl (andl (andl (andl (andl (andl (andl (andl (andl (andl (andl h)))))))))))))), (of_decide_eq_true (andr (andl (andl (andl (andl (andl (andl (andl (andl (andl (andl (andl h))))))))))))), ⟨(of_decide_eq_true (andr (andl (andl (andl (andl (andl (andl (andl (andl (andl (andl h)))))))))))), (of_decide_eq_true (andr (andl (andl (andl (andl (andl (andl (andl (andl (andl h)))))))))))⟩, fun k k1 k2 => made_of (l := some (5, 0)) (u := some (Int.ofNat r, 0)) rfl rfl (of_decide_eq_true (andr (andl (andl (andl (andl (andl (andl (andl (andl h)))))))))) (of_decide_eq_true (andr (andl (andl (andl (andl (andl (andl (andl h))))))))) k, (eq_of_beq (andr (andl (andl (andl (andl (andl (andl h)))))))), (eq_of_beq (andr (andl (andl (andl (andl (andl h))))))), (of_decide_eq_true (andr (andl (andl (andl (andl h)))))), rfl, (of_decide_eq_true (andr (andl (andl (andl h))))), (of_decide_eq_true (andr (andl (andl h))))⟩, fun k k1 => made_of (l := none) (u := some (3, 0)) rfl rfl (of_decide_eq_true (andr (andl h))) (of_decide_eq_true (andr h)) k⟩
noncomputable def setB (cs : List Nat) : Bool :=
  decide (cs.length ≤ 6) && (cs.all fun c => decide (1 ≤ c) && decide (c ≤ 6)) && decide (fwL cs = [97, 116] ++ 32 :: rlN cs) && decide ((fwL cs).length < 100) && ((fwL cs).all fun c => decide (c < 128)) &&
  (cs.isEmpty || (decide (rlN cs = spaced (wdsN cs)) && ((wdsN cs).all wordB))) && decide ((wdsN cs).length = cs.length + 2) && decide ((dueW cs).map (fun s => s.cps.toList) = wdsN cs ++ [[]]) &&
  (decide (cs.length ≤ 1) || isB (erx cs) (7 + (rlN cs).length) (ery cs))
noncomputable def all64 : List (List Nat) := (subs [1, 2, 3]).flatMap fun p => (subs [4, 5, 6]).map (p ++ ·)
theorem set_all : all64.all setB = true := by decide +kernel
theorem set_of (N : Nat) : setB (chosenL N 1 6) = true := by
  obtain ⟨pre, cs, e, h1, h2⟩ := chosen_mem N
  rw [e]
  exact List.all_eq_true.mp set_all _ (List.mem_flatMap.mpr ⟨pre, h1, List.mem_map.mpr ⟨cs, h2, rfl⟩⟩)
end
end Mine

namespace Mine
section
open PySem PySem.W Sem
structure SetOk (cs : List Nat) : Prop where
  len : cs.length ≤ 6
  rng : ∀ c ∈ cs, 1 ≤ c ∧ c ≤ 6
  at_ : fwL cs = [97, 116] ++ 32 :: rlN cs
  fz : (fwL cs).length < 100
  asc : ∀ c ∈ fwL cs, c < 128
  sp : cs = [] ∨ (rlN cs = spaced (wdsN cs) ∧ ∀ x ∈ wdsN cs, wordOk x)
  wl : (wdsN cs).length = cs.length + 2
  due : dueW cs = (wdsN cs).map (fun x => (⟨⟨x⟩⟩ : Str)) ++ [⟨#[]⟩]
  er : cs.length ≤ 1 ∨ isB (erx cs) (7 + (rlN cs).length) (ery cs) = true
theorem back_strs : ∀ (l : List Str), (l.map fun s => s.cps.toList).map (fun x => (⟨⟨x⟩⟩ : Str)) = l
  | [] => rfl
  | s :: l => by
    show (⟨⟨s.cps.toList⟩⟩ : Str) :: (l.map fun s => s.cps.toList).map (fun x => (⟨⟨x⟩⟩ : Str)) = _
    rw [back_strs l]
theorem set_ok {cs : List Nat} (h : setB cs = true) : SetOk cs := by
  unfold setB at h
  refine ⟨of_decide_eq_true (andl (andl (andl (andl (andl (andl (andl (andl h)))))))), fun c hc => ?_, of_decide_eq_true (andr (andl (andl (andl (andl (andl (andl h))))))), of_decide_eq_true (andr (andl (andl (andl (andl (andl h)))))), fun c hc => of_decide_eq_true (List.all_eq_true.mp (andr (andl (andl (andl (andl h))))) c hc), ?_, of_decide_eq_true (andr (andl (andl h))), ?_, ?_⟩
  · have h2 := List.all_eq_true.mp (andr (andl (andl (andl (andl (andl (andl (andl h)))))))) c hc
    exact ⟨of_decide_eq_true (andl h2), of_decide_eq_true (andr h2)⟩
  · rcases Bool.or_eq_true_iff.mp (andr (andl (andl (andl h)))) with h | h
    · exact .inl (List.isEmpty_iff.mp h)
    · exact .inr ⟨of_decide_eq_true (andl h), fun x hx => wordB_ok (List.all_eq_true.mp (andr h) x hx)⟩
  · have := congrArg (List.map fun x => (⟨⟨x⟩⟩ : Str)) (of_decide_eq_true (andr (andl h)))
    rw [back_strs, List.map_append] at this
    exact this
  · rcases Bool.or_eq_true_iff.mp (andr h) with h | h
    · exact .inl (of_decide_eq_true h)
    · exact .inr h
theorem at_ok : wordOk [97, 116] := wordB_ok (by decide)
theorem scan_at {cs : List Nat} (H : SetOk cs) (k : Tok) : ∃ ra, scanA (num (fwL cs) k) 1 = some (true, ⟨⟨[97, 116]⟩⟩, ra, 1) ∧ ra.map (·.1) = rlN cs :=
  word_sp (c := 97) (x := [116]) (rest := rlN cs) at_ok.1 at_ok.2 (by rw [fsts_num, H.at_]) 1
theorem tab_ok : wordOk [116, 97, 98] := wordB_ok (by decide)
theorem size_ok : wordOk [115, 105, 122, 101] := wordB_ok (by decide)
theorem rl_nil : rlN [] = [116, 97, 98] ++ 32 :: ([115, 105, 122, 101] ++ 32 :: []) := by decide
theorem scan_rest {cs : List Nat} (H : SetOk cs) (r : List (Nat × Tok)) (hr : r.map (·.1) = rlN cs) : scanW (cs.length + 3) r 1 (dueW cs) := by
  have hz : r.length < 800000 := by
    have h1 : r.length = (rlN cs).length := by rw [← hr, List.length_map]
    have h2 : (rlN cs).length ≤ (fwL cs).length := by unfold rlN; rw [List.length_drop]; omega
    have := H.fz
    omega
  rw [H.due]
  rcases H.sp with rfl | ⟨h1, h2⟩
  · rw [rl_nil] at hr
    obtain ⟨r1, e1, f1⟩ := word_sp (c := 116) (x := [97, 98]) tab_ok.1 tab_ok.2 hr 1
    obtain ⟨r2, e2, f2⟩ := word_sp (c := 115) (x := [105, 122, 101]) size_ok.1 size_ok.2 f1 1
    have hr1 : r1.length < 800000 := by
      have : (fsts r1).length = r1.length := List.length_map ..
      rw [f1] at this; rw [← this]; decide
    rw [fsts_nil f2] at e2
    exact ⟨_, _, _, _, _, e1, hz, rfl, _, _, _, _, _, e2, hr1, rfl, _, _, _, _, [], rfl, by decide, rfl, rfl⟩
  · have := scanW_spaced (wdsN cs) r 1 h2 (show fsts r = _ by rw [← h1]; exact hr) hz
    rw [H.wl] at this
    exact this
theorem at_str : (⟨⟨[97, 116]⟩⟩ : Str) = "at" := by kernel_rfl
theorem fw_ascii {cs : List Nat} (H : SetOk cs) : ascii ⟨⟨fwL cs⟩⟩ = true := ascii_of H.asc
theorem er_is {cs : List Nat} (H : SetOk cs) (h : 1 < cs.length) : Is2 (okW1 ⟨⟨rlN cs⟩⟩) (7 + (rlN cs).length) (ery cs) (partsL (ery cs) 32) ∧ ∀ k k1, sliceMade (okW1 ⟨⟨rlN cs⟩⟩) k none (some (3, k1)) none = .str ⟨#[50, 50, 57]⟩ := by
  rcases H.er with h' | h'
  · omega
  · exact isB_ok h'
theorem rl_one (d : Nat) : rlN [d] = [116, 97, 98, 32, 115, 105, 122, 101, 32, 48 + d] := rfl
end
end Mine

namespace Mine
section
open PySem PySem.W Sem
noncomputable def Good (w : World) (L S : Addr) (o4 : Obj) (i : Nat) (lots : List (List Ent)) (n t : Nat) : Prop :=
  ∃ (N T : Nat) (o0 o1 o2 o3 : Obj) (l5 l6 : List Value), Ends w L N T [[(L, o0)], [(L + 1, o1)], [(L + 2, o2)], [(L + 3, o3)], [(S, o4)], [(89, fldO l5)], [(189, fldO l6)]] i lots n t
theorem Good.next {w : World} {L S : Addr} {o4 : Obj} {i j : Nat} {pre post rest lots' : List (List Ent)} {n t n' t' : Nat} (St : Step w L i j pre post n t n' t') (is : List Nat)
    (hn : is.Nodup) (hl : (is.all fun i => Nat.blt i (post ++ rest).length) = true) (hp : Mine.pick (post ++ rest) is = lots') (k : Good w L S o4 (i + j) lots' n' t') : Good w L S o4 i (pre ++ rest) n t := by
  obtain ⟨N, T, o0, o1, o2, o3, l5, l6, k⟩ := k
  exact ⟨N, T, o0, o1, o2, o3, l5, l6, fun s0 old s p p0 A => chain_step i j (St s0 old rest s p p0 A) fun p' s' A' => k s0 old s' p' p0 (A'.pick is hn (all_lt hl) hp)⟩
/-- the law's end: statements 31 and 32 -/
noncomputable def Last (w : World) (L : Addr) (pre post : List (List Ent)) (n t N T : Nat) : Prop :=
  ∀ (s0 : Shared) (old : List Addr) (rest : List (List Ent)) (s : Shared) (p p0 : Pos), At (stW w) s0 old (pre ++ rest) n t s →
    wp (model prog w) (lawG (bodyOf (lawF w)) (lawEnv (lawF w) L) p0) (execs ((bodyOf (lawF w)).drop 31) (lawEnv (lawF w) L)) (fun f _ s' => f = .ret (.bool true) ∧ At (stW w) s0 old (post ++ rest) N T s') (fun _ _ _ => False) p s
theorem Good.last {w : World} {L S : Addr} {pre post rest : List (List Ent)} {n t N T : Nat} {o0 o1 o2 o3 o4 : Obj} {l5 l6 : List Value} (St : Last w L pre post n t N T) (is : List Nat)
    (hn : is.Nodup) (hl : (is.all fun i => Nat.blt i (post ++ rest).length) = true) (hp : Mine.pick (post ++ rest) is = [[(L, o0)], [(L + 1, o1)], [(L + 2, o2)], [(L + 3, o3)], [(S, o4)], [(89, fldO l5)], [(189, fldO l6)]]) : Good w L S o4 31 (pre ++ rest) n t :=
  ⟨N, T, o0, o1, o2, o3, l5, l6, fun s0 old s p p0 A => wp_mono _ _ _ (fun _ _ _ h => ⟨h.1, h.2.pick is hn (all_lt hl) hp⟩) (fun _ _ _ h => h) _ _ (St s0 old rest s p p0 A)⟩
/-- the lots that are carried along: the four cells, the script, the two tables -/
noncomputable abbrev tail6 (L S : Addr) (o1 o2 o3 o4 : Obj) (l5 l6 : List Value) : List (List Ent) := [[(L + 1, o1)], [(L + 2, o2)], [(L + 3, o3)], [(S, o4)], [(89, fldO l5)], [(189, fldO l6)]]
section
variable (w : World) (b1 b2 : Bool)
theorem g31 (g : Lv) (S : Addr) (m0 : Str) (q0 : Tok) (m1 : Str) (q1 : Tok) (ch : List (Nat × Tok)) (epc n t : Nat) (H : SetOk (ch.map (·.1))) (hlf : g.lf.1 = ⟨⟨rlN (ch.map (·.1))⟩⟩) (o1 o2 o3 o4 : Obj) (l5 l6 : List Value) :
    Good (Wf w b1 b2) g.L S o4 31 ([g.frL ((Wf w b1 b2)).params 28, [(g.na, lstO (strVs [(m0, q0), (m1, q1)]) 0)], [(g.ch, lstO (natA ch) epc)]] ++ tail6 g.L S o1 o2 o3 o4 l5 l6) n t := by
  match ch, H, hlf with
  | [], H, hlf =>
    have St : Last (Wf w b1 b2) g.L _ _ n t _ _ := fun s0 old rest s p p0 A => stmt31er w b1 b2 g ⟨false, 0, ⟨#[]⟩⟩ m0 q0 m1 q1 [] epc n t (er_none w b1 b2 g m0 q0 m1 q1 epc n t hlf) s0 old rest s p p0 A
    exact Good.last (o0 := lfO (g.es ((Wf w b1 b2)).params) 28 (slots0 g.L)) (o1 := o1) (o2 := o2) (o3 := o3) (o4 := o4) (l5 := l5) (l6 := l6) St [0, 3, 4, 5, 6, 7, 8] (by decide) (by kernel_rfl) (by kernel_rfl)
  | [(d, kd)], H, hlf =>
    have hd : d = 1 ∨ d = 2 ∨ d = 3 ∨ d = 4 ∨ d = 5 ∨ d = 6 := by
      exact in6 (H.rng d (List.mem_cons_self ..))
    obtain ⟨n', t', k, a, h⟩ := stmt31ok w b1 b2 g m0 q0 m1 q1 d kd epc n t hd hlf
    have St : Last (Wf w b1 b2) g.L _ _ n t _ _ := h
    exact Good.last (o0 := g.fr29 ((Wf w b1 b2)).params k a) (o1 := o1) (o2 := o2) (o3 := o3) (o4 := o4) (l5 := l5) (l6 := l6) St [0, 3, 4, 5, 6, 7, 8] (by decide) (by kernel_rfl) (by kernel_rfl)
  | c1 :: c2 :: ch, H, hlf =>
    have hz : ((c1 :: c2 :: ch).map (·.1)).length = (c1 :: c2 :: ch).length := List.length_map ..
    have h1 : 1 < (c1 :: c2 :: ch).length := by simp
    have hl6 : (c1 :: c2 :: ch).length ≤ 6 := by rw [← hz]; exact H.len
    generalize c1 :: c2 :: ch = ch at *
    have E := er_is H (by rw [hz]; exact h1)
    have hrl : (rlN (ch.map (·.1))).length < 100 := by
      have h2 : (rlN (ch.map (·.1))).length ≤ (fwL (ch.map (·.1))).length := by unfold rlN; rw [List.length_drop]; omega
      exact Nat.lt_of_le_of_lt h2 H.fz
    have hpos : 0 < (rlN (ch.map (·.1))).length := by
      have h2 := H.at_
      have h3 : (fwL (ch.map (·.1))).length = (rlN (ch.map (·.1))).length + 3 := by rw [h2]; simp
      have h4 : 12 ≤ (fwL (ch.map (·.1))).length := by unfold fwL; simp; omega
      omega
    have St : Last (Wf w b1 b2) g.L _ _ n t _ _ := fun s0 old rest s p p0 A => stmt31er w b1 b2 g ⟨true, (partsL (ery (ch.map (·.1))) 32).length, ⟨#[]⟩⟩ m0 q0 m1 q1 ch epc n t
      (er_many w b1 b2 g m0 q0 m1 q1 ch epc n t (7 + (rlN (ch.map (·.1))).length) (ery (ch.map (·.1))) _ (by rw [hlf]; exact hpos) (by rw [hlf]; show (rlN (ch.map (·.1))).length ≤ _; omega) (by rw [hlf]; exact E.1) (by rw [hlf]; exact E.2) h1 hl6) s0 old rest s p p0 A
    exact Good.last (o0 := lfO (g.es ((Wf w b1 b2)).params) 28 (slots0 g.L)) (o1 := o1) (o2 := o2) (o3 := o3) (o4 := o4) (l5 := l5) (l6 := l6) St [0, 3, 4, 5, 6, 7, 8] (by decide) (by kernel_rfl) (by kernel_rfl)
theorem g28 (g : Lv) (S : Addr) (m0 : Str) (q0 : Tok) (m1 : Str) (q1 : Tok) (ch : List (Nat × Tok)) (epc : Nat) (sp : List (Str × Tok)) (e4 n t : Nat) (H : SetOk (ch.map (·.1))) (hlf : g.lf.1 = ⟨⟨rlN (ch.map (·.1))⟩⟩) (hop : g.op.1 = "at") (hsp : sp.map (·.1) = dueW (ch.map (·.1))) (o1 o2 o3 o4 : Obj) (l5 l6 : List Value) :
    Good (Wf w b1 b2) g.L S o4 28 ([g.frL ((Wf w b1 b2)).params 27, [(g.ch, lstO (natA ch) epc)], [(g.sp, lstO (strVs sp) e4)]] ++ ([(g.na, lstO (strVs [(m0, q0), (m1, q1)]) 0)] :: tail6 g.L S o1 o2 o3 o4 l5 l6)) n t := by
  obtain ⟨n', t', h⟩ := stmt28 w b1 b2 g ch epc sp e4 n t (by have := H.len; rwa [List.length_map] at this) (fun c hc => by have := H.rng c.1 (List.mem_map.mpr ⟨c, hc, rfl⟩); omega) hop hsp
  have St : Step (Wf w b1 b2) g.L 28 3 _ _ n t n' t' := h
  exact Good.next St [0, 3, 1, 4, 5, 6, 7, 8, 9] (by decide) (by kernel_rfl) (by kernel_rfl) (g31 w b1 b2 (wqL g n t) S m0 q0 m1 q1 ch epc n' t' H hlf o1 o2 o3 o4 l5 l6)
theorem g27 (g : Lv) (S : Addr) (m0 : Str) (q0 : Tok) (m1 : Str) (q1 : Tok) (n2 C T q : Nat) (a0 : Value) (more : List Value) (ch : List (Nat × Tok)) (epc n t : Nat) (lk : Tok) (cs : List (Nat × Tok)) (ep : Nat) (H : SetOk (ch.map (·.1))) (hlf : g.lf.1 = ⟨⟨rlN (ch.map (·.1))⟩⟩) (hop : g.op.1 = "at") (hcs : cs.map (·.1) = rlN (ch.map (·.1))) (o1 o2 o4 : Obj) (l5 l6 : List Value) :
    Good (Wf w b1 b2) g.L S o4 27 (([g.frL ((Wf w b1 b2)).params 26, [(g.ch, lstO (natA ch) epc)]] ++ rdrL g.L ((Wf w b1 b2)).params (lexF (Wf w b1 b2)) n2 C T q a0 more 1 lk cs ep) ++ [[(g.na, lstO (strVs [(m0, q0), (m1, q1)]) 0)], [(g.L + 1, o1)], [(g.L + 2, o2)], [(S, o4)], [(89, fldO l5)], [(189, fldO l6)]]) n t := by
  have hl : (ch.map (·.1)).length = ch.length := List.length_map ..
  have hs := scan_rest H cs hcs
  rw [hl] at hs
  obtain ⟨n', t', ys, e2, line', lk', cs', ep', hy, h⟩ := stmt27 w b1 b2 g n2 C T q a0 more ch epc n t 1 lk cs ep (dueW (ch.map (·.1))) hs (by rw [← hl]; exact H.len)
  have St : Step (Wf w b1 b2) g.L 27 1 _ _ n t n' (t' + 1) := h
  exact Good.next St [0, 1, 12, 13, 14, 15, 2, 16, 17, 18] (by decide) (by kernel_rfl) (by kernel_rfl) (g28 w b1 b2 (skL g n t') S m0 q0 m1 q1 ch epc ys e2 n' (t' + 1) H hlf hop hy o1 o2 (cellO (.ref (n2 + 15))) o4 l5 l6)
theorem g24 (g : Lv) (S : Addr) (m0 : Str) (q0 : Tok) (m1 : Str) (q1 : Tok) (C q : Nat) (a0 : Value) (more : List Value) (ch : List (Nat × Tok)) (epc : Nat) (R : List Row) (er n t : Nat) (H : SetOk (ch.map (·.1))) (hR : (R.map fun r => r.2.1.1) = ch.map (·.1)) (o1 o2 o4 : Obj) :
    Good (Wf w b1 b2) g.L S o4 24 ([g.frL ((Wf w b1 b2)).params 23, [(g.L + 3, cellN)], [(g.wi, lstO (rowA R) er)], [(89, fldO [])], rowsE R, [(189, fldO [.int 161 0, .int 18 0, .ref C])], [(C, lamC a0 q more)]] ++ [[(g.ch, lstO (natA ch) epc)], [(g.na, lstO (strVs [(m0, q0), (m1, q1)]) 0)], [(g.L + 1, o1)], [(g.L + 2, o2)], [(S, o4)]]) n t := by
  obtain ⟨d, ⟨hy, hli, hrl, hlf, l5, ho⟩, h⟩ := stmt24 w b1 b2 g R er C q a0 more n t (by rw [← List.length_map (f := fun r : Row => r.2.1.1), hR]; exact H.len)
    (fun r hr => by have := H.rng r.2.1.1 (by rw [← hR]; exact List.mem_map.mpr ⟨r, hr, rfl⟩); omega) true ⟨⟨[97, 116]⟩⟩ 1 (rlN (ch.map (·.1)))
    (by rw [hR]; exact fw_ascii H) (by rw [hR]; exact Nat.lt_trans H.fz (by decide)) (fun k => by rw [hR]; exact scan_at H k)
    (by have h2 : (rlN (ch.map (·.1))).length ≤ (fwL (ch.map (·.1))).length := by unfold rlN; rw [List.length_drop]; omega
        exact Nat.lt_of_le_of_lt h2 (Nat.lt_trans H.fz (by decide)))
  rw [ho, hli] at h
  have St : Step (Wf w b1 b2) g.L 24 3 _ _ n t _ _ := h
  exact Good.next St [0, 15, 1, 7, 8, 9, 10, 11, 6, 12, 13, 14, 16, 17, 18, 19, 3, 5] (by decide) (by kernel_rfl) (by kernel_rfl)
    (g27 w b1 b2 (rdL g n d) S m0 q0 m1 q1 (n + 12) C d.T q a0 more ch epc (d.a.n + 2) (d.t5 + 1) d.a.lk d.a.r d.a.ep H hlf (by show d.a.y = _; rw [hy]; exact at_str) hrl o1 o2 o4 l5 [.int 161 0, .int 18 0, .ref C])
end
end
end Mine

namespace Mine
section
open PySem PySem.W Sem
theorem X0_len {cs ss : List Nat} {bk : Nat} (K : ChkOk cs ss bk) (hb : bk ≤ 2) : (X0N cs ss bk).length ≤ 302 := by
  have := K.l0
  unfold X0N; rw [List.length_append, List.length_replicate]; omega
theorem X1_len {cs ss : List Nat} {bk : Nat} (K : ChkOk cs ss bk) (hb : bk ≤ 2) : (X1N cs ss bk).length ≤ 303 := by
  have := K.l1
  unfold X1N; rw [List.length_append, List.length_replicate]; omega
theorem blank_lt {c : Nat} (h : c = 32 ∨ c = 9) : c < 128 := by omega
section
variable (w : World) (b1 b2 : Bool)
theorem g22 (g : Lv) (S : Addr) (m0 : Str) (q0 : Tok) (m1 : Str) (q1 : Tok) (C q : Nat) (a0 : Value) (more : List Value) (ch : List (Nat × Tok)) (epc : Nat) (R : List Row) (er n t : Nat) (H : SetOk (ch.map (·.1))) (hR : (R.map fun r => r.2.1.1) = ch.map (·.1))
    (ss : List Nat) (K : ChkOk (ch.map (·.1)) ss g.bk.1) (hb : g.bk.1 ≤ 2) (k0 : Tok) (l1 : Str) (k1 : Tok) (M : Nat) (kM : Tok) (hM : M = mxN (ch.map (·.1)) ss g.bk.1) (hmo : g.mo = (Int.ofNat M, kM)) (c1 c2 c4 : Obj) :
    Good (Wf w b1 b2) g.L S c4 22 ([g.frL ((Wf w b1 b2)).params 23, [(g.le, lstO #[.str ⟨⟨X0N (ch.map (·.1)) ss g.bk.1⟩⟩ k0, .str l1 k1] 0)]] ++ [[(g.L + 3, cellN)], [(g.wi, lstO (rowA R) er)], [(89, fldO [])], rowsE R, [(189, fldO [.int 161 0, .int 18 0, .ref C])], [(C, lamC a0 q more)], [(g.ch, lstO (natA ch) epc)], [(g.na, lstO (strVs [(m0, q0), (m1, q1)]) 0)], [(g.L + 1, c1)], [(g.L + 2, c2)], [(S, c4)]]) n t := by
  obtain ⟨n', t', h⟩ := stmt22 w b1 b2 g ⟨⟨X0N (ch.map (·.1)) ss g.bk.1⟩⟩ k0 l1 k1 M kM hmo n t (ascii_of fun c hc => blank_lt (X0_mem _ _ _ c hc)) (Nat.lt_of_le_of_lt (X0_len K hb) (by decide)) (by rw [hM]; exact Nat.lt_of_le_of_lt K.mx (by decide)) hb
    (by dsimp only; exact K.w3) (by rw [hM]; exact K.w4) K.w5 K.w6 (by rw [hM]; exact K.lt3) K.lt4
  have St : Step (Wf w b1 b2) g.L 22 2 _ _ n t n' t' := h
  exact Good.next St [0, 2, 3, 4, 5, 6, 7, 8, 9, 10, 11, 12] (by decide) (by kernel_rfl) (by kernel_rfl) (g24 w b1 b2 g S m0 q0 m1 q1 C q a0 more ch epc R er n' t' H hR c1 c2 c4)
theorem g20 (g : Lv) (S : Addr) (m0 : Str) (q0 : Tok) (m1 : Str) (q1 : Tok) (C q : Nat) (a0 : Value) (more : List Value) (ch : List (Nat × Tok)) (epc : Nat) (R : List Row) (er n t : Nat) (H : SetOk (ch.map (·.1))) (hR : (R.map fun r => r.2.1.1) = ch.map (·.1))
    (ss : List Nat) (K : ChkOk (ch.map (·.1)) ss g.bk.1) (hb : g.bk.1 ≤ 2) (k0 : Tok) (l1 : Str) (k1 : Tok) (o1 o2 : Wo) (hu : g.up = o1.O) (hl : g.lo = o2.O) (W1 : WoOk o1 (m0N (ch.map (·.1)) ss g.bk.1)) (W2 : WoOk o2 (m1N (ch.map (·.1)) ss g.bk.1))
    (fl : List (Nat × Tok)) (ep : Nat) (sl : List (Nat × Tok)) (hfl : fl.map (·.1) = flN (ch.map (·.1)) ss) (hsl : sl.map (·.1) = slN (ch.map (·.1)) ss) (c1 c2 c4 : Obj) :
    Good (Wf w b1 b2) g.L S c4 20 (([g.frL ((Wf w b1 b2)).params 22] ++ sing (o1.ents ((Wf w b1 b2)).params) ++ sing (o2.ents ((Wf w b1 b2)).params) ++ [[(g.ch, lstO (natA ch) epc)], [(g.fi, lstO (natA fl) ep)], [(g.se, lstO (natA sl) 0)]]) ++ [[(g.le, lstO #[.str ⟨⟨X0N (ch.map (·.1)) ss g.bk.1⟩⟩ k0, .str l1 k1] 0)], [(g.L + 3, cellN)], [(g.wi, lstO (rowA R) er)], [(89, fldO [])], rowsE R, [(189, fldO [.int 161 0, .int 18 0, .ref C])], [(C, lamC a0 q more)], [(g.na, lstO (strVs [(m0, q0), (m1, q1)]) 0)], [(g.L + 1, c1)], [(g.L + 2, c2)], [(S, c4)]]) n t := by
  have lf : fl.length ≤ 1000 := by have h := K.fl; rw [← hfl, List.length_map] at h; omega
  have ls : sl.length ≤ 1000 := by have h := K.sl; rw [← hsl, List.length_map] at h; omega
  obtain ⟨n2, t2, ⟨M, kM⟩, hM, h⟩ := stmt20 w b1 b2 g o1 o2 hu hl (W1.small K.w0.1) (W2.small K.w1.1) (W1.b9 K.w0) (W2.b9 K.w1) ch epc fl ep sl n t lf ls (by rw [W1.less W2, K.lt0, List.length_map]) (by rw [W2.less W1, K.lt1])
  rw [hfl, hsl] at hM
  have hM : M = mxN (ch.map (·.1)) ss g.bk.1 := hM
  have St : Step (Wf w b1 b2) g.L 20 2 _ _ n t _ _ := h
  exact Good.next St [0, 12, 13, 14, 15, 16, 17, 18, 9, 19, 20, 21, 22] (by decide) (by kernel_rfl) (by kernel_rfl) (g22 w b1 b2 (lsL g t2 (M, kM)) S m0 q0 m1 q1 C q a0 more ch epc R er _ _ H hR ss K hb k0 l1 k1 M kM hM rfl c1 c2 c4)
theorem g18 (g : Lv) (S : Addr) (m0 : Str) (q0 : Tok) (m1 : Str) (q1 : Tok) (C q : Nat) (a0 : Value) (more : List Value) (ch : List (Nat × Tok)) (epc : Nat) (R Q : List Row) (er eq n t : Nat) (H : SetOk (ch.map (·.1)))
    (ss : List Nat) (K : ChkOk (ch.map (·.1)) ss g.bk.1) (hb : g.bk.1 ≤ 2) (hR : R.map rowV = lpDue (inL (ch.map (·.1))) (fun x => colL x (X0N (ch.map (·.1)) ss g.bk.1) 0) 1 (mxN (ch.map (·.1)) ss g.bk.1 + 1)) (hQ : Q.map rowV = lpOth (inL (ch.map (·.1))) (fun x => colL x (X0N (ch.map (·.1)) ss g.bk.1) 0) 1 (mxN (ch.map (·.1)) ss g.bk.1 + 1))
    (k0 : Tok) (l1 : Str) (k1 : Tok) (o1 o2 : Wo) (hu : g.up = o1.O) (hl : g.lo = o2.O) (W1 : WoOk o1 (m0N (ch.map (·.1)) ss g.bk.1)) (W2 : WoOk o2 (m1N (ch.map (·.1)) ss g.bk.1))
    (fl : List (Nat × Tok)) (ep : Nat) (sl : List (Nat × Tok)) (hfl : fl.map (·.1) = flN (ch.map (·.1)) ss) (hsl : sl.map (·.1) = slN (ch.map (·.1)) ss) (c1 c2 c4 : Obj) :
    Good (Wf w b1 b2) g.L S c4 18 (([g.frL ((Wf w b1 b2)).params 21] ++ sing (o1.ents ((Wf w b1 b2)).params) ++ sing (o2.ents ((Wf w b1 b2)).params) ++ [[(g.du, lstO (rowA R) er)], [(g.ot, lstO (rowA Q) eq)], rowsE R, rowsE Q]) ++ [[(g.ch, lstO (natA ch) epc)], [(g.fi, lstO (natA fl) ep)], [(g.se, lstO (natA sl) 0)], [(g.le, lstO #[.str ⟨⟨X0N (ch.map (·.1)) ss g.bk.1⟩⟩ k0, .str l1 k1] 0)], [(g.L + 3, cellN)], [(89, fldO [])], [(189, fldO [.int 161 0, .int 18 0, .ref C])], [(C, lamC a0 q more)], [(g.na, lstO (strVs [(m0, q0), (m1, q1)]) 0)], [(g.L + 1, c1)], [(g.L + 2, c2)], [(S, c4)]]) n t := by
  obtain ⟨n1, t1, n2, t2, R1, e1, hR1, h⟩ := stmt18 w b1 b2 g o1 o2 hu hl (W1.small K.w0.1) (W2.small K.w1.1) (W1.b9 K.w0) (W2.b9 K.w1) R Q er eq n t (by rw [W1.lev, W2.lev, W1.lr, W2.lr, hR]; exact K.due) (by rw [W1.lev, W2.lev, W1.lr, W2.lr, hQ]; exact K.oth)
  have hsz : (R1.map fun r => r.2.1.1) = ch.map (·.1) := by
    have e := K.szs
    rw [← hR, ← hR1, List.map_map] at e
    exact e
  have St : Step (Wf w b1 b2) g.L 18 2 _ _ n t n2 t2 := h
  exact Good.next St [0, 1, 2, 3, 4, 5, 6, 7, 8, 15, 16, 17, 18, 19, 13, 20, 14, 21, 22, 23, 24, 25, 26] (by decide) (by kernel_rfl) (by kernel_rfl)
    (g20 w b1 b2 (wtL g n t1) S m0 q0 m1 q1 C q a0 more ch epc R1 e1 n2 t2 H hsz ss K hb k0 l1 k1 o1 o2 hu hl W1 W2 fl ep sl hfl hsl c1 c2 c4)
theorem g17 (g : Lv) (S : Addr) (m0 : Str) (q0 : Tok) (m1 : Str) (q1 : Tok) (C q : Nat) (a0 : Value) (more : List Value) (ch : List (Nat × Tok)) (epc : Nat) (n t : Nat) (H : SetOk (ch.map (·.1)))
    (ss : List Nat) (K : ChkOk (ch.map (·.1)) ss g.bk.1) (hb : g.bk.1 ≤ 2)
    (k0 : Tok) (l1 : Str) (k1 : Tok) (o1 o2 : Wo) (hu : g.up = o1.O) (hl : g.lo = o2.O) (W1 : WoOk o1 (m0N (ch.map (·.1)) ss g.bk.1)) (W2 : WoOk o2 (m1N (ch.map (·.1)) ss g.bk.1))
    (fl : List (Nat × Tok)) (ep : Nat) (sl : List (Nat × Tok)) (hfl : fl.map (·.1) = flN (ch.map (·.1)) ss) (hsl : sl.map (·.1) = slN (ch.map (·.1)) ss) (c1 c2 c4 : Obj) :
    Good (Wf w b1 b2) g.L S c4 17 ([g.frL ((Wf w b1 b2)).params 18, [(g.fi, lstO (natA fl) ep)], [(g.se, lstO (natA sl) 0)], [(g.ch, lstO (natA ch) epc)], [(g.le, lstO #[.str ⟨⟨X0N (ch.map (·.1)) ss g.bk.1⟩⟩ k0, .str l1 k1] 0)], [(g.du, lstO #[] 0)], [(g.ot, lstO #[] 0)]] ++ (sing (o1.ents ((Wf w b1 b2)).params) ++ sing (o2.ents ((Wf w b1 b2)).params) ++ [[(g.L + 3, cellN)], [(89, fldO [])], [(189, fldO [.int 161 0, .int 18 0, .ref C])], [(C, lamC a0 q more)], [(g.na, lstO (strVs [(m0, q0), (m1, q1)]) 0)], [(g.L + 1, c1)], [(g.L + 2, c2)], [(S, c4)]])) n t := by
  have lf : fl.length ≤ 1000 := by have h := K.fl; rw [← hfl, List.length_map] at h; omega
  have ls : sl.length ≤ 1000 := by have h := K.sl; rw [← hsl, List.length_map] at h; omega
  have hmx : maxL (fl.map (·.1) ++ sl.map (·.1) ++ [g.bk.1 + 1]) = mxN (ch.map (·.1)) ss g.bk.1 := by rw [hfl, hsl]; rfl
  obtain ⟨n', t', R, er, Q, eq, v, ⟨hR, hQ⟩, h⟩ := stmt17 w b1 b2 g ch epc ⟨⟨X0N (ch.map (·.1)) ss g.bk.1⟩⟩ k0 l1 k1 fl sl ep n t (ascii_of fun c hc => blank_lt (X0_mem _ _ _ c hc)) (X0_mem _ _ _)
    (fun x hx => by
      obtain ⟨c, hc, he⟩ := List.any_eq_true.mp hx
      exact K.col x (List.mem_map.mpr ⟨c, hc, beq_iff_eq.mp he⟩)) lf ls (by rw [hmx]; exact Nat.le_trans K.mx (by decide))
  rw [hmx, inL_map] at hR hQ
  have St : Step (Wf w b1 b2) g.L 17 1 _ _ n t n' t' := h
  exact Good.next St [0, 9, 10, 11, 12, 13, 14, 15, 16, 5, 6, 7, 8, 3, 1, 2, 4, 17, 18, 19, 20, 21, 22, 23, 24] (by decide) (by kernel_rfl) (by kernel_rfl)
    (g18 w b1 b2 (v.put g) S m0 q0 m1 q1 C q a0 more ch epc R Q er eq n' t' H ss K hb hR hQ k0 l1 k1 o1 o2 hu hl W1 W2 fl ep sl hfl hsl c1 c2 c4)
theorem g15 (g : Lv) (S : Addr) (m0 : Str) (q0 : Tok) (m1 : Str) (q1 : Tok) (C q : Nat) (a0 : Value) (more : List Value) (ch : List (Nat × Tok)) (epc : Nat) (n t : Nat) (H : SetOk (ch.map (·.1)))
    (ss : List Nat) (K : ChkOk (ch.map (·.1)) ss g.bk.1) (hb : g.bk.1 ≤ 2) (k0 : Tok) (l1 : Str) (k1 : Tok) (u0 u1 : Tok)
    (fl : List (Nat × Tok)) (ep : Nat) (sl : List (Nat × Tok)) (hfl : fl.map (·.1) = flN (ch.map (·.1)) ss) (hsl : sl.map (·.1) = slN (ch.map (·.1)) ss) (c1 c2 c4 : Obj) :
    Good (Wf w b1 b2) g.L S c4 15 ([g.frL ((Wf w b1 b2)).params 14, [(g.td, lstO (strVs [(⟨⟨m0N (ch.map (·.1)) ss g.bk.1⟩⟩, u0), (⟨⟨m1N (ch.map (·.1)) ss g.bk.1⟩⟩, u1)]) 2)]] ++ [[(g.fi, lstO (natA fl) ep)], [(g.se, lstO (natA sl) 0)], [(g.ch, lstO (natA ch) epc)], [(g.le, lstO #[.str ⟨⟨X0N (ch.map (·.1)) ss g.bk.1⟩⟩ k0, .str l1 k1] 0)], [(g.L + 3, cellN)], [(89, fldO [])], [(189, fldO [.int 161 0, .int 18 0, .ref C])], [(C, lamC a0 q more)], [(g.na, lstO (strVs [(m0, q0), (m1, q1)]) 0)], [(g.L + 1, c1)], [(g.L + 2, c2)], [(S, c4)]]) n t := by
  have z0 : (m0N (ch.map (·.1)) ss g.bk.1).length < 900 := by have := X0_len K hb; unfold m0N; rw [List.length_append, show [120, 34, 32, 9].length = 4 from rfl]; omega
  have z1 : (m1N (ch.map (·.1)) ss g.bk.1).length < 900 := by have := X1_len K hb; unfold m1N; rw [List.length_append, show [34, 9].length = 2 from rfl]; omega
  obtain ⟨n2, t2, o1, o2, ⟨W1, W2⟩, h⟩ := stmt15 w b1 b2 g ⟨⟨m0N (ch.map (·.1)) ss g.bk.1⟩⟩ u0 ⟨⟨m1N (ch.map (·.1)) ss g.bk.1⟩⟩ u1 n t
    (ascii_of fun c hc => by
      rcases List.mem_append.mp hc with hc | hc
      · exact blank_lt (X0_mem _ _ _ c hc)
      · exact of_decide_eq_true (List.all_eq_true.mp (by decide : [120, 34, 32, 9].all (fun c => decide (c < 128)) = true) c hc))
    (ascii_of fun c hc => by
      rcases List.mem_append.mp hc with hc | hc
      · exact blank_lt (X1_mem _ _ _ c hc)
      · exact of_decide_eq_true (List.all_eq_true.mp (by decide : [34, 9].all (fun c => decide (c < 128)) = true) c hc)) (by dsimp only; exact z0) (by dsimp only; exact z1)
  dsimp only at W1 W2
  have St : Step (Wf w b1 b2) g.L 15 2 _ _ n t _ _ := h
  exact Good.next St [0, 12, 13, 14, 15, 10, 11, 2, 3, 4, 5, 6, 7, 8, 9, 16, 17, 18, 19, 20, 21, 22, 23] (by decide) (by kernel_rfl) (by kernel_rfl)
    (g17 w b1 b2 (wpL g o1 o2 n2 t2) S m0 q0 m1 q1 C q a0 more ch epc _ _ H ss K hb k0 l1 k1 o1 o2 rfl rfl W1 W2 fl ep sl hfl hsl c1 c2 c4)
end
end
end Mine

namespace Mine
section
open PySem PySem.W Sem
/-! the words -/
theorem dbl_m0 (cs ss : List Nat) (bk : Nat) : dbl (m0N cs ss bk) = X0N cs ss bk ++ [120, 34, 34, 32, 9] := by
  unfold m0N
  rw [dbl_plain _ _ fun c hc => by rcases X0_mem _ _ _ c hc with rfl | rfl <;> decide]; rfl
theorem dbl_m1 (cs ss : List Nat) (bk : Nat) : dbl (m1N cs ss bk) = X1N cs ss bk ++ [34, 34, 9] := by
  unfold m1N
  rw [dbl_plain _ _ fun c hc => by rcases X1_mem _ _ _ c hc with rfl | rfl <;> decide]; rfl
noncomputable def R0L (cs ss : List Nat) (bk : Nat) : List Nat := 50 :: r0N cs ss bk
noncomputable def R1L (cs ss : List Nat) (bk : Nat) : List Nat := 50 :: r1N cs ss bk
theorem R0_form (cs ss : List Nat) (bk : Nat) : R0L cs ss bk = 50 :: 53 :: 55 :: 32 :: 34 :: (dbl (m0N cs ss bk) ++ 34 :: 32 :: [34, 121]) := by rw [dbl_m0]; rfl
theorem R1_form (cs ss : List Nat) (bk : Nat) : R1L cs ss bk = 50 :: 53 :: 55 :: 32 :: 34 :: (dbl (m1N cs ss bk) ++ 34 :: 32 :: [34, 121]) := by rw [dbl_m1]; rfl
theorem R0_len {cs ss : List Nat} {bk : Nat} (h : (X0N cs ss bk).length ≤ 302) : (R0L cs ss bk).length ≤ 400 := by
  unfold R0L r0N
  simp only [List.length_cons, List.length_append, List.length_nil]; omega
theorem R1_len {cs ss : List Nat} {bk : Nat} (h : (X1N cs ss bk).length ≤ 303) : (R1L cs ss bk).length ≤ 400 := by
  unfold R1L r1N
  simp only [List.length_cons, List.length_append, List.length_nil]; omega
theorem m0_len {cs ss : List Nat} {bk : Nat} (h : (X0N cs ss bk).length ≤ 302) : (m0N cs ss bk).length < 900 := by
  unfold m0N
  simp only [List.length_cons, List.length_append, List.length_nil]; omega
theorem m1_len {cs ss : List Nat} {bk : Nat} (h : (X1N cs ss bk).length ≤ 303) : (m1N cs ss bk).length < 900 := by
  unfold m1N
  simp only [List.length_cons, List.length_append, List.length_nil]; omega
noncomputable def toL2 (g : Lv) (n t2 : Nat) : Lv := { (g.kn 13 t2) with td := n + 5 }
noncomputable def toD (line : Int) (lk : Tok) (z : Int) (m0 : Str) (q0 : Tok) (m1 : Str) (q1 : Tok) (a0 : Str) (u0 : Tok) (a1 : Str) (u1 : Tok) (j0 j1 : Tok) (ke : Tok) : ToD := ⟨line, lk, z, 0, 0, 0, 0, m0, q0, m1, q1, a0, u0, a1, u1, a0, j0, a1, j1, ke⟩
section
variable (w : World) (b1 b2 : Bool)
theorem g12 (g : Lv) (S : Addr) (q0 q1 : Tok) (x : Lx) (Kx : Nat → Tok) (hx : g.lx = x.L) (C q : Nat) (a0 : Value) (more : List Value) (ch : List (Nat × Tok)) (epc : Nat) (n t : Nat) (H : SetOk (ch.map (·.1)))
    (ss : List Nat) (K : ChkOk (ch.map (·.1)) ss g.bk.1) (hb : g.bk.1 ≤ 2) (k0 : Tok) (l1 : Str) (k1 : Tok) (z : Int) (lk : Tok) (hz : ((posL 10 g.tx.1.cps.toList 0).length : Nat) = z) (u0 u1 j0 j1 ke : Tok)
    (fl : List (Nat × Tok)) (ep : Nat) (sl : List (Nat × Tok)) (hfl : fl.map (·.1) = flN (ch.map (·.1)) ss) (hsl : sl.map (·.1) = slN (ch.map (·.1)) ss) (c1 c2 c4 : Obj) (A0 A1 M0 M1 : Str) (hA0 : A0.cps.toList = R0L (ch.map (·.1)) ss g.bk.1) (hA1 : A1.cps.toList = R1L (ch.map (·.1)) ss g.bk.1)
    (hM0 : M0 = ⟨⟨m0N (ch.map (·.1)) ss g.bk.1⟩⟩) (hM1 : M1 = ⟨⟨m1N (ch.map (·.1)) ss g.bk.1⟩⟩) :
    Good (Wf w b1 b2) g.L S c4 12 ([g.frL ((Wf w b1 b2)).params 13, [(g.wd, lstO (strVs [(A0, u0), (A1, u1), (⟨#[]⟩, ke)]) 0)], [(g.re, lstO (strVs [(A0, j0), (A1, j1)]) 2)], [(g.na, lstO (strVs [(M0, q0), (M1, q1)]) 0)], [(x.L, instO 183 x.Ld)], [(x.Ld, lexD ((Wf w b1 b2)).params x Kx (1 + z) lk)]] ++
      [[(C, lamC a0 q more)], [(g.fi, lstO (natA fl) ep)], [(g.se, lstO (natA sl) 0)], [(g.le, lstO #[.str ⟨⟨X0N (ch.map (·.1)) ss g.bk.1⟩⟩ k0, .str l1 k1] 0)], [(g.ch, lstO (natA ch) epc)], [(189, fldO [.int 161 0, .int 18 0, .ref C])], [(g.L + 3, cellN)], [(89, fldO [])], [(g.L + 1, c1)], [(g.L + 2, c2)], [(S, c4)]]) n t := by
  have e0 : M0.cps.toList = m0N (ch.map (·.1)) ss g.bk.1 := by rw [hM0]
  have e1 : M1.cps.toList = m1N (ch.map (·.1)) ss g.bk.1 := by rw [hM1]
  have OK : ToOk (toD (1 + z) lk z M0 q0 M1 q1 A0 u0 A1 u1 j0 j1 ke) g.tx.1 := by
    refine ⟨rfl, rfl, hz, rfl, ?_, ?_, ⟨32, [34, 121], by decide, ?_⟩, ⟨32, [34, 121], by decide, ?_⟩, ?_, ?_⟩
    · show A0.cps.toList.length < _
      rw [hA0]; exact Nat.lt_of_le_of_lt (R0_len (X0_len K hb)) (by decide)
    · show A1.cps.toList.length < _
      rw [hA1]; exact Nat.lt_of_le_of_lt (R1_len (X1_len K hb)) (by decide)
    · show A0.cps.toList = 50 :: 53 :: 55 :: 32 :: 34 :: (dbl M0.cps.toList ++ 34 :: 32 :: [34, 121])
      rw [hA0, e0, R0_form]
    · show A1.cps.toList = 50 :: 53 :: 55 :: 32 :: 34 :: (dbl M1.cps.toList ++ 34 :: 32 :: [34, 121])
      rw [hA1, e1, R1_form]
    · show M0.cps.toList.length < _
      rw [e0]; exact Nat.lt_trans (m0_len (X0_len K hb)) (by decide)
    · show M1.cps.toList.length < _
      rw [e1]; exact Nat.lt_trans (m1_len (X1_len K hb)) (by decide)
  obtain ⟨t1, t2, v1, v2, h⟩ := stmt12 w b1 b2 g x Kx n t (toD (1 + z) lk z M0 q0 M1 q1 A0 u0 A1 u1 j0 j1 ke) hx OK
  have St : Step (Wf w b1 b2) g.L 12 3 ([g.frL ((Wf w b1 b2)).params 13, [(g.wd, lstO (strVs [(A0, u0), (A1, u1), (⟨#[]⟩, ke)]) 0)], [(g.re, lstO (strVs [(A0, j0), (A1, j1)]) 2)], [(g.na, lstO (strVs [(M0, q0), (M1, q1)]) 0)], [(x.L, instO 183 x.Ld)], [(x.Ld, lexD ((Wf w b1 b2)).params x Kx (1 + z) lk)]])
    (([(toL2 g n t2).frL ((Wf w b1 b2)).params 14, [(g.wd, lstO (strVs [(A0, u0), (A1, u1), (⟨#[]⟩, ke)]) 0)], [(g.re, lstO (strVs [(A0, j0), (A1, j1)]) 2)], [(g.na, lstO (strVs [(M0, q0), (M1, q1)]) 0)], [(x.L, instO 183 x.Ld)], [(x.Ld, lexD ((Wf w b1 b2)).params x Kx (1 + z) lk)]]) ++ [[(n + 5, lstO (strVs [(M0, v1), (M1, v2)]) 2)]]) n t (n + 15) (t2 + 1) := h
  subst hM0 hM1
  exact Good.next St [0, 6, 8, 9, 11, 10, 13, 14, 12, 7, 3, 15, 16, 17] (by decide) (by kernel_rfl) (by kernel_rfl)
    (g15 w b1 b2 (toL2 g n t2) S ⟨⟨m0N (ch.map (·.1)) ss g.bk.1⟩⟩ q0 ⟨⟨m1N (ch.map (·.1)) ss g.bk.1⟩⟩ q1 C q a0 more ch epc _ _ H ss K hb k0 l1 k1 v1 v2 fl ep sl hfl hsl c1 c2 c4)
theorem g10 (g : Lv) (S : Addr) (q0 q1 : Tok) (ch : List (Nat × Tok)) (epc : Nat) (n t : Nat) (H : SetOk (ch.map (·.1)))
    (ss : List Nat) (K : ChkOk (ch.map (·.1)) ss g.bk.1) (hb : g.bk.1 ≤ 2) (k0 : Tok) (l1 : Str) (k1 : Tok) (j0 j1 : Tok) (c f0 f1 : Nat) (hc : white c = true) (hf0 : f0 < 3) (hf1 : f1 < 3) (htx : g.tx.1.cps.toList = c :: (swL f0 (R0L (ch.map (·.1)) ss g.bk.1) ++ c :: swL f1 (R1L (ch.map (·.1)) ss g.bk.1)))
    (fl : List (Nat × Tok)) (ep : Nat) (sl : List (Nat × Tok)) (hfl : fl.map (·.1) = flN (ch.map (·.1)) ss) (hsl : sl.map (·.1) = slN (ch.map (·.1)) ss) (c1 c2 c4 : Obj) (A0 A1 M0 M1 : Str) (hA0 : A0 = ⟨⟨R0L (ch.map (·.1)) ss g.bk.1⟩⟩) (hA1 : A1 = ⟨⟨R1L (ch.map (·.1)) ss g.bk.1⟩⟩)
    (hM0 : M0 = ⟨⟨m0N (ch.map (·.1)) ss g.bk.1⟩⟩) (hM1 : M1 = ⟨⟨m1N (ch.map (·.1)) ss g.bk.1⟩⟩) :
    Good (Wf w b1 b2) g.L S c4 10 ([g.frL ((Wf w b1 b2)).params 10, [(189, fldO [])]] ++ [[(g.re, lstO (strVs [(A0, j0), (A1, j1)]) 2)], [(g.fi, lstO (natA fl) ep)], [(g.se, lstO (natA sl) 0)], [(g.le, lstO #[.str ⟨⟨X0N (ch.map (·.1)) ss g.bk.1⟩⟩ k0, .str l1 k1] 0)], [(g.na, lstO (strVs [(M0, q0), (M1, q1)]) 0)], [(g.ch, lstO (natA ch) epc)], [(g.L + 3, cellN)], [(89, fldO [])], [(g.L + 1, c1)], [(g.L + 2, c2)], [(S, c4)]]) n t := by
  have p0 : 0 < (R0L (ch.map (·.1)) ss g.bk.1).length := Nat.succ_pos _
  have p1 : 0 < (R1L (ch.map (·.1)) ss g.bk.1).length := Nat.succ_pos _
  have L0 := (swL_len f0 _ p0).2
  have L1 := (swL_len f1 _ p1).2
  have N0 := R0_len (X0_len K hb)
  have N1 := R1_len (X1_len K hb)
  have hlen : g.tx.1.cps.toList.length ≤ 2000 := by rw [htx]; simp only [List.length_cons, List.length_append]; omega
  have hw : c < 128 := by
    have h4 := hc
    unfold white at h4
    simp only [Bool.or_eq_true, beq_iff_eq] at h4
    rcases h4 with ((rfl | rfl) | rfl) | rfl <;> decide
  have m0s : ∀ d ∈ swL f0 (R0L (ch.map (·.1)) ss g.bk.1), d < 128 ∧ d ≠ 10 := fun d hd => by
    rcases sw_mem _ _ d hd with h | rfl | rfl
    · exact ⟨repC_lt (r0_mem _ _ _ d h), (repC_plain (r0_mem _ _ _ d h)).2⟩
    · decide
    · decide
  have m1s : ∀ d ∈ swL f1 (R1L (ch.map (·.1)) ss g.bk.1), d < 128 ∧ d ≠ 10 := fun d hd => by
    rcases sw_mem _ _ d hd with h | rfl | rfl
    · exact ⟨repC_lt (r1_mem _ _ _ d h), (repC_plain (r1_mem _ _ _ d h)).2⟩
    · decide
    · decide
  have hasc : ascii g.tx.1 = true := by
    have : g.tx.1 = ⟨⟨g.tx.1.cps.toList⟩⟩ := rfl
    rw [this, htx]
    refine ascii_of fun d hd => ?_
    rcases List.mem_cons.mp hd with rfl | hd
    · exact hw
    · rcases List.mem_append.mp hd with hd | hd
      · exact (m0s d hd).1
      · rcases List.mem_cons.mp hd with rfl | hd
        · exact hw
        · exact (m1s d hd).1
  have hln := tx_lines c _ _ (fun d hd => (m0s d hd).2) (fun d hd => (m1s d hd).2)
  rw [← htx] at hln
  obtain ⟨ba, bb, ra, la, s1, s2, s3⟩ := three_words hc hf0 hf1 (x0 := r0N (ch.map (·.1)) ss g.bk.1) (x1 := r1N (ch.map (·.1)) ss g.bk.1) (cs := num g.tx.1.cps.toList (t + 1)) (fun d hd => repC_plain (r0_mem _ _ _ d hd)) (fun d hd => repC_plain (r1_mem _ _ _ d hd)) (by rw [fsts_num]; exact htx)
  have nl := num_len g.tx.1.cps.toList (t + 1)
  obtain ⟨⟨ay, ak, an, aT, al, alk, ar, aep⟩, ⟨by', bk', bn, bT, bl, blk, br, bep⟩, ⟨cy, ck, cn, cT, cl, clk, cr, cep⟩, T, ⟨y1, y2, y3, y4⟩, h⟩ := stmt10 w b1 b2 g n t hasc (by omega) ba bb false _ _ ⟨#[]⟩ ra [] [] la _ _ s1 s2 rfl (by omega) (by decide)
  have r1 : ay = A0 := by rw [hA0]; exact y1
  have r2 : by' = A1 := by rw [hA1]; exact y2
  have r3 : cy = ⟨#[]⟩ := y3
  have r4 : cl = 1 + ((posL 10 g.tx.1.cps.toList 0).length : Nat) := by rw [← hln]; exact y4
  generalize hzz : (((posL 10 g.tx.1.cps.toList 0).length : Nat) : Int) = zz at r4
  clear y1 y2 y3 y4
  subst r1 r2 r3 r4
  have e0 : ay.cps.toList = R0L (ch.map (·.1)) ss g.bk.1 := by rw [hA0]
  have e1 : by'.cps.toList = R1L (ch.map (·.1)) ss g.bk.1 := by rw [hA1]
  have St : Step (Wf w b1 b2) g.L 10 2 _ _ n t _ _ := h
  exact Good.next St [0, 11, 12, 16, 2, 3, 7, 13, 14, 15, 17, 1, 18, 19, 20, 21, 22] (by decide) (by kernel_rfl) (by kernel_rfl)
    (g12 w b1 b2 (tkL g n T ⟨⟨#[]⟩, ck, cn, cT, 1 + zz, clk, cr, cep⟩) S q0 q1 (lx1 n) (K1 T) rfl (n + 18) (K1 T 12) (.str "<lambda>" (T + 15)) (more1 n T) ch epc _ _ H ss K hb k0 l1 k1 zz clk hzz ak bk' j0 j1 ck fl ep sl hfl hsl c1 c2 c4 ay by' M0 M1 e0 e1 hM0 hM1)
end
end
end Mine

namespace Mine
section
open PySem PySem.W Sem
theorem rep_eq (Y : List Nat) : repW ⟨⟨Y⟩⟩ = ⟨⟨50 :: 53 :: 55 :: 32 :: 34 :: (Y ++ [34, 32, 34, 121])⟩⟩ := Str.ext' (by
  unfold repW
  show ((((⟨#[50, 53, 55, 32, 34]⟩ : Str) ++ (⟨⟨Y⟩⟩ : Str)).cps) ++ #[34, 32, 34, 121]).toList = _
  rw [Array.toList_append]
  show ((#[50, 53, 55, 32, 34] : Array Nat) ++ (⟨Y⟩ : Array Nat)).toList ++ [34, 32, 34, 121] = _
  rw [Array.toList_append]; rfl)
theorem app_eq (X Y : List Nat) : (⟨⟨X⟩⟩ : Str) ++ (⟨⟨Y⟩⟩ : Str) = (⟨⟨X ++ Y⟩⟩ : Str) := Str.ext' (by
  show ((⟨X⟩ : Array Nat) ++ (⟨Y⟩ : Array Nat)).toList = _
  rw [Array.toList_append])
theorem wh_white (k : Nat) : white (whN k) = true := by
  unfold whN
  split <;> decide
section
variable (w : World) (b1 b2 : Bool)
theorem g8 (g : Lv) (S : Addr) (q0 q1 : Tok) (ch : List (Nat × Tok)) (epc : Nat) (n t : Nat) (H : SetOk (ch.map (·.1)))
    (ss : List Nat) (K : ChkOk (ch.map (·.1)) ss g.bk.1) (hb : g.bk.1 ≤ 2) (k0 : Tok) (l1 : Str) (k1 : Tok) (j0 j1 : Tok)
    (fl : List (Nat × Tok)) (ep : Nat) (sl : List (Nat × Tok)) (hfl : fl.map (·.1) = flN (ch.map (·.1)) ss) (hsl : sl.map (·.1) = slN (ch.map (·.1)) ss) (c1 c4 : Obj) (A0 A1 M0 M1 : Str) (hA0 : A0 = ⟨⟨R0L (ch.map (·.1)) ss g.bk.1⟩⟩) (hA1 : A1 = ⟨⟨R1L (ch.map (·.1)) ss g.bk.1⟩⟩)
    (hM0 : M0 = ⟨⟨m0N (ch.map (·.1)) ss g.bk.1⟩⟩) (hM1 : M1 = ⟨⟨m1N (ch.map (·.1)) ss g.bk.1⟩⟩) :
    Good (Wf w b1 b2) g.L S c4 8 ([g.frL ((Wf w b1 b2)).params 8, [(g.L + 2, cellO (.ref g.su))], [(g.su, g.sums)], [(g.re, reO A0 j0 A1 j1)]] ++ [[(189, fldO [])], [(g.fi, lstO (natA fl) ep)], [(g.se, lstO (natA sl) 0)], [(g.le, lstO #[.str ⟨⟨X0N (ch.map (·.1)) ss g.bk.1⟩⟩ k0, .str l1 k1] 0)], [(g.na, lstO (strVs [(M0, q0), (M1, q1)]) 0)], [(g.ch, lstO (natA ch) epc)], [(g.L + 3, cellN)], [(89, fldO [])], [(g.L + 1, c1)], [(S, c4)]]) n t := by
  have e0 : A0.cps.toList = R0L (ch.map (·.1)) ss g.bk.1 := by rw [hA0]
  have e1 : A1.cps.toList = R1L (ch.map (·.1)) ss g.bk.1 := by rw [hA1]
  have N0 := R0_len (X0_len K hb)
  have N1 := R1_len (X1_len K hb)
  have p0 : 0 < (R0L (ch.map (·.1)) ss g.bk.1).length := Nat.succ_pos _
  have p1 : 0 < (R1L (ch.map (·.1)) ss g.bk.1).length := Nat.succ_pos _
  obtain ⟨d, ⟨h0, h1⟩, h⟩ := stmt8 w b1 b2 g A0 j0 A1 j1 n t (by rw [hA0]; exact ascii_of fun d hd => repC_lt (r0_mem _ _ _ d hd)) (by rw [hA1]; exact ascii_of fun d hd => repC_lt (r1_mem _ _ _ d hd)) (by rw [e0]; omega) (by rw [e1]; omega) (by rw [e0]; exact p0) (by rw [e1]; exact p1)
  rw [e0] at h0
  rw [e1] at h1
  have St : Step (Wf w b1 b2) g.L 8 2 _ _ n t _ _ := h
  exact Good.next St [0, 4, 3, 5, 6, 7, 8, 9, 10, 11, 12, 1, 13] (by decide) (by kernel_rfl) (by kernel_rfl)
    (g10 w b1 b2 (txL g (whN (g.N2 / 27 % 4)) t d) S q0 q1 ch epc _ _ H ss K hb k0 l1 k1 j0 j1 (whN (g.N2 / 27 % 4)) (g.N2 / 3 % 3) (g.N2 / 9 % 3) (wh_white _) (Nat.mod_lt _ (by decide)) (Nat.mod_lt _ (by decide)) (by show (txW (whN (g.N2 / 27 % 4)) d.y0 d.y1).cps.toList = _; rw [h0, h1, tx_eq]; rfl)
      fl ep sl hfl hsl c1 (cellO (.ref g.su)) c4 A0 A1 M0 M1 hA0 hA1 hM0 hM1)
theorem g5 (g : Lv) (S : Addr) (ch : List (Nat × Tok)) (epc : Nat) (n t : Nat) (H : SetOk (ch.map (·.1)))
    (ss : List Nat) (K : ChkOk (ch.map (·.1)) ss g.bk.1) (hb : g.bk.1 ≤ 2)
    (fl : List (Nat × Tok)) (ep : Nat) (sl : List (Nat × Tok)) (hfl : fl.map (·.1) = flN (ch.map (·.1)) ss) (hsl : sl.map (·.1) = slN (ch.map (·.1)) ss) (c1 c4 : Obj) :
    Good (Wf w b1 b2) g.L S c4 5 ([g.frL ((Wf w b1 b2)).params 5, [(g.fi, lstO (natA fl) ep)], [(g.se, lstO (natA sl) 0)]] ++ [[(g.L + 2, cellO (.ref g.su))], [(g.su, g.sums)], [(189, fldO [])], [(g.ch, lstO (natA ch) epc)], [(g.L + 3, cellN)], [(89, fldO [])], [(g.L + 1, c1)], [(S, c4)]]) n t := by
  have lf : fl.length ≤ 100 := by have h := K.fl; rwa [← hfl, List.length_map] at h
  have ls : sl.length ≤ 100 := by have h := K.sl; rwa [← hsl, List.length_map] at h
  have ll0 : (leadL fl).length ≤ 300 := by rw [leadL_map, hfl]; exact K.l0
  have ll1 : (leadL sl).length ≤ 300 := by rw [leadL_map, hsl]; exact K.l1
  obtain ⟨d, ok, h⟩ := stmt5 w b1 b2 g fl ep sl n t hb (by omega) (fun r hr => by have := K.fr r.1 (by rw [← hfl]; exact List.mem_map.mpr ⟨r, hr, rfl⟩); omega) (by omega) (by omega) (fun r hr => by have := K.sr r.1 (by rw [← hsl]; exact List.mem_map.mpr ⟨r, hr, rfl⟩); omega) (by omega)
  have E0 : leadL fl ++ List.replicate g.bk.1 32 = X0N (ch.map (·.1)) ss g.bk.1 := by rw [leadL_map, hfl]; rfl
  have E1 : leadL sl ++ List.replicate (g.bk.1 + 1) 32 = X1N (ch.map (·.1)) ss g.bk.1 := by rw [leadL_map, hsl]; rfl
  rw [E0, E1] at ok
  obtain ⟨x0, x1, y0, y1⟩ := ok
  have hle : d.le = lstO #[.str ⟨⟨X0N (ch.map (·.1)) ss g.bk.1⟩⟩ d.k0, .str d.x1 d.k1] 0 := by unfold NmD.le; rw [x0]
  have hm0 : d.m0 = ⟨⟨m0N (ch.map (·.1)) ss g.bk.1⟩⟩ := by unfold NmD.m0 m0N; rw [x0, app_eq]
  have hm1 : d.m1 = ⟨⟨m1N (ch.map (·.1)) ss g.bk.1⟩⟩ := by unfold NmD.m1 m1N; rw [x1, app_eq]
  have hr0 : repW d.y0 = ⟨⟨R0L (ch.map (·.1)) ss g.bk.1⟩⟩ := by rw [y0, rep_eq]; rfl
  have hr1 : repW d.y1 = ⟨⟨R1L (ch.map (·.1)) ss g.bk.1⟩⟩ := by rw [y1, rep_eq]; rfl
  rw [hle] at h
  have St : Step (Wf w b1 b2) g.L 5 3 _ _ n t _ _ := h
  exact Good.next St [0, 6, 7, 5, 8, 1, 2, 3, 4, 9, 10, 11, 12, 13] (by decide) (by kernel_rfl) (by kernel_rfl)
    (g8 w b1 b2 (nmL g d) S d.k3 (d.t3 + 2) ch epc _ _ H ss K hb d.k0 d.x1 d.k1 (d.t3 + 11) (d.t3 + 19) fl ep sl hfl hsl c1 c4 (repW d.y0) (repW d.y1) d.m0 d.m1 hr0 hr1 hm0 hm1)
theorem g2 (g : Lv) (S : Addr) (ch : List (Nat × Tok)) (epc : Nat) (n t : Nat) (hch : ch.map (·.1) = chosenL g.N0 1 6) (c1 c4 : Obj) :
    Good (Wf w b1 b2) g.L S c4 2 (([g.frL ((Wf w b1 b2)).params 1] ++ g.suL ++ [[(g.ch, lstO (natA ch) epc)]]) ++ [[(189, fldO [])], [(g.L + 3, cellN)], [(89, fldO [])], [(g.L + 1, c1)], [(S, c4)]]) n t := by
  have hbk : g.N2 % 3 < 3 := Nat.mod_lt _ (by decide)
  have H : SetOk (ch.map (·.1)) := by rw [hch]; exact set_ok (set_of g.N0)
  have K : ChkOk (ch.map (·.1)) ([g.N1 % 3, g.N1 / 3 % 3].take (g.N1 / 9 % 3)) (g.N2 % 3) := by rw [hch]; exact chk_ok (chk_of g.N0 g.N1 (g.N2 % 3) hbk)
  obtain ⟨n', t', A, B, sh, fl, ep, sl, h0, h1, h2, h⟩ := stmt2 w b1 b2 g ch epc n t
  rw [h0, inL_map] at h1 h2
  have St : Step (Wf w b1 b2) g.L 2 3 _ _ n t _ _ := h
  exact Good.next St [0, 5, 6, 1, 2, 7, 3, 8, 9, 10, 11] (by decide) (by kernel_rfl) (by kernel_rfl)
    (g5 w b1 b2 (st2L g n t t' A B) S ch epc _ _ H _ K (Nat.le_of_lt_succ hbk) fl ep sl h1 h2 c1 c4)
noncomputable def ch1L (g : Lv) (n t : Nat) : Lv := { (g.kn 0 (t + 51)) with ch := n + 2 }
theorem g1 (g : Lv) (S : Addr) (n t : Nat) (c1 c4 : Obj) :
    Good (Wf w b1 b2) g.L S c4 1 (([g.frL ((Wf w b1 b2)).params 0] ++ g.suL) ++ [[(189, fldO [])], [(g.L + 3, cellN)], [(89, fldO [])], [(g.L + 1, c1)], [(S, c4)]]) n t := by
  obtain ⟨ys, ep, hy, h⟩ := stmt1 w b1 b2 g n t
  have St : Step (Wf w b1 b2) g.L 1 1 ([g.frL ((Wf w b1 b2)).params 0] ++ g.suL) (([(ch1L g n t).frL ((Wf w b1 b2)).params 1] ++ g.suL) ++ [[(n + 2, lstO (natA ys) ep)]]) n t (n + 6) (t + 52) := h
  exact Good.next St [0, 1, 2, 3, 4, 5, 6, 7, 8] (by decide) (by kernel_rfl) (by kernel_rfl)
    (g2 w b1 b2 (ch1L g n t) S ys ep _ _ hy c1 c4)
noncomputable def lvZ (L S su N0 N1 N2 : Nat) (k0 k1 k2 : Tok) : Lv := ⟨L, S, su, fun _ => 0, N0, N1, N2, k0, k1, k2, 0, 0, (0, 0), 0, 0, 0, 0, 0, (⟨#[]⟩, 0), (⟨#[]⟩, 0), 0, 0, 0, 0, 0, 0, 0, 0, .none, .none, .none, 0, (0, 0), 0, (⟨#[]⟩, 0), (⟨#[]⟩, 0), 0, 0⟩
/-- the law whole -/
theorem law_walk (L S n t : Nat) (scr : List (Int × Tok)) (eps : Nat) (hz : scr.length ≤ 63) :
    Good (Wf w b1 b2) L S (lstO (izA scr) eps) 0 ([[(L, lfO [] 0 #[])], [(L + 1, cellO (.ref S))], [(L + 2, cellN)], [(S, lstO (izA scr) eps)]] ++ [[(189, fldO [])], [(L + 3, cellN)], [(89, fldO [])]]) n t := by
  obtain ⟨N0, N1, N2, k0, k1, k2, n', t', _, h⟩ := stmt0 w b1 b2 L S n t scr eps hz
  have St : Step (Wf w b1 b2) L 0 1 _ _ n t n' t' := h
  exact Good.next St [0, 2, 4, 5, 6, 7, 1, 3] (by decide) (by kernel_rfl) (by kernel_rfl) (g1 w b1 b2 (lvZ L S (n + 3) N0 N1 N2 k0 k1 k2) S n' t' (cellO (.ref S)) (lstO (izA scr) eps))
end
end
end Mine

namespace Mine
section
open PySem PySem.W Sem
/-- the law's own contract -/
noncomputable def lawX (f : FuncData) (L S : Addr) (so : Obj) (n t N T : Nat) (o0 o1 o2 o3 : Obj) (l5 l6 : List Value) : XS :=
  mkx (.func (bodyOf f) (lawEnv f L)) none [.builtin "claim.caller" {}] n t [[(L, lfO [] 0 #[])], [(L + 1, cellO (.ref S))], [(L + 2, cellN)], [(L + 3, cellN)], [(S, so)], [(89, fldO [])], [(189, fldO [])]]
    ⟨.ok (.ret (.bool true)), N, T, [[(L, o0)], [(L + 1, o1)], [(L + 2, o2)], [(L + 3, o3)], [(S, so)], [(89, fldO l5)], [(189, fldO l6)]], []⟩
/-- the call of the law -/
noncomputable def callX (f : FuncData) (S : Addr) (so : Obj) (n t N T : Nat) (o0 o1 o2 o3 : Obj) (l5 l6 : List Value) : ConX :=
  ⟨.call (.ref 223) ⟨[.ref S], []⟩, [.builtin "claim.caller" {}], n, t, [[(S, so)], [(89, fldO [])], [(189, fldO [])]],
    ⟨.ok (.ret (.bool true)), N, T, [[(S, so)], [(89, fldO l5)], [(189, fldO l6)]], []⟩,
    [lawX f n S so (n + 4) t N T o0 o1 o2 o3 l5 l6]⟩
theorem func_ret {w : World} {prog : Program} {body : List Stmt} {env : Env} {below : List (Code × Pos)} {v : Value} {R : Shared → Prop} {p : Pos} {s : Shared}
    (h : ∀ p, wp (model prog w) ⟨.func body env, none, none, below, none⟩ (execs body env) (fun f _ s' => f = .ret v ∧ R s') (fun _ _ _ => False) p s) : ∃ s', Returns (model prog w) ⟨.func body env, none, none, below, none⟩ p s (.ok (.ret v)) s' ∧ R s' := by
  have hw2 : wp (model prog w) ⟨.func body env, none, none, below, none⟩ (denote table (.func body env)) (finPost (model prog w) ⟨.func body env, none, none, below, none⟩ (fun r' s'' => r' = .ok (.ret v) ∧ R s'')) (fun e _ s'' => (.error e : Result) = .ok (.ret v) ∧ R s'') p s := by
    show wp _ _ (PySem.point >>= fun _ => ((execs body env).onRaise (leaving env)) >>= _) _ _ _ _
    rw [wp_bind', wp_cmd_point, wp_bind', wp_onRaise]
    refine wp_mono _ _ _ ?_ (fun _ _ _ x => x.elim) _ _ (h _)
    rintro a p2 s2 ⟨rfl, h2⟩
    exact ⟨rfl, h2⟩
  obtain ⟨r', s'', hr, rfl, hR⟩ := (wp_iff_runs _ _ _ _ _ _).mp hw2
  exact ⟨s'', hr, hR⟩
theorem Ends.zero {w : World} {L : Addr} {N T : Nat} {E lots : List (List Ent)} {n t : Nat} (h : Ends w L N T E 0 lots n t) {s0 : Shared} {old : List Addr} {s : Shared} {p : Pos} {p0 : Pos} (A : At (stW w) s0 old lots n t s) :
    wp (model prog w) (lawG (bodyOf (lawF w)) (lawEnv (lawF w) L) p0) (execs (bodyOf (lawF w)) (lawEnv (lawF w) L)) (fun f _ s' => f = .ret (.bool true) ∧ At (stW w) s0 old E N T s') (fun _ _ _ => False) p s := by
  have := h s0 old s p p0 A
  rwa [List.drop_zero] at this
theorem Ends.valid {w : World} {L S : Addr} {so o0 o1 o2 o3 : Obj} {l5 l6 : List Value} {n t N T : Nat} (E : Ends w L N T [[(L, o0)], [(L + 1, o1)], [(L + 2, o2)], [(L + 3, o3)], [(S, so)], [(89, fldO l5)], [(189, fldO l6)]] 0
    ([[(L, lfO [] 0 #[])], [(L + 1, cellO (.ref S))], [(L + 2, cellN)], [(S, so)]] ++ [[(189, fldO [])], [(L + 3, cellN)], [(89, fldO [])]]) n t) : (lawX (lawF w) L S so n t N T o0 o1 o2 o3 l5 l6).Valid (model prog w) (stW w) := by
  generalize hf : lawF w = f at *
  refine mkx_intro fun below p s hb hp => ?_
  have A1 : At (stW w) s (adr ([[(L, lfO [] 0 #[])], [(L + 1, cellO (.ref S))], [(L + 2, cellN)], [(L + 3, cellN)], [(S, so)], [(89, fldO [])], [(189, fldO [])]] : List (List Ent)).flatten) ([[(L, lfO [] 0 #[])], [(L + 1, cellO (.ref S))], [(L + 2, cellN)], [(S, so)]] ++ [[(189, fldO [])], [(L + 3, cellN)], [(89, fldO [])]]) n t s :=
    (At.init hp).pick [0, 1, 2, 4, 6, 3, 5] (by decide) (all_lt (by kernel_rfl)) (by kernel_rfl)
  obtain ⟨p0, rfl⟩ : ∃ p0, below = [(.builtin "claim.caller" {}, p0)] := by
    obtain ⟨q, hq⟩ := mkB_of below
    rw [hb] at hq
    exact ⟨q 0, hq⟩
  have E0 := fun p => E.zero (p := p) (p0 := p0) A1
  rw [hf] at E0
  obtain ⟨s', hr, A'⟩ := func_ret (w := w) (prog := prog) (body := bodyOf f) (env := lawEnv f L) (below := [(.builtin "claim.caller" {}, p0)]) (v := .bool true) (p := p) E0
  exact ⟨s', hr, At.final (news := []) A' rfl⟩
section
variable (w : World) (b1 b2 : Bool)
theorem lawX_ok (L S n t : Nat) (scr : List (Int × Tok)) (eps : Nat) (hz : scr.length ≤ 63) : ∃ (N T : Nat) (o0 o1 o2 o3 : Obj) (l5 l6 : List Value), (lawX (lawF (Wf w b1 b2)) L S (lstO (izA scr) eps) n t N T o0 o1 o2 o3 l5 l6).Valid (model prog (Wf w b1 b2)) (stW (Wf w b1 b2)) := by
  obtain ⟨N, T, o0, o1, o2, o3, l5, l6, E⟩ := law_walk w b1 b2 L S n t scr eps hz
  exact ⟨N, T, o0, o1, o2, o3, l5, l6, E.valid⟩
theorem callV (S n t : Nat) (scr : List (Int × Tok)) (eps : Nat) (hz : scr.length ≤ 63) : ∃ (N T : Nat) (o0 o1 o2 o3 : Obj) (l5 l6 : List Value), (callX (lawF (Wf w b1 b2)) S (lstO (izA scr) eps) n t N T o0 o1 o2 o3 l5 l6).sp.Valid (model prog (Wf w b1 b2)) (stW (Wf w b1 b2)) := by
  obtain ⟨N, T, o0, o1, o2, o3, l5, l6, V⟩ := lawX_ok w b1 b2 n S (n + 4) t scr eps hz
  refine ⟨N, T, o0, o1, o2, o3, l5, l6, ConX.valid _ 100 122330817134019094813755282898944 (allx_cons V allx_nil) rfl ?_⟩
  intro p q
  clear V
  (generalize b1 = c1; generalize b2 = c2; revert c1 c2; refine split2 ?_ ?_ ?_ ?_ <;> kernel_rfl)
/-- the call, in the caller's own place -/
theorem call_wp (S n t : Nat) (scr : List (Int × Tok)) (eps : Nat) (hz : scr.length ≤ 63) (s : Shared) (hp : PreOk (stW (Wf w b1 b2)) [(S, lstO (izA scr) eps), (89, fldO []), (189, fldO [])] n t s) (p : Pos) :
    wp (model prog (Wf w b1 b2)) Gc (PySem.call (.ref 223) [.ref S]) (fun v _ s' => v = .bool true ∧ (∃ l, s'.heap.get? 89 = some (fldO l)) ∧ (∃ l, s'.heap.get? 189 = some (fldO l)) ∧ s'.heap.get? S = some (lstO (izA scr) eps) ∧ Fra [S, 89, 189] s s') (fun _ _ _ => False) p s := by
  obtain ⟨N, T, o0, o1, o2, o3, l5, l6, V⟩ := callV w b1 b2 S n t scr eps hz
  obtain ⟨s', hr, po⟩ := mkx_elim V [(.builtin "claim.caller" {}, p)] p (s := s) rfl hp
  show wp _ _ (runValue _) _ _ _ _
  rw [wp_runValue]
  exact ⟨_, s', hr, rfl, ⟨l5, po.own (89, _) (List.mem_cons_of_mem _ (List.mem_cons_self ..))⟩, ⟨l6, po.own (189, _) (List.mem_cons_of_mem _ (List.mem_cons_of_mem _ (List.mem_cons_self ..)))⟩, po.own (S, _) (List.mem_cons_self ..), po.fra⟩
end
end
end Mine

namespace Mine
section
open PySem PySem.W Sem
theorem recall (w : World) : ∃ b1 b2, Wf w b1 b2 = w := by
  refine ⟨w.params.followText "comprehension-iter-twice", w.params.followText "special-get-raises", ?_⟩
  unfold Wf
  rw [World.withFollow_self, World.withFollow_self]
theorem lay_ints {R : WRecords} {cl : Str → Option Addr} {P : Params} {ord : List DictEntry → List DictEntry} : ∀ (ds : List WData) (s : Shared), WShape.hasItems R ds .int = true →
    ∃ scr : List (Int × Tok), scr.length = ds.length ∧ layAllW R cl P ord ds s = some (izVs scr, { s with toks := s.toks + ds.length })
  | [], s, _ => ⟨[], rfl, rfl⟩
  | d :: ds, s, h => by
    have h' : WShape.has R d .int = true ∧ WShape.hasItems R ds .int = true := by
      have : (WShape.has R d .int && WShape.hasItems R ds .int) = true := by simpa only [WShape.hasItems] using h
      exact Bool.and_eq_true_iff.mp this
    obtain ⟨i, rfl⟩ := hasW_int h'.1
    obtain ⟨scr, h1, h2⟩ := lay_ints ds { s with toks := s.toks + 1 } h'.2
    refine ⟨(i, s.toks) :: scr, by rw [List.length_cons, List.length_cons, h1], ?_⟩
    unfold layAllW layW
    dsimp only
    rw [h2]
    dsimp only
    have : s.toks + 1 + ds.length = s.toks + (ds.length + 1) := by omega
    rw [this]; rfl
theorem holds_all {s : Shared} {w : World} (y : obs1 s = val1 w) : ∀ q ∈ allSt w.params, s.heap.get? q.1 = some q.2 := by
  unfold obs1 val1 at y
  rw [← as0_eq w.params, List.map_map] at y
  exact List.map_inj_left.mp y
theorem st_89 (P : Params) : (st P).get 89 = none := by kernel_rfl
theorem st_189 (P : Params) : (st P).get 189 = none := by kernel_rfl
theorem st_223 (P : Params) : (st P).get 223 = some (hd.o_276 P) := by kernel_rfl
theorem st_93 (P : Params) : (st P).get 93 = some (hd.o_136 P) := by kernel_rfl
theorem st_193 (P : Params) : (st P).get 193 = some (hd.o_244 P) := by kernel_rfl
theorem st_3 (P : Params) : (st P).get 3 = some (hd.o_251 P) := by kernel_rfl
noncomputable def flds (o : Obj) : Array Value := match o.data with | .fields v => v | _ => #[]
theorem code_93 (P : Params) : (hd.o_136 P).cls = .type "code" ∧ (hd.o_136 P).data = .fields (flds (hd.o_136 P)) ∧ (flds (hd.o_136 P))[11]? = some (.ref 89) := ⟨rfl, rfl, by kernel_rfl⟩
theorem code_193 (P : Params) : (hd.o_244 P).cls = .type "code" ∧ (hd.o_244 P).data = .fields (flds (hd.o_244 P)) ∧ (flds (hd.o_244 P))[11]? = some (.ref 189) := ⟨rfl, rfl, by kernel_rfl⟩
/-- what is kept of the heap -/
theorem old_kept {h h' : Heap} {S : Addr} {ls : Obj} {l5 l6 : List Value} (k89 : h.get? 89 = some (fldO [])) (k189 : h.get? 189 = some (fldO [])) (kS : h.get? S = some ls) (t89 : isCodeTable h 89) (t189 : isCodeTable h 189)
    (r89 : h'.get? 89 = some (fldO l5)) (r189 : h'.get? 189 = some (fldO l6)) (rS : h'.get? S = some ls) (keep : ∀ b, b < h.objs.size → b ∉ [S, 89, 189] → h'.get? b = h.get? b) : OldK h h' := by
  have one : ∀ (a : Addr) (l : List Value), h.get? a = some (fldO []) → isCodeTable h a → h'.get? a = some (fldO l) → ∀ o, h.get? a = some o → asItWas h h' a o := by
    intro a l k t r o ho
    have : o = fldO [] := Option.some.inj (ho.symm.trans k)
    subst this
    refine .inr (.inl ⟨t, rfl, #[], ⟨l⟩, rfl, ?_⟩)
    rw [r, Array.empty_append]; rfl
  refine ⟨fun b o e => ?_, fun b o e => ?_⟩
  · by_cases h1 : b = 89
    · subst h1; exact one _ _ k89 t89 r89 o e
    · by_cases h2 : b = 189
      · subst h2; exact one _ _ k189 t189 r189 o e
      · by_cases h3 : b = S
        · subst h3
          have : o = ls := Option.some.inj (e.symm.trans kS)
          subst this
          exact .inl rS
        · exact .inl ((keep b (Heap.lt_size e) (by simp [h1, h2, h3])).trans e)
  · by_cases h1 : b = 89
    · subst h1; exact ⟨_, r89⟩
    · by_cases h2 : b = 189
      · subst h2; exact ⟨_, r189⟩
      · by_cases h3 : b = S
        · subst h3; exact ⟨_, rS⟩
        · exact ⟨o, (keep b (Heap.lt_size e) (by simp [h1, h2, h3])).trans e⟩
theorem ns_law (P : Params) {h : Heap} (e : h.get? 3 = some (hd.o_251 P)) : h.nsMap mainGlobals "law" = some (.ref 223) := by
  have e' : h.get? mainGlobals = some (hd.o_251 P) := e
  unfold Heap.nsMap
  rw [e']
  kernel_rfl
end
end Mine

namespace Mine
section
open PySem PySem.W PyProof.Rows Sem
theorem len_ok {ds : List WData} (h : (PySem.Challenge.rw_rl0089_01.row.pre).holds theRow.records { args := [.list ds] } = true) : ds.length ≤ 63 := by
  have e : PySem.Challenge.rw_rl0089_01.row.pre = .and (.not (.lt (.lit (.int 63)) (.len (.arg 0)))) (.lit (.bool true)) := rfl
  rw [e] at h
  simp only [WTm.holds, WTm.value] at h
  have hl : less? (.int 63) (.int (ds.length : Nat)) = some (decide ((63 : Int) < (ds.length : Nat))) := rfl
  dsimp only [List.getElem?_cons_zero] at h
  rw [hl] at h
  cases hd : decide ((63 : Int) < (ds.length : Nat)) with
  | false =>
    have := of_decide_eq_false hd
    omega
  | true =>
    rw [hd] at h
    exact absurd h (by decide)
theorem post_ok (args ds : List WData) : theRow.claim.post args (.bool true) ds = true := by kernel_rfl
theorem row_said1 : PySem.Challenge.rw_rl0089_01.row.wellSaid = true := by kernel_rfl
theorem law_said : PySem.Challenge.rw_rl0089_01.wellSaid = true := by
  unfold OpenLaw.wellSaid
  rw [row_said1]
  kernel_rfl
noncomputable def d1 : DefRec := match outS 18 with
  | .FunctionDef n a b _ _ _ sc _ _ p => ⟨n, a, b, sc, p⟩
  | _ => ⟨"law", default, [], default, default⟩
theorem hdef1 : defOf q1 theRow.name = some (d1, []) := by kernel_rfl
theorem hp1 : theRow.prog.theDef theRow.name = some (d1.params, d1.body, d1.scope) := by kernel_rfl
theorem hk1 : kwWritten? d1.params.kwonlyargs d1.params.kw_defaults = some [] := by kernel_rfl
theorem ok1 : (chainsOk q1 && opensWell theRow.prog && (frees theRow.toRowW && theRow.within.isEmpty)) = true := by kernel_rfl
theorem bare1 : theRow.prog.bare := ⟨rfl, rfl, rfl, rfl, rfl, by decide +kernel⟩
theorem promised1 : theRow.toRowW.promised := ⟨[.list []], by decide +kernel, by decide +kernel⟩
/-- the law's call, as the head asks it -/
theorem the_call (w : World) (s s₁ : Shared) (y : obs1 s = val1 w) (hg : s.gens = #[]) (args : List WData) (vs : List Value) (as : List Addr) (hpre : theRow.claim.pre args = true) (L : Laid theRow.records w s s₁ args vs as) :
    ∃ f, s.heap.nsMap mainGlobals theRow.name = some f ∧ ∀ p, wp (model theRow.prog w) Gc (PySem.call f vs) (fun v _ s' => GoodWG theRow.claim (classAt s.heap) (ExcName.means s.heap) args s₁ (.ok (.ret v)) s') (fun _ _ _ => False) p s₁ := by
  have K := holds_all y
  have KS : Stat (st w.params) s.heap := fun a o h => K (a, o) (List.mem_append_right _ (ST.mem _ a o h))
  refine ⟨.ref 223, ns_law w.params (KS 3 _ (st_3 _)), fun p => ?_⟩
  obtain ⟨hsh, hh⟩ := pre_splitW hpre
  obtain ⟨d, r, rfl, h1, h2⟩ := hasAllW_cons (es := []) (e := .list .int) hsh
  have := hasAllW_nil h2
  subst this
  obtain ⟨ds, rfl, h3⟩ := hasW_list h1
  have hz := len_ok hh
  obtain ⟨ord, hord, hlaid⟩ := L.laid
  obtain ⟨scr, hlen, hlay⟩ := lay_ints (R := theRow.records) (cl := classAt s.heap) (P := w.params) (ord := ord) ds s h3
  have hl2 : layAllW theRow.records (classAt s.heap) w.params ord [.list ds] s = some ([.ref s.heap.objs.size], { s with toks := s.toks + ds.length, heap := s.heap.push (lstO (izA scr) 0) }) := by
    unfold layAllW layW
    rw [hlay]
    rfl
  rw [hl2] at hlaid
  injection hlaid with hlaid
  injection hlaid with e1 e2
  subst e1 e2
  have k89 : s.heap.get? 89 = some (fldO []) := K (89, _) (List.mem_cons_self ..)
  have k189 : s.heap.get? 189 = some (fldO []) := K (189, _) (List.mem_cons_of_mem _ (List.mem_cons_self ..))
  have kS : (s.heap.push (lstO (izA scr) 0)).get? s.heap.objs.size = some (lstO (izA scr) 0) := Heap.get?_push_size _ rfl
  have big : 223 < s.heap.objs.size := Heap.lt_size (KS 223 _ (st_223 _))
  obtain ⟨b1, b2, hw⟩ := recall w
  have hp : PreOk (stW (Wf w b1 b2)) [(s.heap.objs.size, lstO (izA scr) 0), (89, fldO []), (189, fldO [])] (s.heap.push (lstO (izA scr) 0)).objs.size (s.toks + ds.length) { s with toks := s.toks + ds.length, heap := s.heap.push (lstO (izA scr) 0) } := by
    rw [hw]
    refine ⟨rfl, rfl, fun q hq => ?_, ?_, fun a o h => Heap.get?_push_of_some _ (KS a o h), fun q hq => ?_⟩
    · rcases List.mem_cons.mp hq with rfl | hq
      · exact kS
      · rcases List.mem_cons.mp hq with rfl | hq
        · exact Heap.get?_push_of_some _ k89
        · rw [List.mem_singleton.mp hq]; exact Heap.get?_push_of_some _ k189
    · show [s.heap.objs.size, 89, 189].Nodup
      simp
      omega
    · rcases List.mem_cons.mp hq with rfl | hq
      · show (st w.params).get s.heap.objs.size = none
        cases e : (st w.params).get s.heap.objs.size with
        | none => rfl
        | some o => exact absurd (Heap.lt_size (KS _ o e)) (Nat.lt_irrefl _)
      · rcases List.mem_cons.mp hq with rfl | hq
        · exact st_89 _
        · rw [List.mem_singleton.mp hq]; exact st_189 _
  have C := call_wp w b1 b2 s.heap.objs.size (s.heap.push (lstO (izA scr) 0)).objs.size (s.toks + ds.length) scr 0 (by omega) _ hp p
  rw [hw] at C
  refine wp_mono _ _ _ ?_ (fun _ _ _ h => h) _ _ C
  rintro v p' s' ⟨rfl, ⟨l5, r5⟩, ⟨l6, r6⟩, rS, F⟩
  refine ⟨.inl ⟨_, .bool true, [], rfl, fun _ => rfl, .bool true, post_ok _ _, fun _ => ⟨List.nodup_nil, fun _ h => nomatch h⟩⟩, ?_, F.os, F.gens.2.2 (.of_eq hg)⟩
  exact old_kept (Heap.get?_push_of_some _ k89) (Heap.get?_push_of_some _ k189) kS ⟨93, _, _, Heap.get?_push_of_some _ (KS 93 _ (st_93 _)), (code_93 _).1, (code_93 _).2.1, (code_93 _).2.2⟩
    ⟨193, _, _, Heap.get?_push_of_some _ (KS 193 _ (st_193 _)), (code_193 _).1, (code_193 _).2.1, (code_193 _).2.2⟩ r5 r6 rS F.keep
theorem row_holds : theRow.wellSaid = true → theRow.Holds := fun said =>
  holdsAt (XP := fun _ _ => True) left1 (fun _ _ => trivial) hdef1 hp1 hk1 (fun _ _ => recFacts_nil rfl) rfl said ok1 bare1 promised1 fun w s s₁ y hg args vs as hpre _ L => the_call w s s₁ y hg args vs as hpre L
theorem law_holds : PySem.Challenge.rw_rl0089_01.Holds := holds_law law_said row_holds
end
end Mine

theorem PySem.Challenge.cw_rl0089_01_holds : PySem.Challenge.rw_rl0089_01.Holds :=
  Mine.law_holds
