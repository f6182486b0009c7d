import PyProof.Rows.All
import Wide.All
import OpenK.AllK
import OpenK.XGo
import KE.LcTurns
import KE.KLcPair
import KE.KLcTest
import Wide.FinOn
import Lean
import PySem.Challenge.RW_in0001_01
set_option Elab.async false
local macro_rules | `(tactic| walk_at $s:str) => `(tactic| k_extra $s)
section
open PySem PySem.W PyProof.Rows PySem.Calls
set_option Elab.async false
set_option maxRecDepth 100000
set_option maxHeartbeats 8000000
set_option linter.unusedVariables false
namespace Mine
abbrev PW : Program := PySem.Challenge.pw_in0001_01
noncomputable def view : Program := { PW with main := { PW.main with body := ((PW.main.body.zipIdx.filter (fun x => !([6,8,9].contains x.2))).map (·.1)) } }
abbrev LO : List Str := [Str.ofString "_tuplegetter", Str.ofString "Pair"]
abbrev S (s : String) : Str := Str.ofString s
abbrev ent (P : Params) (n : String) (t : Tok) (v : Value) : DictEntry := ⟨PyData.keyHash P (Str.ofString n), .str (Str.ofString n) t, v⟩
abbrev entN (P : Params) (n : List Nat) (t : Tok) (v : Value) : DictEntry := ⟨PyData.keyHash P ⟨⟨n⟩⟩, .str ⟨⟨n⟩⟩ t, v⟩
noncomputable def stm (i : Nat) : Stmt := match PW.main.body.drop i with | s :: _ => s | [] => .Pass default
noncomputable def stc (i j : Nat) : Stmt := match stm i with
  | .ClassDef _ _ _ b _ _ _ _ _ _ _ => (match b.drop j with | s :: _ => s | [] => .Pass default)
  | _ => .Pass default
noncomputable def hdOf (st : Stmt) : Stmt := match st with
  | .FunctionDef _ _ (s :: _) _ _ _ _ _ _ _ => s
  | _ => st
noncomputable def strOf (st : Stmt) : Str := match st with
  | .Expr (.Constant (.str s) _ _) _ => s
  | _ => S ""
noncomputable def fnFrom (st : Stmt) (q : Str) (cl : List (Str × Addr)) (dV kV doc pm cd ct : Value) (gl bi : Addr) (an : Option Addr) : Data := match st with
  | .FunctionDef n ps b _ _ _ sc _ _ _ => .func { name := n, qualname := q, params := ps, body := .stmts b, scope := sc, globals := gl, closure := cl, defaults := dV, kwdefaults := kV, doc := doc, pyModule := pm, annotations := an, code := cd, closureTuple := ct, builtins := bi }
  | _ => .plain
noncomputable def d39 : { d : Data // fnFrom (stm 1) (S "_wall") [] .none .none .none (.str (S "__main__") 164) (.ref 38) .none 3 0 none = d } := ⟨_, by (conv => lhs; whnf)⟩
noncomputable def d46 : { d : Data // fnFrom (stm 3) (S "_ctoi") [] .none .none .none (.str (S "cpy313.curses.ascii") 286) (.ref 45) .none 3 0 none = d } := ⟨_, by (conv => lhs; whnf)⟩
noncomputable def d53 : { d : Data // fnFrom (stm 4) (S "ctrl") [] .none .none .none (.str (S "cpy313.curses.ascii") 286) (.ref 52) .none 3 0 none = d } := ⟨_, by (conv => lhs; whnf)⟩
noncomputable def d67 : { d : Data // fnFrom (stc 6 0) (S "_tuplegetter.__init__") [] .none .none .none (.str (S "cpy313.importlib.metadata._collections") 302) (.ref 66) .none 3 0 none = d } := ⟨_, by (conv => lhs; whnf)⟩
noncomputable def d75 : { d : Data // fnFrom (stc 6 1) (S "_tuplegetter.__get__") [] (.ref 68) .none .none (.str (S "cpy313.importlib.metadata._collections") 302) (.ref 74) .none 3 0 none = d } := ⟨_, by (conv => lhs; whnf)⟩
noncomputable def d82 : { d : Data // fnFrom (stc 6 2) (S "_tuplegetter.__set__") [] .none .none .none (.str (S "cpy313.importlib.metadata._collections") 302) (.ref 81) .none 3 0 none = d } := ⟨_, by (conv => lhs; whnf)⟩
noncomputable def d89 : { d : Data // fnFrom (stc 6 3) (S "_tuplegetter.__delete__") [] .none .none .none (.str (S "cpy313.importlib.metadata._collections") 302) (.ref 88) .none 3 0 none = d } := ⟨_, by (conv => lhs; whnf)⟩
noncomputable def d112 : { d : Data // fnFrom (stc 7 1) (S "FreezableDefaultDict.__missing__") [(S "__class__", 100)] .none .none .none (.str (S "cpy313.importlib.metadata._collections") 302) (.ref 111) (.ref 105) 3 0 none = d } := ⟨_, by (conv => lhs; whnf)⟩
noncomputable def d119 : { d : Data // fnFrom (stc 7 2) (S "FreezableDefaultDict.freeze") [] .none .none .none (.str (S "cpy313.importlib.metadata._collections") 302) (.ref 118) .none 3 0 none = d } := ⟨_, by (conv => lhs; whnf)⟩
noncomputable def d144 : { d : Data // fnFrom (stc 8 4) (S "Pair.__new__") [] .none .none (.str (strOf (hdOf (stc 8 4))) 432) (.str (S "cpy313.importlib.metadata._collections") 302) (.ref 143) .none 3 0 none = d } := ⟨_, by (conv => lhs; whnf)⟩
noncomputable def d151 : { d : Data // fnFrom (stc 8 5) (S "Pair._make") [] .none .none (.str (strOf (hdOf (stc 8 5))) 442) (.str (S "cpy313.importlib.metadata._collections") 302) (.ref 150) .none 3 0 (some 154) = d } := ⟨_, by (conv => lhs; whnf)⟩
noncomputable def d162 : { d : Data // fnFrom (stc 8 6) (S "Pair._replace") [(S "__class__", 130)] .none .none (.str (strOf (hdOf (stc 8 6))) 465) (.str (S "cpy313.importlib.metadata._collections") 302) (.ref 161) (.ref 155) 3 0 none = d } := ⟨_, by (conv => lhs; whnf)⟩
noncomputable def d169 : { d : Data // fnFrom (stc 8 8) (S "Pair.__repr__") [] .none .none (.str (strOf (hdOf (stc 8 8))) 474) (.str (S "cpy313.importlib.metadata._collections") 302) (.ref 168) .none 3 0 none = d } := ⟨_, by (conv => lhs; whnf)⟩
noncomputable def d176 : { d : Data // fnFrom (stc 8 9) (S "Pair._asdict") [] .none .none .none (.str (S "cpy313.importlib.metadata._collections") 302) (.ref 175) .none 3 0 none = d } := ⟨_, by (conv => lhs; whnf)⟩
noncomputable def d183 : { d : Data // fnFrom (stc 8 10) (S "Pair.__getnewargs__") [] .none .none (.str (strOf (hdOf (stc 8 10))) 489) (.str (S "cpy313.importlib.metadata._collections") 302) (.ref 182) .none 3 0 none = d } := ⟨_, by (conv => lhs; whnf)⟩
noncomputable def d211 : { d : Data // fnFrom (stc 9 0) (S "Pair.parse") [] .none .none .none (.str (S "cpy313.importlib.metadata._collections") 302) (.ref 210) .none 3 0 (some 214) = d } := ⟨_, by (conv => lhs; whnf)⟩
noncomputable def d225 : { d : Data // fnFrom (stm 11) (S "_law_cells") [] .none .none .none (.str (S "law_in0001_01") 557) (.ref 224) .none 3 0 none = d } := ⟨_, by (conv => lhs; whnf)⟩
noncomputable def d232 : { d : Data // fnFrom (stm 12) (S "_law_name") [] .none .none .none (.str (S "law_in0001_01") 557) (.ref 231) .none 3 0 none = d } := ⟨_, by (conv => lhs; whnf)⟩
noncomputable def d239 : { d : Data // fnFrom (stm 13) (S "_law_value") [] .none .none .none (.str (S "law_in0001_01") 557) (.ref 238) .none 3 0 none = d } := ⟨_, by (conv => lhs; whnf)⟩
noncomputable def d244 : { d : Data // fnFrom (stm 14) (S "_law_row") [] .none .none .none (.str (S "law_in0001_01") 557) (.ref 243) .none 3 0 none = d } := ⟨_, by (conv => lhs; whnf)⟩
noncomputable def d251 : { d : Data // fnFrom (stm 15) (S "_law_key") [] .none .none .none (.str (S "law_in0001_01") 557) (.ref 250) .none 3 0 none = d } := ⟨_, by (conv => lhs; whnf)⟩
noncomputable def d258 : { d : Data // fnFrom (stm 16) (S "_law_box") [] .none .none .none (.str (S "law_in0001_01") 557) (.ref 257) .none 3 0 none = d } := ⟨_, by (conv => lhs; whnf)⟩
noncomputable def d263 : { d : Data // fnFrom (stm 17) (S "_law_dealt") [] .none .none .none (.str (S "law_in0001_01") 557) (.ref 262) .none 3 0 none = d } := ⟨_, by (conv => lhs; whnf)⟩
noncomputable def d268 : { d : Data // fnFrom (stm 18) (S "_law_due") [] .none .none .none (.str (S "law_in0001_01") 557) (.ref 267) .none 3 0 none = d } := ⟨_, by (conv => lhs; whnf)⟩
noncomputable def d273 : { d : Data // fnFrom (stm 19) (S "law") [] .none .none .none (.str (S "law_in0001_01") 557) (.ref 272) .none 3 0 none = d } := ⟨_, by (conv => lhs; whnf)⟩
noncomputable abbrev o0 (P : Params) : Obj := ⟨(.type "dict"), none, (.dict ⟨entN P [95, 95, 110, 97, 109, 101, 95, 95] 1 (.str ⟨#[98, 117, 105, 108, 116, 105, 110, 115]⟩ 160) :: entN P [95, 95, 100, 111, 99, 95, 95] 2 (.builtin "builtins.__doc__:str#opaque") :: entN P [95, 95, 112, 97, 99, 107, 97, 103, 101, 95, 95] 3 (.builtin "builtins.__package__:str#opaque") :: entN P [95, 95, 108, 111, 97, 100, 101, 114, 95, 95] 4 (.builtin "builtins.__loader__:shared#opaque") :: entN P [95, 95, 115, 112, 101, 99, 95, 95] 5 (.builtin "builtins.__spec__#opaque") :: entN P [95, 95, 98, 117, 105, 108, 100, 95, 99, 108, 97, 115, 115, 95, 95] 6 (.builtin "__build_class__") :: entN P [95, 95, 105, 109, 112, 111, 114, 116, 95, 95] 7 (.builtin "__import__") :: entN P [97, 98, 115] 8 (.builtin "abs") :: entN P [97, 108, 108] 9 (.builtin "all") :: entN P [97, 110, 121] 10 (.builtin "any") :: entN P [97, 115, 99, 105, 105] 11 (.builtin "ascii") :: entN P [98, 105, 110] 12 (.builtin "bin") :: entN P [98, 114, 101, 97, 107, 112, 111, 105, 110, 116] 13 (.builtin "breakpoint") :: entN P [99, 97, 108, 108, 97, 98, 108, 101] 14 (.builtin "callable") :: entN P [99, 104, 114] 15 (.builtin "chr") :: entN P [99, 111, 109, 112, 105, 108, 101] 16 (.builtin "compile") :: entN P [100, 101, 108, 97, 116, 116, 114] 17 (.builtin "delattr") :: entN P [100, 105, 114] 18 (.builtin "dir") :: entN P [100, 105, 118, 109, 111, 100] 19 (.builtin "divmod") :: entN P [101, 118, 97, 108] 20 (.builtin "eval") :: entN P [101, 120, 101, 99] 21 (.builtin "exec") :: entN P [102, 111, 114, 109, 97, 116] 22 (.builtin "format") :: entN P [103, 101, 116, 97, 116, 116, 114] 23 (.builtin "getattr") :: entN P [103, 108, 111, 98, 97, 108, 115] 24 (.builtin "globals") :: entN P [104, 97, 115, 97, 116, 116, 114] 25 (.builtin "hasattr") :: entN P [104, 97, 115, 104] 26 (.builtin "hash") :: entN P [104, 101, 120] 27 (.builtin "hex") :: entN P [105, 100] 28 (.builtin "id") :: entN P [105, 110, 112, 117, 116] 29 (.builtin "input") :: entN P [105, 115, 105, 110, 115, 116, 97, 110, 99, 101] 30 (.builtin "isinstance") :: entN P [105, 115, 115, 117, 98, 99, 108, 97, 115, 115] 31 (.builtin "issubclass") :: entN P [105, 116, 101, 114] 32 (.builtin "iter") :: entN P [97, 105, 116, 101, 114] 33 (.builtin "aiter") :: entN P [108, 101, 110] 34 (.builtin "len") :: entN P [108, 111, 99, 97, 108, 115] 35 (.builtin "locals") :: entN P [109, 97, 120] 36 (.builtin "max") :: entN P [109, 105, 110] 37 (.builtin "min") :: entN P [110, 101, 120, 116] 38 (.builtin "next") :: entN P [97, 110, 101, 120, 116] 39 (.builtin "anext") :: entN P [111, 99, 116] 40 (.builtin "oct") :: entN P [111, 114, 100] 41 (.builtin "ord") :: entN P [112, 111, 119] 42 (.builtin "pow") :: entN P [112, 114, 105, 110, 116] 43 (.builtin "print") :: entN P [114, 101, 112, 114] 44 (.builtin "repr") :: entN P [114, 111, 117, 110, 100] 45 (.builtin "round") :: entN P [115, 101, 116, 97, 116, 116, 114] 46 (.builtin "setattr") :: entN P [115, 111, 114, 116, 101, 100] 47 (.builtin "sorted") :: entN P [115, 117, 109] 48 (.builtin "sum") :: entN P [118, 97, 114, 115] 49 (.builtin "vars") :: entN P [78, 111, 110, 101] 50 .none :: entN P [69, 108, 108, 105, 112, 115, 105, 115] 51 .ellipsis :: entN P [78, 111, 116, 73, 109, 112, 108, 101, 109, 101, 110, 116, 101, 100] 52 .notImplemented :: entN P [70, 97, 108, 115, 101] 53 (.bool false) :: entN P [84, 114, 117, 101] 54 (.bool true) :: entN P [98, 111, 111, 108] 55 (.type "bool") :: entN P [109, 101, 109, 111, 114, 121, 118, 105, 101, 119] 56 (.type "memoryview") :: entN P [98, 121, 116, 101, 97, 114, 114, 97, 121] 57 (.type "bytearray") :: entN P [98, 121, 116, 101, 115] 58 (.type "bytes") :: entN P [99, 108, 97, 115, 115, 109, 101, 116, 104, 111, 100] 59 (.type "classmethod") :: entN P [99, 111, 109, 112, 108, 101, 120] 60 (.type "complex") :: entN P [100, 105, 99, 116] 61 (.type "dict") :: entN P [101, 110, 117, 109, 101, 114, 97, 116, 101] 62 (.type "enumerate") :: entN P [102, 105, 108, 116, 101, 114] 63 (.type "filter") :: entN P [102, 108, 111, 97, 116] 64 (.type "float") :: entN P [102, 114, 111, 122, 101, 110, 115, 101, 116] 65 (.type "frozenset") :: entN P [112, 114, 111, 112, 101, 114, 116, 121] 66 (.type "property") :: entN P [105, 110, 116] 67 (.type "int") :: entN P [108, 105, 115, 116] 68 (.type "list") :: entN P [109, 97, 112] 69 (.type "map") :: entN P [111, 98, 106, 101, 99, 116] 70 (.type "object") :: entN P [114, 97, 110, 103, 101] 71 (.type "range") :: entN P [114, 101, 118, 101, 114, 115, 101, 100] 72 (.type "reversed") :: entN P [115, 101, 116] 73 (.type "set") :: entN P [115, 108, 105, 99, 101] 74 (.type "slice") :: entN P [115, 116, 97, 116, 105, 99, 109, 101, 116, 104, 111, 100] 75 (.type "staticmethod") :: entN P [115, 116, 114] 76 (.type "str") :: entN P [115, 117, 112, 101, 114] 77 (.type "super") :: entN P [116, 117, 112, 108, 101] 78 (.type "tuple") :: entN P [116, 121, 112, 101] 79 (.type "type") :: entN P [122, 105, 112] 80 (.type "zip") :: entN P [95, 95, 100, 101, 98, 117, 103, 95, 95] 81 (.bool true) :: entN P [66, 97, 115, 101, 69, 120, 99, 101, 112, 116, 105, 111, 110] 82 (.type "BaseException") :: entN P [66, 97, 115, 101, 69, 120, 99, 101, 112, 116, 105, 111, 110, 71, 114, 111, 117, 112] 83 (.type "BaseExceptionGroup") :: entN P [69, 120, 99, 101, 112, 116, 105, 111, 110] 84 (.type "Exception") :: entN P [71, 101, 110, 101, 114, 97, 116, 111, 114, 69, 120, 105, 116] 85 (.type "GeneratorExit") :: entN P [75, 101, 121, 98, 111, 97, 114, 100, 73, 110, 116, 101, 114, 114, 117, 112, 116] 86 (.type "KeyboardInterrupt") :: entN P [83, 121, 115, 116, 101, 109, 69, 120, 105, 116] 87 (.type "SystemExit") :: entN P [65, 114, 105, 116, 104, 109, 101, 116, 105, 99, 69, 114, 114, 111, 114] 88 (.type "ArithmeticError") :: entN P [65, 115, 115, 101, 114, 116, 105, 111, 110, 69, 114, 114, 111, 114] 89 (.type "AssertionError") :: entN P [65, 116, 116, 114, 105, 98, 117, 116, 101, 69, 114, 114, 111, 114] 90 (.type "AttributeError") :: entN P [66, 117, 102, 102, 101, 114, 69, 114, 114, 111, 114] 91 (.type "BufferError") :: entN P [69, 79, 70, 69, 114, 114, 111, 114] 92 (.type "EOFError") :: entN P [73, 109, 112, 111, 114, 116, 69, 114, 114, 111, 114] 93 (.type "ImportError") :: entN P [76, 111, 111, 107, 117, 112, 69, 114, 114, 111, 114] 94 (.type "LookupError") :: entN P [77, 101, 109, 111, 114, 121, 69, 114, 114, 111, 114] 95 (.type "MemoryError") :: entN P [78, 97, 109, 101, 69, 114, 114, 111, 114] 96 (.type "NameError") :: entN P [79, 83, 69, 114, 114, 111, 114] 97 (.type "OSError") :: entN P [82, 101, 102, 101, 114, 101, 110, 99, 101, 69, 114, 114, 111, 114] 98 (.type "ReferenceError") :: entN P [82, 117, 110, 116, 105, 109, 101, 69, 114, 114, 111, 114] 99 (.type "RuntimeError") :: entN P [83, 116, 111, 112, 65, 115, 121, 110, 99, 73, 116, 101, 114, 97, 116, 105, 111, 110] 100 (.type "StopAsyncIteration") :: entN P [83, 116, 111, 112, 73, 116, 101, 114, 97, 116, 105, 111, 110] 101 (.type "StopIteration") :: entN P [83, 121, 110, 116, 97, 120, 69, 114, 114, 111, 114] 102 (.type "SyntaxError") :: entN P [83, 121, 115, 116, 101, 109, 69, 114, 114, 111, 114] 103 (.type "SystemError") :: entN P [84, 121, 112, 101, 69, 114, 114, 111, 114] 104 (.type "TypeError") :: entN P [86, 97, 108, 117, 101, 69, 114, 114, 111, 114] 105 (.type "ValueError") :: entN P [87, 97, 114, 110, 105, 110, 103] 106 (.type "Warning") :: entN P [70, 108, 111, 97, 116, 105, 110, 103, 80, 111, 105, 110, 116, 69, 114, 114, 111, 114] 107 (.type "FloatingPointError") :: entN P [79, 118, 101, 114, 102, 108, 111, 119, 69, 114, 114, 111, 114] 108 (.type "OverflowError") :: entN P [90, 101, 114, 111, 68, 105, 118, 105, 115, 105, 111, 110, 69, 114, 114, 111, 114] 109 (.type "ZeroDivisionError") :: entN P [66, 121, 116, 101, 115, 87, 97, 114, 110, 105, 110, 103] 110 (.type "BytesWarning") :: entN P [68, 101, 112, 114, 101, 99, 97, 116, 105, 111, 110, 87, 97, 114, 110, 105, 110, 103] 111 (.type "DeprecationWarning") :: entN P [69, 110, 99, 111, 100, 105, 110, 103, 87, 97, 114, 110, 105, 110, 103] 112 (.type "EncodingWarning") :: entN P [70, 117, 116, 117, 114, 101, 87, 97, 114, 110, 105, 110, 103] 113 (.type "FutureWarning") :: entN P [73, 109, 112, 111, 114, 116, 87, 97, 114, 110, 105, 110, 103] 114 (.type "ImportWarning") :: entN P [80, 101, 110, 100, 105, 110, 103, 68, 101, 112, 114, 101, 99, 97, 116, 105, 111, 110, 87, 97, 114, 110, 105, 110, 103] 115 (.type "PendingDeprecationWarning") :: entN P [82, 101, 115, 111, 117, 114, 99, 101, 87, 97, 114, 110, 105, 110, 103] 116 (.type "ResourceWarning") :: entN P [82, 117, 110, 116, 105, 109, 101, 87, 97, 114, 110, 105, 110, 103] 117 (.type "RuntimeWarning") :: entN P [83, 121, 110, 116, 97, 120, 87, 97, 114, 110, 105, 110, 103] 118 (.type "SyntaxWarning") :: entN P [85, 110, 105, 99, 111, 100, 101, 87, 97, 114, 110, 105, 110, 103] 119 (.type "UnicodeWarning") :: entN P [85, 115, 101, 114, 87, 97, 114, 110, 105, 110, 103] 120 (.type "UserWarning") :: entN P [66, 108, 111, 99, 107, 105, 110, 103, 73, 79, 69, 114, 114, 111, 114] 121 (.type "BlockingIOError") :: entN P [67, 104, 105, 108, 100, 80, 114, 111, 99, 101, 115, 115, 69, 114, 114, 111, 114] 122 (.type "ChildProcessError") :: entN P [67, 111, 110, 110, 101, 99, 116, 105, 111, 110, 69, 114, 114, 111, 114] 123 (.type "ConnectionError") :: entN P [70, 105, 108, 101, 69, 120, 105, 115, 116, 115, 69, 114, 114, 111, 114] 124 (.type "FileExistsError") :: entN P [70, 105, 108, 101, 78, 111, 116, 70, 111, 117, 110, 100, 69, 114, 114, 111, 114] 125 (.type "FileNotFoundError") :: entN P [73, 110, 116, 101, 114, 114, 117, 112, 116, 101, 100, 69, 114, 114, 111, 114] 126 (.type "InterruptedError") :: entN P [73, 115, 65, 68, 105, 114, 101, 99, 116, 111, 114, 121, 69, 114, 114, 111, 114] 127 (.type "IsADirectoryError") :: entN P [78, 111, 116, 65, 68, 105, 114, 101, 99, 116, 111, 114, 121, 69, 114, 114, 111, 114] 128 (.type "NotADirectoryError") :: entN P [80, 101, 114, 109, 105, 115, 115, 105, 111, 110, 69, 114, 114, 111, 114] 129 (.type "PermissionError") :: entN P [80, 114, 111, 99, 101, 115, 115, 76, 111, 111, 107, 117, 112, 69, 114, 114, 111, 114] 130 (.type "ProcessLookupError") :: entN P [84, 105, 109, 101, 111, 117, 116, 69, 114, 114, 111, 114] 131 (.type "TimeoutError") :: entN P [73, 110, 100, 101, 110, 116, 97, 116, 105, 111, 110, 69, 114, 114, 111, 114] 132 (.type "IndentationError") :: entN P [95, 73, 110, 99, 111, 109, 112, 108, 101, 116, 101, 73, 110, 112, 117, 116, 69, 114, 114, 111, 114] 133 (.type "_IncompleteInputError") :: entN P [73, 110, 100, 101, 120, 69, 114, 114, 111, 114] 134 (.type "IndexError") :: entN P [75, 101, 121, 69, 114, 114, 111, 114] 135 (.type "KeyError") :: entN P [77, 111, 100, 117, 108, 101, 78, 111, 116, 70, 111, 117, 110, 100, 69, 114, 114, 111, 114] 136 (.type "ModuleNotFoundError") :: entN P [78, 111, 116, 73, 109, 112, 108, 101, 109, 101, 110, 116, 101, 100, 69, 114, 114, 111, 114] 137 (.type "NotImplementedError") :: entN P [80, 121, 116, 104, 111, 110, 70, 105, 110, 97, 108, 105, 122, 97, 116, 105, 111, 110, 69, 114, 114, 111, 114] 138 (.type "PythonFinalizationError") :: entN P [82, 101, 99, 117, 114, 115, 105, 111, 110, 69, 114, 114, 111, 114] 139 (.type "RecursionError") :: entN P [85, 110, 98, 111, 117, 110, 100, 76, 111, 99, 97, 108, 69, 114, 114, 111, 114] 140 (.type "UnboundLocalError") :: entN P [85, 110, 105, 99, 111, 100, 101, 69, 114, 114, 111, 114] 141 (.type "UnicodeError") :: entN P [66, 114, 111, 107, 101, 110, 80, 105, 112, 101, 69, 114, 114, 111, 114] 142 (.type "BrokenPipeError") :: entN P [67, 111, 110, 110, 101, 99, 116, 105, 111, 110, 65, 98, 111, 114, 116, 101, 100, 69, 114, 114, 111, 114] 143 (.type "ConnectionAbortedError") :: entN P [67, 111, 110, 110, 101, 99, 116, 105, 111, 110, 82, 101, 102, 117, 115, 101, 100, 69, 114, 114, 111, 114] 144 (.type "ConnectionRefusedError") :: entN P [67, 111, 110, 110, 101, 99, 116, 105, 111, 110, 82, 101, 115, 101, 116, 69, 114, 114, 111, 114] 145 (.type "ConnectionResetError") :: entN P [84, 97, 98, 69, 114, 114, 111, 114] 146 (.type "TabError") :: entN P [85, 110, 105, 99, 111, 100, 101, 68, 101, 99, 111, 100, 101, 69, 114, 114, 111, 114] 147 (.type "UnicodeDecodeError") :: entN P [85, 110, 105, 99, 111, 100, 101, 69, 110, 99, 111, 100, 101, 69, 114, 114, 111, 114] 148 (.type "UnicodeEncodeError") :: entN P [85, 110, 105, 99, 111, 100, 101, 84, 114, 97, 110, 115, 108, 97, 116, 101, 69, 114, 114, 111, 114] 149 (.type "UnicodeTranslateError") :: entN P [69, 120, 99, 101, 112, 116, 105, 111, 110, 71, 114, 111, 117, 112] 150 (.type "ExceptionGroup") :: entN P [69, 110, 118, 105, 114, 111, 110, 109, 101, 110, 116, 69, 114, 114, 111, 114] 151 (.type "OSError") :: entN P [73, 79, 69, 114, 114, 111, 114] 152 (.type "OSError") :: entN P [111, 112, 101, 110] 153 (.builtin "open") :: entN P [113, 117, 105, 116] 154 (.builtin "builtins.quit#opaque") :: entN P [101, 120, 105, 116] 155 (.builtin "builtins.exit#opaque") :: entN P [99, 111, 112, 121, 114, 105, 103, 104, 116] 156 (.builtin "builtins.copyright#opaque") :: entN P [99, 114, 101, 100, 105, 116, 115] 157 (.builtin "builtins.credits#opaque") :: entN P [108, 105, 99, 101, 110, 115, 101] 158 (.builtin "builtins.license#opaque") :: entN P [104, 101, 108, 112] 159 (.builtin "builtins.help#opaque") :: []⟩ 159), #[]⟩
noncomputable abbrev o2 (P : Params) : Obj := ⟨.none, none, (.dict #[entN P [105, 109, 112, 111, 114, 116, 46, 108, 111, 97, 100, 101, 100, 46, 95, 99, 111, 108, 108, 101, 99, 116, 105, 111, 110, 115] 185 (.bool true), ent P "class._frozen_importlib.BuiltinImporter" 187 (.ref 15), entN P [119, 97, 116, 99, 104, 101, 100, 46, 105, 109, 112, 111, 114, 116] 208 (.ref 19), ent P "class._frozen_importlib.ModuleSpec" 218 (.ref 23), ent P "sys.modules.booked-epoch" 247 (.int 3 0), ent P "sys.modules.landed._collections" 248 (.bool true), entN P [105, 109, 112, 111, 114, 116, 46, 108, 97, 116, 101, 114, 45, 108, 97, 105, 100, 46, 95, 99, 111, 108, 108, 101, 99, 116, 105, 111, 110, 115] 263 (.bool true), ent P "watched.library" 265 (.ref 28), ent P "watched.library-objects" 0 (.str (S "\x0d") 0), ent P "watched.library-deep._collections" 266 (.str (S "\x04\x00\x00\x0c\x04\x00\x00\x0c\x04\x00\x00\x03\x04\x00\x00\x0c\x08\x04dict\x02") 0), ent P "type.__subclasses__.collections.defaultdict.0" 400 (.int 122 0), ent P "type.__subclasses__.collections.defaultdict.n" 401 (.int 1 0)] 12), #[]⟩
noncomputable abbrev o3 (P : Params) : Obj := ⟨(.type "dict"), none, (.dict #[ent P "__name__" 165 (.str (S "law_in0001_01") 557), ent P "__doc__" 166 .none, ent P "__package__" 167 .none, ent P "__loader__" 168 (.builtin "__main__.__loader__#opaque"), ent P "__spec__" 169 .none, ent P "__annotations__" 170 (.ref 6), ent P "__builtins__" 171 (.ref 4), ent P "__file__" 173 (.str (S "/claim/cut.py") 172), ent P "__cached__" 174 .none, ent P "defaultdict" 272 (.type "collections.defaultdict"), ent P "_wall" 285 (.ref 39), ent P "_ctoi" 294 (.ref 46), ent P "ctrl" 301 (.ref 53), ent P "_tuplegetter" 360 (.ref 92), ent P "FreezableDefaultDict" 403 (.ref 122), ent P "Pair" 518 (.ref 217), ent P "_law_cells" 564 (.ref 225), ent P "_law_name" 576 (.ref 232), ent P "_law_value" 583 (.ref 239), ent P "_law_row" 589 (.ref 244), ent P "_law_key" 597 (.ref 251), ent P "_law_box" 603 (.ref 258), ent P "_law_dealt" 609 (.ref 263), ent P "_law_due" 615 (.ref 268), ent P "law" 621 (.ref 273)] 25), #[]⟩
noncomputable abbrev o38 (P : Params) : Obj := ⟨(.type "code"), none, (.fields #[(.str (S "_wall") 279), (.str (S "_wall") 280), (.str (S "/claim/cut.py") 281), (.int 2 0), (.int 1 0), (.int 0 0), (.int 0 0), (.int 3 0), (.ref 33), (.bool true), (.int 273 0), (.ref 34), .none, (.ref 35), (.ref 36), (.ref 37), (.int 283 0), (.int 2 0), (.str (S "/claim/cut.py") 284)]), #[]⟩
noncomputable abbrev o39 (P : Params) : Obj := ⟨(.type "function"), none, d39.1, #[]⟩
noncomputable abbrev o45 (P : Params) : Obj := ⟨(.type "code"), none, (.fields #[(.str (S "_ctoi") 288), (.str (S "_ctoi") 289), (.str (S "/claim/cut.py") 290), (.int 6 0), (.int 1 0), (.int 0 0), (.int 0 0), (.int 3 0), (.ref 40), (.bool true), (.int 273 0), (.ref 41), .none, (.ref 42), (.ref 43), (.ref 44), (.int 292 0), (.int 6 0), (.str (S "/claim/cut.py") 293)]), #[]⟩
noncomputable abbrev o46 (P : Params) : Obj := ⟨(.type "function"), none, d46.1, #[]⟩
noncomputable abbrev o52 (P : Params) : Obj := ⟨(.type "code"), none, (.fields #[(.str (S "ctrl") 295), (.str (S "ctrl") 296), (.str (S "/claim/cut.py") 297), (.int 11 0), (.int 1 0), (.int 0 0), (.int 0 0), (.int 3 0), (.ref 47), (.bool true), (.int 273 0), (.ref 48), .none, (.ref 49), (.ref 50), (.ref 51), (.int 299 0), (.int 11 0), (.str (S "/claim/cut.py") 300)]), #[]⟩
noncomputable abbrev o53 (P : Params) : Obj := ⟨(.type "function"), none, d53.1, #[]⟩
noncomputable abbrev o66 (P : Params) : Obj := ⟨(.type "code"), none, (.fields #[(.str (S "__init__") 316), (.str (S "_tuplegetter.__init__") 317), (.str (S "/claim/cut.py") 318), (.int 19 0), (.int 3 0), (.int 0 0), (.int 0 0), (.int 3 0), (.ref 61), (.bool true), (.int 273 0), (.ref 62), .none, (.ref 63), (.ref 64), (.ref 65), (.int 322 0), (.int 19 0), (.str (S "/claim/cut.py") 323)]), #[]⟩
noncomputable abbrev o67 (P : Params) : Obj := ⟨(.type "function"), none, d67.1, #[]⟩
noncomputable abbrev o68 (P : Params) : Obj := ⟨(.type "tuple"), none, (.seq #[.none] 0), #[]⟩
noncomputable abbrev o71 (P : Params) : Obj := ⟨(.type "tuple"), none, (.seq #[(.str (S "self") 328), (.str (S "obj") 329), (.str (S "objtype") 330)] 0), #[]⟩
noncomputable abbrev o74 (P : Params) : Obj := ⟨(.type "code"), none, (.fields #[(.str (S "__get__") 325), (.str (S "_tuplegetter.__get__") 326), (.str (S "/claim/cut.py") 327), (.int 23 0), (.int 3 0), (.int 0 0), (.int 0 0), (.int 3 0), (.ref 69), (.bool true), (.int 273 0), (.ref 70), .none, (.ref 71), (.ref 72), (.ref 73), (.int 331 0), (.int 23 0), (.str (S "/claim/cut.py") 332)]), #[]⟩
noncomputable abbrev o75 (P : Params) : Obj := ⟨(.type "function"), none, d75.1, #[]⟩
noncomputable abbrev o81 (P : Params) : Obj := ⟨(.type "code"), none, (.fields #[(.str (S "__set__") 334), (.str (S "_tuplegetter.__set__") 335), (.str (S "/claim/cut.py") 336), (.int 30 0), (.int 3 0), (.int 0 0), (.int 0 0), (.int 3 0), (.ref 76), (.bool true), (.int 273 0), (.ref 77), .none, (.ref 78), (.ref 79), (.ref 80), (.int 340 0), (.int 30 0), (.str (S "/claim/cut.py") 341)]), #[]⟩
noncomputable abbrev o82 (P : Params) : Obj := ⟨(.type "function"), none, d82.1, #[]⟩
noncomputable abbrev o88 (P : Params) : Obj := ⟨(.type "code"), none, (.fields #[(.str (S "__delete__") 343), (.str (S "_tuplegetter.__delete__") 344), (.str (S "/claim/cut.py") 345), (.int 33 0), (.int 2 0), (.int 0 0), (.int 0 0), (.int 3 0), (.ref 83), (.bool true), (.int 273 0), (.ref 84), .none, (.ref 85), (.ref 86), (.ref 87), (.int 348 0), (.int 33 0), (.str (S "/claim/cut.py") 349)]), #[]⟩
noncomputable abbrev o89 (P : Params) : Obj := ⟨(.type "function"), none, d89.1, #[]⟩
noncomputable abbrev o90 (P : Params) : Obj := ⟨(.type "tuple"), none, (.seq #[(.str (S "__doc__") 351), (.str (S "index") 352)] 0), #[]⟩
noncomputable abbrev o91 (P : Params) : Obj := ⟨(.type "dict"), none, (.dict #[ent P "__module__" 311 (.str (S "cpy313.importlib.metadata._collections") 302), ent P "__firstlineno__" 315 (.int 17 314), ent P "__init__" 324 (.ref 67), ent P "__get__" 333 (.ref 75), ent P "__set__" 342 (.ref 82), ent P "__delete__" 350 (.ref 89), ent P "__static_attributes__" 353 (.ref 90), ent P "__dict__" 355 (.ref 93), ent P "__weakref__" 357 (.ref 94), ent P "__doc__" 358 .none] 4), #[]⟩
noncomputable abbrev o92 (P : Params) : Obj := ⟨(.type "type"), none, (.cls { name := S "_tuplegetter", bases := [(.type "object")], mro := [(.ref 92), (.type "object")], ns := 91, qualname := S "_tuplegetter", hasDict := true, slotNames := [], subclasses := [], abstract := false, collection := none, hasDel := false }), #[none, none, (some (.str (S "_tuplegetter") 304)), (some (.str (S "_tuplegetter") 312)), (some (.builtin "object.__new__")), (some (.bool true))]⟩
noncomputable abbrev o93 (P : Params) : Obj := ⟨(.type "getset_descriptor"), none, (.fields #[(.str (S "__dict__") 354), (.ref 92), (.builtin "function.__dict__"), (.builtin "function.__dict__#set")]), #[]⟩
noncomputable abbrev o94 (P : Params) : Obj := ⟨(.type "getset_descriptor"), none, (.fields #[(.str (S "__weakref__") 356), (.ref 92), (.builtin "ExceptionGroup.__weakref__"), .none]), #[]⟩
noncomputable abbrev o97 (P : Params) : Obj := ⟨(.type "tuple"), none, (.seq #[(.type "collections.defaultdict")] 0), #[]⟩
noncomputable abbrev o100 (P : Params) : Obj := ⟨(.type "cell"), none, (.cell (some (.ref 122))), #[]⟩
noncomputable abbrev o105 (P : Params) : Obj := ⟨(.type "tuple"), none, (.seq #[(.ref 100)] 0), #[]⟩
noncomputable abbrev o106 (P : Params) : Obj := ⟨(.type "tuple"), none, (.seq #[(.str (S "__class__") 379)] 0), #[]⟩
noncomputable abbrev o108 (P : Params) : Obj := ⟨(.type "tuple"), none, (.seq #[(.str (S "self") 380), (.str (S "key") 381)] 0), #[]⟩
noncomputable abbrev o109 (P : Params) : Obj := ⟨(.type "tuple"), none, (.seq #[] 0), #[]⟩
noncomputable abbrev o111 (P : Params) : Obj := ⟨(.type "code"), none, (.fields #[(.str (S "__missing__") 376), (.str (S "FreezableDefaultDict.__missing__") 377), (.str (S "/claim/cut.py") 378), (.int 50 0), (.int 2 0), (.int 0 0), (.int 0 0), (.int 3 0), (.ref 106), (.bool true), (.int 273 0), (.ref 107), .none, (.ref 108), (.ref 109), (.ref 110), (.int 382 0), (.int 50 0), (.str (S "/claim/cut.py") 383)]), #[]⟩
noncomputable abbrev o112 (P : Params) : Obj := ⟨(.type "function"), none, d112.1, #[]⟩
noncomputable abbrev o113 (P : Params) : Obj := ⟨(.type "tuple"), none, (.seq #[] 0), #[]⟩
noncomputable abbrev o115 (P : Params) : Obj := ⟨(.type "tuple"), none, (.seq #[(.str (S "self") 388)] 0), #[]⟩
noncomputable abbrev o116 (P : Params) : Obj := ⟨(.type "tuple"), none, (.seq #[(.str (S "self") 389)] 0), #[]⟩
noncomputable abbrev o118 (P : Params) : Obj := ⟨(.type "code"), none, (.fields #[(.str (S "freeze") 385), (.str (S "FreezableDefaultDict.freeze") 386), (.str (S "/claim/cut.py") 387), (.int 53 0), (.int 1 0), (.int 0 0), (.int 0 0), (.int 3 0), (.ref 113), (.bool true), (.int 273 0), (.ref 114), .none, (.ref 115), (.ref 116), (.ref 117), (.int 390 0), (.int 53 0), (.str (S "/claim/cut.py") 391)]), #[]⟩
noncomputable abbrev o119 (P : Params) : Obj := ⟨(.type "function"), none, d119.1, #[]⟩
noncomputable abbrev o120 (P : Params) : Obj := ⟨(.type "tuple"), none, (.seq #[(.str (S "_frozen") 393)] 0), #[]⟩
noncomputable abbrev o121 (P : Params) : Obj := ⟨(.type "dict"), none, (.dict #[ent P "__module__" 368 (.str (S "cpy313.importlib.metadata._collections") 302), ent P "__firstlineno__" 372 (.int 35 371), ent P "__doc__" 374 (.str (strOf (stc 7 0)) 373), ent P "__missing__" 384 (.ref 112), ent P "freeze" 392 (.ref 119), ent P "__static_attributes__" 394 (.ref 120), ent P "__dict__" 397 (.ref 123), ent P "__weakref__" 399 (.ref 124)] 4), #[]⟩
noncomputable abbrev o122 (P : Params) : Obj := ⟨(.type "type"), none, (.cls { name := S "FreezableDefaultDict", bases := [(.type "collections.defaultdict")], mro := [(.ref 122), (.type "collections.defaultdict"), (.type "dict"), (.type "object")], ns := 121, qualname := S "FreezableDefaultDict", hasDict := true, slotNames := [S ""], subclasses := [], abstract := false, collection := none, hasDel := false }), #[(some (.ref 97)), none, (some (.str (S "FreezableDefaultDict") 361)), (some (.str (S "FreezableDefaultDict") 369)), (some (.builtin "dict.__new__")), (some (.bool true))]⟩
noncomputable abbrev o123 (P : Params) : Obj := ⟨(.type "getset_descriptor"), none, (.fields #[(.str (S "__dict__") 396), (.ref 122), (.builtin "function.__dict__"), (.builtin "function.__dict__#set")]), #[]⟩
noncomputable abbrev o124 (P : Params) : Obj := ⟨(.type "getset_descriptor"), none, (.fields #[(.str (S "__weakref__") 398), (.ref 122), (.builtin "ExceptionGroup.__weakref__"), .none]), #[]⟩
noncomputable abbrev o127 (P : Params) : Obj := ⟨(.type "tuple"), none, (.seq #[(.type "tuple")] 0), #[]⟩
noncomputable abbrev o130 (P : Params) : Obj := ⟨(.type "cell"), none, (.cell (some (.ref 194))), #[]⟩
noncomputable abbrev o135 (P : Params) : Obj := ⟨(.type "tuple"), none, (.seq #[] 0), #[]⟩
noncomputable abbrev o136 (P : Params) : Obj := ⟨(.type "tuple"), none, (.seq #[(.str (S "name") 420), (.str (S "value") 421)] 0), #[]⟩
noncomputable abbrev o137 (P : Params) : Obj := ⟨(.type "dict"), none, (.dict #[] 0), #[]⟩
noncomputable abbrev o138 (P : Params) : Obj := ⟨(.type "tuple"), none, (.seq #[] 0), #[]⟩
noncomputable abbrev o140 (P : Params) : Obj := ⟨(.type "tuple"), none, (.seq #[(.str (S "_cls") 427), (.str (S "name") 428), (.str (S "value") 429)] 0), #[]⟩
noncomputable abbrev o141 (P : Params) : Obj := ⟨(.type "tuple"), none, (.seq #[] 0), #[]⟩
noncomputable abbrev o143 (P : Params) : Obj := ⟨(.type "code"), none, (.fields #[(.str (S "__new__") 424), (.str (S "Pair.__new__") 425), (.str (S "/claim/cut.py") 426), (.int 61 0), (.int 3 0), (.int 0 0), (.int 0 0), (.int 3 0), (.ref 138), (.bool true), (.int 273 0), (.ref 139), .none, (.ref 140), (.ref 141), (.ref 142), (.int 430 0), (.int 61 0), (.str (S "/claim/cut.py") 431)]), #[]⟩
noncomputable abbrev o144 (P : Params) : Obj := ⟨(.type "function"), none, d144.1, #[]⟩
noncomputable abbrev o145 (P : Params) : Obj := ⟨(.type "tuple"), none, (.seq #[] 0), #[]⟩
noncomputable abbrev o147 (P : Params) : Obj := ⟨(.type "tuple"), none, (.seq #[(.str (S "cls") 437), (.str (S "iterable") 438), (.str (S "result") 439)] 0), #[]⟩
noncomputable abbrev o148 (P : Params) : Obj := ⟨(.type "tuple"), none, (.seq #[] 0), #[]⟩
noncomputable abbrev o150 (P : Params) : Obj := ⟨(.type "code"), none, (.fields #[(.str (S "_make") 434), (.str (S "Pair._make") 435), (.str (S "/claim/cut.py") 436), (.int 65 0), (.int 2 0), (.int 0 0), (.int 0 0), (.int 3 0), (.ref 145), (.bool true), (.int 273 0), (.ref 146), .none, (.ref 147), (.ref 148), (.ref 149), (.int 440 0), (.int 65 0), (.str (S "/claim/cut.py") 441)]), #[]⟩
noncomputable abbrev o151 (P : Params) : Obj := ⟨(.type "function"), none, d151.1, #[]⟩
noncomputable abbrev o152 (P : Params) : Obj := ⟨(.type "dict"), none, (.dict #[ent P "__module__" 444 (.str (S "cpy313.importlib.metadata._collections") 302), ent P "__name__" 447 (.str (S "_make") 446), ent P "__qualname__" 450 (.str (S "Pair._make") 449), ent P "__doc__" 452 (.str (S "Make a new Pair object from a sequence or iterable") 442), ent P "__annotations__" 454 (.ref 154)] 5), #[]⟩
noncomputable abbrev o153 (P : Params) : Obj := ⟨(.type "classmethod"), (some 152), (.fields #[(.ref 151), (.bool false)]), #[]⟩
noncomputable abbrev o154 (P : Params) : Obj := ⟨(.type "dict"), none, (.dict #[] 0), #[]⟩
noncomputable abbrev o155 (P : Params) : Obj := ⟨(.type "tuple"), none, (.seq #[(.ref 130)] 0), #[]⟩
noncomputable abbrev o156 (P : Params) : Obj := ⟨(.type "tuple"), none, (.seq #[(.str (S "__class__") 459)] 0), #[]⟩
noncomputable abbrev o158 (P : Params) : Obj := ⟨(.type "tuple"), none, (.seq #[(.str (S "self") 460), (.str (S "kwds") 461), (.str (S "result") 462)] 0), #[]⟩
noncomputable abbrev o159 (P : Params) : Obj := ⟨(.type "tuple"), none, (.seq #[] 0), #[]⟩
noncomputable abbrev o161 (P : Params) : Obj := ⟨(.type "code"), none, (.fields #[(.str (S "_replace") 456), (.str (S "Pair._replace") 457), (.str (S "/claim/cut.py") 458), (.int 73 0), (.int 1 0), (.int 1 0), (.int 0 0), (.int 11 0), (.ref 156), (.bool true), (.int 273 0), (.ref 157), .none, (.ref 158), (.ref 159), (.ref 160), (.int 463 0), (.int 73 0), (.str (S "/claim/cut.py") 464)]), #[]⟩
noncomputable abbrev o162 (P : Params) : Obj := ⟨(.type "function"), none, d162.1, #[]⟩
noncomputable abbrev o163 (P : Params) : Obj := ⟨(.type "tuple"), none, (.seq #[] 0), #[]⟩
noncomputable abbrev o165 (P : Params) : Obj := ⟨(.type "tuple"), none, (.seq #[(.str (S "self") 471)] 0), #[]⟩
noncomputable abbrev o166 (P : Params) : Obj := ⟨(.type "tuple"), none, (.seq #[] 0), #[]⟩
noncomputable abbrev o168 (P : Params) : Obj := ⟨(.type "code"), none, (.fields #[(.str (S "__repr__") 468), (.str (S "Pair.__repr__") 469), (.str (S "/claim/cut.py") 470), (.int 84 0), (.int 1 0), (.int 0 0), (.int 0 0), (.int 3 0), (.ref 163), (.bool true), (.int 273 0), (.ref 164), .none, (.ref 165), (.ref 166), (.ref 167), (.int 472 0), (.int 84 0), (.str (S "/claim/cut.py") 473)]), #[]⟩
noncomputable abbrev o169 (P : Params) : Obj := ⟨(.type "function"), none, d169.1, #[]⟩
noncomputable abbrev o170 (P : Params) : Obj := ⟨(.type "tuple"), none, (.seq #[] 0), #[]⟩
noncomputable abbrev o172 (P : Params) : Obj := ⟨(.type "tuple"), none, (.seq #[(.str (S "self") 479)] 0), #[]⟩
noncomputable abbrev o173 (P : Params) : Obj := ⟨(.type "tuple"), none, (.seq #[] 0), #[]⟩
noncomputable abbrev o175 (P : Params) : Obj := ⟨(.type "code"), none, (.fields #[(.str (S "_asdict") 476), (.str (S "Pair._asdict") 477), (.str (S "/claim/cut.py") 478), (.int 88 0), (.int 1 0), (.int 0 0), (.int 0 0), (.int 3 0), (.ref 170), (.bool true), (.int 273 0), (.ref 171), .none, (.ref 172), (.ref 173), (.ref 174), (.int 480 0), (.int 88 0), (.str (S "/claim/cut.py") 481)]), #[]⟩
noncomputable abbrev o176 (P : Params) : Obj := ⟨(.type "function"), none, d176.1, #[]⟩
noncomputable abbrev o177 (P : Params) : Obj := ⟨(.type "tuple"), none, (.seq #[] 0), #[]⟩
noncomputable abbrev o179 (P : Params) : Obj := ⟨(.type "tuple"), none, (.seq #[(.str (S "self") 486)] 0), #[]⟩
noncomputable abbrev o180 (P : Params) : Obj := ⟨(.type "tuple"), none, (.seq #[] 0), #[]⟩
noncomputable abbrev o182 (P : Params) : Obj := ⟨(.type "code"), none, (.fields #[(.str (S "__getnewargs__") 483), (.str (S "Pair.__getnewargs__") 484), (.str (S "/claim/cut.py") 485), (.int 91 0), (.int 1 0), (.int 0 0), (.int 0 0), (.int 3 0), (.ref 177), (.bool true), (.int 273 0), (.ref 178), .none, (.ref 179), (.ref 180), (.ref 181), (.int 487 0), (.int 91 0), (.str (S "/claim/cut.py") 488)]), #[]⟩
noncomputable abbrev o183 (P : Params) : Obj := ⟨(.type "function"), none, d183.1, #[]⟩
noncomputable abbrev o184 (P : Params) : Obj := ⟨(.type "tuple"), none, (.seq #[(.str (S "name") 491), (.str (S "value") 492)] 0), #[]⟩
noncomputable abbrev o185 (P : Params) : Obj := ⟨(.type "dict"), none, (.dict #[ent P "index" 500 (.int 0 494), ent P "__doc__" 502 (.str (S "Alias for field number 0") 495)] 2), #[]⟩
noncomputable abbrev o186 (P : Params) : Obj := ⟨(.ref 92), (some 185), .plain, #[]⟩
noncomputable abbrev o188 (P : Params) : Obj := ⟨(.type "dict"), none, (.dict #[ent P "index" 510 (.int 1 504), ent P "__doc__" 512 (.str (S "Alias for field number 1") 505)] 2), #[]⟩
noncomputable abbrev o189 (P : Params) : Obj := ⟨(.ref 92), (some 188), .plain, #[]⟩
noncomputable abbrev o193 (P : Params) : Obj := ⟨(.type "dict"), none, (.dict #[ent P "__module__" 411 (.str (S "cpy313.importlib.metadata._collections") 302), ent P "__firstlineno__" 415 (.int 55 414), ent P "__doc__" 417 (.str (strOf (stc 8 0)) 416), ent P "__slots__" 419 (.ref 135), ent P "_fields" 422 (.ref 136), ent P "_field_defaults" 423 (.ref 137), ent P "__new__" 433 (.ref 195), ent P "_make" 455 (.ref 153), ent P "_replace" 466 (.ref 162), ent P "__replace__" 467 (.ref 162), ent P "__repr__" 475 (.ref 169), ent P "_asdict" 482 (.ref 176), ent P "__getnewargs__" 490 (.ref 183), ent P "__match_args__" 493 (.ref 184), ent P "name" 503 (.ref 186), ent P "value" 513 (.ref 189), ent P "__static_attributes__" 514 (.ref 191)] 2), #[]⟩
noncomputable abbrev o194 (P : Params) : Obj := ⟨(.type "type"), none, (.cls { name := S "Pair", bases := [(.type "tuple")], mro := [(.ref 194), (.type "tuple"), (.type "object")], ns := 193, qualname := S "Pair", hasDict := false, slotNames := [], subclasses := [(.ref 217)], abstract := false, collection := none, hasDel := false }), #[(some (.ref 127)), none, (some (.str (S "Pair") 404)), (some (.str (S "Pair") 412)), (some .none), (some (.bool false))]⟩
noncomputable abbrev o195 (P : Params) : Obj := ⟨(.type "staticmethod"), none, (.fields #[(.ref 144)]), #[]⟩
noncomputable abbrev o198 (P : Params) : Obj := ⟨(.type "tuple"), none, (.seq #[(.ref 194)] 0), #[]⟩
noncomputable abbrev o205 (P : Params) : Obj := ⟨(.type "tuple"), none, (.seq #[] 0), #[]⟩
noncomputable abbrev o207 (P : Params) : Obj := ⟨(.type "tuple"), none, (.seq #[(.str (S "cls") 534), (.str (S "text") 535)] 0), #[]⟩
noncomputable abbrev o208 (P : Params) : Obj := ⟨(.type "tuple"), none, (.seq #[] 0), #[]⟩
noncomputable abbrev o210 (P : Params) : Obj := ⟨(.type "code"), none, (.fields #[(.str (S "parse") 531), (.str (S "Pair.parse") 532), (.str (S "/claim/cut.py") 533), (.int 99 0), (.int 2 0), (.int 0 0), (.int 0 0), (.int 3 0), (.ref 205), (.bool true), (.int 273 0), (.ref 206), .none, (.ref 207), (.ref 208), (.ref 209), (.int 536 0), (.int 99 0), (.str (S "/claim/cut.py") 537)]), #[]⟩
noncomputable abbrev o211 (P : Params) : Obj := ⟨(.type "function"), none, d211.1, #[]⟩
noncomputable abbrev o212 (P : Params) : Obj := ⟨(.type "dict"), none, (.dict #[ent P "__module__" 539 (.str (S "cpy313.importlib.metadata._collections") 302), ent P "__name__" 542 (.str (S "parse") 541), ent P "__qualname__" 545 (.str (S "Pair.parse") 544), ent P "__doc__" 547 .none, ent P "__annotations__" 549 (.ref 214)] 5), #[]⟩
noncomputable abbrev o213 (P : Params) : Obj := ⟨(.type "classmethod"), (some 212), (.fields #[(.ref 211), (.bool false)]), #[]⟩
noncomputable abbrev o214 (P : Params) : Obj := ⟨(.type "dict"), none, (.dict #[] 0), #[]⟩
noncomputable abbrev o215 (P : Params) : Obj := ⟨(.type "tuple"), none, (.seq #[] 0), #[]⟩
noncomputable abbrev o216 (P : Params) : Obj := ⟨(.type "dict"), none, (.dict #[ent P "__module__" 526 (.str (S "cpy313.importlib.metadata._collections") 302), ent P "__firstlineno__" 530 (.int 97 529), ent P "parse" 550 (.ref 213), ent P "__static_attributes__" 551 (.ref 215), ent P "__dict__" 553 (.ref 218), ent P "__doc__" 554 .none] 3), #[]⟩
noncomputable abbrev o217 (P : Params) : Obj := ⟨(.type "type"), none, (.cls { name := S "Pair", bases := [(.ref 194)], mro := [(.ref 217), (.ref 194), (.type "tuple"), (.type "object")], ns := 216, qualname := S "Pair", hasDict := true, slotNames := [], subclasses := [], abstract := false, collection := none, hasDel := false }), #[(some (.ref 198)), none, (some (.str (S "Pair") 519)), (some (.str (S "Pair") 527)), (some .none), (some (.bool false))]⟩
noncomputable abbrev o218 (P : Params) : Obj := ⟨(.type "getset_descriptor"), none, (.fields #[(.str (S "__dict__") 552), (.ref 217), (.builtin "function.__dict__"), (.builtin "function.__dict__#set")]), #[]⟩
noncomputable abbrev o221 (P : Params) : Obj := ⟨(.type "tuple"), none, (.seq #[] 0), #[]⟩
noncomputable abbrev o224 (P : Params) : Obj := ⟨(.type "code"), none, (.fields #[(.str (S "_law_cells") 559), (.str (S "_law_cells") 560), (.str (S "/claim/cut.py") 561), (.int 103 0), (.int 1 0), (.int 0 0), (.int 0 0), (.int 3 0), (.ref 221), (.bool true), (.int 273 0), (.ref 222), .none, .none, .none, (.ref 223), (.int 562 0), (.int 103 0), (.str (S "/claim/cut.py") 563)]), #[]⟩
noncomputable abbrev o225 (P : Params) : Obj := ⟨(.type "function"), none, d225.1, #[]⟩
noncomputable abbrev o226 (P : Params) : Obj := ⟨(.type "tuple"), none, (.seq #[] 0), #[]⟩
noncomputable abbrev o228 (P : Params) : Obj := ⟨(.type "tuple"), none, (.seq #[(.str (S "cell") 568), (.str (S "name") 569), (.str (S "digits") 570), (.str (S "rest") 571), (.str (S "place") 572), (.str (S "head") 573)] 0), #[]⟩
noncomputable abbrev o229 (P : Params) : Obj := ⟨(.type "tuple"), none, (.seq #[] 0), #[]⟩
noncomputable abbrev o231 (P : Params) : Obj := ⟨(.type "code"), none, (.fields #[(.str (S "_law_name") 565), (.str (S "_law_name") 566), (.str (S "/claim/cut.py") 567), (.int 109 0), (.int 1 0), (.int 0 0), (.int 0 0), (.int 3 0), (.ref 226), (.bool true), (.int 273 0), (.ref 227), .none, (.ref 228), (.ref 229), (.ref 230), (.int 574 0), (.int 109 0), (.str (S "/claim/cut.py") 575)]), #[]⟩
noncomputable abbrev o232 (P : Params) : Obj := ⟨(.type "function"), none, d232.1, #[]⟩
noncomputable abbrev o233 (P : Params) : Obj := ⟨(.type "tuple"), none, (.seq #[] 0), #[]⟩
noncomputable abbrev o235 (P : Params) : Obj := ⟨(.type "tuple"), none, (.seq #[(.str (S "place") 580)] 0), #[]⟩
noncomputable abbrev o236 (P : Params) : Obj := ⟨(.type "tuple"), none, (.seq #[] 0), #[]⟩
noncomputable abbrev o238 (P : Params) : Obj := ⟨(.type "code"), none, (.fields #[(.str (S "_law_value") 577), (.str (S "_law_value") 578), (.str (S "/claim/cut.py") 579), (.int 122 0), (.int 1 0), (.int 0 0), (.int 0 0), (.int 3 0), (.ref 233), (.bool true), (.int 273 0), (.ref 234), .none, (.ref 235), (.ref 236), (.ref 237), (.int 581 0), (.int 122 0), (.str (S "/claim/cut.py") 582)]), #[]⟩
noncomputable abbrev o239 (P : Params) : Obj := ⟨(.type "function"), none, d239.1, #[]⟩
noncomputable abbrev o240 (P : Params) : Obj := ⟨(.type "tuple"), none, (.seq #[] 0), #[]⟩
noncomputable abbrev o243 (P : Params) : Obj := ⟨(.type "code"), none, (.fields #[(.str (S "_law_row") 584), (.str (S "_law_row") 585), (.str (S "/claim/cut.py") 586), (.int 124 0), (.int 2 0), (.int 0 0), (.int 0 0), (.int 3 0), (.ref 240), (.bool true), (.int 273 0), (.ref 241), .none, .none, .none, (.ref 242), (.int 587 0), (.int 124 0), (.str (S "/claim/cut.py") 588)]), #[]⟩
noncomputable abbrev o244 (P : Params) : Obj := ⟨(.type "function"), none, d244.1, #[]⟩
noncomputable abbrev o245 (P : Params) : Obj := ⟨(.type "tuple"), none, (.seq #[] 0), #[]⟩
noncomputable abbrev o247 (P : Params) : Obj := ⟨(.type "tuple"), none, (.seq #[(.str (S "place") 593), (.str (S "digit") 594)] 0), #[]⟩
noncomputable abbrev o248 (P : Params) : Obj := ⟨(.type "tuple"), none, (.seq #[] 0), #[]⟩
noncomputable abbrev o250 (P : Params) : Obj := ⟨(.type "code"), none, (.fields #[(.str (S "_law_key") 590), (.str (S "_law_key") 591), (.str (S "/claim/cut.py") 592), (.int 128 0), (.int 2 0), (.int 0 0), (.int 0 0), (.int 3 0), (.ref 245), (.bool true), (.int 273 0), (.ref 246), .none, (.ref 247), (.ref 248), (.ref 249), (.int 595 0), (.int 128 0), (.str (S "/claim/cut.py") 596)]), #[]⟩
noncomputable abbrev o251 (P : Params) : Obj := ⟨(.type "function"), none, d251.1, #[]⟩
noncomputable abbrev o252 (P : Params) : Obj := ⟨(.type "tuple"), none, (.seq #[] 0), #[]⟩
noncomputable abbrev o254 (P : Params) : Obj := ⟨(.type "tuple"), none, (.seq #[] 0), #[]⟩
noncomputable abbrev o255 (P : Params) : Obj := ⟨(.type "tuple"), none, (.seq #[] 0), #[]⟩
noncomputable abbrev o257 (P : Params) : Obj := ⟨(.type "code"), none, (.fields #[(.str (S "_law_box") 598), (.str (S "_law_box") 599), (.str (S "/claim/cut.py") 600), (.int 130 0), (.int 0 0), (.int 0 0), (.int 0 0), (.int 3 0), (.ref 252), (.bool true), (.int 273 0), (.ref 253), .none, (.ref 254), (.ref 255), (.ref 256), (.int 601 0), (.int 130 0), (.str (S "/claim/cut.py") 602)]), #[]⟩
noncomputable abbrev o258 (P : Params) : Obj := ⟨(.type "function"), none, d258.1, #[]⟩
noncomputable abbrev o259 (P : Params) : Obj := ⟨(.type "tuple"), none, (.seq #[] 0), #[]⟩
noncomputable abbrev o262 (P : Params) : Obj := ⟨(.type "code"), none, (.fields #[(.str (S "_law_dealt") 604), (.str (S "_law_dealt") 605), (.str (S "/claim/cut.py") 606), (.int 132 0), (.int 2 0), (.int 0 0), (.int 0 0), (.int 3 0), (.ref 259), (.bool true), (.int 273 0), (.ref 260), .none, .none, .none, (.ref 261), (.int 607 0), (.int 132 0), (.str (S "/claim/cut.py") 608)]), #[]⟩
noncomputable abbrev o263 (P : Params) : Obj := ⟨(.type "function"), none, d263.1, #[]⟩
noncomputable abbrev o264 (P : Params) : Obj := ⟨(.type "tuple"), none, (.seq #[] 0), #[]⟩
noncomputable abbrev o267 (P : Params) : Obj := ⟨(.type "code"), none, (.fields #[(.str (S "_law_due") 610), (.str (S "_law_due") 611), (.str (S "/claim/cut.py") 612), (.int 143 0), (.int 1 0), (.int 0 0), (.int 0 0), (.int 3 0), (.ref 264), (.bool true), (.int 273 0), (.ref 265), .none, .none, .none, (.ref 266), (.int 613 0), (.int 143 0), (.str (S "/claim/cut.py") 614)]), #[]⟩
noncomputable abbrev o268 (P : Params) : Obj := ⟨(.type "function"), none, d268.1, #[]⟩
noncomputable abbrev o269 (P : Params) : Obj := ⟨(.type "tuple"), none, (.seq #[] 0), #[]⟩
noncomputable abbrev o272 (P : Params) : Obj := ⟨(.type "code"), none, (.fields #[(.str (S "law") 616), (.str (S "law") 617), (.str (S "/claim/cut.py") 618), (.int 155 0), (.int 1 0), (.int 0 0), (.int 0 0), (.int 3 0), (.ref 269), (.bool true), (.int 273 0), (.ref 270), .none, .none, .none, (.ref 271), (.int 619 0), (.int 155 0), (.str (S "/claim/cut.py") 620)]), #[]⟩
noncomputable abbrev o273 (P : Params) : Obj := ⟨(.type "function"), none, d273.1, #[]⟩
noncomputable def K (P : Params) : Frag := (nat_lit 0, o0 P) :: (nat_lit 2, o2 P) :: (nat_lit 3, o3 P) :: (nat_lit 38, o38 P) :: (nat_lit 39, o39 P) :: (nat_lit 45, o45 P) :: (nat_lit 46, o46 P) :: (nat_lit 52, o52 P) :: (nat_lit 53, o53 P) :: (nat_lit 66, o66 P) :: (nat_lit 67, o67 P) :: (nat_lit 68, o68 P) :: (nat_lit 71, o71 P) :: (nat_lit 74, o74 P) :: (nat_lit 75, o75 P) :: (nat_lit 81, o81 P) :: (nat_lit 82, o82 P) :: (nat_lit 88, o88 P) :: (nat_lit 89, o89 P) :: (nat_lit 90, o90 P) :: (nat_lit 91, o91 P) :: (nat_lit 92, o92 P) :: (nat_lit 93, o93 P) :: (nat_lit 94, o94 P) :: (nat_lit 97, o97 P) :: (nat_lit 100, o100 P) :: (nat_lit 105, o105 P) :: (nat_lit 106, o106 P) :: (nat_lit 108, o108 P) :: (nat_lit 109, o109 P) :: (nat_lit 111, o111 P) :: (nat_lit 112, o112 P) :: (nat_lit 113, o113 P) :: (nat_lit 115, o115 P) :: (nat_lit 116, o116 P) :: (nat_lit 118, o118 P) :: (nat_lit 119, o119 P) :: (nat_lit 120, o120 P) :: (nat_lit 121, o121 P) :: (nat_lit 122, o122 P) :: (nat_lit 123, o123 P) :: (nat_lit 124, o124 P) :: (nat_lit 127, o127 P) :: (nat_lit 130, o130 P) :: (nat_lit 135, o135 P) :: (nat_lit 136, o136 P) :: (nat_lit 137, o137 P) :: (nat_lit 138, o138 P) :: (nat_lit 140, o140 P) :: (nat_lit 141, o141 P) :: (nat_lit 143, o143 P) :: (nat_lit 144, o144 P) :: (nat_lit 145, o145 P) :: (nat_lit 147, o147 P) :: (nat_lit 148, o148 P) :: (nat_lit 150, o150 P) :: (nat_lit 151, o151 P) :: (nat_lit 152, o152 P) :: (nat_lit 153, o153 P) :: (nat_lit 154, o154 P) :: (nat_lit 155, o155 P) :: (nat_lit 156, o156 P) :: (nat_lit 158, o158 P) :: (nat_lit 159, o159 P) :: (nat_lit 161, o161 P) :: (nat_lit 162, o162 P) :: (nat_lit 163, o163 P) :: (nat_lit 165, o165 P) :: (nat_lit 166, o166 P) :: (nat_lit 168, o168 P) :: (nat_lit 169, o169 P) :: (nat_lit 170, o170 P) :: (nat_lit 172, o172 P) :: (nat_lit 173, o173 P) :: (nat_lit 175, o175 P) :: (nat_lit 176, o176 P) :: (nat_lit 177, o177 P) :: (nat_lit 179, o179 P) :: (nat_lit 180, o180 P) :: (nat_lit 182, o182 P) :: (nat_lit 183, o183 P) :: (nat_lit 184, o184 P) :: (nat_lit 185, o185 P) :: (nat_lit 186, o186 P) :: (nat_lit 188, o188 P) :: (nat_lit 189, o189 P) :: (nat_lit 193, o193 P) :: (nat_lit 194, o194 P) :: (nat_lit 195, o195 P) :: (nat_lit 198, o198 P) :: (nat_lit 205, o205 P) :: (nat_lit 207, o207 P) :: (nat_lit 208, o208 P) :: (nat_lit 210, o210 P) :: (nat_lit 211, o211 P) :: (nat_lit 212, o212 P) :: (nat_lit 213, o213 P) :: (nat_lit 214, o214 P) :: (nat_lit 215, o215 P) :: (nat_lit 216, o216 P) :: (nat_lit 217, o217 P) :: (nat_lit 218, o218 P) :: (nat_lit 221, o221 P) :: (nat_lit 224, o224 P) :: (nat_lit 225, o225 P) :: (nat_lit 226, o226 P) :: (nat_lit 228, o228 P) :: (nat_lit 229, o229 P) :: (nat_lit 231, o231 P) :: (nat_lit 232, o232 P) :: (nat_lit 233, o233 P) :: (nat_lit 235, o235 P) :: (nat_lit 236, o236 P) :: (nat_lit 238, o238 P) :: (nat_lit 239, o239 P) :: (nat_lit 240, o240 P) :: (nat_lit 243, o243 P) :: (nat_lit 244, o244 P) :: (nat_lit 245, o245 P) :: (nat_lit 247, o247 P) :: (nat_lit 248, o248 P) :: (nat_lit 250, o250 P) :: (nat_lit 251, o251 P) :: (nat_lit 252, o252 P) :: (nat_lit 254, o254 P) :: (nat_lit 255, o255 P) :: (nat_lit 257, o257 P) :: (nat_lit 258, o258 P) :: (nat_lit 259, o259 P) :: (nat_lit 262, o262 P) :: (nat_lit 263, o263 P) :: (nat_lit 264, o264 P) :: (nat_lit 267, o267 P) :: (nat_lit 268, o268 P) :: (nat_lit 269, o269 P) :: (nat_lit 272, o272 P) :: (nat_lit 273, o273 P) :: []
abbrev KA : List Addr := 0 :: 2 :: 3 :: 38 :: 39 :: 45 :: 46 :: 52 :: 53 :: 66 :: 67 :: 68 :: 71 :: 74 :: 75 :: 81 :: 82 :: 88 :: 89 :: 90 :: 91 :: 92 :: 93 :: 94 :: 97 :: 100 :: 105 :: 106 :: 108 :: 109 :: 111 :: 112 :: 113 :: 115 :: 116 :: 118 :: 119 :: 120 :: 121 :: 122 :: 123 :: 124 :: 127 :: 130 :: 135 :: 136 :: 137 :: 138 :: 140 :: 141 :: 143 :: 144 :: 145 :: 147 :: 148 :: 150 :: 151 :: 152 :: 153 :: 154 :: 155 :: 156 :: 158 :: 159 :: 161 :: 162 :: 163 :: 165 :: 166 :: 168 :: 169 :: 170 :: 172 :: 173 :: 175 :: 176 :: 177 :: 179 :: 180 :: 182 :: 183 :: 184 :: 185 :: 186 :: 188 :: 189 :: 193 :: 194 :: 195 :: 198 :: 205 :: 207 :: 208 :: 210 :: 211 :: 212 :: 213 :: 214 :: 215 :: 216 :: 217 :: 218 :: 221 :: 224 :: 225 :: 226 :: 228 :: 229 :: 231 :: 232 :: 233 :: 235 :: 236 :: 238 :: 239 :: 240 :: 243 :: 244 :: 245 :: 247 :: 248 :: 250 :: 251 :: 252 :: 254 :: 255 :: 257 :: 258 :: 259 :: 262 :: 263 :: 264 :: 267 :: 268 :: 269 :: 272 :: 273 :: []
noncomputable abbrev HH : Hook := kmHook K KA (fun _ => by kernel_rfl) [114]
theorem left : LeftO PW view LO (fun s => xlAt view [] s && recOk [] s) (Hook.obs HH) (Hook.val HH) 4644 := fun w => by
  delta openEnds fencedOpening topFrom
  rw [PySem.W.Fast.te14082659384304107361, PySem.W.Fast.te10274390034422433532, PySem.W.Fast.te14289696077712309145, PySem.W.Fast.te4187177175401517315, PySem.W.Fast.te1435165496053646825, PySem.W.Fast.te14364793385576792824]
  kernel_rfl
end Mine
end
section
open PySem PySem.W PyProof.Rows PySem.Calls
set_option Elab.async false
set_option maxRecDepth 100000
set_option maxHeartbeats 8000000
namespace Mine
noncomputable def recFrom (st : Stmt) (d₀ : DefRec) : DefRec := match st with
  | .FunctionDef n ps b _ _ _ sc _ _ pos => { name := n, params := ps, body := b, scope := sc, pos := pos }
  | _ => d₀
noncomputable def lawDS (d₀ : DefRec) : { d : DefRec // recFrom (stm 19) d₀ = d } := ⟨_, by (conv => lhs; whnf)⟩
noncomputable abbrev lawD : DefRec := (lawDS ⟨S "", ⟨[], [], none, [], [], none, []⟩, [], ⟨.function, [], false, false, []⟩, default⟩).1
theorem hd (walk : WalkO view LO (XL view []) HH.says PySem.Challenge.rw_in0001_01.row.toRowW lawD [] (fun f vs => PySem.call f vs)) : PySem.Challenge.rw_in0001_01.Holds := by
  refine holds_law (by decide +kernel) fun said => ?_
  refine holds_open (q := view) (loose := LO) (Xt := fun s => xlAt view [] s && recOk [] s) (XP := XL view []) (Yf := Hook.obs HH) (Ya := Hook.val HH) (YP := Hook.says HH) (N := 4644) left (Hook.of HH) (Hook.keeps HH) (fun s e => xl_of s (Bool.and_eq_true_iff.mp e).1) XL.keeps (d := lawD) (kwd := []) (by kernel_rfl) (by kernel_rfl) (by kernel_rfl) (fun s e => recFacts_of (Bool.and_eq_true_iff.mp e).2) (by rfl) said (by decide +kernel) ⟨rfl, rfl, rfl, rfl, rfl, by decide +kernel⟩ ?hw walk
  case hw => w_witness2
end Mine
end
section
open PySem PySem.W PyProof.Rows PySem.Calls
namespace Mine
/-- where a walk is to stop -/
def Stop (p : Prop) : Prop := p
theorem Stop.mk {p : Prop} (h : Stop p) : p := h
theorem sub_self {α : Type} {l : List α} : ∀ p ∈ l, p ∈ l := fun _ h => h
theorem sub_nil {α : Type} {l : List α} : ∀ p ∈ ([] : List α), p ∈ l := fun _ h => nomatch h
theorem sub_cons {α : Type} {a : α} {r l : List α} (h : a ∈ l) (t : ∀ p ∈ r, p ∈ l) : ∀ p ∈ a :: r, p ∈ l := List.forall_mem_cons.mpr ⟨h, t⟩
theorem sub_app {α : Type} {l r m : List α} (h : ∀ p ∈ l, p ∈ m) (t : ∀ p ∈ r, p ∈ m) : ∀ p ∈ l ++ r, p ∈ m := fun p hp => (List.mem_append.mp hp).elim (h p) (t p)
theorem sub_inl {α : Type} {l r : List α} : ∀ p ∈ l, p ∈ l ++ r := fun _ h => List.mem_append_left _ h
theorem sub_skip {α : Type} {a : α} {l r : List α} (h : ∀ p ∈ l, p ∈ r) : ∀ p ∈ l, p ∈ a :: r := fun p hp => List.mem_cons_of_mem _ (h p hp)
theorem sub_right {α : Type} {l r m : List α} (h : ∀ p ∈ l, p ∈ r) : ∀ p ∈ l, p ∈ m ++ r := fun p hp => List.mem_append_right _ (h p hp)
theorem sub_use {α : Type} {l r : List α} {p : α} (h : p ∈ l) (s : ∀ p ∈ l, p ∈ r) : p ∈ r := s p h
/-- the surroundings that leaf calls are walked in -/
abbrev AX : Around := { handled := none, depth := 800, frames := none, guards := none, units := 3000 }
theorem ax_weak {α : Type} {M : Model} {A : Around} {t : Sem α} {Q : α → Shared → Prop} {E : Value → Shared → Prop} {s : Shared} (hh : A.handled = none) (hd : A.depth ≤ 800) (hu : A.units ≤ 3000)
    (h : wpAny M AX t Q E s) : wpAny M A t Q E s := fun Γ p hΓ =>
  h Γ p ⟨hΓ.1.trans hh, Nat.le_trans hΓ.2.1 hd, (fun _ e => by cases e), (fun _ e => by cases e), Nat.le_trans hΓ.2.2.2.2 hu⟩
/-- a leaf call: nothing old is turned -/
def XEnd (s : Shared) (P : Value → Heap → Prop) (v : Value) (s' : Shared) : Prop :=
  ∃ h tk, s' = { s with heap := h, toks := tk } ∧ (∀ b o, s.heap.get? b = some o → h.get? b = some o) ∧ P v h
theorem xend_of {h₀ h : Heap} {g : Array GenState} {d : Drawn} {t t' : Nat} {os : OsState} {news : List (Addr × Obj)} {P : Value → Heap → Prop} {v : Value}
    (D : X.Mem h₀ h [] news) (hp : P v h) : XEnd ⟨h₀, g, d, t, os⟩ P v ⟨h, g, d, t', os⟩ :=
  ⟨h, t', rfl, fun b o e => D.keep b o e (by simp [X.away]), hp⟩
/-- the names that the law's surroundings leave open -/
noncomputable abbrev TLo : List Str := looseW view LO ++ (recsOf view).map (·.name) ++ (litsOf view).map (·.1) ++ (clssOf view (looseW view LO)).map (·.name)
/-- a call that leaves every old object as it was, and hands on some new ones -/
def Tells (lv : Nat) (w : World) (f : Addr) (vs : List Value) (pre : Heap → Prop) (Post : Value → List (Addr × Obj) → Prop) : Prop :=
  ∀ (mean : ExcName → Option Value) (mg mb : Str → Option Value) (dp un : Nat) (gd : Option (List Code)) (cn : Str) (cs : Scope) (a : Addr) (ccd : Value) (cl : List (Str × Addr)) (outer : List Env) (A₀ : Around) (base h₀ : Heap) (L : Addr) (m : Str → Option Value) (s : Shared) (Q E : Value → Shared → Prop),
    Below A₀ base outer h₀ → Fr h₀ L s.heap m → (K w.params).In h₀ → Top topProg TLo mean mg mb h₀ → cs.kind = .function → dp + 10 * lv ≤ 500 → un + 50 * lv ≤ 1000 → pre s.heap →
    (∀ r tl h' tk', Fr h₀ L h' m → (∀ b o, s.heap.get? b = some o → h'.get? b = some o) → News h₀ L h' tl → (∀ p ∈ tl, s.heap.get? p.1 = none) → Post r tl → Q r { s with heap := h', toks := tk' }) →
    wpAny (model PySem.Challenge.rw_in0001_01.row.prog w) (ktrTop dp un gd cn cs L a ccd cl outer) (call (.ref f) vs) Q E s
theorem news_nil {h₀ h : Heap} {L : Addr} : News h₀ L h [] := fun _ hp => nomatch hp
theorem keeps_of {h g h' : Heap} {L' : Addr} {m' : Str → Option Value} (G : GSub h g ([] : List Addr)) (F : Fr g L' h' m') : ∀ b o, h.get? b = some o → h'.get? b = some o :=
  fun b o e => F.keep b o (G b o e (fun h => nomatch h))
theorem fresh_of {h g h' : Heap} {L' : Addr} {tl tl' : List (Addr × Obj)} (G : GSub h g ([] : List Addr)) (N : News g L' h' tl') (hs : ∀ p ∈ tl, p ∈ tl') : ∀ p ∈ tl, h.get? p.1 = none := fun p hp => by
  cases e : h.get? p.1 with
  | none => rfl
  | some o => exact absurd (G _ _ e (fun h => nomatch h)) (by rw [(N p (hs p hp)).2.2]; exact fun h => nomatch h)
end Mine
end
section
open PySem PySem.W PyProof.Rows PySem.Calls
set_option Elab.async false
set_option maxRecDepth 100000
set_option maxHeartbeats 8000000
namespace Mine
theorem sub_pair (P : Params) : subIn (K P) (.ref 217) (.type "tuple") = some true := by kernel_rfl
theorem sub_fdd (P : Params) : subIn (K P) (.ref 122) (.type "dict") = some true := by kernel_rfl
theorem inst_sub {M : Model} {h : Heap} {x C : Addr} {ox : Obj} {T : String} {P : Params} (X : (K P).In h) (ho : h.get? x = some ox) (hc : ox.cls = .ref C) (e : subIn (K P) (.ref C) (.type T) = some true) :
    Looks M h (isInstance (.ref x) (.type T)) true := (show Looks M h (typeOf (.ref x)) (.ref C) from hc ▸ (Looks.ld ho).andThen .now).andThen (looks_subIn X e)
theorem tg_kind : builtinKind "tuple.__getitem__" = some .slot := by
  simp only [builtinKind]
  rw [show splitId "tuple.__getitem__" = some ("tuple", "__getitem__") from by decide +kernel]
  kernel_rfl
theorem tg_split : splitId "tuple.__getitem__" = some ("tuple", "__getitem__") := by decide +kernel
end Mine
end
section
open PySem PySem.W PyProof.Rows PySem.Calls
set_option Elab.async false
set_option maxRecDepth 100000
set_option maxHeartbeats 8000000
namespace Mine
abbrev pairObj (dx : Addr) (nm vl : Str) (t1 t2 : Tok) (n : Nat) : Obj := ⟨.ref 217, some dx, .seq #[.str nm t1, .str vl t2] n, #[]⟩
theorem leafK {prog : Program} {w : World} {A : Around} {t : Sem Value} {P : Value → Heap → Prop} {Q E : Value → Shared → Prop} {s : Shared} {h₀ : Heap} {L : Addr} {m : Str → Option Value} {news : List (Addr × Obj)}
    (F : Fr h₀ L s.heap m) (N : News h₀ L s.heap news) (h : wpAny (model prog w) AX t (XEnd s P) (fun _ _ => False) s) (hh : A.handled = none) (hd : A.depth ≤ 800) (hu : A.units ≤ 3000)
    (k : ∀ v h tk, Fr h₀ L h m → News h₀ L h news → P v h → Q v { s with heap := h, toks := tk }) : wpAny (model prog w) A t Q E s :=
  ax_weak hh hd hu (wpAny_mono h (fun v s' hv => by
    obtain ⟨h', tk, rfl, hk, hp⟩ := hv
    exact k v h' tk (F.keeps hk) (N.grown hk) hp) fun _ _ f => f.elim)
section
local macro_rules | `(tactic| x_close) => `(tactic| (refine xend_of (by first | assumption | exact X.Mem.start _) ?_; (show _ = _); kernel_rfl))
theorem type_of_pair {w : World} {x dx : Addr} {nm vl : Str} {t1 t2 : Tok} {n : Nat} {s : Shared} (X : (K w.params).In s.heap) (hx : s.heap.get? x = some (pairObj dx nm vl t1 t2 n)) :
    wpAny (model PySem.Challenge.rw_in0001_01.row.prog w) AX (call (.type "type") [.ref x]) (XEnd s (fun v _ => v = .ref 217)) (fun _ _ => False) s := by
  k_fill
  obtain ⟨h₀, g, d, t, os⟩ := s
  dsimp only [pairObj] at X hx
  x_run
theorem issub_pair {w : World} {s : Shared} (X : (K w.params).In s.heap) :
    wpAny (model PySem.Challenge.rw_in0001_01.row.prog w) AX (call (.builtin "issubclass") [.ref 217, .type "tuple"]) (XEnd s (fun v _ => v = .bool true)) (fun _ _ => False) s := by
  k_fill
  obtain ⟨h₀, g, d, t, os⟩ := s
  dsimp only at X
  x_run
end
theorem item_check {w : World} {A : Around} {x : Addr} {tk : Tok} {s : Shared} {Q : Unit → Shared → Prop} {E : Value → Shared → Prop} {i : Int} 
  (hx : Looks (model PySem.Challenge.rw_in0001_01.row.prog w) s.heap (isInstance (.ref x) (.type "tuple")) true) (hQ : Q () s) :
  wpAny (model PySem.Challenge.rw_in0001_01.row.prog w) A.in1 (checkBuiltinCall "tuple.__getitem__" ⟨[.ref x, .int i tk], []⟩) Q E s := by
   refine check_slot (i := "tuple.__getitem__") (owner := "tuple") (n := "__getitem__") ?a ?b ?c ?d ?e
   case a => exact tg_kind
   case b => exact tg_split
   case c => exact hx
   case d => exact F.args_tuple_getitem_2 _ _
   case e => exact hQ
theorem item_pair {w : World} {A : Around} {x dx : Addr} {nm vl : Str} {t1 t2 tk : Tok} {n : Nat} {s : Shared} {Q E : Value → Shared → Prop} (X : (K w.params).In s.heap) (hx : s.heap.get? x = some (pairObj dx nm vl t1 t2 n))
    {i : Int} {k : Nat} {v : Value} (h0 : -2 ^ 63 ≤ i) (h1 : i < 2 ^ 63) (hk : seqIndex? i 2 = some k) (hv : #[Value.str nm t1, Value.str vl t2][k]? = some v) (h : Q v s) :
    wpAny (model PySem.Challenge.rw_in0001_01.row.prog w) A (call (.builtin "tuple.__getitem__") [.ref x, .int i tk]) Q E s := by
  refine wpAny_call ?_
  refine codeAny_call_builtin (id := "tuple.__getitem__") (b := Builtin.«tuple.__getitem__») ?h1 ?h2 ?h3
  case h1 => exact F.slot_tuple_getitem.plain
  case h2 => exact F.entry_tuple_getitem
  case h3 =>
    refine item_check (inst_sub X hx rfl (sub_pair _)) ?_
    obtain ⟨hp, g, d, tk', os⟩ := s
    have f1 := AutoSeq1.idx_int
    dsimp only at hx
    unfold Builtin.«tuple.__getitem__»
    wp_walk using wpAny_loadPart' hx
    refine wpAny_ite_false (by simp; omega) ?_
    rw [show (#[Value.str nm t1, Value.str vl t2] : Array Value).size = 2 from rfl, hk]
    simp only [Option.bind_some, hv]
    exact wpAny_pure h
end Mine
end
section
open PySem PySem.W PyProof.Rows PySem.Calls
set_option Elab.async false
set_option maxRecDepth 100000
set_option maxHeartbeats 8000000
namespace Mine
section
local macro_rules | `(tactic| x_close) => `(tactic| (refine xend_of (by first | assumption | exact X.Mem.start _) ?_; (show _ = _); kernel_rfl))
theorem attr_getitem {w : World} {s : Shared} {tk : Tok} (X : (K w.params).In s.heap) :
    wpAny (model PySem.Challenge.rw_in0001_01.row.prog w) AX (getAttrBy (.type "tuple") (.str (Str.ofString "__getitem__") tk) true false) (XEnd s (fun v _ => v = .builtin "tuple.__getitem__")) (fun _ _ => False) s := by
  k_fill
  obtain ⟨h₀, g, d, t, os⟩ := s
  dsimp only at X
  x_run
theorem attr_new {w : World} {s : Shared} {tk : Tok} (X : (K w.params).In s.heap) :
    wpAny (model PySem.Challenge.rw_in0001_01.row.prog w) AX (getAttrBy (.type "tuple") (.str (Str.ofString "__new__") tk) true false) (XEnd s (fun v _ => v = .builtin "tuple.__new__")) (fun _ _ => False) s := by
  k_fill
  obtain ⟨h₀, g, d, t, os⟩ := s
  dsimp only at X
  x_run
theorem attr_strip {w : World} {s : Shared} {tk : Tok} (X : (K w.params).In s.heap) :
    wpAny (model PySem.Challenge.rw_in0001_01.row.prog w) AX (getAttrBy (.type "str") (.str (Str.ofString "strip") tk) true true) (XEnd s (fun v _ => v = .builtin "str.strip")) (fun _ _ => False) s := by
  k_fill
  obtain ⟨h₀, g, d, t, os⟩ := s
  dsimp only at X
  x_run
end
theorem gm_type {M : Model} {A : Around} {E : Value → Shared → Prop} {s : Shared} {n : String} {x : Str} {pl : Sem Bool} {Q : Value × List Value → Shared → Prop}
    (hn : specialOf (.type n) "__getattribute__" = pure (some (.builtin "type.__getattribute__")))
    (h : ∀ tk, wpAny M A (getAttrBy (.type n) (.str x tk) true false) (fun v => Q (v, [])) E { s with toks := s.toks + 1 }) : wpAny M A (getMethod (.type n) x pl) Q E s := by
  unfold getMethod
  rw [hn]
  refine wpAny_bind (wpAny_pure ?_)
  dsimp only
  rw [if_pos canon_tga]
  refine wpAny_bind (wpAny_mono (wpAny_bind (wpAny_mkText (h _))) (fun _ _ z => wpAny_pure z) fun _ _ z => z)
theorem ga_tuple : specialOf (.type "tuple") "__getattribute__" = pure (some (.builtin "type.__getattribute__")) := by kernel_rfl
theorem ga_str : specialOf (.type "str") "__getattribute__" = pure (some (.builtin "type.__getattribute__")) := by kernel_rfl
/-- a builtin class's method, got by name -/
theorem leafM {prog : Program} {w : World} {A : Around} {n : String} {x : Str} {pl : Sem Bool} {v : Value} {Q : Value × List Value → Shared → Prop} {E : Value → Shared → Prop} {s : Shared} {h₀ : Heap} {L : Addr} {m : Str → Option Value} {news : List (Addr × Obj)}
    (F : Fr h₀ L s.heap m) (N : News h₀ L s.heap news) (hn : specialOf (.type n) "__getattribute__" = pure (some (.builtin "type.__getattribute__")))
    (h : ∀ tk, wpAny (model prog w) AX (getAttrBy (.type n) (.str x tk) true false) (XEnd { s with toks := s.toks + 1 } (fun u _ => u = v)) (fun _ _ => False) { s with toks := s.toks + 1 }) (hh : A.handled = none) (hd : A.depth ≤ 800) (hu : A.units ≤ 3000)
    (k : ∀ h tk, Fr h₀ L h m → News h₀ L h news → Q (v, []) { s with heap := h, toks := tk }) : wpAny (model prog w) A (getMethod (.type n) x pl) Q E s :=
  gm_type hn fun tk => leafK (s := { s with toks := s.toks + 1 }) F N (h tk) hh hd hu fun v' h' tk' F' N' e => by
    subst e
    exact k h' tk' F' N'
theorem leafA {prog : Program} {w : World} {A : Around} {n : String} {x : Str} {v : Value} {ex : Bool} {Q : Value → Shared → Prop} {E : Value → Shared → Prop} {s : Shared} {h₀ : Heap} {L : Addr} {m : Str → Option Value} {news : List (Addr × Obj)}
    (F : Fr h₀ L s.heap m) (N : News h₀ L s.heap news) 
    (h : ∀ tk, wpAny (model prog w) AX (getAttrBy (.type n) (.str x tk) true ex) (XEnd { s with toks := s.toks + 1 } (fun u _ => u = v)) (fun _ _ => False) { s with toks := s.toks + 1 }) (hh : A.handled = none) (hd : A.depth ≤ 800) (hu : A.units ≤ 3000)
    (k : ∀ h tk, Fr h₀ L h m → News h₀ L h news → Q v { s with heap := h, toks := tk }) : wpAny (model prog w) A (getAttr (.type n) x ex) Q E s :=
  wpAny_bind (wpAny_mkText (leafK (s := { s with toks := s.toks + 1 }) F N (h _) hh hd hu fun v' h' tk' F' N' e => by
    subst e
    exact k h' tk' F' N'))
end Mine
end
section
open PySem PySem.W PyProof.Rows PySem.Calls
set_option Elab.async false
set_option maxRecDepth 100000
set_option maxHeartbeats 8000000
set_option linter.unusedVariables false
namespace Mine
theorem dOk {dp un : Nat} {gd : Option (List Code)} {cn : Str} {cs : Scope} {L a : Addr} {ccd : Value} {cl : List (Str × Addr)} {outer : List Env} {env : Env} {lv : Nat} (h : dp + 10 * lv ≤ 500) : ((ktrTop dp un gd cn cs L a ccd cl outer).deeper env).depth ≤ 800 := by
  show dp + 1 ≤ 800; omega
theorem uOk {dp un : Nat} {gd : Option (List Code)} {cn : Str} {cs : Scope} {L a : Addr} {ccd : Value} {cl : List (Str × Addr)} {outer : List Env} {env : Env} {lv : Nat} (h : un + 50 * lv ≤ 1000) : ((ktrTop dp un gd cn cs L a ccd cl outer).deeper env).units ≤ 3000 := by
  show un + 3 ≤ 3000; omega
theorem item_pair0 {w : World} {A : Around} {x dx : Addr} {nm vl : Str} {t1 t2 tk : Tok} {n : Nat} {s : Shared} {Q E : Value → Shared → Prop} (X : (K w.params).In s.heap) (hx : s.heap.get? x = some (pairObj dx nm vl t1 t2 n))
    (h : Q (.str nm t1) s) : wpAny (model PySem.Challenge.rw_in0001_01.row.prog w) A (call (.builtin "tuple.__getitem__") [.ref x, .int 0 tk]) Q E s := item_pair X hx (by decide) (by decide) (k := 0) rfl rfl h
theorem item_pair1 {w : World} {A : Around} {x dx : Addr} {nm vl : Str} {t1 t2 tk : Tok} {n : Nat} {s : Shared} {Q E : Value → Shared → Prop} (X : (K w.params).In s.heap) (hx : s.heap.get? x = some (pairObj dx nm vl t1 t2 n))
    (h : Q (.str vl t2) s) : wpAny (model PySem.Challenge.rw_in0001_01.row.prog w) A (call (.builtin "tuple.__getitem__") [.ref x, .int 1 tk]) Q E s := item_pair X hx (by decide) (by decide) (k := 1) rfl rfl h
section
theorem get_tells0 (w : World) (x dx : Addr) (nm vl : Str) (t1 t2 : Tok) (n : Nat) : Tells 0 w 75 [.ref 186, .ref x, .ref 217] (fun h => h.get? x = some (pairObj dx nm vl t1 t2 n)) (fun r tl => r = .str nm t1 ∧ tl = []) := by
  k_with_none
  k_with "call type:type" => (k_here; (refine leafK (by k_asm) (by k_asm) (type_of_pair (by k_in) (Fr.keep (by k_asm) _ _ (by assumption))) rfl ?zqhd ?zqhu ?_); (case zqhd => exact dOk (by assumption)); (case zqhu => exact uOk (by assumption)); intro _ _ _ _ _ hv9; subst hv9; (try dsimp only))
  k_with "call builtin:issubclass" => (k_here; (refine leafK (by k_asm) (by k_asm) (issub_pair (by k_in)) rfl ?zqhd ?zqhu ?_); (case zqhd => exact dOk (by assumption)); (case zqhu => exact uOk (by assumption)); intro _ _ _ _ _ hv9; subst hv9; (try dsimp only))
  k_with "call builtin:tuple.__getitem__" => (k_here; first | (refine item_pair0 (by k_in) (Fr.keep (by k_asm) _ _ (by assumption)) ?_) | (refine item_pair1 (by k_in) (Fr.keep (by k_asm) _ _ (by assumption)) ?_))
  k_with "getMethod type:tuple" => (k_here; (refine leafM (by k_asm) (by k_asm) ga_tuple (fun tk => attr_getitem (by k_in)) rfl ?zqhd ?zqhu ?_); (case zqhd => exact dOk (by assumption)); (case zqhu => exact uOk (by assumption)); intro _ _ _ _; (try dsimp only))
  unfold Tells
  k_fill
  intro mean mg mb dp un gd cn cs a ccd cl outer A₀ base h₀ L m s Q E B F X T hk hd hu hpre hret
  have N : News h₀ L s.heap [] := news_nil
  refine wpAny_call ?_
  k_dflt (refine' code_defG ?k1 ?k2 ?k3 ?k4 ?k5 ?kA ?kF ?kK ?k6 ?k7 ?k8 ?k9 ?kB ?_ ?c2 ?c3 ?c4 ?c5; (case kA => exact rfl); (case kF => exact rfl); (case kK => assumption); (case k1 => k_asm); (case k2 => k_asm); (case k3 => k_asm); (case k4 => k_asm); (case k5 => k_asm); (case k6 => k_is); (case k7 => k_is); (case k8 => exact Nat.lt_of_le_of_lt (Nat.le_trans (Nat.le_add_right _ _) hd) (by decide)); (case k9 => first | exact BindsTo.of_eq rfl | exact binds_K (by k_in) rfl (by k_is) rfl rfl rfl); (case c5 => decide); (case kB => exact locs rfl); (case c2 => exact rfl); (case c3 => exact rfl); (case c4 => exact rfl); k_whole; intro g' L' h' FG' F' N' B' X' T' kG'; (try dsimp only); (try k_lift B'); (try k_fold))
  have hx' := kG' _ _ hpre (fun h => nomatch h)
  k_steps
  refine hret _ [] _ _ (by k_asm) (keeps_of kG' (by k_asm)) news_nil (fun _ h => nomatch h) ⟨rfl, rfl⟩
theorem get_tells1 (w : World) (x dx : Addr) (nm vl : Str) (t1 t2 : Tok) (n : Nat) : Tells 0 w 75 [.ref 189, .ref x, .ref 217] (fun h => h.get? x = some (pairObj dx nm vl t1 t2 n)) (fun r tl => r = .str vl t2 ∧ tl = []) := by
  k_with_none
  k_with "call type:type" => (k_here; (refine leafK (by k_asm) (by k_asm) (type_of_pair (by k_in) (Fr.keep (by k_asm) _ _ (by assumption))) rfl ?zqhd ?zqhu ?_); (case zqhd => exact dOk (by assumption)); (case zqhu => exact uOk (by assumption)); intro _ _ _ _ _ hv9; subst hv9; (try dsimp only))
  k_with "call builtin:issubclass" => (k_here; (refine leafK (by k_asm) (by k_asm) (issub_pair (by k_in)) rfl ?zqhd ?zqhu ?_); (case zqhd => exact dOk (by assumption)); (case zqhu => exact uOk (by assumption)); intro _ _ _ _ _ hv9; subst hv9; (try dsimp only))
  k_with "call builtin:tuple.__getitem__" => (k_here; first | (refine item_pair0 (by k_in) (Fr.keep (by k_asm) _ _ (by assumption)) ?_) | (refine item_pair1 (by k_in) (Fr.keep (by k_asm) _ _ (by assumption)) ?_))
  k_with "getMethod type:tuple" => (k_here; (refine leafM (by k_asm) (by k_asm) ga_tuple (fun tk => attr_getitem (by k_in)) rfl ?zqhd ?zqhu ?_); (case zqhd => exact dOk (by assumption)); (case zqhu => exact uOk (by assumption)); intro _ _ _ _; (try dsimp only))
  unfold Tells
  k_fill
  intro mean mg mb dp un gd cn cs a ccd cl outer A₀ base h₀ L m s Q E B F X T hk hd hu hpre hret
  have N : News h₀ L s.heap [] := news_nil
  refine wpAny_call ?_
  k_dflt (refine' code_defG ?k1 ?k2 ?k3 ?k4 ?k5 ?kA ?kF ?kK ?k6 ?k7 ?k8 ?k9 ?kB ?_ ?c2 ?c3 ?c4 ?c5; (case kA => exact rfl); (case kF => exact rfl); (case kK => assumption); (case k1 => k_asm); (case k2 => k_asm); (case k3 => k_asm); (case k4 => k_asm); (case k5 => k_asm); (case k6 => k_is); (case k7 => k_is); (case k8 => exact Nat.lt_of_le_of_lt (Nat.le_trans (Nat.le_add_right _ _) hd) (by decide)); (case k9 => first | exact BindsTo.of_eq rfl | exact binds_K (by k_in) rfl (by k_is) rfl rfl rfl); (case c5 => decide); (case kB => exact locs rfl); (case c2 => exact rfl); (case c3 => exact rfl); (case c4 => exact rfl); k_whole; intro g' L' h' FG' F' N' B' X' T' kG'; (try dsimp only); (try k_lift B'); (try k_fold))
  have hx' := kG' _ _ hpre (fun h => nomatch h)
  k_steps
  refine hret _ [] _ _ (by k_asm) (keeps_of kG' (by k_asm)) news_nil (fun _ h => nomatch h) ⟨rfl, rfl⟩
end
end Mine
end
section
open PySem PySem.W PyProof.Rows PySem.Calls
set_option Elab.async false
set_option maxRecDepth 100000
set_option maxHeartbeats 8000000
set_option linter.unusedVariables false
namespace Mine
theorem mem_new {h₀ h : Heap} {chg news : List (Addr × Obj)} (D : X.Mem h₀ h chg news) (i : Nat) (a : Addr) (o : Obj) (hi : news[i]? = some (a, o)) : h₀.get? a = none := (D.nw _ (List.mem_of_getElem? hi)).2
section
local macro_rules | `(tactic| x_close) => `(tactic| (refine xend_of (by first | assumption | exact X.Mem.start _) ?_; exact ⟨_, _, _, rfl, X.Mem.at (by assumption) 0 _ _ rfl, X.Mem.at (by assumption) 1 _ _ rfl, mem_new (by assumption) 0 _ _ rfl, mem_new (by assumption) 1 _ _ rfl⟩))
theorem mk_pair {w : World} {s : Shared} {a b : Str} {t1 t2 : Tok} (X : (K w.params).In s.heap) :
    wpAny (model PySem.Challenge.rw_in0001_01.row.prog w) AX (call (.ref 217) [.str a t1, .str b t2]) (XEnd s (fun v h => ∃ x dx n, v = .ref x ∧ h.get? x = some (pairObj dx a b t1 t2 n) ∧ h.get? dx = some (dictOf [] 0) ∧ s.heap.get? x = none ∧ s.heap.get? dx = none)) (fun _ _ => False) s := by
  k_fill
  obtain ⟨h₀, g, d, t, os⟩ := s
  dsimp only at X
  x_run
end
end Mine
end
section
open PySem PySem.W PyProof.Rows PySem.Calls
set_option Elab.async false
set_option maxRecDepth 100000
set_option maxHeartbeats 8000000
set_option linter.unusedVariables false
namespace Mine
theorem slot_map_next : Slot "map" "__next__" "map.__next__" :=
  .of (owner := "map") (n := "__next__") (by rw [typeLookup_type, builtinLookup_eq_fast]; kernel_rfl) (by decide +kernel) (by decide +kernel) (by decide +kernel)
    (by first | exact .inl (by decide +kernel) | exact .inr (by decide +kernel)) (by rw [isSubtype_type]; kernel_rfl)
theorem slot_map_iter : Slot "map" "__iter__" "map.__iter__" :=
  .of (owner := "map") (n := "__iter__") (by rw [typeLookup_type, builtinLookup_eq_fast]; kernel_rfl) (by decide +kernel) (by decide +kernel) (by decide +kernel)
    (by first | exact .inl (by decide +kernel) | exact .inr (by decide +kernel)) (by rw [isSubtype_type]; kernel_rfl)
theorem entry_map_next : entryFor table "map.__next__" = some Builtin.«map.__next__» := entryFor_of_fast (by kernel_rfl)
theorem entry_map_iter : entryFor table "map.__iter__" = some Builtin.«dict_keyiterator.__iter__» :=
  entryFor_alias (id' := "dict_keyiterator.__iter__") (by kernel_rfl) (by first | rfl | decide +kernel | (unfold String.splitOn; simp +decide [String.splitOnAux])) (by decide +kernel) (by kernel_rfl)
theorem args_map_next (a : Value) : argsOk "map.__next__" ⟨[a], []⟩ := by unfold argsOk; kernel_rfl
theorem args_map_iter (a : Value) : argsOk "map.__iter__" ⟨[a], []⟩ := by unfold argsOk; kernel_rfl
theorem map_no_len : typeLookup (.type "map") "__len__" = pure none := by rw [typeLookup_type, builtinLookup_eq_fast]; kernel_rfl
theorem map_no_hint : typeLookup (.type "map") "__length_hint__" = pure none := by rw [typeLookup_type, builtinLookup_eq_fast]; kernel_rfl
abbrev mapObj (tp : Addr) : Obj := { cls := .type "map", data := .fields #[.ref tp, .builtin "str.strip"] }
abbrev oneTup (it : Addr) : Obj := { cls := .type "tuple", data := .seq #[.ref it] }
theorem nextOf_item {w : World} {A : Around} {it l : Addr} {i : Nat} {items : Array Value} {x : Value} {s : Shared} {Q : Value → Shared → Prop} {E : Value → Shared → Prop}
    (hit : s.heap.IsListIter it l i) (hl : s.heap.IsList l items) (hx : items[i]? = some x) 
    (hQ : ∀ h', h'.IsListIter it l (i + 1) → Heap.SameBut it s.heap h' → Q x { s with heap := h' }) :
    wpAny (model PySem.Challenge.rw_in0001_01.row.prog w) A (Builtin.SmallTypes.nextOf (.ref it)) Q E s := by
  obtain ⟨o, ho, hc, hd⟩ := id hit
  obtain ⟨ol, hol, _, nl, hdl⟩ := hl
  unfold Builtin.SmallTypes.nextOf
  refine wpAny_bind (wpAny_callSpecial?_slot (name := Str.ofString "__next__") hit.typeIs slot_listiter_next (wpAny_call_entry slot_listiter_next hit.typeIs entry_listiter_next ?_ (args_listiter_next _)))
  show wpAny _ _ (field (.ref it) 0 >>= _) _ _ s
  refine wpAny_bind (wpAny_field ho hd (x := .ref l) rfl ?_)
  show wpAny _ _ (if (Value.ref l == Value.none) = true then _ else _) _ _ s
  rw [if_neg (show ¬ ((Value.ref l == Value.none) = true) from Bool.false_ne_true)]
  show wpAny _ _ (field (.ref it) 1 >>= _) _ _ s
  refine wpAny_bind (wpAny_field ho hd (x := .int i 0) rfl ?_)
  show wpAny _ _ (seqItems? (.ref l) >>= _) _ _ s
  refine wpAny_bind (wpAny_seqItems hol hdl ?_)
  simp only [Int.toNat_natCast, hx]
  refine wpAny_bind (wpAny_setField ho hd (by simp) (wpAny_pure ⟨x, rfl, wpAny_pure (hQ _ ?_ (Heap.SameBut.update ..))⟩))
  exact ⟨_, Heap.get?_update_self _ ho (Obj.isFreed_of_fields (Obj.data_mapFields hd _)), (Obj.cls_mapFields ..).trans hc, by
    rw [Obj.data_mapFields hd]; simp [rawInt]⟩
theorem nextOf_v {w : World} {A : Around} {it l : Addr} {i : Nat} {items : Array Value} {x v : Value} {s : Shared} {Q : Value → Shared → Prop} {E : Value → Shared → Prop}
    (hit : s.heap.IsListIter it l i) (hl : s.heap.IsList l items) (hx : items[i]? = some x) 
    (hQ : ∀ h', h'.IsListIter it l (i + 1) → Heap.SameBut it s.heap h' → Q x { s with heap := h' }) (hv : v = .ref it := by rfl) :
    wpAny (model PySem.Challenge.rw_in0001_01.row.prog w) A (Builtin.SmallTypes.nextOf v) Q E s := by
  subst hv; exact nextOf_item hit hl hx hQ
theorem strip_code {w : World} {A : Around} {x : Str} {t : Tok} {s : Shared} {R : Result → Shared → Prop} (hsz : x.length ≤ sizeLine) (h : ∀ t' k, R (.ok (.ret (.str (Txt.strip x) t'))) { s with toks := k }) :
    codeAny (model PySem.Challenge.rw_in0001_01.row.prog w) A (.call (.builtin "str.strip") ⟨[.str x t], []⟩) R s :=
  codeAny_call_builtin PySem.F.slot_str_strip.plain PySem.F.entry_str_strip (PySem.F.slot_str_strip.check _ _ _ _ _ _ _ _ (typeIs_str _ _ _) (PySem.F.args_str_strip_1 _)
    (gives_str_strip x t _ _ _ _ _ (post_val_or_made (Q := fun v s' => R (.ok (.ret v)) s') (fun _ => fits_stripped _ _ _ hsz) (fun t' k => h t' k))))
theorem map_item {w : World} {A : Around} {mp tp it l : Addr} {i : Nat} {items : Array Value} {x : Str} {t : Tok} {s : Shared} {Q : Option Value → Shared → Prop} {E : Value → Shared → Prop}
    (hm : s.heap.get? mp = some (mapObj tp)) (ht : s.heap.get? tp = some (oneTup it)) (hi : s.heap.IsListIter it l i) (hl : s.heap.IsList l items) (hx : items[i]? = some (.str x t)) (hsz : x.length ≤ 1000)
    (hne : mp ≠ it) 
    (hQ : ∀ t' h' tk, h'.IsListIter it l (i + 1) → Heap.SameBut it s.heap h' → Q (some (.str (Txt.strip x) t')) { s with heap := h', toks := tk }) :
    wpAny (model PySem.Challenge.rw_in0001_01.row.prog w) A (pyNext (.ref mp)) Q E s := by
  unfold pyNext
  refine wpAny_bind (wpAny_attempt (wpAny_callSpecial?_slot (name := Str.ofString "__next__") ⟨_, hm, rfl⟩ slot_map_next (wpAny_call_entry slot_map_next ⟨_, hm, rfl⟩ entry_map_next ?_ (args_map_next _))))
  obtain ⟨hp, g, d, tk', os⟩ := s
  dsimp only at hm ht
  unfold Builtin.«map.__next__»
  generalize hn : Builtin.SmallTypes.nextOf = nx
  wp_walk using wpAny_load hm, wpAny_loadPart' hm, wpAny_load ht
  rw [← hn]
  refine nextOf_v hi hl hx (fun h' hit' hs' => ?_) rfl
  have hm' : h'.get? mp = some (mapObj tp) := (hs'.2 mp hne).trans hm
  wp_walk using wpAny_load hm', wpAny_loadPart' hm'
  show codeAny _ _ (.call (.builtin "str.strip") ⟨[.str x t], []⟩) _ _
  refine strip_code (Nat.le_trans hsz (by decide)) (fun t' k => ?_)
  show wpAny _ _ (letGo [.str x t] [.str (Txt.strip x) t'] >>= _) _ _ _
  refine wpAny_bind (wpAny_letGo (wpAny_pure ⟨_, rfl, wpAny_pure (hQ t' h' k hit' hs')⟩))
theorem map_end {w : World} {A : Around} {mp tp it l : Addr} {i : Nat} {items : Array Value} {s : Shared} {Q : Option Value → Shared → Prop} {E : Value → Shared → Prop} (hh : A.handled = none)
    (hm : s.heap.get? mp = some (mapObj tp)) (ht : s.heap.get? tp = some (oneTup it)) (hi : s.heap.IsListIter it l i) (hl : s.heap.IsList l items) (hx : items[i]? = none)
    (hQ : ∀ h' tk, Heap.ExtBut it s.heap h' → Q none { s with heap := h', toks := tk }) :
    wpAny (model PySem.Challenge.rw_in0001_01.row.prog w) A (pyNext (.ref mp)) Q E s := by
  unfold pyNext
  refine wpAny_bind (wpAny_attempt (wpAny_callSpecial?_slot (name := Str.ofString "__next__") ⟨_, hm, rfl⟩ slot_map_next (wpAny_call_entry slot_map_next ⟨_, hm, rfl⟩ entry_map_next ?_ (args_map_next _))))
  obtain ⟨hp, g, d, tk', os⟩ := s
  dsimp only at hm ht
  unfold Builtin.«map.__next__»
  generalize hn : Builtin.SmallTypes.nextOf = nx
  wp_walk using wpAny_load hm, wpAny_loadPart' hm, wpAny_load ht
  rw [← hn]
  refine wpAny_nextOf_list_end hh hi hl hx (fun h' x he' hx' => ?_)
  obtain ⟨o, ho, hc⟩ := hx'
  refine wpAny_bind (wpAny_isInstance (T := "StopIteration") (b := true) ⟨o, ho, hc⟩ isSubtype_stop ?_)
  exact wpAny_pure (hQ _ _ he')
/-- the map of strip over a list of strs, walked -/
theorem map_walks {w : World} {A : Around} (hh : A.handled = none) (mp tp it l : Addr) (h1 : mp ≠ it) (h2 : tp ≠ it) (h3 : l ≠ it) (xs : List (Str × Tok)) (hz : ∀ x ∈ xs, x.1.length ≤ 1000) :
    Walks PySem.Challenge.rw_in0001_01.row.prog w A mp [mp, tp, it, l] [it] xs.length (fun i v => ∃ x t, (xs.map Prod.fst)[i]? = some x ∧ v = .str (Txt.strip x) t)
      (fun i h => h.get? mp = some (mapObj tp) ∧ h.get? tp = some (oneTup it) ∧ h.IsListIter it l i ∧ h.IsList l (strValues xs).toArray) where
  sub := fun b hb => by simp only [List.mem_cons, List.not_mem_nil, or_false] at hb ⊢; subst hb; simp
  frame := fun i h h' st hk => by
    obtain ⟨a, b, c, d⟩ := st
    obtain ⟨o, ho, c'⟩ := c
    obtain ⟨o2, ho2, d'⟩ := d
    exact ⟨hk _ (by simp) _ a, hk _ (by simp) _ b, ⟨o, hk _ (by simp) _ ho, c'⟩, ⟨o2, hk _ (by simp) _ ho2, d'⟩⟩
  item := fun i s Q E hi st hQ => by
    obtain ⟨a, b, c, d⟩ := st
    have hx : (strValues xs).toArray[i]? = some (.str xs[i].1 xs[i].2) := by simp [strValues, hi]
    refine map_item a b c d hx (hz _ (List.getElem_mem hi)) h1 (fun t' h' tk e f => ?_)
    refine hQ _ h' tk ⟨xs[i].1, t', by simp [hi], rfl⟩ ⟨(f.2 _ h1).trans a, (f.2 _ h2).trans b, e, ?_⟩ (fun b' o hb e' => (f.2 _ (fun q => hb (by rw [q]; exact List.mem_cons_self))).trans e')
    obtain ⟨o2, ho2, d'⟩ := d
    exact ⟨o2, (f.2 _ h3).trans ho2, d'⟩
  done := fun s Q E st hQ => by
    obtain ⟨a, b, c, d⟩ := st
    refine map_end hh a b c d (by simp [strValues]) (fun h' tk f => ?_)
    exact hQ h' tk (fun b' o hb e' => f _ _ (fun q => hb (by rw [q]; exact List.mem_cons_self)) e')
  self := fun i s Q E st h => by
    obtain ⟨a, b, c, d⟩ := st
    refine wpAny_pyIter_slot ⟨_, a, rfl⟩ slot_map_iter (wpAny_call_entry slot_map_iter ⟨_, a, rfl⟩ entry_map_iter ?_ (args_map_iter _))
    show wpAny _ _ (ret (.ref mp)) _ _ s
    exact wpAny_pure ⟨_, rfl, "map", _, ⟨_, a, rfl⟩, slot_map_next.lookup, h⟩
section
local macro_rules | `(tactic| x_close) => `(tactic| (refine xend_of (by first | assumption | exact X.Mem.start _) ?_; exact ⟨_, _, _, rfl, X.Mem.at (by assumption) 0 _ _ rfl, X.Mem.at (by assumption) 1 _ _ rfl, X.Mem.at (by assumption) 2 _ _ rfl, mem_new (by assumption) 0 _ _ rfl, mem_new (by assumption) 1 _ _ rfl, mem_new (by assumption) 2 _ _ rfl⟩))
theorem mk_map {w : World} {s : Shared} {l : Addr} {n : Nat} {its : Array Value} {dc : Option Addr} {sl : Array (Option Value)} (X : (K w.params).In s.heap) (hl : s.heap.get? l = some ⟨.type "list", dc, .seq its n, sl⟩) :
    wpAny (model PySem.Challenge.rw_in0001_01.row.prog w) AX (call (.type "map") [.builtin "str.strip", .ref l]) (XEnd s (fun v h => ∃ mp tp it, v = .ref mp ∧ h.get? mp = some (mapObj tp) ∧ h.get? tp = some (oneTup it) ∧ h.get? it = some ⟨.type "list_iterator", none, .fields #[.ref l, .int 0 0], #[]⟩ ∧ s.heap.get? mp = none ∧ s.heap.get? tp = none ∧ s.heap.get? it = none)) (fun _ _ => False) s := by
  k_fill
  obtain ⟨h₀, g, d, t, os⟩ := s
  dsimp only at X hl
  x_run
end
theorem map_collect {w : World} {A : Around} (hh : A.handled = none) {mp tp it l : Addr} (h1 : mp ≠ it) (h2 : tp ≠ it) (h3 : l ≠ it) {xs : List (Str × Tok)} (hz : ∀ x ∈ xs, x.1.length ≤ 1000) (hz' : xs.length ≤ 1000)
    {s : Shared} {Q : List Value → Shared → Prop} {E : Value → Shared → Prop}
    (hm : s.heap.get? mp = some (mapObj tp)) (ht : s.heap.get? tp = some (oneTup it)) (hi : s.heap.IsListIter it l 0) (hl : s.heap.IsList l (strValues xs).toArray)
    (hQ : ∀ h' tk acc, (∀ b o, b ≠ it → s.heap.get? b = some o → h'.get? b = some o) → ItemsOf (fun i v => ∃ x t, (xs.map Prod.fst)[i]? = some x ∧ v = .str (Txt.strip x) t) acc xs.length → Q acc.toList { s with heap := h', toks := tk }) :
    wpAny (model PySem.Challenge.rw_in0001_01.row.prog w) A (collect (.ref mp)) Q E s := by
  have W := (map_walks (w := w) (A := A.in1) (show A.in1.handled = none from hh) mp tp it l h1 h2 h3 xs hz).toS
  have st0 := And.intro hm (And.intro ht (And.intro hi hl))
  have hfp : ∀ b ∈ [mp, tp, it, l], b < s.heap.objs.size := by
    obtain ⟨o, ho, _⟩ := id hi
    obtain ⟨o2, ho2, _⟩ := id hl
    intro b hb
    simp only [List.mem_cons, List.not_mem_nil, or_false] at hb
    rcases hb with rfl | rfl | rfl | rfl
    · exact Heap.lt_size hm
    · exact Heap.lt_size ht
    · exact Heap.lt_size ho
    · exact Heap.lt_size ho2
  have hSf : s.heap.objs.size ∉ [mp, tp, it, l] := fun hm => Nat.lt_irrefl _ (hfp _ hm)
  have hSI : s.heap.objs.size ≠ mp := fun e => hSf (e ▸ List.mem_cons_self)
  unfold collect
  refine wpAny_bind (wpAny_runValue (codeAny_builtin PySem.F.entry_proto_collect ?_))
  rw [Around.under_plainId PySem.F.plain_proto_collect _]
  show wpAny _ A.in1 (newList [] >>= fun l => again (.builtin "list.__iadd__" ⟨[l, .ref mp], []⟩)) _ _ s
  refine wpAny_bind (wpAny_newObj_type ?_)
  refine wpAny_pure ⟨plainId_quiet PySem.F.plain_list_iadd _, codeAny_builtin PySem.F.entry_list_iadd ?_⟩
  rw [Around.under_plainId PySem.F.plain_list_iadd _]
  have hst₁ := W.frame 0 s (s.heap.push { cls := .type "list", data := .seq ([] : List Value).toArray }) s.toks st0 (Nat.le_refl _) fun b _ o e => Heap.get?_push_of_some _ e
  have hT : ({ s with heap := s.heap.push { cls := .type "list", data := .seq ([] : List Value).toArray } } : Shared).TypeIs (.ref mp) "map" := ⟨_, hst₁.1, rfl⟩
  show wpAny _ A.in1 (Builtin.List.listExtendWith (.ref s.heap.objs.size) (.ref mp) (.ref s.heap.objs.size)) _ _ _
  unfold Builtin.List.listExtendWith
  refine wpAny_bind (wpAny_typeOf hT ?_)
  have e1 : Builtin.List.listSameRef (.ref s.heap.objs.size) (.ref mp) = false := by simp [Builtin.List.listSameRef, hSI]
  have e2 : (Value.type "map" == Value.type "list") = false := by decide
  have e3 : (Value.type "map" == Value.type "tuple") = false := by decide
  simp only [e1, e2, e3, Bool.or_false, Bool.false_eq_true, if_false]
  refine wpAny_bind (W.self 0 _ _ _ hst₁ ?_)
  refine wpAny_bind (wpAny_holding ?_)
  unfold Builtin.List.listLengthHint
  refine wpAny_bind (wpAny_specialOf hT map_no_len ?_)
  show wpAny _ A.in1 (specialOf (Value.ref mp) (Str.ofString "__length_hint__") >>= _) _ _ _
  refine wpAny_bind (wpAny_specialOf hT map_no_hint ?_)
  refine wpAny_pure ?_
  show wpAny _ A.in1 (rule "list.extend.makes-room" >>= fun _ => Builtin.List.listTouch (.ref s.heap.objs.size) >>= fun _ =>
    again (.builtin "list.extend.loop" ⟨[.ref s.heap.objs.size, .ref mp, .ref s.heap.objs.size], []⟩)) _ _ _
  refine wpAny_bind (wpAny_rule ?_)
  have hS₁ : (s.heap.push { cls := .type "list", data := .seq ([] : List Value).toArray }).get? s.heap.objs.size = some { cls := .type "list", data := .seq ([] : List Value).toArray } := Heap.get?_push_size _ rfl
  refine wpAny_bind ?_
  show wpAny _ A.in1 (updateSeq s.heap.objs.size (·.push .none) >>= fun _ => updateSeq s.heap.objs.size (·.pop)) _ _ _
  refine wpAny_bind (wpAny_updateSeq hS₁ rfl ?_)
  have hS₂ := Heap.get?_update_self (Obj.mapSeq (·.push Value.none)) hS₁ rfl
  refine wpAny_updateSeq hS₂ rfl ?_
  have hS₃ := Heap.get?_update_self (Obj.mapSeq (·.pop)) hS₂ rfl
  have oth : ∀ b o, b ≠ s.heap.objs.size → (s.heap.push { cls := .type "list", data := .seq ([] : List Value).toArray }).get? b = some o →
      (((s.heap.push { cls := .type "list", data := .seq ([] : List Value).toArray }).update s.heap.objs.size (Obj.mapSeq (·.push Value.none))).update s.heap.objs.size (Obj.mapSeq (·.pop))).get? b = some o :=
    fun b o hb e => (Heap.get?_update_other _ _ (Ne.symm hb)).trans ((Heap.get?_update_other _ _ (Ne.symm hb)).trans e)
  refine wpAny_pure ⟨plainId_quiet PySem.F.plain_extend_loop _, codeAny_extend_loopS W (Nat.le_trans hz' (by decide)) _ hSf _ xs.length 0 _ _ _ rfl (Nat.zero_le _)
    (W.frame 0 ({ s with heap := s.heap.push { cls := .type "list", data := .seq ([] : List Value).toArray } } : Shared) _ s.toks hst₁ (Nat.le_refl _) fun b hb o e => oth b o (fun h => hSf (h ▸ hb)) e) hS₃ (ItemsOf.nil _) fun s' acc' c' hm' hS' hacc => ?_⟩
  show wpAny _ A (load s.heap.objs.size >>= _) _ _ s'
  refine wpAny_bind (wpAny_load hS' ?_)
  obtain ⟨h', g', d', t', os'⟩ := s'
  obtain rfl : g' = s.gens := hm'.gens
  obtain rfl : d' = s.drawn := hm'.drawn
  obtain rfl : os' = s.os := hm'.os
  refine wpAny_pure (hQ h' t' acc' (fun b o hb e => hm'.heap b o ?_ ?_) hacc)
  · intro q
    rcases List.mem_cons.mp q with rfl | q
    · exact absurd (Heap.lt_size e) (Nat.lt_irrefl _)
    · exact hb (List.mem_singleton.mp q)
  · exact oth b o (fun q => by subst q; exact absurd (Heap.lt_size e) (Nat.lt_irrefl _)) (Heap.get?_push_of_some _ e)
/-- the splatted map of strip over two strs -/
theorem map_star {w : World} {A : Around} (hh : A.handled = none) (hd : A.depth ≤ 800) (hu : A.units ≤ 3000) {l : Addr} {xs : List (Str × Tok)} (hz : ∀ x ∈ xs, x.1.length ≤ 1000) (hz' : xs.length ≤ 1000)
    {s : Shared} {Q : List Value → Shared → Prop} {E : Value → Shared → Prop} (X : (K w.params).In s.heap) (hl : s.heap.IsList l (strValues xs).toArray)
    (hQ : ∀ h' tk acc, (∀ b o, s.heap.get? b = some o → h'.get? b = some o) → ItemsOf (fun i v => ∃ x t, (xs.map Prod.fst)[i]? = some x ∧ v = .str (Txt.strip x) t) acc xs.length → Q acc.toList { s with heap := h', toks := tk }) :
    wpAny (model PySem.Challenge.rw_in0001_01.row.prog w) A (call (.type "map") [.builtin "str.strip", .ref l]) (fun v s₁ => StarOf (model PySem.Challenge.rw_in0001_01.row.prog w) A E v Q s₁) E s := by
  obtain ⟨⟨ocls, odc, odata, osl⟩, hol, rfl, nl, hdl⟩ := id hl
  dsimp only at hdl
  subst hdl
  refine ax_weak hh hd hu (wpAny_mono (mk_map X hol) (fun v s' hv => ?_) fun _ _ f => f.elim)
  obtain ⟨h', tk, rfl, hk, mp, tp, it, rfl, hm, ht, hi, nm, nt, ni⟩ := hv
  have hl' : h'.IsList l (strValues xs).toArray := ⟨_, hk _ _ hol, rfl, nl, rfl⟩
  have h1 : mp ≠ it := fun q => by subst q; rw [hm] at hi; injection hi with q; injection q with q; revert q; decide
  have h2 : tp ≠ it := fun q => by subst q; rw [ht] at hi; injection hi with q; injection q with q; revert q; decide
  have h3 : l ≠ it := fun q => by subst q; rw [ni] at hol; cases hol
  unfold StarOf notIterableAtAll
  have hT : (⟨h', s.gens, s.drawn, tk, s.os⟩ : Shared).TypeIs (.ref mp) "map" := ⟨_, hm, rfl⟩
  refine wpAny_bind (wpAny_specialOf hT slot_map_iter.lookup (wpAny_pure ⟨rfl, ?_⟩))
  refine map_collect hh h1 h2 h3 hz hz' hm ht ⟨_, hi, rfl, rfl⟩ hl' (fun h'' tk' acc hk'' hacc => ?_)
  exact hQ h'' tk' acc (fun b o e => hk'' b o (fun q => by subst q; rw [ni] at e; cases e) (hk b o e)) hacc
end Mine
end
section
open PySem PySem.W PyProof.Rows PySem.Calls
set_option Elab.async false
set_option maxRecDepth 100000
set_option maxHeartbeats 8000000
set_option linter.unusedVariables false
namespace Mine
theorem news_out {h₀ h g h' : Heap} {L L' : Addr} {m : Str → Option Value} {tl tl' : List (Addr × Obj)} (F : Fr h₀ L h m) (G : GSub h g ([] : List Addr)) (N : News g L' h' tl') (hs : ∀ p ∈ tl, p ∈ tl') : News h₀ L h' tl := fun p hp => by
  obtain ⟨a, b, c⟩ := N p (hs p hp)
  refine ⟨a, ?_, ?_⟩
  · intro q
    obtain ⟨o, _, _, ho, _⟩ := F.ns
    have := G _ _ ho (fun h => nomatch h)
    rw [← q, c] at this; cases this
  · cases e : h₀.get? p.1 with
    | none => rfl
    | some o => have := G _ _ (F.keep _ _ e) (fun h => nomatch h); rw [c] at this; cases this
/-- a leaf that hands on new objects -/
theorem leafN {prog : Program} {w : World} {A : Around} {t : Sem Value} {P : Value → Heap → Prop} {Q E : Value → Shared → Prop} {s : Shared} {h₀ : Heap} {L : Addr} {m : Str → Option Value} {news : List (Addr × Obj)}
    (F : Fr h₀ L s.heap m) (N : News h₀ L s.heap news) (h : wpAny (model prog w) AX t (XEnd s P) (fun _ _ => False) s) (hh : A.handled = none) (hd : A.depth ≤ 800) (hu : A.units ≤ 3000)
    (k : ∀ v h tk, Fr h₀ L h m → News h₀ L h news → P v h → (∀ tl, (∀ p ∈ tl, h.get? p.1 = some p.2 ∧ s.heap.get? p.1 = none) → News h₀ L h tl) → Q v { s with heap := h, toks := tk }) : wpAny (model prog w) A t Q E s :=
  ax_weak hh hd hu (wpAny_mono h (fun v s' hv => by
    obtain ⟨h', tk, rfl, hk, hp⟩ := hv
    refine k v h' tk (F.keeps hk) (N.grown hk) hp (fun tl ht p hq => ⟨(ht p hq).1, ?_, ?_⟩)
    · intro q
      obtain ⟨o, _, _, ho, _⟩ := F.ns
      rw [← q, (ht p hq).2] at ho; cases ho
    · cases e : h₀.get? p.1 with
      | none => rfl
      | some o => have := F.keep _ _ e; rw [(ht p hq).2] at this; cases this) fun _ _ f => f.elim)
theorem map_star2 {w : World} {A : Around} {l : Addr} {xs : List (Str × Tok)} {x B C : Str} {s : Shared} {Q : List Value → Shared → Prop} {E : Value → Shared → Prop} {h₀ : Heap} {L : Addr} {m : Str → Option Value} {news : List (Addr × Obj)}
    (F : Fr h₀ L s.heap m) (N : News h₀ L s.heap news) (X : (K w.params).In s.heap) (hm : xs.map Prod.fst = Txt.splitMax x "=" 1) (hsp : Txt.splitMax x "=" 1 = [B, C]) (hB : B.length ≤ 1000) (hC : C.length ≤ 1000)
    (hl : s.heap.get? l = some { cls := .type "list", data := .seq (strValues xs).toArray }) 
    (hh : A.handled = none) (hd : A.depth ≤ 800) (hu : A.units ≤ 3000) 
    (hQ : ∀ h' tk t1 t2, Fr h₀ L h' m → News h₀ L h' news → Q [.str (Txt.strip B) t1, .str (Txt.strip C) t2] { s with heap := h', toks := tk }) :
    wpAny (model PySem.Challenge.rw_in0001_01.row.prog w) A (call (.type "map") [.builtin "str.strip", .ref l]) (fun v s₁ => StarOf (model PySem.Challenge.rw_in0001_01.row.prog w) A E v Q s₁) E s := by
  rw [hsp] at hm
  have hz : ∀ y ∈ xs, y.1.length ≤ 1000 := fun y hy => by
    have : y.1 ∈ xs.map Prod.fst := List.mem_map.mpr ⟨y, hy, rfl⟩
    rw [hm] at this
    simp only [List.mem_cons, List.not_mem_nil, or_false] at this
    rcases this with h | h <;> rw [h] <;> assumption
  have hn : xs.length = 2 := by have := congrArg List.length hm; simpa using this
  refine map_star hh hd hu hz (by omega) X ⟨_, hl, rfl, _, rfl⟩ (fun h' tk acc hk hacc => ?_)
  rw [hm, hn] at hacc
  obtain ⟨hs, hi⟩ := hacc
  have z : ∃ t1 t2, acc.toList = [.str (Txt.strip B) t1, .str (Txt.strip C) t2] := by
    obtain ⟨l⟩ := acc
    match l, hs with
    | [a, b], _ =>
      obtain ⟨x0, t0, e0, r0⟩ := hi 0 a rfl
      obtain ⟨x1, t1, e1, r1⟩ := hi 1 b rfl
      simp only [List.getElem?_cons_zero, List.getElem?_cons_succ, Option.some.injEq] at e0 e1
      subst e0 e1
      exact ⟨t0, t1, by rw [r0, r1]⟩
  obtain ⟨t1, t2, z⟩ := z
  rw [z]
  exact hQ h' tk t1 t2 (F.keeps hk) (N.grown hk)
end Mine
end
section
open PySem PySem.W PyProof.Rows PySem.Calls
set_option Elab.async false
set_option maxRecDepth 100000
set_option maxHeartbeats 8000000
set_option linter.unusedVariables false
namespace Mine
/-- a contract at a call -/
theorem Tells.at {lv : Nat} {w : World} {f : Addr} {vs : List Value} {pre : Heap → Prop} {Post : Value → List (Addr × Obj) → Prop} (C : Tells lv w f vs pre Post)
    {mean : ExcName → Option Value} {mg mb : Str → Option Value} {dp un : Nat} {gd : Option (List Code)} {cn : Str} {cs : Scope} {a : Addr} {ccd : Value} {cl : List (Str × Addr)} {outer : List Env} {A₀ A : Around} {base h₀ : Heap} {L : Addr} {m : Str → Option Value} {s : Shared} {Q E : Value → Shared → Prop} {news : List (Addr × Obj)}
    (B : Below A₀ base outer h₀) (F : Fr h₀ L s.heap m) (N : News h₀ L s.heap news) (X : (K w.params).In h₀) (T : Top topProg TLo mean mg mb h₀) (eA : A = ktrTop dp un gd cn cs L a ccd cl outer) (hk : cs.kind = .function) (hd : dp + 10 * lv ≤ 500) (hu : un + 50 * lv ≤ 1000)
    (hpre : pre s.heap)
    (hQ : ∀ r tl h' tk', Fr h₀ L h' m → News h₀ L h' (tl ++ news) → (∀ b o, s.heap.get? b = some o → h'.get? b = some o) → (∀ p ∈ tl, s.heap.get? p.1 = none) → Post r tl → Q r { s with heap := h', toks := tk' }) :
    wpAny (model PySem.Challenge.rw_in0001_01.row.prog w) A (call (.ref f) vs) Q E s := by
  subst eA
  refine C mean mg mb dp un gd cn cs a ccd cl outer A₀ base h₀ L m s Q E B F X T hk hd hu hpre (fun r tl h' tk' F' K' N' fr P => hQ r tl h' tk' F' ?_ K' fr P)
  exact N'.append (N.grown K')
end Mine
end
section
open PySem
namespace Mine
/-- the value of row p -/
def valueOf (p : Int) : Str := Txt.mul (Str.ofString "=") (p.fmod 2) ++ ⟨#[(97 + p).toNat]⟩
/-- one sign of a name: where its stretch begins, its place there, and what is left -/
def hd4 (i : Int) : Int := ([64, 96, 19968, 224] : List Int).getD (i.fmod 4).toNat 0
def dig1 (r : Int) : Int := if r.fmod 4 = 0 then (r.fdiv 16).fmod 32 else r.fmod 4
def nxt (r : Int) : Int := if r.fmod 4 = 0 then (r.fdiv 16).fdiv 32 else r.fdiv 16
def sgn (r : Int) : Str := ⟨#[(hd4 (r.fdiv 4) + dig1 r).toNat]⟩
def nmOf (c : Int) : Str := match (c.fmod 4).toNat with
  | 0 => ""
  | 1 => Str.ofString "" ++ sgn (c.fdiv 4)
  | 2 => (Str.ofString "" ++ sgn (c.fdiv 4)) ++ sgn (nxt (c.fdiv 4))
  | _ => ((Str.ofString "" ++ sgn (c.fdiv 4)) ++ sgn (nxt (c.fdiv 4))) ++ sgn (nxt (nxt (c.fdiv 4)))
def dg (c : Int) (p : Nat) : Int := match (c.fmod 4).toNat, p with
  | 1, 0 => dig1 (c.fdiv 4)
  | 2, 0 => dig1 (c.fdiv 4)
  | 2, 1 => dig1 (nxt (c.fdiv 4))
  | 3, 0 => dig1 (c.fdiv 4)
  | 3, 1 => dig1 (nxt (c.fdiv 4))
  | 3, 2 => dig1 (nxt (nxt (c.fdiv 4)))
  | _, _ => 0
end Mine
end
section
open PySem PySem.W PyProof.Rows PySem.Calls
set_option Elab.async false
set_option maxRecDepth 100000
set_option maxHeartbeats 8000000
set_option linter.unusedVariables false
namespace Mine
theorem len_mul_eq (p : Int) : (Txt.mul (Str.ofString "=") (p.fmod 2)).length ≤ 1 := by
  have h : p.fmod 2 = 0 ∨ p.fmod 2 = 1 := by rw [Int.fmod_eq_emod_of_nonneg _ (by decide)]; omega
  rcases h with h | h <;> rw [h] <;> decide +kernel
theorem len_one (n : Nat) : (Str.mk #[n]).length = 1 := rfl
section
theorem value_tells (w : World) (p : Int) (tk : Tok) (h0 : 0 ≤ p) (h1 : p < 12) : Tells 0 w 239 [.int p tk] (fun _ => True) (fun r tl => ∃ t, r = .str (valueOf p) t ∧ tl = []) := by
  k_with_none
  k_with "binaryOp Add str str" => (k_here; (refine add_str (hsz := ?zqhsz) ?_; (case zqhsz => (refine Nat.le_trans (Nat.add_le_add (len_mul_eq _) (Nat.le_refl 1)) (by decide))); intro _ _))
  unfold Tells
  k_fill
  intro mean mg mb dp un gd cn cs a ccd cl outer A₀ base h₀ L m s Q E B F X T hk hd hu hpre hret
  have N : News h₀ L s.heap [] := news_nil
  refine wpAny_call ?_
  k_dflt (refine' code_defG ?k1 ?k2 ?k3 ?k4 ?k5 ?kA ?kF ?kK ?k6 ?k7 ?k8 ?k9 ?kB ?_ ?c2 ?c3 ?c4 ?c5; (case kA => exact rfl); (case kF => exact rfl); (case kK => assumption); (case k1 => k_asm); (case k2 => k_asm); (case k3 => k_asm); (case k4 => k_asm); (case k5 => k_asm); (case k6 => k_is); (case k7 => k_is); (case k8 => exact Nat.lt_of_le_of_lt (Nat.le_trans (Nat.le_add_right _ _) hd) (by decide)); (case k9 => first | exact BindsTo.of_eq rfl | exact binds_K (by k_in) rfl (by k_is) rfl rfl rfl); (case c5 => decide); (case kB => exact locs rfl); (case c2 => exact rfl); (case c3 => exact rfl); (case c4 => exact rfl); k_whole; intro g' L' h' FG' F' N' B' X' T' kG'; (try dsimp only); (try k_lift B'); (try k_fold))
  k_steps
  refine hret _ [] _ _ (by k_asm) (keeps_of kG' (by k_asm)) news_nil (fun _ h => nomatch h) ⟨_, rfl, rfl⟩
end
theorem ctoi_str (w : World) (c : Nat) (tk : Tok) : Tells 0 w 46 [.str ⟨#[c]⟩ tk] (fun _ => True) (fun r tl => ∃ t, r = .int c t ∧ tl = []) := by
  k_with_none
  unfold Tells
  k_fill
  intro mean mg mb dp un gd cn cs a ccd cl outer A₀ base h₀ L m s Q E B F X T hk hd hu hpre hret
  have N : News h₀ L s.heap [] := news_nil
  refine wpAny_call ?_
  k_dflt (refine' code_defG ?k1 ?k2 ?k3 ?k4 ?k5 ?kA ?kF ?kK ?k6 ?k7 ?k8 ?k9 ?kB ?_ ?c2 ?c3 ?c4 ?c5; (case kA => exact rfl); (case kF => exact rfl); (case kK => assumption); (case k1 => k_asm); (case k2 => k_asm); (case k3 => k_asm); (case k4 => k_asm); (case k5 => k_asm); (case k6 => k_is); (case k7 => k_is); (case k8 => exact Nat.lt_of_le_of_lt (Nat.le_trans (Nat.le_add_right _ _) hd) (by decide)); (case k9 => first | exact BindsTo.of_eq rfl | exact binds_K (by k_in) rfl (by k_is) rfl rfl rfl); (case c5 => decide); (case kB => exact locs rfl); (case c2 => exact rfl); (case c3 => exact rfl); (case c4 => exact rfl); k_whole; intro g' L' h' FG' F' N' B' X' T' kG'; (try dsimp only); (try k_lift B'); (try k_fold))
  k_steps
  refine hret _ [] _ _ (by k_asm) (keeps_of kG' (by k_asm)) news_nil (fun _ h => nomatch h) ⟨_, rfl, rfl⟩
theorem ctoi_int (w : World) (c : Int) (tk : Tok) : Tells 0 w 46 [.int c tk] (fun _ => True) (fun r tl => ∃ t, r = .int c t ∧ tl = []) := by
  k_with_none
  unfold Tells
  k_fill
  intro mean mg mb dp un gd cn cs a ccd cl outer A₀ base h₀ L m s Q E B F X T hk hd hu hpre hret
  have N : News h₀ L s.heap [] := news_nil
  refine wpAny_call ?_
  k_dflt (refine' code_defG ?k1 ?k2 ?k3 ?k4 ?k5 ?kA ?kF ?kK ?k6 ?k7 ?k8 ?k9 ?kB ?_ ?c2 ?c3 ?c4 ?c5; (case kA => exact rfl); (case kF => exact rfl); (case kK => assumption); (case k1 => k_asm); (case k2 => k_asm); (case k3 => k_asm); (case k4 => k_asm); (case k5 => k_asm); (case k6 => k_is); (case k7 => k_is); (case k8 => exact Nat.lt_of_le_of_lt (Nat.le_trans (Nat.le_add_right _ _) hd) (by decide)); (case k9 => first | exact BindsTo.of_eq rfl | exact binds_K (by k_in) rfl (by k_is) rfl rfl rfl); (case c5 => decide); (case kB => exact locs rfl); (case c2 => exact rfl); (case c3 => exact rfl); (case c4 => exact rfl); k_whole; intro g' L' h' FG' F' N' B' X' T' kG'; (try dsimp only); (try k_lift B'); (try k_fold))
  k_steps
  refine hret _ [] _ _ (by k_asm) (keeps_of kG' (by k_asm)) news_nil (fun _ h => nomatch h) ⟨_, rfl, rfl⟩
theorem band31 (x : Int) : 0 ≤ Builtin.bitAnd x 31 ∧ Builtin.bitAnd x 31 < 32 := by rw [bitAnd_m5]; omega
section
theorem ctrl_int (w : World) (c : Int) (tk : Tok) : Tells 1 w 53 [.int c tk] (fun _ => True) (fun r tl => ∃ t, r = .int (c % 32) t ∧ tl = []) := by
  k_with_none
  k_with "call ref" => (k_here; (refine Tells.at (ctoi_int w _ _) (by k_asm) (by k_asm) (by k_asm) (by k_asm) (by k_asm) rfl rfl (by (try dsimp only [ktrTop, Around.deeper]); omega) (by (try dsimp only [ktrTop, Around.deeper]); omega) ?zqpre ?_); (case zqpre => exact trivial); intro r9 tl9 h9 tk9 F9 N9 K9 fr9 P9; (obtain ⟨t9, er9, et9⟩ := P9); subst er9 et9; (try dsimp only [List.nil_append] at N9); (try dsimp only))
  unfold Tells
  k_fill
  intro mean mg mb dp un gd cn cs a ccd cl outer A₀ base h₀ L m s Q E B F X T hk hd hu hpre hret
  have N : News h₀ L s.heap [] := news_nil
  refine wpAny_call ?_
  k_dflt (refine' code_defG ?k1 ?k2 ?k3 ?k4 ?k5 ?kA ?kF ?kK ?k6 ?k7 ?k8 ?k9 ?kB ?_ ?c2 ?c3 ?c4 ?c5; (case kA => exact rfl); (case kF => exact rfl); (case kK => assumption); (case k1 => k_asm); (case k2 => k_asm); (case k3 => k_asm); (case k4 => k_asm); (case k5 => k_asm); (case k6 => k_is); (case k7 => k_is); (case k8 => exact Nat.lt_of_le_of_lt (Nat.le_trans (Nat.le_add_right _ _) hd) (by decide)); (case k9 => first | exact BindsTo.of_eq rfl | exact binds_K (by k_in) rfl (by k_is) rfl rfl rfl); (case c5 => decide); (case kB => exact locs rfl); (case c2 => exact rfl); (case c3 => exact rfl); (case c4 => exact rfl); k_whole; intro g' L' h' FG' F' N' B' X' T' kG'; (try dsimp only); (try k_lift B'); (try k_fold))
  k_steps
  rw [bitAnd_m5]
  refine hret _ [] _ _ (by k_asm) (keeps_of kG' (by k_asm)) news_nil (fun _ h => nomatch h) ⟨_, rfl, rfl⟩
end
section
theorem ctrl_str (w : World) (c : Nat) (tk : Tok) : Tells 1 w 53 [.str ⟨#[c]⟩ tk] (fun _ => True) (fun r tl => ∃ t, r = .str ⟨#[c % 32]⟩ t ∧ tl = []) := by
  k_with_none
  k_with "call ref" => (k_here; (refine Tells.at (ctoi_str w _ _) (by k_asm) (by k_asm) (by k_asm) (by k_asm) (by k_asm) rfl rfl (by (try dsimp only [ktrTop, Around.deeper]); omega) (by (try dsimp only [ktrTop, Around.deeper]); omega) ?zqpre ?_); (case zqpre => exact trivial); intro r9 tl9 h9 tk9 F9 N9 K9 fr9 P9; (obtain ⟨t9, er9, et9⟩ := P9); subst er9 et9; (try dsimp only [List.nil_append] at N9); (try dsimp only))
  k_with "call builtin:chr" => (k_here; refine chr_of_range (band31 _).1 (Int.le_trans (Int.le_of_lt (band31 _).2) (by decide)) ?_)
  unfold Tells
  k_fill
  intro mean mg mb dp un gd cn cs a ccd cl outer A₀ base h₀ L m s Q E B F X T hk hd hu hpre hret
  have N : News h₀ L s.heap [] := news_nil
  refine wpAny_call ?_
  k_dflt (refine' code_defG ?k1 ?k2 ?k3 ?k4 ?k5 ?kA ?kF ?kK ?k6 ?k7 ?k8 ?k9 ?kB ?_ ?c2 ?c3 ?c4 ?c5; (case kA => exact rfl); (case kF => exact rfl); (case kK => assumption); (case k1 => k_asm); (case k2 => k_asm); (case k3 => k_asm); (case k4 => k_asm); (case k5 => k_asm); (case k6 => k_is); (case k7 => k_is); (case k8 => exact Nat.lt_of_le_of_lt (Nat.le_trans (Nat.le_add_right _ _) hd) (by decide)); (case k9 => first | exact BindsTo.of_eq rfl | exact binds_K (by k_in) rfl (by k_is) rfl rfl rfl); (case c5 => decide); (case kB => exact locs rfl); (case c2 => exact rfl); (case c3 => exact rfl); (case c4 => exact rfl); k_whole; intro g' L' h' FG' F' N' B' X' T' kG'; (try dsimp only); (try k_lift B'); (try k_fold))
  k_steps
  rw [bitAnd_m5, show (((c : Int) % 32).toNat) = c % 32 by omega]
  refine hret _ [] _ _ (by k_asm) (keeps_of kG' (by k_asm)) news_nil (fun _ h => nomatch h) ⟨_, rfl, rfl⟩
end
section
theorem key_1 (w : World) (d : Int) (t1 t2 : Tok) : Tells 0 w 251 [.int 1 t1, .int d t2] (fun _ => True) (fun r tl => ∃ t, r = .int d t ∧ tl = []) := by
  k_with_none
  k_with "call builtin:chr" => (k_here; refine chr_of_range (by omega) (by omega) ?_)
  unfold Tells
  k_fill
  intro mean mg mb dp un gd cn cs a ccd cl outer A₀ base h₀ L m s Q E B F X T hk hd hu hpre hret
  have N : News h₀ L s.heap [] := news_nil
  refine wpAny_call ?_
  k_dflt (refine' code_defG ?k1 ?k2 ?k3 ?k4 ?k5 ?kA ?kF ?kK ?k6 ?k7 ?k8 ?k9 ?kB ?_ ?c2 ?c3 ?c4 ?c5; (case kA => exact rfl); (case kF => exact rfl); (case kK => assumption); (case k1 => k_asm); (case k2 => k_asm); (case k3 => k_asm); (case k4 => k_asm); (case k5 => k_asm); (case k6 => k_is); (case k7 => k_is); (case k8 => exact Nat.lt_of_le_of_lt (Nat.le_trans (Nat.le_add_right _ _) hd) (by decide)); (case k9 => first | exact BindsTo.of_eq rfl | exact binds_K (by k_in) rfl (by k_is) rfl rfl rfl); (case c5 => decide); (case kB => exact locs rfl); (case c2 => exact rfl); (case c3 => exact rfl); (case c4 => exact rfl); k_whole; intro g' L' h' FG' F' N' B' X' T' kG'; (try dsimp only); (try k_lift B'); (try k_fold))
  k_steps
  refine hret _ [] _ _ (by k_asm) (keeps_of kG' (by k_asm)) news_nil (fun _ h => nomatch h) ⟨_, rfl, rfl⟩
theorem key_0 (w : World) (d : Int) (t1 t2 : Tok) (h0 : 0 ≤ d) (h1 : d < 32) : Tells 0 w 251 [.int 0 t1, .int d t2] (fun _ => True) (fun r tl => ∃ t, r = .str ⟨#[d.toNat]⟩ t ∧ tl = []) := by
  k_with_none
  k_with "call builtin:chr" => (k_here; refine chr_of_range (by omega) (by omega) ?_)
  unfold Tells
  k_fill
  intro mean mg mb dp un gd cn cs a ccd cl outer A₀ base h₀ L m s Q E B F X T hk hd hu hpre hret
  have N : News h₀ L s.heap [] := news_nil
  refine wpAny_call ?_
  k_dflt (refine' code_defG ?k1 ?k2 ?k3 ?k4 ?k5 ?kA ?kF ?kK ?k6 ?k7 ?k8 ?k9 ?kB ?_ ?c2 ?c3 ?c4 ?c5; (case kA => exact rfl); (case kF => exact rfl); (case kK => assumption); (case k1 => k_asm); (case k2 => k_asm); (case k3 => k_asm); (case k4 => k_asm); (case k5 => k_asm); (case k6 => k_is); (case k7 => k_is); (case k8 => exact Nat.lt_of_le_of_lt (Nat.le_trans (Nat.le_add_right _ _) hd) (by decide)); (case k9 => first | exact BindsTo.of_eq rfl | exact binds_K (by k_in) rfl (by k_is) rfl rfl rfl); (case c5 => decide); (case kB => exact locs rfl); (case c2 => exact rfl); (case c3 => exact rfl); (case c4 => exact rfl); k_whole; intro g' L' h' FG' F' N' B' X' T' kG'; (try dsimp only); (try k_lift B'); (try k_fold))
  k_steps
  refine hret _ [] _ _ (by k_asm) (keeps_of kG' (by k_asm)) news_nil (fun _ h => nomatch h) ⟨_, rfl, rfl⟩
theorem key_2 (w : World) (d : Int) (t1 t2 : Tok) (h0 : 0 ≤ d) (h1 : d < 32) : Tells 0 w 251 [.int 2 t1, .int d t2] (fun _ => True) (fun r tl => ∃ t, r = .str ⟨#[d.toNat]⟩ t ∧ tl = []) := by
  k_with_none
  k_with "call builtin:chr" => (k_here; refine chr_of_range (by omega) (by omega) ?_)
  unfold Tells
  k_fill
  intro mean mg mb dp un gd cn cs a ccd cl outer A₀ base h₀ L m s Q E B F X T hk hd hu hpre hret
  have N : News h₀ L s.heap [] := news_nil
  refine wpAny_call ?_
  k_dflt (refine' code_defG ?k1 ?k2 ?k3 ?k4 ?k5 ?kA ?kF ?kK ?k6 ?k7 ?k8 ?k9 ?kB ?_ ?c2 ?c3 ?c4 ?c5; (case kA => exact rfl); (case kF => exact rfl); (case kK => assumption); (case k1 => k_asm); (case k2 => k_asm); (case k3 => k_asm); (case k4 => k_asm); (case k5 => k_asm); (case k6 => k_is); (case k7 => k_is); (case k8 => exact Nat.lt_of_le_of_lt (Nat.le_trans (Nat.le_add_right _ _) hd) (by decide)); (case k9 => first | exact BindsTo.of_eq rfl | exact binds_K (by k_in) rfl (by k_is) rfl rfl rfl); (case c5 => decide); (case kB => exact locs rfl); (case c2 => exact rfl); (case c3 => exact rfl); (case c4 => exact rfl); k_whole; intro g' L' h' FG' F' N' B' X' T' kG'; (try dsimp only); (try k_lift B'); (try k_fold))
  k_steps
  refine hret _ [] _ _ (by k_asm) (keeps_of kG' (by k_asm)) news_nil (fun _ h => nomatch h) ⟨_, rfl, rfl⟩
end
end Mine
end
section
open PySem PySem.W PyProof.Rows PySem.Calls
set_option Elab.async false
set_option maxRecDepth 100000
set_option maxHeartbeats 8000000
set_option linter.unusedVariables false
namespace Mine
abbrev fddObj (dx : Addr) (es : Array DictEntry) (n : Nat) : Obj := ⟨.ref 122, some dx, .dict es n, #[some (.ref 258)]⟩
abbrev bmObj (b : Addr) : Obj := ⟨.type "builtin_function_or_method", none, .fields #[.builtin "collections.defaultdict.__missing__", .ref b], #[]⟩
theorem slot_md_get : Slot "method_descriptor" "__get__" "method_descriptor.__get__" :=
  .of (owner := "method_descriptor") (n := "__get__") (by rw [typeLookup_type, builtinLookup_eq_fast]; kernel_rfl) (by decide +kernel) (by decide +kernel) (by decide +kernel)
    (by first | exact .inl (by decide +kernel) | exact .inr (by decide +kernel)) (by rw [isSubtype_type]; kernel_rfl)
theorem super_ga {prog : Program} {w : World} {KK : Frag} {A : Around} {E : Value → Shared → Prop} {h : Heap} {g : Array GenState} {d : Drawn} {t : Nat} {os : OsState} {so b dx : Addr} {es : Array DictEntry} {n : Nat} {tk : Tok} {Q : Fin → Shared → Prop} {name : Str} {id : String} {l₀ l : List Value}
    (hn : (name == ("__class__" : Str)) = false) (hl : (l₀.dropWhile (· != Value.ref 122)).drop 1 = l)
    (X : KK.In h) (hb : h.get? b = some (fddObj dx es n)) (hso : h.get? so = some (ks_superObj 122 b 122)) (hbC : b ≠ 122)
    (hno : Looks (model prog w) h (opaqueClassAbove (.ref 122)) none) (hC : Looks (model prog w) h (mroOf (.ref 122)) l₀)
    (hf : alongIn KK name l = some (some (.builtin id))) (hty : typeOf (.builtin id) = pure (.type "method_descriptor"))
    (hq : wpAny (model prog w) A (call (.builtin "method_descriptor.__get__") [.builtin id, .ref b, .ref 122]) (fun v s => Q (.done (.ret v)) s) E ⟨h, g, d, t, os⟩) :
    wpAny (model prog w) A (Builtin.«super.__getattribute__» ⟨[.ref so, .str name tk], []⟩) Q E ⟨h, g, d, t, os⟩ := by
  have hne : (Value.ref b == Value.ref 122) = false := by simp [hbC]
  have hdt : (ks_superObj 122 b 122).data = .fields #[.ref 122, .ref b, .ref 122] := rfl
  have f0 : (#[.ref 122, .ref b, .ref 122] : Array Value)[0]? = some (.ref 122) := rfl
  have f1 : (#[.ref 122, .ref b, .ref 122] : Array Value)[1]? = some (.ref b) := rfl
  have f2 : (#[.ref 122, .ref b, .ref 122] : Array Value)[2]? = some (.ref 122) := rfl
  unfold Builtin.«super.__getattribute__»
  generalize hcl : PySem.call = cl at hq
  repeat (first
    | (with_reducible refine wpAny_field hso hdt f0 ?_) | (with_reducible refine wpAny_field hso hdt f1 ?_) | (with_reducible refine wpAny_field hso hdt f2 ?_)
    | (with_reducible refine ks_wpAny_notOpaque hno ?_)
    | (with_reducible refine Looks.at hC ?_; rw [hl])
    | (with_reducible show wpAny _ _ (forIn _ _ _) _ _ _; refine ks_forIn_along X (fun _ _ => rfl) rfl ?_ hf)
    | (with_reducible show wpAny _ _ (forIn _ _ _ >>= _) _ _ _; refine wpAny_bind ?_)
    | (with_reducible refine wpAny_of_eq hty ?_)
    | (with_reducible refine ⟨_, rfl, ?_⟩)
    | (simp only [hn, hne, Bool.or_false, Bool.false_eq_true, if_false])
    | wp_step
    | dsimp only)
  refine wpAny_of_eq slot_md_get.lookup ?_
  refine wpAny_bind (wpAny_holding ?_)
  subst hcl
  exact wpAny_mono hq (fun v s' h' => wpAny_pure (wpAny_pure h')) fun _ _ z => z
/-- an attribute of a super object, when the class that holds it is a builtin one -/
theorem ga_super {prog : Program} {w : World} {KK : Frag} {A : Around} {E : Value → Shared → Prop} {h : Heap} {g : Array GenState} {d : Drawn} {t : Nat} {os : OsState} {so b dx : Addr} {es : Array DictEntry} {n : Nat} {ex : Bool} {Q : Value → Shared → Prop} {name : Str} {id : String} {l₀ l : List Value}
    (hn : (name == ("__class__" : Str)) = false) (hl : (l₀.dropWhile (· != Value.ref 122)).drop 1 = l)
    (X : KK.In h) (hb : h.get? b = some (fddObj dx es n)) (hso : h.get? so = some (ks_superObj 122 b 122)) (hbC : b ≠ 122)
    (hno : Looks (model prog w) h (opaqueClassAbove (.ref 122)) none) (hC : Looks (model prog w) h (mroOf (.ref 122)) l₀)
    (hf : alongIn KK name l = some (some (.builtin id))) (hty : typeOf (.builtin id) = pure (.type "method_descriptor"))
    (hq : ∀ A', A'.handled = A.handled → A'.depth ≤ A.depth → A'.units ≤ A.units + 2 → wpAny (model prog w) A' (call (.builtin "method_descriptor.__get__") [.builtin id, .ref b, .ref 122]) (fun v s => (∃ a, v = .ref a) ∧ Q v s) (fun _ _ => False) ⟨h, g, d, t + 1, os⟩) :
    wpAny (model prog w) A (getAttr (.ref so) name ex) Q E ⟨h, g, d, t, os⟩ := by
  have hlk := PySem.F.ks_slot_super_ga.lookup
  have hT : ∀ t', (⟨h, g, d, t', os⟩ : Shared).TypeIs (.ref so) "super" := fun _ => ⟨_, hso, rfl⟩
  unfold getAttr getAttrBy
  refine wpAny_bind (wpAny_mkText (wpAny_holding (wpAny_bind (wpAny_typeOf (hT _) (wpAny_bind (wpAny_of_eq hlk ?_))))))
  show wpAny _ _ (getAttrByItsOwn (.ref so) (.str name t) (.type "super") (.builtin "super.__getattribute__") true ex) _ _ _
  unfold getAttrByItsOwn hookBefore callGetattribute boundAndCalled
  refine wpAny_bind (wpAny_of_eq (show (if onTheHeap (.type "super") then typeLookup (.type "super") "__getattr__" else pure none) = pure none from rfl) ?_)
  refine wpAny_bind (wpAny_attempt (wpAny_holding ?_))
  rw [if_neg (show ¬ ((ex && onTheHeap (.builtin "super.__getattribute__")) = true) by simp [onTheHeap])]
  show wpAny _ _ (bindSpecial (.builtin "super.__getattribute__") (.ref so) >>= _) _ _ _
  refine wpAny_bind (wpAny_of_eq (PySem.F.ks_slot_super_ga.bind _) ?_)
  refine wpAny_mono (Q := fun v s' => (∃ a, v = .ref a) ∧ Q v s') (E := fun _ _ => False)
    (wpAny_call_entry PySem.F.ks_slot_super_ga (hT _) PySem.F.ks_entry_super_ga (super_ga hn hl X hb hso hbC hno hC hf hty ?_) (PySem.F.ks_gaArgs_super _ _)) (fun v s' hv => ?_) fun _ _ z => z.elim
  · exact wpAny_mono (hq A.in1 rfl (Nat.le_refl _) (Nat.le_succ _)) (fun v s hv => ⟨v, rfl, hv⟩) fun _ _ z => z
  · obtain ⟨⟨a, rfl⟩, hv⟩ := hv
    exact wpAny_pure hv
section
local macro_rules | `(tactic| x_close) => `(tactic| (refine xend_of (by first | assumption | exact X.Mem.start _) ?_; exact ⟨_, rfl, X.Mem.at (by assumption) 0 _ _ rfl, mem_new (by assumption) 0 _ _ rfl⟩))
theorem mk_super {w : World} {s : Shared} {b dx : Addr} {es : Array DictEntry} {n : Nat} (X : (K w.params).In s.heap) (hb : s.heap.get? b = some (fddObj dx es n)) :
    wpAny (model PySem.Challenge.rw_in0001_01.row.prog w) AX (call (.type "super") [.ref 122, .ref b]) (XEnd s (fun v h => ∃ so, v = .ref so ∧ h.get? so = some (ks_superObj 122 b 122) ∧ s.heap.get? so = none)) (fun _ _ => False) s := by
  k_fill
  obtain ⟨h₀, g, d, t, os⟩ := s
  dsimp only [fddObj] at X hb
  x_run
theorem mk_bm {w : World} {s : Shared} {b dx : Addr} {es : Array DictEntry} {n : Nat} (X : (K w.params).In s.heap) (hb : s.heap.get? b = some (fddObj dx es n)) :
    wpAny (model PySem.Challenge.rw_in0001_01.row.prog w) AX (call (.builtin "method_descriptor.__get__") [.builtin "collections.defaultdict.__missing__", .ref b, .ref 122]) (XEnd s (fun v h => ∃ so, v = .ref so ∧ h.get? so = some (bmObj b) ∧ s.heap.get? so = none)) (fun _ _ => False) s := by
  k_fill
  obtain ⟨h₀, g, d, t, os⟩ := s
  dsimp only [fddObj] at X hb
  x_run
end
section
local macro_rules | `(tactic| x_close) => `(tactic| (refine xend_of (by first | assumption | exact X.Mem.start _) ?_; (show _ = _); kernel_rfl))
theorem ga_frozen {w : World} {s : Shared} {bm b dx : Addr} {es : Array DictEntry} {n : Nat} {tk : Tok} (X : (K w.params).In s.heap) (hb : s.heap.get? b = some (fddObj dx es n)) (hd : s.heap.get? dx = some (dictOf [] 0)) (hm : s.heap.get? bm = some (bmObj b)) :
    wpAny (model PySem.Challenge.rw_in0001_01.row.prog w) AX (call (.builtin "getattr") [.ref b, .str (Str.ofString "_frozen") tk, .ref bm]) (XEnd s (fun v h => v = .ref bm)) (fun _ _ => False) s := by
  k_fill
  obtain ⟨h₀, g, d, t, os⟩ := s
  dsimp only [fddObj, bmObj, dictOf] at X hb hd hm
  x_run
end
end Mine
end
section
open PySem PySem.W PyProof.Rows PySem.Calls
set_option Elab.async false
set_option maxRecDepth 100000
set_option maxHeartbeats 8000000
set_option linter.unusedVariables false
namespace Mine

theorem box_tells (w : World) : Tells 0 w 258 [] (fun _ => True) (fun r tl => ∃ l, r = .ref l ∧ tl = [(l, { cls := .type "list", data := .seq #[] })]) := by
  k_with_none
  unfold Tells
  k_fill
  intro mean mg mb dp un gd cn cs a ccd cl outer A₀ base h₀ L m s Q E B F X T hk hd hu hpre hret
  have N : News h₀ L s.heap [] := news_nil
  refine wpAny_call ?_
  k_dflt (refine' code_defG ?k1 ?k2 ?k3 ?k4 ?k5 ?kA ?kF ?kK ?k6 ?k7 ?k8 ?k9 ?kB ?_ ?c2 ?c3 ?c4 ?c5; (case kA => exact rfl); (case kF => exact rfl); (case kK => assumption); (case k1 => k_asm); (case k2 => k_asm); (case k3 => k_asm); (case k4 => k_asm); (case k5 => k_asm); (case k6 => k_is); (case k7 => k_is); (case k8 => exact Nat.lt_of_le_of_lt (Nat.le_trans (Nat.le_add_right _ _) hd) (by decide)); (case k9 => first | exact BindsTo.of_eq rfl | exact binds_K (by k_in) rfl (by k_is) rfl rfl rfl); (case c5 => decide); (case kB => exact locs rfl); (case c2 => exact rfl); (case c3 => exact rfl); (case c4 => exact rfl); k_whole; intro g' L' h' FG' F' N' B' X' T' kG'; (try dsimp only); (try k_lift B'); (try k_fold))
  k_steps
  refine hret _ _ _ _ (by k_asm) (keeps_of kG' (by k_asm)) (news_out (by k_asm) kG' (by k_asm : News g' L' _ _) (fun p hp => hp)) (fresh_of kG' (by k_asm : News g' L' _ _) (fun p hp => hp)) ⟨_, rfl, rfl⟩
theorem sub_fdd_mod (P : Params) : subIn (K P) (.ref 122) (.type "module") = some false := by kernel_rfl
theorem sub_fdd_dd (P : Params) : subIn (K P) (.ref 122) (.type "collections.defaultdict") = some true := by kernel_rfl
def isTypeCls : Option Obj → Bool
  | some ⟨.type "type", _, .cls cd, _⟩ => cd.qualname == S "FreezableDefaultDict"
  | _ => false
theorem of_isTypeCls {o : Option Obj} (h : isTypeCls o = true) : ∃ d cd sl, o = some ⟨.type "type", d, .cls cd, sl⟩ ∧ cd.qualname = S "FreezableDefaultDict" := by
  unfold isTypeCls at h
  split at h
  · exact ⟨_, _, _, rfl, eq_of_beq h⟩
  · cases h
theorem cls_fdd (P : Params) : isTypeCls ((K P).lookup 122) = true := by kernel_rfl
theorem plain_dd : plainId "collections.defaultdict.__missing__" = true := by decide +kernel
theorem entry_dd : entryFor table "collections.defaultdict.__missing__" = some Builtin.«collections.defaultdict.__missing__» := entryFor_of_tree (by kernel_rfl)
theorem plain_sd : plainId "dict.setdefault" = true := by decide +kernel
theorem entry_sd : entryFor table "dict.setdefault" = some Builtin.«dict.setdefault» := entryFor_of_tree (by kernel_rfl)
theorem wpAny_borrowed {M : Model} {A : Around} {f : Value} {pos : List Value} {Q E : Value → Shared → Prop} {s : Shared} (h : wpAny M A (call f pos) Q E s) : wpAny M A (callBorrowed f pos) Q E s := fun Γ p hΓ => by
  have h2 := h Γ p hΓ
  unfold call runValue run at h2
  unfold callBorrowed
  rw [Sem.wp_call]
  rw [Sem.wp_bind', Sem.wp_call] at h2
  refine wpCode_mono (fun r s' hr => ?_) h2
  rcases r with e | f
  · exact hr
  · cases f <;> exact hr
def isFn : Option Obj → Bool
  | some ⟨_, _, .func _, _⟩ => true
  | _ => false
theorem of_isFn {o : Option Obj} (h : isFn o = true) : ∃ c d fd sl, o = some ⟨c, d, .func fd, sl⟩ := by
  unfold isFn at h
  split at h
  · exact ⟨_, _, _, _, rfl⟩
  · cases h
theorem fn_box (P : Params) : isFn ((K P).lookup 258) = true := by kernel_rfl
theorem sub_fdd_od (P : Params) : subIn (K P) (.ref 122) (.type "collections.OrderedDict") = some false := by kernel_rfl
theorem sd_fdd {w : World} {A : Around} {b dx : Addr} {es : Array DictEntry} {n : Nat} {key dv : Value} {Q : Fin → Shared → Prop} {E : Value → Shared → Prop} {KT : Type} [DecidableEq KT] {knd : KeyKind PySem.Challenge.rw_in0001_01.row.prog w KT} {k : KT} {h : Heap} {g : Array GenState} {d : Drawn} {tk : Nat} {os : OsState}
    (X : (K w.params).In h) (hb : h.get? b = some (fddObj dx es n)) (hbs : (b == sysModules) = false)
    (hkey : knd.is k key = true) (hk : KeysOf knd es) (hno : (es.findIdx? fun e => knd.is k e.key) = none) (hsz : es.size ≤ 1000)
    (hQ : ∀ h' tk', (∃ n', h'.get? b = some (fddObj dx (es.push ⟨knd.hash k, key, dv⟩) n')) → (∀ b' o, b' ≠ b → h.get? b' = some o → h'.get? b' = some o) → Q (.done (.ret dv)) ⟨h', g, d, tk', os⟩) :
    wpAny (model PySem.Challenge.rw_in0001_01.row.prog w) A (Builtin.«dict.setdefault» ⟨[.ref b, key, dv], []⟩) Q E ⟨h, g, d, tk, os⟩ := by
  have so : Looks (model PySem.Challenge.rw_in0001_01.row.prog w) h (isSubtype (.ref 122) (.type "collections.OrderedDict")) false := looks_subIn X (sub_fdd_od _)
  have sd : Looks (model PySem.Challenge.rw_in0001_01.row.prog w) h (isSubtype (.ref 122) (.type "dict")) true := looks_subIn X (sub_fdd _)
  unfold Builtin.«dict.setdefault»
  wp_walk using wpAny_load hb, wpAny_loadPart' hb, Looks.at so, Looks.at sd, knd.pyHash hkey, wpAny_dictFind_of hkey hb rfl hk
  rw [hno]
  refine wpAny_bind (wpAny_rule (wpAny_bind (wpAny_updateDictKeys (s := ⟨h, g, d, tk + 1, os⟩) (o := fddObj dx es n) (es := es) (ep := n) hb rfl ?_ (Nat.le_trans hsz (by decide)) (by simp))))
  refine wpAny_pure (wpAny_pure (hQ _ _ ⟨n + 1, ?_⟩ (fun b' o hb' e => (Heap.get?_update_other _ _ (Ne.symm hb')).trans e)))
  exact Heap.get?_update_self _ hb rfl
theorem dd_missing {w : World} {A : Around} {s : Shared} {bm b dx : Addr} {es : Array DictEntry} {n : Nat} {key : Value} {Q E : Value → Shared → Prop} {KT : Type} [DecidableEq KT] {knd : KeyKind PySem.Challenge.rw_in0001_01.row.prog w KT} {k : KT} (X : (K w.params).In s.heap) (hb : s.heap.get? b = some (fddObj dx es n)) (hm : s.heap.get? bm = some (bmObj b))
    (hkey : knd.is k key = true) (hk : KeysOf knd es) (hno : (es.findIdx? fun e => knd.is k e.key) = none) (hbs : (b == sysModules) = false) (hsz : es.size ≤ 1000)
    (hQ : ∀ l h' tk, (∀ b' o, b' ≠ b → s.heap.get? b' = some o → h'.get? b' = some o) → s.heap.get? l = none → h'.get? l = some { cls := .type "list", data := .seq #[] } → (∃ n', h'.get? b = some (fddObj dx (es.push ⟨knd.hash k, key, .ref l⟩) n')) → Q (.ref l) { s with heap := h', toks := tk })
    (hbox : ∀ {Q' E' : Value → Shared → Prop}, (∀ l h' tk, (∀ b o, s.heap.get? b = some o → h'.get? b = some o) → s.heap.get? l = none → h'.get? l = some { cls := .type "list", data := .seq #[] } → Q' (.ref l) { s with heap := h', toks := tk }) → wpAny (model PySem.Challenge.rw_in0001_01.row.prog w) A.in1 (call (.ref 258) []) Q' E' s) :
    wpAny (model PySem.Challenge.rw_in0001_01.row.prog w) A (call (.ref bm) [key]) Q E s := by
  obtain ⟨h₀, g, d, t, os⟩ := s
  dsimp only at hb hm hbox hQ
  obtain ⟨fc, fdd, ffd, fsl, hfo⟩ := of_isFn (fn_box w.params)
  have hF := X _ _ hfo
  dsimp only at hF
  have sm : Looks (model PySem.Challenge.rw_in0001_01.row.prog w) h₀ (isSubtype (.ref 122) (.type "module")) false := looks_subIn X (sub_fdd_mod _)
  have sd : Looks (model PySem.Challenge.rw_in0001_01.row.prog w) h₀ (isSubtype (.ref 122) (.type "collections.defaultdict")) true := looks_subIn X (sub_fdd_dd _)
  obtain ⟨ocd, cd, ocs, hoc, hqn⟩ := of_isTypeCls (cls_fdd w.params)
  have hC := X _ _ hoc
  dsimp only at hC
  have tyC : ∀ tk', (⟨h₀, g, d, tk', os⟩ : Shared).TypeIs (.ref 122) "type" := fun _ => ⟨_, hC, rfl⟩
  have hstar : ((toString cd.qualname.toString ++ toString "." ++ toString (Bind.lastOf "collections.defaultdict.__missing__")) != "*") = true := by rw [hqn]; decide +kernel
  refine wpAny_call (codeAny_of_tree ?_)
  wp_walk using wpAny_load hm, wpAny_loadPart' hm, wpAny_load hb, wpAny_loadPart' hb, Looks.at sm, Looks.at sd, ks_wpAny_isType_inst hb (fun _ h => by cases h), wpAny_load hC, wpAny_loadPart' hC, wpAny_typeOf (tyC _)
  rw [if_pos hstar]
  wp_walk using wpAny_load hm, wpAny_loadPart' hm, wpAny_load hb, wpAny_loadPart' hb, Looks.at sm, Looks.at sd
  refine ⟨plainId_quiet plain_dd _, codeAny_builtin entry_dd ?_⟩
  rw [Around.under_plainId plain_dd]
  show wpAny _ A.in1 (Builtin.«collections.defaultdict.__missing__» ⟨[.ref b, key], []⟩) _ _ _
  unfold Builtin.«collections.defaultdict.__missing__»
  generalize hcl : PySem.call = cl
  generalize hcb : callBorrowed = cb
  wp_walk using wpAny_load hb, wpAny_loadPart' hb, Looks.at sm, Looks.at sd, wpAny_load hF, wpAny_loadPart' hF
  subst hcb
  refine wpAny_borrowed (hbox (fun l h' tk hkp hln hl => ?_))
  have hb' := hkp _ _ hb
  have X' : (K w.params).In h' := Frag.In.keeps X hkp
  have sm' : Looks (model PySem.Challenge.rw_in0001_01.row.prog w) h' (isSubtype (.ref 122) (.type "module")) false := looks_subIn X' (sub_fdd_mod _)
  have sd' : Looks (model PySem.Challenge.rw_in0001_01.row.prog w) h' (isSubtype (.ref 122) (.type "dict")) true := looks_subIn X' (sub_fdd _)
  refine wpAny_pure ⟨plainId_quiet plain_sd _, codeAny_builtin entry_sd ?_⟩
  rw [Around.under_plainId plain_sd]
  show wpAny _ A.in1 (Builtin.«dict.setdefault» ⟨[.ref b, key, .ref l], []⟩) _ _ _
  unfold Builtin.«dict.setdefault»
  exact sd_fdd X' hb' hbs hkey hk hno hsz (fun h'' tk' e1 e2 => hQ l h'' tk' (fun b' o hb' e => e2 b' o hb' (hkp b' o e)) hln (e2 l _ (fun q => by subst q; rw [hb] at hln; cases hln) hl) e1)
end Mine
end
section
open PySem PySem.W PyProof.Rows PySem.Calls
set_option Elab.async false
set_option maxRecDepth 100000
set_option maxHeartbeats 8000000
set_option linter.unusedVariables false
namespace Mine
section
variable {M : Model} {A : Around} {c : Code} {E : Value → Shared → Prop} {s : Shared} {env : Env} {pos p : Pos}
theorem at_call {f : Expr} {a : List Expr} {k : List Keyword} {args : List Expr} {Q : Value → Shared → Prop}
    (h : _root_.PySem.wpAt M A c (eval (.Call f a k p) env) (fun fv s₁ => wpAny M A (callWith pos fv [] (backTo pos (starEach args env)) []) Q E s₁) E s) :
    _root_.PySem.wpAt M A c (eval (.Call (.Call f a k p) args [] pos) env) Q E s := by
  show _root_.PySem.wpAt M A c (eval (.Call f a k p) env >>= fun fv => callWith pos fv [] (backTo pos (starEach args env)) []) Q E s
  exact _root_.PySem.wpAt_bind (_root_.PySem.wpAt_mono h (fun v s' h' => _root_.PySem.wpAt_of_wpAny h') fun _ _ x => x)
theorem at_callN {id : Str} {args : List Expr} {Q : Value → Shared → Prop}
    (h : wpAny M A (eval (.Name id p) env) (fun fv s₁ => _root_.PySem.wpAt M A c (callWith pos fv [] (backTo pos (starEach args env)) []) Q E s₁) E s) :
    _root_.PySem.wpAt M A c (eval (.Call (.Name id p) args [] pos) env) Q E s := by
  show _root_.PySem.wpAt M A c (eval (.Name id p) env >>= fun fv => callWith pos fv [] (backTo pos (starEach args env)) []) Q E s
  exact _root_.PySem.wpAt_bind (_root_.PySem.wpAt_of_wpAny h)
theorem at_spliced_cons {x : Sem Value} {rest : List (Bool × Sem Value)} {Q : List Value → Shared → Prop}
    (h : _root_.PySem.wpAt M A c x (fun v s₁ => _root_.PySem.wpAt M A c (spliced rest) (fun vs s₂ => Q (v :: vs) s₂) E s₁) E s) : _root_.PySem.wpAt M A c (spliced ((false, x) :: rest)) Q E s := by
  rw [spliced]
  refine _root_.PySem.wpAt_bind (_root_.PySem.wpAt_mono h (fun v s₁ h₁ => ?_) fun _ _ x => x)
  simp only [Bool.false_eq_true, if_false]
  exact _root_.PySem.wpAt_bind (_root_.PySem.wpAt_of_wpAny (wpAny_pure (_root_.PySem.wpAt_bind (ks_wpAt_holding (_root_.PySem.wpAt_mono h₁ (fun vs s₂ h₂ => _root_.PySem.wpAt_of_wpAny (wpAny_pure h₂)) fun _ _ x => x)))))
theorem at_evalArgs {f : Value} {x : Sem Value} {rest : List (Bool × Sem Value)} {Q : Args → Shared → Prop}
    (h : _root_.PySem.wpAt M A c (spliced ((false, x) :: rest)) (fun vs s' => Q ⟨vs, []⟩ s') E s) : _root_.PySem.wpAt M A c (evalArgs f true ((false, x) :: rest) []) Q E s := by
  unfold evalArgs
  show _root_.PySem.wpAt M A c (spliced ((false, x) :: rest) >>= _) Q E s
  refine _root_.PySem.wpAt_bind (_root_.PySem.wpAt_mono h (fun vs s' h' => _root_.PySem.wpAt_of_wpAny ?_) fun _ _ x => x)
  refine wpAny_holding ?_
  exact wpAny_bind (wpAny_pure (wpAny_bind (wpAny_pure (wpAny_pure h'))))
theorem at_callWithB {id : String} {x : Sem Value} {rest : List (Bool × Sem Value)} {Q : Value → Shared → Prop} (hplain : rest.any (·.1) = false)
    (h : _root_.PySem.wpAt M A c (spliced ((false, x) :: rest)) (fun vs s₁ => wpAny M A (call (.builtin id) vs) Q E s₁) E s) :
    _root_.PySem.wpAt M A c (callWith pos (.builtin id) [] ((false, x) :: rest) []) Q E s := by
  unfold callWith
  have h2 := at_evalArgs (f := .builtin id) (Q := fun a s₁ => wpAny M A (call (.builtin id) ([] ++ a.pos) a.kw) Q E s₁) h
  refine _root_.PySem.wpAt_bind (ks_wpAt_holding (_root_.PySem.wpAt_mono h2 (fun a s₁ h₁ => _root_.PySem.wpAt_of_wpAny (wpAny_bind (wpAny_standAt ?_))) fun _ _ x => x))
  have hp : (((false, x) :: rest).any (·.1)) = false := by show (false || rest.any (·.1)) = false; rw [hplain]; rfl
  simp only [hp, List.any_nil, Bool.or_false]
  refine wpAny_bind (wpAny_pure ?_)
  exact wpAny_bind (wpAny_mono h₁ (fun r s₂ hr => wpAny_bind (wpAny_holding (wpAny_point (wpAny_pure hr)))) fun _ _ x => x)
theorem at_attr {prog : Program} {w : World} {o : Expr} {name : Str} {Q : Value → Shared → Prop}
    (h : _root_.PySem.wpAt (model prog w) A c (attributeBase o name env (eval o env)) (fun ov s₁ => wpAny (model prog w) A (getAttr ov name true) Q E s₁) E s) :
    _root_.PySem.wpAt (model prog w) A c (eval (.Attribute o name pos) env) Q E s := by
  rw [arm_eval_Attribute]
  refine _root_.PySem.wpAt_bind (_root_.PySem.wpAt_mono h (fun v s' h' => _root_.PySem.wpAt_of_wpAny ?_) fun _ _ x => x)
  refine wpAny_bind (wpAny_standAt (wpAny_bind (wpAny_holding (wpAny_mono h' (fun r s₂ h₂ => ?_) fun _ _ x => x))))
  exact wpAny_bind (wpAny_letTemporaryGo (wpAny_pure h₂))
/-- the body of __missing__, as far as its super() -/
theorem at_miss {prog : Program} {w : World} {ga su : Str} {p1 p2 p3 p4 p5 p6 p7 p8 p9 : Pos} {sf ky : Str} {cst : Const} {tc : Tok} {at' : Str} {gid : String} {Q : Flow → Shared → Prop}
    (h : wpAny (model prog w) A (eval (.Name ga p1) env) (fun g s₁ => g = .builtin gid ∧ wpAny (model prog w) A (eval (.Name sf p2) env) (fun sv s₂ => wpAny (model prog w) A (eval (.Constant cst tc p3) env) (fun cv s₃ =>
      _root_.PySem.wpAt (model prog w) A c (attributeBase (.Call (.Name su p4) [] [] p5) at' env (eval (.Call (.Name su p4) [] [] p5) env)) (fun so s₄ => wpAny (model prog w) A (getAttr so at' true) (fun bm s₅ =>
        wpAny (model prog w) A (call (.builtin gid) [sv, cv, bm]) (fun f s₆ => wpAny (model prog w) A (callWith p8 f [] (backTo p8 (starEach [.Name ky p9] env)) []) (fun v => Q (.ret v)) E s₆) E s₅) E s₄) E s₃) E s₂) E s₁) E s) :
    _root_.PySem.wpAt (model prog w) A c (execs [.Return (some (.Call (.Call (.Name ga p1) [.Name sf p2, .Constant cst tc p3, .Attribute (.Call (.Name su p4) [] [] p5) at' p6] [] p7) [.Name ky p9] [] p8)) p] env) Q E s := by
  refine ks_wpAt_execs_cons (ks_wpAt_Return_some (at_call (at_callN (wpAny_mono h (fun g s₁ h₁ => ?_) fun _ _ x => x))))
  obtain ⟨rfl, h₁⟩ := h₁
  refine at_callWithB rfl (at_spliced_cons (_root_.PySem.wpAt_of_wpAny (wpAny_mono h₁ (fun sv s₂ h₂ => ?_) fun _ _ x => x)))
  refine at_spliced_cons (_root_.PySem.wpAt_of_wpAny (wpAny_mono h₂ (fun cv s₃ h₃ => ?_) fun _ _ x => x))
  refine at_spliced_cons (at_attr (_root_.PySem.wpAt_mono h₃ (fun so s₄ h₄ => ?_) fun _ _ x => x))
  refine wpAny_mono h₄ (fun bm s₅ h₅ => ?_) fun _ _ x => x
  exact _root_.PySem.wpAt_of_wpAny (wpAny_pure h₅)
end
theorem third (P : Params) : nsIn (K P) cStatics "thirdparty.any" = some none := by kernel_rfl
theorem mro_fdd (P : Params) : (clsIn (K P) 122).map (·.mro) = some [.ref 122, .type "collections.defaultdict", .type "dict", .type "object"] := by kernel_rfl
theorem along_fdd (P : Params) : alongIn (K P) (Str.ofString "__missing__") [.type "collections.defaultdict", .type "dict", .type "object"] = some (some (.builtin "collections.defaultdict.__missing__")) := by kernel_rfl
theorem ty_ddm : typeOf (.builtin "collections.defaultdict.__missing__") = pure (.type "method_descriptor") := by kernel_rfl
theorem in_fdd (P : Params) : ((K P).lookup 122).isSome = true := by kernel_rfl
theorem ga_missing {w : World} {A : Around} {E : Value → Shared → Prop} {s : Shared} {so b dx : Addr} {es : Array DictEntry} {n : Nat} {h₀ : Heap} {L : Addr} {m : Str → Option Value} {rest : List (Addr × Obj)} {Q : Value → Shared → Prop}
    (F : Fr h₀ L s.heap m) (N : News h₀ L s.heap ((so, ks_superObj 122 b 122) :: (b, fddObj dx es n) :: rest)) (X₀ : (K w.params).In h₀) (hh : A.handled = none) (hd : A.depth ≤ 800) (hu : A.units ≤ 2990)
    (k : ∀ bm h' tk, Fr h₀ L h' m → News h₀ L h' ((bm, bmObj b) :: (so, ks_superObj 122 b 122) :: (b, fddObj dx es n) :: rest) → Q (.ref bm) { s with heap := h', toks := tk }) :
    wpAny (model PySem.Challenge.rw_in0001_01.row.prog w) A (getAttr (.ref so) (Str.ofString "__missing__") true) Q E s := by
  have X : (K w.params).In s.heap := X₀.keeps F.keep
  have hso := (N _ (List.mem_cons_self ..)).1
  have hb := N _ (List.mem_cons_of_mem _ (List.mem_cons_self ..))
  have hbC : b ≠ 122 := fun q => by
    have e := in_fdd w.params
    cases z : (K w.params).lookup 122 with
    | none => rw [z] at e; cases e
    | some o => have := X₀ _ _ z; rw [← q, hb.2.2] at this; cases this
  have hmro := mro_fdd w.params
  obtain ⟨hp, g, d, t, os⟩ := s
  cases hc : clsIn (K w.params) 122 with
  | none => rw [hc] at hmro; cases hmro
  | some cd =>
    rw [hc] at hmro
    have hmro : cd.mro = [.ref 122, .type "collections.defaultdict", .type "dict", .type "object"] := Option.some.inj hmro
    have hC : Looks (model PySem.Challenge.rw_in0001_01.row.prog w) hp (mroOf (.ref 122)) [.ref 122, .type "collections.defaultdict", .type "dict", .type "object"] := by
      rw [← hmro]
      exact fun A Q E s k q => wpAny_bind ((looks_clsIn X hc) A _ E s k (wpAny_pure q))
    refine ga_super (KK := K w.params) (by decide) (by decide) X hb.1 hso hbC (looks_opaque X (third _)) hC (along_fdd _) ty_ddm (fun A' e1 e2 e3 => ?_)
    refine ax_weak (e1.trans hh) (Nat.le_trans e2 hd) (by omega) (wpAny_mono (mk_bm (s := ⟨hp, g, d, t + 1, os⟩) X hb.1) (fun v s' hv => ?_) fun _ _ f => f)
    obtain ⟨h', tk, rfl, hk, bm, rfl, hbm, hnew⟩ := hv
    refine ⟨⟨_, rfl⟩, k bm h' tk (F.keeps hk) (fun p hp' => ?_)⟩
    rcases List.mem_cons.mp hp' with rfl | hp'
    · refine ⟨hbm, fun q => ?_, ?_⟩
      · obtain ⟨o, _, _, ho, _⟩ := F.ns
        rw [← q] at ho
        exact absurd (ho.symm.trans hnew) (fun h => nomatch h)
      · cases e : h₀.get? bm with
        | none => rfl
        | some o => exact absurd ((F.keep _ _ e).symm.trans hnew) (fun h => nomatch h)
    · exact (N.grown hk) p hp'
theorem callWith_bm {M : Model} {A : Around} {E : Value → Shared → Prop} {s : Shared} {env : Env} {pos : Pos} {bm b : Addr} {e : Expr} {Q : Value → Shared → Prop}
    (h : wpAny M A (eval e env) (fun v s₁ => s₁.heap.get? bm = some (bmObj b) ∧ wpAny M A (call (.ref bm) [v]) Q E s₁) E s) (he : starEach [e] env = [(false, eval e env)] := by rfl) :
    wpAny M A (callWith pos (.ref bm) [] (backTo pos (starEach [e] env)) []) Q E s := by
  rw [he]
  unfold callWith
  refine wpAny_bind (wpAny_holding (wpAny_mono (evalArgs_plain (Q := fun x s₁ => s₁.heap.get? bm = some (bmObj b) ∧ wpAny M A (call (.ref bm) x.pos x.kw) Q E s₁) (spliced_cons (wpAny_mono h (fun v s₁ h₁ => spliced_nil h₁) fun _ _ x => x))) (fun x s₁ h₁ => wpAny_bind (wpAny_standAt ?_)) fun _ _ x => x))
  obtain ⟨ho, hcall⟩ := h₁
  simp only [backTo, List.map_cons, List.map_nil, Bool.false_eq_true, if_false, List.any_cons, Bool.or_self, List.any_nil, List.nil_append]
  refine wpAny_bind (m := keeperOf (.ref bm)) ?_
  unfold keeperOf
  refine wpAny_bind (wpAny_load ho ?_)
  simp only [show (Value.type "builtin_function_or_method" != Value.type "method") = true by decide, if_true]
  refine wpAny_pure ?_
  exact wpAny_bind (wpAny_mono hcall (fun r s₂ hr => wpAny_bind (wpAny_holding (wpAny_point (wpAny_pure hr)))) fun _ _ x => x)
theorem fr_but {h₀ h h' : Heap} {L b : Addr} {m : Str → Option Value} (F : Fr h₀ L h m) (hb : h₀.get? b = none) (hL : b ≠ L) (k : ∀ a o, a ≠ b → h.get? a = some o → h'.get? a = some o) : Fr h₀ L h' m := by
  obtain ⟨oL, es, ep, ho, r⟩ := F.ns
  exact ⟨⟨oL, es, ep, k _ _ (Ne.symm hL) ho, r⟩, fun a o e => k a o (fun q => by rw [q, hb] at e; cases e) (F.keep a o e), F.above⟩
theorem miss_tells (w : World) (b dx : Addr) (es : Array DictEntry) (n : Nat) (key : Value) 
    {mean : ExcName → Option Value} {mg mb : Str → Option Value} {dp un : Nat} {gd : Option (List Code)} {cn : Str} {cs : Scope} {a : Addr} {ccd : Value} {cl : List (Str × Addr)} {outer : List Env} {A₀ : Around} {base h₀ : Heap} {L : Addr} {m : Str → Option Value} {s : Shared} {R : Result → Shared → Prop} {news : List (Addr × Obj)}
    (B : Below A₀ base outer h₀) (F : Fr h₀ L s.heap m) (N : News h₀ L s.heap ((b, fddObj dx es n) :: (dx, dictOf [] 0) :: news)) (X : (K w.params).In h₀) (T : Top topProg TLo mean mg mb h₀) (hk : cs.kind = .function) (hd : dp ≤ 450) (hu : un ≤ 900)
    {KT : Type} [DecidableEq KT] {knd : KeyKind PySem.Challenge.rw_in0001_01.row.prog w KT} {k : KT} (hkey : knd.is k key = true) (hks : KeysOf knd es) (hno : (es.findIdx? fun e => knd.is k e.key) = none) (hbs : (b == sysModules) = false) (hsz : es.size ≤ 1000) (hnb : ∀ p ∈ (dx, dictOf [] 0) :: news, p.1 ≠ b)
    (hret : ∀ l n' h' tk', Fr h₀ L h' m → News h₀ L h' ((l, { cls := .type "list", data := .seq #[] }) :: (b, fddObj dx (es.push ⟨knd.hash k, key, .ref l⟩) n') :: (dx, dictOf [] 0) :: news) → (∀ p ∈ (b, fddObj dx (es.push ⟨knd.hash k, key, .ref l⟩) n') :: (dx, dictOf [] 0) :: news, p.1 ≠ l) → R (.ok (.ret (.ref l))) { s with heap := h', toks := tk' }) :
    codeAny (model PySem.Challenge.rw_in0001_01.row.prog w) (ktrTop dp un gd cn cs L a ccd cl outer) (.call (.ref 112) ⟨[.ref b, key], []⟩) R s := by
  k_with_none
  revert B F N X T
  k_fill
  intro B F N X T
  k_dflt (refine' ks_code_super ?k1 ?k2 ?k3 ?k4 ?k5 ?kA ?kF ?kK ?k6 ?k7 ?k8 ?k9 ?kB ?_ ?c1 ?c2 ?c3 ?c4; (case kA => exact rfl); (case kF => exact rfl); (case kK => assumption); (case k1 => k_asm); (case k2 => k_asm); (case k3 => k_asm); (case k4 => k_asm); (case k5 => k_asm); (case k6 => k_is); (case k7 => k_is); (case k8 => exact Nat.lt_of_le_of_lt hd (by decide)); (case k9 => exact BindsTo.of_eq rfl); (case kB => exact locs rfl); (case c1 => decide); (case c2 => exact rfl); (case c3 => exact rfl); (case c4 => exact rfl); intro g' L' h' FG' F' N' B' X' T' l1; (try k_lt l1); (try dsimp only); (try k_lift B'))
  refine at_miss (gid := "getattr") ?_
  k_steps
  k_here
  refine ks_node (by k_asm) (by k_asm) (by k_asm) (by k_asm) (by k_is) (by rfl) (by rfl) (show InstAt _ b (fddObj dx es n) 122 (some (dictOf [] 0)) from ⟨(News.get (by k_asm) (List.mem_cons_self ..)), rfl, rfl, (News.get (by k_asm) (List.mem_cons_of_mem _ (List.mem_cons_self ..)))⟩) (by k_is) (by rfl) (by first | rfl | decide +kernel) (by k_is) (by k_is) (by k_is) (by k_is) (by decide) (by rfl) (by rfl) (by rfl) (by rfl) (by decide +kernel) (by first | boot_by_name | rfl | kernel_rfl) ?_
  intro so' h' F' N' l1
  refine ga_missing (by k_asm) (by k_asm) (by k_asm) rfl (Nat.le_trans (Nat.succ_le_succ hd) (by decide)) (Nat.le_trans (Nat.add_le_add_right hu 3) (by decide)) ?_
  intro bm h9 tk9 F9 N9
  refine leafK F9 N9 (ga_frozen (X'.keeps F9.keep) (N9.get (List.mem_cons_of_mem _ (List.mem_cons_of_mem _ (List.mem_cons_self ..)))) (N9.get (List.mem_cons_of_mem _ (List.mem_cons_of_mem _ (List.mem_cons_of_mem _ (List.mem_cons_self ..))))) (N9.get (List.mem_cons_self ..))) rfl (Nat.le_trans (Nat.succ_le_succ hd) (by decide)) (Nat.le_trans (Nat.add_le_add_right hu 3) (by decide)) ?_
  intro v8 h8 tk8 F8 N8 hv8
  subst hv8
  refine callWith_bm (b := b) ?_
  k_steps
  · exact News.get (by k_asm) (List.mem_cons_self ..)
  have hbb := N8 _ (List.mem_cons_of_mem _ (List.mem_cons_of_mem _ (List.mem_cons_self ..)))
  refine dd_missing (X'.keeps F8.keep) hbb.1 (N8.get (List.mem_cons_self ..)) hkey hks hno hbs hsz (fun l h7 tk7 kp hn hl hb7 => ?_) (fun {Q' E'} hq => ?_)
  · obtain ⟨n', hb7⟩ := hb7
    have N7 : News g' L' h7 ((l, { cls := .type "list", data := .seq #[] }) :: (b, fddObj dx (es.push ⟨knd.hash k, key, .ref l⟩) n') :: (dx, dictOf [] 0) :: news) := by
      intro p hp
      rcases List.mem_cons.mp hp with rfl | hp
      · refine ⟨hl, fun q => ?_, ?_⟩
        · obtain ⟨o, _, _, ho, _⟩ := F8.ns
          rw [← q] at ho
          exact absurd (ho.symm.trans hn) (fun h => nomatch h)
        · cases e : g'.get? l with
          | none => rfl
          | some o => exact absurd ((F8.keep _ _ e).symm.trans hn) (fun h => nomatch h)
      · rcases List.mem_cons.mp hp with rfl | hp
        · exact ⟨hb7, hbb.2⟩
        · have := N8 p (List.mem_cons_of_mem _ (List.mem_cons_of_mem _ (List.mem_cons_of_mem _ hp)))
          exact ⟨kp _ _ (hnb p hp) this.1, this.2⟩
    refine leaveK_ (fr_but F8 hbb.2.2 hbb.2.1 kp) N7 (fun kF kN => hret l n' h7 tk7 kF kN (fun p hp q => ?_))
    have : p ∈ (l, ({ cls := .type "list", data := .seq #[] } : Obj)) :: (b, fddObj dx (es.push ⟨knd.hash k, key, .ref l⟩) n') :: (dx, dictOf [] 0) :: news := List.mem_cons_of_mem _ hp
    rcases List.mem_cons.mp hp with rfl | hp
    · have q' : b = l := q
      rw [← q'] at hn
      exact absurd (hbb.1.symm.trans hn) (fun h => nomatch h)
    · have := N8 p (List.mem_cons_of_mem _ (List.mem_cons_of_mem _ (List.mem_cons_of_mem _ hp)))
      rw [q, hn] at this
      exact absurd this.1 (fun h => nomatch h)
  · refine Tells.at (box_tells w) (by k_asm) F8 N8 (by k_asm) (by k_asm) rfl rfl (by (try dsimp only [ktrTop, Around.deeper]); omega) (by (try dsimp only [ktrTop, Around.deeper]); omega) trivial (fun r tl h7 tk7 F7 N7 K7 fr7 P7 => ?_)
    obtain ⟨l, rfl, rfl⟩ := P7
    exact hq l h7 tk7 K7 (fr7 _ (List.mem_cons_self ..)) (N7.get (List.mem_cons_self ..))
end Mine
end
section
open PySem PySem.W PyProof.Rows PySem.Calls
set_option Elab.async false
set_option maxRecDepth 100000
set_option maxHeartbeats 8000000
set_option linter.unusedVariables false
namespace Mine

theorem sub_seq (P : Params) : (seqItemTypes.all fun n => subIn (K P) (.ref 122) (.type n) == some false) = true := by kernel_rfl
theorem looks_any {M : Model} {h : Heap} {KK : Frag} (X : KK.In h) {t : Value} : ∀ (l : List String), (l.all fun n => subIn KK t (.type n) == some false) = true → Looks M h (l.anyM fun n => isSubtype t (.type n)) false
  | [], _ => Looks.of_pure rfl
  | n :: l, e => by
    rw [List.all_cons, Bool.and_eq_true] at e
    refine (looks_subIn X (eq_of_beq e.1)).andThen ?_
    simp only [Bool.false_eq_true, if_false]
    exact looks_any X l e.2
theorem find_get (P : Params) : findIn (K P) (.ref 122) (Str.ofString "__getitem__") = some (some (.builtin "dict.__getitem__")) := by kernel_rfl
theorem find_miss (P : Params) : findIn (K P) (.ref 122) (Str.ofString "__missing__") = some (some (.ref 112)) := by kernel_rfl
theorem fn_miss (P : Params) : isFn ((K P).lookup 112) = true := by kernel_rfl
theorem ty_miss (P : Params) : typeIn (K P) (.ref 112) = some (.type "function") := by kernel_rfl
theorem ty_dg : typeOf (.builtin "dict.__getitem__") = pure (.type "method_descriptor") := by kernel_rfl
theorem dg_split : splitId "dict.__getitem__" = some ("dict", "__getitem__") := by decide +kernel
theorem dg_kind : builtinKind "dict.__getitem__" = some .method := by
  simp only [builtinKind, dg_split]
  decide +kernel
theorem check_meth {M : Model} {A : Around} {E : Value → Shared → Prop} {s : Shared} {i owner n : String} {self : Value} {rest : List Value} {kw : List (Str × Value)} {Q : Unit → Shared → Prop}
    (hk : builtinKind i = some .method) (hs : splitId i = some (owner, n)) (hi : Looks M s.heap (isInstance self (.type owner)) true) (ha : argsOk i ⟨self :: rest, kw⟩) (q : Q () s) :
    wpAny M A (checkBuiltinCall i ⟨self :: rest, kw⟩) Q E s := by
  simp only [checkBuiltinCall, hk, hs]
  refine wpAny_bind (hi.here ?_)
  simp only [Bool.not_true, Bool.false_eq_true, if_false]
  cases hsig : Manifest.signature? i with
  | none => exact wpAny_pure q
  | some sig =>
    simp only [argsOk, hsig] at ha
    have h2 : Bind.checkArgs i sig ⟨self :: rest, kw⟩ = pure () := ha
    show wpAny M A (Bind.checkArgs i sig ⟨self :: rest, kw⟩) Q E s
    rw [h2]; exact wpAny_pure q
theorem fdd_get {w : World} {A : Around} {s : Shared} {b dx : Addr} {es : Array DictEntry} {n : Nat} {key : Value} {Q E : Value → Shared → Prop} {KT : Type} [DecidableEq KT] {knd : KeyKind PySem.Challenge.rw_in0001_01.row.prog w KT} {k : KT} (X : (K w.params).In s.heap) (hb : s.heap.get? b = some (fddObj dx es n))
    (hkey : knd.is k key = true) (hk : KeysOf knd es) (hbs : (b == sysModules) = false)
    (h1 : ∀ i v, (es.findIdx? fun e => knd.is k e.key) = some i → es[i]?.map (·.val) = some v → ∀ tk', Q v { s with toks := tk' })
    (h2 : (es.findIdx? fun e => knd.is k e.key) = none → ∀ R tk', (∀ v s', Q v s' → R (.ok (.ret v)) s') → codeAny (model PySem.Challenge.rw_in0001_01.row.prog w) A.in1 (.call (.ref 112) ⟨[.ref b, key], []⟩) R { s with toks := tk' }) :
    wpAny (model PySem.Challenge.rw_in0001_01.row.prog w) A (getItem (.ref b) key) Q E s := by
  obtain ⟨h₀, g, d, t, os⟩ := s
  dsimp only at hb h1 h2
  have hsk := looks_any (M := (model PySem.Challenge.rw_in0001_01.row.prog w)) X seqItemTypes (sub_seq _)
  have hfg := looks_findIn (M := (model PySem.Challenge.rw_in0001_01.row.prog w)) X (find_get w.params)
  unfold getItem
  have hid : Looks (model PySem.Challenge.rw_in0001_01.row.prog w) h₀ (isInstance (.ref b) (.type "dict")) true := inst_sub (P := w.params) (ox := fddObj dx es n) (C := 122) (T := "dict") X hb rfl (sub_fdd w.params)
  wp_walk using wpAny_load hb, wpAny_loadPart' hb, Looks.at hsk, Looks.at hfg, wpAny_of_eq ty_dg
  refine wpAny_of_eq (slot_dict_getitem.bind _) ?_
  refine wpAny_bind ?_
  refine wpAny_call ?_
  refine codeAny_call_builtin (id := "dict.__getitem__") (b := Builtin.«dict.__getitem__») ?h1 ?h2 ?h3
  case h1 => exact slot_dict_getitem.plain
  case h2 => exact entry_dict_getitem
  case h3 =>
  refine check_meth (i := "dict.__getitem__") (owner := "dict") (n := "__getitem__") ?za ?zb ?zc ?zd ?ze
  case za => exact dg_kind
  case zb => exact dg_split
  case zc => exact hid
  case zd => exact args_dict_getitem _ _
  case ze =>
  have hso : Looks (model PySem.Challenge.rw_in0001_01.row.prog w) h₀ (isSubtype (.ref 122) (.type "collections.OrderedDict")) false := looks_subIn X (sub_fdd_od _)
  unfold Builtin.«dict.__getitem__»
  wp_walk using wpAny_load hb, wpAny_loadPart' hb, Looks.at hso, knd.pyHash hkey, wpAny_dictFind_of hkey hb rfl hk
  have hfm := looks_findIn (M := (model PySem.Challenge.rw_in0001_01.row.prog w)) X (find_miss w.params)
  have hbf := bind_fn (M := (model PySem.Challenge.rw_in0001_01.row.prog w)) X (f := 112) (.ref b) (ty_miss w.params)
  cases hi : es.findIdx? (fun e => knd.is k e.key) with
  | some i =>
    have hlt : i < es.size := by
      have := Array.findIdx?_eq_some_iff_getElem.mp hi
      exact this.1
    wp_walk using wpAny_load hb, wpAny_loadPart' hb
    have he : es[i]? = some es[i] := Array.getElem?_eq_getElem hlt
    rw [he]
    exact wpAny_pure (wpAny_pure (wpAny_pure (h1 i _ hi (by rw [he]; rfl) _)))
  | none =>
    wp_walk using wpAny_load hb, wpAny_loadPart' hb, Looks.at hfm, Looks.at hbf
    refine h2 hi _ _ (fun v s' hq => ?_)
    exact wpAny_pure (wpAny_bind (wpAny_rule (wpAny_pure (wpAny_pure (wpAny_pure hq)))))
end Mine
end
section
open PySem PySem.W PyProof.Rows PySem.Calls
set_option Elab.async false
set_option maxRecDepth 100000
set_option maxHeartbeats 8000000
set_option linter.unusedVariables false
namespace Mine
theorem sub_fdd_obj (P : Params) : subIn (K P) (.ref 122) (.type "object") = some true := by kernel_rfl
theorem set_fdd (P : Params) : findIn (K P) (.ref 122) "__setattr__" = some (some (.builtin "object.__setattr__")) := by kernel_rfl
theorem fz_fdd (P : Params) : findIn (K P) (.ref 122) (Str.ofString "_frozen") = some none := by kernel_rfl
theorem has_fdd (P : Params) : (clsIn (K P) 122).any (·.hasDict) = true := by kernel_rfl
theorem refuse_fdd (self : Value) : refuseLoop self "__setattr__" [.ref 122, .type "collections.defaultdict", .type "dict", .type "object"] = pure () := by
  rw [refuseLoop_ref]
  kernel_rfl
theorem look_empty (name : Str) : (lookIn name (dictOf [] 0)).isSome = true := rfl
/-- the one attribute that is set on the dict -/
theorem fdd_set {w : World} {A : Around} {E : Value → Shared → Prop} {s : Shared} {b dx : Addr} {es : Array DictEntry} {n : Nat} {h₀ : Heap} {L : Addr} {m : Str → Option Value} {pre post : List (Addr × Obj)} {v : Value} {Q : Unit → Shared → Prop}
    (F : Fr h₀ L s.heap m) (N : News h₀ L s.heap (pre ++ (dx, dictOf [] 0) :: post)) (X : (K w.params).In s.heap) (I : InstAt s.heap b (fddObj dx es n) 122 (some (dictOf [] 0)))
    (h1 : ∀ p ∈ pre, p.1 ≠ dx) (h2 : ∀ p ∈ post, p.1 ≠ dx)
    (h : ∀ h' tk t1, Fr h₀ L h' m → News h₀ L h' (pre ++ (dx, dictOf [⟨PyData.keyHash w.params (Str.ofString "_frozen"), .str (Str.ofString "_frozen") t1, v⟩] 1) :: post) → Q () { s with heap := h', toks := tk }) :
    wpAny (model PySem.Challenge.rw_in0001_01.row.prog w) A (setAttr (.ref b) (Str.ofString "_frozen") v) Q E s := by
  obtain ⟨hp, g, d, t, os⟩ := s
  dsimp only at F N X I h
  refine set_plain X I (set_fdd _) ?_
  have SF := PySem.F.store_object
  have sub : Looks (model PySem.Challenge.rw_in0001_01.row.prog w) hp (isInstance (.ref b) (.type "object")) true := inst_sub (P := w.params) (ox := fddObj dx es n) (C := 122) (T := "object") X I.at_ rfl (sub_fdd_obj w.params)
  refine codeAny_call_builtin SF.slot.plain SF.entry (@check_slot (model PySem.Challenge.rw_in0001_01.row.prog w) _ _ _ "object.__setattr__" "object" "__setattr__" (.ref b) [.str (Str.ofString "_frozen") t, v] [] _ SF.kind SF.split sub (SF.args (.ref b) (.str (Str.ofString "_frozen") t) v) ?_)
  have hmro := mro_fdd w.params
  have hany := has_fdd w.params
  cases hc : clsIn (K w.params) 122 with
  | none => rw [hc] at hmro; cases hmro
  | some cd =>
    rw [hc] at hmro hany
    have hmro : cd.mro = [.ref 122, .type "collections.defaultdict", .type "dict", .type "object"] := Option.some.inj hmro
    have hd' : cd.hasDict = true := hany
    have hm : Looks (model PySem.Challenge.rw_in0001_01.row.prog w) hp (mroOf (.ref 122)) cd.mro := (looks_clsIn X hc).andThen .now
    rw [osa_eq, refuse_eq]
    refine wpAny_bind (wpAny_bind (Looks.at I.type (wpAny_bind (Looks.at hm ?_))))
    rw [hmro, refuse_fdd]
    refine wpAny_pure (wpAny_bind (Looks.at I.type (wpAny_bind (Looks.at (looks_findIn X (fz_fdd _)) (wpAny_bind ?_)))))
    refine wpAny_pure (a := none) ?_
    have hx := I.at_
    have D := N (dx, dictOf [] 0) (by simp)
    refine wpAny_bind (wpAny_pure (wpAny_bind (wpAny_bind (wpAny_loadPart (s := ⟨hp, g, d, t + 1, os⟩) hx (wpAny_bind (Looks.at (looks_clsIn X hc) ?_))))))
    rw [hd']
    refine wpAny_pure (a := some dx) (wpAny_bind (wpAny_pure (wpAny_bind ?_)))
    unfold nsSet
    refine wpAny_bind (wpAny_bind (wpAny_askSetting (wpAny_pure (wpAny_bind (wpAny_mkText (wpAny_bind (wpAny_loadPart (s := ⟨hp, g, d, t + 2, os⟩) D.1 ?_)))))))
    dsimp only
    rw [if_neg (show ¬ (aRefKeyMayBeTheName (Str.ofString "_frozen") #[] = true) by decide)]
    obtain ⟨U1, U2⟩ := news_upd (f := Obj.putName (Str.ofString "_frozen") (PyData.keyHash w.params (Str.ofString "_frozen")) (.str (Str.ofString "_frozen") (t + 1)) v) (o' := dictOf [⟨PyData.keyHash w.params (Str.ofString "_frozen"), .str (Str.ofString "_frozen") (t + 1), v⟩] 1) F N h1 h2 (by rw [putName_dict]; rfl) rfl
    refine wpAny_updatePart (s := ⟨hp, g, d, t + 2, os⟩) D.1 ?_
    have D' := (U2 (dx, dictOf [⟨PyData.keyHash w.params (Str.ofString "_frozen"), .str (Str.ofString "_frozen") (t + 1), v⟩] 1) (by simp)).1
    refine wpAny_bind (wpAny_lookBehind (o := dictOf [⟨PyData.keyHash w.params (Str.ofString "_frozen"), .str (Str.ofString "_frozen") (t + 1), v⟩] 1) D' (pastItsLine_dict (show 1 ≤ sizeLine + 1 from by decide)) ?_)
    exact wpAny_pure (h _ _ _ U1 U2)
end Mine
end
section
open PySem PySem.W PyProof.Rows PySem.Calls
set_option Elab.async false
set_option maxRecDepth 100000
set_option maxHeartbeats 8000000
set_option linter.unusedVariables false
namespace Mine
theorem allLt_mem {d : Nat} : ∀ {l : List (Addr × Obj)}, AllLt d l → ∀ p ∈ l, p.1 < d
  | [], _, _, hp => nomatch hp
  | q :: r, h, p, hp => by
    rcases List.mem_cons.mp hp with rfl | hp
    · exact h.1
    · exact allLt_mem h.2 p hp
noncomputable def lamFrom (st : Stmt) (d₀ : Arguments × Expr × Scope) : Arguments × Expr × Scope := match st with
  | .FunctionDef _ _ (.Assign _ (.Lambda ps b sc _) _ :: _) _ _ _ _ _ _ _ => (ps, b, sc)
  | _ => d₀
noncomputable def lamS (d₀ : Arguments × Expr × Scope) : { d : Arguments × Expr × Scope // lamFrom (stc 7 2) d₀ = d } := ⟨_, by (conv => lhs; whnf)⟩
noncomputable abbrev lamP : Arguments × Expr × Scope := (lamS (⟨[], [], none, [], [], none, []⟩, .Constant .none 0 default, ⟨.function, [], false, false, []⟩)).1
/-- the function that freezing lays aside -/
noncomputable abbrev lamObj (pm : Value) (ca c : Addr) (ctv : Value) : Obj := kla_obj "<lambda>" ((S "FreezableDefaultDict.freeze" ++ ".<locals>.") ++ "<lambda>") lamP.1 lamP.2.1 lamP.2.2 [("self", ca)] pm c ctv
theorem hd_118 (P : Params) : codeHdIn (K P) 118 114 = true := by kernel_rfl
theorem freeze_first (w : World) (b dx : Addr) (es : Array DictEntry) (n : Nat)
    {mean : ExcName → Option Value} {mg mb : Str → Option Value} {dp un : Nat} {gd : Option (List Code)} {cn : Str} {cs : Scope} {a : Addr} {ccd : Value} {cl : List (Str × Addr)} {outer : List Env} {A₀ : Around} {base h₀ : Heap} {L : Addr} {m : Str → Option Value} {s : Shared} {R : Result → Shared → Prop} {news : List (Addr × Obj)}
    (B : Below A₀ base outer h₀) (F : Fr h₀ L s.heap m) (N : News h₀ L s.heap ((114, tabObj #[]) :: (b, fddObj dx es n) :: (dx, dictOf [] 0) :: news)) (X : (K w.params).In h₀) (T : Top topProg TLo mean mg mb h₀) (hk : cs.kind = .function) (hd : dp ≤ 450) (hu : un ≤ 900) (h114 : ∀ p ∈ (b, fddObj dx es n) :: (dx, dictOf [] 0) :: news, p.1 ≠ 114) (hbd : b ≠ dx) (hnd : ∀ p ∈ news, p.1 ≠ dx)
    (hret : ∀ f c ca oc oo vs t ctv t1 h' tk', Fr h₀ L h' m → News h₀ L h' ((f, lamObj ((mg "__name__").getD .none) ca c ctv) :: (c, oc) :: (ca, oo) :: (114, tabObj #[rawInt 54, rawInt 23, .ref c]) :: (b, fddObj dx es n) :: (dx, dictOf [⟨PyData.keyHash w.params (Str.ofString "_frozen"), .str (Str.ofString "_frozen") t1, .ref f⟩] 1) :: news) →
      oc.data = .fields vs → vs[1]? = some (.str ((S "FreezableDefaultDict.freeze" ++ ".<locals>.") ++ "<lambda>") t) → oo.data = .cell (some (.ref b)) → (∀ p ∈ (114, tabObj #[]) :: (b, fddObj dx es n) :: (dx, dictOf [] 0) :: news, p.1 < ca ∧ p.1 < c ∧ p.1 < f) → ca < c → c < f →
      R (.ok (.ret .none)) { s with heap := h', toks := tk' }) :
    codeAny (model PySem.Challenge.rw_in0001_01.row.prog w) (ktrTop dp un gd cn cs L a ccd cl outer) (.call (.ref 119) ⟨[.ref b], []⟩) R s := by
  k_with_none
  have hT9 : CodeHd h₀ 118 114 := codeHd_of_K X (hd_118 _)
  revert B F N X T
  k_fill
  intro B F N X T
  k_dflt (refine' code_defC ?k1 ?k2 ?k3 ?k4 ?k5 ?kA ?kF ?kK ?k6 ?k7 ?k8 ?k9 ?kB ?kC ?_ ?c2 ?c3 ?c4; (case kA => exact rfl); (case kF => exact rfl); (case kK => assumption); (case k1 => k_asm); (case k2 => k_asm); (case k3 => k_asm); (case k4 => k_asm); (case k5 => k_asm); (case k6 => k_is); (case k7 => k_is); (case k8 => exact Nat.lt_of_le_of_lt hd (by decide)); (case k9 => exact BindsTo.of_eq rfl); (case kB => exact rfl); (case kC => decide +kernel); (case c2 => exact rfl); (case c3 => exact rfl); (case c4 => exact rfl); k_whole; intro g' L' h' tk' cells' FG' F' N' Y' B' X' T' l1; (try k_lt l1); k_cells Y'; (try simp only [List.cons_append, List.nil_append] at N'); (try dsimp only); (try k_lift B'); (try k_fold))
  have LT : 114 < L' ∧ b < L' ∧ dx < L' ∧ AllLt L' news := by assumption
  have hT8 : CodeHd g' 118 114 := codeHd_of_K X' (hd_118 _)
  k_steps
  k_here
  kn_here
  refine' kla_eval ?d0 ?_
  case d0 => exact rfl
  refine' kla_nest ?F ?N ?T ?C ?cd ?U ?t ?nn ?cl ?_
  case F => k_asm
  case N => k_asm
  case T => k_asm
  case cd => exact rfl
  case C => kn_code
  case U => exact UpdF.tail (Nat.ne_of_gt (Nat.lt_succ_of_lt LT.1)) (UpdF.head h114)
  case t => kn_triples
  case nn => kn_among
  case cl => exact rfl
  intro f' c' oc' vs' t' ct' h' tk' F' N' d1' d2' l1 l2
  (try dsimp only at N')
  k_steps
  refine fdd_set (pre := [_, _, _, _, _]) (post := news) F' N' (X'.keeps F'.keep) (es := es) (n := n) ⟨News.get N' (by repeat (first | exact List.mem_cons_self .. | apply List.mem_cons_of_mem)), rfl, rfl, News.get N' (by repeat (first | exact List.mem_cons_self .. | apply List.mem_cons_of_mem))⟩ ?p1 hnd ?_
  case p1 =>
    have a1 : dx < c' := l1 (dx, dictOf [] 0) (by repeat (first | exact List.mem_cons_self .. | apply List.mem_cons_of_mem))
    intro p hp
    simp only [List.mem_cons, List.not_mem_nil, or_false] at hp
    rcases hp with rfl | rfl | rfl | rfl | rfl
    · exact Nat.ne_of_gt (Nat.lt_trans a1 l2)
    · exact Nat.ne_of_gt a1
    · exact Nat.ne_of_gt (Nat.lt_succ_of_lt LT.2.2.1)
    · exact Ne.symm (h114 (dx, dictOf [] 0) (by simp))
    · exact hbd
  intro h' tk' t1 F' N'
  k_steps
  all_goals (try w_report)
  refine hret f' c' (L' + 1) oc' _ vs' t' ct' t1 _ _ (by k_asm) (by k_asm) d1' d2' (by assumption) ?_ ?_ l2
  · intro p hp
    have a1 : p.1 < L' := by
      rcases List.mem_cons.mp hp with rfl | hp
      · exact LT.1
      · rcases List.mem_cons.mp hp with rfl | hp
        · exact LT.2.1
        · rcases List.mem_cons.mp hp with rfl | hp
          · exact LT.2.2.1
          · exact allLt_mem LT.2.2.2 p hp
    have a2 : p.1 < c' := l1 p (List.mem_cons_of_mem _ hp)
    exact ⟨Nat.lt_succ_of_lt a1, a2, Nat.lt_trans a2 l2⟩
  · exact l1 (L' + 1, _) (List.mem_cons_self ..)
theorem freeze_again (w : World) (c0 b dx : Addr) (es : Array DictEntry) (n : Nat)
    {mean : ExcName → Option Value} {mg mb : Str → Option Value} {dp un : Nat} {gd : Option (List Code)} {cn : Str} {cs : Scope} {a : Addr} {ccd : Value} {cl : List (Str × Addr)} {outer : List Env} {A₀ : Around} {base h₀ : Heap} {L : Addr} {m : Str → Option Value} {s : Shared} {R : Result → Shared → Prop} {news : List (Addr × Obj)}
    (B : Below A₀ base outer h₀) (F : Fr h₀ L s.heap m) (N : News h₀ L s.heap ((114, tabObj #[rawInt 54, rawInt 23, .ref c0]) :: (b, fddObj dx es n) :: (dx, dictOf [] 0) :: news)) (X : (K w.params).In h₀) (T : Top topProg TLo mean mg mb h₀) (hk : cs.kind = .function) (hd : dp ≤ 450) (hu : un ≤ 900) (h114 : ∀ p ∈ (b, fddObj dx es n) :: (dx, dictOf [] 0) :: news, p.1 ≠ 114) (hbd : b ≠ dx) (hnd : ∀ p ∈ news, p.1 ≠ dx)
    (hret : ∀ f ca oo ctv t1 h' tk', Fr h₀ L h' m → News h₀ L h' ((f, lamObj ((mg "__name__").getD .none) ca c0 ctv) :: (ca, oo) :: (114, tabObj #[rawInt 54, rawInt 23, .ref c0]) :: (b, fddObj dx es n) :: (dx, dictOf [⟨PyData.keyHash w.params (Str.ofString "_frozen"), .str (Str.ofString "_frozen") t1, .ref f⟩] 1) :: news) →
      oo.data = .cell (some (.ref b)) → (∀ p ∈ (114, tabObj #[rawInt 54, rawInt 23, .ref c0]) :: (b, fddObj dx es n) :: (dx, dictOf [] 0) :: news, p.1 < ca ∧ p.1 < f) → ca < f →
      R (.ok (.ret .none)) { s with heap := h', toks := tk' }) :
    codeAny (model PySem.Challenge.rw_in0001_01.row.prog w) (ktrTop dp un gd cn cs L a ccd cl outer) (.call (.ref 119) ⟨[.ref b], []⟩) R s := by
  k_with_none
  have hT9 : CodeHd h₀ 118 114 := codeHd_of_K X (hd_118 _)
  revert B F N X T
  k_fill
  intro B F N X T
  k_dflt (refine' code_defC ?k1 ?k2 ?k3 ?k4 ?k5 ?kA ?kF ?kK ?k6 ?k7 ?k8 ?k9 ?kB ?kC ?_ ?c2 ?c3 ?c4; (case kA => exact rfl); (case kF => exact rfl); (case kK => assumption); (case k1 => k_asm); (case k2 => k_asm); (case k3 => k_asm); (case k4 => k_asm); (case k5 => k_asm); (case k6 => k_is); (case k7 => k_is); (case k8 => exact Nat.lt_of_le_of_lt hd (by decide)); (case k9 => exact BindsTo.of_eq rfl); (case kB => exact rfl); (case kC => decide +kernel); (case c2 => exact rfl); (case c3 => exact rfl); (case c4 => exact rfl); k_whole; intro g' L' h' tk' cells' FG' F' N' Y' B' X' T' l1; (try k_lt l1); k_cells Y'; (try simp only [List.cons_append, List.nil_append] at N'); (try dsimp only); (try k_lift B'); (try k_fold))
  have LT : 114 < L' ∧ b < L' ∧ dx < L' ∧ AllLt L' news := by assumption
  have hT8 : CodeHd g' 118 114 := codeHd_of_K X' (hd_118 _)
  k_steps
  rename_i f' ct' h' tk' F' N' lq
  have l1 : ∀ q ∈ (L' + 1, (⟨.none, none, .plain, #[]⟩ : Obj)) :: (114, tabObj #[rawInt 54, rawInt 23, .ref c0]) :: (b, fddObj dx es n) :: (dx, dictOf [] 0) :: news, q.1 < f' := allLt_mem (l := (L' + 1, (⟨.none, none, .plain, #[]⟩ : Obj)) :: (114, tabObj #[rawInt 54, rawInt 23, .ref c0]) :: (b, fddObj dx es n) :: (dx, dictOf [] 0) :: news) lq
  refine fdd_set (pre := [_, _, _, _]) (post := news) F' N' (X'.keeps F'.keep) (es := es) (n := n) ⟨News.get N' (by repeat (first | exact List.mem_cons_self .. | apply List.mem_cons_of_mem)), rfl, rfl, News.get N' (by repeat (first | exact List.mem_cons_self .. | apply List.mem_cons_of_mem))⟩ ?p1 hnd ?_
  case p1 =>
    have a1 : dx < f' := l1 (dx, dictOf [] 0) (by repeat (first | exact List.mem_cons_self .. | apply List.mem_cons_of_mem))
    intro p hp
    simp only [List.mem_cons, List.not_mem_nil, or_false] at hp
    rcases hp with rfl | rfl | rfl | rfl
    · exact Nat.ne_of_gt a1
    · exact Nat.ne_of_gt (Nat.lt_succ_of_lt LT.2.2.1)
    · exact Ne.symm (h114 (dx, dictOf [] 0) (by simp))
    · exact hbd
  intro h' tk' t1 F' N'
  k_steps
  all_goals (try w_report)
  refine hret f' (L' + 1) _ ct' t1 _ _ (by k_asm) (by k_asm) (by assumption) ?_ ?_
  · intro p hp
    have a1 : p.1 < L' := by
      rcases List.mem_cons.mp hp with rfl | hp
      · exact LT.1
      · rcases List.mem_cons.mp hp with rfl | hp
        · exact LT.2.1
        · rcases List.mem_cons.mp hp with rfl | hp
          · exact LT.2.2.1
          · exact allLt_mem LT.2.2.2 p hp
    have a2 : p.1 < f' := l1 p (List.mem_cons_of_mem _ hp)
    exact ⟨Nat.lt_succ_of_lt a1, a2⟩
  · exact l1 (L' + 1, _) (List.mem_cons_self ..)
end Mine
end
section
open PySem PySem.W PyProof.Rows PySem.Calls
set_option Elab.async false
set_option maxRecDepth 100000
set_option maxHeartbeats 8000000
set_option linter.unusedVariables false
namespace Mine
set_option maxHeartbeats 4000000
theorem f_ga (P : Params) : findIn (K P) (.ref 122) (Str.ofString "__getattribute__") = some (some (.builtin "collections.defaultdict.__getattribute__")) := by kernel_rfl
theorem f_gattr (P : Params) : findIn (K P) (.ref 122) (Str.ofString "__getattr__") = some none := by kernel_rfl
theorem f_df (P : Params) : findIn (K P) (.ref 122) (Str.ofString "default_factory") = some (some (.builtin "collections.defaultdict.default_factory")) := by kernel_rfl
section
local macro_rules | `(tactic| x_close) => `(tactic| (refine xend_of (by first | assumption | exact X.Mem.start _) ?_; (show _ = _); kernel_rfl))
theorem hooked_df {w : World} {s : Shared} {b dx : Addr} {es : Array DictEntry} {n : Nat} {tk : Tok} {de : Array DictEntry} {dn : Nat} (X : (K w.params).In s.heap) (hb : s.heap.get? b = some (fddObj dx es n)) (hd : s.heap.get? dx = some { cls := .type "dict", data := .dict de dn }) :
    wpAny (model PySem.Challenge.rw_in0001_01.row.prog w) AX (call (.builtin "collections.defaultdict.__getattribute__") [.ref b, .str (Str.ofString "default_factory") tk]) (XEnd s (fun v h => v = .ref 258)) (fun _ _ => False) s := by
  k_fill
  obtain ⟨h₀, g, d, t, os⟩ := s
  dsimp only [fddObj] at X hb hd
  x_run
end
theorem bind_ga (v : Value) : bindSpecial (.builtin "collections.defaultdict.__getattribute__") v = pure (.builtin "collections.defaultdict.__getattribute__", [v]) := by kernel_rfl
theorem ty_df : typeOf (.builtin "collections.defaultdict.default_factory") = pure (.type "member_descriptor") := by kernel_rfl
theorem gm_df {w : World} {A : Around} {E : Value → Shared → Prop} {s : Shared} {b dx : Addr} {es : Array DictEntry} {n : Nat} {de : Array DictEntry} {dn : Nat} {pl : Sem Bool} {Q : Value × List Value → Shared → Prop} (X : (K w.params).In s.heap) (hb : s.heap.get? b = some (fddObj dx es n)) (hd : s.heap.get? dx = some { cls := .type "dict", data := .dict de dn })
    (hh : A.handled = none) (hdp : A.depth ≤ 800) (hu : A.units ≤ 3000) (hQ : ∀ h' tk, (∀ b o, s.heap.get? b = some o → h'.get? b = some o) → Q (.ref 258, []) { s with heap := h', toks := tk }) :
    wpAny (model PySem.Challenge.rw_in0001_01.row.prog w) A (getMethod (.ref b) (Str.ofString "default_factory") pl) Q E s := by
  obtain ⟨h₀, g, d, t, os⟩ := s
  dsimp only at hb hd hQ
  have l1 := looks_findIn (M := (model PySem.Challenge.rw_in0001_01.row.prog w)) X (f_ga w.params)
  have l2 := looks_findIn (M := (model PySem.Challenge.rw_in0001_01.row.prog w)) X (f_gattr w.params)
  have l3 := looks_findIn (M := (model PySem.Challenge.rw_in0001_01.row.prog w)) X (f_df w.params)
  have It : Looks (model PySem.Challenge.rw_in0001_01.row.prog w) h₀ (typeOf (.ref b)) (.ref 122) := (Looks.ld hb).andThen .now
  unfold getMethod specialOf
  refine wpAny_bind (Looks.at (It.andThen l1) ?_)
  dsimp only
  rw [if_neg (show ¬ ((Manifest.canonical "collections.defaultdict.__getattribute__" != "object.__getattribute__") = true) by decide +kernel)]
  refine wpAny_bind (Looks.at (It.andThen l2) ?_)
  dsimp only [Option.isSome]
  rw [if_neg Bool.false_ne_true]
  refine wpAny_bind (Looks.at (It.andThen l3) ?_)
  dsimp only
  refine wpAny_bind (wpAny_of_eq ty_df ?_)
  rw [if_pos (by decide)]
  refine wpAny_bind ?_
  unfold getAttr getAttrBy
  refine wpAny_bind (wpAny_mkText (wpAny_holding (wpAny_bind (Looks.at It (wpAny_bind (Looks.at l1 ?_))))))
  dsimp only
  rw [if_neg (show ¬ ((onTheHeap (.ref 122) && Value.builtin "collections.defaultdict.__getattribute__" == Value.builtin "object.__getattribute__") = true) by decide)]
  unfold getAttrByItsOwn hookBefore callGetattribute boundAndCalled
  rw [if_pos (show onTheHeap (.ref 122) = true from rfl)]
  refine wpAny_bind (Looks.at l2 ?_)
  refine wpAny_bind (wpAny_attempt (wpAny_holding ?_))
  rw [if_neg (show ¬ ((false && onTheHeap (.builtin "collections.defaultdict.__getattribute__")) = true) by decide)]
  refine wpAny_bind (wpAny_of_eq (bind_ga _) ?_)
  refine ax_weak hh hdp hu (wpAny_mono (hooked_df (s := ⟨h₀, g, d, t + 1, os⟩) X hb hd) (fun v s' hv => ?_) fun _ _ f => f.elim)
  obtain ⟨h', tk, rfl, hk, rfl⟩ := hv
  exact wpAny_pure (wpAny_pure (hQ h' tk hk))
end Mine
end
section
open PySem PySem.W PyProof.Rows PySem.Calls
set_option Elab.async false
set_option maxRecDepth 100000
set_option maxHeartbeats 8000000
set_option linter.unusedVariables false
namespace Mine
abbrev frozenD (P : Params) (t1 : Tok) (f : Addr) : Obj := dictOf [⟨PyData.keyHash P (Str.ofString "_frozen"), .str (Str.ofString "_frozen") t1, .ref f⟩] 1
section
local macro_rules | `(tactic| x_close) => `(tactic| (refine xend_of (by first | assumption | exact X.Mem.start _) ?_; (show _ = _); kernel_rfl))
theorem ga_frozen2 {w : World} {s : Shared} {bm b dx f : Addr} {es : Array DictEntry} {n : Nat} {tk t1 : Tok} (X : (K w.params).In s.heap) (hb : s.heap.get? b = some (fddObj dx es n)) (hd : s.heap.get? dx = some (frozenD w.params t1 f)) (hm : s.heap.get? bm = some (bmObj b)) :
    wpAny (model PySem.Challenge.rw_in0001_01.row.prog w) AX (call (.builtin "getattr") [.ref b, .str (Str.ofString "_frozen") tk, .ref bm]) (XEnd s (fun v h => v = .ref f)) (fun _ _ => False) s := by
  k_fill
  obtain ⟨h₀, g, d, t, os⟩ := s
  dsimp only [fddObj, bmObj, frozenD, dictOf] at X hb hd hm
  x_run
theorem miss_frozen (w : World) (b dx f c ca : Addr) (oc oo : Obj) (vs : Array Value) (tq : Tok) (ctv : Value) (t1 : Tok) (es : Array DictEntry) (n : Nat) (key : Value) 
    {mean : ExcName → Option Value} {mg mb : Str → Option Value} {dp un : Nat} {gd : Option (List Code)} {cn : Str} {cs : Scope} {a : Addr} {ccd : Value} {cl : List (Str × Addr)} {outer : List Env} {A₀ : Around} {base h₀ : Heap} {L : Addr} {m : Str → Option Value} {s : Shared} {R : Result → Shared → Prop} {news : List (Addr × Obj)}
    (B : Below A₀ base outer h₀) (F : Fr h₀ L s.heap m) (N : News h₀ L s.heap ((b, fddObj dx es n) :: (dx, frozenD w.params t1 f) :: (f, lamObj ((mg "__name__").getD .none) ca c ctv) :: (c, oc) :: (ca, oo) :: news)) (X : (K w.params).In h₀) (T : Top topProg TLo mean mg mb h₀) (hk : cs.kind = .function) (hd : dp ≤ 450) (hu : un ≤ 900)
    (hoc : oc.data = .fields vs) (hvs : vs[1]? = some (.str ((S "FreezableDefaultDict.freeze" ++ ".<locals>.") ++ "<lambda>") tq)) (hoo : oo.data = .cell (some (.ref b)))
    (hret : ∀ l h' tk', Fr h₀ L h' m → News h₀ L h' ((l, { cls := .type "list", data := .seq #[] }) :: (b, fddObj dx es n) :: (dx, frozenD w.params t1 f) :: (f, lamObj ((mg "__name__").getD .none) ca c ctv) :: (c, oc) :: (ca, oo) :: news) → (∀ p ∈ (b, fddObj dx es n) :: (dx, frozenD w.params t1 f) :: (f, lamObj ((mg "__name__").getD .none) ca c ctv) :: (c, oc) :: (ca, oo) :: news, p.1 ≠ l) → R (.ok (.ret (.ref l))) { s with heap := h', toks := tk' }) :
    codeAny (model PySem.Challenge.rw_in0001_01.row.prog w) (ktrTop dp un gd cn cs L a ccd cl outer) (.call (.ref 112) ⟨[.ref b, key], []⟩) R s := by
  k_with_none
  k_with "call ref" => (k_here; (refine Tells.at (box_tells w) (by k_asm) (by k_asm) (by k_asm) (by k_asm) (by k_asm) rfl rfl (by (try dsimp only [ktrTop, Around.deeper]); omega) (by (try dsimp only [ktrTop, Around.deeper]); omega) ?zqpre ?_); (case zqpre => exact trivial); intro r9 tl9 h9 tk9 F9 N9 K9 fr9 P9; (obtain ⟨l9, er9, et9⟩ := P9); subst er9 et9; (try dsimp only [List.cons_append, List.nil_append] at N9); (try dsimp only))
  revert B F N X T
  k_fill
  intro B F N X T
  k_dflt (refine' ks_code_super ?k1 ?k2 ?k3 ?k4 ?k5 ?kA ?kF ?kK ?k6 ?k7 ?k8 ?k9 ?kB ?_ ?c1 ?c2 ?c3 ?c4; (case kA => exact rfl); (case kF => exact rfl); (case kK => assumption); (case k1 => k_asm); (case k2 => k_asm); (case k3 => k_asm); (case k4 => k_asm); (case k5 => k_asm); (case k6 => k_is); (case k7 => k_is); (case k8 => exact Nat.lt_of_le_of_lt hd (by decide)); (case k9 => exact BindsTo.of_eq rfl); (case kB => exact locs rfl); (case c1 => decide); (case c2 => exact rfl); (case c3 => exact rfl); (case c4 => exact rfl); intro g' L' h' FG' F' N' B' X' T' l1; (try k_lt l1); (try dsimp only); (try k_lift B'))
  refine at_miss (gid := "getattr") ?_
  k_steps
  k_here
  refine ks_node (by k_asm) (by k_asm) (by k_asm) (by k_asm) (by k_is) (by rfl) (by rfl) (show InstAt _ b (fddObj dx es n) 122 (some (frozenD w.params t1 f)) from ⟨(News.get (by k_asm) (List.mem_cons_self ..)), rfl, rfl, (News.get (by k_asm) (List.mem_cons_of_mem _ (List.mem_cons_self ..)))⟩) (by k_is) (by rfl) (by first | rfl | decide +kernel) (by k_is) (by k_is) (by k_is) (by k_is) (by decide) (by rfl) (by rfl) (by rfl) (by rfl) (by decide +kernel) (by first | boot_by_name | rfl | kernel_rfl) ?_
  intro so' h' F' N' l1
  refine ga_missing (by k_asm) (by k_asm) (by k_asm) rfl (Nat.le_trans (Nat.succ_le_succ hd) (by decide)) (Nat.le_trans (Nat.add_le_add_right hu 3) (by decide)) ?_
  intro bm h9 tk9 F9 N9
  refine leafK F9 N9 (ga_frozen2 (X'.keeps F9.keep) (N9.get (List.mem_cons_of_mem _ (List.mem_cons_of_mem _ (List.mem_cons_self ..)))) (N9.get (List.mem_cons_of_mem _ (List.mem_cons_of_mem _ (List.mem_cons_of_mem _ (List.mem_cons_self ..))))) (N9.get (List.mem_cons_self ..))) rfl (Nat.le_trans (Nat.succ_le_succ hd) (by decide)) (Nat.le_trans (Nat.add_le_add_right hu 3) (by decide)) ?_
  intro v8 h8 tk8 F8 N8 hv8
  subst hv8
  have hT8 : CodeHd g' 118 114 := codeHd_of_K X' (hd_118 _)
  k_steps
  refine wpAny_call ?_
  refine' kla_code ?k1 ?k2 ?k3 ?k4 ?k5 ?kA ?kF ?kK ?k6 ?k7 ?k8 ?k9 ?kB ?_ ?c2 ?c3 ?c4 ?c5
  case kA => exact rfl
  case kF => exact rfl
  case kK => exact rfl
  case k1 => k_asm
  case k2 => k_asm
  case k3 => k_asm
  case k4 => k_asm
  case k5 => k_asm
  case k6 => (repeat (first | exact List.mem_cons_self .. | apply List.mem_cons_of_mem))
  case k7 => exact codeRec_news (by k_asm) (by repeat (first | exact List.mem_cons_self .. | apply List.mem_cons_of_mem)) hoc hvs
  case k8 => exact Nat.lt_of_le_of_lt (Nat.succ_le_succ hd) (by decide)
  case k9 => exact rfl
  case c5 => decide
  case kB => exact locs rfl
  case c2 => exact rfl
  case c3 => exact rfl
  case c4 => exact rfl
  intro g2 L2 h2 FG2 F2 N2 B2 X2 T2
  dsimp only [lamP, lamS] at F2 ⊢
  (try dsimp only)
  (try k_lift B2)
  k_steps
  refine gm_df (X2.keeps (Fr.keep (by k_asm))) (News.get (by k_asm) (by repeat (first | exact List.mem_cons_self .. | apply List.mem_cons_of_mem))) (News.get (by k_asm) (by repeat (first | exact List.mem_cons_self .. | apply List.mem_cons_of_mem))) rfl (show dp + 1 + 1 ≤ 800 by omega) (show un + 3 + 3 ≤ 3000 by omega) (fun h7 tk7 k7 => ?_)
  have F7 := Fr.keeps F2 k7
  have N7 := News.grown N2 k7
  k_steps
  have fz : h7.get? l9 = none := fr9 _ (List.mem_cons_self ..)
  refine hret l9 _ _ (by k_asm) (fun p hp => ?_) (fun p hp q => by
    have e1 := (N7 p (List.mem_cons_of_mem _ (List.mem_cons_of_mem _ hp))).1
    rw [q] at e1
    exact Option.some_ne_none _ (e1.symm.trans fz))
  have NN : News h₀ L h9 ((l9, { cls := .type "list", data := .seq #[] }) :: (bm, bmObj b) :: (so', ks_superObj 122 b 122) :: (b, fddObj dx es n) :: (dx, frozenD w.params t1 f) :: (f, lamObj ((mg "__name__").getD .none) ca c ctv) :: (c, oc) :: (ca, oo) :: news) := by k_asm
  rcases List.mem_cons.mp hp with rfl | hp
  · exact NN _ (List.mem_cons_self ..)
  · exact NN _ (List.mem_cons_of_mem _ (List.mem_cons_of_mem _ (List.mem_cons_of_mem _ hp)))
end
end Mine
end
section
open PySem PySem.W PyProof.Rows PySem.Calls
set_option Elab.async false
set_option maxRecDepth 100000
set_option maxHeartbeats 8000000
set_option linter.unusedVariables false
namespace Mine
set_option maxHeartbeats 300000
theorem mem_lt {h₀ h : Heap} {chg news : List (Addr × Obj)} (D : X.Mem h₀ h chg news) (a b : Addr) (o1 o2 : Obj) (h0 : news[0]? = some (b, o1)) (h1 : news[1]? = some (a, o2)) : a < b := by
  have e := D.ord
  match news, h0, h1 with
  | p :: q :: r, h0, h1 =>
    have e0 : p = (b, o1) := Option.some.inj h0
    have e1 : q = (a, o2) := Option.some.inj h1
    subst e0 e1
    exact List.rel_of_pairwise_cons e (List.mem_cons_self ..)
section
local macro_rules | `(tactic| x_close) => `(tactic| (refine xend_of (by first | assumption | exact X.Mem.start _) ?_; exact ⟨_, _, rfl, X.Mem.at (by assumption) 0 _ _ rfl, X.Mem.at (by assumption) 1 _ _ rfl, mem_new (by assumption) 0 _ _ rfl, mem_new (by assumption) 1 _ _ rfl, mem_lt (by assumption) _ _ _ _ rfl rfl⟩))
theorem mk_fdd {w : World} {s : Shared} (X : (K w.params).In s.heap) :
    wpAny (model PySem.Challenge.rw_in0001_01.row.prog w) AX (call (.ref 122) [.ref 258]) (XEnd s (fun v h => ∃ b dx, v = .ref b ∧ h.get? b = some (fddObj dx #[] 0) ∧ h.get? dx = some (dictOf [] 0) ∧ s.heap.get? b = none ∧ s.heap.get? dx = none ∧ dx < b)) (fun _ _ => False) s := by
  k_fill
  obtain ⟨h₀, g, d, t, os⟩ := s
  dsimp only at X
  x_run
end
theorem tga_split : splitId "tuple.__getattribute__" = some ("tuple", "__getattribute__") := by decide +kernel
theorem tga_kind : builtinKind "tuple.__getattribute__" = some .slot := by
  simp only [builtinKind, tga_split]
  decide +kernel
theorem tga_plain : plainId "tuple.__getattribute__" = true := by decide +kernel
theorem tga_entry : entryFor table "tuple.__getattribute__" = some Builtin.«object.__getattribute__» :=
  entryFor_alias (id' := "object.__getattribute__") (by kernel_rfl) (by first | rfl | decide +kernel | (unfold String.splitOn; simp +decide [String.splitOnAux])) (by decide +kernel) (by kernel_rfl)
theorem tga_args (a b : Value) : argsOk "tuple.__getattribute__" ⟨[a, b], []⟩ := by unfold argsOk; kernel_rfl
theorem tga_bind (v : Value) : bindSpecial (.builtin "tuple.__getattribute__") v = pure (.builtin "tuple.__getattribute__", [v]) := by kernel_rfl
theorem p_ga (P : Params) : findIn (K P) (.ref 217) (Str.ofString "__getattribute__") = some (some (.builtin "tuple.__getattribute__")) := by kernel_rfl
theorem p_gattr (P : Params) : findIn (K P) (.ref 217) (Str.ofString "__getattr__") = some none := by kernel_rfl
theorem p_name (P : Params) : findObj (K P) 217 (some (dictOf [] 0)) (Str.ofString "name") = some (.bind (.ref 75) (.ref 186)) := by kernel_rfl
theorem p_value (P : Params) : findObj (K P) 217 (some (dictOf [] 0)) (Str.ofString "value") = some (.bind (.ref 75) (.ref 189)) := by kernel_rfl
theorem ga_pair {w : World} {A : Around} {E : Value → Shared → Prop} {s : Shared} {p dx d : Addr} {nm vl name : Str} {t1 t2 : Tok} {n : Nat} {ex : Bool} {Q : Value → Shared → Prop} (X : (K w.params).In s.heap) (hp : s.heap.get? p = some (pairObj dx nm vl t1 t2 n)) (hd : s.heap.get? dx = some (dictOf [] 0))
    (hf : findObj (K w.params) 217 (some (dictOf [] 0)) name = some (.bind (.ref 75) (.ref d)))
    (h : ∀ tk, wpAny (model PySem.Challenge.rw_in0001_01.row.prog w) A.in1 (call (.ref 75) [.ref d, .ref p, .ref 217]) (fun v s' => (∃ x t, v = .str x t) ∧ Q v s') (fun _ _ => False) { s with toks := tk }) :
    wpAny (model PySem.Challenge.rw_in0001_01.row.prog w) A (getAttr (.ref p) name ex) Q E s := by
  obtain ⟨h₀, g, dr, t, os⟩ := s
  dsimp only at X hp hd h
  have I : InstAt h₀ p (pairObj dx nm vl t1 t2 n) 217 (some (dictOf [] 0)) := ⟨hp, rfl, rfl, hd⟩
  have It := I.type (M := (model PySem.Challenge.rw_in0001_01.row.prog w))
  have l1 := looks_findIn (M := (model PySem.Challenge.rw_in0001_01.row.prog w)) X (p_ga w.params)
  have l2 := looks_findIn (M := (model PySem.Challenge.rw_in0001_01.row.prog w)) X (p_gattr w.params)
  have l3 := looks_find (M := (model PySem.Challenge.rw_in0001_01.row.prog w)) X I hf
  have hi : Looks (model PySem.Challenge.rw_in0001_01.row.prog w) h₀ (isInstance (.ref p) (.type "tuple")) true := inst_sub (P := w.params) (C := 217) (T := "tuple") X hp rfl (sub_pair w.params)
  unfold getAttr getAttrBy
  refine wpAny_bind (wpAny_mkText (wpAny_holding (wpAny_bind (Looks.at It (wpAny_bind (Looks.at l1 ?_))))))
  dsimp only
  rw [if_neg (show ¬ ((onTheHeap (.ref 217) && Value.builtin "tuple.__getattribute__" == Value.builtin "object.__getattribute__") = true) by decide)]
  unfold getAttrByItsOwn hookBefore callGetattribute boundAndCalled
  rw [if_pos (show onTheHeap (.ref 217) = true from rfl)]
  refine wpAny_bind (Looks.at l2 ?_)
  refine wpAny_bind (wpAny_attempt (wpAny_holding ?_))
  rw [if_neg (show ¬ ((ex && onTheHeap (.builtin "tuple.__getattribute__")) = true) by simp [onTheHeap])]
  refine wpAny_bind (wpAny_of_eq (tga_bind _) ?_)
  refine wpAny_call ?_
  refine codeAny_call_builtin (id := "tuple.__getattribute__") (b := Builtin.«object.__getattribute__») ?h1 ?h2 ?h3
  case h1 => exact tga_plain
  case h2 => exact tga_entry
  case h3 =>
  refine check_slot (i := "tuple.__getattribute__") (owner := "tuple") (n := "__getattribute__") ?a ?b ?c ?d ?e
  case a => exact tga_kind
  case b => exact tga_split
  case c => exact hi
  case d => exact tga_args _ _
  case e =>
  show wpAny _ A.in1 (Builtin.«object.__getattribute__» ⟨[.ref p, .str name t], []⟩) _ _ _
  unfold Builtin.«object.__getattribute__»
  refine wpAny_bind (wpAny_of_eq (a := (.ref p, [.str name t])) rfl ?_)
  dsimp only
  refine wpAny_bind (wpAny_of_eq (a := name) rfl ?_)
  refine wpAny_bind (Looks.at It ?_)
  refine wpAny_bind (Looks.at l3 ?_)
  dsimp only
  show wpAny _ _ (holding [.ref d] (call (.ref 75) [.ref d, .ref p, .ref 217]) >>= fun v => ret v) _ _ _
  refine wpAny_bind (wpAny_holding (wpAny_mono (h (t + 1)) (fun v s' hv => ?_) fun _ _ f => f.elim))
  obtain ⟨⟨x, tx, rfl⟩, hq⟩ := hv
  exact wpAny_pure (wpAny_pure hq)
theorem ga_name {w : World} {p dx : Addr} {nm vl : Str} {t1 t2 : Tok} {n : Nat} {ex : Bool}
    {mean : ExcName → Option Value} {mg mb : Str → Option Value} {dp un : Nat} {gd : Option (List Code)} {cn : Str} {cs : Scope} {a : Addr} {ccd : Value} {cl : List (Str × Addr)} {outer : List Env} {A₀ A : Around} {base h₀ : Heap} {L : Addr} {m : Str → Option Value} {s : Shared} {Q E : Value → Shared → Prop} {news : List (Addr × Obj)}
    (B : Below A₀ base outer h₀) (F : Fr h₀ L s.heap m) (N : News h₀ L s.heap news) (X : (K w.params).In h₀) (T : Top topProg TLo mean mg mb h₀) (eA : A = ktrTop dp un gd cn cs L a ccd cl outer) (hk : cs.kind = .function) (hd : dp ≤ 450) (hu : un ≤ 900)
    (hp : s.heap.get? p = some (pairObj dx nm vl t1 t2 n)) (hdx : s.heap.get? dx = some (dictOf [] 0))
    (hQ : ∀ h' tk', Fr h₀ L h' m → News h₀ L h' news → (∀ b o, s.heap.get? b = some o → h'.get? b = some o) → Q (.str nm t1) { s with heap := h', toks := tk' }) :
    wpAny (model PySem.Challenge.rw_in0001_01.row.prog w) A (getAttr (.ref p) (Str.ofString "name") ex) Q E s := by
  subst eA
  refine ga_pair (X.keeps F.keep) hp hdx (p_name _) (fun tk => ?_)
  refine Tells.at (s := { s with toks := tk }) (get_tells0 w p dx nm vl t1 t2 n) B F N X T (eA := (rfl : _ = ktrTop dp (un + 1) gd cn cs L a ccd cl outer)) hk (by omega) (by omega) hp (fun r tl h' tk' F' N' K' fr P => ?_)
  obtain ⟨rfl, rfl⟩ := P
  exact ⟨⟨_, _, rfl⟩, hQ h' tk' F' N' K'⟩
theorem ga_value {w : World} {p dx : Addr} {nm vl : Str} {t1 t2 : Tok} {n : Nat} {ex : Bool}
    {mean : ExcName → Option Value} {mg mb : Str → Option Value} {dp un : Nat} {gd : Option (List Code)} {cn : Str} {cs : Scope} {a : Addr} {ccd : Value} {cl : List (Str × Addr)} {outer : List Env} {A₀ A : Around} {base h₀ : Heap} {L : Addr} {m : Str → Option Value} {s : Shared} {Q E : Value → Shared → Prop} {news : List (Addr × Obj)}
    (B : Below A₀ base outer h₀) (F : Fr h₀ L s.heap m) (N : News h₀ L s.heap news) (X : (K w.params).In h₀) (T : Top topProg TLo mean mg mb h₀) (eA : A = ktrTop dp un gd cn cs L a ccd cl outer) (hk : cs.kind = .function) (hd : dp ≤ 450) (hu : un ≤ 900)
    (hp : s.heap.get? p = some (pairObj dx nm vl t1 t2 n)) (hdx : s.heap.get? dx = some (dictOf [] 0))
    (hQ : ∀ h' tk', Fr h₀ L h' m → News h₀ L h' news → (∀ b o, s.heap.get? b = some o → h'.get? b = some o) → Q (.str vl t2) { s with heap := h', toks := tk' }) :
    wpAny (model PySem.Challenge.rw_in0001_01.row.prog w) A (getAttr (.ref p) (Str.ofString "value") ex) Q E s := by
  subst eA
  refine ga_pair (X.keeps F.keep) hp hdx (p_value _) (fun tk => ?_)
  refine Tells.at (s := { s with toks := tk }) (get_tells1 w p dx nm vl t1 t2 n) B F N X T (eA := (rfl : _ = ktrTop dp (un + 1) gd cn cs L a ccd cl outer)) hk (by omega) (by omega) hp (fun r tl h' tk' F' N' K' fr P => ?_)
  obtain ⟨rfl, rfl⟩ := P
  exact ⟨⟨_, _, rfl⟩, hQ h' tk' F' N' K'⟩
end Mine
end
section
open PySem PySem.W PyProof.Rows PySem.Calls
set_option Elab.async false
set_option maxRecDepth 100000
set_option maxHeartbeats 8000000
set_option linter.unusedVariables false
namespace Mine
section
variable {prog : Program} {w : World} {A₀ A : Around} {s : Shared} {base h₀ : Heap} {outer : List Env} {L : Addr} {m mg mb : Str → Option Value} {env : Env} {news : List (Addr × Obj)} {K : Frag} {p : Program} {loose : List Str} {mean : ExcName → Option Value}
  {R : Result → Shared → Prop} {name qual : Str} {params : Arguments} {body : List Stmt} {scope : Scope} {dV kV doc pm cdv ct oc : Value} {an od : Option Addr} {osl : Array (Option Value)} {f : Addr} {args : Args} {binds : List (Str × Value)}
/-- a call of a function with cell variables: the new ground also keeps all that the ledger does not name -/
theorem code_cellsG (B : Below A₀ base outer h₀) (F : Fr h₀ L s.heap m) (X₀ : K.In h₀) (N : News h₀ L s.heap news) (T : Top p loose mean mg mb h₀) (hA : A.frames = some (env :: outer)) (hf : env.frame = some L) (hke : env.scope.kind = .function)
    (ho : K.lookup f = some ⟨oc, od, .func (fnOf name qual params body scope dV kV doc pm an cdv ct), osl⟩) (hcd : codeIn K cdv qual = true) (hroom : A.depth < recursionLimit)
    (hbind : BindsTo s (fnOf name qual params body scope dV kV doc pm an cdv ct) args binds) (hkind : (binds.all fun y => scope.names.lookup y.1 == some .local || scope.names.lookup y.1 == some .cell) = true)
    (hnd : ((cellsFrom 0 scope.names []).map (·.1)).Nodup)
    (h : ∀ g L' h₁ tk cells, Fr h₀ L g m → Fr g L' h₁ (bindL (envOfC qual scope L' f cdv).kindOf binds fun _ => none) → News g L' h₁ (cells ++ news) →
      CellsAre (bindC (envOfC qual scope L' f cdv).kindOf binds fun _ => none) (cellsFrom (L' + 1) scope.names []) cells → Below A base (env :: outer) g → K.In g → Top p loose mean mg mb g → (∀ p ∈ news, p.1 < L') → GSub s.heap g (news.map (·.1)) →
      wpAny (model prog w) (A.deeper (envOfC qual scope L' f cdv)) (execs body (envOfC qual scope L' f cdv))
        (fun fl s' => LeaveK h₀ L m g R (match fl with | .ret v => v | _ => .none) s')
        (fun e s' => wpAny (model prog w) (A.deeper (envOfC qual scope L' f cdv)) (leaving (envOfC qual scope L' f cdv) e) (fun _ s'' => R (.error e) s'') (fun e' s'' => R (.error e') s'') s')
        { s with heap := h₁, toks := tk })
    (hco : scope.isCoroutine = false) (hgen : scope.isGenerator = false) (hk : scope.kind = .function) : codeAny (model prog w) A (.call (.ref f) args) R s := by
  have hlim := T.nolimit
  obtain ⟨FG, BG, st, lv⟩ := groundX (R := R) B F N hA hf hke
  refine codeAny_call_function (fd := fnX name qual params body scope [] dV kV doc pm an cdv ct) hroom ((X₀.keeps F.keep) _ _ ho) rfl hco hgen rfl (codeRec_of (X₀.keeps F.keep) hcd) (hbind _ _ _ _ ?_)
  refine wpAny_newFunctionEnv_cells hk (kindsX hkind _) fun env' he s' x => ?_
  subst he
  refine ⟨(hlim.keeps F.keep).keeps x.toInCall.keep, codeAny_func ?_⟩
  obtain ⟨h₁, tk, rfl, _⟩ := x.done
  have hk₁ := x.toInCall.keep
  obtain ⟨cells, NC, Y⟩ := Cl.news (h₀ := s.heap) (Nat.le_refl _) fun n c hm => ⟨x.cell n c (lookup_of_mem_nodup (cellsFrom_names scope.names 0 (s.heap.objs.size + 1) [] [] rfl ▸ hnd) hm), x.above n c hm⟩
  refine wpAny_mono (h _ s.heap.objs.size h₁ tk cells FG ⟨x.toInCall.ns, fun b o e => hk₁ b o (of_hideAll _ e), Nat.le_of_eq (hideAll_size _ _)⟩ (fun p hp => ?_) Y BG (X₀.keeps st) (T.keeps st) (fun p hp => Heap.lt_size (N p hp).1) (fun b o e n => hideAll_get _ e n)) (fun fl s' hl => lv _ _ hl) fun _ _ y => y
  rcases List.mem_append.mp hp with hp | hp
  · refine ⟨(NC p hp).1, (NC p hp).2.1, ?_⟩
    cases q : (hideAll s.heap (news.map (·.1))).get? p.1 with
    | none => rfl
    | some o => have := of_hideAll _ q; rw [(NC p hp).2.2] at this; cases this
  · exact ⟨hk₁ _ _ (N p hp).1, Nat.ne_of_lt (Heap.lt_size (N p hp).1), hideAll_none _ (List.mem_map_of_mem hp)⟩
end
theorem name_cellG {M : Model} {A : Around} {E : Value → Shared → Prop} {s : Shared} {h₀ : Heap} {L c : Addr} {o : Obj} {x : Str} {pos : Pos} {v : Value} {Q : Value → Shared → Prop} {news : List (Addr × Obj)} {env : Env} (N : News h₀ L s.heap news)
    (hk : env.scope.kind = .function) (hx : env.kindOf x = some .cell) (hc : env.cells.lookup x = some c) (hm : (c, o) ∈ news) (hd : o.data = .cell (some v)) (hb : (x == ("__debug__" : Str)) = false) (h : Q v s) : wpAny M A (eval (.Name x pos) env) Q E s :=
  wpAny_Name (wpAny_loadName_cell hk hx hc ⟨o, N.get hm, hd⟩ h) hb
end Mine
end
section
open PySem PySem.W PyProof.Rows PySem.Calls
set_option Elab.async false
set_option maxRecDepth 100000
set_option maxHeartbeats 8000000
set_option linter.unusedVariables false
namespace Mine
open PyProof.Rows.LCg
section
variable {prog : Program} {w : World} {A : Around} {E : Value → Shared → Prop} {s : Shared} {h₀ : Heap} {L : Addr} {m : Str → Option Value} {env : Env}
/-- the end of one element of a comprehension -/
def EltEnd (h₀ : Heap) (L : Addr) (m : Str → Option Value) (s₁ : Shared) (I : Addr) (oI : Obj) (C : Addr) (oC : Obj) (D : Addr) (ys : List Value) (Inv : List Value → List (Addr × Obj) → Prop) (y : Value) (s₂ : Shared) : Prop :=
  ∃ h' tk news', s₂ = { s₁ with heap := h', toks := tk } ∧ Fr h₀ L h' m ∧ News h₀ L h' ((I, oI) :: (C, oC) :: (D, lst ys) :: news') ∧ Off3 I C D news' ∧ Inv (ys ++ [y]) news'
theorem compRest_inv {elt : Expr} {x : Str} {scope : Scope} {cl : List (Str × Addr)} {s : Shared} {S : List (Addr × Obj) → Prop} {P : Nat → Value → Prop} {Fin : List Value → List (Addr × Obj) → Prop} (Inv : Nat → List Value → List (Addr × Obj) → Prop) (n : Nat)
    (hS : ∀ i ys news, Inv i ys news → S news)
    (step : ∀ i v I oI C oC D m₂ ys news sx (E' : Value → Shared → Prop), i < n → P i v → Inv i ys news → NsObj oC m₂ → m₂ x = some v → Fr h₀ L sx.heap m → News h₀ L sx.heap ((I, oI) :: (C, oC) :: (D, lst ys) :: news) → Off3 I C D news → ((@Ne Nat I C) ∧ (@Ne Nat I D) ∧ (@Ne Nat C D)) →
      wpAny (model prog w) A (eval elt (compEnvC scope cl C env)) (EltEnd h₀ L m sx I oI C oC D ys (Inv (i + 1))) E' sx)
    (fin : ∀ ys news, Inv n ys news → Fin ys news) :
    ∀ k i ys news, i + k = n → Inv i ys news → CompRest prog w A h₀ L m env elt x scope cl s S P Fin k i ys news
  | 0, i, ys, news, e, h => CompRest.zero (fin ys news (by rw [← e]; exact h))
  | k + 1, i, ys, news, e, h => CompRest.succ fun v I oI C oC D m₂ hh tk E' hP hN hm F N off ne =>
      wpAny_mono (step i v I oI C oC D m₂ ys news { s with heap := hh, toks := tk } E' (by omega) hP h hN hm F N off ne) (fun y s₂ hy => by
        obtain ⟨h', tk', news', rfl, F', N', off', I'⟩ := hy
        exact ⟨h', tk', news', rfl, F', N', off', hS _ _ _ I', compRest_inv Inv n hS step fin k (i + 1) _ _ (by omega) I'⟩) fun _ _ e => e
/-- the list that a comprehension walks -/
def SrcI (h₀ : Heap) (L : Addr) (m : Str → Option Value) (its : Array Value) (Inv : Addr → Nat → Nat → List Value → List (Addr × Obj) → Prop) (Q : Value → Shared → Prop) (xv : Value) (s₁ : Shared) : Prop :=
  ∃ ax k news, xv = .ref ax ∧ Fr h₀ L s₁.heap m ∧ News h₀ L s₁.heap news ∧ Inv ax k 0 [] news ∧ (∀ i ys news, Inv ax k i ys news → (ax, ({ cls := .type "list", data := .seq its k } : Obj)) ∈ news) ∧
    ∀ D h tk ys news', Fr h₀ L h m → News h₀ L h ((D, lst ys) :: news') → Off1 D news' → Inv ax k its.size ys news' → Q (.ref D) { s₁ with heap := h, toks := tk }
theorem ListComp_inv {elt iter : Expr} {x : Str} {px pos : Pos} {scope : Scope} {cl : List (Str × Addr)} {Q : Value → Shared → Prop} (its : Array Value) (Inv : Addr → Nat → Nat → List Value → List (Addr × Obj) → Prop) (F₀ : Fr h₀ L s.heap m) (hh : A.handled = none)
    (hclos : closureFor scope env = pure cl) (hcell : ∀ y ∈ scope.names, y.2 ≠ .cell) (hkind : scope.kind = .function)
    (hnames : ∀ y ∈ scope.names, y.2 = .local → scope.names.lookup y.1 = some .local) (hx : scope.names.lookup x = some .local) (hsz : its.size ≤ 1000)
    (step : ∀ ax k i v I oI C oC D m₂ ys news sx (E' : Value → Shared → Prop), i < its.size → its[i]? = some v → Inv ax k i ys news → NsObj oC m₂ → m₂ x = some v → Fr h₀ L sx.heap m → News h₀ L sx.heap ((I, oI) :: (C, oC) :: (D, lst ys) :: news) → Off3 I C D news → ((@Ne Nat I C) ∧ (@Ne Nat I D) ∧ (@Ne Nat C D)) →
      wpAny (model prog w) A (eval elt (compEnvC scope cl C env)) (EltEnd h₀ L m sx I oI C oC D ys (Inv ax k (i + 1))) E' sx)
    (h : wpAny (model prog w) A (eval iter env) (SrcI h₀ L m its Inv Q) E s)
    (hs : ∀ x, foldedSetIterable iter env x = pure x := by intro _; rfl) :
    wpAny (model prog w) A (eval (.ListComp elt [⟨.Name x px, iter, [], 0⟩] scope pos) env) Q E s := by
  refine ListComp_U F₀ hclos hcell hkind hnames hx (wpAny_mono h (fun xv s₁ h₁ => ?_) fun _ _ e => e) hs
  obtain ⟨ax, k, news, rfl, F, N, hI, hax, fin⟩ := h₁
  refine CompSrc.ledger hh F N (hax _ _ _ hI) (Nat.le_trans hsz (by decide)) fun g => ?_
  refine compRest_inv (Inv ax k) its.size (fun i ys news hi => .inr ⟨_, hax _ _ _ hi, rfl, _, rfl⟩) (fun i v I oI C oC D m₂ ys news sx E' => step ax k i v I oI C oC D m₂ ys news sx E') ?_ its.size 0 [] news (by simp) hI
  intro ys news' hi D h' tk F' N' o1
  exact fin D h' tk ys news' F' N' o1 hi
/-- the list that a comprehension walks, not known ahead -/
def SrcI2 (h₀ : Heap) (L : Addr) (m : Str → Option Value) (Inv : Addr → Nat → Array Value → Nat → List Value → List (Addr × Obj) → Prop) (Q : Value → Shared → Prop) (xv : Value) (s₁ : Shared) : Prop :=
  ∃ ax k its news, xv = .ref ax ∧ its.size ≤ 1000 ∧ Fr h₀ L s₁.heap m ∧ News h₀ L s₁.heap news ∧ Inv ax k its 0 [] news ∧ (∀ i ys news, Inv ax k its i ys news → (ax, ({ cls := .type "list", data := .seq its k } : Obj)) ∈ news) ∧
    ∀ D h tk ys news', Fr h₀ L h m → News h₀ L h ((D, lst ys) :: news') → Off1 D news' → Inv ax k its its.size ys news' → Q (.ref D) { s₁ with heap := h, toks := tk }
theorem ListComp_inv2 {elt iter : Expr} {x : Str} {px pos : Pos} {scope : Scope} {cl : List (Str × Addr)} {Q : Value → Shared → Prop} (Inv : Addr → Nat → Array Value → Nat → List Value → List (Addr × Obj) → Prop) (F₀ : Fr h₀ L s.heap m) (hh : A.handled = none)
    (hclos : closureFor scope env = pure cl) (hcell : ∀ y ∈ scope.names, y.2 ≠ .cell) (hkind : scope.kind = .function)
    (hnames : ∀ y ∈ scope.names, y.2 = .local → scope.names.lookup y.1 = some .local) (hx : scope.names.lookup x = some .local)
    (step : ∀ ax k its i v I oI C oC D m₂ ys news sx (E' : Value → Shared → Prop), i < its.size → its[i]? = some v → Inv ax k its i ys news → NsObj oC m₂ → m₂ x = some v → Fr h₀ L sx.heap m → News h₀ L sx.heap ((I, oI) :: (C, oC) :: (D, lst ys) :: news) → Off3 I C D news → ((@Ne Nat I C) ∧ (@Ne Nat I D) ∧ (@Ne Nat C D)) →
      wpAny (model prog w) A (eval elt (compEnvC scope cl C env)) (EltEnd h₀ L m sx I oI C oC D ys (Inv ax k its (i + 1))) E' sx)
    (h : wpAny (model prog w) A (eval iter env) (SrcI2 h₀ L m Inv Q) E s)
    (hs : ∀ x, foldedSetIterable iter env x = pure x := by intro _; rfl) :
    wpAny (model prog w) A (eval (.ListComp elt [⟨.Name x px, iter, [], 0⟩] scope pos) env) Q E s := by
  refine ListComp_U F₀ hclos hcell hkind hnames hx (wpAny_mono h (fun xv s₁ h₁ => ?_) fun _ _ e => e) hs
  obtain ⟨ax, k, its, news, rfl, hsz, F, N, hI, hax, fin⟩ := h₁
  refine CompSrc.ledger hh F N (hax _ _ _ hI) (Nat.le_trans hsz (by decide)) fun g => ?_
  refine compRest_inv (Inv ax k its) its.size (fun i ys news hi => .inr ⟨_, hax _ _ _ hi, rfl, _, rfl⟩) (fun i v I oI C oC D m₂ ys news sx E' => step ax k its i v I oI C oC D m₂ ys news sx E') ?_ its.size 0 [] news (by simp) hI
  intro ys news' hi D h' tk F' N' o1
  exact fin D h' tk ys news' F' N' o1 hi
def SrcA2 (h₀ : Heap) (L : Addr) (m : Str → Option Value) (z : Str) (Inv : Addr → Nat → Array Value → Nat → List Value → List (Addr × Obj) → Prop) (Q : Flow → Shared → Prop) (xv : Value) (s₁ : Shared) : Prop :=
  ∃ ax k its news, xv = .ref ax ∧ its.size ≤ 1000 ∧ Fr h₀ L s₁.heap m ∧ News h₀ L s₁.heap news ∧ Inv ax k its 0 [] news ∧ (∀ i ys news, Inv ax k its i ys news → (ax, ({ cls := .type "list", data := .seq its k } : Obj)) ∈ news) ∧
    ∀ D h tk ys news', Fr h₀ L h (fun w => if w = z then some (.ref D) else m w) → News h₀ L h ((D, lst ys) :: news') → Off1 D news' → Inv ax k its its.size ys news' → Q .next { s₁ with heap := h, toks := tk }
theorem Assign_ListComp_inv2 {elt iter : Expr} {x z : Str} {px pz pos spos : Pos} {scope : Scope} {cl : List (Str × Addr)} {Q : Flow → Shared → Prop} (Inv : Addr → Nat → Array Value → Nat → List Value → List (Addr × Obj) → Prop) (F₀ : Fr h₀ L s.heap m) (hLe : env.locals = L) (hh : A.handled = none)
    (hsw : swapsWith (.ListComp elt [⟨.Name x px, iter, [], 0⟩] scope pos) (some (.Name z pz)) spos.line env = pure true)
    (hclos : closureFor scope env = pure cl) (hcell : ∀ y ∈ scope.names, y.2 ≠ .cell) (hkind : scope.kind = .function)
    (hnames : ∀ y ∈ scope.names, y.2 = .local → scope.names.lookup y.1 = some .local) (hx : scope.names.lookup x = some .local)
    (hz : env.kindOf z = some .local) (hp : (env.scope.kind == .class || (env.scope.kind == .module && env.locals != env.globals)) = false)
    (step : ∀ ax k its i v I oI C oC D m₂ ys news sx (E' : Value → Shared → Prop), i < its.size → its[i]? = some v → Inv ax k its i ys news → NsObj oC m₂ → m₂ x = some v → Fr h₀ L sx.heap m → News h₀ L sx.heap ((I, oI) :: (C, oC) :: (D, lst ys) :: news) → Off3 I C D news → ((@Ne Nat I C) ∧ (@Ne Nat I D) ∧ (@Ne Nat C D)) →
      wpAny (model prog w) A (eval elt (compEnvC scope cl C env)) (EltEnd h₀ L m sx I oI C oC D ys (Inv ax k its (i + 1))) E' sx)
    (h : wpAny (model prog w) A (eval iter env) (SrcA2 h₀ L m z Inv Q) E s)
    (hs : ∀ x, foldedSetIterable iter env x = pure x := by intro _; rfl) :
    wpAny (model prog w) A (exec (.Assign [.Name z pz] (.ListComp elt [⟨.Name x px, iter, [], 0⟩] scope pos) spos) env) Q E s := by
  refine Assign_ListComp_U F₀ hLe hsw hclos hcell hkind hnames hx hz hp (wpAny_mono h (fun xv s₁ h₁ => ?_) fun _ _ e => e) hs
  obtain ⟨ax, k, its, news, rfl, hsz, F, N, hI, hax, fin⟩ := h₁
  refine CompSrc.ledger hh F N (hax _ _ _ hI) (Nat.le_trans hsz (by decide)) fun g => ?_
  refine compRest_inv (Inv ax k its) its.size (fun i ys news hi => .inr ⟨_, hax _ _ _ hi, rfl, _, rfl⟩) (fun i v I oI C oC D m₂ ys news sx E' => step ax k its i v I oI C oC D m₂ ys news sx E') ?_ its.size 0 [] news (by simp) hI
  intro ys news' hi D h' tk F' N' o1
  exact fin D h' tk ys news' F' N' o1 hi
theorem news_swap {h : Heap} {a b : Addr × Obj} {r : List (Addr × Obj)} (N : News h₀ L h (a :: b :: r)) : News h₀ L h (b :: a :: r) := fun p hp => N p (by (first | (refine sub_use hp ?_; (repeat' (first | exact sub_self | exact sub_nil | exact List.mem_cons_self .. | refine List.mem_cons_of_mem _ ?_ | refine sub_cons ?_ ?_ | refine sub_app ?_ ?_ | exact sub_inl | refine sub_skip ?_ | refine sub_right ?_ | refine List.mem_append_right _ ?_)); done) | (simp only [List.mem_cons] at hp ⊢; grind)))
end
end Mine
end
section
open PySem PySem.W PyProof.Rows PySem.Calls
set_option Elab.async false
set_option maxRecDepth 100000
set_option maxHeartbeats 8000000
set_option linter.unusedVariables false
namespace Mine
section
variable {prog : Program} {w : World} {A : Around} {E : Value → Shared → Prop} {s : Shared} {h₀ : Heap} {L : Addr} {env : Env}
/-- the end of one turn of a for loop: back at its head, its iterator untouched -/
def TurnEnd (h₀ : Heap) (L : Addr) (I : Addr) (oI : Obj) (Inv : (Str → Option Value) → List (Addr × Obj) → Prop) (s₁ : Shared) (f : Flow) (s₂ : Shared) : Prop :=
  f = .next ∧ ∃ h' tk' m' news', s₂ = { s₁ with heap := h', toks := tk' } ∧ Fr h₀ L h' m' ∧ News h₀ L h' ((I, oI) :: news') ∧ (∀ p ∈ news', p.1 ≠ I) ∧ Inv m' news'
/-- the list that a for loop is to walk -/
def ForSrc (h₀ : Heap) (L : Addr) (Inv : Addr → List Value → List Value → (Str → Option Value) → List (Addr × Obj) → Prop) (Q : Flow → Shared → Prop) (xv : Value) (s₁ : Shared) : Prop :=
  ∃ ax its k m news, xv = .ref ax ∧ Fr h₀ L s₁.heap m ∧ News h₀ L s₁.heap news ∧ Inv ax its its m news ∧
      (∀ r m news, Inv ax its r m news → (ax, ({ cls := .type "list", data := .seq its.toArray k } : Obj)) ∈ news) ∧ (∀ m news h tk, Inv ax its [] m news → Fr h₀ L h m → News h₀ L h news → Q .next { s₁ with heap := h, toks := tk })
/-- a for loop over a list of the ledger, with an invariant on what is left -/
theorem For_list {x : Str} {px pos : Pos} {iter : Expr} {body : List Stmt} {Q : Flow → Shared → Prop} (Inv : Addr → List Value → List Value → (Str → Option Value) → List (Addr × Obj) → Prop) (hh : A.handled = none)
    (step : ∀ ax its v r m news I oI sx (E' : Value → Shared → Prop), Inv ax its (v :: r) m news → oI.cls = .type "list_iterator" → (∃ i : Int, oI.data = .fields #[.ref ax, .int i 0]) → Fr h₀ L sx.heap m → News h₀ L sx.heap ((I, oI) :: news) → (∀ p ∈ news, p.1 ≠ I) →
      wpAny (model prog w) A (assign (.Name x px) env v) (fun _ s₂ => wpAny (model prog w) A (execs body env) (TurnEnd h₀ L I oI (Inv ax its r) sx) E' s₂) E' sx)
    (h : wpAny (model prog w) A (eval iter env) (ForSrc h₀ L Inv Q) E s)
    (hs : ∀ x, foldedSetIterable iter env x = pure x := by intro _; rfl) :
    wpAny (model prog w) A (exec (.For (.Name x px) iter body [] pos) env) Q E s := by
  refine wpAny_For (wpAny_mono h (fun xv s₁ h₁ => ?_) fun _ _ e => e) hs
  obtain ⟨ax, its, k, m, news, rfl, F, N, hI, hax, fin⟩ := h₁
  have hl : s₁.heap.IsList ax its.toArray := ⟨_, (N _ (hax _ _ _ hI)).1, rfl, _, rfl⟩
  have hlt : ax < s₁.heap.objs.size := Heap.lt_size (N _ (hax _ _ _ hI)).1
  refine wpAny_pyIter_list hl ?_
  generalize hII : s₁.heap.objs.size = I at *
  have up : ∀ b o, s₁.heap.get? b = some o → (s₁.heap.push { cls := .type "list_iterator", data := .fields #[.ref ax, .int 0 0] }).get? b = some o := fun b o e => Heap.get?_push_of_some _ e
  have hit : (s₁.heap.push { cls := .type "list_iterator", data := .fields #[.ref ax, .int 0 0] }).IsListIter I ax 0 := ⟨_, hII ▸ Heap.get?_push_size _ rfl, rfl, rfl⟩
  have hI₀ : h₀.get? I = none := hII ▸ next_is_new F
  have hIL : L ≠ I := hII ▸ Nat.ne_of_lt F.ns.lt
  have offI : ∀ p ∈ news, p.1 ≠ I := fun p hp => hII ▸ Nat.ne_of_lt (Heap.lt_size (N p hp).1)
  generalize s₁.heap.push { cls := .type "list_iterator", data := .fields #[.ref ax, .int 0 0] } = h₁ at *
  refine codeAny_forLoop
    (fun n s' => ∃ h' tk m' news' i, s' = { s₁ with heap := h', toks := tk } ∧ i ≤ its.length ∧ n = its.length + 1 - i ∧ h'.IsListIter I ax i ∧ Fr h₀ L h' m' ∧ News h₀ L h' news' ∧ (∀ p ∈ news', p.1 ≠ I) ∧ Inv ax its (its.drop i) m' news') ?_ (its.length + 1)
    ⟨h₁, s₁.toks, m, news, 0, rfl, Nat.zero_le _, rfl, hit, F.keeps up, N.grown up, offI, hI⟩
  rintro n s' ⟨h', tk, m', news', i, rfl, hi, rfl, hit', F', N', off', hInv'⟩
  have hl' : h'.IsList ax its.toArray := ⟨_, (N' _ (hax _ _ _ hInv')).1, rfl, _, rfl⟩
  have hne : ax ≠ I := off' _ (hax _ _ _ hInv')
  cases hv : its[i]? with
  | none =>
    have hle : its.length ≤ i := by simpa using hv
    refine wpAny_pyNext_list_end hh hit' hl' (by simpa using hv) fun h₂ he => wpAny_execs_nil ?_
    rw [List.drop_eq_nil_of_le hle] at hInv'
    refine fin m' news' h₂ tk hInv' ⟨F'.ns.extBut he hIL, fun b o e => he b o (fun q => by rw [q, hI₀] at e; cases e) (F'.keep b o e), F'.above⟩ (fun p hp => ⟨he _ _ (off' p hp) (N' p hp).1, (N' p hp).2⟩)
  | some v =>
    have hlt' : i < its.length := (List.getElem?_eq_some_iff.mp hv).1
    have hd : its.drop i = v :: its.drop (i + 1) := by
      rw [List.drop_eq_getElem_cons hlt']
      congr 1
      exact (List.getElem?_eq_some_iff.mp hv).2
    rw [hd] at hInv'
    refine wpAny_pyNext_list_item hit' hl' (by simpa using hv) fun h₂ hit₂ hs₂ => ?_
    obtain ⟨oI, heI, hcI, hdI⟩ := id hit₂
    have F₂ : Fr h₀ L h₂ m' := F'.change hs₂ (Ne.symm hIL) hI₀
    have N₂ : News h₀ L h₂ ((I, oI) :: news') := fun p hp => by
      rcases List.mem_cons.mp hp with rfl | hp
      · exact ⟨heI, Ne.symm hIL, hI₀⟩
      · exact ⟨hs₂.extBut _ _ (off' p hp) (N' p hp).1, (N' p hp).2⟩
    refine wpAny_mono (step ax its v _ m' news' I oI { s₁ with heap := h₂, toks := tk } _ hInv' hcI ⟨_, hdI⟩ F₂ N₂ off') (fun _ s₃ h₃ => wpAny_mono h₃ (fun f s₄ h₄ => ?_) fun _ _ e => e) fun _ _ e => e
    obtain ⟨rfl, h₅, tk₅, m₅, news₅, rfl, F₅, N₅, off₅, I₅⟩ := h₄
    have e5 := (N₅ (I, oI) (List.mem_cons_self ..)).1
    exact ⟨its.length + 1 - (i + 1), by omega, h₅, tk₅, m₅, news₅, i + 1, rfl, hlt', rfl, ⟨oI, e5, hcI, hdI⟩, F₅, fun p hp => N₅ p (List.mem_cons_of_mem _ hp), off₅, I₅⟩
end
end Mine
end
section
open PySem PySem.W PyProof.Rows PySem.Calls
set_option Elab.async false
set_option maxRecDepth 100000
set_option maxHeartbeats 8000000
set_option linter.unusedVariables false
namespace Mine
open PyProof.Rows.LCg PyProof.Rows.LCp PyProof.Rows.LCt
section
variable {prog : Program} {w : World} {A : Around} {E : Value → Shared → Prop} {s : Shared} {h₀ : Heap} {L : Addr} {m : Str → Option Value} {env : Env}
theorem compRestP_inv {elt : Expr} {x x₂ : Str} {scope : Scope} {cl : List (Str × Addr)} {s : Shared} {S : List (Addr × Obj) → Prop} {P : Nat → Value → Prop} {Fin : List Value → List (Addr × Obj) → Prop} (Inv : Nat → List Value → List (Addr × Obj) → Prop) (V : Nat → Value → Value → Prop) (n : Nat)
    (hS : ∀ i ys news, Inv i ys news → S news)
    (hV : ∀ i ys news v, i < n → Inv i ys news → P i v → ∃ (t : Addr) (ot : Obj) (v₁ v₂ : Value) (nt : Nat), v = .ref t ∧ (t, ot) ∈ news ∧ ot.cls = .type "tuple" ∧ ot.data = .seq #[v₁, v₂] nt ∧ V i v₁ v₂)
    (step : ∀ i v₁ v₂ I oI C oC D m₂ ys news sx (E' : Value → Shared → Prop), i < n → V i v₁ v₂ → Inv i ys news → NsObj oC m₂ → m₂ x = some v₁ → m₂ x₂ = some v₂ → Fr h₀ L sx.heap m → News h₀ L sx.heap ((I, oI) :: (C, oC) :: (D, lst ys) :: news) → Off3 I C D news → ((@Ne Nat I C) ∧ (@Ne Nat I D) ∧ (@Ne Nat C D)) →
      wpAny (model prog w) A (eval elt (compEnvC scope cl C env)) (EltEnd h₀ L m sx I oI C oC D ys (Inv (i + 1))) E' sx)
    (fin : ∀ ys news, Inv n ys news → Fin ys news) :
    ∀ k i ys news, i + k = n → Inv i ys news → CompRestP prog w A h₀ L m env elt x x₂ scope cl s S P Fin k i ys news
  | 0, i, ys, news, e, h => CompRestP.zero (fin ys news (by rw [← e]; exact h))
  | k + 1, i, ys, news, e, h => CompRestP.succ fun v hP => by
      obtain ⟨t, ot, v₁, v₂, nt, e1, e2, e3, e4, hv⟩ := hV i ys news v (by omega) h hP
      refine ⟨t, ot, v₁, v₂, nt, e1, e2, e3, e4, fun I oI C oC D m₂ hh tk E' hN hm hm2 F N off ne => ?_⟩
      refine wpAny_mono (step i v₁ v₂ I oI C oC D m₂ ys news { s with heap := hh, toks := tk } E' (by omega) hv h hN hm hm2 F N off ne) (fun y s₂ hy => ?_) fun _ _ e => e
      obtain ⟨h', tk', news', rfl, F', N', off', I'⟩ := hy
      exact ⟨h', tk', news', rfl, F', N', off', hS _ _ _ I', compRestP_inv Inv V n hS hV step fin k (i + 1) _ _ (by omega) I'⟩
theorem ListCompP_inv {elt iter : Expr} {x x₂ : Str} {px px₂ tp pos : Pos} {tk} {scope : Scope} {cl : List (Str × Addr)} {Q : Value → Shared → Prop} (its : Array Value) (Inv : Addr → Nat → Nat → List Value → List (Addr × Obj) → Prop) (V : Nat → Value → Value → Prop) (F₀ : Fr h₀ L s.heap m) (hh : A.handled = none)
    (hclos : closureFor scope env = pure cl) (hcell : ∀ y ∈ scope.names, y.2 ≠ .cell) (hkind : scope.kind = .function)
    (hnames : ∀ y ∈ scope.names, y.2 = .local → scope.names.lookup y.1 = some .local) (hx : scope.names.lookup x = some .local) (hx₂ : scope.names.lookup x₂ = some .local) (hxx : x ≠ x₂) (hsz : its.size ≤ 1000)
    (hV : ∀ ax k i ys news v, Inv ax k i ys news → its[i]? = some v → ∃ (t : Addr) (ot : Obj) (v₁ v₂ : Value) (nt : Nat), v = .ref t ∧ (t, ot) ∈ news ∧ ot.cls = .type "tuple" ∧ ot.data = .seq #[v₁, v₂] nt ∧ V i v₁ v₂)
    (step : ∀ ax k i v₁ v₂ I oI C oC D m₂ ys news sx (E' : Value → Shared → Prop), i < its.size → V i v₁ v₂ → Inv ax k i ys news → NsObj oC m₂ → m₂ x = some v₁ → m₂ x₂ = some v₂ → Fr h₀ L sx.heap m → News h₀ L sx.heap ((I, oI) :: (C, oC) :: (D, lst ys) :: news) → Off3 I C D news → ((@Ne Nat I C) ∧ (@Ne Nat I D) ∧ (@Ne Nat C D)) →
      wpAny (model prog w) A (eval elt (compEnvC scope cl C env)) (EltEnd h₀ L m sx I oI C oC D ys (Inv ax k (i + 1))) E' sx)
    (h : wpAny (model prog w) A (eval iter env) (SrcI h₀ L m its Inv Q) E s)
    (hs : ∀ x, foldedSetIterable iter env x = pure x := by intro _; rfl) :
    wpAny (model prog w) A (eval (.ListComp elt [⟨.Tuple [.Name x px, .Name x₂ px₂] tk tp, iter, [], 0⟩] scope pos) env) Q E s := by
  refine ListComp_P F₀ hclos hcell hkind hnames hx hx₂ hxx (wpAny_mono h (fun xv s₁ h₁ => ?_) fun _ _ e => e) hs
  obtain ⟨ax, k, news, rfl, F, N, hI, hax, fin⟩ := h₁
  refine SrcLP.ledger hh F N (hax _ _ _ hI) (Nat.le_trans hsz (by decide)) fun g => ?_
  refine compRestP_inv (Inv ax k) V its.size (fun i ys news hi => .inr ⟨_, hax _ _ _ hi, rfl, _, rfl⟩) (fun i ys news v _ hi hP => hV ax k i ys news v hi hP) (fun i v₁ v₂ I oI C oC D m₂ ys news sx E' => step ax k i v₁ v₂ I oI C oC D m₂ ys news sx E') ?_ its.size 0 [] news (by simp) hI
  intro ys news' hi D h' tk F' N' o1
  exact fin D h' tk ys news' F' N' o1 hi
/-- the end of a test that was not passed -/
def SkipEnd (h₀ : Heap) (L : Addr) (m : Str → Option Value) (s₁ : Shared) (I : Addr) (oI : Obj) (C : Addr) (oC : Obj) (D : Addr) (ys : List Value) (Inv : List Value → List (Addr × Obj) → Prop) (s₂ : Shared) : Prop :=
  ∃ h' tk news', s₂ = { s₁ with heap := h', toks := tk } ∧ Fr h₀ L h' m ∧ News h₀ L h' ((I, oI) :: (C, oC) :: (D, lst ys) :: news') ∧ Off3 I C D news' ∧ Inv ys news'
/-- the end of a test -/
def TestEnd (prog : Program) (w : World) (A : Around) (elt : Expr) (cenv : Env) (E' : Value → Shared → Prop) (h₀ : Heap) (L : Addr) (m : Str → Option Value) (s₁ : Shared) (I : Addr) (oI : Obj) (C : Addr) (oC : Obj) (D : Addr) (ys : List Value) (Inv : List Value → List (Addr × Obj) → Prop) (ok : Bool) (s₂ : Shared) : Prop :=
  (ok = true → wpAny (model prog w) A (eval elt cenv) (EltEnd h₀ L m s₁ I oI C oC D ys Inv) E' s₂) ∧ (ok = false → SkipEnd h₀ L m s₁ I oI C oC D ys Inv s₂)
theorem compRestT_inv {ct elt : Expr} {x : Str} {scope : Scope} {cl : List (Str × Addr)} {s : Shared} {S : List (Addr × Obj) → Prop} {P : Nat → Value → Prop} {Fin : List Value → List (Addr × Obj) → Prop} (Inv : Nat → List Value → List (Addr × Obj) → Prop) (n : Nat)
    (hS : ∀ i ys news, Inv i ys news → S news)
    (step : ∀ i v I oI C oC D m₂ ys news sx (E' : Value → Shared → Prop), i < n → P i v → Inv i ys news → NsObj oC m₂ → m₂ x = some v → Fr h₀ L sx.heap m → News h₀ L sx.heap ((I, oI) :: (C, oC) :: (D, lst ys) :: news) → Off3 I C D news → ((@Ne Nat I C) ∧ (@Ne Nat I D) ∧ (@Ne Nat C D)) →
      wpAny (model prog w) A (isTrue ct (compEnvC scope cl C env) (eval ct (compEnvC scope cl C env))) (TestEnd prog w A elt (compEnvC scope cl C env) E' h₀ L m sx I oI C oC D ys (Inv (i + 1))) E' sx)
    (fin : ∀ ys news, Inv n ys news → Fin ys news) :
    ∀ k i ys news, i + k = n → Inv i ys news → CompRestT prog w A h₀ L m env ct elt x scope cl s S P Fin k i ys news
  | 0, i, ys, news, e, h => CompRestT.zero (fin ys news (by rw [← e]; exact h))
  | k + 1, i, ys, news, e, h => CompRestT.succ fun v I oI C oC D m₂ hh tk E' hP hN hm F N off ne =>
      wpAny_mono (step i v I oI C oC D m₂ ys news { s with heap := hh, toks := tk } E' (by omega) hP h hN hm F N off ne) (fun ok s₂ hy => by
        cases ok with
        | true =>
          rw [if_pos rfl]
          refine wpAny_mono (hy.1 rfl) (fun y s₃ hz => ?_) fun _ _ e => e
          obtain ⟨h', tk', news', rfl, F', N', off', I'⟩ := hz
          exact ⟨h', tk', news', rfl, F', N', off', hS _ _ _ I', compRestT_inv Inv n hS step fin k (i + 1) _ _ (by omega) I'⟩
        | false =>
          rw [if_neg (by decide)]
          obtain ⟨h', tk', news', rfl, F', N', off', I'⟩ := hy.2 rfl
          exact ⟨h', tk', news', rfl, F', N', off', hS _ _ _ I', compRestT_inv Inv n hS step fin k (i + 1) _ _ (by omega) I'⟩) fun _ _ e => e
/-- the range that a comprehension walks -/
def SrcT (h₀ : Heap) (L : Addr) (m : Str → Option Value) (n : Nat) (Inv : Nat → List Value → List (Addr × Obj) → Prop) (Q : Value → Shared → Prop) (xv : Value) (s₁ : Shared) : Prop :=
  ∃ r t u v news, xv = .ref r ∧ Fr h₀ L s₁.heap m ∧ News h₀ L s₁.heap news ∧ IsRange s₁.heap r 0 (n : Int) 1 t u v ∧ Builtin.Range.small 0 (n : Int) 1 = true ∧ Builtin.Range.rangeSize 0 (n : Int) 1 = ((n : Nat) : Int) ∧ Inv 0 [] news ∧
    ∀ D h tk ys news', Fr h₀ L h m → News h₀ L h ((D, lst ys) :: news') → Off1 D news' → Inv n ys news' → Q (.ref D) { s₁ with heap := h, toks := tk }
theorem ListCompT_inv {ct elt iter : Expr} {x : Str} {px pos : Pos} {scope : Scope} {cl : List (Str × Addr)} {Q : Value → Shared → Prop} (n : Nat) (Inv : Nat → List Value → List (Addr × Obj) → Prop) (F₀ : Fr h₀ L s.heap m) (hh : A.handled = none)
    (hclos : closureFor scope env = pure cl) (hcell : ∀ y ∈ scope.names, y.2 ≠ .cell) (hkind : scope.kind = .function)
    (hnames : ∀ y ∈ scope.names, y.2 = .local → scope.names.lookup y.1 = some .local) (hx : scope.names.lookup x = some .local) (hsz : n ≤ 1000)
    (step : ∀ i t I oI C oC D m₂ ys news sx (E' : Value → Shared → Prop), i < n → Inv i ys news → NsObj oC m₂ → m₂ x = some (.int (i : Int) t) → Fr h₀ L sx.heap m → News h₀ L sx.heap ((I, oI) :: (C, oC) :: (D, lst ys) :: news) → Off3 I C D news → ((@Ne Nat I C) ∧ (@Ne Nat I D) ∧ (@Ne Nat C D)) →
      wpAny (model prog w) A (isTrue ct (compEnvC scope cl C env) (eval ct (compEnvC scope cl C env))) (TestEnd prog w A elt (compEnvC scope cl C env) E' h₀ L m sx I oI C oC D ys (Inv (i + 1))) E' sx)
    (h : wpAny (model prog w) A (eval iter env) (SrcT h₀ L m n Inv Q) E s)
    (hs : ∀ x, foldedSetIterable iter env x = pure x := by intro _; rfl) :
    wpAny (model prog w) A (eval (.ListComp elt [⟨.Name x px, iter, [ct], 0⟩] scope pos) env) Q E s := by
  refine ListComp_T F₀ hclos hcell hkind hnames hx (wpAny_mono h (fun xv s₁ h₁ => ?_) fun _ _ e => e) hs
  obtain ⟨r, t, u, v, news, rfl, F, N, hr, hsm, hn, hI, fin⟩ := h₁
  refine CompSrcT.range hh F N hr hsm hn (Nat.le_trans hsz (by decide)) fun g => ?_
  refine compRestT_inv Inv n (fun _ _ _ _ => trivial) (fun i v I oI C oC D m₂ ys news sx E' hi hP hv hC hm Fx Nx off ne => by
    obtain ⟨t, rfl⟩ := hP
    rw [Int.zero_add] at hm
    exact step i t I oI C oC D m₂ ys news sx E' hi hv hC hm Fx Nx off ne) ?_ n 0 [] news (by simp) hI
  intro ys news' hi D h' tk F' N' o1
  exact fin D h' tk ys news' F' N' o1 hi
/-- the range that a for loop is to walk -/
def ForRng (h₀ : Heap) (L : Addr) (n : Nat) (Inv : Nat → (Str → Option Value) → List (Addr × Obj) → Prop) (Q : Flow → Shared → Prop) (xv : Value) (s₁ : Shared) : Prop :=
  ∃ r t u v m news, xv = .ref r ∧ Fr h₀ L s₁.heap m ∧ News h₀ L s₁.heap news ∧ IsRange s₁.heap r 0 (n : Int) 1 t u v ∧ Builtin.Range.small 0 (n : Int) 1 = true ∧ Builtin.Range.rangeSize 0 (n : Int) 1 = ((n : Nat) : Int) ∧ Inv 0 m news ∧
    ∀ m news h tk, Inv n m news → Fr h₀ L h m → News h₀ L h news → Q .next { s₁ with heap := h, toks := tk }
theorem For_rng {x : Str} {px pos : Pos} {iter : Expr} {body : List Stmt} {Q : Flow → Shared → Prop} (n : Nat) (Inv : Nat → (Str → Option Value) → List (Addr × Obj) → Prop) (hh : A.handled = none)
    (step : ∀ i t m news I oI sx (E' : Value → Shared → Prop), i < n → Inv i m news → oI.cls = .type "range_iterator" → (∀ v, oI.data ≠ .cell v) → Fr h₀ L sx.heap m → News h₀ L sx.heap ((I, oI) :: news) → (∀ p ∈ news, p.1 ≠ I) →
      wpAny (model prog w) A (assign (.Name x px) env (.int (i : Int) t)) (fun _ s₂ => wpAny (model prog w) A (execs body env) (TurnEnd h₀ L I oI (Inv (i + 1)) sx) E' s₂) E' sx)
    (h : wpAny (model prog w) A (eval iter env) (ForRng h₀ L n Inv Q) E s)
    (hs : ∀ x, foldedSetIterable iter env x = pure x := by intro _; rfl) :
    wpAny (model prog w) A (exec (.For (.Name x px) iter body [] pos) env) Q E s := by
  refine wpAny_For (wpAny_mono h (fun xv s₁ h₁ => ?_) fun _ _ e => e) hs
  obtain ⟨r, t, u, v, m, news, rfl, F, N, hr, hsm, hn, hI, fin⟩ := h₁
  refine wpAny_pyIter_range hr hsm ?_
  have W := range_walks (prog := prog) (w := w) (I := s₁.heap.objs.size) hh 0 n
  have hst : IsRangeIter (s₁.heap.push { cls := .type "range_iterator", data := .fields #[rawInt 0, rawInt (Builtin.Range.rangeSize 0 (n : Int) 1), rawInt 1] }) s₁.heap.objs.size (0 + ((0 : Nat) : Int) * 1) ((n : Int) - ((0 : Nat) : Int)) 1 := by
    show Heap.get? _ _ = _
    rw [hn]
    simpa using Heap.get?_push_size _ rfl
  generalize hII : s₁.heap.objs.size = I at *
  have up : ∀ b o, s₁.heap.get? b = some o → (s₁.heap.push { cls := .type "range_iterator", data := .fields #[rawInt 0, rawInt (Builtin.Range.rangeSize 0 (n : Int) 1), rawInt 1] }).get? b = some o := fun b o e => Heap.get?_push_of_some _ e
  have hI₀ : h₀.get? I = none := hII ▸ next_is_new F
  have hIL : L ≠ I := hII ▸ Nat.ne_of_lt F.ns.lt
  have offI : ∀ p ∈ news, p.1 ≠ I := fun p hp => hII ▸ Nat.ne_of_lt (Heap.lt_size (N p hp).1)
  generalize s₁.heap.push { cls := .type "range_iterator", data := .fields #[rawInt 0, rawInt (Builtin.Range.rangeSize 0 (n : Int) 1), rawInt 1] } = h₁ at *
  refine codeAny_forLoop
    (fun k s' => ∃ h' tk m' news' i, s' = { s₁ with heap := h', toks := tk } ∧ i ≤ n ∧ k = n + 1 - i ∧ IsRangeIter h' I (0 + (i : Nat) * 1) ((n : Int) - (i : Nat)) 1 ∧ Fr h₀ L h' m' ∧ News h₀ L h' news' ∧ (∀ p ∈ news', p.1 ≠ I) ∧ Inv i m' news') ?_ (n + 1)
    ⟨h₁, s₁.toks, m, news, 0, rfl, Nat.zero_le _, rfl, hst, F.keeps up, N.grown up, offI, hI⟩
  rintro k s' ⟨h', tk, m', news', i, rfl, hi, rfl, hit', F', N', off', hInv'⟩
  have next : ∀ h₂ : Heap, (∀ b o, b ∉ [I] → h'.get? b = some o → h₂.get? b = some o) → Fr h₀ L h₂ m' ∧ News h₀ L h₂ news' := fun h₂ hk₂ =>
    ⟨LCg.fr_but F' hk₂ hIL hI₀, news_but N' hk₂ off'⟩
  by_cases hlt : i < n
  · refine W.item i _ _ _ hlt hit' fun v h₂ tk₂ hP hst₂ hk₂ => ?_
    obtain ⟨t, rfl⟩ := hP
    rw [Int.zero_add]
    obtain ⟨F₂, N₂⟩ := next h₂ hk₂
    obtain ⟨oI, heI, hcI, hdI⟩ : ∃ oI, h₂.get? I = some oI ∧ oI.cls = .type "range_iterator" ∧ ∀ v, oI.data ≠ .cell v := ⟨_, hst₂, rfl, fun v q => nomatch q⟩
    have N₃ : News h₀ L h₂ ((I, oI) :: news') := fun p hp => by
      rcases List.mem_cons.mp hp with rfl | hp
      · exact ⟨heI, Ne.symm hIL, hI₀⟩
      · exact N₂ p hp
    refine wpAny_mono (step i t m' news' I oI { s₁ with heap := h₂, toks := tk₂ } _ hlt hInv' hcI hdI F₂ N₃ off') (fun _ s₃ h₃ => wpAny_mono h₃ (fun f s₄ h₄ => ?_) fun _ _ e => e) fun _ _ e => e
    obtain ⟨rfl, h₅, tk₅, m₅, news₅, rfl, F₅, N₅, off₅, I₅⟩ := h₄
    have e5 := (N₅ (I, oI) (List.mem_cons_self ..)).1
    refine ⟨n + 1 - (i + 1), by omega, h₅, tk₅, m₅, news₅, i + 1, rfl, hlt, rfl, ?_, F₅, fun p hp => N₅ p (List.mem_cons_of_mem _ hp), off₅, I₅⟩
    have e2 : h₂.get? I = some _ := hst₂
    show h₅.get? I = some _
    rw [e5, ← e2, heI]
  · obtain rfl : i = n := Nat.le_antisymm hi (Nat.not_lt.mp hlt)
    refine W.done _ _ _ hit' fun h₂ tk₂ hk₂ => wpAny_execs_nil ?_
    obtain ⟨F₂, N₂⟩ := next h₂ hk₂
    exact fin m' news' h₂ tk₂ hInv' F₂ N₂
end
end Mine
end
section
open PySem PySem.W PyProof.Rows PySem.Calls
set_option Elab.async false
set_option maxRecDepth 100000
set_option maxHeartbeats 8000000
set_option linter.unusedVariables false
namespace Mine
theorem fm4 (y : Int) : 0 ≤ y.fmod 4 ∧ y.fmod 4 < 32 := by
  rw [Int.fmod_eq_emod_of_nonneg _ (by decide)]; omega
theorem fm32 (y : Int) : 0 ≤ y.fmod 32 ∧ y.fmod 32 < 32 := by
  rw [Int.fmod_eq_emod_of_nonneg _ (by decide)]; omega
theorem fm4_4 (y : Int) : y.fmod 4 < 4 := by
  rw [Int.fmod_eq_emod_of_nonneg _ (by decide)]; omega
theorem fm4_63 (y : Int) : y.fmod 4 < 2 ^ 63 := by
  rw [Int.fmod_eq_emod_of_nonneg _ (by decide)]; omega
theorem hd4_b (i : Int) : 64 ≤ ([64, 96, 19968, 224] : List Int).getD (i.fmod 4).toNat 0 ∧ ([64, 96, 19968, 224] : List Int).getD (i.fmod 4).toNat 0 ≤ 19968 := by
  have h : i.fmod 4 = 0 ∨ i.fmod 4 = 1 ∨ i.fmod 4 = 2 ∨ i.fmod 4 = 3 := by
    rw [Int.fmod_eq_emod_of_nonneg _ (by decide)]; omega
  rcases h with h | h | h | h <;> rw [h] <;> decide
theorem chr_lo {i e : Int} (he : 0 ≤ e ∧ e < 32) : 0 ≤ ([64, 96, 19968, 224] : List Int).getD (i.fmod 4).toNat 0 + e := by have := hd4_b i; omega
theorem chr_hi {i e : Int} (he : 0 ≤ e ∧ e < 32) : ([64, 96, 19968, 224] : List Int).getD (i.fmod 4).toNat 0 + e ≤ 1114111 := by have := hd4_b i; omega
/-- what is left, and the name, after i turns -/
def restK (c : Int) : Nat → Int
  | 0 => c.fdiv 4
  | i + 1 => nxt (restK c i)
def nameK (c : Int) : Nat → Str
  | 0 => Str.ofString ""
  | i + 1 => nameK c i ++ sgn (restK c i)
def digK (c : Int) (i j : Nat) : Int := if j < i then dig1 (restK c j) else 0
theorem len_app (a b : Str) : (a ++ b).length = a.length + b.length := by
  show (a.cps ++ b.cps).size = _
  exact Array.size_append
theorem nameK_len (c : Int) : ∀ i, (nameK c i).length = i
  | 0 => rfl
  | i + 1 => by
    unfold nameK
    rw [len_app, nameK_len c i]; rfl
theorem nameK_nm (c : Int) (n : Nat) (h : (c.fmod 4).toNat = n) (hn : n < 4) : nameK c n = nmOf c ∧ ∀ j, j < 3 → digK c n j = dg c j := by
  unfold nmOf dg
  rw [h]
  match n, hn with
  | 0, _ => exact ⟨rfl, fun j hj => by match j, hj with | 0, _ => rfl | 1, _ => rfl | 2, _ => rfl⟩
  | 1, _ => exact ⟨rfl, fun j hj => by match j, hj with | 0, _ => rfl | 1, _ => rfl | 2, _ => rfl⟩
  | 2, _ => exact ⟨rfl, fun j hj => by match j, hj with | 0, _ => rfl | 1, _ => rfl | 2, _ => rfl⟩
  | 3, _ => exact ⟨rfl, fun j hj => by match j, hj with | 0, _ => rfl | 1, _ => rfl | 2, _ => rfl⟩
theorem rng4 (n : Nat) (h : n < 4) : Builtin.Range.small 0 (n : Int) 1 = true ∧ Builtin.Range.rangeSize 0 (n : Int) 1 = ((n : Nat) : Int) := by
  match n, h with
  | 0, _ => exact ⟨by decide, by decide⟩
  | 1, _ => exact ⟨by decide, by decide⟩
  | 2, _ => exact ⟨by decide, by decide⟩
  | 3, _ => exact ⟨by decide, by decide⟩
def digs (c : Int) (i : Nat) : List Int := [digK c i 0, digK c i 1, digK c i 2]
theorem digs_set (c : Int) (i : Nat) (h : i < 3) (x : Int) (hx : dig1 (restK c i) = x) : (digs c i).set (i : Int).toNat x = digs c (i + 1) := by
  subst hx
  unfold digs digK
  match i, h with
  | 0, _ => rfl
  | 1, _ => rfl
  | 2, _ => rfl
theorem hii_of {vs : List Value} {l : List Int} {k : Nat} {a b : Int} (h : IntsAre vs ((l.set k a).set k b)) : IntsAre vs (l.set k b) := by
  rw [List.set_set] at h
  exact h
theorem ints3 {vs : List Value} {a b d : Int} (h : IntsAre vs [a, b, d]) : ∃ ta tb tc, vs = [.int a ta, .int b tb, .int d tc] := by
  cases h with
  | cons _ t h => cases h with
    | cons _ t2 h => cases h with
      | cons _ t3 h => cases h with
        | nil => exact ⟨_, _, _, rfl⟩
theorem item_set {prog : Program} {w : World} {A : Around} {E : Value → Shared → Prop} {s : Shared} {h₀ : Heap} {L D : Addr} {news : List (Addr × Obj)} {vs : List Value} {i n : Nat} {x : Int} {t u : Tok} {value slice : PySem.Expr} {Q : Value → Shared → Prop}
    (N : News h₀ L s.heap news) (hm : (D, W.listOf (vs.set (i : Int).toNat (.int x u)).toArray n) ∈ news) (hlen : i < vs.length) (hi : i < 3) (h : Q (.int x u) s)
    (hs : subscripted slice false (.ref D) (.int (i : Int) t) = operate [.ref D, .int (i : Int) t] (getItem (.ref D) (.int (i : Int) t)) := by with_unfolding_all rfl) :
    wpAny (model prog w) A (subscriptTail value slice (.ref D) (.int (i : Int) t)) Q E s := by
  have hl : s.heap.IsList D (vs.set (i : Int).toNat (.int x u)).toArray := ⟨_, (N _ hm).1, rfl, _, rfl⟩
  refine tail_any hl.typeIs slot_list_getitem.lookup (wpAny_getItem_list hl (by omega) (by omega) (by simp [hlen]) h) hs
/-- between the turns -/
def NmInv (c : Int) (l : Addr) (i : Nat) (m : Str → Option Value) (news : List (Addr × Obj)) : Prop :=
  ∃ t tr vs, m "name" = some (.str (nameK c i) t) ∧ m "rest" = some (.int (restK c i) tr) ∧ m "digits" = some (.ref l) ∧ IntsAre vs (digs c i) ∧ news = [(l, W.listOf vs.toArray 0)]
theorem turn_zero {r : Int} (h : r.fmod 4 = 0) : nxt r = (r.fdiv 16).fdiv 32 ∧ dig1 r = (r.fdiv 16).fmod 32 := by
  unfold nxt dig1
  rw [if_pos h, if_pos h]; exact ⟨rfl, rfl⟩
theorem turn_some {r : Int} (h : ¬ r.fmod 4 = 0) : nxt r = r.fdiv 16 ∧ dig1 r = r.fmod 4 := by
  unfold nxt dig1
  rw [if_neg h, if_neg h]; exact ⟨rfl, rfl⟩
theorem nm_turn {c : Int} {l I T L : Addr} {i : Nat} {h₀ h' : Heap} {oI oT : Obj} {m' : Str → Option Value} {vs' : List Value} {t tr : Tok} {x rr : Int} {sx : Shared} {tk' : Nat} (hx : dig1 (restK c i) = x) (hrr : nxt (restK c i) = rr) (hi : i < 3) (F : Fr h₀ L h' m')
    (N : News h₀ L h' [(T, oT), (I, oI), (l, W.listOf vs'.toArray 0)]) (hIl : @Ne Nat I l) (hints : IntsAre vs' ((digs c i).set (i : Int).toNat x))
    (hn : m' "name" = some (.str (nameK c i ++ ⟨#[(([64, 96, 19968, 224] : List Int).getD (((restK c i).fdiv 4).fmod 4).toNat 0 + x).toNat]⟩) t)) (hr : m' "rest" = some (.int rr tr)) (hd : m' "digits" = some (.ref l)) :
    TurnEnd h₀ L I oI (NmInv c l (i + 1)) sx .next { sx with heap := h', toks := tk' } := by
  rw [digs_set c i hi x hx] at hints
  subst hx hrr
  refine ⟨rfl, h', tk', m', _, rfl, F, fun p hp => N p (List.mem_cons_of_mem _ hp), fun p hp => ?_, t, tr, vs', hn, hr, hd, hints, rfl⟩
  rw [List.mem_singleton.mp hp]
  exact Ne.symm hIl
abbrev nameTup (x : Str) (t : Tok) (l : Addr) : Obj := { cls := .type "tuple", data := .seq #[.str x t, .ref l] }
section
theorem name_tells (w : World) (c : Int) (tk : Tok) : Tells 0 w 232 [.int c tk] (fun _ => True) (fun r tl => ∃ D l t ta tb tc, r = .ref D ∧ tl = [(D, nameTup (nmOf c) t l), (l, W.listOf #[.int (dg c 0) ta, .int (dg c 1) tb, .int (dg c 2) tc] 0)]) := by
  k_with_none
  k_with "exec For Name Call cons nil" => (k_here; refine Stop.mk ?_)
  k_with "subscriptTail" => (k_here; (with_reducible show wpAny _ _ (subscriptTail _ _ (Value.ref _) (Value.int (Int.fmod _ 4) _)) _ _ _); (with_unfolding_all refine' item_anyK ?zqk1 ?zqk2 ?zqk3 ?zqk4 ?zqk5 ?_ ?zqk6; (case zqk1 => is_list); (case zqk2 => l_ints); (case zqk3 => exact (fm4 _).1); (case zqk4 => exact fm4_4 _); (case zqk5 => exact fm4_63 _); (case zqk6 => with_unfolding_all rfl); k_whole); intro _)
  k_with "setItem ref int" => (k_here; k_dflt (refine' ksa_set ?zqk1 ?zqk2 ?zqk3 ?zqk4 (Int.natCast_nonneg i) ?zqk5 (by omega) ?_; (case zqk5 => first | exact hi3' | (rw [List.length_set]; exact hi3')); (case zqk1 => k_asm); (case zqk2 => k_asm); (case zqk3 => k_upd); (case zqk4 => with_reducible assumption); k_whole); intro h' F' N' hi' hl' hs'; clear hl' hs')
  k_with "subscriptTail" => (k_here; (with_reducible show wpAny _ _ (subscriptTail _ _ (Value.ref _) (Value.int (Nat.cast _) _)) _ _ _); k_dflt (refine item_set (by k_asm) (by k_mem) ?zqk5 (by omega) ?_; (case zqk5 => (first | (rw [List.length_set, hvl]; omega) | (rw [hvl]; omega)))))
  k_with "call builtin:chr" => (k_here; (refine chr_of_range (chr_lo ?zqa) (chr_hi ?zqa) ?_; (case zqa => first | exact fm4 _ | exact fm32 _)))
  k_with "binaryOp Add str str" => (k_here; (refine add_str (hsz := ?zqhsz) ?_; (case zqhsz => exact hsz9 _); intro _ _))
  k_with "eval Name" => (k_here; k_dflt (refine' nameX_L ?zqqF ?zqqv ?_ ?zqqa ?zqqb; (case zqqF => k_asm); (case zqqa => rfl); (case zqqb => rfl); (case zqqv => (repeat (first | (with_reducible exact hmN) | (with_reducible exact hmR) | (with_reducible exact hmD) | exact if_pos rfl | refine (if_neg (by decide)).trans ?_)); done); k_whole))
  unfold Tells
  k_fill
  intro mean mg mb dp un gd cn cs a ccd cl outer A₀ base h₀ L m s Q E B F X T hk hd hu hpre hret
  have N : News h₀ L s.heap [] := news_nil
  refine wpAny_call ?_
  k_dflt (refine' code_defG ?k1 ?k2 ?k3 ?k4 ?k5 ?kA ?kF ?kK ?k6 ?k7 ?k8 ?k9 ?kB ?_ ?c2 ?c3 ?c4 ?c5; (case kA => exact rfl); (case kF => exact rfl); (case kK => assumption); (case k1 => k_asm); (case k2 => k_asm); (case k3 => k_asm); (case k4 => k_asm); (case k5 => k_asm); (case k6 => k_is); (case k7 => k_is); (case k8 => exact Nat.lt_of_le_of_lt (Nat.le_trans (Nat.le_add_right _ _) hd) (by decide)); (case k9 => first | exact BindsTo.of_eq rfl | exact binds_K (by k_in) rfl (by k_is) rfl rfl rfl); (case c5 => decide); (case kB => exact locs rfl); (case c2 => exact rfl); (case c3 => exact rfl); (case c4 => exact rfl); k_whole; intro g' L' h' FG' F' N' B' X' T' kG'; (try dsimp only); (try k_lift B'); (try k_fold))
  k_steps
  unfold Stop
  rename_i tk1 hh1 l hh2 _ hh3 hh4 F4 N4
  obtain ⟨n, hn⟩ : ∃ n : Nat, (c.fmod 4).toNat = n := ⟨_, rfl⟩
  have hcn : c.fmod 4 = (n : Int) := by have := fm4 c; omega
  have hn4 : n < 4 := by have := fm4_4 c; omega
  obtain ⟨hnm, hdg⟩ := nameK_nm c n hn hn4
  with_unfolding_all refine For_rng (h₀ := g') (L := L') n (NmInv c l) rfl ?st1 ?src1
  case src1 =>
    k_steps
    rename IsRange _ _ _ _ _ _ _ _ => rg
    rw [hcn] at rg
    refine ⟨_, _, _, _, _, _, rfl, by k_asm, by k_asm, rg, (rng4 n hn4).1, (rng4 n hn4).2, ?inv, ?_⟩
    case inv => exact ⟨_, _, [_, _, _], (if_neg (by decide)).trans ((if_neg (by decide)).trans (if_pos rfl)), if_pos rfl, (if_neg (by decide)).trans (if_pos rfl), .cons _ _ (.cons _ _ (.cons _ _ .nil)), rfl⟩
    rintro m3 news3 h3 tk3 ⟨t, tr, vs, hmN, hmR, hmD, hvs, rfl⟩ F3 N3
    unfold digs at hvs
    rw [hdg 0 (by decide), hdg 1 (by decide), hdg 2 (by decide)] at hvs
    rw [hnm] at hmN
    obtain ⟨ta, tb, tc, rfl⟩ := ints3 hvs
    k_steps
    rename_i D hT FT NT lT _ _ _ _
    have NT' : News g' L' hT [(D, nameTup (nmOf c) t l), (l, W.listOf #[.int (dg c 0) ta, .int (dg c 1) tb, .int (dg c 2) tc] 0)] := NT
    exact hret _ _ _ _ (by k_asm) (keeps_of kG' FT) (news_out F kG' NT' fun p hp => hp) (fresh_of kG' NT' fun p hp => hp) ⟨D, l, t, ta, tb, tc, rfl, rfl⟩
  case st1 =>
    rintro i ti m2 news I oI sx E2 hi ⟨t, tr, vs, hmN, hmR, hmD, hvs, rfl⟩ hcI hoI Fx Nx offI
    have hsz9 : ∀ y : Int, (nameK c i).length + (⟨#[y.toNat]⟩ : Str).length ≤ sizeLine := fun y => by
      rw [nameK_len]
      exact Nat.le_trans (show i + 1 ≤ 20 by omega) (Nat.le_of_ble_eq_true rfl)
    have hi3' : (i : Int) < (digs c i).length := show (i : Int) < 3 by omega
    have hvl : vs.length = 3 := IntsAre.length hvs
    have hIl : @Ne Nat I l := Ne.symm (offI _ (List.mem_cons_self ..))
    refine wpAny_assign_Name (storeX_L Fx Nx (fun h3 F3 N3 => ?_))
    k_steps
    · rename (restK c i).fmod 4 = 0 => hz
      refine' nm_turn (turn_zero hz).2 (turn_zero hz).1 (by omega) (by k_asm) (by k_asm) hIl ?hints (if_pos rfl) ?hr ?hd
      case hints => rename IntsAre _ (((digs c i).set _ _).set _ _) => hii; exact hii_of hii
      case hr => exact (if_neg (by decide)).trans (if_pos rfl)
      case hd => exact (if_neg (by decide)).trans ((if_neg (by decide)).trans ((if_neg (by decide)).trans ((if_neg (by decide)).trans hmD)))
    · rename (restK c i).fmod 4 ≠ 0 => hz
      refine' nm_turn (turn_some hz).2 (turn_some hz).1 (by omega) (by k_asm) (by k_asm) hIl hi' (if_pos rfl) ?hr2 ?hd2
      case hr2 => exact (if_neg (by decide)).trans (if_pos rfl)
      case hd2 => exact (if_neg (by decide)).trans ((if_neg (by decide)).trans ((if_neg (by decide)).trans ((if_neg (by decide)).trans hmD)))
end
end Mine
end
section
open PySem PySem.W PyProof.Rows PySem.Calls
set_option Elab.async false
set_option maxRecDepth 100000
set_option maxHeartbeats 8000000
set_option linter.unusedVariables false
namespace Mine
def bl (k : Int) : Str := ([Str.ofString "", Str.ofString " ", Str.ofString "\t", Str.ofString "\x1f", Str.ofString "\xa0"]).getD k.toNat (Str.ofString "")
theorem bl_len (k : Int) : (bl k).length ≤ 1 := by
  unfold bl
  generalize k.toNat = n
  match n with
  | 0 | 1 | 2 | 3 | 4 => decide
  | n + 5 => exact Nat.zero_le _
def pad (p c k : Int) : Str := bl ((c + k * (p + 1)).fmod 5)
theorem pad_len (p c k : Int) : (pad p c k).length ≤ 1 := bl_len _
theorem fm5 (y : Int) : 0 ≤ y.fmod 5 ∧ y.fmod 5 < 5 := by
  rw [Int.fmod_eq_emod_of_nonneg _ (by decide)]; omega
theorem item_bl {prog : Program} {w : World} {A : Around} {E : Value → Shared → Prop} {s : Shared} {value slice : PySem.Expr} {l : Addr} {t0 t1 t2 t3 t4 : Tok} {n : Nat} {p c k : Int} {u : Tok} {Q : Value → Shared → Prop}
    (hl : s.heap.get? l = some { cls := .type "list", data := .seq #[.str (Str.ofString "") t0, .str (Str.ofString " ") t1, .str (Str.ofString "\t") t2, .str (Str.ofString "\x1f") t3, .str (Str.ofString "\xa0") t4] n })
    (h : ∀ t, Q (.str (pad p c k) t) s)
    (hs : subscripted slice false (.ref l) (.int ((c + k * (p + 1)).fmod 5) u) = operate [.ref l, .int ((c + k * (p + 1)).fmod 5) u] (getItem (.ref l) (.int ((c + k * (p + 1)).fmod 5) u)) := by with_unfolding_all rfl) :
    wpAny (model prog w) A (subscriptTail value slice (.ref l) (.int ((c + k * (p + 1)).fmod 5) u)) Q E s := by
  have hL : s.heap.IsList l #[.str (Str.ofString "") t0, .str (Str.ofString " ") t1, .str (Str.ofString "\t") t2, .str (Str.ofString "\x1f") t3, .str (Str.ofString "\xa0") t4] := ⟨_, hl, rfl, _, rfl⟩
  refine tail_any hL.typeIs slot_list_getitem.lookup ?_ hs
  have hb := fm5 (c + k * (p + 1))
  unfold pad at h
  generalize (c + k * (p + 1)).fmod 5 = i at *
  have : ∃ t, (#[.str (Str.ofString "") t0, .str (Str.ofString " ") t1, .str (Str.ofString "\t") t2, .str (Str.ofString "\x1f") t3, .str (Str.ofString "\xa0") t4] : Array Value)[i.toNat]? = some (.str (bl i) t) := by
    have : i = 0 ∨ i = 1 ∨ i = 2 ∨ i = 3 ∨ i = 4 := by omega
    rcases this with rfl | rfl | rfl | rfl | rfl <;> exact ⟨_, rfl⟩
  obtain ⟨t, e⟩ := this
  exact wpAny_getItem_list hL hb.1 (by omega) e (h t)
theorem item_tup0 {prog : Program} {w : World} {A : Around} {E : Value → Shared → Prop} {s : Shared} {value slice : PySem.Expr} {D l : Addr} {x : Str} {t u : Tok} {Q : Value → Shared → Prop}
    (hl : s.heap.get? D = some (nameTup x t l)) (h : Q (.str x t) s)
    (hs : subscripted slice false (.ref D) (.int 0 u) = operate [.ref D, .int 0 u] (getItem (.ref D) (.int 0 u))) :
    wpAny (model prog w) A (subscriptTail value slice (.ref D) (.int 0 u)) Q E s :=
  have ht : IsTup s.heap D [Value.str x t, .ref l].toArray := ⟨_, hl, rfl, _, rfl⟩
  item_tupleT ht (by decide) (by decide) (j := 0) rfl rfl h hs
def rowOf (p c : Int) : Str := (((((pad p c 0 ++ nmOf c) ++ pad p c 1) ++ Str.ofString "=") ++ pad p c 2) ++ valueOf p) ++ pad p c 3
theorem sgn_len (r : Int) : (sgn r).length = 1 := rfl
theorem app_len (a b : Str) : (a ++ b).length = a.length + b.length := by
  show (a.cps ++ b.cps).size = _
  exact Array.size_append
theorem nm_len (c : Int) : (nmOf c).length ≤ 3 := by
  unfold nmOf
  have e0 : (Str.ofString "").length = 0 := rfl
  split
  · exact Nat.zero_le _
  all_goals simp only [app_len, sgn_len, e0]; omega
theorem val_len (p : Int) (h0 : 0 ≤ p) (h1 : p < 12) : (valueOf p).length ≤ 2 := by
  have : p = 0 ∨ p = 1 ∨ p = 2 ∨ p = 3 ∨ p = 4 ∨ p = 5 ∨ p = 6 ∨ p = 7 ∨ p = 8 ∨ p = 9 ∨ p = 10 ∨ p = 11 := by omega
  rcases this with rfl | rfl | rfl | rfl | rfl | rfl | rfl | rfl | rfl | rfl | rfl | rfl <;> decide
def Bd (x : Str) (n : Nat) : Prop := x.length ≤ n
theorem bd_app {x y : Str} {a b : Nat} (hx : Bd x a) (hy : Bd y b) : Bd (x ++ y) (a + b) := by
  unfold Bd at *
  rw [app_len]; omega
theorem bd_pad (p c k : Int) : Bd (pad p c k) 1 := pad_len p c k
theorem bd_nm (c : Int) : Bd (nmOf c) 3 := nm_len c
theorem bd_val (p : Int) (h0 : 0 ≤ p) (h1 : p < 12) : Bd (valueOf p) 2 := val_len p h0 h1
theorem bd_eq : Bd (Str.ofString "=") 1 := Nat.le_refl _
theorem len_ok {x y : Str} {a b : Nat} (hx : Bd x a) (hy : Bd y b) (h : a + b ≤ 20) : x.length + y.length ≤ sizeLine := by
  unfold Bd at *
  exact Nat.le_trans (show _ ≤ 20 by omega) (Nat.le_of_ble_eq_true rfl)
section
theorem row_tells (w : World) (p c : Int) (t1 t2 : Tok) (h0 : 0 ≤ p) (h1 : p < 12) : Tells 1 w 244 [.int p t1, .int c t2] (fun _ => True) (fun r tl => (∃ t, r = .str (rowOf p c) t) ∧ tl = []) := by
  k_with_none
  k_with "call ref" => (k_here; first | ((refine Tells.at (name_tells w _ _) (by k_asm) (by k_asm) (by k_asm) (by k_asm) (by k_asm) rfl rfl (by (try dsimp only [ktrTop, Around.deeper]); omega) (by (try dsimp only [ktrTop, Around.deeper]); omega) ?zqpre ?_); (case zqpre => exact trivial); intro r9 tl9 h9 tk9 F9 N9 K9 fr9 P9; (obtain ⟨D9, l9, t9, ta9, tb9, tc9, er9, et9⟩ := P9); subst er9 et9; (try dsimp only [List.nil_append, List.cons_append] at N9); (try dsimp only)) | ((refine Tells.at (value_tells w _ _ (by omega) (by omega)) (by k_asm) (by k_asm) (by k_asm) (by k_asm) (by k_asm) rfl rfl (by (try dsimp only [ktrTop, Around.deeper]); omega) (by (try dsimp only [ktrTop, Around.deeper]); omega) ?zqpre ?_); (case zqpre => exact trivial); intro r9 tl9 h9 tk9 F9 N9 K9 fr9 P9; (obtain ⟨t9, er9, et9⟩ := P9); subst er9 et9; (try dsimp only [List.nil_append] at N9); (try dsimp only)))
  k_with "subscriptTail" => (k_here; (with_reducible show wpAny _ _ (subscriptTail _ _ (Value.ref _) (Value.int (Int.fmod _ 5) _)) _ _ _); (with_unfolding_all refine' item_bl ?zqk1 ?_ ?zqk6; (case zqk1 => exact News.get (by k_asm) (by k_mem)); (case zqk6 => with_unfolding_all rfl); k_whole); intro _)
  k_with "subscriptTail" => (k_here; (with_reducible show wpAny _ _ (subscriptTail _ _ (Value.ref _) (Value.int 0 _)) _ _ _); (with_unfolding_all refine' item_tup0 ?zqk1 ?_ ?zqk6; (case zqk1 => exact News.get (by k_asm) (by k_mem)); (case zqk6 => with_unfolding_all rfl); k_whole))
  k_with "binaryOp Add str str" => (k_here; (refine add_str (hsz := ?zqhsz) ?_; (case zqhsz => (first | exact len_ok (bd_pad _ _ _) (bd_nm _) (by decide) | exact len_ok (bd_app (bd_pad _ _ _) (bd_nm _)) (bd_pad _ _ _) (by decide) | exact len_ok (bd_app (bd_app (bd_pad _ _ _) (bd_nm _)) (bd_pad _ _ _)) bd_eq (by decide) | exact len_ok (bd_app (bd_app (bd_app (bd_pad _ _ _) (bd_nm _)) (bd_pad _ _ _)) bd_eq) (bd_pad _ _ _) (by decide) | exact len_ok (bd_app (bd_app (bd_app (bd_app (bd_pad _ _ _) (bd_nm _)) (bd_pad _ _ _)) bd_eq) (bd_pad _ _ _)) (bd_val _ h0 h1) (by decide) | exact len_ok (bd_app (bd_app (bd_app (bd_app (bd_app (bd_pad _ _ _) (bd_nm _)) (bd_pad _ _ _)) bd_eq) (bd_pad _ _ _)) (bd_val _ h0 h1)) (bd_pad _ _ _) (by decide)))); intro _ _)
  k_with "exec Assign cons ListComp" => (k_here; k_dflt (refine LCg.Assign_ListComp_U (F₀ := by k_asm) (by rfl) (by with_unfolding_all rfl) (by with_unfolding_all rfl) (by decide) (by rfl) (by decide) (by rfl) (by rfl) (by rfl) ?_); k_dflt lcg_toSrc)
  k_with "CompSrc" => (k_here; k_dflt (refine LCg.CompSrc.range (by rfl) (by k_asm) (by k_asm) (by assumption) (by first | decide | rfl) (by first | rfl | decide) (by first | size_fits | exact Nat.le_of_ble_eq_true rfl) ?_); intro g'; lcg_lit)
  k_with "eval Name" => (k_here; k_dflt (refine LCgL.ld_own (by k_asm) (List.mem_cons_of_mem _ (List.mem_cons_self ..)) (by assumption) (by assumption) ?_))
  k_with "eval Name" => (k_here; k_dflt (refine' name_cellG ?zqN ?zqk ?zqx ?zqc ?zqm ?zqd ?zqb ?_; (case zqk => rfl); (case zqx => rfl); (case zqb => decide); (case zqc => rfl); (case zqN => k_asm); (case zqm => ((repeat (first | assumption | exact List.mem_cons_self .. | apply List.mem_cons_of_mem)); done)); (case zqd => k_asm); k_whole))
  k_with "CompEnd" => (k_here; first | (refine LCg.CompEnd.intro (by assumption) (by assumption) _ sub_self (by simp only [LCg.Off3, and_true]; assumption) (by lcg_src) ?_) | lcg_end)
  unfold Tells
  k_fill
  intro mean mg mb dp un gd cn cs a ccd cl outer A₀ base h₀ L m s Q E B F X T hk hd hu hpre hret
  have N : News h₀ L s.heap [] := news_nil
  refine wpAny_call ?_
  k_dflt (refine' code_cellsG ?k1 ?k2 ?k3 ?k4 ?k5 ?kA ?kF ?kK ?k6 ?k7 ?k8 ?k9 ?kB ?kC ?_ ?c2 ?c3 ?c4; (case kA => exact rfl); (case kF => exact rfl); (case kK => assumption); (case k1 => k_asm); (case k2 => k_asm); (case k3 => k_asm); (case k4 => k_asm); (case k5 => k_asm); (case k6 => k_is); (case k7 => k_is); (case k8 => exact Nat.lt_of_le_of_lt (Nat.le_trans (Nat.le_add_right _ _) hd) (by decide)); (case k9 => exact BindsTo.of_eq rfl); (case kB => exact rfl); (case kC => decide +kernel); (case c2 => exact rfl); (case c3 => exact rfl); (case c4 => exact rfl); k_whole; intro g' L' h' tk' cells' FG' F' N' Y' B' X' T' l1 kG'; clear l1; k_cells Y'; (try simp only [List.cons_append, List.nil_append, List.append_nil] at N'); (try dsimp only); (try k_lift B'); (try k_fold))
  k_steps
  all_goals (try w_report)
  all_goals (try w_report)
  refine hret _ [] _ _ (by k_asm) (keeps_of kG' (by k_asm)) news_nil (fun _ h => nomatch h) ⟨⟨_, rfl⟩, rfl⟩
end
end Mine
end
section
open PySem PySem.W PyProof.Rows PySem.Calls
set_option Elab.async false
set_option maxRecDepth 100000
set_option maxHeartbeats 8000000
set_option linter.unusedVariables false
namespace Mine
open PyProof.Rows.LCg
section
variable {prog : Program} {w : World} {A : Around} {s : Shared} {R : Result → Shared → Prop}
theorem turn_in (elt t0 i0 t1 i1 : Expr) (scope : Scope) (pos : Pos) (it acc : Value) (env : Env) :
    compTurn (.ListComp elt [⟨t0, i0, [], 0⟩, ⟨t1, i1, [], 0⟩] scope pos) 1 it acc env = (do
      standAt i1.pos
      match ← pyNext it with
      | none => pure (.done .next)
      | some v =>
        letOwnedTupleGo t1 it v
        assign t1 env v
        let mut ok := true
        for c in ([] : List Expr) do
          if ok then ok ← isTrue c env (eval c env)
        if ok then
          (do let _ ← call (.builtin "list.append") [acc, ← eval elt env])
        again (.compLoop (.ListComp elt [⟨t0, i0, [], 0⟩, ⟨t1, i1, [], 0⟩] scope pos) 1 it acc env)) := by rfl
theorem turn_out (elt t0 i0 t1 i1 : Expr) (scope : Scope) (pos : Pos) (it acc : Value) (env : Env) :
    compTurn (.ListComp elt [⟨t0, i0, [], 0⟩, ⟨t1, i1, [], 0⟩] scope pos) 0 it acc env = (do
      standAt i0.pos
      match ← pyNext it with
      | none => pure (.done .next)
      | some v =>
        letOwnedTupleGo t0 it v
        assign t0 env v
        let mut ok := true
        for c in ([] : List Expr) do
          if ok then ok ← isTrue c env (eval c env)
        if ok then
          let x ← eval i1 env
          standAt i1.pos
          let x ← foldedSetIterable i1 env x
          let _ ← runOwn (.compStart (.ListComp elt [⟨t0, i0, [], 0⟩, ⟨t1, i1, [], 0⟩] scope pos) 1 (← holding [x] (pyIter x)) acc env) env
        again (.compLoop (.ListComp elt [⟨t0, i0, [], 0⟩, ⟨t1, i1, [], 0⟩] scope pos) 0 it acc env)) := by rfl
theorem start_in {elt : Expr} {c0 : Comprehension} {t1 i1 : Expr} {scope : Scope} {pos : Pos} {it acc : Value} {env : Env}
    (h0 : codeAny (model prog w) A (.compLoop (.ListComp elt [c0, ⟨t1, i1, [], 0⟩] scope pos) 1 it acc env) R s)
    (h : wpAny (model prog w) A (pyIter it) (fun it' s' => codeAny (model prog w) A (.compLoop (.ListComp elt [c0, ⟨t1, i1, [], 0⟩] scope pos) 1 it' acc env) R s')
      (notedBy (model prog w) A env fun x s' => R (.error x) s') s) :
    codeAny (model prog w) A (.compStart (.ListComp elt [c0, ⟨t1, i1, [], 0⟩] scope pos) 1 it acc env) R s := by
  refine codeAny_of_tree ?_
  show wpAny _ _ ((compStart (.ListComp elt [c0, ⟨t1, i1, [], 0⟩] scope pos) 1 it acc env).onRaise (fun x => do noteFrame x env; standAt theWindowsPlace)) _ _ s
  refine wpAny_notedAt ?_
  unfold compStart
  show wpAny _ _ (ask >>= _) _ _ s
  refine wpAny_bind (wpAny_askSetting (wpAny_ite ?_))
  split
  · exact wpAny_bind (wpAny_pure (wpAny_pure (And.intro rfl h0)))
  · refine wpAny_bind (wpAny_rule ?_)
    show wpAny _ _ (standAt i1.pos >>= _) _ _ s
    exact wpAny_bind (wpAny_standAt (wpAny_bind (wpAny_mono h (fun it' s' h' => wpAny_pure (And.intro rfl h')) fun _ _ x => x)))
theorem inner2 {x y : Str} {px py py' : Pos} {i0 i1 : Expr} {scope : Scope} {pos : Pos} {I2 l D : Addr} {cenv : Env} {its : Array Value} {ys : List Value} {m : Str → Option Value}
    (hh : A.handled = none) (hy : cenv.kindOf y = some .local) (hfk : cenv.scope.kind = .function) (hdb : (y == ("__debug__" : Str)) = false)
    (hI : s.heap.IsListIter I2 l 0) (hl : s.heap.IsList l its) (hD : s.heap.get? D = some (lst ys)) (hn : s.heap.Ns cenv.locals m)
    (n1 : I2 ≠ D) (n2 : I2 ≠ cenv.locals) (n3 : D ≠ cenv.locals) (n4 : l ≠ I2) (n5 : l ≠ D) (n6 : l ≠ cenv.locals) (hsz : ys.length + its.size ≤ sizeLine)
    (hR : ∀ h' tk m', h'.get? D = some (lst (ys ++ its.toList)) → h'.Ns cenv.locals m' → (∀ b o, b ≠ I2 → b ≠ D → b ≠ cenv.locals → s.heap.get? b = some o → h'.get? b = some o) → R (.ok .next) { s with heap := h', toks := tk }) :
    codeAny (model prog w) A (.compLoop (.ListComp (.Name y py) [⟨.Name x px, i0, [], 0⟩, ⟨.Name y py', i1, [], 0⟩] scope pos) 1 (.ref I2) (.ref D) cenv) R s := by
  refine codeAny_loop rfl (fun k s' => ∃ h' tk m' i, s' = { s with heap := h', toks := tk } ∧ i ≤ its.size ∧ k = its.size + 1 - i ∧ h'.IsListIter I2 l i ∧ h'.IsList l its ∧ h'.get? D = some (lst (ys ++ its.toList.take i)) ∧ h'.Ns cenv.locals m' ∧
      ∀ b o, b ≠ I2 → b ≠ D → b ≠ cenv.locals → s.heap.get? b = some o → h'.get? b = some o) ?_ (its.size + 1)
    ⟨s.heap, s.toks, m, 0, rfl, Nat.zero_le _, rfl, hI, hl, by simpa using hD, hn, fun _ _ _ _ _ e => e⟩
  rintro k s' ⟨h', tk, m', i, rfl, hi, rfl, hI', hl', hD', hn', hk⟩
  show wpAny _ A ((compTurn _ 1 (.ref I2) (.ref D) cenv).onRaise (fun x => do noteFrame x cenv; theTreesLotGoes x)) _ _ _
  refine wpAny_noted ?_
  rw [turn_in]
  refine wpAny_bind (wpAny_standAt (wpAny_bind ?_))
  cases hv : its[i]? with
  | none =>
    have hle : its.size ≤ i := by simpa using hv
    refine wpAny_pyNext_list_end hh hI' hl' hv fun h₁ he₁ => ?_
    refine wpAny_pure (hR h₁ tk m' ?_ (hn'.extBut he₁ (Ne.symm n2)) fun b o b1 b2 b3 e => he₁ b o b1 (hk b o b1 b2 b3 e))
    have := he₁ D _ (Ne.symm n1) hD'
    rwa [List.take_of_length_le (by simpa using hle)] at this
  | some v =>
    have hlt : i < its.size := (Array.getElem?_eq_some_iff.mp hv).1
    have hvl : its.toList[i]? = some v := by simpa using hv
    refine wpAny_pyNext_list_item hI' hl' hv fun h₁ hI₁ hs₁ => ?_
    refine wpAny_bind (wpAny_of_eq rfl ?_)
    refine wpAny_bind (wpAny_assign_Name (wpAny_storeName_local hy (hn'.sameBut hs₁ (Ne.symm n2)) (fun h₂ hn₂ hs₂ => ?_) (by rw [hfk]; rfl)))
    refine wpAny_bind (wpAny_tests_nil ?_)
    simp only [if_true]
    refine wpAny_bind (wpAny_bind (wpAny_Name (wpAny_loadName_local hfk hy hn₂ (if_pos rfl) ?_) hdb))
    have up : ∀ b o, b ≠ cenv.locals → b ≠ I2 → h'.get? b = some o → h₂.get? b = some o := fun b o b1 b2 e => hs₂.extBut b o b1 (hs₁.extBut b o b2 e)
    have hsz' : (ys ++ List.take i its.toList).toArray.size ≤ sizeLine := by
      rw [List.size_toArray, List.length_append, List.length_take]
      have : its.toList.length = its.size := Array.length_toList
      omega
    refine wpAny_bind (append_at (hsz := hsz') (up D _ n3 (Ne.symm n1) hD') fun h₃ hs₃ hD₃ => ?_)
    refine wpAny_pure (wpAny_pure ?_)
    refine ⟨rfl, its.size + 1 - (i + 1), by omega, h₃, _, _, i + 1, rfl, hlt, rfl, ?_, ?_, ?_, hn₂.sameBut hs₃ (Ne.symm n3), fun b o b1 b2 b3 e => hs₃.extBut b o b2 (up b o b3 b1 (hk b o b1 b2 b3 e))⟩
    · exact ((hI₁.extBut hs₂.extBut n2).extBut hs₃.extBut n1)
    · exact (hl'.at fun o e => up l o n6 n4 e).extBut hs₃.extBut n5
    · rw [hD₃]
      have : ((ys ++ List.take i its.toList).toArray.push v) = (ys ++ List.take (i + 1) its.toList).toArray := by
        rw [List.push_toArray, List.append_assoc, List.take_add_one, hvl]; rfl
      rw [this]
      congr 3
      simp only [List.length_append, List.length_take, Array.length_toList]; omega
end
section
variable {prog : Program} {w : World} {A : Around} {E : Value → Shared → Prop} {s : Shared} {h₀ : Heap} {L : Addr} {m : Str → Option Value} {env : Env}
/-- what the inner source of a comprehension of two clauses gives: a list in the ledger -/
def Src2 (h₀ : Heap) (L : Addr) (m : Str → Option Value) (s₁ : Shared) (I : Addr) (oI : Obj) (C : Addr) (oC : Obj) (D : Addr) (ys : List Value) (Inv : List Value → List (Addr × Obj) → Prop) (xv : Value) (s₂ : Shared) : Prop :=
  ∃ l its k h' tk news', xv = .ref l ∧ s₂ = { s₁ with heap := h', toks := tk } ∧ Fr h₀ L h' m ∧ News h₀ L h' ((I, oI) :: (C, oC) :: (D, lst ys) :: news') ∧ Off3 I C D news' ∧
    (l, ({ cls := .type "list", data := .seq its k } : Obj)) ∈ news' ∧ ys.length + its.size ≤ sizeLine ∧ Inv (ys ++ its.toList) news'
theorem block2 {x y : Str} {px py py' : Pos} {i0 i1 : Expr} {scope : Scope} {cl : List (Str × Addr)} {pos : Pos} {s₂ : Shared} {I : Addr} {n : Nat} {P : Nat → Value → Prop} {St : Nat → Heap → Prop} {news : List (Addr × Obj)}
    {Inv : Nat → List Value → List (Addr × Obj) → Prop} {RR : Value → Addr → Result → Shared → Prop}
    (W : Walks prog w A I [I] [I] n P St) (hIo : ∀ i h, St i h → ∃ o, h.get? I = some o)
    (hSt : ∀ i h h' o, St i h → h.get? I = some o → h'.get? I = some o → St i h')
    (hcell : ∀ y ∈ scope.names, y.2 ≠ .cell) (hkind : scope.kind = .function) (hx : scope.names.lookup x = some .local) (hy : scope.names.lookup y = some .local) (hdb : (y == ("__debug__" : Str)) = false) (hst : St 0 s₂.heap) (hIlt : I < s₂.heap.objs.size)
    (hh : A.handled = none) (hf1 : ∀ x env, foldedSetIterable i1 env x = pure x)
    (F : Fr h₀ L s₂.heap m) (N : News h₀ L s₂.heap news) (hIL : L ≠ I) (hI₀ : h₀.get? I = none) (off : ∀ p ∈ news, p.1 ≠ I) (hInv : Inv 0 [] news)
    (step : ∀ i v I oI C oC D m₂ h tk ys news (E' : Value → Shared → Prop), i < n → P i v → Inv i ys news → NsObj oC m₂ → m₂ x = some v → Fr h₀ L h m → News h₀ L h ((I, oI) :: (C, oC) :: (D, lst ys) :: news) → Off3 I C D news → ((@Ne Nat I C) ∧ (@Ne Nat I D) ∧ (@Ne Nat C D)) →
      wpAny (model prog w) A (eval i1 (compEnvC scope cl C env)) (Src2 h₀ L m { s₂ with heap := h, toks := tk } I oI C oC D ys (Inv (i + 1))) E' { s₂ with heap := h, toks := tk })
    (hRR : ∀ D C h tk m' ys news', Fr h₀ L h m → News h₀ L h ((D, lst ys) :: news') → Off1 D news' → h.Ns C m' → h₀.get? C = none → h₀.get? D = none → C ≠ L → D ≠ L → C ≠ D → (∀ p ∈ news', p.1 ≠ C) → Inv n ys news' → RR (.ref D) C (.ok .next) { s₂ with heap := h, toks := tk }) :
    wpAny (model prog w) A (newList []) (fun acc s₃ => wpAny (model prog w) A (newFunctionEnv scope env.globals cl [] env.qual none .none (some env)) (fun cenv s₄ =>
      codeAny (model prog w) A (.compStart (.ListComp (.Name y py) [⟨.Name x px, i0, [], 0⟩, ⟨.Name y py', i1, [], 0⟩] scope pos) 0 (.ref I) acc { cenv with scope := relabel scope env }) (RR acc cenv.locals) s₄) E s₃) E s₂ := by
  refine wpAny_newObj_type (wpAny_newFunctionEnv hcell (by intro y hy; simp at hy) (fun h₁ hns₁ hsb₁ => ?_) hkind)
  dsimp only at hns₁ hsb₁ ⊢
  generalize hH2 : s₂.heap.push { cls := .type "list", dict := none, data := .seq ([] : List Value).toArray } = H2 at hns₁ hsb₁ ⊢
  have hC : H2.objs.size = s₂.heap.objs.size + 1 := by rw [← hH2, Heap.size_push]
  have hDC : s₂.heap.objs.size ≠ H2.objs.size := by rw [hC]; exact Nat.ne_of_lt (Nat.lt_succ_self _)
  have below : ∀ b, b < s₂.heap.objs.size → b ≠ H2.objs.size ∧ b ≠ s₂.heap.objs.size := fun b hb => ⟨by rw [hC]; exact Nat.ne_of_lt (Nat.lt_succ_of_lt hb), Nat.ne_of_lt hb⟩
  have old : ∀ b o, s₂.heap.get? b = some o → h₁.get? b = some o := fun b o e => hsb₁.extBut b o (below b (Heap.lt_size e)).1 (Heap.get?_push_of_some _ (hH2 ▸ Heap.get?_push_of_some _ e))
  have hacc : h₁.get? s₂.heap.objs.size = some (lst []) := hsb₁.extBut _ _ hDC (Heap.get?_push_of_some _ (hH2 ▸ Heap.get?_push_size _ rfl))
  have hst₁ : St 0 h₁ := W.frame _ _ _ hst fun b _ o e => old b o e
  have fresh : ∀ a, s₂.heap.objs.size ≤ a → s₂.heap.get? a = none := fun a ha => by
    cases e : s₂.heap.get? a with
    | none => rfl
    | some o' => exact absurd (Heap.lt_size e) (Nat.not_lt.mpr ha)
  have fresh₀ : ∀ a, s₂.heap.objs.size ≤ a → h₀.get? a = none := fun a ha => by
    cases e : h₀.get? a with
    | none => rfl
    | some o' => have := F.keep a o' e; rw [fresh a ha] at this; cases this
  have hD₀ : h₀.get? s₂.heap.objs.size = none := fresh₀ _ (Nat.le_refl _)
  have hC₀ : h₀.get? H2.objs.size = none := fresh₀ _ (by rw [hC]; exact Nat.le_succ _)
  have hLlt : L < s₂.heap.objs.size := F.ns.lt
  have hDL : s₂.heap.objs.size ≠ L := Ne.symm (below L hLlt).2
  have hCL : H2.objs.size ≠ L := Ne.symm (below L hLlt).1
  have hCI : I ≠ H2.objs.size := (below I hIlt).1
  have hDI : I ≠ s₂.heap.objs.size := (below I hIlt).2
  have off₀ : Off3 I H2.objs.size s₂.heap.objs.size news := Off3.of fun p hp => ⟨off p hp, (below _ (Heap.lt_size (N p hp).1)).1, (below _ (Heap.lt_size (N p hp).1)).2⟩
  have hky : (compEnvC scope cl H2.objs.size env).kindOf y = some .local := lookup_relabel_local hy
  have hkf : (compEnvC scope cl H2.objs.size env).scope.kind = .function := by simp [compEnvC, relabel, hkind]
  have loop : ∀ s₃ : Shared, s₃ = { s₂ with heap := h₁, toks := s₂.toks + ([] : List (Str × Value)).length } →
      codeAny (model prog w) A (.compLoop (.ListComp (.Name y py) [⟨.Name x px, i0, [], 0⟩, ⟨.Name y py', i1, [], 0⟩] scope pos) 0 (.ref I) (.ref s₂.heap.objs.size) (compEnvC scope cl H2.objs.size env))
        (RR (.ref s₂.heap.objs.size) H2.objs.size) s₃ := by
    rintro s₃ rfl
    refine codeAny_loop rfl
      (fun k s' => ∃ h' tk i ys m' news', s' = { s₂ with heap := h', toks := tk } ∧ i ≤ n ∧ k = n + 1 - i ∧ St i h' ∧ Fr h₀ L h' m ∧ h'.Ns H2.objs.size m' ∧ News h₀ L h' ((s₂.heap.objs.size, lst ys) :: news') ∧
        Off3 I H2.objs.size s₂.heap.objs.size news' ∧ Inv i ys news') ?_ (n + 1)
      ⟨h₁, _, 0, [], _, news, rfl, Nat.zero_le _, rfl, hst₁, F.keeps old, hns₁, fun p hp => ?_, off₀, hInv⟩
    · rintro k s' ⟨h', tk, i, ys, m', news', rfl, hi, rfl, hst', F', hn', N', off', hInv'⟩
      show wpAny _ A ((compTurn _ 0 (.ref I) (.ref s₂.heap.objs.size) (compEnvC scope cl H2.objs.size env)).onRaise (fun x => do noteFrame x _; theTreesLotGoes x)) _ _ _
      refine wpAny_noted ?_
      rw [turn_out]
      refine wpAny_bind (wpAny_standAt (wpAny_bind ?_))
      by_cases hlt : i < n
      · refine W.item i _ _ _ hlt hst' fun v h₂ tk₂ hPv hst₂ hk₂ => ?_
        refine wpAny_bind (wpAny_of_eq rfl ?_)
        refine wpAny_bind (wpAny_assign_Name (wpAny_storeName_local (lookup_relabel_local hx) (hn'.at' fun o e => hk₂ _ o (by simpa using Ne.symm hCI) e) (fun h₃ hn₃ hs₃ => ?_) (by simp [compEnvC, relabel, hkind])))
        refine wpAny_bind (wpAny_tests_nil ?_)
        simp only [if_true]
        have hst₃ : St (i + 1) h₃ := W.frame _ _ _ hst₂ fun b hb o e => hs₃.extBut b o (fun q => hCI ((List.mem_singleton.mp hb).symm.trans q)) e
        obtain ⟨oI, heI⟩ := hIo _ _ hst₃
        obtain ⟨oC, heC, hoC⟩ := ns_obj hn₃
        have F₃ : Fr h₀ L h₃ m := (LCg.fr_but F' hk₂ hIL hI₀).change hs₃ hCL hC₀
        have off3 := off'.mem
        have N₂ : News h₀ L h₂ ((s₂.heap.objs.size, lst ys) :: news') := news_but N' hk₂ fun p hp => by
          rcases List.mem_cons.mp hp with rfl | hp
          · exact Ne.symm hDI
          · exact (off3 p hp).1
        have N₃ : News h₀ L h₃ ((I, oI) :: (H2.objs.size, oC) :: (s₂.heap.objs.size, lst ys) :: news') := fun p hp => by
          rcases List.mem_cons.mp hp with rfl | hp
          · exact ⟨heI, Ne.symm hIL, hI₀⟩
          · rcases List.mem_cons.mp hp with rfl | hp
            · exact ⟨heC, hCL, hC₀⟩
            · have z := N₂ p hp
              refine ⟨hs₃.extBut _ _ ?_ z.1, z.2⟩
              rcases List.mem_cons.mp hp with rfl | hp
              · exact hDC
              · exact (off3 p hp).2.1
        refine wpAny_bind (wpAny_mono (step i v I oI H2.objs.size oC s₂.heap.objs.size _ h₃ _ ys news' _ hlt hPv hInv' hoC (if_pos rfl) F₃ N₃ off' ⟨hCI, hDI, Ne.symm hDC⟩) (fun xv s₄ h₄ => ?_) fun _ _ e => e)
        obtain ⟨l, its, kk, h₄, tk₄, news₄, rfl, rfl, F₄, N₄, off₄, hl, hsz, hInv₄⟩ := h₄
        have zI := (N₄ (I, oI) List.mem_cons_self).1
        have zC := (N₄ (H2.objs.size, oC) (List.mem_cons_of_mem _ List.mem_cons_self)).1
        have zD := (N₄ (s₂.heap.objs.size, lst ys) (List.mem_cons_of_mem _ (List.mem_cons_of_mem _ List.mem_cons_self))).1
        have N₄' : News h₀ L h₄ news₄ := fun p hp => N₄ p (List.mem_cons_of_mem _ (List.mem_cons_of_mem _ (List.mem_cons_of_mem _ hp)))
        have zl := (N₄' _ hl).1
        have off4 := off₄.mem
        have hll : h₄.IsList l its := ⟨_, zl, rfl, _, rfl⟩
        refine wpAny_bind (wpAny_standAt (wpAny_bind (wpAny_of_eq (hf1 _ _) ?_)))
        refine wpAny_bind (wpAny_holding (wpAny_pyIter_list hll ?_))
        have up : ∀ b o, h₄.get? b = some o → (h₄.push { cls := .type "list_iterator", data := .fields #[.ref l, .int 0 0] }).get? b = some o := fun b o e => Heap.get?_push_of_some _ e
        have hI2 : (h₄.push { cls := .type "list_iterator", data := .fields #[.ref l, .int 0 0] }).IsListIter h₄.objs.size l 0 := ⟨_, Heap.get?_push_size _ rfl, rfl, rfl⟩
        generalize (h₄.push { cls := .type "list_iterator", data := .fields #[.ref l, .int 0 0] }) = h₅ at up hI2 ⊢
        have nI2 : ∀ b o, h₄.get? b = some o → b ≠ h₄.objs.size := fun b o e => Nat.ne_of_lt (Heap.lt_size e)
        refine wpAny_bind (wpAny_runOwn ?_)
        have go : ∀ R' : Result → Shared → Prop, (∀ h' tk m', h'.get? s₂.heap.objs.size = some (lst (ys ++ its.toList)) → h'.Ns H2.objs.size m' → (∀ b o, b ≠ h₄.objs.size → b ≠ s₂.heap.objs.size → b ≠ H2.objs.size → h₅.get? b = some o → h'.get? b = some o) → R' (.ok .next) { s₂ with heap := h', toks := tk }) →
            codeAny (model prog w) A (.compLoop (.ListComp (.Name y py) [⟨.Name x px, i0, [], 0⟩, ⟨.Name y py', i1, [], 0⟩] scope pos) 1 (.ref h₄.objs.size) (.ref s₂.heap.objs.size) (compEnvC scope cl H2.objs.size env)) R' { s₂ with heap := h₅, toks := tk₄ } := fun R' hR' =>
          inner2 (s := { s₂ with heap := h₅, toks := tk₄ }) hh hky hkf hdb hI2 (hll.at fun o e => up _ _ e) (up _ _ zD) (hoC.ns (up _ _ zC)) (Ne.symm (nI2 _ _ zD)) (Ne.symm (nI2 _ _ zC)) hDC (nI2 _ _ zl) (off4 _ hl).2.2 (off4 _ hl).2.1 hsz hR'
        have last : ∀ R' : Result → Shared → Prop, (∀ s', (∃ h' tk m', s' = { s₂ with heap := h', toks := tk } ∧ h'.get? s₂.heap.objs.size = some (lst (ys ++ its.toList)) ∧ h'.Ns H2.objs.size m' ∧ (∀ b o, b ≠ h₄.objs.size → b ≠ s₂.heap.objs.size → b ≠ H2.objs.size → h₅.get? b = some o → h'.get? b = some o)) → R' (.ok .next) s') →
            codeAny (model prog w) A (.compStart (.ListComp (.Name y py) [⟨.Name x px, i0, [], 0⟩, ⟨.Name y py', i1, [], 0⟩] scope pos) 1 (.ref h₄.objs.size) (.ref s₂.heap.objs.size) (compEnvC scope cl H2.objs.size env)) R' { s₂ with heap := h₅, toks := tk₄ } := fun R' hR' =>
          have := go R' (fun h' tk m' a b c => hR' _ ⟨h', tk, m', rfl, a, b, c⟩)
          start_in this (wpAny_pyIter_listiter (s := { s₂ with heap := h₅, toks := tk₄ }) hI2 this)
        refine last _ ?_
        rintro s' ⟨h₆, tk₆, m₆, rfl, zD₆, hn₆, k₆⟩
        have k4 : ∀ b o, b ≠ s₂.heap.objs.size → b ≠ H2.objs.size → h₄.get? b = some o → h₆.get? b = some o := fun b o b1 b2 e => k₆ b o (nI2 _ _ e) b1 b2 (up _ _ e)
        refine wpAny_pure ⟨rfl, n + 1 - (i + 1), by omega, h₆, tk₆, i + 1, ys ++ its.toList, m₆, news₄, rfl, hlt, rfl, hSt _ _ _ _ hst₃ heI (k4 _ _ hDI hCI zI), ?_, hn₆, ?_, off₄, hInv₄⟩
        · obtain ⟨oL, es, ep, hL, hr⟩ := F₄.ns
          exact ⟨⟨oL, es, ep, k4 _ _ (Ne.symm hDL) (Ne.symm hCL) hL, hr⟩, fun b o e => k4 b o (fun q => by rw [q, hD₀] at e; cases e) (fun q => by rw [q, hC₀] at e; cases e) (F₄.keep b o e), F₄.above⟩
        · intro p hp
          rcases List.mem_cons.mp hp with rfl | hp
          · exact ⟨zD₆, hDL, hD₀⟩
          · exact ⟨k4 _ _ (off4 p hp).2.2 (off4 p hp).2.1 (N₄' p hp).1, (N₄' p hp).2⟩
      · obtain rfl : i = n := Nat.le_antisymm hi (Nat.not_lt.mp hlt)
        refine W.done _ _ _ hst' fun h₂ tk₂ hk₂ => ?_
        have off3 := off'.mem
        exact wpAny_pure (hRR _ _ h₂ tk₂ _ ys news' (LCg.fr_but F' hk₂ hIL hI₀) (news_but N' hk₂ fun p hp => by
          rcases List.mem_cons.mp hp with rfl | hp
          · exact Ne.symm hDI
          · exact (off3 p hp).1) off'.one (hn'.at' fun o e => hk₂ _ o (by simpa using Ne.symm hCI) e) hC₀ hD₀ hCL hDL (Ne.symm hDC) (fun p hp => (off3 p hp).2.1) hInv')
    · rcases List.mem_cons.mp hp with rfl | hp
      · exact ⟨hacc, hDL, hD₀⟩
      · exact ⟨old _ _ (N p hp).1, (N p hp).2⟩
  exact codeAny_compStart_list (loop _ rfl) (W.self 0 _ _ _ hst₁ (loop _ rfl))
/-- the range of the outer clause -/
def Src0 (h₀ : Heap) (L : Addr) (m : Str → Option Value) (n : Nat) (Inv : Nat → List Value → List (Addr × Obj) → Prop) (z : Str) (Q : Flow → Shared → Prop) (xv : Value) (s₁ : Shared) : Prop :=
  ∃ r t u v news, xv = .ref r ∧ Fr h₀ L s₁.heap m ∧ News h₀ L s₁.heap news ∧ IsRange s₁.heap r 0 (n : Int) 1 t u v ∧ Builtin.Range.small 0 (n : Int) 1 = true ∧ Builtin.Range.rangeSize 0 (n : Int) 1 = ((n : Nat) : Int) ∧ Inv 0 [] news ∧
      ∀ D h tk ys news', Fr h₀ L h (fun w => if w = z then some (.ref D) else m w) → News h₀ L h ((D, lst ys) :: news') → Off1 D news' → Inv n ys news' → Q .next { s₁ with heap := h, toks := tk }
/-- an assignment of a comprehension of two clauses, the outer one over a range -/
theorem Assign_Comp2 {x y z : Str} {px py py' pz : Pos} {i0 i1 : Expr} {scope : Scope} {cl : List (Str × Addr)} {pos spos : Pos} {n : Nat} {Inv : Nat → List Value → List (Addr × Obj) → Prop} {Q : Flow → Shared → Prop} (hLe : env.locals = L)
    (hsw : swapsWith (.ListComp (.Name y py) [⟨.Name x px, i0, [], 0⟩, ⟨.Name y py', i1, [], 0⟩] scope pos) (some (.Name z pz)) spos.line env = pure true)
    (hclos : closureFor scope env = pure cl) (hcell : ∀ z ∈ scope.names, z.2 ≠ .cell) (hkind : scope.kind = .function)
    (hnames : ∀ z ∈ scope.names, z.2 = .local → scope.names.lookup z.1 = some .local) (hx : scope.names.lookup x = some .local) (hy : scope.names.lookup y = some .local) (hdb : (y == ("__debug__" : Str)) = false)
    (hz : env.kindOf z = some .local) (hp : (env.scope.kind == .class || (env.scope.kind == .module && env.locals != env.globals)) = false)
    (hh : A.handled = none) (hf1 : ∀ x env, foldedSetIterable i1 env x = pure x) (hsz : n ≤ 1000)
    (step : ∀ i v I oI C oC D m₂ ys news (E' : Value → Shared → Prop) sx, i < n → (∃ t, v = .int (i : Int) t) → Inv i ys news → NsObj oC m₂ → m₂ x = some v → Fr h₀ L sx.heap m → News h₀ L sx.heap ((I, oI) :: (C, oC) :: (D, lst ys) :: news) → Off3 I C D news → ((@Ne Nat I C) ∧ (@Ne Nat I D) ∧ (@Ne Nat C D)) →
      wpAny (model prog w) A (eval i1 (compEnvC scope cl C env)) (Src2 h₀ L m sx I oI C oC D ys (Inv (i + 1))) E' sx)
    (h : wpAny (model prog w) A (eval i0 env) (Src0 h₀ L m n Inv z Q) E s)
    (hs : ∀ x, foldedSetIterable i0 env x = pure x := by intro _; rfl) :
    wpAny (model prog w) A (exec (.Assign [.Name z pz] (.ListComp (.Name y py) [⟨.Name x px, i0, [], 0⟩, ⟨.Name y py', i1, [], 0⟩] scope pos) spos) env) Q E s := by
  subst hLe
  rw [exec_Assign_Name_used _ _ _ _ hsw]
  refine wpAny_bind (wpAny_standAt (wpAny_bind ?_))
  show wpAny _ A (do let _ ← comprehension (.ListComp (.Name y py) [⟨.Name x px, i0, [], 0⟩, ⟨.Name y py', i1, [], 0⟩] scope pos) scope env _ (newList []) false (eval i0 env) (some (assign (.Name z pz) env))) _ _ s
  refine wpAny_bind (wpAny_mono (wpAny_comprehension_free (use := some (assign (.Name z pz) env)) (Q := fun _ s' => Q .next s') rfl hs hclos hkind hnames
    (wpAny_mono h (fun xv s₁ h₁ => ?_) fun _ _ e => e)) (fun _ s' hq => wpAny_pure (wpAny_pure hq)) fun _ _ e => e)
  obtain ⟨r, t, u, v, news, rfl, F, N, hr, hsm, hn, hI0, hfin⟩ := h₁
  refine wpAny_pyIter_range hr hsm ?_
  refine block2 (range_walks hh 0 n) (fun i h st => ⟨_, st⟩) (fun i h h' o st e e' => by
    have st' : h.get? _ = some _ := st
    show h'.get? _ = some _
    rw [e', ← e]; exact st') hcell hkind hx hy hdb (by show IsRangeIter _ _ _ _ _; rw [hn]; simpa using Heap.get?_push_size _ rfl) (by
      show s₁.heap.objs.size < (s₁.heap.push _).objs.size
      rw [Heap.size_push]; exact Nat.lt_succ_self _) hh hf1
    (F.keeps fun _ _ e => Heap.get?_push_of_some _ e) (N.grown fun _ _ e => Heap.get?_push_of_some _ e) (Nat.ne_of_lt F.ns.lt) (next_is_new F) (fun p hp => Nat.ne_of_lt (Heap.lt_size (N p hp).1)) hI0
    (fun i v I oI C oC D m₂ h tk ys news E' hi hP hv hC hm Fx Nx off ne => step i v I oI C oC D m₂ ys news E' _ hi (by obtain ⟨t, e⟩ := hP; exact ⟨t, by rw [e, Int.zero_add]⟩) hv hC hm Fx Nx off ne) ?_
  intro D C h' tk m' ys news' F' N' o1 hn hC₀ hD₀ hCL hDL hCD offC fin
  show wpAny _ A (assign (.Name z pz) env (.ref D)) _ _ _
  refine wpAny_assign_Name (wpAny_storeName_local hz F'.ns (fun h₂ hn₂ hs₂ => ?_) hp)
  have hL₀ : h₀.get? env.locals = none := Heap.get?_none_of_le F'.above
  have F₂ : Fr h₀ env.locals h₂ (fun w => if w = z then some (.ref D) else m w) := ⟨hn₂, fun b o e => hs₂.extBut b o (fun q => by rw [q, hL₀] at e; cases e) (F'.keep b o e), F'.above⟩
  refine ⟨m', hn.sameBut hs₂ hCL, fun h'' hs'' => hfin D h'' _ ys news' (F₂.change hs'' hCL hC₀) (fun p hp => ?_) o1 fin⟩
  have z : h₂.get? p.1 = some p.2 := hs₂.extBut _ _ (N' p hp).2.1 (N' p hp).1
  refine ⟨hs''.extBut _ _ ?_ z, (N' p hp).2⟩
  rcases List.mem_cons.mp hp with rfl | hp
  · exact Ne.symm hCD
  · exact offC p hp
end
end Mine
end
section
open PySem PySem.W PyProof.Rows PySem.Calls
set_option Elab.async false
set_option maxRecDepth 100000
set_option maxHeartbeats 8000000
set_option linter.unusedVariables false
namespace Mine
open PyProof.Rows.LCg
theorem paired_get {α β : Type} {F : α → β → Prop} : ∀ {l₁ : List α} {l₂ : List β}, Paired F l₁ l₂ → ∀ (i : Nat) (a : α), l₁[i]? = some a → ∃ b, l₂[i]? = some b ∧ F a b
  | _, _, .nil, i, a, h => by simp at h
  | _, _, .cons h t, 0, a, e => by
    simp only [List.getElem?_cons_zero, Option.some.injEq] at e ⊢
    subst e; exact ⟨_, rfl, h⟩
  | _, _, .cons h t, i + 1, a, e => by
    simp only [List.getElem?_cons_succ] at e ⊢
    exact paired_get t i a e
/-- a digit, its list, what lies in it -/
abbrev Grp := Nat × Addr × List Value
def glist (G : List Grp) : List (Addr × Obj) := G.map fun g => (g.2.1, lst g.2.2)
section
variable {w : World} {KT : Type} [DecidableEq KT]
def BookOf (knd : KeyKind PySem.Challenge.rw_in0001_01.row.prog w KT) (enc : Nat → KT) (es : Array DictEntry) (G : List Grp) : Prop :=
  Paired (fun (e : DictEntry) (g : Grp) => knd.is (enc g.1) e.key = true ∧ e.hash = knd.hash (enc g.1) ∧ e.val = .ref g.2.1) es.toList G
variable {knd : KeyKind PySem.Challenge.rw_in0001_01.row.prog w KT} {enc : Nat → KT} {es : Array DictEntry} {G : List Grp}
theorem BookOf.keys (h : BookOf knd enc es G) : KeysOf knd es := fun e he => by
  obtain ⟨i, hi, rfl⟩ := Array.mem_iff_getElem.mp he
  obtain ⟨g, _, h1, h2, _⟩ := paired_get h i es[i] (by simp [hi])
  exact ⟨_, h1, h2⟩
theorem BookOf.size (h : BookOf knd enc es G) : es.size = G.length := by
  have := Paired.length h
  simpa using this
theorem BookOf.push (h : BookOf knd enc es G) {d : Nat} {l : Addr} {key : Value} (hk : knd.is (enc d) key = true) (ps : List Value) : BookOf knd enc (es.push ⟨knd.hash (enc d), key, .ref l⟩) (G ++ [(d, l, ps)]) := by
  unfold BookOf
  rw [Array.toList_push]
  exact Paired.snoc h ⟨hk, rfl, rfl⟩
theorem BookOf.found (h : BookOf knd enc es G) (inj : ∀ a b, enc a = enc b → a = b) {d i : Nat} {v : Value} (hi : (es.findIdx? fun e => knd.is (enc d) e.key) = some i) (hv : es[i]?.map (·.val) = some v) : ∃ l ps, G[i]? = some (d, l, ps) ∧ v = .ref l := by
  obtain ⟨hlt, hp, _⟩ := Array.findIdx?_eq_some_iff_getElem.mp hi
  obtain ⟨g, hg, h1, h2, h3⟩ := paired_get h i es[i] (by simp [hlt])
  have := inj _ _ (knd.inj _ _ _ h1 hp)
  obtain ⟨d', l, ps⟩ := g
  dsimp only at this h3
  subst this
  rw [Array.getElem?_eq_getElem hlt] at hv
  simp only [Option.map_some, Option.some.injEq] at hv
  exact ⟨l, ps, hg, by rw [← hv, h3]⟩
theorem paired_get' {α β : Type} {F : α → β → Prop} : ∀ {l₁ : List α} {l₂ : List β}, Paired F l₁ l₂ → ∀ (i : Nat) (b : β), l₂[i]? = some b → ∃ a, l₁[i]? = some a ∧ F a b
  | _, _, .nil, i, a, h => by simp at h
  | _, _, .cons h t, 0, a, e => by
    simp only [List.getElem?_cons_zero, Option.some.injEq] at e ⊢
    subst e; exact ⟨_, rfl, h⟩
  | _, _, .cons h t, i + 1, a, e => by
    simp only [List.getElem?_cons_succ] at e ⊢
    exact paired_get' t i a e
theorem BookOf.missing (h : BookOf knd enc es G) {d : Nat} (hi : (es.findIdx? fun e => knd.is (enc d) e.key) = none) : ∀ g ∈ G, g.1 ≠ d := fun g hg e => by
  obtain ⟨i, hlt, hgi⟩ := List.mem_iff_getElem.mp hg
  obtain ⟨en, hen, h1, _⟩ := paired_get' h i g (by rw [List.getElem?_eq_getElem hlt, hgi])
  have hen' : en ∈ es := by
    have : es[i]? = some en := by simpa using hen
    exact Array.mem_of_getElem? this
  have := Array.findIdx?_eq_none_iff.mp hi en hen'
  rw [← e, h1] at this
  cases this
/-- boxes[key] while the book is dealt to -/
theorem book_get {b dx : Addr} {n d : Nat} {key : Value}
    {mean : ExcName → Option Value} {mg mb : Str → Option Value} {dp un : Nat} {gd : Option (List Code)} {cn : Str} {cs : Scope} {a : Addr} {ccd : Value} {cl : List (Str × Addr)} {outer : List Env} {A₀ A : Around} {base h₀ : Heap} {L : Addr} {m : Str → Option Value} {s : Shared} {Q E : Value → Shared → Prop} {rest : List (Addr × Obj)}
    (B : Below A₀ base outer h₀) (F : Fr h₀ L s.heap m) (N : News h₀ L s.heap ((b, fddObj dx es n) :: (dx, dictOf [] 0) :: rest)) (X : (K w.params).In h₀) (T : Top topProg TLo mean mg mb h₀) (eA : A = ktrTop dp un gd cn cs L a ccd cl outer) (hk : cs.kind = .function) (hd : dp ≤ 440) (hu : un ≤ 890)
    (bk : BookOf knd enc es G) (inj : ∀ a b, enc a = enc b → a = b) (hkey : knd.is (enc d) key = true) (hbs : (b == sysModules) = false) (hsz : G.length ≤ 1000) (hnb : ∀ p ∈ (dx, dictOf [] 0) :: rest, p.1 ≠ b)
    (h1 : ∀ (i : Nat) (l : Addr) (ps : List Value) tk', G[i]? = some (d, l, ps) → Q (.ref l) { s with toks := tk' })
    (h2 : (∀ g ∈ G, g.1 ≠ d) → ∀ l es' n' h' tk', BookOf knd enc es' (G ++ [(d, l, [])]) → Fr h₀ L h' m → News h₀ L h' ((l, lst []) :: (b, fddObj dx es' n') :: (dx, dictOf [] 0) :: rest) → (∀ p ∈ (b, fddObj dx es' n') :: (dx, dictOf [] 0) :: rest, p.1 ≠ l) → Q (.ref l) { s with heap := h', toks := tk' }) :
    wpAny (model PySem.Challenge.rw_in0001_01.row.prog w) A (getItem (.ref b) key) Q E s := by
  subst eA
  refine fdd_get (knd := knd) (k := enc d) (X.keeps F.keep) (N.get (List.mem_cons_self ..)) hkey bk.keys hbs ?_ ?_
  · intro i v hi hv tk'
    obtain ⟨l, ps, hg, rfl⟩ := bk.found inj hi hv
    exact h1 i l ps tk' hg
  · intro hno R tk' hR
    refine miss_tells (s := { s with toks := tk' }) (dp := dp) (un := un + 1) (gd := gd) w b dx es n key B F N X T hk (by omega) (by omega) hkey bk.keys hno hbs (by rw [bk.size]; exact hsz) hnb ?_
    intro l n' h' tk'' F' N' off
    exact hR _ _ (h2 (bk.missing hno) l _ n' h' tk'' (bk.push hkey []) F' N' off)
end
end Mine
end
section
open PySem PySem.W PyProof.Rows PySem.Calls
set_option Elab.async false
set_option maxRecDepth 100000
set_option maxHeartbeats 8000000
set_option linter.unusedVariables false
namespace Mine
open PyProof.Rows.LCg
section
variable {w : World} {KT : Type} [DecidableEq KT] {knd : KeyKind PySem.Challenge.rw_in0001_01.row.prog w KT} {enc : Nat → KT} {es : Array DictEntry} {G : List Grp}
/-- boxes[key] when the book is frozen -/
theorem book_frozen {b dx f c ca : Addr} {oc oo : Obj} {vs : Array Value} {tq t1 : Tok} {ctv : Value} {n d : Nat} {key : Value}
    {mean : ExcName → Option Value} {mg mb : Str → Option Value} {dp un : Nat} {gd : Option (List Code)} {cn : Str} {cs : Scope} {a : Addr} {ccd : Value} {cl : List (Str × Addr)} {outer : List Env} {A₀ A : Around} {base h₀ : Heap} {L : Addr} {m : Str → Option Value} {s : Shared} {Q E : Value → Shared → Prop} {rest : List (Addr × Obj)}
    (B : Below A₀ base outer h₀) (F : Fr h₀ L s.heap m) (N : News h₀ L s.heap ((b, fddObj dx es n) :: (dx, frozenD w.params t1 f) :: (f, lamObj ((mg "__name__").getD .none) ca c ctv) :: (c, oc) :: (ca, oo) :: rest)) (X : (K w.params).In h₀) (T : Top topProg TLo mean mg mb h₀) (eA : A = ktrTop dp un gd cn cs L a ccd cl outer) (hk : cs.kind = .function) (hd : dp ≤ 440) (hu : un ≤ 890)
    (hoc : oc.data = .fields vs) (hvs : vs[1]? = some (.str ((S "FreezableDefaultDict.freeze" ++ ".<locals>.") ++ "<lambda>") tq)) (hoo : oo.data = .cell (some (.ref b)))
    (bk : BookOf knd enc es G) (inj : ∀ a b, enc a = enc b → a = b) (hkey : knd.is (enc d) key = true) (hbs : (b == sysModules) = false)
    (h1 : ∀ (i : Nat) (l : Addr) (ps : List Value) tk', G[i]? = some (d, l, ps) → Q (.ref l) { s with toks := tk' })
    (h2 : (∀ g ∈ G, g.1 ≠ d) → ∀ l h' tk', Fr h₀ L h' m → News h₀ L h' ((l, lst []) :: (b, fddObj dx es n) :: (dx, frozenD w.params t1 f) :: (f, lamObj ((mg "__name__").getD .none) ca c ctv) :: (c, oc) :: (ca, oo) :: rest) → (∀ p ∈ (b, fddObj dx es n) :: (dx, frozenD w.params t1 f) :: (f, lamObj ((mg "__name__").getD .none) ca c ctv) :: (c, oc) :: (ca, oo) :: rest, p.1 ≠ l) → Q (.ref l) { s with heap := h', toks := tk' }) :
    wpAny (model PySem.Challenge.rw_in0001_01.row.prog w) A (getItem (.ref b) key) Q E s := by
  subst eA
  refine fdd_get (knd := knd) (k := enc d) (X.keeps F.keep) (N.get (List.mem_cons_self ..)) hkey bk.keys hbs ?_ ?_
  · intro i v hi hv tk'
    obtain ⟨l, ps, hg, rfl⟩ := bk.found inj hi hv
    exact h1 i l ps tk' hg
  · intro hno R tk' hR
    refine miss_frozen (s := { s with toks := tk' }) (dp := dp) (un := un + 1) (gd := gd) w b dx f c ca oc oo vs tq ctv t1 es n key B F N X T hk (by omega) (by omega) hoc hvs hoo ?_
    intro l h' tk'' F' N' off
    exact hR _ _ (h2 (bk.missing hno) l h' tk'' F' N' off)
end
end Mine
end
section
open PySem PySem.W PyProof.Rows PySem.Calls
set_option Elab.async false
set_option maxRecDepth 100000
set_option maxHeartbeats 8000000
set_option linter.unusedVariables false
namespace Mine
open PyProof.Rows.LCg
theorem news_apart {h₀ h : Heap} {L a b : Addr} {o o' : Obj} {l : List (Addr × Obj)} (N : News h₀ L h l) (h1 : (a, o) ∈ l) (h2 : (b, o') ∈ l) (ne : o ≠ o') : a ≠ b := fun q => by
  have e1 := (N _ h1).1
  have e2 := (N _ h2).1
  dsimp only at e1 e2
  rw [q, e2] at e1
  exact ne (Option.some.inj e1).symm
theorem lst_ne_fdd (vs : List Value) (dx : Addr) (es : Array DictEntry) (n : Nat) : lst vs ≠ fddObj dx es n := fun h => by
  have := congrArg Obj.cls h
  cases this
theorem lst_ne_dict (vs : List Value) (es : List DictEntry) (n : Nat) : lst vs ≠ dictOf es n := fun h => by
  have := congrArg Obj.cls h
  dsimp only [dictOf] at this
  exact absurd this (by decide)
theorem glist_mem {G : List Grp} {i : Nat} {d : Nat} {l : Addr} {ps : List Value} (h : G[i]? = some (d, l, ps)) : (l, lst ps) ∈ glist G :=
  List.mem_map.mpr ⟨_, List.mem_of_getElem? h, rfl⟩
theorem map_set_self {α β : Type} (f : α → β) {G : List α} {i : Nat} {g g' : α} (hi : G[i]? = some g) (e : f g' = f g) : (G.set i g').map f = G.map f := by
  apply List.ext_getElem?
  intro j
  rw [List.getElem?_map, List.getElem?_map, List.getElem?_set]
  split
  · rename_i h
    subst h
    rw [hi]
    have hil : i < G.length := (List.getElem?_eq_some_iff.mp hi).1
    rw [if_pos hil]
    simp [e]
  · rfl
theorem nodup_inj {α : Type} {l : List α} (h : l.Nodup) {i j : Nat} (hi : i < l.length) (hj : j < l.length) (e : l[i] = l[j]) : i = j := by
  rcases Nat.lt_trichotomy i j with h1 | h1 | h1
  · exact absurd e (List.pairwise_iff_getElem.mp h i j hi hj h1)
  · exact h1
  · exact absurd e.symm (List.pairwise_iff_getElem.mp h j i hj hi h1)
def Sep (G : List Grp) (R : List (Addr × Obj)) : Prop := (G.map (·.2.1)).Nodup ∧ ∀ p ∈ R, ∀ g ∈ G, p.1 ≠ g.2.1
theorem Sep.set {G : List Grp} {R : List (Addr × Obj)} (h : Sep G R) {i d : Nat} {l : Addr} {ps qs : List Value} (hi : G[i]? = some (d, l, ps)) : Sep (G.set i (d, l, qs)) R := by
  have e : (G.set i (d, l, qs)).map (·.2.1) = G.map (·.2.1) := map_set_self _ hi rfl
  refine ⟨e ▸ h.1, fun p hp g hg => ?_⟩
  have : g.2.1 ∈ (G.set i (d, l, qs)).map (·.2.1) := List.mem_map_of_mem hg
  rw [e] at this
  obtain ⟨g', hg', e'⟩ := List.mem_map.mp this
  exact e' ▸ h.2 p hp g' hg'
theorem Sep.snoc {G : List Grp} {R : List (Addr × Obj)} (h : Sep G R) {d : Nat} {l : Addr} {ps : List Value} (h1 : ∀ p ∈ glist G ++ R, p.1 ≠ l) : Sep (G ++ [(d, l, ps)]) R := by
  refine ⟨?_, fun p hp g hg => ?_⟩
  · rw [List.map_append]
    refine List.nodup_append.mpr ⟨h.1, by simp, fun a ha b hb => ?_⟩
    obtain ⟨g, hg, rfl⟩ := List.mem_map.mp ha
    have : b = l := by simpa using hb
    subst this
    exact h1 (g.2.1, lst g.2.2) (List.mem_append_left _ (List.mem_map.mpr ⟨g, hg, rfl⟩))
  · rcases List.mem_append.mp hg with hg | hg
    · exact h.2 p hp g hg
    · rw [List.mem_singleton.mp hg]
      exact h1 p (List.mem_append_right _ hp)
/-- what the append writes: the groups with one changed, the rest as it was -/
theorem glist_set {G : List Grp} {i d : Nat} {l : Addr} {ps qs : List Value} (nd : (G.map (·.2.1)).Nodup) (hi : G[i]? = some (d, l, ps)) : ∀ p ∈ glist (G.set i (d, l, qs)), p = (l, lst qs) ∨ (p ∈ glist G ∧ p.1 ≠ l) := fun p hp => by
  obtain ⟨g, hg, rfl⟩ := List.mem_map.mp hp
  obtain ⟨j, hj, rfl⟩ := List.mem_iff_getElem.mp hg
  rw [List.length_set] at hj
  rw [List.getElem_set]
  split
  · exact .inl rfl
  · rename_i hne
    refine .inr ⟨List.mem_map.mpr ⟨G[j], List.getElem_mem hj, rfl⟩, fun q => hne ?_⟩
    have hil : i < G.length := (List.getElem?_eq_some_iff.mp hi).1
    have hgi : G[i] = (d, l, ps) := (List.getElem?_eq_some_iff.mp hi).2
    have e1 : (G.map (·.2.1))[i]'(by simpa using hil) = l := by simp [hgi]
    have e2 : (G.map (·.2.1))[j]'(by simpa using hj) = l := by simpa using q
    exact nodup_inj nd _ _ (e1.trans e2.symm)
theorem book_append {w : World} {A : Around} {s : Shared} {Q E : Value → Shared → Prop} {h₀ : Heap} {L : Addr} {m : Str → Option Value} {b dx : Addr} {es : Array DictEntry} {dxs : List DictEntry} {n n2 i d : Nat} {G : List Grp} {R : List (Addr × Obj)} {l : Addr} {ps : List Value} {x : Value}
    (F : Fr h₀ L s.heap m) (N : News h₀ L s.heap ((b, fddObj dx es n) :: (dx, dictOf dxs n2) :: (glist G ++ R))) (sp : Sep G R) (hi : G[i]? = some (d, l, ps)) (hsz : ps.length ≤ 1000)
    (h : ∀ h', Fr h₀ L h' m → News h₀ L h' ((b, fddObj dx es n) :: (dx, dictOf dxs n2) :: (glist (G.set i (d, l, ps ++ [x])) ++ R)) → Q .none { s with heap := h' }) :
    wpAny (model PySem.Challenge.rw_in0001_01.row.prog w) A (call (.builtin "list.append") [.ref l, x]) Q E s := by
  have hm : (l, lst ps) ∈ (b, fddObj dx es n) :: (dx, dictOf dxs n2) :: (glist G ++ R) := List.mem_cons_of_mem _ (List.mem_cons_of_mem _ (List.mem_append_left _ (glist_mem hi)))
  have hb : b ≠ l := Ne.symm (news_apart N hm (List.mem_cons_self ..) (lst_ne_fdd _ _ _ _))
  have hdx : dx ≠ l := Ne.symm (news_apart N hm (List.mem_cons_of_mem _ (List.mem_cons_self ..)) (lst_ne_dict _ _ _))
  have nl := N _ hm
  refine append_at (hsz := Nat.le_trans hsz (by decide)) nl.1 fun h' hs hl => h h' (F.change hs nl.2.1 nl.2.2) (fun p hp => ?_)
  have keep : ∀ p ∈ (b, fddObj dx es n) :: (dx, dictOf dxs n2) :: (glist G ++ R), p.1 ≠ l → h'.get? p.1 = some p.2 ∧ p.1 ≠ L ∧ h₀.get? p.1 = none := fun p hp ne => ⟨hs.extBut _ _ ne (N p hp).1, (N p hp).2⟩
  rcases List.mem_cons.mp hp with rfl | hp
  · exact keep _ (List.mem_cons_self ..) hb
  rcases List.mem_cons.mp hp with rfl | hp
  · exact keep _ (List.mem_cons_of_mem _ (List.mem_cons_self ..)) hdx
  rcases List.mem_append.mp hp with hp | hp
  · rcases glist_set sp.1 hi p hp with rfl | ⟨h1, h2⟩
    · exact ⟨hl.trans (congrArg some (lst_snoc ps x)), nl.2⟩
    · exact keep p (List.mem_cons_of_mem _ (List.mem_cons_of_mem _ (List.mem_append_left _ h1))) h2
  · exact keep p (List.mem_cons_of_mem _ (List.mem_cons_of_mem _ (List.mem_append_right _ hp))) (sp.2 p hp _ (List.mem_of_getElem? hi))
theorem BookOf.set {w : World} {KT : Type} [DecidableEq KT] {knd : KeyKind PySem.Challenge.rw_in0001_01.row.prog w KT} {enc : Nat → KT} {es : Array DictEntry} {G : List Grp} (h : BookOf knd enc es G) {i d : Nat} {l : Addr} {ps qs : List Value} (hi : G[i]? = some (d, l, ps)) : BookOf knd enc es (G.set i (d, l, qs)) := by
  unfold BookOf at *
  generalize es.toList = xs at h
  clear es
  induction h generalizing i with
  | nil => simp at hi
  | @cons a g l₁ l₂ h1 t ih =>
    cases i with
    | zero =>
      simp only [List.getElem?_cons_zero, Option.some.injEq] at hi
      subst hi
      exact Paired.cons h1 t
    | succ i =>
      simp only [List.getElem?_cons_succ] at hi
      exact Paired.cons h1 (ih hi)
/-- the groups after dealing -/
structure Dealt {α : Type} (κ : α → Nat) (ref : α → Value) (done : List α) (G : List Grp) : Prop where
  nd : (G.map (·.1)).Nodup
  grp : ∀ g ∈ G, g.2.2 = (done.filter fun x => κ x == g.1).map ref
  has : ∀ x ∈ done, ∃ g ∈ G, g.1 = κ x
  use : ∀ g ∈ G, ∃ x ∈ done, κ x = g.1
  len : G.length ≤ done.length
theorem Dealt.nil {α : Type} {κ : α → Nat} {ref : α → Value} : Dealt κ ref [] [] :=
  ⟨List.nodup_nil, (fun _ h => nomatch h), (fun _ h => nomatch h), (fun _ h => nomatch h), Nat.le_refl _⟩
theorem Dealt.found {α : Type} {κ : α → Nat} {ref : α → Value} {done : List α} {G : List Grp} (D : Dealt κ ref done G) {i : Nat} {l : Addr} {ps : List Value} {x : α} (hi : G[i]? = some (κ x, l, ps)) : Dealt κ ref (done ++ [x]) (G.set i (κ x, l, ps ++ [ref x])) := by
  have e : (G.set i (κ x, l, ps ++ [ref x])).map (·.1) = G.map (·.1) := map_set_self _ hi rfl
  have hil : i < G.length := (List.getElem?_eq_some_iff.mp hi).1
  have hgi : G[i] = (κ x, l, ps) := (List.getElem?_eq_some_iff.mp hi).2
  have keys : ∀ g ∈ G, ∃ g' ∈ G.set i (κ x, l, ps ++ [ref x]), g'.1 = g.1 := fun g hg => by
    have : g.1 ∈ (G.set i (κ x, l, ps ++ [ref x])).map (·.1) := e ▸ List.mem_map_of_mem hg
    obtain ⟨g', h1, h2⟩ := List.mem_map.mp this
    exact ⟨g', h1, h2⟩
  refine ⟨e ▸ D.nd, fun g hg => ?_, fun y hy => ?_, fun g hg => ?_, by rw [List.length_set, List.length_append]; exact Nat.le_trans D.len (Nat.le_add_right _ _)⟩
  · obtain ⟨j, hj, rfl⟩ := List.mem_iff_getElem.mp hg
    rw [List.length_set] at hj
    rw [List.getElem_set]
    split
    · have := D.grp _ (List.mem_of_getElem? hi)
      dsimp only at this ⊢
      rw [List.filter_append, List.map_append, this]
      simp
    · rename_i hne
      have hk : G[j].1 ≠ κ x := fun q => hne (by
        have e1 : (G.map (·.1))[i]'(by simpa using hil) = κ x := by simp [hgi]
        have e2 : (G.map (·.1))[j]'(by simpa using hj) = κ x := by simpa using q
        exact nodup_inj D.nd _ _ (e1.trans e2.symm))
      rw [List.filter_append, List.map_append, ← D.grp _ (List.getElem_mem hj)]
      simp [Ne.symm hk]
  · rcases List.mem_append.mp hy with hy | hy
    · obtain ⟨g, hg, e1⟩ := D.has y hy
      obtain ⟨g', h1, h2⟩ := keys g hg
      exact ⟨g', h1, h2.trans e1⟩
    · rw [List.mem_singleton.mp hy]
      obtain ⟨g', h1, h2⟩ := keys _ (List.mem_of_getElem? hi)
      exact ⟨g', h1, h2⟩
  · have : g.1 ∈ (G.set i (κ x, l, ps ++ [ref x])).map (·.1) := List.mem_map_of_mem hg
    rw [e] at this
    obtain ⟨g', h1, h2⟩ := List.mem_map.mp this
    obtain ⟨y, h3, h4⟩ := D.use g' h1
    exact ⟨y, List.mem_append_left _ h3, h4.trans h2⟩
theorem Dealt.new {α : Type} {κ : α → Nat} {ref : α → Value} {done : List α} {G : List Grp} (D : Dealt κ ref done G) {l : Addr} {x : α} (hno : ∀ g ∈ G, g.1 ≠ κ x) : Dealt κ ref (done ++ [x]) (G ++ [(κ x, l, [ref x])]) := by
  refine ⟨?_, fun g hg => ?_, fun y hy => ?_, fun g hg => ?_, by rw [List.length_append, List.length_append]; exact Nat.add_le_add_right D.len 1⟩
  · rw [List.map_append]
    refine List.nodup_append.mpr ⟨D.nd, by simp, fun a ha b hb => ?_⟩
    obtain ⟨g, hg, rfl⟩ := List.mem_map.mp ha
    have : b = κ x := by simpa using hb
    subst this
    exact hno g hg
  · rw [List.filter_append, List.map_append]
    rcases List.mem_append.mp hg with hg | hg
    · rw [← D.grp g hg]
      simp [Ne.symm (hno g hg)]
    · rw [List.mem_singleton.mp hg]
      have : (done.filter fun y => κ y == κ x) = [] := by
        refine List.filter_eq_nil_iff.mpr fun y hy q => ?_
        obtain ⟨g, hg, e⟩ := D.has y hy
        exact hno g hg (e.trans (by simpa using q))
      dsimp only
      rw [this]
      simp
  · rcases List.mem_append.mp hy with hy | hy
    · obtain ⟨g, hg, e1⟩ := D.has y hy
      exact ⟨g, List.mem_append_left _ hg, e1⟩
    · rw [List.mem_singleton.mp hy]
      exact ⟨_, List.mem_append_right _ (List.mem_singleton.mpr rfl), rfl⟩
  · rcases List.mem_append.mp hg with hg | hg
    · obtain ⟨y, h3, h4⟩ := D.use g hg
      exact ⟨y, List.mem_append_left _ h3, h4⟩
    · rw [List.mem_singleton.mp hg]
      exact ⟨x, List.mem_append_right _ (List.mem_singleton.mpr rfl), rfl⟩
end Mine
end
section
open PySem PySem.W PyProof.Rows PySem.Calls
set_option Elab.async false
set_option maxRecDepth 100000
set_option maxHeartbeats 8000000
set_option linter.unusedVariables false
namespace Mine
open PyProof.Rows.LCg
structure PR where
  p : Addr
  dx : Addr
  nm : Str
  vl : Str
  t1 : Tok
  t2 : Tok
  n : Nat
def pairL (rs : List PR) : List (Addr × Obj) := rs.flatMap fun q => [(q.p, pairObj q.dx q.nm q.vl q.t1 q.t2 q.n), (q.dx, dictOf [] 0)]
def ref (q : PR) : Value := .ref q.p
/-- the key of a pair in the round of place p -/
def signAt (p : Nat) (x : Str) : Nat := if h : p < x.cps.size then x.cps[p] else 64
def kap (p : Nat) (q : PR) : Nat := signAt p q.nm % 32
def bucket (p : Nat) (l : List PR) : List PR := (List.range 32).flatMap fun d => l.filter fun q => kap p q == d
def order (rs : List PR) : Nat → List PR
  | 0 => rs
  | j + 1 => bucket (2 - j) (order rs j)
def digitsOf (p : Nat) (l : List PR) : List Nat := (List.range 32).filter fun d => l.any fun q => kap p q == d
def keyV (p d : Nat) (t : Tok) : Value := if p = 1 then .int d t else .str ⟨#[d]⟩ t
def KeyVals (p : Nat) (ds : List Nat) (vs : List Value) : Prop := Paired (fun d v => ∃ t, v = keyV p d t) ds vs
def UsedOf (rs : List PR) : Nat → List Value → List (Addr × Obj) → Prop
  | 0, us, l => us = [] ∧ l = []
  | j + 1, us, l => ∃ us' l' S vs k, us = us' ++ [.ref S] ∧ l = (S, ({ cls := .type "list", data := .seq (List.toArray vs) k } : Obj)) :: l' ∧ UsedOf rs j us' l' ∧ KeyVals (2 - j) (digitsOf (2 - j) (order rs j)) vs
def MV (P U : Addr) (sh : Int) (tsh : Tok) (m : Str → Option Value) : Prop := m "pairs" = some (.ref P) ∧ m "shift" = some (.int sh tsh) ∧ m "used" = some (.ref U)
/-- the code table of freeze's lambda after j rounds, and the code object that it names -/
def TabAt (j : Nat) (tab : Obj) (ex : List (Addr × Obj)) : Prop :=
  (j = 0 ∧ tab = tabObj #[] ∧ ex = []) ∨ (0 < j ∧ ∃ c0 oc vs t, tab = tabObj #[rawInt 54, rawInt 23, .ref c0] ∧ ex = [(c0, oc)] ∧ oc.data = .fields vs ∧ vs[1]? = some (.str ((S "FreezableDefaultDict.freeze" ++ ".<locals>.") ++ "<lambda>") t))
def OInv (rs : List PR) (sh : Int) (tsh : Tok) (U cB cP : Addr) (lp : Addr) (pl : List Value) (r : List Value) (m : Str → Option Value) (news : List (Addr × Obj)) : Prop :=
  ∃ j P k kl us usedL tab ex oB oP, j ≤ 3 ∧ kl = 0 ∧ r = pl.drop j ∧ (∃ ta tb tc, pl = [.int 2 ta, .int 1 tb, .int 0 tc]) ∧ MV P U sh tsh m ∧ (∃ v, oB.data = .cell v) ∧ (∃ v, oP.data = .cell v) ∧ TabAt j tab ex ∧ UsedOf rs j us usedL ∧ (∀ p ∈ usedL, p.1 ≠ U) ∧ lp ≠ U ∧
    news = (lp, ({ cls := .type "list", data := .seq pl.toArray kl } : Obj)) :: (U, lst us) :: (cB, oB) :: (cP, oP) :: (114, tab) :: (P, ({ cls := .type "list", data := .seq ((order rs j).map ref).toArray k } : Obj)) :: (ex ++ (usedL ++ pairL rs))
def JInv {w : World} {KT : Type} [DecidableEq KT] (knd : KeyKind PySem.Challenge.rw_in0001_01.row.prog w KT) (enc : Nat → KT) (κ : PR → Nat) (b dx : Addr) (R : List (Addr × Obj)) (ord : List PR) (sh : Int) (tsh : Tok) (P U : Addr) (ax : Addr) (its r : List Value) (m : Str → Option Value) (news : List (Addr × Obj)) : Prop :=
  ∃ done rest es n G, ord = done ++ rest ∧ r = rest.map ref ∧ MV P U sh tsh m ∧ BookOf knd enc es G ∧ Dealt κ ref done G ∧ Sep G R ∧ (∀ p ∈ (dx, dictOf [] 0) :: (glist G ++ R), p.1 ≠ b) ∧ news = (b, fddObj dx es n) :: (dx, dictOf [] 0) :: (glist G ++ R) ∧ ax = P ∧ its = ord.map ref
theorem kinds (w : World) (p : Nat) : ∃ (KT : Type) (_ : DecidableEq KT) (knd : KeyKind PySem.Challenge.rw_in0001_01.row.prog w KT) (enc : Nat → KT), (∀ a b, enc a = enc b → a = b) ∧ (∀ d t, knd.is (enc d) (keyV p d t) = true) ∧ ∀ d v, knd.is (enc d) v = true → ∃ t, v = keyV p d t := by
  by_cases h : p = 1
  · refine ⟨Int, inferInstance, PySem.intKind _ w, fun d => (d : Int), fun a b h => Int.ofNat.inj h, fun d t => ?_, fun d v h2 => ?_⟩
    · unfold keyV
      rw [if_pos h]
      show Value.isInt (d : Int) (.int (d : Int) t) = true
      simp [Value.isInt]
    · obtain ⟨t, e⟩ := Value.isInt_shape h2
      exact ⟨t, by unfold keyV; rw [if_pos h, e]⟩
  · refine ⟨Str, inferInstance, PySem.strKind _ w, fun d => ⟨#[d]⟩, fun a b h => ?_, fun d t => ?_, fun d v h2 => ?_⟩
    · injection h with h
      simpa using h
    · unfold keyV
      rw [if_neg h]
      show Value.isStrOf ⟨#[d]⟩ (.str ⟨#[d]⟩ t) = true
      simp [Value.isStrOf]
    · obtain ⟨t, e⟩ := Value.isStrOf_shape h2
      exact ⟨t, by unfold keyV; rw [if_neg h, e]⟩
theorem bucket_aux (κ : PR → Nat) (l : List PR) : ∀ n, ((List.range n).flatMap fun d => l.filter fun q => κ q == d).Perm (l.filter fun q => decide (κ q < n))
  | 0 => by
    have : (l.filter fun q => decide (κ q < 0)) = [] := List.filter_eq_nil_iff.mpr fun q _ h => by simp at h
    rw [this]
    exact List.Perm.refl _
  | n + 1 => by
    rw [List.range_succ, List.flatMap_append]
    refine (List.Perm.append_right _ (bucket_aux κ l n)).trans ?_
    have h := List.filter_append_perm (fun q => decide (κ q < n)) (l.filter fun q => decide (κ q < n + 1))
    rw [List.filter_filter, List.filter_filter] at h
    have e1 : (l.filter fun q => decide (κ q < n) && decide (κ q < n + 1)) = l.filter fun q => decide (κ q < n) := List.filter_congr fun q _ => by
      by_cases h : κ q < n
      · simp [h, Nat.lt_succ_of_lt h]
      · simp [h]
    have e2 : (l.filter fun q => !decide (κ q < n) && decide (κ q < n + 1)) = l.filter fun q => κ q == n := List.filter_congr fun q _ => by
      by_cases h : κ q = n
      · simp [h]
      · have : (κ q == n) = false := by simpa using h
        rw [this]
        by_cases h2 : κ q < n
        · simp [h2]
        · have : ¬ κ q < n + 1 := by omega
          simp [this]
    rw [e1, e2] at h
    simpa using h
theorem bucket_perm (p : Nat) (l : List PR) : (bucket p l).Perm l := by
  refine (bucket_aux (kap p) l 32).trans ?_
  have : (l.filter fun q => decide (kap p q < 32)) = l := List.filter_eq_self.mpr fun q _ => by
    exact decide_eq_true (Nat.mod_lt _ (by decide))
  rw [this]
theorem order_perm (rs : List PR) : ∀ j, (order rs j).Perm rs
  | 0 => List.Perm.refl _
  | j + 1 => (bucket_perm _ _).trans (order_perm rs j)
theorem mem_bucket {p : Nat} {l : List PR} {q : PR} (h : q ∈ bucket p l) : q ∈ l := by
  obtain ⟨d, _, h⟩ := List.mem_flatMap.mp h
  exact (List.mem_filter.mp h).1
theorem mem_order {rs : List PR} {q : PR} : ∀ {j : Nat}, q ∈ order rs j → q ∈ rs
  | 0, h => h
  | j + 1, h => mem_order (mem_bucket h)
theorem mem_pairL {rs : List PR} {q : PR} (h : q ∈ rs) : (q.p, pairObj q.dx q.nm q.vl q.t1 q.t2 q.n) ∈ pairL rs ∧ (q.dx, dictOf [] 0) ∈ pairL rs :=
  ⟨List.mem_flatMap.mpr ⟨q, h, List.mem_cons_self ..⟩, List.mem_flatMap.mpr ⟨q, h, List.mem_cons_of_mem _ (List.mem_cons_self ..)⟩⟩
/-- an object that is no cell -/
def Plain (o : Obj) : Prop := ∀ v, o.data ≠ .cell v
theorem plain_list (vs : Array Value) (k : Nat) : Plain { cls := .type "list", data := .seq vs k } := fun _ h => nomatch h
theorem plain_dict (es : List DictEntry) (n : Nat) : Plain (dictOf es n) := fun _ h => nomatch h
theorem plain_fdd (dx : Addr) (es : Array DictEntry) (n : Nat) : Plain (fddObj dx es n) := fun _ h => nomatch h
theorem plain_pair (dx : Addr) (nm vl : Str) (t1 t2 : Tok) (n : Nat) : Plain (pairObj dx nm vl t1 t2 n) := fun _ h => nomatch h
theorem plain_tab (vs : Array Value) : Plain (tabObj vs) := fun _ h => nomatch h
theorem plain_pairL (rs : List PR) : ∀ p ∈ pairL rs, Plain p.2 := fun p hp => by
  obtain ⟨q, _, hp⟩ := List.mem_flatMap.mp hp
  rcases List.mem_cons.mp hp with rfl | hp
  · exact plain_pair _ _ _ _ _ _
  · rw [List.mem_singleton.mp hp]; exact plain_dict _ _
theorem plain_used {rs : List PR} : ∀ {j : Nat} {us : List Value} {l : List (Addr × Obj)}, UsedOf rs j us l → ∀ p ∈ l, Plain p.2
  | 0, _, _, h, p, hp => by rw [h.2] at hp; cases hp
  | j + 1, _, _, h, p, hp => by
    obtain ⟨us', l', S, vs, k, _, rfl, h', _⟩ := h
    rcases List.mem_cons.mp hp with rfl | hp
    · exact plain_list _ _
    · exact plain_used h' p hp
theorem plain_glist (G : List Grp) : ∀ p ∈ glist G, Plain p.2 := fun p hp => by
  obtain ⟨g, _, rfl⟩ := List.mem_map.mp hp
  exact plain_list _ _
theorem plain_tabAt {j : Nat} {tab : Obj} {ex : List (Addr × Obj)} (h : TabAt j tab ex) : Plain tab ∧ ∀ p ∈ ex, Plain p.2 := by
  rcases h with ⟨_, rfl, rfl⟩ | ⟨_, c0, oc, vs, t, rfl, rfl, h, _⟩
  · exact ⟨plain_tab _, fun _ h => nomatch h⟩
  · refine ⟨plain_tab _, fun p hp => ?_⟩
    rw [List.mem_singleton.mp hp]
    intro v q
    rw [h] at q; cases q
section
variable {M : Model} {A : Around} {E : Value → Shared → Prop} {s : Shared} {h₀ : Heap} {L : Addr} {m : Str → Option Value} {env : Env} {x : Str} {v : Value} {Q : Unit → Shared → Prop} {news : List (Addr × Obj)} {c : Addr} {o : Obj} {v₀ : Option Value}
theorem store_cell (F : Fr h₀ L s.heap m) (N : News h₀ L s.heap news) (hk : env.scope.kind = .function) (hl : env.kindOf x = some .cell) (hc : env.cells.lookup x = some c) (hm : (c, o) ∈ news) (hd : o.data = .cell v₀)
    (rest : List (Addr × Obj)) (sub : ∀ p ∈ rest, p ∈ news) (off : ∀ p ∈ rest, Plain p.2 ∨ p.1 ≠ c)
    (h : ∀ h' o', Fr h₀ L h' m → News h₀ L h' ((c, o') :: rest) → o'.data = .cell (some v) → Q () { s with heap := h' }) : wpAny M A (storeName env x v) Q E s := by
  have hmem := N (c, o) hm
  refine wpAny_storeName_cell hk hl hc ⟨o, hmem.1, hd⟩ fun h' hv hs => ?_
  obtain ⟨o', ho', hd'⟩ := hv
  refine h h' o' (F.change hs hmem.2.1 hmem.2.2) (fun p hp => ?_) hd'
  rcases List.mem_cons.mp hp with rfl | hp
  · exact ⟨ho', hmem.2⟩
  · have z := N p (sub p hp)
    refine ⟨hs.extBut _ _ (fun q => ?_) z.1, z.2⟩
    have e := z.1
    rw [q, hmem.1] at e
    have e : o = p.2 := Option.some.inj e
    rcases off p hp with f | f
    · exact f v₀ (e ▸ hd)
    · exact f q
end
end Mine
end
section
open PySem PySem.W PyProof.Rows PySem.Calls
set_option Elab.async false
set_option maxRecDepth 100000
set_option maxHeartbeats 8000000
set_option linter.unusedVariables false
namespace Mine
open PyProof.Rows.LCg
theorem fdd_tail {w : World} {A : Around} {s : Shared} {value slice : PySem.Expr} {b dx : Addr} {es : Array DictEntry} {n : Nat} {key : Value} {Q E : Value → Shared → Prop} (X : (K w.params).In s.heap) (hb : s.heap.get? b = some (fddObj dx es n))
    (hs : subscripted slice false (.ref b) key = operate [.ref b, key] (getItem (.ref b) key)) (hg : wpAny (model PySem.Challenge.rw_in0001_01.row.prog w) A (getItem (.ref b) key) Q E s) : wpAny (model PySem.Challenge.rw_in0001_01.row.prog w) A (subscriptTail value slice (.ref b) key) Q E s := by
  have hfg := looks_findIn (M := (model PySem.Challenge.rw_in0001_01.row.prog w)) X (find_get w.params)
  unfold subscriptTail
  refine wpAny_bind ?_
  rw [getitemInPython_of_ne (by nofun)]
  refine wpAny_bind ?_
  unfold specialOf
  refine wpAny_bind ?_
  have fin : wpAny (model PySem.Challenge.rw_in0001_01.row.prog w) A (subscripted slice false (.ref b) key) (fun r s₃ => wpAny (model PySem.Challenge.rw_in0001_01.row.prog w) A (letTemporaryGo value (.ref b) r >>= fun _ => pure r) Q E s₃) E s := by
    rw [hs]
    exact wpAny_operating (wpAny_mono hg (fun r s₃ h₃ => wpAny_bind (wpAny_letTemporaryGo (wpAny_pure h₃))) fun _ _ x => x)
  obtain ⟨h₀, g, d, t, os⟩ := s
  wp_walk using wpAny_load hb, wpAny_loadPart' hb, Looks.at hfg
  first
    | exact wpAny_pure (wpAny_bind fin)
    | exact wpAny_bind (wpAny_pure (wpAny_bind fin))
    | exact wpAny_bind fin
    | exact fin
theorem item_sign {x : Str} {p : Int} (h0 : 0 ≤ p) (h1 : p < x.length) : Txt.item x p = ⟨#[signAt p.toNat x]⟩ := by
  have e : (Txt.charAt x p).getD 0 = signAt p.toNat x := by
    unfold Txt.charAt signAt seqIndex?
    have h1' : p.toNat < x.cps.size := by have : p < x.cps.size := h1; omega
    rw [dif_pos h1']
    have h2 : ¬ p < 0 := by omega
    simp [h2, h0, show p < (x.length : Int) from h1, Array.getElem?_eq_getElem h1']
  unfold Txt.item
  rw [e]
theorem at_sign {x : Str} {p : Int} (h0 : 0 ≤ p) (h1 : ¬ p < x.length) : Str.ofString "@" = ⟨#[signAt p.toNat x]⟩ := by
  have : signAt p.toNat x = 64 := by
    unfold signAt
    rw [dif_neg]
    intro h
    have : p.toNat < x.length := h
    omega
  rw [this]
  decide +kernel
theorem ctrl_str1 (w : World) (x : Str) (c : Nat) (tk : Tok) (hx : x = ⟨#[c]⟩) : Tells 1 w 53 [.str x tk] (fun _ => True) (fun r tl => ∃ t, r = .str ⟨#[c % 32]⟩ t ∧ tl = []) := by
  subst hx; exact ctrl_str w c tk
theorem glist_addr {G G' : List Grp} (e : G'.map (·.2.1) = G.map (·.2.1)) : ∀ p ∈ glist G', ∃ p' ∈ glist G, p'.1 = p.1 := fun p hp => by
  obtain ⟨g, hg, rfl⟩ := List.mem_map.mp hp
  have : g.2.1 ∈ G'.map (·.2.1) := List.mem_map_of_mem hg
  rw [e] at this
  obtain ⟨g', hg', e'⟩ := List.mem_map.mp this
  exact ⟨_, List.mem_map.mpr ⟨g', hg', rfl⟩, e'⟩
theorem set_addr {G : List Grp} {i d : Nat} {l : Addr} {ps qs : List Value} (hi : G[i]? = some (d, l, ps)) : (G.set i (d, l, qs)).map (·.2.1) = G.map (·.2.1) := map_set_self _ hi rfl
section
variable {w : World} {KT : Type} [DecidableEq KT] {knd : KeyKind PySem.Challenge.rw_in0001_01.row.prog w KT} {enc : Nat → KT} {κ : PR → Nat} {b dx P U ax l I2 L : Addr} {oI2 : Obj} {R : List (Addr × Obj)} {ord done rest : List PR} {q : PR} {sh : Int} {tsh : Tok} {its : List Value} {m' : Str → Option Value} {es es' : Array DictEntry} {n n' i : Nat} {G : List Grp} {ps : List Value} {h₀ h' : Heap} {tk' : Nat} {sy : Shared}
theorem turn_found (hord : ord = done ++ q :: rest) (hax : ax = P) (hits : its = ord.map ref) (hm : MV P U sh tsh m') (hbk : BookOf knd enc es G) (hdl : Dealt κ ref done G) (hsep : Sep G R) (hnb : ∀ p ∈ (dx, dictOf [] 0) :: (glist G ++ R), p.1 ≠ b)
    (off2 : ∀ p ∈ (b, fddObj dx es n) :: (dx, dictOf [] 0) :: (glist G ++ R), p.1 ≠ I2) (hi : G[i]? = some (κ q, l, ps)) (F : Fr h₀ L h' m')
    (N : News h₀ L h' ((b, fddObj dx es n) :: (dx, dictOf [] 0) :: (glist (G.set i (κ q, l, ps ++ [ref q])) ++ ((I2, oI2) :: R)))) :
    TurnEnd h₀ L I2 oI2 (JInv knd enc κ b dx R ord sh tsh P U ax its (rest.map ref)) sy .next { sy with heap := h', toks := tk' } := by
  have back : ∀ p ∈ glist (G.set i (κ q, l, ps ++ [ref q])), ∃ p' ∈ glist G, p'.1 = p.1 := glist_addr (set_addr hi)
  refine ⟨rfl, h', tk', m', (b, fddObj dx es n) :: (dx, dictOf [] 0) :: (glist (G.set i (κ q, l, ps ++ [ref q])) ++ R), rfl, F, fun p hp => N p ?_, fun p hp => ?_, done ++ [q], rest, es, n, _, by rw [hord]; simp, rfl, hm, hbk.set hi, hdl.found hi, hsep.set hi, fun p hp => ?_, rfl, hax, hits⟩
  · (first | (refine sub_use hp ?_; (repeat' (first | exact sub_self | exact sub_nil | exact List.mem_cons_self .. | refine List.mem_cons_of_mem _ ?_ | refine sub_cons ?_ ?_ | refine sub_app ?_ ?_ | exact sub_inl | refine sub_skip ?_ | refine sub_right ?_ | refine List.mem_append_right _ ?_)); done) | (simp only [List.mem_cons, List.mem_append] at hp ⊢; grind))
  · rcases List.mem_cons.mp hp with rfl | hp
    · exact off2 _ (List.mem_cons_self ..)
    rcases List.mem_cons.mp hp with rfl | hp
    · exact off2 _ (List.mem_cons_of_mem _ (List.mem_cons_self ..))
    rcases List.mem_append.mp hp with hp | hp
    · obtain ⟨p', h1, h2⟩ := back p hp
      exact h2 ▸ off2 p' (List.mem_cons_of_mem _ (List.mem_cons_of_mem _ (List.mem_append_left _ h1)))
    · exact off2 p (List.mem_cons_of_mem _ (List.mem_cons_of_mem _ (List.mem_append_right _ hp)))
  · rcases List.mem_cons.mp hp with rfl | hp
    · exact hnb _ (List.mem_cons_self ..)
    rcases List.mem_append.mp hp with hp | hp
    · obtain ⟨p', h1, h2⟩ := back p hp
      exact h2 ▸ hnb p' (List.mem_cons_of_mem _ (List.mem_append_left _ h1))
    · exact hnb p (List.mem_cons_of_mem _ (List.mem_append_right _ hp))
theorem turn_new (hord : ord = done ++ q :: rest) (hax : ax = P) (hits : its = ord.map ref) (hm : MV P U sh tsh m') (hbk : BookOf knd enc es' (G ++ [(κ q, l, [])])) (hdl : Dealt κ ref done G) (hsep : Sep G R) (hnb : ∀ p ∈ (dx, dictOf [] 0) :: (glist G ++ R), p.1 ≠ b)
    (off2 : ∀ p ∈ (b, fddObj dx es n) :: (dx, dictOf [] 0) :: (glist G ++ R), p.1 ≠ I2) (hno : ∀ g ∈ G, g.1 ≠ κ q) (fresh : ∀ p ∈ (b, fddObj dx es' n') :: (dx, dictOf [] 0) :: (glist G ++ ((I2, oI2) :: R)), p.1 ≠ l) (F : Fr h₀ L h' m')
    (N : News h₀ L h' ((b, fddObj dx es' n') :: (dx, dictOf [] 0) :: (glist ((G ++ [(κ q, l, [])]).set G.length (κ q, l, [] ++ [ref q])) ++ ((I2, oI2) :: R)))) :
    TurnEnd h₀ L I2 oI2 (JInv knd enc κ b dx R ord sh tsh P U ax its (rest.map ref)) sy .next { sy with heap := h', toks := tk' } := by
  have e : (G ++ [(κ q, l, ([] : List Value))]).set G.length (κ q, l, [] ++ [ref q]) = G ++ [(κ q, l, [ref q])] := by simp
  have hget : (G ++ [(κ q, l, ([] : List Value))])[G.length]? = some (κ q, l, []) := by simp
  have hbk2 : BookOf knd enc es' (G ++ [(κ q, l, [ref q])]) := e ▸ hbk.set (qs := [] ++ [ref q]) hget
  rw [e] at N
  have gl : ∀ p, p ∈ glist (G ++ [(κ q, l, [ref q])]) ↔ p ∈ glist G ∨ p = (l, lst [ref q]) := fun p => by
    unfold glist
    rw [List.map_append, List.mem_append]
    simp
  have hsep2 : Sep (G ++ [(κ q, l, [ref q])]) R := hsep.snoc (fun p hp => by
    rcases List.mem_append.mp hp with hp | hp
    · exact fresh p (List.mem_cons_of_mem _ (List.mem_cons_of_mem _ (List.mem_append_left _ hp)))
    · exact fresh p (List.mem_cons_of_mem _ (List.mem_cons_of_mem _ (List.mem_append_right _ (List.mem_cons_of_mem _ hp)))))
  refine ⟨rfl, h', tk', m', (b, fddObj dx es' n') :: (dx, dictOf [] 0) :: (glist (G ++ [(κ q, l, [ref q])]) ++ R), rfl, F, fun p hp => N p ?_, fun p hp => ?_, done ++ [q], rest, es', n', _, by rw [hord]; simp, rfl, hm, hbk2, hdl.new hno, hsep2, fun p hp => ?_, rfl, hax, hits⟩
  · (first | (refine sub_use hp ?_; (repeat' (first | exact sub_self | exact sub_nil | exact List.mem_cons_self .. | refine List.mem_cons_of_mem _ ?_ | refine sub_cons ?_ ?_ | refine sub_app ?_ ?_ | exact sub_inl | refine sub_skip ?_ | refine sub_right ?_ | refine List.mem_append_right _ ?_)); done) | (simp only [List.mem_cons, List.mem_append] at hp ⊢; grind))
  · rcases List.mem_cons.mp hp with rfl | hp
    · exact off2 (b, fddObj dx es n) (List.mem_cons_self ..)
    rcases List.mem_cons.mp hp with rfl | hp
    · exact off2 _ (List.mem_cons_of_mem _ (List.mem_cons_self ..))
    rcases List.mem_append.mp hp with hp | hp
    · rcases (gl p).mp hp with hp | rfl
      · exact off2 p (List.mem_cons_of_mem _ (List.mem_cons_of_mem _ (List.mem_append_left _ hp)))
      · exact Ne.symm (fresh (I2, oI2) (List.mem_cons_of_mem _ (List.mem_cons_of_mem _ (List.mem_append_right _ (List.mem_cons_self ..)))))
    · exact off2 p (List.mem_cons_of_mem _ (List.mem_cons_of_mem _ (List.mem_append_right _ hp)))
  · rcases List.mem_cons.mp hp with rfl | hp
    · exact hnb _ (List.mem_cons_self ..)
    rcases List.mem_append.mp hp with hp | hp
    · rcases (gl p).mp hp with hp | rfl
      · exact hnb p (List.mem_cons_of_mem _ (List.mem_append_left _ hp))
      · exact Ne.symm (fresh (b, fddObj dx es' n') (List.mem_cons_self ..))
    · exact hnb p (List.mem_cons_of_mem _ (List.mem_append_right _ hp))
end
theorem sep_cons {G : List Grp} {R : List (Addr × Obj)} {I : Addr} {oI : Obj} (h : Sep G R) (off : ∀ p ∈ glist G, p.1 ≠ I) : Sep G ((I, oI) :: R) :=
  ⟨h.1, fun p hp g hg => by
    rcases List.mem_cons.mp hp with rfl | hp
    · exact Ne.symm (off (g.2.1, lst g.2.2) (List.mem_map.mpr ⟨g, hg, rfl⟩))
    · exact h.2 p hp g hg⟩
theorem sgn_at (x : Str) (c : Nat) : ((⟨#[c]⟩ : Str).cps.getD 0 0) = c := rfl
theorem key_item {p sh : Int} {j : Nat} {x : Str} (hp : p = 2 - (j : Int)) (hj : j < 3) (h1 : p < x.length) (hsh : sh % 32 = 0) : (((Txt.item x p).cps.getD 0 0 : Nat) + sh) % 32 = ((signAt (2 - j) x % 32 : Nat) : Int) := by
  rw [item_sign (by omega) h1, sgn_at x, show p.toNat = 2 - j by omega]
  omega
theorem key_at {p sh : Int} {j : Nat} {x : Str} (hp : p = 2 - (j : Int)) (hj : j < 3) (h1 : ¬ p < x.length) (hsh : sh % 32 = 0) : (((Str.ofString "@").cps.getD 0 0 : Nat) + sh) % 32 = ((signAt (2 - j) x % 32 : Nat) : Int) := by
  rw [at_sign (x := x) (p := p) (by omega) h1, sgn_at x, show p.toNat = 2 - j by omega]
  omega
theorem key_of_int {w : World} {KT : Type} [DecidableEq KT] {knd : KeyKind PySem.Challenge.rw_in0001_01.row.prog w KT} {enc : Nat → KT} {p d : Nat} (hkey : ∀ d t, knd.is (enc d) (keyV p d t) = true) (hp : p = 1) {v : Int} (hv : v = ((d : Nat) : Int)) (t : Tok) : knd.is (enc d) (.int v t) = true := by
  have := hkey d t
  unfold keyV at this
  rw [if_pos hp] at this
  rw [hv]; exact this
theorem key_of_str {w : World} {KT : Type} [DecidableEq KT] {knd : KeyKind PySem.Challenge.rw_in0001_01.row.prog w KT} {enc : Nat → KT} {p d : Nat} (hkey : ∀ d t, knd.is (enc d) (keyV p d t) = true) (hp : p ≠ 1) {c : Nat} (hv : c = d) (t : Tok) : knd.is (enc d) (.str ⟨#[c]⟩ t) = true := by
  have := hkey d t
  unfold keyV at this
  rw [if_neg hp] at this
  rw [hv]; exact this
theorem fdd_addr {h₀ h : Heap} {mean : ExcName → Option Value} {mg mb : Str → Option Value} {b dx : Addr} (T : Top topProg TLo mean mg mb h₀) (k : ∀ a o, h₀.get? a = some o → h.get? a = some o) (hdx : h.get? dx = none) (hlt : dx < b) : (b == sysModules) = false := by
  have h0 : dx ≠ 0 := fun q => by
    obtain ⟨o, _, _, e, _⟩ := T.b
    have := k _ _ e
    rw [show builtinsNs = (0 : Addr) from rfl, ← q, hdx] at this
    cases this
  have : b ≠ sysModules := by
    unfold sysModules
    have h1 : (0 : Nat) < dx := Nat.pos_of_ne_zero h0
    exact Nat.ne_of_gt (Nat.lt_of_le_of_lt h1 hlt)
  simpa using this
theorem mv_set {P U : Addr} {sh : Int} {tsh : Tok} {m : Str → Option Value} (h : MV P U sh tsh m) (v1 v2 : Option Value) : MV P U sh tsh (fun y => if y = Str.ofString "sign" then v1 else if y = Str.ofString "pair" then v2 else m y) :=
  ⟨(if_neg (by decide)).trans ((if_neg (by decide)).trans h.1), (if_neg (by decide)).trans ((if_neg (by decide)).trans h.2.1), (if_neg (by decide)).trans ((if_neg (by decide)).trans h.2.2)⟩
theorem glist_len {κ : PR → Nat} {done : List PR} {G : List Grp} (h : Dealt κ ref done G) : ∀ g ∈ G, g.2.2.length ≤ done.length := fun g hg => by
  rw [h.grp g hg, List.length_map]
  exact List.length_filter_le _ _
end Mine
end
section
open PySem PySem.W PyProof.Rows PySem.Calls
set_option Elab.async false
set_option maxRecDepth 100000
set_option maxHeartbeats 8000000
set_option linter.unusedVariables false
namespace Mine
open PyProof.Rows.LCg
theorem key_any (w : World) (p d : Int) (t1 t2 : Tok) (hp : p = 0 ∨ p = 1 ∨ p = 2) (h0 : 0 ≤ d) (h1 : d < 32) : Tells 0 w 251 [.int p t1, .int d t2] (fun _ => True) (fun r tl => (∃ t, r = keyV p.toNat d.toNat t) ∧ tl = []) := by
  have weak : ∀ {p : Int} {P Q : Value → List (Addr × Obj) → Prop}, (∀ r tl, P r tl → Q r tl) → Tells 0 w 251 [.int p t1, .int d t2] (fun _ => True) P → Tells 0 w 251 [.int p t1, .int d t2] (fun _ => True) Q := by
    intro p P Q h T mean mg mb dp un gd cn cs a ccd cl outer A₀ base h₀ L m s Q' E B F X T' hk hd hu hp hQ
    exact T mean mg mb dp un gd cn cs a ccd cl outer A₀ base h₀ L m s Q' E B F X T' hk hd hu hp (fun r tl h' tk' a b c d e => hQ r tl h' tk' a b c d (h r tl e))
  rcases hp with rfl | rfl | rfl
  · exact weak (fun r tl ⟨t, e, e2⟩ => ⟨⟨t, e⟩, e2⟩) (key_0 w d t1 t2 h0 h1)
  · refine weak (fun r tl ⟨t, e, e2⟩ => ⟨⟨t, ?_⟩, e2⟩) (key_1 w d t1 t2)
    rw [e]
    show _ = Value.int (d.toNat : Int) t
    rw [Int.toNat_of_nonneg h0]
  · exact weak (fun r tl ⟨t, e, e2⟩ => ⟨⟨t, e⟩, e2⟩) (key_2 w d t1 t2 h0 h1)
theorem freeze_any (w : World) (b dx : Addr) (es : Array DictEntry) (n j : Nat) (tab : Obj) (ex : List (Addr × Obj)) (ht : TabAt j tab ex)
    {mean : ExcName → Option Value} {mg mb : Str → Option Value} {dp un : Nat} {gd : Option (List Code)} {cn : Str} {cs : Scope} {a : Addr} {ccd : Value} {cl : List (Str × Addr)} {outer : List Env} {A₀ : Around} {base h₀ : Heap} {L : Addr} {m : Str → Option Value} {s : Shared} {R : Result → Shared → Prop} {news : List (Addr × Obj)}
    (B : Below A₀ base outer h₀) (F : Fr h₀ L s.heap m) (N : News h₀ L s.heap ((114, tab) :: (b, fddObj dx es n) :: (dx, dictOf [] 0) :: (ex ++ news))) (X : (K w.params).In h₀) (T : Top topProg TLo mean mg mb h₀) (hk : cs.kind = .function) (hd : dp ≤ 450) (hu : un ≤ 900) (h114 : ∀ p ∈ (b, fddObj dx es n) :: (dx, dictOf [] 0) :: (ex ++ news), p.1 ≠ 114) (hbd : b ≠ dx) (hnd : ∀ p ∈ ex ++ news, p.1 ≠ dx)
    (hret : ∀ f c ca oc oo vs t ctv t1 h' tk', Fr h₀ L h' m → News h₀ L h' ((b, fddObj dx es n) :: (dx, frozenD w.params t1 f) :: (f, lamObj ((mg "__name__").getD .none) ca c ctv) :: (c, oc) :: (ca, oo) :: (114, tabObj #[rawInt 54, rawInt 23, .ref c]) :: news) →
      oc.data = .fields vs → vs[1]? = some (.str ((S "FreezableDefaultDict.freeze" ++ ".<locals>.") ++ "<lambda>") t) → oo.data = .cell (some (.ref b)) →
      R (.ok (.ret .none)) { s with heap := h', toks := tk' }) :
    codeAny (model PySem.Challenge.rw_in0001_01.row.prog w) (ktrTop dp un gd cn cs L a ccd cl outer) (.call (.ref 119) ⟨[.ref b], []⟩) R s := by
  rcases ht with ⟨_, rfl, rfl⟩ | ⟨_, c0, oc, vs, t, rfl, rfl, hoc, hvs⟩
  · refine freeze_first w b dx es n B F N X T hk hd hu h114 hbd hnd ?_
    intro f c ca oc oo vs t ctv t1 h' tk' F' N' h1 h2 h3 _ _ _
    exact hret f c ca oc oo vs t ctv t1 h' tk' F' (fun p hp => N' p (by (first | (refine sub_use hp ?_; (repeat' (first | exact sub_self | exact sub_nil | exact List.mem_cons_self .. | refine List.mem_cons_of_mem _ ?_ | refine sub_cons ?_ ?_ | refine sub_app ?_ ?_ | exact sub_inl | refine sub_skip ?_ | refine sub_right ?_ | refine List.mem_append_right _ ?_)); done) | (simp only [List.mem_cons, List.nil_append] at hp ⊢; grind)))) h1 h2 h3
  · refine freeze_again w c0 b dx es n B F N X T hk hd hu h114 hbd hnd ?_
    intro f ca oo ctv t1 h' tk' F' N' h3 _ _
    exact hret f c0 ca oc oo vs t ctv t1 h' tk' F' (fun p hp => N' p (by (first | (refine sub_use hp ?_; (repeat' (first | exact sub_self | exact sub_nil | exact List.mem_cons_self .. | refine List.mem_cons_of_mem _ ?_ | refine sub_cons ?_ ?_ | refine sub_app ?_ ?_ | exact sub_inl | refine sub_skip ?_ | refine sub_right ?_ | refine List.mem_append_right _ ?_)); done) | (simp only [List.mem_cons, List.cons_append, List.nil_append] at hp ⊢; grind)))) hoc hvs h3
/-- an object that is no code table -/
def NT (o : Obj) : Prop := o ≠ tabObj #[] ∧ ∀ c, o ≠ tabObj #[rawInt 54, rawInt 23, .ref c]
theorem nt_cls {o : Obj} (h : o.cls ≠ .none) : NT o := ⟨fun q => h (by rw [q]), fun c q => h (by rw [q])⟩
theorem nt_cell {o : Obj} {v : Option Value} (h : o.data = .cell v) : NT o := ⟨(fun q => by rw [q] at h; cases h), (fun c q => by rw [q] at h; cases h)⟩
theorem nt_list (vs : Array Value) (k : Nat) : NT { cls := .type "list", data := .seq vs k } := nt_cls (fun h => nomatch h)
theorem nt_dict (es : List DictEntry) (n : Nat) : NT (dictOf es n) := nt_cls (fun h => nomatch h)
theorem nt_fdd (dx : Addr) (es : Array DictEntry) (n : Nat) : NT (fddObj dx es n) := nt_cls (fun h => nomatch h)
theorem nt_pair (dx : Addr) (nm vl : Str) (t1 t2 : Tok) (n : Nat) : NT (pairObj dx nm vl t1 t2 n) := nt_cls (fun h => nomatch h)
theorem nt_pairL (rs : List PR) : ∀ p ∈ pairL rs, NT p.2 := fun p hp => by
  obtain ⟨q, _, hp⟩ := List.mem_flatMap.mp hp
  rcases List.mem_cons.mp hp with rfl | hp
  · exact nt_pair _ _ _ _ _ _
  · rw [List.mem_singleton.mp hp]; exact nt_dict _ _
theorem nt_used {rs : List PR} : ∀ {j : Nat} {us : List Value} {l : List (Addr × Obj)}, UsedOf rs j us l → ∀ p ∈ l, NT p.2
  | 0, _, _, h, p, hp => by rw [h.2] at hp; cases hp
  | j + 1, _, _, h, p, hp => by
    obtain ⟨us', l', S, vs, k, _, rfl, h', _⟩ := h
    rcases List.mem_cons.mp hp with rfl | hp
    · exact nt_list _ _
    · exact nt_used h' p hp
theorem nt_glist (G : List Grp) : ∀ p ∈ glist G, NT p.2 := fun p hp => by
  obtain ⟨g, _, rfl⟩ := List.mem_map.mp hp
  exact nt_list _ _
theorem nt_ex {j : Nat} {tab : Obj} {ex : List (Addr × Obj)} (h : TabAt j tab ex) : (∀ p ∈ ex, NT p.2) ∧ ∀ o, NT o → o ≠ tab := by
  rcases h with ⟨_, rfl, rfl⟩ | ⟨_, c0, oc, vs, t, rfl, rfl, h, h2⟩
  · exact ⟨(fun _ h => nomatch h), (fun o ho => ho.1)⟩
  · refine ⟨fun p hp => ?_, fun o ho => ho.2 c0⟩
    rw [List.mem_singleton.mp hp]
    refine ⟨fun q => ?_, fun c q => ?_⟩
    · dsimp only at q
      rw [q] at h
      injection h with h
      rw [← h] at h2
      cases h2
    · dsimp only at q
      rw [q] at h
      injection h with h
      rw [← h] at h2
      cases h2
/-- what the comprehension has gathered when it has looked up i digits -/
def gath (κ : PR → Nat) (ord : List PR) (i : Nat) : List Value := (List.range i).flatMap fun d => (ord.filter fun q => κ q == d).map ref
theorem gath_succ (κ : PR → Nat) (ord : List PR) (i : Nat) : gath κ ord (i + 1) = gath κ ord i ++ (ord.filter fun q => κ q == i).map ref := by
  unfold gath
  rw [List.range_succ, List.flatMap_append]
  simp
theorem gath_len (κ : PR → Nat) (ord : List PR) (i : Nat) : (gath κ ord i).length ≤ ord.length := by
  have e : gath κ ord i = ((List.range i).flatMap fun d => ord.filter fun q => κ q == d).map ref := by
    unfold gath
    rw [List.map_flatMap]
  rw [e, List.length_map, (bucket_aux κ ord i).length_eq]
  exact List.length_filter_le _ _
theorem gath_all (p : Nat) (ord : List PR) : gath (kap p) ord 32 = (bucket p ord).map ref := by
  unfold gath bucket
  rw [List.map_flatMap]
def CInv (Bs : List (Addr × Obj)) (κ : PR → Nat) (ord : List PR) (i : Nat) (ys : List Value) (news : List (Addr × Obj)) : Prop := (∀ p ∈ Bs, p ∈ news) ∧ ys = gath κ ord i
theorem dealt_found {κ : PR → Nat} {ord : List PR} {G : List Grp} (D : Dealt κ ref ord G) {i d : Nat} {l : Addr} {ps : List Value} (h : G[i]? = some (d, l, ps)) : ps = (ord.filter fun q => κ q == d).map ref := D.grp _ (List.mem_of_getElem? h)
theorem dealt_missing {κ : PR → Nat} {ord : List PR} {G : List Grp} (D : Dealt κ ref ord G) {d : Nat} (h : ∀ g ∈ G, g.1 ≠ d) : (ord.filter fun q => κ q == d).map ref = [] := by
  have : (ord.filter fun q => κ q == d) = [] := List.filter_eq_nil_iff.mpr fun q hq e => by
    obtain ⟨g, hg, e2⟩ := D.has q hq
    exact h g hg (e2.trans (by simpa using e))
  rw [this]; rfl
end Mine
end
section
open PySem PySem.W PyProof.Rows PySem.Calls
set_option Elab.async false
set_option maxRecDepth 100000
set_option maxHeartbeats 8000000
set_option linter.unusedVariables false
namespace Mine
set_option maxHeartbeats 1000000
open PyProof.Rows.LCg
theorem find_iter (P : Params) : findIn (K P) (.ref 122) (Str.ofString "__iter__") = some (some (.builtin "dict.__iter__")) := by kernel_rfl
theorem ty_di : typeOf (.builtin "dict.__iter__") = pure (.type "wrapper_descriptor") := by kernel_rfl
theorem di_split : splitId "dict.__iter__" = some ("dict", "__iter__") := by decide +kernel
theorem di_kind : builtinKind "dict.__iter__" = some .slot := by
  simp only [builtinKind, di_split]
  decide +kernel
theorem iter_fdd {w : World} {A : Around} {s : Shared} {b dx : Addr} {es : Array DictEntry} {n : Nat} {Q E : Value → Shared → Prop} (X : (K w.params).In s.heap) (hb : s.heap.get? b = some (fddObj dx es n)) (hbs : (b == sysModules) = false)
    (hQ : Q (.ref s.heap.objs.size) { s with heap := s.heap.push { cls := .type "dict_keyiterator", data := .fields #[.ref b, .int 0 0, .int es.size 0, .int n 0] } }) : wpAny (model PySem.Challenge.rw_in0001_01.row.prog w) A (pyIter (.ref b)) Q E s := by
  obtain ⟨h₀, g, d, t, os⟩ := s
  dsimp only at hb hQ
  have hfi := looks_findIn (M := (model PySem.Challenge.rw_in0001_01.row.prog w)) X (find_iter w.params)
  have hid : Looks (model PySem.Challenge.rw_in0001_01.row.prog w) h₀ (isInstance (.ref b) (.type "dict")) true := inst_sub (P := w.params) (ox := fddObj dx es n) (C := 122) (T := "dict") X hb rfl (sub_fdd w.params)
  have hso : Looks (model PySem.Challenge.rw_in0001_01.row.prog w) h₀ (isSubtype (.ref 122) (.type "collections.OrderedDict")) false := looks_subIn X (sub_fdd_od _)
  have It : Looks (model PySem.Challenge.rw_in0001_01.row.prog w) h₀ (typeOf (.ref b)) (.ref 122) := (Looks.ld hb).andThen .now
  unfold pyIter specialOf
  refine wpAny_bind (Looks.at (It.andThen hfi) ?_)
  dsimp only
  refine wpAny_bind ?_
  simp only [callSpecialIfBoundUnlessNone?, bindSpecialIfBound?, specialOf]
  refine wpAny_holding (wpAny_bind (wpAny_bind (Looks.at (It.andThen hfi) ?_)))
  simp only [F.slot_dict_iter.bind]
  have go : wpAny (model PySem.Challenge.rw_in0001_01.row.prog w) A (call (.builtin "dict.__iter__") [.ref b]) (fun v s' => ∃ a, v = .ref a ∧ a = h₀.objs.size ∧ s' = (⟨h₀.push { cls := .type "dict_keyiterator", data := .fields #[.ref b, .int 0 0, .int es.size 0, .int n 0] }, g, d, t, os⟩ : Shared)) E ⟨h₀, g, d, t, os⟩ := by
    refine wpAny_call ?_
    refine codeAny_call_builtin (id := "dict.__iter__") (b := Builtin.«dict.__iter__») ?h1 ?h2 ?h3
    case h1 => exact F.slot_dict_iter.plain
    case h2 => exact F.entry_dict_iter
    case h3 =>
    refine check_slot (i := "dict.__iter__") (owner := "dict") (n := "__iter__") ?za ?zb ?zc ?zd ?ze
    case za => exact di_kind
    case zb => exact di_split
    case zc => exact hid
    case zd => exact F.args_dict_iter_1 _
    case ze =>
    unfold Builtin.«dict.__iter__» Builtin.Dict.dictSlotNone Builtin.Dict.showsAll
    wp_walk using wpAny_load hb, wpAny_loadPart' hb, Looks.at hso
    exact ⟨_, rfl, rfl, rfl⟩
  refine wpAny_bind (wpAny_askSetting (wpAny_ite ?_))
  have fin : ∀ {refuse : Sem Value}, wpAny (model PySem.Challenge.rw_in0001_01.row.prog w) A (if (Value.builtin "dict.__iter__" == Value.none) = true then (refuse >>= fun v => pure (some v)) else (call (.builtin "dict.__iter__") [.ref b] >>= fun v => pure (some v))) (fun r s' => r = some (.ref h₀.objs.size) ∧ s' = (⟨h₀.push { cls := .type "dict_keyiterator", data := .fields #[.ref b, .int 0 0, .int es.size 0, .int n 0] }, g, d, t, os⟩ : Shared)) E ⟨h₀, g, d, t, os⟩ := by
    intro refuse
    simp only [builtin_beq_none, Bool.false_eq_true, if_false]
    exact wpAny_bind (wpAny_mono go (fun v s' hv => by obtain ⟨_, rfl, rfl, rfl⟩ := hv; exact wpAny_pure ⟨rfl, rfl⟩) fun _ _ h' => h')
  have last : ∀ (r : Option Value) (s' : Shared), (r = some (Value.ref h₀.objs.size) ∧ s' = (⟨h₀.push { cls := .type "dict_keyiterator", data := .fields #[.ref b, .int 0 0, .int es.size 0, .int n 0] }, g, d, t, os⟩ : Shared)) → wpAny (model PySem.Challenge.rw_in0001_01.row.prog w) A (specialOf (.ref h₀.objs.size) "__next__") (fun x s'' => x = some (.builtin "dict_keyiterator.__next__") ∧ s'' = s') E s' := by
    rintro r s' ⟨rfl, rfl⟩
    exact wpAny_specialOf (T := "dict_keyiterator") ⟨_, Heap.get?_push_size _ rfl, rfl⟩ F.slot_dict_keyiterator_next.lookup ⟨rfl, rfl⟩
  split
  · refine wpAny_bind (wpAny_pure (wpAny_pure (wpAny_mono fin (fun r s' h => ?_) fun _ _ h' => h')))
    obtain ⟨rfl, rfl⟩ := h
    refine wpAny_bind (wpAny_mono (last _ _ ⟨rfl, rfl⟩) (fun x s'' h => ?_) fun _ _ h' => h')
    obtain ⟨rfl, rfl⟩ := h
    exact wpAny_pure hQ
  · refine wpAny_tryCatch (wpAny_bind (wpAny_pure (wpAny_pure (wpAny_mono fin (fun r s' h => ?_) fun _ _ h' => h'))))
    obtain ⟨rfl, rfl⟩ := h
    refine wpAny_bind (wpAny_mono (last _ _ ⟨rfl, rfl⟩) (fun x s'' h => ?_) fun _ _ h' => h')
    obtain ⟨rfl, rfl⟩ := h
    exact wpAny_pure hQ
abbrev keyIt (b : Addr) (i n ep : Nat) : Obj := { cls := .type "dict_keyiterator", data := .fields #[.ref b, .int i 0, .int n 0, .int ep 0] }
theorem next_fdd {w : World} {A : Around} {s : Shared} {I b dx : Addr} {es : Array DictEntry} {n i : Nat} {Q : Option Value → Shared → Prop} {E : Value → Shared → Prop} (hI : s.heap.get? I = some (keyIt b i es.size n)) (hb : s.heap.get? b = some (fddObj dx es n)) (hi : i < es.size)
    (hQ : ∀ h', h'.get? I = some (keyIt b (i + 1) es.size n) → Heap.SameBut I s.heap h' → Q (some es[i].key) { s with heap := h' }) : wpAny (model PySem.Challenge.rw_in0001_01.row.prog w) A (pyNext (.ref I)) Q E s := by
  have hit : s.heap.IsKeyIter I b i es.size n := ⟨_, hI, rfl, rfl⟩
  obtain ⟨h₀, g, d, t, os⟩ := s
  dsimp only at hI hb hQ hit
  unfold pyNext
  refine wpAny_bind (wpAny_attempt (wpAny_callSpecial?_slot (name := Str.ofString "__next__") hit.typeIs F.slot_dict_keyiterator_next
    (wpAny_call_entry F.slot_dict_keyiterator_next hit.typeIs F.entry_dict_keyiterator_next ?_ (F.args_dict_keyiterator_next_1 _))))
  refine wpAny_bind (wpAny_pure ?_)
  refine wpAny_bind ?_
  refine wpAny_bind ?_
  refine wpAny_bind (wpAny_typeNameOfWhole_keyiter hit.typeIs (wpAny_pure ?_))
  refine wpAny_bind (wpAny_fieldsOf hI rfl ?_)
  have hown : Builtin.Dict_items.ownsTuple "dict_keyiterator" = false := by decide
  simp only [hown, Bool.false_eq_true, if_false]
  show wpAny _ _ (if (Value.ref b == Value.none) = true then _ else _) _ _ _
  rw [if_neg (show ¬ ((Value.ref b == Value.none) = true) from Bool.false_ne_true)]
  refine wpAny_bind (wpAny_pure (wpAny_bind (wpAny_dictEntries hb rfl ?_)))
  rw [if_neg (by simp)]
  refine wpAny_bind (wpAny_pure (wpAny_bind (wpAny_dictEpoch hb rfl ?_)))
  rw [if_neg (by simp)]
  refine wpAny_pure ?_
  simp only [show ¬ ((i : Int) < 0) from by omega, if_false, Int.toNat_natCast, Array.getElem?_eq_getElem hi]
  refine wpAny_bind ?_
  refine wpAny_bind (wpAny_typeNameOfWhole_keyiter hit.typeIs (wpAny_pure ?_))
  refine wpAny_bind (wpAny_isOneOf_keyiter hit.typeIs ?_)
  show wpAny _ _ (setField (.ref I) 1 (rawInt ((i : Int) + 1)) >>= _) _ _ _
  refine wpAny_bind (wpAny_setField hI rfl (by simp) ?_)
  have h2 : (h₀.update I (Obj.mapFields (·.setIfInBounds 1 (rawInt ((i : Int) + 1))))).get? I = some (keyIt b (i + 1) es.size n) := by
    rw [Heap.get?_update_self _ hI rfl]
    simp [Obj.mapFields, keyIt, rawInt]
  have hit' : (h₀.update I (Obj.mapFields (·.setIfInBounds 1 (rawInt ((i : Int) + 1))))).IsKeyIter I b (i + 1) es.size n := ⟨_, h2, rfl, rfl⟩
  refine wpAny_bind (wpAny_holding ?_)
  refine wpAny_bind (wpAny_isOneOf_keyiter (s := ⟨h₀.update I (Obj.mapFields (·.setIfInBounds 1 (rawInt ((i : Int) + 1)))), g, d, t, os⟩) hit'.typeIs ?_)
  show wpAny _ _ (pure es[i].key) _ _ _
  exact wpAny_pure (wpAny_pure ⟨_, rfl, wpAny_pure (hQ _ h2 (Heap.SameBut.update ..))⟩)
end Mine
end
section
open PySem PySem.W PyProof.Rows PySem.Calls
set_option Elab.async false
set_option maxRecDepth 100000
set_option maxHeartbeats 8000000
set_option linter.unusedVariables false
namespace Mine
open PyProof.Rows.LCg
theorem sorted_ext : ∀ {l1 l2 : List Nat}, l1.Pairwise (· < ·) → l2.Pairwise (· < ·) → (∀ x, x ∈ l1 ↔ x ∈ l2) → l1 = l2
  | [], [], _, _, _ => rfl
  | [], b :: r, _, _, h => absurd ((h b).mpr (List.mem_cons_self ..)) (fun h => nomatch h)
  | a :: r, [], _, _, h => absurd ((h a).mp (List.mem_cons_self ..)) (fun h => nomatch h)
  | a :: r1, b :: r2, h1, h2, h => by
    have p1 := List.pairwise_cons.mp h1
    have p2 := List.pairwise_cons.mp h2
    have e : a = b := by
      rcases List.mem_cons.mp ((h a).mp (List.mem_cons_self ..)) with e | e
      · exact e
      · rcases List.mem_cons.mp ((h b).mpr (List.mem_cons_self ..)) with e' | e'
        · exact e'.symm
        · exact absurd (p1.1 b e') (Nat.lt_asymm (p2.1 a e))
    subst e
    congr 1
    refine sorted_ext p1.2 p2.2 fun x => ⟨fun hx => ?_, fun hx => ?_⟩
    · rcases List.mem_cons.mp ((h x).mp (List.mem_cons_of_mem _ hx)) with e | e
      · exact absurd (p1.1 x hx) (e ▸ Nat.lt_irrefl _)
      · exact e
    · rcases List.mem_cons.mp ((h x).mpr (List.mem_cons_of_mem _ hx)) with e | e
      · exact absurd (p2.1 x hx) (e ▸ Nat.lt_irrefl _)
      · exact e
theorem digits_eq {p : Nat} {ord : List PR} {G : List Grp} {ds : List Nat} (D : Dealt (kap p) ref ord G) (hp : ds.Perm (G.map (·.1))) (hs : ds.Pairwise (· ≤ ·)) : ds = digitsOf p ord := by
  have nd : ds.Nodup := hp.nodup_iff.mpr D.nd
  refine sorted_ext (hs.imp₂ (fun a b h1 h2 => Nat.lt_of_le_of_ne h1 h2) nd) ((List.pairwise_lt_range (n := 32)).filter _) fun x => ?_
  have mem : x ∈ ds ↔ ∃ q ∈ ord, kap p q = x := by
    rw [hp.mem_iff, List.mem_map]
    constructor
    · rintro ⟨g, hg, rfl⟩
      exact D.use g hg
    · rintro ⟨q, hq, rfl⟩
      exact D.has q hq
  rw [mem]
  unfold digitsOf
  rw [List.mem_filter, List.mem_range, List.any_eq_true]
  constructor
  · rintro ⟨q, hq, rfl⟩
    exact ⟨Nat.mod_lt _ (by decide), q, hq, by simp⟩
  · rintro ⟨_, q, hq, h⟩
    exact ⟨q, hq, by simpa using h⟩
end Mine
end
section
open PySem PySem.W PyProof.Rows PySem.Calls
set_option Elab.async false
set_option maxRecDepth 100000
set_option maxHeartbeats 8000000
set_option linter.unusedVariables false
namespace Mine
set_option maxHeartbeats 1000000
open PyProof.Rows.LCg
theorem end_fdd {w : World} {A : Around} {s : Shared} {I b dx : Addr} {es : Array DictEntry} {n : Nat} {Q : Option Value → Shared → Prop} {E : Value → Shared → Prop} (hh : A.handled = none) (hI : s.heap.get? I = some (keyIt b es.size es.size n)) (hb : s.heap.get? b = some (fddObj dx es n))
    (hQ : ∀ h', Heap.ExtBut I s.heap h' → Q none { s with heap := h' }) : wpAny (model PySem.Challenge.rw_in0001_01.row.prog w) A (pyNext (.ref I)) Q E s := by
  have hit : s.heap.IsKeyIter I b es.size es.size n := ⟨_, hI, rfl, rfl⟩
  obtain ⟨h₀, g, d, t, os⟩ := s
  dsimp only at hI hb hQ hit
  unfold pyNext
  refine wpAny_bind (wpAny_attempt (wpAny_callSpecial?_slot (name := Str.ofString "__next__") hit.typeIs F.slot_dict_keyiterator_next
    (wpAny_call_entry F.slot_dict_keyiterator_next hit.typeIs F.entry_dict_keyiterator_next ?_ (F.args_dict_keyiterator_next_1 _))))
  refine wpAny_bind (wpAny_pure ?_)
  refine wpAny_bind ?_
  refine wpAny_bind ?_
  refine wpAny_bind (wpAny_typeNameOfWhole_keyiter hit.typeIs (wpAny_pure ?_))
  refine wpAny_bind (wpAny_fieldsOf hI rfl ?_)
  have hown : Builtin.Dict_items.ownsTuple "dict_keyiterator" = false := by decide
  simp only [hown, Bool.false_eq_true, if_false]
  show wpAny _ _ (if (Value.ref b == Value.none) = true then _ else _) _ _ _
  rw [if_neg (show ¬ ((Value.ref b == Value.none) = true) from Bool.false_ne_true)]
  refine wpAny_bind (wpAny_pure (wpAny_bind (wpAny_dictEntries hb rfl ?_)))
  rw [if_neg (by simp)]
  refine wpAny_bind (wpAny_pure (wpAny_bind (wpAny_dictEpoch hb rfl ?_)))
  rw [if_neg (by simp)]
  refine wpAny_pure ?_
  simp only [show ¬ ((es.size : Int) < 0) from by omega, if_false, Int.toNat_natCast, Array.getElem?_eq_none (Nat.le_refl _)]
  refine wpAny_bind ?_
  refine wpAny_bind (wpAny_typeNameOfWhole_keyiter hit.typeIs (wpAny_pure ?_))
  show wpAny _ _ (setField (.ref I) 0 .none >>= _) _ _ _
  refine wpAny_bind (wpAny_setField hI rfl (by simp) ?_)
  show wpAny _ _ (newExc (.type "StopIteration") [] >>= _) _ _ _
  refine wpAny_bind ?_
  simp only [newExc, newTuple]
  refine wpAny_bind (wpAny_newObj_type ?_ (by size_fits))
  refine wpAny_bind (m := firstArgMember _ _) (wpAny_of_eq (a := Value.none) (by first | rfl | (simp only [firstArgMember]; rfl)) ?_)
  refine wpAny_newObj_type ?_ (by size_fits)
  simp only [raiseNew]
  refine wpAny_bind (wpAny_handled ?_)
  rw [show A.in1.handled = none from hh]
  refine wpAny_bind (wpAny_pure (wpAny_throw ?_))
  refine wpAny_bind (wpAny_isInstance (T := "StopIteration") (b := true) ⟨_, Heap.get?_push_size _ rfl, rfl⟩ isSubtype_stop ?_)
  exact wpAny_pure (hQ _ (((Heap.SameBut.update ..).extBut.push _).push _))
theorem walks_fdd {w : World} {A : Around} (hh : A.handled = none) (I b dx : Addr) (es : Array DictEntry) (n : Nat) (hne : b ≠ I) :
    Walks PySem.Challenge.rw_in0001_01.row.prog w A I [I, b] [I] es.size (fun i v => ∃ h : i < es.size, v = es[i].key) (fun i h => h.get? I = some (keyIt b i es.size n) ∧ h.get? b = some (fddObj dx es n)) where
  sub := fun b hb => by simp at hb; simp [hb]
  frame := fun _ _ _ st hk => ⟨hk I (by simp) _ st.1, hk b (by simp) _ st.2⟩
  item := fun i s Q E hi st hQ => by
    refine next_fdd st.1 st.2 hi fun h' h1 hs => ?_
    exact hQ _ h' s.toks ⟨hi, rfl⟩ ⟨h1, hs.extBut _ _ hne st.2⟩ fun b o hb e => hs.extBut b o (fun h => hb (by simp [h])) e
  done := fun s Q E st hQ => end_fdd hh st.1 st.2 fun h' he' => hQ h' s.toks fun b o hb e => he' b o (fun h => hb (by simp [h])) e
  self := fun _ s Q E st hQ => wpAny_pyIter_keyiter (n := es.size) (ep := n) ⟨_, st.1, rfl, rfl⟩ hQ
theorem paired_eq {l₁ l₂ : List Value} (h : Paired (fun v y => y = v) l₁ l₂) : l₂ = l₁ := by
  induction h with
  | nil => rfl
  | cons h _ ih => rw [h, ih]
/-- what iterating the book asks -/
def SrcD (w : World) (h₀ : Heap) (L : Addr) (m : Str → Option Value) (Q : Value → Shared → Prop) (xv : Value) (s₁ : Shared) : Prop :=
  ∃ b dx es n news, xv = .ref b ∧ Fr h₀ L s₁.heap m ∧ News h₀ L s₁.heap news ∧ (b, fddObj dx es n) ∈ news ∧ (K w.params).In s₁.heap ∧ (b == sysModules) = false ∧ es.size ≤ 1000 ∧
    ∀ D h tk ys k, Fr h₀ L h m → News h₀ L h ((D, ({ cls := .type "list", data := .seq ys k } : Obj)) :: news) → (∀ p ∈ news, p.1 ≠ D) → ys.toList = es.toList.map (·.key) → Q (.ref D) { s₁ with heap := h, toks := tk }
theorem keys_comp {w : World} {A : Around} {E : Value → Shared → Prop} {s : Shared} {h₀ : Heap} {L : Addr} {m : Str → Option Value} {env : Env} {iter : Expr} {x : Str} {px px' pos : Pos} {scope : Scope} {cl : List (Str × Addr)} {Q : Value → Shared → Prop} (hh : A.handled = none)
    (hclos : closureFor scope env = pure cl) (hcell : ∀ y ∈ scope.names, y.2 ≠ .cell) (hkind : scope.kind = .function)
    (hnames : ∀ y ∈ scope.names, y.2 = .local → scope.names.lookup y.1 = some .local) (hx : scope.names.lookup x = some .local) (hdb : (x == ("__debug__" : Str)) = false)
    (h : wpAny (model PySem.Challenge.rw_in0001_01.row.prog w) A (eval iter env) (SrcD w h₀ L m Q) E s)
    (hs : ∀ x, foldedSetIterable iter env x = pure x := by intro _; rfl) :
    wpAny (model PySem.Challenge.rw_in0001_01.row.prog w) A (eval (.ListComp (.Name x px') [⟨.Name x px, iter, [], 0⟩] scope pos) env) Q E s := by
  refine wpAny_ListComp_free (fun _ => true) (fun v y => y = v) hclos hcell hkind hnames hx (wpAny_mono h (fun xv s₁ h₁ => ?_) fun _ _ e => e) hs
  obtain ⟨b, dx, es, n, news, rfl, F, N, hb, X, hbs, hsz, fin⟩ := h₁
  have hbb := (N _ hb).1
  refine iter_fdd X hbb hbs ?_
  have hne : b ≠ s₁.heap.objs.size := Nat.ne_of_lt (Heap.lt_size hbb)
  have up : ∀ a o, s₁.heap.get? a = some o → (s₁.heap.push (keyIt b 0 es.size n)).get? a = some o := fun a o e => Heap.get?_push_of_some _ e
  refine ⟨s₁.heap.objs.size, _, [s₁.heap.objs.size], es.size, _, _, rfl, walks_fdd hh _ b dx es n hne, Nat.le_trans hsz (by decide), ⟨Heap.get?_push_size _ rfl, up _ _ hbb⟩, ?_, ⟨?_, ?_⟩, ?_⟩
  · intro a ha
    show a < (s₁.heap.push _).objs.size
    rw [Heap.size_push]
    rcases List.mem_cons.mp ha with rfl | ha
    · exact Nat.lt_succ_self _
    · rw [List.mem_singleton.mp ha]; exact Nat.lt_succ_of_lt (Heap.lt_size hbb)
  · intro C i v s₃ m₃ E' _ _ hn hm _ _
    exact wpAny_tests_nil ⟨rfl, s₃.heap, s₃.toks, rfl, fun _ _ e => e⟩
  · intro C i v s₃ m₃ E' _ _ _ hn hm _ _
    exact wpAny_Name (wpAny_loadName_local (by simp [compEnvC, relabel, hkind]) (lookup_relabel_local hx) hn hm ⟨rfl, s₃.heap, s₃.toks, rfl, fun _ _ e => e⟩) hdb
  · intro D h' tk ys vs hD hl hpl hlen hP hF hk
    obtain ⟨k, hpk⟩ := hpl
    have keep : ∀ a o, s₁.heap.get? a = some o → h'.get? a = some o := fun a o e => hk a o (by simp; exact Nat.ne_of_lt (Heap.lt_size e)) (up a o e)
    have hD1 : s₁.heap.get? D = none := by
      cases e : s₁.heap.get? D with
      | none => rfl
      | some o => exact absurd (hD.symm.trans (up _ _ e)) (fun h => nomatch h)
    refine fin D h' tk ys k (F.keeps keep) (fun p hp => ?_) (fun p hp q => ?_) ?_
    · rcases List.mem_cons.mp hp with rfl | hp
      · refine ⟨hpk, fun q => ?_, ?_⟩
        · obtain ⟨o, _, _, ho, _⟩ := F.ns
          have q' : D = L := q
          rw [q', ho] at hD1; cases hD1
        · cases e : h₀.get? D with
          | none => rfl
          | some o => rw [F.keep _ _ e] at hD1; cases hD1
      · exact ⟨keep _ _ (N p hp).1, (N p hp).2⟩
    · have := (N p hp).1
      rw [q, hD1] at this; cases this
    · have e1 : vs.filter (fun _ => true) = vs := List.filter_eq_self.mpr fun _ _ => rfl
      rw [e1] at hF
      have e2 : ys.toList = vs := paired_eq hF
      rw [e2]
      apply List.ext_getElem?
      intro i
      by_cases hi : i < vs.length
      · obtain ⟨h1, h2⟩ := hP i vs[i] (List.getElem?_eq_getElem hi)
        rw [List.getElem?_eq_getElem hi, h2]
        simp [h1]
      · rw [List.getElem?_eq_none (Nat.le_of_not_lt hi), List.getElem?_eq_none (by simp; omega)]
/-- an encoding of the keys of place p in a list -/
theorem ints_of {ds : List Nat} {vs : List Value} (h : Paired (fun (d : Nat) v => ∃ t, v = Value.int (d : Int) t) ds vs) : IntsAre vs (ds.map fun (d : Nat) => (d : Int)) := by
  induction h with
  | nil => exact .nil
  | cons h _ ih => obtain ⟨t, rfl⟩ := h; exact .cons _ t ih
theorem strs_of {ds : List Nat} {vs : List Value} (h : Paired (fun (d : Nat) v => ∃ t, v = Value.str ⟨#[d]⟩ t) ds vs) : StrsAre vs (ds.map fun d => (⟨#[d]⟩ : Str)) := by
  induction h with
  | nil => exact .nil
  | cons h _ ih => obtain ⟨t, rfl⟩ := h; exact .cons _ t ih
theorem of_ints : ∀ {ds : List Nat} {vs : List Value}, IntsAre vs (ds.map fun (d : Nat) => (d : Int)) → Paired (fun (d : Nat) v => ∃ t, v = Value.int (d : Int) t) ds vs
  | [], vs, h => by cases h; exact .nil
  | d :: ds, vs, h => by
    cases h with
    | cons _ t h => exact .cons ⟨t, rfl⟩ (of_ints h)
theorem of_strs : ∀ {ds : List Nat} {vs : List Value}, StrsAre vs (ds.map fun d => (⟨#[d]⟩ : Str)) → Paired (fun (d : Nat) v => ∃ t, v = Value.str ⟨#[d]⟩ t) ds vs
  | [], vs, h => by cases h; exact .nil
  | d :: ds, vs, h => by
    cases h with
    | cons _ t h => exact .cons ⟨t, rfl⟩ (of_strs h)
theorem perm_map_inv {α β : Type} {f : α → β} (g : β → α) (hg : ∀ a, g (f a) = a) {l : List β} {ds : List α} (h : l.Perm (ds.map f)) : ∃ ds' : List α, l = ds'.map f ∧ ds'.Perm ds := by
  refine ⟨l.map g, ?_, ?_⟩
  · rw [List.map_map]
    have : ∀ x ∈ l, (f ∘ g) x = x := fun x hx => by
      obtain ⟨a, _, rfl⟩ := List.mem_map.mp (h.mem_iff.mp hx)
      simp [hg]
    exact (List.map_congr_left this).trans (List.map_id _) |>.symm
  · have h2 := h.map g
    rw [List.map_map] at h2
    have : ∀ x ∈ ds, (g ∘ f) x = x := fun x _ => hg x
    rwa [(List.map_congr_left this).trans (List.map_id _)] at h2
theorem rising_le : ∀ {ds : List Nat} {a : Nat}, risingS ⟨#[a]⟩ (ds.map fun d => (⟨#[d]⟩ : Str)) = true → (∀ d ∈ ds, a ≤ d) ∧ ds.Pairwise (· ≤ ·)
  | [], _, _ => ⟨(fun _ h => nomatch h), List.Pairwise.nil⟩
  | d :: ds, a, h => by
    simp only [List.map_cons, risingS, Bool.and_eq_true, Bool.not_eq_true'] at h
    obtain ⟨i1, i2⟩ := rising_le h.2
    have h1 : a ≤ d := by
      have := h.1
      simp [PySem.Spec.ltCps] at this
      exact this
    refine ⟨fun x hx => ?_, List.pairwise_cons.mpr ⟨i1, i2⟩⟩
    rcases List.mem_cons.mp hx with rfl | hx
    · exact h1
    · exact Nat.le_trans h1 (i1 x hx)
theorem sorted_le {ds : List Nat} (h : sortedS (ds.map fun d => (⟨#[d]⟩ : Str)) = true) : ds.Pairwise (· ≤ ·) := by
  cases ds with
  | nil => exact List.Pairwise.nil
  | cons d ds =>
    obtain ⟨i1, i2⟩ := rising_le (a := d) h
    exact List.pairwise_cons.mpr ⟨i1, i2⟩
theorem sort_keys {w : World} {A : Around} {E : Value → Shared → Prop} {s : Shared} {h₀ : Heap} {L l : Addr} {m : Str → Option Value} {news : List (Addr × Obj)} {vs : List Value} {p : Nat} {ds : List Nat} {Q : Value → Shared → Prop}
    (F : Fr h₀ L s.heap m) (N : News h₀ L s.heap news) (hl : s.heap.IsList l vs.toArray) (hk : Paired (fun d v => ∃ t, v = keyV p d t) ds vs) (hlen : ds.length ≤ 60)
    (h : ∀ (h' : Heap) (S : Addr) (vs' : List Value) (e : Nat) (ds' : List Nat), Fr h₀ L h' m → News h₀ L h' ((S, ({ cls := .type "list", data := .seq vs'.toArray e } : Obj)) :: news) → (∀ q ∈ news, q.1 ≠ S) → ds'.Perm ds → ds'.Pairwise (· ≤ ·) → KeyVals p ds' vs' → Q (.ref S) { s with heap := h' }) :
    wpAny (model PySem.Challenge.rw_in0001_01.row.prog w) A (call (.builtin "sorted") [.ref l]) Q E s := by
  by_cases hp : p = 1
  · have hk' : Paired (fun (d : Nat) v => ∃ t, v = Value.int (d : Int) t) ds vs := by
      simpa only [keyV, if_pos hp] using hk
    refine kso_sorted F N hl (ints_of hk') (by rw [List.length_map]; omega) ?_
    intro D vs' ns' c h' F' N' lt hi _ hperm hpw _
    obtain ⟨ds', rfl, hd⟩ := perm_map_inv (fun (i : Int) => i.toNat) (fun a => Int.toNat_natCast a) hperm
    refine h h' D vs' c ds' F' N' (fun q hq => Nat.ne_of_lt (lt q hq)) hd ?_ ?_
    · rw [List.pairwise_map] at hpw
      exact hpw.imp fun h => Int.ofNat_le.mp h
    · show Paired (fun d v => ∃ t, v = keyV p d t) ds' vs'
      simpa only [keyV, if_pos hp] using of_ints hi
  · have hk' : Paired (fun (d : Nat) v => ∃ t, v = Value.str ⟨#[d]⟩ t) ds vs := by
      simpa only [keyV, if_neg hp] using hk
    refine sorted_N_str F N hl (strs_of hk') (by rw [← Paired.length hk]; omega) ?_
    intro h' vs' ss' e F' N' hS hperm hs
    obtain ⟨ds', rfl, hd⟩ := perm_map_inv (fun (x : Str) => x.cps.getD 0 0) (fun a => rfl) hperm
    refine h h' _ vs' e ds' F' N' (fun q hq => Nat.ne_of_lt (Nat.lt_succ_of_lt (Heap.lt_size (N q hq).1))) hd (sorted_le hs) ?_
    show Paired (fun d v => ∃ t, v = keyV p d t) ds' vs'
    simpa only [keyV, if_neg hp] using of_strs hS
/-- the book's keys: what BookOf says of them -/
theorem book_keys {w : World} {KT : Type} [DecidableEq KT] {knd : KeyKind PySem.Challenge.rw_in0001_01.row.prog w KT} {enc : Nat → KT} {p : Nat} {es : Array DictEntry} {G : List Grp} (h : BookOf knd enc es G) (hk : ∀ d v, knd.is (enc d) v = true → ∃ t, v = keyV p d t) :
    Paired (fun d v => ∃ t, v = keyV p d t) (G.map (·.1)) (es.toList.map (·.key)) := by
  unfold BookOf at h
  generalize es.toList = xs at h
  induction h with
  | nil => exact .nil
  | cons h1 _ ih => exact .cons (hk _ _ h1.1) ih
theorem append_led {w : World} {A : Around} {E : Value → Shared → Prop} {s : Shared} {h₀ : Heap} {L U : Addr} {m : Str → Option Value} {news : List (Addr × Obj)} {us : List Value} {x : Value} {Q : Value → Shared → Prop} (rest : List (Addr × Obj))
    (F : Fr h₀ L s.heap m) (N : News h₀ L s.heap news) (hm : (U, lst us) ∈ news) (sub : ∀ p ∈ rest, p ∈ news) (off : ∀ p ∈ rest, p.1 ≠ U) (hsz : us.length ≤ 1000)
    (h : ∀ h', Fr h₀ L h' m → News h₀ L h' ((U, lst (us ++ [x])) :: rest) → Q .none { s with heap := h' }) :
    wpAny (model PySem.Challenge.rw_in0001_01.row.prog w) A (call (.builtin "list.append") [.ref U, x]) Q E s := by
  have nl := N _ hm
  refine append_at (hsz := Nat.le_trans hsz (by decide)) nl.1 fun h' hs hl => h h' (F.change hs nl.2.1 nl.2.2) (fun p hp => ?_)
  rcases List.mem_cons.mp hp with rfl | hp
  · exact ⟨hl.trans (congrArg some (lst_snoc us x)), nl.2⟩
  · exact ⟨hs.extBut _ _ (off p hp) (N p (sub p hp)).1, (N p (sub p hp)).2⟩
theorem used_len {rs : List PR} : ∀ {j : Nat} {us : List Value} {l : List (Addr × Obj)}, UsedOf rs j us l → us.length = j
  | 0, _, _, h => by rw [h.1]; rfl
  | j + 1, _, _, h => by
    obtain ⟨us', l', S, vs, k, rfl, _, h', _⟩ := h
    rw [List.length_append, used_len h']; rfl
/-- what is no list -/
def NL (o : Obj) : Prop := ∀ vs k, o ≠ { cls := .type "list", data := .seq vs k }
theorem nl_data {o : Obj} (h : ∀ vs k, o.data ≠ .seq vs k) : NL o := fun vs k q => h vs k (by rw [q])
theorem nl_cls {o : Obj} (h : o.cls ≠ .type "list") : NL o := fun vs k q => h (by rw [q])
theorem nl_pairL (rs : List PR) : ∀ p ∈ pairL rs, NL p.2 := fun p hp => by
  obtain ⟨q, _, hp⟩ := List.mem_flatMap.mp hp
  rcases List.mem_cons.mp hp with rfl | hp
  · exact nl_cls (fun h => nomatch h)
  · rw [List.mem_singleton.mp hp]; exact nl_data (fun _ _ h => nomatch h)
theorem off1_mem {D : Addr} : ∀ {l : List (Addr × Obj)}, Off1 D l → ∀ p ∈ l, p.1 ≠ D
  | [], _, _, h => nomatch h
  | _ :: _, x, p, h => by
    rcases List.mem_cons.mp h with rfl | h
    · exact x.1
    · exact off1_mem x.2 p h
end Mine
end
section
open PySem PySem.W PyProof.Rows PySem.Calls
set_option Elab.async false
set_option maxRecDepth 100000
set_option maxHeartbeats 8000000
set_option linter.unusedVariables false
namespace Mine
open PyProof.Rows.LCg
def keyD (p d : Nat) : PyData := if p = 1 then .int d else .str ⟨#[d]⟩
def usedD (rs : List PR) : Nat → List PyData
  | 0 => []
  | j + 1 => usedD rs j ++ [.list ((digitsOf (2 - j) (order rs j)).map (keyD (2 - j)))]
def rowsD (l : List PR) : List PyData := l.map fun q => .tuple [.str q.nm, .str q.vl]
theorem reads_app {h : Heap} : ∀ {vs ws : List Value} {ds es : List PyData} {as bs : List Addr}, ReadsAll h vs ds as → ReadsAll h ws es bs → ∃ cs, ReadsAll h (vs ++ ws) (ds ++ es) cs
  | _, _, _, _, _, _, .nil, r => ⟨_, r⟩
  | _, _, _, _, _, _, .cons h1 h2, r => by
    obtain ⟨cs, hc⟩ := reads_app h2 r
    exact ⟨_, .cons h1 hc⟩
theorem reads_keys {h : Heap} {p : Nat} {ds : List Nat} {vs : List Value} (k : KeyVals p ds vs) : ∃ as, ReadsAll h vs (ds.map (keyD p)) as := by
  unfold KeyVals at k
  induction k with
  | nil => exact ⟨_, .nil⟩
  | @cons d v l1 l2 hv _ ih =>
    obtain ⟨t, rfl⟩ := hv
    obtain ⟨as, ih⟩ := ih
    by_cases hp : p = 1
    · exact ⟨_, .cons (by simp only [keyV, keyD, if_pos hp]; exact .int _ _) ih⟩
    · exact ⟨_, .cons (by simp only [keyV, keyD, if_neg hp]; exact .str _ _) ih⟩
theorem reads_used {h : Heap} {rs : List PR} : ∀ {j : Nat} {us : List Value} {l : List (Addr × Obj)}, UsedOf rs j us l → (∀ p ∈ l, h.get? p.1 = some p.2) → ∃ as, ReadsAll h us (usedD rs j) as
  | 0, _, _, u, _ => by rw [u.1]; exact ⟨_, .nil⟩
  | j + 1, _, _, u, hl => by
    obtain ⟨us', l', S, vs, k, rfl, rfl, u', hk⟩ := u
    obtain ⟨as, ha⟩ := reads_used u' (fun p hp => hl p (List.mem_cons_of_mem _ hp))
    obtain ⟨bs, hb⟩ := reads_keys (h := h) hk
    exact reads_app ha (.cons (reads_list_at (hl _ (List.mem_cons_self ..)) rfl rfl (by simpa using hb)) .nil)
abbrev tupO (q : PR) (ta tb : Tok) (k : Nat) : Obj := { cls := .type "tuple", data := .seq #[.str q.nm ta, .str q.vl tb] k }
def RowsAt (news : List (Addr × Obj)) (l : List PR) (ys : List Value) : Prop := Paired (fun (q : PR) y => ∃ T ta tb k, y = .ref T ∧ (T, tupO q ta tb k) ∈ news) l ys
theorem RowsAt.mono {news news' : List (Addr × Obj)} {l : List PR} {ys : List Value} (h : RowsAt news l ys) (sub : ∀ p ∈ news, p ∈ news') : RowsAt news' l ys := by
  unfold RowsAt at *
  induction h with
  | nil => exact .nil
  | cons h _ ih =>
    obtain ⟨T, ta, tb, k, e, hm⟩ := h
    exact .cons ⟨T, ta, tb, k, e, sub _ hm⟩ ih
theorem reads_rows {h : Heap} {news : List (Addr × Obj)} {l : List PR} {ys : List Value} (r : RowsAt news l ys) (hl : ∀ p ∈ news, h.get? p.1 = some p.2) : ∃ as, ReadsAll h ys (rowsD l) as := by
  unfold RowsAt at r
  induction r with
  | nil => exact ⟨_, .nil⟩
  | cons hy _ ih =>
    obtain ⟨T, ta, tb, k, rfl, hm⟩ := hy
    obtain ⟨as, ih⟩ := ih
    exact ⟨_, .cons (reads_tuple_at (hl _ hm) rfl rfl (.cons (.str _ _) (.cons (.str _ _) .nil))) ih⟩
def TInv (P : Addr) (k : Nat) (Bs : List (Addr × Obj)) (l : List PR) (ax : Addr) (k' : Nat) (i : Nat) (ys : List Value) (news : List (Addr × Obj)) : Prop := ax = P ∧ k' = k ∧ (∀ p ∈ Bs, p ∈ news) ∧ RowsAt news (l.take i) ys
end Mine
end
section
open PySem PySem.W PyProof.Rows PySem.Calls
set_option Elab.async false
set_option maxRecDepth 100000
set_option maxHeartbeats 8000000
set_option linter.unusedVariables false
namespace Mine
set_option maxHeartbeats 4000000
theorem f_fz (P : Params) : findIn (K P) (.ref 122) (Str.ofString "freeze") = some (some (.ref 119)) := by kernel_rfl
theorem ty_fz (P : Params) : typeIn (K P) (.ref 119) = some (.type "function") := by kernel_rfl
theorem gm_freeze {w : World} {A : Around} {E : Value → Shared → Prop} {s : Shared} {b dx : Addr} {es : Array DictEntry} {n : Nat} {pl : Sem Bool} {Q : Value × List Value → Shared → Prop} (X : (K w.params).In s.heap) (hb : s.heap.get? b = some (fddObj dx es n)) (hd : s.heap.get? dx = some (dictOf [] 0))
    (hQ : Q (.ref 119, [.ref b]) s) :
    wpAny (model PySem.Challenge.rw_in0001_01.row.prog w) A (getMethod (.ref b) (Str.ofString "freeze") pl) Q E s := by
  obtain ⟨h₀, g, d, t, os⟩ := s
  dsimp only at hb hd
  have l1 := looks_findIn (M := (model PySem.Challenge.rw_in0001_01.row.prog w)) X (f_ga w.params)
  have l2 := looks_findIn (M := (model PySem.Challenge.rw_in0001_01.row.prog w)) X (f_gattr w.params)
  have l3 := looks_findIn (M := (model PySem.Challenge.rw_in0001_01.row.prog w)) X (f_fz w.params)
  have lt : Looks (model PySem.Challenge.rw_in0001_01.row.prog w) h₀ (typeOf (.ref 119)) (.type "function") := looks_typeIn X (ty_fz w.params)
  have It : Looks (model PySem.Challenge.rw_in0001_01.row.prog w) h₀ (typeOf (.ref b)) (.ref 122) := (Looks.ld hb).andThen .now
  have hn : h₀.Ns dx (fun _ => none) := ⟨_, #[], 0, hd, rfl, (fun e he => by simp at he), fun _ => rfl⟩
  unfold getMethod specialOf
  refine wpAny_bind (Looks.at (It.andThen l1) ?_)
  dsimp only
  rw [if_neg (show ¬ ((Manifest.canonical "collections.defaultdict.__getattribute__" != "object.__getattribute__") = true) by decide +kernel)]
  refine wpAny_bind (Looks.at (It.andThen l2) ?_)
  dsimp only [Option.isSome]
  rw [if_neg Bool.false_ne_true]
  refine wpAny_bind (Looks.at (It.andThen l3) ?_)
  dsimp only
  refine wpAny_bind (Looks.at lt ?_)
  rw [if_neg (by decide)]
  refine wpAny_bind (wpAny_loadPart hb ?_)
  dsimp only
  refine wpAny_bind (wpAny_nsGet hn ?_)
  rw [if_neg (by decide)]
  exact wpAny_bind (wpAny_rule (wpAny_pure hQ))
end Mine
end
section
open PySem PySem.W PyProof.Rows PySem.Calls
set_option Elab.async false
set_option maxRecDepth 100000
set_option maxHeartbeats 8000000
set_option linter.unusedVariables false
namespace Mine
open PyProof.Rows.LCg
section
theorem dealt_tells (w : World) (P : Addr) (k : Nat) (rs : List PR) (sh : Int) (t1 : Tok)
    {mean : ExcName → Option Value} {mg mb : Str → Option Value} {dp un : Nat} {gd : Option (List Code)} {cn : Str} {cs : Scope} {a : Addr} {ccd : Value} {cl : List (Str × Addr)} {outer : List Env} {A₀ : Around} {base h₀ : Heap} {L : Addr} {m : Str → Option Value} {s : Shared} {Q E : Value → Shared → Prop}
    (B : Below A₀ base outer h₀) (F : Fr h₀ L s.heap m) (N : News h₀ L s.heap ((114, tabObj #[]) :: (P, { cls := .type "list", data := .seq (rs.map ref).toArray k }) :: pairL rs)) (X : (K w.params).In h₀) (T : Top topProg TLo mean mg mb h₀) (hnm : ∀ q ∈ rs, q.nm.length ≤ 3) (hrs : rs.length ≤ 12) (hsh : sh % 32 = 0) (hk : cs.kind = .function) (hd : dp ≤ 400) (hu : un ≤ 800)
    (hret : ∀ r h' tk', Fr h₀ L h' m → (∀ b o, s.heap.get? b = some o → b ∉ ((114, tabObj #[]) :: (P, ({ cls := .type "list", data := .seq (rs.map ref).toArray k } : Obj)) :: pairL rs).map (·.1) → h'.get? b = some o) → (∃ as, Reads h' r (.tuple [.list (rowsD (order rs 3)), .list (usedD rs 3)]) as) → (∃ ps, h'.get? 114 = some (tabObj ps)) → Q r { s with heap := h', toks := tk' }) :
    wpAny (model PySem.Challenge.rw_in0001_01.row.prog w) (ktrTop dp un gd cn cs L a ccd cl outer) (call (.ref 263) [.ref P, .int sh t1]) Q E s := by
  k_with_none
  k_with "call ref" => (k_here; first | ((refine Tells.at (ctrl_int w _ _) (by k_asm) (by k_asm) (by k_asm) (by k_asm) (by k_asm) rfl rfl (by (try dsimp only [ktrTop, Around.deeper]); omega) (by (try dsimp only [ktrTop, Around.deeper]); omega) ?zqpre ?_); (case zqpre => exact trivial); intro r9 tl9 h9 tk9 F9 N9 K9 fr9 P9; (obtain ⟨t9, er9, et9⟩ := P9); subst er9 et9; (try dsimp only [List.nil_append] at N9); (try dsimp only)) | ((refine Tells.at (ctrl_str1 w _ _ _ (item_sign (by omega) (by omega))) (by k_asm) (by k_asm) (by k_asm) (by k_asm) (by k_asm) rfl rfl (by (try dsimp only [ktrTop, Around.deeper]); omega) (by (try dsimp only [ktrTop, Around.deeper]); omega) ?zqpre ?_); (case zqpre => exact trivial); intro r9 tl9 h9 tk9 F9 N9 K9 fr9 P9; (obtain ⟨t9, er9, et9⟩ := P9); subst er9 et9; (try dsimp only [List.nil_append] at N9); (try dsimp only)) | ((refine Tells.at (ctrl_str1 w _ _ _ (at_sign (x := q.nm) (p := pz) (by omega) (by omega))) (by k_asm) (by k_asm) (by k_asm) (by k_asm) (by k_asm) rfl rfl (by (try dsimp only [ktrTop, Around.deeper]); omega) (by (try dsimp only [ktrTop, Around.deeper]); omega) ?zqpre ?_); (case zqpre => exact trivial); intro r9 tl9 h9 tk9 F9 N9 K9 fr9 P9; (obtain ⟨t9, er9, et9⟩ := P9); subst er9 et9; (try dsimp only [List.nil_append] at N9); (try dsimp only)) | (refine leafN (by k_asm) (by k_asm) (mk_fdd (by k_in)) rfl ?zqhd ?zqhu ?_); (case zqhd => exact (show dp + 1 ≤ 800 by omega)); (case zqhu => exact (show un + 3 ≤ 3000 by omega)); intro v9 h8 tk8 F8 N8 hv9 hnew; (obtain ⟨b9, dx9, hr9, hb9, hdx9, fb9, fdx9, ltb9⟩ := hv9); (subst hr9); (have NN := (hnew [(b9, fddObj dx9 #[] 0), (dx9, dictOf [] 0)] (by simp [hb9, hdx9, fb9, fdx9])).append N8); (simp only [List.cons_append, List.nil_append] at NN); (try dsimp only))
  k_with "eval Name" => (k_here; k_dflt (refine' nameX_L ?zqF ?zqv ?_ ?zqa ?zqb; (case zqF => k_asm); (case zqa => rfl); (case zqb => rfl); (case zqv => (repeat (first | assumption | exact if_pos rfl | refine (if_neg (by decide)).trans ?_)); done); k_whole))
  k_with "eval Name" => (k_here; k_dflt (refine' nameX_C ?zqN ?zqc ?zqm ?zqd ?_ ?zqa ?zqb; (case zqa => rfl); (case zqb => rfl); (case zqN => k_asm); (case zqc => rfl); (case zqm => ((repeat (first | assumption | exact List.mem_cons_self .. | exact List.mem_append_right _ (by assumption) | apply List.mem_cons_of_mem)); done)); (case zqd => k_asm); k_whole))
  k_with "getAttr ref" => (k_here; (with_reducible show wpAny _ _ (getAttr _ (Str.ofString "name") _) _ _ _); k_dflt (refine ga_name (dx := q.dx) (nm := q.nm) (vl := q.vl) (t1 := q.t1) (t2 := q.t2) (n := q.n) (by k_asm) (by k_asm) (by k_asm) (by k_asm) (by k_asm) rfl rfl (show dp + 1 ≤ 450 by omega) (show un + 3 ≤ 900 by omega) (News.get (by k_asm) ?zqhp1) (News.get (by k_asm) ?zqhp2) ?_; (case zqhp1 => ((repeat (first | exact hqp | exact List.mem_append_right _ hqp | apply List.mem_cons_of_mem)); done)); (case zqhp2 => ((repeat (first | exact hqd | exact List.mem_append_right _ hqd | apply List.mem_cons_of_mem)); done))); intro h9 tk9 F9 N9 K9; (try dsimp only))
  k_with "getAttr ref" => (k_here; (with_reducible show wpAny _ _ (getAttr _ (Str.ofString "value") _) _ _ _); k_dflt (refine ga_value (dx := q.dx) (nm := q.nm) (vl := q.vl) (t1 := q.t1) (t2 := q.t2) (n := q.n) (by k_asm) (by k_asm) (by k_asm) (by k_asm) (by k_asm) rfl rfl (show dp + 1 ≤ 450 by omega) (show un + 3 ≤ 900 by omega) (News.get (by k_asm) ?zqhp1) (News.get (by k_asm) ?zqhp2) ?_; (case zqhp1 => ((repeat (first | exact hqp | exact List.mem_append_right _ hqp | apply List.mem_cons_of_mem)); done)); (case zqhp2 => ((repeat (first | exact hqd | exact List.mem_append_right _ hqd | apply List.mem_cons_of_mem)); done))); intro h9 tk9 F9 N9 K9; (try dsimp only))
  k_with "call builtin:len" => (k_here; (with_reducible show wpAny _ _ (call (Value.builtin "len") [Value.str _ _]) _ _ _); refine PySem.len_str (by omega) ?_)
  k_with "subscriptTail" => (k_here; (with_reducible show wpAny _ _ (subscriptTail _ _ (Value.ref _) _) _ _ _); refine Stop.mk ?_)
  k_with "call ref" => (k_here; (with_reducible show wpAny _ _ (call (Value.ref 119) _ _) _ _ _); refine Stop.mk ?_)
  k_with "exec Assign cons ListComp" => (k_here; refine Stop.mk ?_)
  k_with "eval ListComp" => (k_here; refine Stop.mk ?_)
  k_with "call builtin:sorted" => (k_here; refine Stop.mk ?_)
  k_with "getMethod ref" => (k_here; (with_reducible show wpAny _ _ (getMethod (Value.ref _) (PySem.Str.ofString "append") _) _ _ _); k_dflt (refine' listMethod_K ?zqN ?zqm PySem.F.slot_list_append PySem.F.type_list_append ?_; (case zqN => k_asm); (case zqm => exact hlm)))
  k_with "call builtin:list.append" => (k_here; refine Stop.mk ?_)
  k_with "eval Name" => (k_here; k_dflt (refine' name_cellG ?zqN ?zqk ?zqx ?zqc ?zqm ?zqd ?zqb ?_; (case zqk => rfl); (case zqx => rfl); (case zqb => decide); (case zqc => rfl); (case zqN => k_asm); (case zqm => ((repeat (first | assumption | exact List.mem_cons_self .. | apply List.mem_cons_of_mem)); done)); (case zqd => k_asm); k_whole))
  k_with "eval Name" => (k_here; k_dflt (refine LCgL.ld_own (by k_asm) (List.mem_cons_of_mem _ (List.mem_cons_self ..)) (by assumption) (by assumption) ?_))
  k_with "call ref" => (k_here; k_dflt ((refine Tells.at (key_any w _ _ _ _ hpz3 (by omega) (by omega)) (by k_asm) (by k_asm) (by k_asm) (by k_asm) (by k_asm) rfl rfl (by (try dsimp only [ktrTop, Around.deeper]); omega) (by (try dsimp only [ktrTop, Around.deeper]); omega) ?zqpre ?_); (case zqpre => exact trivial); intro r9 tl9 h9 tk9 F9 N9 K9 fr9 P9; (obtain ⟨⟨t9, er9⟩, et9⟩ := P9); subst er9 et9; (try dsimp only [List.nil_append] at N9); (try dsimp only)))
  k_with "storeName" => (k_here; (with_reducible show wpAny _ _ (storeName _ (Str.ofString "boxes") _) _ _ _); refine Stop.mk ?_)
  k_with "exec For Name List cons nil" => (k_here; refine Stop.mk ?_)
  k_with "exec For Name Name cons nil" => (k_here; refine Stop.mk ?_)
  revert B F N X T
  k_fill
  intro B F N X T
  refine wpAny_call ?_
  k_dflt (refine' code_cellsG ?k1 ?k2 ?k3 ?k4 ?k5 ?kA ?kF ?kK ?k6 ?k7 ?k8 ?k9 ?kB ?kC ?_ ?c2 ?c3 ?c4; (case kA => exact rfl); (case kF => exact rfl); (case kK => assumption); (case k1 => k_asm); (case k2 => k_asm); (case k3 => k_asm); (case k4 => k_asm); (case k5 => k_asm); (case k6 => k_is); (case k7 => k_is); (case k8 => exact Nat.lt_of_le_of_lt hd (by decide)); (case k9 => exact BindsTo.of_eq rfl); (case kB => exact rfl); (case kC => decide +kernel); (case c2 => exact rfl); (case c3 => exact rfl); (case c4 => exact rfl); k_whole; intro g' L' h' tk' cells' FG' F' N' Y' B' X' T' l1 kG'; k_cells Y'; (try simp only [List.cons_append, List.nil_append, List.append_nil] at N'); (try dsimp only); (try k_lift B'); (try k_fold))
  k_steps
  rename_i oB0 oP0 dB0 dP0 U hh1 lU hh2 F1 N1
  unfold Stop
  with_unfolding_all refine For_list (h₀ := g') (L := L') (OInv rs sh t1 U (L' + 1 + 1) (L' + 1)) rfl ?step ?h
  case h =>
    k_steps
    rename_i lp hh4 F4 N4 llp
    refine ⟨lp, [.int 2 _, .int 1 _, .int 0 _], 0, _, _, rfl, F4, N4, ⟨0, P, k, 0, [], [], tabObj #[], [], oB0, oP0, Nat.zero_le _, rfl, rfl, ⟨_, _, _, rfl⟩, ⟨(if_neg (by decide)).trans rfl, (if_neg (by decide)).trans rfl, if_pos rfl⟩, ⟨_, dB0⟩, ⟨_, dP0⟩, .inl ⟨rfl, rfl, rfl⟩, ⟨rfl, rfl⟩, (fun _ h => nomatch h), Nat.ne_of_gt llp.1, rfl⟩, ?_, ?_⟩
    · rintro r m3 news3 ⟨j, P', k', kl, us, usedL, tab, ex, oB, oP, hj, hkl, hr, ⟨ta, tb, tc, hpl⟩, _, _, _, _, _, _, _, rfl⟩
      subst hkl
      exact List.mem_cons_self ..
    · rintro m3 news3 h3 tk3 ⟨j, P', k', kl, us, usedL, tab, ex, oB, oP, hj, hkl, hr, ⟨ta, tb, tc, hpl⟩, ⟨hm1, hm2, hm3⟩, ⟨vB, hoB⟩, ⟨vP, hoP⟩, htab, hus, hUne, hlU, hBs⟩ F3 N3
      have hj3 : j = 3 := by
        have e1 := congrArg List.length hr
        rw [hpl, List.length_drop] at e1
        simp only [List.length_nil, List.length_cons] at e1
        omega
      subst hj3
      clear hr hj
      k_steps
      unfold Stop
      have hlen3 : (order rs 3).length ≤ 12 := by rw [(order_perm rs 3).length_eq]; exact hrs
      with_unfolding_all refine ListComp_inv (h₀ := g') (L := L') (m := m3) ((order rs 3).map ref).toArray (TInv P' k' news3 (order rs 3)) F3 rfl (by with_unfolding_all rfl) (by decide) rfl (by decide) rfl (by simp; omega) ?tstep ?tsrc
      case tsrc =>
        k_steps
        refine ⟨P', k', news3, rfl, F3, N3, ⟨rfl, rfl, fun p hp => hp, Paired.nil⟩, ?_, ?_⟩
        · rintro i ys news ⟨_, _, hsub, _⟩
          exact hsub _ (by rw [hBs]; first | ((repeat (first | exact List.mem_cons_self .. | assumption | refine List.mem_cons_of_mem _ ?_ | exact List.mem_append_left _ (by assumption) | refine List.mem_append_right _ ?_)); done) | simp)
        · rintro D5 h5 tk5 ys news5 F5 N5 o5 ⟨_, _, hsub, hrows⟩
          have hUn : (U, lst us) ∈ news5 := hsub _ (by rw [hBs]; first | ((repeat (first | exact List.mem_cons_self .. | assumption | refine List.mem_cons_of_mem _ ?_ | exact List.mem_append_left _ (by assumption) | refine List.mem_append_right _ ?_)); done) | simp)
          have hsn : ∀ p ∈ usedL, p ∈ news5 := fun p hp => hsub _ (by rw [hBs]; first | ((repeat (first | exact List.mem_cons_self .. | assumption | refine List.mem_cons_of_mem _ ?_ | exact List.mem_append_left _ (by assumption) | refine List.mem_append_right _ ?_)); done) | simp [hp])
          have hrows3 : RowsAt news5 (order rs 3) ys := by
            have e : List.take ((order rs 3).map ref).toArray.size (order rs 3) = order rs 3 := List.take_of_length_le (by first | ((repeat (first | exact List.mem_cons_self .. | assumption | refine List.mem_cons_of_mem _ ?_ | exact List.mem_append_left _ (by assumption) | refine List.mem_append_right _ ?_)); done) | simp)
            rw [e] at hrows
            exact hrows
          k_steps
          rename_i T1 hT1 FT NT lT kF k0 k1 k2
          obtain ⟨as, ha⟩ := reads_rows (h := hT1) hrows3 (fun p hp => (NT p (List.mem_cons_of_mem _ (List.mem_cons_of_mem _ hp))).1)
          obtain ⟨bs, hb⟩ := reads_used (h := hT1) hus (fun p hp => (NT p (List.mem_cons_of_mem _ (List.mem_cons_of_mem _ (hsn p hp)))).1)
          obtain ⟨ps, hps⟩ : ∃ ps, tab = tabObj ps := by
            rcases htab with ⟨_, h, _⟩ | ⟨_, c0, _, _, _, h, _⟩
            · exact ⟨_, h⟩
            · exact ⟨_, h⟩
          have h114 : (114, tab) ∈ news5 := hsub _ (by rw [hBs]; first | ((repeat (first | exact List.mem_cons_self .. | assumption | refine List.mem_cons_of_mem _ ?_ | exact List.mem_append_left _ (by assumption) | refine List.mem_append_right _ ?_)); done) | simp)
          exact hret _ _ _ (by k_asm) (fun b o e hb => FT.keep b o (kG' b o e hb)) ⟨_, reads_tuple_at (NT _ (List.mem_cons_self ..)).1 rfl rfl (.cons (reads_list_at (NT _ (List.mem_cons_of_mem _ (List.mem_cons_self ..))).1 rfl rfl (by simpa using ha)) (.cons (reads_list_at (NT _ (List.mem_cons_of_mem _ (List.mem_cons_of_mem _ hUn))).1 rfl rfl (by simpa using hb)) .nil))⟩ ⟨ps, hps ▸ (NT (114, tab) (List.mem_cons_of_mem _ (List.mem_cons_of_mem _ h114))).1⟩
      case tstep =>
        rintro ax kk i v I3 oI3 C oC D m2 ys news sx E3 hi hv ⟨hax, hkk, hsub, hrows⟩ hNs hm2 Fx Nx off3 ne3
        obtain ⟨q, hq1, rfl⟩ : ∃ q, (order rs 3)[i]? = some q ∧ v = .ref q.p := by
          rw [List.getElem?_toArray, List.getElem?_map] at hv
          cases e : (order rs 3)[i]? with
          | none => rw [e] at hv; cases hv
          | some q => rw [e] at hv; exact ⟨q, rfl, (Option.some.inj hv).symm⟩
        have hq : q ∈ rs := mem_order (j := 3) (List.mem_of_getElem? hq1)
        have hqp : (q.p, pairObj q.dx q.nm q.vl q.t1 q.t2 q.n) ∈ news := hsub _ (by rw [hBs]; simp [(mem_pairL hq).1])
        have hqd : (q.dx, dictOf [] 0) ∈ news := hsub _ (by rw [hBs]; simp [(mem_pairL hq).2])
        clear F3 N3
        k_steps
        rename_i T1 hT1 FT NT lT
        refine ⟨_, _, (T1, tupO q q.t1 q.t2 0) :: news, rfl, FT, fun p hp => NT p (by (first | (refine sub_use hp ?_; (repeat' (first | exact sub_self | exact sub_nil | exact List.mem_cons_self .. | refine List.mem_cons_of_mem _ ?_ | refine sub_cons ?_ ?_ | refine sub_app ?_ ?_ | exact sub_inl | refine sub_skip ?_ | refine sub_right ?_ | refine List.mem_append_right _ ?_)); done) | (simp only [List.mem_cons] at hp ⊢; grind))), ⟨⟨Nat.ne_of_gt lT.1, Nat.ne_of_gt lT.2.1, Nat.ne_of_gt lT.2.2.1⟩, off3⟩, hax, hkk, fun p hp => List.mem_cons_of_mem _ (hsub p hp), ?_⟩
        rw [List.take_add_one, hq1]
        exact Paired.snoc (RowsAt.mono hrows fun p hp => List.mem_cons_of_mem _ hp) ⟨T1, q.t1, q.t2, 0, rfl, List.mem_cons_self ..⟩
  case step =>
    intro lp pl v r m news I oI sx E' hInv hcI ⟨iI, hdI⟩ Fx Nx offI
    have hoI : ∀ v, oI.data ≠ .cell v := fun v q => by rw [hdI] at q; cases q
    obtain ⟨j, P', k', kl, us, usedL, tab, ex, oB, oP, hj, hkl, hr, ⟨ta, tb, tc, hpl⟩, ⟨hm1, hm2, hm3⟩, ⟨vB, hoB⟩, ⟨vP, hoP⟩, htab, hus, hUne, hlU, rfl⟩ := hInv
    have hv : ∃ pz tz, v = .int pz tz ∧ pz = 2 - (j : Int) ∧ j < 3 := by
      subst hpl
      match j, hj, hr with
      | 0, _, hr => exact ⟨_, _, (List.cons.inj hr).1, rfl, by decide⟩
      | 1, _, hr => exact ⟨_, _, (List.cons.inj hr).1, rfl, by decide⟩
      | 2, _, hr => exact ⟨_, _, (List.cons.inj hr).1, rfl, by decide⟩
      | 3, _, hr => cases hr
    obtain ⟨pz, tz, rfl, hpz, hj3⟩ := hv
    have hUP : ∀ p ∈ ex ++ (usedL ++ pairL rs), Plain p.2 := fun p hp => (List.mem_append.mp hp).elim ((plain_tabAt htab).2 p) fun hp => (List.mem_append.mp hp).elim (plain_used hus p) (plain_pairL rs p)
    refine wpAny_assign_Name (store_cell Fx Nx rfl rfl rfl (c := L' + 1) (o := oP) (by repeat (first | exact List.mem_cons_self .. | apply List.mem_cons_of_mem)) hoP
      ((I, oI) :: (lp, { cls := .type "list", data := .seq pl.toArray kl }) :: (U, lst us) :: (L' + 1 + 1, oB) :: (114, tab) :: (P', { cls := .type "list", data := .seq ((order rs j).map ref).toArray k' }) :: (ex ++ (usedL ++ pairL rs))) (by intro p hp; (first | (refine sub_use hp ?_; (repeat' (first | exact sub_self | exact sub_nil | exact List.mem_cons_self .. | refine List.mem_cons_of_mem _ ?_ | refine sub_cons ?_ ?_ | refine sub_app ?_ ?_ | exact sub_inl | refine sub_skip ?_ | refine sub_right ?_ | refine List.mem_append_right _ ?_)); done) | (simp only [List.mem_cons] at hp ⊢; grind))) ?off ?_)
    case off =>
      intro p hp
      simp only [List.mem_cons] at hp
      rcases hp with h | h | h | h | h | h | h
      · subst h; exact .inl hoI
      · subst h; exact .inl (plain_list _ _)
      · subst h; exact .inl (plain_list _ _)
      · subst h; exact .inr ((Nat.succ_ne_self _))
      · subst h; exact .inl (plain_tabAt htab).1
      · subst h; exact .inl (plain_list _ _)
      · exact .inl (hUP p h)
    intro h9 oP9 F9 N9 d9
    k_steps
    unfold Stop
    have offb : ∀ p ∈ (dx9, dictOf [] 0) :: (L' + 1, oP9) :: (I, oI) :: (lp, { cls := .type "list", data := .seq pl.toArray kl }) :: (U, lst us) :: (L' + 1 + 1, oB) :: (114, tab) :: (P', { cls := .type "list", data := .seq ((order rs j).map ref).toArray k' }) :: (ex ++ (usedL ++ pairL rs)), p.1 ≠ b9 := fun p hp q => by
      have hp0 := hp
      rcases List.mem_cons.mp hp with rfl | hp
      · dsimp only at q
        subst q
        have e := hb9.symm.trans hdx9
        exact absurd (congrArg Obj.cls (Option.some.inj e)) (fun h => nomatch h)
      · have e := (N9 p hp).1
        rw [q] at e
        exact Option.some_ne_none _ (e.symm.trans fb9)
    have offd : ∀ p ∈ (L' + 1, oP9) :: (I, oI) :: (lp, { cls := .type "list", data := .seq pl.toArray kl }) :: (U, lst us) :: (L' + 1 + 1, oB) :: (114, tab) :: (P', { cls := .type "list", data := .seq ((order rs j).map ref).toArray k' }) :: (ex ++ (usedL ++ pairL rs)), p.1 ≠ dx9 := fun p hp q => by
      have e := (N9 p hp).1
      rw [q] at e
      exact Option.some_ne_none _ (e.symm.trans fdx9)
    refine store_cell F8 NN rfl rfl rfl (c := L' + 1 + 1) (o := oB) (by repeat (first | exact List.mem_cons_self .. | apply List.mem_cons_of_mem)) hoB
      ((b9, fddObj dx9 #[] 0) :: (dx9, dictOf [] 0) :: (L' + 1, oP9) :: (I, oI) :: (lp, { cls := .type "list", data := .seq pl.toArray kl }) :: (U, lst us) :: (114, tab) :: (P', { cls := .type "list", data := .seq ((order rs j).map ref).toArray k' }) :: (ex ++ (usedL ++ pairL rs))) (by intro p hp; (first | (refine sub_use hp ?_; (repeat' (first | exact sub_self | exact sub_nil | exact List.mem_cons_self .. | refine List.mem_cons_of_mem _ ?_ | refine sub_cons ?_ ?_ | refine sub_app ?_ ?_ | exact sub_inl | refine sub_skip ?_ | refine sub_right ?_ | refine List.mem_append_right _ ?_)); done) | (simp only [List.mem_cons] at hp ⊢; grind))) ?off2 ?_
    case off2 =>
      intro p hp
      simp only [List.mem_cons] at hp
      rcases hp with h | h | h | h | h | h | h | h | h
      · subst h; exact .inl (plain_fdd _ _ _)
      · subst h; exact .inl (plain_dict _ _)
      · subst h; exact .inr ((Nat.ne_of_lt (Nat.lt_succ_self _)))
      · subst h; exact .inl hoI
      · subst h; exact .inl (plain_list _ _)
      · subst h; exact .inl (plain_list _ _)
      · subst h; exact .inl (plain_tabAt htab).1
      · subst h; exact .inl (plain_list _ _)
      · exact .inl (hUP p h)
    intro h7 oB7 F7 N7 d7
    k_steps
    unfold Stop
    have hbs9 := fdd_addr T' F9.keep fdx9 ltb9
    obtain ⟨KT, inst, knd, enc, hinj, hkey, hkeyi⟩ := kinds w (2 - j)
    obtain ⟨R, hR⟩ : ∃ R, R = (L' + 1 + 1, oB7) :: (L' + 1, oP9) :: (I, oI) :: (lp, ({ cls := .type "list", data := .seq pl.toArray kl } : Obj)) :: (U, lst us) :: (114, tab) :: (P', ({ cls := .type "list", data := .seq ((order rs j).map ref).toArray k' } : Obj)) :: (ex ++ (usedL ++ pairL rs)) := ⟨_, rfl⟩
    with_unfolding_all refine For_list (h₀ := g') (L := L') (JInv knd enc (kap (2 - j)) b9 dx9 R (order rs j) sh t1 P' U) rfl ?step2 ?h2
    case h2 =>
      k_steps
      refine ⟨P', (order rs j).map ref, k', m, (b9, fddObj dx9 #[] 0) :: (dx9, dictOf [] 0) :: (glist [] ++ R), rfl, F7, ?_, ⟨[], order rs j, #[], 0, [], rfl, rfl, ⟨hm1, hm2, hm3⟩, Paired.nil, Dealt.nil, ⟨List.nodup_nil, fun _ _ _ h => nomatch h⟩, ?_, rfl, rfl, rfl⟩, ?_, ?_⟩
      · intro p hp
        rw [hR] at hp
        exact N7 p (by (first | (refine sub_use hp ?_; (repeat' (first | exact sub_self | exact sub_nil | exact List.mem_cons_self .. | refine List.mem_cons_of_mem _ ?_ | refine sub_cons ?_ ?_ | refine sub_app ?_ ?_ | exact sub_inl | refine sub_skip ?_ | refine sub_right ?_ | refine List.mem_append_right _ ?_)); done) | (simp only [glist, List.map_nil, List.nil_append, List.mem_cons] at hp ⊢; grind)))
      · intro p hp
        rw [hR] at hp
        simp only [glist, List.map_nil, List.nil_append, List.mem_cons] at hp
        by_cases h : p = (L' + 1 + 1, oB7)
        · rw [h]
          exact offb (L' + 1 + 1, oB) (by first | ((repeat (first | exact List.mem_cons_self .. | assumption | refine List.mem_cons_of_mem _ ?_ | exact List.mem_append_left _ (by assumption) | refine List.mem_append_right _ ?_)); done) | simp)
        · exact offb p (by simp only [List.mem_cons]; grind)
      · rintro r2 m2 news ⟨_, _, _, _, _, _, _, _, _, _, _, _, rfl, _, _⟩
        refine List.mem_cons_of_mem _ (List.mem_cons_of_mem _ (List.mem_append_right _ ?_))
        rw [hR]
        simp
      · rintro m2 news h2 tk2 ⟨done, rest, es, n, G, hord, hr2, ⟨hm1, hm2, hm3⟩, hbk, hdl, hsep, hnb, rfl, hax, hits⟩ F2 N2
        have hrest : rest = [] := by
          cases rest with
          | nil => rfl
          | cons q rest => cases hr2
        subst hrest
        rw [List.append_nil] at hord
        subst hord
        have hcB : (L' + 1 + 1, oB7) ∈ R := by rw [hR]; exact List.mem_cons_self ..
        have hcP : (L' + 1, oP9) ∈ R := by rw [hR]; exact List.mem_cons_of_mem _ (List.mem_cons_self ..)
        k_steps
        refine gm_freeze (dx := dx9) (es := es) (n := n) (X'.keeps F2.keep) (N2.get (List.mem_cons_self ..)) (N2.get (List.mem_cons_of_mem _ (List.mem_cons_self ..))) ?_
        k_steps
        unfold Stop
        obtain ⟨R', hR'⟩ : ∃ R', R' = (L' + 1 + 1, oB7) :: (L' + 1, oP9) :: (I, oI) :: (lp, ({ cls := .type "list", data := .seq pl.toArray kl } : Obj)) :: (U, lst us) :: (P', ({ cls := .type "list", data := .seq ((order rs j).map ref).toArray k' } : Obj)) :: (usedL ++ pairL rs) := ⟨_, rfl⟩
        have hN3 : News g' L' h2 ((114, tab) :: (b9, fddObj dx9 es n) :: (dx9, dictOf [] 0) :: (ex ++ (glist G ++ R'))) := fun p hp => N2 p (by
          rw [hR]; rw [hR'] at hp
          (first | (refine sub_use hp ?_; (repeat' (first | exact sub_self | exact sub_nil | exact List.mem_cons_self .. | refine List.mem_cons_of_mem _ ?_ | refine sub_cons ?_ ?_ | refine sub_app ?_ ?_ | exact sub_inl | refine sub_skip ?_ | refine sub_right ?_ | refine List.mem_append_right _ ?_)); done) | (simp only [List.mem_cons, List.mem_append] at hp ⊢; grind)))
        have hNT : ∀ p ∈ (b9, fddObj dx9 es n) :: (dx9, dictOf [] 0) :: (ex ++ (glist G ++ R')), NT p.2 := fun p hp => by
          rw [hR'] at hp
          simp only [List.mem_cons, List.mem_append] at hp
          rcases hp with h | h | h | h | h | h | h | h | h | h | h | h
          · subst h; exact nt_fdd _ _ _
          · subst h; exact nt_dict _ _
          · exact (nt_ex htab).1 p h
          · exact nt_glist G p h
          · subst h; exact nt_cell d7
          · subst h; exact nt_cell d9
          · subst h; exact nt_cls (by rw [hcI]; exact fun h => nomatch h)
          · subst h; exact nt_list _ _
          · subst h; exact nt_list _ _
          · subst h; exact nt_list _ _
          · exact nt_used hus p h
          · exact nt_pairL rs p h
        have h114 : ∀ p ∈ (b9, fddObj dx9 es n) :: (dx9, dictOf [] 0) :: (ex ++ (glist G ++ R')), p.1 ≠ 114 := fun p hp => news_apart hN3 (b := 114) (o' := tab) (List.mem_cons_of_mem _ hp) (List.mem_cons_self ..) ((nt_ex htab).2 _ (hNT p hp))
        have hnd : ∀ p ∈ ex ++ (glist G ++ R'), p.1 ≠ dx9 := fun p hp => by
          rcases List.mem_append.mp hp with h | h
          · exact offd p (by simp only [List.mem_cons, List.mem_append]; grind)
          rcases List.mem_append.mp h with h | h
          · obtain ⟨g, hg, rfl⟩ := List.mem_map.mp h
            exact news_apart hN3 (b := dx9) (o' := dictOf [] 0) (List.mem_cons_of_mem _ (List.mem_cons_of_mem _ (List.mem_cons_of_mem _ hp))) (List.mem_cons_of_mem _ (List.mem_cons_of_mem _ (List.mem_cons_self ..))) (lst_ne_dict _ _ _)
          · rw [hR'] at h
            by_cases hB : p = (L' + 1 + 1, oB7)
            · rw [hB]; exact offd (L' + 1 + 1, oB) (by first | ((repeat (first | exact List.mem_cons_self .. | assumption | refine List.mem_cons_of_mem _ ?_ | exact List.mem_append_left _ (by assumption) | refine List.mem_append_right _ ?_)); done) | simp)
            · exact offd p (by simp only [List.mem_cons, List.mem_append] at h ⊢; grind)
        refine wpAny_call ?_
        refine freeze_any w b9 dx9 es n j tab ex htab B' F2 hN3 X' T' rfl (show dp + 1 ≤ 450 by omega) (show un + 3 ≤ 900 by omega) h114 (Nat.ne_of_gt ltb9) hnd ?_
        intro f c ca oc oo vs tq ctv t8 h4 tk4 F4 N4 hoc hvs hoo
        clear hN3 h114 hnd hNT N2
        have hB4 : (L' + 1 + 1, oB7) ∈ R' := by rw [hR']; exact List.mem_cons_self ..
        have hP4 : (L' + 1, oP9) ∈ R' := by rw [hR']; exact List.mem_cons_of_mem _ (List.mem_cons_self ..)
        k_steps
        unfold Stop
        clear B F N X T FG' kG' l1 dB0 dP0 lU F1 N1 N9 NN N8 N7 F7 F8 F9 hnew hb9 hdx9 fb9 fdx9 offb offd F2
        have hpz3 : pz = 0 ∨ pz = 1 ∨ pz = 2 := by omega
        obtain ⟨Bs, hBs⟩ : ∃ Bs, Bs = (b9, fddObj dx9 es n) :: (dx9, frozenD w.params t8 f) :: (f, lamObj ((mg "__name__").getD .none) ca c ctv) :: (c, oc) :: (ca, oo) :: (114, tabObj #[rawInt 54, rawInt 23, .ref c]) :: (glist G ++ R') := ⟨_, rfl⟩
        rw [← hBs] at N4
        with_unfolding_all refine Assign_Comp2 (h₀ := g') (L := L') (m := m2) (n := 32) (Inv := CInv Bs (kap (2 - j)) (order rs j)) rfl (by with_unfolding_all rfl) (by with_unfolding_all rfl) ?ca3 rfl ?ca4 rfl rfl ?ca5 rfl rfl rfl ?ca6 (by decide) ?cstep ?csrc
        case ca3 => decide
        case ca4 => decide
        case ca5 => decide
        case ca6 => intro x env; rfl
        case csrc =>
          k_steps
          rename IsRange _ _ _ _ _ _ _ _ => rg
          refine ⟨_, _, _, _, Bs, rfl, by k_asm, by k_asm, rg, by decide, by rfl, ⟨fun p hp => hp, rfl⟩, ?_⟩
          rintro D5 h5 tk5 ys news5 F5 N5 o5 ⟨hsub, hys⟩
          rw [gath_all] at hys
          have hUn : (U, lst us) ∈ news5 := hsub _ (by rw [hBs, hR']; first | ((repeat (first | exact List.mem_cons_self .. | assumption | refine List.mem_cons_of_mem _ ?_ | exact List.mem_append_left _ (by assumption) | refine List.mem_append_right _ ?_)); done) | simp)
          have hBn : (L' + 1 + 1, oB7) ∈ news5 := hsub _ (by rw [hBs]; first | ((repeat (first | exact List.mem_cons_self .. | assumption | refine List.mem_cons_of_mem _ ?_ | exact List.mem_append_left _ (by assumption) | refine List.mem_append_right _ ?_)); done) | simp [hB4])
          have hlm : (U, lst us) ∈ (D5, lst ys) :: news5 := List.mem_cons_of_mem _ hUn
          k_steps
          unfold Stop
          have hkeys := book_keys (p := 2 - j) hbk hkeyi
          have hGd : G.length ≤ 12 := Nat.le_trans hdl.len (by rw [(order_perm rs j).length_eq]; exact hrs)
          with_unfolding_all refine keys_comp (h₀ := g') (L := L') (m := fun w => if w = Str.ofString "pairs" then some (Value.ref D5) else m2 w) rfl (by with_unfolding_all rfl) (by decide) rfl (by decide) rfl (by decide) ?ksrc
          case ksrc =>
            k_steps
            refine ⟨b9, dx9, es, n, (D5, lst ys) :: news5, rfl, by k_asm, by k_asm, List.mem_cons_of_mem _ (hsub _ (by rw [hBs]; exact List.mem_cons_self ..)), X'.keeps (Fr.keep (by k_asm)), hbs9, by rw [hbk.size]; omega, ?_⟩
            intro D6 h6 tk6 ys6 k6 F6 N6 o6 hys6
            have hks : Paired (fun d v => ∃ t, v = keyV (2 - j) d t) (G.map (·.1)) ys6.toList := hys6 ▸ hkeys
            k_steps
            unfold Stop
            refine sort_keys (p := 2 - j) (ds := G.map (·.1)) (vs := ys6.toList) F6 N6 ⟨_, (N6 _ (List.mem_cons_self ..)).1, rfl, k6, by simp⟩ hks (by rw [List.length_map]; omega) ?_
            intro h7 S vs7 e7 ds7 F7 N7 o7 hpm hpw hkv
            have hdd := digits_eq hdl hpm hpw
            rw [hdd] at hkv
            k_steps
            unfold Stop
            have hin : ∀ p ∈ R', p ∈ news5 := fun p hp => hsub p (by rw [hBs]; first | ((repeat (first | exact List.mem_cons_self .. | assumption | refine List.mem_cons_of_mem _ ?_ | exact List.mem_append_left _ (by assumption) | refine List.mem_append_right _ ?_)); done) | simp [hp])
            have hU7 : (U, lst us) ∈ (S, ({ cls := .type "list", data := .seq vs7.toArray e7 } : Obj)) :: (D6, ({ cls := .type "list", data := .seq ys6 k6 } : Obj)) :: (D5, lst ys) :: news5 := List.mem_cons_of_mem _ (List.mem_cons_of_mem _ (List.mem_cons_of_mem _ hUn))
            have sub7 : ∀ p ∈ (I, oI) :: (lp, ({ cls := .type "list", data := .seq pl.toArray kl } : Obj)) :: (L' + 1 + 1, oB7) :: (L' + 1, oP9) :: (114, tabObj #[rawInt 54, rawInt 23, .ref c]) :: (D5, lst ys) :: (c, oc) :: (S, ({ cls := .type "list", data := .seq vs7.toArray e7 } : Obj)) :: (usedL ++ pairL rs), p ∈ (S, ({ cls := .type "list", data := .seq vs7.toArray e7 } : Obj)) :: (D6, ({ cls := .type "list", data := .seq ys6 k6 } : Obj)) :: (D5, lst ys) :: news5 := fun p hp => by
              have h1 := hin p
              have h2 := hsub p
              rw [hR'] at h1
              rw [hBs] at h2
              simp only [List.mem_cons, List.mem_append] at hp h1 h2 ⊢
              grind
            have nlU : ∀ p ∈ (S, ({ cls := .type "list", data := .seq vs7.toArray e7 } : Obj)) :: (D6, ({ cls := .type "list", data := .seq ys6 k6 } : Obj)) :: (D5, lst ys) :: news5, NL p.2 → p.1 ≠ U := fun p hp h => news_apart N7 hp hU7 (h _ _)
            have off7 : ∀ p ∈ (I, oI) :: (lp, ({ cls := .type "list", data := .seq pl.toArray kl } : Obj)) :: (L' + 1 + 1, oB7) :: (L' + 1, oP9) :: (114, tabObj #[rawInt 54, rawInt 23, .ref c]) :: (D5, lst ys) :: (c, oc) :: (S, ({ cls := .type "list", data := .seq vs7.toArray e7 } : Obj)) :: (usedL ++ pairL rs), p.1 ≠ U := fun p hp => by
              have hp7 := sub7 p hp
              simp only [List.mem_cons, List.mem_append] at hp
              rcases hp with h | h | h | h | h | h | h | h | h | h
              · exact nlU p hp7 (by rw [h]; exact nl_cls (by rw [hcI]; exact fun h => nomatch h))
              · rw [h]; exact hlU
              · exact nlU p hp7 (by rw [h]; exact nl_data (fun vs k q => by rw [d7] at q; cases q))
              · exact nlU p hp7 (by rw [h]; exact nl_data (fun vs k q => by rw [d9] at q; cases q))
              · exact nlU p hp7 (by rw [h]; exact nl_cls (fun h => nomatch h))
              · rw [h]; exact Ne.symm (off1_mem o5 _ hUn)
              · exact nlU p hp7 (by rw [h]; exact nl_data (fun vs k q => by rw [hoc] at q; cases q))
              · rw [h]; exact Ne.symm (o7 (U, lst us) (List.mem_cons_of_mem _ (List.mem_cons_of_mem _ hUn)))
              · exact hUne p h
              · exact nlU p hp7 (nl_pairL rs p h)
            refine append_led _ F7 N7 hU7 sub7 off7 (by rw [used_len hus]; omega) ?_
            intro h8 F8 N8
            k_steps
            have hr8 : r = pl.drop (j + 1) := by
              have e1 := congrArg List.tail hr
              rw [List.tail_drop] at e1
              exact e1
            have fin8 : News g' L' h8 ((I, oI) :: (lp, ({ cls := .type "list", data := .seq pl.toArray kl } : Obj)) :: (U, lst (us ++ [.ref S])) :: (L' + 1 + 1, oB7) :: (L' + 1, oP9) :: (114, tabObj #[rawInt 54, rawInt 23, .ref c]) :: (D5, ({ cls := .type "list", data := .seq ((order rs (j + 1)).map ref).toArray ys.length } : Obj)) :: ([(c, oc)] ++ ((S, ({ cls := .type "list", data := .seq vs7.toArray e7 } : Obj)) :: usedL ++ pairL rs))) := fun p hp => N8 p (by
              have hys' : lst ys = ({ cls := .type "list", data := .seq ((order rs (j + 1)).map ref).toArray ys.length } : Obj) := by
                unfold order
                rw [← hys]
              rw [hys']
              (first | (refine sub_use hp ?_; (repeat' (first | exact sub_self | exact sub_nil | exact List.mem_cons_self .. | refine List.mem_cons_of_mem _ ?_ | refine sub_cons ?_ ?_ | refine sub_app ?_ ?_ | exact sub_inl | refine sub_skip ?_ | refine sub_right ?_ | refine List.mem_append_right _ ?_)); done) | (simp only [List.mem_cons, List.mem_append, List.cons_append, List.nil_append] at hp ⊢; grind)))
            refine ⟨rfl, h8, _, _, _, rfl, F8, fin8, ?_, j + 1, D5, ys.length, kl, us ++ [.ref S], (S, { cls := .type "list", data := .seq vs7.toArray e7 }) :: usedL, _, [(c, oc)], oB7, oP9, hj3, hkl, hr8, ⟨ta, tb, tc, hpl⟩, ⟨if_pos rfl, (if_neg (by decide)).trans hm2, (if_neg (by decide)).trans hm3⟩, ⟨_, d7⟩, ⟨_, d9⟩, .inr ⟨Nat.succ_pos _, c, oc, vs, tq, rfl, rfl, hoc, hvs⟩, ⟨us, usedL, S, vs7, e7, rfl, rfl, hus, hkv⟩, ?_, hlU, rfl⟩
            · have hI5 : (I, oI) ∈ news5 := hin _ (by rw [hR']; first | ((repeat (first | exact List.mem_cons_self .. | assumption | refine List.mem_cons_of_mem _ ?_ | exact List.mem_append_left _ (by assumption) | refine List.mem_append_right _ ?_)); done) | simp)
              intro p hp
              have hp8 := fin8 p (List.mem_cons_of_mem _ hp)
              simp only [List.mem_cons, List.mem_append, List.cons_append, List.nil_append] at hp
              rcases hp with h | h | h | h | h | h | h | h | h | h
              · rw [h]; exact offI (lp, { cls := .type "list", data := .seq pl.toArray kl }) (by first | ((repeat (first | exact List.mem_cons_self .. | assumption | refine List.mem_cons_of_mem _ ?_ | exact List.mem_append_left _ (by assumption) | refine List.mem_append_right _ ?_)); done) | simp)
              · rw [h]; exact offI (U, lst us) (by first | ((repeat (first | exact List.mem_cons_self .. | assumption | refine List.mem_cons_of_mem _ ?_ | exact List.mem_append_left _ (by assumption) | refine List.mem_append_right _ ?_)); done) | simp)
              · rw [h]; exact offI (L' + 1 + 1, oB) (by first | ((repeat (first | exact List.mem_cons_self .. | assumption | refine List.mem_cons_of_mem _ ?_ | exact List.mem_append_left _ (by assumption) | refine List.mem_append_right _ ?_)); done) | simp)
              · rw [h]; exact offI (L' + 1, oP) (by first | ((repeat (first | exact List.mem_cons_self .. | assumption | refine List.mem_cons_of_mem _ ?_ | exact List.mem_append_left _ (by assumption) | refine List.mem_append_right _ ?_)); done) | simp)
              · rw [h]; exact offI (114, tab) (by first | ((repeat (first | exact List.mem_cons_self .. | assumption | refine List.mem_cons_of_mem _ ?_ | exact List.mem_append_left _ (by assumption) | refine List.mem_append_right _ ?_)); done) | simp)
              · rw [h]; exact Ne.symm (off1_mem o5 _ hI5)
              · refine news_apart fin8 (o := p.2) (b := I) (o' := oI) (List.mem_cons_of_mem _ (by rw [h]; first | ((repeat (first | exact List.mem_cons_self .. | assumption | refine List.mem_cons_of_mem _ ?_ | exact List.mem_append_left _ (by assumption) | refine List.mem_append_right _ ?_)); done) | simp)) (List.mem_cons_self ..) (fun q => ?_)
                rw [h] at q
                have q : oc = oI := q
                rw [q, hdI] at hoc
                injection hoc with hoc
                rw [← hoc] at hvs
                cases hvs
              · rw [h]; exact Ne.symm (o7 (I, oI) (List.mem_cons_of_mem _ (List.mem_cons_of_mem _ hI5)))
              · exact offI p (by simp only [List.mem_cons, List.mem_append]; grind)
              · exact offI p (by simp only [List.mem_cons, List.mem_append]; grind)
            · intro p hp
              rcases List.mem_cons.mp hp with rfl | hp
              · exact off7 _ (by first | ((repeat (first | exact List.mem_cons_self .. | assumption | refine List.mem_cons_of_mem _ ?_ | exact List.mem_append_left _ (by assumption) | refine List.mem_append_right _ ?_)); done) | simp)
              · exact hUne p hp
        case cstep =>
          rintro i v I3 oI3 C oC D m3 ys news E3 sx hi ⟨tv, rfl⟩ ⟨hsub, hys⟩ hNs hm3 Fx Nx off3 ne3
          have hBn : (L' + 1 + 1, oB7) ∈ news := hsub _ (by rw [hBs]; first | ((repeat (first | exact List.mem_cons_self .. | assumption | refine List.mem_cons_of_mem _ ?_ | exact List.mem_append_left _ (by assumption) | refine List.mem_append_right _ ?_)); done) | simp [hB4])
          have hPn : (L' + 1, oP9) ∈ news := hsub _ (by rw [hBs]; first | ((repeat (first | exact List.mem_cons_self .. | assumption | refine List.mem_cons_of_mem _ ?_ | exact List.mem_append_left _ (by assumption) | refine List.mem_append_right _ ?_)); done) | simp [hP4])
          clear hB4 hP4 N4 F4
          k_steps
          unfold Stop
          have hon : (order rs j).length ≤ 12 := by rw [(order_perm rs j).length_eq]; exact hrs
          have hgl := gath_len (kap (2 - j)) (order rs j) (i + 1)
          rw [gath_succ, ← hys, List.length_append] at hgl
          have hN9 : News g' L' h9 ((b9, fddObj dx9 es n) :: (dx9, frozenD w.params t8 f) :: (f, lamObj ((mg "__name__").getD .none) ca c ctv) :: (c, oc) :: (ca, oo) :: (I3, oI3) :: (C, oC) :: (D, lst ys) :: news) := fun p hp => N9 p (by
            simp only [List.mem_cons] at hp ⊢
            have := hsub p
            rw [hBs] at this
            simp only [List.mem_cons] at this
            grind)
          refine fdd_tail (dx := dx9) (es := es) (n := n) (X'.keeps F9.keep) (hN9.get (List.mem_cons_self ..)) (by with_unfolding_all rfl) ?_
          refine book_frozen (knd := knd) (enc := enc) (d := i) B' F9 hN9 X' T' rfl rfl (show dp + 1 ≤ 440 by omega) (show un + 3 ≤ 890 by omega) hoc hvs hoo hbk hinj (by rw [show pz.toNat = 2 - j by omega, Int.toNat_natCast]; exact hkey i _) hbs9 ?_ ?_
          · intro i2 l ps tkf hi2
            have hps := dealt_found hdl hi2
            refine ⟨l, ps.toArray, ps.length, h9, _, news, rfl, rfl, F9, N9, off3, hsub _ (by rw [hBs]; simp only [List.mem_cons, List.mem_append]; exact .inr (.inr (.inr (.inr (.inr (.inr (.inl (glist_mem hi2)))))))), ?_, hsub, ?_⟩
            · rw [← hps] at hgl
              have : ps.toArray.size = ps.length := by simp
              exact Nat.le_trans (show _ ≤ 12 by omega) (by decide)
            · rw [gath_succ, ← hys, ← hps]
          · intro hno l hA tkA FA NA offl
            refine ⟨l, #[], 0, hA, _, (l, lst []) :: news, rfl, rfl, FA, fun p hp => NA p ?_, ⟨⟨Ne.symm (offl (I3, oI3) (by first | ((repeat (first | exact List.mem_cons_self .. | assumption | refine List.mem_cons_of_mem _ ?_ | exact List.mem_append_left _ (by assumption) | refine List.mem_append_right _ ?_)); done) | simp)), Ne.symm (offl (C, oC) (by first | ((repeat (first | exact List.mem_cons_self .. | assumption | refine List.mem_cons_of_mem _ ?_ | exact List.mem_append_left _ (by assumption) | refine List.mem_append_right _ ?_)); done) | simp)), Ne.symm (offl (D, lst ys) (by first | ((repeat (first | exact List.mem_cons_self .. | assumption | refine List.mem_cons_of_mem _ ?_ | exact List.mem_append_left _ (by assumption) | refine List.mem_append_right _ ?_)); done) | simp))⟩, off3⟩, List.mem_cons_self .., ?_, fun p hp => List.mem_cons_of_mem _ (hsub p hp), ?_⟩
            · (first | (refine sub_use hp ?_; (repeat' (first | exact sub_self | exact sub_nil | exact List.mem_cons_self .. | refine List.mem_cons_of_mem _ ?_ | refine sub_cons ?_ ?_ | refine sub_app ?_ ?_ | exact sub_inl | refine sub_skip ?_ | refine sub_right ?_ | refine List.mem_append_right _ ?_)); done) | (simp only [List.mem_cons] at hp ⊢; grind))
            · exact Nat.le_trans (show _ ≤ 12 by simp only [List.size_toArray, List.length_nil, Nat.add_zero]; omega) (by decide)
            · rw [gath_succ, ← hys, dealt_missing hdl hno]
    case step2 =>
      intro ax its v r2 m2 news I2 oI2 sy E2 hJ hc2 ho2 F2 N2 off2
      obtain ⟨done, rest, es, n, G, hord, hr2, ⟨hm1, hm2, hm3⟩, hbk, hdl, hsep, hnb, rfl, hax, hits⟩ := hJ
      cases rest with
      | nil => cases hr2
      | cons q rest =>
      have hv : v = .ref q.p := (List.cons.inj hr2).1
      have hr3 : r2 = rest.map ref := (List.cons.inj hr2).2
      subst hv hr3
      have hq : q ∈ rs := mem_order (j := j) (by rw [hord]; exact List.mem_append_right _ (List.mem_cons_self ..))
      have hqR : ∀ x ∈ pairL rs, x ∈ R := fun x hx => by rw [hR]; repeat (first | exact List.mem_append_right _ (List.mem_append_right _ hx) | apply List.mem_cons_of_mem)
      have hnl := hnm q hq
      have hdn : done.length ≤ 12 := by
        have h1 := (order_perm rs j).length_eq
        rw [hord, List.length_append] at h1
        omega
      have hGl : G.length ≤ 1000 := Nat.le_trans hdl.len (Nat.le_trans hdn (by decide))
      have hsep2 : Sep G ((I2, oI2) :: R) := sep_cons hsep (fun p hp => off2 p (List.mem_cons_of_mem _ (List.mem_cons_of_mem _ (List.mem_append_left _ hp))))
      have hnb2 : ∀ p ∈ (dx9, dictOf [] 0) :: (glist G ++ ((I2, oI2) :: R)), p.1 ≠ b9 := fun p hp => by
        rcases List.mem_cons.mp hp with rfl | hp
        · exact hnb _ (List.mem_cons_self ..)
        rcases List.mem_append.mp hp with hp | hp
        · exact hnb _ (List.mem_cons_of_mem _ (List.mem_append_left _ hp))
        rcases List.mem_cons.mp hp with rfl | hp
        · exact Ne.symm (off2 _ (List.mem_cons_self ..))
        · exact hnb _ (List.mem_cons_of_mem _ (List.mem_append_right _ hp))
      have hqp := hqR _ (mem_pairL hq).1
      have hqd := hqR _ (mem_pairL hq).2
      have hcB : (L' + 1 + 1, oB7) ∈ R := by rw [hR]; exact List.mem_cons_self ..
      have hcP : (L' + 1, oP9) ∈ R := by rw [hR]; exact List.mem_cons_of_mem _ (List.mem_cons_self ..)
      refine wpAny_assign_Name (storeX_L F2 N2 (fun h3 F3 N3 => ?_))
      k_steps
      all_goals unfold Stop
      all_goals (refine fdd_tail (dx := dx9) (es := es) (n := n) (X'.keeps F9.keep) (N9.get (List.mem_cons_of_mem _ (List.mem_cons_self ..))) (by with_unfolding_all rfl) ?_)
      all_goals (
        have hN9 : News g' L' h9 ((b9, fddObj dx9 es n) :: (dx9, dictOf [] 0) :: (glist G ++ ((I2, oI2) :: R))) := fun p hp => N9 p (by (first | (refine sub_use hp ?_; (repeat' (first | exact sub_self | exact sub_nil | exact List.mem_cons_self .. | refine List.mem_cons_of_mem _ ?_ | refine sub_cons ?_ ?_ | refine sub_app ?_ ?_ | exact sub_inl | refine sub_skip ?_ | refine sub_right ?_ | refine List.mem_append_right _ ?_)); done) | (simp only [List.mem_cons, List.mem_append] at hp ⊢; grind)))
        refine book_get (knd := knd) (enc := enc) (d := kap (2 - j) q) (n := n) (dx := dx9) (es := es) (rest := glist G ++ ((I2, oI2) :: R)) B' F9 hN9 X' T' rfl rfl (show dp + 1 ≤ 440 by omega) (show un + 3 ≤ 890 by omega) hbk hinj ?_ hbs9 hGl hnb2 ?_ ?_
        · first
            | exact key_of_int hkey (by omega) (key_item hpz hj3 (by assumption) hsh) _
            | exact key_of_int hkey (by omega) (key_at hpz hj3 (by assumption) hsh) _
            | exact key_of_str hkey (by omega) (by unfold kap; rw [show pz.toNat = 2 - j by omega]) _
        · intro i l ps tkf hi
          have hlm : (l, lst ps) ∈ (b9, fddObj dx9 es n) :: (dx9, dictOf [] 0) :: (glist G ++ ((I2, oI2) :: R)) := List.mem_cons_of_mem _ (List.mem_cons_of_mem _ (List.mem_append_left _ (glist_mem hi)))
          k_steps
          unfold Stop
          refine book_append F9 hN9 hsep2 hi (Nat.le_trans (glist_len hdl _ (List.mem_of_getElem? hi)) (Nat.le_trans hdn (by decide))) (fun hA FA NA => ?_)
          k_steps
          exact turn_found hord hax hits (mv_set ⟨hm1, hm2, hm3⟩ _ _) hbk hdl hsep hnb off2 hi FA NA
        · intro hno l es2 n2 hA tkf hbk2 FA NA offl
          have hNA : News g' L' hA ((b9, fddObj dx9 es2 n2) :: (dx9, dictOf [] 0) :: (glist (G ++ [(kap (2 - j) q, l, [])]) ++ ((I2, oI2) :: R))) := fun p hp => NA p (by
            unfold glist at *
            (first | (refine sub_use hp ?_; (repeat' (first | exact sub_self | exact sub_nil | exact List.mem_cons_self .. | refine List.mem_cons_of_mem _ ?_ | refine sub_cons ?_ ?_ | refine sub_app ?_ ?_ | exact sub_inl | refine sub_skip ?_ | refine sub_right ?_ | refine List.mem_append_right _ ?_)); done) | (simp only [List.map_append, List.map_cons, List.map_nil, List.mem_cons, List.mem_append, List.not_mem_nil, or_false] at hp ⊢; grind)))
          have hlm : (l, lst ([] : List Value)) ∈ (b9, fddObj dx9 es2 n2) :: (dx9, dictOf [] 0) :: (glist (G ++ [(kap (2 - j) q, l, [])]) ++ ((I2, oI2) :: R)) := List.mem_cons_of_mem _ (List.mem_cons_of_mem _ (List.mem_append_left _ (glist_mem (i := G.length) (d := kap (2 - j) q) (l := l) (ps := []) (by first | ((repeat (first | exact List.mem_cons_self .. | assumption | refine List.mem_cons_of_mem _ ?_ | exact List.mem_append_left _ (by assumption) | refine List.mem_append_right _ ?_)); done) | simp))))
          clear NA
          k_steps
          unfold Stop
          refine book_append (i := G.length) (d := kap (2 - j) q) (l := l) (ps := []) FA hNA (hsep2.snoc fun p hp => offl p (List.mem_cons_of_mem _ (List.mem_cons_of_mem _ hp))) (by first | ((repeat (first | exact List.mem_cons_self .. | assumption | refine List.mem_cons_of_mem _ ?_ | exact List.mem_append_left _ (by assumption) | refine List.mem_append_right _ ?_)); done) | simp) (by decide) (fun hC FC NC => ?_)
          k_steps
          exact turn_new hord hax hits (mv_set ⟨hm1, hm2, hm3⟩ _ _) hbk2 hdl hsep hnb off2 hno offl FC NC)
end
end Mine
end
section
open PySem PySem.W PyProof.Rows PySem.Calls
set_option Elab.async false
set_option maxRecDepth 100000
set_option maxHeartbeats 8000000
set_option linter.unusedVariables false
namespace Mine
open PyProof.Rows.LCg
section
variable {prog : Program} {w : World} {A : Around} {E : Value → Shared → Prop} {s : Shared} {h₀ : Heap} {L : Addr} {m : Str → Option Value} {env : Env}
/-- the stepped range that a comprehension walks -/
def SrcS (h₀ : Heap) (L : Addr) (m : Str → Option Value) (a b c : Int) (n : Nat) (Inv : Nat → List Value → List (Addr × Obj) → Prop) (Q : Value → Shared → Prop) (xv : Value) (s₁ : Shared) : Prop :=
  ∃ r t u v news, xv = .ref r ∧ Fr h₀ L s₁.heap m ∧ News h₀ L s₁.heap news ∧ IsRange s₁.heap r a b c t u v ∧ Builtin.Range.small a b c = true ∧ Builtin.Range.rangeSize a b c = ((n : Nat) : Int) ∧ Inv 0 [] news ∧
    ∀ D h tk ys news', Fr h₀ L h m → News h₀ L h ((D, lst ys) :: news') → Off1 D news' → Inv n ys news' → Q (.ref D) { s₁ with heap := h, toks := tk }
theorem ListComp_step {elt iter : Expr} {x : Str} {px pos : Pos} {scope : Scope} {cl : List (Str × Addr)} {Q : Value → Shared → Prop} (a b c : Int) (n : Nat) (Inv : Nat → List Value → List (Addr × Obj) → Prop) (F₀ : Fr h₀ L s.heap m) (hh : A.handled = none)
    (hclos : closureFor scope env = pure cl) (hcell : ∀ y ∈ scope.names, y.2 ≠ .cell) (hkind : scope.kind = .function)
    (hnames : ∀ y ∈ scope.names, y.2 = .local → scope.names.lookup y.1 = some .local) (hx : scope.names.lookup x = some .local) (hsz : n ≤ 1000)
    (step : ∀ i t I oI C oC D m₂ ys news sx (E' : Value → Shared → Prop), i < n → Inv i ys news → NsObj oC m₂ → m₂ x = some (.int (a + (i : Int) * c) t) → Fr h₀ L sx.heap m → News h₀ L sx.heap ((I, oI) :: (C, oC) :: (D, lst ys) :: news) → Off3 I C D news → ((@Ne Nat I C) ∧ (@Ne Nat I D) ∧ (@Ne Nat C D)) →
      wpAny (model prog w) A (eval elt (compEnvC scope cl C env)) (EltEnd h₀ L m sx I oI C oC D ys (Inv (i + 1))) E' sx)
    (h : wpAny (model prog w) A (eval iter env) (SrcS h₀ L m a b c n Inv Q) E s)
    (hs : ∀ x, foldedSetIterable iter env x = pure x := by intro _; rfl) :
    wpAny (model prog w) A (eval (.ListComp elt [⟨.Name x px, iter, [], 0⟩] scope pos) env) Q E s := by
  rw [eval_ListComp]
  refine wpAny_comprehension_free (use := none) rfl hs hclos hkind hnames (wpAny_mono h (fun xv s₁ h₁ => ?_) fun _ _ e => e)
  obtain ⟨r, t, u, v, news, rfl, F, N, hr, hsm, hn, hI, fin⟩ := h₁
  refine wpAny_pyIter_range hr hsm ?_
  refine block_U (S := fun _ => True) (Fin := Inv n) ((Walks.range hh _ a c n).bound) (Nat.le_trans hsz (by decide)) (fun i h st => ⟨_, st⟩) ?hSt hcell hkind hx (by show IsRangeIter _ _ _ _ _; rw [hn]; simpa using Heap.get?_push_size _ rfl) (fun b hb => ?hb)
    (F.keeps fun _ _ e => Heap.get?_push_of_some _ e) (N.grown fun _ _ e => Heap.get?_push_of_some _ e) (Nat.ne_of_lt F.ns.lt) (next_is_new F) (fun p hp => Nat.ne_of_lt (Heap.lt_size (N p hp).1)) trivial ?R ?hRR
  case hSt =>
    intro i h h' o nw st e e' _ _ _
    have st' : h.get? s₁.heap.objs.size = some _ := st
    show h'.get? s₁.heap.objs.size = some _
    rw [e', ← e]; exact st'
  case hb =>
    rw [List.mem_singleton.mp hb]
    show s₁.heap.objs.size < (s₁.heap.push _).objs.size
    rw [Heap.size_push]; exact Nat.lt_succ_self _
  case R =>
    refine compRest_inv Inv n (fun _ _ _ _ => trivial) (fun i v I oI C oC D m₂ ys news sx E' hi hP hv hC hm Fx Nx off ne => ?_) (fun _ _ hI => hI) n 0 [] news (by simp) hI
    obtain ⟨_, t, rfl⟩ := hP
    exact step i t I oI C oC D m₂ ys news sx E' hi hv hC hm Fx Nx off ne
  case hRR =>
    intro D C h tk m' ys news' F' N' o1 hn hC₀ hD₀ hCL hDL hCD offC hfin
    refine ⟨m', hn, fun h'' hs'' => fin D h'' tk ys news' (F'.change hs'' hCL hC₀) (fun p hp => ?_) o1 hfin⟩
    refine ⟨hs''.extBut _ _ ?_ (N' p hp).1, (N' p hp).2⟩
    rcases List.mem_cons.mp hp with rfl | hp
    · exact Ne.symm hCD
    · exact offC p hp
/-- the range that a comprehension whose list gets a name walks -/
def SrcB (h₀ : Heap) (L : Addr) (m : Str → Option Value) (z : Str) (n : Nat) (Inv : Nat → List Value → List (Addr × Obj) → Prop) (Q : Flow → Shared → Prop) (xv : Value) (s₁ : Shared) : Prop :=
  ∃ r t u v news, xv = .ref r ∧ Fr h₀ L s₁.heap m ∧ News h₀ L s₁.heap news ∧ IsRange s₁.heap r 0 (n : Int) 1 t u v ∧ Builtin.Range.small 0 (n : Int) 1 = true ∧ Builtin.Range.rangeSize 0 (n : Int) 1 = ((n : Nat) : Int) ∧ Inv 0 [] news ∧
    ∀ D h tk ys news', Fr h₀ L h (fun w => if w = z then some (.ref D) else m w) → News h₀ L h ((D, lst ys) :: news') → Off1 D news' → Inv n ys news' → Q .next { s₁ with heap := h, toks := tk }
theorem Assign_ListComp_rng {elt iter : Expr} {x z : Str} {px pz pos spos : Pos} {scope : Scope} {cl : List (Str × Addr)} {Q : Flow → Shared → Prop} (n : Nat) (Inv : Nat → List Value → List (Addr × Obj) → Prop) (F₀ : Fr h₀ L s.heap m) (hLe : env.locals = L) (hh : A.handled = none)
    (hsw : swapsWith (.ListComp elt [⟨.Name x px, iter, [], 0⟩] scope pos) (some (.Name z pz)) spos.line env = pure true)
    (hclos : closureFor scope env = pure cl) (hcell : ∀ y ∈ scope.names, y.2 ≠ .cell) (hkind : scope.kind = .function)
    (hnames : ∀ y ∈ scope.names, y.2 = .local → scope.names.lookup y.1 = some .local) (hx : scope.names.lookup x = some .local)
    (hz : env.kindOf z = some .local) (hp : (env.scope.kind == .class || (env.scope.kind == .module && env.locals != env.globals)) = false) (hsz : n ≤ 1000)
    (step : ∀ i t I oI C oC D m₂ ys news sx (E' : Value → Shared → Prop), i < n → Inv i ys news → NsObj oC m₂ → m₂ x = some (.int (i : Int) t) → Fr h₀ L sx.heap m → News h₀ L sx.heap ((I, oI) :: (C, oC) :: (D, lst ys) :: news) → Off3 I C D news → ((@Ne Nat I C) ∧ (@Ne Nat I D) ∧ (@Ne Nat C D)) →
      wpAny (model prog w) A (eval elt (compEnvC scope cl C env)) (EltEnd h₀ L m sx I oI C oC D ys (Inv (i + 1))) E' sx)
    (h : wpAny (model prog w) A (eval iter env) (SrcB h₀ L m z n Inv Q) E s)
    (hs : ∀ x, foldedSetIterable iter env x = pure x := by intro _; rfl) :
    wpAny (model prog w) A (exec (.Assign [.Name z pz] (.ListComp elt [⟨.Name x px, iter, [], 0⟩] scope pos) spos) env) Q E s := by
  refine Assign_ListComp_U F₀ hLe hsw hclos hcell hkind hnames hx hz hp (wpAny_mono h (fun xv s₁ h₁ => ?_) fun _ _ e => e) hs
  obtain ⟨r, t, u, v, news, rfl, F, N, hr, hsm, hn, hI, fin⟩ := h₁
  refine CompSrc.range hh F N hr hsm hn (Nat.le_trans hsz (by decide)) fun g => ?_
  refine compRest_inv Inv n (fun _ _ _ _ => trivial) (fun i v I oI C oC D m₂ ys news sx E' hi hP hv hC hm Fx Nx off ne => by
    obtain ⟨t, rfl⟩ := hP
    rw [Int.zero_add] at hm
    exact step i t I oI C oC D m₂ ys news sx E' hi hv hC hm Fx Nx off ne) ?_ n 0 [] news (by simp) hI
  intro ys news' hi D h' tk F' N' o1
  exact fin D h' tk ys news' F' N' o1 hi
/-- the list of the ground that a comprehension walks -/
def SrcG (h₀ : Heap) (L : Addr) (m : Str → Option Value) (its : Array Value) (Inv : Nat → List Value → List (Addr × Obj) → Prop) (Q : Value → Shared → Prop) (xv : Value) (s₁ : Shared) : Prop :=
  ∃ ax news, xv = .ref ax ∧ h₀.IsList ax its ∧ Fr h₀ L s₁.heap m ∧ News h₀ L s₁.heap news ∧ Inv 0 [] news ∧
    ∀ D h tk ys news', Fr h₀ L h m → News h₀ L h ((D, lst ys) :: news') → Off1 D news' → Inv its.size ys news' → Q (.ref D) { s₁ with heap := h, toks := tk }
theorem ListComp_ground {elt iter : Expr} {x : Str} {px pos : Pos} {scope : Scope} {cl : List (Str × Addr)} {Q : Value → Shared → Prop} (its : Array Value) (Inv : Nat → List Value → List (Addr × Obj) → Prop) (F₀ : Fr h₀ L s.heap m) (hh : A.handled = none)
    (hclos : closureFor scope env = pure cl) (hcell : ∀ y ∈ scope.names, y.2 ≠ .cell) (hkind : scope.kind = .function)
    (hnames : ∀ y ∈ scope.names, y.2 = .local → scope.names.lookup y.1 = some .local) (hx : scope.names.lookup x = some .local) (hsz : its.size ≤ 1000)
    (step : ∀ i v I oI C oC D m₂ ys news sx (E' : Value → Shared → Prop), i < its.size → its[i]? = some v → Inv i ys news → NsObj oC m₂ → m₂ x = some v → Fr h₀ L sx.heap m → News h₀ L sx.heap ((I, oI) :: (C, oC) :: (D, lst ys) :: news) → Off3 I C D news → ((@Ne Nat I C) ∧ (@Ne Nat I D) ∧ (@Ne Nat C D)) →
      wpAny (model prog w) A (eval elt (compEnvC scope cl C env)) (EltEnd h₀ L m sx I oI C oC D ys (Inv (i + 1))) E' sx)
    (h : wpAny (model prog w) A (eval iter env) (SrcG h₀ L m its Inv Q) E s)
    (hs : ∀ x, foldedSetIterable iter env x = pure x := by intro _; rfl) :
    wpAny (model prog w) A (eval (.ListComp elt [⟨.Name x px, iter, [], 0⟩] scope pos) env) Q E s := by
  refine ListComp_U F₀ hclos hcell hkind hnames hx (wpAny_mono h (fun xv s₁ h₁ => ?_) fun _ _ e => e) hs
  obtain ⟨ax, news, rfl, hl, F, N, hI, fin⟩ := h₁
  refine CompSrc.base hh F N hl (Nat.le_trans hsz (by decide)) fun g => ?_
  refine compRest_inv Inv its.size (fun i ys news hi => .inl hl) (fun i v I oI C oC D m₂ ys news sx E' => step i v I oI C oC D m₂ ys news sx E') ?_ its.size 0 [] news (by simp) hI
  intro ys news' hi D h' tk F' N' o1
  exact fin D h' tk ys news' F' N' o1 hi
end
end Mine
end
section
open PySem PySem.W PyProof.Rows PySem.Calls
set_option Elab.async false
set_option maxRecDepth 100000
set_option maxHeartbeats 8000000
set_option linter.unusedVariables false
namespace Mine
open PyProof.Rows.LCg
def NamesAt (news : List (Addr × Obj)) (cs : List Int) (ys : List Value) : Prop :=
  Paired (fun (c : Int) y => ∃ D l t ta tb tc, y = .ref D ∧ (D, nameTup (nmOf c) t l) ∈ news ∧ (l, W.listOf #[.int (dg c 0) ta, .int (dg c 1) tb, .int (dg c 2) tc] 0) ∈ news) cs ys
theorem NamesAt.mono {news news' : List (Addr × Obj)} {l : List Int} {ys : List Value} (h : NamesAt news l ys) (sub : ∀ p ∈ news, p ∈ news') : NamesAt news' l ys := by
  unfold NamesAt at *
  induction h with
  | nil => exact .nil
  | cons h _ ih =>
    obtain ⟨D, l, t, ta, tb, tc, e, h1, h2⟩ := h
    exact .cons ⟨D, l, t, ta, tb, tc, e, sub _ h1, sub _ h2⟩ ih
abbrev listO (vs : List Value) (k : Nat) : Obj := { cls := .type "list", data := .seq vs.toArray k }
def IntsP (cs : List Int) (vs : List Value) : Prop := Paired (fun (c : Int) v => ∃ t, v = Value.int c t) cs vs
/-- while the names are gathered -/
def NInv (Bs : List (Addr × Obj)) (cs : List Int) (i : Nat) (ys : List Value) (news : List (Addr × Obj)) : Prop :=
  ∃ objs, news = objs ++ Bs ∧ NamesAt objs (cs.take i) ys ∧ ∀ p ∈ objs, Plain p.2
theorem plain_name (x : Str) (t : Tok) (l : Addr) : Plain (nameTup x t l) := fun _ h => nomatch h
def markOf (c : Int) (i : Nat) : Int := ((32 * dg c 0 + dg c 1) * 32 + dg c 2) * 12 + i
def marksOf (cs : List Int) : List Int := cs.zipIdx.map fun p => markOf p.1 p.2
def MkInv (cP M : Addr) (Rm : List (Addr × Obj)) (cs : List Int) (i : Nat) (m : Str → Option Value) (news : List (Addr × Obj)) : Prop :=
  ∃ mvs oP, (∃ v, oP.data = .cell v) ∧ m "marks" = some (.ref M) ∧ news = (M, lst mvs) :: (cP, oP) :: Rm ∧ IntsP ((marksOf cs).take i) mvs
theorem ints_get {cs : List Int} {vs : List Value} (h : IntsP cs vs) {i : Nat} {v : Value} (e : vs[i]? = some v) : ∃ c t, cs[i]? = some c ∧ v = .int c t := by
  obtain ⟨c, h1, t, h2⟩ := paired_get' h i v e
  exact ⟨c, t, h1, h2⟩
theorem names_get {news : List (Addr × Obj)} {cs : List Int} {ys : List Value} (h : NamesAt news cs ys) {i : Nat} {c : Int} (e : cs[i]? = some c) :
    ∃ D l t ta tb tc, ys[i]? = some (.ref D) ∧ (D, nameTup (nmOf c) t l) ∈ news ∧ (l, W.listOf #[.int (dg c 0) ta, .int (dg c 1) tb, .int (dg c 2) tc] 0) ∈ news := by
  obtain ⟨y, h1, D, l, t, ta, tb, tc, rfl, h2, h3⟩ := paired_get h i c e
  exact ⟨D, l, t, ta, tb, tc, h1, h2, h3⟩
theorem store_cell' {M : Model} {A : Around} {E : Value → Shared → Prop} {s : Shared} {h₀ : Heap} {L : Addr} {m : Str → Option Value} {env : Env} {x : Str} {v : Value} {Q : Unit → Shared → Prop} {news : List (Addr × Obj)} {c : Addr} {o : Obj} {v₀ : Option Value} (F : Fr h₀ L s.heap m) (N : News h₀ L s.heap news) (hk : env.scope.kind = .function) (hl : env.kindOf x = some .cell) (hc : env.cells.lookup x = some c) (hm : (c, o) ∈ news) (hd : o.data = .cell v₀)
    (rest : List (Addr × Obj)) (sub : ∀ p ∈ rest, p ∈ news) (off : ∀ p ∈ rest, Plain p.2 ∨ p.1 ≠ c)
    (h : ∀ h' o', Fr h₀ L h' m → News h₀ L h' ((c, o') :: rest) → o'.data = .cell (some v) → Q () { s with heap := h' }) : wpAny M A (storeName env x v) Q E s := store_cell F N hk hl hc hm hd rest sub off h
theorem off3_fresh {h₀ h : Heap} {L I C D : Addr} {oI oC oD : Obj} {tl news : List (Addr × Obj)} (fr : ∀ p ∈ tl, h.get? p.1 = none) (N : News h₀ L h ((I, oI) :: (C, oC) :: (D, oD) :: news)) (off : Off3 I C D news) : Off3 I C D (tl ++ news) :=
  Off3.of fun p hp => by
    rcases List.mem_append.mp hp with hp | hp
    · have e := fr p hp
      refine ⟨fun q => ?_, fun q => ?_, fun q => ?_⟩
      · have := (N (I, oI) (by simp)).1
        rw [q] at e; rw [e] at this; cases this
      · have := (N (C, oC) (by simp)).1
        rw [q] at e; rw [e] at this; cases this
      · have := (N (D, oD) (by simp)).1
        rw [q] at e; rw [e] at this; cases this
    · exact off.mem p hp
section
variable {prog : Program} {w : World} {A : Around} {E : Value → Shared → Prop} {s : Shared} {env : Env}
/-- three targets for a list of three -/
theorem unpack3 {elts : List Expr} {kx} {pos : Pos} {l : Addr} {a b c : Value} {Q : Unit → Shared → Prop} (hh : A.handled = none) (hl : s.heap.IsList l #[a, b, c]) (hn : (assignEach elts env).length = 3) (hstar : (assignEach elts env).findIdx? (·.1) = none)
    (h : ∀ h', Heap.ExtBut s.heap.objs.size s.heap h' → wpAny (model prog w) A (assignInOrder ((assignEach elts env).map (·.2)) [a, b, c]) Q E { s with heap := h' }) :
    wpAny (model prog w) A (assign (.Tuple elts kx pos) env (.ref l)) Q E s := by
  rw [arm_assign_Tuple]
  refine wpAny_bind (wpAny_standAt ?_)
  unfold unpack
  rw [hn, hstar]
  refine wpAny_bind (wpAny_holding ?_)
  unfold unpackItems
  refine wpAny_bind ?_
  unfold notIterableAtAll
  refine wpAny_bind (wpAny_specialOf hl.typeIs slot_list_iter.lookup ?_)
  refine wpAny_pure ?_
  simp only [Bool.false_eq_true, if_false]
  have hne : l ≠ s.heap.objs.size := by obtain ⟨o, ho, _⟩ := hl; exact Nat.ne_of_lt (Heap.lt_size ho)
  refine wpAny_bind (wpAny_holding (wpAny_pyIter_list hl ?_))
  have up : ∀ x o, s.heap.get? x = some o → (s.heap.push { cls := .type "list_iterator", data := .fields #[.ref l, .int 0 0] }).get? x = some o := fun x o e => Heap.get?_push_of_some _ e
  have hit : (s.heap.push { cls := .type "list_iterator", data := .fields #[.ref l, .int 0 0] }).IsListIter s.heap.objs.size l 0 := ⟨_, Heap.get?_push_size _ rfl, rfl, rfl⟩
  generalize s.heap.push { cls := .type "list_iterator", data := .fields #[.ref l, .int 0 0] } = h0 at *
  have hl0 : h0.IsList l #[a, b, c] := hl.at fun o e => up _ _ e
  refine wpAny_bind (wpAny_holding ?_)
  show wpAny _ _ (pyNext (.ref s.heap.objs.size) >>= _) _ _ _
  refine wpAny_bind (wpAny_pyNext_list_item hit hl0 (x := a) rfl fun h1 hit1 hs1 => ?_)
  refine wpAny_bind (wpAny_holding ?_)
  show wpAny _ _ (pyNext (.ref s.heap.objs.size) >>= _) _ _ _
  have hl1 := hl0.extBut hs1.extBut hne
  refine wpAny_bind (wpAny_pyNext_list_item hit1 hl1 (x := b) rfl fun h2 hit2 hs2 => ?_)
  refine wpAny_bind (wpAny_holding ?_)
  show wpAny _ _ (pyNext (.ref s.heap.objs.size) >>= _) _ _ _
  have hl2 := hl1.extBut hs2.extBut hne
  refine wpAny_bind (wpAny_pyNext_list_item hit2 hl2 (x := c) rfl fun h3 hit3 hs3 => ?_)
  refine wpAny_bind (wpAny_holding (wpAny_pure (wpAny_pure (wpAny_pure (wpAny_pure ?_)))))
  have hl3 := hl2.extBut hs3.extBut hne
  rw [if_neg (by simp)]
  refine wpAny_bind (wpAny_holding (wpAny_pyNext_list_end hh hit3 hl3 rfl fun h4 he4 => ?_))
  simp only [Option.isSome_none, Bool.false_eq_true, if_false]
  exact wpAny_pure (h h4 fun x o hx e => he4 x o hx (hs3.extBut x o hx (hs2.extBut x o hx (hs1.extBut x o hx (up x o e)))))
end
theorem marks_len (cs : List Int) : (marksOf cs).length = cs.length := by simp [marksOf]
theorem marks_get {cs : List Int} {i : Nat} {c : Int} (h : cs[i]? = some c) : (marksOf cs)[i]? = some (markOf c i) := by
  simp [marksOf, List.getElem?_map, List.getElem?_zipIdx, h]
/-- the row that a mark tells -/
def rowD (cs : List Int) (mk : Int) : Str × Str := (nmOf (cs.getD (mk.fmod 12).toNat 0), valueOf (mk.fmod 12))
def DRows (news : List (Addr × Obj)) (cs : List Int) (ms : List Int) (ys : List Value) : Prop :=
  Paired (fun (mk : Int) y => ∃ T ta tb, y = .ref T ∧ (T, ({ cls := .type "tuple", data := .seq #[.str (rowD cs mk).1 ta, .str (rowD cs mk).2 tb] 0 } : Obj)) ∈ news) ms ys
theorem DRows.mono {news news' : List (Addr × Obj)} {cs ms : List Int} {ys : List Value} (h : DRows news cs ms ys) (sub : ∀ p ∈ news, p ∈ news') : DRows news' cs ms ys := by
  unfold DRows at *
  induction h with
  | nil => exact .nil
  | cons h _ ih =>
    obtain ⟨T, ta, tb, e, hm⟩ := h
    exact .cons ⟨T, ta, tb, e, sub _ hm⟩ ih
/-- while the rows are gathered -/
def RowInv (Bs : List (Addr × Obj)) (cs : List Int) (ms : List Int) (ax : Addr) (k : Nat) (its : Array Value) (i : Nat) (ys : List Value) (news : List (Addr × Obj)) : Prop :=
  ∃ sm, IntsP sm its.toList ∧ sm.Perm ms ∧ sm.Pairwise (· ≤ ·) ∧ ∃ objs, news = objs ++ (ax, ({ cls := .type "list", data := .seq its k } : Obj)) :: Bs ∧ DRows objs cs (sm.take i) ys ∧ ∀ p ∈ objs, Plain p.2
theorem ints_are {cs : List Int} {vs : List Value} (h : IntsP cs vs) : IntsAre vs cs := by
  unfold IntsP at h
  induction h with
  | nil => exact .nil
  | cons h _ ih => obtain ⟨t, rfl⟩ := h; exact .cons _ t ih
theorem of_are : ∀ {cs : List Int} {vs : List Value}, IntsAre vs cs → IntsP cs vs
  | _, _, .nil => .nil
  | _, _, .cons n t h => .cons ⟨t, rfl⟩ (of_are h)
theorem fm12 (y : Int) : 0 ≤ y.fmod 12 ∧ y.fmod 12 < 12 := by
  rw [Int.fmod_eq_emod_of_nonneg _ (by decide)]; omega
/-- the digits of place p, and those of them that occur -/
def colOf (p : Nat) (cs : List Int) : List Int := cs.map fun c => dg c p
def colDigits (p : Nat) (cs : List Int) : List Nat := (List.range 32).filter fun d => decide ((d : Int) ∈ colOf p cs)
def UsedC (cs : List Int) : Nat → List Value → List (Addr × Obj) → Prop
  | 0, us, l => us = [] ∧ l = []
  | j + 1, us, l => ∃ us' l' S vs k, us = us' ++ [.ref S] ∧ l = (S, listO vs k) :: l' ∧ UsedC cs j us' l' ∧ KeyVals (2 - j) (colDigits (2 - j) cs) vs
theorem plain_usedC {cs : List Int} : ∀ {j : Nat} {us : List Value} {l : List (Addr × Obj)}, UsedC cs j us l → ∀ p ∈ l, Plain p.2
  | 0, _, _, h, p, hp => by rw [h.2] at hp; cases hp
  | j + 1, _, _, h, p, hp => by
    obtain ⟨us', l', S, vs, k, _, rfl, h', _⟩ := h
    rcases List.mem_cons.mp hp with rfl | hp
    · exact plain_list _ _
    · exact plain_usedC h' p hp
theorem usedC_len {cs : List Int} : ∀ {j : Nat} {us : List Value} {l : List (Addr × Obj)}, UsedC cs j us l → us.length = j
  | 0, _, _, h => by rw [h.1]; rfl
  | j + 1, _, _, h => by
    obtain ⟨us', l', S, vs, k, rfl, _, h', _⟩ := h
    rw [List.length_append, usedC_len h']; rfl
def LInv (cs : List Int) (U D6 cP cC : Addr) (Bd : List (Addr × Obj)) (lp : Addr) (pl : List Value) (r : List Value) (m : Str → Option Value) (news : List (Addr × Obj)) : Prop :=
  ∃ j us usedL oP oC, j ≤ 3 ∧ r = pl.drop j ∧ (∃ ta tb tc, pl = [.int 2 ta, .int 1 tb, .int 0 tc]) ∧ m "rows" = some (.ref D6) ∧ m "used" = some (.ref U) ∧ (∃ v, oP.data = .cell v) ∧ (∃ v, oC.data = .cell v) ∧ UsedC cs j us usedL ∧ (∀ p ∈ usedL, p.1 ≠ U) ∧ lp ≠ U ∧
    news = (lp, listO pl 0) :: (U, lst us) :: (cP, oP) :: (cC, oC) :: (usedL ++ Bd)
def CoInv (D5 : Addr) (Bs : List (Addr × Obj)) (p : Nat) (cs : List Int) (ax : Addr) (k k' : Nat) (i : Nat) (yz : List Value) (news : List (Addr × Obj)) : Prop := ax = D5 ∧ k' = k ∧ news = Bs ∧ IntsP ((colOf p cs).take i) yz
def CoV (Bs : List (Addr × Obj)) (cs : List Int) (i : Nat) (v₁ v₂ : Value) : Prop := ∃ c l ta tb tc, cs[i]? = some c ∧ v₂ = .ref l ∧ (l, W.listOf #[.int (dg c 0) ta, .int (dg c 1) tb, .int (dg c 2) tc] 0) ∈ Bs
def DgInv (Bs : List (Addr × Obj)) (p : Nat) (cs : List Int) (i : Nat) (yz : List Value) (news : List (Addr × Obj)) : Prop := news = Bs ∧ KeyVals p ((List.range i).filter fun d => decide ((d : Int) ∈ colOf p cs)) yz
theorem dg_yes {p i : Nat} {cs : List Int} {yz : List Value} {t : Tok} (h : KeyVals p ((List.range i).filter fun d => decide ((d : Int) ∈ colOf p cs)) yz) (hi : (colOf p cs).any (· == (i : Int)) = true) : KeyVals p ((List.range (i + 1)).filter fun d => decide ((d : Int) ∈ colOf p cs)) (yz ++ [keyV p i t]) := by
  have hm : (i : Int) ∈ colOf p cs := by
    obtain ⟨x, hx, e⟩ := List.any_eq_true.mp hi
    have : x = (i : Int) := by simpa using e
    exact this ▸ hx
  rw [List.range_succ, List.filter_append]
  have : (([i] : List Nat).filter fun (d : Nat) => decide ((d : Int) ∈ colOf p cs)) = [i] := by simp [hm]
  rw [this]
  exact Paired.snoc h ⟨t, rfl⟩
theorem dg_no {p i : Nat} {cs : List Int} {yz : List Value} (h : KeyVals p ((List.range i).filter fun d => decide ((d : Int) ∈ colOf p cs)) yz) (hi : (colOf p cs).any (· == (i : Int)) = false) : KeyVals p ((List.range (i + 1)).filter fun d => decide ((d : Int) ∈ colOf p cs)) yz := by
  have hm : ¬ (i : Int) ∈ colOf p cs := fun hx => by
    have := List.any_eq_false.mp hi _ hx
    simp at this
  rw [List.range_succ, List.filter_append]
  have : (([i] : List Nat).filter fun (d : Nat) => decide ((d : Int) ∈ colOf p cs)) = [] := by simp [hm]
  rw [this, List.append_nil]
  exact h
def usedE (cs : List Int) : Nat → List PyData
  | 0 => []
  | j + 1 => usedE cs j ++ [.list ((colDigits (2 - j) cs).map (keyD (2 - j)))]
def rowsE (cs ms : List Int) : List PyData := ms.map fun mk => .tuple [.str (rowD cs mk).1, .str (rowD cs mk).2]
theorem reads_usedC {h : Heap} {cs : List Int} : ∀ {j : Nat} {us : List Value} {l : List (Addr × Obj)}, UsedC cs j us l → (∀ p ∈ l, h.get? p.1 = some p.2) → ∃ as, ReadsAll h us (usedE cs j) as
  | 0, _, _, u, _ => by rw [u.1]; exact ⟨_, .nil⟩
  | j + 1, _, _, u, hl => by
    obtain ⟨us', l', S, vs, k, rfl, rfl, u', hk⟩ := u
    obtain ⟨as, ha⟩ := reads_usedC u' (fun p hp => hl p (List.mem_cons_of_mem _ hp))
    obtain ⟨bs, hb⟩ := reads_keys (h := h) hk
    exact reads_app ha (.cons (reads_list_at (hl _ (List.mem_cons_self ..)) rfl rfl (by simpa using hb)) .nil)
theorem reads_drows {h : Heap} {news : List (Addr × Obj)} {cs ms : List Int} {ys : List Value} (r : DRows news cs ms ys) (hl : ∀ p ∈ news, h.get? p.1 = some p.2) : ∃ as, ReadsAll h ys (rowsE cs ms) as := by
  unfold DRows at r
  induction r with
  | nil => exact ⟨_, .nil⟩
  | cons hy _ ih =>
    obtain ⟨T, ta, tb, rfl, hm⟩ := hy
    obtain ⟨as, ih⟩ := ih
    exact ⟨_, .cons (reads_tuple_at (hl _ hm) rfl rfl (.cons (.str _ _) (.cons (.str _ _) .nil))) ih⟩
end Mine
end
section
open PySem PySem.W PyProof.Rows PySem.Calls
set_option Elab.async false
set_option maxRecDepth 100000
set_option maxHeartbeats 8000000
set_option linter.unusedVariables false
namespace Mine
open PyProof.Rows.LCg
section
theorem due_tells (w : World) (C : Addr) (k : Nat) (cs : List Int) (cvs : List Value) (hcs : IntsP cs cvs) (hlen : cs.length = 12)
    {mean : ExcName → Option Value} {mg mb : Str → Option Value} {dp un : Nat} {gd : Option (List Code)} {cn : Str} {cs' : Scope} {a : Addr} {ccd : Value} {cl : List (Str × Addr)} {outer : List Env} {A₀ : Around} {base h₀ : Heap} {L : Addr} {m : Str → Option Value} {s : Shared} {Q E : Value → Shared → Prop}
    (B : Below A₀ base outer h₀) (F : Fr h₀ L s.heap m) (hC : s.heap.get? C = some (listO cvs k)) (X : (K w.params).In h₀) (T : Top topProg TLo mean mg mb h₀) (hk : cs'.kind = .function) (hd : dp ≤ 400) (hu : un ≤ 800)
    (hret : ∀ r h' tk', Fr h₀ L h' m → (∀ b o, s.heap.get? b = some o → h'.get? b = some o) → (∃ as ms, ms.Perm (marksOf cs) ∧ ms.Pairwise (· ≤ ·) ∧ Reads h' r (.tuple [.list (rowsE cs ms), .list (usedE cs 3)]) as) → Q r { s with heap := h', toks := tk' }) :
    wpAny (model PySem.Challenge.rw_in0001_01.row.prog w) (ktrTop dp un gd cn cs' L a ccd cl outer) (call (.ref 268) [.ref C]) Q E s := by
  k_with_none
  k_with "eval Name" => (k_here; k_dflt (refine' nameX_L ?zqF ?zqv ?_ ?zqa ?zqb; (case zqF => k_asm); (case zqa => rfl); (case zqb => rfl); (case zqv => (repeat (first | assumption | exact if_pos rfl | refine (if_neg (by decide)).trans ?_)); done); k_whole))
  k_with "eval Name" => (k_here; k_dflt (refine' nameX_C ?zqN ?zqc ?zqm ?zqd ?_ ?zqa ?zqb; (case zqa => rfl); (case zqb => rfl); (case zqN => k_asm); (case zqc => rfl); (case zqm => ((repeat (first | assumption | exact List.mem_cons_self .. | exact List.mem_append_right _ (by assumption) | apply List.mem_cons_of_mem)); done)); (case zqd => k_asm); k_whole))
  k_with "exec For Name List cons nil" => (k_here; refine Stop.mk ?_)
  k_with "exec For Name Call cons nil" => (k_here; refine Stop.mk ?_)
  k_with "eval ListComp" => (k_here; refine Stop.mk ?_)
  k_with "exec Assign cons ListComp" => (k_here; (with_reducible show wpAny _ _ (exec (Stmt.Assign [Expr.Name (Str.ofString "rows") _] _ _) _) _ _ _); refine Stop.mk ?_)
  k_with "exec Assign cons ListComp" => (k_here; (with_reducible show wpAny _ _ (exec (Stmt.Assign [Expr.Name (Str.ofString "column") _] _ _) _) _ _ _); k_dflt (refine wpAny_Assign_Name ?_))
  k_with "call builtin:len" => (k_here; refine Stop.mk ?_)
  k_with "call builtin:sorted" => (k_here; refine Stop.mk ?_)
  k_with "subscriptTail" => (k_here; refine Stop.mk ?_)
  k_with "storeName" => (k_here; (with_reducible show wpAny _ _ (storeName _ (Str.ofString "names") _) _ _ _); refine Stop.mk ?_)
  k_with "storeName" => (k_here; (with_reducible show wpAny _ _ (storeName _ (Str.ofString "column") _) _ _ _); refine Stop.mk ?_)
  k_with "eval Name" => (k_here; k_dflt (refine LCgL.ld_own (by k_asm) (List.mem_cons_of_mem _ (List.mem_cons_self ..)) (by assumption) (by assumption) ?_))
  k_with "eval Name" => (k_here; k_dflt (refine' name_cellG ?zqN ?zqk ?zqx ?zqc ?zqm ?zqd ?zqb ?_; (case zqk => rfl); (case zqx => rfl); (case zqb => decide); (case zqc => rfl); (case zqN => k_asm); (case zqm => ((repeat (first | assumption | exact List.mem_cons_self .. | apply List.mem_cons_of_mem)); done)); (case zqd => k_asm); k_whole))
  k_with "getMethod ref" => (k_here; (with_reducible show wpAny _ _ (getMethod (Value.ref _) (PySem.Str.ofString "append") _) _ _ _); k_dflt (refine' listMethod_K ?zqN ?zqm PySem.F.slot_list_append PySem.F.type_list_append ?_; (case zqN => k_asm); (case zqm => exact hlm)))
  k_with "call builtin:list.append" => (k_here; refine Stop.mk ?_)
  k_with "compareOp In int ref" => (k_here; refine Stop.mk ?_)
  k_with "call ref" => (k_here; first | ((refine Tells.at (key_any w _ _ _ _ hpz3 (by omega) (by omega)) (by k_asm) (by k_asm) (by k_asm) (by k_asm) (by k_asm) rfl rfl (by (try dsimp only [ktrTop, Around.deeper]); omega) (by (try dsimp only [ktrTop, Around.deeper]); omega) ?zqpre ?_); (case zqpre => exact trivial); intro r9 tl9 h9 tk9 F9 N9 K9 fr9 P9; (obtain ⟨⟨t9, er9⟩, et9⟩ := P9); subst er9 et9; (try dsimp only [List.nil_append] at N9); (try dsimp only)) | ((refine Tells.at (name_tells w _ _) (by k_asm) (by k_asm) (by k_asm) (by k_asm) (by k_asm) rfl rfl (by (try dsimp only [ktrTop, Around.deeper]); omega) (by (try dsimp only [ktrTop, Around.deeper]); omega) ?zqpre ?_); (case zqpre => exact trivial); intro r9 tl9 h9 tk9 F9 N9 K9 fr9 P9; (obtain ⟨D9, l9, t9, ta9, tb9, tc9, er9, et9⟩ := P9); subst er9 et9; (try dsimp only [List.nil_append, List.cons_append] at N9); (try dsimp only)) | ((refine Tells.at (value_tells w _ _ (by omega) (by omega)) (by k_asm) (by k_asm) (by k_asm) (by k_asm) (by k_asm) rfl rfl (by (try dsimp only [ktrTop, Around.deeper]); omega) (by (try dsimp only [ktrTop, Around.deeper]); omega) ?zqpre ?_); (case zqpre => exact trivial); intro r9 tl9 h9 tk9 F9 N9 K9 fr9 P9; (obtain ⟨t9, er9, et9⟩ := P9); subst er9 et9; (try dsimp only [List.nil_append] at N9); (try dsimp only)))
  have N : News h₀ L s.heap [] := news_nil
  revert B F N X T
  k_fill
  intro B F N X T
  refine wpAny_call ?_
  k_dflt (refine' code_cellsG ?k1 ?k2 ?k3 ?k4 ?k5 ?kA ?kF ?kK ?k6 ?k7 ?k8 ?k9 ?kB ?kC ?_ ?c2 ?c3 ?c4; (case kA => exact rfl); (case kF => exact rfl); (case kK => assumption); (case k1 => k_asm); (case k2 => k_asm); (case k3 => k_asm); (case k4 => k_asm); (case k5 => k_asm); (case k6 => k_is); (case k7 => k_is); (case k8 => exact Nat.lt_of_le_of_lt hd (by decide)); (case k9 => exact BindsTo.of_eq rfl); (case kB => exact rfl); (case kC => decide +kernel); (case c2 => exact rfl); (case c3 => exact rfl); (case c4 => exact rfl); k_whole; intro g' L' h' tk' cells' FG' F' N' Y' B' X' T' l1 kG'; k_cells Y'; (try simp only [List.cons_append, List.nil_append, List.append_nil] at N'); (try dsimp only); (try k_lift B'); (try k_fold))
  k_steps
  rename_i oC0 oP0 oN0 dC0 dP0 dN0
  unfold Stop
  have hcl : cs.length = cvs.length := Paired.length hcs
  have hCg : g'.IsList C cvs.toArray := ⟨_, kG' _ _ hC (fun h => nomatch h), rfl, _, rfl⟩
  with_unfolding_all refine ListComp_ground (h₀ := g') (L := L') cvs.toArray (NInv [(L' + 1 + 1 + 1, oC0), (L' + 1 + 1, oP0), (L' + 1, oN0)] cs) F' rfl (by with_unfolding_all rfl) (by decide) rfl (by decide) rfl (by simp; omega) ?st1 ?src1
  case st1 =>
    rintro i v I3 oI3 C3 oC3 D m2 ys news sx E3 hi hv ⟨objs, rfl, hnm, hpl⟩ hNs hm2 Fx Nx off3 ne3
    obtain ⟨c, tc, hc, rfl⟩ := ints_get hcs (by simpa using hv)
    k_steps
    refine ⟨_, _, [(D9, nameTup (nmOf c) t9 l9), (l9, W.listOf #[.int (dg c 0) ta9, .int (dg c 1) tb9, .int (dg c 2) tc9] 0)] ++ (objs ++ [(L' + 1 + 1 + 1, oC0), (L' + 1 + 1, oP0), (L' + 1, oN0)]), rfl, F9, fun p hp => N9 p (by (first | (refine sub_use hp ?_; (repeat' (first | exact sub_self | exact sub_nil | exact List.mem_cons_self .. | refine List.mem_cons_of_mem _ ?_ | refine sub_cons ?_ ?_ | refine sub_app ?_ ?_ | exact sub_inl | refine sub_skip ?_ | refine sub_right ?_ | refine List.mem_append_right _ ?_)); done) | (simp only [List.mem_cons, List.mem_append, List.cons_append, List.nil_append, List.not_mem_nil, or_false] at hp ⊢; grind))), off3_fresh fr9 Nx off3, _, (List.append_assoc _ _ _).symm, ?_, ?_⟩
    · rw [List.take_add_one, hc]
      exact Paired.snoc (NamesAt.mono hnm fun p hp => by simp [hp]) ⟨D9, l9, t9, ta9, tb9, tc9, rfl, by simp, by simp⟩
    · intro p hp
      simp only [List.cons_append, List.nil_append, List.mem_cons] at hp
      rcases hp with h | h | h
      · rw [h]; exact plain_name _ _ _
      · rw [h]; exact plain_list _ _
      · exact hpl p h
  case src1 =>
    k_steps
    refine ⟨C, _, rfl, hCg, F', N', ⟨[], rfl, Paired.nil, fun _ h => nomatch h⟩, ?_⟩
    · rintro D5 h5 tk5 ys news5 F5 N5 o5 ⟨objs, rfl, hnm, hpl⟩
      rw [List.take_of_length_le (by simp; omega)] at hnm
      k_steps
      unfold Stop
      have hlY : ys.length = 12 := by rw [← Paired.length hnm]; exact hlen
      refine store_cell' F5 N5 rfl rfl rfl (c := L' + 1) (o := oN0) (by first | ((repeat (first | exact List.mem_cons_self .. | assumption | refine List.mem_cons_of_mem _ ?_ | exact List.mem_append_left _ (by assumption) | refine List.mem_append_right _ ?_)); done) | simp) dN0 ((D5, lst ys) :: (L' + 1 + 1 + 1, oC0) :: (L' + 1 + 1, oP0) :: objs) (by intro p hp; (first | (refine sub_use hp ?_; (repeat' (first | exact sub_self | exact sub_nil | exact List.mem_cons_self .. | refine List.mem_cons_of_mem _ ?_ | refine sub_cons ?_ ?_ | refine sub_app ?_ ?_ | exact sub_inl | refine sub_skip ?_ | refine sub_right ?_ | refine List.mem_append_right _ ?_)); done) | (simp only [List.mem_cons, List.mem_append] at hp ⊢; grind))) ?offN ?_
      case offN =>
        intro p hp
        simp only [List.mem_cons] at hp
        rcases hp with h | h | h | h
        · rw [h]; exact .inl (plain_list _ _)
        · rw [h]; exact .inr (Nat.ne_of_gt (Nat.lt_succ_of_lt (Nat.lt_succ_self _)))
        · rw [h]; exact .inr (Nat.ne_of_gt (Nat.lt_succ_self _))
        · exact .inl (hpl p h)
      intro h6 oN6 F6 N6 dN6
      clear F5 N5 o5
      k_steps
      unfold Stop
      rename_i M hh7 hM7 hh8 F7 N7
      obtain ⟨Rm, hRm⟩ : ∃ Rm, Rm = (L' + 1, oN6) :: (D5, lst ys) :: (L' + 1 + 1 + 1, oC0) :: objs := ⟨_, rfl⟩
      have hRM : ∀ p ∈ Rm, p.1 ≠ M := fun p hp => by
        rw [hRm] at hp
        simp only [List.mem_cons] at hp
        rcases hp with h | h | h | h
        · rw [h]; exact Nat.ne_of_lt hM7.1
        · rw [h]; exact Nat.ne_of_lt hM7.2.1
        · rw [h]; exact Nat.ne_of_lt hM7.2.2.1
        · exact Nat.ne_of_lt (allLt_mem hM7.2.2.2.2 p h)
      have hRP : ∀ p ∈ Rm, Plain p.2 ∨ p.1 ≠ L' + 1 + 1 := fun p hp => by
        rw [hRm] at hp
        simp only [List.mem_cons] at hp
        rcases hp with h | h | h | h
        · rw [h]; exact .inr (Nat.ne_of_lt (Nat.lt_succ_self _))
        · rw [h]; exact .inl (plain_list _ _)
        · rw [h]; exact .inr (Nat.ne_of_gt (Nat.lt_succ_self _))
        · exact .inl (hpl p h)
      with_unfolding_all refine For_rng (h₀ := g') (L := L') 12 (MkInv (L' + 1 + 1) M Rm cs) rfl ?st2 ?src2
      case st2 =>
        rintro i t m2 news I oI sx E2 hi ⟨mvs, oP, ⟨vP, hoP⟩, hmM, rfl, hmv⟩ hcI hoI Fx Nx offI
        have hci : cs[i]? = some cs[i] := List.getElem?_eq_getElem (by omega)
        obtain ⟨Dn, ln, tn, ta, tb, tc, hy, hDn, hln⟩ := names_get hnm hci
        have hoR : ∀ p ∈ objs, p ∈ Rm := fun p hp => by rw [hRm]; first | ((repeat (first | exact List.mem_cons_self .. | assumption | refine List.mem_cons_of_mem _ ?_ | exact List.mem_append_left _ (by assumption) | refine List.mem_append_right _ ?_)); done) | simp [hp]
        have hNR : (L' + 1, oN6) ∈ Rm := by rw [hRm]; first | ((repeat (first | exact List.mem_cons_self .. | assumption | refine List.mem_cons_of_mem _ ?_ | exact List.mem_append_left _ (by assumption) | refine List.mem_append_right _ ?_)); done) | simp
        have hDR : (D5, lst ys) ∈ Rm := by rw [hRm]; first | ((repeat (first | exact List.mem_cons_self .. | assumption | refine List.mem_cons_of_mem _ ?_ | exact List.mem_append_left _ (by assumption) | refine List.mem_append_right _ ?_)); done) | simp
        refine wpAny_assign_Name (store_cell' Fx Nx rfl rfl rfl (c := L' + 1 + 1) (o := oP) (by first | ((repeat (first | exact List.mem_cons_self .. | assumption | refine List.mem_cons_of_mem _ ?_ | exact List.mem_append_left _ (by assumption) | refine List.mem_append_right _ ?_)); done) | simp) hoP ((I, oI) :: (M, lst mvs) :: Rm) (by intro p hp; (first | (refine sub_use hp ?_; (repeat' (first | exact sub_self | exact sub_nil | exact List.mem_cons_self .. | refine List.mem_cons_of_mem _ ?_ | refine sub_cons ?_ ?_ | refine sub_app ?_ ?_ | exact sub_inl | refine sub_skip ?_ | refine sub_right ?_ | refine List.mem_append_right _ ?_)); done) | (simp only [List.mem_cons] at hp ⊢; grind))) ?offP ?_)
        case offP =>
          intro p hp
          simp only [List.mem_cons] at hp
          rcases hp with h | h | h
          · rw [h]; exact .inl hoI
          · rw [h]; exact .inl (plain_list _ _)
          · exact hRP p h
        intro h9 oP9 F9 N9 d9
        k_steps
        unfold Stop
        refine tail_any (PySem.Heap.IsList.typeIs ⟨_, (N9 (D5, lst ys) (by first | ((repeat (first | exact List.mem_cons_self .. | assumption | refine List.mem_cons_of_mem _ ?_ | exact List.mem_append_left _ (by assumption) | refine List.mem_append_right _ ?_)); done) | simp [hDR])).1, rfl, _, rfl⟩) slot_list_getitem.lookup (wpAny_getItem_list (items := ys.toArray) ⟨_, (N9 (D5, lst ys) (by first | ((repeat (first | exact List.mem_cons_self .. | assumption | refine List.mem_cons_of_mem _ ?_ | exact List.mem_append_left _ (by assumption) | refine List.mem_append_right _ ?_)); done) | simp [hDR])).1, rfl, _, rfl⟩ (Int.natCast_nonneg i) (by omega) (by simpa using hy) ?_) (by with_unfolding_all rfl)
        k_steps
        unfold Stop
        have htn : IsTup h9 Dn [Value.str (nmOf cs[i]) tn, .ref ln].toArray := ⟨_, (N9 _ (List.mem_cons_of_mem _ (List.mem_cons_of_mem _ (List.mem_cons_of_mem _ (hoR _ hDn))))).1, rfl, _, rfl⟩
        refine item_tupleT (l := [Value.str (nmOf cs[i]) tn, .ref ln]) (j := 1) htn (by decide) (by decide) rfl rfl ?_ (by with_unfolding_all rfl)
        k_steps
        have hlR : (ln, W.listOf #[.int (dg cs[i] 0) ta, .int (dg cs[i] 1) tb, .int (dg cs[i] 2) tc] 0) ∈ Rm := hoR _ hln
        refine unpack3 (a := .int (dg cs[i] 0) ta) (b := .int (dg cs[i] 1) tb) (c := .int (dg cs[i] 2) tc) rfl ⟨_, (N9 _ (List.mem_cons_of_mem _ (List.mem_cons_of_mem _ (List.mem_cons_of_mem _ hlR)))).1, rfl, _, rfl⟩ rfl rfl ?_
        intro h10 he10
        have F10 : Fr g' L' h10 m2 := F9.extBut he10 (Nat.le_refl _)
        have N10 : News g' L' h10 ((L' + 1 + 1, oP9) :: (I, oI) :: (M, lst mvs) :: Rm) := fun p hp => ⟨he10 _ _ (Nat.ne_of_lt (Heap.lt_size (N9 p hp).1)) (N9 p hp).1, (N9 p hp).2⟩
        clear F9 N9 Fx Nx
        have hlm : (M, lst mvs) ∈ (L' + 1 + 1, oP9) :: (I, oI) :: (M, lst mvs) :: Rm := by simp
        k_steps
        unfold Stop
        refine append_led ((I, oI) :: (L' + 1 + 1, oP9) :: Rm) (by k_asm) (by k_asm) hlm (by intro p hp; (first | (refine sub_use hp ?_; (repeat' (first | exact sub_self | exact sub_nil | exact List.mem_cons_self .. | refine List.mem_cons_of_mem _ ?_ | refine sub_cons ?_ ?_ | refine sub_app ?_ ?_ | exact sub_inl | refine sub_skip ?_ | refine sub_right ?_ | refine List.mem_append_right _ ?_)); done) | (simp only [List.mem_cons] at hp ⊢; grind))) ?offM ?lenM ?_
        case offM =>
          intro p hp
          simp only [List.mem_cons] at hp
          rcases hp with h | h | h
          · rw [h]; exact Ne.symm (offI (M, lst mvs) (by first | ((repeat (first | exact List.mem_cons_self .. | assumption | refine List.mem_cons_of_mem _ ?_ | exact List.mem_append_left _ (by assumption) | refine List.mem_append_right _ ?_)); done) | simp))
          · rw [h]; exact news_apart (by k_asm : News g' L' _ ((L' + 1 + 1, oP9) :: (I, oI) :: (M, lst mvs) :: Rm)) (o := oP9) (o' := lst mvs) (List.mem_cons_self ..) (List.mem_cons_of_mem _ (List.mem_cons_of_mem _ (List.mem_cons_self ..))) (fun q => by rw [q] at d9; cases d9)
          · exact hRM p h
        case lenM =>
          rw [← Paired.length hmv, List.length_take]; omega
        intro h11 F11 N11
        k_steps
        refine ⟨rfl, h11, _, _, _, rfl, F11, news_swap N11, ?_, _, oP9, ⟨_, d9⟩, ?_, rfl, ?_⟩
        · intro p hp
          rcases List.mem_cons.mp hp with h | hp
          · rw [h]; exact offI (M, lst mvs) (by first | ((repeat (first | exact List.mem_cons_self .. | assumption | refine List.mem_cons_of_mem _ ?_ | exact List.mem_append_left _ (by assumption) | refine List.mem_append_right _ ?_)); done) | simp)
          rcases List.mem_cons.mp hp with h | hp
          · rw [h]; exact offI (L' + 1 + 1, oP) (by first | ((repeat (first | exact List.mem_cons_self .. | assumption | refine List.mem_cons_of_mem _ ?_ | exact List.mem_append_left _ (by assumption) | refine List.mem_append_right _ ?_)); done) | simp)
          · exact offI p (by first | ((repeat (first | exact List.mem_cons_self .. | assumption | refine List.mem_cons_of_mem _ ?_ | exact List.mem_append_left _ (by assumption) | refine List.mem_append_right _ ?_)); done) | simp [hp])
        · repeat (first | exact hmM | refine (if_neg (by decide)).trans ?_)
        · rw [List.take_add_one, marks_get hci]
          exact Paired.snoc hmv ⟨_, rfl⟩
      case src2 =>
        k_steps
        unfold Stop
        refine kun_lenL (items := ys.toArray) (k := 12) ⟨_, (N7 (D5, lst ys) (by first | ((repeat (first | exact List.mem_cons_self .. | assumption | refine List.mem_cons_of_mem _ ?_ | exact List.mem_append_left _ (by assumption) | refine List.mem_append_right _ ?_)); done) | simp)).1, rfl, _, rfl⟩ (by first | ((repeat (first | exact List.mem_cons_self .. | assumption | refine List.mem_cons_of_mem _ ?_ | exact List.mem_append_left _ (by assumption) | refine List.mem_append_right _ ?_)); done) | simp [hlY]) (by decide) ?_
        k_steps
        rename IsRange _ _ _ _ _ _ _ _ => rg
        refine ⟨_, _, _, _, _, (M, lst []) :: (L' + 1 + 1, oP0) :: Rm, rfl, by k_asm, fun p hp => (show News g' L' _ ((M, W.listOf #[] 0) :: (L' + 1, oN6) :: (D5, lst ys) :: (L' + 1 + 1 + 1, oC0) :: (L' + 1 + 1, oP0) :: objs) by k_asm) p (by rw [hRm] at hp; (first | (refine sub_use hp ?_; (repeat' (first | exact sub_self | exact sub_nil | exact List.mem_cons_self .. | refine List.mem_cons_of_mem _ ?_ | refine sub_cons ?_ ?_ | refine sub_app ?_ ?_ | exact sub_inl | refine sub_skip ?_ | refine sub_right ?_ | refine List.mem_append_right _ ?_)); done) | (simp only [List.mem_cons] at hp ⊢; grind))), rg, by decide, by rfl, ⟨[], oP0, ⟨_, dP0⟩, if_pos rfl, rfl, Paired.nil⟩, ?_⟩
        rintro m3 news3 h3 tk3 ⟨mvs, oP, ⟨vP, hoP⟩, hmM, rfl, hmv⟩ F3 N3
        rw [List.take_of_length_le (by rw [marks_len]; omega)] at hmv
        k_steps
        unfold Stop
        with_unfolding_all refine Assign_ListComp_inv2 (h₀ := g') (L := L') (RowInv ((L' + 1 + 1, oP) :: Rm) cs (marksOf cs)) F3 rfl rfl (by with_unfolding_all rfl) (by with_unfolding_all rfl) (by decide) rfl (by decide) rfl rfl rfl ?st3 ?src3
        case src3 =>
          have hMn : (M, lst mvs) ∈ (M, lst mvs) :: (L' + 1 + 1, oP) :: Rm := List.mem_cons_self ..
          k_steps
          unfold Stop
          refine kso_sorted F3 N3 (vs := mvs) ⟨_, (N3 _ hMn).1, rfl, _, rfl⟩ (ints_are hmv) (by rw [marks_len]; omega) ?_
          intro S vs' sm c h4 F4 N4 lt hi hlen4 hperm hpw _
          k_steps
          have hvl : vs'.length = 12 := by
            have e1 := IntsAre.length hi
            rw [hlen4, marks_len, hlen] at e1
            omega
          refine ⟨S, c, vs'.toArray, (S, PySem.W.listOf vs'.toArray c) :: (L' + 1 + 1, oP) :: Rm, rfl, by simp; omega, F4, fun p hp => N4 p (by (first | (refine sub_use hp ?_; (repeat' (first | exact sub_self | exact sub_nil | exact List.mem_cons_self .. | refine List.mem_cons_of_mem _ ?_ | refine sub_cons ?_ ?_ | refine sub_app ?_ ?_ | exact sub_inl | refine sub_skip ?_ | refine sub_right ?_ | refine List.mem_append_right _ ?_)); done) | (simp only [List.mem_cons] at hp ⊢; grind))), ⟨sm, by simpa using of_are hi, hperm, hpw, [], rfl, Paired.nil, fun _ h => nomatch h⟩, ?_, ?_⟩
          · rintro i ys4 news4 ⟨sm4, _, _, _, objs4, rfl, _, _⟩
            simp
          · rintro D6 h5 tk5 ys5 news5 F5 N5 o5 ⟨sm5, hsm5, hperm5, hpw5, objs5, rfl, hdr5, hpl5⟩
            rw [List.take_of_length_le (by rw [hperm5.length_eq, marks_len]; simp; omega)] at hdr5
            k_steps
            unfold Stop
            rename_i U hh9 hU9 hh10 F9 N9
            obtain ⟨Bd, hBd⟩ : ∃ Bd, Bd = (L' + 1, oN6) :: (D6, lst ys5) :: (D5, lst ys) :: (objs5 ++ objs) := ⟨_, rfl⟩
            have hsubd : ∀ p ∈ Bd, p ∈ (D6, lst ys5) :: (objs5 ++ (S, listO vs' c) :: (L' + 1 + 1, oP) :: Rm) := fun p hp => by
              rw [hBd] at hp; rw [hRm]
              (first | (refine sub_use hp ?_; (repeat' (first | exact sub_self | exact sub_nil | exact List.mem_cons_self .. | refine List.mem_cons_of_mem _ ?_ | refine sub_cons ?_ ?_ | refine sub_app ?_ ?_ | exact sub_inl | refine sub_skip ?_ | refine sub_right ?_ | refine List.mem_append_right _ ?_)); done) | (simp only [List.mem_cons, List.mem_append] at hp ⊢; grind))
            have hBU : ∀ p ∈ Bd, p.1 ≠ U := fun p hp => by
              rcases List.mem_cons.mp (hsubd p hp) with h | h
              · rw [h]; exact Nat.ne_of_lt hU9.1
              · exact Nat.ne_of_lt (allLt_mem hU9.2 p h)
            have hBP : ∀ p ∈ Bd, Plain p.2 ∨ p.1 ≠ L' + 1 + 1 := fun p hp => by
              rw [hBd] at hp
              simp only [List.mem_cons, List.mem_append] at hp
              rcases hp with h | h | h | h | h
              · rw [h]; exact .inr (Nat.ne_of_lt (Nat.lt_succ_self _))
              · rw [h]; exact .inl (plain_list _ _)
              · rw [h]; exact .inl (plain_list _ _)
              · exact .inl (hpl5 p h)
              · exact .inl (hpl p h)
            have hBC : ∀ p ∈ Bd, Plain p.2 ∨ p.1 ≠ L' + 1 + 1 + 1 := fun p hp => by
              rw [hBd] at hp
              simp only [List.mem_cons, List.mem_append] at hp
              rcases hp with h | h | h | h | h
              · rw [h]; exact .inr (Nat.ne_of_lt (Nat.lt_succ_of_lt (Nat.lt_succ_self _)))
              · rw [h]; exact .inl (plain_list _ _)
              · rw [h]; exact .inl (plain_list _ _)
              · exact .inl (hpl5 p h)
              · exact .inl (hpl p h)
            have hNd : (L' + 1, oN6) ∈ Bd := by rw [hBd]; first | ((repeat (first | exact List.mem_cons_self .. | assumption | refine List.mem_cons_of_mem _ ?_ | exact List.mem_append_left _ (by assumption) | refine List.mem_append_right _ ?_)); done) | simp
            have hDd : (D5, lst ys) ∈ Bd := by rw [hBd]; first | ((repeat (first | exact List.mem_cons_self .. | assumption | refine List.mem_cons_of_mem _ ?_ | exact List.mem_append_left _ (by assumption) | refine List.mem_append_right _ ?_)); done) | simp
            with_unfolding_all refine For_list (h₀ := g') (L := L') (LInv cs U D6 (L' + 1 + 1) (L' + 1 + 1 + 1) Bd) rfl ?st4 ?src4
            case src4 =>
              k_steps
              rename_i lp hh11 F11 N11 llp
              have N11' : News g' L' hh11 ((lp, listO [.int 2 _, .int 1 _, .int 0 _] 0) :: (U, lst []) :: (D6, lst ys5) :: (objs5 ++ (S, listO vs' c) :: (L' + 1 + 1, oP) :: Rm)) := N11
              refine ⟨lp, [.int 2 _, .int 1 _, .int 0 _], 0, _, _, rfl, F11, (fun p hp => N11' p (by
                rcases List.mem_cons.mp hp with h | hp
                · rw [h]; exact List.mem_cons_self ..
                rcases List.mem_cons.mp hp with h | hp
                · rw [h]; exact List.mem_cons_of_mem _ (List.mem_cons_self ..)
                rcases List.mem_cons.mp hp with h | hp
                · rw [h]; first | ((repeat (first | exact List.mem_cons_self .. | assumption | refine List.mem_cons_of_mem _ ?_ | exact List.mem_append_left _ (by assumption) | refine List.mem_append_right _ ?_)); done) | simp
                rcases List.mem_cons.mp hp with h | hp
                · rw [h, hRm]; first | ((repeat (first | exact List.mem_cons_self .. | assumption | refine List.mem_cons_of_mem _ ?_ | exact List.mem_append_left _ (by assumption) | refine List.mem_append_right _ ?_)); done) | simp
                · exact List.mem_cons_of_mem _ (List.mem_cons_of_mem _ (hsubd p hp))) : News g' L' hh11 ((lp, listO [.int 2 _, .int 1 _, .int 0 _] 0) :: (U, lst []) :: (L' + 1 + 1, oP) :: (L' + 1 + 1 + 1, oC0) :: ([] ++ Bd))), ⟨0, [], [], oP, oC0, Nat.zero_le _, rfl, ⟨_, _, _, rfl⟩, (if_neg (by decide)).trans (if_pos rfl), if_pos rfl, ⟨vP, hoP⟩, ⟨_, dC0⟩, ⟨rfl, rfl⟩, (fun _ h => nomatch h), Nat.ne_of_gt llp.1, rfl⟩, ?_, ?_⟩
              · rintro r m6 news6 ⟨j, us, usedL, oP6, oC6, hj, hr, ⟨ta, tb, tc, hpl6⟩, _, _, _, _, _, _, _, rfl⟩
                exact List.mem_cons_self ..
              · rintro m6 news6 h6 tk6 ⟨j, us, usedL, oP6, oC6, hj, hr, ⟨ta, tb, tc, hpl6⟩, hmr, hmu, ⟨vP6, hoP6⟩, ⟨vC6, hoC6⟩, hus, hUne, hlU, hN6⟩ F6 N6
                have hj3 : j = 3 := by
                  have e1 := congrArg List.length hr
                  rw [hpl6, List.length_drop] at e1
                  simp only [List.length_nil, List.length_cons] at e1
                  omega
                subst hj3
                clear hr hj
                have hU6 : (U, lst us) ∈ news6 := by rw [hN6]; first | ((repeat (first | exact List.mem_cons_self .. | assumption | refine List.mem_cons_of_mem _ ?_ | exact List.mem_append_left _ (by assumption) | refine List.mem_append_right _ ?_)); done) | simp
                have hD6 : (D6, lst ys5) ∈ news6 := by rw [hN6, hBd]; first | ((repeat (first | exact List.mem_cons_self .. | assumption | refine List.mem_cons_of_mem _ ?_ | exact List.mem_append_left _ (by assumption) | refine List.mem_append_right _ ?_)); done) | simp
                have hu6 : ∀ p ∈ usedL, p ∈ news6 := fun p hp => by rw [hN6]; first | ((repeat (first | exact List.mem_cons_self .. | assumption | refine List.mem_cons_of_mem _ ?_ | exact List.mem_append_left _ (by assumption) | refine List.mem_append_right _ ?_)); done) | simp [hp]
                have ho6 : ∀ p ∈ objs5, p ∈ news6 := fun p hp => by rw [hN6, hBd]; first | ((repeat (first | exact List.mem_cons_self .. | assumption | refine List.mem_cons_of_mem _ ?_ | exact List.mem_append_left _ (by assumption) | refine List.mem_append_right _ ?_)); done) | simp [hp]
                k_steps
                rename_i T1 hT1 FT NT lT kF k0 k1 k2
                obtain ⟨as, ha⟩ := reads_drows (h := hT1) hdr5 (fun p hp => (NT p (List.mem_cons_of_mem _ (ho6 p hp))).1)
                obtain ⟨bs, hb⟩ := reads_usedC (h := hT1) hus (fun p hp => (NT p (List.mem_cons_of_mem _ (hu6 p hp))).1)
                exact hret _ _ _ (by k_asm) (fun b o e => FT.keep b o (kG' b o e (fun h => nomatch h))) ⟨_, sm5, hperm5, hpw5, reads_tuple_at (NT _ (List.mem_cons_self ..)).1 rfl rfl (.cons (reads_list_at (NT _ (List.mem_cons_of_mem _ hD6)).1 rfl rfl (by simpa using ha)) (.cons (reads_list_at (NT _ (List.mem_cons_of_mem _ hU6)).1 rfl rfl (by simpa using hb)) .nil))⟩
            case st4 =>
              intro lp pl v r m4 news I oI sx E4 hInv hcI hdI0 Fx Nx offI
              obtain ⟨iI, hdI⟩ := hdI0
              obtain ⟨j, us, usedL, oP4, oC4, hj, hr, ⟨ta, tb, tc, hpl4⟩, hmr, hmu, ⟨vP4, hoP4⟩, ⟨vC4, hoC4⟩, hus, hUne, hlU, rfl⟩ := hInv
              have hv : ∃ pz tz, v = .int pz tz ∧ pz = 2 - (j : Int) ∧ j < 3 := by
                subst hpl4
                match j, hj, hr with
                | 0, _, hr => exact ⟨_, _, (List.cons.inj hr).1, rfl, by decide⟩
                | 1, _, hr => exact ⟨_, _, (List.cons.inj hr).1, rfl, by decide⟩
                | 2, _, hr => exact ⟨_, _, (List.cons.inj hr).1, rfl, by decide⟩
                | 3, _, hr => cases hr
              obtain ⟨pz, tz, rfl, hpz, hj3⟩ := hv
              have hpz3 : pz = 0 ∨ pz = 1 ∨ pz = 2 := by omega
              have hoI : ∀ v, oI.data ≠ .cell v := fun v q => by rw [hdI] at q; cases q
              refine wpAny_assign_Name (store_cell' Fx Nx rfl rfl rfl (c := L' + 1 + 1) (o := oP4) (by first | ((repeat (first | exact List.mem_cons_self .. | assumption | refine List.mem_cons_of_mem _ ?_ | exact List.mem_append_left _ (by assumption) | refine List.mem_append_right _ ?_)); done) | simp) hoP4 ((L' + 1 + 1 + 1, oC4) :: (I, oI) :: (lp, listO pl 0) :: (U, lst us) :: (usedL ++ Bd)) (by intro p hp; (first | (refine sub_use hp ?_; (repeat' (first | exact sub_self | exact sub_nil | exact List.mem_cons_self .. | refine List.mem_cons_of_mem _ ?_ | refine sub_cons ?_ ?_ | refine sub_app ?_ ?_ | exact sub_inl | refine sub_skip ?_ | refine sub_right ?_ | refine List.mem_append_right _ ?_)); done) | (simp only [List.mem_cons] at hp ⊢; grind))) ?offP4 ?_)
              case offP4 =>
                intro p hp
                simp only [List.mem_cons, List.mem_append] at hp
                rcases hp with h | h | h | h | h | h
                · rw [h]; exact .inr (Nat.ne_of_gt (Nat.lt_succ_self _))
                · rw [h]; exact .inl hoI
                · rw [h]; exact .inl (plain_list _ _)
                · rw [h]; exact .inl (plain_list _ _)
                · exact .inl (plain_usedC hus p h)
                · exact hBP p h
              intro h9 oP9 F9 N9 d9
              obtain ⟨Bs, hBs⟩ : ∃ Bs, Bs = (L' + 1 + 1, oP9) :: (L' + 1 + 1 + 1, oC4) :: (I, oI) :: (lp, listO pl 0) :: (U, lst us) :: (usedL ++ Bd) := ⟨_, rfl⟩
              rw [← hBs] at N9
              have hNs' : (L' + 1, oN6) ∈ Bs := by rw [hBs]; first | ((repeat (first | exact List.mem_cons_self .. | assumption | refine List.mem_cons_of_mem _ ?_ | exact List.mem_append_left _ (by assumption) | refine List.mem_append_right _ ?_)); done) | simp [hNd]
              have hDs' : (D5, lst ys) ∈ Bs := by rw [hBs]; first | ((repeat (first | exact List.mem_cons_self .. | assumption | refine List.mem_cons_of_mem _ ?_ | exact List.mem_append_left _ (by assumption) | refine List.mem_append_right _ ?_)); done) | simp [hDd]
              have hPs' : (L' + 1 + 1, oP9) ∈ Bs := by rw [hBs]; first | ((repeat (first | exact List.mem_cons_self .. | assumption | refine List.mem_cons_of_mem _ ?_ | exact List.mem_append_left _ (by assumption) | refine List.mem_append_right _ ?_)); done) | simp
              have hos' : ∀ p ∈ objs, p ∈ Bs := fun p hp => by rw [hBs, hBd]; first | ((repeat (first | exact List.mem_cons_self .. | assumption | refine List.mem_cons_of_mem _ ?_ | exact List.mem_append_left _ (by assumption) | refine List.mem_append_right _ ?_)); done) | simp [hp]
              k_steps
              unfold Stop
              with_unfolding_all refine ListCompP_inv (h₀ := g') (L := L') ys.toArray (fun ax k' => CoInv D5 Bs (2 - j) cs ax ys.length k') (CoV Bs cs) F9 rfl (by with_unfolding_all rfl) (by decide) rfl (by decide) rfl rfl (by decide) (by simp; omega) ?hV5 ?st5 ?src5
              case hV5 =>
                rintro ax kk i yz news v ⟨hax, hkk, rfl, hyz⟩ hv
                obtain ⟨c, hc, D, l, t, ta, tb, tc, rfl, h1, h2⟩ := paired_get' hnm i v (by simpa using hv)
                exact ⟨D, nameTup (nmOf c) t l, _, _, 0, rfl, hos' _ h1, rfl, rfl, c, l, ta, tb, tc, hc, rfl, hos' _ h2⟩
              case st5 =>
                rintro ax kk i v₁ v₂ I3 oI3 C3 oC3 D m5 yz news sx5 E5 hi ⟨c, l, ta, tb, tc, hc, rfl, hl⟩ ⟨hax, hkk, rfl, hyz⟩ hNs hm1 hm2 Fx Nx off3 ne3
                have hPx := hPs'
                k_steps
                unfold Stop
                have hlx := (Nx (l, W.listOf #[.int (dg c 0) ta, .int (dg c 1) tb, .int (dg c 2) tc] 0) (by first | ((repeat (first | exact List.mem_cons_self .. | assumption | refine List.mem_cons_of_mem _ ?_ | exact List.mem_append_left _ (by assumption) | refine List.mem_append_right _ ?_)); done) | simp [hl])).1
                have hit : ∃ t', (#[.int (dg c 0) ta, .int (dg c 1) tb, .int (dg c 2) tc] : Array Value)[pz.toNat]? = some (.int (dg c (2 - j)) t') := by
                  rw [show pz.toNat = 2 - j by omega]
                  match j, hj3 with
                  | 0, _ => exact ⟨_, rfl⟩
                  | 1, _ => exact ⟨_, rfl⟩
                  | 2, _ => exact ⟨_, rfl⟩
                obtain ⟨t', hit⟩ := hit
                refine tail_any (PySem.Heap.IsList.typeIs ⟨_, hlx, rfl, _, rfl⟩) slot_list_getitem.lookup (wpAny_getItem_list (items := #[.int (dg c 0) ta, .int (dg c 1) tb, .int (dg c 2) tc]) ⟨_, hlx, rfl, _, rfl⟩ (by omega) (by omega) hit ?_) (by with_unfolding_all rfl)
                show EltEnd _ _ _ _ _ _ _ _ _ _ _ _ _
                refine ⟨_, _, news, rfl, Fx, Nx, off3, hax, hkk, rfl, ?_⟩
                rw [List.take_add_one, show (colOf (2 - j) cs)[i]? = some (dg c (2 - j)) by unfold colOf; rw [List.getElem?_map, hc]; rfl]
                exact Paired.snoc hyz ⟨_, rfl⟩
              case src5 =>
                k_steps
                refine ⟨D5, ys.length, Bs, rfl, F9, N9, ⟨rfl, rfl, rfl, Paired.nil⟩, ?_, ?_⟩
                · rintro i yz news ⟨_, _, rfl, _⟩
                  exact hDs'
                · rintro D7 h7 tk7 yz news7 F7 N7 o7 ⟨_, _, hnw, hyz⟩
                  rw [hnw] at N7
                  rw [List.take_of_length_le (by unfold colOf; simp; omega)] at hyz
                  k_steps
                  unfold Stop
                  have hs7 : ∀ p ∈ (L' + 1 + 1, oP9) :: (I, oI) :: (lp, listO pl 0) :: (U, lst us) :: (usedL ++ Bd), p ∈ Bs := fun p hp => by rw [hBs]; (first | (refine sub_use hp ?_; (repeat' (first | exact sub_self | exact sub_nil | exact List.mem_cons_self .. | refine List.mem_cons_of_mem _ ?_ | refine sub_cons ?_ ?_ | refine sub_app ?_ ?_ | exact sub_inl | refine sub_skip ?_ | refine sub_right ?_ | refine List.mem_append_right _ ?_)); done) | (simp only [List.mem_cons] at hp ⊢; grind))
                  refine store_cell' F7 N7 rfl rfl rfl (c := L' + 1 + 1 + 1) (o := oC4) (List.mem_cons_of_mem _ (by rw [hBs]; first | ((repeat (first | exact List.mem_cons_self .. | assumption | refine List.mem_cons_of_mem _ ?_ | exact List.mem_append_left _ (by assumption) | refine List.mem_append_right _ ?_)); done) | simp)) hoC4 ((D7, lst yz) :: (L' + 1 + 1, oP9) :: (I, oI) :: (lp, listO pl 0) :: (U, lst us) :: (usedL ++ Bd)) (fun p hp => (List.mem_cons.mp hp).elim (fun h => h ▸ List.mem_cons_self ..) (fun h => List.mem_cons_of_mem _ (hs7 p h))) ?offC7 ?_
                  case offC7 =>
                    intro p hp
                    simp only [List.mem_cons, List.mem_append] at hp
                    rcases hp with h | h | h | h | h | h | h
                    · rw [h]; exact .inl (plain_list _ _)
                    · rw [h]; exact .inr (Nat.ne_of_lt (Nat.lt_succ_self _))
                    · rw [h]; exact .inl hoI
                    · rw [h]; exact .inl (plain_list _ _)
                    · rw [h]; exact .inl (plain_list _ _)
                    · exact .inl (plain_usedC hus p h)
                    · exact hBC p h
                  intro h8 oC8 F8 N8 dC8
                  obtain ⟨B8, hB8⟩ : ∃ B8, B8 = (L' + 1 + 1 + 1, oC8) :: (D7, lst yz) :: (L' + 1 + 1, oP9) :: (I, oI) :: (lp, listO pl 0) :: (U, lst us) :: (usedL ++ Bd) := ⟨_, rfl⟩
                  rw [← hB8] at N8
                  have hlm : (U, lst us) ∈ B8 := by rw [hB8]; first | ((repeat (first | exact List.mem_cons_self .. | assumption | refine List.mem_cons_of_mem _ ?_ | exact List.mem_append_left _ (by assumption) | refine List.mem_append_right _ ?_)); done) | simp
                  have hP8 : (L' + 1 + 1, oP9) ∈ B8 := by rw [hB8]; first | ((repeat (first | exact List.mem_cons_self .. | assumption | refine List.mem_cons_of_mem _ ?_ | exact List.mem_append_left _ (by assumption) | refine List.mem_append_right _ ?_)); done) | simp
                  have hC8 : (L' + 1 + 1 + 1, oC8) ∈ B8 := by rw [hB8]; first | ((repeat (first | exact List.mem_cons_self .. | assumption | refine List.mem_cons_of_mem _ ?_ | exact List.mem_append_left _ (by assumption) | refine List.mem_append_right _ ?_)); done) | simp
                  have hD8 : (D7, lst yz) ∈ B8 := by rw [hB8]; first | ((repeat (first | exact List.mem_cons_self .. | assumption | refine List.mem_cons_of_mem _ ?_ | exact List.mem_append_left _ (by assumption) | refine List.mem_append_right _ ?_)); done) | simp
                  clear N7 N9 F7 F9
                  k_steps
                  unfold Stop
                  with_unfolding_all refine ListCompT_inv (h₀ := g') (L := L') 32 (DgInv B8 (2 - j) cs) F8 rfl (by with_unfolding_all rfl) (by decide) rfl (by decide) rfl (by decide) ?st6 ?src6
                  case st6 =>
                    rintro i t6 I3 oI3 C3 oC3 D m6 yw news sx6 E6 hi ⟨rfl, hyw⟩ hNs hm6 Fx Nx off3 ne3
                    k_steps
                    unfold Stop
                    refine in_list_ints (vs := yz) ⟨_, (Nx (D7, lst yz) (by first | ((repeat (first | exact List.mem_cons_self .. | assumption | refine List.mem_cons_of_mem _ ?_ | exact List.mem_append_left _ (by assumption) | refine List.mem_append_right _ ?_)); done) | simp [hD8])).1, rfl, _, rfl⟩ (ints_are hyz) ?_
                    k_steps
                    refine ⟨fun hok => ?_, fun hno => ?_⟩
                    · k_steps
                      show EltEnd _ _ _ _ _ _ _ _ _ _ _ _ _
                      have ek : keyV pz.toNat (i : Int).toNat t9 = keyV (2 - j) i t9 := by rw [show pz.toNat = 2 - j by omega, Int.toNat_natCast]
                      rw [ek]
                      exact ⟨_, _, news, rfl, F9, N9, off3, rfl, dg_yes hyw hok⟩
                    · exact ⟨_, _, news, rfl, Fx, Nx, off3, rfl, dg_no hyw hno⟩
                  case src6 =>
                    k_steps
                    rename IsRange _ _ _ _ _ _ _ _ => rg
                    refine ⟨_, _, _, _, B8, rfl, by k_asm, by k_asm, rg, by decide, by rfl, ⟨rfl, Paired.nil⟩, ?_⟩
                    rintro S6 h6 tk6 yw news6 F6 N6 o6 ⟨hnw6, hyw⟩
                    rw [hnw6] at N6 o6
                    have hlm : (U, lst us) ∈ (S6, lst yw) :: B8 := List.mem_cons_of_mem _ hlm
                    k_steps
                    unfold Stop
                    have sub6 : ∀ p ∈ (I, oI) :: (lp, listO pl 0) :: (L' + 1 + 1, oP9) :: (L' + 1 + 1 + 1, oC8) :: (S6, lst yw) :: (usedL ++ Bd), p ∈ (S6, lst yw) :: B8 := fun p hp => by
                      rw [hB8]
                      (first | (refine sub_use hp ?_; (repeat' (first | exact sub_self | exact sub_nil | exact List.mem_cons_self .. | refine List.mem_cons_of_mem _ ?_ | refine sub_cons ?_ ?_ | refine sub_app ?_ ?_ | exact sub_inl | refine sub_skip ?_ | refine sub_right ?_ | refine List.mem_append_right _ ?_)); done) | (simp only [List.mem_cons] at hp ⊢; grind))
                    have off6 : ∀ p ∈ (I, oI) :: (lp, listO pl 0) :: (L' + 1 + 1, oP9) :: (L' + 1 + 1 + 1, oC8) :: (S6, lst yw) :: (usedL ++ Bd), p.1 ≠ U := fun p hp => by
                      have hp6 := sub6 p hp
                      simp only [List.mem_cons, List.mem_append] at hp
                      rcases hp with h | h | h | h | h | h | h
                      · rw [h]; exact Ne.symm (offI (U, lst us) (by first | ((repeat (first | exact List.mem_cons_self .. | assumption | refine List.mem_cons_of_mem _ ?_ | exact List.mem_append_left _ (by assumption) | refine List.mem_append_right _ ?_)); done) | simp))
                      · rw [h]; exact hlU
                      · rw [h] at hp6 ⊢; exact news_apart N6 hp6 hlm (fun q => by rw [q] at d9; cases d9)
                      · rw [h] at hp6 ⊢; exact news_apart N6 hp6 hlm (fun q => by rw [q] at dC8; cases dC8)
                      · rw [h]; exact Ne.symm (off1_mem o6 (U, lst us) (by rw [hB8]; first | ((repeat (first | exact List.mem_cons_self .. | assumption | refine List.mem_cons_of_mem _ ?_ | exact List.mem_append_left _ (by assumption) | refine List.mem_append_right _ ?_)); done) | simp))
                      · exact hUne p h
                      · exact hBU p h
                    refine append_led _ F6 N6 hlm sub6 off6 (by rw [usedC_len hus]; omega) ?_
                    intro h12 F12 N12
                    k_steps
                    have hr8 : r = pl.drop (j + 1) := by
                      have e1 := congrArg List.tail hr
                      rw [List.tail_drop] at e1
                      exact e1
                    have hI8 : (I, oI) ∈ B8 := by rw [hB8]; first | ((repeat (first | exact List.mem_cons_self .. | assumption | refine List.mem_cons_of_mem _ ?_ | exact List.mem_append_left _ (by assumption) | refine List.mem_append_right _ ?_)); done) | simp
                    have fin12 : News g' L' h12 ((I, oI) :: (lp, listO pl 0) :: (U, lst (us ++ [.ref S6])) :: (L' + 1 + 1, oP9) :: (L' + 1 + 1 + 1, oC8) :: (((S6, listO yw yw.length) :: usedL) ++ Bd)) := fun p hp => N12 p (by
                      (first | (refine sub_use hp ?_; (repeat' (first | exact sub_self | exact sub_nil | exact List.mem_cons_self .. | refine List.mem_cons_of_mem _ ?_ | refine sub_cons ?_ ?_ | refine sub_app ?_ ?_ | exact sub_inl | refine sub_skip ?_ | refine sub_right ?_ | refine List.mem_append_right _ ?_)); done) | (simp only [List.mem_cons, List.cons_append] at hp ⊢; grind)))
                    refine ⟨rfl, h12, _, _, _, rfl, F12, fin12, ?_, j + 1, us ++ [.ref S6], (S6, listO yw yw.length) :: usedL, oP9, oC8, hj3, hr8, ⟨ta, tb, tc, hpl4⟩, hmr, hmu, ⟨_, d9⟩, ⟨_, dC8⟩, ⟨us, usedL, S6, yw, yw.length, rfl, rfl, hus, hyw⟩, ?_, hlU, rfl⟩
                    · intro p hp
                      simp only [List.mem_cons, List.cons_append, List.mem_append] at hp
                      rcases hp with h | h | h | h | h | h | h
                      · rw [h]; exact offI (lp, listO pl 0) (by first | ((repeat (first | exact List.mem_cons_self .. | assumption | refine List.mem_cons_of_mem _ ?_ | exact List.mem_append_left _ (by assumption) | refine List.mem_append_right _ ?_)); done) | simp)
                      · rw [h]; exact offI (U, lst us) (by first | ((repeat (first | exact List.mem_cons_self .. | assumption | refine List.mem_cons_of_mem _ ?_ | exact List.mem_append_left _ (by assumption) | refine List.mem_append_right _ ?_)); done) | simp)
                      · rw [h]; exact offI (L' + 1 + 1, oP4) (by first | ((repeat (first | exact List.mem_cons_self .. | assumption | refine List.mem_cons_of_mem _ ?_ | exact List.mem_append_left _ (by assumption) | refine List.mem_append_right _ ?_)); done) | simp)
                      · rw [h]; exact offI (L' + 1 + 1 + 1, oC4) (by first | ((repeat (first | exact List.mem_cons_self .. | assumption | refine List.mem_cons_of_mem _ ?_ | exact List.mem_append_left _ (by assumption) | refine List.mem_append_right _ ?_)); done) | simp)
                      · rw [h]; exact Ne.symm (off1_mem o6 _ hI8)
                      · exact offI p (by simp only [List.mem_cons, List.mem_append]; grind)
                      · exact offI p (by simp only [List.mem_cons, List.mem_append]; grind)
                    · intro p hp
                      rcases List.mem_cons.mp hp with h | hp
                      · rw [h]; exact off6 (S6, lst yw) (by first | ((repeat (first | exact List.mem_cons_self .. | assumption | refine List.mem_cons_of_mem _ ?_ | exact List.mem_append_left _ (by assumption) | refine List.mem_append_right _ ?_)); done) | simp)
                      · exact hUne p hp
        case st3 =>
          rintro ax kk its i v I oI C3 oC3 D m2 ys3 news sx E3 hi hv ⟨sm, hsm, hperm, hpw, objs3, rfl, hdr, hpl3⟩ hNs hm2 Fx Nx off3 ne3
          obtain ⟨mk, tmk, hmk, rfl⟩ := ints_get hsm (by simpa using hv)
          have hNR : (L' + 1, oN6) ∈ objs3 ++ (ax, ({ cls := .type "list", data := .seq its kk } : Obj)) :: (L' + 1 + 1, oP) :: Rm := by rw [hRm]; first | ((repeat (first | exact List.mem_cons_self .. | assumption | refine List.mem_cons_of_mem _ ?_ | exact List.mem_append_left _ (by assumption) | refine List.mem_append_right _ ?_)); done) | simp
          have hm12 := fm12 mk
          have hci : cs[(mk.fmod 12).toNat]? = some (cs.getD (mk.fmod 12).toNat 0) := by
            rw [List.getD_eq_getElem?_getD, List.getElem?_eq_getElem (by omega)]; rfl
          obtain ⟨Dn, ln, tn, ta, tb, tc, hy, hDn, hln⟩ := names_get hnm hci
          k_steps
          unfold Stop
          have hR9 : ∀ p ∈ Rm, p ∈ (I, oI) :: (C3, oC3) :: (D, lst ys3) :: (objs3 ++ (ax, ({ cls := .type "list", data := .seq its kk } : Obj)) :: (L' + 1 + 1, oP) :: Rm) := fun p hp => by simp [hp]
          have hD9 : (D5, lst ys) ∈ Rm := by rw [hRm]; first | ((repeat (first | exact List.mem_cons_self .. | assumption | refine List.mem_cons_of_mem _ ?_ | exact List.mem_append_left _ (by assumption) | refine List.mem_append_right _ ?_)); done) | simp
          have ho9 : ∀ p ∈ objs, p ∈ Rm := fun p hp => by rw [hRm]; first | ((repeat (first | exact List.mem_cons_self .. | assumption | refine List.mem_cons_of_mem _ ?_ | exact List.mem_append_left _ (by assumption) | refine List.mem_append_right _ ?_)); done) | simp [hp]
          refine tail_any (PySem.Heap.IsList.typeIs ⟨_, (Nx (D5, lst ys) (hR9 _ hD9)).1, rfl, _, rfl⟩) slot_list_getitem.lookup (wpAny_getItem_list (items := ys.toArray) ⟨_, (Nx (D5, lst ys) (hR9 _ hD9)).1, rfl, _, rfl⟩ hm12.1 (by omega) (by simpa using hy) ?_) (by with_unfolding_all rfl)
          k_steps
          unfold Stop
          refine item_tup0 (Nx (Dn, nameTup (nmOf (cs.getD (mk.fmod 12).toNat 0)) tn ln) (hR9 _ (ho9 _ hDn))).1 ?_ (by with_unfolding_all rfl)
          k_steps
          show EltEnd _ _ _ _ _ _ _ _ _ _ _ _ _
          rename_i T1 hT1 FT NT lT
          have NT' : News g' L' hT1 ((T1, ({ cls := .type "tuple", data := .seq #[.str (rowD cs mk).1 tn, .str (rowD cs mk).2 t9] 0 } : Obj)) :: (I, oI) :: (C3, oC3) :: (D, lst ys3) :: (objs3 ++ (ax, ({ cls := .type "list", data := .seq its kk } : Obj)) :: (L' + 1 + 1, oP) :: Rm)) := NT
          refine ⟨_, _, (T1, { cls := .type "tuple", data := .seq #[.str (rowD cs mk).1 tn, .str (rowD cs mk).2 t9] 0 }) :: (objs3 ++ (ax, ({ cls := .type "list", data := .seq its kk } : Obj)) :: (L' + 1 + 1, oP) :: Rm), rfl, FT, fun p hp => NT' p (by (first | (refine sub_use hp ?_; (repeat' (first | exact sub_self | exact sub_nil | exact List.mem_cons_self .. | refine List.mem_cons_of_mem _ ?_ | refine sub_cons ?_ ?_ | refine sub_app ?_ ?_ | exact sub_inl | refine sub_skip ?_ | refine sub_right ?_ | refine List.mem_append_right _ ?_)); done) | (simp only [List.mem_cons] at hp ⊢; grind))), ⟨⟨Nat.ne_of_gt lT.1, Nat.ne_of_gt lT.2.1, Nat.ne_of_gt lT.2.2.1⟩, off3⟩, sm, hsm, hperm, hpw, (T1, { cls := .type "tuple", data := .seq #[.str (rowD cs mk).1 tn, .str (rowD cs mk).2 t9] 0 }) :: objs3, rfl, ?_, ?_⟩
          · rw [List.take_add_one, hmk]
            exact Paired.snoc (DRows.mono hdr fun p hp => List.mem_cons_of_mem _ hp) ⟨T1, tn, t9, rfl, List.mem_cons_self ..⟩
          · intro p hp
            rcases List.mem_cons.mp hp with h | hp
            · rw [h]; exact fun _ h => nomatch h
            · exact hpl3 p hp
end
end Mine
end
section
open PySem PySem.W PyProof.Rows PySem.Calls
set_option Elab.async false
set_option maxRecDepth 100000
set_option maxHeartbeats 8000000
set_option linter.unusedVariables false
namespace Mine
open PyProof.Rows.LCg
/-- while the cells are gathered -/
def CeInv (G M : Addr) (Bs : List (Addr × Obj)) (i : Nat) (m : Str → Option Value) (news : List (Addr × Obj)) : Prop :=
  ∃ cs cvs, m "given" = some (.ref G) ∧ m "cells" = some (.ref M) ∧ news = (M, lst cvs) :: Bs ∧ IntsP cs cvs ∧ cs.length = i
/-- while the items of one cell are gathered -/
def ItInv (Bs : List (Addr × Obj)) (i : Nat) (ys : List Value) (news : List (Addr × Obj)) : Prop := news = Bs ∧ ∃ zs, IntsP zs ys
theorem rng12 (a b : Int) (ha : 0 ≤ a) (ha' : a ≤ 63) (hb : 0 ≤ b) (hb' : b ≤ 63) : ∃ n : Nat, Builtin.Range.rangeSize a b 12 = (n : Int) ∧ n ≤ 63 ∧ (∀ j : Nat, j < n → a + (j : Int) * 12 < b) ∧ Builtin.Range.small a b 12 = true := by
  obtain ⟨n, hn, h63, hj⟩ : ∃ n : Nat, Builtin.Range.rangeSize a b 12 = (n : Int) ∧ n ≤ 63 ∧ (∀ j : Nat, j < n → a + (j : Int) * 12 < b) := by
    unfold Builtin.Range.rangeSize
    rw [if_pos (by decide)]
    by_cases h : a < b
    · rw [if_pos h]
      exact ⟨((b - a - 1) / 12 + 1).toNat, by omega, by omega, fun j hj => by omega⟩
    · rw [if_neg h]
      exact ⟨0, rfl, by omega, fun j hj => absurd hj (Nat.not_lt_zero _)⟩
  refine ⟨n, hn, h63, hj, ?_⟩
  unfold Builtin.Range.small
  rw [hn]
  have f : ∀ x : Int, -1000 ≤ x → x ≤ 1000 → Builtin.Range.rangeFitsLong x = true := fun x h1 h2 => by
    unfold Builtin.Range.rangeFitsLong
    simp
    omega
  rw [f a (by omega) (by omega), f b (by omega) (by omega), f 12 (by decide) (by decide), f n (by omega) (by omega), if_pos (by decide), f (b + (12 - 1)) (by omega) (by omega)]
  simp
section
theorem cells_tells (w : World) (sl : Addr) (sv : List Value) (ns : List Int) (hns : IntsAre sv ns) (hlen : sv.length ≤ 63) : Tells 1 w 225 [.ref sl] (fun h => h.IsList sl sv.toArray) (fun r tl => ∃ C cs cvs, r = .ref C ∧ tl = [(C, lst cvs)] ∧ IntsP cs cvs ∧ cs.length = 12) := by
  k_with_none
  k_with "eval Name" => (k_here; k_dflt (refine' nameX_C ?zqN ?zqc ?zqm ?zqd ?_ ?zqa ?zqb; (case zqa => rfl); (case zqb => rfl); (case zqN => k_asm); (case zqc => rfl); (case zqm => ((repeat (first | assumption | exact List.mem_cons_self .. | exact List.mem_append_right _ (by assumption) | apply List.mem_cons_of_mem)); done)); (case zqd => k_asm); k_whole))
  k_with "eval Name" => (k_here; k_dflt (refine LCgL.ld_own (by k_asm) (List.mem_cons_of_mem _ (List.mem_cons_self ..)) (by assumption) (by assumption) ?_))
  k_with "eval Name" => (k_here; k_dflt (refine' name_cellG ?zqN ?zqk ?zqx ?zqc ?zqm ?zqd ?zqb ?_; (case zqk => rfl); (case zqx => rfl); (case zqb => decide); (case zqc => rfl); (case zqN => k_asm); (case zqm => ((repeat (first | assumption | exact List.mem_cons_self .. | apply List.mem_cons_of_mem)); done)); (case zqd => k_asm); k_whole))
  k_with "call builtin:len" => (k_here; refine Stop.mk ?_)
  k_with "eval Name" => (k_here; k_dflt (refine' nameX_L ?zqqF ?zqqv ?_ ?zqqa ?zqqb; (case zqqF => k_asm); (case zqqa => rfl); (case zqqb => rfl); (case zqqv => (repeat (first | (with_reducible exact hmG) | (with_reducible exact hmM) | exact if_pos rfl | refine (if_neg (by decide)).trans ?_)); done); k_whole))
  k_with "exec For Name Call cons nil" => (k_here; refine Stop.mk ?_)
  k_with "eval ListComp" => (k_here; refine Stop.mk ?_)
  k_with "subscriptTail" => (k_here; refine Stop.mk ?_)
  k_with "getMethod ref" => (k_here; (with_reducible show wpAny _ _ (getMethod (Value.ref _) (PySem.Str.ofString "append") _) _ _ _); k_dflt (refine' listMethod_K ?zqN ?zqm PySem.F.slot_list_append PySem.F.type_list_append ?_; (case zqN => k_asm); (case zqm => exact hlm)))
  k_with "call builtin:list.append" => (k_here; refine Stop.mk ?_)
  k_with "call builtin:sum" => (k_here; refine Stop.mk ?_)
  unfold Tells
  k_fill
  intro mean mg mb dp un gd cn cs a ccd cl outer A₀ base h₀ L m s Q E B F X T hk hd hu hpre hret
  have N : News h₀ L s.heap [] := news_nil
  refine wpAny_call ?_
  k_dflt (refine' code_cellsG ?k1 ?k2 ?k3 ?k4 ?k5 ?kA ?kF ?kK ?k6 ?k7 ?k8 ?k9 ?kB ?kC ?_ ?c2 ?c3 ?c4; (case kA => exact rfl); (case kF => exact rfl); (case kK => assumption); (case k1 => k_asm); (case k2 => k_asm); (case k3 => k_asm); (case k4 => k_asm); (case k5 => k_asm); (case k6 => k_is); (case k7 => k_is); (case k8 => exact Nat.lt_of_le_of_lt (Nat.le_trans (Nat.le_add_right _ _) hd) (by decide)); (case k9 => exact BindsTo.of_eq rfl); (case kB => exact rfl); (case kC => decide +kernel); (case c2 => exact rfl); (case c3 => exact rfl); (case c4 => exact rfl); k_whole; intro g' L' h' tk' cells' FG' F' N' Y' B' X' T' l1 kG'; clear l1; k_cells Y'; (try simp only [List.cons_append, List.nil_append, List.append_nil] at N'); (try dsimp only); (try k_lift B'); (try k_fold))
  have hsl : g'.IsList sl sv.toArray := hpre.at fun o e => kG' _ _ e (fun h => nomatch h)
  k_steps
  rename_i oS dS0 G hh1 lG hh2 tk2 M hh3 lM hh4 F4 N4
  unfold Stop
  have dS : oS.data = .cell (some (.ref sl)) := dS0
  obtain ⟨gv, hgv⟩ : ∃ gv : List Value, gv = [Value.int 25 tk', Value.int 9 (tk' + 1), Value.int 0 (tk' + 1 + 1), Value.int 22 (tk' + 1 + 1 + 1), Value.int 5 (tk' + 1 + 1 + 1 + 1), Value.int 1985 (tk' + 1 + 1 + 1 + 1 + 1), Value.int 977 (tk' + 1 + 1 + 1 + 1 + 1 + 1), Value.int 7559 (tk' + 1 + 1 + 1 + 1 + 1 + 1 + 1), Value.int 378 (tk' + 1 + 1 + 1 + 1 + 1 + 1 + 1 + 1), Value.int 2199 (tk' + 1 + 1 + 1 + 1 + 1 + 1 + 1 + 1 + 1), Value.int 17 (tk' + 1 + 1 + 1 + 1 + 1 + 1 + 1 + 1 + 1 + 1), Value.int 37 (tk' + 1 + 1 + 1 + 1 + 1 + 1 + 1 + 1 + 1 + 1 + 1)] := ⟨_, rfl⟩
  have N5 : News g' L' hh4 [(M, lst []), (G, listO gv 0), (L' + 1, oS)] := by rw [hgv]; exact N4
  have hgl : gv.length = 12 := by rw [hgv]; rfl
  have hgi : ∃ gs, IntsP gs gv := ⟨[25, 9, 0, 22, 5, 1985, 977, 7559, 378, 2199, 17, 37], by rw [hgv]; exact .cons ⟨_, rfl⟩ (.cons ⟨_, rfl⟩ (.cons ⟨_, rfl⟩ (.cons ⟨_, rfl⟩ (.cons ⟨_, rfl⟩ (.cons ⟨_, rfl⟩ (.cons ⟨_, rfl⟩ (.cons ⟨_, rfl⟩ (.cons ⟨_, rfl⟩ (.cons ⟨_, rfl⟩ (.cons ⟨_, rfl⟩ (.cons ⟨_, rfl⟩ .nil)))))))))))⟩
  clear N4 hgv
  obtain ⟨gs, hgi⟩ := hgi
  have hGM : G ≠ M := Nat.ne_of_lt lM.1
  have hSM : L' + 1 ≠ M := Nat.ne_of_lt lM.2
  with_unfolding_all refine For_rng (h₀ := g') (L := L') 12 (CeInv G M [(G, listO gv 0), (L' + 1, oS)]) rfl ?st1 ?src1
  case src1 =>
    k_steps
    unfold Stop
    refine kun_lenL (items := gv.toArray) (k := 12) ⟨_, (N5 (G, listO gv 0) (by simp)).1, rfl, _, rfl⟩ (by simp [hgl]) (by decide) ?_
    k_steps
    rename IsRange _ _ _ _ _ _ _ _ => rg
    refine ⟨_, _, _, _, _, _, rfl, by k_asm, by k_asm, rg, by decide, by rfl, ⟨[], [], ?_, if_pos rfl, rfl, Paired.nil, rfl⟩, ?_⟩
    · exact (if_neg (by decide)).trans (if_pos rfl)
    rintro m3 news3 h3 tk3 ⟨cs, cvs, hmG, hmM, rfl, hcv, hcl⟩ F3 N3
    k_steps
    have hs1 : ∀ p ∈ [(M, lst cvs)], p ∈ [(M, lst cvs), (G, listO gv 0), (L' + 1, oS)] := by simp
    exact hret _ _ _ _ (by k_asm) (keeps_of kG' F3) (news_out F kG' N3 hs1) (fresh_of kG' N3 hs1) ⟨M, cs, cvs, rfl, rfl, hcv, hcl⟩
  case st1 =>
    rintro i t m2 news I oI sx E2 hi ⟨cs, cvs, hmG, hmM, rfl, hcv, hcl⟩ hcI hoI Fx Nx offI
    refine wpAny_assign_Name (storeX_L Fx Nx (fun h3 F3 N3 => ?_))
    have hlm : (M, lst cvs) ∈ [(I, oI), (M, lst cvs), (G, listO gv 0), (L' + 1, oS)] := by simp
    k_steps
    unfold Stop
    obtain ⟨gx, hgx⟩ : ∃ v, gv[i]? = some v := ⟨_, List.getElem?_eq_getElem (by omega)⟩
    obtain ⟨gc, gt, hgc, rfl⟩ := ints_get hgi hgx
    have nG := (N3 (G, listO gv 0) (by simp)).1
    refine tail_any (PySem.Heap.IsList.typeIs ⟨_, nG, rfl, _, rfl⟩) slot_list_getitem.lookup (wpAny_getItem_list (items := gv.toArray) ⟨_, nG, rfl, _, rfl⟩ (Int.natCast_nonneg i) (by omega) (by simpa using hgx) ?_) (by with_unfolding_all rfl)
    obtain ⟨n, hrf⟩ : ∃ n : Nat, Stop (Builtin.Range.rangeSize (i : Int) (sv.length : Int) 12 = (n : Int) ∧ n ≤ 63 ∧ (∀ j : Nat, j < n → (i : Int) + (j : Int) * 12 < (sv.length : Int)) ∧ Builtin.Range.small (i : Int) (sv.length : Int) 12 = true) := rng12 (i : Int) (sv.length : Int) (by omega) (by omega) (by omega) (by omega)
    have hn63 : n ≤ 63 := hrf.2.1
    k_steps
    unfold Stop
    with_unfolding_all refine ListComp_step (h₀ := g') (L := L') (i : Int) (sv.length : Int) 12 n (ItInv [(I, oI), (M, lst cvs), (G, listO gv 0), (L' + 1, oS)]) F3 rfl (by with_unfolding_all rfl) (by decide) rfl (by decide) rfl (by omega) ?st2 ?src2
    case st2 =>
      rintro j t2 I3 oI3 C3 oC3 D m3 ys news sx3 E3 hj ⟨rfl, zs, hz⟩ hNs hm3 Fx3 Nx3 off3 ne3
      k_steps
      unfold Stop
      have hjb := hrf.2.2.1 j hj
      obtain ⟨sx, hsx⟩ : ∃ v, sv[((i : Int) + (j : Int) * 12).toNat]? = some v := ⟨_, List.getElem?_eq_getElem (by omega)⟩
      obtain ⟨sc, st, hsc, rfl⟩ := ints_get (of_are hns) hsx
      have hsl3 := hsl.at fun o e => Fx3.keep _ _ e
      refine tail_any hsl3.typeIs slot_list_getitem.lookup (wpAny_getItem_list (items := sv.toArray) hsl3 (by omega) (by omega) (by simpa using hsx) ?_) (by with_unfolding_all rfl)
      show EltEnd _ _ _ _ _ _ _ _ _ _ _ _ _
      exact ⟨_, _, _, rfl, Fx3, Nx3, off3, rfl, zs ++ [sc], Paired.snoc hz ⟨_, rfl⟩⟩
    case src2 =>
      k_steps
      unfold Stop
      refine kun_lenL (items := sv.toArray) (k := (sv.length : Int)) (hsl.at fun o e => F3.keep _ _ e) (by simp) (by omega) ?_
      dsimp only
      k_steps
      unfold Stop
      refine kun_lenL (items := gv.toArray) (k := 12) ⟨_, nG, rfl, _, rfl⟩ (by simp [hgl]) (by decide) ?_
      k_steps
      rename IsRange _ _ _ _ _ _ _ _ => rg
      refine ⟨_, _, _, _, _, rfl, by k_asm, by k_asm, rg, hrf.2.2.2, hrf.1, ⟨rfl, [], Paired.nil⟩, ?_⟩
      rintro D h5 tk5 ys news5 F5 N5' o5 ⟨rfl, zs, hz⟩
      k_steps
      unfold Stop
      refine sumK rfl F5 N5' (vs := ys) ⟨_, (N5' (D, lst ys) (List.mem_cons_self ..)).1, rfl, _, rfl⟩ (ints_are hz) ?_
      intro h6 tk6 t6 F6 N6
      have N7 : News g' L' h6 [(I, oI), (M, lst cvs), (G, listO gv 0), (L' + 1, oS)] := fun p hp => N6 p (List.mem_cons_of_mem _ hp)
      clear N6 N5' F5
      k_steps
      unfold Stop
      refine append_led [(I, oI), (G, listO gv 0), (L' + 1, oS)] (by k_asm) N7 hlm (by intro p hp; (first | (refine sub_use hp ?_; (repeat' (first | exact sub_self | exact sub_nil | exact List.mem_cons_self .. | refine List.mem_cons_of_mem _ ?_ | refine sub_cons ?_ ?_ | refine sub_app ?_ ?_ | exact sub_inl | refine sub_skip ?_ | refine sub_right ?_ | refine List.mem_append_right _ ?_)); done) | (simp only [List.mem_cons] at hp ⊢; grind))) ?offM ?lenM ?_
      case offM =>
        intro p hp
        simp only [List.mem_cons, List.not_mem_nil, or_false] at hp
        rcases hp with h | h | h
        · rw [h]; exact Ne.symm (offI (M, lst cvs) (by simp))
        · rw [h]; exact hGM
        · rw [h]; exact hSM
      case lenM =>
        rw [← Paired.length hcv]; omega
      intro h11 F11 N11
      k_steps
      refine ⟨rfl, h11, _, _, _, rfl, F11, news_swap N11, ?_, cs ++ [gc + zs.sum], _, ?_, ?_, rfl, Paired.snoc hcv ⟨_, rfl⟩, ?_⟩
      · intro p hp
        simp only [List.mem_cons, List.not_mem_nil, or_false] at hp
        rcases hp with h | h | h
        · rw [h]; exact offI (M, lst cvs) (by simp)
        · rw [h]; exact offI (G, listO gv 0) (by simp)
        · rw [h]; exact offI (L' + 1, oS) (by simp)
      · exact (if_neg (by decide)).trans hmG
      · exact (if_neg (by decide)).trans hmM
      · rw [List.length_append, hcl]; rfl
end
end Mine
end
section
open PySem PySem.W PyProof.Rows PySem.Calls
set_option Elab.async false
set_option maxRecDepth 100000
set_option maxHeartbeats 8000000
set_option linter.unusedVariables false
namespace Mine
theorem hd4_mod (i : Int) : hd4 i % 32 = 0 ∧ 0 ≤ hd4 i := by
  unfold hd4
  have h : i.fmod 4 = 0 ∨ i.fmod 4 = 1 ∨ i.fmod 4 = 2 ∨ i.fmod 4 = 3 := by
    rw [Int.fmod_eq_emod_of_nonneg _ (by decide)]; omega
  rcases h with h | h | h | h <;> rw [h] <;> decide
theorem dig1_range (r : Int) : 0 ≤ dig1 r ∧ dig1 r < 32 := by
  unfold dig1
  split
  · exact fm32 _
  · exact fm4 _
theorem sgn_mod (r : Int) : (((hd4 (r.fdiv 4) + dig1 r).toNat % 32 : Nat) : Int) = dig1 r := by
  have h1 := hd4_mod (r.fdiv 4)
  have h2 := dig1_range r
  omega
theorem signAt_lt (p : Nat) (l : List Nat) (h : p < l.length) : signAt p ⟨l.toArray⟩ = l[p] := by
  unfold signAt
  rw [dif_pos (by simpa using h)]
  simp
theorem signAt_ge (p : Nat) (l : List Nat) (h : l.length ≤ p) : signAt p ⟨l.toArray⟩ = 64 := by
  unfold signAt
  rw [dif_neg (by simpa using h)]
def sv (r : Int) : Nat := (hd4 (r.fdiv 4) + dig1 r).toNat
theorem nm_form (c : Int) : nmOf c = ⟨(match (c.fmod 4).toNat with
  | 0 => []
  | 1 => [sv (c.fdiv 4)]
  | 2 => [sv (c.fdiv 4), sv (nxt (c.fdiv 4))]
  | _ => [sv (c.fdiv 4), sv (nxt (c.fdiv 4)), sv (nxt (nxt (c.fdiv 4)))] : List Nat).toArray⟩ := by
  unfold nmOf
  split <;> first | rfl | (simp only [*]; done) | (simp only [*]; rfl)
theorem sign_dg (c : Int) (i : Nat) : ((signAt i (nmOf c) % 32 : Nat) : Int) = dg c i := by
  have h4 := fm4_4 c
  have h0 := (fm4 c).1
  rw [nm_form]
  have hn : (c.fmod 4).toNat = 0 ∨ (c.fmod 4).toNat = 1 ∨ (c.fmod 4).toNat = 2 ∨ (c.fmod 4).toNat = 3 := by omega
  unfold dg
  rcases hn with h | h | h | h <;> rw [h]
  · rw [signAt_ge _ _ (Nat.zero_le _)]
    rfl
  · match i with
    | 0 => rw [signAt_lt _ _ (by simp)]; exact sgn_mod _
    | i + 1 => rw [signAt_ge _ _ (by simp)]; rfl
  · match i with
    | 0 => rw [signAt_lt _ _ (by simp)]; exact sgn_mod _
    | 1 => rw [signAt_lt _ _ (by simp)]; exact sgn_mod _
    | i + 2 => rw [signAt_ge _ _ (by simp)]; rfl
  · match i with
    | 0 => rw [signAt_lt _ _ (by simp)]; exact sgn_mod _
    | 1 => rw [signAt_lt _ _ (by simp)]; exact sgn_mod _
    | 2 => rw [signAt_lt _ _ (by simp)]; exact sgn_mod _
    | i + 3 => rw [signAt_ge _ _ (by simp)]; rfl
end Mine
end
section
open PySem PySem.W PyProof.Rows PySem.Calls
set_option Elab.async false
set_option maxRecDepth 100000
set_option maxHeartbeats 8000000
set_option linter.unusedVariables false
namespace Mine
def bucketA {α : Type} (κ : α → Nat) (l : List α) : List α := (List.range 32).flatMap fun d => l.filter fun q => κ q == d
theorem bucketA_pw {α : Type} {κ : α → Nat} {R : α → α → Prop} {l : List α} (h : l.Pairwise R) : (bucketA κ l).Pairwise fun a b => κ a < κ b ∨ (κ a = κ b ∧ R a b) := by
  unfold bucketA
  rw [List.pairwise_flatMap]
  refine ⟨fun d _ => ?_, ?_⟩
  · have := h.filter (fun q => κ q == d)
    refine this.imp_of_mem fun {a b} ha hb hab => .inr ⟨?_, hab⟩
    have e1 : κ a = d := by simpa using (List.mem_filter.mp ha).2
    have e2 : κ b = d := by simpa using (List.mem_filter.mp hb).2
    rw [e1, e2]
  · refine (List.pairwise_lt_range (n := 32)).imp fun {d d'} hd x hx y hy => .inl ?_
    have e1 : κ x = d := by simpa using (List.mem_filter.mp hx).2
    have e2 : κ y = d' := by simpa using (List.mem_filter.mp hy).2
    rw [e1, e2]; exact hd
theorem bucketA_map {α β : Type} (f : α → β) (κ : β → Nat) (l : List α) : (bucketA (fun a => κ (f a)) l).map f = bucketA κ (l.map f) := by
  unfold bucketA
  rw [List.map_flatMap]
  congr 1
  funext d
  rw [List.filter_map]
  rfl
theorem bucketA_perm {α : Type} (κ : α → Nat) (hκ : ∀ a, κ a < 32) (l : List α) : (bucketA κ l).Perm l := by
  have aux : ∀ n, ((List.range n).flatMap fun d => l.filter fun q => κ q == d).Perm (l.filter fun q => decide (κ q < n)) := by
    intro n
    induction n with
    | zero =>
      have : (l.filter fun q => decide (κ q < 0)) = [] := List.filter_eq_nil_iff.mpr fun q _ h => by simp at h
      rw [this]
      exact List.Perm.refl _
    | succ n ih =>
      rw [List.range_succ, List.flatMap_append]
      refine (List.Perm.append_right _ ih).trans ?_
      have h := List.filter_append_perm (fun q => decide (κ q < n)) (l.filter fun q => decide (κ q < n + 1))
      rw [List.filter_filter, List.filter_filter] at h
      have e1 : (l.filter fun q => decide (κ q < n) && decide (κ q < n + 1)) = l.filter fun q => decide (κ q < n) := List.filter_congr fun q _ => by
        by_cases h : κ q < n
        · simp [h, Nat.lt_succ_of_lt h]
        · simp [h]
      have e2 : (l.filter fun q => !decide (κ q < n) && decide (κ q < n + 1)) = l.filter fun q => κ q == n := List.filter_congr fun q _ => by
        by_cases h : κ q = n
        · simp [h]
        · have : (κ q == n) = false := by simpa using h
          rw [this]
          by_cases h2 : κ q < n
          · simp [h2]
          · have : ¬ κ q < n + 1 := by omega
            simp [this]
      rw [e1, e2] at h
      simpa using h
  refine (aux 32).trans ?_
  have : (l.filter fun q => decide (κ q < 32)) = l := List.filter_eq_self.mpr fun q _ => decide_eq_true (hκ q)
  rw [this]
theorem eq_of_sorted : ∀ {l1 l2 : List Int}, l1.Perm l2 → l1.Pairwise (· ≤ ·) → l2.Pairwise (· ≤ ·) → l1 = l2
  | [], [], _, _, _ => rfl
  | [], b :: r, h, _, _ => absurd h.length_eq (by simp)
  | a :: r, [], h, _, _ => absurd h.length_eq (by simp)
  | a :: r1, b :: r2, h, h1, h2 => by
    have p1 := List.pairwise_cons.mp h1
    have p2 := List.pairwise_cons.mp h2
    have e : a = b := by
      have ha := h.mem_iff.mp (List.mem_cons_self (a := a) (l := r1))
      have hb := h.mem_iff.mpr (List.mem_cons_self (a := b) (l := r2))
      rcases List.mem_cons.mp ha with e | e
      · exact e
      · rcases List.mem_cons.mp hb with e' | e'
        · exact e'.symm
        · have := p1.1 b e'
          have := p2.1 a e
          omega
    subst e
    rw [eq_of_sorted (List.Perm.cons_inv h) p1.2 p2.2]
/-- the pairs that the law parses -/
def RS (cs : List Int) (rs : List PR) : Prop := rs.length = cs.length ∧ ∀ (i : Nat) (q : PR) (c : Int), rs[i]? = some q → cs[i]? = some c → q.nm = nmOf c ∧ q.vl = valueOf (i : Int)
def orderA (z : List (PR × Nat)) : List (PR × Nat) := bucketA (fun a => kap 0 a.1) (bucketA (fun a => kap 1 a.1) (bucketA (fun a => kap 2 a.1) z))
theorem orderA_map (z : List (PR × Nat)) : (orderA z).map Prod.fst = order (z.map Prod.fst) 3 := by
  unfold orderA
  rw [bucketA_map Prod.fst (kap 0), bucketA_map Prod.fst (kap 1), bucketA_map Prod.fst (kap 2)]
  rfl
theorem kap_lt (p : Nat) (q : PR) : kap p q < 32 := Nat.mod_lt _ (by decide)
theorem orderA_perm (z : List (PR × Nat)) : (orderA z).Perm z :=
  (bucketA_perm (fun a : PR × Nat => kap 0 a.1) (fun a => kap_lt 0 a.1) _).trans ((bucketA_perm (fun a : PR × Nat => kap 1 a.1) (fun a => kap_lt 1 a.1) _).trans (bucketA_perm (fun a : PR × Nat => kap 2 a.1) (fun a => kap_lt 2 a.1) _))
def mkA (a : PR × Nat) : Int := ((32 * (kap 0 a.1 : Int) + (kap 1 a.1 : Int)) * 32 + (kap 2 a.1 : Int)) * 12 + a.2
theorem orderA_sorted {z : List (PR × Nat)} (hz : z.Pairwise fun a b => a.2 < b.2) (h12 : ∀ a ∈ z, a.2 < 12) : ((orderA z).map mkA).Pairwise (· ≤ ·) := by
  rw [List.pairwise_map]
  have h := bucketA_pw (κ := fun a : PR × Nat => kap 0 a.1) (bucketA_pw (κ := fun a : PR × Nat => kap 1 a.1) (bucketA_pw (κ := fun a : PR × Nat => kap 2 a.1) hz))
  refine List.Pairwise.imp_of_mem (fun {a b} ha hb hab => ?_) h
  have ha' := h12 a ((orderA_perm z).mem_iff.mp ha)
  have hb' := h12 b ((orderA_perm z).mem_iff.mp hb)
  have k0 := kap_lt 0 a.1
  have k1 := kap_lt 1 a.1
  have k2 := kap_lt 2 a.1
  have l0 := kap_lt 0 b.1
  have l1 := kap_lt 1 b.1
  have l2 := kap_lt 2 b.1
  unfold mkA
  rcases hab with h | ⟨h, h | ⟨h', h | ⟨h'', h⟩⟩⟩ <;> omega
theorem mk_mod (a : PR × Nat) (h : a.2 < 12) : (mkA a).fmod 12 = (a.2 : Int) := by
  unfold mkA
  rw [Int.fmod_eq_emod_of_nonneg _ (by decide)]
  omega
/-- the pairs, sorted by the law's three rounds, are the rows by sorted marks -/
theorem rows_eq {cs ms : List Int} {rs : List PR} (h : RS cs rs) (h12 : cs.length = 12) (hp : ms.Perm (marksOf cs)) (hs : ms.Pairwise (· ≤ ·)) : rowsD (order rs 3) = rowsE cs ms := by
  have hz : rs.zipIdx.map Prod.fst = rs := by simp
  have hmem : ∀ a ∈ rs.zipIdx, rs[a.2]? = some a.1 ∧ a.2 < 12 := fun a ha => by
    have e := List.mem_zipIdx_iff_getElem?.mp ha
    refine ⟨e, ?_⟩
    have := (List.getElem?_eq_some_iff.mp e).1
    rw [h.1, h12] at this
    exact this
  have hdat : ∀ a ∈ rs.zipIdx, ∃ c, cs[a.2]? = some c ∧ a.1.nm = nmOf c ∧ a.1.vl = valueOf (a.2 : Int) := fun a ha => by
    obtain ⟨e, hlt⟩ := hmem a ha
    have hc : cs[a.2]? = some cs[a.2] := List.getElem?_eq_getElem (by omega)
    obtain ⟨h1, h2⟩ := h.2 a.2 a.1 _ e hc
    exact ⟨_, hc, h1, h2⟩
  have hmk : ∀ a ∈ rs.zipIdx, ∃ c, cs[a.2]? = some c ∧ mkA a = markOf c a.2 := fun a ha => by
    obtain ⟨c, hc, h1, _⟩ := hdat a ha
    refine ⟨c, hc, ?_⟩
    unfold mkA markOf kap
    rw [h1, sign_dg, sign_dg, sign_dg]
  have hmarks : rs.zipIdx.map mkA = marksOf cs := by
    apply List.ext_getElem?
    intro i
    rw [List.getElem?_map, List.getElem?_zipIdx]
    by_cases hi : i < rs.length
    · have e1 : rs[i]? = some rs[i] := List.getElem?_eq_getElem hi
      have hm : (rs[i], i) ∈ rs.zipIdx := List.mem_zipIdx_iff_getElem?.mpr e1
      obtain ⟨c, hc, hk⟩ := hmk _ hm
      rw [marks_get hc, e1]
      simpa using hk
    · rw [List.getElem?_eq_none (Nat.le_of_not_lt hi), List.getElem?_eq_none (by rw [marks_len, ← h.1]; omega)]
      rfl
  have hpw : rs.zipIdx.Pairwise fun a b => a.2 < b.2 := by
    rw [List.pairwise_iff_getElem]
    intro i j hi hj hij
    simpa using hij
  have hsort := orderA_sorted hpw (fun a ha => (hmem a ha).2)
  have e : (orderA rs.zipIdx).map mkA = ms := eq_of_sorted (((orderA_perm _).map mkA).trans (hmarks ▸ hp.symm)) hsort hs
  rw [← e]
  unfold rowsE rowsD
  rw [← hz, ← orderA_map, hz, List.map_map, List.map_map]
  refine List.map_congr_left fun a ha => ?_
  have ha' := (orderA_perm _).mem_iff.mp ha
  obtain ⟨c, hc, h1, h2⟩ := hdat a ha'
  have hlt := (hmem a ha').2
  simp only [Function.comp]
  unfold rowD
  rw [mk_mod a hlt, Int.toNat_natCast, List.getD_eq_getElem?_getD, hc, h1, h2]
  rfl
end Mine
end
section
open PySem PySem.W PyProof.Rows PySem.Calls
set_option Elab.async false
set_option maxRecDepth 100000
set_option maxHeartbeats 8000000
set_option linter.unusedVariables false
namespace Mine
theorem digits_col {cs : List Int} {rs : List PR} (h : RS cs rs) (p j : Nat) : digitsOf p (order rs j) = colDigits p cs := by
  unfold digitsOf colDigits
  refine List.filter_congr fun d _ => ?_
  rw [Bool.eq_iff_iff, List.any_eq_true, decide_eq_true_iff]
  have k : ∀ (i : Nat) (q : PR) (c : Int), rs[i]? = some q → cs[i]? = some c → ((kap p q : Nat) : Int) = dg c p := fun i q c h1 h2 => by
    unfold kap
    rw [(h.2 i q c h1 h2).1, sign_dg]
  constructor
  · rintro ⟨q, hq, e⟩
    have hq' := (order_perm rs j).mem_iff.mp hq
    obtain ⟨i, hi, rfl⟩ := List.mem_iff_getElem.mp hq'
    have hc : cs[i]? = some (cs[i]'(h.1 ▸ hi)) := List.getElem?_eq_getElem _
    have hk := k i _ _ (List.getElem?_eq_getElem hi) hc
    have e' : kap p rs[i] = d := by simpa using e
    rw [e'] at hk
    exact List.mem_map.mpr ⟨_, List.mem_of_getElem? hc, hk.symm⟩
  · intro hd
    obtain ⟨c, hc, e⟩ := List.mem_map.mp hd
    obtain ⟨i, hi, rfl⟩ := List.mem_iff_getElem.mp hc
    have hr : rs[i]? = some (rs[i]'(h.1.symm ▸ hi)) := List.getElem?_eq_getElem _
    have hk := k i _ _ hr (List.getElem?_eq_getElem hi)
    refine ⟨_, (order_perm rs j).mem_iff.mpr (List.mem_of_getElem? hr), ?_⟩
    rw [e] at hk
    simpa using Int.ofNat.inj hk
theorem used_eq {cs : List Int} {rs : List PR} (h : RS cs rs) : ∀ j, usedD rs j = usedE cs j
  | 0 => rfl
  | j + 1 => by
    unfold usedD usedE
    rw [used_eq h j, digits_col h]
end Mine
end
section
open PySem PySem.W PyProof.Rows PySem.Calls
set_option Elab.async false
set_option maxRecDepth 100000
set_option maxHeartbeats 8000000
set_option linter.unusedVariables false
namespace Mine
open PySem.SeqAt
theorem cla_of : ∀ {l : List PyData}, (∀ d ∈ l, d.canLay0 = true) → PyData.canLayAll0 l = true
  | [], _ => rfl
  | x :: r, h => by
    rw [PyData.canLayAll0, h x (List.mem_cons_self ..), cla_of fun d hd => h d (List.mem_cons_of_mem _ hd)]
    rfl
theorem dep_of {n : Nat} : ∀ {l : List PyData}, (∀ d ∈ l, d.depth ≤ n) → PyData.depthAll l ≤ n
  | [], _ => Nat.zero_le _
  | x :: r, h => by
    rw [PyData.depthAll]
    exact Nat.max_le.mpr ⟨h x (List.mem_cons_self ..), dep_of fun d hd => h d (List.mem_cons_of_mem _ hd)⟩
theorem sv_small (r : Int) : sv r < 20000 := by
  unfold sv
  have h1 := dig1_range r
  have h2 : hd4 (r.fdiv 4) ≤ 19968 := by
    unfold hd4
    exact (hd4_b _).2
  omega
theorem usedE_lay (cs : List Int) : ∀ j, ∀ d ∈ usedE cs j, d.canLay0 = true ∧ d.depth ≤ 1
  | 0, d, h => nomatch h
  | j + 1, d, h => by
    rcases List.mem_append.mp h with h | h
    · exact usedE_lay cs j d h
    · rw [List.mem_singleton.mp h]
      refine ⟨?_, ?_⟩
      · rw [PyData.canLay0]
        refine cla_of fun d hd => ?_
        obtain ⟨e, he, rfl⟩ := List.mem_map.mp hd
        have hlt : e < 32 := List.mem_range.mp (List.mem_filter.mp he).1
        unfold keyD
        split
        · rfl
        · rw [PyData.canLay0]
          simp [PyData.strOk]
          omega
      · rw [PyData.depth]
        refine Nat.succ_le_succ (dep_of fun d hd => ?_)
        obtain ⟨e, he, rfl⟩ := List.mem_map.mp hd
        unfold keyD
        split <;> exact Nat.zero_le _
theorem nm_ok (c : Int) : PyData.strOk (nmOf c) = true := by
  rw [nm_form]
  have h : ∀ r, sv r < 1114112 := fun r => Nat.lt_trans (sv_small r) (by decide)
  unfold PyData.strOk
  split <;> simp [h]
theorem val_ok (p : Int) (h0 : 0 ≤ p) (h1 : p < 12) : PyData.strOk (valueOf p) = true := by
  have : p = 0 ∨ p = 1 ∨ p = 2 ∨ p = 3 ∨ p = 4 ∨ p = 5 ∨ p = 6 ∨ p = 7 ∨ p = 8 ∨ p = 9 ∨ p = 10 ∨ p = 11 := by omega
  rcases this with rfl | rfl | rfl | rfl | rfl | rfl | rfl | rfl | rfl | rfl | rfl | rfl <;> decide +kernel
theorem rowsE_lay (cs ms : List Int) : ∀ d ∈ rowsE cs ms, d.canLay0 = true ∧ d.depth ≤ 1 := fun d hd => by
  obtain ⟨mk, _, rfl⟩ := List.mem_map.mp hd
  have h := fm12 mk
  unfold rowD
  refine ⟨?_, ?_⟩
  · simp [PyData.canLay0, PyData.canLayAll0, nm_ok, val_ok _ h.1 h.2]
  · simp [PyData.depth, PyData.depthAll]
theorem shaped_due (cs ms : List Int) : PySem.SeqAt.shaped (.tuple [.list (rowsE cs ms), .list (usedE cs 3)]) = true := by
  unfold PySem.SeqAt.shaped
  rw [Bool.and_eq_true]
  refine ⟨?_, decide_eq_true ?_⟩
  · simp only [PyData.canLay0, PyData.canLayAll0, cla_of fun d hd => (rowsE_lay cs ms d hd).1, cla_of fun d hd => (usedE_lay cs 3 d hd).1, Bool.and_self]
  · have h1 := dep_of (n := 1) fun d hd => (rowsE_lay cs ms d hd).2
    have h2 := dep_of (n := 1) fun d hd => (usedE_lay cs 3 d hd).2
    simp only [PyData.depth, PyData.depthAll]
    omega
end Mine
end
section
open PySem PySem.W PyProof.Rows PySem.Calls
set_option Elab.async false
set_option maxRecDepth 100000
set_option maxHeartbeats 8000000
set_option linter.unusedVariables false
namespace Mine
theorem occ_fold (x sub : Str) (hi limit : Nat) : Builtin.Str.occurrences x sub 0 hi limit = ((List.range (hi + 1)).foldl (fun (p : Array Nat × Nat) i => if (decide (p.1.size < limit) && decide (p.2 ≤ i) && decide (i + sub.length ≤ hi) && Builtin.Str.subAt x sub i) = true then (p.1.push i, i + sub.length) else p) (#[], 0)).1.toList := by
  unfold Builtin.Str.occurrences
  simp only [Std.Legacy.Range.forIn_eq_forIn_range', Std.Legacy.Range.size, Nat.sub_zero, Nat.add_sub_cancel, Nat.div_one]
  rw [List.range_eq_range']
  generalize List.range' 0 (hi + 1) = l
  generalize ((#[] : Array Nat), 0) = p0
  have aux : ∀ (l : List Nat) (p0 : Array Nat × Nat), (forIn (m := Id) l p0 fun i __s => if (decide (__s.1.size < limit) && decide (__s.2 ≤ i) && decide (i + sub.length ≤ hi) && Builtin.Str.subAt x sub i) = true then pure (ForInStep.yield (__s.1.push i, i + sub.length)) else pure (ForInStep.yield (__s.1, __s.2))) = pure (l.foldl (fun (p : Array Nat × Nat) i => if (decide (p.1.size < limit) && decide (p.2 ≤ i) && decide (i + sub.length ≤ hi) && Builtin.Str.subAt x sub i) = true then (p.1.push i, i + sub.length) else p) p0) := by
    intro l
    induction l with
    | nil => intro p0; rfl
    | cons a l ih =>
      intro p0
      rw [List.forIn_cons, List.foldl_cons]
      by_cases h : (decide (p0.1.size < limit) && decide (p0.2 ≤ a) && decide (a + sub.length ≤ hi) && Builtin.Str.subAt x sub a) = true
      · rw [if_pos h, if_pos h]
        exact ih _
      · rw [if_neg h, if_neg h]
        exact ih _
  rw [aux]
  rfl
theorem occ_first {x sub : Str} {hi i : Nat} (h1 : i + sub.length ≤ hi) (h : Builtin.Str.subAt x sub i = true) (hno : ∀ j, j < i → Builtin.Str.subAt x sub j = false) : Builtin.Str.occurrences x sub 0 hi 1 = [i] := by
  rw [occ_fold]
  have hsplit : List.range (hi + 1) = List.range i ++ (i :: List.range' (i + 1) (hi - i)) := by
    have e := List.range'_append (s := 0) (m := i) (n := hi - i + 1) (step := 1)
    rw [show i + (hi - i + 1) = hi + 1 by omega, show 0 + 1 * i = i by omega, List.range'_succ] at e
    rw [List.range_eq_range', List.range_eq_range']
    exact e.symm
  rw [hsplit, List.foldl_append, List.foldl_cons]
  have pre : ∀ l : List Nat, (∀ j ∈ l, j < i) → l.foldl (fun (p : Array Nat × Nat) i => if (decide (p.1.size < 1) && decide (p.2 ≤ i) && decide (i + sub.length ≤ hi) && Builtin.Str.subAt x sub i) = true then (p.1.push i, i + sub.length) else p) (#[], 0) = (#[], 0) := by
    intro l
    induction l with
    | nil => intro _; rfl
    | cons a l ih =>
      intro hl
      rw [List.foldl_cons, if_neg (by rw [hno a (hl a (List.mem_cons_self ..))]; simp)]
      exact ih fun j hj => hl j (List.mem_cons_of_mem _ hj)
  rw [pre _ (fun j hj => List.mem_range.mp hj), if_pos (by simp [h, h1])]
  have post : ∀ (l : List Nat) (q : Array Nat × Nat), q.1.size = 1 → l.foldl (fun (p : Array Nat × Nat) i => if (decide (p.1.size < 1) && decide (p.2 ≤ i) && decide (i + sub.length ≤ hi) && Builtin.Str.subAt x sub i) = true then (p.1.push i, i + sub.length) else p) q = q := by
    intro l
    induction l with
    | nil => intro _ _; rfl
    | cons a l ih =>
      intro q hq
      rw [List.foldl_cons, if_neg (by rw [hq]; simp)]
      exact ih q hq
  rw [post _ _ (by simp)]
  simp
end Mine
end
section
open PySem PySem.W PyProof.Rows PySem.Calls
set_option Elab.async false
set_option maxRecDepth 100000
set_option maxHeartbeats 8000000
set_option linter.unusedVariables false
namespace Mine
theorem split_eq {a b : List Nat} (ha : 61 ∉ a) : Txt.splitMax ⟨(a ++ 61 :: b).toArray⟩ (Str.ofString "=") 1 = [⟨a.toArray⟩, ⟨b.toArray⟩] := by
  have heq : Str.ofString "=" = ⟨#[61]⟩ := by decide +kernel
  rw [heq]
  have hlen : (⟨(a ++ 61 :: b).toArray⟩ : Str).length = a.length + b.length + 1 := by
    show (a ++ 61 :: b).toArray.size = _
    simp; omega
  unfold Txt.splitMax
  rw [hlen]
  have hk : Builtin.Str.strKind ⟨#[61]⟩ = 1 := by decide +kernel
  have hk2 : ¬ Builtin.Str.strKind ⟨(a ++ 61 :: b).toArray⟩ < 1 := by
    unfold Builtin.Str.strKind
    split
    · omega
    · split <;> omega
  have h1 : (⟨#[61]⟩ : Str).length = 1 := rfl
  rw [hk, h1, if_neg (by simp only [Bool.or_eq_true, decide_eq_true_eq]; omega)]
  have hl : limitOf ⟨(a ++ 61 :: b).toArray⟩ 1 = 1 := rfl
  rw [hl]
  have occ : Builtin.Str.occurrences ⟨(a ++ 61 :: b).toArray⟩ ⟨#[61]⟩ 0 (a.length + b.length + 1) 1 = [a.length] := by
    refine occ_first (by rw [h1]; omega) ?_ ?_
    · unfold Builtin.Str.subAt
      simp
      rw [h1]
      rfl
    · intro j hj
      unfold Builtin.Str.subAt
      rw [h1]
      have e : (a ++ 61 :: b).toArray.extract j (j + 1) = #[a[j]] := by
        rw [List.extract_toArray]
        have hd : (a ++ 61 :: b).drop j = a[j] :: (a ++ 61 :: b).drop (j + 1) := by
          rw [List.drop_eq_getElem_cons (by rw [List.length_append]; omega)]
          congr 1
          exact List.getElem_append_left hj
        simp only [List.extract_eq_take_drop, hd, Nat.add_sub_cancel_left]
        rfl
      show ((a ++ 61 :: b).toArray.extract j (j + 1) == #[61]) = false
      rw [e]
      have hne : a[j] ≠ 61 := fun q => ha (q ▸ List.getElem_mem hj)
      simpa using hne
  rw [occ]
  unfold Builtin.Str.partsBetween
  rw [hlen]
  have e1 : (a ++ 61 :: b).toArray.extract 0 a.length = a.toArray := by
    rw [List.extract_toArray, List.extract_eq_take_drop]
    simp
  have e2 : (a ++ 61 :: b).toArray.extract (a.length + 1) (a.length + b.length + 1) = b.toArray := by
    rw [List.extract_toArray, List.extract_eq_take_drop]
    have : (a ++ 61 :: b).drop (a.length + 1) = b := by
      rw [List.drop_append]
      simp
    rw [this]
    congr 1
    exact List.take_of_length_le (by omega)
  simp [Builtin.Str.strSub, e1, e2, h1]
end Mine
end
section
open PySem PySem.W PyProof.Rows PySem.Calls
set_option Elab.async false
set_option maxRecDepth 100000
set_option maxHeartbeats 8000000
set_option linter.unusedVariables false
namespace Mine
theorem tw_all {g : Nat → Bool} : ∀ {l : List Nat} {r : List Nat}, (∀ c ∈ l, g c = true) → (∀ c, r.head? = some c → g c = false) → (l ++ r).takeWhile g = l
  | [], [], _, _ => rfl
  | [], c :: r, _, h => by
    rw [List.nil_append, List.takeWhile_cons, h c rfl]; rfl
  | a :: l, r, h, h2 => by
    rw [List.cons_append, List.takeWhile_cons, h a (List.mem_cons_self ..)]
    simp only [if_true]
    rw [tw_all (fun c hc => h c (List.mem_cons_of_mem _ hc)) h2]
theorem strip_core {s0 core s1 : List Nat} (h0 : ∀ c ∈ s0, Unicode.isSpace c = true) (h1 : ∀ c ∈ s1, Unicode.isSpace c = true) (hc : ∀ c ∈ core, Unicode.isSpace c = false) (hne : core ≠ []) :
    Txt.strip ⟨(s0 ++ core ++ s1).toArray⟩ = ⟨core.toArray⟩ := by
  have lo : stripLo Unicode.isSpace true ⟨(s0 ++ core ++ s1).toArray⟩ = s0.length := by
    unfold stripLo
    rw [if_pos rfl]
    show (List.takeWhile Unicode.isSpace (s0 ++ core ++ s1)).length = _
    rw [List.append_assoc, tw_all h0]
    intro c e
    cases core with
    | nil => exact absurd rfl hne
    | cons a r => exact hc c (by simp at e; simp [e])
  have hi : stripHi Unicode.isSpace true ⟨(s0 ++ core ++ s1).toArray⟩ s0.length = s0.length + core.length := by
    unfold stripHi
    rw [if_pos rfl]
    show (s0 ++ core ++ s1).toArray.size - (((s0 ++ core ++ s1).drop s0.length).reverse.takeWhile Unicode.isSpace).length = _
    have hd : (s0 ++ core ++ s1).drop s0.length = core ++ s1 := by
      rw [List.append_assoc, List.drop_left]
    rw [hd, List.reverse_append, tw_all (fun c hc => h1 c (List.mem_reverse.mp hc))]
    · simp; omega
    · intro c e
      have : c ∈ core.reverse := List.mem_of_mem_head? (by rw [e]; rfl)
      exact hc c (List.mem_reverse.mp this)
  have same : ∀ x : Str, stripSame Unicode.isSpace true true x = true → x = PySem.stripped Unicode.isSpace true true x := by
    intro x h
    unfold stripSame at h
    rw [Bool.and_eq_true] at h
    have e1 : stripLo Unicode.isSpace true x = 0 := by simpa using h.1
    have e2 : stripHi Unicode.isSpace true x (stripLo Unicode.isSpace true x) = x.length := by simpa using h.2
    unfold PySem.stripped
    rw [e2, e1]
    show x = ⟨x.cps.extract 0 x.cps.size⟩
    rw [Array.extract_size]
  have all : Txt.strip ⟨(s0 ++ core ++ s1).toArray⟩ = PySem.stripped Unicode.isSpace true true ⟨(s0 ++ core ++ s1).toArray⟩ := by
    unfold Txt.strip Txt.stripBy
    split
    · exact same _ (by assumption)
    · rfl
  rw [all]
  unfold PySem.stripped
  rw [lo, hi]
  show (⟨(s0 ++ core ++ s1).toArray.extract s0.length (s0.length + core.length)⟩ : Str) = _
  rw [List.extract_toArray, List.extract_eq_take_drop, List.append_assoc, List.drop_left]
  simp
theorem strip_blank {s0 : List Nat} (h0 : ∀ c ∈ s0, Unicode.isSpace c = true) : Txt.strip ⟨s0.toArray⟩ = ⟨#[]⟩ := by
  have lo : stripLo Unicode.isSpace true ⟨s0.toArray⟩ = s0.length := by
    unfold stripLo
    rw [if_pos rfl]
    show (List.takeWhile Unicode.isSpace s0).length = _
    have := tw_all (r := []) h0 (fun c e => by cases e)
    rw [List.append_nil] at this
    rw [this]
  have hi : stripHi Unicode.isSpace true ⟨s0.toArray⟩ s0.length = s0.length := by
    unfold stripHi
    rw [if_pos rfl]
    show s0.toArray.size - ((s0.drop s0.length).reverse.takeWhile Unicode.isSpace).length = _
    rw [List.drop_length]
    simp
  unfold Txt.strip Txt.stripBy
  split
  · rename_i h
    unfold stripSame at h
    rw [Bool.and_eq_true, lo] at h
    have : s0.length = 0 := by simpa using h.1
    rw [List.length_eq_zero_iff.mp this]
  · unfold PySem.stripped
    rw [lo, hi]
    show (⟨s0.toArray.extract s0.length s0.length⟩ : Str) = _
    simp
end Mine
end
section
open PySem PySem.W PyProof.Rows PySem.Calls
set_option Elab.async false
set_option maxRecDepth 100000
set_option maxHeartbeats 8000000
set_option linter.unusedVariables false
namespace Mine
/-- the signs of a blank, of a name, of a value -/
theorem bl_form (k : Int) : ∃ l : List Nat, bl k = ⟨l.toArray⟩ ∧ (∀ c ∈ l, Unicode.isSpace c = true) ∧ 61 ∉ l := by
  unfold bl
  generalize k.toNat = n
  match n with
  | 0 => exact ⟨[], by decide +kernel, by decide +kernel, by decide⟩
  | 1 => exact ⟨[32], by decide +kernel, by decide +kernel, by decide⟩
  | 2 => exact ⟨[9], by decide +kernel, by decide +kernel, by decide⟩
  | 3 => exact ⟨[31], by decide +kernel, by decide +kernel, by decide⟩
  | 4 => exact ⟨[160], by decide +kernel, by decide +kernel, by decide⟩
  | n + 5 => exact ⟨[], by simp; decide +kernel, by decide +kernel, by decide⟩
theorem space_tab : ∀ d : Nat, d < 32 → Unicode.isSpace (64 + d) = false ∧ Unicode.isSpace (96 + d) = false ∧ Unicode.isSpace (19968 + d) = false ∧ Unicode.isSpace (224 + d) = false := by decide +kernel
theorem sv_sign (r : Int) : Unicode.isSpace (sv r) = false ∧ sv r ≠ 61 := by
  have h2 := dig1_range r
  obtain ⟨d, hd⟩ : ∃ d : Nat, dig1 r = (d : Int) := ⟨(dig1 r).toNat, by omega⟩
  have hlt : d < 32 := by omega
  have ht := space_tab d hlt
  have h : hd4 (r.fdiv 4) = 64 ∨ hd4 (r.fdiv 4) = 96 ∨ hd4 (r.fdiv 4) = 19968 ∨ hd4 (r.fdiv 4) = 224 := by
    unfold hd4
    have h : (r.fdiv 4).fmod 4 = 0 ∨ (r.fdiv 4).fmod 4 = 1 ∨ (r.fdiv 4).fmod 4 = 2 ∨ (r.fdiv 4).fmod 4 = 3 := by
      rw [Int.fmod_eq_emod_of_nonneg _ (by decide)]; omega
    rcases h with h | h | h | h <;> rw [h] <;> decide
  unfold sv
  rw [hd]
  rcases h with h | h | h | h <;> rw [h]
  · rw [show ((64 : Int) + (d : Int)).toNat = 64 + d by omega]; exact ⟨ht.1, by omega⟩
  · rw [show ((96 : Int) + (d : Int)).toNat = 96 + d by omega]; exact ⟨ht.2.1, by omega⟩
  · rw [show ((19968 : Int) + (d : Int)).toNat = 19968 + d by omega]; exact ⟨ht.2.2.1, by omega⟩
  · rw [show ((224 : Int) + (d : Int)).toNat = 224 + d by omega]; exact ⟨ht.2.2.2, by omega⟩
theorem nm_signs (c : Int) : ∃ l : List Nat, nmOf c = ⟨l.toArray⟩ ∧ (∀ x ∈ l, Unicode.isSpace x = false) ∧ 61 ∉ l := by
  refine ⟨_, nm_form c, ?_, ?_⟩
  · split <;> simp [sv_sign]
  · split <;> simp [Ne.symm (sv_sign _).2]
theorem val_signs (p : Int) (h0 : 0 ≤ p) (h1 : p < 12) : ∃ l : List Nat, valueOf p = ⟨l.toArray⟩ ∧ (∀ x ∈ l, Unicode.isSpace x = false) ∧ l ≠ [] := by
  have : p = 0 ∨ p = 1 ∨ p = 2 ∨ p = 3 ∨ p = 4 ∨ p = 5 ∨ p = 6 ∨ p = 7 ∨ p = 8 ∨ p = 9 ∨ p = 10 ∨ p = 11 := by omega
  rcases this with rfl | rfl | rfl | rfl | rfl | rfl | rfl | rfl | rfl | rfl | rfl | rfl
  · exact ⟨[97], by decide +kernel, by decide +kernel, by decide⟩
  · exact ⟨[61, 98], by decide +kernel, by decide +kernel, by decide⟩
  · exact ⟨[99], by decide +kernel, by decide +kernel, by decide⟩
  · exact ⟨[61, 100], by decide +kernel, by decide +kernel, by decide⟩
  · exact ⟨[101], by decide +kernel, by decide +kernel, by decide⟩
  · exact ⟨[61, 102], by decide +kernel, by decide +kernel, by decide⟩
  · exact ⟨[103], by decide +kernel, by decide +kernel, by decide⟩
  · exact ⟨[61, 104], by decide +kernel, by decide +kernel, by decide⟩
  · exact ⟨[105], by decide +kernel, by decide +kernel, by decide⟩
  · exact ⟨[61, 106], by decide +kernel, by decide +kernel, by decide⟩
  · exact ⟨[107], by decide +kernel, by decide +kernel, by decide⟩
  · exact ⟨[61, 108], by decide +kernel, by decide +kernel, by decide⟩
theorem app_form (a b : List Nat) : (⟨a.toArray⟩ : Str) ++ ⟨b.toArray⟩ = ⟨(a ++ b).toArray⟩ := by
  show (⟨a.toArray ++ b.toArray⟩ : Str) = _
  rw [List.append_toArray]
theorem row_parse (p c : Int) (h0 : 0 ≤ p) (h1 : p < 12) : ∃ P1 P2, Txt.splitMax (rowOf p c) (Str.ofString "=") 1 = [P1, P2] ∧ Txt.strip P1 = nmOf c ∧ Txt.strip P2 = valueOf p ∧ (rowOf p c).length ≤ 100 ∧ P1.length ≤ 1000 ∧ P2.length ≤ 1000 := by
  obtain ⟨b0, e0, s0, n0⟩ := bl_form ((c + 0 * (p + 1)).fmod 5)
  obtain ⟨b1, e1, s1, n1⟩ := bl_form ((c + 1 * (p + 1)).fmod 5)
  obtain ⟨b2, e2, s2, n2⟩ := bl_form ((c + 2 * (p + 1)).fmod 5)
  obtain ⟨b3, e3, s3, n3⟩ := bl_form ((c + 3 * (p + 1)).fmod 5)
  obtain ⟨nl, en, sn, nn⟩ := nm_signs c
  obtain ⟨vl, ev, sv', nv⟩ := val_signs p h0 h1
  have hq : Str.ofString "=" = ⟨([61] : List Nat).toArray⟩ := by decide +kernel
  have hrow : rowOf p c = ⟨((b0 ++ nl ++ b1) ++ 61 :: (b2 ++ vl ++ b3)).toArray⟩ := by
    unfold rowOf pad
    rw [e0, e1, e2, e3, en, ev, hq, app_form, app_form, app_form, app_form, app_form, app_form]
    simp
  have hbd : (rowOf p c).length ≤ 20 := Nat.le_trans (bd_app (bd_app (bd_app (bd_app (bd_app (bd_app (bd_pad p c 0) (bd_nm c)) (bd_pad p c 1)) bd_eq) (bd_pad p c 2)) (bd_val p h0 h1)) (bd_pad p c 3)) (by decide)
  have hsum : (rowOf p c).length = (b0 ++ nl ++ b1).length + ((b2 ++ vl ++ b3).length + 1) := by
    rw [hrow]
    show ((b0 ++ nl ++ b1) ++ 61 :: (b2 ++ vl ++ b3)).toArray.size = _
    rw [List.size_toArray, List.length_append, List.length_cons]
  refine ⟨⟨(b0 ++ nl ++ b1).toArray⟩, ⟨(b2 ++ vl ++ b3).toArray⟩, ?_, ?_, ?_, by omega, ?_, ?_⟩
  · rw [hrow]
    exact split_eq (by simp [n0, n1, nn])
  · by_cases he : nl = []
    · rw [en, he, List.append_nil]
      exact strip_blank (fun x hx => (List.mem_append.mp hx).elim (s0 x) (s1 x))
    · rw [en]; exact strip_core s0 s1 sn he
  · rw [ev]; exact strip_core s2 s3 sv' nv
  · show (b0 ++ nl ++ b1).toArray.size ≤ 1000
    rw [List.size_toArray]; omega
  · show (b2 ++ vl ++ b3).toArray.size ≤ 1000
    rw [List.size_toArray]; omega
end Mine
end
section
open PySem PySem.W PyProof.Rows PySem.Calls
set_option Elab.async false
set_option maxRecDepth 100000
set_option maxHeartbeats 8000000
set_option linter.unusedVariables false
namespace Mine
open PyProof.Rows.LCg
/-- while the rows are parsed -/
def PaInv (cs : List Int) (Bs : List (Addr × Obj)) (i : Nat) (ys : List Value) (news : List (Addr × Obj)) : Prop :=
  ∃ rs : List PR, rs.length = i ∧ (∀ (j : Nat) (q : PR) (c : Int), rs[j]? = some q → cs[j]? = some c → q.nm = nmOf c ∧ q.vl = valueOf (j : Int)) ∧ ys = rs.map ref ∧ news = pairL rs ++ Bs
theorem pairL_snoc (rs : List PR) (q : PR) : pairL (rs ++ [q]) = pairL rs ++ [(q.p, pairObj q.dx q.nm q.vl q.t1 q.t2 q.n), (q.dx, dictOf [] 0)] := by
  unfold pairL
  rw [List.flatMap_append]
  simp
theorem rs_snoc {cs : List Int} {rs : List PR} {i : Nat} {q : PR} {c : Int} (hl : rs.length = i) (h : ∀ (j : Nat) (q : PR) (c : Int), rs[j]? = some q → cs[j]? = some c → q.nm = nmOf c ∧ q.vl = valueOf (j : Int)) (hc : cs[i]? = some c) (h1 : q.nm = nmOf c) (h2 : q.vl = valueOf (i : Int)) :
    ∀ (j : Nat) (p : PR) (d : Int), (rs ++ [q])[j]? = some p → cs[j]? = some d → p.nm = nmOf d ∧ p.vl = valueOf (j : Int) := by
  intro j p d hp hd
  by_cases hj : j < rs.length
  · rw [List.getElem?_append_left hj] at hp
    exact h j p d hp hd
  · rw [List.getElem?_append_right (Nat.le_of_not_lt hj)] at hp
    have hj0 : j - rs.length = 0 := by
      cases e : j - rs.length with
      | zero => rfl
      | succ k => rw [e] at hp; cases hp
    rw [hj0] at hp
    obtain rfl : q = p := Option.some.inj hp
    obtain rfl : j = i := by omega
    rw [hc] at hd
    obtain rfl := Option.some.inj hd
    exact ⟨h1, h2⟩
theorem nm_short (c : Int) : (nmOf c).length ≤ 3 := nm_len c
end Mine
end
section
open PySem PySem.W PyProof.Rows PySem.Calls
set_option Elab.async false
set_option maxRecDepth 100000
set_option maxHeartbeats 8000000
set_option linter.unusedVariables false
namespace Mine
open PyProof.Rows.LCg
section
theorem walk_law : WalkO view LO (XL view []) HH.says PySem.Challenge.rw_in0001_01.row.toRowW lawD [] (fun f vs => PySem.call f vs) := by
  k_with_none
  k_with "eval ListComp" => (k_here; refine Stop.mk ?_)
  k_with "exec Assign cons ListComp" => (k_here; refine Stop.mk ?_)
  k_with "call ref" => (k_here; (with_reducible show wpAny _ _ (call (Value.ref 225) _) _ _ _); refine Stop.mk ?_)
  k_with "call ref" => (k_here; (with_reducible show wpAny _ _ (call (Value.ref 244) _) _ _ _); refine Stop.mk ?_)
  k_with "call ref" => (k_here; (with_reducible show wpAny _ _ (call (Value.ref 211) _) _ _ _); refine Stop.mk ?_)
  k_with "call ref" => (k_here; (with_reducible show wpAny _ _ (call (Value.ref 263) _) _ _ _); refine Stop.mk ?_)
  k_with "call ref" => (k_here; (with_reducible show wpAny _ _ (call (Value.ref 268) _) _ _ _); refine Stop.mk ?_)
  k_with "storeName" => (k_here; (with_reducible show wpAny _ _ (storeName _ (Str.ofString "cells") _) _ _ _); refine Stop.mk ?_)
  k_with "call builtin:len" => (k_here; refine Stop.mk ?_)
  k_with "getAttr type:str" => (k_here; (refine leafA (by k_asm) (by k_asm) (fun tk => attr_strip (by k_in)) rfl ?zqhd ?zqhu ?_); (case zqhd => exact (show 1 + claimMargin + 1 + 1 ≤ 800 by decide)); (case zqhu => exact (show 4 + 3 + 3 ≤ 3000 by decide)); intro _ _ _ _; (try dsimp only))
  k_with "call type:map" => (k_here; (refine map_star2 (by k_asm) (by k_asm) (by k_in) (by assumption) hsp hB9 hC9 (News.get (by k_asm) (List.mem_cons_self ..)) rfl ?zqhd ?zqhu ?_); (case zqhd => exact (show 1 + claimMargin + 1 + 1 ≤ 800 by decide)); (case zqhu => exact (show 4 + 3 + 3 ≤ 3000 by decide)); intro h9 tk9 u1 u2 F9 N9; (try dsimp only); (refine ⟨by k_in, ?_⟩))
  k_with "call ref" => (k_here; (with_reducible show wpAny _ _ (call (Value.ref 217) _) _ _ _); (refine leafN (by k_asm) (by k_asm) (mk_pair (by k_in)) rfl ?zqhd ?zqhu ?_); (case zqhd => exact (show 1 + claimMargin + 1 + 1 ≤ 800 by decide)); (case zqhu => exact (show 4 + 3 + 3 ≤ 3000 by decide)); intro v9 h8 tk8 F8 N8 hv9 hnew; (obtain ⟨p9, dx9, n9, hr9, hp9, hd9, fp9, fd9⟩ := hv9); (subst hr9); (try dsimp only))
  k_with "eval Name" => (k_here; k_dflt (refine' nameX_C ?zqN ?zqc ?zqm ?zqd ?_ ?zqa ?zqb; (case zqa => rfl); (case zqb => rfl); (case zqN => k_asm); (case zqc => rfl); (case zqm => ((repeat (first | assumption | exact List.mem_cons_self .. | exact List.mem_append_right _ (by assumption) | apply List.mem_cons_of_mem)); done)); (case zqd => k_asm); k_whole))
  k_with "eval Name" => (k_here; k_dflt (refine LCgL.ld_own (by k_asm) (List.mem_cons_of_mem _ (List.mem_cons_self ..)) (by assumption) (by assumption) ?_))
  k_with "eval Name" => (k_here; k_dflt (refine' name_cellG ?zqN ?zqk ?zqx ?zqc ?zqm ?zqd ?zqb ?_; (case zqk => rfl); (case zqx => rfl); (case zqb => decide); (case zqc => rfl); (case zqN => k_asm); (case zqm => ((repeat (first | assumption | exact List.mem_cons_self .. | apply List.mem_cons_of_mem)); done)); (case zqd => k_asm); k_whole))
  k_with "subscriptTail" => (k_here; refine Stop.mk ?_)
  k_with "compareOp Eq ref" => (k_here; refine Stop.mk ?_)
  delta lawD lawDS
  dsimp only
  k_fill
  intro w s₀ s₁ mg mb G Y fa o pm cd doc dV kV ho hd hcd hD hmg hg args vals as hpre hlay hrd hwl hlo
  have KX := km_in_of Y
  km_tabs Y
  have X := (Ground.X G).1
  have V := (Ground.X G).2
  refine Ground.open G ?_
  intro T B D TE TW
  try (refine guard_noD D (by decide +kernel) ?_; clear D)
  have hT9 : TabsAt [(118, 114)] _ := List.forall_mem_cons.mpr ⟨⟨codeHd_of_K (c := 118) (P := 114) KX (by kernel_rfl), hT8 114 (by k_mem)⟩, fun _ h => nomatch h⟩
  clear hmg
  wrow_args hpre hlay hrd hwl hlo
  all_goals (
    first | refine callC_kw (enter_call ?_) | refine enter_call ?_
    w_top on
    kn_posts
    w_call any ho hd hcd hD T F
    clear hd
    kn_ghosts F T
    k_drop
    skip)
  rename Frag.In _ _ => XX
  revert XX
  k_fill
  intro XX
  k_steps
  rename_i ns _ _ _ _ _ _ _ sl its _ _ _ _ _ hI _ hcond _ h1 tk1 oC dC0 Y0 TT BB FF N1 l0
  rename (ghostOf s₁.heap [(118, 114)]).IsList sl its.toArray => hsl
  have dC : oC.data = .cell none := dC0
  unfold Stop
  generalize ghostOf s₁.heap [(118, 114)] = g' at *
  generalize hL9 : s₁.heap.objs.size = L' at *
  have hln : its.length ≤ 63 := by have := IntsAre.length hI; omega
  (refine Tells.at (cells_tells w sl its ns hI hln) (by k_asm) (by k_asm) (by k_asm) (by k_asm) (by k_asm) rfl rfl (by decide) (by decide) ?pre ?_); (case pre => exact hsl.at fun o e => FF.keep _ _ e); intro r9 tl9 h9 tk9 F9 N9 K9 fr9 P9
  obtain ⟨C, cs, cvs, er9, et9, hcs, hcl⟩ := P9
  subst er9 et9
  simp only [List.cons_append, List.nil_append] at N9
  k_steps
  unfold Stop
  refine store_cell' F9 N9 rfl rfl rfl (c := L' + 1) (o := oC) (by simp) dC [(C, lst cvs), (114, tabObj #[])] (by intro p hp; (first | (refine sub_use hp ?_; (repeat' (first | exact sub_self | exact sub_nil | exact List.mem_cons_self .. | refine List.mem_cons_of_mem _ ?_ | refine sub_cons ?_ ?_ | refine sub_app ?_ ?_ | exact sub_inl | refine sub_skip ?_ | refine sub_right ?_ | refine List.mem_append_right _ ?_)); done) | (simp only [List.mem_cons] at hp ⊢; grind))) ?offC ?_
  case offC =>
    intro p hp
    simp only [List.mem_cons, List.not_mem_nil, or_false] at hp
    rcases hp with h | h
    · rw [h]; exact .inl (plain_list _ _)
    · rw [h]; exact .inl (plain_tab _)
  intro h10 oC10 F10 N10 d10
  clear N9 K9 fr9 F9
  have hCT : C ≠ 114 := news_apart N10 (o := lst cvs) (o' := tabObj #[]) (by simp) (by simp) (fun q => by cases q)
  k_steps
  unfold Stop
  obtain ⟨Bs, hBs⟩ : ∃ Bs : List (Addr × Obj), Bs = [(L' + 1, oC10), (C, lst cvs), (114, tabObj #[])] := ⟨_, rfl⟩
  have hcB : (L' + 1, oC10) ∈ Bs := by rw [hBs]; simp
  have hCB : (C, lst cvs) ∈ Bs := by rw [hBs]; simp
  rw [← hBs] at N10
  have hcvl : cvs.length = 12 := (Paired.length hcs).symm.trans hcl
  with_unfolding_all refine Assign_ListComp_rng (h₀ := g') (L := L') 12 (PaInv cs Bs) F10 rfl rfl (by with_unfolding_all rfl) (by with_unfolding_all rfl) (by decide) rfl (by decide) rfl rfl rfl (by decide) ?st1 ?src1
  case src1 =>
    k_steps
    unfold Stop
    refine kun_lenL (items := cvs.toArray) (k := 12) ⟨_, (N10 (C, lst cvs) hCB).1, rfl, _, rfl⟩ (by simp [hcvl]) (by decide) ?_
    dsimp only
    k_steps
    rename IsRange _ _ _ _ _ _ _ _ => rg
    refine ⟨_, _, _, _, _, rfl, by k_asm, by k_asm, rg, by decide, by rfl, ⟨[], rfl, (fun j q c h => by cases h), rfl, rfl⟩, ?_⟩
    rintro P h5 tk5 ys5 news5 F5 N5 o5 ⟨rs, hrl, hrs, rfl, rfl⟩
    clear rg
    k_steps
    rename_i h6 tk6 t6 F6 N6
    unfold Stop
    have hRS : RS cs rs := ⟨hrl.trans hcl.symm, hrs⟩
    have h114 : (114, tabObj #[]) ∈ Bs := by rw [hBs]; simp
    have inB : ∀ p ∈ Bs, p ∈ (P, lst (rs.map ref)) :: (pairL rs ++ Bs) := fun p hp => List.mem_cons_of_mem _ (List.mem_append_right _ hp)
    have ND : News g' L' h6 ((114, tabObj #[]) :: (P, lst (rs.map ref)) :: pairL rs) := fun p hp => N6 p (by
      rcases List.mem_cons.mp hp with h | hp
      · rw [h]; exact inB _ h114
      rcases List.mem_cons.mp hp with h | hp
      · rw [h]; exact List.mem_cons_self ..
      · exact List.mem_cons_of_mem _ (List.mem_append_left _ hp))
    have offC : ∀ p ∈ (114, tabObj #[]) :: (P, lst (rs.map ref)) :: pairL rs, p.1 ≠ C := fun p hp => by
      rcases List.mem_cons.mp hp with h | hp
      · rw [h]; exact Ne.symm hCT
      rcases List.mem_cons.mp hp with h | hp
      · rw [h]; exact Ne.symm (off1_mem o5 _ (List.mem_append_right _ hCB))
      · exact news_apart N6 (o := p.2) (o' := lst cvs) (List.mem_cons_of_mem _ (List.mem_append_left _ hp)) (inB _ hCB) (fun q => nl_pairL rs p hp _ _ q)
    have offL : ∀ p ∈ (114, tabObj #[]) :: (P, lst (rs.map ref)) :: pairL rs, p.1 ≠ L' + 1 := fun p hp => by
      have hpl : Plain p.2 := by
        rcases List.mem_cons.mp hp with h | hp
        · rw [h]; exact plain_tab _
        rcases List.mem_cons.mp hp with h | hp
        · rw [h]; exact plain_list _ _
        · exact plain_pairL rs p hp
      exact news_apart (by k_asm : News g' L' h6 ((P, lst (rs.map ref)) :: (pairL rs ++ Bs))) (o := p.2) (o' := oC10) (by
        rcases List.mem_cons.mp hp with h | hp
        · rw [h]; exact inB _ h114
        rcases List.mem_cons.mp hp with h | hp
        · rw [h]; exact List.mem_cons_self ..
        · exact List.mem_cons_of_mem _ (List.mem_append_left _ hp)) (inB _ hcB) (fun q => hpl _ (q ▸ d10))
    have nC := (N6 _ (inB _ hCB))
    have nL := (N6 _ (inB _ hcB))
    refine dealt_tells w P (rs.map ref).length rs (32 * (ns.sum - 8)) _ BB F6 ND XX TT (fun q hq => ?hnm) (by omega) (by omega) rfl (by decide) (by decide) ?_
    case hnm =>
      obtain ⟨j, hj, rfl⟩ := List.mem_iff_getElem.mp hq
      have hc : cs[j]? = some (cs[j]'(hRS.1 ▸ hj)) := List.getElem?_eq_getElem _
      rw [(hrs j _ _ (List.getElem?_eq_getElem hj) hc).1]
      exact nm_len _
    intro r h7 tk7 F7 K7 ⟨as7, R7⟩ ⟨ps, hps⟩
    have N7 : News g' L' h7 [(L' + 1, oC10), (C, lst cvs)] := fun p hp => by
      rcases List.mem_cons.mp hp with h | hp
      · rw [h]
        exact ⟨K7 _ _ nL.1 (fun hm => by obtain ⟨p, hp, e⟩ := List.mem_map.mp hm; exact offL p hp e), nL.2⟩
      · rw [List.mem_singleton.mp hp]
        exact ⟨K7 _ _ nC.1 (fun hm => by obtain ⟨p, hp, e⟩ := List.mem_map.mp hm; exact offC p hp e), nC.2⟩
    clear K7 ND offC offL nC nL F6 N6 F5 N5
    k_steps
    unfold Stop
    refine due_tells w C cvs.length cs cvs hcs hcl BB F7 (N7 (C, lst cvs) (by simp)).1 XX TT rfl (by decide) (by decide) ?_
    intro r2 h8 tk8 F8 K8 ⟨as8, ms, hperm, hpw, R8⟩
    rw [rows_eq hRS hcl hperm hpw, used_eq hRS 3] at R7
    have R7' := PyProof.Rows.Reads.keeps K8 R7
    have hps' := K8 _ _ hps
    clear R7 K8 N7 F7 hps
    refine eq_dataH R7' R8 (shaped_due cs ms) (shaped_due cs ms) (show 7 + 64 < cLine by decide) ?_
    rw [PySem.SeqAt.eqv_refl _ (Bool.and_eq_true_iff.mp (shaped_due cs ms)).1]
    refine ⟨?good, ⟨ps, hps'⟩, trivial⟩
    case good =>
      clear hps' R7' R8
      k_steps
  case st1 =>
    rintro i t I oI C3 oC3 D m2 ys news sx E3 hi ⟨rs, hrl, hrs, rfl, rfl⟩ hNs hm2 Fx Nx off3 ne3
    obtain ⟨c, hci⟩ : ∃ c, cs[i]? = some c := ⟨_, List.getElem?_eq_getElem (by omega)⟩
    obtain ⟨v, hvi, tc, rfl⟩ := paired_get hcs i c hci
    have hcx : (C, lst cvs) ∈ (I, oI) :: (C3, oC3) :: (D, lst (rs.map ref)) :: (pairL rs ++ Bs) := List.mem_cons_of_mem _ (List.mem_cons_of_mem _ (List.mem_cons_of_mem _ (List.mem_append_right _ hCB)))
    have hlx : (L' + 1, oC10) ∈ (I, oI) :: (C3, oC3) :: (D, lst (rs.map ref)) :: (pairL rs ++ Bs) := List.mem_cons_of_mem _ (List.mem_cons_of_mem _ (List.mem_cons_of_mem _ (List.mem_append_right _ hcB)))
    k_steps
    rename_i _ qk0 ek0 q9 hq Fq Nq lq _
    unfold Stop
    have nC := (Nq (C, lst cvs) (List.mem_cons_of_mem _ hcx)).1
    refine tail_any (PySem.Heap.IsList.typeIs ⟨_, nC, rfl, _, rfl⟩) slot_list_getitem.lookup (wpAny_getItem_list (items := cvs.toArray) ⟨_, nC, rfl, _, rfl⟩ (Int.natCast_nonneg i) (by omega) (by simpa using hvi) ?_) (by with_unfolding_all rfl)
    obtain ⟨P1, P2, hsp, hs1, hs2, hlx9, hB9, hC9⟩ := row_parse (i : Int) c (by omega) (by omega)
    k_steps
    unfold Stop
    (refine Tells.at (row_tells w (i : Int) c t tc (by omega) (by omega)) (by k_asm) (by k_asm) (by k_asm) (by k_asm) (by k_asm) rfl rfl (by decide) (by decide) ?pre ?_); (case pre => exact trivial); intro r9 tl9 h9 tk9 F9 N9 K9 fr9 P9
    obtain ⟨⟨t9, er9⟩, et9⟩ := P9
    subst er9 et9
    dsimp only [List.nil_append] at N9
    clear Fq Nq nC
    k_steps
    rename_i gi Li hi0 FGi Fi Ni Bi Xi Ti h9i tk9i F9i N9i xl hh9 tkk a5 a4 a3 a2 a1 a0 kF kN kT kX
    dsimp only at fp9 fd9
    have new : ∀ a, h9.get? a = none → a ≠ L' ∧ g'.get? a = none := fun a ha => by
      refine ⟨fun q => ?_, ?_⟩
      · obtain ⟨o, _, _, ho, _⟩ := FGi.ns
        have := F9.keep _ _ ho
        rw [← q, ha] at this; cases this
      · cases e : g'.get? a with
        | none => rfl
        | some o => have := F9.keep _ _ (FGi.keep _ _ e); rw [ha] at this; cases this
    have old9 : ∀ p ∈ (I, oI) :: (C3, oC3) :: (D, lst (rs.map ref)) :: (pairL rs ++ Bs), p.1 ≠ p9 ∧ p.1 ≠ dx9 := fun p hp => by
      have e := (N9 p (List.mem_cons_of_mem _ (List.mem_cons_of_mem _ hp))).1
      exact ⟨(fun q => by rw [q, fp9] at e; cases e), (fun q => by rw [q, fd9] at e; cases e)⟩
    have memq : ∀ p ∈ pairL (rs ++ [(⟨p9, dx9, Txt.strip P1, Txt.strip P2, u1, u2, n9⟩ : PR)]) ++ Bs, p ∈ pairL rs ++ Bs ∨ p = (p9, pairObj dx9 (Txt.strip P1) (Txt.strip P2) u1 u2 n9) ∨ p = (dx9, dictOf [] 0) := fun p hp => by
      rw [pairL_snoc] at hp
      rcases List.mem_append.mp hp with hp | hp
      · rcases List.mem_append.mp hp with hp | hp
        · exact .inl (List.mem_append_left _ hp)
        · rcases List.mem_cons.mp hp with h | hp
          · exact .inr (.inl h)
          · exact .inr (.inr (List.mem_singleton.mp hp))
      · exact .inl (List.mem_append_right _ hp)
    have in3 : ∀ p ∈ pairL rs ++ Bs, p ∈ (I, oI) :: (C3, oC3) :: (D, lst (rs.map ref)) :: (pairL rs ++ Bs) := fun p hp => List.mem_cons_of_mem _ (List.mem_cons_of_mem _ (List.mem_cons_of_mem _ hp))
    have NE : News g' L' h8 ((I, oI) :: (C3, oC3) :: (D, lst (rs.map ref)) :: (pairL (rs ++ [(⟨p9, dx9, Txt.strip P1, Txt.strip P2, u1, u2, n9⟩ : PR)]) ++ Bs)) := fun p hp => by
      have go : p ∈ (I, oI) :: (C3, oC3) :: (D, lst (rs.map ref)) :: (pairL rs ++ Bs) ∨ p = (p9, pairObj dx9 (Txt.strip P1) (Txt.strip P2) u1 u2 n9) ∨ p = (dx9, dictOf [] 0) := by
        rcases List.mem_cons.mp hp with h | hp
        · exact .inl (h ▸ List.mem_cons_self ..)
        rcases List.mem_cons.mp hp with h | hp
        · exact .inl (h ▸ List.mem_cons_of_mem _ (List.mem_cons_self ..))
        rcases List.mem_cons.mp hp with h | hp
        · exact .inl (h ▸ List.mem_cons_of_mem _ (List.mem_cons_of_mem _ (List.mem_cons_self ..)))
        · exact (memq p hp).imp (in3 p) id
      rcases go with h | h | h
      · exact kN p (List.mem_cons_of_mem _ (List.mem_cons_of_mem _ h))
      · rw [h]; exact ⟨hp9, new p9 fp9⟩
      · rw [h]; exact ⟨hd9, new dx9 fd9⟩
    show EltEnd g' L' _ sx I oI C3 oC3 D _ _ _ _
    refine ⟨h8, tk8, pairL (rs ++ [(⟨p9, dx9, Txt.strip P1, Txt.strip P2, u1, u2, n9⟩ : PR)]) ++ Bs, rfl, kF, NE, Off3.of fun p hp => ?_, rs ++ [(⟨p9, dx9, Txt.strip P1, Txt.strip P2, u1, u2, n9⟩ : PR)], by simp [hrl], rs_snoc hrl hrs hci hs1 hs2, by simp [ref], rfl⟩
    have oI9 := old9 (I, oI) (List.mem_cons_self ..)
    have oC9 := old9 (C3, oC3) (List.mem_cons_of_mem _ (List.mem_cons_self ..))
    have oD9 := old9 (D, lst (rs.map ref)) (List.mem_cons_of_mem _ (List.mem_cons_of_mem _ (List.mem_cons_self ..)))
    rcases memq p hp with h | h | h
    · exact off3.mem p h
    · rw [h]; exact ⟨Ne.symm oI9.1, Ne.symm oC9.1, Ne.symm oD9.1⟩
    · rw [h]; exact ⟨Ne.symm oI9.2, Ne.symm oC9.2, Ne.symm oD9.2⟩
end
theorem law_holds : PySem.Challenge.rw_in0001_01.Holds := hd walk_law
end Mine
end
theorem PySem.Challenge.cw_in0001_01_holds : PySem.Challenge.rw_in0001_01.Holds := by
  exact Mine.law_holds
