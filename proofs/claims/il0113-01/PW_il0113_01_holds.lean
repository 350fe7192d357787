import PyProof.Rows.All
import Wide.All
import OpenK.AllK
import Wide.FinOn
import Lean
import PySem.Challenge.RW_il0113_01
open PySem PySem.W PyProof.Rows PySem.Calls
set_option Elab.async false
set_option maxHeartbeats 0
set_option compiler.extract_closed false
set_option rowWalk.seconds 0
set_option linter.unusedVariables false
namespace Mine
section
open PySem.W.Fast
set_option maxRecDepth 1000000
noncomputable def pW : Program := PySem.Challenge.pw_il0113_01
/-- an entry under a text -/
@[reducible] noncomputable def en (P : Params) (x : String) (t : Tok) (v : Value) : DictEntry := ⟨PyData.keyHash P (Str.ofString x), .str (Str.ofString x) t, v⟩
/-- places in the text -/
noncomputable def nthS : List Stmt → Nat → Stmt
  | [], _ => .Pass default
  | s :: _, 0 => s
  | _ :: l, n + 1 => nthS l n
noncomputable def atS (i : Nat) : Stmt := nthS pW.main.body i
noncomputable def inS : Stmt → Nat → Stmt
  | .ClassDef _ _ _ b _ _ _ _ _ _ _, j => nthS b j
  | s, _ => s
noncomputable def fnP : Stmt → Arguments
  | .FunctionDef _ a _ _ _ _ _ _ _ _ => a
  | _ => default
noncomputable def fnB : Stmt → List Stmt
  | .FunctionDef _ _ b _ _ _ _ _ _ _ => b
  | _ => []
noncomputable def fnS : Stmt → Scope
  | .FunctionDef _ _ _ _ _ _ sc _ _ _ => sc
  | _ => default
noncomputable def os0 : OsState := (start (opening pW)).1.os
noncomputable def treeGo : List Obj → Nat → BT → BT
  | [], _, t => t
  | o :: l, n, t => treeGo l (n + 1) (t.ins n o)
noncomputable def treeOf (l : List Obj) : BT := treeGo l 0 .nil
/-- a piece of a long text -/
noncomputable def ch (s : String) (r : List Nat) : List Nat := (Str.ofString s).cps.toList ++ r
/-- small words for the objects of a state at a cut -/
noncomputable def vi (n : Nat) : Value := .int (Int.ofNat n) 0
noncomputable def tuO (vs : List Value) : Obj := { cls := .type "tuple", data := .seq vs.toArray 0 }
noncomputable def flO : Obj := { cls := .none, data := .fields #[] }
noncomputable def strsO : List String → Nat → List Value
  | [], _ => []
  | x :: r, t => .str (Str.ofString x) t :: strsO r (t + 1)
noncomputable def cdO (n q : String) (t line a b c fl r1 : Nat) (bo : Bool) (r2 : Nat) (x y z u : Value) (t2 : Nat) : Obj :=
  { cls := .type "code", data := .fields #[.str (Str.ofString n) t, .str (Str.ofString q) (t + 1), .str "/claim/cut.py" (t + 2), vi line, vi a, vi b, vi c, vi fl, .ref r1, .bool bo, vi 318, .ref r2, x, y, z, u, .int (Int.ofNat t2) 0, vi line, .str "/claim/cut.py" (t2 + 1)] }
noncomputable def foO (n q : String) (pl : Stmt) : Obj := { cls := .none, data := .func { name := Str.ofString n, qualname := Str.ofString q, params := fnP pl, body := .stmts (fnB pl), scope := fnS pl, globals := 0, closure := [], defaults := .none, kwdefaults := .none } }
noncomputable def fuO (n q : String) (pl : Stmt) (md : String) (mt : Nat) (df : Value) (cd : Nat) : Obj :=
  { cls := .type "function", data := .func { name := Str.ofString n, qualname := Str.ofString q, params := fnP pl, body := .stmts (fnB pl), scope := fnS pl, globals := 3, closure := [], defaults := df, kwdefaults := .none, pyModule := .str (Str.ofString md) mt, code := .ref cd } }
/-- what a def lays: seven objects from address i on -/
noncomputable def fn7 (i : Nat) (n q : String) (pl : Stmt) (md : String) (mt : Nat) (df : Value) (t line a b c fl : Nat) (vars : List String) : List Obj :=
  [tuO [], flO, tuO (strsO vars (t + 3)), tuO [], foO n q pl, cdO n q t line a b c fl i true (i + 1) .none (.ref (i + 2)) (.ref (i + 3)) (.ref (i + 4)) (t + 3 + vars.length), fuO n q pl md mt df (i + 5)]
noncomputable def setsO (l : List Obj) : List (Nat × Obj) → List Obj
  | [] => l
  | (i, o) :: r => setsO (l.set i o) r
-- why []; objects kept 84; steps 1085 484 1736 6884; rows [comprehension-iter-twice, special-get-raises]
noncomputable def stFL (P : Params) : List Obj := List.flatten [[{ cls := .type "dict", data := .dict #[en P "__name__" (nat_lit 1) (.str "builtins" (nat_lit 160)), en P "__doc__" (nat_lit 2) (.builtin "builtins.__doc__:str#opaque"), en P "__package__" (nat_lit 3) (.builtin "builtins.__package__:str#opaque"), en P "__loader__" (nat_lit 4) (.builtin "builtins.__loader__:shared#opaque"), en P "__spec__" (nat_lit 5) (.builtin "builtins.__spec__#opaque"), en P "__build_class__" (nat_lit 6) (.builtin "__build_class__"), en P "__import__" (nat_lit 7) (.builtin "__import__"), en P "abs" (nat_lit 8) (.builtin "abs"), en P "all" (nat_lit 9) (.builtin "all"), en P "any" (nat_lit 10) (.builtin "any"), en P "ascii" (nat_lit 11) (.builtin "ascii"), en P "bin" (nat_lit 12) (.builtin "bin"), en P "breakpoint" (nat_lit 13) (.builtin "breakpoint"), en P "callable" (nat_lit 14) (.builtin "callable"), en P "chr" (nat_lit 15) (.builtin "chr"), en P "compile" (nat_lit 16) (.builtin "compile"), en P "delattr" (nat_lit 17) (.builtin "delattr"), en P "dir" (nat_lit 18) (.builtin "dir"), en P "divmod" (nat_lit 19) (.builtin "divmod"), en P "eval" (nat_lit 20) (.builtin "eval"), en P "exec" (nat_lit 21) (.builtin "exec"), en P "format" (nat_lit 22) (.builtin "format"), en P "getattr" (nat_lit 23) (.builtin "getattr"), en P "globals" (nat_lit 24) (.builtin "globals"), en P "hasattr" (nat_lit 25) (.builtin "hasattr"), en P "hash" (nat_lit 26) (.builtin "hash"), en P "hex" (nat_lit 27) (.builtin "hex"), en P "id" (nat_lit 28) (.builtin "id"), en P "input" (nat_lit 29) (.builtin "input"), en P "isinstance" (nat_lit 30) (.builtin "isinstance"), en P "issubclass" (nat_lit 31) (.builtin "issubclass"), en P "iter" (nat_lit 32) (.builtin "iter"), en P "aiter" (nat_lit 33) (.builtin "aiter"), en P "len" (nat_lit 34) (.builtin "len"), en P "locals" (nat_lit 35) (.builtin "locals"), en P "max" (nat_lit 36) (.builtin "max"), en P "min" (nat_lit 37) (.builtin "min"), en P "next" (nat_lit 38) (.builtin "next"), en P "anext" (nat_lit 39) (.builtin "anext"), en P "oct" (nat_lit 40) (.builtin "oct"), en P "ord" (nat_lit 41) (.builtin "ord"), en P "pow" (nat_lit 42) (.builtin "pow"), en P "print" (nat_lit 43) (.builtin "print"), en P "repr" (nat_lit 44) (.builtin "repr"), en P "round" (nat_lit 45) (.builtin "round"), en P "setattr" (nat_lit 46) (.builtin "setattr"), en P "sorted" (nat_lit 47) (.builtin "sorted"), en P "sum" (nat_lit 48) (.builtin "sum"), en P "vars" (nat_lit 49) (.builtin "vars"), en P "None" (nat_lit 50) (.none), en P "Ellipsis" (nat_lit 51) (Value.ellipsis), en P "NotImplemented" (nat_lit 52) (Value.notImplemented), en P "False" (nat_lit 53) (.bool false), en P "True" (nat_lit 54) (.bool true), en P "bool" (nat_lit 55) (.type "bool"), en P "memoryview" (nat_lit 56) (.type "memoryview"), en P "bytearray" (nat_lit 57) (.type "bytearray"), en P "bytes" (nat_lit 58) (.type "bytes"), en P "classmethod" (nat_lit 59) (.type "classmethod"), en P "complex" (nat_lit 60) (.type "complex"), en P "dict" (nat_lit 61) (.type "dict"), en P "enumerate" (nat_lit 62) (.type "enumerate"), en P "filter" (nat_lit 63) (.type "filter"), en P "float" (nat_lit 64) (.type "float"), en P "frozenset" (nat_lit 65) (.type "frozenset"), en P "property" (nat_lit 66) (.type "property"), en P "int" (nat_lit 67) (.type "int"), en P "list" (nat_lit 68) (.type "list"), en P "map" (nat_lit 69) (.type "map"), en P "object" (nat_lit 70) (.type "object"), en P "range" (nat_lit 71) (.type "range"), en P "reversed" (nat_lit 72) (.type "reversed"), en P "set" (nat_lit 73) (.type "set"), en P "slice" (nat_lit 74) (.type "slice"), en P "staticmethod" (nat_lit 75) (.type "staticmethod"), en P "str" (nat_lit 76) (.type "str"), en P "super" (nat_lit 77) (.type "super"), en P "tuple" (nat_lit 78) (.type "tuple"), en P "type" (nat_lit 79) (.type "type"), en P "zip" (nat_lit 80) (.type "zip"), en P "__debug__" (nat_lit 81) (.bool true), en P "BaseException" (nat_lit 82) (.type "BaseException"), en P "BaseExceptionGroup" (nat_lit 83) (.type "BaseExceptionGroup"), en P "Exception" (nat_lit 84) (.type "Exception"), en P "GeneratorExit" (nat_lit 85) (.type "GeneratorExit"), en P "KeyboardInterrupt" (nat_lit 86) (.type "KeyboardInterrupt"), en P "SystemExit" (nat_lit 87) (.type "SystemExit"), en P "ArithmeticError" (nat_lit 88) (.type "ArithmeticError"), en P "AssertionError" (nat_lit 89) (.type "AssertionError"), en P "AttributeError" (nat_lit 90) (.type "AttributeError"), en P "BufferError" (nat_lit 91) (.type "BufferError"), en P "EOFError" (nat_lit 92) (.type "EOFError"), en P "ImportError" (nat_lit 93) (.type "ImportError"), en P "LookupError" (nat_lit 94) (.type "LookupError"), en P "MemoryError" (nat_lit 95) (.type "MemoryError"), en P "NameError" (nat_lit 96) (.type "NameError"), en P "OSError" (nat_lit 97) (.type "OSError"), en P "ReferenceError" (nat_lit 98) (.type "ReferenceError"), en P "RuntimeError" (nat_lit 99) (.type "RuntimeError"), en P "StopAsyncIteration" (nat_lit 100) (.type "StopAsyncIteration"), en P "StopIteration" (nat_lit 101) (.type "StopIteration"), en P "SyntaxError" (nat_lit 102) (.type "SyntaxError"), en P "SystemError" (nat_lit 103) (.type "SystemError"), en P "TypeError" (nat_lit 104) (.type "TypeError"), en P "ValueError" (nat_lit 105) (.type "ValueError"), en P "Warning" (nat_lit 106) (.type "Warning"), en P "FloatingPointError" (nat_lit 107) (.type "FloatingPointError"), en P "OverflowError" (nat_lit 108) (.type "OverflowError"), en P "ZeroDivisionError" (nat_lit 109) (.type "ZeroDivisionError"), en P "BytesWarning" (nat_lit 110) (.type "BytesWarning"), en P "DeprecationWarning" (nat_lit 111) (.type "DeprecationWarning"), en P "EncodingWarning" (nat_lit 112) (.type "EncodingWarning"), en P "FutureWarning" (nat_lit 113) (.type "FutureWarning"), en P "ImportWarning" (nat_lit 114) (.type "ImportWarning"), en P "PendingDeprecationWarning" (nat_lit 115) (.type "PendingDeprecationWarning"), en P "ResourceWarning" (nat_lit 116) (.type "ResourceWarning"), en P "RuntimeWarning" (nat_lit 117) (.type "RuntimeWarning"), en P "SyntaxWarning" (nat_lit 118) (.type "SyntaxWarning"), en P "UnicodeWarning" (nat_lit 119) (.type "UnicodeWarning"), en P "UserWarning" (nat_lit 120) (.type "UserWarning"), en P "BlockingIOError" (nat_lit 121) (.type "BlockingIOError"), en P "ChildProcessError" (nat_lit 122) (.type "ChildProcessError"), en P "ConnectionError" (nat_lit 123) (.type "ConnectionError"), en P "FileExistsError" (nat_lit 124) (.type "FileExistsError"), en P "FileNotFoundError" (nat_lit 125) (.type "FileNotFoundError"), en P "InterruptedError" (nat_lit 126) (.type "InterruptedError"), en P "IsADirectoryError" (nat_lit 127) (.type "IsADirectoryError"), en P "NotADirectoryError" (nat_lit 128) (.type "NotADirectoryError"), en P "PermissionError" (nat_lit 129) (.type "PermissionError"), en P "ProcessLookupError" (nat_lit 130) (.type "ProcessLookupError"), en P "TimeoutError" (nat_lit 131) (.type "TimeoutError"), en P "IndentationError" (nat_lit 132) (.type "IndentationError"), en P "_IncompleteInputError" (nat_lit 133) (.type "_IncompleteInputError"), en P "IndexError" (nat_lit 134) (.type "IndexError"), en P "KeyError" (nat_lit 135) (.type "KeyError"), en P "ModuleNotFoundError" (nat_lit 136) (.type "ModuleNotFoundError"), en P "NotImplementedError" (nat_lit 137) (.type "NotImplementedError"), en P "PythonFinalizationError" (nat_lit 138) (.type "PythonFinalizationError"), en P "RecursionError" (nat_lit 139) (.type "RecursionError"), en P "UnboundLocalError" (nat_lit 140) (.type "UnboundLocalError"), en P "UnicodeError" (nat_lit 141) (.type "UnicodeError"), en P "BrokenPipeError" (nat_lit 142) (.type "BrokenPipeError"), en P "ConnectionAbortedError" (nat_lit 143) (.type "ConnectionAbortedError"), en P "ConnectionRefusedError" (nat_lit 144) (.type "ConnectionRefusedError"), en P "ConnectionResetError" (nat_lit 145) (.type "ConnectionResetError"), en P "TabError" (nat_lit 146) (.type "TabError"), en P "UnicodeDecodeError" (nat_lit 147) (.type "UnicodeDecodeError"), en P "UnicodeEncodeError" (nat_lit 148) (.type "UnicodeEncodeError"), en P "UnicodeTranslateError" (nat_lit 149) (.type "UnicodeTranslateError"), en P "ExceptionGroup" (nat_lit 150) (.type "ExceptionGroup"), en P "EnvironmentError" (nat_lit 151) (.type "OSError"), en P "IOError" (nat_lit 152) (.type "OSError"), en P "open" (nat_lit 153) (.builtin "open"), en P "quit" (nat_lit 154) (.builtin "builtins.quit#opaque"), en P "exit" (nat_lit 155) (.builtin "builtins.exit#opaque"), en P "copyright" (nat_lit 156) (.builtin "builtins.copyright#opaque"), en P "credits" (nat_lit 157) (.builtin "builtins.credits#opaque"), en P "license" (nat_lit 158) (.builtin "builtins.license#opaque"), en P "help" (nat_lit 159) (.builtin "builtins.help#opaque")] (nat_lit 159) }, { cls := .type "dict", data := .dict #[en P "builtins" (nat_lit 162) (.ref (nat_lit 4)), en P "__main__" (nat_lit 163) (.ref (nat_lit 5)), en P "_sre" (nat_lit 244) (.ref (nat_lit 12)), en P "_collections" (nat_lit 292) (.ref (nat_lit 30))] (nat_lit 4) }, { cls := .none, data := .dict #[en P "\x69mport.loaded._sre" (nat_lit 183) (.bool true), en P "class._frozen_importlib.BuiltinImporter" (nat_lit 185) (.ref (nat_lit 14)), en P "watched.\x69mport" (nat_lit 206) (.ref (nat_lit 18)), en P "class._frozen_importlib.ModuleSpec" (nat_lit 216) (.ref (nat_lit 22)), en P "sys.modules.booked-epoch" (nat_lit 245) (vi (nat_lit 4)), en P "\x69mport.later-laid._sre" (nat_lit 270) (.bool true), en P "watched.library" (nat_lit 272) (.ref (nat_lit 27)), en P "watched.library-objects" (nat_lit 0) (.str "\x0c\x1e" (nat_lit 0)), en P "watched.library-deep._sre" (nat_lit 273) (.str "\x04\x00\x00\x0b\x04\x00\x00\x0b\x04\x00\x00\x03\x04\x00\x00\x0b\x08\x04dict\x02" (nat_lit 0)), en P "\x69mport.loaded._collections" (nat_lit 280) (.bool true), en P "sys.modules.landed._collections" (nat_lit 294) (.bool true), en P "\x69mport.later-laid._collections" (nat_lit 309) (.bool true), en P "watched.library-deep._collections" (nat_lit 311) (.str "\x04\x00\x00\x1d\x04\x00\x00\x1d\x04\x00\x00\x03\x04\x00\x00\x1d\x08\x04dict\x02" (nat_lit 0))] (nat_lit 13) }, { cls := .type "dict", data := .dict #[en P "__name__" (nat_lit 165) (.str "__main__" (nat_lit 164)), en P "__doc__" (nat_lit 166) (.none), en P "__package__" (nat_lit 167) (.none), en P "__loader__" (nat_lit 168) (.builtin "__main__.__loader__#opaque"), en P "__spec__" (nat_lit 169) (.none), en P "__annotations__" (nat_lit 170) (.ref (nat_lit 6)), en P "__builtins__" (nat_lit 171) (.ref (nat_lit 4)), en P "__file__" (nat_lit 173) (.str "/claim/cut.py" (nat_lit 172)), en P "__cached__" (nat_lit 174) (.none), en P "_sre" (nat_lit 275) (.ref (nat_lit 12)), en P "deque" (nat_lit 317) (.type "collections.deque")] (nat_lit 11) }, { cls := .type "module", dict := some 0 }, { cls := .type "module", dict := some 3 }, { cls := .type "dict", data := .dict #[] (nat_lit 0) }, tuO [], flO, { cls := .type "code", data := .fields #[.str "<module>" (nat_lit 176), .str "<module>" (nat_lit 177), .str "/claim/cut.py" (nat_lit 178), vi (nat_lit 1), vi (nat_lit 0), vi (nat_lit 0), vi (nat_lit 0), vi (nat_lit 0), .ref (nat_lit 7), .bool false, vi (nat_lit 175), .ref (nat_lit 8), .none, .none, .none, .none, vi (nat_lit 179), vi (nat_lit 1), .str "/claim/cut.py" (nat_lit 180)] }, { cls := .type "frame", slots := #[some (.ref (nat_lit 9)), some (.ref (nat_lit 3)), some (.ref (nat_lit 3)), none, some (.str "__main__" (nat_lit 164)), none, some (.ref (nat_lit 0))] }, { cls := .type "dict", data := .dict #[en P "__name__" (nat_lit 247) (.str "_sre" (nat_lit 246)), en P "__doc__" (nat_lit 248) (.none), en P "__package__" (nat_lit 250) (.str "" (nat_lit 249)), en P "__loader__" (nat_lit 251) (.builtin "off-the-table:_sre.__loader__:shared#opaque"), en P "__spec__" (nat_lit 252) (.builtin "off-the-table:_sre.__spec__:shared#opaque"), en P "compile" (nat_lit 253) (.builtin "_sre.compile"), en P "template" (nat_lit 254) (.builtin "off-the-table:_sre.template:shared#opaque"), en P "getcodesize" (nat_lit 255) (.builtin "off-the-table:_sre.getcodesize:shared#opaque"), en P "ascii_iscased" (nat_lit 256) (.builtin "off-the-table:_sre.ascii_iscased:shared#opaque"), en P "unicode_iscased" (nat_lit 257) (.builtin "off-the-table:_sre.unicode_iscased:shared#opaque"), en P "ascii_tolower" (nat_lit 258) (.builtin "off-the-table:_sre.ascii_tolower:shared#opaque"), en P "unicode_tolower" (nat_lit 259) (.builtin "off-the-table:_sre.unicode_tolower:shared#opaque"), en P "MAGIC" (nat_lit 261) (.int (Int.ofNat (nat_lit 20230612)) (nat_lit 260)), en P "CODESIZE" (nat_lit 263) (.int (Int.ofNat (nat_lit 4)) (nat_lit 262)), en P "MAXREPEAT" (nat_lit 265) (.int (Int.ofNat (nat_lit 4294967295)) (nat_lit 264)), en P "MAXGROUPS" (nat_lit 267) (.int (Int.ofNat (nat_lit 1073741823)) (nat_lit 266)), en P "copyright" (nat_lit 269) (.str " SRE 2.2.2 Copyright (c) 1997-2002 by Secret Labs AB " (nat_lit 268))] (nat_lit 17) }, { cls := .type "module", dict := some 11 }, { cls := .type "dict", data := .dict #[en P "__module__" (nat_lit 189) (.str "_frozen_importlib" (nat_lit 186)), en P "__firstlineno__" (nat_lit 190) (.int (Int.ofNat (nat_lit 971)) (nat_lit 187)), en P "__doc__" (nat_lit 191) (.builtin "_frozen_importlib.BuiltinImporter.__doc__:str#opaque"), en P "_ORIGIN" (nat_lit 192) (.str "built-in" (nat_lit 188)), en P "find_spec" (nat_lit 193) (.builtin "_frozen_importlib.BuiltinImporter.find_spec#opaque"), en P "create_module" (nat_lit 194) (.builtin "_frozen_importlib.BuiltinImporter.create_module#opaque"), en P "exec_module" (nat_lit 195) (.builtin "_frozen_importlib.BuiltinImporter.exec_module#opaque"), en P "get_code" (nat_lit 196) (.builtin "_frozen_importlib.BuiltinImporter.get_code#opaque"), en P "get_source" (nat_lit 197) (.builtin "_frozen_importlib.BuiltinImporter.get_source#opaque"), en P "is_package" (nat_lit 198) (.builtin "_frozen_importlib.BuiltinImporter.is_package#opaque"), en P "load_module" (nat_lit 199) (.builtin "_frozen_importlib.BuiltinImporter.load_module#opaque"), en P "__static_attributes__" (nat_lit 200) (.ref (nat_lit 15)), en P "__dict__" (nat_lit 202) (.ref (nat_lit 16)), en P "__weakref__" (nat_lit 204) (.ref (nat_lit 17))] (nat_lit 14) }, { cls := .type "type", data := .cls { name := Str.ofString "BuiltinImporter", bases := [Value.type "object"], mro := [Value.ref 14, Value.type "object"], ns := 13, qualname := Str.ofString "BuiltinImporter" } }, tuO [], { cls := .type "getset_descriptor", data := .fields #[.str "__dict__" (nat_lit 201), .ref (nat_lit 14), .builtin "function.__dict__", .builtin "function.__dict__#set"] }, { cls := .type "getset_descriptor", data := .fields #[.str "__weakref__" (nat_lit 203), .ref (nat_lit 14), .builtin "ExceptionGroup.__weakref__", .none] }, { cls := .none, data := .seq #[.int 13 0, .str ⟨(ch "\x06½\n__module__\x06º\x11_frozen_importlib\x06¾\x0f__fi" (ch "rstlineno__\x04»\x00ϋ\x06¿\x07__doc__\t4_frozen_impor" (ch "tlib.BuiltinImporter.__doc__:str#opaque\x06" (ch "À\x07_ORIGIN\x06¼\x08built-in\x06Á\tfind_spec\t2_froze" (ch "n_importlib.BuiltinImporter.find_spec#op" (ch "aque\x06Â\x0dcreate_module\t6_frozen_importlib." (ch "BuiltinImporter.create_module#opaque\x06Ã\x0be" (ch "xec_module\t4_frozen_importlib.BuiltinImp" (ch "orter.exec_module#opaque\x06Ä\x08get_code\t1_fr" (ch "ozen_importlib.BuiltinImporter.get_code#" (ch "opaque\x06Å\nget_source\t3_frozen_importlib.B" (ch "uiltinImporter.get_source#opaque\x06Æ\nis_pa" (ch "ckage\t3_frozen_importlib.BuiltinImporter" (ch ".is_package#opaque\x06Ç\x0bload_module\t4_froze" (ch "n_importlib.BuiltinImporter.load_module#" (ch "opaque\x06È\x15__static_attributes__\x04\x00\x00\x0f\x06Ê\x08__d" (ch "ict__\x04\x00\x00\x10\x06Ì\x0b__weakref__\x04\x00\x00\x11" []))))))))))))))))).toArray⟩ 0, .bool true, .bool true, .str "" 205, .int 21 0, .str ⟨(ch "\x06ã\n__module__\x06Ù\x11_frozen_importlib\x06ä\x0f__fi" (ch "rstlineno__\x04Ú\x00Ȳ\x06å\x07__doc__\t/_frozen_impor" (ch "tlib.ModuleSpec.__doc__:str#opaque\x06æ\x08__i" (ch "nit__\t,_frozen_importlib.ModuleSpec.__in" (ch "it__#opaque\x06ç\x08__repr__\t,_frozen_importli" (ch "b.ModuleSpec.__repr__#opaque\x06è\x06__eq__\t*_" (ch "frozen_importlib.ModuleSpec.__eq__#opaqu" (ch "e\x06é\x06cached\t*_frozen_importlib.ModuleSpec" (ch ".cached#opaque\x06ê\x06parent\t*_frozen_importl" (ch "ib.ModuleSpec.parent#opaque\x06ë\x0chas_locati" (ch "on\t0_frozen_importlib.ModuleSpec.has_loc" (ch "ation#opaque\x06ì\x15__static_attributes__\x04\x00\x00\x17" (ch "\x06î\x08__dict__\x04\x00\x00\x18\x06ð\x0b__weakref__\x04\x00\x00\x19\x06ñ\x08__ha" (ch "sh__\x00" [])))))))))))))).toArray⟩ 0, .bool true, .bool true, .str "" 242] 1 }, { cls := .type "list", data := .seq #[] 0 }, { cls := .type "dict", data := .dict #[en P "name" (nat_lit 208) (.str "_sre" (nat_lit 207)), en P "loader" (nat_lit 209) (.ref (nat_lit 14)), en P "origin" (nat_lit 210) (.str "built-in" (nat_lit 184)), en P "loader_state" (nat_lit 211) (.none), en P "submodule_search_locations" (nat_lit 212) (.none), en P "_uninitialized_submodules" (nat_lit 213) (.ref (nat_lit 19)), en P "_set_fileattr" (nat_lit 214) (.bool false), en P "_cached" (nat_lit 215) (.none), en P "_initializing" (nat_lit 243) (.bool false)] (nat_lit 9) }, { cls := .type "dict", data := .dict #[en P "__module__" (nat_lit 227) (.str "_frozen_importlib" (nat_lit 217)), en P "__firstlineno__" (nat_lit 228) (.int (Int.ofNat (nat_lit 562)) (nat_lit 218)), en P "__doc__" (nat_lit 229) (.builtin "_frozen_importlib.ModuleSpec.__doc__:str#opaque"), en P "__init__" (nat_lit 230) (.builtin "_frozen_importlib.ModuleSpec.__init__#opaque"), en P "__repr__" (nat_lit 231) (.builtin "_frozen_importlib.ModuleSpec.__repr__#opaque"), en P "__eq__" (nat_lit 232) (.builtin "_frozen_importlib.ModuleSpec.__eq__#opaque"), en P "cached" (nat_lit 233) (.builtin "_frozen_importlib.ModuleSpec.cached#opaque"), en P "parent" (nat_lit 234) (.builtin "_frozen_importlib.ModuleSpec.parent#opaque"), en P "has_location" (nat_lit 235) (.builtin "_frozen_importlib.ModuleSpec.has_location#opaque"), en P "__static_attributes__" (nat_lit 236) (.ref (nat_lit 23)), en P "__dict__" (nat_lit 238) (.ref (nat_lit 24)), en P "__weakref__" (nat_lit 240) (.ref (nat_lit 25)), en P "__hash__" (nat_lit 241) (.none)] (nat_lit 13) }, { cls := .type "type", data := .cls { name := Str.ofString "ModuleSpec", bases := [Value.type "object"], mro := [Value.ref 22, Value.type "object"], ns := 21, qualname := Str.ofString "ModuleSpec" } }, tuO [.str "_cached" (nat_lit 219), .str "_set_fileattr" (nat_lit 220), .str "_uninitialized_submodules" (nat_lit 221), .str "loader" (nat_lit 222), .str "loader_state" (nat_lit 223), .str "name" (nat_lit 224), .str "origin" (nat_lit 225), .str "submodule_search_locations" (nat_lit 226)], { cls := .type "getset_descriptor", data := .fields #[.str "__dict__" (nat_lit 237), .ref (nat_lit 22), .builtin "function.__dict__", .builtin "function.__dict__#set"] }, { cls := .type "getset_descriptor", data := .fields #[.str "__weakref__" (nat_lit 239), .ref (nat_lit 22), .builtin "ExceptionGroup.__weakref__", .none] }, { cls := .ref 22, dict := some 20 }, { cls := .none, data := .seq #[.int 11 0, .str ⟨(ch "\x06÷\x08__name__\x06ö\x04_sre\x06ø\x07__doc__\x00\x06ú\x0b__packag" (ch "e__\x06ù\x00\x06û\n__loader__\x04\x00\x00\x0e\x06ü\x08__spec__\x04\x00\x00\x1a\x06ý" (ch "\x07compile\t\x0c_sre.compile\x06þ\x08template\t\x0d_sre." (ch "template\x06ÿ\x0bgetcodesize\t\x10_sre.getcodesize" (ch "\x06Ā\x0dascii_iscased\t\x12_sre.ascii_iscased\x06ā\x0fu" (ch "nicode_iscased\t\x14_sre.unicode_iscased\x06Ă\x0da" (ch "scii_tolower\t\x12_sre.ascii_tolower\x06ă\x0funico" (ch "de_tolower\t\x14_sre.unicode_tolower\x06ą\x05MAGIC" (ch "\x04Ą\x00" (nat_lit 20230612 :: ch "\x06ć\x08CODESIZE\x04Ć\x00\x04\x06ĉ\tMAXREPEAT\x04Ĉ\x00" (nat_lit 4294967295 :: ch "\x06ċ\tMAXGROUPS\x04Ċ\x00" (nat_lit 1073741823 :: ch "\x06č\tcopyright\x06Č5 SRE 2.2.2 Copyright (c) " (ch "1997-2002 by Secret Labs AB " []))))))))))))).toArray⟩ 0, .bool true, .bool false, .str "_sre" 271, .int 29 0, .str ⟨(ch "\x06Ĩ\x08__name__\x06ħ\x0c_collections\x06ĩ\x07__doc__\t\x1f_c" (ch "ollections.__doc__:str#opaque\x06ī\x0b__packag" (ch "e__\x06Ī\x00\x06Ĭ\n__loader__\x04\x00\x00\x0e\x06ĭ\x08__spec__\x04\x00\x00!\x06Į" (ch "\x0f_count_elements\t\x1c_collections._count_el" (ch "ements\x06į\x05deque\x08\x11collections.deque\x06İ\x0bdefa" (ch "ultdict\x08\x17collections.defaultdict\x06ı\x0f_dequ" (ch "e_iterator\x08\x1bcollections._deque_iterator\x06" (ch "Ĳ\x17_deque_reverse_iterator\x08#collections._" (ch "deque_reverse_iterator\x06ĳ\x0c_tuplegetter\x08\x18c" (ch "ollections._tuplegetter\x06Ĵ\x0bOrderedDict\x08\x17c" (ch "ollections.OrderedDict" []))))))))))).toArray⟩ 0, .bool true, .bool false, .str "_collections" 310] 1 }, tuO [.str "deque" (nat_lit 277)], { cls := .type "dict", data := .dict #[en P "__name__" (nat_lit 296) (.str "_collections" (nat_lit 295)), en P "__doc__" (nat_lit 297) (.builtin "off-the-table:_collections.__doc__:shared#opaque"), en P "__package__" (nat_lit 299) (.str "" (nat_lit 298)), en P "__loader__" (nat_lit 300) (.builtin "off-the-table:_collections.__loader__:shared#opaque"), en P "__spec__" (nat_lit 301) (.builtin "off-the-table:_collections.__spec__:shared#opaque"), en P "_count_elements" (nat_lit 302) (.builtin "_collections._count_elements"), en P "deque" (nat_lit 303) (.type "collections.deque"), en P "defaultdict" (nat_lit 304) (.type "collections.defaultdict"), en P "_deque_iterator" (nat_lit 305) (.builtin "off-the-table:_collections._deque_iterator:shared#opaque"), en P "_deque_reverse_iterator" (nat_lit 306) (.builtin "off-the-table:_collections._deque_reverse_iterator:shared#opaque"), en P "_tuplegetter" (nat_lit 307) (.type "collections._tuplegetter"), en P "OrderedDict" (nat_lit 308) (.type "collections.OrderedDict")] (nat_lit 12) }, { cls := .type "module", dict := some 29 }, { cls := .type "list", data := .seq #[] 0 }, { cls := .type "dict", data := .dict #[en P "name" (nat_lit 283) (.str "_collections" (nat_lit 282)), en P "loader" (nat_lit 284) (.ref (nat_lit 14)), en P "origin" (nat_lit 285) (.str "built-in" (nat_lit 281)), en P "loader_state" (nat_lit 286) (.none), en P "submodule_search_locations" (nat_lit 287) (.none), en P "_uninitialized_submodules" (nat_lit 288) (.ref (nat_lit 31)), en P "_set_fileattr" (nat_lit 289) (.bool false), en P "_cached" (nat_lit 290) (.none), en P "_initializing" (nat_lit 291) (.bool false)] (nat_lit 9) }, { cls := .ref 22, dict := some 32 }]]
noncomputable def stF (w : World) : SharedT := ⟨treeOf (stFL w.params), 34, { }, #[], { }, 318, os0⟩
noncomputable def stAL (P : Params) : List Obj := List.flatten [stFL P, [tuO [], flO, cdO "<module>" "<module>" (nat_lit 319) (nat_lit 1) (nat_lit 0) (nat_lit 0) (nat_lit 0) (nat_lit 0) (nat_lit 34) false (nat_lit 35) (.none) (.none) (.none) (.none) (nat_lit 322), { cls := .type "frame", slots := #[some (.ref (nat_lit 36)), some (.ref (nat_lit 3)), some (.ref (nat_lit 3)), none, some (.str "__main__" (nat_lit 164)), none, some (.ref (nat_lit 0))] }]]
noncomputable def stA (w : World) : SharedT := ⟨treeOf (stAL w.params), 38, { }, #[], { }, 324, os0⟩
noncomputable def o76 (P : Params) : Obj := { cls := .type "dict", data := .dict #[en P "__module__" (nat_lit 340) (.str "itertools" (nat_lit 331)), en P "__firstlineno__" (nat_lit 344) (.int (Int.ofNat (nat_lit 7)) (nat_lit 343)), en P "__slots__" (nat_lit 347) (.ref (nat_lit 52)), en P "__init__" (nat_lit 356) (.ref (nat_lit 59)), en P "__iter__" (nat_lit 363) (.ref (nat_lit 66)), en P "__next__" (nat_lit 372) (.ref (nat_lit 73)), en P "__static_attributes__" (nat_lit 375) (.ref (nat_lit 74)), en P "_func" (nat_lit 377) (.ref (nat_lit 78)), en P "_it" (nat_lit 379) (.ref (nat_lit 79)), en P "__doc__" (nat_lit 380) (.none)] (nat_lit 4) }
noncomputable def o77 (P : Params) : Obj := { cls := .type "type", data := .cls { name := Str.ofString "filterfalse", bases := [Value.type "object"], mro := [Value.ref 77, Value.type "object"], ns := 76, qualname := Str.ofString "filterfalse", hasDict := false, slotNames := [Str.ofString "_func", Str.ofString "_it"] }, slots := #[none, none, some (.str "filterfalse" 333), some (.str "filterfalse" 341), some (.builtin "object.__new__"), some (.bool false)] }
noncomputable def o78 (P : Params) : Obj := { cls := .type "member_descriptor", data := .fields #[.str "_func" (nat_lit 376), .ref (nat_lit 77), .builtin "proto.slot", .builtin "proto.slot#set", vi (nat_lit 1)] }
noncomputable def o79 (P : Params) : Obj := { cls := .type "member_descriptor", data := .fields #[.str "_it" (nat_lit 378), .ref (nat_lit 77), .builtin "proto.slot", .builtin "proto.slot#set", vi (nat_lit 0)] }
noncomputable def o92 (P : Params) : Obj := tuO [vi (nat_lit 14), vi (nat_lit 14), vi (nat_lit 4), vi (nat_lit 1), vi (nat_lit 1), vi (nat_lit 9), vi (nat_lit 0), vi (nat_lit 64), vi (nat_lit 0), vi (nat_lit 1342177280), vi (nat_lit 0), vi (nat_lit 0), vi (nat_lit 0), vi (nat_lit 0), vi (nat_lit 0), vi (nat_lit 17), vi (nat_lit 0), vi (nat_lit 13), vi (nat_lit 11), vi (nat_lit 9), vi (nat_lit 0), vi (nat_lit 64), vi (nat_lit 0), vi (nat_lit 1342177280), vi (nat_lit 0), vi (nat_lit 0), vi (nat_lit 0), vi (nat_lit 0), vi (nat_lit 0), vi (nat_lit 17), vi (nat_lit 1), vi (nat_lit 1)]
noncomputable def o93 (P : Params) : Obj := { cls := .type "re.Pattern", data := .fields #[.str "([&~|])" (nat_lit 394), .int (Int.ofNat (nat_lit 32)) (nat_lit 429), vi (nat_lit 1), .none, .none, .ref (nat_lit 92), vi (nat_lit 0)] }
noncomputable def stML (P : Params) : List Obj := List.flatten [setsO (stAL P) [((nat_lit 3), { cls := .type "dict", data := .dict #[en P "__name__" (nat_lit 165) (.str "re" (nat_lit 431)), en P "__doc__" (nat_lit 166) (.none), en P "__package__" (nat_lit 167) (.none), en P "__loader__" (nat_lit 168) (.builtin "__main__.__loader__#opaque"), en P "__spec__" (nat_lit 169) (.none), en P "__annotations__" (nat_lit 170) (.ref (nat_lit 6)), en P "__builtins__" (nat_lit 171) (.ref (nat_lit 4)), en P "__file__" (nat_lit 173) (.str "/claim/cut.py" (nat_lit 172)), en P "__cached__" (nat_lit 174) (.none), en P "_sre" (nat_lit 275) (.ref (nat_lit 12)), en P "deque" (nat_lit 317) (.type "collections.deque"), en P "_wall" (nat_lit 330) (.ref (nat_lit 44)), en P "filterfalse" (nat_lit 382) (.ref (nat_lit 77)), en P "_filter" (nat_lit 392) (.ref (nat_lit 88)), en P "twin_re_1_fnmatch" (nat_lit 430) (.ref (nat_lit 93))] (nat_lit 15) }), ((nat_lit 35), { cls := .none, data := .fields #[vi (nat_lit 3), vi (nat_lit 0), .ref (nat_lit 43), vi (nat_lit 7), vi (nat_lit 0), .ref (nat_lit 50), vi (nat_lit 27), vi (nat_lit 0), .ref (nat_lit 87)] })], fn7 (nat_lit 38) "_wall" "_wall" (atS 2) "__main__" (nat_lit 164) (.none) (nat_lit 324) (nat_lit 3) (nat_lit 1) (nat_lit 0) (nat_lit 0) (nat_lit 3) ["k"], [tuO [], { cls := .type "builtin_function_or_method", data := .fields #[.builtin "type.__prepare__", .type "type"] }, { cls := .type "dict", data := .dict #[en P "__module__" (nat_lit 340) (.str "itertools" (nat_lit 331)), en P "__qualname__" (nat_lit 342) (.str "filterfalse" (nat_lit 341)), en P "__firstlineno__" (nat_lit 344) (.int (Int.ofNat (nat_lit 7)) (nat_lit 343)), en P "__slots__" (nat_lit 347) (.ref (nat_lit 52)), en P "__init__" (nat_lit 356) (.ref (nat_lit 59)), en P "__iter__" (nat_lit 363) (.ref (nat_lit 66)), en P "__next__" (nat_lit 372) (.ref (nat_lit 73)), en P "__static_attributes__" (nat_lit 375) (.ref (nat_lit 74))] (nat_lit 8) }, tuO [], { cls := .none, data := .fields #[vi (nat_lit 10), vi (nat_lit 4), .ref (nat_lit 58), vi (nat_lit 14), vi (nat_lit 4), .ref (nat_lit 65), vi (nat_lit 17), vi (nat_lit 4), .ref (nat_lit 72)] }, cdO "filterfalse" "filterfalse" (nat_lit 335) (nat_lit 7) (nat_lit 0) (nat_lit 0) (nat_lit 0) (nat_lit 0) (nat_lit 48) false (nat_lit 49) (.none) (.none) (.none) (.none) (nat_lit 338), { cls := .type "frame", slots := #[some (.ref (nat_lit 50)), some (.ref (nat_lit 3)), some (.ref (nat_lit 47)), none, some (.str "itertools" (nat_lit 331)), none, some (.ref (nat_lit 0))] }, tuO [.str "_it" (nat_lit 345), .str "_func" (nat_lit 346)]], fn7 (nat_lit 53) "__init__" "filterfalse.__init__" (inS (atS 4) 1) "itertools" (nat_lit 331) (.none) (nat_lit 348) (nat_lit 10) (nat_lit 3) (nat_lit 3) (nat_lit 0) (nat_lit 3) ["self", "function", "iterable"], fn7 (nat_lit 60) "__iter__" "filterfalse.__iter__" (inS (atS 4) 2) "itertools" (nat_lit 331) (.none) (nat_lit 357) (nat_lit 14) (nat_lit 1) (nat_lit 0) (nat_lit 0) (nat_lit 3) ["self"], fn7 (nat_lit 67) "__next__" "filterfalse.__next__" (inS (atS 4) 3) "itertools" (nat_lit 331) (.none) (nat_lit 364) (nat_lit 17) (nat_lit 1) (nat_lit 0) (nat_lit 0) (nat_lit 3) ["self", "func", "item"], [tuO [.str "_func" (nat_lit 373), .str "_it" (nat_lit 374)], { cls := .type "list", data := .seq #[.str "_it" 345, .str "_func" 346] 1 }, o76 P, o77 P, o78 P, o79 P, { cls := .type "super", data := .fields #[.ref (nat_lit 77), .ref (nat_lit 77), .ref (nat_lit 77)] }, { cls := .type "builtin_function_or_method", data := .fields #[.builtin "object.__init_subclass__", .ref (nat_lit 77)] }], fn7 (nat_lit 82) "_filter" "_filter" (atS 6) "cpy313.filecmp" (nat_lit 383) (.none) (nat_lit 385) (nat_lit 27) (nat_lit 2) (nat_lit 0) (nat_lit 0) (nat_lit 3) ["flist", "skip"], [{ cls := .type "list", data := .seq #[.int 14 396, .int 14 397, .int 4 398, .int 1 399, .int 1 400, .int 9 401, .int 0 402, .int 64 403, .int 0 404, .int 1342177280 405, .int 0 406, .int 0 407, .int 0 408, .int 0 409, .int 0 410, .int 17 411, .int 0 412, .int 13 413, .int 11 414, .int 9 415, .int 0 416, .int 64 417, .int 0 418, .int 1342177280 419, .int 0 420, .int 0 421, .int 0 422, .int 0 423, .int 0 424, .int 17 425, .int 1 426, .int 1 427] 0 }, { cls := .type "dict", data := .dict #[] (nat_lit 0) }, tuO [.none, .none], o92 P, o93 P]]
noncomputable def stM (w : World) : SharedT := ⟨treeOf (stML w.params), 94, { }, #[], { }, 433, os0⟩
noncomputable def o95 (P : Params) : Obj := { cls := .type "dict", data := .dict #[⟨40, .int 40 434, .str "\\(" 438⟩, ⟨41, .int 41 440, .str "\\)" 444⟩, ⟨91, .int 91 446, .str "\\[" 450⟩, ⟨93, .int 93 452, .str "\\]" 456⟩, ⟨123, .int 123 458, .str "\\{" 462⟩, ⟨125, .int 125 464, .str "\\}" 468⟩, ⟨63, .int 63 470, .str "\\?" 474⟩, ⟨42, .int 42 476, .str "\\*" 480⟩, ⟨43, .int 43 482, .str "\\+" 486⟩, ⟨45, .int 45 488, .str "\\-" 492⟩, ⟨124, .int 124 494, .str "\\|" 498⟩, ⟨94, .int 94 500, .str "\\^" 504⟩, ⟨36, .int 36 506, .str "\\$" 510⟩, ⟨92, .int 92 512, .str "\\\\" 516⟩, ⟨46, .int 46 518, .str "\\." 522⟩, ⟨38, .int 38 524, .str "\\&" 528⟩, ⟨126, .int 126 530, .str "\\~" 534⟩, ⟨35, .int 35 536, .str "\\#" 540⟩, ⟨32, .int 32 542, .str "\\ " 546⟩, ⟨9, .int 9 548, .str "\\\t" 552⟩, ⟨10, .int 10 554, .str "\\\n" 558⟩, ⟨13, .int 13 560, .str "\\\x0d" 564⟩, ⟨11, .int 11 566, .str "\\\x0b" 570⟩, ⟨12, .int 12 572, .str "\\\x0c" 576⟩] (nat_lit 24) }
noncomputable def stNL (P : Params) : List Obj := List.flatten [setsO (stML P) [((nat_lit 3), { cls := .type "dict", data := .dict #[en P "__name__" (nat_lit 165) (.str "re" (nat_lit 431)), en P "__doc__" (nat_lit 166) (.none), en P "__package__" (nat_lit 167) (.none), en P "__loader__" (nat_lit 168) (.builtin "__main__.__loader__#opaque"), en P "__spec__" (nat_lit 169) (.none), en P "__annotations__" (nat_lit 170) (.ref (nat_lit 6)), en P "__builtins__" (nat_lit 171) (.ref (nat_lit 4)), en P "__file__" (nat_lit 173) (.str "/claim/cut.py" (nat_lit 172)), en P "__cached__" (nat_lit 174) (.none), en P "_sre" (nat_lit 275) (.ref (nat_lit 12)), en P "deque" (nat_lit 317) (.type "collections.deque"), en P "_wall" (nat_lit 330) (.ref (nat_lit 44)), en P "filterfalse" (nat_lit 382) (.ref (nat_lit 77)), en P "_filter" (nat_lit 392) (.ref (nat_lit 88)), en P "twin_re_1_fnmatch" (nat_lit 430) (.ref (nat_lit 93)), en P "_special_chars_map" (nat_lit 578) (.ref (nat_lit 95))] (nat_lit 16) })], [{ cls := .type "bytes_iterator", data := .fields #[.none, vi (nat_lit 24)] }, o95 P, { cls := .type "dict", data := .dict #[] (nat_lit 2) }, tuO [], { cls := .type "StopIteration", data := .fields #[.ref (nat_lit 97), .none, .none, .none, .bool false, .none] }]]
noncomputable def stN (w : World) : SharedT := ⟨treeOf (stNL w.params), 99, { }, #[], { }, 579, os0⟩
noncomputable def o2 (P : Params) : Obj := { cls := .none, data := .dict #[en P "\x69mport.loaded._sre" (nat_lit 183) (.bool true), en P "class._frozen_importlib.BuiltinImporter" (nat_lit 185) (.ref (nat_lit 14)), en P "watched.\x69mport" (nat_lit 206) (.ref (nat_lit 18)), en P "class._frozen_importlib.ModuleSpec" (nat_lit 216) (.ref (nat_lit 22)), en P "sys.modules.booked-epoch" (nat_lit 245) (vi (nat_lit 4)), en P "\x69mport.later-laid._sre" (nat_lit 270) (.bool true), en P "watched.library" (nat_lit 272) (.ref (nat_lit 27)), en P "watched.library-objects" (nat_lit 0) (.str "\x0c\x1e" (nat_lit 0)), en P "watched.library-deep._sre" (nat_lit 273) (.str "\x04\x00\x00\x0b\x04\x00\x00\x0b\x04\x00\x00\x03\x04\x00\x00\x0b\x08\x04dict\x02" (nat_lit 0)), en P "\x69mport.loaded._collections" (nat_lit 280) (.bool true), en P "sys.modules.landed._collections" (nat_lit 294) (.bool true), en P "\x69mport.later-laid._collections" (nat_lit 309) (.bool true), en P "watched.library-deep._collections" (nat_lit 311) (.str "\x04\x00\x00\x1d\x04\x00\x00\x1d\x04\x00\x00\x03\x04\x00\x00\x1d\x08\x04dict\x02" (nat_lit 0)), en P "type.__subclasses__.OSError.0" (nat_lit 683) (vi (nat_lit 141)), en P "type.__subclasses__.OSError.n" (nat_lit 684) (vi (nat_lit 1))] (nat_lit 15) }
noncomputable def o116 (P : Params) : Obj := tuO [vi (nat_lit 14), vi (nat_lit 17), vi (nat_lit 4), vi (nat_lit 1), vi (nat_lit 1), vi (nat_lit 21), vi (nat_lit 9), vi (nat_lit 0), vi (nat_lit 604043296), vi (nat_lit 1), vi (nat_lit 0), vi (nat_lit 0), vi (nat_lit 0), vi (nat_lit 0), vi (nat_lit 0), vi (nat_lit 8), vi (nat_lit 4), vi (nat_lit 0), vi (nat_lit 13), vi (nat_lit 14), vi (nat_lit 21), vi (nat_lit 9), vi (nat_lit 0), vi (nat_lit 604043296), vi (nat_lit 1), vi (nat_lit 0), vi (nat_lit 0), vi (nat_lit 0), vi (nat_lit 0), vi (nat_lit 0), vi (nat_lit 8), vi (nat_lit 4), vi (nat_lit 0), vi (nat_lit 1)]
noncomputable def o117 (P : Params) : Obj := { cls := .type "re.Pattern", data := .fields #[.str "[^\\w@%+=:,./-]" (nat_lit 608), .int (Int.ofNat (nat_lit 256)) (nat_lit 645), vi (nat_lit 0), .none, .none, .ref (nat_lit 116), vi (nat_lit 0)] }
noncomputable def o160 (P : Params) : Obj := { cls := .type "dict", data := .dict #[en P "__module__" (nat_lit 694) (.str "io" (nat_lit 699)), en P "__firstlineno__" (nat_lit 698) (.int (Int.ofNat (nat_lit 117)) (nat_lit 697)), en P "__new__" (nat_lit 709) (.ref (nat_lit 162)), en P "__static_attributes__" (nat_lit 710) (.ref (nat_lit 159)), en P "__dict__" (nat_lit 713) (.ref (nat_lit 163)), en P "__weakref__" (nat_lit 715) (.ref (nat_lit 164)), en P "__doc__" (nat_lit 716) (.none)] (nat_lit 4) }
noncomputable def o161 (P : Params) : Obj := { cls := .type "type", data := .cls { name := Str.ofString "IOBase", bases := [Value.type "object"], mro := [Value.ref 161, Value.type "object"], ns := 160, qualname := Str.ofString "IOBase", subclasses := [Value.ref 176, Value.ref 188] }, slots := #[none, none, some (.str "IOBase" 687), some (.str "IOBase" 695), some (.none), some (.bool true)] }
noncomputable def o162 (P : Params) : Obj := { cls := .type "staticmethod", data := .fields #[.ref (nat_lit 158)] }
noncomputable def o187 (P : Params) : Obj := { cls := .type "dict", data := .dict #[en P "__module__" (nat_lit 744) (.str "io" (nat_lit 749)), en P "__firstlineno__" (nat_lit 748) (.int (Int.ofNat (nat_lit 126)) (nat_lit 747)), en P "__static_attributes__" (nat_lit 751) (.ref (nat_lit 186)), en P "__doc__" (nat_lit 752) (.none)] (nat_lit 2) }
noncomputable def o417 (P : Params) : Obj := { cls := .type "dict", data := .dict #[en P "__module__" (nat_lit 762) (.str "_io" (nat_lit 767)), en P "__firstlineno__" (nat_lit 766) (.int (Int.ofNat (nat_lit 128)) (nat_lit 765)), en P "__init__" (nat_lit 776) (.ref (nat_lit 205)), en P "_BytesIO__check" (nat_lit 783) (.ref (nat_lit 212)), en P "_BytesIO__line" (nat_lit 794) (.ref (nat_lit 219)), en P "closed" (nat_lit 802) (.ref (nat_lit 227)), en P "close" (nat_lit 809) (.ref (nat_lit 234)), en P "__enter__" (nat_lit 816) (.ref (nat_lit 241)), en P "__exit__" (nat_lit 824) (.ref (nat_lit 248)), en P "readable" (nat_lit 831) (.ref (nat_lit 255)), en P "writable" (nat_lit 838) (.ref (nat_lit 262)), en P "seekable" (nat_lit 845) (.ref (nat_lit 269)), en P "isatty" (nat_lit 852) (.ref (nat_lit 276)), en P "flush" (nat_lit 859) (.ref (nat_lit 283)), en P "fileno" (nat_lit 866) (.ref (nat_lit 290)), en P "detach" (nat_lit 873) (.ref (nat_lit 297)), en P "getvalue" (nat_lit 880) (.ref (nat_lit 304)), en P "getbuffer" (nat_lit 887) (.ref (nat_lit 311)), en P "tell" (nat_lit 894) (.ref (nat_lit 318)), en P "seek" (nat_lit 904) (.ref (nat_lit 326)), en P "truncate" (nat_lit 912) (.ref (nat_lit 334)), en P "read" (nat_lit 924) (.ref (nat_lit 342)), en P "read1" (nat_lit 934) (.ref (nat_lit 350)), en P "readinto" (nat_lit 944) (.ref (nat_lit 357)), en P "readinto1" (nat_lit 952) (.ref (nat_lit 364)), en P "readline" (nat_lit 962) (.ref (nat_lit 372)), en P "readlines" (nat_lit 970) (.ref (nat_lit 380)), en P "__iter__" (nat_lit 977) (.ref (nat_lit 387)), en P "__next__" (nat_lit 985) (.ref (nat_lit 394)), en P "write" (nat_lit 995) (.ref (nat_lit 401)), en P "writelines" (nat_lit 1003) (.ref (nat_lit 408)), en P "__repr__" (nat_lit 1010) (.ref (nat_lit 415)), en P "__static_attributes__" (nat_lit 1013) (.ref (nat_lit 416)), en P "__doc__" (nat_lit 1014) (.none)] (nat_lit 2) }
noncomputable def o418 (P : Params) : Obj := { cls := .type "type", data := .cls { name := Str.ofString "BytesIO", bases := [Value.ref 176], mro := [Value.ref 418, Value.ref 176, Value.ref 161, Value.type "object"], ns := 417, qualname := Str.ofString "BytesIO" }, slots := #[some (.ref 191), none, some (.str "BytesIO" 755), some (.str "BytesIO" 763), some (.none), some (.bool true)] }
noncomputable def stPL (P : Params) : List Obj := List.flatten [setsO (stNL P) [((nat_lit 2), o2 P), ((nat_lit 3), { cls := .type "dict", data := .dict #[en P "__name__" (nat_lit 165) (.str "io" (nat_lit 647)), en P "__doc__" (nat_lit 166) (.none), en P "__package__" (nat_lit 167) (.none), en P "__loader__" (nat_lit 168) (.builtin "__main__.__loader__#opaque"), en P "__spec__" (nat_lit 169) (.none), en P "__annotations__" (nat_lit 170) (.ref (nat_lit 6)), en P "__builtins__" (nat_lit 171) (.ref (nat_lit 4)), en P "__file__" (nat_lit 173) (.str "/claim/cut.py" (nat_lit 172)), en P "__cached__" (nat_lit 174) (.none), en P "_sre" (nat_lit 275) (.ref (nat_lit 12)), en P "deque" (nat_lit 317) (.type "collections.deque"), en P "_wall" (nat_lit 330) (.ref (nat_lit 44)), en P "filterfalse" (nat_lit 382) (.ref (nat_lit 77)), en P "_filter" (nat_lit 392) (.ref (nat_lit 88)), en P "twin_re_1_fnmatch" (nat_lit 430) (.ref (nat_lit 93)), en P "_special_chars_map" (nat_lit 578) (.ref (nat_lit 95)), en P "escape" (nat_lit 585) (.ref (nat_lit 105)), en P "_translate" (nat_lit 606) (.ref (nat_lit 112)), en P "twin_re_1_shlex" (nat_lit 646) (.ref (nat_lit 117)), en P "_whence" (nat_lit 656) (.ref (nat_lit 124)), en P "_index" (nat_lit 664) (.ref (nat_lit 131)), en P "UnsupportedOperation" (nat_lit 686) (.ref (nat_lit 141)), en P "IOBase" (nat_lit 718) (.ref (nat_lit 161)), en P "BufferedIOBase" (nat_lit 736) (.ref (nat_lit 176)), en P "TextIOBase" (nat_lit 754) (.ref (nat_lit 188)), en P "BytesIO" (nat_lit 1016) (.ref (nat_lit 418))] (nat_lit 26) }), ((nat_lit 35), { cls := .none, data := .fields #[vi (nat_lit 3), vi (nat_lit 0), .ref (nat_lit 43), vi (nat_lit 7), vi (nat_lit 0), .ref (nat_lit 50), vi (nat_lit 27), vi (nat_lit 0), .ref (nat_lit 87), vi (nat_lit 32), vi (nat_lit 0), .ref (nat_lit 104), vi (nat_lit 39), vi (nat_lit 0), .ref (nat_lit 111), vi (nat_lit 103), vi (nat_lit 0), .ref (nat_lit 123), vi (nat_lit 108), vi (nat_lit 0), .ref (nat_lit 130), vi (nat_lit 115), vi (nat_lit 0), .ref (nat_lit 137), vi (nat_lit 117), vi (nat_lit 0), .ref (nat_lit 150), vi (nat_lit 124), vi (nat_lit 0), .ref (nat_lit 172), vi (nat_lit 126), vi (nat_lit 0), .ref (nat_lit 184), vi (nat_lit 128), vi (nat_lit 0), .ref (nat_lit 196)] })], fn7 (nat_lit 99) "escape" "escape" (atS 10) "re" (nat_lit 431) (.none) (nat_lit 579) (nat_lit 32) (nat_lit 1) (nat_lit 0) (nat_lit 0) (nat_lit 3) ["pattern"], fn7 (nat_lit 106) "_translate" "_translate" (atS 12) "cpy313.fnmatch" (nat_lit 586) (.none) (nat_lit 588) (nat_lit 39) (nat_lit 3) (nat_lit 0) (nat_lit 0) (nat_lit 3) ["pat", "STAR", "QUESTION_MARK", "res", "add", "i", "n", "c", "j", "stuff", "chunks", "k", "chunk"], [{ cls := .type "list", data := .seq #[.int 14 610, .int 17 611, .int 4 612, .int 1 613, .int 1 614, .int 21 615, .int 9 616, .int 0 617, .int 604043296 618, .int 1 619, .int 0 620, .int 0 621, .int 0 622, .int 0 623, .int 0 624, .int 8 625, .int 4 626, .int 0 627, .int 13 628, .int 14 629, .int 21 630, .int 9 631, .int 0 632, .int 604043296 633, .int 1 634, .int 0 635, .int 0 636, .int 0 637, .int 0 638, .int 0 639, .int 8 640, .int 4 641, .int 0 642, .int 1 643] 0 }, { cls := .type "dict", data := .dict #[] (nat_lit 0) }, tuO [.none], o116 P, o117 P], fn7 (nat_lit 118) "_whence" "_whence" (atS 15) "io" (nat_lit 647) (.none) (nat_lit 649) (nat_lit 103) (nat_lit 2) (nat_lit 0) (nat_lit 0) (nat_lit 3) ["n", "what"], fn7 (nat_lit 125) "_index" "_index" (atS 16) "io" (nat_lit 647) (.none) (nat_lit 657) (nat_lit 108) (nat_lit 2) (nat_lit 0) (nat_lit 0) (nat_lit 3) ["n", "what"], [tuO [.type "OSError", .type "ValueError"], { cls := .type "builtin_function_or_method", data := .fields #[.builtin "type.__prepare__", .type "type"] }, { cls := .type "dict", data := .dict #[en P "__module__" (nat_lit 672) (.str "io" (nat_lit 677)), en P "__qualname__" (nat_lit 674) (.str "UnsupportedOperation" (nat_lit 673)), en P "__firstlineno__" (nat_lit 676) (.int (Int.ofNat (nat_lit 115)) (nat_lit 675)), en P "__static_attributes__" (nat_lit 679) (.ref (nat_lit 139))] (nat_lit 4) }, tuO [], flO, cdO "UnsupportedOperation" "UnsupportedOperation" (nat_lit 667) (nat_lit 115) (nat_lit 0) (nat_lit 0) (nat_lit 0) (nat_lit 0) (nat_lit 135) false (nat_lit 136) (.none) (.none) (.none) (.none) (nat_lit 670), { cls := .type "frame", slots := #[some (.ref (nat_lit 137)), some (.ref (nat_lit 3)), some (.ref (nat_lit 134)), none, some (.str "io" (nat_lit 647)), none, some (.ref (nat_lit 0))] }, tuO [], { cls := .type "dict", data := .dict #[en P "__module__" (nat_lit 672) (.str "io" (nat_lit 677)), en P "__firstlineno__" (nat_lit 676) (.int (Int.ofNat (nat_lit 115)) (nat_lit 675)), en P "__static_attributes__" (nat_lit 679) (.ref (nat_lit 139)), en P "__weakref__" (nat_lit 681) (.ref (nat_lit 142)), en P "__doc__" (nat_lit 682) (.none)] (nat_lit 3) }, { cls := .type "type", data := .cls { name := Str.ofString "UnsupportedOperation", bases := [Value.type "OSError", Value.type "ValueError"], mro := [Value.ref 141, Value.type "OSError", Value.type "ValueError", Value.type "Exception", Value.type "BaseException", Value.type "object"], ns := 140, qualname := Str.ofString "UnsupportedOperation" }, slots := #[some (.ref 132), none, some (.str "UnsupportedOperation" 665), some (.str "UnsupportedOperation" 673), some (.builtin "OSError.__new__"), some (.bool true)] }, { cls := .type "getset_descriptor", data := .fields #[.str "__weakref__" (nat_lit 680), .ref (nat_lit 141), .builtin "ExceptionGroup.__weakref__", .none] }, { cls := .type "super", data := .fields #[.ref (nat_lit 141), .ref (nat_lit 141), .ref (nat_lit 141)] }, { cls := .type "builtin_function_or_method", data := .fields #[.builtin "object.__init_subclass__", .ref (nat_lit 141)] }, tuO [], { cls := .type "builtin_function_or_method", data := .fields #[.builtin "type.__prepare__", .type "type"] }, { cls := .type "dict", data := .dict #[en P "__module__" (nat_lit 694) (.str "io" (nat_lit 699)), en P "__qualname__" (nat_lit 696) (.str "IOBase" (nat_lit 695)), en P "__firstlineno__" (nat_lit 698) (.int (Int.ofNat (nat_lit 117)) (nat_lit 697)), en P "__new__" (nat_lit 709) (.ref (nat_lit 158)), en P "__static_attributes__" (nat_lit 710) (.ref (nat_lit 159))] (nat_lit 5) }, tuO [], { cls := .none, data := .fields #[vi (nat_lit 120), vi (nat_lit 4), .ref (nat_lit 157)] }, cdO "IOBase" "IOBase" (nat_lit 689) (nat_lit 117) (nat_lit 0) (nat_lit 0) (nat_lit 0) (nat_lit 0) (nat_lit 148) false (nat_lit 149) (.none) (.none) (.none) (.none) (nat_lit 692), { cls := .type "frame", slots := #[some (.ref (nat_lit 150)), some (.ref (nat_lit 3)), some (.ref (nat_lit 147)), none, some (.str "io" (nat_lit 647)), none, some (.ref (nat_lit 0))] }], fn7 (nat_lit 152) "__new__" "IOBase.__new__" (inS (atS 18) 1) "io" (nat_lit 647) (.none) (nat_lit 701) (nat_lit 120) (nat_lit 1) (nat_lit 1) (nat_lit 0) (nat_lit 15) ["cls", "args", "kwargs"], [tuO [], o160 P, o161 P, o162 P, { cls := .type "getset_descriptor", data := .fields #[.str "__dict__" (nat_lit 712), .ref (nat_lit 161), .builtin "function.__dict__", .builtin "function.__dict__#set"] }, { cls := .type "getset_descriptor", data := .fields #[.str "__weakref__" (nat_lit 714), .ref (nat_lit 161), .builtin "ExceptionGroup.__weakref__", .none] }, { cls := .type "super", data := .fields #[.ref (nat_lit 161), .ref (nat_lit 161), .ref (nat_lit 161)] }, { cls := .type "builtin_function_or_method", data := .fields #[.builtin "object.__init_subclass__", .ref (nat_lit 161)] }, tuO [.ref (nat_lit 161)], { cls := .type "builtin_function_or_method", data := .fields #[.builtin "type.__prepare__", .type "type"] }, { cls := .type "dict", data := .dict #[en P "__module__" (nat_lit 726) (.str "io" (nat_lit 731)), en P "__qualname__" (nat_lit 728) (.str "BufferedIOBase" (nat_lit 727)), en P "__firstlineno__" (nat_lit 730) (.int (Int.ofNat (nat_lit 124)) (nat_lit 729)), en P "__static_attributes__" (nat_lit 733) (.ref (nat_lit 174))] (nat_lit 4) }, tuO [], flO, cdO "BufferedIOBase" "BufferedIOBase" (nat_lit 721) (nat_lit 124) (nat_lit 0) (nat_lit 0) (nat_lit 0) (nat_lit 0) (nat_lit 170) false (nat_lit 171) (.none) (.none) (.none) (.none) (nat_lit 724), { cls := .type "frame", slots := #[some (.ref (nat_lit 172)), some (.ref (nat_lit 3)), some (.ref (nat_lit 169)), none, some (.str "io" (nat_lit 647)), none, some (.ref (nat_lit 0))] }, tuO [], { cls := .type "dict", data := .dict #[en P "__module__" (nat_lit 726) (.str "io" (nat_lit 731)), en P "__firstlineno__" (nat_lit 730) (.int (Int.ofNat (nat_lit 124)) (nat_lit 729)), en P "__static_attributes__" (nat_lit 733) (.ref (nat_lit 174)), en P "__doc__" (nat_lit 734) (.none)] (nat_lit 2) }, { cls := .type "type", data := .cls { name := Str.ofString "BufferedIOBase", bases := [Value.ref 161], mro := [Value.ref 176, Value.ref 161, Value.type "object"], ns := 175, qualname := Str.ofString "BufferedIOBase", subclasses := [Value.ref 418] }, slots := #[some (.ref 167), none, some (.str "BufferedIOBase" 719), some (.str "BufferedIOBase" 727), some (.none), some (.bool true)] }, { cls := .type "super", data := .fields #[.ref (nat_lit 176), .ref (nat_lit 176), .ref (nat_lit 176)] }, { cls := .type "builtin_function_or_method", data := .fields #[.builtin "object.__init_subclass__", .ref (nat_lit 176)] }, tuO [.ref (nat_lit 161)], { cls := .type "builtin_function_or_method", data := .fields #[.builtin "type.__prepare__", .type "type"] }, { cls := .type "dict", data := .dict #[en P "__module__" (nat_lit 744) (.str "io" (nat_lit 749)), en P "__qualname__" (nat_lit 746) (.str "TextIOBase" (nat_lit 745)), en P "__firstlineno__" (nat_lit 748) (.int (Int.ofNat (nat_lit 126)) (nat_lit 747)), en P "__static_attributes__" (nat_lit 751) (.ref (nat_lit 186))] (nat_lit 4) }, tuO [], flO, cdO "TextIOBase" "TextIOBase" (nat_lit 739) (nat_lit 126) (nat_lit 0) (nat_lit 0) (nat_lit 0) (nat_lit 0) (nat_lit 182) false (nat_lit 183) (.none) (.none) (.none) (.none) (nat_lit 742), { cls := .type "frame", slots := #[some (.ref (nat_lit 184)), some (.ref (nat_lit 3)), some (.ref (nat_lit 181)), none, some (.str "io" (nat_lit 647)), none, some (.ref (nat_lit 0))] }, tuO [], o187 P, { cls := .type "type", data := .cls { name := Str.ofString "TextIOBase", bases := [Value.ref 161], mro := [Value.ref 188, Value.ref 161, Value.type "object"], ns := 187, qualname := Str.ofString "TextIOBase" }, slots := #[some (.ref 179), none, some (.str "TextIOBase" 737), some (.str "TextIOBase" 745), some (.none), some (.bool true)] }, { cls := .type "super", data := .fields #[.ref (nat_lit 188), .ref (nat_lit 188), .ref (nat_lit 188)] }, { cls := .type "builtin_function_or_method", data := .fields #[.builtin "object.__init_subclass__", .ref (nat_lit 188)] }, tuO [.ref (nat_lit 176)], { cls := .type "builtin_function_or_method", data := .fields #[.builtin "type.__prepare__", .type "type"] }, { cls := .type "dict", data := .dict #[en P "__module__" (nat_lit 762) (.str "_io" (nat_lit 767)), en P "__qualname__" (nat_lit 764) (.str "BytesIO" (nat_lit 763)), en P "__firstlineno__" (nat_lit 766) (.int (Int.ofNat (nat_lit 128)) (nat_lit 765)), en P "__init__" (nat_lit 776) (.ref (nat_lit 205)), en P "_BytesIO__check" (nat_lit 783) (.ref (nat_lit 212)), en P "_BytesIO__line" (nat_lit 794) (.ref (nat_lit 219)), en P "closed" (nat_lit 802) (.ref (nat_lit 227)), en P "close" (nat_lit 809) (.ref (nat_lit 234)), en P "__enter__" (nat_lit 816) (.ref (nat_lit 241)), en P "__exit__" (nat_lit 824) (.ref (nat_lit 248)), en P "readable" (nat_lit 831) (.ref (nat_lit 255)), en P "writable" (nat_lit 838) (.ref (nat_lit 262)), en P "seekable" (nat_lit 845) (.ref (nat_lit 269)), en P "isatty" (nat_lit 852) (.ref (nat_lit 276)), en P "flush" (nat_lit 859) (.ref (nat_lit 283)), en P "fileno" (nat_lit 866) (.ref (nat_lit 290)), en P "detach" (nat_lit 873) (.ref (nat_lit 297)), en P "getvalue" (nat_lit 880) (.ref (nat_lit 304)), en P "getbuffer" (nat_lit 887) (.ref (nat_lit 311)), en P "tell" (nat_lit 894) (.ref (nat_lit 318)), en P "seek" (nat_lit 904) (.ref (nat_lit 326)), en P "truncate" (nat_lit 912) (.ref (nat_lit 334)), en P "read" (nat_lit 924) (.ref (nat_lit 342)), en P "read1" (nat_lit 934) (.ref (nat_lit 350)), en P "readinto" (nat_lit 944) (.ref (nat_lit 357)), en P "readinto1" (nat_lit 952) (.ref (nat_lit 364)), en P "readline" (nat_lit 962) (.ref (nat_lit 372)), en P "readlines" (nat_lit 970) (.ref (nat_lit 380)), en P "__iter__" (nat_lit 977) (.ref (nat_lit 387)), en P "__next__" (nat_lit 985) (.ref (nat_lit 394)), en P "write" (nat_lit 995) (.ref (nat_lit 401)), en P "writelines" (nat_lit 1003) (.ref (nat_lit 408)), en P "__repr__" (nat_lit 1010) (.ref (nat_lit 415)), en P "__static_attributes__" (nat_lit 1013) (.ref (nat_lit 416))] (nat_lit 34) }, tuO [], { cls := .none, data := .fields #[vi (nat_lit 131), vi (nat_lit 4), .ref (nat_lit 204), vi (nat_lit 137), vi (nat_lit 4), .ref (nat_lit 211), vi (nat_lit 141), vi (nat_lit 4), .ref (nat_lit 218), vi (nat_lit 155), vi (nat_lit 4), .ref (nat_lit 225), vi (nat_lit 158), vi (nat_lit 4), .ref (nat_lit 233), vi (nat_lit 161), vi (nat_lit 4), .ref (nat_lit 240), vi (nat_lit 165), vi (nat_lit 4), .ref (nat_lit 247), vi (nat_lit 168), vi (nat_lit 4), .ref (nat_lit 254), vi (nat_lit 172), vi (nat_lit 4), .ref (nat_lit 261), vi (nat_lit 176), vi (nat_lit 4), .ref (nat_lit 268), vi (nat_lit 180), vi (nat_lit 4), .ref (nat_lit 275), vi (nat_lit 184), vi (nat_lit 4), .ref (nat_lit 282), vi (nat_lit 187), vi (nat_lit 4), .ref (nat_lit 289), vi (nat_lit 190), vi (nat_lit 4), .ref (nat_lit 296), vi (nat_lit 193), vi (nat_lit 4), .ref (nat_lit 303), vi (nat_lit 196), vi (nat_lit 4), .ref (nat_lit 310), vi (nat_lit 199), vi (nat_lit 4), .ref (nat_lit 317), vi (nat_lit 203), vi (nat_lit 4), .ref (nat_lit 325), vi (nat_lit 220), vi (nat_lit 4), .ref (nat_lit 333), vi (nat_lit 223), vi (nat_lit 4), .ref (nat_lit 341), vi (nat_lit 237), vi (nat_lit 4), .ref (nat_lit 349), vi (nat_lit 240), vi (nat_lit 4), .ref (nat_lit 356), vi (nat_lit 254), vi (nat_lit 4), .ref (nat_lit 363), vi (nat_lit 257), vi (nat_lit 4), .ref (nat_lit 371), vi (nat_lit 264), vi (nat_lit 4), .ref (nat_lit 379), vi (nat_lit 267), vi (nat_lit 4), .ref (nat_lit 386), vi (nat_lit 270), vi (nat_lit 4), .ref (nat_lit 393), vi (nat_lit 277), vi (nat_lit 4), .ref (nat_lit 400), vi (nat_lit 293), vi (nat_lit 4), .ref (nat_lit 407), vi (nat_lit 296), vi (nat_lit 4), .ref (nat_lit 414)] }, cdO "BytesIO" "BytesIO" (nat_lit 757) (nat_lit 128) (nat_lit 0) (nat_lit 0) (nat_lit 0) (nat_lit 0) (nat_lit 194) false (nat_lit 195) (.none) (.none) (.none) (.none) (nat_lit 760), { cls := .type "frame", slots := #[some (.ref (nat_lit 196)), some (.ref (nat_lit 3)), some (.ref (nat_lit 193)), none, some (.str "io" (nat_lit 647)), none, some (.ref (nat_lit 0))] }, tuO [.none]], fn7 (nat_lit 199) "__init__" "BytesIO.__init__" (inS (atS 21) 1) "io" (nat_lit 647) (.ref (nat_lit 198)) (nat_lit 769) (nat_lit 131) (nat_lit 2) (nat_lit 0) (nat_lit 0) (nat_lit 3) ["self", "initial_bytes"], fn7 (nat_lit 206) "__check" "BytesIO.__check" (inS (atS 21) 2) "io" (nat_lit 647) (.none) (nat_lit 777) (nat_lit 137) (nat_lit 1) (nat_lit 0) (nat_lit 0) (nat_lit 3) ["self"], fn7 (nat_lit 213) "__line" "BytesIO.__line" (inS (atS 21) 3) "io" (nat_lit 647) (.none) (nat_lit 784) (nat_lit 141) (nat_lit 2) (nat_lit 0) (nat_lit 0) (nat_lit 3) ["self", "limit", "start", "stop", "i"], fn7 (nat_lit 220) "closed" "BytesIO.closed" (inS (atS 21) 4) "io" (nat_lit 647) (.none) (nat_lit 795) (nat_lit 154) (nat_lit 1) (nat_lit 0) (nat_lit 0) (nat_lit 3) ["self"], [{ cls := .type "property", data := .fields #[.ref (nat_lit 226), .none, .none, .none, .str "closed" (nat_lit 802), .bool false] }], fn7 (nat_lit 228) "close" "BytesIO.close" (inS (atS 21) 5) "io" (nat_lit 647) (.none) (nat_lit 803) (nat_lit 158) (nat_lit 1) (nat_lit 0) (nat_lit 0) (nat_lit 3) ["self"], fn7 (nat_lit 235) "__enter__" "BytesIO.__enter__" (inS (atS 21) 6) "io" (nat_lit 647) (.none) (nat_lit 810) (nat_lit 161) (nat_lit 1) (nat_lit 0) (nat_lit 0) (nat_lit 3) ["self"], fn7 (nat_lit 242) "__exit__" "BytesIO.__exit__" (inS (atS 21) 7) "io" (nat_lit 647) (.none) (nat_lit 817) (nat_lit 165) (nat_lit 1) (nat_lit 0) (nat_lit 0) (nat_lit 7) ["self", "args"], fn7 (nat_lit 249) "readable" "BytesIO.readable" (inS (atS 21) 8) "io" (nat_lit 647) (.none) (nat_lit 825) (nat_lit 168) (nat_lit 1) (nat_lit 0) (nat_lit 0) (nat_lit 3) ["self"], fn7 (nat_lit 256) "writable" "BytesIO.writable" (inS (atS 21) 9) "io" (nat_lit 647) (.none) (nat_lit 832) (nat_lit 172) (nat_lit 1) (nat_lit 0) (nat_lit 0) (nat_lit 3) ["self"], fn7 (nat_lit 263) "seekable" "BytesIO.seekable" (inS (atS 21) 10) "io" (nat_lit 647) (.none) (nat_lit 839) (nat_lit 176) (nat_lit 1) (nat_lit 0) (nat_lit 0) (nat_lit 3) ["self"], fn7 (nat_lit 270) "isatty" "BytesIO.isatty" (inS (atS 21) 11) "io" (nat_lit 647) (.none) (nat_lit 846) (nat_lit 180) (nat_lit 1) (nat_lit 0) (nat_lit 0) (nat_lit 3) ["self"], fn7 (nat_lit 277) "flush" "BytesIO.flush" (inS (atS 21) 12) "io" (nat_lit 647) (.none) (nat_lit 853) (nat_lit 184) (nat_lit 1) (nat_lit 0) (nat_lit 0) (nat_lit 3) ["self"], fn7 (nat_lit 284) "fileno" "BytesIO.fileno" (inS (atS 21) 13) "io" (nat_lit 647) (.none) (nat_lit 860) (nat_lit 187) (nat_lit 1) (nat_lit 0) (nat_lit 0) (nat_lit 3) ["self"], fn7 (nat_lit 291) "detach" "BytesIO.detach" (inS (atS 21) 14) "io" (nat_lit 647) (.none) (nat_lit 867) (nat_lit 190) (nat_lit 1) (nat_lit 0) (nat_lit 0) (nat_lit 3) ["self"], fn7 (nat_lit 298) "getvalue" "BytesIO.getvalue" (inS (atS 21) 15) "io" (nat_lit 647) (.none) (nat_lit 874) (nat_lit 193) (nat_lit 1) (nat_lit 0) (nat_lit 0) (nat_lit 3) ["self"], fn7 (nat_lit 305) "getbuffer" "BytesIO.getbuffer" (inS (atS 21) 16) "io" (nat_lit 647) (.none) (nat_lit 881) (nat_lit 196) (nat_lit 1) (nat_lit 0) (nat_lit 0) (nat_lit 3) ["self"], fn7 (nat_lit 312) "tell" "BytesIO.tell" (inS (atS 21) 17) "io" (nat_lit 647) (.none) (nat_lit 888) (nat_lit 199) (nat_lit 1) (nat_lit 0) (nat_lit 0) (nat_lit 3) ["self"], [tuO [.int (Int.ofNat (nat_lit 0)) (nat_lit 895)]], fn7 (nat_lit 320) "seek" "BytesIO.seek" (inS (atS 21) 18) "io" (nat_lit 647) (.ref (nat_lit 319)) (nat_lit 896) (nat_lit 203) (nat_lit 3) (nat_lit 3) (nat_lit 0) (nat_lit 3) ["self", "pos", "whence"], [tuO [.none]], fn7 (nat_lit 328) "truncate" "BytesIO.truncate" (inS (atS 21) 19) "io" (nat_lit 647) (.ref (nat_lit 327)) (nat_lit 905) (nat_lit 220) (nat_lit 2) (nat_lit 2) (nat_lit 0) (nat_lit 3) ["self", "size"], [tuO [.int (-1) 914]], fn7 (nat_lit 336) "read" "BytesIO.read" (inS (atS 21) 20) "io" (nat_lit 647) (.ref (nat_lit 335)) (nat_lit 915) (nat_lit 223) (nat_lit 2) (nat_lit 2) (nat_lit 0) (nat_lit 3) ["self", "size", "start", "stop"], [tuO [.int (-1) 926]], fn7 (nat_lit 344) "read1" "BytesIO.read1" (inS (atS 21) 21) "io" (nat_lit 647) (.ref (nat_lit 343)) (nat_lit 927) (nat_lit 237) (nat_lit 2) (nat_lit 2) (nat_lit 0) (nat_lit 3) ["self", "size"], fn7 (nat_lit 351) "readinto" "BytesIO.readinto" (inS (atS 21) 22) "io" (nat_lit 647) (.none) (nat_lit 935) (nat_lit 240) (nat_lit 2) (nat_lit 2) (nat_lit 0) (nat_lit 3) ["self", "buffer", "start", "n"], fn7 (nat_lit 358) "readinto1" "BytesIO.readinto1" (inS (atS 21) 23) "io" (nat_lit 647) (.none) (nat_lit 945) (nat_lit 254) (nat_lit 2) (nat_lit 2) (nat_lit 0) (nat_lit 3) ["self", "buffer"], [tuO [.int (-1) 954]], fn7 (nat_lit 366) "readline" "BytesIO.readline" (inS (atS 21) 24) "io" (nat_lit 647) (.ref (nat_lit 365)) (nat_lit 955) (nat_lit 257) (nat_lit 2) (nat_lit 2) (nat_lit 0) (nat_lit 3) ["self", "size"], [tuO [.none]], fn7 (nat_lit 374) "readlines" "BytesIO.readlines" (inS (atS 21) 25) "io" (nat_lit 647) (.ref (nat_lit 373)) (nat_lit 963) (nat_lit 264) (nat_lit 2) (nat_lit 2) (nat_lit 0) (nat_lit 3) ["self", "size"], fn7 (nat_lit 381) "__iter__" "BytesIO.__iter__" (inS (atS 21) 26) "io" (nat_lit 647) (.none) (nat_lit 971) (nat_lit 267) (nat_lit 1) (nat_lit 0) (nat_lit 0) (nat_lit 3) ["self"], fn7 (nat_lit 388) "__next__" "BytesIO.__next__" (inS (atS 21) 27) "io" (nat_lit 647) (.none) (nat_lit 978) (nat_lit 270) (nat_lit 1) (nat_lit 0) (nat_lit 0) (nat_lit 3) ["self", "line"], fn7 (nat_lit 395) "write" "BytesIO.write" (inS (atS 21) 28) "io" (nat_lit 647) (.none) (nat_lit 986) (nat_lit 277) (nat_lit 2) (nat_lit 2) (nat_lit 0) (nat_lit 3) ["self", "b", "n", "start"], fn7 (nat_lit 402) "writelines" "BytesIO.writelines" (inS (atS 21) 29) "io" (nat_lit 647) (.none) (nat_lit 996) (nat_lit 293) (nat_lit 2) (nat_lit 2) (nat_lit 0) (nat_lit 3) ["self", "lines"], fn7 (nat_lit 409) "__repr__" "BytesIO.__repr__" (inS (atS 21) 30) "io" (nat_lit 647) (.none) (nat_lit 1004) (nat_lit 296) (nat_lit 1) (nat_lit 0) (nat_lit 0) (nat_lit 3) ["self"], [tuO [.str "__buf" (nat_lit 1011), .str "__pos" (nat_lit 1012)], o417 P, o418 P, { cls := .type "super", data := .fields #[.ref (nat_lit 418), .ref (nat_lit 418), .ref (nat_lit 418)] }, { cls := .type "builtin_function_or_method", data := .fields #[.builtin "object.__init_subclass__", .ref (nat_lit 418)] }]]
noncomputable def stP (w : World) : SharedT := ⟨treeOf (stPL w.params), 421, { }, #[], { }, 1017, os0⟩
noncomputable def o188 (P : Params) : Obj := { cls := .type "type", data := .cls { name := Str.ofString "TextIOBase", bases := [Value.ref 161], mro := [Value.ref 188, Value.ref 161, Value.type "object"], ns := 187, qualname := Str.ofString "TextIOBase", subclasses := [Value.ref 665] }, slots := #[some (.ref 179), none, some (.str "TextIOBase" 737), some (.str "TextIOBase" 745), some (.none), some (.bool true)] }
noncomputable def o428 (P : Params) : Obj := tuO [.str "" (nat_lit 1031), .str "\n" (nat_lit 1032)]
noncomputable def o604 (P : Params) : Obj := tuO [.int (-1) 1224]
noncomputable def o664 (P : Params) : Obj := { cls := .type "dict", data := .dict #[en P "__module__" (nat_lit 1024) (.str "_io" (nat_lit 1029)), en P "__firstlineno__" (nat_lit 1028) (.int (Int.ofNat (nat_lit 298)) (nat_lit 1027)), en P "__init__" (nat_lit 1041) (.ref (nat_lit 435)), en P "_StringIO__translated" (nat_lit 1050) (.ref (nat_lit 442)), en P "_StringIO__check" (nat_lit 1057) (.ref (nat_lit 449)), en P "_StringIO__check_dot" (nat_lit 1064) (.ref (nat_lit 456)), en P "_StringIO__line" (nat_lit 1079) (.ref (nat_lit 463)), en P "closed" (nat_lit 1087) (.ref (nat_lit 471)), en P "line_buffering" (nat_lit 1095) (.ref (nat_lit 479)), en P "newlines" (nat_lit 1103) (.ref (nat_lit 487)), en P "encoding" (nat_lit 1111) (.ref (nat_lit 495)), en P "errors" (nat_lit 1119) (.ref (nat_lit 503)), en P "close" (nat_lit 1126) (.ref (nat_lit 510)), en P "__enter__" (nat_lit 1133) (.ref (nat_lit 517)), en P "__exit__" (nat_lit 1141) (.ref (nat_lit 524)), en P "readable" (nat_lit 1148) (.ref (nat_lit 531)), en P "writable" (nat_lit 1155) (.ref (nat_lit 538)), en P "seekable" (nat_lit 1162) (.ref (nat_lit 545)), en P "isatty" (nat_lit 1169) (.ref (nat_lit 552)), en P "flush" (nat_lit 1176) (.ref (nat_lit 559)), en P "fileno" (nat_lit 1183) (.ref (nat_lit 566)), en P "detach" (nat_lit 1190) (.ref (nat_lit 573)), en P "getvalue" (nat_lit 1197) (.ref (nat_lit 580)), en P "tell" (nat_lit 1204) (.ref (nat_lit 587)), en P "seek" (nat_lit 1214) (.ref (nat_lit 595)), en P "truncate" (nat_lit 1222) (.ref (nat_lit 603)), en P "read" (nat_lit 1234) (.ref (nat_lit 611)), en P "readline" (nat_lit 1244) (.ref (nat_lit 619)), en P "readlines" (nat_lit 1254) (.ref (nat_lit 627)), en P "__iter__" (nat_lit 1261) (.ref (nat_lit 634)), en P "__next__" (nat_lit 1269) (.ref (nat_lit 641)), en P "write" (nat_lit 1281) (.ref (nat_lit 648)), en P "writelines" (nat_lit 1289) (.ref (nat_lit 655)), en P "__repr__" (nat_lit 1296) (.ref (nat_lit 662)), en P "__static_attributes__" (nat_lit 1300) (.ref (nat_lit 663)), en P "__doc__" (nat_lit 1301) (.none)] (nat_lit 2) }
noncomputable def o665 (P : Params) : Obj := { cls := .type "type", data := .cls { name := Str.ofString "StringIO", bases := [Value.ref 188], mro := [Value.ref 665, Value.ref 188, Value.ref 161, Value.type "object"], ns := 664, qualname := Str.ofString "StringIO" }, slots := #[some (.ref 421), none, some (.str "StringIO" 1017), some (.str "StringIO" 1025), some (.none), some (.bool true)] }
noncomputable def stRL (P : Params) : List Obj := List.flatten [setsO (stPL P) [((nat_lit 3), { cls := .type "dict", data := .dict #[en P "__name__" (nat_lit 165) (.str "io" (nat_lit 647)), en P "__doc__" (nat_lit 166) (.none), en P "__package__" (nat_lit 167) (.none), en P "__loader__" (nat_lit 168) (.builtin "__main__.__loader__#opaque"), en P "__spec__" (nat_lit 169) (.none), en P "__annotations__" (nat_lit 170) (.ref (nat_lit 6)), en P "__builtins__" (nat_lit 171) (.ref (nat_lit 4)), en P "__file__" (nat_lit 173) (.str "/claim/cut.py" (nat_lit 172)), en P "__cached__" (nat_lit 174) (.none), en P "_sre" (nat_lit 275) (.ref (nat_lit 12)), en P "deque" (nat_lit 317) (.type "collections.deque"), en P "_wall" (nat_lit 330) (.ref (nat_lit 44)), en P "filterfalse" (nat_lit 382) (.ref (nat_lit 77)), en P "_filter" (nat_lit 392) (.ref (nat_lit 88)), en P "twin_re_1_fnmatch" (nat_lit 430) (.ref (nat_lit 93)), en P "_special_chars_map" (nat_lit 578) (.ref (nat_lit 95)), en P "escape" (nat_lit 585) (.ref (nat_lit 105)), en P "_translate" (nat_lit 606) (.ref (nat_lit 112)), en P "twin_re_1_shlex" (nat_lit 646) (.ref (nat_lit 117)), en P "_whence" (nat_lit 656) (.ref (nat_lit 124)), en P "_index" (nat_lit 664) (.ref (nat_lit 131)), en P "UnsupportedOperation" (nat_lit 686) (.ref (nat_lit 141)), en P "IOBase" (nat_lit 718) (.ref (nat_lit 161)), en P "BufferedIOBase" (nat_lit 736) (.ref (nat_lit 176)), en P "TextIOBase" (nat_lit 754) (.ref (nat_lit 188)), en P "BytesIO" (nat_lit 1016) (.ref (nat_lit 418)), en P "StringIO" (nat_lit 1303) (.ref (nat_lit 665))] (nat_lit 27) }), ((nat_lit 35), { cls := .none, data := .fields #[vi (nat_lit 3), vi (nat_lit 0), .ref (nat_lit 43), vi (nat_lit 7), vi (nat_lit 0), .ref (nat_lit 50), vi (nat_lit 27), vi (nat_lit 0), .ref (nat_lit 87), vi (nat_lit 32), vi (nat_lit 0), .ref (nat_lit 104), vi (nat_lit 39), vi (nat_lit 0), .ref (nat_lit 111), vi (nat_lit 103), vi (nat_lit 0), .ref (nat_lit 123), vi (nat_lit 108), vi (nat_lit 0), .ref (nat_lit 130), vi (nat_lit 115), vi (nat_lit 0), .ref (nat_lit 137), vi (nat_lit 117), vi (nat_lit 0), .ref (nat_lit 150), vi (nat_lit 124), vi (nat_lit 0), .ref (nat_lit 172), vi (nat_lit 126), vi (nat_lit 0), .ref (nat_lit 184), vi (nat_lit 128), vi (nat_lit 0), .ref (nat_lit 196), vi (nat_lit 298), vi (nat_lit 0), .ref (nat_lit 426)] }), ((nat_lit 188), o188 P)], [tuO [.ref (nat_lit 188)], { cls := .type "builtin_function_or_method", data := .fields #[.builtin "type.__prepare__", .type "type"] }, { cls := .type "dict", data := .dict #[en P "__module__" (nat_lit 1024) (.str "_io" (nat_lit 1029)), en P "__qualname__" (nat_lit 1026) (.str "StringIO" (nat_lit 1025)), en P "__firstlineno__" (nat_lit 1028) (.int (Int.ofNat (nat_lit 298)) (nat_lit 1027)), en P "__init__" (nat_lit 1041) (.ref (nat_lit 435)), en P "_StringIO__translated" (nat_lit 1050) (.ref (nat_lit 442)), en P "_StringIO__check" (nat_lit 1057) (.ref (nat_lit 449)), en P "_StringIO__check_dot" (nat_lit 1064) (.ref (nat_lit 456)), en P "_StringIO__line" (nat_lit 1079) (.ref (nat_lit 463)), en P "closed" (nat_lit 1087) (.ref (nat_lit 471)), en P "line_buffering" (nat_lit 1095) (.ref (nat_lit 479)), en P "newlines" (nat_lit 1103) (.ref (nat_lit 487)), en P "encoding" (nat_lit 1111) (.ref (nat_lit 495)), en P "errors" (nat_lit 1119) (.ref (nat_lit 503)), en P "close" (nat_lit 1126) (.ref (nat_lit 510)), en P "__enter__" (nat_lit 1133) (.ref (nat_lit 517)), en P "__exit__" (nat_lit 1141) (.ref (nat_lit 524)), en P "readable" (nat_lit 1148) (.ref (nat_lit 531)), en P "writable" (nat_lit 1155) (.ref (nat_lit 538)), en P "seekable" (nat_lit 1162) (.ref (nat_lit 545)), en P "isatty" (nat_lit 1169) (.ref (nat_lit 552)), en P "flush" (nat_lit 1176) (.ref (nat_lit 559)), en P "fileno" (nat_lit 1183) (.ref (nat_lit 566)), en P "detach" (nat_lit 1190) (.ref (nat_lit 573)), en P "getvalue" (nat_lit 1197) (.ref (nat_lit 580)), en P "tell" (nat_lit 1204) (.ref (nat_lit 587)), en P "seek" (nat_lit 1214) (.ref (nat_lit 595)), en P "truncate" (nat_lit 1222) (.ref (nat_lit 603)), en P "read" (nat_lit 1234) (.ref (nat_lit 611)), en P "readline" (nat_lit 1244) (.ref (nat_lit 619)), en P "readlines" (nat_lit 1254) (.ref (nat_lit 627)), en P "__iter__" (nat_lit 1261) (.ref (nat_lit 634)), en P "__next__" (nat_lit 1269) (.ref (nat_lit 641)), en P "write" (nat_lit 1281) (.ref (nat_lit 648)), en P "writelines" (nat_lit 1289) (.ref (nat_lit 655)), en P "__repr__" (nat_lit 1296) (.ref (nat_lit 662)), en P "__static_attributes__" (nat_lit 1300) (.ref (nat_lit 663))] (nat_lit 36) }, tuO [], { cls := .none, data := .fields #[vi (nat_lit 301), vi (nat_lit 4), .ref (nat_lit 434), vi (nat_lit 314), vi (nat_lit 4), .ref (nat_lit 441), vi (nat_lit 322), vi (nat_lit 4), .ref (nat_lit 448), vi (nat_lit 326), vi (nat_lit 4), .ref (nat_lit 455), vi (nat_lit 330), vi (nat_lit 4), .ref (nat_lit 462), vi (nat_lit 363), vi (nat_lit 4), .ref (nat_lit 469), vi (nat_lit 367), vi (nat_lit 4), .ref (nat_lit 477), vi (nat_lit 371), vi (nat_lit 4), .ref (nat_lit 485), vi (nat_lit 375), vi (nat_lit 4), .ref (nat_lit 493), vi (nat_lit 379), vi (nat_lit 4), .ref (nat_lit 501), vi (nat_lit 382), vi (nat_lit 4), .ref (nat_lit 509), vi (nat_lit 385), vi (nat_lit 4), .ref (nat_lit 516), vi (nat_lit 389), vi (nat_lit 4), .ref (nat_lit 523), vi (nat_lit 392), vi (nat_lit 4), .ref (nat_lit 530), vi (nat_lit 396), vi (nat_lit 4), .ref (nat_lit 537), vi (nat_lit 400), vi (nat_lit 4), .ref (nat_lit 544), vi (nat_lit 404), vi (nat_lit 4), .ref (nat_lit 551), vi (nat_lit 408), vi (nat_lit 4), .ref (nat_lit 558), vi (nat_lit 411), vi (nat_lit 4), .ref (nat_lit 565), vi (nat_lit 414), vi (nat_lit 4), .ref (nat_lit 572), vi (nat_lit 417), vi (nat_lit 4), .ref (nat_lit 579), vi (nat_lit 420), vi (nat_lit 4), .ref (nat_lit 586), vi (nat_lit 424), vi (nat_lit 4), .ref (nat_lit 594), vi (nat_lit 441), vi (nat_lit 4), .ref (nat_lit 602), vi (nat_lit 444), vi (nat_lit 4), .ref (nat_lit 610), vi (nat_lit 458), vi (nat_lit 4), .ref (nat_lit 618), vi (nat_lit 465), vi (nat_lit 4), .ref (nat_lit 626), vi (nat_lit 468), vi (nat_lit 4), .ref (nat_lit 633), vi (nat_lit 472), vi (nat_lit 4), .ref (nat_lit 640), vi (nat_lit 479), vi (nat_lit 4), .ref (nat_lit 647), vi (nat_lit 498), vi (nat_lit 4), .ref (nat_lit 654), vi (nat_lit 501), vi (nat_lit 4), .ref (nat_lit 661)] }, cdO "StringIO" "StringIO" (nat_lit 1019) (nat_lit 298) (nat_lit 0) (nat_lit 0) (nat_lit 0) (nat_lit 0) (nat_lit 424) false (nat_lit 425) (.none) (.none) (.none) (.none) (nat_lit 1022), { cls := .type "frame", slots := #[some (.ref (nat_lit 426)), some (.ref (nat_lit 3)), some (.ref (nat_lit 423)), none, some (.str "io" (nat_lit 647)), none, some (.ref (nat_lit 0))] }, o428 P], fn7 (nat_lit 429) "__init__" "StringIO.__init__" (inS (atS 22) 1) "io" (nat_lit 647) (.ref (nat_lit 428)) (nat_lit 1033) (nat_lit 301) (nat_lit 3) (nat_lit 0) (nat_lit 0) (nat_lit 3) ["self", "initial_value", "newline"], fn7 (nat_lit 436) "__translated" "StringIO.__translated" (inS (atS 22) 2) "io" (nat_lit 647) (.none) (nat_lit 1042) (nat_lit 314) (nat_lit 2) (nat_lit 0) (nat_lit 0) (nat_lit 3) ["self", "s", "newline"], fn7 (nat_lit 443) "__check" "StringIO.__check" (inS (atS 22) 3) "io" (nat_lit 647) (.none) (nat_lit 1051) (nat_lit 322) (nat_lit 1) (nat_lit 0) (nat_lit 0) (nat_lit 3) ["self"], fn7 (nat_lit 450) "__check_dot" "StringIO.__check_dot" (inS (atS 22) 4) "io" (nat_lit 647) (.none) (nat_lit 1058) (nat_lit 326) (nat_lit 1) (nat_lit 0) (nat_lit 0) (nat_lit 3) ["self"], fn7 (nat_lit 457) "__line" "StringIO.__line" (inS (atS 22) 5) "io" (nat_lit 647) (.none) (nat_lit 1065) (nat_lit 330) (nat_lit 2) (nat_lit 0) (nat_lit 0) (nat_lit 3) ["self", "limit", "start", "stop", "cut", "newline", "i", "j", "end"], fn7 (nat_lit 464) "closed" "StringIO.closed" (inS (atS 22) 6) "io" (nat_lit 647) (.none) (nat_lit 1080) (nat_lit 362) (nat_lit 1) (nat_lit 0) (nat_lit 0) (nat_lit 3) ["self"], [{ cls := .type "property", data := .fields #[.ref (nat_lit 470), .none, .none, .none, .str "closed" (nat_lit 1087), .bool false] }], fn7 (nat_lit 472) "line_buffering" "StringIO.line_buffering" (inS (atS 22) 7) "io" (nat_lit 647) (.none) (nat_lit 1088) (nat_lit 366) (nat_lit 1) (nat_lit 0) (nat_lit 0) (nat_lit 3) ["self"], [{ cls := .type "property", data := .fields #[.ref (nat_lit 478), .none, .none, .none, .str "line_buffering" (nat_lit 1095), .bool false] }], fn7 (nat_lit 480) "newlines" "StringIO.newlines" (inS (atS 22) 8) "io" (nat_lit 647) (.none) (nat_lit 1096) (nat_lit 370) (nat_lit 1) (nat_lit 0) (nat_lit 0) (nat_lit 3) ["self"], [{ cls := .type "property", data := .fields #[.ref (nat_lit 486), .none, .none, .none, .str "newlines" (nat_lit 1103), .bool false] }], fn7 (nat_lit 488) "encoding" "StringIO.encoding" (inS (atS 22) 9) "io" (nat_lit 647) (.none) (nat_lit 1104) (nat_lit 374) (nat_lit 1) (nat_lit 0) (nat_lit 0) (nat_lit 3) ["self"], [{ cls := .type "property", data := .fields #[.ref (nat_lit 494), .none, .none, .none, .str "encoding" (nat_lit 1111), .bool false] }], fn7 (nat_lit 496) "errors" "StringIO.errors" (inS (atS 22) 10) "io" (nat_lit 647) (.none) (nat_lit 1112) (nat_lit 378) (nat_lit 1) (nat_lit 0) (nat_lit 0) (nat_lit 3) ["self"], [{ cls := .type "property", data := .fields #[.ref (nat_lit 502), .none, .none, .none, .str "errors" (nat_lit 1119), .bool false] }], fn7 (nat_lit 504) "close" "StringIO.close" (inS (atS 22) 11) "io" (nat_lit 647) (.none) (nat_lit 1120) (nat_lit 382) (nat_lit 1) (nat_lit 0) (nat_lit 0) (nat_lit 3) ["self"], fn7 (nat_lit 511) "__enter__" "StringIO.__enter__" (inS (atS 22) 12) "io" (nat_lit 647) (.none) (nat_lit 1127) (nat_lit 385) (nat_lit 1) (nat_lit 0) (nat_lit 0) (nat_lit 3) ["self"], fn7 (nat_lit 518) "__exit__" "StringIO.__exit__" (inS (atS 22) 13) "io" (nat_lit 647) (.none) (nat_lit 1134) (nat_lit 389) (nat_lit 1) (nat_lit 0) (nat_lit 0) (nat_lit 7) ["self", "args"], fn7 (nat_lit 525) "readable" "StringIO.readable" (inS (atS 22) 14) "io" (nat_lit 647) (.none) (nat_lit 1142) (nat_lit 392) (nat_lit 1) (nat_lit 0) (nat_lit 0) (nat_lit 3) ["self"], fn7 (nat_lit 532) "writable" "StringIO.writable" (inS (atS 22) 15) "io" (nat_lit 647) (.none) (nat_lit 1149) (nat_lit 396) (nat_lit 1) (nat_lit 0) (nat_lit 0) (nat_lit 3) ["self"], fn7 (nat_lit 539) "seekable" "StringIO.seekable" (inS (atS 22) 16) "io" (nat_lit 647) (.none) (nat_lit 1156) (nat_lit 400) (nat_lit 1) (nat_lit 0) (nat_lit 0) (nat_lit 3) ["self"], fn7 (nat_lit 546) "isatty" "StringIO.isatty" (inS (atS 22) 17) "io" (nat_lit 647) (.none) (nat_lit 1163) (nat_lit 404) (nat_lit 1) (nat_lit 0) (nat_lit 0) (nat_lit 3) ["self"], fn7 (nat_lit 553) "flush" "StringIO.flush" (inS (atS 22) 18) "io" (nat_lit 647) (.none) (nat_lit 1170) (nat_lit 408) (nat_lit 1) (nat_lit 0) (nat_lit 0) (nat_lit 3) ["self"], fn7 (nat_lit 560) "fileno" "StringIO.fileno" (inS (atS 22) 19) "io" (nat_lit 647) (.none) (nat_lit 1177) (nat_lit 411) (nat_lit 1) (nat_lit 0) (nat_lit 0) (nat_lit 3) ["self"], fn7 (nat_lit 567) "detach" "StringIO.detach" (inS (atS 22) 20) "io" (nat_lit 647) (.none) (nat_lit 1184) (nat_lit 414) (nat_lit 1) (nat_lit 0) (nat_lit 0) (nat_lit 3) ["self"], fn7 (nat_lit 574) "getvalue" "StringIO.getvalue" (inS (atS 22) 21) "io" (nat_lit 647) (.none) (nat_lit 1191) (nat_lit 417) (nat_lit 1) (nat_lit 0) (nat_lit 0) (nat_lit 3) ["self"], fn7 (nat_lit 581) "tell" "StringIO.tell" (inS (atS 22) 22) "io" (nat_lit 647) (.none) (nat_lit 1198) (nat_lit 420) (nat_lit 1) (nat_lit 0) (nat_lit 0) (nat_lit 3) ["self"], [tuO [.int (Int.ofNat (nat_lit 0)) (nat_lit 1205)]], fn7 (nat_lit 589) "seek" "StringIO.seek" (inS (atS 22) 23) "io" (nat_lit 647) (.ref (nat_lit 588)) (nat_lit 1206) (nat_lit 424) (nat_lit 3) (nat_lit 3) (nat_lit 0) (nat_lit 3) ["self", "pos", "whence"], [tuO [.none]], fn7 (nat_lit 597) "truncate" "StringIO.truncate" (inS (atS 22) 24) "io" (nat_lit 647) (.ref (nat_lit 596)) (nat_lit 1215) (nat_lit 441) (nat_lit 2) (nat_lit 2) (nat_lit 0) (nat_lit 3) ["self", "pos"], [o604 P], fn7 (nat_lit 605) "read" "StringIO.read" (inS (atS 22) 25) "io" (nat_lit 647) (.ref (nat_lit 604)) (nat_lit 1225) (nat_lit 444) (nat_lit 2) (nat_lit 2) (nat_lit 0) (nat_lit 3) ["self", "size", "start", "stop"], [tuO [.int (-1) 1236]], fn7 (nat_lit 613) "readline" "StringIO.readline" (inS (atS 22) 26) "io" (nat_lit 647) (.ref (nat_lit 612)) (nat_lit 1237) (nat_lit 458) (nat_lit 2) (nat_lit 2) (nat_lit 0) (nat_lit 3) ["self", "size"], [tuO [.int (-1) 1246]], fn7 (nat_lit 621) "readlines" "StringIO.readlines" (inS (atS 22) 27) "io" (nat_lit 647) (.ref (nat_lit 620)) (nat_lit 1247) (nat_lit 465) (nat_lit 2) (nat_lit 2) (nat_lit 0) (nat_lit 3) ["self", "hint"], fn7 (nat_lit 628) "__iter__" "StringIO.__iter__" (inS (atS 22) 28) "io" (nat_lit 647) (.none) (nat_lit 1255) (nat_lit 468) (nat_lit 1) (nat_lit 0) (nat_lit 0) (nat_lit 3) ["self"], fn7 (nat_lit 635) "__next__" "StringIO.__next__" (inS (atS 22) 29) "io" (nat_lit 647) (.none) (nat_lit 1262) (nat_lit 472) (nat_lit 1) (nat_lit 0) (nat_lit 0) (nat_lit 3) ["self", "line"], fn7 (nat_lit 642) "write" "StringIO.write" (inS (atS 22) 30) "io" (nat_lit 647) (.none) (nat_lit 1270) (nat_lit 479) (nat_lit 2) (nat_lit 2) (nat_lit 0) (nat_lit 3) ["self", "s", "n", "m", "start", "buf"], fn7 (nat_lit 649) "writelines" "StringIO.writelines" (inS (atS 22) 31) "io" (nat_lit 647) (.none) (nat_lit 1282) (nat_lit 498) (nat_lit 2) (nat_lit 2) (nat_lit 0) (nat_lit 3) ["self", "lines"], fn7 (nat_lit 656) "__repr__" "StringIO.__repr__" (inS (atS 22) 32) "io" (nat_lit 647) (.none) (nat_lit 1290) (nat_lit 501) (nat_lit 1) (nat_lit 0) (nat_lit 0) (nat_lit 3) ["self"], [tuO [.str "__buf" (nat_lit 1297), .str "__newline" (nat_lit 1298), .str "__pos" (nat_lit 1299)], o664 P, o665 P, { cls := .type "super", data := .fields #[.ref (nat_lit 665), .ref (nat_lit 665), .ref (nat_lit 665)] }, { cls := .type "builtin_function_or_method", data := .fields #[.builtin "object.__init_subclass__", .ref (nat_lit 665)] }]]
noncomputable def stR (w : World) : SharedT := ⟨treeOf (stRL w.params), 668, { }, #[], { }, 1304, os0⟩
noncomputable def o3 (P : Params) : Obj := { cls := .type "dict", data := .dict #[en P "__name__" (nat_lit 165) (.str "law_il0113_01" (nat_lit 1531)), en P "__doc__" (nat_lit 166) (.none), en P "__package__" (nat_lit 167) (.none), en P "__loader__" (nat_lit 168) (.builtin "__main__.__loader__#opaque"), en P "__spec__" (nat_lit 169) (.none), en P "__annotations__" (nat_lit 170) (.ref (nat_lit 6)), en P "__builtins__" (nat_lit 171) (.ref (nat_lit 4)), en P "__file__" (nat_lit 173) (.str "/claim/cut.py" (nat_lit 172)), en P "__cached__" (nat_lit 174) (.none), en P "_sre" (nat_lit 275) (.ref (nat_lit 12)), en P "deque" (nat_lit 317) (.type "collections.deque"), en P "_wall" (nat_lit 330) (.ref (nat_lit 44)), en P "filterfalse" (nat_lit 382) (.ref (nat_lit 77)), en P "_filter" (nat_lit 392) (.ref (nat_lit 88)), en P "twin_re_1_fnmatch" (nat_lit 430) (.ref (nat_lit 93)), en P "_special_chars_map" (nat_lit 578) (.ref (nat_lit 95)), en P "escape" (nat_lit 585) (.ref (nat_lit 105)), en P "_translate" (nat_lit 606) (.ref (nat_lit 112)), en P "twin_re_1_shlex" (nat_lit 646) (.ref (nat_lit 117)), en P "_whence" (nat_lit 656) (.ref (nat_lit 124)), en P "_index" (nat_lit 664) (.ref (nat_lit 131)), en P "UnsupportedOperation" (nat_lit 686) (.ref (nat_lit 141)), en P "IOBase" (nat_lit 718) (.ref (nat_lit 161)), en P "BufferedIOBase" (nat_lit 736) (.ref (nat_lit 176)), en P "TextIOBase" (nat_lit 754) (.ref (nat_lit 188)), en P "BytesIO" (nat_lit 1016) (.ref (nat_lit 418)), en P "StringIO" (nat_lit 1303) (.ref (nat_lit 665)), en P "_kind" (nat_lit 1314) (.ref (nat_lit 674)), en P "_fspath" (nat_lit 1323) (.ref (nat_lit 681)), en P "_check_arg_types" (nat_lit 1333) (.ref (nat_lit 688)), en P "isabs" (nat_lit 1340) (.ref (nat_lit 695)), en P "join" (nat_lit 1351) (.ref (nat_lit 819)), en P "join_path" (nat_lit 1352) (.ref (nat_lit 702)), en P "dirname" (nat_lit 1362) (.ref (nat_lit 709)), en P "shlex" (nat_lit 1503) (.ref (nat_lit 800)), en P "split" (nat_lit 1513) (.ref (nat_lit 812)), en P "join_shlex" (nat_lit 1521) (.ref (nat_lit 819)), en P "_find_unsafe" (nat_lit 1523) (.ref (nat_lit 820)), en P "quote" (nat_lit 1530) (.ref (nat_lit 827)), en P "_law_names" (nat_lit 1538) (.ref (nat_lit 832)), en P "_law_row" (nat_lit 1545) (.ref (nat_lit 839)), en P "_law_takes" (nat_lit 1551) (.ref (nat_lit 844)), en P "_law_fits" (nat_lit 1557) (.ref (nat_lit 849)), en P "_law_told" (nat_lit 1563) (.ref (nat_lit 854)), en P "_law_due" (nat_lit 1569) (.ref (nat_lit 859)), en P "law" (nat_lit 1575) (.ref (nat_lit 864))] (nat_lit 46) }
noncomputable def o58 (P : Params) : Obj := cdO "__init__" "filterfalse.__init__" (nat_lit 348) (nat_lit 10) (nat_lit 3) (nat_lit 3) (nat_lit 0) (nat_lit 3) (nat_lit 53) true (nat_lit 54) (.none) (.ref (nat_lit 55)) (.ref (nat_lit 56)) (.ref (nat_lit 57)) (nat_lit 354)
noncomputable def o59 (P : Params) : Obj := fuO "__init__" "filterfalse.__init__" (inS (atS 4) 1) "itertools" (nat_lit 331) (.none) (nat_lit 58)
noncomputable def o65 (P : Params) : Obj := cdO "__iter__" "filterfalse.__iter__" (nat_lit 357) (nat_lit 14) (nat_lit 1) (nat_lit 0) (nat_lit 0) (nat_lit 3) (nat_lit 60) true (nat_lit 61) (.none) (.ref (nat_lit 62)) (.ref (nat_lit 63)) (.ref (nat_lit 64)) (nat_lit 361)
noncomputable def o66 (P : Params) : Obj := fuO "__iter__" "filterfalse.__iter__" (inS (atS 4) 2) "itertools" (nat_lit 331) (.none) (nat_lit 65)
noncomputable def o72 (P : Params) : Obj := cdO "__next__" "filterfalse.__next__" (nat_lit 364) (nat_lit 17) (nat_lit 1) (nat_lit 0) (nat_lit 0) (nat_lit 3) (nat_lit 67) true (nat_lit 68) (.none) (.ref (nat_lit 69)) (.ref (nat_lit 70)) (.ref (nat_lit 71)) (nat_lit 370)
noncomputable def o73 (P : Params) : Obj := fuO "__next__" "filterfalse.__next__" (inS (atS 4) 3) "itertools" (nat_lit 331) (.none) (nat_lit 72)
noncomputable def o87 (P : Params) : Obj := cdO "_filter" "_filter" (nat_lit 385) (nat_lit 27) (nat_lit 2) (nat_lit 0) (nat_lit 0) (nat_lit 3) (nat_lit 82) true (nat_lit 83) (.none) (.ref (nat_lit 84)) (.ref (nat_lit 85)) (.ref (nat_lit 86)) (nat_lit 390)
noncomputable def o88 (P : Params) : Obj := fuO "_filter" "_filter" (atS 6) "cpy313.filecmp" (nat_lit 383) (.none) (nat_lit 87)
noncomputable def o104 (P : Params) : Obj := cdO "escape" "escape" (nat_lit 579) (nat_lit 32) (nat_lit 1) (nat_lit 0) (nat_lit 0) (nat_lit 3) (nat_lit 99) true (nat_lit 100) (.none) (.ref (nat_lit 101)) (.ref (nat_lit 102)) (.ref (nat_lit 103)) (nat_lit 583)
noncomputable def o105 (P : Params) : Obj := fuO "escape" "escape" (atS 10) "re" (nat_lit 431) (.none) (nat_lit 104)
noncomputable def o111 (P : Params) : Obj := cdO "_translate" "_translate" (nat_lit 588) (nat_lit 39) (nat_lit 3) (nat_lit 0) (nat_lit 0) (nat_lit 3) (nat_lit 106) true (nat_lit 107) (.none) (.ref (nat_lit 108)) (.ref (nat_lit 109)) (.ref (nat_lit 110)) (nat_lit 604)
noncomputable def o112 (P : Params) : Obj := fuO "_translate" "_translate" (atS 12) "cpy313.fnmatch" (nat_lit 586) (.none) (nat_lit 111)
noncomputable def o130 (P : Params) : Obj := cdO "_index" "_index" (nat_lit 657) (nat_lit 108) (nat_lit 2) (nat_lit 0) (nat_lit 0) (nat_lit 3) (nat_lit 125) true (nat_lit 126) (.none) (.ref (nat_lit 127)) (.ref (nat_lit 128)) (.ref (nat_lit 129)) (nat_lit 662)
noncomputable def o131 (P : Params) : Obj := fuO "_index" "_index" (atS 16) "io" (nat_lit 647) (.none) (nat_lit 130)
noncomputable def o157 (P : Params) : Obj := cdO "__new__" "IOBase.__new__" (nat_lit 701) (nat_lit 120) (nat_lit 1) (nat_lit 1) (nat_lit 0) (nat_lit 15) (nat_lit 152) true (nat_lit 153) (.none) (.ref (nat_lit 154)) (.ref (nat_lit 155)) (.ref (nat_lit 156)) (nat_lit 707)
noncomputable def o158 (P : Params) : Obj := fuO "__new__" "IOBase.__new__" (inS (atS 18) 1) "io" (nat_lit 647) (.none) (nat_lit 157)
noncomputable def o434 (P : Params) : Obj := cdO "__init__" "StringIO.__init__" (nat_lit 1033) (nat_lit 301) (nat_lit 3) (nat_lit 0) (nat_lit 0) (nat_lit 3) (nat_lit 429) true (nat_lit 430) (.none) (.ref (nat_lit 431)) (.ref (nat_lit 432)) (.ref (nat_lit 433)) (nat_lit 1039)
noncomputable def o435 (P : Params) : Obj := fuO "__init__" "StringIO.__init__" (inS (atS 22) 1) "io" (nat_lit 647) (.ref (nat_lit 428)) (nat_lit 434)
noncomputable def o441 (P : Params) : Obj := cdO "__translated" "StringIO.__translated" (nat_lit 1042) (nat_lit 314) (nat_lit 2) (nat_lit 0) (nat_lit 0) (nat_lit 3) (nat_lit 436) true (nat_lit 437) (.none) (.ref (nat_lit 438)) (.ref (nat_lit 439)) (.ref (nat_lit 440)) (nat_lit 1048)
noncomputable def o442 (P : Params) : Obj := fuO "__translated" "StringIO.__translated" (inS (atS 22) 2) "io" (nat_lit 647) (.none) (nat_lit 441)
noncomputable def o448 (P : Params) : Obj := cdO "__check" "StringIO.__check" (nat_lit 1051) (nat_lit 322) (nat_lit 1) (nat_lit 0) (nat_lit 0) (nat_lit 3) (nat_lit 443) true (nat_lit 444) (.none) (.ref (nat_lit 445)) (.ref (nat_lit 446)) (.ref (nat_lit 447)) (nat_lit 1055)
noncomputable def o449 (P : Params) : Obj := fuO "__check" "StringIO.__check" (inS (atS 22) 3) "io" (nat_lit 647) (.none) (nat_lit 448)
noncomputable def o610 (P : Params) : Obj := cdO "read" "StringIO.read" (nat_lit 1225) (nat_lit 444) (nat_lit 2) (nat_lit 2) (nat_lit 0) (nat_lit 3) (nat_lit 605) true (nat_lit 606) (.none) (.ref (nat_lit 607)) (.ref (nat_lit 608)) (.ref (nat_lit 609)) (nat_lit 1232)
noncomputable def o611 (P : Params) : Obj := fuO "read" "StringIO.read" (inS (atS 22) 25) "io" (nat_lit 647) (.ref (nat_lit 604)) (nat_lit 610)
noncomputable def o717 (P : Params) : Obj := tuO [.none, .none, .bool false, .bool false]
noncomputable def o723 (P : Params) : Obj := cdO "__init__" "shlex.__init__" (nat_lit 1377) (nat_lit 570) (nat_lit 5) (nat_lit 0) (nat_lit 0) (nat_lit 3) (nat_lit 718) true (nat_lit 719) (.none) (.ref (nat_lit 720)) (.ref (nat_lit 721)) (.ref (nat_lit 722)) (nat_lit 1386)
noncomputable def o724 (P : Params) : Obj := fuO "__init__" "shlex.__init__" (inS (atS 32) 0) "cpy313.shlex" (nat_lit 1363) (.ref (nat_lit 717)) (nat_lit 723)
noncomputable def o730 (P : Params) : Obj := cdO "punctuation_chars" "shlex.punctuation_chars" (nat_lit 1389) (nat_lit 611) (nat_lit 1) (nat_lit 0) (nat_lit 0) (nat_lit 3) (nat_lit 725) true (nat_lit 726) (.none) (.ref (nat_lit 727)) (.ref (nat_lit 728)) (.ref (nat_lit 729)) (nat_lit 1393)
noncomputable def o731 (P : Params) : Obj := fuO "punctuation_chars" "shlex.punctuation_chars" (inS (atS 32) 1) "cpy313.shlex" (nat_lit 1363) (.none) (nat_lit 730)
noncomputable def o732 (P : Params) : Obj := { cls := .type "property", data := .fields #[.ref (nat_lit 731), .none, .none, .none, .str "punctuation_chars" (nat_lit 1396), .bool false] }
noncomputable def o760 (P : Params) : Obj := cdO "get_token" "shlex.get_token" (nat_lit 1421) (nat_lit 638) (nat_lit 1) (nat_lit 0) (nat_lit 0) (nat_lit 3) (nat_lit 755) true (nat_lit 756) (.none) (.ref (nat_lit 757)) (.ref (nat_lit 758)) (.ref (nat_lit 759)) (nat_lit 1430)
noncomputable def o761 (P : Params) : Obj := fuO "get_token" "shlex.get_token" (inS (atS 32) 5) "cpy313.shlex" (nat_lit 1363) (.none) (nat_lit 760)
noncomputable def o767 (P : Params) : Obj := cdO "read_token" "shlex.read_token" (nat_lit 1433) (nat_lit 665) (nat_lit 1) (nat_lit 0) (nat_lit 0) (nat_lit 3) (nat_lit 762) true (nat_lit 763) (.none) (.ref (nat_lit 764)) (.ref (nat_lit 765)) (.ref (nat_lit 766)) (nat_lit 1441)
noncomputable def o768 (P : Params) : Obj := fuO "read_token" "shlex.read_token" (inS (atS 32) 6) "cpy313.shlex" (nat_lit 1363) (.none) (nat_lit 767)
noncomputable def o789 (P : Params) : Obj := cdO "__iter__" "shlex.__iter__" (nat_lit 1461) (nat_lit 812) (nat_lit 1) (nat_lit 0) (nat_lit 0) (nat_lit 3) (nat_lit 784) true (nat_lit 785) (.none) (.ref (nat_lit 786)) (.ref (nat_lit 787)) (.ref (nat_lit 788)) (nat_lit 1465)
noncomputable def o790 (P : Params) : Obj := fuO "__iter__" "shlex.__iter__" (inS (atS 32) 9) "cpy313.shlex" (nat_lit 1363) (.none) (nat_lit 789)
noncomputable def o796 (P : Params) : Obj := cdO "__next__" "shlex.__next__" (nat_lit 1468) (nat_lit 815) (nat_lit 1) (nat_lit 0) (nat_lit 0) (nat_lit 3) (nat_lit 791) true (nat_lit 792) (.none) (.ref (nat_lit 793)) (.ref (nat_lit 794)) (.ref (nat_lit 795)) (nat_lit 1473)
noncomputable def o797 (P : Params) : Obj := fuO "__next__" "shlex.__next__" (inS (atS 32) 10) "cpy313.shlex" (nat_lit 1363) (.none) (nat_lit 796)
noncomputable def o799 (P : Params) : Obj := { cls := .type "dict", data := .dict #[en P "__module__" (nat_lit 1372) (.str "cpy313.shlex" (nat_lit 1363)), en P "__firstlineno__" (nat_lit 1376) (.int (Int.ofNat (nat_lit 568)) (nat_lit 1375)), en P "__init__" (nat_lit 1388) (.ref (nat_lit 724)), en P "punctuation_chars" (nat_lit 1396) (.ref (nat_lit 732)), en P "push_token" (nat_lit 1404) (.ref (nat_lit 739)), en P "push_source" (nat_lit 1413) (.ref (nat_lit 747)), en P "pop_source" (nat_lit 1420) (.ref (nat_lit 754)), en P "get_token" (nat_lit 1432) (.ref (nat_lit 761)), en P "read_token" (nat_lit 1443) (.ref (nat_lit 768)), en P "sourcehook" (nat_lit 1451) (.ref (nat_lit 775)), en P "error_leader" (nat_lit 1460) (.ref (nat_lit 783)), en P "__iter__" (nat_lit 1467) (.ref (nat_lit 790)), en P "__next__" (nat_lit 1475) (.ref (nat_lit 797)), en P "__static_attributes__" (nat_lit 1496) (.ref (nat_lit 798)), en P "__dict__" (nat_lit 1498) (.ref (nat_lit 801)), en P "__weakref__" (nat_lit 1500) (.ref (nat_lit 802)), en P "__doc__" (nat_lit 1501) (.none)] (nat_lit 4) }
noncomputable def o800 (P : Params) : Obj := { cls := .type "type", data := .cls { name := Str.ofString "shlex", bases := [Value.type "object"], mro := [Value.ref 800, Value.type "object"], ns := 799, qualname := Str.ofString "shlex" }, slots := #[none, none, some (.str "shlex" 1365), some (.str "shlex" 1373), some (.builtin "object.__new__"), some (.bool true)] }
noncomputable def o805 (P : Params) : Obj := tuO [.bool false, .bool true]
noncomputable def o811 (P : Params) : Obj := cdO "split" "split" (nat_lit 1504) (nat_lit 820) (nat_lit 3) (nat_lit 0) (nat_lit 0) (nat_lit 3) (nat_lit 806) true (nat_lit 807) (.none) (.ref (nat_lit 808)) (.ref (nat_lit 809)) (.ref (nat_lit 810)) (nat_lit 1511)
noncomputable def o812 (P : Params) : Obj := fuO "split" "split" (atS 33) "cpy313.shlex" (nat_lit 1363) (.ref (nat_lit 805)) (nat_lit 811)
noncomputable def o818 (P : Params) : Obj := cdO "join" "join" (nat_lit 1514) (nat_lit 828) (nat_lit 1) (nat_lit 0) (nat_lit 0) (nat_lit 3) (nat_lit 813) true (nat_lit 814) (.none) (.ref (nat_lit 815)) (.ref (nat_lit 816)) (.ref (nat_lit 817)) (nat_lit 1518)
noncomputable def o819 (P : Params) : Obj := fuO "join" "join" (atS 34) "cpy313.shlex" (nat_lit 1363) (.none) (nat_lit 818)
noncomputable def o820 (P : Params) : Obj := { cls := .type "builtin_function_or_method", data := .fields #[.builtin "re.Pattern.search", .ref (nat_lit 117)] }
noncomputable def o826 (P : Params) : Obj := cdO "quote" "quote" (nat_lit 1524) (nat_lit 832) (nat_lit 1) (nat_lit 0) (nat_lit 0) (nat_lit 3) (nat_lit 821) true (nat_lit 822) (.none) (.ref (nat_lit 823)) (.ref (nat_lit 824)) (.ref (nat_lit 825)) (nat_lit 1528)
noncomputable def o827 (P : Params) : Obj := fuO "quote" "quote" (atS 37) "cpy313.shlex" (nat_lit 1363) (.none) (nat_lit 826)
noncomputable def o831 (P : Params) : Obj := cdO "_law_names" "_law_names" (nat_lit 1533) (nat_lit 839) (nat_lit 1) (nat_lit 0) (nat_lit 0) (nat_lit 3) (nat_lit 828) true (nat_lit 829) (.none) (.none) (.none) (.ref (nat_lit 830)) (nat_lit 1536)
noncomputable def o832 (P : Params) : Obj := fuO "_law_names" "_law_names" (atS 39) "law_il0113_01" (nat_lit 1531) (.none) (nat_lit 831)
noncomputable def o838 (P : Params) : Obj := cdO "_law_row" "_law_row" (nat_lit 1539) (nat_lit 841) (nat_lit 1) (nat_lit 0) (nat_lit 0) (nat_lit 3) (nat_lit 833) true (nat_lit 834) (.none) (.ref (nat_lit 835)) (.ref (nat_lit 836)) (.ref (nat_lit 837)) (nat_lit 1543)
noncomputable def o839 (P : Params) : Obj := fuO "_law_row" "_law_row" (atS 40) "law_il0113_01" (nat_lit 1531) (.none) (nat_lit 838)
noncomputable def o843 (P : Params) : Obj := cdO "_law_takes" "_law_takes" (nat_lit 1546) (nat_lit 843) (nat_lit 2) (nat_lit 0) (nat_lit 0) (nat_lit 3) (nat_lit 840) true (nat_lit 841) (.none) (.none) (.none) (.ref (nat_lit 842)) (nat_lit 1549)
noncomputable def o844 (P : Params) : Obj := fuO "_law_takes" "_law_takes" (atS 41) "law_il0113_01" (nat_lit 1531) (.none) (nat_lit 843)
noncomputable def o848 (P : Params) : Obj := cdO "_law_fits" "_law_fits" (nat_lit 1552) (nat_lit 857) (nat_lit 2) (nat_lit 0) (nat_lit 0) (nat_lit 3) (nat_lit 845) true (nat_lit 846) (.none) (.none) (.none) (.ref (nat_lit 847)) (nat_lit 1555)
noncomputable def o849 (P : Params) : Obj := fuO "_law_fits" "_law_fits" (atS 42) "law_il0113_01" (nat_lit 1531) (.none) (nat_lit 848)
noncomputable def o853 (P : Params) : Obj := cdO "_law_told" "_law_told" (nat_lit 1558) (nat_lit 863) (nat_lit 2) (nat_lit 0) (nat_lit 0) (nat_lit 3) (nat_lit 850) true (nat_lit 851) (.none) (.none) (.none) (.ref (nat_lit 852)) (nat_lit 1561)
noncomputable def o854 (P : Params) : Obj := fuO "_law_told" "_law_told" (atS 43) "law_il0113_01" (nat_lit 1531) (.none) (nat_lit 853)
noncomputable def o858 (P : Params) : Obj := cdO "_law_due" "_law_due" (nat_lit 1564) (nat_lit 879) (nat_lit 2) (nat_lit 0) (nat_lit 0) (nat_lit 3) (nat_lit 855) true (nat_lit 856) (.none) (.none) (.none) (.ref (nat_lit 857)) (nat_lit 1567)
noncomputable def o859 (P : Params) : Obj := fuO "_law_due" "_law_due" (atS 44) "law_il0113_01" (nat_lit 1531) (.none) (nat_lit 858)
noncomputable def o863 (P : Params) : Obj := cdO "law" "law" (nat_lit 1570) (nat_lit 893) (nat_lit 1) (nat_lit 0) (nat_lit 0) (nat_lit 3) (nat_lit 860) true (nat_lit 861) (.none) (.none) (.none) (.ref (nat_lit 862)) (nat_lit 1573)
noncomputable def o864 (P : Params) : Obj := fuO "law" "law" (atS 45) "law_il0113_01" (nat_lit 1531) (.none) (nat_lit 863)
noncomputable def K (P : Params) : Frag := (nat_lit 2, o2 P) :: (nat_lit 3, o3 P) :: (nat_lit 58, o58 P) :: (nat_lit 59, o59 P) :: (nat_lit 65, o65 P) :: (nat_lit 66, o66 P) :: (nat_lit 72, o72 P) :: (nat_lit 73, o73 P) :: (nat_lit 76, o76 P) :: (nat_lit 77, o77 P) :: (nat_lit 78, o78 P) :: (nat_lit 79, o79 P) :: (nat_lit 87, o87 P) :: (nat_lit 88, o88 P) :: (nat_lit 92, o92 P) :: (nat_lit 93, o93 P) :: (nat_lit 95, o95 P) :: (nat_lit 104, o104 P) :: (nat_lit 105, o105 P) :: (nat_lit 111, o111 P) :: (nat_lit 112, o112 P) :: (nat_lit 116, o116 P) :: (nat_lit 117, o117 P) :: (nat_lit 130, o130 P) :: (nat_lit 131, o131 P) :: (nat_lit 157, o157 P) :: (nat_lit 158, o158 P) :: (nat_lit 160, o160 P) :: (nat_lit 161, o161 P) :: (nat_lit 162, o162 P) :: (nat_lit 187, o187 P) :: (nat_lit 188, o188 P) :: (nat_lit 417, o417 P) :: (nat_lit 418, o418 P) :: (nat_lit 428, o428 P) :: (nat_lit 434, o434 P) :: (nat_lit 435, o435 P) :: (nat_lit 441, o441 P) :: (nat_lit 442, o442 P) :: (nat_lit 448, o448 P) :: (nat_lit 449, o449 P) :: (nat_lit 604, o604 P) :: (nat_lit 610, o610 P) :: (nat_lit 611, o611 P) :: (nat_lit 664, o664 P) :: (nat_lit 665, o665 P) :: (nat_lit 717, o717 P) :: (nat_lit 723, o723 P) :: (nat_lit 724, o724 P) :: (nat_lit 730, o730 P) :: (nat_lit 731, o731 P) :: (nat_lit 732, o732 P) :: (nat_lit 760, o760 P) :: (nat_lit 761, o761 P) :: (nat_lit 767, o767 P) :: (nat_lit 768, o768 P) :: (nat_lit 789, o789 P) :: (nat_lit 790, o790 P) :: (nat_lit 796, o796 P) :: (nat_lit 797, o797 P) :: (nat_lit 799, o799 P) :: (nat_lit 800, o800 P) :: (nat_lit 805, o805 P) :: (nat_lit 811, o811 P) :: (nat_lit 812, o812 P) :: (nat_lit 818, o818 P) :: (nat_lit 819, o819 P) :: (nat_lit 820, o820 P) :: (nat_lit 826, o826 P) :: (nat_lit 827, o827 P) :: (nat_lit 831, o831 P) :: (nat_lit 832, o832 P) :: (nat_lit 838, o838 P) :: (nat_lit 839, o839 P) :: (nat_lit 843, o843 P) :: (nat_lit 844, o844 P) :: (nat_lit 848, o848 P) :: (nat_lit 849, o849 P) :: (nat_lit 853, o853 P) :: (nat_lit 854, o854 P) :: (nat_lit 858, o858 P) :: (nat_lit 859, o859 P) :: (nat_lit 863, o863 P) :: (nat_lit 864, o864 P) :: []
noncomputable abbrev kAs : List Addr := [2, 3, 58, 59, 65, 66, 72, 73, 76, 77, 78, 79, 87, 88, 92, 93, 95, 104, 105, 111, 112, 116, 117, 130, 131, 157, 158, 160, 161, 162, 187, 188, 417, 418, 428, 434, 435, 441, 442, 448, 449, 604, 610, 611, 664, 665, 717, 723, 724, 730, 731, 732, 760, 761, 767, 768, 789, 790, 796, 797, 799, 800, 805, 811, 812, 818, 819, 820, 826, 827, 831, 832, 838, 839, 843, 844, 848, 849, 853, 854, 858, 859, 863, 864]
noncomputable abbrev kTs : List Addr := [107, 814]
noncomputable def qV : Program := view pW [0, 1, 45]
noncomputable abbrev looseV : List Str := [Str.ofString "_wall", Str.ofString "filterfalse", Str.ofString "_filter", Str.ofString "twin_re_1_fnmatch", Str.ofString "_special_chars_map", Str.ofString "escape", Str.ofString "_translate", Str.ofString "twin_re_1_shlex", Str.ofString "_whence", Str.ofString "_index", Str.ofString "UnsupportedOperation", Str.ofString "IOBase", Str.ofString "BufferedIOBase", Str.ofString "TextIOBase", Str.ofString "BytesIO", Str.ofString "StringIO", Str.ofString "_kind", Str.ofString "_fspath", Str.ofString "_check_arg_types", Str.ofString "isabs", Str.ofString "join", Str.ofString "join_path", Str.ofString "dirname", Str.ofString "shlex", Str.ofString "split", Str.ofString "join_shlex", Str.ofString "_find_unsafe", Str.ofString "quote", Str.ofString "_law_names", Str.ofString "_law_row", Str.ofString "_law_takes", Str.ofString "_law_fits", Str.ofString "_law_told", Str.ofString "_law_due"]
noncomputable abbrev posA : Pos := ⟨0, 0, 0, 0⟩
noncomputable abbrev posM : Pos := ⟨30, 0, 30, 8⟩
noncomputable abbrev posN : Pos := ⟨31, 0, 31, 18⟩
noncomputable abbrev posP : Pos := ⟨128, 0, 297, 17⟩
noncomputable abbrev posR : Pos := ⟨298, 0, 502, 17⟩
noncomputable abbrev posL : Pos := ⟨893, 0, 896, 107⟩
noncomputable abbrev posQ : Pos := ⟨0, 0, 0, 0⟩
noncomputable abbrev nOpen : Nat := 1085
noncomputable abbrev nPre : Nat := 12
noncomputable abbrev nM : Nat := 485
noncomputable abbrev nN : Nat := 1253
noncomputable abbrev nP : Nat := 2402
noncomputable abbrev nR : Nat := 1578
noncomputable abbrev nL : Nat := 1171
noncomputable abbrev kM : Nat := 7
noncomputable abbrev kN : Nat := 1
noncomputable abbrev kP : Nat := 12
noncomputable abbrev kR : Nat := 1
noncomputable abbrev n0 : Nat := 34
noncomputable abbrev annV : Option Value := some (Value.ref 6)
noncomputable def envV : Env := { scope := pW.main.scope, locals := mainNs, globals := mainNs, cells := [], code := .ref 36, frame := some 37 }
noncomputable abbrev bodyV : List Stmt := behindTheImports pW
noncomputable abbrev codeV : Code := .body bodyV envV
noncomputable abbrev stackV : List Frame := [topFrame posQ]
theorem opening_run (w : World) : (impGoT treeTable (opening pW) w nOpen ⟨.nil, 0, {}, #[], {}, 1, os0⟩ (start (opening pW)).2).map (fun r => (r.2.atExitBegin, fenceModules? pW r.1.abs)) = some (some [], some (stF w).abs) := by
  rewrite [te14789777615569096658, te14364793385576792824, te1435165496053646825, te14289696077712309145, te3805553451399329143]
  kernel_rfl
theorem pre_run (w : World) : topGo treeTable pW w n0 annV nPre (stF w).abs (topStub pW) = some ((stA w).abs, ⟨denote treeTable codeV, codeV, posA, stackV⟩) := by
  rewrite [te15667345088766844465, te14364793385576792824, te11892475500146522536]
  kernel_rfl
theorem block_run (w : World) : segRun treeTable pW w n0 annV 1 1 (stA w).abs (blockOf bodyV envV codeV posA stackV) = some (.next, (stA w).abs, codeV, posA) := by
  kernel_rfl
theorem runM (w : World) : segRunT treeTable pW w n0 annV 1 nM (stA w) (piecesOf (bodyV.take kM) envV codeV posA stackV) = some (.next, stM w, codeV, posM) := by
  rewrite [te10110043849684766642, te14364793385576792824]
  kernel_rfl
theorem runN (w : World) : segRunT treeTable pW w n0 annV 1 nN (stM w) (piecesOf ((bodyV.drop kM).take kN) envV codeV posM stackV) = some (.next, stN w, codeV, posN) := by
  revert w
  refine byRow2 "comprehension-iter-twice" (fun w => ?_) (fun w => ?_) <;> revert w <;> refine byRow2 "special-get-raises" (fun w => ?_) (fun w => ?_)
  all_goals
    rewrite [te10110043849684766642, te14364793385576792824]
    kernel_rfl
theorem runP (w : World) : segRunT treeTable pW w n0 annV 1 nP (stN w) (piecesOf ((bodyV.drop (kM + kN)).take kP) envV codeV posN stackV) = some (.next, stP w, codeV, posP) := by
  rewrite [te10110043849684766642, te14364793385576792824]
  kernel_rfl
theorem runR (w : World) : segRunT treeTable pW w n0 annV 1 nR (stP w) (piecesOf ((bodyV.drop (kM + kN + kP)).take kR) envV codeV posP stackV) = some (.next, stR w, codeV, posR) := by
  rewrite [te10110043849684766642, te14364793385576792824]
  kernel_rfl
noncomputable abbrev rwO : RowW := PySem.Challenge.rw_il0113_01.row.toRowW
noncomputable def hookV : Hook := kmHook K kAs (fun _ => by kernel_rfl) kTs
noncomputable def XtV (s : Shared) : Bool := xlAt qV [] s && recOk (RowW.records rwO) s
noncomputable def lookV (s₀ s : Shared) :=
  ((staticsOk (importedModules pW.main.body) s₀.heap s.heap && namesBound pW s.heap && gensDone s && laidKept s₀.heap s.heap), openSeen qV looseV (importedModules pW.main.body) XtV true s, hookV.obs s)
theorem runL (w : World) : (segRunT treeTable pW w n0 annV 1 nL (stR w) (piecesOf (bodyV.drop (kM + kN + kP + kR)) envV codeV posR stackV)).map (fun r => (r.1, r.2.2, lookV (stF w).abs r.2.1.abs)) = some (.next, (codeV, posL), (true, openGood qV looseV, hookV.val w)) := by
  unfold lookV
  rewrite [te10110043849684766642, te14364793385576792824, te4187177175401517315]
  kernel_rfl
noncomputable abbrev nAll : Nat := 20000
noncomputable def stO : SharedT := ⟨.nil, 0, {}, #[], {}, 1, os0⟩
theorem stO_ok : (start (opening pW)).1 = stO.abs := by kernel_rfl
theorem add_op : nOpen + 1 + (nAll - (nOpen + 1)) = nAll := by decide
theorem add_top : nPre + (1 + (nM + (nN + (nP + (nR + (nL + 2)))))) + (nAll - (nPre + (1 + (nM + (nN + (nP + (nR + (nL + 2)))))))) = nAll := by decide
theorem opened (w : World) (sE : SharedT) (tE : Thread) (e1 : impGoT treeTable (opening pW) w nOpen stO (start (opening pW)).2 = some (sE, tE)) (e3 : tE.atExitBegin = some []) :
    importEnds treeTable (opening pW) w nAll (start (opening pW)).1 (start (opening pW)).2 = some sE.abs := by
  have i0 : importEnds treeTable (opening pW) w 1 sE.abs tE = some sE.abs := by unfold importEnds; rw [e3]
  have i1 := importEnds_mono (nAll - (nOpen + 1)) _ _ _ _ (imp_go (impGo_of e1) i0)
  rw [add_op, ← stO_ok] at i1
  exact i1
theorem fenced (w : World) : fencedOpening treeTable pW w nAll = some (stF w).abs := by
  obtain ⟨⟨sE, tE⟩, e1, e2⟩ := Option.map_eq_some_iff.mp (opening_run w)
  obtain ⟨e3, e4⟩ := Prod.mk.inj e2
  dsimp only at e3 e4
  exact Option.bind_eq_some_iff.mpr ⟨_, opened w sE tE e1 e3, e4⟩
theorem fin_run (w : World) (s : Shared) : topRun treeTable pW w n0 annV 2 s ⟨doneF .next, codeV, posL, stackV⟩ = some s := by
  obtain ⟨h, g, d, k, os⟩ := s
  kernel_rfl
theorem body_cut : bodyV = bodyV.take kM ++ ((bodyV.drop kM).take kN ++ ((bodyV.drop (kM + kN)).take kP ++ ((bodyV.drop (kM + kN + kP)).take kR ++ (bodyV.drop (kM + kN + kP + kR) ++ [])))) := by
  generalize bodyV = l
  have e0 : l.drop (kM + kN + kP + kR) = (l.drop (kM + kN + kP)).drop kR := List.drop_drop.symm
  have e1 : l.drop (kM + kN + kP) = (l.drop (kM + kN)).drop kP := List.drop_drop.symm
  have e2 : l.drop (kM + kN) = (l.drop kM).drop kN := List.drop_drop.symm
  rw [List.append_nil, e0, List.take_append_drop, e1, List.take_append_drop, e2, List.take_append_drop, List.take_append_drop]
theorem start_ok (w : World) : ((stF w).abs.heap.isNs mainGlobals && (stF w).abs.gens.size == 0, (stF w).abs.heap.objs.size, (stF w).abs.heap.nsMap mainGlobals "__annotations__") = (true, n0, annV) := by
  kernel_rfl
theorem top_all (w : World) (sL : SharedT) (e1 : segRunT treeTable pW w n0 annV 1 nL (stR w) (piecesOf (bodyV.drop (kM + kN + kP + kR)) envV codeV posR stackV) = some (.next, sL, codeV, posL)) :
    topRun treeTable pW w n0 annV nAll (stF w).abs (topStub pW) = some sL.abs := by
  have k1 := piece_app (q := posQ) (rest := []) (segRun_of e1) (piece_nil (fin_run w sL.abs))
  have k1 := piece_app (q := posQ) (segRun_of (runR w)) k1
  have k1 := piece_app (q := posQ) (segRun_of (runP w)) k1
  have k2 := piece_app (q := posQ) (segRun_of (runN w)) k1
  have k3 := piece_app (q := posQ) (segRun_of (runM w)) k2
  rw [← body_cut] at k3
  have k4 := go_top (pre_run w) (piece_block (block_run w) k3)
  have k5 := topRun_mono (nAll - (nPre + (1 + (nM + (nN + (nP + (nR + (nL + 2)))))))) _ _ _ _ k4
  rw [add_top] at k5
  exact k5
theorem from_all (w : World) (s₀ s₁ : Shared) (e : (s₀.heap.isNs mainGlobals && s₀.gens.size == 0, s₀.heap.objs.size, s₀.heap.nsMap mainGlobals "__annotations__") = (true, n0, annV)) (r : topRun treeTable pW w n0 annV nAll s₀ (topStub pW) = some s₁)
    (l : (staticsOk (importedModules pW.main.body) s₀.heap s₁.heap && namesBound pW s₁.heap && gensDone s₁ && laidKept s₀.heap s₁.heap) = true) : topFrom treeTable pW w nAll s₀ = some s₁ := by
  obtain ⟨z1, e7⟩ := Prod.mk.inj e
  obtain ⟨z2, z3⟩ := Prod.mk.inj e7
  unfold topFrom
  rw [z1, z2, z3, r]
  show (match (staticsOk (importedModules pW.main.body) s₀.heap s₁.heap && namesBound pW s₁.heap && gensDone s₁ && laidKept s₀.heap s₁.heap) with | true => some s₁ | false => none) = some s₁
  rw [l]
theorem left_of {w : World} {s₀ s₁ : Shared} (f : fencedOpening treeTable pW w nAll = some s₀) (t : topFrom treeTable pW w nAll s₀ = some s₁) (l2 : openSeen qV looseV (importedModules pW.main.body) XtV true s₁ = openGood qV looseV) (l3 : hookV.obs s₁ = hookV.val w) :
    (openEnds treeTable pW w nAll).map (fun s => (openSeen qV looseV (importedModules pW.main.body) XtV true s, hookV.obs s)) = some (openGood qV looseV, hookV.val w) := by
  unfold openEnds
  rw [f]
  rw [Option.bind_some, t, Option.map_some, l2, l3]
theorem cut5 {A B C D E : Type} {a a' : A} {b b' : B} {c c' : C} {d d' : D} {e e' : E} (h : (a, b, (c, d, e)) = (a', b', (c', d', e'))) : a = a' ∧ b = b' ∧ c = c' ∧ d = d' ∧ e = e' := by
  cases h; exact ⟨rfl, rfl, rfl, rfl, rfl⟩
theorem left_at (w : World) (r : Flow × SharedT × Code × Pos) (e1 : segRunT treeTable pW w n0 annV 1 nL (stR w) (piecesOf (bodyV.drop (kM + kN + kP + kR)) envV codeV posR stackV) = some r) (e8 : r.1 = .next) (e9 : r.2.2 = (codeV, posL)) : topRun treeTable pW w n0 annV nAll (stF w).abs (topStub pW) = some r.2.1.abs := by
  obtain ⟨fl, sL, c, q⟩ := r
  obtain ⟨e11, e10⟩ := Prod.mk.inj e9
  dsimp only at e8
  subst e8 e11 e10
  exact top_all w sL e1
theorem left : LeftO pW qV looseV XtV hookV.obs hookV.val nAll := fun w => by
  obtain ⟨r, e1, e2⟩ := Option.map_eq_some_iff.mp (runL w)
  obtain ⟨e8, e9, l1, l2, l3⟩ := cut5 e2
  exact left_of (fenced w) (from_all w _ _ (start_ok w) (left_at w r e1 e8 e9) l1) l2 l3

noncomputable abbrev lawS : Stmt := atS 45
noncomputable def lawD : DefRec := ⟨"law", fnP lawS, fnB lawS, fnS lawS, ⟨893, 0, 896, 107⟩⟩
theorem and2 {a b : Bool} (h1 : a = true) (h2 : b = true) : (a && b) = true := by rw [h1, h2]; rfl
theorem road_lk {k k' : Look} {l : List Stmt} (e : k = k') (h : tw8326940854005059898 k' l = true) : tw8326940854005059898 k l = true := e ▸ h
theorem law_said : OpenLaw.wellSaid PySem.Challenge.rw_il0113_01 = true := by
  rewrite [te9446332074065402090]
  refine and2 (and2 (and2 (and2 (and2 (and2 (and2 (and2 (and2 (and2 (and2 (and2 (and2 (and2 (and2 (and2 (and2 (and2 ?a1 ?a2) ?a3) ?a4) ?a5) ?a6) ?a7) ?a8) ?a9) ?a10) ?a11) ?a12) ?a13) ?a14) ?a15) ?a16) ?a17) ?a18) ?a19
  case a1 =>
    refine and2 (and2 (and2 (and2 (and2 (and2 (and2 (and2 (and2 (and2 (and2 (and2 (and2 (and2 (and2 ?l1 ?p2) ?p3) ?p4) ?p5) ?p6) ?p7) ?p8) ?p9) ?p10) ?p11) ?p12) ?p13) ?p14) ?b2) ?b3
    case l1 =>
      refine and2 (and2 (and2 (and2 (and2 ?m1 ?m2) ?m3) ?m4) ?m5) ?m6
      case m5 => exact road_lk (k' := { strict := false, foot := none }) (by as_aux_lemma => kernel_rfl) (by as_aux_lemma => kernel_rfl)
      all_goals as_aux_lemma => kernel_rfl
    all_goals kernel_rfl
  case a14 => as_aux_lemma => kernel_rfl
  case a18 => as_aux_lemma => kernel_rfl
  all_goals kernel_rfl
theorem law_def : defOf qV (PySem.Challenge.rw_il0113_01).row.name = some (lawD, []) := by kernel_rfl
theorem law_the : (PySem.Challenge.rw_il0113_01).row.prog.theDef (PySem.Challenge.rw_il0113_01).row.name = some (lawD.params, lawD.body, lawD.scope) := by kernel_rfl
theorem law_kw : kwWritten? lawD.params.kwonlyargs lawD.params.kw_defaults = some [] := by kernel_rfl
theorem law_ok : (chainsOk qV && opensWell (PySem.Challenge.rw_il0113_01).row.prog && (frees (PySem.Challenge.rw_il0113_01).row.toRowW && (PySem.Challenge.rw_il0113_01).row.within.isEmpty)) = true := by kernel_rfl
theorem law_bare : (PySem.Challenge.rw_il0113_01).row.prog.bare := ⟨by kernel_rfl, by kernel_rfl, by kernel_rfl, by kernel_rfl, by kernel_rfl, by decide +kernel⟩
theorem law_held : (PySem.Challenge.rw_il0113_01).row.toRowW.promised := by w_witness2
theorem hd (walk : WalkO qV looseV (XL qV []) hookV.says (PySem.Challenge.rw_il0113_01).row.toRowW lawD [] fun f vs => PySem.call f vs) : (PySem.Challenge.rw_il0113_01).Holds :=
  holds_law law_said fun said => holds_open (r := (PySem.Challenge.rw_il0113_01).row) (q := qV) (loose := looseV) (Xt := XtV) (XP := XL qV []) (Yf := hookV.obs) (Ya := hookV.val) (YP := hookV.says) (N := nAll) left hookV.of hookV.keeps
    (fun s e => xl_of s (Bool.and_eq_true_iff.mp e).1) XL.keeps law_def law_the law_kw (fun s e => recFacts_of (Bool.and_eq_true_iff.mp e).2) rfl said law_ok law_bare law_held walk

end
set_option maxRecDepth 100000
theorem regH : (fun (_ : OpenLaw) (_ : Params → Frag) => True) PySem.Challenge.rw_il0113_01 Mine.K := by k_fill; trivial
section
/-- an object on the ledger, as the runner sees it -/
inductive AO where
  | dict (es : List DictEntry) (n : Nat)
  | inst (C d : Addr)
  | raw (o : Obj)
noncomputable def AO.den : AO → Obj
  | .dict es n => dictOf es n
  | .inst C d => instObj C d
  | .raw o => o
noncomputable abbrev An := Option (Nat × Nat)
/-- the runner's state: the frame's names, the ledger, the next token, what is told ahead of tests -/
structure St where
  m : List (Str × Value × An)
  o : List (Addr × AO)
  tk : Tok
  hs : List (Nat × Bool)
noncomputable def strB (x y : Str) : Bool := x.cps.toList == y.cps.toList
theorem strB_eq {x y : Str} (h : strB x y = true) : x = y := by
  have := eq_of_beq h
  cases x; cases y; simp at this; simp [this]
noncomputable def lkM (x : Str) : List (Str × Value × An) → Option (Value × An)
  | [] => none
  | (y, v) :: r => match strB x y with
    | true => some v
    | false => lkM x r
noncomputable def lkG (x : Str) : List (Str × Value) → Option Value
  | [] => none
  | (y, v) :: r => match strB x y with
    | true => some v
    | false => lkG x r
noncomputable def denM : List (Str × Value × An) → (Str → Option Value) → Str → Option Value
  | [], m => m
  | (x, v, _) :: r, m => fun y => if y = x then some v else denM r m y
noncomputable def denO : List (Addr × AO) → List (Addr × Obj)
  | [] => []
  | (a, o) :: r => (a, o.den) :: denO r
noncomputable def setAt {α : Type} : List α → Nat → α → List α
  | [], _, _ => []
  | _ :: r, 0, y => y :: r
  | x :: r, i + 1, y => x :: setAt r i y
noncomputable def getAt {α : Type} : List α → Nat → Option α
  | [], _ => none
  | x :: _, 0 => some x
  | _ :: r, i + 1 => getAt r i
noncomputable def getE (x : Str) : List DictEntry → Option Value
  | [] => none
  | e :: r => match e.key with
    | .str y _ => match strB y x with
      | true => some e.val
      | false => getE x r
    | _ => none
/-- a store into the entries; a new key goes last -/
noncomputable def repE (x : Str) (h : Int) (key v : Value) : List DictEntry → Nat → Option (List DictEntry × Nat)
  | [], n => some ([⟨h, key, v⟩], n + 1)
  | e :: r, n => match e.key with
    | .str y _ => match strB y x with
      | true => some (⟨e.hash, e.key, v⟩ :: r, n)
      | false => match repE x h key v r n with
        | some p => some (e :: p.1, p.2)
        | none => none
    | _ => none
/-- what stays fixed in a run -/
structure Cf where
  cs : Scope
  okA : List (Addr × List Str)
  okS : List (Addr × List Str)
  gl : List (Str × Value)
  mu : List Nat
  pr : List (Addr × Str × Str) := []
  w : Str → Int := fun _ => 0
  hl : List Nat := []
  hk : Stmt → List (Str × Value × An) → List (Addr × AO) → Tok → (Flow → St → Prop) → Prop := fun _ _ _ _ _ => False
noncomputable def hasNm (x : Str) : List Str → Bool
  | [] => false
  | y :: r => match strB x y with
    | true => true
    | false => hasNm x r
noncomputable def hasAt (a : Addr) (x : Str) : List (Addr × List Str) → Bool
  | [] => false
  | (b, l) :: r => match Nat.beq a b with
    | true => hasNm x l
    | false => hasAt a x r
noncomputable def isMu (j : Nat) : List Nat → Bool
  | [] => false
  | i :: r => match Nat.beq j i with
    | true => true
    | false => isMu j r
noncomputable def propOf (a : Addr) (x : Str) : List (Addr × Str × Str) → Option Str
  | [] => none
  | (b, y, z) :: r => match Nat.beq a b with
    | true => match strB x y with
      | true => some z
      | false => propOf a x r
    | false => propOf a x r
noncomputable def okAB (K : Frag) (l : List (Addr × List Str)) : Bool := l.all fun p => p.2.all fun x => plainGet K p.1 x && (hasDictIn K p.1 && (match findIn K (.ref p.1) x with | some a => noGet K a | none => false))
noncomputable def okSB (K : Frag) (l : List (Addr × List Str)) : Bool := l.all fun p => p.2.all fun x => (findIn K (.ref p.1) "__setattr__" == some (some (.builtin "object.__setattr__"))) && (plainOver K p.1 && (takerIn K p.1 x == some none && hasDictIn K p.1))
noncomputable def okGB (K : Frag) (l : List (Str × Value)) : Bool := l.all fun p => (nsIn K mainGlobals p.1 == some (some p.2)) || ((nsIn K mainGlobals p.1 == some none) && ((bootBuiltins p.1 == some p.2) && !(p.1 == ("__name__" : Str))))
/-- a test: told ahead, or reckoned -/
noncomputable def decB (p : Bool) (st : St) (k : Bool → St → Prop) : Prop := match st.hs with
  | [] => k p st
  | (n, v) :: r => match n with
    | 0 => p = v ∧ k v { st with hs := r }
    | n + 1 => k p { st with hs := (n, v) :: r }
noncomputable abbrev KV := Value → An → St → Prop
noncomputable abbrev KB := Bool → St → Prop
noncomputable abbrev KF := Flow → St → Prop
noncomputable def asS : Value → Option Str
  | .str x _ => some x
  | _ => none
noncomputable def asI : Value → Option Int
  | .int i _ => some i
  | _ => none
noncomputable def isN : Value → Bool
  | .none => true
  | _ => false
noncomputable def with2 {α : Type} (a b : Option α) (f : α → α → Prop) : Prop := match a with
  | some x => match b with
    | some y => f x y
    | none => False
  | none => False
noncomputable def asC : List Nat → Option Nat
  | [] => none
  | c :: r => match r with
    | [] => some c
    | _ :: _ => none
noncomputable def onC (o : Option Nat) (f : Nat → Prop) : Prop := match o with
  | some c => f c
  | none => False
noncomputable def xCmp (op : CmpOp) (a b : Value) (st : St) (k : KB) : Prop := match op with
  | .Is => match isN b with
    | true => k (isN a) st
    | false => False
  | .IsNot => match isN b with
    | true => k (!isN a) st
    | false => False
  | .In => with2 (asS a) (asS b) fun x y => onC (asC x.cps.toList) fun c => decB (y.cps.toList.contains c) st k
  | .NotIn => with2 (asS a) (asS b) fun x y => onC (asC x.cps.toList) fun c => decB (y.cps.toList.contains c) st fun r st => k (!r) st
  | .Eq => match asI a with
    | some i => match asI b with
      | some j => decB (i == j) st k
      | none => False
    | none => with2 (asS a) (asS b) fun x y => decB (x.cps.toList == y.cps.toList) st k
  | .NotEq => with2 (asS a) (asS b) fun x y => decB (x.cps.toList == y.cps.toList) st fun r st => k (!r) st
  | .Lt => with2 (asI a) (asI b) fun i j => decB (decide (i < j)) st k
  | .LtE => with2 (asI a) (asI b) fun i j => decB (decide (i ≤ j)) st k
  | .Gt => with2 (asI a) (asI b) fun i j => decB (decide (i > j)) st k
  | .GtE => with2 (asI a) (asI b) fun i j => decB (decide (i ≥ j)) st k
noncomputable def onT (b : Bool) (p : Prop) : Prop := match b with
  | true => p
  | false => False
noncomputable def xTruth (v : Value) (st : St) (k : KB) : Prop := match asS v with
  | some x => decB (Nat.ble x.length 1000000) st fun b st => onT b (decB (!x.cps.toList.isEmpty) st fun r st => k r { st with tk := st.tk + 1 + 1 })
  | none => match v with
    | .none => k false st
    | .bool b => k b st
    | .int i _ => decB (i != 0) st k
    | _ => False
noncomputable def onO {α : Type} (o : Option α) (f : α → Prop) : Prop := match o with
  | some x => f x
  | none => False
/-- what a name stands for that is an object of a class: its class, the place and the entries of its dict -/
noncomputable def instAt (o : List (Addr × AO)) (p : Nat × Nat) : Option (Addr × Addr × List DictEntry × Nat) := match getAt o p.1 with
  | some q => match q.2 with
    | .inst c _ => match getAt o p.2 with
      | some r => match r.2 with
        | .dict es n => some (c, r.1, es, n)
        | _ => none
      | none => none
    | _ => none
  | none => none
noncomputable def readAt (C : Cf) (p : Nat × Nat) (x : Str) (st : St) (k : Value → St → Prop) : Prop := onO (instAt st.o p) fun q => match hasAt q.1 x C.okA with
  | true => onO (getE x q.2.2.1) fun v => onT (handedIn v) (k v { st with tk := st.tk + 1 })
  | false => onO (propOf q.1 x C.pr) fun y => onO (getE y q.2.2.1) fun v => onT (handedIn v) (∀ n, k v { st with tk := n })
noncomputable def writeAt (C : Cf) (p : Nat × Nat) (x : Str) (v : Value) (st : St) (k : St → Prop) : Prop := onO (instAt st.o p) fun q => onT (hasAt q.1 x C.okS) (onT (isMu p.2 C.mu) (onO (repE x (C.w x) (.str x (st.tk + 1)) v q.2.2.1 q.2.2.2) fun es => onT (Nat.ble es.1.length 1000) (k { st with o := setAt st.o p.2 (q.2.1, .dict es.1 es.2), tk := st.tk + 1 + 1 })))
noncomputable def okNm (x : Str) : Bool := !(x == ("__debug__" : Str))
noncomputable def xBin (op : Operator) (a b : Value) (st : St) (k : Value → St → Prop) : Prop := match op with
  | .Add => match asI a with
    | some i => onO (asI b) fun j => k (.int (i + j) st.tk) { st with tk := st.tk + 1 }
    | none => with2 (asS a) (asS b) fun x y => decB (Nat.ble (x.length + y.length) 1000000) st fun r st => onT r (∀ t n, k (.str (x ++ y) t) { st with tk := n })
  | .Sub => with2 (asI a) (asI b) fun i j => k (.int (i - j) st.tk) { st with tk := st.tk + 1 }
  | _ => False
noncomputable def xInp (op : Operator) (a b : Value) (st : St) (k : Value → St → Prop) : Prop := match op with
  | .Add => match asI a with
    | some i => onO (asI b) fun j => k (.int (i + j) st.tk) { st with tk := st.tk + 1 }
    | none => with2 (asS a) (asS b) fun x y => decB (Nat.ble (x.length + y.length) 1000000) st fun r st => onT r (∀ t n, k (.str (x ++ y) t) { st with tk := n })
  | _ => False
noncomputable def xNm (C : Cf) (x : Str) (st : St) (k : KV) : Prop := onT (okNm x) (match C.cs.names.lookup x with
  | some nk => match nk with
    | .local => onO (lkM x st.m) fun p => k p.1 p.2 st
    | .globalImplicit => onO (lkG x C.gl) fun v => k v none st
    | _ => False
  | none => False)
noncomputable def xCut (y x : Str) (st : St) (k : KV) : Prop := decB (Nat.ble x.length 1000000) st fun r st => onT r (∀ t n, k (.str y t) none { st with tk := n })
noncomputable def xItem (x : Str) (i : Int) (st : St) (k : KV) : Prop := decB (decide (0 ≤ i) && (decide (i < (x.length : Int)) && Nat.ble x.length 1000000)) st fun r st => onT r (k (.str (Txt.item x i) st.tk) none { st with tk := st.tk + 1 })
noncomputable def okIx : Expr → Bool
  | .Name _ _ => true
  | .BinOp _ _ _ _ => true
  | .Constant _ _ _ => true
  | _ => false
noncomputable def isNm : Expr → Bool
  | .Name _ _ => true
  | _ => false
noncomputable def xE (C : Cf) : Nat → Expr → St → KV → Prop
  | 0, _, _, _ => False
  | n + 1, e, st, k => match e with
    | .Constant c _ _ => match c with
      | .str x => k (.str x st.tk) none { st with tk := st.tk + 1 }
      | .int i => k (.int i st.tk) none { st with tk := st.tk + 1 }
      | .bool b => k (.bool b) none st
      | .none => k .none none st
      | _ => False
    | .Name x _ => xNm C x st k
    | .Attribute e' x _ => onT (isNm e') (xE C n e' st fun _ an st => onO an fun p => readAt C p x st fun v st => k v none st)
    | .BinOp l op r _ => xE C n l st fun a _ st => xE C n r st fun b _ st => xBin op a b st fun v st => k v none st
    | .Subscript v sl _ => onT (isNm v) (xE C n v st fun a _ st => onO (asS a) fun x => match sl with
      | .Slice lo hi stp _ => match stp with
        | some _ => False
        | none => onO lo fun e1 => xE C n e1 st fun i _ st => onO (asI i) fun i => match hi with
          | some e2 => xE C n e2 st fun j _ st => onO (asI j) fun j => xCut (Txt.slice x (some i) (some j)) x st k
          | none => xCut (Txt.slice x (some i) none) x st k
      | _ => onT (okIx sl) (xE C n sl st fun i _ st => onO (asI i) fun i => xItem x i st k))
    | _ => False
/-- the texts of a written tuple -/
noncomputable def cstS : Expr → Option Str
  | .Constant c _ _ => match c with
    | .str x => some x
    | _ => none
  | _ => none
noncomputable def strsOf : List Expr → Option (List Str)
  | [] => some []
  | e :: r => match cstS e with
    | some x => match strsOf r with
      | some l => some (x :: l)
      | none => none
    | none => none
noncomputable def anyEq (x : Str) : List Str → Bool
  | [] => false
  | y :: r => (y == x) || anyEq x r
noncomputable def tupOf : Expr → Option (List Str)
  | .Tuple es _ _ => strsOf es
  | _ => none
noncomputable def isIn : CmpOp → Bool
  | .In => true
  | _ => false
noncomputable def xT (C : Cf) : Nat → Expr → St → KB → Prop
  | 0, _, _, _ => False
  | n + 1, e, st, k => match e with
    | .Compare l ops rs _ => match ops with
      | [] => False
      | op :: ops => match ops with
        | _ :: _ => False
        | [] => match rs with
          | [] => False
          | r :: rs => match rs with
            | _ :: _ => False
            | [] => onT (!behindInMarks op r) (match tupOf r with
                | some ys => onT (isIn op) (xE C n l st fun a _ st => onO (asS a) fun x => onT (Nat.ble ys.length 1000000) (decB (anyEq x ys) st fun b st => k b { st with tk := st.tk + ys.length }))
                | none => xE C n l st fun a _ st => xE C n r st fun b _ st => xCmp op a b st k)
    | .BoolOp op vs pos => match op with
      | .And => match vs with
        | [] => k true st
        | v :: vs => xT C n v st fun b st => match b with
          | true => xT C n (.BoolOp .And vs pos) st k
          | false => k false st
      | .Or => match vs with
        | [] => k false st
        | v :: vs => xT C n v st fun b st => match b with
          | true => k true st
          | false => xT C n (.BoolOp .Or vs pos) st k
    | .UnaryOp op x _ => match op with
      | .Not => xT C n x st fun b st => k (!b) st
      | _ => False
    | .Constant _ _ _ => xE C n e st fun v _ st => xTruth v st k
    | .Name _ _ => xE C n e st fun v _ st => xTruth v st k
    | .Attribute _ _ _ => xE C n e st fun v _ st => xTruth v st k
    | _ => False
noncomputable def plainVal : Expr → Bool
  | .ListComp .. => false
  | .SetComp .. => false
  | .DictComp .. => false
  | _ => true
noncomputable def isLoc (C : Cf) (x : Str) : Bool := match C.cs.names.lookup x with
  | some nk => match nk with
    | .local => true
    | _ => false
  | none => false
noncomputable def isTo : Expr → Bool
  | .Name _ _ => true
  | .Attribute _ _ _ => true
  | _ => false
/-- a store -/
noncomputable def xTo (C : Cf) (n : Nat) (t : Expr) (v : Value) (an : An) (st : St) (k : St → Prop) : Prop := match t with
  | .Name x _ => onT (isLoc C x) (k { st with m := (x, v, an) :: st.m, tk := st.tk + 1 })
  | .Attribute o x _ => xE C n o st fun _ an st => onO an fun p => writeAt C p x v st k
  | _ => False
/-- behind a statement: the rest, or the way out -/
noncomputable def afterS (f : Flow) (go : Prop) (k : KF) (st : St) : Prop := match f with
  | .next => go
  | .brk => k .brk st
  | .cont => k .cont st
  | .ret v => k (.ret v) st
/-- a statement that is shown by other means -/
noncomputable def hookOr (C : Cf) (s : Stmt) (st : St) (k : KF) (p : Prop) : Prop := match isMu s.pos.line C.hl with
  | true => C.hk s st.m st.o st.tk k
  | false => p
mutual
noncomputable def xS (C : Cf) : Nat → Stmt → St → KF → Prop
  | 0, _, _, _ => False
  | n + 1, s, st, k => match s with
    | .Pass _ => k .next st
    | .Break _ => k .brk st
    | .Continue _ => k .cont st
    | .Return e _ => match e with
      | some e => xE C n e st fun v _ st => k (.ret v) st
      | none => k (.ret .none) st
    | .If t b o _ => xT C n t st fun r st => match r with
      | true => xB C n b st k
      | false => xB C n o st k
    | .Assign ts v _ => onT (plainVal v) (match ts with
        | [] => False
        | t :: ts => match ts with
          | _ :: _ => False
          | [] => onT (isTo t) (xE C n v st fun v an st => xTo C n t v an st fun st => k .next st))
    | .AugAssign t op v _ => match t with
      | .Attribute o x _ => xE C n o st fun _ an st => onO an fun p => readAt C p x st fun old st => xE C n v st fun v _ st => xInp op old v st fun w st => writeAt C p x w st fun st => k .next st
      | _ => False
    | _ => False
noncomputable def xB (C : Cf) : Nat → List Stmt → St → KF → Prop
  | 0, _, _, _ => False
  | n + 1, l, st, k => match l with
    | [] => k .next st
    | s :: r => hookOr C s st (fun f st => afterS f (xB C n r st k) k st) (xS C n s st fun f st => afterS f (xB C n r st k) k st)
end
/-- a run that goes on behind a statement shown by other means; closed to the elaborator -/
@[irreducible] noncomputable def xGo (C : Cf) (n : Nat) (l : List Stmt) (st : St) (k : KF) : Prop := xB C n l st k
noncomputable def nxr (C : Cf) (n : Nat) (l : List Stmt) (k : KF) (f : Flow) (st : St) : Prop := afterS f (xGo C n l st k) k st
theorem room0 {a n c : Nat} (h : a + n < c) : a < c := Nat.lt_of_le_of_lt (Nat.le_add_right a n) h
theorem room1 {a n x c : Nat} (h : a + n < c) (e : x ≤ n) : a + x < c := Nat.lt_of_le_of_lt (Nat.add_le_add_left e a) h
theorem room2 {a n x y c : Nat} (h : a + n < c) (e : x + y ≤ n) : a + x + y < c := Nat.add_assoc a x y ▸ room1 h e
theorem room3 {a n x y z c : Nat} (h : a + n < c) (e : x + y + z ≤ n) : a + x + y + z < c := by
  rw [Nat.add_assoc a x y, Nat.add_assoc a]; exact room1 h e
theorem decB_ok {p : Bool} {st : St} {k : Bool → St → Prop} (h : decB p st k) : ∃ hs, k p { st with hs := hs } := by
  obtain ⟨m, o, tk, hs⟩ := st
  cases hs with
  | nil => exact ⟨[], h⟩
  | cons x r =>
    obtain ⟨n, v⟩ := x
    cases n with
    | zero => obtain ⟨h1, h2⟩ := h; cases h1; exact ⟨r, h2⟩
    | succ n => exact ⟨_, h⟩
theorem onT_ok {b : Bool} {p : Prop} (h : onT b p) : b = true ∧ p := by cases b; exact h.elim; exact ⟨rfl, h⟩
theorem onO_ok {α : Type} {o : Option α} {f : α → Prop} (h : onO o f) : ∃ x, o = some x ∧ f x := by cases o; exact h.elim; exact ⟨_, rfl, h⟩
theorem onC_ok {o : Option Nat} {f : Nat → Prop} (h : onC o f) : ∃ x, o = some x ∧ f x := by cases o; exact h.elim; exact ⟨_, rfl, h⟩
theorem with2_ok {α : Type} {a b : Option α} {f : α → α → Prop} (h : with2 a b f) : ∃ x y, a = some x ∧ b = some y ∧ f x y := by
  cases a; exact h.elim
  cases b; exact h.elim
  exact ⟨_, _, rfl, rfl, h⟩
theorem asS_ok {v : Value} {x : Str} (h : asS v = some x) : ∃ t, v = .str x t := by cases v <;> cases h; exact ⟨_, rfl⟩
theorem asI_ok {v : Value} {i : Int} (h : asI v = some i) : ∃ t, v = .int i t := by cases v <;> cases h; exact ⟨_, rfl⟩
theorem asC_ok {l : List Nat} {c : Nat} (h : asC l = some c) : l = [c] := by
  cases l with
  | nil => cases h
  | cons a r => cases r; cases h; rfl; cases h
theorem isN_ok {v : Value} (h : isN v = true) : v = .none := by cases v <;> first | rfl | cases h
theorem strB_self (x : Str) : strB x x = true := beq_self_eq_true x.cps.toList
theorem lkM_den {x : Str} {m₁ : Str → Option Value} : ∀ {l : List (Str × Value × An)} {q : Value × An}, lkM x l = some q → denM l m₁ x = some q.1 ∧ ∃ y, (y, q.1, q.2) ∈ l
  | [], _, h => by cases h
  | (y, v') :: r, q, h => by
    have h : (match strB x y with | true => some v' | false => lkM x r) = some q := h
    cases e : strB x y with
    | true =>
      rw [e] at h
      cases h
      cases strB_eq e
      exact ⟨if_pos rfl, x, .head _⟩
    | false =>
      rw [e] at h
      obtain ⟨h1, y', h2⟩ := lkM_den (m₁ := m₁) h
      refine ⟨(if_neg (fun q => ?_)).trans h1, y', .tail _ h2⟩
      rw [q, strB_self] at e; cases e
theorem lkG_mem {x : Str} {v : Value} : ∀ {l : List (Str × Value)}, lkG x l = some v → (x, v) ∈ l
  | [], h => by cases h
  | (y, v') :: r, h => by
    have h : (match strB x y with | true => some v' | false => lkG x r) = some v := h
    cases e : strB x y with
    | true => rw [e] at h; cases h; cases strB_eq e; exact .head _
    | false => rw [e] at h; exact .tail _ (lkG_mem h)
theorem hasNm_mem {x : Str} : ∀ {l : List Str}, hasNm x l = true → x ∈ l
  | [], h => by cases h
  | y :: r, h => by
    have h : (match strB x y with | true => true | false => hasNm x r) = true := h
    cases e : strB x y with
    | true => cases strB_eq e; exact .head _
    | false => rw [e] at h; exact .tail _ (hasNm_mem h)
theorem hasAt_mem {a : Addr} {x : Str} : ∀ {l : List (Addr × List Str)}, hasAt a x l = true → ∃ ns, (a, ns) ∈ l ∧ x ∈ ns
  | [], h => by cases h
  | (b, l') :: r, h => by
    have h : (match Nat.beq a b with | true => hasNm x l' | false => hasAt a x r) = true := h
    cases e : Nat.beq a b with
    | true => rw [e] at h; rw [Nat.eq_of_beq_eq_true e]; exact ⟨_, .head _, hasNm_mem h⟩
    | false => rw [e] at h; obtain ⟨ns, h1, h2⟩ := hasAt_mem h; exact ⟨ns, .tail _ h1, h2⟩
theorem isMu_mem {j : Nat} : ∀ {l : List Nat}, isMu j l = true → j ∈ l
  | [], h => by cases h
  | i :: r, h => by
    have h : (match Nat.beq j i with | true => true | false => isMu j r) = true := h
    cases e : Nat.beq j i with
    | true => rw [Nat.eq_of_beq_eq_true e]; exact .head _
    | false => rw [e] at h; exact .tail _ (isMu_mem h)
theorem and_ok {a b : Bool} (h : (a && b) = true) : a = true ∧ b = true := by cases a; cases h; exact ⟨rfl, h⟩
theorem okA_of {K : Frag} {l : List (Addr × List Str)} (h : okAB K l = true) {a : Addr} {x : Str} (hx : hasAt a x l = true) : plainGet K a x = true ∧ hasDictIn K a = true ∧ ∃ at', findIn K (.ref a) x = some at' ∧ noGet K at' = true := by
  obtain ⟨ns, h1, h2⟩ := hasAt_mem hx
  obtain ⟨h3, h4⟩ := and_ok (List.all_eq_true.mp (List.all_eq_true.mp h _ h1) _ h2)
  obtain ⟨h4, h5⟩ := and_ok h4
  refine ⟨h3, h4, ?_⟩
  cases e : findIn K (.ref a) x with
  | none => dsimp only at h5; rw [e] at h5; cases h5
  | some at' => dsimp only at h5; rw [e] at h5; exact ⟨at', rfl, h5⟩
theorem okS_of {K : Frag} {l : List (Addr × List Str)} (h : okSB K l = true) {a : Addr} {x : Str} (hx : hasAt a x l = true) : findIn K (.ref a) "__setattr__" = some (some (.builtin "object.__setattr__")) ∧ plainOver K a = true ∧ takerIn K a x = some none ∧ hasDictIn K a = true := by
  obtain ⟨ns, h1, h2⟩ := hasAt_mem hx
  obtain ⟨h3, h4⟩ := and_ok (List.all_eq_true.mp (List.all_eq_true.mp h _ h1) _ h2)
  obtain ⟨h4, h5⟩ := and_ok h4
  obtain ⟨h5, h6⟩ := and_ok h5
  exact ⟨eq_of_beq h3, h4, eq_of_beq h5, h6⟩
theorem getAt_mem : ∀ {o : List (Addr × AO)} {i : Nat} {q : Addr × AO}, getAt o i = some q → (q.1, q.2.den) ∈ denO o
  | [], _, _, h => by cases h
  | (b, y) :: r, 0, q, h => by cases h; exact .head _
  | (b, y) :: r, i + 1, q, h => .tail _ (getAt_mem (o := r) h)
theorem isStr_no {x y : Str} {t : Tok} (e : strB y x = false) : (Value.str y t).isStr x = false := by
  cases q : (y == x) with
  | false => exact q
  | true => rw [eq_of_beq q, strB_self] at e; cases e
theorem isStr_yes {x y : Str} {t : Tok} (e : strB y x = true) : (Value.str y t).isStr x = true := by cases strB_eq e; exact beq_self_eq_true x
theorem getL_cons_no {x : Str} {e : DictEntry} {r : List DictEntry} (h : e.key.isStr x = false) (h2 : e.refKey = false) : getL x (e :: r) = getL x r := by
  unfold getL
  rw [List.find?_cons_of_neg (by rw [h]; exact Bool.false_ne_true), List.any_cons, h2, Bool.false_or]
theorem getL_cons_yes {x : Str} {e : DictEntry} {r : List DictEntry} (h : e.key.isStr x = true) : getL x (e :: r) = some (some e.val) := by
  unfold getL
  rw [List.find?_cons_of_pos (p := fun z : DictEntry => z.key.isStr x) h]
theorem getE_ok {x : Str} {v : Value} : ∀ {es : List DictEntry}, getE x es = some v → getL x es = some (some v)
  | [], h => by cases h
  | ⟨hh, ky, vl⟩ :: r, h => by
    cases ky <;> try (cases h; done)
    rename_i y t
    have h : (match strB y x with | true => some vl | false => getE x r) = some v := h
    cases e : strB y x with
    | true => rw [e] at h; cases h; exact getL_cons_yes (isStr_yes e)
    | false => rw [e] at h; rw [getL_cons_no (isStr_no e) rfl]; exact getE_ok h
theorem repE_ok {x : Str} {hs : Int} {ky' v : Value} : ∀ {es : List DictEntry} {n : Nat} {q : List DictEntry × Nat}, repE x hs ky' v es n = some q → putL x hs ky' v es = q.1 ∧ putN x es n = q.2 ∧ (getL x es).isSome = true
  | [], n, q, h => by cases h; exact ⟨rfl, rfl, rfl⟩
  | ⟨hh, ky, vl⟩ :: r, n, q, h => by
    cases ky <;> try (cases h; done)
    rename_i y t
    have h : (match strB y x with | true => some (⟨hh, .str y t, v⟩ :: r, n) | false => match repE x hs ky' v r n with | some p => some ((⟨hh, .str y t, vl⟩ : DictEntry) :: p.1, p.2) | none => none) = some q := h
    cases e : strB y x with
    | true =>
      rw [e] at h; cases h
      have k := isStr_yes (t := t) e
      refine ⟨if_pos k, if_pos ?_, by rw [getL_cons_yes k]; rfl⟩
      rw [List.any_cons, k]; rfl
    | false =>
      rw [e] at h
      dsimp only at h
      cases hr : repE x hs ky' v r n with
      | none => rw [hr] at h; cases h
      | some p =>
        rw [hr] at h; cases h
        obtain ⟨i1, i2, i3⟩ := repE_ok hr
        have k := isStr_no (t := t) e
        refine ⟨?_, ?_, by rw [getL_cons_no k rfl]; exact i3⟩
        · show (if (Value.str y t).isStr x = true then _ else _ :: putL x hs ky' v r) = _
          rw [if_neg (by rw [k]; exact Bool.false_ne_true), i1]
        · rw [← i2]
          unfold putN
          rw [List.any_cons, k, Bool.false_or]
/-- what a name is known to be -/
noncomputable def InstOk (o : List (Addr × AO)) (v : Value) (an : An) : Prop := match an with
  | none => True
  | some (i, j) => ∃ x c d es n, v = .ref x ∧ getAt o i = some (x, .inst c d) ∧ getAt o j = some (d, .dict es n)
/-- no other object of the ledger lies at j's place -/
noncomputable def Alone (o : List (Addr × AO)) (rest : List (Addr × Obj)) (j : Nat) : Prop := ∀ d x, getAt o j = some (d, x) → (∀ i q, i ≠ j → getAt o i = some q → q.1 ≠ d) ∧ ∀ q ∈ rest, q.1 ≠ d
structure Inv (C : Cf) (rest : List (Addr × Obj)) (m : List (Str × Value × An)) (o : List (Addr × AO)) : Prop where
  an : ∀ x v an, (x, v, an) ∈ m → InstOk o v an
  al : ∀ j ∈ C.mu, Alone o rest j
structure Rp (s₀ : Shared) (h₀ : Heap) (L : Addr) (m₁ : Str → Option Value) (rest : List (Addr × Obj)) (m : List (Str × Value × An)) (o : List (Addr × AO)) (tk : Tok) (s : Shared) : Prop where
  F : Fr h₀ L s.heap (denM m m₁)
  N : News h₀ L s.heap (denO o ++ rest)
  tk : s.toks = tk
  eq : s = { s₀ with heap := s.heap, toks := s.toks }
theorem getAt_setAt {α : Type} {y : α} : ∀ {o : List α} {j i : Nat} {z : α}, getAt o j = some z → getAt (setAt o j y) i = if i = j then some y else getAt o i
  | [], _, _, _, h => by cases h
  | x :: r, 0, 0, _, _ => rfl
  | x :: r, 0, i + 1, _, _ => rfl
  | x :: r, j + 1, 0, _, _ => rfl
  | x :: r, j + 1, i + 1, z, h => by
    show getAt (setAt r j y) i = _
    rw [getAt_setAt (o := r) (j := j) (i := i) (z := z) h]
    by_cases e : i = j
    · rw [if_pos e, if_pos (by rw [e])]
    · rw [if_neg e, if_neg (fun q => e (Nat.succ.inj q))]; rfl
theorem upd_at {d : Addr} {x y : AO} {rest : List (Addr × Obj)} : ∀ {o : List (Addr × AO)} {j : Nat}, getAt o j = some (d, x) → (∀ i q, i ≠ j → getAt o i = some q → q.1 ≠ d) → (∀ q ∈ rest, q.1 ≠ d) → Upd d x.den y.den (denO o ++ rest) (denO (setAt o j (d, y)) ++ rest)
  | [], _, h, _, _ => by cases h
  | (b, z) :: r, 0, h, h1, h2 => by
    cases h
    refine .head fun p hp => ?_
    rcases List.mem_append.mp hp with hp | hp
    · have : ∀ (l : List (Addr × AO)), (∀ i q, getAt l i = some q → q.1 ≠ d) → ∀ p ∈ denO l, p.1 ≠ d := by
        intro l
        induction l with
        | nil => intro _ p hp; cases hp
        | cons q l ih =>
          intro hq p hp
          obtain ⟨qa, qo⟩ := q
          rcases List.mem_cons.mp hp with rfl | hp
          · exact hq 0 _ rfl
          · exact ih (fun i q h => hq (i + 1) q h) p hp
      exact this r (fun i q h => h1 (i + 1) q (Nat.succ_ne_zero i) h) p hp
    · exact h2 p hp
  | (b, z) :: r, j + 1, h, h1, h2 => .tail (h1 0 _ (Nat.succ_ne_zero j).symm rfl) (upd_at (o := r) (j := j) h (fun i q hi hg => h1 (i + 1) q (fun e => hi (Nat.succ.inj e)) hg) h2)
theorem InstOk.set {o : List (Addr × AO)} {v : Value} {an : An} {j : Nat} {d : Addr} {es es' : List DictEntry} {n n' : Nat} (h : getAt o j = some (d, .dict es n)) (I : InstOk o v an) : InstOk (setAt o j (d, .dict es' n')) v an := by
  cases an with
  | none => trivial
  | some p =>
    obtain ⟨i, k⟩ := p
    obtain ⟨x, c, dd, es1, n1, e1, e2, e3⟩ := I
    by_cases hk : k = j
    · subst hk
      rw [h] at e3
      cases e3
      refine ⟨x, c, d, es', n', e1, ?_, ?_⟩
      · rw [getAt_setAt h, if_neg (fun q => by rw [q, h] at e2; cases e2)]; exact e2
      · rw [getAt_setAt h, if_pos rfl]
    · refine ⟨x, c, dd, es1, n1, e1, ?_, ?_⟩
      · rw [getAt_setAt h, if_neg (fun q => by rw [q, h] at e2; cases e2)]; exact e2
      · rw [getAt_setAt h, if_neg hk]; exact e3
theorem Inv.set {C : Cf} {rest : List (Addr × Obj)} {m : List (Str × Value × An)} {o : List (Addr × AO)} (I : Inv C rest m o) {j : Nat} {d : Addr} {es es' : List DictEntry} {n n' : Nat} (h : getAt o j = some (d, .dict es n)) : Inv C rest m (setAt o j (d, .dict es' n')) := by
  refine ⟨fun x v an hm => (I.an x v an hm).set h, fun k hk d' x' hg => ?_⟩
  rw [getAt_setAt h] at hg
  have key : ∃ x'', getAt o k = some (d', x'') := by
    by_cases e : k = j
    · rw [if_pos e] at hg; cases hg; rw [e]; exact ⟨_, h⟩
    · rw [if_neg e] at hg; exact ⟨_, hg⟩
  obtain ⟨x'', hk'⟩ := key
  obtain ⟨a1, a2⟩ := I.al k hk d' x'' hk'
  refine ⟨fun i q hi hq => ?_, a2⟩
  rw [getAt_setAt h] at hq
  by_cases e : i = j
  · rw [if_pos e] at hq; cases hq; subst e; exact a1 i (d, .dict es n) hi h
  · rw [if_neg e] at hq; exact a1 i q hi hq
theorem Inv.push {C : Cf} {rest : List (Addr × Obj)} {m : List (Str × Value × An)} {o : List (Addr × AO)} (I : Inv C rest m o) {x : Str} {v : Value} {an : An} (h : InstOk o v an) : Inv C rest ((x, v, an) :: m) o :=
  ⟨fun y u b hm => by rcases List.mem_cons.mp hm with e | hm; cases e; exact h; exact I.an y u b hm, I.al⟩
section
variable {prog : Program} {w : World} {K : Frag} {A : Around} {E : Value → Shared → Prop} {cn : Str} {L a : Addr} {ccd : Value} {cl : List (Str × Addr)} {h₀ : Heap} {m₁ : Str → Option Value} {rest : List (Addr × Obj)} {C : Cf} {s₀ : Shared} {p : Program} {loose : List Str} {mg mb : Str → Option Value}
theorem Rp.sub {m : List (Str × Value × An)} {o : List (Addr × AO)} {tk tk' : Tok} {s : Shared} {h' : Heap} (R : Rp s₀ h₀ L m₁ rest m o tk s) (F : Fr h₀ L h' (denM m m₁)) (N : News h₀ L h' (denO o ++ rest)) : Rp s₀ h₀ L m₁ rest m o tk' { s with heap := h', toks := tk' } :=
  ⟨F, N, rfl, by have := R.eq; rw [this]⟩
theorem Rp.to {m : List (Str × Value × An)} {o : List (Addr × AO)} {tk tk' : Tok} {s : Shared} (R : Rp s₀ h₀ L m₁ rest m o tk s) (n : Nat) (e : n = tk') : Rp s₀ h₀ L m₁ rest m o tk' { s with toks := n } :=
  ⟨R.F, R.N, e, by have := R.eq; rw [this]⟩
theorem in_c {c : Nat} {x y : Str} {t u : Tok} {s : Shared} {Q : Value → Shared → Prop} (hx : x.cps.toList = [c]) (h : Q (.bool (y.cps.toList.contains c)) s) : wpAny (model prog w) A (compareOp .In (.str x t) (.str y u)) Q E s := by
  refine in_str ?_
  rw [show x = ⟨#[c]⟩ from by obtain ⟨⟨l⟩⟩ := x; cases hx; rfl, PySem.StrLaws.found_one, show decide (c ∈ y.cps.toList) = y.cps.toList.contains c from by rw [Bool.eq_iff_iff, decide_eq_true_eq, List.contains_iff_mem]]
  exact h
theorem notin_c {c : Nat} {x y : Str} {t u : Tok} {s : Shared} {Q : Value → Shared → Prop} (hx : x.cps.toList = [c]) (h : Q (.bool (!y.cps.toList.contains c)) s) : wpAny (model prog w) A (compareOp .NotIn (.str x t) (.str y u)) Q E s := by
  refine notIn_str ?_
  rw [show x = ⟨#[c]⟩ from by obtain ⟨⟨l⟩⟩ := x; cases hx; rfl, PySem.StrLaws.found_one, show decide (c ∈ y.cps.toList) = y.cps.toList.contains c from by rw [Bool.eq_iff_iff, decide_eq_true_eq, List.contains_iff_mem]]
  exact h
theorem is_n {v : Value} {s : Shared} {Q : Value → Shared → Prop} (h : Q (.bool (isN v)) s) : wpAny (model prog w) A (compareOp .Is v .none) Q E s := by
  cases e : isN v with
  | true => rw [e] at h; cases isN_ok e; exact wpAny_is_self rfl h
  | false => rw [e] at h; exact is_none_ne (fun q => by rw [q] at e; cases e) h
theorem isnot_n {v : Value} {s : Shared} {Q : Value → Shared → Prop} (h : Q (.bool (!isN v)) s) : wpAny (model prog w) A (compareOp .IsNot v .none) Q E s := by
  cases e : isN v with
  | true => rw [e] at h; cases isN_ok e; exact wpAny_isNot_self rfl h
  | false => rw [e] at h; exact isnot_none_ne (fun q => by rw [q] at e; cases e) h
theorem xCmp_ok {op : CmpOp} {v u : Value} {st : St} {k : KB} (h : xCmp op v u st k) {s : Shared} {Q : Value → Shared → Prop} (hQ : ∀ b hs, k b { st with hs := hs } → Q (.bool b) s) : wpAny (model prog w) A (compareOp op v u) Q E s := by
  have i2 : ∀ {g : Int → Int → Bool}, with2 (asI v) (asI u) (fun i j => decB (g i j) st k) → ∃ i t j r, v = .int i t ∧ u = .int j r ∧ Q (.bool (g i j)) s := fun h => by
    obtain ⟨i, j, e1, e2, h⟩ := with2_ok h
    obtain ⟨t, rfl⟩ := asI_ok e1
    obtain ⟨r, rfl⟩ := asI_ok e2
    obtain ⟨hs, h⟩ := decB_ok h
    exact ⟨_, _, _, _, rfl, rfl, hQ _ _ h⟩
  have s2 : ∀ {g : Str → Str → Prop}, with2 (asS v) (asS u) g → ∃ x t y r, v = .str x t ∧ u = .str y r ∧ g x y := fun h => by
    obtain ⟨i, j, e1, e2, h⟩ := with2_ok h
    obtain ⟨t, rfl⟩ := asS_ok e1
    obtain ⟨r, rfl⟩ := asS_ok e2
    exact ⟨_, _, _, _, rfl, rfl, h⟩
  cases op with
  | Is =>
    have h : (match isN u with | true => k (isN v) st | false => False) := h
    cases e : isN u with
    | false => rw [e] at h; exact h.elim
    | true => rw [e] at h; cases isN_ok e; exact is_n (hQ _ st.hs h)
  | IsNot =>
    have h : (match isN u with | true => k (!isN v) st | false => False) := h
    cases e : isN u with
    | false => rw [e] at h; exact h.elim
    | true => rw [e] at h; cases isN_ok e; exact isnot_n (hQ _ st.hs h)
  | In =>
    obtain ⟨x, t, y, r, rfl, rfl, g⟩ := s2 h
    obtain ⟨c, e, g⟩ := onC_ok g
    obtain ⟨hs, g⟩ := decB_ok g
    exact in_c (asC_ok e) (hQ _ _ g)
  | NotIn =>
    obtain ⟨x, t, y, r, rfl, rfl, g⟩ := s2 h
    obtain ⟨c, e, g⟩ := onC_ok g
    obtain ⟨hs, g⟩ := decB_ok g
    exact notin_c (asC_ok e) (hQ _ _ g)
  | Eq =>
    have h : (match asI v with | some i => (match asI u with | some j => decB (i == j) st k | none => False) | none => with2 (asS v) (asS u) fun x y => decB (x.cps.toList == y.cps.toList) st k) := h
    cases e : asI v with
    | some i =>
      rw [e] at h
      dsimp only at h
      cases e2 : asI u with
      | none => rw [e2] at h; exact h.elim
      | some j =>
        rw [e2] at h
        obtain ⟨t, rfl⟩ := asI_ok e
        obtain ⟨r, rfl⟩ := asI_ok e2
        obtain ⟨hs, h⟩ := decB_ok h
        exact PySem.P.eq_int (hQ _ _ h)
    | none =>
      rw [e] at h
      obtain ⟨x, t, y, r, rfl, rfl, g⟩ := s2 h
      obtain ⟨hs, g⟩ := decB_ok g
      exact PySem.P.eq_str (hQ _ _ g)
  | NotEq =>
    obtain ⟨x, t, y, r, rfl, rfl, g⟩ := s2 h
    obtain ⟨hs, g⟩ := decB_ok g
    exact PySem.P.ne_str (hQ _ _ g)
  | Lt => obtain ⟨i, t, j, r, rfl, rfl, g⟩ := i2 h; exact PySem.P.lt_int g
  | LtE => obtain ⟨i, t, j, r, rfl, rfl, g⟩ := i2 h; exact PySem.P.le_int g
  | Gt => obtain ⟨i, t, j, r, rfl, rfl, g⟩ := i2 h; exact PySem.P.gt_int g
  | GtE => obtain ⟨i, t, j, r, rfl, rfl, g⟩ := i2 h; exact PySem.P.ge_int g
theorem len_ne (x : Str) : ((x.length : Int) != 0) = !x.cps.toList.isEmpty := by
  obtain ⟨⟨l⟩⟩ := x
  cases l <;> rfl
theorem xTruth_ok {v : Value} {st : St} {k : KB} (h : xTruth v st k) {s : Shared} {Q : Bool → Shared → Prop} (ht : s.toks = st.tk) (hQ : ∀ b hs n, k b { st with hs := hs, tk := n } → Q b { s with toks := n }) : wpAny (model prog w) A (truthy v) Q E s := by
  have he : ∀ b hs, k b { st with hs := hs } → Q b s := fun b hs hk => by
    have := hQ b hs st.tk hk
    rw [← ht] at this
    exact this
  cases v with
  | none => exact truthy_none (he _ st.hs h)
  | bool b => exact wpAny_truthy_bool (he _ st.hs h)
  | int i t => obtain ⟨hs, h⟩ := decB_ok (p := i != 0) (k := k) h; exact PySem.P.truthy_int (he _ _ h)
  | str x t =>
    obtain ⟨hs, h⟩ := decB_ok (p := Nat.ble x.length 1000000) (k := fun b st => onT b (decB (!x.cps.toList.isEmpty) st fun r st => k r { st with tk := st.tk + 1 + 1 })) h
    obtain ⟨hl, h⟩ := onT_ok h
    have hl' : x.length ≤ 1000000 := Nat.le_of_ble_eq_true hl
    obtain ⟨hs, h⟩ := decB_ok h
    refine PySem.P.truthy_str (fun q => absurd (Int.ofNat_le.mp (Int.le_trans q (Int.ofNat_le.mpr hl'))) (by decide)) ?_
    rw [len_ne]
    have := hQ _ _ _ h
    rw [← ht] at this
    exact this
  | _ => exact (show False from h).elim
noncomputable abbrev eX (cn : Str) (C : Cf) (L a : Addr) (ccd : Value) (cl : List (Str × Addr)) : Env := envX cn C.cs L a ccd cl
/-- what is known of the properties that the run reads -/
noncomputable def PrH (prog : Program) (w : World) (A : Around) (E : Value → Shared → Prop) (h₀ : Heap) (L : Addr) (pr : List (Addr × Str × Str)) : Prop :=
  ∀ c x y, (c, x, y) ∈ pr → ∀ (s : Shared) (Q : Value → Shared → Prop) (m : Str → Option Value) (news : List (Addr × Obj)) (ax d : Addr) (es : List DictEntry) (n : Nat) (u : Value), Fr h₀ L s.heap m → News h₀ L s.heap news → (ax, instObj c d) ∈ news → (d, dictOf es n) ∈ news → getE y es = some u → handedIn u = true →
    (∀ h' tk', Fr h₀ L h' m → News h₀ L h' news → Q u { s with heap := h', toks := tk' }) → wpAny (model prog w) A (getAttr (.ref ax) x true) Q E s
theorem PrH.nil : PrH prog w A E h₀ L [] := fun _ _ _ h => nomatch h
theorem propOf_mem {b : Addr} {x y : Str} : ∀ {l : List (Addr × Str × Str)}, propOf b x l = some y → (b, x, y) ∈ l
  | [], h => by cases h
  | (c, z, u) :: r, h => by
    have h : (match Nat.beq b c with | true => (match strB x z with | true => some u | false => propOf b x r) | false => propOf b x r) = some y := h
    cases e : Nat.beq b c with
    | false => rw [e] at h; exact .tail _ (propOf_mem h)
    | true =>
      rw [e] at h
      dsimp only at h
      cases e2 : strB x z with
      | false => rw [e2] at h; exact .tail _ (propOf_mem h)
      | true => rw [e2] at h; cases h; cases Nat.eq_of_beq_eq_true e; cases strB_eq e2; exact .head _
theorem instAt_ok {o : List (Addr × AO)} {v : Value} {q : Nat × Nat} (I : InstOk o v (some q)) : ∃ x c d es n, v = .ref x ∧ getAt o q.1 = some (x, .inst c d) ∧ getAt o q.2 = some (d, .dict es n) ∧ instAt o q = some (c, d, es, n) := by
  obtain ⟨x, c, d, es, n, e1, e2, e3⟩ := I
  refine ⟨x, c, d, es, n, e1, e2, e3, ?_⟩
  unfold instAt
  rw [e2, e3]
theorem readAt_ok {q : Nat × Nat} {x : Str} {v : Value} {st : St} {k : Value → St → Prop} (hA : okAB K C.okA = true) (hP : PrH prog w A E h₀ L C.pr) (X : K.In h₀) (I : InstOk st.o v (some q)) {s : Shared} {Q : Value → Shared → Prop} (R : Rp s₀ h₀ L m₁ rest st.m st.o st.tk s) (h : readAt C q x st k)
    (hQ : ∀ u n s', k u { st with tk := n } → Rp s₀ h₀ L m₁ rest st.m st.o n s' → Q u s') : wpAny (model prog w) A (getAttr v x true) Q E s := by
  obtain ⟨ax, c, d, es, n, rfl, e2, e3, e4⟩ := instAt_ok I
  unfold readAt at h
  rw [e4] at h
  have h : (match hasAt c x C.okA with | true => onO (getE x es) fun v => onT (handedIn v) (k v { st with tk := st.tk + 1 }) | false => onO (propOf c x C.pr) fun y => onO (getE y es) fun v => onT (handedIn v) (∀ n, k v { st with tk := n })) := h
  have m1 := List.mem_append_left rest (getAt_mem e2)
  have m2 := List.mem_append_left rest (getAt_mem e3)
  cases ha : hasAt c x C.okA with
  | true =>
    rw [ha] at h
    obtain ⟨u, hu, h⟩ := onO_ok h
    obtain ⟨hh, h⟩ := onT_ok h
    obtain ⟨g1, g2, at', g3, g4⟩ := okA_of hA ha
    exact get_own R.F X (InstAt.of_news R.N m1 m2) g1 g2 g3 g4 (getE_ok hu) hh (hQ _ _ _ h (R.to _ (by rw [R.tk])))
  | false =>
    rw [ha] at h
    obtain ⟨y, hy, h⟩ := onO_ok h
    obtain ⟨u, hu, h⟩ := onO_ok h
    obtain ⟨hh, h⟩ := onT_ok h
    exact hP c x y (propOf_mem hy) s Q (denM st.m m₁) (denO st.o ++ rest) ax d es n u R.F R.N m1 m2 hu hh fun h2 tk2 F2 N2 => hQ _ _ _ (h tk2) (R.sub F2 N2)
theorem writeAt_ok {q : Nat × Nat} {x : Str} {v u : Value} {st : St} {k : St → Prop} (hW : ∀ x, C.w x = PyData.keyHash w.params x) (hS : okSB K C.okS = true) (X : K.In h₀) (I : InstOk st.o v (some q)) (V : Inv C rest st.m st.o) {s : Shared} {Q : Unit → Shared → Prop} (R : Rp s₀ h₀ L m₁ rest st.m st.o st.tk s) (h : writeAt C q x u st k)
    (hQ : ∀ st' s', k st' → st'.m = st.m → Inv C rest st'.m st'.o → Rp s₀ h₀ L m₁ rest st'.m st'.o st'.tk s' → Q () s') : wpAny (model prog w) A (setAttr v x u) Q E s := by
  obtain ⟨ax, c, d, es, n, rfl, e2, e3, e4⟩ := instAt_ok I
  unfold writeAt at h
  rw [e4] at h
  obtain ⟨ha, h⟩ := onT_ok (p := _) h
  obtain ⟨hmu, h⟩ := onT_ok h
  obtain ⟨es', hes, h⟩ := onO_ok h
  obtain ⟨hz, h⟩ := onT_ok h
  obtain ⟨g1, g2, g3, g4⟩ := okS_of hS ha
  obtain ⟨p1, p2, p3⟩ := repE_ok hes
  obtain ⟨a1, a2⟩ := V.al q.2 (isMu_mem hmu) d _ e3
  refine set_dict (es' := es'.1) (n' := es'.2) R.F X R.N (InstAt.of_news R.N (List.mem_append_left _ (getAt_mem e2)) (List.mem_append_left _ (getAt_mem e3))) rfl g1 g2 g3 g4 p3 (by rw [R.tk, ← hW, p1, p2]) (upd_at (y := .dict es'.1 es'.2) e3 a1 a2) (Nat.le_of_ble_eq_true hz) fun h' F' N' => ?_
  refine hQ _ _ h rfl (V.set e3) ⟨F', N', ?_, ?_⟩
  · show s.toks + 2 = st.tk + 1 + 1; rw [R.tk]
  · have := R.eq; rw [this]
theorem sz_ok {x y : Str} (h : Nat.ble (x.length + y.length) 1000000 = true) : x.length + y.length ≤ sizeLine := Nat.le_trans (Nat.le_of_ble_eq_true h) (by decide)
theorem xBin_ok {op : Operator} {v u : Value} {st : St} {k : Value → St → Prop} (h : xBin op v u st k) {s : Shared} {Q : Value → Shared → Prop} (ht : s.toks = st.tk) (hQ : ∀ r hs n, k r { st with hs := hs, tk := n } → Q r { s with toks := n }) : wpAny (model prog w) A (binaryOp op v u) Q E s := by
  cases op with
  | Add =>
    have h : (match asI v with | some i => onO (asI u) fun j => k (.int (i + j) st.tk) { st with tk := st.tk + 1 } | none => with2 (asS v) (asS u) fun x y => decB (Nat.ble (x.length + y.length) 1000000) st fun r st => onT r (∀ t n, k (.str (x ++ y) t) { st with tk := n })) := h
    cases e : asI v with
    | some i =>
      rw [e] at h
      obtain ⟨j, e2, h⟩ := onO_ok h
      obtain ⟨t, rfl⟩ := asI_ok e
      obtain ⟨r, rfl⟩ := asI_ok e2
      refine PySem.P.add_int ?_
      rw [ht]; exact hQ _ st.hs _ h
    | none =>
      rw [e] at h
      obtain ⟨x, y, e1, e2, g⟩ := with2_ok h
      obtain ⟨t, rfl⟩ := asS_ok e1
      obtain ⟨r, rfl⟩ := asS_ok e2
      obtain ⟨hs, g⟩ := decB_ok g
      obtain ⟨hl, g⟩ := onT_ok g
      exact SBL.add (fun t' n _ => hQ _ _ _ (g t' n)) (sz_ok hl)
  | Sub =>
    obtain ⟨i, j, e1, e2, h⟩ := with2_ok h
    obtain ⟨t, rfl⟩ := asI_ok e1
    obtain ⟨r, rfl⟩ := asI_ok e2
    refine PySem.P.sub_int ?_
    rw [ht]; exact hQ _ st.hs _ h
  | _ => exact (show False from h).elim
theorem xInp_ok {op : Operator} {v u : Value} {st : St} {k : Value → St → Prop} (h : xInp op v u st k) {s : Shared} {Q : Value → Shared → Prop} (ht : s.toks = st.tk) (hQ : ∀ r hs n, k r { st with hs := hs, tk := n } → Q r { s with toks := n }) : wpAny (model prog w) A (inplaceOp op v u) Q E s := by
  cases op with
  | Add =>
    have h : (match asI v with | some i => onO (asI u) fun j => k (.int (i + j) st.tk) { st with tk := st.tk + 1 } | none => with2 (asS v) (asS u) fun x y => decB (Nat.ble (x.length + y.length) 1000000) st fun r st => onT r (∀ t n, k (.str (x ++ y) t) { st with tk := n })) := h
    cases e : asI v with
    | some i =>
      rw [e] at h
      obtain ⟨j, e2, h⟩ := onO_ok h
      obtain ⟨t, rfl⟩ := asI_ok e
      obtain ⟨r, rfl⟩ := asI_ok e2
      refine PySem.P.iadd_int ?_
      rw [ht]; exact hQ _ st.hs _ h
    | none =>
      rw [e] at h
      obtain ⟨x, y, e1, e2, g⟩ := with2_ok h
      obtain ⟨t, rfl⟩ := asS_ok e1
      obtain ⟨r, rfl⟩ := asS_ok e2
      obtain ⟨hs, g⟩ := decB_ok g
      obtain ⟨hl, g⟩ := onT_ok g
      exact SBL.iadd (fun t' n _ => hQ _ _ _ (g t' n)) (sz_ok hl)
  | _ => exact (show False from h).elim
theorem okG_of {l : List (Str × Value)} (h : okGB K l = true) {x : Str} {v : Value} (hx : lkG x l = some v) : nsIn K mainGlobals x = some (some v) ∨ (nsIn K mainGlobals x = some none ∧ bootBuiltins x = some v ∧ x ≠ "__name__") := by
  have h3 := List.all_eq_true.mp h _ (lkG_mem hx)
  dsimp only at h3
  rcases Bool.or_eq_true_iff.mp h3 with q | q
  · exact .inl (eq_of_beq q)
  · rw [Bool.and_eq_true, Bool.and_eq_true] at q
    refine .inr ⟨eq_of_beq q.1, eq_of_beq q.2.1, fun e => ?_⟩
    have := q.2.2
    rw [e] at this
    revert this
    decide +kernel
theorem okNm_of {x : Str} (h : okNm x = true) : (x == ("__debug__" : Str)) = false := by
  cases e : (x == ("__debug__" : Str)) with
  | false => rfl
  | true => exact absurd h (by unfold okNm; rw [e]; decide)
/-- what the look-ups rest on -/
structure Has (prog : Program) (w : World) (K : Frag) (A : Around) (E : Value → Shared → Prop) (h₀ : Heap) (L : Addr) (C : Cf) (p : Program) (loose : List Str) (mg mb : Str → Option Value) : Prop where
  hk : C.cs.kind = .function
  hA : okAB K C.okA = true
  hP : PrH prog w A E h₀ L C.pr
  hS : okSB K C.okS = true
  hG : okGB K C.gl = true
  hW : ∀ x, C.w x = PyData.keyHash w.params x
  X : K.In h₀
  T : TopRead p loose mg mb h₀
theorem nm_tmp {v : Expr} (h : isNm v = true) (o : Value) : ∀ r, letTemporaryGo v o r = pure () := by
  cases v with
  | Name x p => exact fun _ => rfl
  | _ => cases h
theorem xE_ok (H : Has prog w K A E h₀ L C p loose mg mb) : ∀ (n : Nat) (e : Expr) (st : St) (k : KV), xE C n e st k → Inv C rest st.m st.o → ∀ (s : Shared) (Q : Value → Shared → Prop), Rp s₀ h₀ L m₁ rest st.m st.o st.tk s →
    (∀ v an st' s', k v an st' → Inv C rest st'.m st'.o → InstOk st'.o v an → st'.o = st.o → Rp s₀ h₀ L m₁ rest st'.m st'.o st'.tk s' → Q v s') → wpAny (model prog w) A (eval e (eX cn C L a ccd cl)) Q E s
  | 0, _, _, _, h, _, _, _, _, _ => False.elim h
  | n + 1, e, st, k, h, I, s, Q, R, hQ => by
    have IH := xE_ok H n
    cases e with
    | Constant c ck cp =>
      cases c with
      | str x => exact Constant_str (hQ _ none { st with tk := st.tk + 1 } _ (by rw [R.tk]; exact h) I trivial rfl (R.to _ (by rw [R.tk])))
      | int x => exact wpAny_Constant_int (hQ _ none { st with tk := st.tk + 1 } _ (by rw [R.tk]; exact h) I trivial rfl (R.to _ (by rw [R.tk])))
      | bool b => exact Constant_bool (hQ _ none _ _ h I trivial rfl R)
      | none => exact Constant_none (hQ _ none _ _ h I trivial rfl R)
      | _ => exact (show False from h).elim
    | Name x xp =>
      obtain ⟨hn, h⟩ := onT_ok (show onT _ _ from h)
      have hn := okNm_of hn
      cases hl : C.cs.names.lookup x with
      | none => rw [hl] at h; exact h.elim
      | some nk =>
        rw [hl] at h
        cases nk with
        | «local» =>
          obtain ⟨q, hv, h⟩ := onO_ok h
          obtain ⟨h1, y, h2⟩ := lkM_den (m₁ := m₁) hv
          exact nameX_L R.F h1 (hQ _ q.2 _ _ h I (I.an _ _ _ h2) rfl R) H.hk hl hn
        | globalImplicit =>
          obtain ⟨v, hv, h⟩ := onO_ok h
          rcases okG_of H.hG hv with q | ⟨q1, q2, q3⟩
          · exact nameX_K R.F H.X H.T q (hQ _ none _ _ h I trivial rfl R) H.hk hl hn
          · exact nameX_B R.F H.X H.T q1 q2 q3 (hQ _ none _ _ h I trivial rfl R) H.hk hl hn
        | _ => exact (show False from h).elim
    | Attribute e' x xp =>
      obtain ⟨hn, h⟩ := onT_ok (show onT _ _ from h)
      cases e' with
      | Name y yp =>
        refine Attribute_Name_ (IH _ _ _ h I s _ R fun v an st' s' h' I' O' eo R' => ?_)
        obtain ⟨q, rfl, g⟩ := onO_ok h'
        refine readAt_ok H.hA H.hP H.X O' R' g fun u n2 s2 hu R2 => ?_
        exact hQ _ none { st' with tk := n2 } _ hu I' trivial eo R2
      | _ => cases hn
    | BinOp l op r xp =>
      refine wpAny_BinOp (IH _ _ _ h I s _ R fun v an st' s' h' I' O' eo R' => ?_)
      refine IH _ _ _ h' I' s' _ R' fun u an st'' s'' h'' I'' O'' eo' R'' => ?_
      refine xBin_ok h'' R''.tk fun r hs m hr => ?_
      exact hQ _ none { st'' with hs := hs, tk := m } _ hr I'' trivial (eo'.trans eo) (R''.to _ rfl)
    | Subscript v sl xp =>
      obtain ⟨hv, h⟩ := onT_ok (show onT _ _ from h)
      have ht := nm_tmp hv
      refine Subscript_ (IH _ _ _ h I s _ R fun v an st' s' h' I' O' eo R' => ?_)
      obtain ⟨x, hx, g⟩ := onO_ok h'
      obtain ⟨tx, rfl⟩ := asS_ok hx
      have ix : ∀ (g : onT (okIx sl) (xE C n sl st' fun i _ st => onO (asI i) fun i => xItem x i st k)) (hs : ∀ i, subscripted sl false (.str x tx) i = operate [.str x tx, i] (getItem (.str x tx) i)), wpAny (model prog w) A (eval sl (eX cn C L a ccd cl)) (fun i s₂ => wpAny (model prog w) A (subscriptTail v sl (.str x tx) i) Q E s₂) E s' := fun g hs => by
        obtain ⟨_, g⟩ := onT_ok g
        refine IH _ _ _ g I' s' _ R' fun u an'' st'' s'' h'' I'' O'' eo'' R'' => ?_
        obtain ⟨i, hi, g2⟩ := onO_ok h''
        obtain ⟨ti, rfl⟩ := asI_ok hi
        obtain ⟨hs2, g3⟩ := decB_ok g2
        obtain ⟨hb, g4⟩ := onT_ok g3
        obtain ⟨b1, b2⟩ := and_ok hb
        obtain ⟨b2, b3⟩ := and_ok b2
        have c1 := of_decide_eq_true b1
        have c2 := of_decide_eq_true b2
        have c3 : x.length ≤ 1000000 := Nat.le_of_ble_eq_true b3
        refine tail_of_ItemOn (SBL.item (by omega) c2 (by omega) fun _ => ?_) (hs _) (ht _)
        rw [R''.tk]
        exact hQ _ none { st'' with hs := hs2, tk := st''.tk + 1 } _ g4 I'' trivial (eo''.trans eo) (R''.to _ rfl)
      have cut : ∀ {y : Str} (st'' : St) {s'' : Shared}, xCut y x st'' k → Inv C rest st''.m st''.o → st''.o = st.o → Rp s₀ h₀ L m₁ rest st''.m st''.o st''.tk s'' → x.length ≤ sizeLine ∧ ∀ h' t' n, Fr h₀ L h' (denM st''.m m₁) → News h₀ L h' (denO st''.o ++ rest) → Q (.str y t') { s'' with heap := h', toks := n } := fun st'' _ g3 I'' eo'' R'' => by
        obtain ⟨hs2, g3⟩ := decB_ok g3
        obtain ⟨hb, g4⟩ := onT_ok g3
        refine ⟨Nat.le_trans (Nat.le_of_ble_eq_true hb) (by decide), fun h2 t2 n2 F2 N2 => ?_⟩
        exact hQ _ none { st'' with hs := hs2, tk := n2 } _ (g4 t2 n2) I'' trivial eo'' (R''.sub F2 N2)
      cases sl with
      | Slice lo hi stp sp =>
        cases stp with
        | some _ => exact (show False from g).elim
        | none =>
          obtain ⟨e1, rfl, g⟩ := onO_ok (show onO _ _ from g)
          refine wpAny_Slice (evalPart_some_step (IH _ _ _ g I' s' _ R' fun u an'' st'' s'' h'' I'' O'' eo'' R'' => ?_))
          obtain ⟨i, hi', g2⟩ := onO_ok h''
          obtain ⟨ti, rfl⟩ := asI_ok hi'
          cases hi with
          | some e2 =>
            refine evalPart_some_step (IH _ _ _ g2 I'' s'' _ R'' fun u3 an3 st3 s3 h3 I3 O3 eo3 R3 => ?_)
            obtain ⟨j, hj, g3⟩ := onO_ok h3
            obtain ⟨tj, rfl⟩ := asI_ok hj
            obtain ⟨z1, z2⟩ := cut _ g3 I3 ((eo3.trans eo'').trans eo) R3
            exact evalPart_none_step (slice_strN_ss R3.F R3.N (fun h' t' n F' N' => z2 h' t' n F' N') (ht := ht _) (hsz := z1))
          | none =>
            obtain ⟨z1, z2⟩ := cut _ g2 I'' (eo''.trans eo) R''
            exact evalPart_none_step (evalPart_none_step (slice_strN_sn R''.F R''.N (fun h' t' n F' N' => z2 h' t' n F' N') (ht := ht _) (hsz := z1)))
      | Name _ _ => exact ix g fun _ => by with_unfolding_all rfl
      | BinOp _ _ _ _ => exact ix g fun _ => by with_unfolding_all rfl
      | Constant _ _ _ => exact ix g fun _ => by with_unfolding_all rfl
      | _ => exact absurd (onT_ok (show onT _ _ from g)).1 Bool.false_ne_true
    | _ => exact (show False from h).elim
theorem cstS_ok {e : Expr} {x : Str} (h : cstS e = some x) : ∃ k p, e = .Constant (.str x) k p := by
  cases e with
  | Constant c k p =>
    cases c with
    | str y => cases h; exact ⟨_, _, rfl⟩
    | _ => cases h
  | _ => cases h
theorem strs_sp {env : Env} {pos : Pos} : ∀ (es : List Expr) (ys : List Str), strsOf es = some ys → ∀ (s : Shared) (Q : List Value → Shared → Prop), (∀ vs, StrsAre vs ys → vs.length = ys.length → Q vs { s with toks := s.toks + ys.length }) → wpAny (model prog w) A (spliced (backTo pos (starEach es env))) Q E s
  | [], ys, h, s, Q, hQ => by cases h; exact spliced_nil (hQ [] .nil rfl)
  | e :: r, ys, h, s, Q, hQ => by
    have h : (match cstS e with | some x => (match strsOf r with | some l => some (x :: l) | none => none) | none => none) = some ys := h
    cases h1 : cstS e with
    | none => rw [h1] at h; cases h
    | some x =>
      rw [h1] at h
      dsimp only at h
      cases h2 : strsOf r with
      | none => rw [h2] at h; cases h
      | some l =>
        rw [h2] at h
        cases h
        obtain ⟨k', pos', rfl⟩ := cstS_ok h1
        refine spliced_cons (Constant_str (k := k') (pos := pos') (strs_sp r l h2 _ _ fun vs hv hz => ?_))
        have := hQ (.str x s.toks :: vs) (.cons _ s.toks hv) (congrArg Nat.succ hz)
        rw [List.length_cons, Nat.add_comm l.length 1, ← Nat.add_assoc] at this
        exact this
theorem tupOf_ok {e : Expr} {ys : List Str} (h : tupOf e = some ys) : ∃ es k p, e = .Tuple es k p ∧ strsOf es = some ys := by
  cases e with
  | Tuple es k p => exact ⟨_, _, _, rfl, h⟩
  | _ => cases h
theorem any_is (x : Str) : ∀ ys : List Str, ys.any (· == x) = anyEq x ys
  | [] => rfl
  | y :: r => by rw [List.any_cons, any_is x r]; rfl
theorem not_ok {b : Bool} (h : (!b) = true) : b = false := by cases b; rfl; cases h
theorem xT_ok (H : Has prog w K A E h₀ L C p loose mg mb) : ∀ (n : Nat) (e : Expr) (st : St) (k : KB), xT C n e st k → Inv C rest st.m st.o → ∀ (s : Shared) (Q : Bool → Shared → Prop) (whole : Sem Value), whole = eval e (eX cn C L a ccd cl) ∨ (∃ op vs pos, e = .BoolOp op vs pos) → Rp s₀ h₀ L m₁ rest st.m st.o st.tk s →
    (∀ b st' s', k b st' → Inv C rest st'.m st'.o → Rp s₀ h₀ L m₁ rest st'.m st'.o st'.tk s' → Q b s') → wpAny (model prog w) A (isTrue e (eX cn C L a ccd cl) whole) Q E s
  | 0, _, _, _, h, _, _, _, _, _, _, _ => False.elim h
  | n + 1, e, st, k, h, I, s, Q, whole, hw, R, hQ => by
    have IE := xE_ok (cn := cn) (a := a) (ccd := ccd) (cl := cl) (s₀ := s₀) (m₁ := m₁) (rest := rest) H n
    have IH := xT_ok H n
    have plain : ∀ (h : xE C n e st fun v _ st => xTruth v st k) (he : isTrue e (eX cn C L a ccd cl) whole = (do let v ← whole; standAt e.pos; holding [v] (truthy v))) (hw : whole = eval e (eX cn C L a ccd cl)), wpAny (model prog w) A (isTrue e (eX cn C L a ccd cl) whole) Q E s := fun h he hw => by
      refine isTrue_plain ?_ he
      rw [hw]
      refine IE _ _ _ h I s _ R fun v an st' s' h' I' O' eo R' => ?_
      exact xTruth_ok h' R'.tk fun b hs m hb => hQ _ { st' with hs := hs, tk := m } _ hb I' (R'.to _ rfl)
    cases e with
    | Compare l ops rs xp =>
      cases ops with
      | nil => exact (show False from h).elim
      | cons op ops =>
        cases ops with
        | cons _ _ => exact (show False from h).elim
        | nil =>
          cases rs with
          | nil => exact (show False from h).elim
          | cons r rs =>
            cases rs with
            | cons _ _ => exact (show False from h).elim
            | nil =>
              obtain ⟨hm, h⟩ := onT_ok (show onT _ _ from h)
              refine wpAny_isTrue_Compare1 ?_ (not_ok hm)
              cases hys : tupOf r with
              | some ys =>
                rw [hys] at h
                obtain ⟨ho, h⟩ := onT_ok h
                obtain ⟨es, k', pos', rfl, hys⟩ := tupOf_ok hys
                cases op <;> try (cases ho; done)
                refine IE _ _ _ h I s _ R fun v an st' s' h' I' O' eo R' => ?_
                obtain ⟨x, hx, h'⟩ := onO_ok h'
                obtain ⟨t, rfl⟩ := asS_ok hx
                obtain ⟨hz, h'⟩ := onT_ok h'
                obtain ⟨hs, h'⟩ := decB_ok h'
                refine Tuple_ (strs_sp es ys hys _ _ fun vs hv hl => ?_)
                refine kup_newTuple (m := denM st'.m m₁) (news := denO st'.o ++ rest) R'.F R'.N (fun D h2 F2 N2 _ => ?_) (by rw [hl]; exact Nat.le_trans (Nat.le_of_ble_eq_true hz) (by decide))
                refine in_tuple_strs (News.isTup N2 (.head _)) hv (wpAny_truthy_bool ?_)
                rw [any_is]
                refine hQ _ { st' with hs := hs, tk := st'.tk + ys.length } _ h' I' ⟨F2, fun q hq => N2 q (.tail _ hq), ?_, ?_⟩
                · show s'.toks + ys.length = _; rw [R'.tk]
                · have := R'.eq; rw [this]
              | none =>
                rw [hys] at h
                refine IE _ _ _ h I s _ R fun v an st' s' h' I' O' eo R' => ?_
                refine IE _ _ _ h' I' s' _ R' fun u an' st'' s'' h'' I'' O'' eo' R'' => ?_
                exact xCmp_ok h'' fun b hs hb => wpAny_truthy_bool (hQ _ { st'' with hs := hs } _ hb I'' R'')
    | BoolOp op vs xp =>
      cases op with
      | And =>
        cases vs with
        | nil => exact isTrue_and_nil (hQ _ _ _ h I R)
        | cons v vs =>
          refine isTrue_and (IH _ _ _ h I s _ _ (.inl rfl) R fun b st' s' h' I' R' => ?_)
          cases b with
          | true => exact (if_pos rfl).mpr (IH _ _ _ h' I' s' _ _ (.inr ⟨_, _, _, rfl⟩) R' hQ)
          | false => exact (if_neg Bool.false_ne_true).mpr (hQ _ _ _ h' I' R')
      | Or =>
        cases vs with
        | nil => exact isTrue_or_nil (hQ _ _ _ h I R)
        | cons v vs =>
          refine isTrue_or (IH _ _ _ h I s _ _ (.inl rfl) R fun b st' s' h' I' R' => ?_)
          cases b with
          | true => exact (if_pos rfl).mpr (hQ _ _ _ h' I' R')
          | false => exact (if_neg Bool.false_ne_true).mpr (IH _ _ _ h' I' s' _ _ (.inr ⟨_, _, _, rfl⟩) R' hQ)
    | UnaryOp op x xp =>
      cases op with
      | Not => exact isTrue_not (IH _ _ _ h I s _ _ (.inl rfl) R fun b st' s' h' I' R' => hQ _ _ _ h' I' R')
      | _ => exact (show False from h).elim
    | Constant c ck cp => exact plain h rfl (hw.resolve_right (fun ⟨_, _, _, e⟩ => nomatch e))
    | Name x xp => exact plain h rfl (hw.resolve_right (fun ⟨_, _, _, e⟩ => nomatch e))
    | Attribute e' x xp => exact plain h rfl (hw.resolve_right (fun ⟨_, _, _, e⟩ => nomatch e))
    | _ => exact (show False from h).elim
theorem plain_swaps {v : Expr} (h : plainVal v = true) (t : Option Expr) (l : Nat) (env : Env) : swapsWith v t l env = pure false := by
  cases v <;> first | rfl | cases h
theorem isLoc_ok {x : Str} (h : isLoc C x = true) : C.cs.names.lookup x = some .local := by
  unfold isLoc at h
  cases e : C.cs.names.lookup x with
  | none => rw [e] at h; cases h
  | some nk => rw [e] at h; cases nk <;> first | rfl | cases h
theorem xB_ok (H : Has prog w K A E h₀ L C p loose mg mb) (hH : ∀ (e : Stmt) (st : St) (k : KF), C.hk e st.m st.o st.tk k → Inv C rest st.m st.o → ∀ (s : Shared) (Q : Flow → Shared → Prop), Rp s₀ h₀ L m₁ rest st.m st.o st.tk s → (∀ f st' s', k f st' → Inv C rest st'.m st'.o → Rp s₀ h₀ L m₁ rest st'.m st'.o st'.tk s' → Q f s') → wpAny (model prog w) A (exec e (eX cn C L a ccd cl)) Q E s) : ∀ (n : Nat),
    (∀ (e : Stmt) (st : St) (k : KF), xS C n e st k → Inv C rest st.m st.o → ∀ (s : Shared) (Q : Flow → Shared → Prop), Rp s₀ h₀ L m₁ rest st.m st.o st.tk s →
      (∀ f st' s', k f st' → Inv C rest st'.m st'.o → Rp s₀ h₀ L m₁ rest st'.m st'.o st'.tk s' → Q f s') → wpAny (model prog w) A (exec e (eX cn C L a ccd cl)) Q E s) ∧
    (∀ (l : List Stmt) (st : St) (k : KF), xB C n l st k → Inv C rest st.m st.o → ∀ (s : Shared) (Q : Flow → Shared → Prop), Rp s₀ h₀ L m₁ rest st.m st.o st.tk s →
      (∀ f st' s', k f st' → Inv C rest st'.m st'.o → Rp s₀ h₀ L m₁ rest st'.m st'.o st'.tk s' → Q f s') → wpAny (model prog w) A (execs l (eX cn C L a ccd cl)) Q E s)
  | 0 => ⟨fun _ _ _ h => False.elim h, fun _ _ _ h => False.elim h⟩
  | n + 1 => by
    have IE := xE_ok (cn := cn) (a := a) (ccd := ccd) (cl := cl) (s₀ := s₀) (m₁ := m₁) (rest := rest) H n
    have IT := xT_ok (cn := cn) (a := a) (ccd := ccd) (cl := cl) (s₀ := s₀) (m₁ := m₁) (rest := rest) H n
    obtain ⟨IS, IB⟩ := xB_ok H hH n
    refine ⟨fun e st k h I s Q R hQ => ?_, fun l st k h I s Q R hQ => ?_⟩
    · cases e with
      | Pass xp => exact wpAny_Pass (hQ _ _ _ h I R)
      | Break xp => exact wpAny_Break (hQ _ _ _ h I R)
      | Continue xp => exact wpAny_Continue (hQ _ _ _ h I R)
      | Return e xp =>
        cases e with
        | some e => exact wpAny_Return_some (IE _ _ _ h I s _ R fun v an st' s' h' I' O' eo R' => hQ _ _ _ h' I' R')
        | none => exact wpAny_Return_none (hQ _ _ _ h I R)
      | If t b o xp =>
        refine wpAny_If (IT _ _ _ h I s _ _ (.inl rfl) R fun r st' s' h' I' R' => ?_)
        cases r with
        | true => exact (if_pos rfl).mpr (IB _ _ _ h' I' s' _ R' hQ)
        | false => exact (if_neg Bool.false_ne_true).mpr (IB _ _ _ h' I' s' _ R' hQ)
      | Assign ts v xp =>
        obtain ⟨hp, h⟩ := onT_ok (show onT _ _ from h)
        cases ts with
        | nil => exact (show False from h).elim
        | cons t ts =>
          cases ts with
          | cons _ _ => exact (show False from h).elim
          | nil =>
            obtain ⟨ht, h⟩ := onT_ok h
            cases t with
            | Name x tp =>
              refine wpAny_Assign_Name (IE _ _ _ h I s _ R fun v an st' s' h' I' O' eo R' => ?_) (plain_swaps hp _ _ _)
              obtain ⟨hl, h'⟩ := onT_ok (show onT _ _ from h')
              refine storeX_L R'.F R'.N (fun h2 F2 N2 => ?_) H.hk (isLoc_ok hl)
              refine hQ _ { st' with m := _, tk := st'.tk + 1 } _ h' (I'.push O') ⟨F2, N2, ?_, ?_⟩
              · show s'.toks + 1 = _; rw [R'.tk]
              · have := R'.eq; rw [this]
            | Attribute o x tp =>
              refine plainObj_wpAny_Assign_Attribute (IE _ _ _ h I s _ R fun v an st' s' h' I' O' eo R' => ?_) (plain_swaps hp _ _ _)
              refine IE _ _ _ h' I' s' _ R' fun u an' st'' s'' h'' I'' O'' eo' R'' => ?_
              obtain ⟨q, rfl, g⟩ := onO_ok h''
              exact writeAt_ok H.hW H.hS H.X O'' I'' R'' g fun st3 s3 h3 em I3 R3 => hQ _ _ _ h3 I3 R3
            | _ => cases ht
      | AugAssign t op v xp =>
        cases t with
        | Attribute o x tp =>
          refine wpAny_AugAssign_AttributeAny (IE _ _ _ h I s _ R fun v an st' s' h' I' O' eo R' => ?_)
          obtain ⟨q, rfl, g⟩ := onO_ok h'
          refine readAt_ok H.hA H.hP H.X O' R' g fun old n2 s2 ho R2 => ?_
          refine IE _ _ _ ho I' _ _ R2 fun u an' st'' s'' h'' I'' O'' eo' R'' => ?_
          refine xInp_ok h'' R''.tk fun r hs m hr => ?_
          exact writeAt_ok (st := { st'' with hs := hs, tk := m }) H.hW H.hS H.X (by rw [eo']; exact O') I'' (R''.to _ rfl) hr fun st3 s3 h3 em I3 R3 => hQ _ _ _ h3 I3 R3
        | _ => exact (show False from h).elim
      | _ => exact (show False from h).elim
    · cases l with
      | nil => exact wpAny_execs_nil (hQ _ _ _ h I R)
      | cons e l =>
        have fin : ∀ f st' s', afterS f (xB C n l st' k) k st' → Inv C rest st'.m st'.o → Rp s₀ h₀ L m₁ rest st'.m st'.o st'.tk s' → (match f with | .next => wpAny (model prog w) A (execs l (eX cn C L a ccd cl)) Q E s' | f => Q f s') := fun f st' s' h' I' R' => by
          cases f with
          | next => exact IB _ _ _ h' I' s' _ R' hQ
          | brk => exact hQ _ _ _ h' I' R'
          | cont => exact hQ _ _ _ h' I' R'
          | ret v => exact hQ _ _ _ h' I' R'
        refine wpAny_execs_cons ?_
        have h : (match isMu e.pos.line C.hl with | true => C.hk e st.m st.o st.tk (fun f st => afterS f (xB C n l st k) k st) | false => xS C n e st fun f st => afterS f (xB C n l st k) k st) := h
        cases hm : isMu e.pos.line C.hl with
        | true => rw [hm] at h; exact hH _ _ _ h I s _ R fin
        | false => rw [hm] at h; exact IS _ _ _ h I s _ R fin

/-- a run, closed to the elaborator: the kernel alone opens it -/
@[irreducible] noncomputable def xRun (C : Cf) (n : Nat) (l : List Stmt) (m : List (Str × Value × An)) (o : List (Addr × AO)) (tk : Tok) (hs : List (Nat × Bool)) (k : Flow → List (Str × Value × An) → List (Addr × AO) → Tok → Prop) : Prop := xB C n l ⟨m, o, tk, hs⟩ fun f st => k f st.m st.o st.tk
@[irreducible] noncomputable def xTest (C : Cf) (n : Nat) (e : Expr) (m : List (Str × Value × An)) (o : List (Addr × AO)) (tk : Tok) (hs : List (Nat × Bool)) (k : Bool → List (Str × Value × An) → List (Addr × AO) → Tok → Prop) : Prop := xT C n e ⟨m, o, tk, hs⟩ fun f st => k f st.m st.o st.tk
/-- what is left to show behind a run -/
noncomputable def FinR (h₀ : Heap) (L : Addr) (m₁ : Str → Option Value) (rest : List (Addr × Obj)) (Q : Flow → Shared → Prop) (s : Shared) (f : Flow) (m : List (Str × Value × An)) (o : List (Addr × AO)) (tk : Tok) : Prop := ∀ h', Fr h₀ L h' (denM m m₁) → News h₀ L h' (denO o ++ rest) → Q f { s with heap := h', toks := tk }
theorem Inv.of {C : Cf} {rest : List (Addr × Obj)} {m : List (Str × Value × An)} {o : List (Addr × AO)} (h : ∀ q ∈ m, InstOk o q.2.1 q.2.2) (h2 : ∀ j ∈ C.mu, Alone o rest j) : Inv C rest m o := ⟨fun x v an hm => h (x, v, an) hm, h2⟩
theorem alone_of {d : Addr} {y : AO} {rest : List (Addr × Obj)} : ∀ {pre post : List (Addr × AO)}, (∀ q ∈ pre ++ post, q.1 ≠ d) → (∀ q ∈ rest, q.1 ≠ d) → Alone (pre ++ (d, y) :: post) rest pre.length
  | pre, post, h, h2 => by
    intro d' y' hg
    have key : ∀ (pre : List (Addr × AO)), getAt (pre ++ (d, y) :: post) pre.length = some (d, y) := fun pre => by
      induction pre with
      | nil => rfl
      | cons x l ih => exact ih
    rw [key] at hg
    cases hg
    refine ⟨?_, h2⟩
    clear key
    induction pre with
    | nil =>
      intro i q hi hq
      cases i with
      | zero => exact absurd rfl hi
      | succ i =>
        have mem : ∀ (l : List (Addr × AO)) (i : Nat), getAt l i = some q → q ∈ l := fun l => by
          induction l with
          | nil => intro i h; cases h
          | cons x l ih => intro i h; cases i with
            | zero => cases h; exact .head _
            | succ i => exact .tail _ (ih i h)
        exact h q (mem post i hq)
    | cons x l ih =>
      intro i q hi hq
      cases i with
      | zero => cases hq; exact h _ (.head _)
      | succ i => exact ih (fun q hq => h q (.tail _ hq)) i q (fun e => hi (by rw [e]; rfl)) hq
/-- a run of statements without calls, reckoned -/
theorem run_hk (C : Cf) (n : Nat) (m : List (Str × Value × An)) (o : List (Addr × AO)) (hs : List (Nat × Bool)) {l : List Stmt} {s : Shared} {Q : Flow → Shared → Prop} (H : Has prog w K A E h₀ L C p loose mg mb) (I : Inv C rest m o) (F : Fr h₀ L s.heap (denM m m₁)) (N : News h₀ L s.heap (denO o ++ rest))
    (hH : ∀ (e : Stmt) (st : St) (k : KF), C.hk e st.m st.o st.tk k → Inv C rest st.m st.o → ∀ (s' : Shared) (Q : Flow → Shared → Prop), Rp s h₀ L m₁ rest st.m st.o st.tk s' → (∀ f st' s'', k f st' → Inv C rest st'.m st'.o → Rp s h₀ L m₁ rest st'.m st'.o st'.tk s'' → Q f s'') → wpAny (model prog w) A (exec e (eX cn C L a ccd cl)) Q E s')
    (h : xRun C n l m o s.toks hs (FinR h₀ L m₁ rest Q s)) : wpAny (model prog w) A (execs l (eX cn C L a ccd cl)) Q E s := by
  unfold xRun at h
  refine (xB_ok (s₀ := s) H hH n).2 l ⟨m, o, s.toks, hs⟩ _ h I s Q ⟨F, N, rfl, rfl⟩ fun f st' s' hf I' R' => ?_
  have := hf s'.heap R'.F R'.N
  rw [R'.eq, R'.tk]
  exact this
theorem run_ok (C : Cf) (n : Nat) (m : List (Str × Value × An)) (o : List (Addr × AO)) (hs : List (Nat × Bool)) {l : List Stmt} {s : Shared} {Q : Flow → Shared → Prop} (H : Has prog w K A E h₀ L C p loose mg mb) (I : Inv C rest m o) (F : Fr h₀ L s.heap (denM m m₁)) (N : News h₀ L s.heap (denO o ++ rest))
    (h : xRun C n l m o s.toks hs (FinR h₀ L m₁ rest Q s))
    (hno : ∀ e m o tk k, ¬ C.hk e m o tk k := by intro _ _ _ _ _ h; exact h) : wpAny (model prog w) A (execs l (eX cn C L a ccd cl)) Q E s := by
  exact run_hk C n m o hs H I F N (fun e st k h => absurd h (hno e _ _ _ k)) h
theorem nxr_end {C : Cf} {n : Nat} {k : KF} {st : St} (h : k .next st) : nxr C (n + 1) [] k .next st := by
  unfold nxr
  show xGo C (n + 1) [] st k
  unfold xGo
  exact h
theorem test_ok (C : Cf) (n : Nat) (m : List (Str × Value × An)) (o : List (Addr × AO)) (hs : List (Nat × Bool)) {e : Expr} {s : Shared} {Q : Bool → Shared → Prop} (H : Has prog w K A E h₀ L C p loose mg mb) (I : Inv C rest m o) (F : Fr h₀ L s.heap (denM m m₁)) (N : News h₀ L s.heap (denO o ++ rest))
    (h : xTest C n e m o s.toks hs fun b m' o' tk => ∀ h', Fr h₀ L h' (denM m' m₁) → News h₀ L h' (denO o' ++ rest) → Q b { s with heap := h', toks := tk }) : wpAny (model prog w) A (isTrue e (eX cn C L a ccd cl) (eval e (eX cn C L a ccd cl))) Q E s := by
  unfold xTest at h
  refine xT_ok (s₀ := s) H n e ⟨m, o, s.toks, hs⟩ _ h I s Q _ (.inl rfl) ⟨F, N, rfl, rfl⟩ fun f st' s' hf I' R' => ?_
  have := hf s'.heap R'.F R'.N
  rw [R'.eq, R'.tk]
  exact this
end
section
variable {M : Model} {A : Around} {E : Value → Shared → Prop} {env : Env}
theorem execs_app_eq : ∀ (l₁ l₂ : List Stmt), execs (l₁ ++ l₂) env = (do match ← execs l₁ env with | .next => execs l₂ env | f => pure f)
  | [], l₂ => by
    show execs l₂ env = (do match ← (pure Flow.next : Sem Flow) with | .next => execs l₂ env | f => pure f)
    rw [pure_bind]
  | st :: l₁, l₂ => by
    rw [List.cons_append, execs_cons, execs_cons, bind_assoc]
    refine congrArg _ (funext fun f => ?_)
    cases f with
    | next => exact execs_app_eq l₁ l₂
    | brk => exact (pure_bind _ _).symm
    | cont => exact (pure_bind _ _).symm
    | ret v => exact (pure_bind _ _).symm
theorem execs_app {l₁ l₂ : List Stmt} {Q : Flow → Shared → Prop} {s : Shared} (h : wpAny M A (execs l₁ env) (fun f s' => match f with | .next => wpAny M A (execs l₂ env) Q E s' | f => Q f s') E s) : wpAny M A (execs (l₁ ++ l₂) env) Q E s := by
  rw [execs_app_eq]
  refine wpAny_bind (wpAny_mono h (fun f s' hf => ?_) fun _ _ x => x)
  cases f with
  | next => exact hf
  | brk => exact wpAny_pure hf
  | cont => exact wpAny_pure hf
  | ret v => exact wpAny_pure hf
theorem exec_at {st st' : Stmt} {Q : Flow → Shared → Prop} {s : Shared} (e : st = st') (h : wpAny M A (exec st' env) Q E s) : wpAny M A (exec st env) Q E s := e ▸ h
end
theorem look_den : ∀ (l : List (Str × Value × An)) (y : Str), (l.map fun q => (q.1, q.2.1)).lookup y = denM l (fun _ => none) y
  | [], _ => rfl
  | (x, v, an) :: r, y => by
    rw [List.map_cons, List.lookup_cons]
    show _ = if y = x then some v else denM r (fun _ => none) y
    by_cases h : y = x
    · subst h; rw [if_pos rfl, beq_self_eq_true]
    · rw [if_neg h, show (y == x) = false from by rw [beq_eq_false_iff_ne]; exact h]
      exact look_den r y
theorem fr_look {h₀ h : Heap} {L : Addr} {b : List (Str × Value)} {l : List (Str × Value × An)} (e : b.reverse = l.map fun q => (q.1, q.2.1)) (F : Fr h₀ L h (fun y => b.reverse.lookup y)) : Fr h₀ L h (denM l fun _ => none) := by
  have : (fun y => b.reverse.lookup y) = denM l fun _ => none := by funext y; rw [e, look_den]
  rw [this] at F; exact F
theorem fr_look1 {h₀ h : Heap} {L : Addr} {x : Str} {v : Option Value} {u : Value} {b : List (Str × Value)} {l : List (Str × Value × An)} (hv : v = some u) (e : b.reverse = l.map fun q => (q.1, q.2.1)) (F : Fr h₀ L h (fun y => if y = x then v else b.reverse.lookup y)) : Fr h₀ L h (denM ((x, u, none) :: l) fun _ => none) := by
  have : (fun y => if y = x then v else b.reverse.lookup y) = denM ((x, u, none) :: l) fun _ => none := by
    funext y
    rw [e, look_den, hv]; rfl
  rw [this] at F; exact F
local macro_rules | `(tactic| k_room) => `(tactic| ktr_room)
local macro_rules | `(tactic| k_units) => `(tactic| ktr_units)
local macro_rules | `(tactic| k_all) => `(tactic| with_reducible assumption)
local macro_rules | `(tactic| ktr_room) => `(tactic| ((try dsimp only [ktrTop, depth_under_make, depth_under_kw, depth_in1, depth_deeper, depth_caller]); first | (refine' room1 ?h ?e; (case h => with_reducible assumption); exact Nat.le_of_ble_eq_true rfl) | (refine' room2 ?h ?e; (case h => with_reducible assumption); exact Nat.le_of_ble_eq_true rfl) | (refine' room3 ?h ?e; (case h => with_reducible assumption); exact Nat.le_of_ble_eq_true rfl) | exact room0 (by with_reducible assumption)))
local macro_rules | `(tactic| ktr_units) => `(tactic| ((try dsimp only [ktrTop, units_in1, units_deeper, Around.mark_units, units_caller]); ktr_room))
local macro_rules | `(tactic| ksk_a3) => `(tactic| (first | with_reducible assumption | exact And.right (by first | with_reducible assumption | exact And.right (by first | with_reducible assumption | exact And.right (by first | with_reducible assumption | exact And.right (by first | with_reducible assumption | exact And.right (by first | with_reducible assumption | exact And.right (by first | with_reducible assumption | exact And.right (by first | with_reducible assumption | exact And.right (by first | with_reducible assumption | exact And.right (by first | with_reducible assumption | exact And.right (by first | with_reducible assumption | exact And.right (by first | with_reducible assumption | exact And.right (by with_reducible assumption))))))))))))))
local macro_rules | `(tactic| ksk_a1) => `(tactic| first | with_reducible assumption | exact And.left (by ksk_a3) | exact And.right (by ksk_a3))
local macro_rules | `(tactic| ksk_a2) => `(tactic| first | ((iterate 7 (try first | exact Nat.lt_succ_self _ | refine Nat.lt_succ_of_lt ?_)); done) | ((iterate 7 (try first | with_reducible assumption | refine Nat.lt_of_succ_lt ?_)); done))
local macro_rules | `(tactic| k_ne) => `(tactic| (refine neN ?_; (try dsimp only); first | with_reducible assumption | exact Ne.symm (by with_reducible assumption) | exact Nat.ne_of_lt (by with_reducible assumption) | exact Nat.ne_of_gt (by with_reducible assumption) | (k_whole; first | ksk_a1 | exact Ne.symm (by ksk_a1) | exact Nat.ne_of_lt (by ksk_a1) | exact Nat.ne_of_gt (by ksk_a1) | exact Nat.ne_of_lt (by ksk_a2) | exact Nat.ne_of_gt (by ksk_a2)) | omega))
section
noncomputable abbrev ent (w : World) (n : String) (t : Tok) (v : Value) : DictEntry := ⟨PyData.keyHash w.params (Str.ofString n), .str (Str.ofString n) t, v⟩
/-- a text by its signs -/
noncomputable def S (l : List Nat) : Str := ⟨l.toArray⟩
theorem S_len (l : List Nat) : (S l).length = l.length := List.size_toArray
theorem S_cps (l : List Nat) : (S l).cps.toList = l := rfl
theorem S_app (a b : List Nat) : S a ++ S b = S (a ++ b) := by
  show Str.append _ _ = _
  simp [Str.append, S]
theorem S_inj {a b : List Nat} (h : S a = S b) : a = b := by
  have := congrArg (fun x : Str => x.cps.toList) h
  simpa [S] using this
theorem S_eq (x : Str) : x = S x.cps.toList := by cases x; simp [S]
theorem slice_ss (l : List Nat) (i j : Int) (h0 : 0 ≤ i) (h1 : i ≤ j) (h2 : j ≤ l.length) : Txt.slice (S l) (some i) (some j) = S ((l.drop i.toNat).take (j - i).toNat) :=
  eq_of_beq (slice_closesL (x := S l) h0 h1 (by rw [S_len]; exact h2))
theorem slice_but_last (c : Nat) : Txt.slice (S [c, 32]) none (some (-1)) = S [c] := by
  have e : PySem.Builtin.Str.strSliceIndices none (some (-1)) 1 2 = [0] := by decide +kernel
  unfold Txt.slice
  rw [show (S [c, 32]).length = 2 from rfl, e, if_neg (by decide)]
  simp [S]
theorem slice_one (l : List Nat) (p : Nat) (c : Nat) (hc : l[p]? = some c) : Txt.slice (Txt.slice (S l) (some (p : Int)) (some ((p : Int) + 1)) ++ Str.ofString " ") none (some (-1)) = S [c] := by
  obtain ⟨hp, he⟩ := List.getElem?_eq_some_iff.mp hc
  rw [slice_ss l p ((p : Int) + 1) (by omega) (by omega) (by omega)]
  have e1 : ((p : Int) + 1 - (p : Int)).toNat = 1 := by omega
  rw [e1, Int.toNat_natCast, List.drop_eq_getElem_cons hp, he]
  rw [show Str.ofString " " = S [32] from by decide +kernel, S_app]
  exact slice_but_last c
/-- a body by its place, brought to its letters -/
theorem execs_at {prog : Program} {w : World} {A : Around} {env : Env} {b b' : List Stmt} {Q : Flow → Shared → Prop} {E : Value → Shared → Prop} {s : Shared} (e : b = b') (h : wpAny (model prog w) A (execs b' env) Q E s) : wpAny (model prog w) A (execs b env) Q E s := e ▸ h
/-- what a call of the text's own gives: the context of a frame, a room, the ledger ahead and behind -/
noncomputable def Told (prog : Program) (w : World) (K : Frag) (dpn unn : Nat) (f : Value) (args : List Value) (news : List (Addr × Obj)) (Post : Value → List (Addr × Obj) → Prop) : Prop :=
  ∀ (p : Program) (loose : List Str) (mean : ExcName → Option Value) (mg mb : Str → Option Value) (dp un : Nat) (gd : Option (List Code)) (cn : Str) (cs : Scope) (a : Addr) (ccd : Value) (cl : List (Str × Addr)) (outer : List Env) (A₀ : Around) (base h₀ : Heap) (L : Addr) (m : Str → Option Value) (s : Shared) (Q E : Value → Shared → Prop),
    Below A₀ base outer h₀ → Fr h₀ L s.heap m → K.In h₀ → News h₀ L s.heap news → Top p loose mean mg mb h₀ → cs.kind = .function → dp + dpn < recursionLimit → un + unn < cLine →
    (∀ r nw h' tk', Fr h₀ L h' m → News h₀ L h' nw → Post r nw → Q r { s with heap := h', toks := tk' }) →
    wpAny (model prog w) (ktrTop dp un gd cn cs L a ccd cl outer) (call f args) Q E s
section
variable {prog : Program} {w : World} {K : Frag} {dpn unn : Nat} {f : Value} {args : List Value} {news : List (Addr × Obj)} {Post : Value → List (Addr × Obj) → Prop} {p : Program} {loose : List Str} {mean : ExcName → Option Value} {mg mb : Str → Option Value} {dp un : Nat} {gd : Option (List Code)} {cn : Str} {cs : Scope} {a : Addr} {ccd : Value} {cl : List (Str × Addr)} {outer : List Env} {A₀ : Around} {base h₀ : Heap} {L : Addr} {m : Str → Option Value} {s : Shared} {Q E : Value → Shared → Prop}
theorem told_use (B : Below A₀ base outer h₀) (F : Fr h₀ L s.heap m) (X : K.In h₀) (N : News h₀ L s.heap news) (T : Top p loose mean mg mb h₀) (hk : cs.kind = .function) (C : Told prog w K dpn unn f args news Post) (hd : dp + dpn < recursionLimit) (hu : un + unn < cLine)
    (ret : ∀ r nw h' tk', Fr h₀ L h' m → News h₀ L h' nw → Post r nw → Q r { s with heap := h', toks := tk' }) : wpAny (model prog w) (ktrTop dp un gd cn cs L a ccd cl outer) (call f args) Q E s := C p loose mean mg mb dp un gd cn cs a ccd cl outer A₀ base h₀ L m s Q E B F X N T hk hd hu ret
end
end
section
noncomputable abbrev ioD (w : World) (t1 t2 t3 u1 u2 u3 : Tok) (bs : List Nat) (pos : Nat) : Obj := dictOf [ent w "_StringIO__newline" t1 (.str (Str.ofString "\n") u1), ent w "_StringIO__buf" t2 (.str (S bs) u2), ent w "_StringIO__pos" t3 (.int (pos : Int) u3)] 3
/-- where both ways of read meet -/
inductive MidR (g : Heap) (L : Addr) (s : Shared) (m : Str → Option Value) (news : List (Addr × Obj)) (n : Int) : Flow → Shared → Prop
  | mk (h : Heap) (tk u : Tok) (F : Fr g L h (fun y => if y = (Str.ofString "stop") then some (.int n u) else m y)) (N : News g L h news) : MidR g L s m news n .next { s with heap := h, toks := tk }
theorem fr_dup1 {g h : Heap} {L : Addr} {x : Str} {v u : Option Value} {m : Str → Option Value} (F : Fr g L h (fun y => if y = x then v else if y = x then u else m y)) : Fr g L h (fun y => if y = x then v else m y) := by
  have e : (fun y => if y = x then v else if y = x then u else m y) = fun y => if y = x then v else m y := by
    funext y
    by_cases h : y = x
    · rw [if_pos h, if_pos h]
    · rw [if_neg h, if_neg h, if_neg h]
  rw [← e]; exact F
theorem mid_read {prog : Program} {w : World} {A : Around} {E : Value → Shared → Prop} {s : Shared} {c : Sem Flow} {Q : Flow → Shared → Prop} {g : Heap} {L : Addr} {m : Str → Option Value} {v : Option Value} {news : List (Addr × Obj)} (n : Int) (_F : Fr g L s.heap (fun y => if y = (Str.ofString "stop") then v else m y)) (_N : News g L s.heap news)
    (br : wpAny (model prog w) A c (MidR g L s m news n) E s)
    (behind : ∀ h tk u, Fr g L h (fun y => if y = (Str.ofString "stop") then some (.int n u) else m y) → News g L h news → Q .next { s with heap := h, toks := tk }) : wpAny (model prog w) A c Q E s := by
  refine wpAny_mono br (fun f s₁ h => ?_) fun _ _ e => e
  cases h with
  | mk h tk u F N => exact behind h tk u F N
theorem toks_any {α : Type} {M : Model} {A : Around} {c : Sem α} {Q : α → Shared → Prop} {E : Value → Shared → Prop} {h : Heap} {g : Array GenState} {d : Drawn} {t : Tok} {os : OsState} (k : ∀ t : Tok, wpAny M A c Q E ⟨h, g, d, t, os⟩) : wpAny M A c Q E ⟨h, g, d, t, os⟩ := k t
theorem index_c (w : World) (t u : Tok) (x : Str) (news : List (Addr × Obj)) : Told PySem.Challenge.pw_il0113_01 w (Mine.K w.params) 2 30 (.ref 131) [.int 1 t, .str x u] news (fun r nw => (∃ t', r = .int 1 t') ∧ nw = news) := by
  intro p loose mean mg mb dp un gd cn cs a ccd cl outer A₀ base h₀ L m s Q E B F X N T hk hdp hun hret
  refine wpAny_call ?_
  k_dflt (refine' code_def ?k1 ?k2 ?k3 ?k4 ?k5 ?kA ?kF ?kK ?k6 ?k7 ?k8 ?k9 ?kB ?_ ?c2 ?c3 ?c4 ?c5; (case kA => exact rfl); (case kF => exact rfl); (case kK => assumption); (case k1 => k_asm); (case k2 => k_asm); (case k3 => k_asm); (case k4 => k_asm); (case k5 => k_asm); (case k6 => k_is); (case k7 => k_is); (case k8 => ktr_room); (case k9 => first | exact BindsTo.of_eq rfl | exact binds_K (by k_in) rfl (by k_is) rfl rfl rfl); (case c5 => decide); (case kB => exact locs rfl); (case c2 => exact rfl); (case c3 => exact rfl); (case c4 => exact rfl); k_whole; intro g' L' h' FG' F' N' B' X' T'; (try ((refine execs_at (b' := ?kbody) ?kbe ?_); (case kbe => (conv => lhs; whnf)))); (try dsimp only); (try k_fold))
  have F1 := fr_look (l := [(Str.ofString "what", .str x u, none), (Str.ofString "n", .int 1 t, none)]) rfl F'
  clear F'
  refine toks_any ?_
  intro tk9
  repeat' (first | (k_unfold; (try dsimp only)) | ((fail_if_success (with_reducible show Q _ _)); first | walk1 | (dsimp only; walk1)))
  exact hret _ _ _ _ (by k_asm) (by k_asm) ⟨⟨_, rfl⟩, rfl⟩
theorem check_c (w : World) (io iod : Addr) (bs : List Nat) (pos : Nat) (t1 t2 t3 u1 u2 u3 : Tok) (rest : List (Addr × Obj)) :
    Told PySem.Challenge.pw_il0113_01 w (Mine.K w.params) 2 30 (.ref 449) [.ref io] ((iod, ioD w t1 t2 t3 u1 u2 u3 bs pos) :: (io, instObj 665 iod) :: rest)
      (fun r nw => r = .none ∧ nw = (iod, ioD w t1 t2 t3 u1 u2 u3 bs pos) :: (io, instObj 665 iod) :: rest) := by
  intro p loose mean mg mb dp un gd cn cs a ccd cl outer A₀ base h₀ L m s Q E B F X N T hk hdp hun hret
  refine wpAny_call ?_
  k_dflt (refine' code_def ?k1 ?k2 ?k3 ?k4 ?k5 ?kA ?kF ?kK ?k6 ?k7 ?k8 ?k9 ?kB ?_ ?c2 ?c3 ?c4 ?c5; (case kA => exact rfl); (case kF => exact rfl); (case kK => assumption); (case k1 => k_asm); (case k2 => k_asm); (case k3 => k_asm); (case k4 => k_asm); (case k5 => k_asm); (case k6 => k_is); (case k7 => k_is); (case k8 => ktr_room); (case k9 => first | exact BindsTo.of_eq rfl | exact binds_K (by k_in) rfl (by k_is) rfl rfl rfl); (case c5 => decide); (case kB => exact locs rfl); (case c2 => exact rfl); (case c3 => exact rfl); (case c4 => exact rfl); k_whole; intro g' L' h' FG' F' N' B' X' T'; (try ((refine execs_at (b' := ?kbody) ?kbe ?_); (case kbe => (conv => lhs; whnf)))); (try dsimp only); (try k_fold))
  have F1 := fr_look (l := [(Str.ofString "self", .ref io, none)]) rfl F'
  clear F'
  refine toks_any ?_
  intro tk9
  repeat' (first | (k_unfold; (try dsimp only)) | ((fail_if_success (with_reducible show Q _ _)); first | walk1 | (dsimp only; walk1)))
  exact hret _ _ _ _ (by k_asm) (by k_asm) ⟨rfl, rfl⟩
theorem read_c (w : World) (io iod : Addr) (bs : List Nat) (pos : Nat) (c : Nat) (t t1 t2 t3 u1 u2 u3 : Tok) (rest : List (Addr × Obj)) (hr : ∀ q ∈ rest, q.1 ≠ iod) (hne : io ≠ iod) (hc : bs[pos]? = some c) (hb : bs.length ≤ 10000) :
    Told PySem.Challenge.pw_il0113_01 w (Mine.K w.params) 4 60 (.ref 611) [.ref io, .int 1 t] ((iod, ioD w t1 t2 t3 u1 u2 u3 bs pos) :: (io, instObj 665 iod) :: rest)
      (fun r nw => ∃ t' u', r = .str (S [c]) t' ∧ nw = (iod, ioD w t1 t2 t3 u1 u2 u' bs (pos + 1)) :: (io, instObj 665 iod) :: rest) := by
  have hlt : pos < bs.length := (List.getElem?_eq_some_iff.mp hc).1
  have hlen : (S bs).length = bs.length := S_len bs
  intro p loose mean mg mb dp un gd cn cs a ccd cl outer A₀ base h₀ L m s Q E B F X N T hk hdp hun hret
  refine wpAny_call ?_
  k_dflt (refine' code_def ?k1 ?k2 ?k3 ?k4 ?k5 ?kA ?kF ?kK ?k6 ?k7 ?k8 ?k9 ?kB ?_ ?c2 ?c3 ?c4 ?c5; (case kA => exact rfl); (case kF => exact rfl); (case kK => assumption); (case k1 => k_asm); (case k2 => k_asm); (case k3 => k_asm); (case k4 => k_asm); (case k5 => k_asm); (case k6 => k_is); (case k7 => k_is); (case k8 => ktr_room); (case k9 => first | exact BindsTo.of_eq rfl | exact binds_K (by k_in) rfl (by k_is) rfl rfl rfl); (case c5 => decide); (case kB => exact locs rfl); (case c2 => exact rfl); (case c3 => exact rfl); (case c4 => exact rfl); k_whole; intro g' L' h' FG' F' N' B' X' T'; (try ((refine execs_at (b' := ?kbody) ?kbe ?_); (case kbe => (conv => lhs; whnf)))); (try dsimp only); (try k_fold))
  have F1 := fr_look (l := [(Str.ofString "size", .int 1 t, none), (Str.ofString "self", .ref io, none)]) rfl F'
  clear F'
  refine toks_any ?_
  intro tk9
  repeat' (first | (k_unfold; (try dsimp only)) | ((fail_if_success (with_reducible show wpAny _ _ (call (Value.ref 131) _) _ _ _)); (fail_if_success (with_reducible show Q _ _)); first | walk1 | (dsimp only; walk1)))
  k_dflt (refine' told_use B' F1 X' N' T' ?kK (index_c w _ _ _ _) ?kd ?ku ?_; (case kK => first | exact rfl | assumption); (case kd => ktr_room); (case ku => ktr_units))
  rintro r9 nw9 h9 tk9 F9 N9 ⟨⟨t9, rfl⟩, rfl⟩
  clear F1 N'
  repeat' (first | (k_unfold; (try dsimp only)) | ((fail_if_success (with_reducible show wpAny _ _ (call (Value.ref _, _).fst _) _ _ _)); (fail_if_success (with_reducible show Q _ _)); first | walk1 | (dsimp only; walk1)))
  (with_reducible rename Fr _ _ _ _ => kF)
  (with_reducible rename News _ _ _ _ => kN)
  k_dflt (refine' told_use B' kF X' kN T' ?kK (check_c w io iod bs pos t1 t2 t3 u1 u2 u3 rest) ?kd ?ku ?_; (case kK => first | exact rfl | assumption); (case kd => ktr_room); (case ku => ktr_units))
  rintro r8 nw8 h8 tk8 F8 N8 ⟨rfl, rfl⟩
  clear kF kN
  repeat' (first | (k_unfold; (try dsimp only)) | ((fail_if_success (with_reducible show wpAny _ _ (exec (Stmt.If (Expr.BoolOp _ _ _) _ _ _) _) _ _ _)); (fail_if_success (with_reducible show Q _ _)); first | walk1 | (dsimp only; walk1)))
  (with_reducible rename Fr _ _ _ _ => kF)
  (with_reducible rename News _ _ _ _ => kN)
  refine mid_read ((pos : Int) + 1) kF kN ?br ?behind
  case br =>
    repeat' (first | (k_unfold; (try dsimp only)) | ((fail_if_success (with_reducible show MidR _ _ _ _ _ _ _ _)); first | walk1 | (dsimp only; walk1)))
    · exact .mk _ _ _ (fr_dup1 (by assumption)) (by assumption)
    · have e1 : ((S bs).length : Int) = (pos : Int) + 1 := by omega
      rw [e1] at kF
      exact .mk _ _ _ kF kN
  case behind =>
    clear kF kN
    intro h7 tk7 u7 F7 N7
    repeat' (first | (k_unfold; (try dsimp only)) | ((fail_if_success (with_reducible show Q _ _)); first | walk1 | (dsimp only; walk1)))
    exact hret _ _ _ _ (by k_asm) (by k_asm) ⟨_, _, by rw [slice_one _ _ _ hc], rfl⟩
theorem read_e (w : World) (io iod : Addr) (bs : List Nat) (pos : Nat) (t t1 t2 t3 u1 u2 u3 : Tok) (rest : List (Addr × Obj)) (hr : ∀ q ∈ rest, q.1 ≠ iod) (hne : io ≠ iod) (hc : bs.length ≤ pos) (hb : pos ≤ 10000) :
    Told PySem.Challenge.pw_il0113_01 w (Mine.K w.params) 4 60 (.ref 611) [.ref io, .int 1 t] ((iod, ioD w t1 t2 t3 u1 u2 u3 bs pos) :: (io, instObj 665 iod) :: rest)
      (fun r nw => ∃ t', r = .str (S []) t' ∧ nw = (iod, ioD w t1 t2 t3 u1 u2 u3 bs pos) :: (io, instObj 665 iod) :: rest) := by
  have hlen : (S bs).length = bs.length := S_len bs
  intro p loose mean mg mb dp un gd cn cs a ccd cl outer A₀ base h₀ L m s Q E B F X N T hk hdp hun hret
  refine wpAny_call ?_
  k_dflt (refine' code_def ?k1 ?k2 ?k3 ?k4 ?k5 ?kA ?kF ?kK ?k6 ?k7 ?k8 ?k9 ?kB ?_ ?c2 ?c3 ?c4 ?c5; (case kA => exact rfl); (case kF => exact rfl); (case kK => assumption); (case k1 => k_asm); (case k2 => k_asm); (case k3 => k_asm); (case k4 => k_asm); (case k5 => k_asm); (case k6 => k_is); (case k7 => k_is); (case k8 => ktr_room); (case k9 => first | exact BindsTo.of_eq rfl | exact binds_K (by k_in) rfl (by k_is) rfl rfl rfl); (case c5 => decide); (case kB => exact locs rfl); (case c2 => exact rfl); (case c3 => exact rfl); (case c4 => exact rfl); k_whole; intro g' L' h' FG' F' N' B' X' T'; (try ((refine execs_at (b' := ?kbody) ?kbe ?_); (case kbe => (conv => lhs; whnf)))); (try dsimp only); (try k_fold))
  have F1 := fr_look (l := [(Str.ofString "size", .int 1 t, none), (Str.ofString "self", .ref io, none)]) rfl F'
  clear F'
  refine toks_any ?_
  intro tk9
  repeat' (first | (k_unfold; (try dsimp only)) | ((fail_if_success (with_reducible show wpAny _ _ (call (Value.ref 131) _) _ _ _)); (fail_if_success (with_reducible show Q _ _)); first | walk1 | (dsimp only; walk1)))
  k_dflt (refine' told_use B' F1 X' N' T' ?kK (index_c w _ _ _ _) ?kd ?ku ?_; (case kK => first | exact rfl | assumption); (case kd => ktr_room); (case ku => ktr_units))
  rintro r9 nw9 h9 tk9 F9 N9 ⟨⟨t9, rfl⟩, rfl⟩
  clear F1 N'
  repeat' (first | (k_unfold; (try dsimp only)) | ((fail_if_success (with_reducible show wpAny _ _ (call (Value.ref _, _).fst _) _ _ _)); (fail_if_success (with_reducible show Q _ _)); first | walk1 | (dsimp only; walk1)))
  (with_reducible rename Fr _ _ _ _ => kF)
  (with_reducible rename News _ _ _ _ => kN)
  k_dflt (refine' told_use B' kF X' kN T' ?kK (check_c w io iod bs pos t1 t2 t3 u1 u2 u3 rest) ?kd ?ku ?_; (case kK => first | exact rfl | assumption); (case kd => ktr_room); (case ku => ktr_units))
  rintro r8 nw8 h8 tk8 F8 N8 ⟨rfl, rfl⟩
  clear kF kN
  repeat' (first | (k_unfold; (try dsimp only)) | ((fail_if_success (with_reducible show Q _ _)); first | walk1 | (dsimp only; walk1)))
  exact hret _ _ _ _ (by k_asm) (by k_asm) ⟨_, by rw [show Str.ofString "" = S [] from by decide +kernel], rfl⟩
end
section
section
variable {prog : Program} {w : World} {A : Around} {E : Value → Shared → Prop} {s : Shared}
theorem in_one {c : Nat} {x : Str} {t u : Tok} {b : Bool} {Q : Value → Shared → Prop} (hb : x.cps.toList.contains c = b) (h : Q (.bool b) s) : wpAny (model prog w) A (compareOp .In (.str (S [c]) t) (.str x u)) Q E s := by
  refine in_str ?_
  rw [show S [c] = ⟨#[c]⟩ from rfl, PySem.StrLaws.found_one]
  have e : decide (c ∈ x.cps.toList) = b := by
    rw [← hb, Bool.eq_iff_iff, decide_eq_true_eq, List.contains_iff_mem]
  rw [e]; exact h
theorem notin_one {c : Nat} {x : Str} {t u : Tok} {b : Bool} {Q : Value → Shared → Prop} (hb : x.cps.toList.contains c = b) (h : Q (.bool (!b)) s) : wpAny (model prog w) A (compareOp .NotIn (.str (S [c]) t) (.str x u)) Q E s := by
  refine notIn_str ?_
  rw [show S [c] = ⟨#[c]⟩ from rfl, PySem.StrLaws.found_one]
  have e : decide (c ∈ x.cps.toList) = b := by
    rw [← hb, Bool.eq_iff_iff, decide_eq_true_eq, List.contains_iff_mem]
  rw [e]; exact h
theorem eq_txt {x y : Str} {t u : Tok} {b : Bool} {Q : Value → Shared → Prop} (hb : (x == y) = b) (h : Q (.bool b) s) : wpAny (model prog w) A (compareOp .Eq (.str x t) (.str y u)) Q E s := PyProof.Rows.eq_str (by rw [hb]; exact h)
theorem truthy_txt {x : Str} {t : Tok} {b : Bool} {Q : Bool → Shared → Prop} (hb : x.cps.toList.isEmpty = !b) (hl : x.length ≤ 1000000) (h : Q b { s with toks := s.toks + 1 + 1 }) : wpAny (model prog w) A (truthy (.str x t)) Q E s := by
  refine PySem.P.truthy_str (by omega) ?_
  have e : ((x.length : Int) != 0) = b := by
    have h1 : x.length = x.cps.toList.length := by simp [Str.length]
    cases hx : x.cps.toList with
    | nil => rw [hx] at hb h1; rw [h1]; cases b <;> simp_all
    | cons a l => rw [hx] at hb h1; rw [h1]; cases b <;> simp_all <;> omega
  rw [e]; exact h
end
theorem While_to {prog : Program} {w : World} {A : Around} {E : Value → Shared → Prop} {Q : Flow → Shared → Prop} {s : Shared} {env : Env} {h₀ : Heap} {L : Addr} {test : Expr} {body : List Stmt} {pos : Pos} {m : Str → Option Value} {news : List (Addr × Obj)} {n₀ : Nat}
    (P : Heap → Addr → Shared → Flow → Shared → Prop) (J : Nat → (Str → Option Value) → List (Addr × Obj) → Prop) (F : Fr h₀ L s.heap m) (N : News h₀ L s.heap news) (hJ : J n₀ m news)
    (turn : ∀ n m₁ news₁ h₁ tk₁, Fr h₀ L h₁ m₁ → News h₀ L h₁ news₁ → J n m₁ news₁ →
      wpAny (model prog w) A (isTrue test env (eval test env)) (fun b s₂ =>
        if b = true then wpAny (model prog w) A (execs body env) (WhileStep2 h₀ L s J (P h₀ L s) n) E s₂ else P h₀ L s .next s₂) E { s with heap := h₁, toks := tk₁ })
    (post : ∀ f s', P h₀ L s f s' → Q f s') (hE : PassesOwn (model prog w) A env E := by passes_own) :
    wpAny (model prog w) A (exec (.While test body [] pos) env) Q E s :=
  wpAny_mono (While_inv2 J F N hJ turn hE) post (fun _ _ h => h)
theorem m3 (m : Str → Option Value) (a b : Str) (va vb : Option Value) (ha : m a = va) (hb : m b = vb) : m = fun y => if y = a then va else if y = b then vb else m y := by
  funext y
  by_cases h1 : y = a
  · rw [if_pos h1, h1, ha]
  · rw [if_neg h1]
    by_cases h2 : y = b
    · rw [if_pos h2, h2, hb]
    · rw [if_neg h2]
/-- the signs that begin or go on a bare word -/
noncomputable def isL (c : Nat) : Bool := decide (97 ≤ c) && decide (c ≤ 122)
/-- reading one token: the state, what is gathered, whether quotes were seen, the signs ahead -/
inductive Lx : Nat → List Nat → Bool → List Nat → (Option Nat × List Nat × Bool × List Nat) → Prop
  | eof0 {tok qd} : Lx 32 tok qd [] (none, tok, qd, [])
  | eof1 {tok qd} : Lx 97 tok qd [] (none, tok, qd, [])
  | startW {tok qd c rest R} : isL c = true → Lx 97 [c] qd rest R → Lx 32 tok qd (c :: rest) R
  | startQ {tok qd rest R} : Lx 39 tok qd rest R → Lx 32 tok qd (39 :: rest) R
  | word {tok qd c rest R} : isL c = true → Lx 97 (tok ++ [c]) qd rest R → Lx 97 tok qd (c :: rest) R
  | wordQ {tok qd rest R} : Lx 39 tok qd rest R → Lx 97 tok qd (39 :: rest) R
  | wordD {tok qd rest R} : Lx 34 tok qd rest R → Lx 97 tok qd (34 :: rest) R
  | wordEnd {tok qd rest} : tok ≠ [] → Lx 97 tok qd (32 :: rest) (some 32, tok, qd, rest)
  | sqEnd {tok qd rest R} : Lx 97 tok true rest R → Lx 39 tok qd (39 :: rest) R
  | sqCh {tok qd c rest R} : c ≠ 39 → c ≠ 10 → Lx 39 (tok ++ [c]) true rest R → Lx 39 tok qd (c :: rest) R
  | dqEnd {tok qd rest R} : Lx 97 tok true rest R → Lx 34 tok qd (34 :: rest) R
  | dqQ {tok qd rest R} : Lx 34 (tok ++ [39]) true rest R → Lx 34 tok qd (39 :: rest) R
/-- the words' own signs, as the class's __init__ glues them -/
noncomputable abbrev wch : Str := Str.ofString "abcdfeghijklmnopqrstuvwxyzABCDEFGHIJKLMNOPQRSTUVWXYZ0123456789_" ++ Str.ofString "ßàáâãäåæçèéêëìíîïðñòóôõöøùúûüýþÿÀÁÂÃÄÅÆÇÈÉÊËÌÍÎÏÐÑÒÓÔÕÖØÙÚÛÜÝÞ"
noncomputable abbrev lexE (w : World) (kt ut : Nat → Tok) (io dq1 dq2 : Addr) (st tk : Value) : List DictEntry := [ent w "instream" (kt 0) (.ref io), ent w "infile" (kt 1) .none, ent w "posix" (kt 2) (.bool true), ent w "eof" (kt 3) .none, ent w "commenters" (kt 4) (.str (Str.ofString "") (ut 4)), ent w "wordchars" (kt 5) (.str wch (ut 5)), ent w "whitespace" (kt 6) (.str (Str.ofString " \t\r\n") (ut 6)), ent w "whitespace_split" (kt 7) (.bool true), ent w "quotes" (kt 8) (.str (Str.ofString "'\"") (ut 8)), ent w "escape" (kt 9) (.str (Str.ofString "\\") (ut 9)), ent w "escapedquotes" (kt 10) (.str (Str.ofString "\"") (ut 10)), ent w "state" (kt 11) st, ent w "pushback" (kt 12) (.ref dq1), ent w "lineno" (kt 13) (.int 1 (ut 13)), ent w "debug" (kt 14) (.int 0 (ut 14)), ent w "token" (kt 15) tk, ent w "filestack" (kt 16) (.ref dq2), ent w "source" (kt 17) .none, ent w "_punctuation_chars" (kt 18) (.str (Str.ofString "") (ut 18))]
noncomputable abbrev lexD (w : World) (kt ut : Nat → Tok) (io dq1 dq2 : Addr) (st tk : Value) : Obj := dictOf (lexE w kt ut io dq1 dq2 st tk) 19

theorem drop_cons {bs : List Nat} {pos c : Nat} {r : List Nat} (h : bs.drop pos = c :: r) : bs[pos]? = some c ∧ bs.drop (pos + 1) = r ∧ pos < bs.length := by
  have hp : pos < bs.length := by
    apply Nat.lt_of_not_le
    intro hle
    rw [List.drop_eq_nil_of_le hle] at h
    cases h
  rw [List.drop_eq_getElem_cons hp] at h
  injection h with h1 h2
  exact ⟨by rw [List.getElem?_eq_getElem hp, h1], h2, hp⟩
theorem drop_nil {bs : List Nat} {pos : Nat} (h : bs.drop pos = []) : bs.length ≤ pos := List.drop_eq_nil_iff.mp h
noncomputable def lettersOk (c : Nat) : Bool := !(Str.ofString " \t\r\n").cps.toList.contains c && !(Str.ofString "\\").cps.toList.contains c && wch.cps.toList.contains c && !(Str.ofString "'\"").cps.toList.contains c && !(S [c] == Str.ofString "\n")
theorem letters_all : ∀ c, c < 123 → isL c = true → lettersOk c = true := by decide +kernel
theorem letters {c : Nat} (h : isL c = true) : (Str.ofString " \t\r\n").cps.toList.contains c = false ∧ (Str.ofString "\\").cps.toList.contains c = false ∧ wch.cps.toList.contains c = true ∧ (Str.ofString "'\"").cps.toList.contains c = false ∧ (S [c] == Str.ofString "\n") = false := by
  have hlt : c < 123 := by
    unfold isL at h
    rw [Bool.and_eq_true, decide_eq_true_eq, decide_eq_true_eq] at h
    omega
  have h' := letters_all c hlt h
  unfold lettersOk at h'
  simp only [Bool.and_eq_true, Bool.not_eq_true'] at h'
  obtain ⟨⟨⟨⟨a, b⟩, d⟩, e⟩, f⟩ := h'
  exact ⟨a, b, d, e, f⟩
theorem no_empty (c : Nat) : (Str.ofString "").cps.toList.contains c = false := by
  rw [show Str.ofString "" = S [] from by decide +kernel]; rfl
theorem S_ne {a b : List Nat} (h : a ≠ b) : (S a == S b) = false := by
  rw [beq_eq_false_iff_ne]; exact fun e => h (S_inj e)
theorem full_one (c : Nat) : (S [c]).cps.toList.isEmpty = !true := rfl
theorem short_one (c : Nat) : (S [c]).length ≤ 1000000 := by rw [S_len]; exact Nat.le_of_ble_eq_true rfl
theorem newsTl {h₀ h : Heap} {L : Addr} {x : Addr × Obj} {news : List (Addr × Obj)} (N : News h₀ L h (x :: news)) : News h₀ L h news := fun p hp => N p (.tail _ hp)
noncomputable def rtF : Stmt := inS (atS 32) 6
noncomputable def rtB : List Stmt := fnB rtF
noncomputable def whB : Stmt → List Stmt
  | .While _ b _ _ => b
  | _ => []
noncomputable def hdB : List Stmt → Stmt
  | s :: _ => s
  | [] => .Pass ⟨0, 0, 0, 0⟩
noncomputable def tlB : List Stmt → List Stmt
  | _ :: r => r
  | [] => []
noncomputable def rtW : Stmt := nthS rtB 2
noncomputable def rtT : List Stmt := whB rtW
noncomputable def rtN : List Str := ["state", "debug", "whitespace", "token", "posix", "commenters", "escape", "wordchars", "quotes", "whitespace_split", "escapedquotes"].map Str.ofString
noncomputable def rtA : List (Addr × List Str) := [(800, rtN)]
noncomputable def rtS : List (Addr × List Str) := [(800, ["state", "token"].map Str.ofString)]
noncomputable def rtP : List (Addr × Str × Str) := [(800, Str.ofString "punctuation_chars", Str.ofString "_punctuation_chars")]
noncomputable abbrev rtC (w : World) : Cf := ⟨fnS rtF, rtA, rtS, [], [2], rtP, fun x => PyData.keyHash w.params x, [], fun _ _ _ _ _ => False⟩
theorem rtA_ok (P : Params) : okAB (Mine.K P) rtA = true := by kernel_rfl
theorem rtS_ok (P : Params) : okSB (Mine.K P) rtS = true := by kernel_rfl
noncomputable abbrev rtM (lx : Addr) (x : Value) (qd : Bool) : List (Str × Value × An) := [(Str.ofString "nextchar", x, none), (Str.ofString "self", .ref lx, some (3, 2)), (Str.ofString "quoted", .bool qd, none)]
noncomputable abbrev rtO (w : World) (lx ld io iod dq1 dq2 : Addr) (kt ut : Nat → Tok) (D : Obj) (st tk : Value) : List (Addr × AO) := [(iod, .raw D), (io, .inst 665 iod), (ld, .dict (lexE w kt ut io dq1 dq2 st tk) 19), (lx, .inst 800 ld)]
section
variable {w : World} {lx ld io iod dq1 dq2 : Addr} {kt ut : Nat → Tok} {D : Obj} {ts tt : Tok} {tok : List Nat} {qd : Bool} {c : Nat} {t' : Tok} {k : Flow → List (Str × Value × An) → List (Addr × AO) → Tok → Prop} {tk : Tok}
noncomputable abbrev rtX (k : Flow → List (Str × Value × An) → List (Addr × AO) → Tok → Prop) (w : World) (lx ld io iod dq1 dq2 : Addr) (kt ut : Nat → Tok) (D : Obj) (ts tt : Tok) (tok : List Nat) (qd : Bool) (t' : Tok) (tk : Tok) (q : Nat) (x : List Nat) (hs : List (Nat × Bool)) : Prop := xRun (rtC w) 60 (tlB rtT) (rtM lx (.str (S x) t') qd) (rtO w lx ld io iod dq1 dq2 kt ut D (.str (S [q]) ts) (.str (S tok) tt)) tk hs k
theorem eq_eof0 : rtX k w lx ld io iod dq1 dq2 kt ut D ts tt tok qd t' tk 32 [] [] = ((k .brk (rtM lx (.str (S []) t') qd) (rtO w lx ld io iod dq1 dq2 kt ut D (.none) (.str (S tok) tt)) (tk + 10))) := by kernel_rfl
theorem go_eof0  (h : k .brk (rtM lx (.str (S []) t') qd) (rtO w lx ld io iod dq1 dq2 kt ut D (.none) (.str (S tok) tt)) (tk + 10)) : rtX k w lx ld io iod dq1 dq2 kt ut D ts tt tok qd t' tk 32 [] [] := by rw [eq_eof0]; exact h
theorem eq_eof1 : rtX k w lx ld io iod dq1 dq2 kt ut D ts tt tok qd t' tk 97 [] [] = ((k .brk (rtM lx (.str (S []) t') qd) (rtO w lx ld io iod dq1 dq2 kt ut D (.none) (.str (S tok) tt)) (tk + 17))) := by kernel_rfl
theorem go_eof1  (h : k .brk (rtM lx (.str (S []) t') qd) (rtO w lx ld io iod dq1 dq2 kt ut D (.none) (.str (S tok) tt)) (tk + 17)) : rtX k w lx ld io iod dq1 dq2 kt ut D ts tt tok qd t' tk 97 [] [] := by rw [eq_eof1]; exact h
theorem eq_startW : rtX k w lx ld io iod dq1 dq2 kt ut D ts tt tok qd t' tk 32 [c] [(0, false), (4, false), (1, false), (0, true)] = (((S [c]).cps.toList == (Str.ofString "\n").cps.toList) = false ∧ (Str.ofString " \t\r\n").cps.toList.contains c = false ∧ (Str.ofString "\\").cps.toList.contains c = false ∧ wch.cps.toList.contains c = true ∧ (k .next (rtM lx (.str (S [c]) t') qd) (rtO w lx ld io iod dq1 dq2 kt ut D (.str (S [97]) (tk + 15)) (.str (S [c]) t')) (tk + 18))) := by kernel_rfl
theorem go_startW (f0 : ((S [c]).cps.toList == (Str.ofString "\n").cps.toList) = false) (f1 : (Str.ofString " \t\r\n").cps.toList.contains c = false) (f2 : (Str.ofString "\\").cps.toList.contains c = false) (f3 : wch.cps.toList.contains c = true) (h : k .next (rtM lx (.str (S [c]) t') qd) (rtO w lx ld io iod dq1 dq2 kt ut D (.str (S [97]) (tk + 15)) (.str (S [c]) t')) (tk + 18)) : rtX k w lx ld io iod dq1 dq2 kt ut D ts tt tok qd t' tk 32 [c] [(0, false), (4, false), (1, false), (0, true)] := by rw [eq_startW]; exact ⟨f0, f1, f2, f3, h⟩
theorem eq_startQ : rtX k w lx ld io iod dq1 dq2 kt ut D ts tt tok qd t' tk 32 [39] [] = ((∀ n1 : Tok, k .next (rtM lx (.str (S [39]) t') qd) (rtO w lx ld io iod dq1 dq2 kt ut D (.str (S [39]) t') (.str (S tok) tt)) (n1 + 4))) := by kernel_rfl
theorem go_startQ  (h : ∀ n1 : Tok, k .next (rtM lx (.str (S [39]) t') qd) (rtO w lx ld io iod dq1 dq2 kt ut D (.str (S [39]) t') (.str (S tok) tt)) (n1 + 4)) : rtX k w lx ld io iod dq1 dq2 kt ut D ts tt tok qd t' tk 32 [39] [] := by rw [eq_startQ]; exact h
theorem eq_word : rtX k w lx ld io iod dq1 dq2 kt ut D ts tt tok qd t' tk 97 [c] [(0, false), (7, false), (2, false), (0, false), (0, true), (0, true)] = (((S [c]).cps.toList == (Str.ofString "\n").cps.toList) = false ∧ (Str.ofString " \t\r\n").cps.toList.contains c = false ∧ (Str.ofString "'\"").cps.toList.contains c = false ∧ (Str.ofString "\\").cps.toList.contains c = false ∧ wch.cps.toList.contains c = true ∧ Nat.ble ((S tok).length + (S [c]).length) 1000000 = true ∧ (∀ t1 n1 : Tok, k .next (rtM lx (.str (S [c]) t') qd) (rtO w lx ld io iod dq1 dq2 kt ut D (.str (S [97]) ts) (.str (S tok ++ S [c]) t1)) (n1 + 2))) := by kernel_rfl
theorem go_word (f0 : ((S [c]).cps.toList == (Str.ofString "\n").cps.toList) = false) (f1 : (Str.ofString " \t\r\n").cps.toList.contains c = false) (f2 : (Str.ofString "'\"").cps.toList.contains c = false) (f3 : (Str.ofString "\\").cps.toList.contains c = false) (f4 : wch.cps.toList.contains c = true) (f5 : Nat.ble ((S tok).length + (S [c]).length) 1000000 = true) (h : ∀ t1 n1 : Tok, k .next (rtM lx (.str (S [c]) t') qd) (rtO w lx ld io iod dq1 dq2 kt ut D (.str (S [97]) ts) (.str (S tok ++ S [c]) t1)) (n1 + 2)) : rtX k w lx ld io iod dq1 dq2 kt ut D ts tt tok qd t' tk 97 [c] [(0, false), (7, false), (2, false), (0, false), (0, true), (0, true)] := by rw [eq_word]; exact ⟨f0, f1, f2, f3, f4, f5, h⟩
theorem eq_wordQ : rtX k w lx ld io iod dq1 dq2 kt ut D ts tt tok qd t' tk 97 [39] [] = ((k .next (rtM lx (.str (S [39]) t') qd) (rtO w lx ld io iod dq1 dq2 kt ut D (.str (S [39]) t') (.str (S tok) tt)) (tk + 23))) := by kernel_rfl
theorem go_wordQ  (h : k .next (rtM lx (.str (S [39]) t') qd) (rtO w lx ld io iod dq1 dq2 kt ut D (.str (S [39]) t') (.str (S tok) tt)) (tk + 23)) : rtX k w lx ld io iod dq1 dq2 kt ut D ts tt tok qd t' tk 97 [39] [] := by rw [eq_wordQ]; exact h
theorem eq_wordD : rtX k w lx ld io iod dq1 dq2 kt ut D ts tt tok qd t' tk 97 [34] [] = ((k .next (rtM lx (.str (S [34]) t') qd) (rtO w lx ld io iod dq1 dq2 kt ut D (.str (S [34]) t') (.str (S tok) tt)) (tk + 23))) := by kernel_rfl
theorem go_wordD  (h : k .next (rtM lx (.str (S [34]) t') qd) (rtO w lx ld io iod dq1 dq2 kt ut D (.str (S [34]) t') (.str (S tok) tt)) (tk + 23)) : rtX k w lx ld io iod dq1 dq2 kt ut D ts tt tok qd t' tk 97 [34] [] := by rw [eq_wordD]; exact h
theorem eq_wordEnd : rtX k w lx ld io iod dq1 dq2 kt ut D ts tt tok qd t' tk 97 [32] [(10, true), (0, true)] = (Nat.ble (S tok).length 1000000 = true ∧ (!(S tok).cps.toList.isEmpty) = true ∧ (k .brk (rtM lx (.str (S [32]) t') qd) (rtO w lx ld io iod dq1 dq2 kt ut D (.str (S [32]) (tk + 18)) (.str (S tok) tt)) (tk + 24))) := by kernel_rfl
theorem go_wordEnd (f0 : Nat.ble (S tok).length 1000000 = true) (f1 : (!(S tok).cps.toList.isEmpty) = true) (h : k .brk (rtM lx (.str (S [32]) t') qd) (rtO w lx ld io iod dq1 dq2 kt ut D (.str (S [32]) (tk + 18)) (.str (S tok) tt)) (tk + 24)) : rtX k w lx ld io iod dq1 dq2 kt ut D ts tt tok qd t' tk 97 [32] [(10, true), (0, true)] := by rw [eq_wordEnd]; exact ⟨f0, f1, h⟩
theorem eq_sqEnd : rtX k w lx ld io iod dq1 dq2 kt ut D ts tt tok qd t' tk 39 [39] [] = ((k .next ((Str.ofString "quoted", .bool true, none) :: rtM lx (.str (S [39]) t') qd) (rtO w lx ld io iod dq1 dq2 kt ut D (.str (S [97]) (tk + 13)) (.str (S tok) tt)) (tk + 16))) := by kernel_rfl
theorem go_sqEnd  (h : k .next ((Str.ofString "quoted", .bool true, none) :: rtM lx (.str (S [39]) t') qd) (rtO w lx ld io iod dq1 dq2 kt ut D (.str (S [97]) (tk + 13)) (.str (S tok) tt)) (tk + 16)) : rtX k w lx ld io iod dq1 dq2 kt ut D ts tt tok qd t' tk 39 [39] [] := by rw [eq_sqEnd]; exact h
theorem eq_sqCh1 : rtX k w lx ld io iod dq1 dq2 kt ut D ts tt tok qd t' tk 39 [c] [(0, false), (5, false), (0, true), (1, true)] = (((S [c]).cps.toList == (Str.ofString "\n").cps.toList) = false ∧ ((S [c]).cps.toList == (S [39]).cps.toList) = false ∧ (Str.ofString "\\").cps.toList.contains c = true ∧ Nat.ble ((S tok).length + (S [c]).length) 1000000 = true ∧ (∀ t1 n1 : Tok, k .next ((Str.ofString "quoted", .bool true, none) :: rtM lx (.str (S [c]) t') qd) (rtO w lx ld io iod dq1 dq2 kt ut D (.str (S [39]) ts) (.str (S tok ++ S [c]) t1)) (n1 + 2))) := by kernel_rfl
theorem go_sqCh1 (f0 : ((S [c]).cps.toList == (Str.ofString "\n").cps.toList) = false) (f1 : ((S [c]).cps.toList == (S [39]).cps.toList) = false) (f2 : (Str.ofString "\\").cps.toList.contains c = true) (f3 : Nat.ble ((S tok).length + (S [c]).length) 1000000 = true) (h : ∀ t1 n1 : Tok, k .next ((Str.ofString "quoted", .bool true, none) :: rtM lx (.str (S [c]) t') qd) (rtO w lx ld io iod dq1 dq2 kt ut D (.str (S [39]) ts) (.str (S tok ++ S [c]) t1)) (n1 + 2)) : rtX k w lx ld io iod dq1 dq2 kt ut D ts tt tok qd t' tk 39 [c] [(0, false), (5, false), (0, true), (1, true)] := by rw [eq_sqCh1]; exact ⟨f0, f1, f2, f3, h⟩
theorem eq_sqCh0 : rtX k w lx ld io iod dq1 dq2 kt ut D ts tt tok qd t' tk 39 [c] [(0, false), (5, false), (0, false), (0, true)] = (((S [c]).cps.toList == (Str.ofString "\n").cps.toList) = false ∧ ((S [c]).cps.toList == (S [39]).cps.toList) = false ∧ (Str.ofString "\\").cps.toList.contains c = false ∧ Nat.ble ((S tok).length + (S [c]).length) 1000000 = true ∧ (∀ t1 n1 : Tok, k .next ((Str.ofString "quoted", .bool true, none) :: rtM lx (.str (S [c]) t') qd) (rtO w lx ld io iod dq1 dq2 kt ut D (.str (S [39]) ts) (.str (S tok ++ S [c]) t1)) (n1 + 2))) := by kernel_rfl
theorem go_sqCh0 (f0 : ((S [c]).cps.toList == (Str.ofString "\n").cps.toList) = false) (f1 : ((S [c]).cps.toList == (S [39]).cps.toList) = false) (f2 : (Str.ofString "\\").cps.toList.contains c = false) (f3 : Nat.ble ((S tok).length + (S [c]).length) 1000000 = true) (h : ∀ t1 n1 : Tok, k .next ((Str.ofString "quoted", .bool true, none) :: rtM lx (.str (S [c]) t') qd) (rtO w lx ld io iod dq1 dq2 kt ut D (.str (S [39]) ts) (.str (S tok ++ S [c]) t1)) (n1 + 2)) : rtX k w lx ld io iod dq1 dq2 kt ut D ts tt tok qd t' tk 39 [c] [(0, false), (5, false), (0, false), (0, true)] := by rw [eq_sqCh0]; exact ⟨f0, f1, f2, f3, h⟩
theorem eq_dqEnd : rtX k w lx ld io iod dq1 dq2 kt ut D ts tt tok qd t' tk 34 [34] [] = ((k .next ((Str.ofString "quoted", .bool true, none) :: rtM lx (.str (S [34]) t') qd) (rtO w lx ld io iod dq1 dq2 kt ut D (.str (S [97]) (tk + 13)) (.str (S tok) tt)) (tk + 16))) := by kernel_rfl
theorem go_dqEnd  (h : k .next ((Str.ofString "quoted", .bool true, none) :: rtM lx (.str (S [34]) t') qd) (rtO w lx ld io iod dq1 dq2 kt ut D (.str (S [97]) (tk + 13)) (.str (S tok) tt)) (tk + 16)) : rtX k w lx ld io iod dq1 dq2 kt ut D ts tt tok qd t' tk 34 [34] [] := by rw [eq_dqEnd]; exact h
theorem eq_dqQ : rtX k w lx ld io iod dq1 dq2 kt ut D ts tt tok qd t' tk 34 [39] [(8, true)] = (Nat.ble ((S tok).length + (S [39]).length) 1000000 = true ∧ (∀ t1 n1 : Tok, k .next ((Str.ofString "quoted", .bool true, none) :: rtM lx (.str (S [39]) t') qd) (rtO w lx ld io iod dq1 dq2 kt ut D (.str (S [34]) ts) (.str (S tok ++ S [39]) t1)) (n1 + 2))) := by kernel_rfl
theorem go_dqQ (f0 : Nat.ble ((S tok).length + (S [39]).length) 1000000 = true) (h : ∀ t1 n1 : Tok, k .next ((Str.ofString "quoted", .bool true, none) :: rtM lx (.str (S [39]) t') qd) (rtO w lx ld io iod dq1 dq2 kt ut D (.str (S [34]) ts) (.str (S tok ++ S [39]) t1)) (n1 + 2)) : rtX k w lx ld io iod dq1 dq2 kt ut D ts tt tok qd t' tk 34 [39] [(8, true)] := by rw [eq_dqQ]; exact ⟨f0, h⟩
end
section
variable {w : World} {lx ld io iod dq1 dq2 : Addr} {kt ut : Nat → Tok} {D : Obj} {tt : Tok} {tok : List Nat} {v u : Value} {k : Flow → List (Str × Value × An) → List (Addr × AO) → Tok → Prop} {tk : Tok}
noncomputable def rtE : List Stmt := tlB (tlB (tlB rtB))
theorem rtB_is : rtB = [nthS rtB 0, nthS rtB 1] ++ rtW :: rtE := by kernel_rfl
noncomputable abbrev rtR (lx : Addr) (qd : Bool) : List (Str × Value × An) := [(Str.ofString "self", .ref lx, some (3, 2)), (Str.ofString "quoted", .bool qd, none)]
theorem eq_in : xRun (rtC w) 60 [nthS rtB 0, nthS rtB 1] ([(Str.ofString "self", .ref lx, some (3, 2))]) (rtO w lx ld io iod dq1 dq2 kt ut D v u) tk [] k = k .next [(Str.ofString "escapedstate", .str (Str.ofString " ") (tk + 1), none), (Str.ofString "quoted", .bool false, none), (Str.ofString "self", .ref lx, some (3, 2))] (rtO w lx ld io iod dq1 dq2 kt ut D v u) (tk + 3) := by kernel_rfl
theorem eq_none {qd : Bool} {t' : Tok} : xRun (rtC w) 60 (tlB rtT) (rtM lx (.str (S []) t') qd) (rtO w lx ld io iod dq1 dq2 kt ut D .none (.str (S tok) tt)) tk [] k = k .brk (rtM lx (.str (S []) t') qd) (rtO w lx ld io iod dq1 dq2 kt ut D .none (.str (S []) (tk + 4))) (tk + 7) := by kernel_rfl
theorem eq_out1 : xRun (rtC w) 60 rtE (rtR lx true) (rtO w lx ld io iod dq1 dq2 kt ut D v (.str (S tok) tt)) tk [] k = k (.ret (.str (S tok) tt)) ((Str.ofString "result", .str (S tok) tt, none) :: rtR lx true) (rtO w lx ld io iod dq1 dq2 kt ut D v (.str (S []) (tk + 2))) (tk + 8) := by kernel_rfl
theorem eq_out2 : xRun (rtC w) 60 rtE (rtR lx false) (rtO w lx ld io iod dq1 dq2 kt ut D v (.str (S []) tt)) tk [] k = k (.ret .none) ((Str.ofString "result", .none, none) :: (Str.ofString "result", .str (S []) tt, none) :: rtR lx false) (rtO w lx ld io iod dq1 dq2 kt ut D v (.str (S []) (tk + 2))) (tk + 10) := by kernel_rfl
theorem eq_out3 : xRun (rtC w) 60 rtE (rtR lx false) (rtO w lx ld io iod dq1 dq2 kt ut D v (.str (S tok) tt)) tk [(0, false)] k = (((S tok).cps.toList == (Str.ofString "").cps.toList) = false ∧ k (.ret (.str (S tok) tt)) ((Str.ofString "result", .str (S tok) tt, none) :: rtR lx false) (rtO w lx ld io iod dq1 dq2 kt ut D v (.str (S []) (tk + 2))) (tk + 9)) := by kernel_rfl
noncomputable def whT : Stmt → Expr
  | .While t _ _ _ => t
  | _ => .Constant .none 0 ⟨0, 0, 0, 0⟩
noncomputable def whP : Stmt → Pos
  | .While _ _ _ p => p
  | _ => ⟨0, 0, 0, 0⟩
noncomputable def cnP : Expr → Pos
  | .Constant _ _ p => p
  | _ => ⟨0, 0, 0, 0⟩
theorem rtW_is : rtW = .While (.Constant (.bool true) 0 (cnP (whT rtW))) rtT [] (whP rtW) := by kernel_rfl
theorem rtT_is : rtT = hdB rtT :: tlB rtT := by kernel_rfl
noncomputable def ifE : Stmt → List Stmt
  | .If _ _ e _ => e
  | _ => []
noncomputable def ifT : Stmt → Expr
  | .If t _ _ _ => t
  | _ => .Constant .none 0 ⟨0, 0, 0, 0⟩
noncomputable def ifB : Stmt → List Stmt
  | .If _ b _ _ => b
  | _ => []
noncomputable def ifP : Stmt → Pos
  | .If _ _ _ p => p
  | _ => ⟨0, 0, 0, 0⟩
noncomputable def rtH : Stmt := .If (ifT (hdB rtT)) (ifB (hdB rtT)) (ifE (hdB rtT)) (ifP (hdB rtT))
theorem rtH_is : hdB rtT = rtH := by kernel_rfl
theorem eq_head {qd : Bool} {st tk' : Value} {b : Bool → List (Str × Value × An) → List (Addr × AO) → Tok → Prop} : xTest (rtC w) 20 (ifT (hdB rtT)) (rtR lx qd) (rtO w lx ld io iod dq1 dq2 kt ut D st tk') tk [] b = ∀ n : Tok, b false (rtR lx qd) (rtO w lx ld io iod dq1 dq2 kt ut D st tk') (n + 1 + 1) := by kernel_rfl
end
end
section
noncomputable abbrev dqO : Obj := { cls := .type "collections.deque", data := .fields #[.none, rawInt 0] }
theorem noBool_deque : typeLookup (.type "collections.deque") "__bool__" = pure none := by rw [typeLookup_type, builtinLookup_eq_fast]; kernel_rfl
theorem slot_deque_len : Slot "collections.deque" "__len__" "collections.deque.__len__" := .of (owner := "collections.deque") (n := "__len__") (by rw [typeLookup_type, builtinLookup_eq_fast]; kernel_rfl) (by decide +kernel) (by decide +kernel) (by decide +kernel)
    (by first | exact .inl (by decide +kernel) | exact .inr (by decide +kernel)) (by rw [isSubtype_type]; kernel_rfl)
theorem entry_deque_len : entryFor table "collections.deque.__len__" = some Builtin.«collections.deque.__len__» := by first | exact entryFor_of_fast (by kernel_rfl) | exact entryFor_of_tree (by kernel_rfl)
theorem args_deque_len (a : Value) : argsOk "collections.deque.__len__" ⟨[a], []⟩ := by unfold argsOk; kernel_rfl
section
variable {prog : Program} {w : World} {A : Around} {E : Value → Shared → Prop} {s : Shared} {d : Addr}
theorem len_body_deque {Q : Value → Shared → Prop} (ho : s.heap.get? d = some dqO)
    (h : Q (.int 0 (s.toks + 1)) { s with toks := s.toks + 1 + 1 }) : wpAny (model prog w) A (Builtin.«len» ⟨[.ref d], []⟩) (fun fin s' => ∃ r, fin = .done (.ret r) ∧ Q r s') E s := by
  have hT : s.TypeIs (.ref d) "collections.deque" := ⟨_, ho, rfl⟩
  unfold Builtin.«len»
  refine wpAny_bind (m := oneArg "len" _) (wpAny_pure ?_)
  refine wpAny_bind (m := callSpecial? (.ref d) (Str.ofString "__len__")) (wpAny_callSpecial?_slot (name := Str.ofString "__len__") hT slot_deque_len
    (wpAny_call_entry slot_deque_len hT entry_deque_len ?_ (args_deque_len _)))
  · unfold Builtin.«collections.deque.__len__» Builtin.Deque.size fieldsOf slotArgs
    refine wpAny_bind (wpAny_pure ?_)
    dsimp only
    refine wpAny_bind (wpAny_bind (wpAny_bind (wpAny_load ho ?_)))
    refine wpAny_pure (wpAny_pure ?_)
    show wpAny _ _ (retInt _) _ _ _
    unfold retInt
    refine wpAny_bind (wpAny_mkInt (wpAny_pure ⟨_, rfl, ?_⟩))
    refine wpAny_bind (wpAny_holding (wpAny_pure ?_))
    refine wpAny_bind (wpAny_letGo ?_)
    show wpAny _ _ (if ((0 : Nat) : Int) < 0 then _ else _) _ _ _
    rw [if_neg (by omega)]
    show wpAny _ _ (if ((0 : Nat) : Int) ≥ 2 ^ 63 then _ else _) _ _ _
    rw [if_neg (by omega)]
    exact wpAny_bind (wpAny_mkInt (wpAny_pure ⟨_, rfl, h⟩))
theorem truthy_deque {Q : Bool → Shared → Prop} (hl : s.heap.get? d = some dqO) (h : Q false { s with toks := s.toks + 1 + 1 }) : wpAny (model prog w) A (truthy (.ref d)) Q E s := by
  have hT : s.TypeIs (.ref d) "collections.deque" := ⟨_, hl, rfl⟩
  have key : wpAny (model prog w) A (runValue (.builtin "len" ⟨[.ref d], []⟩)) (fun r s' => r = .int 0 (s.toks + 1) ∧ Q false s') E s := by
    refine wpAny_runValue (codeAny_builtin entry_len ?_)
    rw [Around.under_plainId plain_len _]
    exact wpAny_mono (len_body_deque (Q := fun r s' => r = .int 0 (s.toks + 1) ∧ Q false s') hl ⟨rfl, h⟩)
      (fun fin s' h' => by obtain ⟨r, rfl, hq⟩ := h'; exact hq) fun _ _ e => e
  unfold truthy
  first
    | refine wpAny_bind (wpAny_callSpecial?_none (name := Str.ofString "__bool__") hT noBool_deque ?_)
    | refine wpAny_bind (wpAny_pure (wpAny_bind (wpAny_callSpecial?_none (name := Str.ofString "__bool__") hT noBool_deque ?_)))
  first
    | refine wpAny_bind (wpAny_specialOf (name := Str.ofString "__len__") hT slot_deque_len.lookup ?_)
    | refine wpAny_bind (wpAny_pure (wpAny_bind (wpAny_specialOf (name := Str.ofString "__len__") hT slot_deque_len.lookup ?_)))
  first
    | exact wpAny_bind (wpAny_mono key (fun r s' h' => by obtain ⟨rfl, hq⟩ := h'; exact wpAny_pure hq) fun _ _ e => e)
    | exact wpAny_bind (wpAny_pure (wpAny_bind (wpAny_mono key (fun r s' h' => by obtain ⟨rfl, hq⟩ := h'; exact wpAny_pure hq) fun _ _ e => e)))
end
end
section
/-- the lexer's state, written where it stands on the ledger -/
noncomputable def lexN (w : World) (lx ld io iod dq1 dq2 : Addr) (bs : List Nat) (kt ut : Nat → Tok) (t1 t2 t3 u1 u2 u3 : Tok) (st tk : Value) (pos : Nat) (rest : List (Addr × Obj)) : List (Addr × Obj) :=
  (iod, ioD w t1 t2 t3 u1 u2 u3 bs pos) :: (io, instObj 665 iod) :: (ld, lexD w kt ut io dq1 dq2 st tk) :: (lx, instObj 800 ld) :: rest
noncomputable def stV (q : Option Nat) (t : Tok) : Value := match q with
  | none => .none
  | some c => .str (S [c]) t
/-- between the loop's turns -/
noncomputable def LexJ (w : World) (lx ld io iod dq1 dq2 : Addr) (bs : List Nat) (kt ut : Nat → Tok) (t1 t2 t3 u1 u2 : Tok) (rest : List (Addr × Obj)) (R : Option Nat × List Nat × Bool × List Nat) (n : Nat) (m : Str → Option Value) (news : List (Addr × Obj)) : Prop :=
  ∃ (q : Nat) (tok : List Nat) (qd : Bool) (pos : Nat) (l : List Nat) (ts tt u3 : Tok), n = l.length + 1 ∧ bs.drop pos = l ∧ pos ≤ bs.length ∧ tok.length ≤ pos ∧ Lx q tok qd l R ∧ m (Str.ofString "self") = some (.ref lx) ∧ m (Str.ofString "quoted") = some (.bool qd) ∧
    news = lexN w lx ld io iod dq1 dq2 bs kt ut t1 t2 t3 u1 u2 u3 (.str (S [q]) ts) (.str (S tok) tt) pos rest
/-- behind the loop -/
noncomputable def LexQ (w : World) (h₀ : Heap) (L : Addr) (s : Shared) (lx ld io iod dq1 dq2 : Addr) (bs : List Nat) (kt ut : Nat → Tok) (t1 t2 t3 u1 u2 : Tok) (rest : List (Addr × Obj)) (R : Option Nat × List Nat × Bool × List Nat) (f : Flow) (s' : Shared) : Prop :=
  f = .next ∧ ∃ (h : Heap) (tk : Nat) (m : Str → Option Value) (pos : Nat) (ts tt u3 : Tok), s' = { s with heap := h, toks := tk } ∧ Fr h₀ L h m ∧ News h₀ L h (lexN w lx ld io iod dq1 dq2 bs kt ut t1 t2 t3 u1 u2 u3 (stV R.1 ts) (.str (S R.2.1) tt) pos rest) ∧ bs.drop pos = R.2.2.2 ∧ pos ≤ bs.length ∧
    m (Str.ofString "self") = some (.ref lx) ∧ m (Str.ofString "quoted") = some (.bool R.2.2.1)
section
variable {w : World} {p : Program} {loose : List Str} {mean : ExcName → Option Value} {mg mb : Str → Option Value} {dp un : Nat} {gd : Option (List Code)} {cn : Str} {cs : Scope} {a : Addr} {ccd : Value} {cl : List (Str × Addr)} {outer : List Env} {A₀ : Around} {base h₀ : Heap} {L : Addr} {m : Str → Option Value} {s : Shared} {E : Value → Shared → Prop}
/-- the property that the turns read -/
theorem rt_prop (B : Below A₀ base outer h₀) (X : (Mine.K w.params).In h₀) (T : Top p loose mean mg mb h₀) (hk : cs.kind = .function) (hd : dp + 3 < recursionLimit) (hu : un + 40 < cLine) : PrH PySem.Challenge.pw_il0113_01 w (ktrTop dp un gd cn cs L a ccd cl outer) E h₀ L rtP := by
  intro c x y hm s Q m news ax d es n u F N hx hy hg hh hret
  have hm := List.mem_singleton.mp hm
  injection hm with e1 e2
  injection e2 with e2 e3
  subst e1 e2 e3
  refine get_prop F X (InstAt.of_news N hx hy) (by k_is) (by k_is) (by k_is) (by k_is) (by k_is) (by k_is) ?_
  refine code_def (K := Mine.K w.params) (m := m) (news := news) B F X N T rfl rfl hk (by k_is) (by k_is) (by ktr_room) (.of_eq rfl) (locs rfl) ?_ rfl rfl rfl (by decide)
  intro g' L' h' FG' F' N' B' X' T'
  refine execs_at (b' := ?kbody) ?kbe ?_
  case kbe => (conv => lhs; whnf)
  refine wpAny_execs_cons (wpAny_Return_some (Attribute_Name_ (nameX_L (cl := []) F' rfl (get_own F' X' (InstAt.of_news N' hx hy) (by k_is) (by k_is) (by k_is) (by k_is) (getE_ok hg) hh ?_))))
  refine leaveK_ F' N' fun F2 N2 => ?_
  exact handed_on hh (hret _ _ F2 N2)
end
theorem rtInv {C : Cf} (hmu : C.mu = [2]) {w : World} {lx ld io iod dq1 dq2 : Addr} {kt ut : Nat → Tok} {D : Obj} {st tk : Value} {rest : List (Addr × Obj)} (hr2 : ∀ x ∈ rest, x.1 ≠ ld) (h1 : ld ≠ iod) (h3 : io ≠ ld) (h4 : lx ≠ ld) {m : List (Str × Value × An)} (hm : ∀ q ∈ m, q.2.2 = none ∨ (q.2.1 = .ref lx ∧ q.2.2 = some (3, 2))) : Inv C rest m (rtO w lx ld io iod dq1 dq2 kt ut D st tk) := by
  refine Inv.of (fun q hq => ?_) fun j hj => ?_
  · obtain ⟨x, v, an⟩ := q
    rcases hm _ hq with e | ⟨e1, e2⟩
    · dsimp only at e; rw [e]; trivial
    · dsimp only at e1 e2; rw [e1, e2]; exact ⟨_, _, _, _, _, rfl, rfl, rfl⟩
  · rw [hmu] at hj
    rw [List.mem_singleton.mp hj]
    refine alone_of (pre := [_, _]) (post := [_]) (fun q hq => ?_) hr2
    rcases List.mem_cons.mp hq with rfl | hq
    · exact h1.symm
    · rcases List.mem_cons.mp hq with rfl | hq
      · exact h3
      · rcases List.mem_cons.mp hq with rfl | hq
        · exact h4
        · cases hq
section
variable {w : World} {p : Program} {loose : List Str} {mean : ExcName → Option Value} {mg mb : Str → Option Value} {dp un : Nat} {gd : Option (List Code)} {cn : Str} {a : Addr} {ccd : Value} {outer : List Env} {A₀ : Around} {base h₀ : Heap} {L : Addr} {m : Str → Option Value} {s : Shared} {E : Value → Shared → Prop} {Q : Flow → Shared → Prop}
  {lx ld io iod dq1 dq2 : Addr} {kt ut : Nat → Tok} {t1 t2 t3 u1 u2 u3 : Tok} {bs : List Nat} {pos c : Nat} {qd : Bool} {st tk : Value} {rest : List (Addr × Obj)}
theorem rt_has (B : Below A₀ base outer h₀) (X : (Mine.K w.params).In h₀) (T : Top p loose mean mg mb h₀) (hd : dp + 3 < recursionLimit) (hu : un + 40 < cLine) : Has PySem.Challenge.pw_il0113_01 w (Mine.K w.params) (ktrTop dp un gd cn (rtC w).cs L a ccd [] outer) E h₀ L (rtC w) p loose mg mb :=
  ⟨rfl, rtA_ok _, rt_prop B X T rfl hd hu, rtS_ok _, rfl, fun _ => rfl, X, topRead_of T⟩
/-- the next sign is read -/
theorem rt_head (B : Below A₀ base outer h₀) (X : (Mine.K w.params).In h₀) (T : Top p loose mean mg mb h₀) (hd : dp + 6 < recursionLimit) (hu : un + 80 < cLine) (F : Fr h₀ L s.heap (denM (rtR lx qd) m)) (N : News h₀ L s.heap (lexN w lx ld io iod dq1 dq2 bs kt ut t1 t2 t3 u1 u2 u3 st tk pos rest))
    (hr2 : ∀ x ∈ rest, x.1 ≠ ld) (h1 : ld ≠ iod) (h3 : io ≠ ld) (h4 : lx ≠ ld) (U : Tok → Prop) (x : List Nat) (pos' : Nat)
    (rd : ∀ t, Told PySem.Challenge.pw_il0113_01 w (Mine.K w.params) 4 60 (.ref 611) [.ref io, .int 1 t] (lexN w lx ld io iod dq1 dq2 bs kt ut t1 t2 t3 u1 u2 u3 st tk pos rest) (fun r nw => ∃ t' u', r = .str (S x) t' ∧ U u' ∧ nw = lexN w lx ld io iod dq1 dq2 bs kt ut t1 t2 t3 u1 u2 u' st tk pos' rest))
    (ret : ∀ t' u3' h' tk', U u3' → Fr h₀ L h' (denM (rtM lx (.str (S x) t') qd) m) → News h₀ L h' (lexN w lx ld io iod dq1 dq2 bs kt ut t1 t2 t3 u1 u2 u3' st tk pos' rest) → Q .next { s with heap := h', toks := tk' }) :
    wpAny (model PySem.Challenge.pw_il0113_01 w) (ktrTop dp un gd cn (rtC w).cs L a ccd [] outer) (exec (hdB rtT) (eX cn (rtC w) L a ccd [])) Q E s := by
  refine exec_at rtH_is (wpAny_If ?_)
  refine test_ok (K := Mine.K w.params) (rest := rest) (m₁ := m) (rtC w) 20 (rtR lx qd) (rtO w lx ld io iod dq1 dq2 kt ut (ioD w t1 t2 t3 u1 u2 u3 bs pos) st tk) [] (rt_has B X T (by omega) (by omega)) (rtInv rfl hr2 h1 h3 h4 ?_) F N (Eq.mpr eq_head fun n h' F' N' => ?_)
  · intro q hq
    rcases List.mem_cons.mp hq with rfl | hq
    · exact .inr ⟨rfl, rfl⟩
    · rcases List.mem_cons.mp hq with rfl | hq
      · exact .inl rfl
      · cases hq
  · rw [if_neg (by decide)]
    refine execs_at (b' := ?kbody) ?kbe ?_
    case kbe => (conv => lhs; whnf)
    refine wpAny_execs_cons ?_
    refine wpAny_Assign_Name ?_
    (try dsimp only)
    repeat' (first | (k_unfold; (try dsimp only)) | ((fail_if_success (with_reducible show wpAny _ _ (call (Value.ref 611) _) _ _ _)); first | walk1 | (dsimp only; walk1)))
    refine told_use B F' X N' T rfl (rd _) (by omega) (by omega) ?_
    rintro r nw h3' tk3 F3 N3 ⟨t', u', rfl, hU, rfl⟩
    refine storeX_L (cl := []) F3 N3 (fun h4' F4 N4 => ?_)
    refine wpAny_execs_nil ?_
    exact ret t' u' h4' (tk3 + 1) hU F4 N4
end
theorem rt_lists {c : Nat} (h : isL c = true) : (Str.ofString " \t\r\n").cps.toList.contains c = false ∧ (Str.ofString "\\").cps.toList.contains c = false ∧ wch.cps.toList.contains c = true ∧ (Str.ofString "'\"").cps.toList.contains c = false ∧ ((S [c]).cps.toList == (Str.ofString "\n").cps.toList) = false := by
  obtain ⟨a1, a2, a3, a4, a5⟩ := letters h
  refine ⟨a1, a2, a3, a4, ?_⟩
  rw [beq_eq_false_iff_ne] at a5 ⊢
  exact fun e => a5 (by rw [S_eq (Str.ofString "\n"), ← e]; rfl)
section
variable {w : World} {p : Program} {loose : List Str} {mean : ExcName → Option Value} {mg mb : Str → Option Value} {dp un : Nat} {gd : Option (List Code)} {cn : Str} {a : Addr} {ccd : Value} {outer : List Env} {A₀ : Around} {base h₀ : Heap} {L : Addr} {s : Shared} {E : Value → Shared → Prop} {Q : Flow → Shared → Prop}
  {lx ld io iod dq1 dq2 : Addr} {bs : List Nat} {kt ut : Nat → Tok} {t1 t2 t3 u1 u2 u3 ts tt : Tok} {rest : List (Addr × Obj)} {q : Nat} {pos : Nat} {R : Option Nat × List Nat × Bool × List Nat}
noncomputable abbrev Rt1 (lx : Addr) (m : List (Str × Value × An)) : Prop := ∀ q ∈ m, q.2.2 = none ∨ (q.2.1 = .ref lx ∧ q.2.2 = some (3, 2))
theorem rt1_nil {lx : Addr} : Rt1 lx [] := fun _ h => nomatch h
theorem rt1_none {lx : Addr} {x : Str} {v : Value} {m : List (Str × Value × An)} (h : Rt1 lx m) : Rt1 lx ((x, v, none) :: m) := List.forall_mem_cons.mpr ⟨.inl rfl, h⟩
theorem rt1_self {lx : Addr} {x : Str} {m : List (Str × Value × An)} (h : Rt1 lx m) : Rt1 lx ((x, .ref lx, some (3, 2)) :: m) := List.forall_mem_cons.mpr ⟨.inr ⟨rfl, rfl⟩, h⟩
/-- the apartness that the turns ask -/
structure RtAt (lx ld io iod : Addr) (rest : List (Addr × Obj)) : Prop where
  r1 : ∀ x ∈ rest, x.1 ≠ iod
  r2 : ∀ x ∈ rest, x.1 ≠ ld
  i0 : io ≠ iod
  h1 : ld ≠ iod
  h2 : lx ≠ iod
  h3 : io ≠ ld
  h4 : lx ≠ ld
theorem ble_len {tok l : List Nat} (h : tok.length + l.length ≤ 1000000) : Nat.ble ((S tok).length + (S l).length) 1000000 = true := by
  rw [S_len, S_len]; exact Nat.ble_eq_true_of_le h
theorem ne_emp {tok : List Nat} (h : tok ≠ []) : (!(S tok).cps.toList.isEmpty) = true := by
  rw [S_cps]; cases tok with
  | nil => exact absurd rfl h
  | cons a l => rfl
theorem ne_emp' {tok : List Nat} (h : tok ≠ []) : ((S tok).cps.toList == (Str.ofString "").cps.toList) = false := by
  rw [show (Str.ofString "").cps.toList = [] from by decide +kernel, S_cps, beq_eq_false_iff_ne]; exact h
theorem rt_rest {lx ld io iod : Addr} (z : RtAt lx ld io iod rest) {D : Obj} : ∀ q ∈ (ld, D) :: (lx, instObj 800 ld) :: rest, q.1 ≠ iod := List.forall_mem_cons.mpr ⟨z.h1, List.forall_mem_cons.mpr ⟨z.h2, z.r1⟩⟩
theorem news_rd {lx ld io iod dq1 dq2 : Addr} {h : Heap} {st tk : Value} (N : News h₀ L h (denO (rtO w lx ld io iod dq1 dq2 kt ut (ioD w t1 t2 t3 u1 u2 u3 bs pos) st tk) ++ rest)) : News h₀ L h (lexN w lx ld io iod dq1 dq2 bs kt ut t1 t2 t3 u1 u2 u3 st tk pos rest) := N
theorem rt_goon {s₀ s : Shared} {n k pos : Nat} {q' : Nat} {tok : List Nat} {qd : Bool} {r : List Nat} {ts tt u3 : Tok} {m : Str → Option Value} {h : Heap} {tk : Nat} {Pq : Flow → Shared → Prop} (F : Fr h₀ L h m) (N : News h₀ L h (lexN w lx ld io iod dq1 dq2 bs kt ut t1 t2 t3 u1 u2 u3 (.str (S [q']) ts) (.str (S tok) tt) (pos + 1) rest)) (hn : n = (k :: r).length + 1) (hd : bs.drop (pos + 1) = r) (hpl : pos < bs.length) (htl : tok.length ≤ pos + 1) (hL : Lx q' tok qd r R) (h1 : m (Str.ofString "self") = some (.ref lx)) (h2 : m (Str.ofString "quoted") = some (.bool qd)) (es : s = { s₀ with heap := h, toks := tk }) :
    WhileStep2 h₀ L s₀ (LexJ w lx ld io iod dq1 dq2 bs kt ut t1 t2 t3 u1 u2 rest R) Pq n .next s :=
  ⟨h, tk, m, _, r.length + 1, es, F, N, by rw [hn]; exact Nat.lt_succ_self _, q', tok, qd, pos + 1, r, ts, tt, u3, rfl, hd, hpl, htl, hL, h1, h2, rfl⟩
theorem rt_turn {qd : Bool} {tok : List Nat} {m₁ : Str → Option Value} {Qn : Shared → Prop} {st : Value} (B : Below A₀ base outer h₀) (X : (Mine.K w.params).In h₀) (T : Top p loose mean mg mb h₀) (hdp : dp + 8 < recursionLimit) (hun : un + 90 < cLine) (F : Fr h₀ L s.heap (denM (rtR lx qd) m₁)) (N : News h₀ L s.heap (lexN w lx ld io iod dq1 dq2 bs kt ut t1 t2 t3 u1 u2 u3 st (.str (S tok) tt) pos rest)) (z : RtAt lx ld io iod rest) (U : Tok → Prop) (x : List Nat) (pos' : Nat)
    (rd : ∀ t, Told PySem.Challenge.pw_il0113_01 w (Mine.K w.params) 4 60 (.ref 611) [.ref io, .int 1 t] (lexN w lx ld io iod dq1 dq2 bs kt ut t1 t2 t3 u1 u2 u3 st (.str (S tok) tt) pos rest) (fun r nw => ∃ t' u', r = .str (S x) t' ∧ U u' ∧ nw = lexN w lx ld io iod dq1 dq2 bs kt ut t1 t2 t3 u1 u2 u' st (.str (S tok) tt) pos' rest)) (hs : List (Nat × Bool))
    (H : ∀ t' u' tk, U u' → xRun (rtC w) 60 (tlB rtT) (rtM lx (.str (S x) t') qd) (rtO w lx ld io iod dq1 dq2 kt ut (ioD w t1 t2 t3 u1 u2 u' bs pos') st (.str (S tok) tt)) tk hs (FinR h₀ L m₁ rest Q s)) :
    wpAny (model PySem.Challenge.pw_il0113_01 w) (ktrTop dp un gd cn (rtC w).cs L a ccd [] outer) (isTrue (.Constant (.bool true) 0 (cnP (whT rtW))) (eX cn (rtC w) L a ccd []) (eval (.Constant (.bool true) 0 (cnP (whT rtW))) (eX cn (rtC w) L a ccd []))) (fun b s₂ => if b = true then wpAny (model PySem.Challenge.pw_il0113_01 w) (ktrTop dp un gd cn (rtC w).cs L a ccd [] outer) (execs rtT (eX cn (rtC w) L a ccd [])) Q E s₂ else Qn s₂) E s := by
  refine isTrue_plain (Constant_bool (wpAny_truthy_bool ?_))
  rw [if_pos rfl]
  refine execs_at rtT_is (wpAny_execs_cons ?_)
  refine rt_head B X T (by omega) (by omega) F N z.r2 z.h1 z.h3 z.h4 U x pos' rd fun t' u' h' tk' hU F' N' => ?_
  exact run_ok (s := { s with heap := h', toks := tk' }) (rtC w) 60 (rtM lx (.str (S x) t') qd) (rtO w lx ld io iod dq1 dq2 kt ut (ioD w t1 t2 t3 u1 u2 u' bs pos') _ _) hs (rt_has B X T (by omega) (by omega)) (rtInv rfl z.r2 z.h1 z.h3 z.h4 (rt1_none (rt1_self (rt1_none rt1_nil)))) F' N' (H t' u' tk' hU)
theorem rt_body (B : Below A₀ base outer h₀) (X : (Mine.K w.params).In h₀) (T : Top p loose mean mg mb h₀) (hdp : dp + 8 < recursionLimit) (hun : un + 90 < cLine) (hE : PassesOwn (model PySem.Challenge.pw_il0113_01 w) (ktrTop dp un gd cn (rtC w).cs L a ccd [] outer) (eX cn (rtC w) L a ccd []) E) (F : Fr h₀ L s.heap (denM [(Str.ofString "self", .ref lx, some (3, 2))] fun _ => none)) (N : News h₀ L s.heap (lexN w lx ld io iod dq1 dq2 bs kt ut t1 t2 t3 u1 u2 u3 (.str (S [q]) ts) (.str (S []) tt) pos rest))
    (hR : Lx q [] false (bs.drop pos) R) (hpos : pos ≤ bs.length) (hb : bs.length ≤ 10000) (z : RtAt lx ld io iod rest)
    (hret : ∀ r h' tk' m' ts' tt' u3' pos' t', r = (if R.2.2.1 = false ∧ R.2.1 = [] then .none else .str (S R.2.1) t') → bs.drop pos' = R.2.2.2 → pos' ≤ bs.length → Fr h₀ L h' m' → News h₀ L h' (lexN w lx ld io iod dq1 dq2 bs kt ut t1 t2 t3 u1 u2 u3' (stV R.1 ts') (.str (S []) tt') pos' rest) → Q (.ret r) { s with heap := h', toks := tk' }) :
    wpAny (model PySem.Challenge.pw_il0113_01 w) (ktrTop dp un gd cn (rtC w).cs L a ccd [] outer) (execs rtB (eX cn (rtC w) L a ccd [])) Q E s := by
  have pr : Has PySem.Challenge.pw_il0113_01 w (Mine.K w.params) (ktrTop dp un gd cn (rtC w).cs L a ccd [] outer) E h₀ L (rtC w) p loose mg mb := rt_has B X T (by omega) (by omega)
  have inv : ∀ {m : List (Str × Value × An)} {D : Obj} {st tk : Value}, Rt1 lx m → Inv (rtC w) rest m (rtO w lx ld io iod dq1 dq2 kt ut D st tk) := fun hm => rtInv rfl z.r2 z.h1 z.h3 z.h4 hm
  refine execs_at (b' := [nthS rtB 0, nthS rtB 1] ++ rtW :: rtE) rtB_is (execs_app ?_)
  refine run_ok (rtC w) 60 _ (rtO w lx ld io iod dq1 dq2 kt ut (ioD w t1 t2 t3 u1 u2 u3 bs pos) _ _) [] pr (inv (rt1_self rt1_nil)) F N (Eq.mpr eq_in fun h5 F5 N5 => ?_)
  refine wpAny_execs_cons (exec_at rtW_is ?_)
  refine While_to (fun h₀ L s => LexQ w h₀ L s lx ld io iod dq1 dq2 bs kt ut t1 t2 t3 u1 u2 rest R) (LexJ w lx ld io iod dq1 dq2 bs kt ut t1 t2 t3 u1 u2 rest R) F5 (news_rd N5) ⟨q, [], false, pos, _, ts, tt, u3, rfl, rfl, hpos, Nat.zero_le _, hR, by rfl, by rfl, rfl⟩ ?turn ?post hE
  case turn =>
    rintro n m₁ news₁ h₁ tk₁ F₁ N₁ ⟨q, tok, qd, pos, l, ts, tt, u3, hn, hl, hpos, htl, hLx, hm1, hm2, rfl⟩
    rw [m3 m₁ (Str.ofString "self") (Str.ofString "quoted") _ _ hm1 hm2] at F₁
    have rdC : ∀ c r, l = c :: r → ∀ t, Told PySem.Challenge.pw_il0113_01 w (Mine.K w.params) 4 60 (.ref 611) [.ref io, .int 1 t] (lexN w lx ld io iod dq1 dq2 bs kt ut t1 t2 t3 u1 u2 u3 (.str (S [q]) ts) (.str (S tok) tt) pos rest) (fun r nw => ∃ t' u', r = .str (S [c]) t' ∧ True ∧ nw = lexN w lx ld io iod dq1 dq2 bs kt ut t1 t2 t3 u1 u2 u' (.str (S [q]) ts) (.str (S tok) tt) (pos + 1) rest) := fun c r e t => fun p loose mean mg mb dp un gd cn cs a ccd cl outer A₀ base h₀ L m s Q E B F X N T hk hd hu ret => read_c w io iod bs pos c t t1 t2 t3 u1 u2 u3 _ (rt_rest z) z.i0 (drop_cons (hl.trans e)).1 hb p loose mean mg mb dp un gd cn cs a ccd cl outer A₀ base h₀ L m s Q E B F X N T hk hd hu fun r nw h' tk' F' N' ⟨t', u', e1, e2⟩ => ret r nw h' tk' F' N' ⟨t', u', e1, trivial, e2⟩
    have rdE : l = [] → ∀ t, Told PySem.Challenge.pw_il0113_01 w (Mine.K w.params) 4 60 (.ref 611) [.ref io, .int 1 t] (lexN w lx ld io iod dq1 dq2 bs kt ut t1 t2 t3 u1 u2 u3 (.str (S [q]) ts) (.str (S tok) tt) pos rest) (fun r nw => ∃ t' u', r = .str (S []) t' ∧ True ∧ nw = lexN w lx ld io iod dq1 dq2 bs kt ut t1 t2 t3 u1 u2 u' (.str (S [q]) ts) (.str (S tok) tt) pos rest) := fun e t => fun p loose mean mg mb dp un gd cn cs a ccd cl outer A₀ base h₀ L m s Q E B F X N T hk hd hu ret => read_e w io iod bs pos t t1 t2 t3 u1 u2 u3 _ (rt_rest z) z.i0 (drop_nil (hl.trans e)) (Nat.le_trans hpos hb) p loose mean mg mb dp un gd cn cs a ccd cl outer A₀ base h₀ L m s Q E B F X N T hk hd hu fun r nw h' tk' F' N' ⟨t', e1, e2⟩ => ret r nw h' tk' F' N' ⟨t', u3, e1, trivial, e2⟩
    have dr : ∀ c r, l = c :: r → bs.drop (pos + 1) = r ∧ pos < bs.length := fun c r e => (drop_cons (hl.trans e)).2
    have two : tok.length + 1 ≤ 1000000 := Nat.le_trans (Nat.succ_le_succ (Nat.le_trans htl (Nat.le_trans hpos hb))) (by decide)
    have one : 1 ≤ pos + 1 := Nat.succ_le_succ (Nat.zero_le _)
    have up : tok.length ≤ pos + 1 := Nat.le_succ_of_le htl
    have up1 : ∀ c, (tok ++ [c]).length ≤ pos + 1 := fun c => by rw [List.length_append]; exact Nat.succ_le_succ htl
    cases hLx with
    | eof0 =>
      exact rt_turn B X T hdp hun F₁ N₁ z (fun _ => True) [] pos (rdE rfl) [] fun t' u' tk _ => go_eof0 fun h' F' N' => ⟨rfl, h', _, _, pos, ts, tt, u', rfl, F', news_rd N', hl, hpos, by rfl, by rfl⟩
    | eof1 =>
      exact rt_turn B X T hdp hun F₁ N₁ z (fun _ => True) [] pos (rdE rfl) [] fun t' u' tk _ => go_eof1 fun h' F' N' => ⟨rfl, h', _, _, pos, ts, tt, u', rfl, F', news_rd N', hl, hpos, by rfl, by rfl⟩
    | @startW _ _ c r _ hL hL' =>
      obtain ⟨a1, a2, a3, a4, a5⟩ := rt_lists hL
      exact rt_turn B X T hdp hun F₁ N₁ z (fun _ => True) [c] (pos + 1) (rdC _ _ rfl) [(0, false), (4, false), (1, false), (0, true)] fun t' u' tk _ => go_startW a5 a1 a2 a3 fun h' F' N' => rt_goon F' (news_rd N') hn (dr _ _ rfl).1 (dr _ _ rfl).2 one hL' (by rfl) (by rfl) rfl
    | @startQ _ _ r _ hL' =>
      exact rt_turn B X T hdp hun F₁ N₁ z (fun _ => True) [39] (pos + 1) (rdC _ _ rfl) [] fun t' u' tk _ => go_startQ fun n1 => fun h' F' N' => rt_goon F' (news_rd N') hn (dr _ _ rfl).1 (dr _ _ rfl).2 up hL' (by rfl) (by rfl) rfl
    | @word _ _ c r _ hL hL' =>
      obtain ⟨a1, a2, a3, a4, a5⟩ := rt_lists hL
      exact rt_turn B X T hdp hun F₁ N₁ z (fun _ => True) [c] (pos + 1) (rdC _ _ rfl) [(0, false), (7, false), (2, false), (0, false), (0, true), (0, true)] fun t' u' tk _ => go_word a5 a1 a4 a2 a3 (ble_len two) fun t1 n1 => fun h' F' N' => rt_goon F' (S_app tok [c] ▸ news_rd N') hn (dr _ _ rfl).1 (dr _ _ rfl).2 (up1 c) hL' (by rfl) (by rfl) rfl
    | @wordQ _ _ r _ hL' =>
      exact rt_turn B X T hdp hun F₁ N₁ z (fun _ => True) [39] (pos + 1) (rdC _ _ rfl) [] fun t' u' tk _ => go_wordQ fun h' F' N' => rt_goon F' (news_rd N') hn (dr _ _ rfl).1 (dr _ _ rfl).2 up hL' (by rfl) (by rfl) rfl
    | @wordD _ _ r _ hL' =>
      exact rt_turn B X T hdp hun F₁ N₁ z (fun _ => True) [34] (pos + 1) (rdC _ _ rfl) [] fun t' u' tk _ => go_wordD fun h' F' N' => rt_goon F' (news_rd N') hn (dr _ _ rfl).1 (dr _ _ rfl).2 up hL' (by rfl) (by rfl) rfl
    | @wordEnd _ _ r hne =>
      exact rt_turn B X T hdp hun F₁ N₁ z (fun _ => True) [32] (pos + 1) (rdC _ _ rfl) [(10, true), (0, true)] fun t' u' tk _ => go_wordEnd (by rw [S_len]; exact Nat.ble_eq_true_of_le (Nat.le_of_succ_le two)) (ne_emp hne) fun h' F' N' => ⟨rfl, h', _, _, pos + 1, _, tt, u', rfl, F', news_rd N', (dr _ _ rfl).1, (dr _ _ rfl).2, by rfl, by rfl⟩
    | @sqEnd _ _ r _ hL' =>
      exact rt_turn B X T hdp hun F₁ N₁ z (fun _ => True) [39] (pos + 1) (rdC _ _ rfl) [] fun t' u' tk _ => go_sqEnd fun h' F' N' => rt_goon F' (news_rd N') hn (dr _ _ rfl).1 (dr _ _ rfl).2 up hL' (by rfl) (by rfl) rfl
    | @sqCh _ _ c r _ hc1 hc2 hL' =>
      have b1 : ((S [c]).cps.toList == (S [39]).cps.toList) = false := by rw [beq_eq_false_iff_ne]; intro e; injection e with e _; exact hc1 e
      have b2 : ((S [c]).cps.toList == (Str.ofString "\n").cps.toList) = false := by rw [show (Str.ofString "\n").cps.toList = [10] from by decide +kernel, beq_eq_false_iff_ne]; intro e; injection e with e _; exact hc2 e
      cases b3 : (Str.ofString "\\").cps.toList.contains c with
      | true => exact rt_turn B X T hdp hun F₁ N₁ z (fun _ => True) [c] (pos + 1) (rdC _ _ rfl) [(0, false), (5, false), (0, true), (1, true)] fun t' u' tk _ => go_sqCh1 b2 b1 b3 (ble_len two) fun t1 n1 => fun h' F' N' => rt_goon F' (S_app tok [c] ▸ news_rd N') hn (dr _ _ rfl).1 (dr _ _ rfl).2 (up1 c) hL' (by rfl) (by rfl) rfl
      | false => exact rt_turn B X T hdp hun F₁ N₁ z (fun _ => True) [c] (pos + 1) (rdC _ _ rfl) [(0, false), (5, false), (0, false), (0, true)] fun t' u' tk _ => go_sqCh0 b2 b1 b3 (ble_len two) fun t1 n1 => fun h' F' N' => rt_goon F' (S_app tok [c] ▸ news_rd N') hn (dr _ _ rfl).1 (dr _ _ rfl).2 (up1 c) hL' (by rfl) (by rfl) rfl
    | @dqEnd _ _ r _ hL' =>
      exact rt_turn B X T hdp hun F₁ N₁ z (fun _ => True) [34] (pos + 1) (rdC _ _ rfl) [] fun t' u' tk _ => go_dqEnd fun h' F' N' => rt_goon F' (news_rd N') hn (dr _ _ rfl).1 (dr _ _ rfl).2 up hL' (by rfl) (by rfl) rfl
    | @dqQ _ _ r _ hL' =>
      exact rt_turn B X T hdp hun F₁ N₁ z (fun _ => True) [39] (pos + 1) (rdC _ _ rfl) [(8, true)] fun t' u' tk _ => go_dqQ (ble_len two) fun t1 n1 => fun h' F' N' => rt_goon F' (S_app tok [39] ▸ news_rd N') hn (dr _ _ rfl).1 (dr _ _ rfl).2 (up1 39) hL' (by rfl) (by rfl) rfl
  case post =>
    rintro f s' ⟨rfl, h', tk', m', pos', ts', tt', u3', rfl, F', N', hd, hle, hm1, hm2⟩
    obtain ⟨st', tok', qd', rest'⟩ := R
    dsimp only at N' hd hm2 hret ⊢
    rw [m3 m' (Str.ofString "self") (Str.ofString "quoted") _ _ hm1 hm2] at F'
    have go : ∀ (hs : List (Nat × Bool)) (H : xRun (rtC w) 60 rtE (rtR lx qd') (rtO w lx ld io iod dq1 dq2 kt ut (ioD w t1 t2 t3 u1 u2 u3' bs pos') (stV st' ts') (.str (S tok') tt')) tk' hs (FinR h₀ L m' rest Q { s with heap := h', toks := tk' })), wpAny (model PySem.Challenge.pw_il0113_01 w) (ktrTop dp un gd cn (rtC w).cs L a ccd [] outer) (execs rtE (eX cn (rtC w) L a ccd [])) Q E { s with heap := h', toks := tk' } := fun hs H => run_ok (s := { s with heap := h', toks := tk' }) (rtC w) 60 (rtR lx qd') (rtO w lx ld io iod dq1 dq2 kt ut (ioD w t1 t2 t3 u1 u2 u3' bs pos') _ _) hs pr (inv (rt1_self (rt1_none rt1_nil))) F' N' H
    have hcase : qd' = true ∨ (qd' = false ∧ tok' = []) ∨ (qd' = false ∧ tok' ≠ []) := by
      cases qd' with
      | true => exact .inl rfl
      | false => by_cases e : tok' = [] <;> simp [e]
    rcases hcase with rfl | ⟨rfl, rfl⟩ | ⟨rfl, hne⟩
    · exact go [] (Eq.mpr eq_out1 fun h2 F2 N2 => hret _ h2 _ _ ts' _ u3' pos' tt' (by rw [if_neg (fun e => nomatch e.1)]) hd hle F2 (news_rd N2))
    · exact go [] (Eq.mpr eq_out2 fun h2 F2 N2 => hret _ h2 _ _ ts' _ u3' pos' 0 (by rw [if_pos ⟨rfl, rfl⟩]) hd hle F2 (news_rd N2))
    · exact go [(0, false)] (Eq.mpr eq_out3 ⟨ne_emp' hne, fun h2 F2 N2 => hret _ h2 _ _ ts' _ u3' pos' tt' (by rw [if_neg (fun e => hne e.2)]) hd hle F2 (news_rd N2)⟩)
end
section
variable {w : World} {p : Program} {loose : List Str} {mean : ExcName → Option Value} {mg mb : Str → Option Value} {dp un : Nat} {gd : Option (List Code)} {cn : Str} {a : Addr} {ccd : Value} {outer : List Env} {A₀ : Around} {base h₀ : Heap} {L : Addr} {s : Shared} {E : Value → Shared → Prop} {Q : Flow → Shared → Prop}
  {lx ld io iod dq1 dq2 : Addr} {bs : List Nat} {kt ut : Nat → Tok} {t1 t2 t3 u1 u2 u3 tt : Tok} {rest : List (Addr × Obj)} {pos : Nat}
theorem rt_none_body (B : Below A₀ base outer h₀) (X : (Mine.K w.params).In h₀) (T : Top p loose mean mg mb h₀) (hdp : dp + 8 < recursionLimit) (hun : un + 90 < cLine) (hE : PassesOwn (model PySem.Challenge.pw_il0113_01 w) (ktrTop dp un gd cn (rtC w).cs L a ccd [] outer) (eX cn (rtC w) L a ccd []) E) (F : Fr h₀ L s.heap (denM [(Str.ofString "self", .ref lx, some (3, 2))] fun _ => none)) (N : News h₀ L s.heap (lexN w lx ld io iod dq1 dq2 bs kt ut t1 t2 t3 u1 u2 u3 .none (.str (S []) tt) pos rest))
    (hc : bs.length ≤ pos) (hp : pos ≤ 10000) (z : RtAt lx ld io iod rest)
    (hret : ∀ h' tk' m' tt', Fr h₀ L h' m' → News h₀ L h' (lexN w lx ld io iod dq1 dq2 bs kt ut t1 t2 t3 u1 u2 u3 .none (.str (S []) tt') pos rest) → Q (.ret .none) { s with heap := h', toks := tk' }) :
    wpAny (model PySem.Challenge.pw_il0113_01 w) (ktrTop dp un gd cn (rtC w).cs L a ccd [] outer) (execs rtB (eX cn (rtC w) L a ccd [])) Q E s := by
  have pr : Has PySem.Challenge.pw_il0113_01 w (Mine.K w.params) (ktrTop dp un gd cn (rtC w).cs L a ccd [] outer) E h₀ L (rtC w) p loose mg mb := rt_has B X T (by omega) (by omega)
  have inv : ∀ {m : List (Str × Value × An)} {D : Obj} {st tk : Value}, Rt1 lx m → Inv (rtC w) rest m (rtO w lx ld io iod dq1 dq2 kt ut D st tk) := fun hm => rtInv rfl z.r2 z.h1 z.h3 z.h4 hm
  refine execs_at (b' := [nthS rtB 0, nthS rtB 1] ++ rtW :: rtE) rtB_is (execs_app ?_)
  refine run_ok (rtC w) 60 _ (rtO w lx ld io iod dq1 dq2 kt ut (ioD w t1 t2 t3 u1 u2 u3 bs pos) _ _) [] pr (inv (rt1_self rt1_nil)) F N (Eq.mpr eq_in fun h5 F5 N5 => ?_)
  refine wpAny_execs_cons (exec_at rtW_is ?_)
  refine While_to (n₀ := 0) (fun h₀ L s f s' => f = .next ∧ ∃ h tk m tt', s' = { s with heap := h, toks := tk } ∧ Fr h₀ L h m ∧ News h₀ L h (lexN w lx ld io iod dq1 dq2 bs kt ut t1 t2 t3 u1 u2 u3 .none (.str (S []) tt') pos rest) ∧ m (Str.ofString "self") = some (.ref lx) ∧ m (Str.ofString "quoted") = some (.bool false))
    (fun _ m news => ∃ tt, news = lexN w lx ld io iod dq1 dq2 bs kt ut t1 t2 t3 u1 u2 u3 .none (.str (S []) tt) pos rest ∧ m (Str.ofString "self") = some (.ref lx) ∧ m (Str.ofString "quoted") = some (.bool false)) F5 (news_rd N5) ⟨tt, rfl, by rfl, by rfl⟩ ?turn ?post hE
  case turn =>
    rintro n m₁ news₁ h₁ tk₁ F₁ N₁ ⟨tt, rfl, hm1, hm2⟩
    rw [m3 m₁ (Str.ofString "self") (Str.ofString "quoted") _ _ hm1 hm2] at F₁
    exact rt_turn B X T hdp hun F₁ N₁ z (fun u => u = u3) [] pos (fun t => fun p loose mean mg mb dp un gd cn cs a ccd cl outer A₀ base h₀ L m s Q E B F X N T hk hd hu ret => read_e w io iod bs pos t t1 t2 t3 u1 u2 u3 _ (rt_rest z) z.i0 hc hp p loose mean mg mb dp un gd cn cs a ccd cl outer A₀ base h₀ L m s Q E B F X N T hk hd hu fun r nw h' tk' F' N' ⟨t', e1, e2⟩ => ret r nw h' tk' F' N' ⟨t', u3, e1, rfl, e2⟩) [] fun t' u' tk hu => hu ▸ Eq.mpr eq_none fun h' F' N' => ⟨rfl, h', _, _, tk + 4, rfl, F', news_rd N', by rfl, by rfl⟩
  case post =>
    rintro f s' ⟨rfl, h', tk', m', tt', rfl, F', N', hm1, hm2⟩
    rw [m3 m' (Str.ofString "self") (Str.ofString "quoted") _ _ hm1 hm2] at F'
    exact run_ok (s := { s with heap := h', toks := tk' }) (rtC w) 60 (rtR lx false) (rtO w lx ld io iod dq1 dq2 kt ut (ioD w t1 t2 t3 u1 u2 u3 bs pos) _ _) [] pr (inv (rt1_self (rt1_none rt1_nil))) F' N' (Eq.mpr eq_out2 fun h2 F2 N2 => hret h2 _ _ _ F2 (news_rd N2))
end
theorem rt_c (w : World) (lx ld io iod dq1 dq2 : Addr) (bs : List Nat) (kt ut : Nat → Tok) (t1 t2 t3 u1 u2 u3 ts tt : Tok) (rest : List (Addr × Obj)) (q : Nat) (qd : Bool) (pos : Nat) (R : Option Nat × List Nat × Bool × List Nat) (hR : Lx q [] false (bs.drop pos) R) (hpos : pos ≤ bs.length) (hb : bs.length ≤ 10000)
    (hr1 : ∀ x ∈ rest, x.1 ≠ iod) (hr2 : ∀ x ∈ rest, x.1 ≠ ld) (hio : io ≠ iod) (h1 : ld ≠ iod) (h2 : lx ≠ iod) (h3 : io ≠ ld) (h4 : lx ≠ ld) :
    Told PySem.Challenge.pw_il0113_01 w (Mine.K w.params) 10 100 (.ref 768) [.ref lx] (lexN w lx ld io iod dq1 dq2 bs kt ut t1 t2 t3 u1 u2 u3 (.str (S [q]) ts) (.str (S []) tt) pos rest)
      (fun r nw => ∃ ts' tt' u3' pos' t', r = (if R.2.2.1 = false ∧ R.2.1 = [] then .none else .str (S R.2.1) t') ∧ bs.drop pos' = R.2.2.2 ∧ pos' ≤ bs.length ∧ nw = lexN w lx ld io iod dq1 dq2 bs kt ut t1 t2 t3 u1 u2 u3' (stV R.1 ts') (.str (S []) tt') pos' rest) := by
  intro p loose mean mg mb dp un gd cn cs a ccd cl outer A₀ base h₀ L m s Q E B F X N T hk hdp hun hret
  refine wpAny_call ?_
  k_dflt (refine' code_def ?k1 ?k2 ?k3 ?k4 ?k5 ?kA ?kF ?kK ?k6 ?k7 ?k8 ?k9 ?kB ?_ ?c2 ?c3 ?c4 ?c5; (case kA => exact rfl); (case kF => exact rfl); (case kK => assumption); (case k1 => k_asm); (case k2 => k_asm); (case k3 => k_asm); (case k4 => k_asm); (case k5 => k_asm); (case k6 => k_is); (case k7 => k_is); (case k8 => ktr_room); (case k9 => first | exact BindsTo.of_eq rfl | exact binds_K (by k_in) rfl (by k_is) rfl rfl rfl); (case c5 => decide); (case kB => exact locs rfl); (case c2 => exact rfl); (case c3 => exact rfl); (case c4 => exact rfl); k_whole; intro g' L' h' FG' F' N' B' X' T')
  have F0 := fr_look (l := [(Str.ofString "self", .ref lx, some (3, 2))]) rfl F'
  refine rt_body (dp := dp + 1) (un := un + 3) B' X' T' (by omega) (by omega) (by passes_own) F0 N' hR hpos hb ⟨hr1, hr2, hio, h1, h2, h3, h4⟩ ?_
  intro r h2' tk2 m2 ts' tt' u3' pos' t' e1 e2 e3 F2 N2
  exact leaveK_ F2 N2 fun F3 N3 => hret _ _ _ _ F3 N3 ⟨ts', tt', u3', pos', t', e1, e2, e3, rfl⟩
end
section
noncomputable abbrev dqs (dq1 dq2 : Addr) (rest : List (Addr × Obj)) : List (Addr × Obj) := (dq1, dqO) :: (dq2, dqO) :: rest
/-- the addresses of the lexer's own are apart -/
structure LexAt (lx ld io iod dq1 dq2 : Addr) (rest : List (Addr × Obj)) : Prop where
  r1 : ∀ x ∈ rest, x.1 ≠ iod
  r2 : ∀ x ∈ rest, x.1 ≠ ld
  i0 : io ≠ iod
  h1 : ld ≠ iod
  h2 : lx ≠ iod
  h3 : io ≠ ld
  h4 : lx ≠ ld
  d1 : dq1 ≠ iod
  d2 : dq2 ≠ iod
  d3 : dq1 ≠ ld
  d4 : dq2 ≠ ld
theorem LexAt.q1 {lx ld io iod dq1 dq2 : Addr} {rest : List (Addr × Obj)} (x : LexAt lx ld io iod dq1 dq2 rest) : ∀ y ∈ dqs dq1 dq2 rest, y.1 ≠ iod := by
  intro y hy
  rcases List.mem_cons.mp hy with rfl | hy
  · exact x.d1
  · rcases List.mem_cons.mp hy with rfl | hy
    · exact x.d2
    · exact x.r1 _ hy
theorem LexAt.q2 {lx ld io iod dq1 dq2 : Addr} {rest : List (Addr × Obj)} (x : LexAt lx ld io iod dq1 dq2 rest) : ∀ y ∈ dqs dq1 dq2 rest, y.1 ≠ ld := by
  intro y hy
  rcases List.mem_cons.mp hy with rfl | hy
  · exact x.d3
  · rcases List.mem_cons.mp hy with rfl | hy
    · exact x.d4
    · exact x.r2 _ hy
/-- a token is read -/
theorem rt_tok (w : World) (lx ld io iod dq1 dq2 : Addr) (bs : List Nat) (kt ut : Nat → Tok) (t1 t2 t3 u1 u2 u3 ts tt : Tok) (rest : List (Addr × Obj)) (q : Nat) (pos : Nat) (st' : Option Nat) (tok : List Nat) (qd : Bool) (r' : List Nat) (hR : Lx q [] false (bs.drop pos) (st', tok, qd, r')) (ht : tok ≠ []) (hpos : pos ≤ bs.length) (hb : bs.length ≤ 10000) (hA : LexAt lx ld io iod dq1 dq2 rest) :
    Told PySem.Challenge.pw_il0113_01 w (Mine.K w.params) 10 100 (.ref 768) [.ref lx] (lexN w lx ld io iod dq1 dq2 bs kt ut t1 t2 t3 u1 u2 u3 (.str (S [q]) ts) (.str (S []) tt) pos (dqs dq1 dq2 rest))
      (fun r nw => ∃ ts' tt' u3' pos' t', r = .str (S tok) t' ∧ bs.drop pos' = r' ∧ pos' ≤ bs.length ∧ nw = lexN w lx ld io iod dq1 dq2 bs kt ut t1 t2 t3 u1 u2 u3' (stV st' ts') (.str (S []) tt') pos' (dqs dq1 dq2 rest)) := by
  intro p loose mean mg mb dp un gd cn cs a ccd cl outer A₀ base h₀ L m s Q E B F X N T hk hd hu hret
  refine rt_c w lx ld io iod dq1 dq2 bs kt ut t1 t2 t3 u1 u2 u3 ts tt (dqs dq1 dq2 rest) q false pos _ hR hpos hb hA.q1 hA.q2 hA.i0 hA.h1 hA.h2 hA.h3 hA.h4 p loose mean mg mb dp un gd cn cs a ccd cl outer A₀ base h₀ L m s Q E B F X N T hk hd hu ?_
  rintro r nw h' tk' F' N' ⟨ts', tt', u3', pos', t', e, e2, e3, e4⟩
  exact hret r nw h' tk' F' N' ⟨ts', tt', u3', pos', t', by rw [e, if_neg (fun e => ht e.2)], e2, e3, e4⟩
/-- nothing is left, and the state tells so -/
theorem rt_none (w : World) (lx ld io iod dq1 dq2 : Addr) (bs : List Nat) (kt ut : Nat → Tok) (t1 t2 t3 u1 u2 u3 tt : Tok) (rest : List (Addr × Obj)) (pos : Nat) (hpos : pos ≤ bs.length) (hc : bs.length ≤ pos) (hb : bs.length ≤ 10000) (hA : LexAt lx ld io iod dq1 dq2 rest) :
    Told PySem.Challenge.pw_il0113_01 w (Mine.K w.params) 10 100 (.ref 768) [.ref lx] (lexN w lx ld io iod dq1 dq2 bs kt ut t1 t2 t3 u1 u2 u3 .none (.str (S []) tt) pos (dqs dq1 dq2 rest))
      (fun r nw => r = .none ∧ ∃ tt', nw = lexN w lx ld io iod dq1 dq2 bs kt ut t1 t2 t3 u1 u2 u3 .none (.str (S []) tt') pos (dqs dq1 dq2 rest)) := by
  intro p loose mean mg mb dp un gd cn cs a ccd cl outer A₀ base h₀ L m s Q E B F X N T hk hdp hun hret
  refine wpAny_call ?_
  k_dflt (refine' code_def ?k1 ?k2 ?k3 ?k4 ?k5 ?kA ?kF ?kK ?k6 ?k7 ?k8 ?k9 ?kB ?_ ?c2 ?c3 ?c4 ?c5; (case kA => exact rfl); (case kF => exact rfl); (case kK => assumption); (case k1 => k_asm); (case k2 => k_asm); (case k3 => k_asm); (case k4 => k_asm); (case k5 => k_asm); (case k6 => k_is); (case k7 => k_is); (case k8 => ktr_room); (case k9 => first | exact BindsTo.of_eq rfl | exact binds_K (by k_in) rfl (by k_is) rfl rfl rfl); (case c5 => decide); (case kB => exact locs rfl); (case c2 => exact rfl); (case c3 => exact rfl); (case c4 => exact rfl); k_whole; intro g' L' h' FG' F' N' B' X' T')
  have F0 := fr_look (l := [(Str.ofString "self", .ref lx, some (3, 2))]) rfl F'
  refine rt_none_body (dp := dp + 1) (un := un + 3) B' X' T' (by omega) (by omega) (by passes_own) F0 N' hc (Nat.le_trans hpos hb) ⟨hA.q1, hA.q2, hA.i0, hA.h1, hA.h2, hA.h3, hA.h4⟩ ?_
  intro h2' tk2 m2 tt' F2 N2
  exact leaveK_ F2 N2 fun F3 N3 => hret _ _ _ _ F3 N3 ⟨rfl, tt', rfl⟩
local macro_rules | `(tactic| walk_at "truthy ref") => `(tactic| (k_here; (refine truthy_deque (News.get (by k_asm) (by k_mem)) ?_); (try dsimp only)))
local macro_rules | `(tactic| walk_at "call ref") => `(tactic| (k_here; (with_reducible show wpAny _ _ (call (Value.ref 768) _) _ _ _); k_dflt (refine' told_use ?k1 ?k2 ?k3 ?k4 ?k5 ?kK ?kC ?kd ?ku ?_; (case k1 => k_asm); (case k2 => k_asm); (case k3 => k_asm); (case k4 => k_asm); (case k5 => k_asm); (case kK => first | exact rfl | assumption); (case kC => first | exact rt_tok _ _ _ _ _ _ _ _ _ _ _ _ _ _ _ _ _ _ _ _ _ _ _ _ _ (by assumption) (by assumption) (by assumption) (by assumption) (by assumption) | exact rt_none _ _ _ _ _ _ _ _ _ _ _ _ _ _ _ _ _ _ _ (by assumption) (by assumption) (by assumption) (by assumption)); (case kd => ktr_room); (case ku => ktr_units)); intro r9 nw9 h9 tk9 F9 N9 P9; (first | (obtain ⟨ts9, tt9, u9, p9, t9, e9, hd9, hl9, e9'⟩ := P9; subst e9; subst e9') | (obtain ⟨e9, tt9, e9'⟩ := P9; subst e9; subst e9')); unfold lexN dqs at N9; (try dsimp only); (try k_sweep)))
theorem gt_tok (w : World) (lx ld io iod dq1 dq2 : Addr) (bs : List Nat) (kt ut : Nat → Tok) (t1 t2 t3 u1 u2 u3 ts tt : Tok) (rest : List (Addr × Obj)) (q : Nat) (pos : Nat) (st' : Option Nat) (tok : List Nat) (qd : Bool) (r' : List Nat) (hR : Lx q [] false (bs.drop pos) (st', tok, qd, r')) (ht : tok ≠ []) (hpos : pos ≤ bs.length) (hb : bs.length ≤ 10000) (hA : LexAt lx ld io iod dq1 dq2 rest) :
    Told PySem.Challenge.pw_il0113_01 w (Mine.K w.params) 15 140 (.ref 761) [.ref lx] (lexN w lx ld io iod dq1 dq2 bs kt ut t1 t2 t3 u1 u2 u3 (.str (S [q]) ts) (.str (S []) tt) pos (dqs dq1 dq2 rest))
      (fun r nw => ∃ ts' tt' u3' pos' t', r = .str (S tok) t' ∧ bs.drop pos' = r' ∧ pos' ≤ bs.length ∧ nw = lexN w lx ld io iod dq1 dq2 bs kt ut t1 t2 t3 u1 u2 u3' (stV st' ts') (.str (S []) tt') pos' (dqs dq1 dq2 rest)) := by
  intro p loose mean mg mb dp un gd cn cs a ccd cl outer A₀ base h₀ L m s Q E B F X N T hk hdp hun hret
  refine wpAny_call ?_
  unfold lexN dqs at N
  k_dflt (refine' code_def ?k1 ?k2 ?k3 ?k4 ?k5 ?kA ?kF ?kK ?k6 ?k7 ?k8 ?k9 ?kB ?_ ?c2 ?c3 ?c4 ?c5; (case kA => exact rfl); (case kF => exact rfl); (case kK => assumption); (case k1 => k_asm); (case k2 => k_asm); (case k3 => k_asm); (case k4 => k_asm); (case k5 => k_asm); (case k6 => k_is); (case k7 => k_is); (case k8 => ktr_room); (case k9 => first | exact BindsTo.of_eq rfl | exact binds_K (by k_in) rfl (by k_is) rfl rfl rfl); (case c5 => decide); (case kB => exact locs rfl); (case c2 => exact rfl); (case c3 => exact rfl); (case c4 => exact rfl); k_whole; intro g' L' h' FG' F' N' B' X' T'; (try ((refine execs_at (b' := ?kbody) ?kbe ?_); (case kbe => (conv => lhs; whnf)))); (try dsimp only); (try k_fold))
  repeat' (first | (k_unfold; (try dsimp only)) | ((with_reducible show wpAny _ _ (exec (Stmt.While _ _ _ _) _) _ _ _); k_dflt (refine whl_start 3 ?_)) | ((fail_if_success (with_reducible show Q _ _)); first | walk1 | (dsimp only; walk1)))
  (with_reducible rename Fr _ _ _ _ => kF)
  (with_reducible rename News _ _ _ _ => kN)
  exact hret _ _ _ _ kF kN ⟨_, _, _, _, _, rfl, (by assumption), (by assumption), rfl⟩
theorem gt_none (w : World) (lx ld io iod dq1 dq2 : Addr) (bs : List Nat) (kt ut : Nat → Tok) (t1 t2 t3 u1 u2 u3 tt : Tok) (rest : List (Addr × Obj)) (pos : Nat) (hpos : pos ≤ bs.length) (hc : bs.length ≤ pos) (hb : bs.length ≤ 10000) (hA : LexAt lx ld io iod dq1 dq2 rest) :
    Told PySem.Challenge.pw_il0113_01 w (Mine.K w.params) 15 140 (.ref 761) [.ref lx] (lexN w lx ld io iod dq1 dq2 bs kt ut t1 t2 t3 u1 u2 u3 .none (.str (S []) tt) pos (dqs dq1 dq2 rest))
      (fun r nw => r = .none ∧ ∃ tt', nw = lexN w lx ld io iod dq1 dq2 bs kt ut t1 t2 t3 u1 u2 u3 .none (.str (S []) tt') pos (dqs dq1 dq2 rest)) := by
  intro p loose mean mg mb dp un gd cn cs a ccd cl outer A₀ base h₀ L m s Q E B F X N T hk hdp hun hret
  refine wpAny_call ?_
  unfold lexN dqs at N
  k_dflt (refine' code_def ?k1 ?k2 ?k3 ?k4 ?k5 ?kA ?kF ?kK ?k6 ?k7 ?k8 ?k9 ?kB ?_ ?c2 ?c3 ?c4 ?c5; (case kA => exact rfl); (case kF => exact rfl); (case kK => assumption); (case k1 => k_asm); (case k2 => k_asm); (case k3 => k_asm); (case k4 => k_asm); (case k5 => k_asm); (case k6 => k_is); (case k7 => k_is); (case k8 => ktr_room); (case k9 => first | exact BindsTo.of_eq rfl | exact binds_K (by k_in) rfl (by k_is) rfl rfl rfl); (case c5 => decide); (case kB => exact locs rfl); (case c2 => exact rfl); (case c3 => exact rfl); (case c4 => exact rfl); k_whole; intro g' L' h' FG' F' N' B' X' T'; (try ((refine execs_at (b' := ?kbody) ?kbe ?_); (case kbe => (conv => lhs; whnf)))); (try dsimp only); (try k_fold))
  repeat' (first | (k_unfold; (try dsimp only)) | ((with_reducible show wpAny _ _ (exec (Stmt.While _ _ _ _) _) _ _ _); k_dflt (refine whl_start 3 ?_)) | ((fail_if_success (with_reducible show Q _ _)); first | walk1 | (dsimp only; walk1)))
  (with_reducible rename Fr _ _ _ _ => kF)
  (with_reducible rename News _ _ _ _ => kN)
  exact hret _ _ _ _ kF kN ⟨rfl, _, rfl⟩
end
section
section
open PySem.Spec
variable {M : Model} {A A₀ : Around} {E : Value → Shared → Prop} {s : Shared} {base g G : Heap} {outer : List Env} {L a e t : Addr} {m : Str → Option Value} {name : Str} {scope : Scope} {cd : Value} {vs : List Value} {news : List (Addr × Obj)} {KF : Frag} {p : Program} {loose : List Str} {mean : ExcName → Option Value} {mg mb : Str → Option Value} {X : String}
theorem owit_stopS {Q : Option Value → Shared → Prop} (R : RaisedS base G (envOf name scope L a cd :: outer) e (.type X) t vs news s.heap) (F : Fr g L G m) (K : Below A₀ base outer g) (hsm : G.UpToSlots s.heap) (XB : KF.In base) (TB : Top p loose mean mg mb base)
    (D : KtsDicts (outer.filterMap (·.frame)) g) (hsub : isSubtype (.type X) (.type "StopIteration") = pure true)
    (k : ∀ g', KtsTurn (outer.filterMap (·.frame)) g g' → Fr g' L s.heap m → News g' L s.heap news → Below A₀ base outer g' → KF.In g' → Top p loose mean mg mb g' → KtsDicts (outer.filterMap (·.frame)) g' → Q none s) : OwitStop M A Q E (.ref e) s := by
  obtain ⟨⟨B, hB, hBG, hl, hfl, hnew⟩, htup⟩ := R
  have hL : B.get? L = none := by
    obtain ⟨_, ⟨L', _, hf, hn', _⟩, _⟩ := hfl.2.2.1
    obtain rfl : L = L' := Option.some.inj hf
    exact hn'
  have hf' := flyingW_base hB hfl
  obtain ⟨ob, hob, hobc⟩ := hf'.there
  have hT : s.TypeIs (.ref e) X := (show ∃ o, s.heap.get? e = some o ∧ o.cls = .type X from ⟨ob, hob, hobc⟩)
  obtain ⟨g', T, F', K'⟩ := kts_ground K F hBG hfl.1 hsm
  unfold OwitStop
  refine wpAny_isInstance hT hsub ?_
  show (if true = true then Q none s else E (.ref e) s)
  rw [if_pos rfl]
  exact k g' T F' (fun q hq => ⟨hfl.1 _ _ (hl q hq).1, (fun z => by have := (hl q hq).1; rw [z, hL] at this; cases this), T.none_ _ (kts_none F.keep (hl q hq).2.1)⟩) K' (XB.keeps K'.stays) (TB.keeps K'.stays) (D.turn T)
end
/-- as Told, where the frames outside may be noted by an exception that comes and goes: the ground may turn -/
noncomputable def ToldS (prog : Program) (w : World) (K : Frag) (dpn unn : Nat) (f : Value) (args : List Value) (news : List (Addr × Obj)) (Post : Value → List (Addr × Obj) → Prop) : Prop :=
  ∀ (p : Program) (loose : List Str) (mean : ExcName → Option Value) (mg mb : Str → Option Value) (dp un : Nat) (gd : Option (List Code)) (cn : Str) (cs : Scope) (a : Addr) (ccd : Value) (outer : List Env) (A₀ : Around) (base h₀ : Heap) (L : Addr) (m : Str → Option Value) (s : Shared) (Q E : Value → Shared → Prop),
    Below A₀ base outer h₀ → Fr h₀ L s.heap m → K.In h₀ → News h₀ L s.heap news → Top p loose mean mg mb h₀ → cs.kind = .function → dp + dpn < recursionLimit → un + unn < cLine → K.In base → Top p loose mean mg mb base → KtsDicts (outer.filterMap (·.frame)) h₀ →
    (∀ r nw h' tk' g', KtsTurn (outer.filterMap (·.frame)) h₀ g' → Fr g' L h' m → News g' L h' nw → Below A₀ base outer g' → K.In g' → Top p loose mean mg mb g' → KtsDicts (outer.filterMap (·.frame)) g' → Post r nw → Q r { s with heap := h', toks := tk' }) →
    wpAny (model prog w) (ktrTop dp un gd cn cs L a ccd [] outer) (call f args) Q E s
noncomputable def ToldNextS (prog : Program) (w : World) (K : Frag) (dpn unn : Nat) (it : Value) (news : List (Addr × Obj)) (Post : Option Value → List (Addr × Obj) → Prop) : Prop :=
  ∀ (p : Program) (loose : List Str) (mean : ExcName → Option Value) (mg mb : Str → Option Value) (dp un : Nat) (gd : Option (List Code)) (cn : Str) (cs : Scope) (a : Addr) (ccd : Value) (outer : List Env) (A₀ : Around) (base h₀ : Heap) (L : Addr) (m : Str → Option Value) (s : Shared) (Q : Option Value → Shared → Prop) (E : Value → Shared → Prop),
    Below A₀ base outer h₀ → Fr h₀ L s.heap m → K.In h₀ → News h₀ L s.heap news → Top p loose mean mg mb h₀ → cs.kind = .function → dp + dpn < recursionLimit → un + unn < cLine → K.In base → Top p loose mean mg mb base → KtsDicts (outer.filterMap (·.frame)) h₀ →
    (∀ r nw h' tk' g', KtsTurn (outer.filterMap (·.frame)) h₀ g' → Fr g' L h' m → News g' L h' nw → Below A₀ base outer g' → K.In g' → Top p loose mean mg mb g' → KtsDicts (outer.filterMap (·.frame)) g' → Post r nw → Q r { s with heap := h', toks := tk' }) →
    wpAny (model prog w) (ktrTop dp un gd cn cs L a ccd [] outer) (pyNext it) Q E s
end
section
theorem nx_tok (w : World) (lx ld io iod dq1 dq2 : Addr) (bs : List Nat) (kt ut : Nat → Tok) (t1 t2 t3 u1 u2 u3 ts tt : Tok) (rest : List (Addr × Obj)) (q : Nat) (pos : Nat) (st' : Option Nat) (tok : List Nat) (qd : Bool) (r' : List Nat) (hR : Lx q [] false (bs.drop pos) (st', tok, qd, r')) (ht : tok ≠ []) (hpos : pos ≤ bs.length) (hb : bs.length ≤ 10000) (hA : LexAt lx ld io iod dq1 dq2 rest) :
    ToldNextS PySem.Challenge.pw_il0113_01 w (Mine.K w.params) 20 180 (.ref lx) (lexN w lx ld io iod dq1 dq2 bs kt ut t1 t2 t3 u1 u2 u3 (.str (S [q]) ts) (.str (S []) tt) pos (dqs dq1 dq2 rest))
      (fun r nw => ∃ ts' tt' u3' pos' t', r = some (.str (S tok) t') ∧ bs.drop pos' = r' ∧ pos' ≤ bs.length ∧ nw = lexN w lx ld io iod dq1 dq2 bs kt ut t1 t2 t3 u1 u2 u3' (stV st' ts') (.str (S []) tt') pos' (dqs dq1 dq2 rest)) := by
  intro p loose mean mg mb dp un gd cn cs a ccd outer A₀ base h₀ L m s Q E B F X N T hk hdp hun XB TB D hret
  unfold lexN dqs at N
  k_dflt (refine' owit_next (f := 797) ?F ?X ?I ?hs ?hf ?_; (case F => k_asm); (case X => k_asm); (case I => k_inst); (case hs => k_is); (case hf => k_is))
  refine wpAny_call ?_
  k_dflt (refine' code_def ?k1 ?k2 ?k3 ?k4 ?k5 ?kA ?kF ?kK ?k6 ?k7 ?k8 ?k9 ?kB ?_ ?c2 ?c3 ?c4 ?c5; (case kA => exact rfl); (case kF => exact rfl); (case kK => assumption); (case k1 => k_asm); (case k2 => k_asm); (case k3 => k_asm); (case k4 => k_asm); (case k5 => k_asm); (case k6 => k_is); (case k7 => k_is); (case k8 => ktr_room); (case k9 => first | exact BindsTo.of_eq rfl | exact binds_K (by k_in) rfl (by k_is) rfl rfl rfl); (case c5 => decide); (case kB => exact locs rfl); (case c2 => exact rfl); (case c3 => exact rfl); (case c4 => exact rfl); k_whole; intro g' L' h' FG' F' N' B' X' T'; (try ((refine execs_at (b' := ?kbody) ?kbe ?_); (case kbe => (conv => lhs; whnf)))); (try dsimp only); (try k_fold))
  repeat' (first | (k_unfold; (try dsimp only)) | ((fail_if_success (with_reducible show Q _ _)); first | (k_here; (with_reducible show wpAny _ _ (call (Value.ref 761) _) _ _ _); k_dflt (refine' told_use ?k1 ?k2 ?k3 ?k4 ?k5 ?kK ?kC ?kd ?ku ?_; (case k1 => k_asm); (case k2 => k_asm); (case k3 => k_asm); (case k4 => k_asm); (case k5 => k_asm); (case kK => first | exact rfl | assumption); (case kC => first | exact gt_tok _ _ _ _ _ _ _ _ _ _ _ _ _ _ _ _ _ _ _ _ _ _ _ _ _ (by assumption) (by assumption) (by assumption) (by assumption) (by assumption) | exact gt_none _ _ _ _ _ _ _ _ _ _ _ _ _ _ _ _ _ _ _ (by assumption) (by assumption) (by assumption) (by assumption)); (case kd => ktr_room); (case ku => ktr_units)); intro r9 nw9 h9 tk9 F9 N9 P9; (first | (obtain ⟨ts9, tt9, u9, p9, t9, e9, hd9, hl9, e9'⟩ := P9; subst e9; subst e9') | (obtain ⟨e9, tt9, e9'⟩ := P9; subst e9; subst e9')); unfold lexN dqs at N9; (try dsimp only); (try k_sweep)) | walk1 | (dsimp only; first | (k_here; (with_reducible show wpAny _ _ (call (Value.ref 761) _) _ _ _); k_dflt (refine' told_use ?k1 ?k2 ?k3 ?k4 ?k5 ?kK ?kC ?kd ?ku ?_; (case k1 => k_asm); (case k2 => k_asm); (case k3 => k_asm); (case k4 => k_asm); (case k5 => k_asm); (case kK => first | exact rfl | assumption); (case kC => first | exact gt_tok _ _ _ _ _ _ _ _ _ _ _ _ _ _ _ _ _ _ _ _ _ _ _ _ _ (by assumption) (by assumption) (by assumption) (by assumption) (by assumption) | exact gt_none _ _ _ _ _ _ _ _ _ _ _ _ _ _ _ _ _ _ _ (by assumption) (by assumption) (by assumption) (by assumption)); (case kd => ktr_room); (case ku => ktr_units)); intro r9 nw9 h9 tk9 F9 N9 P9; (first | (obtain ⟨ts9, tt9, u9, p9, t9, e9, hd9, hl9, e9'⟩ := P9; subst e9; subst e9') | (obtain ⟨e9, tt9, e9'⟩ := P9; subst e9; subst e9')); unfold lexN dqs at N9; (try dsimp only); (try k_sweep)) | walk1)))
  (with_reducible rename Fr _ _ _ _ => kF)
  (with_reducible rename News _ _ _ _ => kN)
  exact hret _ _ _ _ h₀ KtsTurn.refl kF kN B X T (by assumption) ⟨_, _, _, _, _, rfl, (by assumption), (by assumption), rfl⟩
theorem nx_none (w : World) (lx ld io iod dq1 dq2 : Addr) (bs : List Nat) (kt ut : Nat → Tok) (t1 t2 t3 u1 u2 u3 tt : Tok) (rest : List (Addr × Obj)) (pos : Nat) (hpos : pos ≤ bs.length) (hc : bs.length ≤ pos) (hb : bs.length ≤ 10000) (hA : LexAt lx ld io iod dq1 dq2 rest) :
    ToldNextS PySem.Challenge.pw_il0113_01 w (Mine.K w.params) 20 180 (.ref lx) (lexN w lx ld io iod dq1 dq2 bs kt ut t1 t2 t3 u1 u2 u3 .none (.str (S []) tt) pos (dqs dq1 dq2 rest))
      (fun r nw => r = none ∧ ∃ tt', nw = lexN w lx ld io iod dq1 dq2 bs kt ut t1 t2 t3 u1 u2 u3 .none (.str (S []) tt') pos (dqs dq1 dq2 rest)) := by
  intro p loose mean mg mb dp un gd cn cs a ccd outer A₀ base h₀ L m s Q E B F X N T hk hdp hun XB TB D hret
  unfold lexN dqs at N
  k_dflt (refine' owit_next (f := 797) ?F ?X ?I ?hs ?hf ?_; (case F => k_asm); (case X => k_asm); (case I => k_inst); (case hs => k_is); (case hf => k_is))
  refine wpAny_call ?_
  k_dflt (refine' code_def ?k1 ?k2 ?k3 ?k4 ?k5 ?kA ?kF ?kK ?k6 ?k7 ?k8 ?k9 ?kB ?_ ?c2 ?c3 ?c4 ?c5; (case kA => exact rfl); (case kF => exact rfl); (case kK => assumption); (case k1 => k_asm); (case k2 => k_asm); (case k3 => k_asm); (case k4 => k_asm); (case k5 => k_asm); (case k6 => k_is); (case k7 => k_is); (case k8 => ktr_room); (case k9 => first | exact BindsTo.of_eq rfl | exact binds_K (by k_in) rfl (by k_is) rfl rfl rfl); (case c5 => decide); (case kB => exact locs rfl); (case c2 => exact rfl); (case c3 => exact rfl); (case c4 => exact rfl); k_whole; intro g' L' h' FG' F' N' B' X' T'; (try ((refine execs_at (b' := ?kbody) ?kbe ?_); (case kbe => (conv => lhs; whnf)))); (try dsimp only); (try k_fold))
  repeat' (first | (k_unfold; (try dsimp only)) | ((fail_if_success (with_reducible show Q _ _)); first | (k_here; (with_reducible show wpAny _ _ (call (Value.ref 761) _) _ _ _); k_dflt (refine' told_use ?k1 ?k2 ?k3 ?k4 ?k5 ?kK ?kC ?kd ?ku ?_; (case k1 => k_asm); (case k2 => k_asm); (case k3 => k_asm); (case k4 => k_asm); (case k5 => k_asm); (case kK => first | exact rfl | assumption); (case kC => first | exact gt_tok _ _ _ _ _ _ _ _ _ _ _ _ _ _ _ _ _ _ _ _ _ _ _ _ _ (by assumption) (by assumption) (by assumption) (by assumption) (by assumption) | exact gt_none _ _ _ _ _ _ _ _ _ _ _ _ _ _ _ _ _ _ _ (by assumption) (by assumption) (by assumption) (by assumption)); (case kd => ktr_room); (case ku => ktr_units)); intro r9 nw9 h9 tk9 F9 N9 P9; (first | (obtain ⟨ts9, tt9, u9, p9, t9, e9, hd9, hl9, e9'⟩ := P9; subst e9; subst e9') | (obtain ⟨e9, tt9, e9'⟩ := P9; subst e9; subst e9')); unfold lexN dqs at N9; (try dsimp only); (try k_sweep)) | walk1 | (dsimp only; first | (k_here; (with_reducible show wpAny _ _ (call (Value.ref 761) _) _ _ _); k_dflt (refine' told_use ?k1 ?k2 ?k3 ?k4 ?k5 ?kK ?kC ?kd ?ku ?_; (case k1 => k_asm); (case k2 => k_asm); (case k3 => k_asm); (case k4 => k_asm); (case k5 => k_asm); (case kK => first | exact rfl | assumption); (case kC => first | exact gt_tok _ _ _ _ _ _ _ _ _ _ _ _ _ _ _ _ _ _ _ _ _ _ _ _ _ (by assumption) (by assumption) (by assumption) (by assumption) (by assumption) | exact gt_none _ _ _ _ _ _ _ _ _ _ _ _ _ _ _ _ _ _ _ (by assumption) (by assumption) (by assumption) (by assumption)); (case kd => ktr_room); (case ku => ktr_units)); intro r9 nw9 h9 tk9 F9 N9 P9; (first | (obtain ⟨ts9, tt9, u9, p9, t9, e9, hd9, hl9, e9'⟩ := P9; subst e9; subst e9') | (obtain ⟨e9, tt9, e9'⟩ := P9; subst e9; subst e9')); unfold lexN dqs at N9; (try dsimp only); (try k_sweep)) | walk1)))

  (rename RaisedS _ _ _ _ _ _ _ _ _ => rsX)

  k_dflt (refine' owit_stopS rsX ?F ?K ?U ?XB ?TB ?D ?s ?_; (case F => assumption); (case K => assumption); (case U => assumption); (case XB => assumption); (case TB => assumption); (case D => assumption); (case s => first | rfl | kernel_rfl | decide))
  intro g₉ T₉ F₉ N₉ B₉ X₉ P₉ D₉
  exact hret _ _ _ _ g₉ T₉ F₉ N₉ B₉ X₉ P₉ D₉ ⟨rfl, _, rfl⟩
end
section
theorem news_skip {h₀ h : Heap} {L : Addr} {a b c d : Addr × Obj} {l : List (Addr × Obj)} (N : News h₀ L h (a :: b :: c :: d :: l)) : News h₀ L h (a :: b :: l) := fun q hq => N q (by simp only [List.mem_cons] at hq ⊢; rcases hq with h | h | h <;> simp [h])
theorem news_sub {h₀ h : Heap} {L : Addr} {l l' : List (Addr × Obj)} (N : News h₀ L h l) (k : ∀ q ∈ l', q ∈ l) : News h₀ L h l' := fun q hq => N q (k q hq)
section
variable {prog : Program} {w : World} {A : Around} {K : Frag} {C : Addr} {R : Result → Shared → Prop} {s : Shared}
theorem madeBy_own {M : Model} {h : Heap} (X : K.In h) {oc od cd sl} (ho : K.lookup C = some ⟨oc, od, .cls cd, sl⟩) (h4 : (sl.toList[4]?).join = some Value.none) (hne : cd.mro.isEmpty = false) : Looks M h (Bind.madeBy (.ref C)) none := by
  have hc : clsIn K C = some cd := by unfold clsIn; rw [ho]
  have hm : Looks M h (mroOf (.ref C)) cd.mro := (looks_clsIn X hc).andThen .now
  obtain ⟨c, l, hl⟩ : ∃ c l, cd.mro = c :: l := by cases q : cd.mro with | nil => rw [q] at hne; cases hne | cons c l => exact ⟨c, l, rfl⟩
  intro A Q E s k q
  unfold Bind.madeBy
  refine wpAny_bind (hm A _ E s k ?_)
  rw [hl, List.forIn_cons]
  refine wpAny_bind (wpAny_bind (wpAny_bind (wpAny_bind (wpAny_loadPart (k _ _ (X _ _ ho)) (wpAny_pure ?_)))))
  dsimp only
  rw [← Array.getElem?_toList, h4]
  exact wpAny_pure (wpAny_pure (wpAny_pure q))
theorem make_any {rest : List Value} {kw : List (Str × Value)} (X : K.In s.heap) {oc od cd sl} (ho : K.lookup C = some ⟨oc, od, .cls cd, sl⟩) (h4 : (sl.toList[4]?).join = some Value.none) (hne : cd.mro.isEmpty = false)
    (e7 : specialIn K (.ref C) "__call__" = some (some (.builtin "type.__call__"))) (e8 : instIn K (.ref C) (.type "type") = some true)
    (hq : wpAny (model prog w) (A.under (.builtin "type.__call__" ⟨.ref C :: rest, kw⟩)) (getAttr (.ref C) (Str.ofString "__new__")) (fun new s1 => wpAny (model prog w) (A.under (.builtin "type.__call__" ⟨.ref C :: rest, kw⟩)) (call new (.ref C :: rest) kw) (fun obj s2 =>
      wpAny (model prog w) (A.under (.builtin "type.__call__" ⟨.ref C :: rest, kw⟩)) (isInstance obj (.ref C)) (fun b s3 => b = true ∧ wpAny (model prog w) (A.under (.builtin "type.__call__" ⟨.ref C :: rest, kw⟩)) (callSpecial? obj (Str.ofString "__init__") rest kw) (fun r s4 => r = some .none ∧ R (.ok (.ret obj)) s4) (fun e s' => R (.error e) s') s3) (fun e s' => R (.error e) s') s2) (fun e s' => R (.error e) s') s1) (fun e s' => R (.error e) s') s) :
    codeAny (model prog w) A (.call (.ref C) ⟨rest, kw⟩) R s := by
  have hc : clsIn K C = some cd := by unfold clsIn; rw [ho]
  have hm : Looks (model prog w) s.heap (mroOf (.ref C)) cd.mro := (looks_clsIn X hc).andThen .now
  have made : Looks (model prog w) s.heap (Bind.madeBy (.ref C)) none := madeBy_own X ho h4 hne
  have call : Looks (model prog w) s.heap (specialOf (.ref C) "__call__") (some (.builtin "type.__call__")) := looks_specialIn X e7
  have typ : Looks (model prog w) s.heap (isInstance (.ref C) (.type "type")) true := looks_instIn X e8
  have hC := X _ _ ho
  refine codeAny_of_tree ?_
  show wpAny _ _ (callAny (.ref C) _) _ _ _
  refine nd_load hC ?_
  show wpAny _ _ (callAny.viaDunder (.ref C) _) _ _ _
  unfold callAny.viaDunder
  refine wpAny_bind (call.at ?_)
  dsimp only
  rw [tc_bind]
  refine wpAny_bind (wpAny_pure (wpAny_bind (wpAny_pure ?_)))
  refine wpAny_pure (a := Fin.again (.call (.builtin "type.__call__") ⟨.ref C :: rest, kw⟩)) (And.intro rfl ?_)
  refine codeAny_call_builtin_at (Code.quiet_builtin _ (by decide +kernel)) entry_typeCall (check_slot tc_kind tc_split typ (tc_args _ _ _) ?_)
  unfold Builtin.«type.__call__»
  repeat (first | (with_reducible show wpAny _ _ (getAttr _ _) _ _ _); fail | simp only [hne, Bool.false_eq_true, if_false] | (refine wpAny_bind (hm.at ?_)) | (refine wpAny_bind (made.at ?_)) | (with_reducible refine wpAny_bind ?_) | (with_reducible refine wpAny_pure ?_))

  refine wpAny_mono hq (fun new s1 h1 => ?_) (fun _ _ z => z)
  refine wpAny_bind (wpAny_holding (wpAny_mono h1 (fun obj s2 h2 => ?_) (fun _ _ z => z)))
  refine wpAny_bind (wpAny_mono h2 (fun b s3 h3 => ?_) (fun _ _ z => z))
  obtain ⟨rfl, h3⟩ := h3
  simp only [Bool.not_true, Bool.false_eq_true, if_false]
  refine wpAny_bind (wpAny_holding (wpAny_mono h3 (fun r s4 h4 => ?_) (fun _ _ z => z)))
  obtain ⟨rfl, h4⟩ := h4
  exact wpAny_pure h4
theorem new_own {h : Heap} {g : Array GenState} {d : Drawn} {t : Nat} {os : OsState} {oc od cd sl} (hC : h.get? C = some ⟨oc, od, .cls cd, sl⟩) (ha : cd.abstract = false) (hd : cd.hasDel = false) (hD : typeHasDict (.ref C) = true) (top : Looks (model prog w) h (isSubtype (.ref C) (.type "object")) true) (base : Looks (model prog w) h (Bind.staticBase (.ref C)) (.type "object")) (made : Looks (model prog w) h (Bind.madeBy (.type "object")) (some "object.__new__"))
    (hq : R (.ok (.ret (.ref (h.objs.size + 1)))) ⟨(h.push emptyDict).push (instObj C h.objs.size), g, d, t, os⟩) :
    codeAny (model prog w) A (.call (.builtin "object.__new__") ⟨[.ref C], []⟩) R ⟨h, g, d, t, os⟩ := by
  have F := PySem.F.objNew
  have here : Looks (model prog w) h (Bind.madeHere "object.__new__" (.ref C)) () := base.andThen (made.andThen (Looks.of_pure (by simp only [Option.map_some, bne_self_eq_false, Bool.false_eq_true, if_false])))
  refine codeAny_call_builtin_code (Code.quiet_builtin _ F.quiet) ?_
  simp only [checkBuiltinCall, F.kind, F.split, F.row]
  have args : Bind.checkArgs "object.__new__" ⟨.hand, "object.__new__", "__new__", .cls, []⟩ ⟨[.ref C], []⟩ = pure () := by kernel_rfl
  rw [args]
  repeat (first | simp only [bne_self_eq_false, Bool.false_eq_true, if_false] | lk)
  refine codeAny_builtin F.entry ?_
  unfold Builtin.«object.__new__»
  have fin : ∀ A', wpAny (model prog w) A' (do
      let d ← if typeHasDict (.ref C) then some <$> alloc { cls := .type "dict", data := .dict #[] } else pure none
      ret (← newObj (.ref C) .plain d)) (fun fin s' => match fin with | .done f => R (.ok f) s' | .again c' => c'.quiet = true ∧ codeAny (model prog w) A c' R s') (fun e s' => R (.error e) s') ⟨h, g, d, t, os⟩ := by
    intro A'
    show wpAny _ _ ((alloc emptyDict >>= fun x => pure (some x)) >>= _) _ _ _
    refine wpAny_bind (wpAny_bind (wpAny_alloc (wpAny_pure (wpAny_bind ?_))))
    show wpAny _ _ (newObjAsIs _ _ _) _ _ _
    unfold newObjAsIs classHasDel
    refine wpAny_bind (wpAny_alloc (wpAny_bind (wpAny_bind (wpAny_load (Heap.get?_push_of_some _ (Heap.get?_push_of_some _ hC)) (wpAny_pure ?_)))))
    rw [hd]
    refine wpAny_pure (wpAny_pure ?_)
    show R _ _
    rw [Heap.size_push]
    exact hq
  repeat (first | simp only [ha, Bool.false_eq_true, if_false] | exact fin _ | lk)
theorem is_own {h₀ : Heap} {L : Addr} {m : Str → Option Value} {news : List (Addr × Obj)} {Q E} {x : Addr} {o : Obj} (F : Fr h₀ L s.heap m) (N : News h₀ L s.heap news) (X : K.In h₀) (hx : (x, o) ∈ news) (hc : o.cls = .ref C) {B : Value} {b : Bool} (hs : peek K ⟨prog, w.params⟩ (isSubtype (.ref C) B) = some b) (h : Q b s) :
    wpAny (model prog w) A (isInstance (.ref x) B) Q E s := by
  have t1 : Looks (model prog w) s.heap (typeOf (.ref x)) (.ref C) := (Looks.ld (N _ hx).1).andThen (by rw [hc]; exact .now)
  have t2 : Looks (model prog w) s.heap (isSubtype (.ref C) B) b := Looks.of_peek (X.keeps F.keep) hs
  exact (t1.andThen t2).here h
theorem call_new_own {h₀ : Heap} {L : Addr} {m : Str → Option Value} {news : List (Addr × Obj)} {Q E : _} {oc od cd sl} (F : Fr h₀ L s.heap m) (N : News h₀ L s.heap news) (X : K.In h₀) (ho : K.lookup C = some ⟨oc, od, .cls cd, sl⟩) (ha : cd.abstract = false) (hd : cd.hasDel = false) (hD : typeHasDict (.ref C) = true)
    (ht : peek K ⟨prog, w.params⟩ (isSubtype (.ref C) (.type "object")) = some true) (hb : peek K ⟨prog, w.params⟩ (Bind.staticBase (.ref C)) = some (.type "object")) (hm : peek K ⟨prog, w.params⟩ (Bind.madeBy (.type "object")) = some (some "object.__new__"))
    (h : ∀ x dx h', Fr h₀ L h' m → News h₀ L h' ((x, instObj C dx) :: (dx, emptyDict) :: news) → (∀ p ∈ news, p.1 < dx) → dx < x → Q (.ref x) { s with heap := h' }) :
    wpAny (model prog w) A (call (.builtin "object.__new__") [.ref C]) Q E s := by
  obtain ⟨hh, g, d, t, os⟩ := s
  have X1 := X.keeps F.keep
  refine wpAny_call (new_own (X1 _ _ ho) ha hd hD (Looks.of_peek X1 ht) (Looks.of_peek X1 hb) (Looks.of_peek X1 hm) ?_)
  refine h _ _ _ ((F.push _).push _) ?_ (fun p hp => Heap.lt_size (N p hp).1) (Nat.lt_succ_self _)
  have := (N.push F emptyDict).push (F.push _) (instObj C hh.objs.size)
  rwa [Heap.size_push] at this
end
theorem strio (w : World) (bs : List Nat) (t : Tok) (rest : List (Addr × Obj)) (hb : bs.length ≤ 10000) :
    Told PySem.Challenge.pw_il0113_01 w (Mine.K w.params) 20 180 (.ref 665) [.str (S bs) t] rest
      (fun r nw => ∃ (io iod : Addr) (t1 t2 t3 u1 u2 u3 : Tok), r = .ref io ∧ AllLt iod rest ∧ @LT.lt Nat _ iod io ∧ nw = (io, instObj 665 iod) :: (iod, ioD w t1 t2 t3 u1 u2 u3 bs 0) :: rest) := by
  intro p loose mean mg mb dp un gd cn cs a ccd cl outer A₀ base h₀ L m s Q E B F X N T hk hdp hun hret
  refine wpAny_call ?_
  have X1 : (Mine.K w.params).In s.heap := X.keeps F.keep
  refine make_any (K := Mine.K w.params) X1 (show _ = _ from rfl) rfl rfl (by k_is) (by k_is) ?_
  repeat' (first | (k_unfold; (try dsimp only)) | ((fail_if_success (with_reducible show Q _ _)); first | ((with_reducible show wpAny _ _ (call (Value.builtin "object.__new__") _) _ _ _); (k_here; k_dflt (refine' call_new_own ?F ?N ?X ?o ?a ?d ?D ?t ?hb ?hm ?_; (case F => k_asm); (case N => k_asm); (case X => k_asm); (case o => exact rfl); (case a => exact rfl); (case d => exact rfl); (case D => exact rfl); (case t => with_unfolding_all rfl); (case hb => with_unfolding_all rfl); (case hm => with_unfolding_all rfl); k_whole); intro x' d' h' F' N' l1 l2; (try k_lt l1); (try k_lt2 l2); (try k_sweep))) | walk1 | (dsimp only; first | ((with_reducible show wpAny _ _ (call (Value.builtin "object.__new__") _) _ _ _); (k_here; k_dflt (refine' call_new_own ?F ?N ?X ?o ?a ?d ?D ?t ?hb ?hm ?_; (case F => k_asm); (case N => k_asm); (case X => k_asm); (case o => exact rfl); (case a => exact rfl); (case d => exact rfl); (case D => exact rfl); (case t => with_unfolding_all rfl); (case hb => with_unfolding_all rfl); (case hm => with_unfolding_all rfl); k_whole); intro x' d' h' F' N' l1 l2; (try k_lt l1); (try k_lt2 l2); (try k_sweep))) | walk1)))
  refine wpAny_call ?_
  k_dflt (refine' kp_both ?k1 ?k2 ?k3 ?k4 ?k5 ?kA ?kF ?kK ?k6 ?k7 ?k8 ?kV ?kX ?kQ ?kM ?kN ?kD ?kR ?kP ?kS ?kT ?kB ?_ ?c2 ?c3 ?c4 ?c5; (case kA => exact rfl); (case kF => exact rfl); (case kK => first | assumption | exact rfl); (case k1 => k_asm); (case k2 => k_asm); (case k3 => k_asm); (case k4 => k_asm); (case k5 => k_asm); (case k6 => k_is); (case k7 => k_is); (case k8 => ktr_room); (case kV => kp_lit); (case kX => kp_lit); (case kQ => exact rfl); (case kM => exact rfl); (case kN => exact rfl); (case kD => kp_flats); (case kR => exact rfl); (case kP => exact rfl); (case kS => exact fun _ => rfl); (case kT => exact fun _ _ => rfl); (case kB => exact fun _ _ => locs rfl); (case c5 => decide); (case c2 => exact rfl); (case c3 => exact rfl); (case c4 => exact rfl); k_whole; intro C' D' o' g' L' h' tk' l1 l2 lo' hs' fs' FG' F' N' B' X' T'; (try k_lt l1); (try k_lt2 l2); (try ((refine execs_at (b' := ?kbody) ?kbe ?_); (case kbe => (conv => lhs; whnf)))); (try dsimp only); (try k_fold))
  repeat' (first | (k_unfold; (try dsimp only)) | ((fail_if_success (with_reducible show Q _ _)); first | ((with_reducible show wpAny _ _ (call (Value.builtin "object.__new__") _) _ _ _); (k_here; k_dflt (refine' call_new_own ?F ?N ?X ?o ?a ?d ?D ?t ?hb ?hm ?_; (case F => k_asm); (case N => k_asm); (case X => k_asm); (case o => exact rfl); (case a => exact rfl); (case d => exact rfl); (case D => exact rfl); (case t => with_unfolding_all rfl); (case hb => with_unfolding_all rfl); (case hm => with_unfolding_all rfl); k_whole); intro x' d' h' F' N' l1 l2; (try k_lt l1); (try k_lt2 l2); (try k_sweep))) | walk1 | (dsimp only; first | ((with_reducible show wpAny _ _ (call (Value.builtin "object.__new__") _) _ _ _); (k_here; k_dflt (refine' call_new_own ?F ?N ?X ?o ?a ?d ?D ?t ?hb ?hm ?_; (case F => k_asm); (case N => k_asm); (case X => k_asm); (case o => exact rfl); (case a => exact rfl); (case d => exact rfl); (case D => exact rfl); (case t => with_unfolding_all rfl); (case hb => with_unfolding_all rfl); (case hm => with_unfolding_all rfl); k_whole); intro x' d' h' F' N' l1 l2; (try k_lt l1); (try k_lt2 l2); (try k_sweep))) | walk1)))
  k_dflt (refine' is_own ?F ?N ?X ?hx ?hc ?hs ?_; (case F => k_asm); (case N => k_asm); (case X => k_asm); (case hx => k_mem); (case hc => exact rfl); (case hs => with_unfolding_all rfl))
  refine ⟨rfl, ?_⟩
  k_dflt (refine' special_fn ?X ?I ?hs ?hf ?_; (case X => (refine' Frag.In.keeps ?X ?K; (case X => exact X); (case K => exact Fr.keep (by assumption)))); (case I => k_inst); (case hs => k_is); (case hf => k_is))
  refine wpAny_call ?_
  k_dflt (refine' code_def ?k1 ?k2 ?k3 ?k4 ?k5 ?kA ?kF ?kK ?k6 ?k7 ?k8 ?k9 ?kB ?_ ?c2 ?c3 ?c4 ?c5; (case kA => exact rfl); (case kF => exact rfl); (case kK => assumption); (case k1 => k_asm); (case k2 => k_asm); (case k3 => k_asm); (case k4 => k_asm); (case k5 => k_asm); (case k6 => k_is); (case k7 => k_is); (case k8 => ktr_room); (case k9 => first | exact BindsTo.of_eq rfl | exact binds_K (by k_in) rfl (by k_is) rfl rfl rfl); (case c5 => decide); (case kB => exact locs rfl); (case c2 => exact rfl); (case c3 => exact rfl); (case c4 => exact rfl); k_whole; intro g' L' h' FG' F' N' B' X' T'; (try ((refine execs_at (b' := ?kbody) ?kbe ?_); (case kbe => (conv => lhs; whnf)))); (try dsimp only); (try k_fold))
  have F1 := fr_look (l := [(Str.ofString "newline", .str (Str.ofString "\n") 1032, none), (Str.ofString "initial_value", .str (S bs) t, none), (Str.ofString "self", .ref _, none)]) rfl F'
  clear F'
  refine toks_any ?_
  intro tk9
  repeat' (first | (k_unfold; (try dsimp only)) | ((fail_if_success (with_reducible show Q _ _)); first | ((with_reducible show wpAny _ _ (call (Value.builtin "object.__new__") _) _ _ _); (k_here; k_dflt (refine' call_new_own ?F ?N ?X ?o ?a ?d ?D ?t ?hb ?hm ?_; (case F => k_asm); (case N => k_asm); (case X => k_asm); (case o => exact rfl); (case a => exact rfl); (case d => exact rfl); (case D => exact rfl); (case t => with_unfolding_all rfl); (case hb => with_unfolding_all rfl); (case hm => with_unfolding_all rfl); k_whole); intro x' d' h' F' N' l1 l2; (try k_lt l1); (try k_lt2 l2); (try k_sweep))) | walk1 | (dsimp only; first | ((with_reducible show wpAny _ _ (call (Value.builtin "object.__new__") _) _ _ _); (k_here; k_dflt (refine' call_new_own ?F ?N ?X ?o ?a ?d ?D ?t ?hb ?hm ?_; (case F => k_asm); (case N => k_asm); (case X => k_asm); (case o => exact rfl); (case a => exact rfl); (case d => exact rfl); (case D => exact rfl); (case t => with_unfolding_all rfl); (case hb => with_unfolding_all rfl); (case hm => with_unfolding_all rfl); k_whole); intro x' d' h' F' N' l1 l2; (try k_lt l1); (try k_lt2 l2); (try k_sweep))) | walk1)))
  (with_reducible rename Fr _ _ _ _ => kF)
  (with_reducible rename News _ _ _ _ => kN)
  (rename _ ∧ _ ∧ AllLt _ rest => hA)
  exact hret _ _ _ _ kF (news_skip kN) ⟨_, _, _, _, _, _, _, _, rfl, hA.2.2, (by assumption), rfl⟩
end
section
theorem mro_dq : mroOf (.type "collections.deque") = pure [.type "collections.deque", .type "object"] := by rw [mroOf_type]; kernel_rfl
theorem sub_dq : isSubtype (.type "collections.deque") (.type "collections.deque") = pure true := by rw [isSubtype_type]; kernel_rfl
theorem slot_dq_init : Slot "collections.deque" "__init__" "collections.deque.__init__" := .of (owner := "collections.deque") (n := "__init__") (by rw [typeLookup_type, builtinLookup_eq_fast]; kernel_rfl) (by decide +kernel) (by decide +kernel) (by decide +kernel)
    (by first | exact .inl (by decide +kernel) | exact .inr (by decide +kernel)) (by rw [isSubtype_type]; kernel_rfl)
theorem called_dq : TypeCalled "collections.deque" "collections.deque.__new__" "collections.deque.__init__" :=
  ⟨by decide +kernel, by decide +kernel, ⟨_, _, mro_dq⟩, madeBy_type mro_dq (by rw [typeLookup_type, builtinLookup_eq_fast]; kernel_rfl) (by decide +kernel), by decide +kernel, sub_dq, slot_dq_init⟩
theorem typeCall_dq : checkTypeCall "collections.deque" ⟨[], []⟩ = pure () := by kernel_rfl
theorem newCall_dq : checkBuiltinCall "collections.deque.__new__" ⟨[.type "collections.deque"], []⟩ = pure () := by kernel_rfl
theorem entry_dq_new : entryFor table "collections.deque.__new__" = some Builtin.«collections.deque.__new__» := entryFor_of_tree (by kernel_rfl)
theorem entry_dq_init : entryFor table "collections.deque.__init__" = some Builtin.«collections.deque.__init__» := entryFor_of_tree (by kernel_rfl)
theorem plain_dq_new : plainId "collections.deque.__new__" = true := by decide +kernel
theorem args_dq_init (a : Value) : argsOk "collections.deque.__init__" ⟨[a], []⟩ := by unfold argsOk; kernel_rfl
section
variable {prog : Program} {w : World} {A : Around} {E : Value → Shared → Prop} {s : Shared}
theorem sem_eq {α : Type} {M : Model} {a b : Sem α} {Q : α → Shared → Prop} (e : a = b) (h : wpAny M A b Q E s) : wpAny M A a Q E s := e ▸ h
theorem code_dq_new {Q₁ : Value → Shared → Prop} (h : Q₁ (.ref s.heap.objs.size) { s with heap := s.heap.push dqO }) :
    codeAny (model prog w) A (.call (.builtin "collections.deque.__new__") ⟨[.type "collections.deque"], []⟩) (wants Q₁ E) s := by
  refine codeAny_call_builtin plain_dq_new entry_dq_new (wpAny_of_eq newCall_dq ?_)
  obtain ⟨hp, g, d, tk, os⟩ := s
  unfold Builtin.«collections.deque.__new__» Builtin.Deque.newArgs Builtin.Deque.new Builtin.Deque.ty
  have hsub := sub_dq
  have hmro := mro_dq
  wp_walk
  exact h
theorem call_dq {h₀ : Heap} {L : Addr} {m : Str → Option Value} {news : List (Addr × Obj)} {Q : Value → Shared → Prop} (F : Fr h₀ L s.heap m) (N : News h₀ L s.heap news)
    (h : ∀ x h', Fr h₀ L h' m → News h₀ L h' ((x, dqO) :: news) → (∀ p ∈ news, p.1 < x) → Q (.ref x) { s with heap := h' }) :
    wpAny (model prog w) A (call (.type "collections.deque") []) Q E s := by
  refine callType_codes (Q₁ := fun obj s₁ => obj = .ref s.heap.objs.size ∧ s₁ = { s with heap := s.heap.push dqO }) called_dq typeCall_dq entry_dq_init (code_dq_new ⟨rfl, rfl⟩) ?_
  rintro obj s₁ ⟨rfl, rfl⟩
  have N1 := N.push F dqO
  have F1 := F.push dqO
  refine ⟨⟨_, (N1 _ (.head _)).1, rfl⟩, args_dq_init _, ?_⟩
  refine sem_eq (b := (setField (.ref s.heap.objs.size) 0 .none >>= fun _ => Builtin.Deque.clear (.ref s.heap.objs.size) >>= fun _ => ret .none)) (by with_unfolding_all rfl) ?_
  have hs := Heap.SameBut.update (s.heap.push dqO) s.heap.objs.size (Obj.mapFields (·.setIfInBounds 0 Value.none))
  have ho : ((s.heap.push dqO).update s.heap.objs.size (Obj.mapFields (·.setIfInBounds 0 Value.none))).get? s.heap.objs.size = some dqO := by
    exact Heap.get?_update_self _ (N1 _ (.head _)).1 rfl
  refine wpAny_bind (wpAny_setField (N1 _ (.head _)).1 rfl (by decide) (wpAny_bind ?_))
  unfold Builtin.Deque.clear Builtin.Deque.items fieldsOf
  refine wpAny_bind (wpAny_bind (wpAny_bind (wpAny_load ho ?_)))
  refine wpAny_pure (wpAny_pure ?_)
  rw [if_neg (by decide)]
  refine wpAny_pure (wpAny_pure ⟨rfl, ?_⟩)
  exact h _ _ (F1.change hs (N1 _ (.head _)).2.1 (N1.fresh (.head _))) (N1.setHead N.apart hs ho) (fun p hp => Heap.lt_size (N p hp).1)
end
end
section
section
variable {prog : Program} {w : World} {K : Frag} {dpn unn : Nat} {p : Program} {loose : List Str} {mean : ExcName → Option Value} {mg mb : Str → Option Value} {dp un : Nat} {gd : Option (List Code)} {cn : Str} {cs : Scope} {a : Addr} {ccd : Value} {outer : List Env} {A₀ : Around} {base : Heap} {L : Addr} {m : Str → Option Value} {s : Shared} {P : Nat → Value → Prop} {n : Nat} {S it : Addr} {res : Value} {R : Result → Shared → Prop}
noncomputable abbrev AllAt (P : Nat → Value → Prop) (vs : List Value) : Prop := ∀ j v, vs[j]? = some v → P j v
theorem AllAt.push {vs : List Value} {v : Value} (h : AllAt P vs) (hv : P vs.length v) : AllAt P (vs ++ [v]) := by
  intro j x hj
  rw [List.getElem?_append] at hj
  split at hj
  · exact h j x hj
  · rename_i hlt
    have e : j - vs.length = 0 := by
      cases q : j - vs.length with
      | zero => rfl
      | succ k => rw [q] at hj; simp at hj
    rw [e] at hj
    have : j = vs.length := by omega
    subst this
    simp at hj
    exact hj ▸ hv
theorem list_loop (J : Nat → List (Addr × Obj) → Prop) (hn : n ≤ 1000) (hap : ∀ i news, J i news → ∀ p ∈ news, p.1 ≠ S)
    (hstep : ∀ (i : Nat) (news : List (Addr × Obj)) (vs : List Value) (c : Nat), i < n → J i news → ToldNextS prog w K dpn unn (.ref it) ((S, listOf vs.toArray c) :: news) (fun r nw => ∃ v nw', r = some v ∧ P i v ∧ nw = (S, listOf vs.toArray c) :: nw' ∧ J (i + 1) nw'))
    (hend : ∀ (news : List (Addr × Obj)) (vs : List Value) (c : Nat), J n news → ToldNextS prog w K dpn unn (.ref it) ((S, listOf vs.toArray c) :: news) (fun r nw => ∃ nw', r = none ∧ nw = (S, listOf vs.toArray c) :: nw' ∧ J (n + 1) nw'))
    (hk : cs.kind = .function) (hdp : dp + dpn < recursionLimit) (hun : un + 1 + unn < cLine) (XB : K.In base) (TB : Top p loose mean mg mb base) :
    ∀ k i, n - i = k → i ≤ n → ∀ (vs : List Value) (c : Nat) (news : List (Addr × Obj)) (h₀ h : Heap) (tk : Nat), J i news → vs.length = i → AllAt P vs → Below A₀ base outer h₀ → Fr h₀ L h m → K.In h₀ → News h₀ L h ((S, listOf vs.toArray c) :: news) → Top p loose mean mg mb h₀ → KtsDicts (outer.filterMap (·.frame)) h₀ →
    (∀ (vs : List Value) (c : Nat) news' h' tk' g', KtsTurn (outer.filterMap (·.frame)) h₀ g' → Fr g' L h' m → News g' L h' ((S, listOf vs.toArray c) :: news') → Below A₀ base outer g' → K.In g' → Top p loose mean mg mb g' → KtsDicts (outer.filterMap (·.frame)) g' → J (n + 1) news' → vs.length = n → AllAt P vs →
      R (.ok (.ret res)) { s with heap := h', toks := tk' }) →
    codeAny (model prog w) (ktrTop dp un gd cn cs L a ccd [] outer) (.builtin "list.extend.loop" ⟨[.ref S, .ref it, res], []⟩) R { s with heap := h, toks := tk } := by
  intro k
  induction k with
  | zero =>
    intro i hki hi vs c news h₀ h tk hJ hl hP B F X N T D ret
    have hin : i = n := by omega
    subst hin
    refine codeAny_builtin PySem.F.entry_extend_loop ?_
    rw [Around.under_plainId PySem.F.plain_extend_loop _]
    show wpAny _ (ktrTop dp un gd cn cs L a ccd [] outer).in1 (pyNext (.ref it) >>= _) _ _ _
    refine wpAny_bind (hend news vs c hJ p loose mean mg mb dp (un + 1) gd cn cs a ccd outer A₀ base h₀ L m _ _ _ B F X N T hk hdp hun XB TB D ?_)
    rintro r nw h' tk' g' T' F' N' B' X' P' D' ⟨nw', rfl, rfl, J'⟩
    exact wpAny_pure (ret vs c nw' h' tk' g' T' F' N' B' X' P' D' J' hl hP)
  | succ k ih =>
    intro i hki hi vs c news h₀ h tk hJ hl hP B F X N T D ret
    refine codeAny_builtin PySem.F.entry_extend_loop ?_
    rw [Around.under_plainId PySem.F.plain_extend_loop _]
    show wpAny _ (ktrTop dp un gd cn cs L a ccd [] outer).in1 (pyNext (.ref it) >>= _) _ _ _
    refine wpAny_bind (hstep i news vs c (by omega) hJ p loose mean mg mb dp (un + 1) gd cn cs a ccd outer A₀ base h₀ L m _ _ _ B F X N T hk hdp hun XB TB D ?_)
    rintro r nw h' tk' g' T' F' N' B' X' P' D' ⟨v, nw', rfl, hv, rfl, J'⟩
    have hz := N' _ (.head _)
    show wpAny _ _ (updateSeq S (·.push v) >>= fun _ => again (.builtin "list.extend.loop" ⟨[.ref S, .ref it, res], []⟩)) _ _ _
    refine wpAny_bind (wpAny_updateSeq hz.1 rfl ?_ (by simp [hl]; rw [sizeLine_eq]; omega) (by simp [hl]; rw [sizeLine_eq]; omega))
    have hs := Heap.SameBut.update h' S (Obj.mapSeq (·.push v))
    have ho := Heap.get?_update_self (Obj.mapSeq (·.push v)) hz.1 rfl
    have e : Obj.mapSeq (·.push v) (listOf vs.toArray c) = listOf (vs ++ [v]).toArray (c + 1) := by simp [Obj.mapSeq]
    rw [e] at ho
    refine wpAny_pure ⟨plainId_quiet PySem.F.plain_extend_loop _, ?_⟩
    refine ih (i + 1) (by omega) (by omega) (vs ++ [v]) (c + 1) nw' g' _ tk' J' (by simp [hl]) (hP.push (hl ▸ hv)) B' (F'.change hs hz.2.1 hz.2.2) X' (N'.setHead (hap _ _ J') hs ho) P' D' ?_
    intro vs c news' h'' tk'' g'' T'' F'' N'' B'' X'' P'' D'' J'' hl'' hP''
    exact ret vs c news' h'' tk'' g'' (T'.trans T'') F'' N'' B'' X'' P'' D'' J'' hl'' hP''
/-- list(it) of an object with __iter__ (itself) and __next__ of its own -/
theorem list_own {C : Addr} {h₀ : Heap} {news : List (Addr × Obj)} {Q E : Value → Shared → Prop} (P : Addr → Nat → Value → Prop) (n : Nat) (J : Addr → Nat → List (Addr × Obj) → Prop) (hn : n ≤ 1000) {oi : Obj} (hc : oi.cls = .ref C) (hmem : (it, oi) ∈ news)
    (hl : peek K ⟨prog, w.params⟩ (typeLookup (.ref C) "__len__") = some none) (hh : peek K ⟨prog, w.params⟩ (typeLookup (.ref C) "__length_hint__") = some none)
    (hJ : ∀ S, (∀ p ∈ news, p.1 < S) → J S 0 news) (hap : ∀ S i news, J S i news → ∀ p ∈ news, p.1 ≠ S)
    (hiter : ∀ (s' : Shared) (news' : List (Addr × Obj)) (Q' : Value → Shared → Prop), (∃ S c, news' = (S, listOf #[] c) :: news) → s'.gens = s.gens → s'.drawn = s.drawn → s'.os = s.os → Fr h₀ L s'.heap m → News h₀ L s'.heap news' → (∀ h' tk', Fr h₀ L h' m → News h₀ L h' news' → Q' (.ref it) { s' with heap := h', toks := tk' }) → wpAny (model prog w) (ktrTop dp (un + 1 + 1) gd cn cs L a ccd [] outer) (pyIter (.ref it)) Q' E s')
    (hstep : ∀ (S : Addr) (i : Nat) (news : List (Addr × Obj)) (vs : List Value) (c : Nat), i < n → J S i news → ToldNextS prog w K dpn unn (.ref it) ((S, listOf vs.toArray c) :: news) (fun r nw => ∃ v nw', r = some v ∧ P S i v ∧ nw = (S, listOf vs.toArray c) :: nw' ∧ J S (i + 1) nw'))
    (hend : ∀ (S : Addr) (news : List (Addr × Obj)) (vs : List Value) (c : Nat), J S n news → ToldNextS prog w K dpn unn (.ref it) ((S, listOf vs.toArray c) :: news) (fun r nw => ∃ nw', r = none ∧ nw = (S, listOf vs.toArray c) :: nw' ∧ J S (n + 1) nw'))
    (B : Below A₀ base outer h₀) (F : Fr h₀ L s.heap m) (X : K.In h₀) (N : News h₀ L s.heap news) (T : Top p loose mean mg mb h₀) (D : KtsDicts (outer.filterMap (·.frame)) h₀)
    (hk : cs.kind = .function) (hdp : dp + dpn < recursionLimit) (hun : un + 10 + unn < cLine) (XB : K.In base) (TB : Top p loose mean mg mb base)
    (ret : ∀ (S : Addr) (vs : List Value) (c : Nat) news' h' tk' g', (∀ p ∈ news, p.1 < S) → KtsTurn (outer.filterMap (·.frame)) h₀ g' → Fr g' L h' m → News g' L h' ((S, listOf vs.toArray c) :: news') → Below A₀ base outer g' → K.In g' → Top p loose mean mg mb g' → KtsDicts (outer.filterMap (·.frame)) g' → J S (n + 1) news' → vs.length = n → AllAt (P S) vs →
      Q (.ref S) { s with heap := h', toks := tk' }) :
    wpAny (model prog w) (ktrTop dp un gd cn cs L a ccd [] outer) (call (.type "list") [.ref it]) Q E s := by
  refine callType_codes (Q₁ := fun obj s₁ => obj = .ref s.heap.objs.size ∧ s₁ = { s with heap := s.heap.push { cls := .type "list", data := .seq #[] } }) PySem.F.called_list (PySem.F.typeCall_list_1 _) PySem.F.entry_list_init
    (code_list_new _ ⟨rfl, rfl⟩) fun obj s₁ h₁ => ?_
  obtain ⟨rfl, rfl⟩ := h₁
  have N1 : News h₀ L (s.heap.push (listOf #[] 0)) ((s.heap.objs.size, listOf #[] 0) :: news) := N.push F (listOf #[] 0)
  have F1 : Fr h₀ L (s.heap.push (listOf #[] 0)) m := F.push _
  have hlt : ∀ p ∈ news, p.1 < s.heap.objs.size := fun p hp => Heap.lt_size (N p hp).1
  refine ⟨⟨_, (N1 _ (.head _)).1, rfl⟩, PySem.F.args_list_init_2 _ _, ?_⟩
  show wpAny _ _ (do let old ← Builtin.List.listItems (.ref s.heap.objs.size); Builtin.List.listUpdate (.ref s.heap.objs.size) (fun _ => #[]); letGo old.toList.reverse; Builtin.List.listExtendWith (.ref s.heap.objs.size) (.ref it) .none) _ _ _
  generalize hS : s.heap.objs.size = S at *
  refine wpAny_bind ?_
  unfold Builtin.List.listItems
  refine wpAny_bind (wpAny_seqItems (N1 _ (.head _)).1 rfl (wpAny_pure ?_))
  show wpAny _ _ (updateSeq S (fun _ => #[]) >>= fun _ => letGo (#[] : Array Value).toList.reverse >>= fun _ => Builtin.List.listExtendWith (.ref S) (.ref it) .none) _ _ _
  refine wpAny_bind (wpAny_updateSeq (N1 _ (.head _)).1 rfl ?_)
  have hap0 : ∀ p ∈ news, p.1 ≠ S := fun p hp => Nat.ne_of_lt (hlt p hp)
  have F2 := F1.change (Heap.SameBut.update _ S (Obj.mapSeq (fun _ => (#[] : Array Value)))) (N1 _ (.head _)).2.1 (N1 _ (.head _)).2.2
  have N2 := N1.setHead hap0 (Heap.SameBut.update _ S (Obj.mapSeq (fun _ => (#[] : Array Value)))) (Heap.get?_update_self (Obj.mapSeq (fun _ => (#[] : Array Value))) (N1 _ (.head _)).1 rfl)
  refine wpAny_bind (wpAny_letGo ?_)
  unfold Builtin.List.listExtendWith
  have hit := (N2 _ (.tail _ hmem)).1
  have ht : Looks (model prog w) ((s.heap.push (listOf #[] 0)).update S (Obj.mapSeq fun _ => (#[] : Array Value))) (typeOf (.ref it)) (.ref C) := (Looks.ld hit).andThen (by rw [hc]; exact .now)
  refine wpAny_bind (ht.here (s := ⟨(s.heap.push (listOf #[] 0)).update S (Obj.mapSeq fun _ => (#[] : Array Value)), _, _, _, _⟩) ?_)
  have h1 : Builtin.List.listSameRef (.ref S) (.ref it) = false := by simp [Builtin.List.listSameRef]; exact fun e => hap0 _ hmem e.symm
  have h2 : (Value.ref C == Value.type "list") = false := rfl
  have h3 : (Value.ref C == Value.type "tuple") = false := rfl
  simp only [h1, h2, h3, Bool.or_false, Bool.false_eq_true, if_false]
  refine wpAny_bind (hiter _ _ _ ⟨S, _, rfl⟩ rfl rfl rfl F2 N2 (fun h' tk' F' N' => ?_))
  have hit' := (N' _ (.tail _ hmem)).1
  have ht' : Looks (model prog w) h' (typeOf (.ref it)) (.ref C) := (Looks.ld hit').andThen (by rw [hc]; exact .now)
  have X' := X.keeps F'.keep
  have hl1 : Looks (model prog w) h' (typeLookup (.ref C) "__len__") none := Looks.of_peek X' hl
  have hl2 : Looks (model prog w) h' (typeLookup (.ref C) "__length_hint__") none := Looks.of_peek X' hh
  have s1 : Looks (model prog w) h' (specialOf (.ref it) "__len__") none := ht'.andThen hl1
  have s2 : Looks (model prog w) h' (specialOf (.ref it) "__length_hint__") none := ht'.andThen hl2
  refine wpAny_bind (wpAny_holding ?_)
  unfold Builtin.List.listLengthHint
  refine wpAny_bind (s1.at ?_)
  dsimp only
  refine wpAny_bind (s2.at ?_)
  refine wpAny_pure ?_
  simp only [Bool.true_or, if_true]
  refine wpAny_bind (wpAny_rule ?_)
  refine wpAny_bind ?_
  show wpAny _ _ (updateSeq S (·.push .none) >>= fun _ => updateSeq S (·.pop)) _ _ _
  have hz := N' _ (.head _)
  refine wpAny_bind (wpAny_updateSeq hz.1 rfl ?_)
  have hs3 := Heap.SameBut.update h' S (Obj.mapSeq (·.push Value.none))
  have F3 := F'.change hs3 hz.2.1 hz.2.2
  have N3 := N'.setHead hap0 hs3 (Heap.get?_update_self (Obj.mapSeq (·.push Value.none)) hz.1 rfl)
  refine wpAny_updateSeq (N3 _ (.head _)).1 rfl ?_
  have hs4 := Heap.SameBut.update (h'.update S (Obj.mapSeq (·.push Value.none))) S (Obj.mapSeq (·.pop))
  have F4 := F3.change hs4 hz.2.1 hz.2.2
  have N4 := N3.setHead hap0 hs4 (Heap.get?_update_self (Obj.mapSeq (·.pop)) (N3 _ (.head _)).1 rfl)
  refine wpAny_pure ⟨plainId_quiet PySem.F.plain_extend_loop _, ?_⟩
  refine list_loop (P := P S) (n := n) (S := S) (it := it) (res := .none) (un := un + 1) (J S) hn (hap S) (hstep S) (hend S) hk hdp (by omega) XB TB n 0 rfl (Nat.zero_le _) [] _ news h₀ _ tk' (hJ S hlt) rfl (fun j v hj => by simp at hj) B F4 X N4 T D ?_
  intro vs c news' h'' tk'' g' T'' F'' N'' B'' X'' P'' D'' J'' hl'' hP''
  exact ⟨rfl, ret S vs c news' h'' tk'' g' hlt T'' F'' N'' B'' X'' P'' D'' J'' hl'' hP''⟩
end
end
section
theorem strs_of : ∀ {vs : List Value} {ws : List (List Nat)}, vs.length = ws.length → AllAt (fun i v => ∃ t, v = .str (S (ws.getD i [])) t) vs → StrsAre vs (ws.map S)
  | [], [], _, _ => StrsAre.nil
  | v :: vs, x :: ws, hl, h => by
    obtain ⟨t, rfl⟩ := h 0 v rfl
    exact StrsAre.cons _ _ (strs_of (by simpa using hl) (fun i v hv => h (i + 1) v hv))
  | [], _ :: _, hl, _ => by cases hl
  | _ :: _, [], hl, _ => by cases hl
/-- the words that a line is read as -/
inductive Runs : List Nat → List (List Nat) → Prop
  | last {l tok qd} : Lx 32 [] false l (none, tok, qd, []) → tok ≠ [] → Runs l [tok]
  | more {l tok qd r ws} : Lx 32 [] false l (some 32, tok, qd, r) → tok ≠ [] → Runs r ws → Runs l (tok :: ws)
theorem LexAt.add {lx ld io iod dq1 dq2 : Addr} {rest : List (Addr × Obj)} (x : LexAt lx ld io iod dq1 dq2 rest) {l : Addr} {o : Obj} (h1 : l ≠ iod) (h2 : l ≠ ld) : LexAt lx ld io iod dq1 dq2 ((l, o) :: rest) :=
  { x with r1 := List.forall_mem_cons.mpr ⟨h1, x.r1⟩, r2 := List.forall_mem_cons.mpr ⟨h2, x.r2⟩ }
theorem told_turn {prog : Program} {w : World} {K : Frag} {dpn unn : Nat} {it : Value} {n1 n2 : List (Addr × Obj)} {P1 P2 : Option Value → List (Addr × Obj) → Prop} (T : ToldNextS prog w K dpn unn it n1 P1) (hn : ∀ q ∈ n1, q ∈ n2) (hP : ∀ r nw, P1 r nw → ∃ nw2, (∀ q ∈ nw2, q ∈ nw) ∧ P2 r nw2) : ToldNextS prog w K dpn unn it n2 P2 := by
  intro p loose mean mg mb dp un gd cn cs a ccd outer A₀ base h₀ L m s Q E B F X N T' hk hdp hun XB TB D hret
  refine T p loose mean mg mb dp un gd cn cs a ccd outer A₀ base h₀ L m s Q E B F X (news_sub N hn) T' hk hdp hun XB TB D ?_
  intro r nw h' tk' g' T'' F' N' B' X' P' D' hp
  obtain ⟨nw2, hs, h2⟩ := hP r nw hp
  exact hret r nw2 h' tk' g' T'' F' (news_sub N' hs) B' X' P' D' h2
section
variable (w : World) (lx ld io iod dq1 dq2 : Addr) (bs : List Nat) (kt ut : Nat → Tok) (t1 t2 t3 u1 u2 : Tok) (rest : List (Addr × Obj)) (ws : List (List Nat))
noncomputable def LJ (l : Addr) (i : Nat) (news : List (Addr × Obj)) : Prop := ∃ (st : Value) (tt u3 : Tok) (pos : Nat), news = lexN w lx ld io iod dq1 dq2 bs kt ut t1 t2 t3 u1 u2 u3 st (.str (S []) tt) pos (dqs dq1 dq2 rest) ∧ pos ≤ bs.length ∧ (∀ p ∈ news, p.1 < l) ∧
  ((∃ ts, st = .str (S [32]) ts ∧ Runs (bs.drop pos) (ws.drop i) ∧ i < ws.length) ∨ (st = .none ∧ bs.length ≤ pos ∧ ws.length ≤ i))
theorem lexN_keys {st st' tk tk' : Value} {u3 u3' : Tok} {pos pos' : Nat} {l : Addr} (h : ∀ p ∈ lexN w lx ld io iod dq1 dq2 bs kt ut t1 t2 t3 u1 u2 u3 st tk pos rest, p.1 < l) : ∀ p ∈ lexN w lx ld io iod dq1 dq2 bs kt ut t1 t2 t3 u1 u2 u3' st' tk' pos' rest, p.1 < l := by
  unfold lexN at *
  simp only [List.forall_mem_cons] at *
  exact h
theorem LJ_step (hb : bs.length ≤ 10000) (hA : LexAt lx ld io iod dq1 dq2 rest) (l : Addr) (i : Nat) (news : List (Addr × Obj)) (vs : List Value) (c : Nat) (hi : i < ws.length) (hJ : LJ w lx ld io iod dq1 dq2 bs kt ut t1 t2 t3 u1 u2 rest ws l i news) :
    ToldNextS PySem.Challenge.pw_il0113_01 w (Mine.K w.params) 20 180 (.ref lx) ((l, listOf vs.toArray c) :: news)
      (fun r nw => ∃ v nw', r = some v ∧ (∃ t, v = .str (S (ws.getD i [])) t) ∧ nw = (l, listOf vs.toArray c) :: nw' ∧ LJ w lx ld io iod dq1 dq2 bs kt ut t1 t2 t3 u1 u2 rest ws l (i + 1) nw') := by
  obtain ⟨st, tt, u3, pos, rfl, hpos, hlt, hst⟩ := hJ
  rcases hst with ⟨ts, rfl, hR, _⟩ | ⟨_, _, h3⟩
  rotate_left
  · omega
  have hA' : LexAt lx ld io iod dq1 dq2 ((l, listOf vs.toArray c) :: rest) := by
    exact hA.add (Ne.symm (Nat.ne_of_lt (hlt (iod, _) (.head _)))) (Ne.symm (Nat.ne_of_lt (hlt (ld, _) (.tail _ (.tail _ (.head _))))))
  have two : ∀ {tok qd st' r'}, Lx 32 [] false (bs.drop pos) (st', tok, qd, r') → tok ≠ [] → ws.getD i [] = tok → (∀ pos', bs.drop pos' = r' → (st' = some 32 ∧ Runs (bs.drop pos') (ws.drop (i + 1)) ∧ i + 1 < ws.length) ∨ (st' = none ∧ bs.length ≤ pos' ∧ ws.length ≤ i + 1)) →
      ToldNextS PySem.Challenge.pw_il0113_01 w (Mine.K w.params) 20 180 (.ref lx) ((l, listOf vs.toArray c) :: lexN w lx ld io iod dq1 dq2 bs kt ut t1 t2 t3 u1 u2 u3 (.str (S [32]) ts) (.str (S []) tt) pos (dqs dq1 dq2 rest))
      (fun r nw => ∃ v nw', r = some v ∧ (∃ t, v = .str (S (ws.getD i [])) t) ∧ nw = (l, listOf vs.toArray c) :: nw' ∧ LJ w lx ld io iod dq1 dq2 bs kt ut t1 t2 t3 u1 u2 rest ws l (i + 1) nw') := by
    intro tok qd st' r' hx ht hw hnext
    refine told_turn (nx_tok w lx ld io iod dq1 dq2 bs kt ut t1 t2 t3 u1 u2 u3 ts tt ((l, listOf vs.toArray c) :: rest) 32 pos st' tok qd r' hx ht hpos hb hA') ?_ ?_
    · unfold lexN dqs
      ((repeat (refine List.forall_mem_cons.mpr ⟨(by first | exact .head _ | exact .tail _ (.head _) | exact .tail _ (.tail _ (.head _)) | exact .tail _ (.tail _ (.tail _ (.head _))) | exact .tail _ (.tail _ (.tail _ (.tail _ (.head _)))) | exact .tail _ (.tail _ (.tail _ (.tail _ (.tail _ (.head _))))) | exact .tail _ (.tail _ (.tail _ (.tail _ (.tail _ (.tail _ (.head _)))))) | exact .tail _ (.tail _ (.tail _ (.tail _ (.tail _ (.tail _ (.tail _ (.head _))))))) | exact .tail _ (.tail _ (.tail _ (.tail _ (.tail _ (.tail _ (.tail _ (.tail _ (.head _)))))))) | exact .tail _ (.tail _ (.tail _ (.tail _ (.tail _ (.tail _ (.tail _ (.tail _ (.tail _ (.head _)))))))))), ?_⟩)); first | exact fun _ h => h | exact fun _ h => .tail _ (h) | exact fun _ h => .tail _ (.tail _ (h)) | exact fun _ h => .tail _ (.tail _ (.tail _ (h))) | exact fun _ h => .tail _ (.tail _ (.tail _ (.tail _ (h)))) | exact fun _ h => .tail _ (.tail _ (.tail _ (.tail _ (.tail _ (h))))) | exact fun _ h => .tail _ (.tail _ (.tail _ (.tail _ (.tail _ (.tail _ (h)))))) | exact fun _ h => .tail _ (.tail _ (.tail _ (.tail _ (.tail _ (.tail _ (.tail _ (h))))))) | exact fun _ h => .tail _ (.tail _ (.tail _ (.tail _ (.tail _ (.tail _ (.tail _ (.tail _ (h)))))))) | exact fun _ h => .tail _ (.tail _ (.tail _ (.tail _ (.tail _ (.tail _ (.tail _ (.tail _ (.tail _ (h))))))))) | exact fun _ h => nomatch h)
    · rintro r nw ⟨ts', tt', u3', pos', t', rfl, hd, hp', rfl⟩
      refine ⟨(l, listOf vs.toArray c) :: lexN w lx ld io iod dq1 dq2 bs kt ut t1 t2 t3 u1 u2 u3' (stV st' ts') (.str (S []) tt') pos' (dqs dq1 dq2 rest), ?_, _, _, rfl, ⟨t', by rw [hw]⟩, rfl, _, tt', u3', pos', rfl, hp', lexN_keys w lx ld io iod dq1 dq2 bs kt ut t1 t2 t3 u1 u2 (dqs dq1 dq2 rest) hlt, ?_⟩
      · unfold lexN dqs
        ((repeat (refine List.forall_mem_cons.mpr ⟨(by first | exact .head _ | exact .tail _ (.head _) | exact .tail _ (.tail _ (.head _)) | exact .tail _ (.tail _ (.tail _ (.head _))) | exact .tail _ (.tail _ (.tail _ (.tail _ (.head _)))) | exact .tail _ (.tail _ (.tail _ (.tail _ (.tail _ (.head _))))) | exact .tail _ (.tail _ (.tail _ (.tail _ (.tail _ (.tail _ (.head _)))))) | exact .tail _ (.tail _ (.tail _ (.tail _ (.tail _ (.tail _ (.tail _ (.head _))))))) | exact .tail _ (.tail _ (.tail _ (.tail _ (.tail _ (.tail _ (.tail _ (.tail _ (.head _)))))))) | exact .tail _ (.tail _ (.tail _ (.tail _ (.tail _ (.tail _ (.tail _ (.tail _ (.tail _ (.head _)))))))))), ?_⟩)); first | exact fun _ h => h | exact fun _ h => .tail _ (h) | exact fun _ h => .tail _ (.tail _ (h)) | exact fun _ h => .tail _ (.tail _ (.tail _ (h))) | exact fun _ h => .tail _ (.tail _ (.tail _ (.tail _ (h)))) | exact fun _ h => .tail _ (.tail _ (.tail _ (.tail _ (.tail _ (h))))) | exact fun _ h => .tail _ (.tail _ (.tail _ (.tail _ (.tail _ (.tail _ (h)))))) | exact fun _ h => .tail _ (.tail _ (.tail _ (.tail _ (.tail _ (.tail _ (.tail _ (h))))))) | exact fun _ h => .tail _ (.tail _ (.tail _ (.tail _ (.tail _ (.tail _ (.tail _ (.tail _ (h)))))))) | exact fun _ h => .tail _ (.tail _ (.tail _ (.tail _ (.tail _ (.tail _ (.tail _ (.tail _ (.tail _ (h))))))))) | exact fun _ h => nomatch h)
      · rcases hnext pos' hd with ⟨rfl, h2, h3⟩ | ⟨rfl, h2, h3⟩
        · exact .inl ⟨ts', rfl, h2, h3⟩
        · exact .inr ⟨rfl, h2, h3⟩
  obtain ⟨x, hx⟩ : ∃ x, ws.drop i = x :: ws.drop (i + 1) := ⟨_, List.drop_eq_getElem_cons hi⟩
  have hg : ws.getD i [] = x := by
    rw [List.drop_eq_getElem_cons hi] at hx
    injection hx with h1 h2
    rw [List.getD_eq_getElem?_getD, List.getElem?_eq_getElem hi]
    exact h1
  rw [hx] at hR
  generalize hd : ws.drop (i + 1) = d at hR
  cases hR with
  | last h1 h2 =>
    refine two h1 h2 hg fun pos' hp' => .inr ⟨rfl, drop_nil hp', ?_⟩
    exact List.drop_eq_nil_iff.mp hd
  | more h1 h2 h3 =>
    refine two h1 h2 hg fun pos' hp' => .inl ⟨rfl, by rw [hp', hd]; exact h3, ?_⟩
    apply Nat.lt_of_not_le
    intro hle
    rw [List.drop_eq_nil_of_le hle] at hd
    subst hd
    cases h3
theorem LJ_end (hb : bs.length ≤ 10000) (hA : LexAt lx ld io iod dq1 dq2 rest) (l : Addr) (news : List (Addr × Obj)) (vs : List Value) (c : Nat) (hJ : LJ w lx ld io iod dq1 dq2 bs kt ut t1 t2 t3 u1 u2 rest ws l ws.length news) :
    ToldNextS PySem.Challenge.pw_il0113_01 w (Mine.K w.params) 20 180 (.ref lx) ((l, listOf vs.toArray c) :: news)
      (fun r nw => ∃ nw', r = none ∧ nw = (l, listOf vs.toArray c) :: nw' ∧ LJ w lx ld io iod dq1 dq2 bs kt ut t1 t2 t3 u1 u2 rest ws l (ws.length + 1) nw') := by
  obtain ⟨st, tt, u3, pos, rfl, hpos, hlt, hst⟩ := hJ
  rcases hst with ⟨ts, rfl, hR, h3⟩ | ⟨rfl, h2, h3⟩
  · omega
  have hA' : LexAt lx ld io iod dq1 dq2 ((l, listOf vs.toArray c) :: rest) := by
    exact hA.add (Ne.symm (Nat.ne_of_lt (hlt (iod, _) (.head _)))) (Ne.symm (Nat.ne_of_lt (hlt (ld, _) (.tail _ (.tail _ (.head _))))))
  refine told_turn (nx_none w lx ld io iod dq1 dq2 bs kt ut t1 t2 t3 u1 u2 u3 tt ((l, listOf vs.toArray c) :: rest) pos hpos h2 hb hA') ?_ ?_
  · unfold lexN dqs
    ((repeat (refine List.forall_mem_cons.mpr ⟨(by first | exact .head _ | exact .tail _ (.head _) | exact .tail _ (.tail _ (.head _)) | exact .tail _ (.tail _ (.tail _ (.head _))) | exact .tail _ (.tail _ (.tail _ (.tail _ (.head _)))) | exact .tail _ (.tail _ (.tail _ (.tail _ (.tail _ (.head _))))) | exact .tail _ (.tail _ (.tail _ (.tail _ (.tail _ (.tail _ (.head _)))))) | exact .tail _ (.tail _ (.tail _ (.tail _ (.tail _ (.tail _ (.tail _ (.head _))))))) | exact .tail _ (.tail _ (.tail _ (.tail _ (.tail _ (.tail _ (.tail _ (.tail _ (.head _)))))))) | exact .tail _ (.tail _ (.tail _ (.tail _ (.tail _ (.tail _ (.tail _ (.tail _ (.tail _ (.head _)))))))))), ?_⟩)); first | exact fun _ h => h | exact fun _ h => .tail _ (h) | exact fun _ h => .tail _ (.tail _ (h)) | exact fun _ h => .tail _ (.tail _ (.tail _ (h))) | exact fun _ h => .tail _ (.tail _ (.tail _ (.tail _ (h)))) | exact fun _ h => .tail _ (.tail _ (.tail _ (.tail _ (.tail _ (h))))) | exact fun _ h => .tail _ (.tail _ (.tail _ (.tail _ (.tail _ (.tail _ (h)))))) | exact fun _ h => .tail _ (.tail _ (.tail _ (.tail _ (.tail _ (.tail _ (.tail _ (h))))))) | exact fun _ h => .tail _ (.tail _ (.tail _ (.tail _ (.tail _ (.tail _ (.tail _ (.tail _ (h)))))))) | exact fun _ h => .tail _ (.tail _ (.tail _ (.tail _ (.tail _ (.tail _ (.tail _ (.tail _ (.tail _ (h))))))))) | exact fun _ h => nomatch h)
  · rintro r nw ⟨rfl, tt', rfl⟩
    refine ⟨(l, listOf vs.toArray c) :: lexN w lx ld io iod dq1 dq2 bs kt ut t1 t2 t3 u1 u2 u3 .none (.str (S []) tt') pos (dqs dq1 dq2 rest), ?_, _, rfl, rfl, _, tt', u3, pos, rfl, hpos, lexN_keys w lx ld io iod dq1 dq2 bs kt ut t1 t2 t3 u1 u2 (dqs dq1 dq2 rest) hlt, .inr ⟨rfl, h2, by omega⟩⟩
    unfold lexN dqs
    ((repeat (refine List.forall_mem_cons.mpr ⟨(by first | exact .head _ | exact .tail _ (.head _) | exact .tail _ (.tail _ (.head _)) | exact .tail _ (.tail _ (.tail _ (.head _))) | exact .tail _ (.tail _ (.tail _ (.tail _ (.head _)))) | exact .tail _ (.tail _ (.tail _ (.tail _ (.tail _ (.head _))))) | exact .tail _ (.tail _ (.tail _ (.tail _ (.tail _ (.tail _ (.head _)))))) | exact .tail _ (.tail _ (.tail _ (.tail _ (.tail _ (.tail _ (.tail _ (.head _))))))) | exact .tail _ (.tail _ (.tail _ (.tail _ (.tail _ (.tail _ (.tail _ (.tail _ (.head _)))))))) | exact .tail _ (.tail _ (.tail _ (.tail _ (.tail _ (.tail _ (.tail _ (.tail _ (.tail _ (.head _)))))))))), ?_⟩)); first | exact fun _ h => h | exact fun _ h => .tail _ (h) | exact fun _ h => .tail _ (.tail _ (h)) | exact fun _ h => .tail _ (.tail _ (.tail _ (h))) | exact fun _ h => .tail _ (.tail _ (.tail _ (.tail _ (h)))) | exact fun _ h => .tail _ (.tail _ (.tail _ (.tail _ (.tail _ (h))))) | exact fun _ h => .tail _ (.tail _ (.tail _ (.tail _ (.tail _ (.tail _ (h)))))) | exact fun _ h => .tail _ (.tail _ (.tail _ (.tail _ (.tail _ (.tail _ (.tail _ (h))))))) | exact fun _ h => .tail _ (.tail _ (.tail _ (.tail _ (.tail _ (.tail _ (.tail _ (.tail _ (h)))))))) | exact fun _ h => .tail _ (.tail _ (.tail _ (.tail _ (.tail _ (.tail _ (.tail _ (.tail _ (.tail _ (h))))))))) | exact fun _ h => nomatch h)
end
end
section
theorem lex_iter (w : World) (lx ld io iod dq1 dq2 : Addr) (bs : List Nat) (kt ut : Nat → Tok) (t1 t2 t3 u1 u2 u3 : Tok) (st tk : Value) (pos : Nat) (rest : List (Addr × Obj)) (l : Addr) (c : Nat)
    (p : Program) (loose : List Str) (mean : ExcName → Option Value) (mg mb : Str → Option Value) (dp un : Nat) (gd : Option (List Code)) (cn : Str) (cs : Scope) (a : Addr) (ccd : Value) (outer : List Env) (A₀ : Around) (base h₀ : Heap) (L : Addr) (m : Str → Option Value) (s : Shared) (Q E : Value → Shared → Prop)
    (B : Below A₀ base outer h₀) (F : Fr h₀ L s.heap m) (X : (Mine.K w.params).In h₀) (N : News h₀ L s.heap ((l, listOf #[] c) :: lexN w lx ld io iod dq1 dq2 bs kt ut t1 t2 t3 u1 u2 u3 st tk pos rest)) (T : Top p loose mean mg mb h₀) (hk : cs.kind = .function) (hdp : dp + 20 < recursionLimit) (hun : un + 180 < cLine)
    (hret : ∀ h' tk', Fr h₀ L h' m → News h₀ L h' ((l, listOf #[] c) :: lexN w lx ld io iod dq1 dq2 bs kt ut t1 t2 t3 u1 u2 u3 st tk pos rest) → Q (.ref lx) { s with heap := h', toks := tk' }) :
    wpAny (model PySem.Challenge.pw_il0113_01 w) (ktrTop dp un gd cn cs L a ccd [] outer) (pyIter (.ref lx)) Q E s := by
  unfold lexN at *
  k_dflt (refine' owit_iter (f := 790) ?F ?X ?I ?hs ?hf ?_; (case F => k_asm); (case X => k_asm); (case I => k_inst); (case hs => k_is); (case hf => k_is))
  refine wpAny_call ?_
  k_dflt (refine' code_def ?k1 ?k2 ?k3 ?k4 ?k5 ?kA ?kF ?kK ?k6 ?k7 ?k8 ?k9 ?kB ?_ ?c2 ?c3 ?c4 ?c5; (case kA => exact rfl); (case kF => exact rfl); (case kK => assumption); (case k1 => k_asm); (case k2 => k_asm); (case k3 => k_asm); (case k4 => k_asm); (case k5 => k_asm); (case k6 => k_is); (case k7 => k_is); (case k8 => ktr_room); (case k9 => first | exact BindsTo.of_eq rfl | exact binds_K (by k_in) rfl (by k_is) rfl rfl rfl); (case c5 => decide); (case kB => exact locs rfl); (case c2 => exact rfl); (case c3 => exact rfl); (case c4 => exact rfl); k_whole; intro g' L' h' FG' F' N' B' X' T'; (try ((refine execs_at (b' := ?kbody) ?kbe ?_); (case kbe => (conv => lhs; whnf)))); (try dsimp only); (try k_fold))
  repeat' (first | (k_unfold; (try dsimp only)) | ((fail_if_success (with_reducible show Q _ _)); first | walk1 | (dsimp only; walk1)))
  (with_reducible rename Fr _ _ _ _ => kF)
  (with_reducible rename News _ _ _ _ => kN)
  exact hret _ _ kF kN
end
section
theorem told_useS {prog : Program} {w : World} {K : Frag} {dpn unn : Nat} {f : Value} {args : List Value} {news : List (Addr × Obj)} {Post : Value → List (Addr × Obj) → Prop} {p : Program} {loose : List Str} {mean : ExcName → Option Value} {mg mb : Str → Option Value} {dp un : Nat} {gd : Option (List Code)} {cn : Str} {cs : Scope} {a : Addr} {ccd : Value} {outer : List Env} {A₀ : Around} {base h₀ : Heap} {L : Addr} {m : Str → Option Value} {s : Shared} {Q E : Value → Shared → Prop}
    (B : Below A₀ base outer h₀) (F : Fr h₀ L s.heap m) (X : K.In h₀) (N : News h₀ L s.heap news) (T : Top p loose mean mg mb h₀) (hk : cs.kind = .function) (XB : K.In base) (TB : Top p loose mean mg mb base) (D : KtsDicts (outer.filterMap (·.frame)) h₀) (C : ToldS prog w K dpn unn f args news Post) (hd : dp + dpn < recursionLimit) (hu : un + unn < cLine)
    (ret : ∀ r nw h' tk' g', KtsTurn (outer.filterMap (·.frame)) h₀ g' → Fr g' L h' m → News g' L h' nw → Below A₀ base outer g' → K.In g' → Top p loose mean mg mb g' → KtsDicts (outer.filterMap (·.frame)) g' → Post r nw → Q r { s with heap := h', toks := tk' }) : wpAny (model prog w) (ktrTop dp un gd cn cs L a ccd [] outer) (call f args) Q E s :=
  C p loose mean mg mb dp un gd cn cs a ccd outer A₀ base h₀ L m s Q E B F X N T hk hd hu XB TB D ret
theorem split_list (w : World) (lx ld io iod dq1 dq2 : Addr) (bs : List Nat) (kt ut : Nat → Tok) (t1 t2 t3 u1 u2 u3 us utk : Tok) (rest : List (Addr × Obj)) (ws : List (List Nat)) (hb : bs.length ≤ 10000) (hr : Runs bs ws) (hw : ws.length ≤ 1000) (hw0 : 0 < ws.length) (hA : LexAt lx ld io iod dq1 dq2 rest) :
    ToldS PySem.Challenge.pw_il0113_01 w (Mine.K w.params) 20 190 (.type "list") [.ref lx] (lexN w lx ld io iod dq1 dq2 bs kt ut t1 t2 t3 u1 u2 u3 (.str (S [32]) us) (.str (S []) utk) 0 (dqs dq1 dq2 rest))
      (fun r nw => ∃ (l : Addr) (vs : List Value) (c : Nat), r = .ref l ∧ nw = (l, listOf vs.toArray c) :: rest ∧ (∀ p ∈ rest, p.1 < l) ∧ StrsAre vs (ws.map S)) := by
  intro p loose mean mg mb dp un gd cn cs a ccd outer A₀ base h₀ L m s Q E B F X N T hk hdp hun XB TB D hret
  refine list_own (K := Mine.K w.params) (C := 800) (dpn := 20) (unn := 180) (fun l i v => ∃ t, v = .str (S (ws.getD i [])) t) ws.length (fun l => LJ w lx ld io iod dq1 dq2 bs kt ut t1 t2 t3 u1 u2 rest ws l) hw (oi := instObj 800 ld) rfl (.tail _ (.tail _ (.tail _ (.head _)))) (by with_unfolding_all rfl) (by with_unfolding_all rfl) ?hJ ?hap ?hiter ?hstep ?hend B F X N T D hk hdp (by omega) XB TB ?ret
  case hJ =>
    intro l hl
    exact ⟨_, _, _, 0, rfl, Nat.zero_le _, hl, .inl ⟨us, rfl, hr, hw0⟩⟩
  case hap =>
    rintro l i news ⟨st, tt, u3, pos, rfl, hpos, hlt, hst⟩ q hq
    exact Nat.ne_of_lt (hlt q hq)
  case hiter =>
    rintro s' news' Q' ⟨l, c, rfl⟩ e1 e2 e3 F' N' ret'
    exact lex_iter w lx ld io iod dq1 dq2 bs kt ut t1 t2 t3 u1 u2 u3 _ _ 0 (dqs dq1 dq2 rest) l c p loose mean mg mb dp (un + 1 + 1) gd cn cs a ccd outer A₀ base h₀ L m s' Q' E B F' X N' T hk hdp (by omega) ret'
  case hstep =>
    intro l i news vs c hi hJ
    exact LJ_step w lx ld io iod dq1 dq2 bs kt ut t1 t2 t3 u1 u2 rest ws hb hA l i news vs c hi hJ
  case hend =>
    intro l news vs c hJ
    exact LJ_end w lx ld io iod dq1 dq2 bs kt ut t1 t2 t3 u1 u2 rest ws hb hA l news vs c hJ
  case ret =>
    rintro l vs c news' h' tk' g' hlt T' F' N' B' X' P' D' ⟨st, tt, u3', pos, rfl, hpos, hlt', hst⟩ hl hP
    refine hret _ ((l, listOf vs.toArray c) :: rest) h' tk' g' T' F' (news_sub N' ?_) B' X' P' D' ⟨l, vs, c, rfl, rfl, ?_, strs_of hl hP⟩
    · intro q hq
      unfold lexN dqs
      simp only [List.mem_cons] at hq ⊢
      rcases hq with h | h <;> simp [h]
    · intro q hq
      exact hlt q (by simp only [dqs, List.mem_cons]; simp [hq])
end
section
section
variable {prog : Program} {w : World} {A₀ A : Around} {s : Shared} {base h₀ g₀ : Heap} {outer : List Env} {L a : Addr} {m : Str → Option Value} {cn : Str} {cs : Scope} {ccd : Value} {news : List (Addr × Obj)} {K : Frag} {p : Program} {loose : List Str} {mean : ExcName → Option Value} {mg mb : Str → Option Value}
    {R : Result → Shared → Prop} {name qual : Str} {params : Arguments} {body : List Stmt} {scope : Scope} {dV kV doc pm cdv ct oc : Value} {an od : Option Addr} {osl : Array (Option Value)} {f : Addr} {args : Args} {binds : List (Str × Value)}
/-- behind a call whose frames outside may have been noted: the caller's own things stand -/
theorem back_S {cl : List (Str × Addr)} (B : Below A₀ base outer h₀) (F : Fr h₀ L s.heap m) (N : News h₀ L s.heap news) (XB : K.In base) (TB : Top p loose mean mg mb base) (D : KtsDicts (outer.filterMap (·.frame)) h₀) (T0 : KtsTurn (outer.filterMap (·.frame)) g₀ h₀)
    (hA : A.frames = some (envX cn cs L a ccd cl :: outer)) (hck : cs.kind = .function) :
    ∃ g, h₀.StaysIn g ∧ Fr h₀ L g m ∧ Below A base (envX cn cs L a ccd cl :: outer) g ∧ KtsDicts ((envX cn cs L a ccd cl :: outer).filterMap (·.frame)) g ∧ (∀ b o, g.get? b = some o → s.heap.get? b = some o) ∧ g.objs.size = s.heap.objs.size ∧ (∀ q ∈ news, g.get? q.1 = none) ∧
      ∀ v s', LeaveS ((envX cn cs L a ccd cl :: outer).filterMap (·.frame)) A₀ base outer K p loose mean mg mb g₀ h₀ L m g R v s' → R (.ok (.ret v)) s' := by
  have away : ∀ b o, h₀.get? b = some o → b ∉ news.map (·.1) := by
    intro b o e hb
    obtain ⟨q, hq, rfl⟩ := List.mem_map.mp hb
    rw [(N q hq).2.2] at e
    cases e
  have st : h₀.StaysIn (hideAll s.heap (news.map (·.1))) := fun b o e => hideAll_get _ (F.keep b o e) (away b o e)
  obtain ⟨oL, es, ep, hL, hLd, hLk, hLf⟩ := F.ns
  have awayL : L ∉ news.map (·.1) := by
    intro hb
    obtain ⟨q, hq, e⟩ := List.mem_map.mp hb
    exact (N q hq).2.1 e
  have hLg := hideAll_get (news.map (·.1)) hL awayL
  have hN : ∀ h', h'.get? L = some oL → Heap.Ns h' L m := fun h' e => ⟨oL, es, ep, e, hLd, hLk, hLf⟩
  have hNs : ∀ (sl : Array (Option Value)) h', h'.get? L = some { oL with slots := sl } → Heap.Ns h' L m := fun sl h' e => ⟨_, es, ep, e, hLd, hLk, hLf⟩
  have B₁ := pushX (env := envX cn cs L a ccd cl) B F rfl hck
  have B₂ : Below A base (envX cn cs L a ccd cl :: outer) (hideAll s.heap (news.map (·.1))) := by
    refine ⟨hA, fun b o e => st b o (B.stays b o e), funFrames_hideAll B₁.frames fun env he b hb hf => ?_⟩
    rcases List.mem_cons.mp he with rfl | he
    · exact awayL ((Option.some.inj hf : L = b) ▸ hb)
    · obtain ⟨L₁, o₁, e₁, e₂⟩ := funFrames_in B.frames env he
      rw [e₁] at hf
      exact away L₁ o₁ e₂ ((Option.some.inj hf : L₁ = b) ▸ hb)
  refine ⟨_, st, ⟨hN _ hLg, st, F.above⟩, B₂, ?_, fun b o e => of_hideAll _ e, hideAll_size _ _, fun q hq => hideAll_none _ (List.mem_map_of_mem hq), ?_⟩
  · intro b hb
    rcases List.mem_cons.mp (show b ∈ L :: outer.filterMap (·.frame) from hb) with rfl | hb
    · exact ⟨oL, es, ep, hLg, hLd⟩
    · obtain ⟨o, es', n', ho', hd'⟩ := D b hb
      exact ⟨o, es', n', st b o ho', hd'⟩
  intro v s' hl
  have nL₀ : h₀.get? L = none := kts_self F
  have noneOf : ∀ {g' : Heap} {q : Addr}, KtsTurn ((envX cn cs L a ccd cl :: outer).filterMap (·.frame)) (hideAll s.heap (news.map (·.1))) g' → g'.get? q = none → h₀.get? q = none := by
    intro g' q T' hq
    cases e : h₀.get? q with
    | none => rfl
    | some o =>
      obtain ⟨sl', hs'⟩ := T'.up (st _ _ e)
      rw [hs'] at hq
      cases hq
  rcases hl with ⟨L', m', news', F', N', k⟩ | ⟨g', L', m', news', T', F', N', k⟩
  · refine k ⟨hN _ (F'.keep _ _ hLg), fun b o e => F'.keep b o (st b o e), F.above⟩ fun q hq => ⟨(N' q hq).1, fun e => ?_, ?_⟩
    · have := (N' q hq).2.2
      rw [e, hLg] at this
      cases this
    · cases e : h₀.get? q.1 with
      | none => rfl
      | some o =>
        have := (N' q hq).2.2
        rw [st _ _ e] at this
        cases this
  · obtain ⟨sl, hs⟩ := T'.up hLg
    have otherF : ∀ b, b ∈ (envX cn cs L a ccd cl :: outer).filterMap (·.frame) → (h₀.get? b).isSome = true → b ∈ outer.filterMap (·.frame) := by
      intro b hb hsome
      rcases List.mem_cons.mp (show b ∈ L :: outer.filterMap (·.frame) from hb) with rfl | hb
      · rw [nL₀] at hsome; cases hsome
      · exact hb
    obtain ⟨T₁, S₁⟩ := kts_turn_at (h := s'.heap) (fs := outer.filterMap (·.frame)) (g := h₀)
      (fun b hb => let ⟨_, o, ho', _⟩ := B.frames.mem hb; ⟨o, ho'⟩)
      (fun b o e hn => F'.keep b o (T'.other b o (st b o e) (fun hb => hn (otherF b hb (by rw [e]; rfl)))))
      (fun b o e _ => let ⟨sl', hs'⟩ := T'.up (st b o e); ⟨sl', F'.keep _ _ hs'⟩)
    have B₃ : Below A₀ base outer (ktsHeap s'.heap (outer.filterMap (·.frame)) h₀) := by
      refine ⟨B.stack, fun b o e => T₁.other b o (B.stays b o e) (fun hb => ?_), B.frames.of_keeps fun b o e _ => ?_⟩
      · rw [(B.frames.mem hb).1] at e
        cases e
      · obtain ⟨sl', hs'⟩ := T₁.up e
        exact ⟨_, hs', rfl⟩
    refine k _ (T0.trans T₁) ⟨hNs sl _ (F'.keep _ _ hs), S₁, by rw [T₁.size]; exact F.above⟩ (fun q hq => ⟨(N' q hq).1, fun e => ?_, T₁.none_ _ (noneOf T' (N' q hq).2.2)⟩) B₃ (XB.keeps B₃.stays) (TB.keeps B₃.stays) (D.turn T₁)
    have := (N' q hq).2.2
    rw [e, hs] at this
    cases this
/-- entry into a text without cells, from a frame that may have some, where the frames outside may be noted -/
theorem code_defSX {cl : List (Str × Addr)} (B : Below A₀ base outer h₀) (F : Fr h₀ L s.heap m) (X₀ : K.In h₀) (N : News h₀ L s.heap news) (T : Top p loose mean mg mb h₀) (XB : K.In base) (TB : Top p loose mean mg mb base) (D : KtsDicts (outer.filterMap (·.frame)) h₀)
    (T0 : KtsTurn (outer.filterMap (·.frame)) g₀ h₀) (hA : A.frames = some (envX cn cs L a ccd cl :: outer))
    (ho : K.lookup f = some ⟨oc, od, .func (fnOf name qual params body scope dV kV doc pm an cdv ct), osl⟩) (hcd : codeIn K cdv qual = true) (hroom : A.depth < recursionLimit)
    (hbind : BindsTo s (fnOf name qual params body scope dV kV doc pm an cdv ct) args binds) (hloc : ∀ y ∈ binds, scope.names.lookup y.1 = some .local)
    (h : ∀ g L' h₁, Fr h₀ L g m → Fr g L' h₁ (fun y => binds.reverse.lookup y) → News g L' h₁ news → Below A base (envX cn cs L a ccd cl :: outer) g → K.In g → Top p loose mean mg mb g → KtsDicts ((envX cn cs L a ccd cl :: outer).filterMap (·.frame)) g →
      wpAny (model prog w) (A.deeper (envOf qual scope L' f cdv)) (execs body (envOf qual scope L' f cdv))
        (fun fl s' => LeaveS ((envX cn cs L a ccd cl :: outer).filterMap (·.frame)) A₀ base outer K p loose mean mg mb g₀ h₀ L m g R (match fl with | .ret v => v | _ => .none) s')
        (fun e s' => wpAny (model prog w) (A.deeper (envOf qual scope L' f cdv)) (leaving (envOf qual scope L' f cdv) e) (fun _ s'' => R (.error e) s'') (fun e' s'' => R (.error e') s'') s')
        { s with heap := h₁, toks := s.toks + binds.length })
    (hck : cs.kind = .function) (hco : scope.isCoroutine = false) (hgen : scope.isGenerator = false) (hk : scope.kind = .function)
    (hcell : ∀ x ∈ scope.names, x.2 ≠ .cell) : codeAny (model prog w) A (.call (.ref f) args) R s := by
  have X := X₀.keeps F.keep
  obtain ⟨g, st, FG, B₂, D₂, hsub, hsize, hnone, leave⟩ := back_S (R := R) B F N XB TB D T0 hA hck
  refine codeAny_call_def (fd := fnOf name qual params body scope dV kV doc pm an cdv ct) (body := body) (binds := binds) hroom (X _ _ ho) rfl (T.nolimit.keeps F.keep) (codeRec_of X hcd) rfl hbind hcell hloc (fun h₁ hns keep => ?_) hco hgen hk
  exact wpAny_mono (h g s.heap.objs.size h₁ FG ⟨hns, fun b o e => keep b o (hsub b o e), Nat.le_of_eq hsize⟩ (fun q hq => ⟨keep _ _ (N q hq).1, Nat.ne_of_lt (Heap.lt_size (N q hq).1), hnone q hq⟩) B₂ (X₀.keeps st) (T.keeps st) D₂) (fun fl s' hl => leave _ s' hl) fun _ _ y => y
/-- entry into a text with cells, where the frames outside may be noted -/
theorem code_defSC {cl : List (Str × Addr)} (B : Below A₀ base outer h₀) (F : Fr h₀ L s.heap m) (X₀ : K.In h₀) (N : News h₀ L s.heap news) (T : Top p loose mean mg mb h₀) (XB : K.In base) (TB : Top p loose mean mg mb base) (D : KtsDicts (outer.filterMap (·.frame)) h₀)
    (T0 : KtsTurn (outer.filterMap (·.frame)) g₀ h₀) (hA : A.frames = some (envX cn cs L a ccd cl :: outer))
    (ho : K.lookup f = some ⟨oc, od, .func (fnOf name qual params body scope dV kV doc pm an cdv ct), osl⟩) (hcd : codeIn K cdv qual = true) (hroom : A.depth < recursionLimit)
    (hbind : BindsTo s (fnOf name qual params body scope dV kV doc pm an cdv ct) args binds) (hkind : (binds.all fun y => scope.names.lookup y.1 == some .local || scope.names.lookup y.1 == some .cell) = true)
    (hnd : ((cellsFrom 0 scope.names []).map (·.1)).Nodup)
    (h : ∀ g L' h₁ tk cells, Fr h₀ L g m → Fr g L' h₁ (bindL (envOfC qual scope L' f cdv).kindOf binds fun _ => none) → News g L' h₁ (cells ++ news) → CellsAre (bindC (envOfC qual scope L' f cdv).kindOf binds fun _ => none) (cellsFrom (L' + 1) scope.names []) cells →
      Below A base (envX cn cs L a ccd cl :: outer) g → K.In g → Top p loose mean mg mb g → KtsDicts ((envX cn cs L a ccd cl :: outer).filterMap (·.frame)) g → (∀ q ∈ news, q.1 < L') → s.toks ≤ tk →
      wpAny (model prog w) (A.deeper (envOfC qual scope L' f cdv)) (execs body (envOfC qual scope L' f cdv))
        (fun fl s' => LeaveS ((envX cn cs L a ccd cl :: outer).filterMap (·.frame)) A₀ base outer K p loose mean mg mb g₀ h₀ L m g R (match fl with | .ret v => v | _ => .none) s')
        (fun e s' => wpAny (model prog w) (A.deeper (envOfC qual scope L' f cdv)) (leaving (envOfC qual scope L' f cdv) e) (fun _ s'' => R (.error e) s'') (fun e' s'' => R (.error e') s'') s')
        { s with heap := h₁, toks := tk })
    (hck : cs.kind = .function) (hco : scope.isCoroutine = false) (hgen : scope.isGenerator = false) (hk : scope.kind = .function) : codeAny (model prog w) A (.call (.ref f) args) R s := by
  have X := X₀.keeps F.keep
  obtain ⟨g, st, FG, B₂, D₂, hsub, hsize, hnone, leave⟩ := back_S (R := R) B F N XB TB D T0 hA hck
  refine codeAny_call_function (fd := fnOf name qual params body scope dV kV doc pm an cdv ct) hroom (X _ _ ho) rfl hco hgen rfl (codeRec_of X hcd) (hbind _ _ _ _ ?_)
  refine wpAny_mono (wpAny_toks_of (n := s.toks) (Nat.le_refl _) (wpAny_newFunctionEnv_cells (Q := fun env' s' => env' = _ ∧ InCallC s env'.locals (bindL env'.kindOf binds fun _ => none) env'.cells (bindC env'.kindOf binds fun _ => none) s') hk (kindsX hkind _) fun env' he s' x => ⟨he, x⟩)) (fun env' s' hx => ?_) (fun _ _ hx => hx.2)
  obtain ⟨hle, he, x⟩ := hx
  subst he
  refine ⟨(T.keeps F.keep).nolimit.keeps x.toInCall.keep, codeAny_func ?_⟩
  obtain ⟨h₁, tk, rfl, _⟩ := x.done
  have hsz : g.objs.size ≤ s.heap.objs.size := Nat.le_of_eq hsize
  have keep : ∀ b o, s.heap.get? b = some o → h₁.get? b = some o := x.toInCall.keep
  obtain ⟨cells, NC, Y⟩ := Cl.news (h₀ := g) hsz fun n c hm => ⟨x.cell n c (lookup_of_mem_nodup (cellsFrom_names scope.names 0 (s.heap.objs.size + 1) [] [] rfl ▸ hnd) hm), x.above n c hm⟩
  refine wpAny_mono (h g s.heap.objs.size h₁ tk cells FG ⟨x.toInCall.ns, fun b o e => keep b o (hsub b o e), hsz⟩ ?_ Y B₂ (X₀.keeps st) (T.keeps st) D₂ (fun q hq => Heap.lt_size (N q hq).1) hle) (fun fl s' hl => leave _ s' hl) fun _ _ y => y
  intro q hq
  rcases List.mem_append.mp hq with hq | hq
  · exact NC q hq
  · exact ⟨keep _ _ (N q hq).1, Nat.ne_of_lt (Heap.lt_size (N q hq).1), hnone q hq⟩
end
/-- as ToldS, from any frame -/
noncomputable def ToldX (prog : Program) (w : World) (K : Frag) (dpn unn : Nat) (Pre : Nat → Prop) (f : Value) (args : List Value) (news : List (Addr × Obj)) (Post : Value → List (Addr × Obj) → Prop) : Prop :=
  ∀ (p : Program) (loose : List Str) (mean : ExcName → Option Value) (mg mb : Str → Option Value) (dp un : Nat) (gd : Option (List Code)) (cn : Str) (cs : Scope) (a : Addr) (ccd : Value) (cl : List (Str × Addr)) (outer : List Env) (A₀ : Around) (base h₀ : Heap) (L : Addr) (m : Str → Option Value) (s : Shared) (Q E : Value → Shared → Prop),
    Below A₀ base outer h₀ → Fr h₀ L s.heap m → K.In h₀ → News h₀ L s.heap news → Top p loose mean mg mb h₀ → cs.kind = .function → dp + dpn < recursionLimit → un + unn < cLine → K.In base → Top p loose mean mg mb base → KtsDicts (outer.filterMap (·.frame)) h₀ → Pre s.toks →
    (∀ r nw h' tk' g', KtsTurn (outer.filterMap (·.frame)) h₀ g' → Fr g' L h' m → News g' L h' nw → Below A₀ base outer g' → K.In g' → Top p loose mean mg mb g' → KtsDicts (outer.filterMap (·.frame)) g' → Post r nw → Q r { s with heap := h', toks := tk' }) →
    wpAny (model prog w) (ktrTop dp un gd cn cs L a ccd cl outer) (call f args) Q E s
end
section
@[irreducible] noncomputable def xPut (C : Cf) (q : Nat × Nat) (x : Str) (v : Value) (m : List (Str × Value × An)) (o : List (Addr × AO)) (tk : Tok) (k : List (Str × Value × An) → List (Addr × AO) → Tok → Prop) : Prop := writeAt C q x v ⟨m, o, tk, []⟩ fun st => k st.m st.o st.tk
theorem news_mid {h₀ h : Heap} {L : Addr} {a : Addr × Obj} {l r : List (Addr × Obj)} (N : News h₀ L h (a :: (l ++ r))) : News h₀ L h (l ++ a :: r) := fun q hq => N q (by
  rcases List.mem_append.mp hq with h | h
  · exact .tail _ (List.mem_append_left _ h)
  · rcases List.mem_cons.mp h with rfl | h
    · exact .head _
    · exact .tail _ (List.mem_append_right _ h))
theorem Inv.more {C : Cf} {rest : List (Addr × Obj)} {m : List (Str × Value × An)} {o : List (Addr × AO)} (I : Inv C rest m o) {d : Addr} {x : Obj} (h : ∀ z ∈ denO o ++ rest, z.1 < d) : Inv C ((d, x) :: rest) m o :=
  ⟨I.an, fun j hj d' y hg => ⟨(I.al j hj d' y hg).1, List.forall_mem_cons.mpr ⟨Nat.ne_of_gt (h _ (List.mem_append_left _ (getAt_mem hg))), (I.al j hj d' y hg).2⟩⟩⟩
section
variable {prog : Program} {w : World} {K : Frag} {A : Around} {E : Value → Shared → Prop} {cn : Str} {L a : Addr} {ccd : Value} {cl : List (Str × Addr)} {h₀ : Heap} {m₁ : Str → Option Value} {rest : List (Addr × Obj)} {C : Cf} {p : Program} {loose : List Str} {mg mb : Str → Option Value} {s : Shared} {Q : Flow → Shared → Prop}
/-- a fresh queue stored into a field -/
theorem asg_dq {m : List (Str × Value × An)} {o : List (Addr × AO)} (H : Has prog w K A E h₀ L C p loose mg mb) (I : Inv C rest m o) (F : Fr h₀ L s.heap (denM m m₁)) (N : News h₀ L s.heap (denO o ++ rest)) {sx x dx : Str} {xp ap np pos dp : Pos} {v : Value} {q : Nat × Nat} (hs : lkM sx m = some (v, some q)) (hl : C.cs.names.lookup sx = some .local) (hn : okNm sx = true) (hd : C.cs.names.lookup dx = some .globalImplicit) (hdn : okNm dx = true) (hg : nsIn K mainGlobals dx = some (some (.type "collections.deque")))
    (h : ∀ dq tk, (∀ z ∈ denO o ++ rest, z.1 < dq) → xPut C q x (.ref dq) m o tk fun m' o' tk' => ∀ h', Fr h₀ L h' (denM m' m₁) → News h₀ L h' (denO o' ++ (dq, dqO) :: rest) → Q .next { s with heap := h', toks := tk' }) :
    wpAny (model prog w) A (exec (.Assign [.Attribute (.Name sx xp) x ap] (.Call (.Name dx np) [] [] dp) pos) (eX cn C L a ccd cl)) Q E s := by
  refine plainObj_wpAny_Assign_Attribute (Call_ (nameX_K F H.X H.T hg ?_ H.hk hd (okNm_of hdn))) rfl
  refine callWith_type0 (call_dq F N fun dq h' F' N' lt => ?_)
  obtain ⟨h1, y, h2⟩ := lkM_den (m₁ := m₁) hs
  refine nameX_L F' h1 ?_ H.hk hl (okNm_of hn)
  have hw := h dq s.toks lt
  unfold xPut at hw
  refine writeAt_ok (s₀ := s) (rest := (dq, dqO) :: rest) (st := ⟨m, o, s.toks, []⟩) H.hW H.hS H.X (I.an _ _ _ h2) (I.more lt) ⟨F', news_mid N', rfl, rfl⟩ hw fun st' s' hk em I' R' => ?_
  have := hk s'.heap R'.F R'.N
  rw [R'.eq, R'.tk]
  exact this
end
noncomputable def siF : Stmt := inS (atS 32) 0
noncomputable def siB : List Stmt := fnB siF
noncomputable def siN : List Str := ["instream", "infile", "posix", "eof", "commenters", "wordchars", "whitespace", "whitespace_split", "quotes", "escape", "escapedquotes", "state", "pushback", "lineno", "debug", "token", "filestack", "source", "_punctuation_chars"].map Str.ofString
noncomputable def siA : List (Addr × List Str) := [(800, siN)]
noncomputable abbrev siC (w : World) : Cf := ⟨fnS siF, siA, siA, [], [3], [], fun x => PyData.keyHash w.params x, [], fun _ _ _ _ _ => False⟩
theorem siA_ok (P : Params) : okAB (Mine.K P) siA = true := by kernel_rfl
theorem siS_ok (P : Params) : okSB (Mine.K P) siA = true := by kernel_rfl
noncomputable abbrev siM (lx io : Addr) (t : Tok) (bs : List Nat) : List (Str × Value × An) := [(Str.ofString "instream", .ref io, none), (Str.ofString "punctuation_chars", .bool false, none), (Str.ofString "posix", .bool true, none), (Str.ofString "infile", .none, none), (Str.ofString "instream", .str (S bs) t, none), (Str.ofString "self", .ref lx, some (2, 3))]
noncomputable abbrev siO (lx ld io iod : Addr) (D : Obj) (es : List DictEntry) (n : Nat) : List (Addr × AO) := [(io, .inst 665 iod), (iod, .raw D), (lx, .inst 800 ld), (ld, .dict es n)]
/-- the entries as far as they are laid -/
noncomputable abbrev siE (w : World) (k u : Nat → Tok) (io : Addr) (cm : Str) (sp : Bool) (more : List DictEntry) : List DictEntry := ent w "instream" (k 0) (.ref io) :: ent w "infile" (k 1) .none :: ent w "posix" (k 2) (.bool true) :: ent w "eof" (k 3) .none :: ent w "commenters" (k 4) (.str cm (u 4)) :: ent w "wordchars" (k 5) (.str wch (u 5)) :: ent w "whitespace" (k 6) (.str (Str.ofString " \t\r\n") (u 6)) :: ent w "whitespace_split" (k 7) (.bool sp) :: ent w "quotes" (k 8) (.str (Str.ofString "'\"") (u 8)) :: ent w "escape" (k 9) (.str (Str.ofString "\\") (u 9)) :: ent w "escapedquotes" (k 10) (.str (Str.ofString "\"") (u 10)) :: ent w "state" (k 11) (.str (S [32]) (u 11)) :: more
noncomputable abbrev siP (w : World) (k u : Nat → Tok) (dq1 : Addr) (more : List DictEntry) : List DictEntry := ent w "pushback" (k 12) (.ref dq1) :: more
noncomputable abbrev siQ (w : World) (k u : Nat → Tok) (more : List DictEntry) : List DictEntry := ent w "lineno" (k 13) (.int 1 (u 13)) :: ent w "debug" (k 14) (.int 0 (u 14)) :: ent w "token" (k 15) (.str (S []) (u 15)) :: more
section
variable {w : World} {lx ld io iod dq1 dq2 : Addr} {D : Obj} {bs : List Nat} {t : Tok} {ku uu : Nat → Tok} {k : Flow → List (Str × Value × An) → List (Addr × AO) → Tok → Prop} {tk : Tok}
noncomputable abbrev lk (l : List Tok) (n : Nat) : Tok := l.getD n 0
theorem eq_si1 : xRun (siC w) 60 ((siB.drop 1).take 12) (siM lx io t bs) (siO lx ld io iod D [] 0) tk [] k = ∀ t1 n1 : Tok, k .next (siM lx io t bs) (siO lx ld io iod D (siE w (lk [tk + 1, tk + 3, tk + 5, tk + 7, tk + 10, tk + 13, n1 + 4, n1 + 6, n1 + 9, n1 + 12, n1 + 15, n1 + 18]) (lk [0, 0, 0, 0, tk + 8, t1, n1 + 2, 0, n1 + 7, n1 + 10, n1 + 13, n1 + 16]) io (Str.ofString "#") false []) 12) (n1 + 19) := by kernel_rfl
theorem eq_si2 : xRun (siC w) 60 ((siB.drop 14).take 3) (siM lx io t bs) (siO lx ld io iod D (siE w ku uu io (Str.ofString "#") false (siP w ku uu dq1 [])) 13) tk [] k = k .next (siM lx io t bs) (siO lx ld io iod D (siE w ku uu io (Str.ofString "#") false (siP w ku uu dq1 [ent w "lineno" (tk + 2) (.int 1 tk), ent w "debug" (tk + 5) (.int 0 (tk + 3)), ent w "token" (tk + 8) (.str (S []) (tk + 6))])) 16) (tk + 9) := by kernel_rfl
theorem eq_si3 : xRun (siC w) 60 ((siB.drop 18).take 4) (siM lx io t bs) (siO lx ld io iod D (siE w ku uu io (Str.ofString "#") false (siP w ku uu dq1 (siQ w ku uu [ent w "filestack" (ku 16) (.ref dq2)]))) 17) tk [] k = k .next ((Str.ofString "punctuation_chars", .str (Str.ofString "") (tk + 2), none) :: siM lx io t bs) (siO lx ld io iod D (siE w ku uu io (Str.ofString "#") false (siP w ku uu dq1 (siQ w ku uu [ent w "filestack" (ku 16) (.ref dq2), ent w "source" (tk + 1) .none, ent w "_punctuation_chars" (tk + 5) (.str (Str.ofString "") (tk + 2))]))) 19) (tk + 8) := by kernel_rfl
noncomputable abbrev up (f : Nat → Tok) (i : Nat) (v : Tok) (n : Nat) : Tok := if n = i then v else f n
theorem eq_put1 {k : List (Str × Value × An) → List (Addr × AO) → Tok → Prop} : xPut (siC w) (2, 3) (Str.ofString "pushback") (.ref dq1) (siM lx io t bs) (siO lx ld io iod D (siE w ku uu io (Str.ofString "#") false []) 12) tk k = k (siM lx io t bs) (siO lx ld io iod D (siE w ku uu io (Str.ofString "#") false [ent w "pushback" (tk + 1) (.ref dq1)]) 13) (tk + 2) := by kernel_rfl
theorem eq_put2 {k : List (Str × Value × An) → List (Addr × AO) → Tok → Prop} : xPut (siC w) (2, 3) (Str.ofString "filestack") (.ref dq2) (siM lx io t bs) (siO lx ld io iod D (siE w ku uu io (Str.ofString "#") false (siP w ku uu dq1 (siQ w ku uu []))) 16) tk k = k (siM lx io t bs) (siO lx ld io iod D (siE w ku uu io (Str.ofString "#") false (siP w ku uu dq1 (siQ w ku uu [ent w "filestack" (tk + 1) (.ref dq2)]))) 17) (tk + 2) := by kernel_rfl
noncomputable def spF : Stmt := atS 33
noncomputable abbrev spC (w : World) : Cf := ⟨fnS spF, siA, siA, [], [3], [], fun x => PyData.keyHash w.params x, [], fun _ _ _ _ _ => False⟩
noncomputable abbrev spM (lx : Addr) (t : Tok) (bs : List Nat) : List (Str × Value × An) := [(Str.ofString "lex", .ref lx, some (2, 3)), (Str.ofString "posix", .bool true, none), (Str.ofString "comments", .bool false, none), (Str.ofString "s", .str (S bs) t, none)]
noncomputable abbrev siZ (w : World) (k u : Nat → Tok) (dq1 dq2 : Addr) : List DictEntry := siP w k u dq1 (siQ w k u [ent w "filestack" (k 16) (.ref dq2), ent w "source" (k 17) .none, ent w "_punctuation_chars" (k 18) (.str (Str.ofString "") (u 18))])
theorem eq_sp : xRun (spC w) 60 (((fnB spF).drop 2).take 2) (spM lx t bs) (siO lx ld io iod D (siE w ku uu io (Str.ofString "#") false (siZ w ku uu dq1 dq2)) 19) tk [] k = k .next (spM lx t bs) (siO lx ld io iod D (siE w ku (up uu 4 (tk + 2)) io (Str.ofString "") true (siZ w ku (up uu 4 (tk + 2)) dq1 dq2)) 19) (tk + 5) := by kernel_rfl
end
theorem st13 : ∃ xp ap np dp pos, nthS siB 13 = .Assign [.Attribute (.Name (Str.ofString "self") xp) (Str.ofString "pushback") ap] (.Call (.Name (Str.ofString "deque") np) [] [] dp) pos := ⟨_, _, _, _, _, rfl⟩
theorem st17 : ∃ xp ap np dp pos, nthS siB 17 = .Assign [.Attribute (.Name (Str.ofString "self") xp) (Str.ofString "filestack") ap] (.Call (.Name (Str.ofString "deque") np) [] [] dp) pos := ⟨_, _, _, _, _, rfl⟩
theorem siB_is : siB.drop 1 = (siB.drop 1).take 12 ++ nthS siB 13 :: ((siB.drop 14).take 3 ++ nthS siB 17 :: (siB.drop 18).take 4) := by kernel_rfl
theorem siInv {C : Cf} (hmu : C.mu = [3]) {lx ld io iod : Addr} {D : Obj} {es : List DictEntry} {n : Nat} {rest : List (Addr × Obj)} (hr : ∀ x ∈ rest, x.1 ≠ ld) (h1 : io ≠ ld) (h2 : iod ≠ ld) (h3 : lx ≠ ld) {m : List (Str × Value × An)} (hm : ∀ q ∈ m, q.2.2 = none ∨ (q.2.1 = .ref lx ∧ q.2.2 = some (2, 3))) : Inv C rest m (siO lx ld io iod D es n) := by
  refine Inv.of (fun q hq => ?_) fun j hj => ?_
  · obtain ⟨x, v, an⟩ := q
    rcases hm _ hq with e | ⟨e1, e2⟩
    · dsimp only at e; rw [e]; trivial
    · dsimp only at e1 e2; rw [e1, e2]; exact ⟨_, _, _, _, _, rfl, rfl, rfl⟩
  · rw [hmu] at hj
    rw [List.mem_singleton.mp hj]
    refine alone_of (pre := [_, _, _]) (post := []) (fun q hq => ?_) hr
    rcases List.mem_cons.mp hq with rfl | hq
    · exact h1
    · rcases List.mem_cons.mp hq with rfl | hq
      · exact h2
      · rcases List.mem_cons.mp hq with rfl | hq
        · exact h3
        · cases hq
theorem siM_ok {lx io : Addr} {t : Tok} {bs : List Nat} : ∀ q ∈ siM lx io t bs, q.2.2 = none ∨ (q.2.1 = .ref lx ∧ q.2.2 = some (2, 3)) := by
  intro q hq
  rcases List.mem_cons.mp hq with rfl | hq
  · exact .inl rfl
  · rcases List.mem_cons.mp hq with rfl | hq
    · exact .inl rfl
    · rcases List.mem_cons.mp hq with rfl | hq
      · exact .inl rfl
      · rcases List.mem_cons.mp hq with rfl | hq
        · exact .inl rfl
        · rcases List.mem_cons.mp hq with rfl | hq
          · exact .inl rfl
          · rcases List.mem_cons.mp hq with rfl | hq
            · exact .inr ⟨rfl, rfl⟩
            · cases hq
section
variable {prog : Program} {w : World} {A : Around} {E : Value → Shared → Prop} {cn : Str} {L a : Addr} {ccd : Value} {h₀ : Heap} {m₁ : Str → Option Value} {rest : List (Addr × Obj)} {p : Program} {loose : List Str} {mg mb : Str → Option Value} {s : Shared} {Q : Flow → Shared → Prop}
  {lx ld io iod : Addr} {D : Obj} {t : Tok} {bs : List Nat}
/-- the class's __init__ behind its first statement -/
theorem si_rest (H : Has prog w (Mine.K w.params) A E h₀ L (siC w) p loose mg mb) (F : Fr h₀ L s.heap (denM (siM lx io t bs) m₁)) (N : News h₀ L s.heap (denO (siO lx ld io iod D [] 0) ++ rest)) (hr : ∀ x ∈ rest, x.1 ≠ ld) (h1 : io ≠ ld) (h2 : iod ≠ ld) (h3 : lx ≠ ld)
    (ret : ∀ dq1 dq2 ku uu h' tk' m', Fr h₀ L h' m' → News h₀ L h' (denO (siO lx ld io iod D (siE w ku uu io (Str.ofString "#") false (siZ w ku uu dq1 dq2)) 19) ++ (dq2, dqO) :: (dq1, dqO) :: rest) → (io < dq1 ∧ iod < dq1 ∧ lx < dq1 ∧ ld < dq1) → (io < dq2 ∧ iod < dq2 ∧ lx < dq2 ∧ ld < dq2) → Q .next { s with heap := h', toks := tk' }) :
    wpAny (model prog w) A (execs (siB.drop 1) (eX cn (siC w) L a ccd [])) Q E s := by
  refine execs_at siB_is (execs_app ?_)
  refine run_ok (siC w) 60 _ _ [] H (siInv rfl hr h1 h2 h3 siM_ok) F N (Eq.mpr eq_si1 fun t1 n1 h5 F5 N5 => ?_)
  generalize lk [_, _, _, _, _, _, _, _, _, _, _, _] = ku at N5
  generalize lk [_, _, _, _, _, _, _, _, _, _, _, _] = uu at N5
  obtain ⟨xp, ap, np, dp, pos, e13⟩ := st13
  refine wpAny_execs_cons (exec_at e13 (asg_dq H (siInv rfl hr h1 h2 h3 siM_ok) F5 N5 rfl rfl (by kernel_rfl) rfl (by kernel_rfl) (by kernel_rfl) fun dq1 tk1 lt1 => Eq.mpr eq_put1 fun h6 F6 N6 => ?_))
  have l1 : io < dq1 ∧ iod < dq1 ∧ lx < dq1 ∧ ld < dq1 := ⟨lt1 _ (.head _), lt1 _ (.tail _ (.head _)), lt1 _ (.tail _ (.tail _ (.head _))), lt1 _ (.tail _ (.tail _ (.tail _ (.head _))))⟩
  have hr1 : ∀ x ∈ (dq1, dqO) :: rest, x.1 ≠ ld := List.forall_mem_cons.mpr ⟨Nat.ne_of_gt l1.2.2.2, hr⟩
  replace N6 : News h₀ L h6 (denO (siO lx ld io iod D (siE w (up ku 12 (tk1 + 1)) uu io (Str.ofString "#") false (siP w (up ku 12 (tk1 + 1)) uu dq1 [])) 13) ++ (dq1, dqO) :: rest) := N6
  generalize up ku 12 _ = ku at N6
  refine execs_app ?_
  refine run_ok (siC w) 60 _ _ [] H (siInv rfl hr1 h1 h2 h3 siM_ok) F6 N6 (Eq.mpr eq_si2 fun h7 F7 N7 => ?_)
  replace N7 : News h₀ L h7 (denO (siO lx ld io iod D (siE w (up (up (up ku 13 (tk1 + 2 + 2)) 14 (tk1 + 2 + 5)) 15 (tk1 + 2 + 8)) (up (up (up uu 13 (tk1 + 2)) 14 (tk1 + 2 + 3)) 15 (tk1 + 2 + 6)) io (Str.ofString "#") false (siP w (up (up (up ku 13 (tk1 + 2 + 2)) 14 (tk1 + 2 + 5)) 15 (tk1 + 2 + 8)) (up (up (up uu 13 (tk1 + 2)) 14 (tk1 + 2 + 3)) 15 (tk1 + 2 + 6)) dq1 (siQ w (up (up (up ku 13 (tk1 + 2 + 2)) 14 (tk1 + 2 + 5)) 15 (tk1 + 2 + 8)) (up (up (up uu 13 (tk1 + 2)) 14 (tk1 + 2 + 3)) 15 (tk1 + 2 + 6)) []))) 16) ++ (dq1, dqO) :: rest) := N7
  generalize up (up (up ku 13 (tk1 + 2 + 2)) 14 (tk1 + 2 + 5)) 15 (tk1 + 2 + 8) = ku at N7
  generalize up (up (up uu 13 (tk1 + 2)) 14 (tk1 + 2 + 3)) 15 (tk1 + 2 + 6) = uu at N7
  obtain ⟨xp, ap, np, dp, pos, e17⟩ := st17
  refine wpAny_execs_cons (exec_at e17 (asg_dq H (siInv rfl hr1 h1 h2 h3 siM_ok) F7 N7 rfl rfl (by kernel_rfl) rfl (by kernel_rfl) (by kernel_rfl) fun dq2 tk2 lt2 => Eq.mpr eq_put2 fun h8 F8 N8 => ?_))
  have l2 : io < dq2 ∧ iod < dq2 ∧ lx < dq2 ∧ ld < dq2 := ⟨lt2 _ (.head _), lt2 _ (.tail _ (.head _)), lt2 _ (.tail _ (.tail _ (.head _))), lt2 _ (.tail _ (.tail _ (.tail _ (.head _))))⟩
  have hr2 : ∀ x ∈ (dq2, dqO) :: (dq1, dqO) :: rest, x.1 ≠ ld := List.forall_mem_cons.mpr ⟨Nat.ne_of_gt l2.2.2.2, hr1⟩
  replace N8 : News h₀ L h8 (denO (siO lx ld io iod D (siE w (up ku 16 (tk2 + 1)) uu io (Str.ofString "#") false (siP w (up ku 16 (tk2 + 1)) uu dq1 (siQ w (up ku 16 (tk2 + 1)) uu [ent w "filestack" (up ku 16 (tk2 + 1) 16) (.ref dq2)]))) 17) ++ (dq2, dqO) :: (dq1, dqO) :: rest) := N8
  generalize up ku 16 _ = ku at N8
  refine run_ok (siC w) 60 _ _ [] H (siInv rfl hr2 h1 h2 h3 siM_ok) F8 N8 (Eq.mpr eq_si3 fun h9 F9 N9 => ?_)
  exact ret dq1 dq2 (up (up ku 17 (tk2 + 2 + 1)) 18 (tk2 + 2 + 5)) (up uu 18 (tk2 + 2 + 2)) h9 _ _ F9 N9 l1 l2
end
end
section
theorem lt_ne {d : Addr} {l : List (Addr × Obj)} (h : ∀ p ∈ l, p.1 < d) : ∀ p ∈ l, p.1 ≠ d := fun p hp => Nat.ne_of_lt (h p hp)
theorem allLt_to {d : Addr} : ∀ {l : List (Addr × Obj)}, AllLt d l → ∀ p ∈ l, p.1 < d
  | [], _, _, hp => by cases hp
  | q :: l, h, p, hp => by
    rcases List.mem_cons.mp hp with rfl | hp
    · exact h.1
    · exact allLt_to (l := l) h.2 p hp
theorem units_under_kw (A : Around) (C : Addr) (vals : List Value) (kw : List (Str × Value)) : (A.under (.builtin "type.__call__" ⟨.ref C :: vals, kw⟩)).units = A.units + 1 := rfl
theorem news_lex {w : World} {h₀ h : Heap} {L lx ld io iod dq1 dq2 : Addr} {bs : List Nat} {t1 t2 t3 u1 u2 u3 : Tok} {k u : Nat → Tok} {rest : List (Addr × Obj)}
    (N : News h₀ L h (denO (siO lx ld io iod (ioD w t1 t2 t3 u1 u2 u3 bs 0) (siE w k u io (Str.ofString "") true (siZ w k u dq1 dq2)) 19) ++ (dq2, dqO) :: (dq1, dqO) :: rest)) :
    News h₀ L h (lexN w lx ld io iod dq1 dq2 bs k u t1 t2 t3 u1 u2 u3 (.str (S [32]) (u 11)) (.str (S []) (u 15)) 0 (dqs dq1 dq2 rest)) := by
  refine news_sub N ?_
  show ∀ q ∈ (iod, ioD w t1 t2 t3 u1 u2 u3 bs 0) :: (io, instObj 665 iod) :: (ld, lexD w k u io dq1 dq2 (.str (S [32]) (u 11)) (.str (S []) (u 15))) :: (lx, instObj 800 ld) :: (dq1, dqO) :: (dq2, dqO) :: rest, q ∈ (io, instObj 665 iod) :: (iod, ioD w t1 t2 t3 u1 u2 u3 bs 0) :: (lx, instObj 800 ld) :: (ld, lexD w k u io dq1 dq2 (.str (S [32]) (u 11)) (.str (S []) (u 15))) :: (dq2, dqO) :: (dq1, dqO) :: rest
  ((repeat (refine List.forall_mem_cons.mpr ⟨(by first | exact .head _ | exact .tail _ (.head _) | exact .tail _ (.tail _ (.head _)) | exact .tail _ (.tail _ (.tail _ (.head _))) | exact .tail _ (.tail _ (.tail _ (.tail _ (.head _)))) | exact .tail _ (.tail _ (.tail _ (.tail _ (.tail _ (.head _))))) | exact .tail _ (.tail _ (.tail _ (.tail _ (.tail _ (.tail _ (.head _)))))) | exact .tail _ (.tail _ (.tail _ (.tail _ (.tail _ (.tail _ (.tail _ (.head _))))))) | exact .tail _ (.tail _ (.tail _ (.tail _ (.tail _ (.tail _ (.tail _ (.tail _ (.head _)))))))) | exact .tail _ (.tail _ (.tail _ (.tail _ (.tail _ (.tail _ (.tail _ (.tail _ (.tail _ (.head _)))))))))), ?_⟩)); first | exact fun _ h => h | exact fun _ h => .tail _ (h) | exact fun _ h => .tail _ (.tail _ (h)) | exact fun _ h => .tail _ (.tail _ (.tail _ (h))) | exact fun _ h => .tail _ (.tail _ (.tail _ (.tail _ (h)))) | exact fun _ h => .tail _ (.tail _ (.tail _ (.tail _ (.tail _ (h))))) | exact fun _ h => .tail _ (.tail _ (.tail _ (.tail _ (.tail _ (.tail _ (h)))))) | exact fun _ h => .tail _ (.tail _ (.tail _ (.tail _ (.tail _ (.tail _ (.tail _ (h))))))) | exact fun _ h => .tail _ (.tail _ (.tail _ (.tail _ (.tail _ (.tail _ (.tail _ (.tail _ (h)))))))) | exact fun _ h => .tail _ (.tail _ (.tail _ (.tail _ (.tail _ (.tail _ (.tail _ (.tail _ (.tail _ (h))))))))) | exact fun _ h => nomatch h)
theorem spM_ok {lx : Addr} {t : Tok} {bs : List Nat} : ∀ q ∈ spM lx t bs, q.2.2 = none ∨ (q.2.1 = .ref lx ∧ q.2.2 = some (2, 3)) :=
  List.forall_mem_cons.mpr ⟨.inr ⟨rfl, rfl⟩, List.forall_mem_cons.mpr ⟨.inl rfl, List.forall_mem_cons.mpr ⟨.inl rfl, List.forall_mem_cons.mpr ⟨.inl rfl, fun _ h => nomatch h⟩⟩⟩⟩
theorem spB_is : fnB spF = (fnB spF).take 2 ++ (((fnB spF).drop 2).take 2 ++ (fnB spF).drop 4) := by kernel_rfl
theorem split_c (w : World) (bs : List Nat) (t : Tok) (rest : List (Addr × Obj)) (ws : List (List Nat)) (hb : bs.length ≤ 10000) (hr : Runs bs ws) (hw : ws.length ≤ 1000) (hw0 : 0 < ws.length) :
    ToldX PySem.Challenge.pw_il0113_01 w (Mine.K w.params) 60 400 (fun _ => True) (.ref 812) [.str (S bs) t] rest
      (fun r nw => ∃ (l : Addr) (vs : List Value) (c : Nat), r = .ref l ∧ nw = (l, listOf vs.toArray c) :: rest ∧ (∀ p ∈ rest, p.1 < l) ∧ StrsAre vs (ws.map S)) := by
  intro p loose mean mg mb dp un gd cn cs a ccd cl outer A₀ base h₀ L m s Q E B F X N T hk hdp hun XB TB D hpre hret
  refine wpAny_call ?_
  k_dflt (refine' code_defSX ?k1 ?k2 ?k3 ?k4 ?k5 ?XB ?TB ?D ?T0 ?kA ?k6 ?k7 ?k8 ?k9 ?kB ?_ ?cK ?c2 ?c3 ?c4 ?c5; (case kA => exact rfl); (case k2 => k_asm); (case k1 => k_asm); (case XB => assumption); (case TB => assumption); (case D => assumption); (case T0 => exact KtsTurn.refl); (case k3 => k_asm); (case k4 => k_asm); (case k5 => k_asm); (case k6 => k_is); (case k7 => k_is); (case k8 => ktr_room); (case k9 => first | exact BindsTo.of_eq rfl | exact binds_K (Frag.In.keeps X F.keep) rfl (by k_is) rfl rfl rfl); (case kB => exact locs rfl); (case cK => first | assumption | exact rfl); (case c2 => exact rfl); (case c3 => exact rfl); (case c4 => exact rfl); (case c5 => decide); k_whole; intro g' L' h' FG' F' N' B' X' T' D'; (try ((refine execs_at (b' := ?kbody) ?kbe ?_); (case kbe => (conv => lhs; whnf)))); (try dsimp only); (try k_fold))
  repeat' (first | (k_unfold; (try dsimp only)) | ((fail_if_success (with_reducible show wpAny _ _ (execs (Stmt.If (Expr.Compare (Expr.Name _ _) [CmpOp.IsNot] _ _) _ _ _ :: _) _) _ _ _)); first | (k_here; (with_reducible show wpAny _ _ (call (Value.ref 665) _) _ _ _); k_dflt (refine' told_use ?k1 ?k2 ?k3 ?k4 ?k5 ?kK ?kC ?kd ?ku ?_; (case k1 => k_asm); (case k2 => k_asm); (case k3 => k_asm); (case k4 => k_asm); (case k5 => k_asm); (case kK => first | exact rfl | assumption); (case kC => exact strio _ _ _ _ (by assumption)); (case kd => ktr_room); (case ku => (have hcL9 := cLine_is; (simp only [units_under_kw, units_in1, units_deeper, Around.mark_units, units_caller] at *); (try dsimp only [ktrTop] at *); omega))); intro r9 nw9 h9 tk9 F9 N9 P9; obtain ⟨io9, iod9, t91, t92, t93, u91, u92, u93, e9, l9, m9, e9'⟩ := P9; subst e9; subst e9'; (try simp only [AllLt, and_true] at l9); (try k_sweep)) | walk1 | (dsimp only; first | (k_here; (with_reducible show wpAny _ _ (call (Value.ref 665) _) _ _ _); k_dflt (refine' told_use ?k1 ?k2 ?k3 ?k4 ?k5 ?kK ?kC ?kd ?ku ?_; (case k1 => k_asm); (case k2 => k_asm); (case k3 => k_asm); (case k4 => k_asm); (case k5 => k_asm); (case kK => first | exact rfl | assumption); (case kC => exact strio _ _ _ _ (by assumption)); (case kd => ktr_room); (case ku => (have hcL9 := cLine_is; (simp only [units_under_kw, units_in1, units_deeper, Around.mark_units, units_caller] at *); (try dsimp only [ktrTop] at *); omega))); intro r9 nw9 h9 tk9 F9 N9 P9; obtain ⟨io9, iod9, t91, t92, t93, u91, u92, u93, e9, l9, m9, e9'⟩ := P9; subst e9; subst e9'; (try simp only [AllLt, and_true] at l9); (try k_sweep)) | walk1)))
  (try dsimp only)
  (with_reducible rename Fr _ _ _ _ => kF)
  (with_reducible rename News _ _ _ _ => kN)
  (with_reducible rename Frag.In _ _ => kX)
  (with_reducible rename Top _ _ _ _ _ _ => kT)
  (rename ∀ q ∈ rest, q.1 < _ => hl1)
  refine execs_at (b' := siB.drop 1) (by kernel_rfl) ?_
  refine si_rest (t := t) (bs := bs) ⟨rfl, siA_ok _, PrH.nil, siS_ok _, rfl, fun _ => rfl, kX, topRead_of kT⟩ (fr_look1 rfl rfl kF) kN (lt_ne hl1) (by k_ne) (by k_ne) (by k_ne) fun dq1 dq2 ku uu h8 tk8 m8 F8 N8 l81 l82 => ?_
  repeat' (first | (k_unfold; (try dsimp only)) | ((fail_if_success (with_reducible show wpAny _ _ (execs (Stmt.Assign [Expr.Attribute _ _ _] (Expr.Constant _ _ _) _ :: _) _) _ _ _)); first | (k_here; (with_reducible show wpAny _ _ (call (Value.ref 665) _) _ _ _); k_dflt (refine' told_use ?k1 ?k2 ?k3 ?k4 ?k5 ?kK ?kC ?kd ?ku ?_; (case k1 => k_asm); (case k2 => k_asm); (case k3 => k_asm); (case k4 => k_asm); (case k5 => k_asm); (case kK => first | exact rfl | assumption); (case kC => exact strio _ _ _ _ (by assumption)); (case kd => ktr_room); (case ku => (have hcL9 := cLine_is; (simp only [units_under_kw, units_in1, units_deeper, Around.mark_units, units_caller] at *); (try dsimp only [ktrTop] at *); omega))); intro r9 nw9 h9 tk9 F9 N9 P9; obtain ⟨io9, iod9, t91, t92, t93, u91, u92, u93, e9, l9, m9, e9'⟩ := P9; subst e9; subst e9'; (try simp only [AllLt, and_true] at l9); (try k_sweep)) | walk1 | (dsimp only; first | (k_here; (with_reducible show wpAny _ _ (call (Value.ref 665) _) _ _ _); k_dflt (refine' told_use ?k1 ?k2 ?k3 ?k4 ?k5 ?kK ?kC ?kd ?ku ?_; (case k1 => k_asm); (case k2 => k_asm); (case k3 => k_asm); (case k4 => k_asm); (case k5 => k_asm); (case kK => first | exact rfl | assumption); (case kC => exact strio _ _ _ _ (by assumption)); (case kd => ktr_room); (case ku => (have hcL9 := cLine_is; (simp only [units_under_kw, units_in1, units_deeper, Around.mark_units, units_caller] at *); (try dsimp only [ktrTop] at *); omega))); intro r9 nw9 h9 tk9 F9 N9 P9; obtain ⟨io9, iod9, t91, t92, t93, u91, u92, u93, e9, l9, m9, e9'⟩ := P9; subst e9; subst e9'; (try simp only [AllLt, and_true] at l9); (try k_sweep)) | walk1)))
  (try dsimp only)
  (with_reducible rename Fr _ _ _ _ => kF2)
  (with_reducible rename News _ _ _ _ => kN2)
  (with_reducible rename Frag.In _ _ => kX2)
  (with_reducible rename Top _ _ _ _ _ _ => kT2)
  have hr2 : ∀ x ∈ (dq2, dqO) :: (dq1, dqO) :: rest, x.1 ≠ _ := List.forall_mem_cons.mpr ⟨Nat.ne_of_gt l82.2.2.2, List.forall_mem_cons.mpr ⟨Nat.ne_of_gt l81.2.2.2, lt_ne hl1⟩⟩
  refine execs_at (b' := ((fnB spF).drop 2).take 2 ++ (fnB spF).drop 4) (by kernel_rfl) (execs_app ?_)
  refine run_ok (spC w) 60 (spM _ t bs) _ [] ⟨rfl, siA_ok _, PrH.nil, siS_ok _, rfl, fun _ => rfl, kX2, topRead_of kT2⟩ (siInv rfl hr2 (by k_ne) (by k_ne) (by k_ne) spM_ok) (fr_look1 rfl rfl kF2) kN2 (Eq.mpr eq_sp fun h9 F9 N9 => ?_)
  refine execs_at (b' := ?kbody2) ?kbe2 ?_
  case kbe2 => (conv => lhs; whnf)
  repeat' (first | (k_unfold; (try dsimp only)) | ((fail_if_success (with_reducible show Q _ _)); first | (k_here; (with_reducible show wpAny _ _ (call (Value.ref 665) _) _ _ _); k_dflt (refine' told_use ?k1 ?k2 ?k3 ?k4 ?k5 ?kK ?kC ?kd ?ku ?_; (case k1 => k_asm); (case k2 => k_asm); (case k3 => k_asm); (case k4 => k_asm); (case k5 => k_asm); (case kK => first | exact rfl | assumption); (case kC => exact strio _ _ _ _ (by assumption)); (case kd => ktr_room); (case ku => (have hcL9 := cLine_is; (simp only [units_under_kw, units_in1, units_deeper, Around.mark_units, units_caller] at *); (try dsimp only [ktrTop] at *); omega))); intro r9 nw9 h9 tk9 F9 N9 P9; obtain ⟨io9, iod9, t91, t92, t93, u91, u92, u93, e9, l9, m9, e9'⟩ := P9; subst e9; subst e9'; (try simp only [AllLt, and_true] at l9); (try k_sweep)) | walk1 | (dsimp only; first | (k_here; (with_reducible show wpAny _ _ (call (Value.ref 665) _) _ _ _); k_dflt (refine' told_use ?k1 ?k2 ?k3 ?k4 ?k5 ?kK ?kC ?kd ?ku ?_; (case k1 => k_asm); (case k2 => k_asm); (case k3 => k_asm); (case k4 => k_asm); (case k5 => k_asm); (case kK => first | exact rfl | assumption); (case kC => exact strio _ _ _ _ (by assumption)); (case kd => ktr_room); (case ku => (have hcL9 := cLine_is; (simp only [units_under_kw, units_in1, units_deeper, Around.mark_units, units_caller] at *); (try dsimp only [ktrTop] at *); omega))); intro r9 nw9 h9 tk9 F9 N9 P9; obtain ⟨io9, iod9, t91, t92, t93, u91, u92, u93, e9, l9, m9, e9'⟩ := P9; subst e9; subst e9'; (try simp only [AllLt, and_true] at l9); (try k_sweep)) | walk1)))
  (with_reducible rename Fr _ _ _ _ => kF)
  (with_reducible rename News _ _ _ _ => kN)
  (rename _ < _ ∧ _ < _ ∧ AllLt _ rest => hl9)
  k_dflt (refine' told_useS ?B ?F ?X (news_lex kN) ?T ?hk ?XB ?TB ?D (split_list w _ _ _ _ _ _ bs _ _ _ _ _ _ _ _ _ _ rest ws hb hr hw hw0 (LexAt.mk (lt_ne (allLt_to hl9.2.2)) (lt_ne hl1) ?n0 ?n1 ?n2 ?n3 ?n4 ?n5 ?n6 ?n7 ?n8)) ?hd ?hu ?ret)
  case B => assumption
  case F => exact kF
  case X => exact kX2
  case T => exact kT2
  case hk => exact rfl
  case XB => assumption
  case TB => assumption
  case D => assumption
  case n0 => k_ne
  case n1 => k_ne
  case n2 => k_ne
  case n3 => k_ne
  case n4 => k_ne
  case n5 => exact Nat.ne_of_gt l81.2.1
  case n6 => exact Nat.ne_of_gt l82.2.1
  case n7 => exact Nat.ne_of_gt l81.2.2.2
  case n8 => exact Nat.ne_of_gt l82.2.2.2
  case hd => ktr_room
  case hu => ktr_units
  case ret =>
    rintro r9 nw9 h9 tk9 g9 T9 F9 N9 B9 X9 P9 D9 ⟨l9, vs9, c9, rfl, rfl, hlt9, hs9⟩
    clear kN kF F N
    try dsimp only
    repeat' (first | (k_unfold; (try dsimp only)) | ((fail_if_success (with_reducible show Q _ _)); first | (k_here; (with_reducible show wpAny _ _ (call (Value.ref 665) _) _ _ _); k_dflt (refine' told_use ?k1 ?k2 ?k3 ?k4 ?k5 ?kK ?kC ?kd ?ku ?_; (case k1 => k_asm); (case k2 => k_asm); (case k3 => k_asm); (case k4 => k_asm); (case k5 => k_asm); (case kK => first | exact rfl | assumption); (case kC => exact strio _ _ _ _ (by assumption)); (case kd => ktr_room); (case ku => (have hcL9 := cLine_is; (simp only [units_under_kw, units_in1, units_deeper, Around.mark_units, units_caller] at *); (try dsimp only [ktrTop] at *); omega))); intro r9 nw9 h9 tk9 F9 N9 P9; obtain ⟨io9, iod9, t91, t92, t93, u91, u92, u93, e9, l9, m9, e9'⟩ := P9; subst e9; subst e9'; (try simp only [AllLt, and_true] at l9); (try k_sweep)) | walk1 | (dsimp only; first | (k_here; (with_reducible show wpAny _ _ (call (Value.ref 665) _) _ _ _); k_dflt (refine' told_use ?k1 ?k2 ?k3 ?k4 ?k5 ?kK ?kC ?kd ?ku ?_; (case k1 => k_asm); (case k2 => k_asm); (case k3 => k_asm); (case k4 => k_asm); (case k5 => k_asm); (case kK => first | exact rfl | assumption); (case kC => exact strio _ _ _ _ (by assumption)); (case kd => ktr_room); (case ku => (have hcL9 := cLine_is; (simp only [units_under_kw, units_in1, units_deeper, Around.mark_units, units_caller] at *); (try dsimp only [ktrTop] at *); omega))); intro r9 nw9 h9 tk9 F9 N9 P9; obtain ⟨io9, iod9, t91, t92, t93, u91, u92, u93, e9, l9, m9, e9'⟩ := P9; subst e9; subst e9'; (try simp only [AllLt, and_true] at l9); (try k_sweep)) | walk1)))
    (with_reducible rename Fr _ _ _ _ => kF)
    (with_reducible rename News _ _ _ _ => kN)
    refine' hret _ _ _ _ _ ?_ kF kN ?_ ?_ ?_ ?_ ⟨l9, vs9, c9, rfl, rfl, hlt9, hs9⟩ <;> assumption
end
section
theorem list_sub : isSubtype (.type "list") (.type "list") = pure true := by rw [isSubtype_type]; kernel_rfl
theorem list_notmod : isSubtype (.type "list") (.type "module") = pure false := by rw [isSubtype_type]; kernel_rfl
theorem plain_mdget : plainId "method_descriptor.__get__" = true := by decide +kernel
theorem plain_wdget : plainId "wrapper_descriptor.__get__" = true := by decide +kernel
theorem entry_mdget : entryFor table "method_descriptor.__get__" = some Builtin.«method_descriptor.__get__» := entryFor_of_tree (by kernel_rfl)
theorem entry_wdget : entryFor table "wrapper_descriptor.__get__" = some Builtin.«wrapper_descriptor.__get__» := entryFor_of_tree (by kernel_rfl)
theorem slot_mdget : Slot "method_descriptor" "__get__" "method_descriptor.__get__" := .of (owner := "method_descriptor") (n := "__get__") (by rw [typeLookup_type, builtinLookup_eq_fast]; kernel_rfl) (by decide +kernel) (by decide +kernel) (by decide +kernel)
    (by first | exact .inl (by decide +kernel) | exact .inr (by decide +kernel)) (by rw [isSubtype_type]; kernel_rfl)
theorem slot_wdget : Slot "wrapper_descriptor" "__get__" "wrapper_descriptor.__get__" := .of (owner := "wrapper_descriptor") (n := "__get__") (by rw [typeLookup_type, builtinLookup_eq_fast]; kernel_rfl) (by decide +kernel) (by decide +kernel) (by decide +kernel)
    (by first | exact .inl (by decide +kernel) | exact .inr (by decide +kernel)) (by rw [isSubtype_type]; kernel_rfl)
noncomputable abbrev boundO (bt id : String) (v : Value) : Obj := { cls := .type bt, data := .fields #[.builtin id, v] }
section
variable {prog : Program} {w : World} {A : Around} {E : Value → Shared → Prop} {s : Shared} {T gid bt id : String} {name : Str} {B : Builtin}
noncomputable def GetOk (B : Builtin) (bt id : String) : Prop := ∀ (prog : Program) (w : World) (a : Addr) (xs : Array Value) (k : Nat) (A : Around) (R : Fin → Shared → Prop) (E : Value → Shared → Prop) (s : Shared), s.heap.get? a = some (listOf xs k) → R (.done (.ret (.ref s.heap.objs.size))) { s with heap := s.heap.push (boundO bt id (.ref a)) } → wpAny (model prog w) A (B ⟨[.builtin id, .ref a, .type "list"], []⟩) R E s
/-- the method's facts -/
structure BoundM (T gid bt id : String) (name : Str) (B : Builtin) : Prop where
  f1 : typeLookup (.type "list") name = pure (some (.builtin id))
  f2 : specialOf (.builtin id) (Str.ofString "__get__") = pure (some (.builtin gid))
  f3 : specialOf (.builtin id) (Str.ofString "__set__") = pure none
  f4 : specialOf (.builtin id) (Str.ofString "__delete__") = pure none
  f5 : ∀ a, argsOk gid ⟨[.builtin id, .ref a, .type "list"], []⟩
  f8 : typeOf (.builtin id) = pure (.type T)
  f7 : (["__module__", "__name__", "__qualname__", "__doc__", "__annotations__"] : List Str).contains name = false
  slot : Slot T "__get__" gid
  entry : entryFor table gid = some B
  get : GetOk B bt id
theorem meets_bound (X : BoundM T gid bt id name B) (a : Addr) (xs : Array Value) (k : Nat) (u : Tok) :
    MeetsIn prog w (Builtin.«object.__getattribute__» ⟨[.ref a, .str name u], []⟩) (fun A R s => s.heap.get? a = some (listOf xs k) ∧ R (.ok (.ret (.ref s.heap.objs.size))) { s with heap := s.heap.push (boundO bt id (.ref a)) }) := by
  obtain ⟨f1, f2, f3, f4, f5, f8, f7, sl, en, f6⟩ := X
  intro A R s hs
  obtain ⟨hp, g, d, tk, os⟩ := s
  obtain ⟨hx, hs⟩ := hs
  have hT : (⟨hp, g, d, tk, os⟩ : Shared).TypeIs (.ref a) "list" := ⟨_, hx, rfl⟩
  unfold Builtin.«object.__getattribute__»
  repeat (any_goals (first | wp_step | assumption))
  simp only [f7, Bool.false_eq_true, if_false]
  repeat (any_goals (first | wp_step | assumption))
  refine codeAny_call_builtin sl.plain en (sl.check _ _ _ _ _ _ _ _ f8 (f5 _) (f6 _ _ _ _ _ _ _ _ _ hx ?_))
  repeat (any_goals (first | wp_step | assumption | exact ⟨_, rfl, hs⟩))
theorem get_md (he : ".".intercalate (id.cutAt '.').dropLast = "list") (ht : Manifest.toldItsClass.contains id = false) : GetOk Builtin.«method_descriptor.__get__» "builtin_function_or_method" id := by
  intro prog w a xs k A R E s hx h
  obtain ⟨hp, g, d, tk, os⟩ := s
  have hT : (⟨hp, g, d, tk, os⟩ : Shared).TypeIs (.ref a) "list" := ⟨_, hx, rfl⟩
  have hsub := list_sub
  unfold Builtin.«method_descriptor.__get__»
  repeat (any_goals (first | wp_step | assumption))
  simp only [ht, Bool.false_eq_true, if_false]
  repeat (any_goals (first | wp_step | assumption))
  simp only [he]
  repeat (any_goals (first | wp_step | assumption))
theorem get_wd (he : ".".intercalate (id.cutAt '.').dropLast = "list") : GetOk Builtin.«wrapper_descriptor.__get__» "method-wrapper" id := by
  intro prog w a xs k A R E s hx h
  obtain ⟨hp, g, d, tk, os⟩ := s
  have hT : (⟨hp, g, d, tk, os⟩ : Shared).TypeIs (.ref a) "list" := ⟨_, hx, rfl⟩
  have hsub := list_sub
  unfold Builtin.«wrapper_descriptor.__get__»
  repeat (any_goals (first | wp_step | assumption))
  simp only [he]
  repeat (any_goals (first | wp_step | assumption))
theorem m_append : BoundM "method_descriptor" "method_descriptor.__get__" "builtin_function_or_method" "list.append" "append" Builtin.«method_descriptor.__get__» :=
  ⟨by rw [typeLookup_type, builtinLookup_eq_fast]; kernel_rfl, by with_unfolding_all rfl, by with_unfolding_all rfl, by with_unfolding_all rfl, fun _ => by unfold argsOk; kernel_rfl, by with_unfolding_all rfl, by decide +kernel, slot_mdget, entry_mdget, get_md (by decide +kernel) (by decide +kernel)⟩
theorem m_contains : BoundM "wrapper_descriptor" "wrapper_descriptor.__get__" "method-wrapper" "list.__contains__" "__contains__" Builtin.«wrapper_descriptor.__get__» :=
  ⟨by rw [typeLookup_type, builtinLookup_eq_fast]; kernel_rfl, by with_unfolding_all rfl, by with_unfolding_all rfl, by with_unfolding_all rfl, fun _ => by unfold argsOk; kernel_rfl, by with_unfolding_all rfl, by decide +kernel, slot_wdget, entry_wdget, get_wd (by decide +kernel)⟩
/-- l.append, l.__contains__ .. as a value -/
theorem getattr_bound (X : BoundM T gid bt id name B) {l : Addr} {vs : List Value} {c : Nat} {h₀ : Heap} {L : Addr} {m : Str → Option Value} {news : List (Addr × Obj)} {Q : Value → Shared → Prop} (Fh : Fr h₀ L s.heap m) (N : News h₀ L s.heap news) (hm : (l, listOf vs.toArray c) ∈ news)
    (h : ∀ q h' tk', Fr h₀ L h' m → News h₀ L h' ((q, boundO bt id (.ref l)) :: news) → (∀ p ∈ news, p.1 < q) → Q (.ref q) { s with heap := h', toks := tk' }) :
    wpAny (model prog w) A (getAttr (.ref l) name true) Q E s := by
  obtain ⟨hp, g, d, tk, os⟩ := s
  have hx : hp.get? l = some (listOf vs.toArray c) := (N _ hm).1
  have hT : ∀ tk', (⟨hp, g, d, tk', os⟩ : Shared).TypeIs (.ref l) "list" := fun _ => ⟨_, hx, rfl⟩
  have g3 := PySem.F.slot_list_getattribute.lookup
  have g4 := PySem.F.slot_list_getattribute.bind (.ref l)
  unfold getAttr getAttrBy
  repeat (any_goals (first | ((with_reducible show wpAny _ _ (call (Value.builtin "list.__getattribute__") _ _) _ _ _); refine call_meetsIn PySem.F.slot_list_getattribute (hT _) am_entry_list_getattribute (PySem.F.args_list_getattribute_2 _ _) (meets_bound X l vs.toArray c _) ⟨hx, ?_⟩) | wp_step | assumption | exact hT _))
  show wpAny _ _ (handedOut (.ref _)) _ _ _
  exact wpAny_pure (h _ _ _ (Fh.push _) (N.push Fh _) (fun p hp => Heap.lt_size (N p hp).1))
theorem check_bound {l : Addr} {v : Value} {vs : List Value} {c : Nat} (hid : id = "list.append" ∨ id = "list.__contains__") (hx : s.heap.get? l = some (listOf vs.toArray c)) (M : Model) (A : Around) (Q : Unit → Shared → Prop) (E : Value → Shared → Prop) (hq : Q () s) : wpAny M A (checkBoundCall id ⟨[.ref l, v], []⟩) Q E s := by
  obtain ⟨hp, g, d, tk, os⟩ := s
  have hx' : hp.get? l = some (listOf vs.toArray c) := hx
  have hT : (⟨hp, g, d, tk, os⟩ : Shared).TypeIs (.ref l) "list" := ⟨_, hx, rfl⟩
  have a1 := list_notmod
  rcases hid with rfl | rfl
  · unfold checkBoundCall
    repeat (any_goals (first | wp_step | assumption))
  · unfold checkBoundCall
    repeat (any_goals (first | wp_step | assumption))
end
end
section
section
variable {prog : Program} {w : World} {A : Around} {E : Value → Shared → Prop} {s : Shared} {T gid bt id : String} {name : Str} {B : Builtin}
theorem call_bound {q a : Addr} {args : List Value} {S : PySem.Spec} {Q : Value → Shared → Prop} (hb : bt = "builtin_function_or_method" ∨ bt = "method-wrapper") (hp : plainId id = true) (hs : id.startsWith "lifetime." = false) (hB : entryFor table id = some B) (hq : s.heap.get? q = some (boundO bt id (.ref a))) (hc : ∀ (M : Model) (A : Around) (Q : Unit → Shared → Prop) (E : Value → Shared → Prop), Q () s → wpAny M A (checkBoundCall id ⟨.ref a :: args, []⟩) Q E s)
    (g : Meets (B ⟨.ref a :: args, []⟩) S) (h : S A (wants Q E) s) :
    wpAny (model prog w) A (call (.ref q) args) Q E s := by
  refine wpAny_call (codeAny_of_tree ?_)
  show wpAny _ A.in1 (callAny (.ref q) ⟨args, []⟩) _ _ s
  simp only [callAny]
  refine wpAny_bind (wpAny_load hq ?_)
  dsimp only
  refine KFB.if_so (by rcases hb with rfl | rfl <;> decide) ?_
  refine KFB.if_so (by rcases hb with rfl | rfl <;> decide) ?_
  refine wpAny_bind (hc _ _ _ _ ?_)
  refine wpAny_bind (wpAny_pure (wpAny_pure ⟨Code.quiet_builtin _ hs, codeAny_builtin hB ?_⟩))
  rw [Around.under_plainId hp _]
  exact g prog w A (wants Q E) s h
/-- stands on the ledger -/
noncomputable def Stands (q : Addr) (o : Obj) (h : Heap) : Prop := h.get? q = some o
theorem callWith_bd {q a : Addr} {pos : Pos} {first : List Value} {env : Env} {e : Expr} {rest : List Expr} {Q : Value → Shared → Prop} {h₀ : Heap} {L : Addr} {news : List (Addr × Obj)} (hb : bt = "builtin_function_or_method" ∨ bt = "method-wrapper") (_N : News h₀ L s.heap news) (_hm : (q, boundO bt id (.ref a)) ∈ news)
    (h : wpAny (model prog w) A (spliced (backTo pos (starEach (e :: rest) env))) (fun vs s₁ => Stands q (boundO bt id (.ref a)) s₁.heap ∧ wpAny (model prog w) A (call (.ref q) (first ++ vs)) Q E s₁) E s)
    (he : starEach (e :: rest) env = (false, eval e env) :: starEach rest env := by rfl) (hplain : (backTo pos (starEach rest env)).any (·.1) = false := by rfl) :
    wpAny (model prog w) A (callWith pos (.ref q) first (backTo pos (starEach (e :: rest) env)) []) Q E s := by
  rw [he] at h ⊢
  refine callWith_of (P := Stands q (boundO bt id (.ref a))) (by show ((false || (backTo pos (starEach rest env)).any (·.1)) || false) = false; rw [hplain]; rfl) (fun h0 e0 => ⟨.machine, .inr (.inl rfl), ?_⟩) (evalArgs_plain h)
  unfold keeperOf
  refine (Looks.ld e0).andThen ?_
  rcases hb with rfl | rfl <;> exact .now
theorem meets_append (l : Addr) (vs : List Value) (c : Nat) (v : Value) (hsz : vs.length ≤ 1000) : Meets (Builtin.«list.append» ⟨[.ref l, v], []⟩) (fun _ R s => s.heap.get? l = some (listOf vs.toArray c) ∧ ∀ h', Heap.SameBut l s.heap h' → h'.get? l = some (listOf (vs ++ [v]).toArray (c + 1)) → R (.ok (.ret .none)) { s with heap := h' }) := by
  refine Meets.of_wp fun prog w A R s hs => ?_
  obtain ⟨hl, h⟩ := hs
  show wpAny _ _ (updateSeq l (·.push v) >>= fun _ => ret .none) _ _ s
  refine wpAny_bind ?_
  refine wpAny_updateSeq hl rfl ?_ (by simp; rw [sizeLine_eq]; omega) (by simp; rw [sizeLine_eq]; omega)
  have hs := Heap.SameBut.update s.heap l (Obj.mapSeq (·.push v))
  have ho := Heap.get?_update_self (Obj.mapSeq (·.push v)) hl rfl
  have e : Obj.mapSeq (·.push v) (listOf vs.toArray c) = listOf (vs ++ [v]).toArray (c + 1) := by simp [Obj.mapSeq]
  rw [e] at ho
  exact wpAny_pure ⟨.none, rfl, h _ hs ho⟩
theorem call_append {q l : Addr} {v : Value} {vs : List Value} {c : Nat} {h₀ : Heap} {L : Addr} {m : Str → Option Value} {news : List (Addr × Obj)} {Q : Value → Shared → Prop} (Fh : Fr h₀ L s.heap m) (N : News h₀ L s.heap ((l, listOf vs.toArray c) :: news)) (ha : ∀ p ∈ news, p.1 ≠ l) (hm : (q, boundO "builtin_function_or_method" "list.append" (.ref l)) ∈ news) (hsz : vs.length ≤ 1000)
    (h : ∀ h', Fr h₀ L h' m → News h₀ L h' ((l, listOf (vs ++ [v]).toArray (c + 1)) :: news) → Q .none { s with heap := h' }) :
    wpAny (model prog w) A (call (.ref q) [v]) Q E s := by
  have hl := N _ (.head _)
  have hb := check_bound (v := v) (id := "list.append") (.inl rfl) hl.1
  exact call_bound (B := Builtin.«list.append») (id := "list.append") (bt := "builtin_function_or_method") (.inl rfl) (by decide +kernel) (by decide +kernel) PySem.F.entry_list_append (N _ (.tail _ hm)).1 hb (meets_append l vs c v hsz) ⟨hl.1, fun h' hs ho => h _ (Fh.change hs hl.2.1 hl.2.2) (N.setHead ha hs ho)⟩
theorem any_strs {k : Str} : ∀ {vs : List Value} {ys : List Str}, StrsAre vs ys → vs.toArray.any (isStrOf k) = ys.contains k
  | [], _, .nil => by simp
  | _ :: _, _ :: _, .cons m t h => by
    have := any_strs (k := k) h
    simp only [List.any_toArray, List.any_cons] at this ⊢
    rw [this, List.contains_cons]
    show (m == k || _) = _
    rw [show (m == k) = (k == m) from Bool.beq_comm ..]
theorem call_contains {q l : Addr} {k : Str} {t : Tok} {vs : List Value} {ys : List Str} {c : Nat} {Q : Value → Shared → Prop} (hl : s.heap.get? l = some (listOf vs.toArray c)) (hq : s.heap.get? q = some (boundO "method-wrapper" "list.__contains__" (.ref l))) (hy : StrsAre vs ys) {b : Bool} (hb : ys.contains k = b) (h : Q (.bool b) s) :
    wpAny (model prog w) A (call (.ref q) [.str k t]) Q E s := by
  have g := MeetsSeq.list_contains l vs.toArray c (.str k t) (isStrOf k) (fun y hy' => eq_isStrOf k t hy y (by simpa using hy'))
  rw [any_strs hy, hb] at g
  have hc := check_bound (v := .str k t) (id := "list.__contains__") (.inr rfl) hl
  exact call_bound (B := Builtin.«list.__contains__») (id := "list.__contains__") (bt := "method-wrapper") (.inr rfl) (by decide +kernel) (by decide +kernel) PySem.F.entry_list_contains hq hc g ⟨hl, h⟩
end
end
section
theorem allLt_up {x : Addr} {d : Nat} (hx : d ≤ x) : ∀ {l : List (Addr × Obj)}, AllLt d l → ∀ p ∈ l, p.1 ≠ x
  | [], _, _, hp => by cases hp
  | q :: l, h, p, hp => by
    rcases List.mem_cons.mp hp with rfl | hp
    · exact Nat.ne_of_lt (Nat.lt_of_lt_of_le h.1 hx)
    · exact allLt_up (l := l) hx h.2 p hp
/-- an iterator over a list; one that has run out -/
noncomputable abbrev liO (l : Addr) (i : Nat) : Obj := { cls := .type "list_iterator", data := .fields #[.ref l, .int i 0] }
noncomputable abbrev liE (i : Nat) : Obj := { cls := .type "list_iterator", data := .fields #[.none, .int i 0] }
section
variable {prog : Program} {w : World} {A : Around} {E : Value → Shared → Prop} {s : Shared} {h₀ : Heap} {L l it : Addr} {m : Str → Option Value} {news : List (Addr × Obj)} {vs : List Value} {c i : Nat} {Q : Value → Shared → Prop}
theorem iter_list (F : Fr h₀ L s.heap m) (N : News h₀ L s.heap news) (hm : (l, listOf vs.toArray c) ∈ news)
    (h : ∀ I h', Fr h₀ L h' m → News h₀ L h' ((I, liO l 0) :: news) → (∀ p ∈ news, p.1 < I) → Q (.ref I) { s with heap := h' }) :
    wpAny (model prog w) A (call (.builtin "iter") [.ref l]) Q E s := by
  refine call_function_entry (by decide +kernel) (by decide +kernel) kdk_entry_iter (kdk_args_iter _) ?_
  unfold Builtin.«iter»
  refine wpAny_bind (m := someArgs "iter" 1 2 _) (wpAny_of_eq (a := [Value.ref l]) (by first | rfl | kernel_rfl!) ?_)
  show wpAny _ _ (pyIter (.ref l) >>= _) _ _ _
  refine wpAny_bind (wpAny_pyIter_list (items := vs.toArray) ⟨_, (N _ hm).1, rfl, c, rfl⟩ ?_)
  exact wpAny_pure ⟨_, rfl, h _ _ (F.push _) (N.push F _) (fun p hp => Heap.lt_size (N p hp).1)⟩
theorem next_item {v : Value} (F : Fr h₀ L s.heap m) (N : News h₀ L s.heap ((it, liO l i) :: news)) (ha : ∀ p ∈ news, p.1 ≠ it) (hm : (l, listOf vs.toArray c) ∈ news) (hv : vs[i]? = some v)
    (h : ∀ h', Fr h₀ L h' m → News h₀ L h' ((it, liO l (i + 1)) :: news) → Q v { s with heap := h' }) :
    wpAny (model prog w) A (call (.builtin "next") [.ref it]) Q E s := by
  have ho := N _ (.head _)
  have hl := (N _ (.tail _ hm)).1
  have hit : s.heap.IsListIter it l i := ⟨_, ho.1, rfl, rfl⟩
  refine call_function_entry (by decide +kernel) (by decide +kernel) kdk_entry_next (kdk_args_next _) ?_
  unfold Builtin.«next»
  refine wpAny_bind (m := someArgs "next" 1 2 _) (wpAny_of_eq (a := [Value.ref it]) (by first | rfl | kernel_rfl!) ?_)
  dsimp only
  refine wpAny_bind (wpAny_specialOf (name := Str.ofString "__next__") hit.typeIs slot_listiter_next.lookup ?_)
  refine wpAny_ite_split (fun hab => absurd hab (by decide)) (fun _ => ?_)
  refine wpAny_bind (wpAny_callSpecial?_slot (name := Str.ofString "__next__") hit.typeIs slot_listiter_next (wpAny_call_entry slot_listiter_next hit.typeIs entry_listiter_next ?_ (args_listiter_next _)))
  show wpAny _ _ (field (.ref it) 0 >>= _) _ _ s
  refine wpAny_bind (wpAny_field ho.1 rfl (x := .ref l) rfl ?_)
  show wpAny _ _ (if (Value.ref l == Value.none) = true then _ else _) _ _ s
  rw [if_neg (show ¬ ((Value.ref l == Value.none) = true) from Bool.false_ne_true)]
  show wpAny _ _ (field (.ref it) 1 >>= _) _ _ s
  refine wpAny_bind (wpAny_field ho.1 rfl (x := .int i 0) rfl ?_)
  show wpAny _ _ (seqItems? (.ref l) >>= _) _ _ s
  refine wpAny_bind (wpAny_seqItems hl rfl ?_)
  have hx : vs.toArray[i]? = some v := by simpa using hv
  simp only [Int.toNat_natCast, hx]
  refine wpAny_bind (wpAny_setField ho.1 rfl (by simp) (wpAny_pure ⟨v, rfl, wpAny_pure ⟨_, rfl, ?_⟩⟩))
  have hs := Heap.SameBut.update s.heap it (Obj.mapFields (·.setIfInBounds 1 (rawInt ((i : Int) + 1))))
  have hg := Heap.get?_update_self (Obj.mapFields (·.setIfInBounds 1 (rawInt ((i : Int) + 1)))) ho.1 rfl
  have e : Obj.mapFields (·.setIfInBounds 1 (rawInt ((i : Int) + 1))) (liO l i) = liO l (i + 1) := by simp [Obj.mapFields, rawInt]
  rw [e] at hg
  exact h _ (F.change hs ho.2.1 ho.2.2) (N.setHead ha hs hg)
theorem next_end (hh : A.handled = none) (F : Fr h₀ L s.heap m) (N : News h₀ L s.heap ((it, liO l i) :: news)) (ha : ∀ p ∈ news, p.1 ≠ it) (hm : (l, listOf vs.toArray c) ∈ news) (hv : vs.length ≤ i)
    (h : ∀ h1 h' e, Fr h₀ L h1 m → News h₀ L h1 ((it, liE i) :: news) → Heap.MadeExcOf h1 h' e (.type "StopIteration") [] → E (.ref e) { s with heap := h' }) :
    wpAny (model prog w) A (call (.builtin "next") [.ref it]) Q E s := by
  have ho := N _ (.head _)
  have hl := (N _ (.tail _ hm)).1
  have hit : s.heap.IsListIter it l i := ⟨_, ho.1, rfl, rfl⟩
  refine call_function_entry (by decide +kernel) (by decide +kernel) kdk_entry_next (kdk_args_next _) ?_
  unfold Builtin.«next»
  refine wpAny_bind (m := someArgs "next" 1 2 _) (wpAny_of_eq (a := [Value.ref it]) (by first | rfl | kernel_rfl!) ?_)
  dsimp only
  refine wpAny_bind (wpAny_specialOf (name := Str.ofString "__next__") hit.typeIs slot_listiter_next.lookup ?_)
  refine wpAny_ite_split (fun hab => absurd hab (by decide)) (fun _ => ?_)
  refine wpAny_bind (wpAny_callSpecial?_slot (name := Str.ofString "__next__") hit.typeIs slot_listiter_next (wpAny_call_entry slot_listiter_next hit.typeIs entry_listiter_next ?_ (args_listiter_next _)))
  show wpAny _ _ (field (.ref it) 0 >>= _) _ _ s
  refine wpAny_bind (wpAny_field ho.1 rfl (x := .ref l) rfl ?_)
  show wpAny _ _ (if (Value.ref l == Value.none) = true then _ else _) _ _ s
  rw [if_neg (show ¬ ((Value.ref l == Value.none) = true) from Bool.false_ne_true)]
  show wpAny _ _ (field (.ref it) 1 >>= _) _ _ s
  refine wpAny_bind (wpAny_field ho.1 rfl (x := .int i 0) rfl ?_)
  show wpAny _ _ (seqItems? (.ref l) >>= _) _ _ s
  refine wpAny_bind (wpAny_seqItems hl rfl ?_)
  have hx : vs.toArray[i]? = none := by simpa using hv
  simp only [Int.toNat_natCast, hx]
  refine wpAny_bind (wpAny_rule (wpAny_bind (wpAny_setField ho.1 rfl (by simp) ?_)))
  have hs := Heap.SameBut.update s.heap it (Obj.mapFields (·.setIfInBounds 0 Value.none))
  have hg := Heap.get?_update_self (Obj.mapFields (·.setIfInBounds 0 Value.none)) ho.1 rfl
  have e : Obj.mapFields (·.setIfInBounds 0 Value.none) (liO l i) = liE i := by simp [Obj.mapFields]
  rw [e] at hg
  have F1 := F.change hs ho.2.1 ho.2.2
  have N1 := N.setHead ha hs hg
  show wpAny _ _ (newExc (.type "StopIteration") [] >>= _) _ _ _
  refine wpAny_bind ?_
  simp only [newExc, newTuple]
  refine wpAny_bind (wpAny_newObj_type ?_ (by size_fits))
  refine wpAny_bind (m := firstArgMember _ _) (wpAny_of_eq (a := Value.none) (by first | rfl | (simp only [firstArgMember]; rfl)) ?_)
  refine wpAny_newObj_type ?_ (by size_fits)
  simp only [raiseNew]
  refine wpAny_bind (wpAny_handled ?_)
  rw [show A.in1.handled = none from hh]
  refine wpAny_bind (wpAny_pure (wpAny_throw ?_))
  refine h _ _ _ F1 N1 ⟨fun b o e => Heap.get?_push_of_some _ (Heap.get?_push_of_some _ e), ?_, ⟨_, Heap.get?_push_size _ rfl, ?_, Heap.get?_push_of_some _ (Heap.get?_push_size _ rfl)⟩⟩
  · exact Heap.get?_none_of_le (by rw [Heap.size_push]; exact Nat.le_succ _)
  · exact Heap.get?_none_of_le (Nat.le_refl _)
end
end
section
local macro_rules | `(tactic| walk_at "callWith ref") => `(tactic| (k_here; (with_reducible show wpAny _ _ (callWith _ (Value.ref _) _ (backTo _ (starEach (_ :: _) _)) []) _ _ _); k_dflt (refine' callWith_bd (bt := "method-wrapper") (id := "list.__contains__") ?k0 ?k1 ?k2 ?_; (case k0 => exact .inr rfl); (case k1 => k_asm); (case k2 => k_mem); k_whole)))
local macro_rules | `(tactic| walk_at "And") => `(tactic| ((with_reducible show Stands _ _ _ ∧ _); k_dflt (refine ⟨News.get (by k_asm) (by k_mem), ?_⟩); (try dsimp only [List.nil_append, List.cons_append])))
local macro_rules | `(tactic| walk_at "call builtin:next") => `(tactic| (k_here; (with_reducible show wpAny _ _ (call (Value.builtin "next") [Value.ref _]) _ _ _); k_dflt (refine' next_item ?k1 ?k2 ?k3 ?k4 ?k5 ?_; (case k1 => k_asm); (case k2 => k_asm); (case k3 => assumption); (case k4 => k_mem); (case k5 => assumption); k_whole); intro h' F' N'; (try k_sweep)))
local macro_rules | `(tactic| walk_at "call ref") => `(tactic| (k_here; (with_reducible show wpAny _ _ (call (Value.ref _) [Value.str _ _]) _ _ _); k_dflt (first | (refine' call_contains (b := true) ?k1 ?k2 ?k3 ?k4 ?_; (case k2 => exact News.get (by k_asm) (by k_mem)); (case k1 => exact News.get (by k_asm) (by k_mem)); (case k3 => assumption); (case k4 => assumption); k_whole) | (refine' call_contains (b := false) ?k1 ?k2 ?k3 ?k4 ?_; (case k2 => exact News.get (by k_asm) (by k_mem)); (case k1 => exact News.get (by k_asm) (by k_mem)); (case k3 => assumption); (case k4 => assumption); k_whole))))
noncomputable abbrev ffO (d q I : Addr) : Obj := { cls := .ref 77, dict := some d, slots := #[some (.ref q), some (.ref I)] }
/-- the filter's state on the ledger: the iterator is at p -/
noncomputable abbrev ffT (x d q I lf ls : Addr) (vs us : List Value) (c c' : Nat) (rest : List (Addr × Obj)) : List (Addr × Obj) :=
  (x, ffO d q I) :: (d, dictOf [] 0) :: (q, boundO "method-wrapper" "list.__contains__" (.ref ls)) :: (lf, listOf vs.toArray c) :: (ls, listOf us.toArray c') :: rest
noncomputable abbrev ffN (x d q I lf ls : Addr) (vs us : List Value) (c c' : Nat) (rest : List (Addr × Obj)) (p : Nat) : List (Addr × Obj) := (I, liO lf p) :: ffT x d q I lf ls vs us c c' rest
noncomputable def FfJ (x d q I lf ls : Addr) (vs us : List Value) (c c' : Nat) (rest : List (Addr × Obj)) (xs ys : List Str) (y : Str) (post : List Str) (n : Nat) (m : Str → Option Value) (news : List (Addr × Obj)) : Prop :=
  ∃ (p : Nat) (pre : List Str), n = pre.length ∧ xs.drop p = pre ++ y :: post ∧ (∀ z ∈ pre, ys.contains z = true) ∧ m (Str.ofString "self") = some (.ref x) ∧ m (Str.ofString "func") = some (.ref q) ∧ news = ffN x d q I lf ls vs us c c' rest p
theorem drop_get {α : Type} {xs : List α} {p : Nat} {z : α} {r : List α} (h : xs.drop p = z :: r) : xs[p]? = some z ∧ xs.drop (p + 1) = r := by
  have hp : p < xs.length := by
    apply Nat.lt_of_not_le
    intro hle
    rw [List.drop_eq_nil_of_le hle] at h
    cases h
  rw [List.drop_eq_getElem_cons hp] at h
  injection h with h1 h2
  exact ⟨by rw [List.getElem?_eq_getElem hp, h1], h2⟩
theorem ff_item (w : World) (x d q I lf ls : Addr) (vs us : List Value) (c c' : Nat) (rest : List (Addr × Obj)) (xs ys : List Str) (hx : StrsAre vs xs) (hy : StrsAre us ys) (p : Nat) (pre : List Str) (y : Str) (post : List Str) (hdr : xs.drop p = pre ++ y :: post) (hpre : ∀ z ∈ pre, ys.contains z = true) (hyc : ys.contains y = false) (hI : ∀ r ∈ ffT x d q I lf ls vs us c c' rest, r.1 ≠ I) :
    ToldNextS PySem.Challenge.pw_il0113_01 w (Mine.K w.params) 20 180 (.ref x) (ffN x d q I lf ls vs us c c' rest p)
      (fun r nw => ∃ t j, r = some (.str y t) ∧ xs.drop j = post ∧ nw = ffN x d q I lf ls vs us c c' rest j) := by
  intro p' loose mean mg mb dp un gd cn cs a ccd outer A₀ base h₀ L m s Q E B F X N T hk hdp hun XB TB D hret
  k_dflt (refine' owit_next (f := 73) ?F ?X ?I ?hs ?hf ?_; (case F => k_asm); (case X => k_asm); (case I => k_inst); (case hs => k_is); (case hf => k_is))
  refine wpAny_call ?_
  k_dflt (refine' code_def ?k1 ?k2 ?k3 ?k4 ?k5 ?kA ?kF ?kK ?k6 ?k7 ?k8 ?k9 ?kB ?_ ?c2 ?c3 ?c4 ?c5; (case kA => exact rfl); (case kF => exact rfl); (case kK => assumption); (case k1 => k_asm); (case k2 => k_asm); (case k3 => k_asm); (case k4 => k_asm); (case k5 => k_asm); (case k6 => k_is); (case k7 => k_is); (case k8 => ktr_room); (case k9 => first | exact BindsTo.of_eq rfl | exact binds_K (by k_in) rfl (by k_is) rfl rfl rfl); (case c5 => decide); (case kB => exact locs rfl); (case c2 => exact rfl); (case c3 => exact rfl); (case c4 => exact rfl); k_whole; intro g' L' h' FG' F' N' B' X' T'; (try ((refine execs_at (b' := ?kbody) ?kbe ?_); (case kbe => (conv => lhs; whnf)))); (try dsimp only); (try k_fold))
  repeat' (first | (k_unfold; (try dsimp only)) | ((fail_if_success (with_reducible show wpAny _ _ (exec (Stmt.While _ _ _ _) _) _ _ _)); (fail_if_success (with_reducible show Q _ _)); first | walk1 | (dsimp only; walk1)))
  (with_reducible rename Fr _ _ _ _ => kF)
  (with_reducible rename News _ _ _ _ => kN)
  refine While_to (fun h₀ L s f s' => ∃ t j h tk m, f = .ret (.str y t) ∧ s' = { s with heap := h, toks := tk } ∧ Fr h₀ L h m ∧ News h₀ L h (ffN x d q I lf ls vs us c c' rest j) ∧ xs.drop j = post) (FfJ x d q I lf ls vs us c c' rest xs ys y post) kF kN ⟨p, pre, rfl, hdr, hpre, by rfl, by rfl, rfl⟩ ?turn ?post
  case turn =>
    rintro n m₁ news₁ h₁ tk₁ F₁ N₁ ⟨p1, pre1, rfl, hd1, hp1, hm1, hm2, rfl⟩
    rw [m3 m₁ (Str.ofString "self") (Str.ofString "func") _ _ hm1 hm2] at F₁
    (try k_sweep)
    cases pre1 with
    | nil =>
      obtain ⟨g1, g2⟩ := drop_get hd1
      obtain ⟨t1, g3⟩ := hx.get p1 y g1
      repeat' (first | (k_unfold; (try dsimp only)) | ((fail_if_success (with_reducible show WhileStep2 _ _ _ _ _ _ _ _)); first | walk1 | (dsimp only; walk1)))
      (with_reducible rename Fr _ _ _ _ => kF)
      (with_reducible rename News _ _ _ _ => kN)
      exact ⟨t1, p1 + 1, _, _, _, rfl, rfl, kF, kN, g2⟩
    | cons z pre2 =>
      obtain ⟨g1, g2⟩ := drop_get hd1
      obtain ⟨t1, g3⟩ := hx.get p1 z g1
      have hz := hp1 z (.head _)
      repeat' (first | (k_unfold; (try dsimp only)) | ((fail_if_success (with_reducible show WhileStep2 _ _ _ _ _ _ _ _)); first | walk1 | (dsimp only; walk1)))
      (with_reducible rename Fr _ _ _ _ => kF)
      (with_reducible rename News _ _ _ _ => kN)
      exact ⟨_, _, _, _, _, rfl, kF, kN, Nat.lt_succ_self _, p1 + 1, pre2, rfl, g2, fun z' hz' => hp1 z' (.tail _ hz'), by rfl, by rfl, rfl⟩
  case post =>
    rintro f s' ⟨t, j, h, tk, m, rfl, rfl, kF, kN, hj⟩
    dsimp only
    repeat' (first | (k_unfold; (try dsimp only)) | ((fail_if_success (with_reducible show Q _ _)); first | walk1 | (dsimp only; walk1)))
    (with_reducible rename Fr _ _ _ _ => kF)
    (with_reducible rename News _ _ _ _ => kN)
    exact hret _ _ _ _ h₀ KtsTurn.refl kF kN B X T (by assumption) ⟨t, j, rfl, hj, rfl⟩
noncomputable def FfE (x d q I lf ls : Addr) (vs us : List Value) (c c' : Nat) (rest : List (Addr × Obj)) (xs ys : List Str) (n : Nat) (m : Str → Option Value) (news : List (Addr × Obj)) : Prop :=
  ∃ (p : Nat) (pre : List Str), n = pre.length ∧ xs.drop p = pre ∧ (∀ z ∈ pre, ys.contains z = true) ∧ m (Str.ofString "self") = some (.ref x) ∧ m (Str.ofString "func") = some (.ref q) ∧ news = ffN x d q I lf ls vs us c c' rest p
theorem ff_end (w : World) (x d q I lf ls : Addr) (vs us : List Value) (c c' : Nat) (rest : List (Addr × Obj)) (xs ys : List Str) (hx : StrsAre vs xs) (hy : StrsAre us ys) (p : Nat) (pre : List Str) (hdr : xs.drop p = pre) (hpre : ∀ z ∈ pre, ys.contains z = true) (hI : ∀ r ∈ ffT x d q I lf ls vs us c c' rest, r.1 ≠ I) :
    ToldNextS PySem.Challenge.pw_il0113_01 w (Mine.K w.params) 20 180 (.ref x) (ffN x d q I lf ls vs us c c' rest p)
      (fun r nw => r = none ∧ ∃ j, nw = (I, liE j) :: ffT x d q I lf ls vs us c c' rest) := by
  intro p' loose mean mg mb dp un gd cn cs a ccd outer A₀ base h₀ L m s Q E B F X N T hk hdp hun XB TB D hret
  k_dflt (refine' owit_next (f := 73) ?F ?X ?I ?hs ?hf ?_; (case F => k_asm); (case X => k_asm); (case I => k_inst); (case hs => k_is); (case hf => k_is))
  refine wpAny_call ?_
  k_dflt (refine' code_def ?k1 ?k2 ?k3 ?k4 ?k5 ?kA ?kF ?kK ?k6 ?k7 ?k8 ?k9 ?kB ?_ ?c2 ?c3 ?c4 ?c5; (case kA => exact rfl); (case kF => exact rfl); (case kK => assumption); (case k1 => k_asm); (case k2 => k_asm); (case k3 => k_asm); (case k4 => k_asm); (case k5 => k_asm); (case k6 => k_is); (case k7 => k_is); (case k8 => ktr_room); (case k9 => first | exact BindsTo.of_eq rfl | exact binds_K (by k_in) rfl (by k_is) rfl rfl rfl); (case c5 => decide); (case kB => exact locs rfl); (case c2 => exact rfl); (case c3 => exact rfl); (case c4 => exact rfl); k_whole; intro g' L' h' FG' F' N' B' X' T'; (try ((refine execs_at (b' := ?kbody) ?kbe ?_); (case kbe => (conv => lhs; whnf)))); (try dsimp only); (try k_fold))
  repeat' (first | (k_unfold; (try dsimp only)) | ((fail_if_success (with_reducible show wpAny _ _ (exec (Stmt.While _ _ _ _) _) _ _ _)); (fail_if_success (with_reducible show Q _ _)); first | walk1 | (dsimp only; walk1)))
  (with_reducible rename Fr _ _ _ _ => kF)
  (with_reducible rename News _ _ _ _ => kN)
  refine While_to (fun h₀ L s f s' => False) (FfE x d q I lf ls vs us c c' rest xs ys) kF kN ⟨p, pre, rfl, hdr, hpre, by rfl, by rfl, rfl⟩ ?turn ?post
  case turn =>
    rintro n m₁ news₁ h₁ tk₁ F₁ N₁ ⟨p1, pre1, rfl, hd1, hp1, hm1, hm2, rfl⟩
    rw [m3 m₁ (Str.ofString "self") (Str.ofString "func") _ _ hm1 hm2] at F₁
    (try k_sweep)
    cases pre1 with
    | nil =>
      have g3 : vs.length ≤ p1 := by rw [hx.length]; exact List.drop_eq_nil_iff.mp hd1
      repeat' (first | (k_unfold; (try dsimp only)) | ((with_reducible show wpAny _ _ (call (Value.builtin "next") [Value.ref _]) _ _ _); refine next_end rfl (by k_asm) (by k_asm) hI (by k_mem) g3 ?_; intro h1' h2' e' F' N' M'; (try k_sweep)) | ((fail_if_success (with_reducible show WhileStep2 _ _ _ _ _ _ _ _)); first | walk1 | (dsimp only; walk1)))
      (rename RaisedS _ _ _ _ _ _ _ _ _ => rsX)
      k_dflt (refine' owit_stopS rsX ?F ?K ?U ?XB ?TB ?D ?s ?_; (case F => assumption); (case K => assumption); (case U => assumption); (case XB => assumption); (case TB => assumption); (case D => assumption); (case s => first | rfl | kernel_rfl | decide))
      intro g₉ T₉ F₉ N₉ B₉ X₉ P₉ D₉
      exact hret _ _ _ _ g₉ T₉ F₉ N₉ B₉ X₉ P₉ D₉ ⟨rfl, _, rfl⟩
    | cons z pre2 =>
      obtain ⟨g1, g2⟩ := drop_get hd1
      obtain ⟨t1, g3⟩ := hx.get p1 z g1
      have hz := hp1 z (.head _)
      repeat' (first | (k_unfold; (try dsimp only)) | ((fail_if_success (with_reducible show WhileStep2 _ _ _ _ _ _ _ _)); first | walk1 | (dsimp only; walk1)))
      (with_reducible rename Fr _ _ _ _ => kF)
      (with_reducible rename News _ _ _ _ => kN)
      exact ⟨_, _, _, _, _, rfl, kF, kN, Nat.lt_succ_self _, p1 + 1, pre2, rfl, g2, fun z' hz' => hp1 z' (.tail _ hz'), by rfl, by rfl, rfl⟩
  case post =>
    exact fun _ _ hf => hf.elim
end
section
theorem ff_iter (w : World) (x d q I lf ls : Addr) (vs us : List Value) (c c' : Nat) (rest : List (Addr × Obj)) (p : Nat) (l : Addr) (c2 : Nat)
    (p' : Program) (loose : List Str) (mean : ExcName → Option Value) (mg mb : Str → Option Value) (dp un : Nat) (gd : Option (List Code)) (cn : Str) (cs : Scope) (a : Addr) (ccd : Value) (outer : List Env) (A₀ : Around) (base h₀ : Heap) (L : Addr) (m : Str → Option Value) (s : Shared) (Q E : Value → Shared → Prop)
    (B : Below A₀ base outer h₀) (F : Fr h₀ L s.heap m) (X : (Mine.K w.params).In h₀) (N : News h₀ L s.heap ((l, listOf #[] c2) :: ffN x d q I lf ls vs us c c' rest p)) (T : Top p' loose mean mg mb h₀) (hk : cs.kind = .function) (hdp : dp + 20 < recursionLimit) (hun : un + 180 < cLine)
    (hret : ∀ h' tk', Fr h₀ L h' m → News h₀ L h' ((l, listOf #[] c2) :: ffN x d q I lf ls vs us c c' rest p) → Q (.ref x) { s with heap := h', toks := tk' }) :
    wpAny (model PySem.Challenge.pw_il0113_01 w) (ktrTop dp un gd cn cs L a ccd [] outer) (pyIter (.ref x)) Q E s := by
  k_dflt (refine' owit_iter (f := 66) ?F ?X ?I ?hs ?hf ?_; (case F => k_asm); (case X => k_asm); (case I => k_inst); (case hs => k_is); (case hf => k_is))
  refine wpAny_call ?_
  k_dflt (refine' code_def ?k1 ?k2 ?k3 ?k4 ?k5 ?kA ?kF ?kK ?k6 ?k7 ?k8 ?k9 ?kB ?_ ?c2 ?c3 ?c4 ?c5; (case kA => exact rfl); (case kF => exact rfl); (case kK => assumption); (case k1 => k_asm); (case k2 => k_asm); (case k3 => k_asm); (case k4 => k_asm); (case k5 => k_asm); (case k6 => k_is); (case k7 => k_is); (case k8 => ktr_room); (case k9 => first | exact BindsTo.of_eq rfl | exact binds_K (by k_in) rfl (by k_is) rfl rfl rfl); (case c5 => decide); (case kB => exact locs rfl); (case c2 => exact rfl); (case c3 => exact rfl); (case c4 => exact rfl); k_whole; intro g' L' h' FG' F' N' B' X' T'; (try ((refine execs_at (b' := ?kbody) ?kbe ?_); (case kbe => (conv => lhs; whnf)))); (try dsimp only); (try k_fold))
  repeat' (first | (k_unfold; (try dsimp only)) | ((fail_if_success (with_reducible show Q _ _)); first | walk1 | (dsimp only; walk1)))
  (with_reducible rename Fr _ _ _ _ => kF)
  (with_reducible rename News _ _ _ _ => kN)
  exact hret _ _ kF kN
section
variable (w : World) (x d q I lf ls : Addr) (vs us : List Value) (c c' : Nat) (rest : List (Addr × Obj)) (xs ys : List Str)
noncomputable def FfL (l : Addr) (i : Nat) (news : List (Addr × Obj)) : Prop := (∀ r ∈ ffT x d q I lf ls vs us c c' rest, r.1 < l) ∧ I < l ∧
  ((∃ p, news = ffN x d q I lf ls vs us c c' rest p ∧ (xs.drop p).filter (fun z => !ys.contains z) = (xs.filter fun z => !ys.contains z).drop i) ∨ (∃ j, news = (I, liE j) :: ffT x d q I lf ls vs us c c' rest ∧ (xs.filter fun z => !ys.contains z).length < i))
theorem FfL.apart {l : Addr} {i : Nat} {news : List (Addr × Obj)} (h : FfL x d q I lf ls vs us c c' rest xs ys l i news) : ∀ r ∈ news, r.1 ≠ l := by
  obtain ⟨h1, h2, h3⟩ := h
  rcases h3 with ⟨p, rfl, _⟩ | ⟨j, rfl, _⟩
  · intro r hr
    rcases List.mem_cons.mp hr with rfl | hr
    · exact Nat.ne_of_lt h2
    · exact Nat.ne_of_lt (h1 r hr)
  · intro r hr
    rcases List.mem_cons.mp hr with rfl | hr
    · exact Nat.ne_of_lt h2
    · exact Nat.ne_of_lt (h1 r hr)
theorem ff_sub {o : Obj} {l : Addr} {io : Obj} : ∀ r, r ∈ ((I, io) :: ffT x d q I lf ls vs us c c' ((l, o) :: rest)) ↔ r ∈ ((l, o) :: (I, io) :: ffT x d q I lf ls vs us c c' rest) := by
  intro r
  simp only [List.mem_cons]
  constructor
  · rintro (h | h | h | h | h | h | h | h) <;> simp [h]
  · rintro (h | h | h | h | h | h | h | h) <;> simp [h]
theorem FfL_step (hx : StrsAre vs xs) (hy : StrsAre us ys) (hI : ∀ r ∈ ffT x d q I lf ls vs us c c' rest, r.1 ≠ I) (l : Addr) (i : Nat) (news : List (Addr × Obj)) (os : List Value) (c2 : Nat) (hi : i < (xs.filter fun z => !ys.contains z).length) (hJ : FfL x d q I lf ls vs us c c' rest xs ys l i news) :
    ToldNextS PySem.Challenge.pw_il0113_01 w (Mine.K w.params) 20 180 (.ref x) ((l, listOf os.toArray c2) :: news)
      (fun r nw => ∃ v nw', r = some v ∧ (∃ t, v = .str ((xs.filter fun z => !ys.contains z).getD i Str.empty) t) ∧ nw = (l, listOf os.toArray c2) :: nw' ∧ FfL x d q I lf ls vs us c c' rest xs ys l (i + 1) nw') := by
  obtain ⟨h1, h2, h3⟩ := hJ
  rcases h3 with ⟨p, rfl, hp⟩ | ⟨j, rfl, hj⟩
  rotate_left
  · omega
  obtain ⟨y, hy1⟩ : ∃ y, (xs.filter fun z => !ys.contains z).drop i = y :: (xs.filter fun z => !ys.contains z).drop (i + 1) := ⟨_, List.drop_eq_getElem_cons hi⟩
  have hyg : (xs.filter fun z => !ys.contains z).getD i Str.empty = y := by
    have := (drop_get hy1).1
    rw [List.getD_eq_getElem?_getD, this]; rfl
  rw [hy1] at hp
  obtain ⟨pre, post, hsplit, hpre, hyn, hpost⟩ := List.filter_eq_cons_iff.mp hp
  have hI' : ∀ r ∈ ffT x d q I lf ls vs us c c' ((l, listOf os.toArray c2) :: rest), r.1 ≠ I := by
    intro r hr
    have := (ff_sub x d q I lf ls vs us c c' rest (io := liO lf p) (o := listOf os.toArray c2) (l := l) r).mp (.tail _ hr)
    rcases List.mem_cons.mp this with rfl | this
    · exact Ne.symm (Nat.ne_of_lt h2)
    · rcases List.mem_cons.mp this with h | this
      · simp only [List.mem_cons] at hr
        rcases hr with h' | h' | h' | h' | h' | h' | h'
        · exact hI r (by simp [h'])
        · exact hI r (by simp [h'])
        · exact hI r (by simp [h'])
        · exact hI r (by simp [h'])
        · exact hI r (by simp [h'])
        · rw [h']; exact Ne.symm (Nat.ne_of_lt h2)
        · exact hI r (by simp [h'])
      · exact hI r this
  refine told_turn (ff_item w x d q I lf ls vs us c c' ((l, listOf os.toArray c2) :: rest) xs ys hx hy p pre y post hsplit (fun z hz => by simpa using hpre z hz) (by simpa using hyn) hI') (fun r hr => (ff_sub x d q I lf ls vs us c c' rest r).mp hr) ?_
  rintro r nw ⟨t, j, rfl, hj, rfl⟩
  refine ⟨(l, listOf os.toArray c2) :: ffN x d q I lf ls vs us c c' rest j, fun r hr => (ff_sub x d q I lf ls vs us c c' rest r).mpr hr, _, _, rfl, ⟨t, by rw [hyg]⟩, rfl, h1, h2, .inl ⟨j, rfl, by rw [hj]; exact hpost⟩⟩
theorem FfL_end (hx : StrsAre vs xs) (hy : StrsAre us ys) (hI : ∀ r ∈ ffT x d q I lf ls vs us c c' rest, r.1 ≠ I) (l : Addr) (news : List (Addr × Obj)) (os : List Value) (c2 : Nat) (hJ : FfL x d q I lf ls vs us c c' rest xs ys l (xs.filter fun z => !ys.contains z).length news) :
    ToldNextS PySem.Challenge.pw_il0113_01 w (Mine.K w.params) 20 180 (.ref x) ((l, listOf os.toArray c2) :: news)
      (fun r nw => ∃ nw', r = none ∧ nw = (l, listOf os.toArray c2) :: nw' ∧ FfL x d q I lf ls vs us c c' rest xs ys l ((xs.filter fun z => !ys.contains z).length + 1) nw') := by
  obtain ⟨h1, h2, h3⟩ := hJ
  rcases h3 with ⟨p, rfl, hp⟩ | ⟨j, rfl, hj⟩
  rotate_left
  · omega
  rw [List.drop_length] at hp
  have hI' : ∀ r ∈ ffT x d q I lf ls vs us c c' ((l, listOf os.toArray c2) :: rest), r.1 ≠ I := by
    intro r hr
    simp only [List.mem_cons] at hr
    rcases hr with h' | h' | h' | h' | h' | h' | h'
    · exact hI r (by simp [h'])
    · exact hI r (by simp [h'])
    · exact hI r (by simp [h'])
    · exact hI r (by simp [h'])
    · exact hI r (by simp [h'])
    · rw [h']; exact Ne.symm (Nat.ne_of_lt h2)
    · exact hI r (by simp [h'])
  refine told_turn (ff_end w x d q I lf ls vs us c c' ((l, listOf os.toArray c2) :: rest) xs ys hx hy p _ rfl (fun z hz => by simpa using List.filter_eq_nil_iff.mp hp z hz) hI') (fun r hr => (ff_sub x d q I lf ls vs us c c' rest r).mp hr) ?_
  rintro r nw ⟨rfl, j, rfl⟩
  exact ⟨(l, listOf os.toArray c2) :: (I, liE j) :: ffT x d q I lf ls vs us c c' rest, fun r hr => (ff_sub x d q I lf ls vs us c c' rest r).mpr hr, _, rfl, rfl, h1, h2, .inr ⟨j, rfl, Nat.lt_succ_self _⟩⟩
end
theorem strs_ofS : ∀ {vs : List Value} {ws : List Str}, vs.length = ws.length → AllAt (fun i v => ∃ t, v = .str (ws.getD i Str.empty) t) vs → StrsAre vs ws
  | [], [], _, _ => StrsAre.nil
  | v :: vs, x :: ws, hl, h => by
    obtain ⟨t, rfl⟩ := h 0 v rfl
    exact StrsAre.cons _ _ (strs_ofS (by simpa using hl) (fun i v hv => h (i + 1) v hv))
  | [], _ :: _, hl, _ => by cases hl
  | _ :: _, [], hl, _ => by cases hl
end
section
local macro_rules | `(tactic| k_all) => `(tactic| ((repeat ((rename _ ∧ _ => kc); (obtain ⟨kc1, kc2⟩ := kc))); (repeat (first | (refine allLt_up ?kAx (by assumption); omega) | ((rename AllLt _ _ => kA); clear kA))); done))
theorem filt_list (w : World) (x d q I lf ls : Addr) (vs us : List Value) (c c' : Nat) (rest : List (Addr × Obj)) (xs ys : List Str) (hx : StrsAre vs xs) (hy : StrsAre us ys) (hlen : xs.length ≤ 1000) (hI : ∀ r ∈ ffT x d q I lf ls vs us c c' rest, r.1 ≠ I) :
    ToldS PySem.Challenge.pw_il0113_01 w (Mine.K w.params) 20 190 (.type "list") [.ref x] (ffN x d q I lf ls vs us c c' rest 0)
      (fun r nw => ∃ (l : Addr) (os : List Value) (c2 : Nat), r = .ref l ∧ nw = (l, listOf os.toArray c2) :: (lf, listOf vs.toArray c) :: (ls, listOf us.toArray c') :: rest ∧ (∀ p ∈ ((lf, listOf vs.toArray c) :: (ls, listOf us.toArray c') :: rest), p.1 < l) ∧ StrsAre os (xs.filter fun z => !ys.contains z)) := by
  intro p loose mean mg mb dp un gd cn cs a ccd outer A₀ base h₀ L m s Q E B F X N T hk hdp hun XB TB D hret
  refine list_own (K := Mine.K w.params) (C := 77) (dpn := 20) (unn := 180) (fun l i v => ∃ t, v = .str ((xs.filter fun z => !ys.contains z).getD i Str.empty) t) (xs.filter fun z => !ys.contains z).length (fun l => FfL x d q I lf ls vs us c c' rest xs ys l) (Nat.le_trans (List.length_filter_le _ _) hlen) (oi := ffO d q I) rfl (.tail _ (.head _)) (by with_unfolding_all rfl) (by with_unfolding_all rfl) ?hJ ?hap ?hiter ?hstep ?hend B F X N T D hk hdp (by omega) XB TB ?ret
  case hJ =>
    intro l hl
    exact ⟨fun r hr => hl r (.tail _ hr), hl (I, _) (.head _), .inl ⟨0, rfl, rfl⟩⟩
  case hap =>
    rintro l i news hJ q hq
    exact FfL.apart _ _ _ _ _ _ _ _ _ _ _ _ _ hJ q hq
  case hiter =>
    rintro s' news' Q' ⟨l, c2, rfl⟩ e1 e2 e3 F' N' ret'
    exact ff_iter w x d q I lf ls vs us c c' rest 0 l c2 p loose mean mg mb dp (un + 1 + 1) gd cn cs a ccd outer A₀ base h₀ L m s' Q' E B F' X N' T hk hdp (by omega) ret'
  case hstep =>
    intro l i news os c2 hi hJ
    exact FfL_step w x d q I lf ls vs us c c' rest xs ys hx hy hI l i news os c2 hi hJ
  case hend =>
    intro l news os c2 hJ
    exact FfL_end w x d q I lf ls vs us c c' rest xs ys hx hy hI l news os c2 hJ
  case ret =>
    rintro l os c2 news' h' tk' g' hlt T' F' N' B' X' P' D' hJ hl hP
    refine hret _ ((l, listOf os.toArray c2) :: (lf, listOf vs.toArray c) :: (ls, listOf us.toArray c') :: rest) h' tk' g' T' F' (news_sub N' ?_) B' X' P' D' ⟨l, os, c2, rfl, rfl, ?_, strs_ofS hl hP⟩
    · intro r hr
      obtain ⟨_, _, h3⟩ := hJ
      have : ∀ {io}, r ∈ (l, listOf os.toArray c2) :: (I, io) :: ffT x d q I lf ls vs us c c' rest := by
        intro io
        simp only [List.mem_cons] at hr ⊢
        rcases hr with h | h | h | h <;> simp [h]
      rcases h3 with ⟨p, rfl, _⟩ | ⟨j, rfl, _⟩
      · exact this
      · exact this
    · intro r hr
      exact hlt r (.tail _ (.tail _ (.tail _ (.tail _ hr))))
theorem filt_c (w : World) (lf ls : Addr) (vs us : List Value) (c c' : Nat) (rest : List (Addr × Obj)) (xs ys : List Str) (hx : StrsAre vs xs) (hy : StrsAre us ys) (hlen : xs.length ≤ 1000) :
    ToldX PySem.Challenge.pw_il0113_01 w (Mine.K w.params) 60 400 (fun _ => True) (.ref 88) [.ref lf, .ref ls] ((lf, listOf vs.toArray c) :: (ls, listOf us.toArray c') :: rest)
      (fun r nw => ∃ (l : Addr) (os : List Value) (c2 : Nat), r = .ref l ∧ nw = (l, listOf os.toArray c2) :: (lf, listOf vs.toArray c) :: (ls, listOf us.toArray c') :: rest ∧ (∀ p ∈ ((lf, listOf vs.toArray c) :: (ls, listOf us.toArray c') :: rest), p.1 < l) ∧ StrsAre os (xs.filter fun z => !ys.contains z)) := by
  intro p loose mean mg mb dp un gd cn cs a ccd cl outer A₀ base h₀ L m s Q E B F X N T hk hdp hun XB TB D hpre hret
  refine wpAny_call ?_
  k_dflt (refine' code_defSX ?k1 ?k2 ?k3 ?k4 ?k5 ?XB ?TB ?D ?T0 ?kA ?k6 ?k7 ?k8 ?k9 ?kB ?_ ?cK ?c2 ?c3 ?c4 ?c5; (case kA => exact rfl); (case k2 => k_asm); (case k1 => k_asm); (case XB => assumption); (case TB => assumption); (case D => assumption); (case T0 => exact KtsTurn.refl); (case k3 => k_asm); (case k4 => k_asm); (case k5 => k_asm); (case k6 => k_is); (case k7 => k_is); (case k8 => ktr_room); (case k9 => first | exact BindsTo.of_eq rfl | exact binds_K (Frag.In.keeps X F.keep) rfl (by k_is) rfl rfl rfl); (case kB => exact locs rfl); (case cK => first | assumption | exact rfl); (case c2 => exact rfl); (case c3 => exact rfl); (case c4 => exact rfl); (case c5 => decide); k_whole; intro g' L' h' FG' F' N' B' X' T' D'; (try ((refine execs_at (b' := ?kbody) ?kbe ?_); (case kbe => (conv => lhs; whnf)))); (try dsimp only); (try k_fold))
  repeat' (first | (k_unfold; (try dsimp only)) | ((fail_if_success (with_reducible show Q _ _)); first | (k_here; (with_reducible show wpAny _ _ (call (Value.builtin "iter") [Value.ref _]) _ _ _); k_dflt (refine' iter_list ?k1 ?k2 ?k3 ?_; (case k1 => k_asm); (case k2 => k_asm); (case k3 => k_mem); k_whole); intro I' h' F' N' l1; (try k_lt l1); (try k_sweep)) | (k_here; (with_reducible show wpAny _ _ (getAttr (Value.ref _) (Str.ofString "__contains__") _) _ _ _); k_dflt (refine' getattr_bound m_contains ?k1 ?k2 ?k3 ?_; (case k1 => k_asm); (case k2 => k_asm); (case k3 => k_mem); k_whole); intro q' h' tk' F' N' l1; (try k_lt l1); (try k_sweep)) | walk1 | (dsimp only; first | (k_here; (with_reducible show wpAny _ _ (call (Value.builtin "iter") [Value.ref _]) _ _ _); k_dflt (refine' iter_list ?k1 ?k2 ?k3 ?_; (case k1 => k_asm); (case k2 => k_asm); (case k3 => k_mem); k_whole); intro I' h' F' N' l1; (try k_lt l1); (try k_sweep)) | (k_here; (with_reducible show wpAny _ _ (getAttr (Value.ref _) (Str.ofString "__contains__") _) _ _ _); k_dflt (refine' getattr_bound m_contains ?k1 ?k2 ?k3 ?_; (case k1 => k_asm); (case k2 => k_asm); (case k3 => k_mem); k_whole); intro q' h' tk' F' N' l1; (try k_lt l1); (try k_sweep)) | walk1)))
  (with_reducible rename Fr _ _ _ _ => kF)
  (with_reducible rename News _ _ _ _ => kN)
  (rename _ < _ ∧ _ < _ ∧ _ < _ ∧ _ < _ ∧ _ < _ ∧ AllLt _ rest => hl9)
  k_dflt (refine' told_useS ?B ?F ?X kN ?T ?hk ?XB ?TB ?D (filt_list w _ _ _ _ lf ls vs us c c' rest xs ys hx hy hlen (allLt_up (Nat.le_refl _) hl9)) ?hd ?hu ?ret)
  case B => assumption
  case F => exact kF
  case X => assumption
  case T => assumption
  case hk => exact rfl
  case XB => assumption
  case TB => assumption
  case D => assumption
  case hd => ktr_room
  case hu => ktr_units
  case ret =>
    rintro r9 nw9 h9 tk9 g9 T9 F9 N9 B9 X9 P9 D9 ⟨l9, os9, c9, rfl, rfl, hlt9, hs9⟩
    clear kN kF F N
    try dsimp only
    repeat' (first | (k_unfold; (try dsimp only)) | ((fail_if_success (with_reducible show Q _ _)); first | (k_here; (with_reducible show wpAny _ _ (call (Value.builtin "iter") [Value.ref _]) _ _ _); k_dflt (refine' iter_list ?k1 ?k2 ?k3 ?_; (case k1 => k_asm); (case k2 => k_asm); (case k3 => k_mem); k_whole); intro I' h' F' N' l1; (try k_lt l1); (try k_sweep)) | (k_here; (with_reducible show wpAny _ _ (getAttr (Value.ref _) (Str.ofString "__contains__") _) _ _ _); k_dflt (refine' getattr_bound m_contains ?k1 ?k2 ?k3 ?_; (case k1 => k_asm); (case k2 => k_asm); (case k3 => k_mem); k_whole); intro q' h' tk' F' N' l1; (try k_lt l1); (try k_sweep)) | walk1 | (dsimp only; first | (k_here; (with_reducible show wpAny _ _ (call (Value.builtin "iter") [Value.ref _]) _ _ _); k_dflt (refine' iter_list ?k1 ?k2 ?k3 ?_; (case k1 => k_asm); (case k2 => k_asm); (case k3 => k_mem); k_whole); intro I' h' F' N' l1; (try k_lt l1); (try k_sweep)) | (k_here; (with_reducible show wpAny _ _ (getAttr (Value.ref _) (Str.ofString "__contains__") _) _ _ _); k_dflt (refine' getattr_bound m_contains ?k1 ?k2 ?k3 ?_; (case k1 => k_asm); (case k2 => k_asm); (case k3 => k_mem); k_whole); intro q' h' tk' F' N' l1; (try k_lt l1); (try k_sweep)) | walk1)))
    (with_reducible rename Fr _ _ _ _ => kF)
    (with_reducible rename News _ _ _ _ => kN)
    refine' hret _ _ _ _ _ ?_ kF kN ?_ ?_ ?_ ?_ ⟨l9, os9, c9, rfl, rfl, hlt9, hs9⟩ <;> assumption
end
section
/-- a call that leaves all that stood as it stood: no frame, no ledger -/
noncomputable def ToldQ (prog : Program) (w : World) (K : Frag) (dpn unn : Nat) (f : Value) (args : List Value) (Post : Value → Prop) : Prop :=
  ∀ (p : Program) (loose : List Str) (mean : ExcName → Option Value) (mg mb : Str → Option Value) (A : Around) (s : Shared) (Q E : Value → Shared → Prop),
    K.In s.heap → Top p loose mean mg mb s.heap → A.handled = none → A.depth + dpn < recursionLimit → A.units + unn < cLine →
    (∀ r h' tk', (∀ b o, s.heap.get? b = some o → h'.get? b = some o) → Post r → Q r { s with heap := h', toks := tk' }) → wpAny (model prog w) A (call f args) Q E s
section
variable {prog : Program} {w : World} {A : Around} {E : Value → Shared → Prop} {s : Shared} {K : Frag} {p : Program} {loose : List Str} {mean : ExcName → Option Value} {mg mb : Str → Option Value}
theorem code_defQ {R : Result → Shared → Prop} {name qual : Str} {params : Arguments} {body : List Stmt} {scope : Scope} {dV kV doc pm cdv ct oc : Value} {an od : Option Addr} {osl : Array (Option Value)} {f : Addr} {args : Args} {binds : List (Str × Value)}
    (X : K.In s.heap) (T : Top p loose mean mg mb s.heap) (ho : K.lookup f = some ⟨oc, od, .func (fnOf name qual params body scope dV kV doc pm an cdv ct), osl⟩) (hcd : codeIn K cdv qual = true) (hroom : A.depth < recursionLimit)
    (hbind : BindsTo s (fnOf name qual params body scope dV kV doc pm an cdv ct) args binds) (hloc : ∀ y ∈ binds, scope.names.lookup y.1 = some .local)
    (h : ∀ L' h₁, Fr s.heap L' h₁ (fun y => binds.reverse.lookup y) → News s.heap L' h₁ [] →
      wpAny (model prog w) (A.deeper (envOf qual scope L' f cdv)) (execs body (envOf qual scope L' f cdv))
        (fun fl s' => R (.ok (.ret (match fl with | .ret v => v | _ => .none))) s')
        (fun e s' => wpAny (model prog w) (A.deeper (envOf qual scope L' f cdv)) (leaving (envOf qual scope L' f cdv) e) (fun _ s'' => R (.error e) s'') (fun e' s'' => R (.error e') s'') s')
        { s with heap := h₁, toks := s.toks + binds.length })
    (hco : scope.isCoroutine = false) (hgen : scope.isGenerator = false) (hk : scope.kind = .function)
    (hcell : ∀ x ∈ scope.names, x.2 ≠ .cell) : codeAny (model prog w) A (.call (.ref f) args) R s :=
  codeAny_call_def (fd := fnOf name qual params body scope dV kV doc pm an cdv ct) (body := body) (binds := binds) hroom (X _ _ ho) rfl T.nolimit (codeRec_of X hcd) rfl hbind hcell hloc
    (fun h₁ hns hk₁ => h _ h₁ ⟨hns, hk₁, Nat.le_refl _⟩ (fun _ hp => nomatch hp)) hco hgen hk
/-- the same, told with a frame and a ledger -/
theorem ToldQ.told {dpn unn : Nat} {f : Value} {args : List Value} {Post : Value → Prop} (C : ToldQ prog w K dpn unn f args Post) (news : List (Addr × Obj)) : Told prog w K dpn unn f args news (fun r nw => nw = news ∧ Post r) := by
  intro p loose mean mg mb dp un gd cn cs a ccd cl outer A₀ base h₀ L m s Q E B F X N T hk hdp hun hret
  refine C p loose mean mg mb _ s Q E (X.keeps F.keep) (T.keeps F.keep) rfl hdp hun ?_
  intro r h' tk' hk' hp
  exact hret r news h' tk' (F.keeps hk') (fun q hq => ⟨hk' _ _ (N q hq).1, (N q hq).2⟩) ⟨rfl, hp⟩
end
end
section
/-- a text's entry in the table of signs -/
noncomputable def escOf (c : Nat) : Option (List Nat) := if ((Str.ofString "()[]{}?*+-|^$\\.&~# \t\n\r\x0b\x0c").cps.toList.contains c) = true then some [92, c] else none
noncomputable def esc (c : Nat) : List Nat := (escOf c).getD [c]
noncomputable def escObj (P : Params) : Option Obj := (Mine.K P).lookup 95
noncomputable def escEsOf : Option Obj → Array DictEntry
  | some ⟨_, _, .dict es _, _⟩ => es
  | _ => #[]
noncomputable def escKey (e : DictEntry) : Bool := match e.key with
  | .int k _ => e.hash == hashInt k
  | _ => false
noncomputable def escIs (es : Array DictEntry) (c : Nat) : Bool := match findBy Value.isInt es (c : Int), escOf c with
  | some (.str x _), some y => x == S y
  | none, none => true
  | _, _ => false
theorem esc_obj (P : Params) : ∃ n, (Mine.K P).lookup 95 = some ⟨.type "dict", none, .dict (escEsOf (escObj P)) n, #[]⟩ := ⟨_, rfl⟩
theorem esc_keys (P : Params) : (escEsOf (escObj P)).all escKey = true := by kernel_rfl
theorem esc_all (P : Params) : ((List.range 128).all fun c => escIs (escEsOf (escObj P)) c) = true := by kernel_rfl
theorem esc_map {h : Heap} {prog : Program} {w : World} (X : (Mine.K w.params).In h) : h.MapOf (intKind prog w) 95 (findBy Value.isInt (escEsOf (escObj w.params))) := by
  obtain ⟨n, e⟩ := esc_obj w.params
  refine ⟨_, _, n, X _ _ e, ⟨rfl, rfl, rfl⟩, rfl, fun d hd => ?_, fun _ => rfl⟩
  have h1 := Array.all_eq_true_iff_forall_mem.mp (esc_keys w.params) d hd
  unfold escKey at h1
  split at h1
  · rename_i k t hk
    exact ⟨k, by rw [hk]; exact intKind_is _ _ _ _, beq_iff_eq.mp h1⟩
  · cases h1
theorem esc_hit {P : Params} {c : Nat} {y : List Nat} (hc : c < 128) (h : escOf c = some y) : ∃ t, findBy Value.isInt (escEsOf (escObj P)) (c : Int) = some (.str (S y) t) := by
  have h1 := List.all_eq_true.mp (esc_all P) c (List.mem_range.mpr hc)
  unfold escIs at h1
  rw [h] at h1
  split at h1
  · rename_i x t y' e1 e2
    injection e2 with e2
    subst e2
    exact ⟨t, by rw [e1, beq_iff_eq.mp h1]⟩
  · rename_i e2; cases e2
  · cases h1
theorem esc_miss {P : Params} {c : Nat} (hc : c < 128) (h : escOf c = none) : findBy Value.isInt (escEsOf (escObj P)) (c : Int) = none := by
  have h1 := List.all_eq_true.mp (esc_all P) c (List.mem_range.mpr hc)
  unfold escIs at h1
  rw [h] at h1
  split at h1
  · rename_i e2; cases e2
  · assumption
  · cases h1
section
variable {w : World} {A : Around} {E : Value → Shared → Prop} {s : Shared}
theorem tl_hit {c : Nat} {y : List Nat} {Q : Builtin.Str.Mapped → Shared → Prop} (X : (Mine.K w.params).In s.heap) (hc : c < 128) (h : escOf c = some y) (hq : ∀ tk', s.toks ≤ tk' → Q (.text (S y)) { s with toks := tk' }) : wpAny (model PySem.Challenge.pw_il0113_01 w) A (Builtin.Str.tableLookup (.ref 95) c) Q E s := by
  obtain ⟨t, ht⟩ := esc_hit (P := w.params) hc h
  unfold Builtin.Str.tableLookup
  refine wpAny_bind (wpAny_attempt (wpAny_bind (wpAny_mkInt (wpAny_getItem_of (knd := intKind _ w) (k := (c : Int)) (intKind_is _ _ _ _) (esc_map X) ht ?_))))
  refine wpAny_bind (wpAny_of_eq (a := none) (by first | rfl | kernel_rfl) ?_)
  refine wpAny_bind (wpAny_of_eq (a := some (S y)) (by first | rfl | kernel_rfl) ?_)
  exact wpAny_pure (hq _ (by show s.toks ≤ s.toks + 1 + 1; omega))
theorem sub_KeyError : isSubtype (.type "KeyError") (.type "LookupError") = pure true := by rw [isSubtype_type]; kernel_rfl
theorem tl_miss {c : Nat} {Q : Builtin.Str.Mapped → Shared → Prop} (X : (Mine.K w.params).In s.heap) (hh : A.handled = none) (hc : c < 128) (h : escOf c = none) (hq : ∀ h' tk', s.toks ≤ tk' → (∀ b o, s.heap.get? b = some o → h'.get? b = some o) → Q .keep { s with heap := h', toks := tk' }) : wpAny (model PySem.Challenge.pw_il0113_01 w) A (Builtin.Str.tableLookup (.ref 95) c) Q E s := by
  have ht := esc_miss (P := w.params) hc h
  unfold Builtin.Str.tableLookup
  refine wpAny_bind (wpAny_attempt (wpAny_bind (wpAny_mkInt (wpAny_getItem_missing_of (knd := intKind _ w) (k := (c : Int)) (intKind_is _ _ _ _) (by decide) hh (esc_map X) ht fun h' e hx => ?_))))
  dsimp only
  obtain ⟨ob, u, he, hcls, _⟩ := hx.there
  refine wpAny_bind (wpAny_isInstance (T := "KeyError") (b := true) ⟨ob, he, hcls⟩ sub_KeyError ?_)
  exact wpAny_bind (wpAny_rule (wpAny_pure (hq _ _ (by show s.toks ≤ s.toks + 1 + 1; omega) hx.keeps)))
theorem tr_hit {c : Nat} {t : Tok} {Q : Fin → Shared → Prop} (X : (Mine.K w.params).In s.heap) (hc : c < 128) (h : escOf c = some [92, c]) (hq : ∀ t' tk', s.toks ≤ t' → Q (.done (.ret (.str (S [92, c]) t'))) { s with toks := tk' }) : wpAny (model PySem.Challenge.pw_il0113_01 w) A (Builtin.«str.translate» ⟨[.str (S [c]) t, .ref 95], []⟩) Q E s := by
  unfold Builtin.«str.translate»
  refine wpAny_bind (wpAny_of_eq (a := (.str (S [c]) t, S [c], .ref 95)) (by first | rfl | kernel_rfl) ?_)
  dsimp only
  have hf : ((S [c]).cps.all fun x => decide (x < 128)) = true := by simp [S, hc]
  have hl : ((S [c]).length == 0) = false := rfl
  rw [hf, hl]
  simp only [Bool.false_eq_true, if_false, S, List.forIn_toArray, List.forIn_cons, List.forIn_nil]
  have h0 : Builtin.Str.tooLong 0 = false := by decide +kernel
  simp only [h0, Bool.false_eq_true, if_false, if_true, List.lookup_nil, bind_assoc]
  refine wpAny_bind ?_
  refine tl_hit X hc h fun tk' htk => ?_
  simp only [show ((S [92, c]).length == 1) = false from rfl, Bool.false_and, Bool.false_eq_true, if_false]
  refine wpAny_bind (wpAny_bind (wpAny_pure ?_))
  dsimp only
  refine wpAny_bind (wpAny_rule (wpAny_bind (tl_hit X hc h fun tk2 htk2 => ?_)))
  refine wpAny_pure (wpAny_bind (wpAny_pure ?_))
  rw [if_neg (show ¬ (Builtin.Str.tooLong (0 + (S [92, c]).length) = true) by rw [show 0 + (S [92, c]).length = 2 from rfl]; decide +kernel)]
  unfold retStr
  exact wpAny_bind (wpAny_mkStr (wpAny_pure (hq _ _ (Nat.le_trans htk htk2))) (hx := by (show (2 : Nat) ≤ sizeLine); rw [sizeLine_eq]; omega))
theorem tr_miss {c : Nat} {t : Tok} {Q : Fin → Shared → Prop} (X : (Mine.K w.params).In s.heap) (hh : A.handled = none) (hc : c < 128) (h : escOf c = none) (hq : ∀ h' t' tk', s.toks ≤ t' → (∀ b o, s.heap.get? b = some o → h'.get? b = some o) → Q (.done (.ret (.str (S [c]) t'))) { s with heap := h', toks := tk' }) : wpAny (model PySem.Challenge.pw_il0113_01 w) A (Builtin.«str.translate» ⟨[.str (S [c]) t, .ref 95], []⟩) Q E s := by
  unfold Builtin.«str.translate»
  refine wpAny_bind (wpAny_of_eq (a := (.str (S [c]) t, S [c], .ref 95)) (by first | rfl | kernel_rfl) ?_)
  dsimp only
  have hf : ((S [c]).cps.all fun x => decide (x < 128)) = true := by simp [S, hc]
  have hl : ((S [c]).length == 0) = false := rfl
  rw [hf, hl]
  simp only [Bool.false_eq_true, if_false, S, List.forIn_toArray, List.forIn_cons, List.forIn_nil]
  have h0 : Builtin.Str.tooLong 0 = false := by decide +kernel
  simp only [h0, Bool.false_eq_true, if_false, if_true, List.lookup_nil, bind_assoc]
  refine wpAny_bind ?_
  refine tl_miss X hh hc h fun h' tk' htk hk => ?_
  dsimp only
  refine wpAny_bind (wpAny_bind (wpAny_pure ?_))
  dsimp only
  refine wpAny_pure (wpAny_bind (wpAny_pure ?_))
  rw [if_neg (show ¬ (Builtin.Str.tooLong (0 + 1) = true) by decide +kernel)]
  unfold retStr
  exact wpAny_bind (wpAny_mkStr (wpAny_pure (hq _ _ _ htk hk)) (hx := by (show (1 : Nat) ≤ sizeLine); rw [sizeLine_eq]; omega))
end
theorem esc_call {w : World} {A : Around} {E : Value → Shared → Prop} {s : Shared} {c : Nat} {t : Tok} {Q : Value → Shared → Prop} (X : (Mine.K w.params).In s.heap) (hh : A.handled = none) (hc : c < 128) (hq : ∀ h' t' tk', s.toks ≤ t' → (∀ b o, s.heap.get? b = some o → h'.get? b = some o) → Q (.str (S (esc c)) t') { s with heap := h', toks := tk' }) : wpAny (model PySem.Challenge.pw_il0113_01 w) A (call (.builtin "str.translate") [.str (S [c]) t, .ref 95]) Q E s := by
  refine wpAny_call (codeAny_call_builtin PySem.F.slot_str_translate.plain PySem.F.entry_str_translate (PySem.F.slot_str_translate.check _ _ _ _ _ _ _ _ (typeIs_str _ _ _) (PySem.F.args_str_translate_2 _ _) ?_))
  cases he : escOf c with
  | none =>
    refine tr_miss X hh hc he fun h' t' tk' ht hk => ?_
    have := hq h' t' tk' ht hk
    unfold esc at this
    rw [he] at this
    exact this
  | some y =>
    have hy : y = [92, c] := by
      unfold escOf at he
      split at he
      · exact (Option.some.inj he).symm
      · cases he
    subst hy
    refine tr_hit X hc he fun t' tk' ht => ?_
    have := hq s.heap t' tk' ht (fun _ _ e => e)
    unfold esc at this
    rw [he] at this
    exact this
theorem gm_translate {M : Model} {pl : Sem Bool} {A : Around} {E : Value → Shared → Prop} {s : Shared} {x : PySem.Str} {t : Tok} {Q : Value × List Value → Shared → Prop} (h : Q (.builtin "str.translate", [.str x t]) s) : wpAny M A (getMethod (.str x t) (Str.ofString "translate") pl) Q E s := by
  exact GM.of (.str x t) (typeIs_str _ _ _) PySem.F.slot_str_translate PySem.F.type_str_translate GM.noRef h
local macro_rules | `(tactic| walk_at "getMethod str") => `(tactic| (with_reducible refine gm_translate ?_))
theorem toks_up {α : Type} {M : Model} {A : Around} {t : Sem α} {Q : α → Shared → Prop} {E : Value → Shared → Prop} {h : Heap} {g : Array GenState} {d : Drawn} {a : Nat} {os : OsState} (k : ∀ tk, a ≤ tk → wpAny M A t Q E ⟨h, g, d, tk, os⟩) : wpAny M A t Q E ⟨h, g, d, a, os⟩ := k a (Nat.le_refl _)
local macro_rules | `(tactic| walk_at "execs cons") => `(tactic| (k_here; (fail_if_success (fail_if_success k_gentoks)); refine toks_up ?_; intro tk htk))
local macro_rules | `(tactic| walk_at "execs nil") => `(tactic| (k_here; (fail_if_success (fail_if_success k_gentoks)); refine toks_up ?_; intro tk htk))
/-- as ToldQ; what comes may speak of the tokens' count at the call -/
noncomputable def ToldQT (prog : Program) (w : World) (K : Frag) (dpn unn : Nat) (f : Value) (args : List Value) (Post : Nat → Value → Prop) : Prop :=
  ∀ (p : Program) (loose : List Str) (mean : ExcName → Option Value) (mg mb : Str → Option Value) (A : Around) (s : Shared) (Q E : Value → Shared → Prop),
    K.In s.heap → Top p loose mean mg mb s.heap → A.handled = none → A.depth + dpn < recursionLimit → A.units + unn < cLine →
    (∀ r h' tk', (∀ b o, s.heap.get? b = some o → h'.get? b = some o) → Post s.toks r → Q r { s with heap := h', toks := tk' }) → wpAny (model prog w) A (call f args) Q E s
theorem esc_c (w : World) (c : Nat) (t : Tok) (hc : c < 128) :
    ToldQT PySem.Challenge.pw_il0113_01 w (Mine.K w.params) 10 100 (.ref 105) [.str (S [c]) t] (fun n r => ∃ t', n ≤ t' ∧ r = .str (S (esc c)) t') := by
  intro p loose mean mg mb A s Q E X T hh hdp hun hret
  refine wpAny_call ?_
  k_dflt (refine' code_defQ ?k3 ?k5 ?k6 ?k7 ?k8 ?k9 ?kB ?_ ?c2 ?c3 ?c4 ?c5; (case k3 => exact X); (case k5 => exact T); (case k6 => k_is); (case k7 => k_is); (case k8 => ktr_room); (case k9 => first | exact BindsTo.of_eq rfl | exact binds_K X rfl (by k_is) rfl rfl rfl); (case c5 => decide); (case kB => exact locs rfl); (case c2 => exact rfl); (case c3 => exact rfl); (case c4 => exact rfl); k_whole; intro L' h' F' N'; (try ((refine execs_at (b' := ?kbody) ?kbe ?_); (case kbe => (conv => lhs; whnf)))); (try dsimp only); (try k_fold))
  repeat' (first | (k_unfold; (try dsimp only)) | ((fail_if_success (with_reducible show Q _ _)); first | walk1 | (dsimp only; walk1)))
  (with_reducible rename Fr _ _ _ _ => kF)
  refine esc_call (X.keeps kF.keep) hh hc fun h1 t1 tk1 ht1 hk1 => ?_
  have ht2 : s.toks ≤ t1 := by (dsimp only at *); omega
  have kF1 := kF.keeps hk1
  clear kF
  dsimp only
  repeat' (first | (k_unfold; (try dsimp only)) | ((fail_if_success (with_reducible show Q _ _)); first | walk1 | (dsimp only; walk1)))
  exact hret _ _ _ kF1.keep ⟨_, ht2, rfl⟩
end
section
/-- as Told, where the table of generators may grow -/
noncomputable def ToldG (prog : Program) (w : World) (K : Frag) (dpn unn : Nat) (f : Value) (args : List Value) (news : List (Addr × Obj)) (Post : Value → List (Addr × Obj) → Prop) : Prop :=
  ∀ (p : Program) (loose : List Str) (mean : ExcName → Option Value) (mg mb : Str → Option Value) (dp un : Nat) (gd : Option (List Code)) (cn : Str) (cs : Scope) (a : Addr) (ccd : Value) (cl : List (Str × Addr)) (outer : List Env) (A₀ : Around) (base h₀ : Heap) (L : Addr) (m : Str → Option Value) (s : Shared) (Q E : Value → Shared → Prop),
    Below A₀ base outer h₀ → Fr h₀ L s.heap m → K.In h₀ → News h₀ L s.heap news → Top p loose mean mg mb h₀ → cs.kind = .function → dp + dpn < recursionLimit → un + unn < cLine →
    AllBare s.gens → (∀ r nw h' tk' gs', AllBare gs' → Fr h₀ L h' m → News h₀ L h' nw → Post r nw → Q r { s with heap := h', toks := tk', gens := gs' }) →
    wpAny (model prog w) (ktrTop dp un gd cn cs L a ccd cl outer) (call f args) Q E s
noncomputable abbrev tabO (ps : Array Value) : Obj := { cls := .none, data := .fields ps }
/-- the table of a code that has one written place of its own: laid already, or not yet -/
noncomputable def PsOk (pos : Pos) (ps : Array Value) : Prop := ps = #[] ∨ ∃ c', ps = #[rawInt pos.line, rawInt pos.col, .ref c']
section
variable {w : World} {A : Around} {E : Value → Shared → Prop} {s : Shared} {p : Program} {loose : List Str} {mean : ExcName → Option Value} {mg mb : Str → Option Value} {g : Heap} {L : Addr} {m : Str → Option Value}
/-- a generator over texts stands ready -/
noncomputable def GenReady (w : World) (A : Around) (a : Addr) (N₀ n : Nat) (F : Nat → Value → Prop) (s : Shared) : Prop :=
  ∃ fp wr gq St, WalksS PySem.Challenge.pw_il0113_01 w A.in4 a fp wr (GenOnlyQ gq) n F St ∧ St 0 s ∧ (∀ i s', St i s' → s'.TypeIs (.ref a) "generator") ∧ a ∈ fp ∧ (∀ b ∈ fp, b < s.heap.objs.size) ∧ ∀ b ∈ wr, N₀ ≤ b
theorem passing_all (n : Nat) : passing (fun _ => true) n 0 = List.range n := by
  unfold passing; simp
theorem gen_make {env : Env} {elt iter : Expr} {x : Str} {px pos : Pos} {scope : Scope} {Q : Value → Shared → Prop} {l : Addr} {vs : List Value} {xs : List Str} {c : Nat} {ps : Array Value} {rest : List (Addr × Obj)} (f : Str → Str)
    (X : (Mine.K w.params).In g) (T : Top p loose mean mg mb g) (F : Fr g L s.heap m) (N : News g L s.heap ((l, listOf vs.toArray c) :: (814, tabO ps) :: rest)) (hl0 : @Ne Nat l 814) (hr0 : ∀ q ∈ rest, q.1 ≠ 814) (hps : PsOk pos ps) (hxs : StrsAre vs xs) (hlen : xs.length ≤ 1000)
    (hcode : env.code = .ref 818) (hglob : env.globals = mainGlobals)
    (hh : A.handled = none) (hco : scope.isCoroutine = false) (hclos : closureFor scope env = pure []) (hcell : ∀ y ∈ scope.names, y.2 ≠ .cell) (h0 : scope.names.lookup (".0" : Str) = some NameKind.local)
    (hx : scope.names.lookup x = some .local) (hkind : scope.kind = .function) (hroom : A.depth < recursionLimit) (hs : ∀ x, genFold iter env x = pure x)
    (hG : AllBare s.gens) (hi : ∀ Q' : Value → Shared → Prop, (∀ tk', Q' (.ref l) { s with toks := tk' }) → wpAny (model PySem.Challenge.pw_il0113_01 w) A (eval iter env) Q' E s)
    (helt : ∀ (A' : Around) (E' : Value → Shared → Prop) (Q' : Value → Shared → Prop) (y : Str) (t : Tok) (s₂ : Shared) (m₂ : Str → Option Value) (C : Addr) (code : Value), y ∈ xs → A'.handled = none → A'.depth ≤ A.depth + 1 → A'.units ≤ A.units + 8 → Fr g C s₂.heap m₂ → m₂ x = some (.str y t) →
      (∀ t' h' tk', (∀ b o, s₂.heap.get? b = some o → h'.get? b = some o) → Q' (.str (f y) t') { s₂ with heap := h', toks := tk' }) → wpAny (model PySem.Challenge.pw_il0113_01 w) A' (eval elt (genEnv scope [] C code builtinsNs env)) Q' E' s₂)
    (hret : ∀ (a : Addr) (ps' : Array Value) (h' : Heap) (tk' : Nat) (gs' : Array GenState), AllBare gs' → Fr g L h' m → News g L h' ((l, listOf vs.toArray c) :: (814, tabO ps') :: rest) → PsOk pos ps' → GenReady w A a s.heap.objs.size xs.length (fun i v => ∃ t, v = .str (f (xs.getD i "")) t) { s with heap := h', toks := tk', gens := gs' } → Q (.ref a) { s with heap := h', toks := tk', gens := gs' }) :
    wpAny (model PySem.Challenge.pw_il0113_01 w) A (eval (.GeneratorExp elt [⟨.Name x px, iter, [], 0⟩] scope pos) env) Q E s := by
  refine wpAny_GeneratorExp_walksQD hh hco hclos hcell h0 hx hkind hroom ?_ hs
  refine hi _ fun tk1 => ?_
  have hsl : vs.length = xs.length := hxs.length
  have hL1 : s.heap.IsList l vs.toArray := ⟨_, (N _ (.head _)).1, rfl, c, rfl⟩
  refine wpAny_pyIter_list (s := { s with toks := tk1 }) hL1 ?_
  have F1 := F.push { cls := .type "list_iterator", data := .fields #[.ref l, .int 0 0] }
  have N1 := N.push F { cls := .type "list_iterator", data := .fields #[.ref l, .int 0 0] }
  refine ⟨(T.keeps F1.keep).nolimit, ?_⟩
  have X1 := X.keeps F1.keep
  have hP := (N1 _ (.tail _ (.tail _ (.head _)))).1
  have hcodeAt : (s.heap.push { cls := .type "list_iterator", data := .fields #[.ref l, .int 0 0] }).IsCode 818 814 ps := by
    refine ⟨_, _, _, _, _, _, _, _, _, _, X1 818 _ rfl, rfl, rfl, rfl, rfl, rfl, rfl, hP, rfl, ?_, (show 818 ≠ 814 by decide)⟩
    rcases hps with rfl | ⟨c', rfl⟩
    · exact trivial
    · exact trivial
  have htabAt : (s.heap.push { cls := .type "list_iterator", data := .fields #[.ref l, .int 0 0] }).TableAt 818 814 ps := ⟨⟨_, _, X1 818 _ rfl, rfl, rfl, rfl⟩, hP⟩
  have hsz1 : (s.heap.push { cls := .type "list_iterator", data := .fields #[.ref l, .int 0 0] }).objs.size = s.heap.objs.size + 1 := Heap.size_push _ _
  have tail : ∀ (code : Value) (ps' : Array Value) (h3 : Heap) (tk3 : Nat), PsOk pos ps' → Heap.ExtBut 814 (s.heap.push { cls := .type "list_iterator", data := .fields #[.ref l, .int 0 0] }) h3 → h3.get? 814 = some (tabO ps') → s.heap.objs.size < h3.objs.size →
      wpAny (model PySem.Challenge.pw_il0113_01 w) A (builtinsFor env.globals env.builtins) (fun bi s₄ =>
        ∃ I fp wr n₀ P St₀ pz F, Value.ref s.heap.objs.size = .ref I ∧ (∀ A' : Around, A'.handled = none → Walks PySem.Challenge.pw_il0113_01 w A' I fp wr n₀ P St₀) ∧ St₀ 0 s₄.heap ∧ (∀ b ∈ fp, b < s₄.heap.objs.size) ∧ s₄.heap.NoLimit ∧ cStatics ∉ wr ∧
          (∀ href : Heap, (∀ b o, s₄.heap.get? b = some o → href.get? b = some o) →
            QuietGenD PySem.Challenge.pw_il0113_01 w (genEnv scope [] s₄.heap.objs.size code bi env) x [] elt (List.range s₄.heap.objs.size) wr P pz F href (A.depth + 1) (A.units + 8)) ∧
          (∀ a h₅ tk gs, gs.bare = true → s₄.heap.objs.size < a → h₅.objs.size = a + 1 → (∀ b o, s₄.heap.get? b = some o → h₅.get? b = some o) →
            WalksS PySem.Challenge.pw_il0113_01 w A.in4 a (a :: s₄.heap.objs.size :: List.range s₄.heap.objs.size) (s₄.heap.objs.size :: wr) (GenOnlyQ s₄.gens.size) (passing pz n₀ 0).length
              (fun j y => ∃ i, (passing pz n₀ 0)[j]? = some i ∧ F i y) (GenAt PySem.Challenge.pw_il0113_01 w A.in4 a s₄.gens.size s₄.heap.objs.size (List.range s₄.heap.objs.size) wr pz n₀ F) →
            GenAt PySem.Challenge.pw_il0113_01 w A.in4 a s₄.gens.size s₄.heap.objs.size (List.range s₄.heap.objs.size) wr pz n₀ F 0 { s₄ with gens := s₄.gens.push gs, toks := tk, heap := h₅ } →
            Q (.ref a) { s₄ with gens := s₄.gens.push gs, toks := tk, heap := h₅ })) E { s with heap := h3, toks := tk3 } := by
    intro code ps' h3 tk3 hps' hx3 hT3 hlt3
    have ground : ∀ b o, g.get? b = some o → h3.get? b = some o := fun b o e => by
      refine hx3 b o ?_ (F1.keep b o e)
      rintro rfl
      have := (N _ (.tail _ (.head _))).2.2
      rw [this] at e; cases e
    have hLne : L ≠ 814 := Ne.symm (N _ (.tail _ (.head _))).2.1
    have F3 : Fr g L h3 m := ⟨F1.ns.extBut hx3 hLne, ground, F1.above⟩
    have N3 : News g L h3 ((l, listOf vs.toArray c) :: (814, tabO ps') :: rest) := by
      intro q hq
      rcases List.mem_cons.mp hq with rfl | hq
      · exact ⟨hx3 _ _ hl0 (N1 _ (.tail _ (.head _))).1, (N _ (.head _)).2⟩
      · rcases List.mem_cons.mp hq with rfl | hq
        · exact ⟨hT3, (N _ (.tail _ (.head _))).2⟩
        · exact ⟨hx3 _ _ (hr0 q hq) (N1 _ (.tail _ (.tail _ (.tail _ hq)))).1, (N _ (.tail _ (.tail _ hq))).2⟩
    have T3 := T.keeps F3.keep
    obtain ⟨bm, ob, b1, b2, b3, b4, b5, b6⟩ := T3.bmain
    rw [hglob]
    refine wpAny_builtinsFor T3.g b1 b2 b3 b4 b5 b6 ?_
    have hIT : s.heap.objs.size ≠ 814 := by
      have := Heap.lt_size (N _ (.tail _ (.head _))).1
      exact Nat.ne_of_gt this
    have hI3 : h3.get? s.heap.objs.size = some { cls := .type "list_iterator", data := .fields #[.ref l, .int 0 0] } := hx3 _ _ hIT (N1 _ (.head _)).1
    have hlI : l ≠ s.heap.objs.size := Nat.ne_of_lt (Heap.lt_size (N _ (.head _)).1)
    have hgs : ∀ b o, g.get? b = some o → b < s.heap.objs.size := fun b o e => Heap.lt_size (F.keep b o e)
    refine ⟨s.heap.objs.size, [s.heap.objs.size, l], [s.heap.objs.size], vs.toArray.size, fun i v => vs.toArray[i]? = some v, fun i h => h.IsListIter s.heap.objs.size l i ∧ h.IsList l vs.toArray, fun _ => true, fun i v => ∃ t, v = .str (f (xs.getD i "")) t, rfl, fun A' hA => Walks.list hA _ _ hlI _, ⟨⟨_, hI3, rfl, rfl⟩, ⟨_, (N3 _ (.head _)).1, rfl, c, rfl⟩⟩, ?_, T3.nolimit, ?_, ?_, ?_⟩
    · intro b hb
      rcases List.mem_cons.mp hb with rfl | hb
      · exact hlt3
      · rcases List.mem_cons.mp hb with rfl | hb
        · exact Heap.lt_size (N3 _ (.head _)).1
        · cases hb
    · intro hb
      obtain ⟨_, hns, _⟩ := T.nolimit
      obtain ⟨o, _, _, ho, _⟩ := hns
      have := hgs _ _ ho
      rw [List.mem_singleton.mp hb] at this
      exact Nat.lt_irrefl _ this
    · intro href hhref
      refine ⟨fun A' E' i v s₂ m₂ hA _ _ _ _ _ _ => wpAny_pure ⟨rfl, _, _, rfl, fun _ _ e => e⟩, fun A' E' i v s₂ m₂ hA hd hu hv _ hns hm hkp => ?_⟩
      have hv' : vs[i]? = some v := by simpa using hv
      have hlt : i < xs.length := by rw [← hsl]; exact (List.getElem?_eq_some_iff.mp hv').1
      obtain ⟨t, ht⟩ := hxs.get i xs[i] (List.getElem?_eq_getElem hlt)
      rw [hv'] at ht
      have hg : xs.getD i "" = xs[i] := by rw [List.getD_eq_getElem?_getD, List.getElem?_eq_getElem hlt]; rfl
      obtain rfl := Option.some.inj ht
      refine helt A' E' _ xs[i] t s₂ m₂ h3.objs.size code (List.getElem_mem hlt) hA hd hu ⟨hns, fun b o e => ?_, Nat.le_trans F.above (Nat.le_trans (Nat.le_of_lt F.ns.lt) (Nat.le_of_lt hlt3))⟩ hm ?_
      · refine hkp b (List.mem_range.mpr (Heap.lt_size (ground b o e))) ?_ o (hhref b o (ground b o e))
        intro hb
        have := hgs b o e
        rw [List.mem_singleton.mp hb] at this
        exact Nat.lt_irrefl _ this
      · intro t' h' tk' hk'
        exact ⟨⟨t', by rw [hg]⟩, _, _, rfl, hk'⟩
    · intro a h₅ tk gs hgb ha5 hsz5 hk5 W hat
      have F5 := F3.keeps hk5
      have N5 : News g L h₅ ((l, listOf vs.toArray c) :: (814, tabO ps') :: rest) := fun q hq => ⟨hk5 _ _ (N3 q hq).1, (N3 q hq).2⟩
      refine hret a ps' h₅ tk _ (hG.push hgb) F5 N5 hps' ⟨a :: h3.objs.size :: List.range h3.objs.size, h3.objs.size :: [s.heap.objs.size], s.gens.size, _, ?_, hat, (fun i s' st => st.1.typeIs), List.mem_cons_self, ?_, ?_⟩
      · have e1 : (passing (fun _ => true) vs.toArray.size 0).length = xs.length := by rw [passing_all]; simp [hsl]
        rw [e1] at W
        have e2 : ∀ j y, (∃ i, (passing (fun _ => true) vs.toArray.size 0)[j]? = some i ∧ ∃ t, y = Value.str (f (xs.getD i "")) t) → ∃ t, y = Value.str (f (xs.getD j "")) t := by
          rintro j y ⟨i, hi, t, e⟩
          rw [passing_all] at hi
          obtain ⟨h1, h2⟩ := List.getElem?_eq_some_iff.mp hi
          rw [List.getElem_range] at h2
          subst h2
          exact ⟨t, e⟩
        exact { W with item := fun i s Q E hi st hQ => W.item i s Q E hi st (fun v s' hP st' hm => hQ v s' (e2 i v hP) st' hm) }
      · intro b hb
        show b < h₅.objs.size
        rw [hsz5]
        rcases List.mem_cons.mp hb with rfl | hb
        · exact Nat.lt_succ_self _
        · rcases List.mem_cons.mp hb with rfl | hb
          · exact Nat.lt_succ_of_lt ha5
          · exact Nat.lt_succ_of_lt (Nat.lt_trans (List.mem_range.mp hb) ha5)
      · intro b hb
        rcases List.mem_cons.mp hb with rfl | hb
        · exact Nat.le_of_lt hlt3
        · rw [List.mem_singleton.mp hb]
          exact Nat.le_refl _
  rcases hps with rfl | ⟨c', rfl⟩
  · refine wpAny_genexprCodeX hcode hcodeAt htabAt (by rfl) fun c' h3 tk3 hx3 hge hlt hcode3 _ htab3 _ => ?_
    refine tail _ _ h3 tk3 (.inr ⟨c', by simp⟩) hx3 htab3.2 ?_
    have h2 : (s.heap.push { cls := .type "list_iterator", data := .fields #[.ref l, .int 0 0] }).objs.size ≤ c' := hge
    rw [hsz1] at h2
    exact Nat.lt_trans (Nat.lt_of_succ_le h2) hlt
  · unfold genexprCode
    refine wpAny_codeAt_hit (c' := .ref c') hcode hcodeAt (by simp [codeAmong, rawInt]) ?_
    refine tail _ _ _ tk1 (.inr ⟨c', rfl⟩) (fun _ _ _ e => e) hP ?_
    show s.heap.objs.size < (s.heap.push { cls := .type "list_iterator", data := .fields #[.ref l, .int 0 0] }).objs.size
    rw [hsz1]
    exact Nat.lt_succ_self _
end
end
section
theorem news_drop2 {h₀ h : Heap} {L : Addr} {x y : Addr × Obj} {l : List (Addr × Obj)} (N : News h₀ L h (x :: y :: l)) : News h₀ L h (x :: l) := fun q hq => N q (by
  rcases List.mem_cons.mp hq with rfl | hq
  · exact .head _
  · exact .tail _ (.tail _ hq))
section
variable {w : World} {A : Around} {E : Value → Shared → Prop} {s : Shared} {h₀ : Heap} {L a : Addr} {m mg mb : Str → Option Value} {cn : Str} {cs : Scope} {cl : List (Str × Addr)} {news : List (Addr × Obj)} {g : Obj → List (Addr × Obj)} {p : Program} {loose : List Str} {mean : ExcName → Option Value} {params : Arguments} {body : Expr} {scope : Scope} {ps : Array Value} {pos : Pos}
theorem lam_make {M : Model} {Q : Value → Shared → Prop} (F : Fr h₀ L s.heap m) (N : News h₀ L s.heap news) (X : (Mine.K w.params).In h₀) (T : Top p loose mean mg mb h₀) (U : UpdF 107 (tabO ps) news g) (hps : PsOk pos ps)
    (hdef : defaultsOf params (envX cn cs L a (.ref 111) cl) = ([], [])) (hcl : closureFor scope (envX cn cs L a (.ref 111) cl) = pure [])
    (h : ∀ f fo ps' h' tk', fo.cls = .type "function" → PsOk pos ps' → Fr h₀ L h' m → News h₀ L h' ((f, fo) :: g (tabO ps')) → (∀ q ∈ news, q.1 < f) → Q (.ref f) { s with heap := h', toks := tk' }) :
    wpAny M A (eval (.Lambda params body scope pos) (envX cn cs L a (.ref 111) cl)) Q E s := by
  refine kla_eval hdef ?_
  have C : CodeHd h₀ 111 107 := codeHd_of_K X (by kernel_rfl)
  obtain ⟨own, rest, hn, hgr, h1, h2⟩ := U.split
  have hmem : (107, tabObj ps) ∈ news := by rw [hn]; exact List.mem_append_right _ (.head _)
  rcases hps with rfl | ⟨c', rfl⟩
  · refine kla_nest F N T C rfl U trivial rfl hcl fun f c' oc vs t ctv h' tk F' N' _ _ hc hf => ?_
    exact h f _ (#[] ++ #[rawInt pos.line, rawInt pos.col, .ref c']) h' tk (by exact rfl) (.inr ⟨c', by simp⟩) F' (news_drop2 N') (fun q hq => Nat.lt_trans (hc q hq) hf)
  · refine kla_hit (c' := c') F N T C rfl hmem trivial ?_ hcl fun f ctv h' tk F' N' hlt => ?_
    · simp [codeAmong, rawInt]
    · have e : g (tabO #[rawInt pos.line, rawInt pos.col, .ref c']) = news := by rw [hgr, hn]
      rw [← e] at N'
      refine h f _ #[rawInt pos.line, rawInt pos.col, .ref c'] h' tk ?_ (.inr ⟨c', rfl⟩) F' N' hlt
      rfl
end
end
section
/-- a run that only notes and ends -/
noncomputable def ruled {α : Type} : Sem α → Option α
  | .pure a => some a
  | .rule _ k => ruled (k ())
  | _ => none
theorem peek_ruled {α : Type} {X : Setting} {a : α} : ∀ t : Sem α, ruled t = some a → peek [] X t = some a := by
  intro t
  induction t with
  | pure b => intro e; exact e
  | rule _ k ih => intro e; exact ih () e
  | _ => intro e; cases e
theorem wp_ruled {α : Type} {M : Model} {A : Around} {t : Sem α} {a : α} {Q : α → Shared → Prop} {E : Value → Shared → Prop} {s : Shared} (e : ruled t = some a) (q : Q a s) : wpAny M A t Q E s :=
  (Looks.of_peek (K := []) (h := s.heap) (fun _ _ h => by cases h) (peek_ruled t e)).here q
noncomputable def findCode : Array Nat := #[14, 17, 4, 1, 1, 21, 9, 0, 604043296, 1, 0, 0, 0, 0, 0, 8, 4, 0, 13, 14, 21, 9, 0, 604043296, 1, 0, 0, 0, 0, 0, 8, 4, 0, 1]
noncomputable def findRun (x : List Nat) : Sem (Option Sre.M) := Builtin.Re.reRunToEnd (Sre.forSearch findCode x.toArray 0 (min (0 : Int).toNat x.toArray.size) (min ((2 : Int) ^ 63 - 1).toNat x.toArray.size) false)
/-- a sign that asks for quotes is in the text -/
noncomputable def unsafe? (x : List Nat) : Option Bool := (ruled (findRun x)).map (·.isSome)
theorem find_test : ([[98],[97,98],[97,32,98],[42],[97],[39,97],[100,114,111,112],[107,101,101,112],[98,97,99,107],[97,42],[63],[91,42,93],[42,98],[91,33,97,93,42],[42,32,42]].map unsafe?) = [some false, some false, some true, some true, some false, some true, some false, some false, some false, some true, some true, some true, some true, some true, some true] := by decide +kernel
section
variable {w : World} {A : Around} {E : Value → Shared → Prop} {s : Shared}
theorem find_target {M : Model} {h : Heap} (X : (Mine.K w.params).In h) (x : List Nat) (t : Tok) :
    Looks M h (Builtin.Re.reTarget "re.Pattern.search" "search" ⟨[.ref 117, .str (S x) t], []⟩) { pattern := .ref 117, string := .str (S x) t, code := findCode, text := x.toArray, kind := 0, groups := 0, pos := min (0 : Int).toNat x.toArray.size, lim := min ((2 : Int) ^ 63 - 1).toNat x.toArray.size } :=
  Looks.of_peek X (by with_unfolding_all rfl)
theorem find_check {M : Model} {h : Heap} (X : (Mine.K w.params).In h) (x : List Nat) (t : Tok) : Looks M h (checkBoundCall "re.Pattern.search" ⟨[.ref 117, .str (S x) t], []⟩) () :=
  Looks.of_peek X (by with_unfolding_all rfl)
theorem entry_search : entryFor table "re.Pattern.search" = some Builtin.«re.Pattern.search» := entryFor_of_tree (by kernel_rfl)
theorem quiet_search {as : Args} : (Code.builtin "re.Pattern.search" as).quiet = true := Code.quiet_builtin _ (by decide +kernel)
theorem find_keep {M : Model} {h : Heap} (X : (Mine.K w.params).In h) : Looks M h (keeperOf (.ref 820)) .machine := Looks.of_peek X (by with_unfolding_all rfl)
theorem find_call {h₀ : Heap} {L : Addr} {m : Str → Option Value} {news : List (Addr × Obj)} {Q : Value → Shared → Prop} (F : Fr h₀ L s.heap m) (N : News h₀ L s.heap news) (X : (Mine.K w.params).In h₀) (x : List Nat) (t : Tok) (b : Bool) (hx : unsafe? x = some b)
    (h : ∀ r h' tk', Fr h₀ L h' m → News h₀ L h' news → (b = false → r = .none) → (b = true → ∃ a, r = .ref a) → Q r { s with heap := h', toks := tk' }) :
    wpAny (model PySem.Challenge.pw_il0113_01 w) A (call (.ref 820) [.str (S x) t]) Q E s := by
  have X1 := X.keeps F.keep
  obtain ⟨mr, hr, hb⟩ : ∃ mr, ruled (findRun x) = some mr ∧ mr.isSome = b := by
    unfold unsafe? at hx
    cases hc : ruled (findRun x) with
    | none => rw [hc] at hx; cases hx
    | some mr => rw [hc] at hx; exact ⟨mr, rfl, Option.some.inj hx⟩
  refine wpAny_call (codeAny_of_tree ?_)
  show wpAny _ A.in1 (callAny (.ref 820) ⟨[.str (S x) t], []⟩) _ _ s
  simp only [callAny]
  refine wpAny_bind (wpAny_load (X1 820 _ rfl) ?_)
  (try dsimp only)
  refine KFB.if_so (by first | decide | (with_unfolding_all rfl)) ?_
  refine wpAny_bind ((find_check X1 x t).here ?_)
  refine wpAny_bind (wpAny_pure (wpAny_pure ⟨quiet_search, codeAny_builtin entry_search ?_⟩))
  rw [Around.under_plainId (show plainId "re.Pattern.search" = true by decide +kernel) _]
  unfold Builtin.«re.Pattern.search»
  refine wpAny_bind ((find_target X1 x t).here ?_)
  unfold Builtin.Re.reAnswer
  refine wpAny_bind (wp_ruled hr ?_)
  cases mr with
  | none =>
    subst hb
    exact wpAny_pure (h .none _ s.toks F N (fun _ => rfl) (fun e => by cases e))
  | some mm =>
    subst hb
    dsimp only
    refine wpAny_bind ?_
    refine sem_eq (b := newTuple [rawInt mm.start, rawInt mm.handed] >>= fun tp => newFields "re.Match" [.str (S x) t, .ref 117, rawInt (min (0 : Int).toNat x.toArray.size : Nat), rawInt (min ((2 : Int) ^ 63 - 1).toNat x.toArray.size : Nat), rawInt mm.lastindex, tp]) (by with_unfolding_all rfl) ?_
    have F1 := F.push { cls := .type "tuple", data := .seq #[rawInt mm.start, rawInt mm.handed] }
    have N1 := N.push F { cls := .type "tuple", data := .seq #[rawInt mm.start, rawInt mm.handed] }
    refine wpAny_bind (wpAny_newTuple ?_)
    refine wpAny_newObj_type ?_
    refine wpAny_pure (h _ _ _ (F1.push _) (fun q hq => (N1.push F1 _) q (.tail _ (.tail _ hq))) (fun e => by cases e) (fun _ => ⟨_, rfl⟩))
end
end
section
noncomputable def subCode : Array Nat := #[14, 14, 4, 1, 1, 9, 0, 64, 0, 1342177280, 0, 0, 0, 0, 0, 17, 0, 13, 11, 9, 0, 64, 0, 1342177280, 0, 0, 0, 0, 0, 17, 1, 1]
noncomputable def subRun (x : List Nat) : Sem (Option Sre.M) := Builtin.Re.reRunToEnd (Sre.forSearch subCode x.toArray 1 0 x.toArray.size false)
/-- no sign in the text that the pattern would mark -/
noncomputable def noSub (x : List Nat) : Bool := match ruled (subRun x) with
  | some none => true
  | _ => false
section
variable {w : World} {A : Around} {E : Value → Shared → Prop} {s : Shared}
theorem sub_target {M : Model} {h : Heap} (X : (Mine.K w.params).In h) (x : List Nat) (t : Tok) :
    Looks M h (Builtin.Re.reWholeTarget (.ref 93) (.str (S x) t)) { pattern := .ref 93, string := .str (S x) t, code := subCode, text := x.toArray, kind := 0, groups := 1, pos := 0, lim := x.toArray.size } :=
  Looks.of_peek X (by with_unfolding_all rfl)
theorem sub_held {M : Model} {h : Heap} (X : (Mine.K w.params).In h) (x : List Nat) (t : Tok) : Looks M h (Builtin.Re.reNotHeld "re.Pattern.sub" (.str (S x) t)) () := Looks.of_peek X (by with_unfolding_all rfl)
theorem slot_sub : Slot "re.Pattern" "sub" "re.Pattern.sub" := .of (owner := "re.Pattern") (n := "sub") (by rw [typeLookup_type, builtinLookup_eq_fast]; kernel_rfl) (by decide +kernel) (by decide +kernel) (by decide +kernel)
    (by first | exact .inl (by decide +kernel) | exact .inr (by decide +kernel)) (by rw [isSubtype_type]; kernel_rfl)
theorem entry_sub : entryFor table "re.Pattern.sub" = some Builtin.«re.Pattern.sub» := entryFor_of_tree (by kernel_rfl)
theorem entry_subloop : entryFor table "re.Pattern.sub.loop" = some Builtin.«re.Pattern.sub.loop» := entryFor_of_tree (by kernel_rfl)
theorem plain_subloop : plainId "re.Pattern.sub.loop" = true := by decide +kernel
theorem args_sub (a b c : Value) : argsOk "re.Pattern.sub" ⟨[a, b, c], []⟩ := by unfold argsOk; kernel_rfl
theorem fn_call : typeLookup (.type "function") "__call__" = pure (some (.builtin "function.__call__")) := by rw [typeLookup_type, builtinLookup_eq_fast]; kernel_rfl
theorem pattern_attrs : PlainAttrs "re.Pattern" := ⟨⟨"object.__getattribute__", by rw [typeLookup_type, builtinLookup_eq_fast]; kernel_rfl, by decide +kernel⟩, by rw [typeLookup_type, builtinLookup_eq_fast]; kernel_rfl⟩
theorem sub_obj {h : Heap} (X : (Mine.K w.params).In h) : ∃ o, h.get? 93 = some o ∧ o.cls = .type "re.Pattern" ∧ o.dict = none := ⟨_, X 93 _ rfl, rfl, rfl⟩
theorem gm_sub {M : Model} {pl : Sem Bool} {Q : Value × List Value → Shared → Prop} (X : (Mine.K w.params).In s.heap) (h : Q (.builtin "re.Pattern.sub", [.ref 93]) s) : wpAny M A (getMethod (.ref 93) (Str.ofString "sub") pl) Q E s := by
  obtain ⟨o, ho, hc, hd⟩ := sub_obj X
  refine getMethod_builtin (T := "re.Pattern") ⟨o, ho, hc⟩ pattern_attrs slot_sub (by with_unfolding_all rfl) (fun a e => by injection e with e; subst e; exact ⟨o, ho, hd⟩) h
theorem joinOk_one (x : List Nat) (h : x.length ≤ 1000) : JoinOk (S []) [S x] = true := by
  unfold JoinOk
  rw [StrLaws.joinTotal]
  unfold Builtin.Str.tooLong
  rw [sizeLine_eq]
  simp [S_len]
  omega
theorem sub_loop {h₀ : Heap} {L f : Addr} {m : Str → Option Value} {news : List (Addr × Obj)} {x : List Nat} {t : Tok} {D : Addr} {R : Result → Shared → Prop} (X : (Mine.K w.params).In h₀) (F : Fr h₀ L s.heap m) (N : News h₀ L s.heap ((D, listOf #[] 0) :: news)) (ha : ∀ p ∈ news, p.1 ≠ D) (hx : noSub x = true) (hl : 0 < x.length) (hl2 : x.length ≤ 1000)
    (h : ∀ t' h' tk', Fr h₀ L h' m → News h₀ L h' news → R (.ok (.ret (.str (S x) t'))) { s with heap := h', toks := tk' }) :
    codeAny (model PySem.Challenge.pw_il0113_01 w) A (.builtin "re.Pattern.sub.loop" ⟨[.ref 93, .str (S x) t, .ref f, rawInt 1, rawInt 0, rawInt 0, rawInt 0, rawInt 0, .bool false, .ref D, .bool false], []⟩) R s := by
  have X1 := X.keeps F.keep
  obtain hr : ruled (subRun x) = some none := by
    unfold noSub at hx
    split at hx
    · assumption
    · cases hx
  refine codeAny_builtin entry_subloop ?_
  rw [Around.under_plainId plain_subloop _]
  unfold Builtin.«re.Pattern.sub.loop»
  dsimp only [rawInt]
  refine wpAny_bind ((sub_target X1 x t).here ?_)
  rw [if_neg (by decide), if_neg (by decide)]
  refine wpAny_bind (wp_ruled hr ?_)
  dsimp only
  rw [if_pos (show Int.toNat 0 < x.toArray.size by simpa using hl)]
  have e1 : Builtin.Re.reSlice x.toArray 0 (Int.toNat 0) x.toArray.size = mkStr (S x) := by
    unfold Builtin.Re.reSlice
    rw [if_pos (by decide)]
    simp [S]
  have e2 : Builtin.Re.reSlice x.toArray 0 0 0 = mkStr (S []) := by
    unfold Builtin.Re.reSlice
    rw [if_pos (by decide)]
    simp [S]
  rw [e1, e2]
  have hsz : (S x).length ≤ sizeLine := by rw [S_len, sizeLine_eq]; omega
  refine wpAny_bind (wpAny_mkStr ?_ (hx := hsz))
  have hD := N _ (.head _)
  refine wpAny_bind (wpAny_updateSeq hD.1 rfl ?_)
  have hs := Heap.SameBut.update s.heap D (Obj.mapSeq (·.push (.str (S x) s.toks)))
  have ho := Heap.get?_update_self (Obj.mapSeq (·.push (.str (S x) s.toks))) hD.1 rfl
  have F1 := F.change hs hD.2.1 hD.2.2
  have N1 := N.setHead ha hs ho
  have hD1 := N1 _ (.head _)
  refine wpAny_bind (wpAny_mkStr ?_ (hx := by rw [S_len, sizeLine_eq]; exact Nat.zero_le _))
  refine wpAny_bind (wpAny_seqItems hD1.1 rfl ?_)
  rw [if_neg (by simp), if_pos (by decide)]
  refine wpAny_bind (SC.join (l := [(S x, s.toks)]) (texts := [S x]) ⟨_, hD1.1, rfl, _, rfl⟩ rfl ?_ fun t' k => ?_)
  · have := joinOk_one x hl2
    exact this
  · rw [if_neg (by decide)]
    have e3 : Txt.join (S []) [S x] = S x := by
      unfold Txt.join
      rw [StrLaws.glued_eq_join]; rfl
    rw [e3]
    exact wpAny_pure (h _ _ _ F1 (fun q hq => N1 q (.tail _ hq)))
theorem sub_call {h₀ : Heap} {L f : Addr} {fo : Obj} {m : Str → Option Value} {news : List (Addr × Obj)} {x : List Nat} {t : Tok} {Q : Value → Shared → Prop} (X : (Mine.K w.params).In h₀) (F : Fr h₀ L s.heap m) (N : News h₀ L s.heap news) (hf : (f, fo) ∈ news) (hfc : fo.cls = .type "function") (hx : noSub x = true) (hl : 0 < x.length) (hl2 : x.length ≤ 1000)
    (h : ∀ t' h' tk', Fr h₀ L h' m → News h₀ L h' news → Q (.str (S x) t') { s with heap := h', toks := tk' }) :
    wpAny (model PySem.Challenge.pw_il0113_01 w) A (call (.builtin "re.Pattern.sub") [.ref 93, .ref f, .str (S x) t]) Q E s := by
  have X1 := X.keeps F.keep
  obtain ⟨o, ho, hc, hd⟩ := sub_obj X1
  refine wpAny_call (codeAny_call_builtin slot_sub.plain entry_sub (slot_sub.check _ _ _ _ _ _ _ _ ⟨o, ho, hc⟩ (args_sub _ _ _) ?_))
  unfold Builtin.«re.Pattern.sub» Builtin.Re.reSubstitute
  dsimp only
  refine wpAny_bind (wpAny_of_eq (a := [some (.ref f), some (.str (S x) t), none]) (by first | rfl | kernel_rfl) ?_)
  dsimp only
  refine wpAny_bind (wpAny_pure ?_)
  refine wpAny_bind (wpAny_specialOf (T := "function") ⟨fo, (N _ hf).1, hfc⟩ fn_call ?_)
  dsimp only [Option.isSome]
  refine wpAny_bind (wpAny_pure ?_)
  refine wpAny_bind (wpAny_pure ?_)
  dsimp only
  refine wpAny_bind (wpAny_holding ((sub_target X1 x t).here ?_))
  refine wpAny_bind ((sub_held X1 x t).here ?_)
  have hlt : ∀ p ∈ news, p.1 < s.heap.objs.size := fun p hp => Heap.lt_size (N p hp).1
  refine wpAny_bind (wpAny_newObj_type ?_)
  refine wpAny_pure ⟨plainId_quiet plain_subloop _, ?_⟩
  refine sub_loop X (F.push _) (N.push F (listOf #[] 0)) (fun p hp => Nat.ne_of_lt (hlt p hp)) hx hl hl2 ?_
  intro t' h' tk' F' N'
  exact h t' h' tk' F' N'
end
end
section
/-- a pattern's pieces, each with the part that it makes -/
inductive Pc (sS sQ : List Nat) : List Nat → List Nat → Prop
  | star : Pc sS sQ [42] sS
  | one : Pc sS sQ [63] sQ
  | oth (c : Nat) : c < 128 → c ≠ 42 → c ≠ 63 → c ≠ 91 → Pc sS sQ [c] (esc c)
  | set (x : Nat) : (x = 42 ∨ x = 63 ∨ x = 91) → Pc sS sQ [91, x, 93] (if x = 91 then [91, 92, 91, 93] else [91, x, 93])
  | neg : Pc sS sQ [91, 33, 97, 93] [91, 94, 97, 93]
theorem Pc.ne {sS sQ a b : List Nat} (h : Pc sS sQ a b) : a ≠ [] := by cases h <;> simp
theorem pcs_len {sS sQ : List Nat} : ∀ {P : List (List Nat × List Nat)}, (∀ x ∈ P, Pc sS sQ x.1 x.2) → P.length ≤ (P.map (·.1)).flatten.length
  | [], _ => Nat.zero_le _
  | x :: P, h => by
    have h1 := pcs_len (P := P) fun y hy => h y (.tail _ hy)
    have h2 := List.length_pos_iff.mpr (h x (.head _)).ne
    simp only [List.map_cons, List.flatten_cons, List.length_append, List.length_cons]
    omega
/-- a star comes behind a part that is neither star's nor one's -/
noncomputable def Adj (sS sQ : List Nat) : List (List Nat × List Nat) → Prop
  | [] => True
  | [_] => True
  | a :: b :: r => (b.1 = [42] → a.2 ≠ sS ∧ a.2 ≠ sQ) ∧ Adj sS sQ (b :: r)
theorem Adj.at {sS sQ : List Nat} {a b : List Nat × List Nat} {r : List (List Nat × List Nat)} : ∀ d : List (List Nat × List Nat), Adj sS sQ (d ++ a :: b :: r) → b.1 = [42] → a.2 ≠ sS ∧ a.2 ≠ sQ
  | [], h => h.1
  | [_], h => Adj.at [] h.2
  | _ :: y :: d, h => Adj.at (y :: d) h.2
noncomputable abbrev zv (z : List Nat × Tok) : Value := .str (S z.1) z.2
theorem m7 (m : Str → Option Value) (a b c d e f g : Str) (va vb vc vd ve vf vg : Option Value) (ha : m a = va) (hb : m b = vb) (hc : m c = vc) (hd : m d = vd) (he : m e = ve) (hf : m f = vf) (hg : m g = vg) :
    m = fun y => if y = a then va else if y = b then vb else if y = c then vc else if y = d then vd else if y = e then ve else if y = f then vf else if y = g then vg else m y := by
  funext y
  by_cases h1 : y = a
  · rw [if_pos h1, h1, ha]
  · rw [if_neg h1]
    by_cases h2 : y = b
    · rw [if_pos h2, h2, hb]
    · rw [if_neg h2]
      by_cases h3 : y = c
      · rw [if_pos h3, h3, hc]
      · rw [if_neg h3]
        by_cases h4 : y = d
        · rw [if_pos h4, h4, hd]
        · rw [if_neg h4]
          by_cases h5 : y = e
          · rw [if_pos h5, h5, he]
          · rw [if_neg h5]
            by_cases h6 : y = f
            · rw [if_pos h6, h6, hf]
            · rw [if_neg h6]
              by_cases h7 : y = g
              · rw [if_pos h7, h7, hg]
              · rw [if_neg h7]
/-- a while over the frame's map and the ledger, the tokens' count from a bound on -/
inductive WhNx (h₀ : Heap) (L : Addr) (s : Shared) (J : Nat → (Str → Option Value) → List (Addr × Obj) → Prop) (n : Nat) : Shared → Prop
  | mk (h' : Heap) (tk : Tok) (m₂ : Str → Option Value) (news₂ : List (Addr × Obj)) (n' : Nat) (F : Fr h₀ L h' m₂) (N : News h₀ L h' news₂) (hn : n' < n) (hJ : J n' m₂ news₂) : WhNx h₀ L s J n { s with heap := h', toks := tk }
noncomputable def WhileT (h₀ : Heap) (L : Addr) (s : Shared) (k : Nat) (J : Nat → (Str → Option Value) → List (Addr × Obj) → Prop) (Q : Flow → Shared → Prop) (n : Nat) (f : Flow) (s₃ : Shared) : Prop :=
  match f with
  | .next | .cont => WhNx h₀ L s J n s₃
  | .brk => Q .next s₃
  | .ret v => Q (.ret v) s₃
inductive WhAt (h₀ : Heap) (L : Addr) (s : Shared) (k : Nat) (J : Nat → (Str → Option Value) → List (Addr × Obj) → Prop) (n : Nat) : Shared → Prop
  | mk (h₁ : Heap) (tk₁ : Tok) (m₁ : Str → Option Value) (news₁ : List (Addr × Obj)) (hk : k ≤ tk₁) (F : Fr h₀ L h₁ m₁) (N : News h₀ L h₁ news₁) (hJ : J n m₁ news₁) : WhAt h₀ L s k J n { s with heap := h₁, toks := tk₁ }
theorem While_tok {prog : Program} {w : World} {A : Around} {E : Value → Shared → Prop} {Q : Flow → Shared → Prop} {s : Shared} {env : Env} {h₀ : Heap} {L : Addr} {test : Expr} {body : List Stmt} {pos : Pos} {m : Str → Option Value} {news : List (Addr × Obj)} {n₀ k : Nat}
    (J : Nat → (Str → Option Value) → List (Addr × Obj) → Prop) (hk : k ≤ s.toks) (F : Fr h₀ L s.heap m) (N : News h₀ L s.heap news) (hJ : J n₀ m news)
    (turn : ∀ n m₁ news₁ h₁ tk₁, k ≤ tk₁ → Fr h₀ L h₁ m₁ → News h₀ L h₁ news₁ → J n m₁ news₁ → ∀ QQ : Flow → Shared → Prop, (∀ h' tk m₂ news₂ n', Fr h₀ L h' m₂ → News h₀ L h' news₂ → n' < n → J n' m₂ news₂ → QQ .next { s with heap := h', toks := tk }) →
      wpAny (model prog w) A (isTrue test env (eval test env)) (fun b s₂ =>
        if b = true then wpAny (model prog w) A (execs body env) QQ E s₂ else Q .next s₂) E { s with heap := h₁, toks := tk₁ })
    (hE : PassesOwn (model prog w) A env E := by passes_own) :
    wpAny (model prog w) A (exec (.While test body [] pos) env) Q E s := by
  refine wpAny_While (codeAny_whileLoop (WhAt h₀ L s k J) ?_ n₀ (.mk s.heap s.toks m news hk F N hJ))
  intro n s' hs
  cases hs with
  | mk h₁ tk₁ m₁ news₁ hk₁ F₁ N₁ J₁ =>
    refine wpAny_mono (wpAny_toks_of (n := k) hk₁ (turn n m₁ news₁ h₁ tk₁ hk₁ F₁ N₁ J₁ (WhileT h₀ L s k J Q n) fun h' tk m₂ news₂ n' F N hn hJ => WhNx.mk h' tk m₂ news₂ n' F N hn hJ)) (fun b s₂ h₂ => ?_) (fun e s₂ h₂ => hE e s₂ h₂.2)
    have hk₂ := h₂.1
    have h₂ := h₂.2
    cases b with
    | false => exact wpAny_execs_nil (by simpa using h₂)
    | true =>
      have h₂ : wpAny (model prog w) A (execs body env) (WhileT h₀ L s k J Q n) E s₂ := h₂
      refine wpAny_mono (wpAny_toks_of (n := k) hk₂ h₂) (fun f s₃ h₃ => ?_) (fun e s₃ h₃ => hE e s₃ h₃.2)
      have nx : WhNx h₀ L s J n s₃ → ∃ n', n' < n ∧ WhAt h₀ L s k J n' s₃ := fun hn => by
        have hk₃ := h₃.1
        cases hn with
        | mk h' tk m₂ news₂ n' F₂ N₂ hn J₂ => exact ⟨n', hn, .mk h' tk m₂ news₂ hk₃ F₂ N₂ J₂⟩
      cases f with
      | brk => exact h₃.2
      | ret v => exact h₃.2
      | next => exact nx h₃.2
      | cont => exact nx h₃.2
theorem strs_zv : ∀ zs : List (List Nat × Tok), StrsAre (zs.map zv) (zs.map fun z => S z.1)
  | [] => .nil
  | _ :: zs => .cons _ _ (strs_zv zs)
theorem strs_zv' {zs : List (List Nat × Tok)} {P : List (List Nat × List Nat)} (h : zs.map (·.1) = P.map (·.2)) : StrsAre (zs.map zv) (P.map fun x => S x.2) := by
  have e : (P.map fun x => S x.2) = zs.map fun z => S z.1 := by
    rw [show (P.map fun x => S x.2) = (P.map (·.2)).map S from by rw [List.map_map]; rfl, ← h, List.map_map]; rfl
  rw [e]
  exact strs_zv zs
section
variable {prog : Program} {w : World} {A : Around} {E : Value → Shared → Prop} {s : Shared}
theorem idx_one {value slice : PySem.Expr} {bs : List Nat} {t u : Tok} {i c : Nat} {Q : Value → Shared → Prop} (hc : bs[i]? = some c) (hb : bs.length ≤ 1000) (h : Q (.str (S [c]) s.toks) { s with toks := s.toks + 1 })
    (hs : subscripted slice false (.str (S bs) t) (.int (i : Int) u) = operate [.str (S bs) t, .int (i : Int) u] (getItem (.str (S bs) t) (.int (i : Int) u)) := by with_unfolding_all rfl) :
    wpAny (model prog w) A (subscriptTail value slice (.str (S bs) t) (.int (i : Int) u)) Q E s := by
  have hlt : i < bs.length := (List.getElem?_eq_some_iff.mp hc).1
  refine tail_any (typeIs_str s _ t) slot_str_getitem.lookup (PyProof.Rows.getItem_str (c := c) ?_ ?_ h) hs
  · simp only [Bool.or_eq_false_iff, decide_eq_false_iff_not]
    omega
  · have e : seqIndex? (i : Int) (S bs).length = some i := by
      unfold seqIndex?
      rw [S_len]
      simp
      omega
    rw [e]
    simpa [S] using hc
theorem neq_txt {x y : Str} {t u : Tok} {b : Bool} {Q : Value → Shared → Prop} (hb : (x == y) = b) (h : Q (.bool (!b)) s) : wpAny (model prog w) A (compareOp .NotEq (.str x t) (.str y u)) Q E s := PyProof.Rows.ne_str (by show Q (.bool (!(x == y))) s; rw [hb]; exact h)
theorem truthy_l {l : Addr} {vs : List Value} {c : Nat} {b : Bool} {Q : Bool → Shared → Prop} (hl : s.heap.get? l = some (listOf vs.toArray c)) (hsz : vs.length ≤ 1000) (hb : vs.isEmpty = !b) (h : ∀ tk, Q b { s with toks := tk }) : wpAny (model prog w) A (truthy (.ref l)) Q E s := by
  refine wpAny_truthy_list (items := vs.toArray) ⟨_, hl, rfl, c, rfl⟩ (by simp; omega) ?_
  have e : (!vs.toArray.isEmpty) = b := by
    rw [List.isEmpty_toArray, hb, Bool.not_not]
  rw [e]
  exact h _
theorem last_l {value slice : PySem.Expr} {l : Addr} {vs : List Value} {v : Value} {c : Nat} {u : Tok} {Q : Value → Shared → Prop} (hl : s.heap.get? l = some (listOf (vs ++ [v]).toArray c)) (hsz : vs.length ≤ 1000) (h : Q v s)
    (hs : subscripted slice false (.ref l) (.int (-1) u) = operate [.ref l, .int (-1) u] (getItem (.ref l) (.int (-1) u)) := by with_unfolding_all rfl) :
    wpAny (model prog w) A (subscriptTail value slice (.ref l) (.int (-1) u)) Q E s := by
  have hL : s.heap.IsList l (vs ++ [v]).toArray := ⟨_, hl, rfl, c, rfl⟩
  have e : ((-1 : Int) + ((vs ++ [v]).toArray.size : Nat)).toNat = vs.length := by simp; omega
  exact tail_any hL.typeIs slot_list_getitem.lookup (wpAny_getItem_list_neg hL (by decide) (by simp; omega) (by decide) (by rw [e]; simp) h) hs
theorem isNot_txt {x y : Str} {t u : Tok} {Q : Value → Shared → Prop} (hx : (x == y) = false) (h0 : 0 < u) (h1 : u < t) (h : Q (.bool true) s) : wpAny (model prog w) A (compareOp .IsNot (.str x t) (.str y u)) Q E s := by
  show wpAny _ A (do return .bool (!(← isSame (.str x t) (.str y u)))) Q E s
  refine wpAny_bind ?_
  show wpAny _ A (isSame.created (x == y) t u) _ _ _
  unfold isSame.created
  have g1 : (t == 0) = false := beq_eq_false_iff_ne.mpr (Nat.ne_of_gt (Nat.lt_trans h0 h1))
  have g2 : (u == 0) = false := beq_eq_false_iff_ne.mpr (Nat.ne_of_gt h0)
  have g3 : (t == u) = false := beq_eq_false_iff_ne.mpr (Nat.ne_of_gt h1)
  rw [g1, g2, g3, hx]
  exact wpAny_pure (wpAny_pure h)
theorem dash_no {x : Str} {t u : Tok} {Q : Value → Shared → Prop} (hx : x.cps.toList.contains 45 = false) (h : Q (.bool true) s) : wpAny (model prog w) A (compareOp .NotIn (.str (Str.ofString "-") t) (.str x u)) Q E s := by
  rw [show Str.ofString "-" = S [45] from by decide +kernel]
  exact notin_one hx h
theorem take1 {l : List Nat} {p c : Nat} (h : l[p]? = some c) : (l.drop p).take 1 = [c] := by
  obtain ⟨hp, he⟩ := List.getElem?_eq_some_iff.mp h
  rw [List.drop_eq_getElem_cons hp, he]; rfl
theorem take2 {l : List Nat} {p c d : Nat} (h : l[p]? = some c) (h2 : l[p + 1]? = some d) : (l.drop p).take 2 = [c, d] := by
  obtain ⟨hp, he⟩ := List.getElem?_eq_some_iff.mp h
  rw [List.drop_eq_getElem_cons hp, he, List.take_succ_cons, take1 h2]
theorem call_append_U {q l : Addr} {v : Value} {vs : List Value} {c : Nat} {h₀ : Heap} {L : Addr} {m : Str → Option Value} {news : List (Addr × Obj)} {g : Obj → List (Addr × Obj)} {Q : Value → Shared → Prop} (Fh : Fr h₀ L s.heap m) (N : News h₀ L s.heap news) (U : UpdF l (listOf vs.toArray c) news g) (hm : (q, boundO "builtin_function_or_method" "list.append" (.ref l)) ∈ news) (hsz : vs.length ≤ 1000)
    (h : ∀ h', Fr h₀ L h' m → News h₀ L h' (g (listOf (vs ++ [v]).toArray (c + 1))) → Q .none { s with heap := h' }) :
    wpAny (model prog w) A (call (.ref q) [v]) Q E s := by
  obtain ⟨own, rest, hn, hgr, h1, h2⟩ := U.split
  have hml : (l, listOf vs.toArray c) ∈ news := by rw [hn]; exact List.mem_append_right _ (.head _)
  have hl := N _ hml
  have hb := check_bound (v := v) (id := "list.append") (.inl rfl) hl.1
  have N1 := N
  rw [hn] at N1
  exact call_bound (B := Builtin.«list.append») (id := "list.append") (bt := "builtin_function_or_method") (.inl rfl) (by decide +kernel) (by decide +kernel) PySem.F.entry_list_append (N _ hm).1 hb (meets_append l vs c v hsz) ⟨hl.1, fun h' hs ho => h _ (Fh.change hs hl.2.1 hl.2.2) (by rw [hgr]; exact N1.setAt h1 h2 hs ho)⟩
theorem slice1 {bs : List Nat} {i c : Nat} (h : bs[i + 1]? = some c) : Txt.slice (S bs) (some ((i : Int) + 1)) (some ((i : Int) + 1 + 1)) = S [c] := by
  have hp := (List.getElem?_eq_some_iff.mp h).1
  rw [slice_ss bs _ _ (by omega) (by omega) (by omega), show ((i : Int) + 1).toNat = i + 1 by omega, show ((i : Int) + 1 + 1 - ((i : Int) + 1)).toNat = 1 by omega, take1 h]
theorem slice2 {bs : List Nat} {i c d : Nat} (h : bs[i + 1]? = some c) (h2 : bs[i + 1 + 1]? = some d) : Txt.slice (S bs) (some ((i : Int) + 1)) (some ((i : Int) + 1 + 1 + 1)) = S [c, d] := by
  have hp := (List.getElem?_eq_some_iff.mp h2).1
  rw [slice_ss bs _ _ (by omega) (by omega) (by omega), show ((i : Int) + 1).toNat = i + 1 by omega, show ((i : Int) + 1 + 1 + 1 - ((i : Int) + 1)).toNat = 2 by omega, take2 h h2]
theorem gm_sub_K {h₀ : Heap} {L : Addr} {m : Str → Option Value} {M : Model} {pl : Sem Bool} {Q : Value × List Value → Shared → Prop} (F : Fr h₀ L s.heap m) (X : (Mine.K w.params).In h₀) (h : Q (.builtin "re.Pattern.sub", [.ref 93]) s) : wpAny M A (getMethod (.ref 93) (Str.ofString "sub") pl) Q E s := gm_sub (X.keeps F.keep) h
theorem idx_zero {value slice : PySem.Expr} {bs : List Nat} {t u : Tok} {c : Nat} {Q : Value → Shared → Prop} (hb : bs.length ≤ 1000) (hc : bs[0]? = some c) (h : Q (.str (S [c]) s.toks) { s with toks := s.toks + 1 })
    (hs : subscripted slice false (.str (S bs) t) (.int (0 : Int) u) = operate [.str (S bs) t, .int (0 : Int) u] (getItem (.str (S bs) t) (.int (0 : Int) u)) := by with_unfolding_all rfl) :
    wpAny (model prog w) A (subscriptTail value slice (.str (S bs) t) (.int (0 : Int) u)) Q E s := idx_one (i := 0) hc hb h hs
theorem star_S : Str.ofString "*" = S [42] := by decide +kernel
theorem one_S : Str.ofString "?" = S [63] := by decide +kernel
theorem bra_S : Str.ofString "[" = S [91] := by decide +kernel
theorem ket_S : Str.ofString "]" = S [93] := by decide +kernel
theorem exc_S : Str.ofString "!" = S [33] := by decide +kernel
theorem one_eq {c d : Nat} (h : c = d) : (S [c] == S [d]) = true := by rw [h]; exact beq_self_eq_true _
theorem one_ne {c d : Nat} (h : c ≠ d) : (S [c] == S [d]) = false := S_ne (fun e => h (List.head_eq_of_cons_eq e))
end
theorem esc_call_K {w : World} {p : Program} {loose : List Str} {mean : ExcName → Option Value} {mg mb : Str → Option Value} {A : Around} {h₀ : Heap} {L : Addr} {m : Str → Option Value} {news : List (Addr × Obj)} {s : Shared} {Q E : Value → Shared → Prop} {c : Nat} {t : Tok} (F : Fr h₀ L s.heap m) (N : News h₀ L s.heap news) (X : (Mine.K w.params).In h₀) (T : Top p loose mean mg mb h₀) (hh : A.handled = none) (hc : c < 128) (hd : A.depth + 10 < recursionLimit) (hu : A.units + 100 < cLine)
    (h : ∀ t' h' tk', s.toks ≤ t' → Fr h₀ L h' m → News h₀ L h' news → Q (.str (S (esc c)) t') { s with heap := h', toks := tk' }) : wpAny (model PySem.Challenge.pw_il0113_01 w) A (call (.ref 105) [.str (S [c]) t]) Q E s := by
  refine esc_c w c t hc p loose mean mg mb A s Q E (X.keeps F.keep) (T.keeps F.keep) hh hd hu ?_
  rintro r h' tk' hk ⟨t', ht, rfl⟩
  exact h t' h' tk' ht (F.keeps hk) (fun q hq => ⟨hk _ _ (N q hq).1, (N q hq).2⟩)
/-- between the turns of _translate -/
inductive TrJ (bs : List Nat) (t ts tq : Tok) (sS sQ : List Nat) (P : List (List Nat × List Nat)) (l q : Addr) (rest : List (Addr × Obj)) (lpos : Pos) : Nat → (Str → Option Value) → List (Addr × Obj) → Prop
  | mk (done todo : List (List Nat × List Nat)) (zs : List (List Nat × Tok)) (i : Nat) (c : Nat) (ps : Array Value) (ti tn : Tok) (m : Str → Option Value) (hPd : P = done ++ todo) (hi : i ≤ bs.length) (hd : bs.drop i = (todo.map (·.1)).flatten) (hz : zs.map (·.1) = done.map (·.2)) (ht : ∀ z ∈ zs, z.1 ≠ sS → z.1 ≠ sQ → ts < z.2) (hps : PsOk lpos ps)
    (e1 : m (Str.ofString "i") = some (.int (i : Int) ti)) (e2 : m (Str.ofString "n") = some (.int (bs.length : Int) tn)) (e3 : m (Str.ofString "add") = some (.ref q)) (e4 : m (Str.ofString "res") = some (.ref l)) (e5 : m (Str.ofString "pat") = some (.str (S bs) t)) (e6 : m (Str.ofString "STAR") = some (.str (S sS) ts)) (e7 : m (Str.ofString "QUESTION_MARK") = some (.str (S sQ) tq)) :
    TrJ bs t ts tq sS sQ P l q rest lpos todo.length m ((l, listOf (zs.map zv).toArray c) :: (q, boundO "builtin_function_or_method" "list.append" (.ref l)) :: (107, tabO ps) :: rest)
/-- the tokens' count has reached k: kept from statement to statement -/
structure KTok (k : Nat) : Prop where
  mk ::
theorem execs_tok {M : Model} {A : Around} {E : Value → Shared → Prop} {Q : Flow → Shared → Prop} {env : Env} {st : Stmt} {rest : List Stmt} {hp : Heap} {g : Array GenState} {d : Drawn} {a k : Nat} {os : OsState} (_ : KTok k) (hk : k ≤ a)
    (h : ∀ tk, k ≤ tk → wpAny M A (exec st env) (fun f s₁ => k ≤ s₁.toks → (match f with | .next => wpAny M A (execs rest env) Q E s₁ | f => Q f s₁)) E ⟨hp, g, d, tk, os⟩) : wpAny M A (execs (st :: rest) env) Q E ⟨hp, g, d, a, os⟩ := by
  refine wpAny_execs_cons ?_
  exact wpAny_mono (wpAny_toks_of (n := k) hk (h a hk)) (fun f s₁ x => x.2 x.1) (fun _ _ x => x.2)
/-- as KTok, with the equation kept -/
structure KTokE (k : Nat) : Prop where
  mk ::
theorem execs_tokE {M : Model} {A : Around} {E : Value → Shared → Prop} {Q : Flow → Shared → Prop} {env : Env} {st : Stmt} {rest : List Stmt} {hp : Heap} {g : Array GenState} {d : Drawn} {a k : Nat} {os : OsState} (_ : KTokE k) (hk : k ≤ a)
    (h : ∀ tk, tk = a → wpAny M A (exec st env) (fun f s₁ => k ≤ s₁.toks → (match f with | .next => wpAny M A (execs rest env) Q E s₁ | f => Q f s₁)) E ⟨hp, g, d, tk, os⟩) : wpAny M A (execs (st :: rest) env) Q E ⟨hp, g, d, a, os⟩ := by
  refine wpAny_execs_cons ?_
  exact wpAny_mono (wpAny_toks_of (n := k) hk (h a rfl)) (fun f s₁ x => x.2 x.1) (fun _ _ x => x.2)
theorem TrJ.next {bs : List Nat} {t ts tq : Tok} {sS sQ : List Nat} {P : List (List Nat × List Nat)} {l q : Addr} {rest : List (Addr × Obj)} {lpos : Pos} {done todo : List (List Nat × List Nat)} {px py : List Nat} {zs : List (List Nat × Tok)} {j c : Nat} {ps : Array Value} {ti tn t9 : Tok} {m : Str → Option Value}
    (hPd : P = done ++ (px, py) :: todo) (hzs : zs.map (·.1) = done.map (·.2)) (htok : ∀ z ∈ zs, z.1 ≠ sS → z.1 ≠ sQ → ts < z.2) (hps : PsOk lpos ps) (hj : bs.drop j = (todo.map (·.1)).flatten) (hjle : j ≤ bs.length) (ht9 : py ≠ sS → py ≠ sQ → ts < t9)
    (e1 : m (Str.ofString "i") = some (.int (j : Int) ti)) (e2 : m (Str.ofString "n") = some (.int (bs.length : Int) tn)) (e3 : m (Str.ofString "add") = some (.ref q)) (e4 : m (Str.ofString "res") = some (.ref l))
    (e5 : m (Str.ofString "pat") = some (.str (S bs) t)) (e6 : m (Str.ofString "STAR") = some (.str (S sS) ts)) (e7 : m (Str.ofString "QUESTION_MARK") = some (.str (S sQ) tq)) :
    TrJ bs t ts tq sS sQ P l q rest lpos todo.length m ((l, listOf (zs.map zv ++ [Value.str (S py) t9]).toArray c) :: (q, boundO "builtin_function_or_method" "list.append" (.ref l)) :: (107, tabO ps) :: rest) := by
  have := TrJ.mk (l := l) (q := q) (rest := rest) (sS := sS) (sQ := sQ) (ts := ts) (P := P) (lpos := lpos) (done ++ [(px, py)]) todo (zs ++ [(py, t9)]) j c ps ti tn m (by rw [hPd, List.append_assoc]; rfl) hjle hj (by simp [hzs]) (fun z hz => ?_) hps e1 e2 e3 e4 e5 e6 e7
  rw [List.map_append] at this
  exact this
  rcases List.mem_append.mp hz with hz | hz
  · exact htok z hz
  · rw [List.mem_singleton.mp hz]
    exact ht9
theorem flat_drop {bs px : List Nat} {i : Nat} {py : List Nat} {todo : List (List Nat × List Nat)} (h : bs.drop i = (((px, py) :: todo).map (·.1)).flatten) (hi : i ≤ bs.length) : bs.drop (i + px.length) = (todo.map (·.1)).flatten ∧ i + px.length ≤ bs.length := by
  rw [List.map_cons, List.flatten_cons] at h
  have h1 : bs.drop (i + px.length) = (bs.drop i).drop px.length := by rw [List.drop_drop]
  refine ⟨by rw [h1, h]; simp, ?_⟩
  have := congrArg List.length h
  simp at this
  omega
theorem flat_at {bs px : List Nat} {i k x : Nat} {py : List Nat} {todo : List (List Nat × List Nat)} (h : bs.drop i = (((px, py) :: todo).map (·.1)).flatten) (hk : px[k]? = some x) : bs[i + k]? = some x := by
  rw [List.map_cons, List.flatten_cons] at h
  rw [← List.getElem?_drop, h, List.getElem?_append_left (List.getElem?_eq_some_iff.mp hk).1]
  exact hk
noncomputable def lpos : Pos := { line := 85, col := 46, endLine := 85, endCol := 83 }
/-- as Told, for calls whose arguments' tokens are older than the call -/
noncomputable def ToldP (prog : Program) (w : World) (K : Frag) (dpn unn : Nat) (Pre : Nat → Prop) (f : Value) (args : List Value) (news : List (Addr × Obj)) (Post : Value → List (Addr × Obj) → Prop) : Prop :=
  ∀ (p : Program) (loose : List Str) (mean : ExcName → Option Value) (mg mb : Str → Option Value) (dp un : Nat) (gd : Option (List Code)) (cn : Str) (cs : Scope) (a : Addr) (ccd : Value) (cl : List (Str × Addr)) (outer : List Env) (A₀ : Around) (base h₀ : Heap) (L : Addr) (m : Str → Option Value) (s : Shared) (Q E : Value → Shared → Prop),
    Below A₀ base outer h₀ → Fr h₀ L s.heap m → K.In h₀ → News h₀ L s.heap news → Top p loose mean mg mb h₀ → cs.kind = .function → dp + dpn < recursionLimit → un + unn < cLine → Pre s.toks →
    (∀ r nw h' tk', Fr h₀ L h' m → News h₀ L h' nw → Post r nw → Q r { s with heap := h', toks := tk' }) →
    wpAny (model prog w) (ktrTop dp un gd cn cs L a ccd cl outer) (call f args) Q E s
theorem trans_apart {l q : Addr} {rest : List (Addr × Obj)} (h2 : 107 < l ∧ AllLt l rest) (h1 : @LT.lt Nat _ l q ∧ 107 < q ∧ AllLt q rest) (ps : Array Value) : ∀ r ∈ (q, boundO "builtin_function_or_method" "list.append" (.ref l)) :: (107, tabO ps) :: rest, r.1 ≠ l := by
  intro r hr
  rcases List.mem_cons.mp hr with rfl | hr
  · exact Ne.symm (Nat.ne_of_lt h1.1)
  · rcases List.mem_cons.mp hr with rfl | hr
    · exact Nat.ne_of_lt h2.1
    · exact allLt_up (Nat.le_refl _) h2.2 r hr
end
section
local macro_rules | `(tactic| walk_at "getAttr ref") => `(tactic| (k_here; (with_reducible show wpAny _ _ (getAttr (Value.ref _) (Str.ofString "append") _) _ _ _); k_dflt (refine' getattr_bound m_append ?k1 ?k2 ?k3 ?_; (case k1 => k_asm); (case k2 => k_asm); (case k3 => k_mem); k_whole); intro q' h' tk' F' N' l1; (try k_lt l1); (try k_sweep)))
local macro_rules | `(tactic| walk_at "execs cons") => `(tactic| (k_here; (refine execs_tokE (by assumption) ?kkk ?_; (case kkk => (try dsimp only); first | ((repeat (first | with_reducible assumption | refine Nat.le_succ_of_le ?_)); done) | omega)); intro tk htk))
local macro_rules | `(tactic| walk_at "callWith ref") => `(tactic| (k_here; (with_reducible show wpAny _ _ (callWith _ (Value.ref _) _ (backTo _ (starEach (_ :: _) _)) []) _ _ _); k_dflt (refine' callWith_bd (bt := "builtin_function_or_method") (id := "list.append") ?k0 ?k1 ?k2 ?_; (case k0 => exact .inl rfl); (case k1 => k_asm); (case k2 => k_mem); k_whole)))
local macro_rules | `(tactic| walk_at "And") => `(tactic| ((with_reducible show Stands _ _ _ ∧ _); k_dflt (refine ⟨News.get (by k_asm) (by k_mem), ?_⟩); (try dsimp only [List.nil_append, List.cons_append])))
noncomputable def trF : Stmt := atS 12
noncomputable def trB : List Stmt := fnB trF
noncomputable def trW : Stmt := nthS trB 3
noncomputable def trT : List Stmt := whB trW
noncomputable def trL : List Nat := [47, 50, 57, 64, 85, 96, 98]
noncomputable abbrev HK : Type := Stmt → List (Str × Value × An) → List (Addr × AO) → Tok → (Flow → St → Prop) → Prop
noncomputable abbrev trC (w : World) (hk : HK) : Cf := ⟨fnS trF, [], [], [], [], [], fun x => PyData.keyHash w.params x, trL, hk⟩
noncomputable abbrev trM (bs : List Nat) (t ts tq ti tn : Tok) (sS sQ : List Nat) (l q : Addr) (i : Int) : List (Str × Value × An) := [(Str.ofString "i", .int i ti, none), (Str.ofString "n", .int (bs.length : Int) tn, none), (Str.ofString "add", .ref q, none), (Str.ofString "res", .ref l, none), (Str.ofString "pat", .str (S bs) t, none), (Str.ofString "STAR", .str (S sS) ts, none), (Str.ofString "QUESTION_MARK", .str (S sQ) tq, none)]
noncomputable def trQ : Stmt := hdB (ifE (nthS trT 2))
noncomputable def trK : Stmt := hdB (ifE trQ)
noncomputable def trE : List Stmt := ifE (nthS (ifB trK) 4)
noncomputable def trZ : Stmt := hdB (ifE (nthS trE 4))
section
variable {w : World} {i0 : Int} {ti0 : Tok} {cv : Value} {hk : HK} {bs y : List Nat} {t ts tq ti tn tj ty : Tok} {sS sQ : List Nat} {l q : Addr} {i j : Int} {tk u : Tok} {o : List (Addr × AO)} {k : Flow → List (Str × Value × An) → List (Addr × AO) → Tok → Prop} {kk : KF}
noncomputable abbrev trc (bs : List Nat) (i : Int) (u v : Tok) (m : List (Str × Value × An)) : List (Str × Value × An) := (Str.ofString "i", .int (i + 1) u, none) :: (Str.ofString "c", .str (Txt.item (S bs) i) v, none) :: m
noncomputable abbrev trOk (x : Str) (i : Int) : Bool := decide (0 ≤ i) && (decide (i < (x.length : Int)) && Nat.ble x.length 1000000)
noncomputable abbrev trIs (x : Str) (s : String) : Bool := x.cps.toList == (Str.ofString s).cps.toList
noncomputable abbrev kF (k : Flow → List (Str × Value × An) → List (Addr × AO) → Tok → Prop) : KF := fun f st => k f st.m st.o st.tk
theorem eq_star : xRun (trC w hk) 60 trT (trM bs t ts tq ti tn sS sQ l q i) o tk [(0, true), (0, true)] k = (trOk (S bs) i = true ∧ trIs (Txt.item (S bs) i) "*" = true ∧ hk (hdB (ifB (nthS trT 2))) (trc bs i (tk + 3) tk (trM bs t ts tq ti tn sS sQ l q i)) o (tk + 6) (nxr (trC w hk) 55 [] (nxr (trC w hk) 57 [] (kF k)))) := by kernel_rfl
theorem eq_one : xRun (trC w hk) 60 trT (trM bs t ts tq ti tn sS sQ l q i) o tk [(0, true), (0, false), (0, true)] k = (trOk (S bs) i = true ∧ trIs (Txt.item (S bs) i) "*" = false ∧ trIs (Txt.item (S bs) i) "?" = true ∧ hk (hdB (ifB trQ)) (trc bs i (tk + 3) tk (trM bs t ts tq ti tn sS sQ l q i)) o (tk + 7) (nxr (trC w hk) 53 [] (nxr (trC w hk) 55 [] (nxr (trC w hk) 57 [] (kF k))))) := by kernel_rfl
theorem eq_oth : xRun (trC w hk) 60 trT (trM bs t ts tq ti tn sS sQ l q i) o tk [(0, true), (0, false), (0, false), (0, false)] k = (trOk (S bs) i = true ∧ trIs (Txt.item (S bs) i) "*" = false ∧ trIs (Txt.item (S bs) i) "?" = false ∧ trIs (Txt.item (S bs) i) "[" = false ∧ hk (hdB (ifE trK)) (trc bs i (tk + 3) tk (trM bs t ts tq ti tn sS sQ l q i)) o (tk + 8) (nxr (trC w hk) 51 [] (nxr (trC w hk) 53 [] (nxr (trC w hk) 55 [] (nxr (trC w hk) 57 [] (kF k)))))) := by kernel_rfl
noncomputable abbrev trU (w : World) (hk : HK) (kk : KF) : KF := nxr (trC w hk) 48 [nthS (ifB trK) 4] (nxr (trC w hk) 53 [] (nxr (trC w hk) 55 [] (nxr (trC w hk) 57 [] kk)))
theorem eq_set : xRun (trC w hk) 60 trT (trM bs t ts tq ti tn sS sQ l q i) o tk [(0, true), (0, false), (0, false), (0, true), (0, true), (0, true), (0, false), (0, true), (0, true), (0, false)] k = (trOk (S bs) i = true ∧ trIs (Txt.item (S bs) i) "*" = false ∧ trIs (Txt.item (S bs) i) "?" = false ∧ trIs (Txt.item (S bs) i) "[" = true ∧ decide (i + 1 < (bs.length : Int)) = true ∧ trOk (S bs) (i + 1) = true ∧ trIs (Txt.item (S bs) (i + 1)) "!" = false ∧ decide (i + 1 < (bs.length : Int)) = true ∧ trOk (S bs) (i + 1) = true ∧ trIs (Txt.item (S bs) (i + 1)) "]" = false ∧ hk (nthS (ifB trK) 3) ((Str.ofString "j", .int (i + 1) (tk + 3), none) :: trc bs i (tk + 3) tk (trM bs t ts tq ti tn sS sQ l q i)) o (tk + 13) (trU w hk (kF k))) := by kernel_rfl
theorem eq_neg : xRun (trC w hk) 60 trT (trM bs t ts tq ti tn sS sQ l q i) o tk [(0, true), (0, false), (0, false), (0, true), (0, true), (0, true), (0, true), (0, true), (0, true), (0, false)] k = (trOk (S bs) i = true ∧ trIs (Txt.item (S bs) i) "*" = false ∧ trIs (Txt.item (S bs) i) "?" = false ∧ trIs (Txt.item (S bs) i) "[" = true ∧ decide (i + 1 < (bs.length : Int)) = true ∧ trOk (S bs) (i + 1) = true ∧ trIs (Txt.item (S bs) (i + 1)) "!" = true ∧ decide (i + 1 + 1 < (bs.length : Int)) = true ∧ trOk (S bs) (i + 1 + 1) = true ∧ trIs (Txt.item (S bs) (i + 1 + 1)) "]" = false ∧ hk (nthS (ifB trK) 3) ((Str.ofString "j", .int (i + 1 + 1) (tk + 12), none) :: (Str.ofString "j", .int (i + 1) (tk + 3), none) :: trc bs i (tk + 3) tk (trM bs t ts tq ti tn sS sQ l q i)) o (tk + 16) (trU w hk (kF k))) := by kernel_rfl
noncomputable abbrev trJM (i0 : Int) (ti0 : Tok) (cv : Value) (bs : List Nat) (t ts tq ti tn tj : Tok) (sS sQ : List Nat) (l q : Addr) (i j : Int) : List (Str × Value × An) := (Str.ofString "j", .int j tj, none) :: (Str.ofString "i", .int i ti, none) :: (Str.ofString "c", cv, none) :: trM bs t ts tq ti0 tn sS sQ l q i0
theorem eq_B : xGo (trC w hk) 48 [nthS (ifB trK) 4] ⟨trJM i0 ti0 cv bs t ts tq ti tn tj sS sQ l q i j, o, tk, [(0, false), (0, true), (0, false)]⟩ kk = (decide (j ≥ (bs.length : Int)) = false ∧ Nat.ble (S bs).length 1000000 = true ∧ ∀ t1 n1 : Tok, (Txt.slice (S bs) (some i) (some j)).cps.toList.contains 45 = false ∧ hk (hdB (ifB (nthS trE 1))) ((Str.ofString "stuff", .str (Txt.slice (S bs) (some i) (some j)) t1, none) :: trJM i0 ti0 cv bs t ts tq ti tn tj sS sQ l q i j) o (n1 + 2) (nxr (trC w hk) 42 [] (nxr (trC w hk) 44 (trE.drop 2) (nxr (trC w hk) 47 [] kk)))) := by kernel_rfl
noncomputable abbrev trSM (i0 : Int) (ti0 : Tok) (cv : Value) (bs y : List Nat) (t ts tq ti tn tj ty : Tok) (sS sQ : List Nat) (l q : Addr) (i j : Int) : List (Str × Value × An) := (Str.ofString "stuff", .str (S y) ty, none) :: trJM i0 ti0 cv bs t ts tq ti tn tj sS sQ l q i j
theorem eq_C {m : List (Str × Value × An)} : xGo (trC w hk) 44 (trE.drop 2) ⟨m, o, tk, []⟩ kk = hk (nthS trE 2) m o tk (nxr (trC w hk) 43 (trE.drop 3) kk) := by kernel_rfl
noncomputable abbrev trV (w : World) (hk : HK) (kk : KF) : KF := nxr (trC w hk) 36 [] (nxr (trC w hk) 39 [] (nxr (trC w hk) 41 [] kk))
noncomputable abbrev trA : Stmt := nthS (ifE trZ) 1
theorem eq_D1 {x : Nat} (h : x = 42 ∨ x = 63) : xGo (trC w hk) 43 (trE.drop 3) ⟨trSM i0 ti0 cv bs [x] t ts tq ti tn tj ty sS sQ l q i j, o, tk, []⟩ kk = hk trA ((Str.ofString "i", .int (j + 1) (tk + 1), none) :: trSM i0 ti0 cv bs [x] t ts tq ti tn tj ty sS sQ l q i j) o (tk + 13) (trV w hk kk) := by
  rcases h with rfl | rfl <;> kernel_rfl
theorem eq_D2 : xGo (trC w hk) 43 (trE.drop 3) ⟨trSM i0 ti0 cv bs [91] t ts tq ti tn tj ty sS sQ l q i j, o, tk, []⟩ kk = ∀ t1 n1 : Tok, hk trA ((Str.ofString "stuff", .str (Str.ofString "\\" ++ S [91]) t1, none) :: (Str.ofString "i", .int (j + 1) (tk + 1), none) :: trSM i0 ti0 cv bs [91] t ts tq ti tn tj ty sS sQ l q i j) o (n1 + 1) (trV w hk kk) := by kernel_rfl
theorem eq_D3 : xGo (trC w hk) 43 (trE.drop 3) ⟨trSM i0 ti0 cv bs [33, 97] t ts tq ti tn tj ty sS sQ l q i j, o, tk, []⟩ kk = ∀ t1 n1 t2 n2 : Tok, hk trA ((Str.ofString "stuff", .str (Str.ofString "^" ++ Txt.slice (S [33, 97]) (some 1) none) t2, none) :: (Str.ofString "i", .int (j + 1) (tk + 1), none) :: trSM i0 ti0 cv bs [33, 97] t ts tq ti tn tj ty sS sQ l q i j) o (n2 + 1) (trV w hk kk) := by kernel_rfl
noncomputable def trH : Stmt := nthS (ifB trK) 3
noncomputable def trHB : List Stmt := whB trH
theorem trH_is : trH = .While (whT trH) trHB [] (whP trH) := by kernel_rfl
theorem eq_h1 {b : Bool → List (Str × Value × An) → List (Addr × AO) → Tok → Prop} : xTest (trC w hk) 20 (whT trH) (trJM i0 ti0 cv bs t ts tq ti tn tj sS sQ l q i j) o tk [(0, true), (0, true), (0, false)] b = (decide (j < (bs.length : Int)) = true ∧ trOk (S bs) j = true ∧ trIs (Txt.item (S bs) j) "]" = false ∧ b true (trJM i0 ti0 cv bs t ts tq ti tn tj sS sQ l q i j) o (tk + 2)) := by kernel_rfl
theorem eq_h2 {b : Bool → List (Str × Value × An) → List (Addr × AO) → Tok → Prop} : xTest (trC w hk) 20 (whT trH) ((Str.ofString "j", .int (j + 1) u, none) :: trJM i0 ti0 cv bs t ts tq ti tn tj sS sQ l q i j) o tk [(0, true), (0, true), (0, true)] b = (decide (j + 1 < (bs.length : Int)) = true ∧ trOk (S bs) (j + 1) = true ∧ trIs (Txt.item (S bs) (j + 1)) "]" = true ∧ b false ((Str.ofString "j", .int (j + 1) u, none) :: trJM i0 ti0 cv bs t ts tq ti tn tj sS sQ l q i j) o (tk + 2)) := by kernel_rfl
theorem eq_hb : xRun (trC w hk) 20 trHB (trJM i0 ti0 cv bs t ts tq ti tn tj sS sQ l q i j) o tk [] k = k .next ((Str.ofString "j", .int (j + 1) (tk + 1), none) :: trJM i0 ti0 cv bs t ts tq ti tn tj sS sQ l q i j) o (tk + 3) := by kernel_rfl
end
/-- a statement shown by other means than the runner's -/
noncomputable def HkS (w : World) (A : Around) (E : Value → Shared → Prop) (cn : Str) (L a : Addr) (ccd : Value) (h₀ : Heap) (m₁ : Str → Option Value) (rest : List (Addr × Obj)) : HK := fun e m o tk k =>
  ∀ (s : Shared) (Q : Flow → Shared → Prop), Fr h₀ L s.heap (denM m m₁) → News h₀ L s.heap (denO o ++ rest) → s.toks = tk →
    (∀ f m' o' tk' h' hs', k f ⟨m', o', tk', hs'⟩ → (∀ q ∈ m', q.2.2 = none) → Fr h₀ L h' (denM m' m₁) → News h₀ L h' (denO o' ++ rest) → Q f { s with heap := h', toks := tk' }) →
    wpAny (model PySem.Challenge.pw_il0113_01 w) A (exec e (envX cn (fnS trF) L a ccd [])) Q E s
noncomputable abbrev trO (l q : Addr) (ps : Array Value) (vs : List Value) (c : Nat) : List (Addr × AO) := [(l, .raw (listOf vs.toArray c)), (q, .raw (boundO "builtin_function_or_method" "list.append" (.ref l))), (107, .raw (tabO ps))]
section
variable {w : World} {p : Program} {loose : List Str} {mean : ExcName → Option Value} {mg mb : Str → Option Value} {dp un : Nat} {gd : Option (List Code)} {cn : Str} {a : Addr} {ccd : Value} {outer : List Env} {A₀ : Around} {base h₀ : Heap} {L : Addr} {m₁ : Str → Option Value} {E : Value → Shared → Prop}
  {bs : List Nat} {t ts tq ti tn u v : Tok} {sS sQ : List Nat} {l q : Addr} {i : Int} {tk : Tok} {rest : List (Addr × Obj)} {ps : Array Value} {vs : List Value} {c : Nat} {k : KF}
theorem trc_none : ∀ x ∈ trc bs i u v (trM bs t ts tq ti tn sS sQ l q i), x.2.2 = none := by
  intro x hx
  repeat' (rcases List.mem_cons.mp hx with rfl | hx; rfl)
  cases hx
theorem hk_one (B : Below A₀ base outer h₀) (X : (Mine.K w.params).In h₀) (T : Top p loose mean mg mb h₀) (hdp : dp + 20 < recursionLimit) (hun : un + 150 < cLine) (hl2 : 107 < l ∧ AllLt l rest) (hl1 : @LT.lt Nat _ l q ∧ 107 < q ∧ AllLt q rest) (hle : vs.length ≤ 1000)
    (K : ∀ c' tk', k .next ⟨trc bs i u v (trM bs t ts tq ti tn sS sQ l q i), trO l q ps (vs ++ [Value.str (S sQ) tq]) c', tk', []⟩) :
    HkS w (ktrTop dp un gd cn (fnS trF) L a ccd [] outer) E cn L a ccd h₀ m₁ rest (hdB (ifB trQ)) (trc bs i u v (trM bs t ts tq ti tn sS sQ l q i)) (trO l q ps vs c) tk k := by
  intro s Q F N ht hQ
  replace N : News h₀ L s.heap ((l, listOf vs.toArray c) :: (q, boundO "builtin_function_or_method" "list.append" (.ref l)) :: (107, tabO ps) :: rest) := N
  refine exec_at (st' := ?st9) ?e9 ?_
  case e9 => (conv => lhs; whnf)
  repeat' (first | ((with_reducible show _ ≤ _ → _); intro htk; (try dsimp only at htk ⊢)) | (k_unfold; (try dsimp only)) | ((fail_if_success (with_reducible show Q _ _)); first | ((with_reducible show wpAny _ _ (compareOp CmpOp.IsNot (Value.str _ _) (Value.str _ _)) _ _ _); (refine isNot_txt (by assumption) (by assumption) (by assumption) ?_)) | ((with_reducible show wpAny _ _ (getMethod (Value.ref _) _ _) _ _ _); (k_here; k_dflt (refine' gm_sub_K ?k1 ?k2 ?_; (case k1 => k_asm); (case k2 => k_asm); k_whole))) | ((with_reducible show wpAny _ _ (call (Value.builtin "str.replace") _) _ _ _); (refine SC.replaceW (by (show @Ne Nat _ _); omega) (by (show @Ne Nat _ _); omega) (by (show @Ne Nat _ _); omega) (by decide +kernel) (by omega) (by decide +kernel) ?_; intro t9 k9)) | (k_here; (with_reducible show wpAny _ _ (subscriptTail _ _ (Value.ref _) (Value.int (-1) _)) _ _ _); k_dflt (refine' last_l ?k1 ?k2 ?_; (case k1 => exact News.get (by k_asm) (by k_mem)); (case k2 => assumption); k_whole)) | (k_here; (with_reducible show wpAny _ _ (call (Value.ref _) [Value.str _ _]) _ _ _); k_dflt (refine' call_append_U ?k1 ?k2 ?k3 ?k4 ?k5 ?_; (case k1 => k_asm); (case k2 => k_asm); (case k4 => k_mem); (case k3 => ((first | exact UpdF.head (trans_apart (by assumption) (by assumption) _) | (refine' UpdF.tail ?a ?b; (case a => k_ne); (case b => (first | exact UpdF.head (trans_apart (by assumption) (by assumption) _) | (refine' UpdF.tail ?a ?b; (case a => k_ne); (case b => (first | exact UpdF.head (trans_apart (by assumption) (by assumption) _) | (refine' UpdF.tail ?a ?b; (case a => k_ne); (case b => (first | exact UpdF.head (trans_apart (by assumption) (by assumption) _) | (refine' UpdF.tail ?a ?b; (case a => k_ne); (case b => (first | exact UpdF.head (trans_apart (by assumption) (by assumption) _) | (refine' UpdF.tail ?a ?b; (case a => k_ne); (case b => (first | exact UpdF.head (trans_apart (by assumption) (by assumption) _) | (refine' UpdF.tail ?a ?b; (case a => k_ne); (case b => (first | exact UpdF.head (trans_apart (by assumption) (by assumption) _) | (refine' UpdF.tail ?a ?b; (case a => k_ne); (case b => fail))))))))))))))))))))))); (case k5 => assumption); k_whole); intro h' F' N'; (try dsimp only at N'); (try k_sweep)) | (k_here; (with_reducible show wpAny _ _ (call (Value.ref 105) [Value.str _ _]) _ _ _); k_dflt (refine' esc_call_K ?k1 ?k2 ?k3 ?k4 ?k5 ?k6 ?k7 ?k8 ?_; (case k1 => k_asm); (case k2 => k_asm); (case k3 => k_asm); (case k4 => k_asm); (case k5 => exact rfl); (case k6 => assumption); (case k7 => ktr_room); (case k8 => ktr_units); k_whole); intro t9 h9 tk9 ht9 F9 N9; (try k_sweep)) | ((with_reducible show wpAny _ _ (eval (Expr.Lambda _ _ _ _) _) _ _ _); (k_here; k_dflt (refine' lam_make ?k1 ?k2 ?k3 ?k4 ?k5 ?k6 ?k7 ?k8 ?_; (case k1 => k_asm); (case k2 => k_asm); (case k3 => k_asm); (case k4 => k_asm); (case k5 => k_updF); (case k6 => assumption); (case k7 => exact rfl); (case k8 => exact rfl); k_whole); intro f' fo' ps' h' tk' hfo' hps' F' N' l1; (try dsimp only at N'); (try k_lt l1))) | ((with_reducible show wpAny _ _ (call (Value.builtin "re.Pattern.sub") _) _ _ _); (k_here; k_dflt (refine' sub_call ?k1 ?k2 ?k3 ?k4 ?k5 ?k6 ?k7 ?k8 ?_; (case k1 => k_asm); (case k2 => k_asm); (case k3 => k_asm); (case k4 => k_mem); (case k5 => assumption); (case k6 => assumption); (case k7 => assumption); (case k8 => assumption); k_whole); intro t9 h9 tk9 F9 N9; (try k_sweep))) | walk1 | (dsimp only; first | ((with_reducible show wpAny _ _ (compareOp CmpOp.IsNot (Value.str _ _) (Value.str _ _)) _ _ _); (refine isNot_txt (by assumption) (by assumption) (by assumption) ?_)) | ((with_reducible show wpAny _ _ (getMethod (Value.ref _) _ _) _ _ _); (k_here; k_dflt (refine' gm_sub_K ?k1 ?k2 ?_; (case k1 => k_asm); (case k2 => k_asm); k_whole))) | ((with_reducible show wpAny _ _ (call (Value.builtin "str.replace") _) _ _ _); (refine SC.replaceW (by (show @Ne Nat _ _); omega) (by (show @Ne Nat _ _); omega) (by (show @Ne Nat _ _); omega) (by decide +kernel) (by omega) (by decide +kernel) ?_; intro t9 k9)) | (k_here; (with_reducible show wpAny _ _ (subscriptTail _ _ (Value.ref _) (Value.int (-1) _)) _ _ _); k_dflt (refine' last_l ?k1 ?k2 ?_; (case k1 => exact News.get (by k_asm) (by k_mem)); (case k2 => assumption); k_whole)) | (k_here; (with_reducible show wpAny _ _ (call (Value.ref _) [Value.str _ _]) _ _ _); k_dflt (refine' call_append_U ?k1 ?k2 ?k3 ?k4 ?k5 ?_; (case k1 => k_asm); (case k2 => k_asm); (case k4 => k_mem); (case k3 => ((first | exact UpdF.head (trans_apart (by assumption) (by assumption) _) | (refine' UpdF.tail ?a ?b; (case a => k_ne); (case b => (first | exact UpdF.head (trans_apart (by assumption) (by assumption) _) | (refine' UpdF.tail ?a ?b; (case a => k_ne); (case b => (first | exact UpdF.head (trans_apart (by assumption) (by assumption) _) | (refine' UpdF.tail ?a ?b; (case a => k_ne); (case b => (first | exact UpdF.head (trans_apart (by assumption) (by assumption) _) | (refine' UpdF.tail ?a ?b; (case a => k_ne); (case b => (first | exact UpdF.head (trans_apart (by assumption) (by assumption) _) | (refine' UpdF.tail ?a ?b; (case a => k_ne); (case b => (first | exact UpdF.head (trans_apart (by assumption) (by assumption) _) | (refine' UpdF.tail ?a ?b; (case a => k_ne); (case b => (first | exact UpdF.head (trans_apart (by assumption) (by assumption) _) | (refine' UpdF.tail ?a ?b; (case a => k_ne); (case b => fail))))))))))))))))))))))); (case k5 => assumption); k_whole); intro h' F' N'; (try dsimp only at N'); (try k_sweep)) | (k_here; (with_reducible show wpAny _ _ (call (Value.ref 105) [Value.str _ _]) _ _ _); k_dflt (refine' esc_call_K ?k1 ?k2 ?k3 ?k4 ?k5 ?k6 ?k7 ?k8 ?_; (case k1 => k_asm); (case k2 => k_asm); (case k3 => k_asm); (case k4 => k_asm); (case k5 => exact rfl); (case k6 => assumption); (case k7 => ktr_room); (case k8 => ktr_units); k_whole); intro t9 h9 tk9 ht9 F9 N9; (try k_sweep)) | ((with_reducible show wpAny _ _ (eval (Expr.Lambda _ _ _ _) _) _ _ _); (k_here; k_dflt (refine' lam_make ?k1 ?k2 ?k3 ?k4 ?k5 ?k6 ?k7 ?k8 ?_; (case k1 => k_asm); (case k2 => k_asm); (case k3 => k_asm); (case k4 => k_asm); (case k5 => k_updF); (case k6 => assumption); (case k7 => exact rfl); (case k8 => exact rfl); k_whole); intro f' fo' ps' h' tk' hfo' hps' F' N' l1; (try dsimp only at N'); (try k_lt l1))) | ((with_reducible show wpAny _ _ (call (Value.builtin "re.Pattern.sub") _) _ _ _); (k_here; k_dflt (refine' sub_call ?k1 ?k2 ?k3 ?k4 ?k5 ?k6 ?k7 ?k8 ?_; (case k1 => k_asm); (case k2 => k_asm); (case k3 => k_asm); (case k4 => k_mem); (case k5 => assumption); (case k6 => assumption); (case k7 => assumption); (case k8 => assumption); k_whole); intro t9 h9 tk9 F9 N9; (try k_sweep))) | walk1)))
  (with_reducible rename Fr _ _ _ _ => kF)
  (with_reducible rename News _ _ _ _ => kN)
  exact hQ .next _ (trO l q ps (vs ++ [Value.str (S sQ) tq]) _) _ _ _ (K _ _) trc_none kF kN
theorem hk_star0 (B : Below A₀ base outer h₀) (X : (Mine.K w.params).In h₀) (T : Top p loose mean mg mb h₀) (hdp : dp + 20 < recursionLimit) (hun : un + 150 < cLine) (hl2 : 107 < l ∧ AllLt l rest) (hl1 : @LT.lt Nat _ l q ∧ 107 < q ∧ AllLt q rest)
    (K : ∀ c' tk', k .next ⟨trc bs i u v (trM bs t ts tq ti tn sS sQ l q i), trO l q ps [Value.str (S sS) ts] c', tk', []⟩) : HkS w (ktrTop dp un gd cn (fnS trF) L a ccd [] outer) E cn L a ccd h₀ m₁ rest (hdB (ifB (nthS trT 2))) (trc bs i u v (trM bs t ts tq ti tn sS sQ l q i)) (trO l q ps ([]) c) tk k := by
  intro s Q F N ht hQ
  replace N : News h₀ L s.heap ((l, listOf ([]).toArray c) :: (q, boundO "builtin_function_or_method" "list.append" (.ref l)) :: (107, tabO ps) :: rest) := N
  refine exec_at (st' := ?st9) ?e9 ?_
  case e9 => (conv => lhs; whnf)
  have hne : ([] : List Value).isEmpty = !false := rfl
  have hle : ([] : List Value).length ≤ 1000 := Nat.zero_le _
  repeat' (first | ((with_reducible show _ ≤ _ → _); intro htk; (try dsimp only at htk ⊢)) | (k_unfold; (try dsimp only)) | ((fail_if_success (with_reducible show Q _ _)); first | ((with_reducible show wpAny _ _ (compareOp CmpOp.IsNot (Value.str _ _) (Value.str _ _)) _ _ _); (refine isNot_txt (by assumption) (by assumption) (by assumption) ?_)) | ((with_reducible show wpAny _ _ (getMethod (Value.ref _) _ _) _ _ _); (k_here; k_dflt (refine' gm_sub_K ?k1 ?k2 ?_; (case k1 => k_asm); (case k2 => k_asm); k_whole))) | ((with_reducible show wpAny _ _ (call (Value.builtin "str.replace") _) _ _ _); (refine SC.replaceW (by (show @Ne Nat _ _); omega) (by (show @Ne Nat _ _); omega) (by (show @Ne Nat _ _); omega) (by decide +kernel) (by omega) (by decide +kernel) ?_; intro t9 k9)) | (k_here; (with_reducible show wpAny _ _ (subscriptTail _ _ (Value.ref _) (Value.int (-1) _)) _ _ _); k_dflt (refine' last_l ?k1 ?k2 ?_; (case k1 => exact News.get (by k_asm) (by k_mem)); (case k2 => assumption); k_whole)) | (k_here; (with_reducible show wpAny _ _ (call (Value.ref _) [Value.str _ _]) _ _ _); k_dflt (refine' call_append_U ?k1 ?k2 ?k3 ?k4 ?k5 ?_; (case k1 => k_asm); (case k2 => k_asm); (case k4 => k_mem); (case k3 => ((first | exact UpdF.head (trans_apart (by assumption) (by assumption) _) | (refine' UpdF.tail ?a ?b; (case a => k_ne); (case b => (first | exact UpdF.head (trans_apart (by assumption) (by assumption) _) | (refine' UpdF.tail ?a ?b; (case a => k_ne); (case b => (first | exact UpdF.head (trans_apart (by assumption) (by assumption) _) | (refine' UpdF.tail ?a ?b; (case a => k_ne); (case b => (first | exact UpdF.head (trans_apart (by assumption) (by assumption) _) | (refine' UpdF.tail ?a ?b; (case a => k_ne); (case b => (first | exact UpdF.head (trans_apart (by assumption) (by assumption) _) | (refine' UpdF.tail ?a ?b; (case a => k_ne); (case b => (first | exact UpdF.head (trans_apart (by assumption) (by assumption) _) | (refine' UpdF.tail ?a ?b; (case a => k_ne); (case b => (first | exact UpdF.head (trans_apart (by assumption) (by assumption) _) | (refine' UpdF.tail ?a ?b; (case a => k_ne); (case b => fail))))))))))))))))))))))); (case k5 => assumption); k_whole); intro h' F' N'; (try dsimp only at N'); (try k_sweep)) | (k_here; (with_reducible show wpAny _ _ (call (Value.ref 105) [Value.str _ _]) _ _ _); k_dflt (refine' esc_call_K ?k1 ?k2 ?k3 ?k4 ?k5 ?k6 ?k7 ?k8 ?_; (case k1 => k_asm); (case k2 => k_asm); (case k3 => k_asm); (case k4 => k_asm); (case k5 => exact rfl); (case k6 => assumption); (case k7 => ktr_room); (case k8 => ktr_units); k_whole); intro t9 h9 tk9 ht9 F9 N9; (try k_sweep)) | ((with_reducible show wpAny _ _ (eval (Expr.Lambda _ _ _ _) _) _ _ _); (k_here; k_dflt (refine' lam_make ?k1 ?k2 ?k3 ?k4 ?k5 ?k6 ?k7 ?k8 ?_; (case k1 => k_asm); (case k2 => k_asm); (case k3 => k_asm); (case k4 => k_asm); (case k5 => k_updF); (case k6 => assumption); (case k7 => exact rfl); (case k8 => exact rfl); k_whole); intro f' fo' ps' h' tk' hfo' hps' F' N' l1; (try dsimp only at N'); (try k_lt l1))) | ((with_reducible show wpAny _ _ (call (Value.builtin "re.Pattern.sub") _) _ _ _); (k_here; k_dflt (refine' sub_call ?k1 ?k2 ?k3 ?k4 ?k5 ?k6 ?k7 ?k8 ?_; (case k1 => k_asm); (case k2 => k_asm); (case k3 => k_asm); (case k4 => k_mem); (case k5 => assumption); (case k6 => assumption); (case k7 => assumption); (case k8 => assumption); k_whole); intro t9 h9 tk9 F9 N9; (try k_sweep))) | walk1 | (dsimp only; first | ((with_reducible show wpAny _ _ (compareOp CmpOp.IsNot (Value.str _ _) (Value.str _ _)) _ _ _); (refine isNot_txt (by assumption) (by assumption) (by assumption) ?_)) | ((with_reducible show wpAny _ _ (getMethod (Value.ref _) _ _) _ _ _); (k_here; k_dflt (refine' gm_sub_K ?k1 ?k2 ?_; (case k1 => k_asm); (case k2 => k_asm); k_whole))) | ((with_reducible show wpAny _ _ (call (Value.builtin "str.replace") _) _ _ _); (refine SC.replaceW (by (show @Ne Nat _ _); omega) (by (show @Ne Nat _ _); omega) (by (show @Ne Nat _ _); omega) (by decide +kernel) (by omega) (by decide +kernel) ?_; intro t9 k9)) | (k_here; (with_reducible show wpAny _ _ (subscriptTail _ _ (Value.ref _) (Value.int (-1) _)) _ _ _); k_dflt (refine' last_l ?k1 ?k2 ?_; (case k1 => exact News.get (by k_asm) (by k_mem)); (case k2 => assumption); k_whole)) | (k_here; (with_reducible show wpAny _ _ (call (Value.ref _) [Value.str _ _]) _ _ _); k_dflt (refine' call_append_U ?k1 ?k2 ?k3 ?k4 ?k5 ?_; (case k1 => k_asm); (case k2 => k_asm); (case k4 => k_mem); (case k3 => ((first | exact UpdF.head (trans_apart (by assumption) (by assumption) _) | (refine' UpdF.tail ?a ?b; (case a => k_ne); (case b => (first | exact UpdF.head (trans_apart (by assumption) (by assumption) _) | (refine' UpdF.tail ?a ?b; (case a => k_ne); (case b => (first | exact UpdF.head (trans_apart (by assumption) (by assumption) _) | (refine' UpdF.tail ?a ?b; (case a => k_ne); (case b => (first | exact UpdF.head (trans_apart (by assumption) (by assumption) _) | (refine' UpdF.tail ?a ?b; (case a => k_ne); (case b => (first | exact UpdF.head (trans_apart (by assumption) (by assumption) _) | (refine' UpdF.tail ?a ?b; (case a => k_ne); (case b => (first | exact UpdF.head (trans_apart (by assumption) (by assumption) _) | (refine' UpdF.tail ?a ?b; (case a => k_ne); (case b => (first | exact UpdF.head (trans_apart (by assumption) (by assumption) _) | (refine' UpdF.tail ?a ?b; (case a => k_ne); (case b => fail))))))))))))))))))))))); (case k5 => assumption); k_whole); intro h' F' N'; (try dsimp only at N'); (try k_sweep)) | (k_here; (with_reducible show wpAny _ _ (call (Value.ref 105) [Value.str _ _]) _ _ _); k_dflt (refine' esc_call_K ?k1 ?k2 ?k3 ?k4 ?k5 ?k6 ?k7 ?k8 ?_; (case k1 => k_asm); (case k2 => k_asm); (case k3 => k_asm); (case k4 => k_asm); (case k5 => exact rfl); (case k6 => assumption); (case k7 => ktr_room); (case k8 => ktr_units); k_whole); intro t9 h9 tk9 ht9 F9 N9; (try k_sweep)) | ((with_reducible show wpAny _ _ (eval (Expr.Lambda _ _ _ _) _) _ _ _); (k_here; k_dflt (refine' lam_make ?k1 ?k2 ?k3 ?k4 ?k5 ?k6 ?k7 ?k8 ?_; (case k1 => k_asm); (case k2 => k_asm); (case k3 => k_asm); (case k4 => k_asm); (case k5 => k_updF); (case k6 => assumption); (case k7 => exact rfl); (case k8 => exact rfl); k_whole); intro f' fo' ps' h' tk' hfo' hps' F' N' l1; (try dsimp only at N'); (try k_lt l1))) | ((with_reducible show wpAny _ _ (call (Value.builtin "re.Pattern.sub") _) _ _ _); (k_here; k_dflt (refine' sub_call ?k1 ?k2 ?k3 ?k4 ?k5 ?k6 ?k7 ?k8 ?_; (case k1 => k_asm); (case k2 => k_asm); (case k3 => k_asm); (case k4 => k_mem); (case k5 => assumption); (case k6 => assumption); (case k7 => assumption); (case k8 => assumption); k_whole); intro t9 h9 tk9 F9 N9; (try k_sweep))) | walk1)))
  (with_reducible rename Fr _ _ _ _ => kF)
  (with_reducible rename News _ _ _ _ => kN)
  exact hQ .next _ (trO l q ps [Value.str (S sS) ts] _) _ _ _ (K _ _) trc_none kF kN
theorem hk_star1 {z : List Nat} {zt : Tok} (B : Below A₀ base outer h₀) (X : (Mine.K w.params).In h₀) (T : Top p loose mean mg mb h₀) (hdp : dp + 20 < recursionLimit) (hun : un + 150 < cLine) (hl2 : 107 < l ∧ AllLt l rest) (hl1 : @LT.lt Nat _ l q ∧ 107 < q ∧ AllLt q rest) (hle : vs.length ≤ 1000) (hle1 : (vs ++ [Value.str (S z) zt]).length ≤ 1000) (hz : (S z == S sS) = false) (h0 : 0 < ts) (h1 : ts < zt)
    (K : ∀ c' tk', k .next ⟨trc bs i u v (trM bs t ts tq ti tn sS sQ l q i), trO l q ps (vs ++ [Value.str (S z) zt] ++ [Value.str (S sS) ts]) c', tk', []⟩) : HkS w (ktrTop dp un gd cn (fnS trF) L a ccd [] outer) E cn L a ccd h₀ m₁ rest (hdB (ifB (nthS trT 2))) (trc bs i u v (trM bs t ts tq ti tn sS sQ l q i)) (trO l q ps (vs ++ [Value.str (S z) zt]) c) tk k := by
  intro s Q F N ht hQ
  replace N : News h₀ L s.heap ((l, listOf (vs ++ [Value.str (S z) zt]).toArray c) :: (q, boundO "builtin_function_or_method" "list.append" (.ref l)) :: (107, tabO ps) :: rest) := N
  refine exec_at (st' := ?st9) ?e9 ?_
  case e9 => (conv => lhs; whnf)
  have hne : (vs ++ [Value.str (S z) zt]).isEmpty = !true := by cases vs <;> rfl
  repeat' (first | ((with_reducible show _ ≤ _ → _); intro htk; (try dsimp only at htk ⊢)) | (k_unfold; (try dsimp only)) | ((fail_if_success (with_reducible show Q _ _)); first | ((with_reducible show wpAny _ _ (compareOp CmpOp.IsNot (Value.str _ _) (Value.str _ _)) _ _ _); (refine isNot_txt (by assumption) (by assumption) (by assumption) ?_)) | ((with_reducible show wpAny _ _ (getMethod (Value.ref _) _ _) _ _ _); (k_here; k_dflt (refine' gm_sub_K ?k1 ?k2 ?_; (case k1 => k_asm); (case k2 => k_asm); k_whole))) | ((with_reducible show wpAny _ _ (call (Value.builtin "str.replace") _) _ _ _); (refine SC.replaceW (by (show @Ne Nat _ _); omega) (by (show @Ne Nat _ _); omega) (by (show @Ne Nat _ _); omega) (by decide +kernel) (by omega) (by decide +kernel) ?_; intro t9 k9)) | (k_here; (with_reducible show wpAny _ _ (subscriptTail _ _ (Value.ref _) (Value.int (-1) _)) _ _ _); k_dflt (refine' last_l ?k1 ?k2 ?_; (case k1 => exact News.get (by k_asm) (by k_mem)); (case k2 => assumption); k_whole)) | (k_here; (with_reducible show wpAny _ _ (call (Value.ref _) [Value.str _ _]) _ _ _); k_dflt (refine' call_append_U ?k1 ?k2 ?k3 ?k4 ?k5 ?_; (case k1 => k_asm); (case k2 => k_asm); (case k4 => k_mem); (case k3 => ((first | exact UpdF.head (trans_apart (by assumption) (by assumption) _) | (refine' UpdF.tail ?a ?b; (case a => k_ne); (case b => (first | exact UpdF.head (trans_apart (by assumption) (by assumption) _) | (refine' UpdF.tail ?a ?b; (case a => k_ne); (case b => (first | exact UpdF.head (trans_apart (by assumption) (by assumption) _) | (refine' UpdF.tail ?a ?b; (case a => k_ne); (case b => (first | exact UpdF.head (trans_apart (by assumption) (by assumption) _) | (refine' UpdF.tail ?a ?b; (case a => k_ne); (case b => (first | exact UpdF.head (trans_apart (by assumption) (by assumption) _) | (refine' UpdF.tail ?a ?b; (case a => k_ne); (case b => (first | exact UpdF.head (trans_apart (by assumption) (by assumption) _) | (refine' UpdF.tail ?a ?b; (case a => k_ne); (case b => (first | exact UpdF.head (trans_apart (by assumption) (by assumption) _) | (refine' UpdF.tail ?a ?b; (case a => k_ne); (case b => fail))))))))))))))))))))))); (case k5 => assumption); k_whole); intro h' F' N'; (try dsimp only at N'); (try k_sweep)) | (k_here; (with_reducible show wpAny _ _ (call (Value.ref 105) [Value.str _ _]) _ _ _); k_dflt (refine' esc_call_K ?k1 ?k2 ?k3 ?k4 ?k5 ?k6 ?k7 ?k8 ?_; (case k1 => k_asm); (case k2 => k_asm); (case k3 => k_asm); (case k4 => k_asm); (case k5 => exact rfl); (case k6 => assumption); (case k7 => ktr_room); (case k8 => ktr_units); k_whole); intro t9 h9 tk9 ht9 F9 N9; (try k_sweep)) | ((with_reducible show wpAny _ _ (eval (Expr.Lambda _ _ _ _) _) _ _ _); (k_here; k_dflt (refine' lam_make ?k1 ?k2 ?k3 ?k4 ?k5 ?k6 ?k7 ?k8 ?_; (case k1 => k_asm); (case k2 => k_asm); (case k3 => k_asm); (case k4 => k_asm); (case k5 => k_updF); (case k6 => assumption); (case k7 => exact rfl); (case k8 => exact rfl); k_whole); intro f' fo' ps' h' tk' hfo' hps' F' N' l1; (try dsimp only at N'); (try k_lt l1))) | ((with_reducible show wpAny _ _ (call (Value.builtin "re.Pattern.sub") _) _ _ _); (k_here; k_dflt (refine' sub_call ?k1 ?k2 ?k3 ?k4 ?k5 ?k6 ?k7 ?k8 ?_; (case k1 => k_asm); (case k2 => k_asm); (case k3 => k_asm); (case k4 => k_mem); (case k5 => assumption); (case k6 => assumption); (case k7 => assumption); (case k8 => assumption); k_whole); intro t9 h9 tk9 F9 N9; (try k_sweep))) | walk1 | (dsimp only; first | ((with_reducible show wpAny _ _ (compareOp CmpOp.IsNot (Value.str _ _) (Value.str _ _)) _ _ _); (refine isNot_txt (by assumption) (by assumption) (by assumption) ?_)) | ((with_reducible show wpAny _ _ (getMethod (Value.ref _) _ _) _ _ _); (k_here; k_dflt (refine' gm_sub_K ?k1 ?k2 ?_; (case k1 => k_asm); (case k2 => k_asm); k_whole))) | ((with_reducible show wpAny _ _ (call (Value.builtin "str.replace") _) _ _ _); (refine SC.replaceW (by (show @Ne Nat _ _); omega) (by (show @Ne Nat _ _); omega) (by (show @Ne Nat _ _); omega) (by decide +kernel) (by omega) (by decide +kernel) ?_; intro t9 k9)) | (k_here; (with_reducible show wpAny _ _ (subscriptTail _ _ (Value.ref _) (Value.int (-1) _)) _ _ _); k_dflt (refine' last_l ?k1 ?k2 ?_; (case k1 => exact News.get (by k_asm) (by k_mem)); (case k2 => assumption); k_whole)) | (k_here; (with_reducible show wpAny _ _ (call (Value.ref _) [Value.str _ _]) _ _ _); k_dflt (refine' call_append_U ?k1 ?k2 ?k3 ?k4 ?k5 ?_; (case k1 => k_asm); (case k2 => k_asm); (case k4 => k_mem); (case k3 => ((first | exact UpdF.head (trans_apart (by assumption) (by assumption) _) | (refine' UpdF.tail ?a ?b; (case a => k_ne); (case b => (first | exact UpdF.head (trans_apart (by assumption) (by assumption) _) | (refine' UpdF.tail ?a ?b; (case a => k_ne); (case b => (first | exact UpdF.head (trans_apart (by assumption) (by assumption) _) | (refine' UpdF.tail ?a ?b; (case a => k_ne); (case b => (first | exact UpdF.head (trans_apart (by assumption) (by assumption) _) | (refine' UpdF.tail ?a ?b; (case a => k_ne); (case b => (first | exact UpdF.head (trans_apart (by assumption) (by assumption) _) | (refine' UpdF.tail ?a ?b; (case a => k_ne); (case b => (first | exact UpdF.head (trans_apart (by assumption) (by assumption) _) | (refine' UpdF.tail ?a ?b; (case a => k_ne); (case b => (first | exact UpdF.head (trans_apart (by assumption) (by assumption) _) | (refine' UpdF.tail ?a ?b; (case a => k_ne); (case b => fail))))))))))))))))))))))); (case k5 => assumption); k_whole); intro h' F' N'; (try dsimp only at N'); (try k_sweep)) | (k_here; (with_reducible show wpAny _ _ (call (Value.ref 105) [Value.str _ _]) _ _ _); k_dflt (refine' esc_call_K ?k1 ?k2 ?k3 ?k4 ?k5 ?k6 ?k7 ?k8 ?_; (case k1 => k_asm); (case k2 => k_asm); (case k3 => k_asm); (case k4 => k_asm); (case k5 => exact rfl); (case k6 => assumption); (case k7 => ktr_room); (case k8 => ktr_units); k_whole); intro t9 h9 tk9 ht9 F9 N9; (try k_sweep)) | ((with_reducible show wpAny _ _ (eval (Expr.Lambda _ _ _ _) _) _ _ _); (k_here; k_dflt (refine' lam_make ?k1 ?k2 ?k3 ?k4 ?k5 ?k6 ?k7 ?k8 ?_; (case k1 => k_asm); (case k2 => k_asm); (case k3 => k_asm); (case k4 => k_asm); (case k5 => k_updF); (case k6 => assumption); (case k7 => exact rfl); (case k8 => exact rfl); k_whole); intro f' fo' ps' h' tk' hfo' hps' F' N' l1; (try dsimp only at N'); (try k_lt l1))) | ((with_reducible show wpAny _ _ (call (Value.builtin "re.Pattern.sub") _) _ _ _); (k_here; k_dflt (refine' sub_call ?k1 ?k2 ?k3 ?k4 ?k5 ?k6 ?k7 ?k8 ?_; (case k1 => k_asm); (case k2 => k_asm); (case k3 => k_asm); (case k4 => k_mem); (case k5 => assumption); (case k6 => assumption); (case k7 => assumption); (case k8 => assumption); k_whole); intro t9 h9 tk9 F9 N9; (try k_sweep))) | walk1)))
  (with_reducible rename Fr _ _ _ _ => kF)
  (with_reducible rename News _ _ _ _ => kN)
  exact hQ .next _ (trO l q ps (vs ++ [Value.str (S z) zt] ++ [Value.str (S sS) ts]) _) _ _ _ (K _ _) trc_none kF kN
theorem hk_oth {ch : Nat} (B : Below A₀ base outer h₀) (X : (Mine.K w.params).In h₀) (T : Top p loose mean mg mb h₀) (hdp : dp + 20 < recursionLimit) (hun : un + 150 < cLine) (hl2 : 107 < l ∧ AllLt l rest) (hl1 : @LT.lt Nat _ l q ∧ 107 < q ∧ AllLt q rest) (hle : vs.length ≤ 1000) (hc : Txt.item (S bs) i = S [ch]) (h128 : ch < 128)
    (K : ∀ c' tk' t9, tk ≤ t9 → k .next ⟨trc bs i u v (trM bs t ts tq ti tn sS sQ l q i), trO l q ps (vs ++ [Value.str (S (esc ch)) t9]) c', tk', []⟩) : HkS w (ktrTop dp un gd cn (fnS trF) L a ccd [] outer) E cn L a ccd h₀ m₁ rest (hdB (ifE trK)) (trc bs i u v (trM bs t ts tq ti tn sS sQ l q i)) (trO l q ps (vs) c) tk k := by
  intro s Q F N ht hQ
  replace N : News h₀ L s.heap ((l, listOf (vs).toArray c) :: (q, boundO "builtin_function_or_method" "list.append" (.ref l)) :: (107, tabO ps) :: rest) := N
  refine exec_at (st' := ?st9) ?e9 ?_
  case e9 => (conv => lhs; whnf)
  unfold trc at F
  rw [hc] at F
  repeat' (first | ((with_reducible show _ ≤ _ → _); intro htk; (try dsimp only at htk ⊢)) | (k_unfold; (try dsimp only)) | ((fail_if_success (with_reducible show Q _ _)); first | ((with_reducible show wpAny _ _ (compareOp CmpOp.IsNot (Value.str _ _) (Value.str _ _)) _ _ _); (refine isNot_txt (by assumption) (by assumption) (by assumption) ?_)) | ((with_reducible show wpAny _ _ (getMethod (Value.ref _) _ _) _ _ _); (k_here; k_dflt (refine' gm_sub_K ?k1 ?k2 ?_; (case k1 => k_asm); (case k2 => k_asm); k_whole))) | ((with_reducible show wpAny _ _ (call (Value.builtin "str.replace") _) _ _ _); (refine SC.replaceW (by (show @Ne Nat _ _); omega) (by (show @Ne Nat _ _); omega) (by (show @Ne Nat _ _); omega) (by decide +kernel) (by omega) (by decide +kernel) ?_; intro t9 k9)) | (k_here; (with_reducible show wpAny _ _ (subscriptTail _ _ (Value.ref _) (Value.int (-1) _)) _ _ _); k_dflt (refine' last_l ?k1 ?k2 ?_; (case k1 => exact News.get (by k_asm) (by k_mem)); (case k2 => assumption); k_whole)) | (k_here; (with_reducible show wpAny _ _ (call (Value.ref _) [Value.str _ _]) _ _ _); k_dflt (refine' call_append_U ?k1 ?k2 ?k3 ?k4 ?k5 ?_; (case k1 => k_asm); (case k2 => k_asm); (case k4 => k_mem); (case k3 => ((first | exact UpdF.head (trans_apart (by assumption) (by assumption) _) | (refine' UpdF.tail ?a ?b; (case a => k_ne); (case b => (first | exact UpdF.head (trans_apart (by assumption) (by assumption) _) | (refine' UpdF.tail ?a ?b; (case a => k_ne); (case b => (first | exact UpdF.head (trans_apart (by assumption) (by assumption) _) | (refine' UpdF.tail ?a ?b; (case a => k_ne); (case b => (first | exact UpdF.head (trans_apart (by assumption) (by assumption) _) | (refine' UpdF.tail ?a ?b; (case a => k_ne); (case b => (first | exact UpdF.head (trans_apart (by assumption) (by assumption) _) | (refine' UpdF.tail ?a ?b; (case a => k_ne); (case b => (first | exact UpdF.head (trans_apart (by assumption) (by assumption) _) | (refine' UpdF.tail ?a ?b; (case a => k_ne); (case b => (first | exact UpdF.head (trans_apart (by assumption) (by assumption) _) | (refine' UpdF.tail ?a ?b; (case a => k_ne); (case b => fail))))))))))))))))))))))); (case k5 => assumption); k_whole); intro h' F' N'; (try dsimp only at N'); (try k_sweep)) | (k_here; (with_reducible show wpAny _ _ (call (Value.ref 105) [Value.str _ _]) _ _ _); k_dflt (refine' esc_call_K ?k1 ?k2 ?k3 ?k4 ?k5 ?k6 ?k7 ?k8 ?_; (case k1 => k_asm); (case k2 => k_asm); (case k3 => k_asm); (case k4 => k_asm); (case k5 => exact rfl); (case k6 => assumption); (case k7 => ktr_room); (case k8 => ktr_units); k_whole); intro t9 h9 tk9 ht9 F9 N9; (try k_sweep)) | ((with_reducible show wpAny _ _ (eval (Expr.Lambda _ _ _ _) _) _ _ _); (k_here; k_dflt (refine' lam_make ?k1 ?k2 ?k3 ?k4 ?k5 ?k6 ?k7 ?k8 ?_; (case k1 => k_asm); (case k2 => k_asm); (case k3 => k_asm); (case k4 => k_asm); (case k5 => k_updF); (case k6 => assumption); (case k7 => exact rfl); (case k8 => exact rfl); k_whole); intro f' fo' ps' h' tk' hfo' hps' F' N' l1; (try dsimp only at N'); (try k_lt l1))) | ((with_reducible show wpAny _ _ (call (Value.builtin "re.Pattern.sub") _) _ _ _); (k_here; k_dflt (refine' sub_call ?k1 ?k2 ?k3 ?k4 ?k5 ?k6 ?k7 ?k8 ?_; (case k1 => k_asm); (case k2 => k_asm); (case k3 => k_asm); (case k4 => k_mem); (case k5 => assumption); (case k6 => assumption); (case k7 => assumption); (case k8 => assumption); k_whole); intro t9 h9 tk9 F9 N9; (try k_sweep))) | walk1 | (dsimp only; first | ((with_reducible show wpAny _ _ (compareOp CmpOp.IsNot (Value.str _ _) (Value.str _ _)) _ _ _); (refine isNot_txt (by assumption) (by assumption) (by assumption) ?_)) | ((with_reducible show wpAny _ _ (getMethod (Value.ref _) _ _) _ _ _); (k_here; k_dflt (refine' gm_sub_K ?k1 ?k2 ?_; (case k1 => k_asm); (case k2 => k_asm); k_whole))) | ((with_reducible show wpAny _ _ (call (Value.builtin "str.replace") _) _ _ _); (refine SC.replaceW (by (show @Ne Nat _ _); omega) (by (show @Ne Nat _ _); omega) (by (show @Ne Nat _ _); omega) (by decide +kernel) (by omega) (by decide +kernel) ?_; intro t9 k9)) | (k_here; (with_reducible show wpAny _ _ (subscriptTail _ _ (Value.ref _) (Value.int (-1) _)) _ _ _); k_dflt (refine' last_l ?k1 ?k2 ?_; (case k1 => exact News.get (by k_asm) (by k_mem)); (case k2 => assumption); k_whole)) | (k_here; (with_reducible show wpAny _ _ (call (Value.ref _) [Value.str _ _]) _ _ _); k_dflt (refine' call_append_U ?k1 ?k2 ?k3 ?k4 ?k5 ?_; (case k1 => k_asm); (case k2 => k_asm); (case k4 => k_mem); (case k3 => ((first | exact UpdF.head (trans_apart (by assumption) (by assumption) _) | (refine' UpdF.tail ?a ?b; (case a => k_ne); (case b => (first | exact UpdF.head (trans_apart (by assumption) (by assumption) _) | (refine' UpdF.tail ?a ?b; (case a => k_ne); (case b => (first | exact UpdF.head (trans_apart (by assumption) (by assumption) _) | (refine' UpdF.tail ?a ?b; (case a => k_ne); (case b => (first | exact UpdF.head (trans_apart (by assumption) (by assumption) _) | (refine' UpdF.tail ?a ?b; (case a => k_ne); (case b => (first | exact UpdF.head (trans_apart (by assumption) (by assumption) _) | (refine' UpdF.tail ?a ?b; (case a => k_ne); (case b => (first | exact UpdF.head (trans_apart (by assumption) (by assumption) _) | (refine' UpdF.tail ?a ?b; (case a => k_ne); (case b => (first | exact UpdF.head (trans_apart (by assumption) (by assumption) _) | (refine' UpdF.tail ?a ?b; (case a => k_ne); (case b => fail))))))))))))))))))))))); (case k5 => assumption); k_whole); intro h' F' N'; (try dsimp only at N'); (try k_sweep)) | (k_here; (with_reducible show wpAny _ _ (call (Value.ref 105) [Value.str _ _]) _ _ _); k_dflt (refine' esc_call_K ?k1 ?k2 ?k3 ?k4 ?k5 ?k6 ?k7 ?k8 ?_; (case k1 => k_asm); (case k2 => k_asm); (case k3 => k_asm); (case k4 => k_asm); (case k5 => exact rfl); (case k6 => assumption); (case k7 => ktr_room); (case k8 => ktr_units); k_whole); intro t9 h9 tk9 ht9 F9 N9; (try k_sweep)) | ((with_reducible show wpAny _ _ (eval (Expr.Lambda _ _ _ _) _) _ _ _); (k_here; k_dflt (refine' lam_make ?k1 ?k2 ?k3 ?k4 ?k5 ?k6 ?k7 ?k8 ?_; (case k1 => k_asm); (case k2 => k_asm); (case k3 => k_asm); (case k4 => k_asm); (case k5 => k_updF); (case k6 => assumption); (case k7 => exact rfl); (case k8 => exact rfl); k_whole); intro f' fo' ps' h' tk' hfo' hps' F' N' l1; (try dsimp only at N'); (try k_lt l1))) | ((with_reducible show wpAny _ _ (call (Value.builtin "re.Pattern.sub") _) _ _ _); (k_here; k_dflt (refine' sub_call ?k1 ?k2 ?k3 ?k4 ?k5 ?k6 ?k7 ?k8 ?_; (case k1 => k_asm); (case k2 => k_asm); (case k3 => k_asm); (case k4 => k_mem); (case k5 => assumption); (case k6 => assumption); (case k7 => assumption); (case k8 => assumption); k_whole); intro t9 h9 tk9 F9 N9; (try k_sweep))) | walk1)))
  (with_reducible rename Fr _ _ _ _ => kF)
  (with_reducible rename News _ _ _ _ => kN)
  (with_reducible rename _ ≤ _ => htk)
  rw [← hc] at kF
  refine hQ .next _ (trO l q ps (vs ++ [Value.str (S (esc ch)) _]) _) _ _ _ (K _ _ _ (ht ▸ htk)) trc_none kF kN
theorem denM_dup {x : Str} {va vb : Value} {r : List (Str × Value × An)} : denM ((x, va, none) :: (x, vb, none) :: r) m₁ = denM ((x, va, none) :: r) m₁ := by
  funext z
  show (if z = x then some va else if z = x then some vb else denM r m₁ z) = if z = x then some va else denM r m₁ z
  by_cases h : z = x
  · rw [if_pos h, if_pos h]
  · rw [if_neg h, if_neg h, if_neg h]
theorem fr_dup {h : Heap} {x : Str} {va vb : Value} {r : List (Str × Value × An)} (F : Fr h₀ L h (denM ((x, va, none) :: (x, vb, none) :: r) m₁)) : Fr h₀ L h (denM ((x, va, none) :: r) m₁) := denM_dup ▸ F
theorem none_cons {x : Str} {va : Value} {r : List (Str × Value × An)} (h : ∀ z ∈ r, z.2.2 = none) : ∀ z ∈ (x, va, (none : An)) :: r, z.2.2 = none := List.forall_mem_cons.mpr ⟨rfl, h⟩
theorem trM_none {i : Int} : ∀ z ∈ trM bs t ts tq ti tn sS sQ l q i, z.2.2 = none := none_cons (none_cons (none_cons (none_cons (none_cons (none_cons (none_cons fun _ h => nomatch h))))))
noncomputable def noHk : HK := fun _ _ _ _ _ => False
variable {i0 j : Int} {ti0 tj ty : Tok} {cv : Value} {y : List Nat}
theorem trJM_none : ∀ z ∈ trJM i0 ti0 cv bs t ts tq ti tn tj sS sQ l q i j, z.2.2 = none := none_cons (none_cons (none_cons trM_none))
theorem tr_has {A : Around} {hk : HK} (X : (Mine.K w.params).In h₀) (T : Top p loose mean mg mb h₀) : Has PySem.Challenge.pw_il0113_01 w (Mine.K w.params) A E h₀ L (trC w hk) p loose mg mb := ⟨rfl, rfl, PrH.nil, rfl, rfl, fun _ => rfl, X, topRead_of T⟩
theorem tr_inv {hk : HK} {m : List (Str × Value × An)} {o : List (Addr × AO)} (h : ∀ z ∈ m, z.2.2 = none) : Inv (trC w hk) rest m o := .of (fun z hz => by rw [h z hz]; trivial) fun _ h => nomatch h
theorem hk_while {A : Around} {o : List (Addr × AO)} (X : (Mine.K w.params).In h₀) (T : Top p loose mean mg mb h₀) (hE : PassesOwn (model PySem.Challenge.pw_il0113_01 w) A (envX cn (fnS trF) L a ccd []) E)
    (f1 : decide (j < (bs.length : Int)) = true) (f2 : trOk (S bs) j = true) (f3 : trIs (Txt.item (S bs) j) "]" = false) (g1 : decide (j + 1 < (bs.length : Int)) = true) (g2 : trOk (S bs) (j + 1) = true) (g3 : trIs (Txt.item (S bs) (j + 1)) "]" = true)
    (K : ∀ tj tk', k .next ⟨trJM i0 ti0 cv bs t ts tq ti tn tj sS sQ l q i (j + 1), o, tk', [(0, false), (0, true), (0, false)]⟩) : HkS w A E cn L a ccd h₀ m₁ rest trH (trJM i0 ti0 cv bs t ts tq ti tn tj sS sQ l q i j) o tk k := by
  intro s Q F N ht hQ
  subst ht
  refine exec_at trH_is (whl_start 3 (whl_turn hE (test_ok (trC w noHk) 20 _ _ _ (tr_has X T) (tr_inv trJM_none) F N (Eq.mpr eq_h1 ⟨f1, f2, f3, fun h5 F5 N5 => WhlIf.yes rfl ?_⟩))))
  refine run_ok (trC w noHk) 20 _ _ _ (tr_has X T) (tr_inv trJM_none) F5 N5 (Eq.mpr eq_hb fun h6 F6 N6 => ?_)
  refine whl_turn (k := 1) hE (test_ok (trC w noHk) 20 _ _ _ (tr_has X T) (tr_inv (none_cons trJM_none)) F6 N6 (Eq.mpr eq_h2 ⟨g1, g2, g3, fun h7 F7 N7 => WhlIf.no rfl (wpAny_execs_nil ?_)⟩))
  exact hQ .next _ _ _ h7 _ (K _ _) trJM_none (denM_dup ▸ F7) N7
theorem hk_rep (B : Below A₀ base outer h₀) (X : (Mine.K w.params).In h₀) (T : Top p loose mean mg mb h₀) (hdp : dp + 20 < recursionLimit) (hun : un + 150 < cLine) (hl2 : 107 < l ∧ AllLt l rest) (hl1 : @LT.lt Nat _ l q ∧ 107 < q ∧ AllLt q rest) (hle : vs.length ≤ 1000) (hsl : Txt.slice (S bs) (some i) (some j) = S y) (hrep : Txt.replace (S y) (Str.ofString "\\") (Str.ofString "\\\\") = S y) (hn1 : (S y).length ≤ 1000000) (h0 : 0 < tk)
    (K : ∀ ty tk', k .next ⟨(Str.ofString "stuff", .str (S y) ty, none) :: trJM i0 ti0 cv bs t ts tq ti tn tj sS sQ l q i j, trO l q ps vs c, tk', []⟩) : HkS w (ktrTop dp un gd cn (fnS trF) L a ccd [] outer) E cn L a ccd h₀ m₁ rest (hdB (ifB (nthS trE 1))) ((Str.ofString "stuff", .str (Txt.slice (S bs) (some i) (some j)) ty, none) :: trJM i0 ti0 cv bs t ts tq ti tn tj sS sQ l q i j) (trO l q ps vs c) tk k := by
  intro s Q F N ht hQ
  replace N : News h₀ L s.heap ((l, listOf vs.toArray c) :: (q, boundO "builtin_function_or_method" "list.append" (.ref l)) :: (107, tabO ps) :: rest) := N
  refine exec_at (st' := ?st9) ?e9 ?_
  case e9 => (conv => lhs; whnf)
  have h0' : @LT.lt Nat _ 0 s.toks := ht ▸ h0
  rw [hsl] at F
  repeat' (first | (rw [hrep]) | ((with_reducible show _ ≤ _ → _); intro htk; (try dsimp only at htk ⊢)) | (k_unfold; (try dsimp only)) | ((fail_if_success (with_reducible show Q _ _)); first | ((with_reducible show wpAny _ _ (compareOp CmpOp.IsNot (Value.str _ _) (Value.str _ _)) _ _ _); (refine isNot_txt (by assumption) (by assumption) (by assumption) ?_)) | ((with_reducible show wpAny _ _ (getMethod (Value.ref _) _ _) _ _ _); (k_here; k_dflt (refine' gm_sub_K ?k1 ?k2 ?_; (case k1 => k_asm); (case k2 => k_asm); k_whole))) | ((with_reducible show wpAny _ _ (call (Value.builtin "str.replace") _) _ _ _); (refine SC.replaceW (by (show @Ne Nat _ _); omega) (by (show @Ne Nat _ _); omega) (by (show @Ne Nat _ _); omega) (by decide +kernel) (by omega) (by decide +kernel) ?_; intro t9 k9)) | (k_here; (with_reducible show wpAny _ _ (subscriptTail _ _ (Value.ref _) (Value.int (-1) _)) _ _ _); k_dflt (refine' last_l ?k1 ?k2 ?_; (case k1 => exact News.get (by k_asm) (by k_mem)); (case k2 => assumption); k_whole)) | (k_here; (with_reducible show wpAny _ _ (call (Value.ref _) [Value.str _ _]) _ _ _); k_dflt (refine' call_append_U ?k1 ?k2 ?k3 ?k4 ?k5 ?_; (case k1 => k_asm); (case k2 => k_asm); (case k4 => k_mem); (case k3 => ((first | exact UpdF.head (trans_apart (by assumption) (by assumption) _) | (refine' UpdF.tail ?a ?b; (case a => k_ne); (case b => (first | exact UpdF.head (trans_apart (by assumption) (by assumption) _) | (refine' UpdF.tail ?a ?b; (case a => k_ne); (case b => (first | exact UpdF.head (trans_apart (by assumption) (by assumption) _) | (refine' UpdF.tail ?a ?b; (case a => k_ne); (case b => (first | exact UpdF.head (trans_apart (by assumption) (by assumption) _) | (refine' UpdF.tail ?a ?b; (case a => k_ne); (case b => (first | exact UpdF.head (trans_apart (by assumption) (by assumption) _) | (refine' UpdF.tail ?a ?b; (case a => k_ne); (case b => (first | exact UpdF.head (trans_apart (by assumption) (by assumption) _) | (refine' UpdF.tail ?a ?b; (case a => k_ne); (case b => (first | exact UpdF.head (trans_apart (by assumption) (by assumption) _) | (refine' UpdF.tail ?a ?b; (case a => k_ne); (case b => fail))))))))))))))))))))))); (case k5 => assumption); k_whole); intro h' F' N'; (try dsimp only at N'); (try k_sweep)) | (k_here; (with_reducible show wpAny _ _ (call (Value.ref 105) [Value.str _ _]) _ _ _); k_dflt (refine' esc_call_K ?k1 ?k2 ?k3 ?k4 ?k5 ?k6 ?k7 ?k8 ?_; (case k1 => k_asm); (case k2 => k_asm); (case k3 => k_asm); (case k4 => k_asm); (case k5 => exact rfl); (case k6 => assumption); (case k7 => ktr_room); (case k8 => ktr_units); k_whole); intro t9 h9 tk9 ht9 F9 N9; (try k_sweep)) | ((with_reducible show wpAny _ _ (eval (Expr.Lambda _ _ _ _) _) _ _ _); (k_here; k_dflt (refine' lam_make ?k1 ?k2 ?k3 ?k4 ?k5 ?k6 ?k7 ?k8 ?_; (case k1 => k_asm); (case k2 => k_asm); (case k3 => k_asm); (case k4 => k_asm); (case k5 => k_updF); (case k6 => assumption); (case k7 => exact rfl); (case k8 => exact rfl); k_whole); intro f' fo' ps' h' tk' hfo' hps' F' N' l1; (try dsimp only at N'); (try k_lt l1))) | ((with_reducible show wpAny _ _ (call (Value.builtin "re.Pattern.sub") _) _ _ _); (k_here; k_dflt (refine' sub_call ?k1 ?k2 ?k3 ?k4 ?k5 ?k6 ?k7 ?k8 ?_; (case k1 => k_asm); (case k2 => k_asm); (case k3 => k_asm); (case k4 => k_mem); (case k5 => assumption); (case k6 => assumption); (case k7 => assumption); (case k8 => assumption); k_whole); intro t9 h9 tk9 F9 N9; (try k_sweep))) | walk1 | (dsimp only; first | ((with_reducible show wpAny _ _ (compareOp CmpOp.IsNot (Value.str _ _) (Value.str _ _)) _ _ _); (refine isNot_txt (by assumption) (by assumption) (by assumption) ?_)) | ((with_reducible show wpAny _ _ (getMethod (Value.ref _) _ _) _ _ _); (k_here; k_dflt (refine' gm_sub_K ?k1 ?k2 ?_; (case k1 => k_asm); (case k2 => k_asm); k_whole))) | ((with_reducible show wpAny _ _ (call (Value.builtin "str.replace") _) _ _ _); (refine SC.replaceW (by (show @Ne Nat _ _); omega) (by (show @Ne Nat _ _); omega) (by (show @Ne Nat _ _); omega) (by decide +kernel) (by omega) (by decide +kernel) ?_; intro t9 k9)) | (k_here; (with_reducible show wpAny _ _ (subscriptTail _ _ (Value.ref _) (Value.int (-1) _)) _ _ _); k_dflt (refine' last_l ?k1 ?k2 ?_; (case k1 => exact News.get (by k_asm) (by k_mem)); (case k2 => assumption); k_whole)) | (k_here; (with_reducible show wpAny _ _ (call (Value.ref _) [Value.str _ _]) _ _ _); k_dflt (refine' call_append_U ?k1 ?k2 ?k3 ?k4 ?k5 ?_; (case k1 => k_asm); (case k2 => k_asm); (case k4 => k_mem); (case k3 => ((first | exact UpdF.head (trans_apart (by assumption) (by assumption) _) | (refine' UpdF.tail ?a ?b; (case a => k_ne); (case b => (first | exact UpdF.head (trans_apart (by assumption) (by assumption) _) | (refine' UpdF.tail ?a ?b; (case a => k_ne); (case b => (first | exact UpdF.head (trans_apart (by assumption) (by assumption) _) | (refine' UpdF.tail ?a ?b; (case a => k_ne); (case b => (first | exact UpdF.head (trans_apart (by assumption) (by assumption) _) | (refine' UpdF.tail ?a ?b; (case a => k_ne); (case b => (first | exact UpdF.head (trans_apart (by assumption) (by assumption) _) | (refine' UpdF.tail ?a ?b; (case a => k_ne); (case b => (first | exact UpdF.head (trans_apart (by assumption) (by assumption) _) | (refine' UpdF.tail ?a ?b; (case a => k_ne); (case b => (first | exact UpdF.head (trans_apart (by assumption) (by assumption) _) | (refine' UpdF.tail ?a ?b; (case a => k_ne); (case b => fail))))))))))))))))))))))); (case k5 => assumption); k_whole); intro h' F' N'; (try dsimp only at N'); (try k_sweep)) | (k_here; (with_reducible show wpAny _ _ (call (Value.ref 105) [Value.str _ _]) _ _ _); k_dflt (refine' esc_call_K ?k1 ?k2 ?k3 ?k4 ?k5 ?k6 ?k7 ?k8 ?_; (case k1 => k_asm); (case k2 => k_asm); (case k3 => k_asm); (case k4 => k_asm); (case k5 => exact rfl); (case k6 => assumption); (case k7 => ktr_room); (case k8 => ktr_units); k_whole); intro t9 h9 tk9 ht9 F9 N9; (try k_sweep)) | ((with_reducible show wpAny _ _ (eval (Expr.Lambda _ _ _ _) _) _ _ _); (k_here; k_dflt (refine' lam_make ?k1 ?k2 ?k3 ?k4 ?k5 ?k6 ?k7 ?k8 ?_; (case k1 => k_asm); (case k2 => k_asm); (case k3 => k_asm); (case k4 => k_asm); (case k5 => k_updF); (case k6 => assumption); (case k7 => exact rfl); (case k8 => exact rfl); k_whole); intro f' fo' ps' h' tk' hfo' hps' F' N' l1; (try dsimp only at N'); (try k_lt l1))) | ((with_reducible show wpAny _ _ (call (Value.builtin "re.Pattern.sub") _) _ _ _); (k_here; k_dflt (refine' sub_call ?k1 ?k2 ?k3 ?k4 ?k5 ?k6 ?k7 ?k8 ?_; (case k1 => k_asm); (case k2 => k_asm); (case k3 => k_asm); (case k4 => k_mem); (case k5 => assumption); (case k6 => assumption); (case k7 => assumption); (case k8 => assumption); k_whole); intro t9 h9 tk9 F9 N9; (try k_sweep))) | walk1)))
  (with_reducible rename Fr _ _ _ _ => kF)
  (with_reducible rename News _ _ _ _ => kN)
  exact hQ .next _ _ _ _ _ (K _ _) (none_cons trJM_none) (fr_dup (vb := .str (S y) ty) kF) kN
theorem hk_sub (B : Below A₀ base outer h₀) (X : (Mine.K w.params).In h₀) (T : Top p loose mean mg mb h₀) (hdp : dp + 20 < recursionLimit) (hun : un + 150 < cLine) (hl2 : 107 < l ∧ AllLt l rest) (hl1 : @LT.lt Nat _ l q ∧ 107 < q ∧ AllLt q rest) (hle : vs.length ≤ 1000) (hr : ∀ r ∈ rest, r.1 ≠ 107) (hps : PsOk lpos ps) (hns : noSub y = true) (hn0 : 0 < y.length) (hn1 : y.length ≤ 1000)
    (K : ∀ ty ps' tk', PsOk lpos ps' → k .next ⟨(Str.ofString "stuff", .str (S y) ty, none) :: trJM i0 ti0 cv bs t ts tq ti tn tj sS sQ l q i j, trO l q ps' vs c, tk', []⟩) : HkS w (ktrTop dp un gd cn (fnS trF) L a (.ref 111) [] outer) E cn L a (.ref 111) h₀ m₁ rest (nthS trE 2) ((Str.ofString "stuff", .str (S y) ty, none) :: trJM i0 ti0 cv bs t ts tq ti tn tj sS sQ l q i j) (trO l q ps vs c) tk k := by
  intro s Q F N ht hQ
  replace N : News h₀ L s.heap ((l, listOf vs.toArray c) :: (q, boundO "builtin_function_or_method" "list.append" (.ref l)) :: (107, tabO ps) :: rest) := N
  refine exec_at (st' := ?st9) ?e9 ?_
  case e9 => (conv => lhs; whnf)
  repeat' (first | ((with_reducible show _ ≤ _ → _); intro htk; (try dsimp only at htk ⊢)) | (k_unfold; (try dsimp only)) | ((fail_if_success (with_reducible show Q _ _)); first | ((with_reducible show wpAny _ _ (compareOp CmpOp.IsNot (Value.str _ _) (Value.str _ _)) _ _ _); (refine isNot_txt (by assumption) (by assumption) (by assumption) ?_)) | ((with_reducible show wpAny _ _ (getMethod (Value.ref _) _ _) _ _ _); (k_here; k_dflt (refine' gm_sub_K ?k1 ?k2 ?_; (case k1 => k_asm); (case k2 => k_asm); k_whole))) | ((with_reducible show wpAny _ _ (call (Value.builtin "str.replace") _) _ _ _); (refine SC.replaceW (by (show @Ne Nat _ _); omega) (by (show @Ne Nat _ _); omega) (by (show @Ne Nat _ _); omega) (by decide +kernel) (by omega) (by decide +kernel) ?_; intro t9 k9)) | (k_here; (with_reducible show wpAny _ _ (subscriptTail _ _ (Value.ref _) (Value.int (-1) _)) _ _ _); k_dflt (refine' last_l ?k1 ?k2 ?_; (case k1 => exact News.get (by k_asm) (by k_mem)); (case k2 => assumption); k_whole)) | (k_here; (with_reducible show wpAny _ _ (call (Value.ref _) [Value.str _ _]) _ _ _); k_dflt (refine' call_append_U ?k1 ?k2 ?k3 ?k4 ?k5 ?_; (case k1 => k_asm); (case k2 => k_asm); (case k4 => k_mem); (case k3 => ((first | exact UpdF.head (trans_apart (by assumption) (by assumption) _) | (refine' UpdF.tail ?a ?b; (case a => k_ne); (case b => (first | exact UpdF.head (trans_apart (by assumption) (by assumption) _) | (refine' UpdF.tail ?a ?b; (case a => k_ne); (case b => (first | exact UpdF.head (trans_apart (by assumption) (by assumption) _) | (refine' UpdF.tail ?a ?b; (case a => k_ne); (case b => (first | exact UpdF.head (trans_apart (by assumption) (by assumption) _) | (refine' UpdF.tail ?a ?b; (case a => k_ne); (case b => (first | exact UpdF.head (trans_apart (by assumption) (by assumption) _) | (refine' UpdF.tail ?a ?b; (case a => k_ne); (case b => (first | exact UpdF.head (trans_apart (by assumption) (by assumption) _) | (refine' UpdF.tail ?a ?b; (case a => k_ne); (case b => (first | exact UpdF.head (trans_apart (by assumption) (by assumption) _) | (refine' UpdF.tail ?a ?b; (case a => k_ne); (case b => fail))))))))))))))))))))))); (case k5 => assumption); k_whole); intro h' F' N'; (try dsimp only at N'); (try k_sweep)) | (k_here; (with_reducible show wpAny _ _ (call (Value.ref 105) [Value.str _ _]) _ _ _); k_dflt (refine' esc_call_K ?k1 ?k2 ?k3 ?k4 ?k5 ?k6 ?k7 ?k8 ?_; (case k1 => k_asm); (case k2 => k_asm); (case k3 => k_asm); (case k4 => k_asm); (case k5 => exact rfl); (case k6 => assumption); (case k7 => ktr_room); (case k8 => ktr_units); k_whole); intro t9 h9 tk9 ht9 F9 N9; (try k_sweep)) | ((with_reducible show wpAny _ _ (eval (Expr.Lambda _ _ _ _) _) _ _ _); (k_here; k_dflt (refine' lam_make ?k1 ?k2 ?k3 ?k4 ?k5 ?k6 ?k7 ?k8 ?_; (case k1 => k_asm); (case k2 => k_asm); (case k3 => k_asm); (case k4 => k_asm); (case k5 => k_updF); (case k6 => assumption); (case k7 => exact rfl); (case k8 => exact rfl); k_whole); intro f' fo' ps' h' tk' hfo' hps' F' N' l1; (try dsimp only at N'); (try k_lt l1))) | ((with_reducible show wpAny _ _ (call (Value.builtin "re.Pattern.sub") _) _ _ _); (k_here; k_dflt (refine' sub_call ?k1 ?k2 ?k3 ?k4 ?k5 ?k6 ?k7 ?k8 ?_; (case k1 => k_asm); (case k2 => k_asm); (case k3 => k_asm); (case k4 => k_mem); (case k5 => assumption); (case k6 => assumption); (case k7 => assumption); (case k8 => assumption); k_whole); intro t9 h9 tk9 F9 N9; (try k_sweep))) | walk1 | (dsimp only; first | ((with_reducible show wpAny _ _ (compareOp CmpOp.IsNot (Value.str _ _) (Value.str _ _)) _ _ _); (refine isNot_txt (by assumption) (by assumption) (by assumption) ?_)) | ((with_reducible show wpAny _ _ (getMethod (Value.ref _) _ _) _ _ _); (k_here; k_dflt (refine' gm_sub_K ?k1 ?k2 ?_; (case k1 => k_asm); (case k2 => k_asm); k_whole))) | ((with_reducible show wpAny _ _ (call (Value.builtin "str.replace") _) _ _ _); (refine SC.replaceW (by (show @Ne Nat _ _); omega) (by (show @Ne Nat _ _); omega) (by (show @Ne Nat _ _); omega) (by decide +kernel) (by omega) (by decide +kernel) ?_; intro t9 k9)) | (k_here; (with_reducible show wpAny _ _ (subscriptTail _ _ (Value.ref _) (Value.int (-1) _)) _ _ _); k_dflt (refine' last_l ?k1 ?k2 ?_; (case k1 => exact News.get (by k_asm) (by k_mem)); (case k2 => assumption); k_whole)) | (k_here; (with_reducible show wpAny _ _ (call (Value.ref _) [Value.str _ _]) _ _ _); k_dflt (refine' call_append_U ?k1 ?k2 ?k3 ?k4 ?k5 ?_; (case k1 => k_asm); (case k2 => k_asm); (case k4 => k_mem); (case k3 => ((first | exact UpdF.head (trans_apart (by assumption) (by assumption) _) | (refine' UpdF.tail ?a ?b; (case a => k_ne); (case b => (first | exact UpdF.head (trans_apart (by assumption) (by assumption) _) | (refine' UpdF.tail ?a ?b; (case a => k_ne); (case b => (first | exact UpdF.head (trans_apart (by assumption) (by assumption) _) | (refine' UpdF.tail ?a ?b; (case a => k_ne); (case b => (first | exact UpdF.head (trans_apart (by assumption) (by assumption) _) | (refine' UpdF.tail ?a ?b; (case a => k_ne); (case b => (first | exact UpdF.head (trans_apart (by assumption) (by assumption) _) | (refine' UpdF.tail ?a ?b; (case a => k_ne); (case b => (first | exact UpdF.head (trans_apart (by assumption) (by assumption) _) | (refine' UpdF.tail ?a ?b; (case a => k_ne); (case b => (first | exact UpdF.head (trans_apart (by assumption) (by assumption) _) | (refine' UpdF.tail ?a ?b; (case a => k_ne); (case b => fail))))))))))))))))))))))); (case k5 => assumption); k_whole); intro h' F' N'; (try dsimp only at N'); (try k_sweep)) | (k_here; (with_reducible show wpAny _ _ (call (Value.ref 105) [Value.str _ _]) _ _ _); k_dflt (refine' esc_call_K ?k1 ?k2 ?k3 ?k4 ?k5 ?k6 ?k7 ?k8 ?_; (case k1 => k_asm); (case k2 => k_asm); (case k3 => k_asm); (case k4 => k_asm); (case k5 => exact rfl); (case k6 => assumption); (case k7 => ktr_room); (case k8 => ktr_units); k_whole); intro t9 h9 tk9 ht9 F9 N9; (try k_sweep)) | ((with_reducible show wpAny _ _ (eval (Expr.Lambda _ _ _ _) _) _ _ _); (k_here; k_dflt (refine' lam_make ?k1 ?k2 ?k3 ?k4 ?k5 ?k6 ?k7 ?k8 ?_; (case k1 => k_asm); (case k2 => k_asm); (case k3 => k_asm); (case k4 => k_asm); (case k5 => k_updF); (case k6 => assumption); (case k7 => exact rfl); (case k8 => exact rfl); k_whole); intro f' fo' ps' h' tk' hfo' hps' F' N' l1; (try dsimp only at N'); (try k_lt l1))) | ((with_reducible show wpAny _ _ (call (Value.builtin "re.Pattern.sub") _) _ _ _); (k_here; k_dflt (refine' sub_call ?k1 ?k2 ?k3 ?k4 ?k5 ?k6 ?k7 ?k8 ?_; (case k1 => k_asm); (case k2 => k_asm); (case k3 => k_asm); (case k4 => k_mem); (case k5 => assumption); (case k6 => assumption); (case k7 => assumption); (case k8 => assumption); k_whole); intro t9 h9 tk9 F9 N9; (try k_sweep))) | walk1)))
  (with_reducible rename Fr _ _ _ _ => kF)
  (with_reducible rename News _ _ _ _ => kN)
  (with_reducible rename PsOk _ _ => kP)
  exact hQ .next _ (trO l q _ vs c) _ _ _ (K _ _ _ kP) (none_cons trJM_none) (fr_dup (vb := .str (S y) ty) kF) (fun q hq => kN q (List.Mem.tail _ hq))
theorem den_two {x x2 : Str} {v1 v2 : Value} {m : List (Str × Value × An)} (e1 : denM m m₁ x = some v1) (e2 : denM m m₁ x2 = some v2) : denM m m₁ = denM ((x, v1, none) :: (x2, v2, none) :: m) m₁ := by
  funext z
  show denM m m₁ z = if z = x then some v1 else if z = x2 then some v2 else denM m m₁ z
  by_cases h : z = x
  · rw [if_pos h, h, e1]
  · rw [if_neg h]
    by_cases g : z = x2
    · rw [if_pos g, g, e2]
    · rw [if_neg g]
theorem hk_add {x z : Str} {m : List (Str × Value × An)} (B : Below A₀ base outer h₀) (X : (Mine.K w.params).In h₀) (T : Top p loose mean mg mb h₀) (hdp : dp + 20 < recursionLimit) (hun : un + 150 < cLine) (hl2 : 107 < l ∧ AllLt l rest) (hl1 : @LT.lt Nat _ l q ∧ 107 < q ∧ AllLt q rest) (hle : vs.length ≤ 1000) (hx : x.length ≤ 1000) (hz : Str.empty ++ Str.ofString "[" ++ x ++ Str.ofString "]" = z) (hm : ∀ z ∈ m, z.2.2 = none) (e1 : denM m m₁ (Str.ofString "stuff") = some (.str x ty)) (e2 : denM m m₁ (Str.ofString "add") = some (.ref q))
    (K : ∀ (t9 : Tok) c', k .next ⟨m, trO l q ps (vs ++ [Value.str z t9]) c', t9 + 1, []⟩) : HkS w (ktrTop dp un gd cn (fnS trF) L a ccd [] outer) E cn L a ccd h₀ m₁ rest (trA) (m) (trO l q ps vs c) tk k := by
  intro s Q F N ht hQ
  replace N : News h₀ L s.heap ((l, listOf vs.toArray c) :: (q, boundO "builtin_function_or_method" "list.append" (.ref l)) :: (107, tabO ps) :: rest) := N
  refine exec_at (st' := ?st9) ?e9 ?_
  case e9 => (conv => lhs; whnf)
  rw [den_two e1 e2] at F
  repeat' (first | ((with_reducible show _ ≤ _ → _); intro htk; (try dsimp only at htk ⊢)) | (k_unfold; (try dsimp only)) | ((fail_if_success (with_reducible show Q _ _)); first | ((with_reducible show wpAny _ _ (compareOp CmpOp.IsNot (Value.str _ _) (Value.str _ _)) _ _ _); (refine isNot_txt (by assumption) (by assumption) (by assumption) ?_)) | ((with_reducible show wpAny _ _ (getMethod (Value.ref _) _ _) _ _ _); (k_here; k_dflt (refine' gm_sub_K ?k1 ?k2 ?_; (case k1 => k_asm); (case k2 => k_asm); k_whole))) | ((with_reducible show wpAny _ _ (call (Value.builtin "str.replace") _) _ _ _); (refine SC.replaceW (by (show @Ne Nat _ _); omega) (by (show @Ne Nat _ _); omega) (by (show @Ne Nat _ _); omega) (by decide +kernel) (by omega) (by decide +kernel) ?_; intro t9 k9)) | (k_here; (with_reducible show wpAny _ _ (subscriptTail _ _ (Value.ref _) (Value.int (-1) _)) _ _ _); k_dflt (refine' last_l ?k1 ?k2 ?_; (case k1 => exact News.get (by k_asm) (by k_mem)); (case k2 => assumption); k_whole)) | (k_here; (with_reducible show wpAny _ _ (call (Value.ref _) [Value.str _ _]) _ _ _); k_dflt (refine' call_append_U ?k1 ?k2 ?k3 ?k4 ?k5 ?_; (case k1 => k_asm); (case k2 => k_asm); (case k4 => k_mem); (case k3 => ((first | exact UpdF.head (trans_apart (by assumption) (by assumption) _) | (refine' UpdF.tail ?a ?b; (case a => k_ne); (case b => (first | exact UpdF.head (trans_apart (by assumption) (by assumption) _) | (refine' UpdF.tail ?a ?b; (case a => k_ne); (case b => (first | exact UpdF.head (trans_apart (by assumption) (by assumption) _) | (refine' UpdF.tail ?a ?b; (case a => k_ne); (case b => (first | exact UpdF.head (trans_apart (by assumption) (by assumption) _) | (refine' UpdF.tail ?a ?b; (case a => k_ne); (case b => (first | exact UpdF.head (trans_apart (by assumption) (by assumption) _) | (refine' UpdF.tail ?a ?b; (case a => k_ne); (case b => (first | exact UpdF.head (trans_apart (by assumption) (by assumption) _) | (refine' UpdF.tail ?a ?b; (case a => k_ne); (case b => (first | exact UpdF.head (trans_apart (by assumption) (by assumption) _) | (refine' UpdF.tail ?a ?b; (case a => k_ne); (case b => fail))))))))))))))))))))))); (case k5 => assumption); k_whole); intro h' F' N'; (try dsimp only at N'); (try k_sweep)) | (k_here; (with_reducible show wpAny _ _ (call (Value.ref 105) [Value.str _ _]) _ _ _); k_dflt (refine' esc_call_K ?k1 ?k2 ?k3 ?k4 ?k5 ?k6 ?k7 ?k8 ?_; (case k1 => k_asm); (case k2 => k_asm); (case k3 => k_asm); (case k4 => k_asm); (case k5 => exact rfl); (case k6 => assumption); (case k7 => ktr_room); (case k8 => ktr_units); k_whole); intro t9 h9 tk9 ht9 F9 N9; (try k_sweep)) | ((with_reducible show wpAny _ _ (eval (Expr.Lambda _ _ _ _) _) _ _ _); (k_here; k_dflt (refine' lam_make ?k1 ?k2 ?k3 ?k4 ?k5 ?k6 ?k7 ?k8 ?_; (case k1 => k_asm); (case k2 => k_asm); (case k3 => k_asm); (case k4 => k_asm); (case k5 => k_updF); (case k6 => assumption); (case k7 => exact rfl); (case k8 => exact rfl); k_whole); intro f' fo' ps' h' tk' hfo' hps' F' N' l1; (try dsimp only at N'); (try k_lt l1))) | ((with_reducible show wpAny _ _ (call (Value.builtin "re.Pattern.sub") _) _ _ _); (k_here; k_dflt (refine' sub_call ?k1 ?k2 ?k3 ?k4 ?k5 ?k6 ?k7 ?k8 ?_; (case k1 => k_asm); (case k2 => k_asm); (case k3 => k_asm); (case k4 => k_mem); (case k5 => assumption); (case k6 => assumption); (case k7 => assumption); (case k8 => assumption); k_whole); intro t9 h9 tk9 F9 N9; (try k_sweep))) | walk1 | (dsimp only; first | ((with_reducible show wpAny _ _ (compareOp CmpOp.IsNot (Value.str _ _) (Value.str _ _)) _ _ _); (refine isNot_txt (by assumption) (by assumption) (by assumption) ?_)) | ((with_reducible show wpAny _ _ (getMethod (Value.ref _) _ _) _ _ _); (k_here; k_dflt (refine' gm_sub_K ?k1 ?k2 ?_; (case k1 => k_asm); (case k2 => k_asm); k_whole))) | ((with_reducible show wpAny _ _ (call (Value.builtin "str.replace") _) _ _ _); (refine SC.replaceW (by (show @Ne Nat _ _); omega) (by (show @Ne Nat _ _); omega) (by (show @Ne Nat _ _); omega) (by decide +kernel) (by omega) (by decide +kernel) ?_; intro t9 k9)) | (k_here; (with_reducible show wpAny _ _ (subscriptTail _ _ (Value.ref _) (Value.int (-1) _)) _ _ _); k_dflt (refine' last_l ?k1 ?k2 ?_; (case k1 => exact News.get (by k_asm) (by k_mem)); (case k2 => assumption); k_whole)) | (k_here; (with_reducible show wpAny _ _ (call (Value.ref _) [Value.str _ _]) _ _ _); k_dflt (refine' call_append_U ?k1 ?k2 ?k3 ?k4 ?k5 ?_; (case k1 => k_asm); (case k2 => k_asm); (case k4 => k_mem); (case k3 => ((first | exact UpdF.head (trans_apart (by assumption) (by assumption) _) | (refine' UpdF.tail ?a ?b; (case a => k_ne); (case b => (first | exact UpdF.head (trans_apart (by assumption) (by assumption) _) | (refine' UpdF.tail ?a ?b; (case a => k_ne); (case b => (first | exact UpdF.head (trans_apart (by assumption) (by assumption) _) | (refine' UpdF.tail ?a ?b; (case a => k_ne); (case b => (first | exact UpdF.head (trans_apart (by assumption) (by assumption) _) | (refine' UpdF.tail ?a ?b; (case a => k_ne); (case b => (first | exact UpdF.head (trans_apart (by assumption) (by assumption) _) | (refine' UpdF.tail ?a ?b; (case a => k_ne); (case b => (first | exact UpdF.head (trans_apart (by assumption) (by assumption) _) | (refine' UpdF.tail ?a ?b; (case a => k_ne); (case b => (first | exact UpdF.head (trans_apart (by assumption) (by assumption) _) | (refine' UpdF.tail ?a ?b; (case a => k_ne); (case b => fail))))))))))))))))))))))); (case k5 => assumption); k_whole); intro h' F' N'; (try dsimp only at N'); (try k_sweep)) | (k_here; (with_reducible show wpAny _ _ (call (Value.ref 105) [Value.str _ _]) _ _ _); k_dflt (refine' esc_call_K ?k1 ?k2 ?k3 ?k4 ?k5 ?k6 ?k7 ?k8 ?_; (case k1 => k_asm); (case k2 => k_asm); (case k3 => k_asm); (case k4 => k_asm); (case k5 => exact rfl); (case k6 => assumption); (case k7 => ktr_room); (case k8 => ktr_units); k_whole); intro t9 h9 tk9 ht9 F9 N9; (try k_sweep)) | ((with_reducible show wpAny _ _ (eval (Expr.Lambda _ _ _ _) _) _ _ _); (k_here; k_dflt (refine' lam_make ?k1 ?k2 ?k3 ?k4 ?k5 ?k6 ?k7 ?k8 ?_; (case k1 => k_asm); (case k2 => k_asm); (case k3 => k_asm); (case k4 => k_asm); (case k5 => k_updF); (case k6 => assumption); (case k7 => exact rfl); (case k8 => exact rfl); k_whole); intro f' fo' ps' h' tk' hfo' hps' F' N' l1; (try dsimp only at N'); (try k_lt l1))) | ((with_reducible show wpAny _ _ (call (Value.builtin "re.Pattern.sub") _) _ _ _); (k_here; k_dflt (refine' sub_call ?k1 ?k2 ?k3 ?k4 ?k5 ?k6 ?k7 ?k8 ?_; (case k1 => k_asm); (case k2 => k_asm); (case k3 => k_asm); (case k4 => k_mem); (case k5 => assumption); (case k6 => assumption); (case k7 => assumption); (case k8 => assumption); k_whole); intro t9 h9 tk9 F9 N9; (try k_sweep))) | walk1)))
  (with_reducible rename Fr _ _ _ _ => kF)
  (with_reducible rename News _ _ _ _ => kN)
  rw [← den_two e1 e2] at kF
  rw [hz] at kN
  exact hQ .next _ (trO l q ps (vs ++ [Value.str z _]) _) _ _ _ (K _ _) hm kF kN
end
section
variable {w : World} {p : Program} {loose : List Str} {mean : ExcName → Option Value} {mg mb : Str → Option Value} {dp un : Nat} {gd : Option (List Code)} {cn : Str} {a : Addr} {ccd : Value} {outer : List Env} {A₀ A : Around} {base h₀ : Heap} {L : Addr} {m₁ : Str → Option Value} {E : Value → Shared → Prop} {s : Shared} {Q : Flow → Shared → Prop}
  {bs : List Nat} {t ts tq ti tn u v : Tok} {sS sQ : List Nat} {l q : Addr} {i : Nat} {tk : Tok} {rest : List (Addr × Obj)} {ps : Array Value} {vs : List Value} {c ch : Nat} {k : KF}
theorem hkS_dup {x : Str} {va vb : Value} {r : List (Str × Value × An)} {e : Stmt} {o : List (Addr × AO)} (h : HkS w A E cn L a ccd h₀ m₁ rest e ((x, va, none) :: r) o tk k) : HkS w A E cn L a ccd h₀ m₁ rest e ((x, va, none) :: (x, vb, none) :: r) o tk k := fun s Q F N ht hQ => h s Q (fr_dup F) N ht hQ
theorem wp_toks {M : Model} {A : Around} {E : Value → Shared → Prop} {c : Sem Flow} {Q : Flow → Shared → Prop} {s : Shared} {k : Nat} (hk : k ≤ s.toks) (h : wpAny M A c (fun f s₁ => k ≤ s₁.toks → Q f s₁) E s) : wpAny M A c Q E s := wpAny_mono (wpAny_toks_of (n := k) hk h) (fun f s₁ x => x.2 x.1) (fun _ _ x => x.2)
theorem run_tr {n : Nat} {m : List (Str × Value × An)} {o : List (Addr × AO)} {hs : List (Nat × Bool)} {b : List Stmt} (X : (Mine.K w.params).In h₀) (T : Top p loose mean mg mb h₀) (F : Fr h₀ L s.heap (denM m m₁)) (N : News h₀ L s.heap (denO o ++ rest)) (hm : ∀ z ∈ m, z.2.2 = none)
    (h : xRun (trC w (HkS w A E cn L a ccd h₀ m₁ rest)) n b m o s.toks hs (FinR h₀ L m₁ rest Q s)) : wpAny (model PySem.Challenge.pw_il0113_01 w) A (execs b (envX cn (fnS trF) L a ccd [])) Q E s := by
  refine run_hk (trC w (HkS w A E cn L a ccd h₀ m₁ rest)) n m o hs (tr_has X T) (tr_inv hm) F N (fun e st k h _ s' Q R hq => ?_) h
  refine h s' Q R.F R.N R.tk fun f m' o' tk' h' hs' hk hm F' N' => hq f ⟨m', o', tk', hs'⟩ _ hk (tr_inv hm) ⟨F', N', rfl, ?_⟩
  rw [R.eq]
theorem item_S {j : Int} (h : bs[i]? = some c) (hj : j = (i : Int)) : Txt.item (S bs) j = S [c] := by
  subst hj
  obtain ⟨hp, he⟩ := List.getElem?_eq_some_iff.mp h
  have e : Txt.charAt (S bs) (i : Int) = some c := by
    have hl : (S bs).length = bs.length := S_len bs
    have e1 : PySem.seqIndex? (i : Int) bs.length = some i := by
      unfold PySem.seqIndex?
      simp
      omega
    show ((PySem.seqIndex? (i : Int) (S bs).length).bind fun x => (S bs).cps[x]?) = some c
    rw [hl, e1]
    show (bs.toArray)[i]? = some c
    simpa using h
  show (⟨#[(Txt.charAt (S bs) (i : Int)).getD 0]⟩ : Str) = S [c]
  rw [e]
  rfl
theorem tr_ok {j : Int} (h : bs[i]? = some c) (hb : bs.length ≤ 1000) (hj : j = (i : Int)) : trOk (S bs) j = true := by
  have hp := (List.getElem?_eq_some_iff.mp h).1
  have hl : (S bs).length = bs.length := S_len bs
  show (decide (0 ≤ j) && (decide (j < ((S bs).length : Int)) && Nat.ble (S bs).length 1000000)) = true
  rw [hl, decide_eq_true (by omega), decide_eq_true (by omega), Nat.ble_eq_true_of_le (by omega)]
  rfl
theorem tr_no {x : Str} {d : Nat} {z : String} (h : x = S [c]) (e : (Str.ofString z).cps.toList = [d]) (hn : c ≠ d) : trIs x z = false := by
  subst h
  show ([c] == (Str.ofString z).cps.toList) = false
  rw [e]
  simpa using hn
theorem tr_yes {x : Str} {z : String} (h : x = S [c]) (e : (Str.ofString z).cps.toList = [c]) : trIs x z = true := by
  subst h
  show ([c] == (Str.ofString z).cps.toList) = true
  rw [e]
  simp
theorem star_L : (Str.ofString "*").cps.toList = [42] := by decide +kernel
theorem one_L : (Str.ofString "?").cps.toList = [63] := by decide +kernel
theorem bra_L : (Str.ofString "[").cps.toList = [91] := by decide +kernel
theorem ket_L : (Str.ofString "]").cps.toList = [93] := by decide +kernel
theorem exc_L : (Str.ofString "!").cps.toList = [33] := by decide +kernel
theorem turn_oth (B : Below A₀ base outer h₀) (X : (Mine.K w.params).In h₀) (T : Top p loose mean mg mb h₀) (hdp : dp + 20 < recursionLimit) (hun : un + 150 < cLine) (hl2 : 107 < l ∧ AllLt l rest) (hl1 : @LT.lt Nat _ l q ∧ 107 < q ∧ AllLt q rest) (hle : vs.length ≤ 1000) (hb : bs.length ≤ 1000)
    (F : Fr h₀ L s.heap (denM (trM bs t ts tq ti tn sS sQ l q i) m₁)) (N : News h₀ L s.heap (denO (trO l q ps vs c) ++ rest)) (hc : bs[i]? = some ch) (h128 : ch < 128) (h1 : ch ≠ 42) (h2 : ch ≠ 63) (h3 : ch ≠ 91)
    (K : ∀ c' t9 tk' h' u v, s.toks ≤ t9 → Fr h₀ L h' (denM (trc bs i u v (trM bs t ts tq ti tn sS sQ l q i)) m₁) → News h₀ L h' (denO (trO l q ps (vs ++ [Value.str (S (esc ch)) t9]) c') ++ rest) → Q .next { s with heap := h', toks := tk' }) :
    wpAny (model PySem.Challenge.pw_il0113_01 w) (ktrTop dp un gd cn (fnS trF) L a ccd [] outer) (execs trT (envX cn (fnS trF) L a ccd [])) Q E s :=
  have hi := item_S hc rfl
  run_tr X T F N trM_none (Eq.mpr eq_oth ⟨tr_ok hc hb rfl, tr_no hi star_L h1, tr_no hi one_L h2, tr_no hi bra_L h3, hk_oth B X T hdp hun hl2 hl1 hle hi h128 fun c' tk' t9 ht => nxr_end (nxr_end (nxr_end (nxr_end fun h' F' N' => K _ _ _ _ _ _ (Nat.le_trans (Nat.le_add_right _ _) ht) F' N')))⟩)
theorem turn_one (B : Below A₀ base outer h₀) (X : (Mine.K w.params).In h₀) (T : Top p loose mean mg mb h₀) (hdp : dp + 20 < recursionLimit) (hun : un + 150 < cLine) (hl2 : 107 < l ∧ AllLt l rest) (hl1 : @LT.lt Nat _ l q ∧ 107 < q ∧ AllLt q rest) (hle : vs.length ≤ 1000) (hb : bs.length ≤ 1000)
    (F : Fr h₀ L s.heap (denM (trM bs t ts tq ti tn sS sQ l q i) m₁)) (N : News h₀ L s.heap (denO (trO l q ps vs c) ++ rest)) (hc : bs[i]? = some 63)
    (K : ∀ c' tk' h' u v, Fr h₀ L h' (denM (trc bs i u v (trM bs t ts tq ti tn sS sQ l q i)) m₁) → News h₀ L h' (denO (trO l q ps (vs ++ [Value.str (S sQ) tq]) c') ++ rest) → Q .next { s with heap := h', toks := tk' }) :
    wpAny (model PySem.Challenge.pw_il0113_01 w) (ktrTop dp un gd cn (fnS trF) L a ccd [] outer) (execs trT (envX cn (fnS trF) L a ccd [])) Q E s :=
  have hi := item_S hc rfl
  run_tr X T F N trM_none (Eq.mpr eq_one ⟨tr_ok hc hb rfl, tr_no hi star_L (by decide), tr_yes hi one_L, hk_one B X T hdp hun hl2 hl1 hle fun c' tk' => nxr_end (nxr_end (nxr_end fun h' F' N' => K _ _ _ _ _ F' N'))⟩)
theorem turn_star0 (B : Below A₀ base outer h₀) (X : (Mine.K w.params).In h₀) (T : Top p loose mean mg mb h₀) (hdp : dp + 20 < recursionLimit) (hun : un + 150 < cLine) (hl2 : 107 < l ∧ AllLt l rest) (hl1 : @LT.lt Nat _ l q ∧ 107 < q ∧ AllLt q rest) (hb : bs.length ≤ 1000)
    (F : Fr h₀ L s.heap (denM (trM bs t ts tq ti tn sS sQ l q i) m₁)) (N : News h₀ L s.heap (denO (trO l q ps [] c) ++ rest)) (hc : bs[i]? = some 42)
    (K : ∀ c' tk' h' u v, Fr h₀ L h' (denM (trc bs i u v (trM bs t ts tq ti tn sS sQ l q i)) m₁) → News h₀ L h' (denO (trO l q ps [Value.str (S sS) ts] c') ++ rest) → Q .next { s with heap := h', toks := tk' }) :
    wpAny (model PySem.Challenge.pw_il0113_01 w) (ktrTop dp un gd cn (fnS trF) L a ccd [] outer) (execs trT (envX cn (fnS trF) L a ccd [])) Q E s :=
  have hi := item_S hc rfl
  run_tr X T F N trM_none (Eq.mpr eq_star ⟨tr_ok hc hb rfl, tr_yes hi star_L, hk_star0 B X T hdp hun hl2 hl1 fun c' tk' => nxr_end (nxr_end fun h' F' N' => K _ _ _ _ _ F' N')⟩)
theorem turn_star1 {z : List Nat} {zt : Tok} (B : Below A₀ base outer h₀) (X : (Mine.K w.params).In h₀) (T : Top p loose mean mg mb h₀) (hdp : dp + 20 < recursionLimit) (hun : un + 150 < cLine) (hl2 : 107 < l ∧ AllLt l rest) (hl1 : @LT.lt Nat _ l q ∧ 107 < q ∧ AllLt q rest) (hb : bs.length ≤ 1000) (hle : vs.length ≤ 1000) (hle1 : (vs ++ [Value.str (S z) zt]).length ≤ 1000) (hz : (S z == S sS) = false) (h0 : 0 < ts) (h1 : ts < zt)
    (F : Fr h₀ L s.heap (denM (trM bs t ts tq ti tn sS sQ l q i) m₁)) (N : News h₀ L s.heap (denO (trO l q ps (vs ++ [Value.str (S z) zt]) c) ++ rest)) (hc : bs[i]? = some 42)
    (K : ∀ c' tk' h' u v, Fr h₀ L h' (denM (trc bs i u v (trM bs t ts tq ti tn sS sQ l q i)) m₁) → News h₀ L h' (denO (trO l q ps (vs ++ [Value.str (S z) zt] ++ [Value.str (S sS) ts]) c') ++ rest) → Q .next { s with heap := h', toks := tk' }) :
    wpAny (model PySem.Challenge.pw_il0113_01 w) (ktrTop dp un gd cn (fnS trF) L a ccd [] outer) (execs trT (envX cn (fnS trF) L a ccd [])) Q E s :=
  have hi := item_S hc rfl
  run_tr X T F N trM_none (Eq.mpr eq_star ⟨tr_ok hc hb rfl, tr_yes hi star_L, hk_star1 B X T hdp hun hl2 hl1 hle hle1 hz h0 h1 fun c' tk' => nxr_end (nxr_end fun h' F' N' => K _ _ _ _ _ F' N')⟩)
variable {i0 i1 j : Int} {ti0 tj : Tok} {cv : Value} {y z : List Nat}
noncomputable def TrLk (bs : List Nat) (t ts tq : Tok) (sS sQ : List Nat) (l q : Addr) (j : Int) (mm : Str → Option Value) : Prop :=
  (∃ ti, mm (Str.ofString "i") = some (.int j ti)) ∧ (∃ tn, mm (Str.ofString "n") = some (.int (bs.length : Int) tn)) ∧ mm (Str.ofString "add") = some (.ref q) ∧ mm (Str.ofString "res") = some (.ref l) ∧ mm (Str.ofString "pat") = some (.str (S bs) t) ∧ mm (Str.ofString "STAR") = some (.str (S sS) ts) ∧ mm (Str.ofString "QUESTION_MARK") = some (.str (S sQ) tq)
noncomputable def TrYZ (y z : List Nat) : Prop := (y = [42] ∧ z = [91, 42, 93]) ∨ (y = [63] ∧ z = [91, 63, 93]) ∨ (y = [91] ∧ z = [91, 92, 91, 93]) ∨ (y = [33, 97] ∧ z = [91, 94, 97, 93])
theorem tr_D (B : Below A₀ base outer h₀) (X : (Mine.K w.params).In h₀) (T : Top p loose mean mg mb h₀) (hdp : dp + 20 < recursionLimit) (hun : un + 150 < cLine) (hl2 : 107 < l ∧ AllLt l rest) (hl1 : @LT.lt Nat _ l q ∧ 107 < q ∧ AllLt q rest) (hle : vs.length ≤ 1000) (hd : TrYZ y z)
    (K : ∀ (t9 : Tok) c' m', TrLk bs t ts tq sS sQ l q (j + 1) (denM m' m₁) → k .next ⟨m', trO l q ps (vs ++ [Value.str (S z) t9]) c', t9 + 1, []⟩) :
    xGo (trC w (HkS w (ktrTop dp un gd cn (fnS trF) L a ccd [] outer) E cn L a ccd h₀ m₁ rest)) 43 (trE.drop 3) ⟨trSM i0 ti0 cv bs y t ts tq ti tn tj u sS sQ l q i1 j, trO l q ps vs c, tk, []⟩ k := by
  rcases hd with ⟨rfl, rfl⟩ | ⟨rfl, rfl⟩ | ⟨rfl, rfl⟩ | ⟨rfl, rfl⟩
  · exact Eq.mpr (eq_D1 (.inl rfl)) (hk_add (z := S [91, 42, 93]) B X T hdp hun hl2 hl1 hle (by decide +kernel) (by decide +kernel) (none_cons (none_cons trJM_none)) rfl rfl fun t9 c' => nxr_end (nxr_end (nxr_end (K _ _ _ ⟨⟨_, rfl⟩, ⟨_, rfl⟩, rfl, rfl, rfl, rfl, rfl⟩))))
  · exact Eq.mpr (eq_D1 (.inr rfl)) (hk_add (z := S [91, 63, 93]) B X T hdp hun hl2 hl1 hle (by decide +kernel) (by decide +kernel) (none_cons (none_cons trJM_none)) rfl rfl fun t9 c' => nxr_end (nxr_end (nxr_end (K _ _ _ ⟨⟨_, rfl⟩, ⟨_, rfl⟩, rfl, rfl, rfl, rfl, rfl⟩))))
  · exact Eq.mpr eq_D2 fun t1 n1 => hk_add (z := S [91, 92, 91, 93]) B X T hdp hun hl2 hl1 hle (by decide +kernel) (by decide +kernel) (none_cons (none_cons (none_cons trJM_none))) rfl rfl fun t9 c' => nxr_end (nxr_end (nxr_end (K _ _ _ ⟨⟨_, rfl⟩, ⟨_, rfl⟩, rfl, rfl, rfl, rfl, rfl⟩)))
  · exact Eq.mpr eq_D3 fun t1 n1 t2 n2 => hk_add (z := S [91, 94, 97, 93]) B X T hdp hun hl2 hl1 hle (by decide +kernel) (by decide +kernel) (none_cons (none_cons (none_cons trJM_none))) rfl rfl fun t9 c' => nxr_end (nxr_end (nxr_end (K _ _ _ ⟨⟨_, rfl⟩, ⟨_, rfl⟩, rfl, rfl, rfl, rfl, rfl⟩)))
theorem tr_tail (B : Below A₀ base outer h₀) (X : (Mine.K w.params).In h₀) (T : Top p loose mean mg mb h₀) (hdp : dp + 20 < recursionLimit) (hun : un + 150 < cLine) (hl2 : 107 < l ∧ AllLt l rest) (hl1 : @LT.lt Nat _ l q ∧ 107 < q ∧ AllLt q rest) (hle : vs.length ≤ 1000) (hr : ∀ r ∈ rest, r.1 ≠ 107) (hps : PsOk lpos ps) (hd : TrYZ y z) (hb : bs.length ≤ 1000) (hE : PassesOwn (model PySem.Challenge.pw_il0113_01 w) (ktrTop dp un gd cn (fnS trF) L a (.ref 111) [] outer) (envX cn (fnS trF) L a (.ref 111) []) E)
    (f1 : decide (j < (bs.length : Int)) = true) (f2 : trOk (S bs) j = true) (f3 : trIs (Txt.item (S bs) j) "]" = false) (g1 : decide (j + 1 < (bs.length : Int)) = true) (g2 : trOk (S bs) (j + 1) = true) (g3 : trIs (Txt.item (S bs) (j + 1)) "]" = true)
    (hsl : Txt.slice (S bs) (some i1) (some (j + 1)) = S y)
    (K : ∀ (t9 : Tok) c' m' ps', PsOk lpos ps' → TrLk bs t ts tq sS sQ l q (j + 1 + 1) (denM m' m₁) → k .next ⟨m', trO l q ps' (vs ++ [Value.str (S z) t9]) c', t9 + 1, []⟩) :
    HkS w (ktrTop dp un gd cn (fnS trF) L a (.ref 111) [] outer) E cn L a (.ref 111) h₀ m₁ rest trH (trJM i0 ti0 cv bs t ts tq ti tn tj sS sQ l q i1 j) (trO l q ps vs c) tk (trU w (HkS w (ktrTop dp un gd cn (fnS trF) L a (.ref 111) [] outer) E cn L a (.ref 111) h₀ m₁ rest) k) := by
  have hl : (S y).length = y.length := S_len y
  have hy : noSub y = true ∧ 0 < y.length ∧ y.length ≤ 1000 ∧ (S y).cps.toList.contains 45 = false ∧ Txt.replace (S y) (Str.ofString "\\") (Str.ofString "\\\\") = S y := by
    rcases hd with ⟨rfl, _⟩ | ⟨rfl, _⟩ | ⟨rfl, _⟩ | ⟨rfl, _⟩ <;> exact ⟨by decide +kernel, by decide, by decide, by decide +kernel, by decide +kernel⟩
  refine hk_while X T hE f1 f2 f3 g1 g2 g3 fun tj tk' => (Eq.mpr eq_B ⟨?b1, ?b2, fun t1 n1 => ⟨?b3, hk_rep B X T hdp hun hl2 hl1 hle hsl hy.2.2.2.2 ?b4 ?b5 fun ty tk' => nxr_end (Eq.mpr eq_C (hk_sub B X T hdp hun hl2 hl1 hle hr hps hy.1 hy.2.1 hy.2.2.1 fun ty ps' tk' hP => tr_D B X T hdp hun hl2 hl1 hle hd fun t9 c' m' hm => nxr_end (nxr_end (nxr_end (nxr_end (K _ _ _ _ hP hm))))))⟩⟩ :)
  case b1 => exact decide_eq_false (by have := of_decide_eq_true g1; omega)
  case b2 => exact Nat.ble_eq_true_of_le (by rw [S_len bs]; omega)
  case b3 => rw [hsl]; exact hy.2.2.2.1
  case b4 => rw [hl]; omega
  case b5 => exact Nat.succ_pos _
theorem turn_set {xc : Nat} (B : Below A₀ base outer h₀) (X : (Mine.K w.params).In h₀) (T : Top p loose mean mg mb h₀) (hdp : dp + 20 < recursionLimit) (hun : un + 150 < cLine) (hl2 : 107 < l ∧ AllLt l rest) (hl1 : @LT.lt Nat _ l q ∧ 107 < q ∧ AllLt q rest) (hle : vs.length ≤ 1000) (hr : ∀ r ∈ rest, r.1 ≠ 107) (hps : PsOk lpos ps) (hb : bs.length ≤ 1000) (hE : PassesOwn (model PySem.Challenge.pw_il0113_01 w) (ktrTop dp un gd cn (fnS trF) L a (.ref 111) [] outer) (envX cn (fnS trF) L a (.ref 111) []) E)
    (F : Fr h₀ L s.heap (denM (trM bs t ts tq ti tn sS sQ l q i) m₁)) (N : News h₀ L s.heap (denO (trO l q ps vs c) ++ rest)) (hc : bs[i]? = some 91) (hc1 : bs[i + 1]? = some xc) (hc2 : bs[i + 2]? = some 93) (hd : TrYZ [xc] z) (h1 : xc ≠ 33) (h2 : xc ≠ 93)
    (K : ∀ (t9 : Tok) c' mm ps' h', PsOk lpos ps' → TrLk bs t ts tq sS sQ l q ((i : Int) + 1 + 1 + 1) mm → Fr h₀ L h' mm → News h₀ L h' (denO (trO l q ps' (vs ++ [Value.str (S z) t9]) c') ++ rest) → Q .next { s with heap := h', toks := t9 + 1 }) :
    wpAny (model PySem.Challenge.pw_il0113_01 w) (ktrTop dp un gd cn (fnS trF) L a (.ref 111) [] outer) (execs trT (envX cn (fnS trF) L a (.ref 111) [])) Q E s :=
  have hi := item_S hc rfl
  have hi1 : Txt.item (S bs) ((i : Int) + 1) = S [xc] := item_S hc1 rfl
  have hi2 : Txt.item (S bs) ((i : Int) + 1 + 1) = S [93] := item_S hc2 rfl
  have l1 : decide ((i : Int) + 1 < (bs.length : Int)) = true := decide_eq_true (by have := (List.getElem?_eq_some_iff.mp hc1).1; omega)
  have l2 : decide ((i : Int) + 1 + 1 < (bs.length : Int)) = true := decide_eq_true (by have := (List.getElem?_eq_some_iff.mp hc2).1; omega)
  run_tr X T F N trM_none (Eq.mpr eq_set ⟨tr_ok hc hb rfl, tr_no hi star_L (by decide), tr_no hi one_L (by decide), tr_yes hi bra_L, l1, tr_ok hc1 hb rfl, tr_no hi1 exc_L h1, l1, tr_ok hc1 hb rfl, tr_no hi1 ket_L h2,
    tr_tail B X T hdp hun hl2 hl1 hle hr hps hd hb hE l1 (tr_ok hc1 hb rfl) (tr_no hi1 ket_L h2) l2 (tr_ok hc2 hb rfl) (tr_yes hi2 ket_L) (slice1 hc1) fun t9 c' m' ps' hP hm h' F' N' => K t9 c' _ ps' h' hP hm F' N'⟩)
theorem turn_neg (B : Below A₀ base outer h₀) (X : (Mine.K w.params).In h₀) (T : Top p loose mean mg mb h₀) (hdp : dp + 20 < recursionLimit) (hun : un + 150 < cLine) (hl2 : 107 < l ∧ AllLt l rest) (hl1 : @LT.lt Nat _ l q ∧ 107 < q ∧ AllLt q rest) (hle : vs.length ≤ 1000) (hr : ∀ r ∈ rest, r.1 ≠ 107) (hps : PsOk lpos ps) (hb : bs.length ≤ 1000) (hE : PassesOwn (model PySem.Challenge.pw_il0113_01 w) (ktrTop dp un gd cn (fnS trF) L a (.ref 111) [] outer) (envX cn (fnS trF) L a (.ref 111) []) E)
    (F : Fr h₀ L s.heap (denM (trM bs t ts tq ti tn sS sQ l q i) m₁)) (N : News h₀ L s.heap (denO (trO l q ps vs c) ++ rest)) (hc : bs[i]? = some 91) (hc1 : bs[i + 1]? = some 33) (hc2 : bs[i + 1 + 1]? = some 97) (hc3 : bs[i + 3]? = some 93)
    (K : ∀ (t9 : Tok) c' mm ps' h', PsOk lpos ps' → TrLk bs t ts tq sS sQ l q ((i : Int) + 1 + 1 + 1 + 1) mm → Fr h₀ L h' mm → News h₀ L h' (denO (trO l q ps' (vs ++ [Value.str (S [91, 94, 97, 93]) t9]) c') ++ rest) → Q .next { s with heap := h', toks := t9 + 1 }) :
    wpAny (model PySem.Challenge.pw_il0113_01 w) (ktrTop dp un gd cn (fnS trF) L a (.ref 111) [] outer) (execs trT (envX cn (fnS trF) L a (.ref 111) [])) Q E s :=
  have hi := item_S hc rfl
  have hi1 : Txt.item (S bs) ((i : Int) + 1) = S [33] := item_S hc1 rfl
  have hi2 : Txt.item (S bs) ((i : Int) + 1 + 1) = S [97] := item_S hc2 rfl
  have hi3 : Txt.item (S bs) ((i : Int) + 1 + 1 + 1) = S [93] := item_S hc3 rfl
  have l1 : decide ((i : Int) + 1 < (bs.length : Int)) = true := decide_eq_true (by have := (List.getElem?_eq_some_iff.mp hc1).1; omega)
  have l2 : decide ((i : Int) + 1 + 1 < (bs.length : Int)) = true := decide_eq_true (by have := (List.getElem?_eq_some_iff.mp hc2).1; omega)
  have l3 : decide ((i : Int) + 1 + 1 + 1 < (bs.length : Int)) = true := decide_eq_true (by have := (List.getElem?_eq_some_iff.mp hc3).1; omega)
  run_tr X T F N trM_none (Eq.mpr eq_neg ⟨tr_ok hc hb rfl, tr_no hi star_L (by decide), tr_no hi one_L (by decide), tr_yes hi bra_L, l1, tr_ok hc1 hb rfl, tr_yes hi1 exc_L, l2, tr_ok hc2 hb rfl, tr_no hi2 ket_L (by decide),
    hkS_dup (tr_tail (z := [91, 94, 97, 93]) B X T hdp hun hl2 hl1 hle hr hps (.inr (.inr (.inr ⟨rfl, rfl⟩))) hb hE l2 (tr_ok hc2 hb rfl) (tr_no hi2 ket_L (by decide)) l3 (tr_ok hc3 hb rfl) (tr_yes hi3 ket_L) (slice2 hc1 hc2) fun t9 c' m' ps' hP hm h' F' N' => K t9 c' _ ps' h' hP hm F' N')⟩)
end
theorem trans_c (w : World) (bs : List Nat) (t ts tq : Tok) (sS sQ : List Nat) (P : List (List Nat × List Nat)) (ps : Array Value) (rest : List (Addr × Obj)) (hb : bs.length ≤ 1000) (hP : ∀ x ∈ P, Pc sS sQ x.1 x.2) (hbs : bs = (P.map (·.1)).flatten) (hadj : Adj sS sQ P) (hps : PsOk lpos ps) (hr : ∀ r ∈ rest, r.1 ≠ 107) :
    ToldP PySem.Challenge.pw_il0113_01 w (Mine.K w.params) 30 200 (fun n => 0 < ts ∧ ts < n) (.ref 112) [.str (S bs) t, .str (S sS) ts, .str (S sQ) tq] ((107, tabO ps) :: rest)
      (fun r nw => ∃ (l : Addr) (vs : List Value) (c : Nat) (ps' : Array Value), r = .ref l ∧ nw = (l, listOf vs.toArray c) :: (107, tabO ps') :: rest ∧ PsOk lpos ps' ∧ StrsAre vs (P.map fun x => S x.2)) := by
  have hlen : (S bs).length = bs.length := S_len bs
  intro p loose mean mg mb dp un gd cn cs a ccd cl outer A₀ base h₀ L m s Q E B F X N T hk hdp hun hpre hret
  have kt : KTokE (ts + 1) := ⟨⟩
  have hts : @LE.le Nat _ (@HAdd.hAdd Nat Nat Nat _ ts 1) s.toks := hpre.2
  refine wpAny_call ?_
  k_dflt (refine' code_def ?k1 ?k2 ?k3 ?k4 ?k5 ?kA ?kF ?kK ?k6 ?k7 ?k8 ?k9 ?kB ?_ ?c2 ?c3 ?c4 ?c5; (case kA => exact rfl); (case kF => exact rfl); (case kK => assumption); (case k1 => k_asm); (case k2 => k_asm); (case k3 => k_asm); (case k4 => k_asm); (case k5 => k_asm); (case k6 => k_is); (case k7 => k_is); (case k8 => ktr_room); (case k9 => first | exact BindsTo.of_eq rfl | exact binds_K (by k_in) rfl (by k_is) rfl rfl rfl); (case c5 => decide); (case kB => exact locs rfl); (case c2 => exact rfl); (case c3 => exact rfl); (case c4 => exact rfl); k_whole; intro g' L' h' FG' F' N' B' X' T'; (try ((refine execs_at (b' := ?kbody) ?kbe ?_); (case kbe => (conv => lhs; whnf)))); (try dsimp only); (try k_fold))
  repeat' (first | ((with_reducible show _ ≤ _ → _); intro htk; (try dsimp only at htk ⊢)) | (k_unfold; (try dsimp only)) | ((fail_if_success (with_reducible show wpAny _ _ (exec (Stmt.While _ _ _ _) _) _ _ _)); (fail_if_success (with_reducible show Q _ _)); first | walk1 | (dsimp only; walk1)))
  (with_reducible rename Fr _ _ _ _ => kF)
  (with_reducible rename News _ _ _ _ => kN)
  (rename _ < _ ∧ _ < _ ∧ AllLt _ rest => hl1)
  (rename _ < _ ∧ AllLt _ rest => hl2)
  rw [hlen] at kF
  (try dsimp only)
  refine While_tok (k := ts + 4) (TrJ bs t ts tq sS sQ P _ _ rest lpos) ?hk kF (news_sub kN ?hsub) (.mk [] P [] 0 0 ps _ _ _ rfl (Nat.zero_le _) (by simpa using hbs) rfl (by intro z hz; cases hz) hps (by rfl) (by rfl) (by rfl) (by rfl) (by rfl) (by rfl) (by rfl)) ?turn
  case hk =>
    (try dsimp only); omega
  case hsub =>
    ((repeat (refine List.forall_mem_cons.mpr ⟨(by first | exact .head _ | exact .tail _ (.head _) | exact .tail _ (.tail _ (.head _)) | exact .tail _ (.tail _ (.tail _ (.head _))) | exact .tail _ (.tail _ (.tail _ (.tail _ (.head _)))) | exact .tail _ (.tail _ (.tail _ (.tail _ (.tail _ (.head _))))) | exact .tail _ (.tail _ (.tail _ (.tail _ (.tail _ (.tail _ (.head _)))))) | exact .tail _ (.tail _ (.tail _ (.tail _ (.tail _ (.tail _ (.tail _ (.head _))))))) | exact .tail _ (.tail _ (.tail _ (.tail _ (.tail _ (.tail _ (.tail _ (.tail _ (.head _)))))))) | exact .tail _ (.tail _ (.tail _ (.tail _ (.tail _ (.tail _ (.tail _ (.tail _ (.tail _ (.head _)))))))))), ?_⟩)); first | exact fun _ h => h | exact fun _ h => .tail _ (h) | exact fun _ h => .tail _ (.tail _ (h)) | exact fun _ h => .tail _ (.tail _ (.tail _ (h))) | exact fun _ h => .tail _ (.tail _ (.tail _ (.tail _ (h)))) | exact fun _ h => .tail _ (.tail _ (.tail _ (.tail _ (.tail _ (h))))) | exact fun _ h => .tail _ (.tail _ (.tail _ (.tail _ (.tail _ (.tail _ (h)))))) | exact fun _ h => .tail _ (.tail _ (.tail _ (.tail _ (.tail _ (.tail _ (.tail _ (h))))))) | exact fun _ h => .tail _ (.tail _ (.tail _ (.tail _ (.tail _ (.tail _ (.tail _ (.tail _ (h)))))))) | exact fun _ h => .tail _ (.tail _ (.tail _ (.tail _ (.tail _ (.tail _ (.tail _ (.tail _ (.tail _ (h))))))))) | exact fun _ h => nomatch h)
  case turn =>
    rintro n m₁ news₁ h₁ tk₁ htk₁ F₁ N₁ ⟨done, todo, zs, i, c, ps1, ti, tn, _, hPd, hile, hdr, hzs, htok, hps1, e1, e2, e3, e4, e5, e6, e7⟩ QQ hQQ
    rw [m7 m₁ _ _ _ _ _ _ _ _ _ _ _ _ _ _ e1 e2 e3 e4 e5 e6 e7] at F₁
    clear kF kN kt
    have kt : KTok (ts + 4) := ⟨⟩
    have ha0 := trans_apart hl2 hl1
    cases todo with
    | nil =>
      have hi : i = bs.length := by
        have := drop_nil hdr
        omega
      repeat' (first | ((with_reducible show _ ≤ _ → _); intro htk; (try dsimp only at htk ⊢)) | (k_unfold; (try dsimp only)) | ((fail_if_success (with_reducible show QQ _ _)); (fail_if_success (with_reducible show Q _ _)); first | walk1 | (dsimp only; walk1)))
      all_goals (try (exfalso; omega))
      (with_reducible rename Fr _ _ _ _ => kF)
      (with_reducible rename News _ _ _ _ => kN)
      rw [List.append_nil] at hPd
      subst hPd
      refine hret _ _ _ _ kF (news_sub kN fun r hr => ?_) ⟨_, _, c, ps1, rfl, rfl, hps1, strs_zv' hzs⟩
      simp only [List.mem_cons] at hr ⊢
      rcases hr with h | h | h <;> simp [h]
    | cons x todo =>
      have hx := hP x (by rw [hPd]; simp)
      have hle : (zs.map zv).length ≤ 1000 := by
        have h1 := congrArg List.length hzs
        have h2 := pcs_len hP
        rw [← hbs, hPd] at h2
        simp only [List.length_map, List.length_append] at h1 h2 ⊢
        omega
      obtain ⟨px, py⟩ := x
      dsimp only at hx
      obtain ⟨hd1, hpl⟩ := flat_drop hdr hile
      have hpos : 0 < px.length := by cases hx <;> exact Nat.succ_pos _
      have hlt : i < bs.length := by omega
      replace F₁ : Fr _ _ h₁ (denM (trM bs t ts tq ti tn sS sQ _ _ (i : Int)) m₁) := F₁
      repeat' (first | ((fail_if_success (with_reducible show wpAny _ _ (execs _ _) _ _ _)); walk1))
      (with_reducible rename Fr _ _ _ _ => kF)
      (with_reducible rename News _ _ _ _ => kN)
      refine execs_at (b' := trT) (by kernel_rfl) (wp_toks (k := ts + 4) ?hk2 ?_)
      (case hk2 => exact htk₁)
      cases hx with
      | oth ch h128 hn1 hn2 hn3 =>
        refine turn_oth B' X' T' ?d1 ?u1 hl2 hl1 hle hb kF kN (flat_at (k := 0) hdr rfl) h128 hn1 hn2 hn3 fun c' t9 tk' h' u v ht F' N' _ => hQQ _ _ _ _ todo.length F' N' (Nat.lt_succ_self _) (TrJ.next hPd hzs htok hps1 hd1 hpl (fun _ _ => Nat.lt_of_lt_of_le (Nat.lt_of_lt_of_le (Nat.lt_add_of_pos_right (by decide)) htk₁) ht) rfl rfl rfl rfl rfl rfl rfl)
        case d1 => (show dp + 1 + 20 < recursionLimit); omega
        case u1 => ktr_units
      | one =>
        refine turn_one B' X' T' ?d1 ?u1 hl2 hl1 hle hb kF kN (flat_at (k := 0) hdr rfl) fun c' tk' h' u v F' N' _ => hQQ _ _ _ _ todo.length F' N' (Nat.lt_succ_self _) (TrJ.next hPd hzs htok hps1 hd1 hpl (fun _ h => absurd rfl h) rfl rfl rfl rfl rfl rfl rfl)
        case d1 => (show dp + 1 + 20 < recursionLimit); omega
        case u1 => ktr_units
      | star =>
        rcases List.eq_nil_or_concat zs with rfl | ⟨zs1, zl, hzc⟩
        · refine turn_star0 B' X' T' ?d1 ?u1 hl2 hl1 hb kF kN (flat_at (k := 0) hdr rfl) fun c' tk' h' u v F' N' _ => hQQ _ _ _ _ todo.length F' N' (Nat.lt_succ_self _) (TrJ.next hPd hzs htok hps1 hd1 hpl (fun h => absurd rfl h) rfl rfl rfl rfl rfl rfl rfl)
          case d1 => (show dp + 1 + 20 < recursionLimit); omega
          case u1 => ktr_units
        · rw [List.concat_eq_append] at hzc
          subst hzc
          obtain ⟨z1, zt⟩ := zl
          obtain ⟨d1, a1, rfl⟩ : ∃ d1 a1, done = d1 ++ [a1] := by
            rcases List.eq_nil_or_concat done with rfl | ⟨d1, a1, rfl⟩
            · simp at hzs
            · exact ⟨d1, a1, by rw [List.concat_eq_append]⟩
          have hz1 : z1 = a1.2 := by
            simp at hzs
            exact hzs.2
          have hne := Adj.at d1 (by rw [hPd, List.append_assoc] at hadj; exact hadj) rfl
          have hzt : ts < zt := htok (z1, zt) (by simp) (by rw [hz1]; exact hne.1) (by rw [hz1]; exact hne.2)
          have g1 : (S z1 == S sS) = false := S_ne (by rw [hz1]; exact hne.1)
          have ez : (zs1 ++ [(z1, zt)]).map zv = zs1.map zv ++ [Value.str (S z1) zt] := by rw [List.map_append]; rfl
          rw [ez] at kN hle
          have hle1 : (zs1.map zv).length ≤ 1000 := by
            rw [List.length_append] at hle
            omega
          refine turn_star1 B' X' T' ?d1 ?u1 hl2 hl1 hb hle1 hle g1 hpre.1 hzt kF kN (flat_at (k := 0) hdr rfl) fun c' tk' h' u v F' N' _ => ?_
          case d1 => (show dp + 1 + 20 < recursionLimit); omega
          case u1 => ktr_units
          rw [← ez] at N'
          exact hQQ _ _ _ _ todo.length F' N' (Nat.lt_succ_self _) (TrJ.next hPd hzs htok hps1 hd1 hpl (fun h => absurd rfl h) rfl rfl rfl rfl rfl rfl rfl)
      | set xc hxc =>
        refine turn_set (z := if xc = 91 then [91, 92, 91, 93] else [91, xc, 93]) B' X' T' ?d1 ?u1 hl2 hl1 hle hr hps1 hb (by passes_own) kF kN (flat_at (k := 0) hdr rfl) (flat_at (k := 1) hdr rfl) (flat_at (k := 2) hdr rfl) ?yz ?n1 ?n2 fun t9 c' mm ps' h' hP hm F' N' ht => ?_
        case d1 => (show dp + 1 + 20 < recursionLimit); omega
        case u1 => ktr_units
        case yz =>
          unfold TrYZ
          rcases hxc with rfl | rfl | rfl <;> decide
        case n1 => omega
        case n2 => omega
        obtain ⟨⟨_, m1⟩, ⟨_, m2⟩, m3, m4, m5, m6, m7'⟩ := hm
        exact hQQ _ _ _ _ todo.length F' N' (Nat.lt_succ_self _) (TrJ.next hPd hzs htok hP hd1 hpl (fun _ _ => by (have ht : @LE.le Nat _ (ts + 4) (t9 + 1) := ht); (show @LT.lt Nat _ ts t9); omega) m1 m2 m3 m4 m5 m6 m7')
      | neg =>
        refine turn_neg B' X' T' ?d1 ?u1 hl2 hl1 hle hr hps1 hb (by passes_own) kF kN (flat_at (k := 0) hdr rfl) (flat_at (k := 1) hdr rfl) (flat_at (k := 2) hdr rfl) (flat_at (k := 3) hdr rfl) fun t9 c' mm ps' h' hP hm F' N' ht => ?_
        case d1 => (show dp + 1 + 20 < recursionLimit); omega
        case u1 => ktr_units
        obtain ⟨⟨_, m1⟩, ⟨_, m2⟩, m3, m4, m5, m6, m7'⟩ := hm
        exact hQQ _ _ _ _ todo.length F' N' (Nat.lt_succ_self _) (TrJ.next hPd hzs htok hP hd1 hpl (fun _ _ => by (have ht : @LE.le Nat _ (ts + 4) (t9 + 1) := ht); (show @LT.lt Nat _ ts t9); omega) m1 m2 m3 m4 m5 m6 m7')
end
section
/-- a call that leaves all that stood as it stood, with a word on what it adds -/
noncomputable def ToldH (prog : Program) (w : World) (K : Frag) (dpn unn : Nat) (Pre : Heap → Prop) (f : Value) (args : List Value) (Post : Heap → Value → Heap → Prop) : Prop :=
  ∀ (p : Program) (loose : List Str) (mean : ExcName → Option Value) (mg mb : Str → Option Value) (A : Around) (s : Shared) (Q E : Value → Shared → Prop),
    K.In s.heap → Top p loose mean mg mb s.heap → A.handled = none → A.depth + dpn < recursionLimit → A.units + unn < cLine → Pre s.heap →
    (∀ r h' tk', (∀ b o, s.heap.get? b = some o → h'.get? b = some o) → Post s.heap r h' → Q r { s with heap := h', toks := tk' }) → wpAny (model prog w) A (call f args) Q E s
/-- a new list of texts -/
noncomputable def NewL (xs : List (List Nat)) (h : Heap) (r : Value) (h' : Heap) : Prop := ∃ l vs c, r = .ref l ∧ h.get? l = none ∧ h'.get? l = some (listOf vs.toArray c) ∧ StrsAre vs (xs.map S)
section
variable {prog : Program} {w : World} {A : Around} {E : Value → Shared → Prop} {s : Shared}
theorem NewL.of {h₀ h : Heap} {L l : Addr} {vs : List Value} {c : Nat} {news : List (Addr × Obj)} {xs : List (List Nat)} (N : News h₀ L h ((l, listOf vs.toArray c) :: news)) (hx : StrsAre vs (xs.map S)) : NewL xs h₀ (.ref l) h :=
  ⟨l, vs, c, rfl, (N _ (.head _)).2.2, (N _ (.head _)).1, hx⟩
theorem told_useH {K : Frag} {dpn unn : Nat} {Pre : Heap → Prop} {f : Value} {args : List Value} {xs : List (List Nat)} {p : Program} {loose : List Str} {mean : ExcName → Option Value} {mg mb : Str → Option Value} {h₀ : Heap} {L : Addr} {m : Str → Option Value} {news : List (Addr × Obj)} {Q : Value → Shared → Prop}
    (F : Fr h₀ L s.heap m) (X : K.In h₀) (N : News h₀ L s.heap news) (T : Top p loose mean mg mb h₀) (hh : A.handled = none) (C : ToldH prog w K dpn unn Pre f args (NewL xs)) (hd : A.depth + dpn < recursionLimit) (hu : A.units + unn < cLine) (hp : Pre s.heap)
    (ret : ∀ l vs c h' tk', Fr h₀ L h' m → News h₀ L h' ((l, listOf vs.toArray c) :: news) → (∀ q ∈ news, q.1 ≠ l) → StrsAre vs (xs.map S) → Q (.ref l) { s with heap := h', toks := tk' }) : wpAny (model prog w) A (call f args) Q E s := by
  refine C p loose mean mg mb A s Q E (X.keeps F.keep) (T.keeps F.keep) hh hd hu hp ?_
  rintro r h' tk' hk ⟨l, vs, c, rfl, hn, hl, hx⟩
  have hne : ∀ b o, s.heap.get? b = some o → b ≠ l := fun b o e h => by rw [h, hn] at e; cases e
  refine ret l vs c h' tk' (F.keeps hk) (fun q hq => ?_) (fun q hq => hne _ _ (N q hq).1) hx
  rcases List.mem_cons.mp hq with rfl | hq
  · refine ⟨hl, ?_, ?_⟩
    · intro h
      obtain ⟨o, _, _, ho, _⟩ := F.ns
      exact hne _ _ ho h.symm
    · cases e : h₀.get? l with
      | none => rfl
      | some o =>
        have := F.keep _ _ e
        rw [hn] at this; cases this
  · exact ⟨hk _ _ (N q hq).1, (N q hq).2⟩
/-- an item of a list of texts -/
theorem idx_l {value slice : PySem.Expr} {l : Addr} {vs : List Value} {xs : List (List Nat)} {c : Nat} {i : Int} {u : Tok} {Q : Value → Shared → Prop} (hl : s.heap.get? l = some (listOf vs.toArray c)) (hx : StrsAre vs (xs.map S)) (hsz : xs.length ≤ 1000) (h0 : 0 ≤ i) (h1 : i < xs.length) (h : ∀ t, Q (.str (S (xs.getD i.toNat [])) t) s)
    (hs : subscripted slice false (.ref l) (.int i u) = operate [.ref l, .int i u] (getItem (.ref l) (.int i u)) := by with_unfolding_all rfl) :
    wpAny (model prog w) A (subscriptTail value slice (.ref l) (.int i u)) Q E s := by
  have hL : s.heap.IsList l vs.toArray := ⟨_, hl, rfl, c, rfl⟩
  have hlen : vs.length = xs.length := by simpa using hx.length
  have hj : i.toNat < xs.length := by omega
  have e1 : (xs.map S)[i.toNat]? = some (S (xs.getD i.toNat [])) := by
    rw [List.getElem?_map, List.getD_eq_getElem?_getD, List.getElem?_eq_getElem hj]; rfl
  obtain ⟨t, ht⟩ := hx.get i.toNat _ e1
  refine tail_any hL.typeIs slot_list_getitem.lookup (wpAny_getItem_list hL h0 (by omega) ?_ (h t)) hs
  simpa using ht
end
theorem ints_len : ∀ {vs : List Value} {ns : List Int}, IntsAre vs ns → vs.length = ns.length
  | _, _, .nil => rfl
  | _, _, .cons _ _ h => by simp [ints_len h]
theorem news_list {h₀ h : Heap} {L l : Addr} {vs : List Value} {c : Nat} {news : List (Addr × Obj)} (N : News h₀ L h news) (hm : (l, listOf vs.toArray c) ∈ news) : h.IsList l vs.toArray := ⟨_, (N _ hm).1, rfl, c, rfl⟩
open PyProof.Rows.LCg in
/-- the turns of a comprehension that leaves the ledger; the end of a turn is kept as a word of its own -/
theorem comp_pure {prog : Program} {w : World} {A : Around} {h₀ : Heap} {L : Addr} {m : Str → Option Value} {env : Env} {elt : PySem.Expr} {x : Str} {scope : Scope} {cl : List (Str × Addr)} {s : Shared} {SS : List (Addr × Obj) → Prop} {P : Nat → Value → Prop} {Fin : List Value → List (Addr × Obj) → Prop} (n : Nat) (R : Nat → List Value → Prop) (news : List (Addr × Obj))
    (step : ∀ i ys v I oI C oC D m₂ h tk (E' QQ : Value → Shared → Prop), i < n → R i ys → P i v → NsObj oC m₂ → m₂ x = some v → Fr h₀ L h m → News h₀ L h ((I, oI) :: (C, oC) :: (D, lst ys) :: news) → Off3 I C D news → ((@Ne Nat I C) ∧ (@Ne Nat I D) ∧ (@Ne Nat C D)) →
      (∀ y h' tk' all, Fr h₀ L h' m → News h₀ L h' all → (∀ q ∈ (I, oI) :: (C, oC) :: (D, lst ys) :: news, q ∈ all) → R (i + 1) (ys ++ [y]) → QQ y { s with heap := h', toks := tk' }) →
      wpAny (model prog w) A (eval elt (compEnvC scope cl C env)) QQ E' { s with heap := h, toks := tk })
    (fin : ∀ ys, R n ys → Fin ys news) (h0 : R 0 []) (hS : SS news) : CompRest prog w A h₀ L m env elt x scope cl s SS P Fin n 0 [] news := by
  have go : ∀ k i ys, i + k = n → R i ys → CompRest prog w A h₀ L m env elt x scope cl s SS P Fin k i ys news := by
    intro k
    induction k with
    | zero => intro i ys e hR; exact fin ys (by rw [← e]; exact hR)
    | succ k ih =>
      intro i ys e hR
      exact CompRest.succ fun v I oI C oC D m₂ h tk E' hP hC hx F N off ne => step i ys v I oI C oC D m₂ h tk E' _ (by omega) hR hP hC hx F N off ne fun y h' tk' all F' N' hz hR' => CompEnd.intro F' N' news hz off hS (ih (i + 1) _ (by omega) hR')
  exact go n 0 [] (Nat.zero_add _) h0
theorem strs_snoc {vs : List Value} {xs : List Str} {x : Str} {t : Tok} (h : StrsAre vs xs) : StrsAre (vs ++ [.str x t]) (xs ++ [x]) := by
  induction h with
  | nil => exact .cons _ _ .nil
  | cons y u _ ih => exact .cons _ _ ih
theorem take_snoc {α : Type} {l : List α} {i : Nat} {a : α} (h : l[i]? = some a) : l.take (i + 1) = l.take i ++ [a] := by
  rw [List.take_add_one, h]; rfl
/-- entry into a text with cells, over the heap as it stands -/
theorem code_defQC {prog : Program} {w : World} {A : Around} {s : Shared} {K : Frag} {p : Program} {loose : List Str} {mean : ExcName → Option Value} {mg mb : Str → Option Value} {R : Result → Shared → Prop} {name qual : Str} {params : Arguments} {body : List Stmt} {scope : Scope} {dV kV doc pm cdv ct oc : Value} {an od : Option Addr} {osl : Array (Option Value)} {f : Addr} {args : Args} {binds : List (Str × Value)}
    (X : K.In s.heap) (T : Top p loose mean mg mb s.heap) (ho : K.lookup f = some ⟨oc, od, .func (fnOf name qual params body scope dV kV doc pm an cdv ct), osl⟩) (hcd : codeIn K cdv qual = true) (hroom : A.depth < recursionLimit)
    (hbind : BindsTo s (fnOf name qual params body scope dV kV doc pm an cdv ct) args binds) (hkind : (binds.all fun y => scope.names.lookup y.1 == some .local || scope.names.lookup y.1 == some .cell) = true)
    (hnd : ((cellsFrom 0 scope.names []).map (·.1)).Nodup)
    (h : ∀ L' h₁ tk cells, Fr s.heap L' h₁ (bindL (envOfC qual scope L' f cdv).kindOf binds fun _ => none) → News s.heap L' h₁ cells → CellsAre (bindC (envOfC qual scope L' f cdv).kindOf binds fun _ => none) (cellsFrom (L' + 1) scope.names []) cells →
      wpAny (model prog w) (A.deeper (envOfC qual scope L' f cdv)) (execs body (envOfC qual scope L' f cdv))
        (fun fl s' => R (.ok (.ret (match fl with | .ret v => v | _ => .none))) s')
        (fun e s' => wpAny (model prog w) (A.deeper (envOfC qual scope L' f cdv)) (leaving (envOfC qual scope L' f cdv) e) (fun _ s'' => R (.error e) s'') (fun e' s'' => R (.error e') s'') s')
        { s with heap := h₁, toks := tk })
    (hco : scope.isCoroutine = false) (hgen : scope.isGenerator = false) (hk : scope.kind = .function) : codeAny (model prog w) A (.call (.ref f) args) R s := by
  refine codeAny_call_function (fd := fnOf name qual params body scope dV kV doc pm an cdv ct) hroom (X _ _ ho) rfl hco hgen rfl (codeRec_of X hcd) (hbind _ _ _ _ ?_)
  refine wpAny_newFunctionEnv_cells hk (kindsX hkind _) fun env' he s' x => ?_
  subst he
  refine ⟨T.nolimit.keeps x.toInCall.keep, codeAny_func ?_⟩
  obtain ⟨h₁, tk, rfl, _⟩ := x.done
  obtain ⟨cells, NC, Y⟩ := Cl.news (h₀ := s.heap) (Nat.le_refl _) fun n c hm => ⟨x.cell n c (lookup_of_mem_nodup (cellsFrom_names scope.names 0 (s.heap.objs.size + 1) [] [] rfl ▸ hnd) hm), x.above n c hm⟩
  exact h s.heap.objs.size h₁ tk cells ⟨x.toInCall.ns, x.toInCall.keep, Nat.le_refl _⟩ NC Y
theorem eq_nil_t {prog : Program} {w : World} {A : Around} {E : Value → Shared → Prop} {s : Shared} {l b : Addr} {c c2 : Nat} {Q : Value → Shared → Prop} (hl : s.heap.get? l = some (listOf #[] c)) (hb : s.heap.get? b = some (listOf #[] c2)) (hu : A.units < cLine) (h : Q (.bool true) s) : wpAny (model prog w) A (compareOp .Eq (.ref l) (.ref b)) Q E s :=
  SeqAt.eq_listAt (e := fun _ => true) ⟨_, hl, rfl, c, rfl⟩ ⟨_, hb, rfl, c2, rfl⟩ rfl hu (fun j h1 => absurd h1 (Nat.not_lt_zero j)) h
theorem eq_nil_f {prog : Program} {w : World} {A : Around} {E : Value → Shared → Prop} {s : Shared} {l b : Addr} {v : Value} {vs : List Value} {c c2 : Nat} {Q : Value → Shared → Prop} (hl : s.heap.get? l = some (listOf (v :: vs).toArray c)) (hb : s.heap.get? b = some (listOf #[] c2)) (hu : A.units < cLine) (h : Q (.bool false) s) : wpAny (model prog w) A (compareOp .Eq (.ref l) (.ref b)) Q E s :=
  SeqAt.eq_list_lengthsAt ⟨_, hl, rfl, c, rfl⟩ ⟨_, hb, rfl, c2, rfl⟩ (by simp) hu h
theorem head_l {prog : Program} {w : World} {A : Around} {E : Value → Shared → Prop} {s : Shared} {value slice : PySem.Expr} {l : Addr} {v : Value} {vs : List Value} {c : Nat} {u : Tok} {Q : Value → Shared → Prop} (hl : s.heap.get? l = some (listOf (v :: vs).toArray c)) (h : Q v s)
    (hs : subscripted slice false (.ref l) (.int 0 u) = operate [.ref l, .int 0 u] (getItem (.ref l) (.int 0 u)) := by with_unfolding_all rfl) :
    wpAny (model prog w) A (subscriptTail value slice (.ref l) (.int 0 u)) Q E s := by
  have hL : s.heap.IsList l (v :: vs).toArray := ⟨_, hl, rfl, c, rfl⟩
  exact tail_any hL.typeIs slot_list_getitem.lookup (wpAny_getItem_list hL (by decide) (by decide) (by simp) h) hs
theorem slice_from (l : List Nat) (k : Nat) (h : k ≤ l.length) : Txt.slice (S l) (some (k : Int)) none = S (l.drop k) := by
  rw [slice_from_eq (b := (l.length : Int)) (by omega) (by rw [S_len]; omega) (by rw [S_len])]
  have e : ((l.length : Int) - (k : Int)).toNat = l.length - k := by omega
  rw [e, Int.toNat_natCast, S_cps, List.take_of_length_le (by rw [List.length_drop]; omega)]
  rfl
theorem pick_from (vs : List Value) (k : Nat) : (slicePick vs.toArray (some (k : Int)) none none).toList = vs.drop k := by
  have e : sliceBounds (some (k : Int)) none none vs.toArray.size = (((min k vs.toArray.size : Nat) : Int), ((vs.toArray.size : Nat) : Int), 1) := by
    simp only [sliceBounds, Option.getD_none, show (1 : Int) > 0 by decide, if_true, if_neg (show ¬ ((k : Int) < 0) by omega)]
    congr 1
    omega
  rw [kmk_pick_nat _ e]
  show (vs.drop (min k vs.toArray.size)).take (vs.toArray.size - min k vs.toArray.size) = _
  rw [List.size_toArray, kmk_drop_min, List.take_of_length_le (by rw [List.length_drop]; omega)]
theorem pick_upto (vs : List Value) (k : Nat) : (slicePick vs.toArray none (some (k : Int)) none).toList = vs.take k := by
  have e : sliceBounds none (some (k : Int)) none vs.toArray.size = (((0 : Nat) : Int), ((min k vs.toArray.size : Nat) : Int), 1) := by
    simp only [sliceBounds, Option.getD_none, show (1 : Int) > 0 by decide, if_true, if_neg (show ¬ ((k : Int) < 0) by omega)]
    congr 1
    congr 1
    omega
  rw [kmk_pick_nat _ e]
  show (vs.drop 0).take (min k vs.toArray.size - 0) = _
  rw [List.drop_zero, Nat.sub_zero, List.size_toArray, kmk_take_min]
theorem told_useB {prog : Program} {w : World} {A : Around} {E : Value → Shared → Prop} {s : Shared} {K : Frag} {dpn unn : Nat} {Pre : Heap → Prop} {f : Value} {args : List Value} {b : Bool} {p : Program} {loose : List Str} {mean : ExcName → Option Value} {mg mb : Str → Option Value} {h₀ : Heap} {L : Addr} {m : Str → Option Value} {news : List (Addr × Obj)} {Q : Value → Shared → Prop}
    (F : Fr h₀ L s.heap m) (X : K.In h₀) (N : News h₀ L s.heap news) (T : Top p loose mean mg mb h₀) (hh : A.handled = none) (C : ToldH prog w K dpn unn Pre f args (fun _ r _ => r = .bool b)) (hd : A.depth + dpn < recursionLimit) (hu : A.units + unn < cLine) (hp : Pre s.heap)
    (ret : ∀ h' tk', Fr h₀ L h' m → News h₀ L h' news → Q (.bool b) { s with heap := h', toks := tk' }) : wpAny (model prog w) A (call f args) Q E s := by
  refine C p loose mean mg mb A s Q E (X.keeps F.keep) (T.keeps F.keep) hh hd hu hp ?_
  rintro r h' tk' hk rfl
  exact ret h' tk' (F.keeps hk) (fun q hq => ⟨hk _ _ (N q hq).1, (N q hq).2⟩)
theorem keep_list {h₀ h : Heap} {L l : Addr} {m : Str → Option Value} {vs : List Value} {c : Nat} (F : Fr h₀ L h m) (hl : h₀.get? l = some (listOf vs.toArray c)) : h.IsList l vs.toArray := ⟨_, F.keep _ _ hl, rfl, c, rfl⟩
theorem pick_tail (v : Value) (vs : List Value) : (slicePick (v :: vs).toArray (some 1) none none).toList = vs := pick_from (v :: vs) 1
open PyProof.Rows.LCg PyProof.Rows.LCt in
/-- the turns of a comprehension with a test, by an invariant -/
theorem comp_indT {prog : Program} {w : World} {A : Around} {h₀ : Heap} {L : Addr} {m : Str → Option Value} {env : Env} {ct elt : PySem.Expr} {x : Str} {scope : Scope} {cl : List (Str × Addr)} {s : Shared} {SS : List (Addr × Obj) → Prop} {P : Nat → Value → Prop} {Fin : List Value → List (Addr × Obj) → Prop} (n : Nat)
    (R : Nat → List Value → Prop) (news : List (Addr × Obj))
    (step : ∀ i ys v I oI C oC D m₂ h tk (E' QQ : Value → Shared → Prop) (QN : Shared → Prop), i < n → R i ys → P i v → NsObj oC m₂ → m₂ x = some v → Fr h₀ L h m → News h₀ L h ((I, oI) :: (C, oC) :: (D, lst ys) :: news) → Off3 I C D news → ((@Ne Nat I C) ∧ (@Ne Nat I D) ∧ (@Ne Nat C D)) →
      (∀ y h' tk' all, Fr h₀ L h' m → News h₀ L h' all → (∀ q ∈ (I, oI) :: (C, oC) :: (D, lst ys) :: news, q ∈ all) → R (i + 1) (ys ++ [y]) → QQ y { s with heap := h', toks := tk' }) →
      (∀ h' tk' all, Fr h₀ L h' m → News h₀ L h' all → (∀ q ∈ (I, oI) :: (C, oC) :: (D, lst ys) :: news, q ∈ all) → R (i + 1) ys → QN { s with heap := h', toks := tk' }) →
      wpAny (model prog w) A (isTrue ct (compEnvC scope cl C env) (eval ct (compEnvC scope cl C env))) (fun ok s' => if ok = true then wpAny (model prog w) A (eval elt (compEnvC scope cl C env)) QQ E' s' else QN s') E' { s with heap := h, toks := tk })
    (fin : ∀ ys, R n ys → Fin ys news) (h0 : R 0 []) (hS : SS news) : CompRestT prog w A h₀ L m env ct elt x scope cl s SS P Fin n 0 [] news := by
  have go : ∀ k i ys, i + k = n → R i ys → CompRestT prog w A h₀ L m env ct elt x scope cl s SS P Fin k i ys news := by
    intro k
    induction k with
    | zero => intro i ys e hR; exact fin ys (by rw [← e]; exact hR)
    | succ k ih =>
      intro i ys e hR
      exact CompRestT.succ fun v I oI C oC D m₂ h tk E' hP hC hx F N off ne => step i ys v I oI C oC D m₂ h tk E' _ (fun s' => CompEnd h₀ L m { s with heap := h, toks := tk } I oI C oC D (lst ys) SS _ Value.none s') (by omega) hR hP hC hx F N off ne
        (fun y h' tk' all F' N' hz hR' => CompEnd.intro F' N' news hz off hS (ih (i + 1) _ (by omega) hR')) (fun h' tk' all F' N' hz hR' => CompEnd.intro F' N' news hz off hS (ih (i + 1) _ (by omega) hR'))
  exact go n 0 [] (Nat.zero_add _) h0
end
section
/-- a turn's end: the ground may have turned -/
inductive ForNx (L : Addr) (s : Shared) (I : Addr) (oI : Obj) (J : Heap → (Str → Option Value) → List (Addr × Obj) → Prop) : Shared → Prop
  | mk (g h' : Heap) (tk : Tok) (m₂ : Str → Option Value) (news₂ : List (Addr × Obj)) (F : Fr g L h' m₂) (N : News g L h' ((I, oI) :: news₂)) (off : ∀ q ∈ news₂, q.1 ≠ I) (hJ : J g m₂ news₂) : ForNx L s I oI J { s with heap := h', toks := tk }
noncomputable def ForEnd (L : Addr) (s : Shared) (I : Addr) (oI : Obj) (J : Heap → (Str → Option Value) → List (Addr × Obj) → Prop) (Q : Flow → Shared → Prop) (f : Flow) (s₃ : Shared) : Prop :=
  match f with
  | .next | .cont => ForNx L s I oI J s₃
  | .brk => Q .next s₃
  | .ret v => Q (.ret v) s₃
/-- a loop over a list, by an invariant; the tokens' count from a bound on; the end of a turn is kept as a word of its own -/
inductive ForSrcK (prog : Program) (w : World) (A : Around) (env : Env) (L : Addr) (target : Expr) (body : List Stmt) (Q : Flow → Shared → Prop) (E : Value → Shared → Prop) (kk : Nat) : Value → Shared → Prop
  | mk (s : Shared) (l : Addr) (vs : List Value) (g : Heap) (m : Str → Option Value) (news : List (Addr × Obj)) (J : Nat → Heap → (Str → Option Value) → List (Addr × Obj) → Prop) (hkk : kk ≤ s.toks) (hh : A.handled = none) (F : Fr g L s.heap m) (N : News g L s.heap news) (h0 : J 0 g m news)
    (hl : ∀ i g₁ m₁ news₁ h₁, J i g₁ m₁ news₁ → Fr g₁ L h₁ m₁ → News g₁ L h₁ news₁ → h₁.IsList l vs.toArray)
    (turn : ∀ i v g₁ m₁ news₁ h₁ tk₁ I oI, kk ≤ tk₁ → i < vs.length → vs[i]? = some v → (∀ q ∈ news₁, q.1 ≠ I) → Fr g₁ L h₁ m₁ → News g₁ L h₁ ((I, oI) :: news₁) → J i g₁ m₁ news₁ → ∀ QQ : Flow → Shared → Prop, (∀ f s', ForEnd L s I oI (J (i + 1)) Q f s' → QQ f s') →
      wpAny (model prog w) A (assign target env v) (fun _ s₂ => wpAny (model prog w) A (execs body env) QQ E s₂) E { s with heap := h₁, toks := tk₁ })
    (fin : ∀ g₁ m₁ news₁ h₁ tk₁, Fr g₁ L h₁ m₁ → News g₁ L h₁ news₁ → J vs.length g₁ m₁ news₁ → Q .next { s with heap := h₁, toks := tk₁ }) : ForSrcK prog w A env L target body Q E kk (.ref l) s
inductive ForAt (kk : Nat) (L l I : Addr) (s : Shared) (vs : List Value) (J : Nat → Heap → (Str → Option Value) → List (Addr × Obj) → Prop) : Nat → Shared → Prop
  | mk (h' : Heap) (tk : Tok) (g : Heap) (m : Str → Option Value) (news : List (Addr × Obj)) (i : Nat) (oI : Obj) (hkt : kk ≤ tk) (F : Fr g L h' m) (N : News g L h' ((I, oI) :: news)) (off : ∀ q ∈ news, q.1 ≠ I) (hit : h'.IsListIter I l i) (hJ : J i g m news) (hi : i ≤ vs.length) : ForAt kk L l I s vs J (vs.length + 1 - i) { s with heap := h', toks := tk }
inductive ForIt (g : Heap) (L l I : Addr) (s : Shared) (vs : List Value) (m : Str → Option Value) (news : List (Addr × Obj)) (i : Nat) : Option Value → Shared → Prop
  | mk (v : Value) (h₂ : Heap) (tk₂ : Tok) (o2 : Obj) (hv : vs[i]? = some v) (F : Fr g L h₂ m) (N : News g L h₂ ((I, o2) :: news)) (r2 : o2.cls = .type "list_iterator" ∧ o2.data = .fields #[.ref l, .int ((i + 1 : Nat) : Int) 0]) : ForIt g L l I s vs m news i (some v) { s with heap := h₂, toks := tk₂ }
open PyProof.Rows.LCg in
theorem For_k {prog : Program} {w : World} {A : Around} {E : Value → Shared → Prop} {Q : Flow → Shared → Prop} {s : Shared} {env : Env} {x : Str} {px pos : Pos} {iter : Expr} {body : List Stmt} {L : Addr} {g₀ : Heap} {m₀ : Str → Option Value} (_F : Fr g₀ L s.heap m₀) (kk : Nat)
    (h : wpAny (model prog w) A (eval iter env) (ForSrcK prog w A env L (.Name x px) body Q E kk) E s)
    (hs : ∀ x, foldedSetIterable iter env x = pure x := by intro _; rfl)
    (hE : PassesOwn (model prog w) A env E := by passes_own) : wpAny (model prog w) A (exec (.For (.Name x px) iter body [] pos) env) Q E s := by
  refine wpAny_For (wpAny_mono h (fun xv s₁ h₁ => ?_) fun _ _ e => e) hs
  cases h₁ with
  | mk _ l vs g m news J hkk hh F N h0 hl turn fin =>
    have hls := hl 0 g m news s₁.heap h0 F N
    have hlt : l < s₁.heap.objs.size := Exists.elim hls fun _ e => Heap.lt_size e.1
    refine wpAny_pyIter_list hls ?_
    generalize hI : s₁.heap.objs.size = I at hlt
    have W := Walks.list (prog := prog) (w := w) hh I l (Nat.ne_of_lt hlt) vs.toArray
    refine codeAny_forLoop (R := fun r s' => match r with | .ok f => Q f s' | .error e => cameBackBy (model prog w) A env E e s')
      (ForAt kk L l I s₁ vs J) ?_ (vs.length + 1)
      (.mk _ _ g m news 0 _ hkk (F.push _) (hI ▸ N.push F _) (fun q hq => hI ▸ Nat.ne_of_lt (Heap.lt_size (N q hq).1)) (hI ▸ ⟨_, Heap.get?_push_size _ rfl, rfl, rfl⟩) h0 (Nat.zero_le _))
    intro k s' hs'
    cases hs' with
    | mk h' tk g' m' news' i oI hkt F' N' off hit hJ hi =>
      have hls' := hl i g' m' news' h' hJ F' (fun q hq => N' q (.tail _ hq))
      have hLI : L ≠ I := Ne.symm (N' _ (.head _)).2.1
      have hI0 := (N' _ (.head _)).2.2
      have N1 : News g' L h' news' := fun q hq => N' q (.tail _ hq)
      rcases Nat.lt_or_ge i vs.length with hlt' | hge
      · refine wpAny_mono (wpAny_toks_of (n := kk) hkt (W.item i _ (ForIt g' L l I s₁ vs m' news' i) (fun _ _ => False) (by simpa using hlt') ⟨hit, hls'⟩ fun v h₂ tk₂ hP hst hk => Exists.elim hst.1 fun o2 e2 =>
          .mk v h₂ tk₂ o2 (by simpa using hP) (fr_but F' hk hLI hI0) (List.forall_mem_cons.mpr ⟨⟨e2.1, (N' _ (.head _)).2⟩, news_but N1 hk off⟩) e2.2)) (fun r s₂ h₂ => ?_) (fun _ _ h => h.2.elim)
        refine And.elim (fun hk2 h₂ => ?_) h₂
        cases h₂ with
        | mk v h₃ tk₂ o2 hv F2 N3 r2 =>
          refine wpAny_mono (wpAny_toks_of (n := kk) hk2 (turn i v g' m' news' h₃ tk₂ _ o2 hk2 hlt' hv off F2 N3 hJ _ fun _ _ h => h)) (fun _ s₂ h₂' => wpAny_passesOwn hE (wpAny_mono (wpAny_toks_of (n := kk) h₂'.1 h₂'.2) (fun f s₃ h₃ => ?_) fun _ _ e => e.2)) fun e s' h => hE e s' h.2
          have nx : ForNx L s₁ I o2 (J (i + 1)) s₃ → ∃ n, n < vs.length + 1 - i ∧ ForAt kk L l I s₁ vs J n s₃ := fun hn => by
            have hk3 := h₃.1
            cases hn with
            | mk g9 h9 tk9 m9 news9 F9 N9 off9 J9 => exact ⟨vs.length + 1 - (i + 1), by omega, .mk h9 tk9 g9 m9 news9 (i + 1) o2 hk3 F9 N9 off9 ⟨o2, (N9 _ (.head _)).1, r2⟩ J9 hlt'⟩
          cases f with
          | ret v => exact h₃.2
          | brk => exact h₃.2
          | cont => exact nx h₃.2
          | next => exact nx h₃.2
      · obtain rfl : i = vs.length := Nat.le_antisymm hi hge
        refine W.done _ _ _ (by simpa using And.intro hit hls') fun h₂ tk₂ hk => wpAny_execs_nil ?_
        exact fin g' m' news' h₂ tk₂ (fr_but F' hk hLI hI0) (news_but N1 hk off) hJ
end
section
noncomputable def deedL : List (List Nat) := [[100, 114, 111, 112], [107, 101, 101, 112], [98, 97, 99, 107]]
noncomputable def patL : List (List Nat) := [[97, 42], [63], [91, 42, 93], [42, 98], [91, 33, 97, 93, 42], [42, 32, 42]]
noncomputable def rowOf (n : Int) : List (List Nat) := [deedL.getD (n.fmod 3).toNat [], patL.getD ((n.fdiv 3).fmod 6).toNat []]
theorem strs2 {a b : Str} {t u : Tok} {xs : List (List Nat)} (h : xs.map S = [a, b]) : StrsAre [.str a t, .str b u] (xs.map S) := by rw [h]; exact .cons _ _ (.cons _ _ .nil)
theorem row_c (w : World) (n : Int) (t : Tok) : ToldH PySem.Challenge.pw_il0113_01 w (Mine.K w.params) 20 200 (fun _ => True) (.ref 839) [.int n t] (NewL (rowOf n)) := by
  intro p loose mean mg mb A s Q E X T hh hdp hun hpre hret
  refine wpAny_call ?_
  k_dflt (refine' code_defQ ?k3 ?k5 ?k6 ?k7 ?k8 ?k9 ?kB ?_ ?c2 ?c3 ?c4 ?c5; (case k3 => exact X); (case k5 => exact T); (case k6 => k_is); (case k7 => k_is); (case k8 => ktr_room); (case k9 => first | exact BindsTo.of_eq rfl | exact binds_K X rfl (by k_is) rfl rfl rfl); (case c5 => decide); (case kB => exact locs rfl); (case c2 => exact rfl); (case c3 => exact rfl); (case c4 => exact rfl); k_whole; intro L' h' F' N'; (try ((refine execs_at (b' := ?kbody) ?kbe ?_); (case kbe => (conv => lhs; whnf)))); (try dsimp only); (try k_fold))
  repeat' (first | (k_unfold; (try dsimp only)) | ((fail_if_success (with_reducible show Q _ _)); first | walk1 | (dsimp only; walk1)))
  all_goals
    (with_reducible rename News _ _ _ _ => kN)
    (with_reducible rename Fr _ _ _ _ => kF)
    (rename Int.fmod (Int.fdiv _ _) _ = _ => e2)
    (rename Int.fmod n _ = _ => e1)
    refine hret _ _ _ kF.keep (NewL.of kN (strs2 ?_))
    unfold rowOf
    rw [e1, e2]
    decide +kernel
end
section
noncomputable def nameB : List (List Nat) := [[98], [97, 98], [97, 32, 98], [42], [97], [97, 98], [39, 97]]
noncomputable def nameS : List (List Nat) := [[97, 98], [97, 32, 98], [98], [42], [97], [39, 97]]
noncomputable def nameAt (n : Int) : List Nat := nameS.getD (n.fmod 6).toNat []
noncomputable def namesOf (ns : List Int) : List (List Nat) := nameB ++ ns.map nameAt
theorem names_c (w : World) (ls : Addr) (ns : List Int) (hn : ns.length ≤ 100) : ToldH PySem.Challenge.pw_il0113_01 w (Mine.K w.params) 20 200 (fun h => ∃ vs c, h.get? ls = some (listOf vs.toArray c) ∧ IntsAre vs ns) (.ref 832) [.ref ls] (NewL (namesOf ns)) := by
  intro p loose mean mg mb A s Q E X T hh hdp hun hpre hret
  obtain ⟨vs, c, hls, hvs⟩ := hpre
  refine wpAny_call ?_
  k_dflt (refine' code_defQ ?k3 ?k5 ?k6 ?k7 ?k8 ?k9 ?kB ?_ ?c2 ?c3 ?c4 ?c5; (case k3 => exact X); (case k5 => exact T); (case k6 => k_is); (case k7 => k_is); (case k8 => ktr_room); (case k9 => first | exact BindsTo.of_eq rfl | exact binds_K X rfl (by k_is) rfl rfl rfl); (case c5 => decide); (case kB => exact locs rfl); (case c2 => exact rfl); (case c3 => exact rfl); (case c4 => exact rfl); k_whole; intro L' h' F' N'; (try ((refine execs_at (b' := ?kbody) ?kbe ?_); (case kbe => (conv => lhs; whnf)))); (try dsimp only); (try k_fold))
  repeat' (first | (k_unfold; (try dsimp only)) | ((fail_if_success (with_reducible show wpAny _ _ (eval (Expr.ListComp _ _ _ _) _) _ _ _)); (fail_if_success (with_reducible show Q _ _)); first | walk1 | (dsimp only; walk1)))
  (with_reducible rename Fr _ _ _ _ => kF)
  (with_reducible rename News _ _ _ _ => kN)
  refine LCg.ListComp_U (F₀ := kF) (by rfl) (by decide) (by rfl) (by decide) (by rfl) ?_
  repeat' (first | (k_unfold; (try dsimp only)) | ((fail_if_success (with_reducible show Q _ _)); first | walk1 | (dsimp only; walk1)))
  refine LCg.CompSrc.base hh kF kN ⟨_, hls, rfl, _, rfl⟩ ?hsz fun g => ?rest
  case hsz => simp [ints_len hvs]; rw [sizeLine_eq]; omega
  case rest =>
    clear kF kN
    have hlen := ints_len hvs
    refine comp_pure vs.toArray.size (fun i ys => StrsAre ys (((ns.take i).map nameAt).map S)) _ ?step ?fin .nil (.inl ⟨_, hls, rfl, _, rfl⟩)
    case step =>
      intro i ys v I oI C oC D m₂ h tk E' QC hi hR hP hC hx F N off ne hQC
      have hi' : i < ns.length := by
        rw [← hlen]; simpa using hi
      obtain ⟨nn, t1, rfl, hg⟩ := hvs.at i v (by simpa using hP)
      have fin : ∀ (x : Str) (t : Tok), S (nameAt nn) = x → StrsAre (ys ++ [.str x t]) (((ns.take (i + 1)).map nameAt).map S) := by
        intro x t e
        rw [take_snoc hg, List.map_append, List.map_append, List.map_singleton, List.map_singleton, e]
        exact strs_snoc hR
      repeat' (first | (k_unfold; (try dsimp only)) | ((fail_if_success (with_reducible show QC _ _)); first | walk1 | (dsimp only; walk1)))
      all_goals
        (with_reducible rename News _ _ _ _ => kN)
        (with_reducible rename Fr _ _ _ _ => kF)
        (rename Int.fmod nn _ = _ => e1)
        refine hQC _ _ _ _ kF kN (fun p hp => .tail _ hp) (fin _ _ ?_)
        unfold nameAt
        rw [e1]
        decide +kernel
    case fin =>
      intro ys hR
      have hR : StrsAre ys ((ns.map nameAt).map S) := by
        have e : ns.take vs.toArray.size = ns := List.take_of_length_le (by simp [hlen])
        rw [e] at hR
        exact hR
      repeat' (first | (k_unfold; (try dsimp only)) | ((fail_if_success (with_reducible show Q _ _)); first | walk1 | (dsimp only; walk1)))
      (with_reducible rename Fr _ _ _ _ => kF)
      (with_reducible rename News _ _ _ _ => kN)
      refine add_lists (vs := [_, _, _, _, _, _, _]) kF kN (news_list (c := 0) kN (.tail _ (.head _))) (news_list kN (.head _)) (fun h9 F9 N9 => ?_) ?hz
      case hz =>
        simp [hR.length]; rw [sizeLine_eq]; omega
      exact hret _ _ _ F9.keep (NewL.of N9 (by
        unfold namesOf
        rw [List.map_append, show nameB.map S = [Str.ofString "b", Str.ofString "ab", Str.ofString "a b", Str.ofString "*", Str.ofString "a", Str.ofString "ab", Str.ofString "'a"] by decide +kernel]
        exact .cons _ _ (.cons _ _ (.cons _ _ (.cons _ _ (.cons _ _ (.cons _ _ (.cons _ _ hR))))))))
end
section
noncomputable def partL : List (List Nat) := [[42], [63], [91, 42, 93], [91, 94, 97, 93], [97], [98], [92, 32]]
/-- what a part takes of the signs -/
noncomputable def okS (p : List Nat) (c : Nat) : Bool := if p = [91, 42, 93] then c == 42 else if p = [91, 94, 97, 93] then !(c == 97) else c == p.getLastD 0
/-- the places reached behind a part -/
noncomputable def stepR (nm : List Nat) (r : List Nat) (p : List Nat) : List Nat :=
  if p = [42] then (match r with | [] => [] | j :: _ => List.range' j (nm.length + 1 - j))
  else if p = [63] then (r.filter fun j => decide (j < nm.length)).map (· + 1)
  else (r.filter fun j => decide (j < nm.length) && okS p (nm.getD j 0)).map (· + 1)
noncomputable def takes (ps : List (List Nat)) (nm : List Nat) : Bool := (ps.foldl (stepR nm) [0]).contains nm.length
section
variable {prog : Program} {w : World} {A : Around} {E : Value → Shared → Prop} {s : Shared}
theorem ne_nil_i {l b : Addr} {rvs : List Value} {r : List Nat} {c c2 : Nat} {bb : Bool} {Q : Value → Shared → Prop} (hl : s.heap.get? l = some (listOf rvs.toArray c)) (hb : s.heap.get? b = some (listOf #[] c2)) (hi : IntsAre rvs (r.map Int.ofNat)) (hu : A.units + 64 < cLine) (hbb : r.isEmpty = !bb) (h : Q (.bool bb) s) :
    wpAny (model prog w) A (compareOp .NotEq (.ref l) (.ref b)) Q E s := by
  refine ke_ne_ints (xs := rvs) (ys := []) ⟨_, hl, rfl, c, rfl⟩ ⟨_, hb, rfl, c2, rfl⟩ hi .nil hu ?_
  have e : (!decide (r.map Int.ofNat = [])) = bb := by
    cases r with
    | nil => cases bb <;> simp_all
    | cons a r => cases bb <;> simp_all
  rw [e]
  exact h
theorem idx_end {value slice : PySem.Expr} {bs : List Nat} {t u : Tok} {c : Nat} {Q : Value → Shared → Prop} (hb : bs.length ≤ 1000) (h0 : 0 < bs.length) (hc : bs[bs.length - 1]? = some c) (h : Q (.str (S [c]) s.toks) { s with toks := s.toks + 1 })
    (hs : subscripted slice false (.str (S bs) t) (.int (-1 : Int) u) = operate [.str (S bs) t, .int (-1 : Int) u] (getItem (.str (S bs) t) (.int (-1 : Int) u)) := by with_unfolding_all rfl) :
    wpAny (model prog w) A (subscriptTail value slice (.str (S bs) t) (.int (-1 : Int) u)) Q E s := by
  refine tail_any (typeIs_str s _ t) slot_str_getitem.lookup (PyProof.Rows.getItem_str (c := c) ?_ ?_ h) hs
  · decide
  · have e : seqIndex? (-1 : Int) (S bs).length = some (bs.length - 1) := by
      unfold seqIndex?
      rw [S_len]
      simp
      omega
    rw [e]
    simpa [S] using hc
end
theorem range_ks (j n : Nat) : rangeKs (j : Int) n = (List.range' j n).map Int.ofNat := by
  unfold rangeKs
  rw [List.range'_eq_map_range, List.map_map]
  exact List.map_congr_left fun i _ => by simp
theorem filt_step {r : List Nat} {i j : Nat} (p : Nat → Bool) (h : r[i]? = some j) : (((r.take (i + 1)).filter p).map (· + 1)).map Int.ofNat = (((r.take i).filter p).map (· + 1)).map Int.ofNat ++ (if p j = true then [Int.ofNat (j + 1)] else []) := by
  rw [take_snoc h, List.filter_append, List.map_append, List.map_append]
  congr 1
  cases e : p j <;> simp [List.filter, e]
theorem m2 (m : Str → Option Value) (a b : Str) (va vb : Option Value) (ha : m a = va) (hb : m b = vb) : m = fun y => if y = a then va else if y = b then vb else m y := by
  funext y
  by_cases h1 : y = a
  · rw [if_pos h1, h1, ha]
  · rw [if_neg h1]
    by_cases h2 : y = b
    · rw [if_pos h2, h2, hb]
    · rw [if_neg h2]
local macro_rules | `(tactic| walk_at "compareOp NotEq ref ref") => `(tactic| (k_here; k_dflt (refine' ne_nil_i ?k1 ?k2 ?k3 ?k4 ?k5 ?_; (case k1 => exact News.get (by k_asm) (by k_mem)); (case k2 => exact News.get (by k_asm) (by k_mem)); (case k3 => assumption); (case k4 => ktr_units); (case k5 => assumption); k_whole)))
/-- between the turns of _law_takes -/
inductive TkJ (g₀ : Heap) (lp cN cP : Addr) (nm : List Nat) (t : Tok) (parts : List (List Nat)) (i : Nat) : Heap → (Str → Option Value) → List (Addr × Obj) → Prop
  | mk (lr : Addr) (rvs : List Value) (cr : Nat) (oN oP : Obj) (pv : Option Value) (r : List Nat) (m : Str → Option Value) (e1 : m (Str.ofString "parts") = some (.ref lp)) (e2 : m (Str.ofString "reach") = some (.ref lr)) (dN : oN.data = .cell (some (.str (S nm) t))) (dP : oP.data = .cell pv) (hl1 : @Ne Nat cP lr) (hl2 : @Ne Nat cN lr)
    (hr : IntsAre rvs (r.map Int.ofNat)) (hr2 : r = (parts.take i).foldl (stepR nm) [0]) (hr3 : ∀ j ∈ r, j ≤ nm.length) (hr4 : r.length ≤ 200) : TkJ g₀ lp cN cP nm t parts i g₀ m [(lr, listOf rvs.toArray cr), (cP, oP), (cN, oN)]
theorem any_ofNat (n : Nat) : ∀ r : List Nat, (r.map Int.ofNat).any (fun x => x == (n : Int)) = r.contains n
  | [] => rfl
  | a :: r => by
    rw [List.map_cons, List.any_cons, List.contains_cons, any_ofNat n r]
    congr 1
    rw [Bool.eq_iff_iff, beq_iff_eq, beq_iff_eq]
    exact ⟨fun h => (Int.ofNat.inj h).symm, fun h => by rw [h]; rfl⟩
theorem ints_snoc9 {ys : List Value} {ns : List Int} {j : Nat} {t : Tok} (h : IntsAre ys ns) : IntsAre (ys ++ [.int ((j : Int) + 1) t]) (ns ++ [Int.ofNat (j + 1)]) := h.append (.cons _ _ .nil)
theorem lt_k {prog : Program} {w : World} {A : Around} {E : Value → Shared → Prop} {s : Shared} {a b : Int} {t u : Tok} {bb : Bool} {Q : Value → Shared → Prop} (hb : decide (a < b) = bb) (h : Q (.bool bb) s) : wpAny (model prog w) A (compareOp .Lt (.int a t) (.int b u)) Q E s := PyProof.Rows.lt_int (by rw [hb]; exact h)
local macro_rules | `(tactic| walk_at "subscriptTail Name Constant str int") => `(tactic| (k_here; k_dflt (refine' idx_zero ?k1 ?k2 ?_; (case k1 => assumption); (case k2 => first | assumption | exact rfl); k_whole)))
local macro_rules | `(tactic| walk_at "subscriptTail Name UnaryOp str int") => `(tactic| (k_here; k_dflt (refine' idx_end ?k1 ?k0 ?k2 ?_; (case k1 => assumption); (case k0 => first | assumption | decide); (case k2 => first | assumption | exact rfl); k_whole)))
local macro_rules | `(tactic| walk_at "compareOp Eq str str") => `(tactic| (refine eq_txt (by with_reducible assumption) ?_))
local macro_rules | `(tactic| walk_at "subscriptTail Name Name str int") => `(tactic| (k_here; k_dflt (refine' idx_one ?k1 ?k2 ?_; (case k1 => assumption); (case k2 => assumption); k_whole)))
local macro_rules | `(tactic| walk_at "compareOp In str str") => `(tactic| (refine in_one (by with_reducible assumption) ?_))
local macro_rules | `(tactic| walk_at "compareOp NotIn str str") => `(tactic| (refine notin_one (by with_reducible assumption) ?_))
theorem stepR_ok {nm r pt : List Nat} (hn : nm.length ≤ 100) (h3 : ∀ j ∈ r, j ≤ nm.length) (h4 : r.length ≤ 200) : (∀ j ∈ stepR nm r pt, j ≤ nm.length) ∧ (stepR nm r pt).length ≤ 200 := by
  have filt : ∀ q : Nat → Bool, (∀ j, q j = true → j < nm.length) → (∀ j ∈ (r.filter q).map (· + 1), j ≤ nm.length) ∧ ((r.filter q).map (· + 1)).length ≤ 200 := by
    intro q hq
    refine ⟨fun j hj => ?_, ?_⟩
    · obtain ⟨k, hk, rfl⟩ := List.mem_map.mp hj
      exact hq k (List.mem_filter.mp hk).2
    · rw [List.length_map]
      exact Nat.le_trans (List.length_filter_le _ _) h4
  unfold stepR
  split
  · cases r with
    | nil => exact ⟨(fun _ h => nomatch h), Nat.zero_le _⟩
    | cons j r =>
      refine ⟨fun k hk => ?_, ?_⟩
      · have := (List.mem_range'_1.mp hk).2
        have := h3 j (.head _)
        omega
      · rw [List.length_range']
        omega
  · split
    · exact filt _ fun j h => by simpa using h
    · exact filt _ fun j h => by
        have := (Bool.and_eq_true_iff.mp h).1
        simpa using this
theorem one_slice (nm : List Nat) (j : Nat) (h : j ≤ nm.length) : Txt.slice (S nm) (some (j : Int)) (some ((j : Int) + 1)) = S ((nm.drop j).take 1) := by
  rcases Nat.lt_or_ge j nm.length with hj | hj
  · rw [slice_ss nm j ((j : Int) + 1) (by omega) (by omega) (by omega), show ((j : Int) + 1 - (j : Int)).toNat = 1 by omega, Int.toNat_natCast]
  · obtain rfl : j = nm.length := Nat.le_antisymm h hj
    have e : Txt.slice (S nm) (some (nm.length : Int)) (some ((nm.length : Int) + 1)) = Txt.slice (S nm) (some (nm.length : Int)) (some (nm.length : Int)) := by
      unfold Txt.slice PySem.Builtin.Str.strSliceIndices
      rw [S_len]
      simp only [show (1 : Int) > 0 by decide, if_true, if_neg (show ¬ ((nm.length : Int) < 0) by omega), if_neg (show ¬ ((nm.length : Int) + 1 < 0) by omega), show min ((nm.length : Int) + 1) (nm.length : Int) = nm.length by omega, Int.min_self]
    rw [e, slice_ss nm _ _ (by omega) (by omega) (by omega), Int.sub_self, List.drop_eq_nil_of_le (by omega), List.drop_eq_nil_of_le hj]
    rfl
/-- what a comprehension of _law_takes has gathered -/
noncomputable def TkC (pf : Nat → Bool) (r : List Nat) (k : Nat) (ys : List Value) : Prop := IntsAre ys ((((r.take k).filter pf).map (· + 1)).map Int.ofNat)
section
variable {pf : Nat → Bool} {r nm : List Nat} {k j : Nat} {ys rvs : List Value} {t : Tok} {v : Value}
theorem tkc_yes (hj : r[k]? = some j) (hp : pf j = true) (h : TkC pf r k ys) : TkC pf r (k + 1) (ys ++ [.int ((j : Int) + 1) t]) := by
  unfold TkC at h ⊢
  rw [filt_step pf hj, if_pos hp]
  exact ints_snoc9 h
theorem tkc_no (hj : r[k]? = some j) (hp : pf j = false) (h : TkC pf r k ys) : TkC pf r (k + 1) ys := by
  unfold TkC at h ⊢
  rw [filt_step pf hj, if_neg (by rw [hp]; exact Bool.false_ne_true), List.append_nil]
  exact h
theorem tkc_all (hr : IntsAre rvs (r.map Int.ofNat)) (h : TkC pf r rvs.toArray.size ys) : IntsAre ys (((r.filter pf).map (· + 1)).map Int.ofNat) := by
  have hrl := ints_len hr
  rw [List.length_map] at hrl
  unfold TkC at h
  rw [List.take_of_length_le (by simp [hrl])] at h
  exact h
theorem tk_at (hr : IntsAre rvs (r.map Int.ofNat)) (hP : rvs[k]? = some v) (h3 : ∀ j ∈ r, j ≤ nm.length) {P : Prop} (kk : ∀ (j : Nat) t1, v = .int (j : Int) t1 → r[k]? = some j → j ≤ nm.length → P) : P := by
  obtain ⟨nn, t1, rfl, hg⟩ := hr.at k v hP
  obtain ⟨j, hj, rfl⟩ : ∃ j : Nat, r[k]? = some j ∧ (j : Int) = nn := by
    rw [List.getElem?_map] at hg
    cases e : r[k]? with
    | none => rw [e] at hg; cases hg
    | some j => rw [e] at hg; exact ⟨j, rfl, Option.some.inj hg⟩
  exact kk j t1 rfl hj (h3 j (List.mem_of_getElem? hj))
theorem tk_size (hr : IntsAre rvs (r.map Int.ofNat)) (h4 : r.length ≤ 200) : rvs.toArray.size ≤ sizeLine := by
  have := ints_len hr
  simp at this ⊢
  rw [sizeLine_eq]
  omega
theorem tk_lt (hl : (S nm).length = nm.length) (h : j < nm.length) : decide ((j : Int) < ((S nm).length : Int)) = true := decide_eq_true (by omega)
theorem tk_ge (hl : (S nm).length = nm.length) (h : nm.length ≤ j) : decide ((j : Int) < ((S nm).length : Int)) = false := decide_eq_false (by omega)
theorem tk_ch (h : j < nm.length) : nm[j]? = some (nm.getD j 0) := by rw [List.getD_eq_getElem?_getD, List.getElem?_eq_getElem h]; rfl
theorem tk_one (c ch : Nat) : (S [c]).cps.toList.contains ch = (ch == c) := by
  show List.contains [c] ch = _
  rw [List.contains_cons, List.contains_nil, Bool.or_false]
theorem tk_pf {p : List Nat} {b : Bool} (h : j < nm.length) (ho : okS p (nm.getD j 0) = b) : (decide (j < nm.length) && okS p (nm.getD j 0)) = b := by rw [decide_eq_true h, ho, Bool.true_and]
theorem tk_pg {p : List Nat} (h : nm.length ≤ j) : (decide (j < nm.length) && okS p (nm.getD j 0)) = false := by rw [decide_eq_false (Nat.not_lt.mpr h), Bool.false_and]
theorem tk_last {c b : _} {p : List Nat} (hok : ∀ ch, okS p ch = (ch == c)) (hb : (decide (j < nm.length) && okS p (nm.getD j 0)) = b) : (S ((nm.drop j).take 1) == S [c]) = b := by
  rw [← hb]
  rcases Nat.lt_or_ge j nm.length with hjl | hjl
  · have hc := tk_ch hjl
    generalize nm.getD j 0 = ch at hc ⊢
    rw [take1 hc, decide_eq_true hjl, Bool.true_and, hok]
    cases e : (ch == c) with
    | true => rw [eq_of_beq e]; exact beq_self_eq_true _
    | false => exact one_ne (beq_eq_false_iff_ne.mp e)
  · rw [List.drop_eq_nil_of_le hjl, decide_eq_false (by omega), Bool.false_and]
    exact S_ne (by simp)
/-- the parts that are neither a star nor ? nor a set -/
theorem tk_other {pt : List Nat} (h : pt = [97] ∨ pt = [98] ∨ pt = [92, 32]) {P : Prop} (kk : ∀ (c0 c1 : Nat) (x2 : List Nat), (S pt == Str.ofString "*") = false → (S pt == Str.ofString "?") = false → (S pt).length ≤ 1000000 → pt.length ≤ 1000 → Txt.slice (S pt) none (some 2) = S x2 → (S x2 == Str.ofString "[^") = false → pt[0]? = some c1 → (S [c1] == Str.ofString "[") = false →
    0 < pt.length → pt[pt.length - 1]? = some c0 → (∀ c, okS pt c = (c == c0)) → stepR nm r pt = (r.filter (fun j => decide (j < nm.length) && okS pt (nm.getD j 0))).map (· + 1) → P) : P := by
  rcases h with rfl | rfl | rfl
  · exact kk 97 97 [97] (by decide +kernel) (by decide +kernel) (by decide +kernel) (by decide) (by decide +kernel) (by decide +kernel) rfl (by decide +kernel) (by decide) rfl (fun _ => rfl) rfl
  · exact kk 98 98 [98] (by decide +kernel) (by decide +kernel) (by decide +kernel) (by decide) (by decide +kernel) (by decide +kernel) rfl (by decide +kernel) (by decide) rfl (fun _ => rfl) rfl
  · exact kk 32 92 [92, 32] (by decide +kernel) (by decide +kernel) (by decide +kernel) (by decide) (by decide +kernel) (by decide +kernel) rfl (by decide +kernel) (by decide) rfl (fun _ => rfl) rfl
end
theorem tk_end {g₀ : Heap} {lp cN cP L I lr : Addr} {oI oN oP : Obj} {pv : Option Value} {nm pt r : List Nat} {t : Tok} {parts : List (List Nat)} {i c : Nat} {s : Shared} {Q : Flow → Shared → Prop} {h9 : Heap} {tk9 : Nat} {m9 : Str → Option Value} {all : List (Addr × Obj)} {ys : List Value}
    (F9 : Fr g₀ L h9 m9) (N9 : News g₀ L h9 all) (hm1 : (I, oI) ∈ all) (hm2 : (lr, listOf ys.toArray c) ∈ all) (hm3 : (cP, oP) ∈ all) (hm4 : (cN, oN) ∈ all) (e1 : m9 (Str.ofString "parts") = some (.ref lp)) (e2 : m9 (Str.ofString "reach") = some (.ref lr))
    (dN : oN.data = .cell (some (.str (S nm) t))) (dP : oP.data = .cell pv) (n1 : @Ne Nat cP lr) (n2 : @Ne Nat cN lr) (n3 : @Ne Nat lr I) (n4 : @Ne Nat cP I) (n5 : @Ne Nat cN I) (hn : nm.length ≤ 100) (h3 : ∀ j ∈ r, j ≤ nm.length) (h4 : r.length ≤ 200) (hfold : (parts.take (i + 1)).foldl (stepR nm) [0] = stepR nm r pt)
    (hr : IntsAre ys ((stepR nm r pt).map Int.ofNat)) : ForEnd L s I oI (TkJ g₀ lp cN cP nm t parts (i + 1)) Q .next { s with heap := h9, toks := tk9 } :=
  .mk g₀ h9 tk9 m9 [(lr, listOf ys.toArray c), (cP, oP), (cN, oN)] F9 (news_sub N9 (List.forall_mem_cons.mpr ⟨hm1, List.forall_mem_cons.mpr ⟨hm2, List.forall_mem_cons.mpr ⟨hm3, List.forall_mem_cons.mpr ⟨hm4, fun _ h => nomatch h⟩⟩⟩⟩))
    (List.forall_mem_cons.mpr ⟨n3, List.forall_mem_cons.mpr ⟨n4, List.forall_mem_cons.mpr ⟨n5, fun _ h => nomatch h⟩⟩⟩) (.mk lr ys c oN oP pv _ m9 e1 e2 dN dP n1 n2 hr hfold.symm (stepR_ok hn h3 h4).1 (stepR_ok hn h3 h4).2)
section
variable {g₀ g₁ h₁ : Heap} {lp cN cP L I : Addr} {nm : List Nat} {t : Tok} {parts : List (List Nat)} {i : Nat} {m₁ : Str → Option Value} {news₁ : List (Addr × Obj)} {oI : Obj}
theorem tk_turn (J : TkJ g₀ lp cN cP nm t parts i g₁ m₁ news₁) (off : ∀ q ∈ news₁, q.1 ≠ I) (F : Fr g₁ L h₁ m₁) (N : News g₁ L h₁ ((I, oI) :: news₁)) {P : Prop}
    (kk : ∀ lr rvs cr oN oP pv r (m : Str → Option Value), Fr g₀ L h₁ (fun y => if y = (Str.ofString "parts") then some (.ref lp) else if y = (Str.ofString "reach") then some (.ref lr) else m y) → News g₀ L h₁ [(I, oI), (lr, listOf rvs.toArray cr), (cP, oP), (cN, oN)] →
      oN.data = .cell (some (.str (S nm) t)) → oP.data = .cell pv → @Ne Nat cP lr → @Ne Nat cN lr → @Ne Nat lr I → @Ne Nat cP I → @Ne Nat cN I → IntsAre rvs (r.map Int.ofNat) → r = (parts.take i).foldl (stepR nm) [0] → (∀ j ∈ r, j ≤ nm.length) → r.length ≤ 200 → P) : P := by
  cases J with
  | mk lr rvs cr oN oP pv r _ e1 e2 dN dP hl1 hl2 hr hr2 hr3 hr4 =>
    exact kk lr rvs cr oN oP pv r m₁ (m2 m₁ _ _ _ _ e1 e2 ▸ F) N dN dP hl1 hl2 (off _ (.head _)) (off _ (.tail _ (.head _))) (off _ (.tail _ (.tail _ (.head _)))) hr hr2 hr3 hr4
theorem tk_fin (J : TkJ g₀ lp cN cP nm t parts i g₁ m₁ news₁) (F : Fr g₁ L h₁ m₁) (N : News g₁ L h₁ news₁) {P : Prop}
    (kk : ∀ lr rvs cr oN oP pv (m : Str → Option Value), Fr g₀ L h₁ (fun y => if y = (Str.ofString "parts") then some (.ref lp) else if y = (Str.ofString "reach") then some (.ref lr) else m y) → News g₀ L h₁ [(lr, listOf rvs.toArray cr), (cP, oP), (cN, oN)] →
      oN.data = .cell (some (.str (S nm) t)) → oP.data = .cell pv → IntsAre rvs (((parts.take i).foldl (stepR nm) [0]).map Int.ofNat) → P) : P := by
  cases J with
  | mk lr rvs cr oN oP pv r _ e1 e2 dN dP hl1 hl2 hr hr2 hr3 hr4 =>
    exact kk lr rvs cr oN oP pv m₁ (m2 m₁ _ _ _ _ e1 e2 ▸ F) N dN dP (hr2 ▸ hr)
theorem tk_hl {vs : List Value} {c : Nat} (hls : g₀.get? lp = some (listOf vs.toArray c)) (J : TkJ g₀ lp cN cP nm t parts i g₁ m₁ news₁) (F : Fr g₁ L h₁ m₁) : h₁.IsList lp vs.toArray := by
  cases J with
  | mk => exact keep_list F hls
end
theorem takes_c (w : World) (lp : Addr) (parts : List (List Nat)) (nm : List Nat) (t : Tok) (hp : ∀ p ∈ parts, p ∈ partL) (hnp : parts.length ≤ 100) (hnm : nm.length ≤ 100) :
    ToldH PySem.Challenge.pw_il0113_01 w (Mine.K w.params) 20 300 (fun h => ∃ vs c, h.get? lp = some (listOf vs.toArray c) ∧ StrsAre vs (parts.map S)) (.ref 844) [.ref lp, .str (S nm) t] (fun _ r _ => r = .bool (takes parts nm)) := by
  have hlen : (S nm).length = nm.length := S_len nm
  intro p loose mean mg mb A s Q E X T hh hdp hun hpre hret
  obtain ⟨vs, c, hls, hvs⟩ := hpre
  refine wpAny_call ?_
  k_dflt (refine' code_defQC ?k3 ?k5 ?k6 ?k7 ?k8 ?k9 ?kB ?kD ?_ ?c2 ?c3 ?c4; (case k3 => exact X); (case k5 => exact T); (case k6 => k_is); (case k7 => k_is); (case k8 => ktr_room); (case k9 => first | exact BindsTo.of_eq rfl | exact binds_K X rfl (by k_is) rfl rfl rfl); (case kB => exact rfl); (case kD => decide +kernel); (case c2 => exact rfl); (case c3 => exact rfl); (case c4 => exact rfl); k_whole; intro L' h' tk' cells' F' N' Y'; k_cells Y'; (try ((refine execs_at (b' := ?kbody) ?kbe ?_); (case kbe => (conv => lhs; whnf)))); (try dsimp only); (try k_fold))
  repeat' (first | (k_unfold; (try dsimp only)) | ((fail_if_success (with_reducible show wpAny _ _ (exec (Stmt.For _ _ _ _ _) _) _ _ _)); (fail_if_success (with_reducible show Q _ _)); first | walk1 | (dsimp only; walk1)))
  (with_reducible rename Fr _ _ _ _ => kF)
  refine For_k kF 0 ?_
  repeat' (first | (k_unfold; (try dsimp only)) | ((fail_if_success (with_reducible show ForSrcK _ _ _ _ _ _ _ _ _ _ _ _)); first | walk1 | (dsimp only; walk1)))
  (with_reducible rename Fr _ _ _ _ => kF)
  (with_reducible rename News _ _ _ _ => kN)
  (rename Obj.data _ = _ => d2)
  (revert d2)
  (rename Obj.data _ = _ => d1)
  (intro d2)
  (rename _ < _ ∧ _ < _ => hlt0)
  refine .mk _ lp vs s.heap _ _ (TkJ s.heap lp (L' + 1) (L' + 1 + 1) nm t parts) (Nat.zero_le _) hh kF kN (.mk _ [_] 0 _ _ _ [0] _ (by rfl) (by rfl) d2 d1 (Nat.ne_of_lt hlt0.1) (Nat.ne_of_lt hlt0.2) (.cons 0 _ .nil) rfl (by intro j hj; rw [List.mem_singleton.mp hj]; exact Nat.zero_le _) (by decide)) ?hl ?turn ?fin
  case hl =>
    intro i g₁ m₁ news₁ h₁ J₁ F₁ _
    exact tk_hl hls J₁ F₁
  case turn =>
    intro i v g₁ m₁ news₁ h₁ tk₁ I oI _ hi hv off F₁ N₁ J₁ QQ hQQ
    refine tk_turn J₁ off F₁ N₁ ?_
    clear J₁ off F₁ N₁ m₁ news₁ g₁ kF kN d1 d2 hlt0
    intro lr rvs cr oN oP pv r m₁ F₁ N₁ dN dP hl1 hl2 o1 o2 o3 hr hr2 hr3 hr4
    have hi' : i < parts.length := by
      have := hvs.length
      simp at this
      omega
    obtain ⟨tp, htp⟩ := hvs.get i (S parts[i]) (by rw [List.getElem?_map, List.getElem?_eq_getElem hi']; rfl)
    rw [hv] at htp
    obtain rfl := Option.some.inj htp
    have hpi := hp parts[i] (List.getElem_mem hi')
    have hfold : (parts.take (i + 1)).foldl (stepR nm) [0] = stepR nm r parts[i] := by
      rw [List.take_add_one, List.getElem?_eq_getElem hi', hr2, List.foldl_append]; rfl
    generalize parts[i] = pt at hpi hfold ⊢
    clear hr2
    unfold partL at hpi
    simp only [List.mem_cons, List.not_mem_nil, or_false] at hpi
    have hsh2 : (S nm).length ≤ 1000000 := by omega
    have hnm9 : nm.length ≤ 1000 := by omega
    rcases hpi with rfl | rfl | rfl | rfl | hpi
    · have f1 : (S [42] == Str.ofString "*") = true := by decide +kernel
      cases r with
      | nil =>
        have hbb : ([] : List Nat).isEmpty = !false := rfl
        repeat' (first | (k_unfold; (try dsimp only)) | ((fail_if_success (with_reducible show QQ _ _)); (fail_if_success (with_reducible show wpAny _ _ (call (Value.type _) [Value.ref _]) _ _ _)); (fail_if_success (with_reducible show wpAny _ _ (exec (Stmt.Assign [_] (Expr.ListComp _ _ _ _) _) _) _ _ _)); first | walk1 | (dsimp only; walk1)))
        (with_reducible rename Fr _ _ _ _ => kF)
        (with_reducible rename News _ _ _ _ => kN)
        (rename Obj.data _ = _ => dP2)
        exact hQQ _ _ (tk_end (oI := oI) (oN := oN) kF kN (by k_mem) (by k_mem) (by k_mem) (by k_mem) rfl rfl dN dP2 (by first | with_reducible assumption | exact Nat.ne_of_lt (by with_reducible assumption) | ksk_a1 | exact Nat.ne_of_lt (by ksk_a1) | exact Ne.symm (by with_reducible assumption) | exact Ne.symm (by ksk_a1) | exact Nat.ne_of_gt (by ksk_a1) | omega) (by first | with_reducible assumption | exact Nat.ne_of_lt (by with_reducible assumption) | ksk_a1 | exact Nat.ne_of_lt (by ksk_a1) | exact Ne.symm (by with_reducible assumption) | exact Ne.symm (by ksk_a1) | exact Nat.ne_of_gt (by ksk_a1) | omega) (by first | with_reducible assumption | exact Nat.ne_of_lt (by with_reducible assumption) | ksk_a1 | exact Nat.ne_of_lt (by ksk_a1) | exact Ne.symm (by with_reducible assumption) | exact Ne.symm (by ksk_a1) | exact Nat.ne_of_gt (by ksk_a1) | omega) o2 o3 hnm hr3 hr4 hfold .nil)
      | cons j r =>
        obtain ⟨tj, rvs', rfl, hr'⟩ : ∃ tj rvs', rvs = Value.int (Int.ofNat j) tj :: rvs' ∧ IntsAre rvs' (r.map Int.ofNat) := by
          cases hr with
          | cons n t h => exact ⟨_, _, rfl, h⟩
        have hbb : (j :: r).isEmpty = !true := rfl
        have hj := hr3 j (.head _)
        repeat' (first | (k_unfold; (try dsimp only)) | ((fail_if_success (with_reducible show QQ _ _)); (fail_if_success (with_reducible show wpAny _ _ (call (Value.type _) [Value.ref _]) _ _ _)); (fail_if_success (with_reducible show wpAny _ _ (exec (Stmt.Assign [_] (Expr.ListComp _ _ _ _) _) _) _ _ _)); first | walk1 | (dsimp only; walk1)))
        (with_reducible rename Fr _ _ _ _ => kF)
        (with_reducible rename News _ _ _ _ => kN)
        (rename IsRange _ _ _ _ _ _ _ _ => hrg)
        rw [hlen, show (List.map Int.ofNat (j :: r)).getD (Int.toNat 0) 0 = (j : Int) from rfl] at hrg
        refine kll_range (n := nm.length + 1 - j) hh kF kN hrg (small_one (by omega) (by omega) (by omega) (by omega)) (by rw [rangeSize_nat]; omega) (by omega) fun D us c9 h9 tk9 F9 N9 l9 hI => ?_
        have l9 := allLt_of l9
        simp only [AllLt, and_true] at l9
        rw [range_ks] at hI
        clear kF kN
        repeat' (first | (k_unfold; (try dsimp only)) | ((fail_if_success (with_reducible show QQ _ _)); (fail_if_success (with_reducible show wpAny _ _ (call (Value.type _) [Value.ref _]) _ _ _)); (fail_if_success (with_reducible show wpAny _ _ (exec (Stmt.Assign [_] (Expr.ListComp _ _ _ _) _) _) _ _ _)); first | walk1 | (dsimp only; walk1)))
        (with_reducible rename Fr _ _ _ _ => kF)
        (with_reducible rename News _ _ _ _ => kN)
        (rename Obj.data _ = _ => dP2)
        exact hQQ _ _ (tk_end (oI := oI) (oN := oN) kF kN (by k_mem) (by k_mem) (by k_mem) (by k_mem) rfl rfl dN dP2 (by first | with_reducible assumption | exact Nat.ne_of_lt (by with_reducible assumption) | ksk_a1 | exact Nat.ne_of_lt (by ksk_a1) | exact Ne.symm (by with_reducible assumption) | exact Ne.symm (by ksk_a1) | exact Nat.ne_of_gt (by ksk_a1) | omega) (by first | with_reducible assumption | exact Nat.ne_of_lt (by with_reducible assumption) | ksk_a1 | exact Nat.ne_of_lt (by ksk_a1) | exact Ne.symm (by with_reducible assumption) | exact Ne.symm (by ksk_a1) | exact Nat.ne_of_gt (by ksk_a1) | omega) (by first | with_reducible assumption | exact Nat.ne_of_lt (by with_reducible assumption) | ksk_a1 | exact Nat.ne_of_lt (by ksk_a1) | exact Ne.symm (by with_reducible assumption) | exact Ne.symm (by ksk_a1) | exact Nat.ne_of_gt (by ksk_a1) | omega) o2 o3 hnm hr3 hr4 hfold hI)
    · have f1 : (S [63] == Str.ofString "*") = false := by decide +kernel
      have f2 : (S [63] == Str.ofString "?") = true := by decide +kernel
      repeat' (first | (k_unfold; (try dsimp only)) | ((fail_if_success (with_reducible show QQ _ _)); (fail_if_success (with_reducible show wpAny _ _ (call (Value.type _) [Value.ref _]) _ _ _)); (fail_if_success (with_reducible show wpAny _ _ (exec (Stmt.Assign [_] (Expr.ListComp _ _ _ _) _) _) _ _ _)); first | walk1 | (dsimp only; walk1)))
      (with_reducible rename Fr _ _ _ _ => kF)
      (with_reducible rename News _ _ _ _ => kN)
      (rename Obj.data _ = _ => dP2)
      refine LCt.Assign_ListComp_T (F₀ := kF) (by rfl) (by with_unfolding_all rfl) (by with_unfolding_all rfl) (by decide) (by rfl) (by decide) (by rfl) (by rfl) (by rfl) ?_
      repeat' (first | (k_unfold; (try dsimp only)) | ((fail_if_success (with_reducible show Q _ _)); first | walk1 | (dsimp only; walk1)))
      refine LCt.CompSrcT.ledger hh kF kN (.tail _ (.head _)) (tk_size hr hr4) fun g => ?restq
      case restq =>
        clear kF kN
        refine comp_indT rvs.toArray.size (TkC (fun j => decide (j < nm.length)) r) _ ?stepq ?finq .nil (.inr ⟨_, .tail _ (.head _), rfl, _, rfl⟩)
        case stepq =>
          intro k ys v I9 oI9 C oC D m₂ h tk E' QC QN hk hR hP hC hx2 F N off9 ne hQC hQN
          refine tk_at hr (by simpa using hP) hr3 fun j t1 ev hj hjr => ?_
          subst ev
          clear hP
          rcases Nat.lt_or_ge j nm.length with hjl | hjl
          · have hlb := tk_lt hlen hjl
            repeat' (first | (k_unfold; (try dsimp only)) | ((fail_if_success (with_reducible show QC _ _)); (fail_if_success (with_reducible show QN _)); first | walk1 | (dsimp only; walk1)))
            (with_reducible rename Fr _ _ _ _ => kF)
            (with_reducible rename News _ _ _ _ => kN)
            exact hQC _ _ _ _ kF kN (fun p hp => hp) (tkc_yes hj (decide_eq_true hjl) hR)
          · have hlb := tk_ge hlen hjl
            repeat' (first | (k_unfold; (try dsimp only)) | ((fail_if_success (with_reducible show QC _ _)); (fail_if_success (with_reducible show QN _)); first | walk1 | (dsimp only; walk1)))
            (with_reducible rename Fr _ _ _ _ => kF)
            (with_reducible rename News _ _ _ _ => kN)
            exact hQN _ _ _ kF kN (fun p hp => hp) (tkc_no hj (decide_eq_false (Nat.not_lt.mpr hjl)) hR)
        case finq =>
          intro ys hR
          have hR := tkc_all hr hR
          repeat' (first | (k_unfold; (try dsimp only)) | ((fail_if_success (with_reducible show Q _ _)); first | walk1 | (dsimp only; walk1)))
          (with_reducible rename Fr _ _ _ _ => kF)
          (with_reducible rename News _ _ _ _ => kN)
          (rename Obj.data _ = _ => dP2)
          exact hQQ _ _ (tk_end (oI := oI) (oN := oN) kF kN (by k_mem) (by k_mem) (by k_mem) (by k_mem) rfl rfl dN dP2 (by first | with_reducible assumption | exact Nat.ne_of_lt (by with_reducible assumption) | ksk_a1 | exact Nat.ne_of_lt (by ksk_a1) | exact Ne.symm (by with_reducible assumption) | exact Ne.symm (by ksk_a1) | exact Nat.ne_of_gt (by ksk_a1) | omega) (by first | with_reducible assumption | exact Nat.ne_of_lt (by with_reducible assumption) | ksk_a1 | exact Nat.ne_of_lt (by ksk_a1) | exact Ne.symm (by with_reducible assumption) | exact Ne.symm (by ksk_a1) | exact Nat.ne_of_gt (by ksk_a1) | omega) (by first | with_reducible assumption | exact Nat.ne_of_lt (by with_reducible assumption) | ksk_a1 | exact Nat.ne_of_lt (by ksk_a1) | exact Ne.symm (by with_reducible assumption) | exact Ne.symm (by ksk_a1) | exact Nat.ne_of_gt (by ksk_a1) | omega) o2 o3 hnm hr3 hr4 hfold hR)
    · have f1 : (S [91, 42, 93] == Str.ofString "*") = false := by decide +kernel
      have f2 : (S [91, 42, 93] == Str.ofString "?") = false := by decide +kernel
      have hsh : (S [91, 42, 93]).length ≤ 1000000 := by decide +kernel
      have hl1k : ([91, 42, 93] : List Nat).length ≤ 1000 := by decide
      have hsl1 : Txt.slice (S [91, 42, 93]) none (some 2) = S [91, 42] := by decide +kernel
      have f3 : (S [91, 42] == Str.ofString "[^") = false := by decide +kernel
      have f4 : (S [91] == Str.ofString "[") = true := by decide +kernel
      have hsl2 : Txt.slice (S [91, 42, 93]) (some 1) (some (-1)) = S [42] := by decide +kernel
      repeat' (first | (rw [hsl1]) | (k_unfold; (try dsimp only)) | ((fail_if_success (with_reducible show QQ _ _)); (fail_if_success (with_reducible show wpAny _ _ (call (Value.type _) [Value.ref _]) _ _ _)); (fail_if_success (with_reducible show wpAny _ _ (exec (Stmt.Assign [_] (Expr.ListComp _ _ _ _) _) _) _ _ _)); first | walk1 | (dsimp only; walk1)))
      (with_reducible rename Fr _ _ _ _ => kF)
      (with_reducible rename News _ _ _ _ => kN)
      (rename Obj.data _ = _ => dP2)
      refine LCt.Assign_ListComp_T (F₀ := kF) (by rfl) (by with_unfolding_all rfl) (by with_unfolding_all rfl) (by decide) (by rfl) (by decide) (by rfl) (by rfl) (by rfl) ?_
      repeat' (first | (k_unfold; (try dsimp only)) | ((fail_if_success (with_reducible show Q _ _)); first | walk1 | (dsimp only; walk1)))
      refine LCt.CompSrcT.ledger hh kF kN (.tail _ (.head _)) (tk_size hr hr4) fun g => ?rests
      case rests =>
        clear kF kN
        refine comp_indT rvs.toArray.size (TkC (fun j => decide (j < nm.length) && okS [91, 42, 93] (nm.getD j 0)) r) _ ?steps ?fins .nil (.inr ⟨_, .tail _ (.head _), rfl, _, rfl⟩)
        case steps =>
          intro k ys v I9 oI9 C oC D m₂ h tk E' QC QN hk hR hP hC hx2 F N off9 ne hQC hQN
          refine tk_at hr (by simpa using hP) hr3 fun j t1 ev hj hjr => ?_
          subst ev
          clear hP
          rcases Nat.lt_or_ge j nm.length with hjl | hjl
          · have hlb := tk_lt hlen hjl
            have hc := tk_ch hjl
            have hin := tk_one 42 (nm.getD j 0)
            cases hch : (nm.getD j 0 == 42) with
            | true =>
              rw [hch] at hin
              have hok : okS [91, 42, 93] (nm.getD j 0) = true := by show (nm.getD j 0 == 42) = _; rw [hch]
              repeat' (first | (rw [hsl2]) | (k_unfold; (try dsimp only)) | ((fail_if_success (with_reducible show QC _ _)); (fail_if_success (with_reducible show QN _)); first | walk1 | (dsimp only; walk1)))
              (with_reducible rename Fr _ _ _ _ => kF)
              (with_reducible rename News _ _ _ _ => kN)
              exact hQC _ _ _ _ kF kN (fun p hp => hp) (tkc_yes hj (tk_pf hjl hok) hR)
            | false =>
              rw [hch] at hin
              have hok : okS [91, 42, 93] (nm.getD j 0) = false := by show (nm.getD j 0 == 42) = _; rw [hch]
              repeat' (first | (rw [hsl2]) | (k_unfold; (try dsimp only)) | ((fail_if_success (with_reducible show QC _ _)); (fail_if_success (with_reducible show QN _)); first | walk1 | (dsimp only; walk1)))
              (with_reducible rename Fr _ _ _ _ => kF)
              (with_reducible rename News _ _ _ _ => kN)
              exact hQN _ _ _ kF kN (fun p hp => hp) (tkc_no hj (tk_pf hjl hok) hR)
          · have hlb := tk_ge hlen hjl
            repeat' (first | (rw [hsl2]) | (k_unfold; (try dsimp only)) | ((fail_if_success (with_reducible show QC _ _)); (fail_if_success (with_reducible show QN _)); first | walk1 | (dsimp only; walk1)))
            (with_reducible rename Fr _ _ _ _ => kF)
            (with_reducible rename News _ _ _ _ => kN)
            exact hQN _ _ _ kF kN (fun p hp => hp) (tkc_no hj (tk_pg hjl) hR)
        case fins =>
          intro ys hR
          have hR := tkc_all hr hR
          repeat' (first | (k_unfold; (try dsimp only)) | ((fail_if_success (with_reducible show Q _ _)); first | walk1 | (dsimp only; walk1)))
          (with_reducible rename Fr _ _ _ _ => kF)
          (with_reducible rename News _ _ _ _ => kN)
          (rename Obj.data _ = _ => dP2)
          exact hQQ _ _ (tk_end (oI := oI) (oN := oN) kF kN (by k_mem) (by k_mem) (by k_mem) (by k_mem) rfl rfl dN dP2 (by first | with_reducible assumption | exact Nat.ne_of_lt (by with_reducible assumption) | ksk_a1 | exact Nat.ne_of_lt (by ksk_a1) | exact Ne.symm (by with_reducible assumption) | exact Ne.symm (by ksk_a1) | exact Nat.ne_of_gt (by ksk_a1) | omega) (by first | with_reducible assumption | exact Nat.ne_of_lt (by with_reducible assumption) | ksk_a1 | exact Nat.ne_of_lt (by ksk_a1) | exact Ne.symm (by with_reducible assumption) | exact Ne.symm (by ksk_a1) | exact Nat.ne_of_gt (by ksk_a1) | omega) (by first | with_reducible assumption | exact Nat.ne_of_lt (by with_reducible assumption) | ksk_a1 | exact Nat.ne_of_lt (by ksk_a1) | exact Ne.symm (by with_reducible assumption) | exact Ne.symm (by ksk_a1) | exact Nat.ne_of_gt (by ksk_a1) | omega) o2 o3 hnm hr3 hr4 hfold hR)
    · have f1 : (S [91, 94, 97, 93] == Str.ofString "*") = false := by decide +kernel
      have f2 : (S [91, 94, 97, 93] == Str.ofString "?") = false := by decide +kernel
      have hsh : (S [91, 94, 97, 93]).length ≤ 1000000 := by decide +kernel
      have hl1k : ([91, 94, 97, 93] : List Nat).length ≤ 1000 := by decide
      have hsl1 : Txt.slice (S [91, 94, 97, 93]) none (some 2) = S [91, 94] := by decide +kernel
      have f3 : (S [91, 94] == Str.ofString "[^") = true := by decide +kernel
      have hsl2 : Txt.slice (S [91, 94, 97, 93]) (some 2) (some (-1)) = S [97] := by decide +kernel
      repeat' (first | (rw [hsl1]) | (k_unfold; (try dsimp only)) | ((fail_if_success (with_reducible show QQ _ _)); (fail_if_success (with_reducible show wpAny _ _ (call (Value.type _) [Value.ref _]) _ _ _)); (fail_if_success (with_reducible show wpAny _ _ (exec (Stmt.Assign [_] (Expr.ListComp _ _ _ _) _) _) _ _ _)); first | walk1 | (dsimp only; walk1)))
      (with_reducible rename Fr _ _ _ _ => kF)
      (with_reducible rename News _ _ _ _ => kN)
      (rename Obj.data _ = _ => dP2)
      refine LCt.Assign_ListComp_T (F₀ := kF) (by rfl) (by with_unfolding_all rfl) (by with_unfolding_all rfl) (by decide) (by rfl) (by decide) (by rfl) (by rfl) (by rfl) ?_
      repeat' (first | (k_unfold; (try dsimp only)) | ((fail_if_success (with_reducible show Q _ _)); first | walk1 | (dsimp only; walk1)))
      refine LCt.CompSrcT.ledger hh kF kN (.tail _ (.head _)) (tk_size hr hr4) fun g => ?restn
      case restn =>
        clear kF kN
        refine comp_indT rvs.toArray.size (TkC (fun j => decide (j < nm.length) && okS [91, 94, 97, 93] (nm.getD j 0)) r) _ ?stepn ?finn .nil (.inr ⟨_, .tail _ (.head _), rfl, _, rfl⟩)
        case stepn =>
          intro k ys v I9 oI9 C oC D m₂ h tk E' QC QN hk hR hP hC hx2 F N off9 ne hQC hQN
          refine tk_at hr (by simpa using hP) hr3 fun j t1 ev hj hjr => ?_
          subst ev
          clear hP
          rcases Nat.lt_or_ge j nm.length with hjl | hjl
          · have hlb := tk_lt hlen hjl
            have hc := tk_ch hjl
            have hin := tk_one 97 (nm.getD j 0)
            cases hch : (nm.getD j 0 == 97) with
            | true =>
              rw [hch] at hin
              have hok : okS [91, 94, 97, 93] (nm.getD j 0) = false := by show (!(nm.getD j 0 == 97)) = _; rw [hch]; rfl
              repeat' (first | (rw [hsl2]) | (k_unfold; (try dsimp only)) | ((fail_if_success (with_reducible show QC _ _)); (fail_if_success (with_reducible show QN _)); first | walk1 | (dsimp only; walk1)))
              (with_reducible rename Fr _ _ _ _ => kF)
              (with_reducible rename News _ _ _ _ => kN)
              exact hQN _ _ _ kF kN (fun p hp => hp) (tkc_no hj (tk_pf hjl hok) hR)
            | false =>
              rw [hch] at hin
              have hok : okS [91, 94, 97, 93] (nm.getD j 0) = true := by show (!(nm.getD j 0 == 97)) = _; rw [hch]; rfl
              repeat' (first | (rw [hsl2]) | (k_unfold; (try dsimp only)) | ((fail_if_success (with_reducible show QC _ _)); (fail_if_success (with_reducible show QN _)); first | walk1 | (dsimp only; walk1)))
              (with_reducible rename Fr _ _ _ _ => kF)
              (with_reducible rename News _ _ _ _ => kN)
              exact hQC _ _ _ _ kF kN (fun p hp => hp) (tkc_yes hj (tk_pf hjl hok) hR)
          · have hlb := tk_ge hlen hjl
            repeat' (first | (rw [hsl2]) | (k_unfold; (try dsimp only)) | ((fail_if_success (with_reducible show QC _ _)); (fail_if_success (with_reducible show QN _)); first | walk1 | (dsimp only; walk1)))
            (with_reducible rename Fr _ _ _ _ => kF)
            (with_reducible rename News _ _ _ _ => kN)
            exact hQN _ _ _ kF kN (fun p hp => hp) (tkc_no hj (tk_pg hjl) hR)
        case finn =>
          intro ys hR
          have hR := tkc_all hr hR
          repeat' (first | (k_unfold; (try dsimp only)) | ((fail_if_success (with_reducible show Q _ _)); first | walk1 | (dsimp only; walk1)))
          (with_reducible rename Fr _ _ _ _ => kF)
          (with_reducible rename News _ _ _ _ => kN)
          (rename Obj.data _ = _ => dP2)
          exact hQQ _ _ (tk_end (oI := oI) (oN := oN) kF kN (by k_mem) (by k_mem) (by k_mem) (by k_mem) rfl rfl dN dP2 (by first | with_reducible assumption | exact Nat.ne_of_lt (by with_reducible assumption) | ksk_a1 | exact Nat.ne_of_lt (by ksk_a1) | exact Ne.symm (by with_reducible assumption) | exact Ne.symm (by ksk_a1) | exact Nat.ne_of_gt (by ksk_a1) | omega) (by first | with_reducible assumption | exact Nat.ne_of_lt (by with_reducible assumption) | ksk_a1 | exact Nat.ne_of_lt (by ksk_a1) | exact Ne.symm (by with_reducible assumption) | exact Ne.symm (by ksk_a1) | exact Nat.ne_of_gt (by ksk_a1) | omega) (by first | with_reducible assumption | exact Nat.ne_of_lt (by with_reducible assumption) | ksk_a1 | exact Nat.ne_of_lt (by ksk_a1) | exact Ne.symm (by with_reducible assumption) | exact Ne.symm (by ksk_a1) | exact Nat.ne_of_gt (by ksk_a1) | omega) o2 o3 hnm hr3 hr4 hfold hR)
    · refine tk_other (nm := nm) (r := r) hpi fun c0 c1 x2 f1 f2 hsh hl1k hsl1 f3 hz f4 h0 hz9 hok hst => ?_
      repeat' (first | (rw [hsl1]) | (k_unfold; (try dsimp only)) | ((fail_if_success (with_reducible show QQ _ _)); (fail_if_success (with_reducible show wpAny _ _ (call (Value.type _) [Value.ref _]) _ _ _)); (fail_if_success (with_reducible show wpAny _ _ (exec (Stmt.Assign [_] (Expr.ListComp _ _ _ _) _) _) _ _ _)); first | walk1 | (dsimp only; walk1)))
      (with_reducible rename Fr _ _ _ _ => kF)
      (with_reducible rename News _ _ _ _ => kN)
      (rename Obj.data _ = _ => dP2)
      refine LCt.Assign_ListComp_T (F₀ := kF) (by rfl) (by with_unfolding_all rfl) (by with_unfolding_all rfl) (by decide) (by rfl) (by decide) (by rfl) (by rfl) (by rfl) ?_
      repeat' (first | (k_unfold; (try dsimp only)) | ((fail_if_success (with_reducible show Q _ _)); first | walk1 | (dsimp only; walk1)))
      refine LCt.CompSrcT.ledger hh kF kN (.tail _ (.head _)) (tk_size hr hr4) fun g => ?resta
      case resta =>
        clear kF kN
        refine comp_indT rvs.toArray.size (TkC (fun j => decide (j < nm.length) && okS pt (nm.getD j 0)) r) _ ?stepa ?fina .nil (.inr ⟨_, .tail _ (.head _), rfl, _, rfl⟩)
        case stepa =>
          intro k ys v I9 oI9 C oC D m₂ h tk E' QC QN hk hR hP hC hx2 F N off9 ne hQC hQN
          refine tk_at hr (by simpa using hP) hr3 fun j t1 ev hj hjr => ?_
          subst ev
          clear hP
          obtain ⟨b, hb⟩ : ∃ b, (decide (j < nm.length) && okS pt (nm.getD j 0)) = b := ⟨_, rfl⟩
          have f5 := tk_last hok hb
          have hsl3 : Txt.slice (S nm) (some (j : Int)) (some ((j : Int) + 1)) = S ((nm.drop j).take 1) := one_slice nm j hjr
          cases b with
          | true =>
            repeat' (first | (rw [hsl3]) | (k_unfold; (try dsimp only)) | ((fail_if_success (with_reducible show QC _ _)); (fail_if_success (with_reducible show QN _)); first | walk1 | (dsimp only; walk1)))
            (with_reducible rename Fr _ _ _ _ => kF)
            (with_reducible rename News _ _ _ _ => kN)
            exact hQC _ _ _ _ kF kN (fun p hp => hp) (tkc_yes hj hb hR)
          | false =>
            repeat' (first | (rw [hsl3]) | (k_unfold; (try dsimp only)) | ((fail_if_success (with_reducible show QC _ _)); (fail_if_success (with_reducible show QN _)); first | walk1 | (dsimp only; walk1)))
            (with_reducible rename Fr _ _ _ _ => kF)
            (with_reducible rename News _ _ _ _ => kN)
            exact hQN _ _ _ kF kN (fun p hp => hp) (tkc_no hj hb hR)
        case fina =>
          intro ys hR
          have hR := tkc_all hr hR
          repeat' (first | (k_unfold; (try dsimp only)) | ((fail_if_success (with_reducible show Q _ _)); first | walk1 | (dsimp only; walk1)))
          (with_reducible rename Fr _ _ _ _ => kF)
          (with_reducible rename News _ _ _ _ => kN)
          (rename Obj.data _ = _ => dP2)
          exact hQQ _ _ (tk_end (oI := oI) (oN := oN) kF kN (by k_mem) (by k_mem) (by k_mem) (by k_mem) rfl rfl dN dP2 (by first | with_reducible assumption | exact Nat.ne_of_lt (by with_reducible assumption) | ksk_a1 | exact Nat.ne_of_lt (by ksk_a1) | exact Ne.symm (by with_reducible assumption) | exact Ne.symm (by ksk_a1) | exact Nat.ne_of_gt (by ksk_a1) | omega) (by first | with_reducible assumption | exact Nat.ne_of_lt (by with_reducible assumption) | ksk_a1 | exact Nat.ne_of_lt (by ksk_a1) | exact Ne.symm (by with_reducible assumption) | exact Ne.symm (by ksk_a1) | exact Nat.ne_of_gt (by ksk_a1) | omega) (by first | with_reducible assumption | exact Nat.ne_of_lt (by with_reducible assumption) | ksk_a1 | exact Nat.ne_of_lt (by ksk_a1) | exact Ne.symm (by with_reducible assumption) | exact Ne.symm (by ksk_a1) | exact Nat.ne_of_gt (by ksk_a1) | omega) o2 o3 hnm hr3 hr4 hfold (by rw [hst]; exact hR))
  case fin =>
    intro g₁ m₁ news₁ h₁ tk₁ F₁ N₁ J₁
    refine tk_fin J₁ F₁ N₁ ?_
    clear J₁ F₁ N₁ m₁ news₁ g₁ kF kN d1 d2 hlt0
    intro lr rvs cr oN oP pv m₁ F₁ N₁ dN dP hr
    repeat' (first | (k_unfold; (try dsimp only)) | ((fail_if_success (with_reducible show Q _ _)); first | walk1 | (dsimp only; walk1)))
    (with_reducible rename Fr _ _ _ _ => kF)
    refine hret _ _ _ kF.keep ?_
    show _ = Value.bool (takes parts nm)
    have hvl : vs.length = parts.length := by
      have := hvs.length
      simpa using this
    rw [hlen, any_ofNat, hvl, List.take_of_length_le (Nat.le_refl _)]
    rfl
end
section
local macro_rules | `(tactic| walk_at "compareOp Eq ref ref") => `(tactic| (k_here; (with_reducible show wpAny _ _ (compareOp CmpOp.Eq (Value.ref _) (Value.ref _)) _ _ _); k_dflt (first | (refine' eq_nil_t ?k1 ?k2 ?k3 ?_; (case k1 => (first | exact News.get (by k_asm) (by k_mem) | exact Fr.keep (by k_asm) _ _ (by assumption))); (case k2 => (first | exact News.get (by k_asm) (by k_mem) | exact Fr.keep (by k_asm) _ _ (by assumption))); (case k3 => ktr_units)) | (refine' eq_nil_f ?k1 ?k2 ?k3 ?_; (case k1 => (first | exact News.get (by k_asm) (by k_mem) | exact Fr.keep (by k_asm) _ _ (by assumption))); (case k2 => (first | exact News.get (by k_asm) (by k_mem) | exact Fr.keep (by k_asm) _ _ (by assumption))); (case k3 => ktr_units)))))
local macro_rules | `(tactic| walk_at "compareOp Eq str str") => `(tactic| (refine eq_txt (by with_reducible assumption) ?_))
local macro_rules | `(tactic| walk_at "compareOp NotEq str str") => `(tactic| (refine neq_txt (b := false) (by first | with_reducible assumption | decide +kernel) ?_))
local macro_rules | `(tactic| walk_at "subscriptTail") => `(tactic| (k_here; (with_reducible show wpAny _ _ (subscriptTail _ _ (Value.ref _) (Value.int 0 _)) _ _ _); k_dflt (refine' head_l ?k1 ?_; (case k1 => (first | exact News.get (by k_asm) (by k_mem) | exact Fr.keep (by k_asm) _ _ (by assumption))))))
local macro_rules | `(tactic| walk_at "subscriptTail Name Slice ref ref") => `(tactic| (k_here; (with_reducible show wpAny _ _ (subscriptTail _ (PySem.Expr.Slice _ _ none _) (Value.ref _) (Value.ref _)) _ _ _); k_dflt (refine' kmk_slice_lit ?F ?N ?l ?p ?q ?e ?_ ?s ?t ?z; (case F => k_asm); (case N => k_asm); (case l => first | exact news_list (by k_asm) (by k_mem) | exact keep_list (by k_asm) (by assumption)); (case p => kmk_part); (case q => kmk_part); (case e => exact pick_tail _ _); (case s => with_unfolding_all rfl); (case t => kmk_pure); (case z => assumption)); intro D' h' F' N' l1; (try dsimp only [List.drop_succ_cons, List.drop_zero] at N'); (try k_lt l1); (try k_sweep)))
local macro_rules | `(tactic| walk_at "subscriptTail Name Constant str int") => `(tactic| (k_here; k_dflt (refine' idx_zero ?k1 ?k2 ?_; (case k1 => assumption); (case k2 => exact rfl); k_whole)))
local macro_rules | `(tactic| walk_at "compareOp In str str") => `(tactic| (refine in_one (by with_reducible assumption) ?_))
noncomputable def anyT : List Nat := [97, 110, 121]
/-- what _law_fits answers -/
noncomputable def fits : List (List Nat) → List Nat → Bool
  | [], nm => nm.isEmpty
  | t :: ts, nm => if t = anyT then (List.range (nm.length + 1)).any (fun k => fits ts (nm.drop k)) else !nm.isEmpty && t.contains (nm.getD 0 0) && fits ts (nm.drop 1)
theorem any_filt {p : Nat → Bool} : ∀ l : List Nat, l.any p = !decide ((l.filter p).map Int.ofNat = [])
  | [] => rfl
  | a :: l => by
    rw [List.any_cons, List.filter_cons]
    cases p a with
    | true => simp
    | false => simpa using any_filt l
theorem fits_c (w : World) : ∀ (ts : List (List Nat)) (l : Addr) (nm : List Nat) (t : Tok), ts.length ≤ 10 → nm.length ≤ 100 → ToldH PySem.Challenge.pw_il0113_01 w (Mine.K w.params) (20 + 5 * ts.length) (200 + 100 * ts.length) (fun h => ∃ vs c, h.get? l = some (listOf vs.toArray c) ∧ StrsAre vs (ts.map S)) (.ref 849) [.ref l, .str (S nm) t] (fun _ r _ => r = .bool (fits ts nm))
  | [], l, nm, t, hts, hnm => by
    intro p loose mean mg mb A s Q E X T hh hdp hun hpre hret
    obtain ⟨vs, c, hls, hvs⟩ := hpre
    obtain rfl := hvs.nil_inv
    obtain ⟨b, hb⟩ : ∃ b, (S nm == Str.ofString "") = b := ⟨_, rfl⟩
    have hfit : fits [] nm = b := by
      rw [← hb, show Str.ofString "" = S [] by decide +kernel]
      cases nm with
      | nil => exact (beq_self_eq_true _).symm
      | cons x r => exact (S_ne (by simp)).symm
    refine wpAny_call ?_
    k_dflt (refine' code_defQC ?k3 ?k5 ?k6 ?k7 ?k8 ?k9 ?kB ?kD ?_ ?c2 ?c3 ?c4; (case k3 => exact X); (case k5 => exact T); (case k6 => k_is); (case k7 => k_is); (case k8 => ktr_room); (case k9 => first | exact BindsTo.of_eq rfl | exact binds_K X rfl (by k_is) rfl rfl rfl); (case kB => exact rfl); (case kD => decide +kernel); (case c2 => exact rfl); (case c3 => exact rfl); (case c4 => exact rfl); k_whole; intro L' h' tk' cells' F' N' Y'; k_cells Y'; (try ((refine execs_at (b' := ?kbody) ?kbe ?_); (case kbe => (conv => lhs; whnf)))); (try dsimp only); (try k_fold))
    repeat' (first | (k_unfold; (try dsimp only)) | ((fail_if_success (with_reducible show Q _ _)); first | walk1 | (dsimp only; walk1)))
    (with_reducible rename Fr _ _ _ _ => kF)
    exact hret _ _ _ kF.keep (by rw [hfit])
  | x :: ts, l, nm, t, hts, hnm => by
    have ih := fits_c w ts
    intro p loose mean mg mb A s Q E X T hh hdp hun hpre hret
    obtain ⟨vs, c, hls, hvs⟩ := hpre
    obtain ⟨tx, vs, rfl, hv2⟩ := hvs.cons_inv
    have hsz : (Value.str (S x) tx :: vs).toArray.size ≤ sizeLine := by
      have := hv2.length
      simp at this hts ⊢
      rw [sizeLine_eq]
      omega
    have hcl := cLine_is
    simp only [List.length_cons] at hdp hun hts
    refine wpAny_call ?_
    k_dflt (refine' code_defQC ?k3 ?k5 ?k6 ?k7 ?k8 ?k9 ?kB ?kD ?_ ?c2 ?c3 ?c4; (case k3 => exact X); (case k5 => exact T); (case k6 => k_is); (case k7 => k_is); (case k8 => ktr_room); (case k9 => first | exact BindsTo.of_eq rfl | exact binds_K X rfl (by k_is) rfl rfl rfl); (case kB => exact rfl); (case kD => decide +kernel); (case c2 => exact rfl); (case c3 => exact rfl); (case c4 => exact rfl); k_whole; intro L' h' tk' cells' F' N' Y'; k_cells Y'; (try ((refine execs_at (b' := ?kbody) ?kbe ?_); (case kbe => (conv => lhs; whnf)))); (try dsimp only); (try k_fold))
    by_cases hx : x = anyT
    · have f0 : (S x == Str.ofString "any") = true := by rw [hx]; decide +kernel
      have hsh : (S nm).length ≤ 1000000 := by rw [S_len]; omega
      have hlen : (S nm).length = nm.length := S_len nm
      repeat' (first | (k_unfold; (try dsimp only)) | ((fail_if_success (with_reducible show wpAny _ _ (eval (Expr.ListComp _ _ _ _) _) _ _ _)); (fail_if_success (with_reducible show Q _ _)); first | walk1 | (dsimp only; walk1)))
      (with_reducible rename Fr _ _ _ _ => kF)
      (with_reducible rename News _ _ _ _ => kN)
      refine LCt.ListComp_T (F₀ := kF) (by with_unfolding_all rfl) (by decide) (by rfl) (by decide) (by rfl) ?_
      repeat' (first | (k_unfold; (try dsimp only)) | ((fail_if_success (with_reducible show Q _ _)); first | walk1 | (dsimp only; walk1)))
      (with_reducible rename Fr _ _ _ _ => kF)
      (with_reducible rename News _ _ _ _ => kN)
      (rename IsRange _ _ _ _ _ _ _ _ => hrg)
      rw [hlen] at hrg
      refine LCt.CompSrcT.range (n := nm.length + 1) hh kF kN hrg ?hsm ?hn ?hsz fun g => ?rest
      case hsm => exact small_one (by decide) (by decide) (by omega) (by omega)
      case hn => simp [Builtin.Range.rangeSize]
      case hsz => rw [sizeLine_eq]; omega
      case rest =>
        clear kF kN
        refine comp_indT (nm.length + 1) (fun i ys => IntsAre ys (((List.range i).filter fun k => fits ts (nm.drop k)).map Int.ofNat)) _ ?step ?fin .nil trivial
        case step =>
          intro i ys v I oI C oC D m₂ h tk E' QC QN hi hR hP hC hx2 F N off ne hQC hQN
          obtain ⟨t1, rfl⟩ := hP
          have hsl : Txt.slice (S nm) (some (0 + (i : Int))) none = S (nm.drop i) := by
            rw [Int.zero_add]; exact slice_from nm i (by omega)
          repeat' (first | (rw [hsl]) | (k_unfold; (try dsimp only)) | ((fail_if_success (with_reducible show QC _ _)); (fail_if_success (with_reducible show QN _)); (fail_if_success (with_reducible show wpAny _ _ (call (Value.ref 849) _) _ _ _)); first | walk1 | (dsimp only; walk1)))
          (with_reducible rename Fr _ _ _ _ => kF)
          (with_reducible rename News _ _ _ _ => kN)
          obtain ⟨b2, hb2⟩ : ∃ b2, fits ts (nm.drop i) = b2 := ⟨_, rfl⟩
          have ihc : ∀ l9 t9, ToldH PySem.Challenge.pw_il0113_01 w (Mine.K w.params) (20 + 5 * ts.length) (200 + 100 * ts.length) (fun h => ∃ vs c, h.get? l9 = some (listOf vs.toArray c) ∧ StrsAre vs (ts.map S)) (.ref 849) [.ref l9, .str (S (nm.drop i)) t9] (fun _ r _ => r = .bool b2) := fun l9 t9 => by
            rw [← hb2]; exact ih l9 (nm.drop i) t9 (by omega) (by rw [List.length_drop]; omega)
          k_dflt (refine' told_useB kF X kN T (hh := ?hh) (ihc _ _) ?hd ?hu ⟨vs, 0, (kN _ (.head _)).1, hv2⟩ ?ret)
          case hh => exact hh
          case hd => ktr_room
          case hu => ktr_units
          case ret =>
            intro h9 tk9 F9 N9
            clear kF kN
            have hfl : (List.range (i + 1)).filter (fun k => fits ts (nm.drop k)) = (List.range i).filter (fun k => fits ts (nm.drop k)) ++ if b2 = true then [i] else [] := by
              rw [List.range_succ, List.filter_append, show [i].filter (fun k => fits ts (nm.drop k)) = if b2 = true then [i] else [] from by rw [← hb2]; cases h : fits ts (nm.drop i) <;> simp [List.filter, h]]
            cases b2 with
            | true =>
              repeat' (first | (k_unfold; (try dsimp only)) | ((fail_if_success (with_reducible show QC _ _)); (fail_if_success (with_reducible show QN _)); first | walk1 | (dsimp only; walk1)))
              refine hQC _ _ _ _ F9 N9 (fun p hp => .tail _ hp) ?_
              rw [hfl, List.map_append, if_pos rfl]
              exact hR.append (by show IntsAre _ [(i : Int)]; rw [Int.zero_add]; exact .cons _ _ .nil)
            | false =>
              repeat' (first | (k_unfold; (try dsimp only)) | ((fail_if_success (with_reducible show QC _ _)); (fail_if_success (with_reducible show QN _)); first | walk1 | (dsimp only; walk1)))
              refine hQN _ _ _ F9 N9 (fun p hp => .tail _ hp) ?_
              rw [hfl, if_neg (by decide), List.append_nil]
              exact hR
        case fin => 
          intro ys hR
          repeat' (first | (k_unfold; (try dsimp only)) | ((fail_if_success (with_reducible show Q _ _)); first | walk1 | (dsimp only; walk1)))
          (with_reducible rename Fr _ _ _ _ => kF)
          exact hret _ _ _ kF.keep (by
            show _ = Value.bool (fits (x :: ts) nm)
            rw [show fits (x :: ts) nm = (List.range (nm.length + 1)).any (fun k => fits ts (nm.drop k)) from if_pos hx, any_filt])
    · have f0 : (S x == Str.ofString "any") = false := by
        rw [show Str.ofString "any" = S anyT by decide +kernel]
        exact S_ne hx
      have e0 : ∀ nm, fits (x :: ts) nm = (!nm.isEmpty && x.contains (nm.getD 0 0) && fits ts (nm.drop 1)) := fun nm => if_neg hx
      cases nm with
      | nil =>
        have f1 : (S [] == Str.ofString "") = true := by decide +kernel
        repeat' (first | (k_unfold; (try dsimp only)) | ((fail_if_success (with_reducible show Q _ _)); first | walk1 | (dsimp only; walk1)))
        (with_reducible rename Fr _ _ _ _ => kF)
        exact hret _ _ _ kF.keep (by rw [e0]; rfl)
      | cons ch r =>
        have f1 : (S (ch :: r) == Str.ofString "") = false := by
          rw [show Str.ofString "" = S [] by decide +kernel]
          exact S_ne (by simp)
        have hb : (ch :: r).length ≤ 1000 := by omega
        obtain ⟨b1, hb1⟩ : ∃ b1, (S x).cps.toList.contains ch = b1 := ⟨_, rfl⟩
        have e1 : x.contains ch = b1 := hb1
        have hsh : (S (ch :: r)).length ≤ 1000000 := by rw [S_len]; omega
        have hsl : Txt.slice (S (ch :: r)) (some 1) none = S r := slice_from (ch :: r) 1 (by simp)
        cases b1 with
        | false =>
          repeat' (first | (k_unfold; (try dsimp only)) | ((fail_if_success (with_reducible show Q _ _)); first | walk1 | (dsimp only; walk1)))
          (with_reducible rename Fr _ _ _ _ => kF)
          exact hret _ _ _ kF.keep (by rw [e0]; show _ = Value.bool (!(ch :: r).isEmpty && x.contains ch && fits ts r); rw [e1]; rfl)
        | true =>
          repeat' (first | (rw [hsl]) | (k_unfold; (try dsimp only)) | ((fail_if_success (with_reducible show Q _ _)); (fail_if_success (with_reducible show wpAny _ _ (call (Value.ref 849) _) _ _ _)); first | walk1 | (dsimp only; walk1)))
          (with_reducible rename Fr _ _ _ _ => kF)
          (with_reducible rename News _ _ _ _ => kN)
          k_dflt (refine' told_useB kF X kN T (hh := ?hh) (ih _ r _ (by omega) (by simp at hnm; omega)) ?hd ?hu ⟨vs, 0, (kN _ (.head _)).1, hv2⟩ ?ret)
          case hh => exact hh
          case hd => ktr_room
          case hu => ktr_units
          case ret =>
            intro h9 tk9 F9 N9
            clear kF kN
            repeat' (first | (k_unfold; (try dsimp only)) | ((fail_if_success (with_reducible show Q _ _)); first | walk1 | (dsimp only; walk1)))
            exact hret _ _ _ F9.keep (by rw [e0]; show _ = Value.bool (!(ch :: r).isEmpty && x.contains ch && fits ts r); rw [e1]; rfl)
end
section
/-- a new list of data, with all that it reaches -/
noncomputable def NewD (ds : List Dat) (h : Heap) (r : Value) (h' : Heap) : Prop := ∃ l vs c nd, r = .ref l ∧ h.get? l = none ∧ h'.get? l = some (listOf vs.toArray c) ∧ (∀ q ∈ nd, h.get? q.1 = none ∧ h'.get? q.1 = some q.2) ∧ DatAll nd vs ds
noncomputable def tabL : List (List (List Nat)) := [[[97], anyT], [[97, 98, 32, 42, 39]], [[42]], [anyT, [98]], [[98, 32, 42, 39], anyT], [anyT, [32], anyT]]
noncomputable def fitN (n : Int) (nm : List Nat) : Bool := fits (tabL.getD ((n.fdiv 3).fmod 6).toNat []) nm
/-- whether a name stays behind a step -/
noncomputable def stD (nm : List Nat) (b : Bool) (n : Int) : Bool := if n.fmod 3 = 0 then b && !fitN n nm else if n.fmod 3 = 1 then b && fitN n nm else b || fitN n nm
noncomputable def staysD (ns : List Int) (nm : List Nat) : Bool := ns.foldl (stD nm) true
noncomputable abbrev datOf (xss : List (List (List Nat))) : List Dat := xss.map fun xs => Dat.list (xs.map fun x => Dat.str (S x))
noncomputable def dueOf (names : List (List Nat)) (ns : List Int) : List (List (List Nat)) := (List.range ns.length).map fun i => names.filter (staysD (ns.take (i + 1)))
/-- the table's lists stand on the ledger -/
noncomputable def TabOk (rest : List (Addr × Obj)) (tas : List Addr) : Prop := tas.length = 6 ∧ ∀ j, j < 6 → ∃ vs c, (tas.getD j 0, listOf vs.toArray c) ∈ rest ∧ StrsAre vs ((tabL.getD j []).map S)
theorem TabOk.mono {r r' : List (Addr × Obj)} {tas : List Addr} (h : TabOk r tas) (hs : ∀ q ∈ r, q ∈ r') : TabOk r' tas := ⟨h.1, fun j hj => let ⟨vs, c, hm, hx⟩ := h.2 j hj; ⟨vs, c, hs _ hm, hx⟩⟩
theorem strs2d {a b : Str} {t u : Tok} {xs : List (List Nat)} (h : xs.map S = [a, b]) : StrsAre [.str a t, .str b u] (xs.map S) := by rw [h]; exact .cons _ _ (.cons _ _ .nil)
/-- between the turns of _law_due -/
inductive DuJ (g₀ : Heap) (ls ln c1 c2 c3 c4 c5 : Addr) (names : List (List Nat)) (ns : List Int) (i : Nat) : Heap → (Str → Option Value) → List (Addr × Obj) → Prop
  | mk (ld lst tb : Addr) (dvs : List Value) (cd cs ct : Nat) (tas : List Addr) (o1 o2 o3 o4 o5 : Obj) (v4 v5 : Option Value) (rest : List (Addr × Obj)) (m : Str → Option Value) (e1 : m (Str.ofString "steps") = some (.ref ls)) (e2 : m (Str.ofString "due") = some (.ref ld))
    (d1 : o1.data = .cell (some (.ref ln))) (d2 : o2.data = .cell (some (.ref tb))) (d3 : o3.data = .cell (some (.ref lst))) (d4 : o4.data = .cell v4) (d5 : o5.data = .cell v5) (htab : TabOk rest tas) (hdat : DatAll rest dvs (datOf ((List.range i).map fun k => names.filter (staysD (ns.take (k + 1))))))
    (hr1 : ∀ q ∈ rest, @Ne Nat q.1 ld) (hr3 : ∀ q ∈ rest, @Ne Nat q.1 c3) (hr4 : ∀ q ∈ rest, @Ne Nat q.1 c4) (hr5 : ∀ q ∈ rest, @Ne Nat q.1 c5) (ne1 : @Ne Nat lst ld) (ne2 : @Ne Nat tb ld) (ne3 : @LT.lt Nat _ c5 ld) (ne4 : @Ne Nat lst c3) (ne5 : @Ne Nat lst c4) (ne6 : @Ne Nat lst c5) (ne7 : @LT.lt Nat _ c5 tb) :
    DuJ g₀ ls ln c1 c2 c3 c4 c5 names ns i g₀ m ((ld, listOf dvs.toArray cd) :: (lst, listOf (names.map fun nm => Value.bool (staysD (ns.take i) nm)).toArray cs) :: (tb, listOf (tas.map Value.ref).toArray ct) :: (c5, o5) :: (c4, o4) :: (c3, o3) :: (c2, o2) :: (c1, o1) :: rest)
section
variable {prog : Program} {w : World} {A : Around} {E : Value → Shared → Prop} {s : Shared}
theorem idx_tab {value slice : PySem.Expr} {l : Addr} {tas : List Addr} {c : Nat} {nn : Int} {u : Tok} {Q : Value → Shared → Prop} (hl : s.heap.get? l = some (listOf (tas.map Value.ref).toArray c)) (hn : tas.length = 6) (h : Q (.ref (tas.getD ((nn.fdiv 3).fmod 6).toNat 0)) s)
    (hs : subscripted slice false (.ref l) (.int (Int.fmod (Int.fdiv nn 3) 6) u) = operate [.ref l, .int (Int.fmod (Int.fdiv nn 3) 6) u] (getItem (.ref l) (.int (Int.fmod (Int.fdiv nn 3) 6) u)) := by with_unfolding_all rfl) :
    wpAny (model prog w) A (subscriptTail value slice (.ref l) (.int (Int.fmod (Int.fdiv nn 3) 6) u)) Q E s := by
  have hL : s.heap.IsList l (tas.map Value.ref).toArray := ⟨_, hl, rfl, c, rfl⟩
  have h0 : 0 ≤ (nn.fdiv 3).fmod 6 := Int.fmod_nonneg_of_pos _ (by decide)
  have h1 : (nn.fdiv 3).fmod 6 < 6 := Int.fmod_lt_of_pos _ (by decide)
  refine tail_any hL.typeIs slot_list_getitem.lookup (wpAny_getItem_list hL h0 (by omega) ?_ h) hs
  have hj : ((nn.fdiv 3).fmod 6).toNat < tas.length := by omega
  simp [List.getElem?_eq_getElem hj]
theorem idx_b {value slice : PySem.Expr} {l : Addr} {names : List (List Nat)} {f : List Nat → Bool} {c i : Nat} {u : Tok} {nm : List Nat} {b : Bool} {Q : Value → Shared → Prop} (hl : s.heap.get? l = some (listOf (names.map fun nm => Value.bool (f nm)).toArray c)) (hsz : names.length ≤ 1000) (hi : names[i]? = some nm) (hb : f nm = b) (h : Q (.bool b) s)
    (hs : subscripted slice false (.ref l) (.int (0 + (i : Int)) u) = operate [.ref l, .int (0 + (i : Int)) u] (getItem (.ref l) (.int (0 + (i : Int)) u)) := by with_unfolding_all rfl) :
    wpAny (model prog w) A (subscriptTail value slice (.ref l) (.int (0 + (i : Int)) u)) Q E s := by
  have hL : s.heap.IsList l (names.map fun nm => Value.bool (f nm)).toArray := ⟨_, hl, rfl, c, rfl⟩
  have hlt := (List.getElem?_eq_some_iff.mp hi).1
  refine tail_any hL.typeIs slot_list_getitem.lookup (wpAny_getItem_list hL (by omega) (by omega) ?_ h) hs
  rw [Int.zero_add, Int.toNat_natCast]
  simp [hi, hb]
theorem idx_n {value slice : PySem.Expr} {l : Addr} {names : List (List Nat)} {vs : List Value} {c i : Nat} {u : Tok} {nm : List Nat} {Q : Value → Shared → Prop} (hl : s.heap.get? l = some (listOf vs.toArray c)) (hx : StrsAre vs (names.map S)) (hsz : names.length ≤ 1000) (hi : names[i]? = some nm) (h : ∀ t, Q (.str (S nm) t) s)
    (hs : subscripted slice false (.ref l) (.int (0 + (i : Int)) u) = operate [.ref l, .int (0 + (i : Int)) u] (getItem (.ref l) (.int (0 + (i : Int)) u)) := by with_unfolding_all rfl) :
    wpAny (model prog w) A (subscriptTail value slice (.ref l) (.int (0 + (i : Int)) u)) Q E s := by
  have hlt := (List.getElem?_eq_some_iff.mp hi).1
  have e : S (names.getD (0 + (i : Int)).toNat []) = S nm := by
    rw [Int.zero_add, Int.toNat_natCast, List.getD_eq_getElem?_getD, hi]; rfl
  exact idx_l hl hx hsz (by omega) (by omega) (fun t => by rw [e]; exact h t) hs
end
theorem du_init {g₀ h : Heap} {L ls ln c1 c2 c3 c4 c5 ld lst tb t0 t1 t2 t3 t4 t5 : Addr} {names : List (List Nat)} {ns : List Int} {m : Str → Option Value} {all : List (Addr × Obj)} {o1 o2 o3 o4 o5 : Obj} {v4 v5 : Option Value} {u0 u1 u2 u3 u4 u5 u6 u7 u8 u9 : Tok} {svs : List Value}
    (F : Fr g₀ L h m) (N : News g₀ L h all) (e1 : m (Str.ofString "steps") = some (.ref ls)) (e2 : m (Str.ofString "due") = some (.ref ld)) (m1 : (c1, o1) ∈ all) (m2 : (c2, o2) ∈ all) (m3 : (c3, o3) ∈ all) (m4 : (c4, o4) ∈ all) (m5 : (c5, o5) ∈ all) (hd1 : o1.data = .cell (some (.ref ln))) (hd2 : o2.data = .cell (some (.ref tb))) (hd3 : o3.data = .cell (some (.ref lst))) (hd4 : o4.data = .cell v4) (hd5 : o5.data = .cell v5)
    (m6 : (ld, listOf #[] 0) ∈ all) (m7 : (lst, LCg.lst svs) ∈ all) (hs : svs = names.map fun _ => Value.bool true) (m8 : (tb, listOf #[.ref t0, .ref t1, .ref t2, .ref t3, .ref t4, .ref t5] 0) ∈ all)
    (n0 : (t0, listOf #[.str (Str.ofString "a") u0, .str (Str.ofString "any") u1] 0) ∈ all) (n1 : (t1, listOf #[.str (Str.ofString "ab *'") u2] 0) ∈ all) (n2 : (t2, listOf #[.str (Str.ofString "*") u3] 0) ∈ all) (n3 : (t3, listOf #[.str (Str.ofString "any") u4, .str (Str.ofString "b") u5] 0) ∈ all)
    (n4 : (t4, listOf #[.str (Str.ofString "b *'") u6, .str (Str.ofString "any") u7] 0) ∈ all) (n5 : (t5, listOf #[.str (Str.ofString "any") u8, .str (Str.ofString " ") u9, .str (Str.ofString "any") u8] 0) ∈ all ∨ ∃ b, (t5, listOf #[.str (Str.ofString "any") u8, .str (Str.ofString " ") u9, .str (Str.ofString "any") b] 0) ∈ all)
    (a0 : @LT.lt Nat _ c5 t0) (a1 : @LT.lt Nat _ c5 t1) (a2 : @LT.lt Nat _ c5 t2) (a3 : @LT.lt Nat _ c5 t3) (a4 : @LT.lt Nat _ c5 t4) (a5 : @LT.lt Nat _ c5 t5) (b0 : @LT.lt Nat _ t0 ld) (b1 : @LT.lt Nat _ t1 ld) (b2 : @LT.lt Nat _ t2 ld) (b3 : @LT.lt Nat _ t3 ld) (b4 : @LT.lt Nat _ t4 ld) (b5 : @LT.lt Nat _ t5 ld)
    (ne1 : @LT.lt Nat _ lst ld) (ne2 : @LT.lt Nat _ tb ld) (ne3 : @LT.lt Nat _ c5 ld) (ne4 : @Ne Nat c3 lst) (ne5 : @Ne Nat c4 lst) (ne6 : @Ne Nat c5 lst) (ne7 : @LT.lt Nat _ c5 tb) (hc3 : @LT.lt Nat _ c3 c4) (hc4 : @LT.lt Nat _ c4 c5) {P : Prop}
    (kk : ∀ news0, News g₀ L h news0 → DuJ g₀ ls ln c1 c2 c3 c4 c5 names ns 0 g₀ m news0 → P) : P := by
  obtain ⟨b, n5⟩ : ∃ b, (t5, listOf #[.str (Str.ofString "any") u8, .str (Str.ofString " ") u9, .str (Str.ofString "any") b] 0) ∈ all := n5.elim (fun h => ⟨_, h⟩) id
  subst hs
  refine kk ((ld, listOf #[] 0) :: (lst, listOf (names.map fun _ => Value.bool true).toArray (names.map fun _ => Value.bool true).length) :: (tb, listOf ([t0, t1, t2, t3, t4, t5].map Value.ref).toArray 0) :: (c5, o5) :: (c4, o4) :: (c3, o3) :: (c2, o2) :: (c1, o1) ::
    [(t0, listOf #[.str (Str.ofString "a") u0, .str (Str.ofString "any") u1] 0), (t1, listOf #[.str (Str.ofString "ab *'") u2] 0), (t2, listOf #[.str (Str.ofString "*") u3] 0), (t3, listOf #[.str (Str.ofString "any") u4, .str (Str.ofString "b") u5] 0), (t4, listOf #[.str (Str.ofString "b *'") u6, .str (Str.ofString "any") u7] 0), (t5, listOf #[.str (Str.ofString "any") u8, .str (Str.ofString " ") u9, .str (Str.ofString "any") b] 0)])
    (news_sub N (fun q hq => ?_)) (.mk ld lst tb [] 0 _ 0 [t0, t1, t2, t3, t4, t5] o1 o2 o3 o4 o5 v4 v5 _ m e1 e2 hd1 hd2 hd3 hd4 hd5 ⟨rfl, ?_⟩ .nil ?_ ?_ ?_ ?_ (Nat.ne_of_lt ne1) (Nat.ne_of_lt ne2) ne3 (Ne.symm ne4) (Ne.symm ne5) (Ne.symm ne6) ne7)
  · simp only [List.mem_cons, List.not_mem_nil, or_false] at hq
    rcases hq with rfl | rfl | rfl | rfl | rfl | rfl | rfl | rfl | rfl | rfl | rfl | rfl | rfl | rfl <;> assumption
  · intro j hj
    have e : Str.ofString "any" = S anyT := by decide +kernel
    match j, hj with
    | 0, _ => exact ⟨[_, _], 0, .head _, strs2d (by decide +kernel)⟩
    | 1, _ => exact ⟨[_], 0, .tail _ (.head _), by rw [show ((tabL.getD 1 []).map S) = [Str.ofString "ab *'"] by decide +kernel]; exact .cons _ _ .nil⟩
    | 2, _ => exact ⟨[_], 0, .tail _ (.tail _ (.head _)), by rw [show ((tabL.getD 2 []).map S) = [Str.ofString "*"] by decide +kernel]; exact .cons _ _ .nil⟩
    | 3, _ => exact ⟨[_, _], 0, .tail _ (.tail _ (.tail _ (.head _))), strs2d (by decide +kernel)⟩
    | 4, _ => exact ⟨[_, _], 0, .tail _ (.tail _ (.tail _ (.tail _ (.head _)))), strs2d (by decide +kernel)⟩
    | 5, _ => exact ⟨[_, _, _], 0, .tail _ (.tail _ (.tail _ (.tail _ (.tail _ (.head _))))), by rw [show ((tabL.getD 5 []).map S) = [Str.ofString "any", Str.ofString " ", Str.ofString "any"] by decide +kernel]; exact .cons _ _ (.cons _ _ (.cons _ _ .nil))⟩
  all_goals
    refine List.forall_mem_cons.mpr ⟨?_, List.forall_mem_cons.mpr ⟨?_, List.forall_mem_cons.mpr ⟨?_, List.forall_mem_cons.mpr ⟨?_, List.forall_mem_cons.mpr ⟨?_, List.forall_mem_cons.mpr ⟨?_, fun _ h => nomatch h⟩⟩⟩⟩⟩⟩
  iterate 6 (refine Nat.ne_of_lt ?_; assumption)
  iterate 6 (refine Nat.ne_of_gt (Nat.lt_trans hc3 (Nat.lt_trans hc4 ?_)); assumption)
  iterate 6 (refine Nat.ne_of_gt (Nat.lt_trans hc4 ?_); assumption)
  iterate 6 (refine Nat.ne_of_gt ?_; assumption)
theorem strs_dat {nd : List (Addr × Obj)} : ∀ {vs : List Value} {xs : List Str}, StrsAre vs xs → DatAll nd vs (xs.map Dat.str)
  | _, _, .nil => .nil
  | _, _, .cons x t h => .cons (.str x t) (strs_dat h)
theorem staysD_snoc {ns : List Int} {i : Nat} {nn : Int} {nm : List Nat} (hg : ns[i]? = some nn) : staysD (ns.take (i + 1)) nm = stD nm (staysD (ns.take i) nm) nn := by
  unfold staysD
  rw [take_snoc hg, List.foldl_append]
  rfl
theorem m2d (m : Str → Option Value) (a b : Str) (va vb : Option Value) (ha : m a = va) (hb : m b = vb) : m = fun y => if y = a then va else if y = b then vb else m y := by
  funext y
  by_cases h1 : y = a
  · rw [if_pos h1, h1, ha]
  · rw [if_neg h1]
    by_cases h2 : y = b
    · rw [if_pos h2, h2, hb]
    · rw [if_neg h2]
theorem du_end {g₀ : Heap} {ls ln c1 c2 c3 c4 c5 L I ld lst tb D : Addr} {oI o1 o2 o3 o4 o5 : Obj} {v4 v5 : Option Value} {names : List (List Nat)} {ns : List Int} {i cd ct : Nat} {nn : Int} {s : Shared} {Q : Flow → Shared → Prop} {h9 : Heap} {tk9 : Nat} {m9 : Str → Option Value} {all rest : List (Addr × Obj)} {dvs ys svs : List Value} {tas : List Addr}
    (F9 : Fr g₀ L h9 m9) (N9 : News g₀ L h9 all) (mI : (I, oI) ∈ all) (m1 : (ld, listOf (dvs ++ [Value.ref D]).toArray cd) ∈ all) (k1 : (c1, o1) ∈ all) (k2 : (c2, o2) ∈ all) (k3 : (c3, o3) ∈ all) (k4 : (c4, o4) ∈ all) (k5 : (c5, o5) ∈ all)
    (e1 : m9 (Str.ofString "steps") = some (.ref ls)) (e2 : m9 (Str.ofString "due") = some (.ref ld)) (d1 : o1.data = .cell (some (.ref ln))) (d2 : o2.data = .cell (some (.ref tb))) (d3 : o3.data = .cell (some (.ref lst))) (d4 : o4.data = .cell v4) (d5 : o5.data = .cell v5) (m2 : (lst, LCg.lst svs) ∈ all) (m3 : (tb, listOf (tas.map Value.ref).toArray ct) ∈ all) (mD : (D, LCg.lst ys) ∈ all) (mr : ∀ q ∈ rest, q ∈ all) (hsv : svs = names.map fun nm => Value.bool (stD nm (staysD (ns.take i) nm) nn)) (hg : ns[i]? = some nn)
    (hys : StrsAre ys ((names.filter (staysD (ns.take (i + 1)))).map S)) (htab : TabOk rest tas) (hdat : DatAll rest dvs (datOf ((List.range i).map fun k => names.filter (staysD (ns.take (k + 1)))))) (hr1 : ∀ q ∈ rest, @Ne Nat q.1 ld) (hr3 : ∀ q ∈ rest, @Ne Nat q.1 c3) (hr4 : ∀ q ∈ rest, @Ne Nat q.1 c4) (hr5 : ∀ q ∈ rest, @Ne Nat q.1 c5) (hrI : ∀ q ∈ rest, q.1 ≠ I)
    (ne1 : @Ne Nat lst ld) (ne2 : @Ne Nat tb ld) (ne3 : @LT.lt Nat _ c5 ld) (ne4 : @Ne Nat lst c3) (ne5 : @Ne Nat lst c4) (ne6 : @Ne Nat lst c5) (ne7 : @LT.lt Nat _ c5 tb) {tk1 l0 : Addr} {Rq : Prop} (hD : @Ne Nat lst D ∧ @Ne Nat tk1 D ∧ @Ne Nat I D ∧ @Ne Nat ld D ∧ @Ne Nat l0 D ∧ @Ne Nat tb D ∧ @Ne Nat c5 D ∧ @Ne Nat c4 D ∧ @Ne Nat c3 D ∧ Rq)
    (i1 : @Ne Nat ld I) (i2 : @Ne Nat lst I) (i3 : @Ne Nat tb I) (i5 : @Ne Nat c1 I) (i6 : @Ne Nat c2 I) (i7 : @Ne Nat c3 I) (i8 : @Ne Nat c4 I) (i9 : @Ne Nat c5 I) :
    ForEnd L s I oI (DuJ g₀ ls ln c1 c2 c3 c4 c5 names ns (i + 1)) Q .next { s with heap := h9, toks := tk9 } := by
  have hsv2 : svs = names.map fun nm => Value.bool (staysD (ns.take (i + 1)) nm) := by
    rw [hsv]
    exact List.map_congr_left fun nm _ => by rw [staysD_snoc hg]
  subst hsv2
  refine .mk g₀ h9 tk9 m9 ((ld, listOf (dvs ++ [Value.ref D]).toArray cd) :: (lst, listOf (names.map fun nm => Value.bool (staysD (ns.take (i + 1)) nm)).toArray (names.map fun nm => Value.bool (staysD (ns.take (i + 1)) nm)).length) :: (tb, listOf (tas.map Value.ref).toArray ct) :: (c5, o5) :: (c4, o4) :: (c3, o3) :: (c2, o2) :: (c1, o1) :: (D, LCg.lst ys) :: rest) F9
    (news_sub N9 (List.forall_mem_cons.mpr ⟨mI, List.forall_mem_cons.mpr ⟨m1, List.forall_mem_cons.mpr ⟨m2, List.forall_mem_cons.mpr ⟨m3, List.forall_mem_cons.mpr ⟨k5, List.forall_mem_cons.mpr ⟨k4, List.forall_mem_cons.mpr ⟨k3, List.forall_mem_cons.mpr ⟨k2, List.forall_mem_cons.mpr ⟨k1, List.forall_mem_cons.mpr ⟨mD, mr⟩⟩⟩⟩⟩⟩⟩⟩⟩⟩))
    (List.forall_mem_cons.mpr ⟨i1, List.forall_mem_cons.mpr ⟨i2, List.forall_mem_cons.mpr ⟨i3, List.forall_mem_cons.mpr ⟨i9, List.forall_mem_cons.mpr ⟨i8, List.forall_mem_cons.mpr ⟨i7, List.forall_mem_cons.mpr ⟨i6, List.forall_mem_cons.mpr ⟨i5, List.forall_mem_cons.mpr ⟨Ne.symm hD.2.2.1, hrI⟩⟩⟩⟩⟩⟩⟩⟩⟩)
    (.mk ld lst tb (dvs ++ [Value.ref D]) cd _ ct tas o1 o2 o3 o4 o5 v4 v5 ((D, LCg.lst ys) :: rest) m9 e1 e2 d1 d2 d3 d4 d5 (htab.mono fun q hq => .tail _ hq) ?_ (List.forall_mem_cons.mpr ⟨Ne.symm hD.2.2.2.1, hr1⟩) (List.forall_mem_cons.mpr ⟨Ne.symm hD.2.2.2.2.2.2.2.2.1, hr3⟩) (List.forall_mem_cons.mpr ⟨Ne.symm hD.2.2.2.2.2.2.2.1, hr4⟩) (List.forall_mem_cons.mpr ⟨Ne.symm hD.2.2.2.2.2.2.1, hr5⟩) ne1 ne2 ne3 ne4 ne5 ne6 ne7)
  rw [List.range_succ, List.map_append]
  show DatAll _ _ (List.map _ (_ ++ _))
  rw [List.map_append]
  refine DatAll.append (DatAll.mono (fun q hq => .tail _ hq) hdat) (DatAll.one ?_)
  refine .list (.head _) ?_
  have := strs_dat (nd := (D, LCg.lst ys) :: rest) hys
  rw [List.map_map] at this
  exact this
/-- a turn's start -/
theorem du_turn {g₀ g₁ h₁ : Heap} {ls ln c1 c2 c3 c4 c5 L I : Addr} {oI : Obj} {names : List (List Nat)} {ns : List Int} {i : Nat} {m₁ : Str → Option Value} {news₁ : List (Addr × Obj)} (J : DuJ g₀ ls ln c1 c2 c3 c4 c5 names ns i g₁ m₁ news₁) (off : ∀ q ∈ news₁, q.1 ≠ I) (F : Fr g₁ L h₁ m₁) (N : News g₁ L h₁ ((I, oI) :: news₁)) {P : Prop}
    (kk : ∀ ld lst tb dvs cd cs ct tas o1 o2 o3 o4 o5 v4 v5 rest (m : Str → Option Value), Fr g₀ L h₁ (fun y => if y = (Str.ofString "steps") then some (.ref ls) else if y = (Str.ofString "due") then some (.ref ld) else m y) → News g₀ L h₁ ((I, oI) :: (ld, listOf dvs.toArray cd) :: (lst, listOf (names.map fun nm => Value.bool (staysD (ns.take i) nm)).toArray cs) :: (tb, listOf (tas.map Value.ref).toArray ct) :: (c5, o5) :: (c4, o4) :: (c3, o3) :: (c2, o2) :: (c1, o1) :: rest) →
      o1.data = .cell (some (.ref ln)) → o2.data = .cell (some (.ref tb)) → o3.data = .cell (some (.ref lst)) → o4.data = .cell v4 → o5.data = .cell v5 → TabOk rest tas → DatAll rest dvs (datOf ((List.range i).map fun k => names.filter (staysD (ns.take (k + 1))))) →
      (∀ q ∈ rest, @Ne Nat q.1 ld) → (∀ q ∈ rest, @Ne Nat q.1 c3) → (∀ q ∈ rest, @Ne Nat q.1 c4) → (∀ q ∈ rest, @Ne Nat q.1 c5) → (∀ q ∈ rest, q.1 ≠ I) → @Ne Nat lst ld → @Ne Nat tb ld → @LT.lt Nat _ c5 ld → @Ne Nat lst c3 → @Ne Nat lst c4 → @Ne Nat lst c5 → @LT.lt Nat _ c5 tb →
      @Ne Nat ld I → @Ne Nat lst I → @Ne Nat tb I → @Ne Nat c5 I → @Ne Nat c4 I → @Ne Nat c3 I → @Ne Nat c2 I → @Ne Nat c1 I → P) : P := by
  cases J with
  | mk ld lst tb dvs cd cs ct tas o1 o2 o3 o4 o5 v4 v5 rest m e1 e2 d1 d2 d3 d4 d5 htab hdat hr1 hr3 hr4 hr5 ne1 ne2 ne3 ne4 ne5 ne6 ne7 =>
    have o := List.forall_mem_cons.mp off
    have p := List.forall_mem_cons.mp o.2
    have q := List.forall_mem_cons.mp p.2
    have r := List.forall_mem_cons.mp q.2
    have t := List.forall_mem_cons.mp r.2
    have u := List.forall_mem_cons.mp t.2
    have v := List.forall_mem_cons.mp u.2
    have x := List.forall_mem_cons.mp v.2
    exact kk ld lst tb dvs cd cs ct tas o1 o2 o3 o4 o5 v4 v5 rest m₁ (m2d m₁ _ _ _ _ e1 e2 ▸ F) N d1 d2 d3 d4 d5 htab hdat hr1 hr3 hr4 hr5 x.2 ne1 ne2 ne3 ne4 ne5 ne6 ne7 o.1 p.1 q.1 r.1 t.1 u.1 v.1 x.1
theorem du_fin {g₀ g₁ h₁ : Heap} {ls ln c1 c2 c3 c4 c5 L : Addr} {names : List (List Nat)} {ns : List Int} {i : Nat} {m₁ : Str → Option Value} {news₁ : List (Addr × Obj)} (J : DuJ g₀ ls ln c1 c2 c3 c4 c5 names ns i g₁ m₁ news₁) (F : Fr g₁ L h₁ m₁) (N : News g₁ L h₁ news₁) {P : Prop}
    (kk : ∀ ld dvs cd rest (m : Str → Option Value), Fr g₀ L h₁ (fun y => if y = (Str.ofString "steps") then some (.ref ls) else if y = (Str.ofString "due") then some (.ref ld) else m y) → News g₀ L h₁ ((ld, listOf dvs.toArray cd) :: rest) → DatAll rest dvs (datOf ((List.range i).map fun k => names.filter (staysD (ns.take (k + 1))))) → P) : P := by
  cases J with
  | mk ld lst tb dvs cd cs ct tas o1 o2 o3 o4 o5 v4 v5 rest m e1 e2 d1 d2 d3 d4 d5 htab hdat hr1 hr3 hr4 hr5 ne1 ne2 ne3 ne4 ne5 ne6 ne7 =>
    exact kk ld dvs cd rest m₁ (m2d m₁ _ _ _ _ e1 e2 ▸ F) (news_sub N (List.forall_mem_cons.mpr ⟨.head _, fun q hq => .tail _ (.tail _ (.tail _ (.tail _ (.tail _ (.tail _ (.tail _ (.tail _ hq)))))))⟩)) hdat
theorem du_hl {g₀ g₁ h₁ : Heap} {ls ln c1 c2 c3 c4 c5 L : Addr} {names : List (List Nat)} {ns : List Int} {i c : Nat} {m₁ : Str → Option Value} {news₁ : List (Addr × Obj)} {us : List Value} (hls : g₀.get? ls = some (listOf us.toArray c)) (J : DuJ g₀ ls ln c1 c2 c3 c4 c5 names ns i g₁ m₁ news₁) (F : Fr g₁ L h₁ m₁) : h₁.IsList ls us.toArray := by
  cases J with
  | mk => exact keep_list F hls
/-- where the branches meet -/
@[irreducible] noncomputable def MidJ (g : Heap) (L : Addr) (s : Shared) (m : Str → Option Value) (pre tl : List (Addr × Obj)) (c : Addr) (Z : Obj) (f : Flow) (s₁ : Shared) : Prop :=
  ∃ (D : Addr) (o : Obj) (h : Heap) (tk : Tok), f = .next ∧ s₁ = { s with heap := h, toks := tk } ∧ Fr g L h m ∧ News g L h ((D, Z) :: pre ++ (c, o) :: tl) ∧ o.data = .cell (some (.ref D)) ∧ (∀ q ∈ pre, q.1 ≠ D) ∧ @Ne Nat c D
theorem MidJ.intro {g h : Heap} {L D c : Addr} {s : Shared} {m : Str → Option Value} {x1 x2 x3 x4 x5 x6 x7 : Addr × Obj} {tl : List (Addr × Obj)} {Z o : Obj} {tk : Tok} (F : Fr g L h m) (N : News g L h ((D, Z) :: x1 :: x2 :: x3 :: x4 :: x5 :: x6 :: x7 :: (c, o) :: tl)) (ho : o.data = .cell (some (.ref D))) {R : Prop}
    (off : @Ne Nat x1.1 D ∧ @Ne Nat x2.1 D ∧ @Ne Nat x3.1 D ∧ @Ne Nat x4.1 D ∧ @Ne Nat x5.1 D ∧ @Ne Nat x6.1 D ∧ @Ne Nat x7.1 D ∧ @Ne Nat c D ∧ R) : MidJ g L s m [x1, x2, x3, x4, x5, x6, x7] tl c Z .next { s with heap := h, toks := tk } := by
  unfold MidJ
  exact ⟨D, o, h, tk, rfl, rfl, F, N, ho, List.forall_mem_cons.mpr ⟨off.1, List.forall_mem_cons.mpr ⟨off.2.1, List.forall_mem_cons.mpr ⟨off.2.2.1, List.forall_mem_cons.mpr ⟨off.2.2.2.1, List.forall_mem_cons.mpr ⟨off.2.2.2.2.1, List.forall_mem_cons.mpr ⟨off.2.2.2.2.2.1, List.forall_mem_cons.mpr ⟨off.2.2.2.2.2.2.1, fun _ h => nomatch h⟩⟩⟩⟩⟩⟩⟩, off.2.2.2.2.2.2.2.1⟩
theorem mid_join {prog : Program} {w : World} {A : Around} {E : Value → Shared → Prop} {s : Shared} {c : Sem Flow} {Q : Flow → Shared → Prop} {g : Heap} {L cc : Addr} {m : Str → Option Value} (Z : Obj) {x1 x2 x3 x4 x5 x6 x7 : Addr × Obj} {o : Obj} {tl : List (Addr × Obj)} (_F : Fr g L s.heap m) (_N : News g L s.heap (x1 :: x2 :: x3 :: x4 :: x5 :: x6 :: x7 :: (cc, o) :: tl))
    (br : wpAny (model prog w) A c (MidJ g L s m [x1, x2, x3, x4, x5, x6, x7] tl cc Z) E s)
    (behind : ∀ D o h tk, Fr g L h m → News g L h ((D, Z) :: x1 :: x2 :: x3 :: x4 :: x5 :: x6 :: x7 :: (cc, o) :: tl) → o.data = .cell (some (.ref D)) → @Ne Nat x1.1 D → @Ne Nat x2.1 D → @Ne Nat x3.1 D → @Ne Nat x4.1 D → @Ne Nat x5.1 D → @Ne Nat x6.1 D → @Ne Nat x7.1 D → @Ne Nat cc D → Q .next { s with heap := h, toks := tk }) : wpAny (model prog w) A c Q E s := by
  refine wpAny_mono br (fun f s₁ h => ?_) fun _ _ e => e
  unfold MidJ at h
  obtain ⟨D, o', h', tk, rfl, rfl, F', N', ho, hp, hc⟩ := h
  exact behind D o' h' tk F' N' ho (hp _ (.head _)) (hp _ (.tail _ (.head _))) (hp _ (.tail _ (.tail _ (.head _)))) (hp _ (.tail _ (.tail _ (.tail _ (.head _))))) (hp _ (.tail _ (.tail _ (.tail _ (.tail _ (.head _)))))) (hp _ (.tail _ (.tail _ (.tail _ (.tail _ (.tail _ (.head _))))))) (hp _ (.tail _ (.tail _ (.tail _ (.tail _ (.tail _ (.tail _ (.head _)))))))) hc
theorem len_n {prog : Program} {w : World} {A : Around} {E : Value → Shared → Prop} {s : Shared} {h₀ : Heap} {L l : Addr} {m : Str → Option Value} {vs : List Value} {c : Nat} {names : List (List Nat)} {Q : Value → Shared → Prop} (F : Fr h₀ L s.heap m) (hl : h₀.get? l = some (listOf vs.toArray c)) (hv : vs.length = names.length) (hz : names.length ≤ 1000) (h : Q (.int (names.length : Int) (s.toks + 1)) { s with toks := s.toks + 1 + 1 }) : wpAny (model prog w) A (call (.builtin "len") [.ref l]) Q E s :=
  kun_lenL (keep_list F hl) (by simp [hv]) (by omega) h
local macro_rules | `(tactic| walk_at "call builtin:len") => `(tactic| (k_here; k_dflt (refine' len_n ?k1 ?k2 ?k3 ?k4 ?_; (case k1 => k_asm); (case k2 => assumption); (case k3 => assumption); (case k4 => omega); k_whole)))
local macro_rules | `(tactic| walk_at "subscriptTail") => `(tactic| (k_here; (with_reducible show wpAny _ _ (subscriptTail _ _ (Value.ref _) (Value.int (HAdd.hAdd (0 : Int) _) _)) _ _ _); k_dflt (refine' idx_n ?k1 ?k0 ?k2 ?k3 ?_; (case k1 => exact Fr.keep (by k_asm) _ _ (by assumption)); (case k0 => assumption); (case k2 => omega); (case k3 => assumption); k_whole); intro t9))
local macro_rules | `(tactic| walk_at "subscriptTail") => `(tactic| (k_here; (with_reducible show wpAny _ _ (subscriptTail _ _ (Value.ref _) (Value.int (HAdd.hAdd (0 : Int) _) _)) _ _ _); k_dflt (refine' idx_b ?k1 ?k2 ?k3 ?k4 ?_; (case k1 => exact News.get (by k_asm) (by k_mem)); (case k2 => omega); (case k3 => assumption); (case k4 => assumption); k_whole)))
local macro_rules | `(tactic| walk_at "subscriptTail") => `(tactic| (k_here; (with_reducible show wpAny _ _ (subscriptTail _ _ (Value.ref _) (Value.int (Int.fmod _ _) _)) _ _ _); k_dflt (refine' idx_tab ?k1 ?k2 ?_; (case k1 => exact News.get (by k_asm) (by k_mem)); (case k2 => assumption); k_whole)))
theorem mod3 (n : Int) : n.fmod 3 = 0 ∨ n.fmod 3 = 1 ∨ n.fmod 3 = 2 := by
  have h0 : 0 ≤ n.fmod 3 := Int.fmod_nonneg_of_pos _ (by decide)
  have h1 : n.fmod 3 < 3 := Int.fmod_lt_of_pos _ (by decide)
  omega
theorem st_snoc {names : List (List Nat)} {ns : List Int} {i k : Nat} {nn : Int} {nm : List Nat} {b1 b2 b : Bool} {ys : List Value} (hg : names[k]? = some nm) (hb1 : staysD (ns.take i) nm = b1) (hb2 : fitN nn nm = b2) (hR : ys = (names.take k).map fun nm => Value.bool (stD nm (staysD (ns.take i) nm) nn))
    (hb : (if nn.fmod 3 = 0 then b1 && !b2 else if nn.fmod 3 = 1 then b1 && b2 else b1 || b2) = b) : ys ++ [Value.bool b] = (names.take (k + 1)).map fun nm => Value.bool (stD nm (staysD (ns.take i) nm) nn) := by
  rw [hR, List.take_add_one, hg, List.map_append]
  show _ = _ ++ [Value.bool (stD nm (staysD (ns.take i) nm) nn)]
  rw [← hb]
  unfold stD
  rw [hb1, hb2]
theorem due_yes {names : List (List Nat)} {f : List Nat → Bool} {k : Nat} {nm : List Nat} {ys : List Value} {t : Tok} (hg : names[k]? = some nm) (hb : f nm = true) (hR : StrsAre ys (((names.take k).filter f).map S)) : StrsAre (ys ++ [.str (S nm) t]) (((names.take (k + 1)).filter f).map S) := by
  rw [take_snoc hg, List.filter_append, List.map_append, List.filter_cons_of_pos (by exact hb)]
  exact strs_snoc hR
theorem due_no {names : List (List Nat)} {f : List Nat → Bool} {k : Nat} {nm : List Nat} {ys : List Value} (hg : names[k]? = some nm) (hb : f nm = false) (hR : StrsAre ys (((names.take k).filter f).map S)) : StrsAre ys (((names.take (k + 1)).filter f).map S) := by
  rw [take_snoc hg, List.filter_append, List.filter_cons_of_neg (by rw [hb]; exact Bool.false_ne_true), List.filter_nil, List.append_nil]
  exact hR
theorem due_c (w : World) (ln ls : Addr) (names : List (List Nat)) (ns : List Int) (hnn : names.length ≤ 100) (hnm : ∀ x ∈ names, x.length ≤ 100) (hns : ns.length ≤ 100) :
    ToldH PySem.Challenge.pw_il0113_01 w (Mine.K w.params) 100 1600 (fun h => (∃ vs c, h.get? ln = some (listOf vs.toArray c) ∧ StrsAre vs (names.map S)) ∧ ∃ vs c, h.get? ls = some (listOf vs.toArray c) ∧ IntsAre vs ns) (.ref 859) [.ref ln, .ref ls] (NewD (datOf (dueOf names ns))) := by
  intro p loose mean mg mb A s Q E X T hh hdp hun hpre hret
  obtain ⟨⟨vs, c, hln, hvs⟩, us, c2, hls, hus⟩ := hpre
  refine wpAny_call ?_
  k_dflt (refine' code_defQC ?k3 ?k5 ?k6 ?k7 ?k8 ?k9 ?kB ?kD ?_ ?c2 ?c3 ?c4; (case k3 => exact X); (case k5 => exact T); (case k6 => k_is); (case k7 => k_is); (case k8 => ktr_room); (case k9 => first | exact BindsTo.of_eq rfl | exact binds_K X rfl (by k_is) rfl rfl rfl); (case kB => exact rfl); (case kD => decide +kernel); (case c2 => exact rfl); (case c3 => exact rfl); (case c4 => exact rfl); k_whole; intro L' h' tk' cells' F' N' Y'; k_cells Y'; (try ((refine execs_at (b' := ?kbody) ?kbe ?_); (case kbe => (conv => lhs; whnf)))); (try dsimp only); (try k_fold))
  repeat' (first | (k_unfold; (try dsimp only)) | ((fail_if_success (with_reducible show wpAny _ _ (eval (Expr.ListComp _ _ _ _) _) _ _ _)); (fail_if_success (with_reducible show wpAny _ _ (exec (Stmt.For _ _ _ _ _) _) _ _ _)); (fail_if_success (with_reducible show Q _ _)); first | walk1 | (dsimp only; walk1)))
  (with_reducible rename Fr _ _ _ _ => kF)
  (with_reducible rename News _ _ _ _ => kN)
  refine LCg.ListComp_U (F₀ := kF) (by with_unfolding_all rfl) (by decide) (by rfl) (by decide) (by rfl) ?_
  repeat' (first | (k_unfold; (try dsimp only)) | ((fail_if_success (with_reducible show Q _ _)); first | walk1 | (dsimp only; walk1)))
  have hvl : vs.length = names.length := by
    have := hvs.length
    simpa using this
  refine LCg.CompSrc.base hh kF kN ⟨_, hln, rfl, _, rfl⟩ ?hsz1 fun g => ?rest1
  case hsz1 => simp [hvl]; rw [sizeLine_eq]; omega
  case rest1 =>
    refine comp_pure vs.toArray.size (fun i ys => ys = (names.take i).map fun _ => Value.bool true) _ ?step1 ?fin1 rfl (.inl ⟨_, hln, rfl, _, rfl⟩)
    case step1 =>
      intro i ys v I oI C oC D m₂ h tk E' QC hi hR hP hC hx F N off ne hQC
      clear kF kN
      repeat' (first | (k_unfold; (try dsimp only)) | ((fail_if_success (with_reducible show QC _ _)); first | walk1 | (dsimp only; walk1)))
      refine hQC _ _ _ _ F N (fun p hp => hp) ?_
      have hi' : i < names.length := by
        have : i < vs.length := by simpa using hi
        omega
      rw [hR, List.take_add_one, List.getElem?_eq_getElem hi', List.map_append]
      rfl
    case fin1 =>
      intro ys hR
      have e : names.take vs.toArray.size = names := List.take_of_length_le (by simp [hvl])
      rw [e] at hR
      clear kF kN
      repeat' (first | (k_unfold; (try dsimp only)) | ((fail_if_success (with_reducible show wpAny _ _ (exec (Stmt.For _ _ _ _ _) _) _ _ _)); (fail_if_success (with_reducible show Q _ _)); first | walk1 | (dsimp only; walk1)))
      (with_reducible rename Fr _ _ _ _ => kF)
      (with_reducible rename News _ _ _ _ => kN)
      refine For_k kF 0 ?_
      repeat' (first | (k_unfold; (try dsimp only)) | ((fail_if_success (with_reducible show Q _ _)); first | walk1 | (dsimp only; walk1)))
      (with_reducible rename Fr _ _ _ _ => kF)
      (with_reducible rename News _ _ _ _ => kN)
      refine' du_init (ls := ls) (ln := ln) (ns := ns) (c1 := L' + 1) (c2 := L' + 1 + 1) (c3 := L' + 1 + 1 + 1) (c4 := L' + 1 + 1 + 1 + 1) (c5 := L' + 1 + 1 + 1 + 1 + 1) kF kN ?e1 ?e2 ?m1 ?m2 ?m3 ?m4 ?m5 ?d1 ?d2 ?d3 ?d4 ?d5 ?m6 ?m7 hR ?m8 ?n0 ?n1 ?n2 ?n3 ?n4 (.inr ⟨_, ?n5⟩) ?a0 ?a1 ?a2 ?a3 ?a4 ?a5 ?b0 ?b1 ?b2 ?b3 ?b4 ?b5 ?n1' ?n2' ?n3' ?n4' ?n5' ?n6' ?n7' ?c3' ?c4' ?kk
      case e1 => exact rfl
      case e2 => exact rfl
      case m1 => k_mem
      case m2 => k_mem
      case m3 => k_mem
      case m4 => k_mem
      case m5 => k_mem
      case d1 => assumption
      case d2 => assumption
      case d3 => assumption
      case d4 => assumption
      case d5 => assumption
      case m6 => k_mem
      case m7 => k_mem
      case m8 => k_mem
      case n0 => k_mem
      case n1 => k_mem
      case n2 => k_mem
      case n3 => k_mem
      case n4 => k_mem
      case n5 => k_mem
      case a0 => ksk_a1
      case a1 => ksk_a1
      case a2 => ksk_a1
      case a3 => ksk_a1
      case a4 => ksk_a1
      case a5 => ksk_a1
      case b0 => ksk_a1
      case b1 => ksk_a1
      case b2 => ksk_a1
      case b3 => ksk_a1
      case b4 => ksk_a1
      case b5 => ksk_a1
      case n1' => ksk_a1
      case n2' => ksk_a1
      case n3' => ksk_a1
      case n4' => ksk_a1
      case n5' => ksk_a1
      case n6' => ksk_a1
      case n7' => ksk_a1
      case c3' => exact Nat.lt_succ_self _
      case c4' => exact Nat.lt_succ_self _
      case kk =>
        intro news0 N0 J0
        refine .mk _ ls us s.heap _ news0 (DuJ s.heap ls ln (L' + 1) (L' + 1 + 1) (L' + 1 + 1 + 1) (L' + 1 + 1 + 1 + 1) (L' + 1 + 1 + 1 + 1 + 1) names ns) (Nat.zero_le _) hh kF N0 J0 ?hl ?turn ?fin
        case hl =>
          intro i g₁ m₁ news₁ h₁ J₁ F₁ _
          exact du_hl hls J₁ F₁
        case turn =>
          clear kF kN N0 J0
          (repeat ((rename Obj.data _ = _ => dd); clear dd))
          (repeat ((rename _ ∧ _ => dd); clear dd))
          intro i v g₁ m₁ news₁ h₁ tk₁ I oI _ hi hv off F₁ N₁ J₁ QQ hQQ
          refine du_turn J₁ off F₁ N₁ ?_
          clear J₁ off F₁ N₁ m₁ news₁ g₁
          intro ld lst tb dvs cd cs ct tas o1 o2 o3 o4 o5 v4 v5 rest m₁ F₁ N₁ d1 d2 d3 d4 d5 htab hdat hr1 hr3 hr4 hr5 hrI ne1 ne2 ne3 ne4 ne5 ne6 ne7 q1 q2 q3 q4 q5 q6 q7 q8
          obtain ⟨nn, tn, rfl, hg⟩ := hus.at i v hv
          have hj6 : ((nn.fdiv 3).fmod 6).toNat < 6 := by
            have h0 : 0 ≤ (nn.fdiv 3).fmod 6 := Int.fmod_nonneg_of_pos _ (by decide)
            have h1 : (nn.fdiv 3).fmod 6 < 6 := Int.fmod_lt_of_pos _ (by decide)
            omega
          obtain ⟨tvs, tc, tm, tx⟩ := htab.2 _ hj6
          have ht6 := htab.1
          have hfl : (tabL.getD ((nn.fdiv 3).fmod 6).toNat []).length ≤ 10 := by
            generalize ((nn.fdiv 3).fmod 6).toNat = j at hj6
            match j, hj6 with
            | 0, _ => decide
            | 1, _ => decide
            | 2, _ => decide
            | 3, _ => decide
            | 4, _ => decide
            | 5, _ => decide
          repeat' (first | (k_unfold; (try dsimp only)) | ((fail_if_success (with_reducible show wpAny _ _ (eval (Expr.ListComp _ _ _ _) _) _ _ _)); (fail_if_success (with_reducible show ForEnd _ _ _ _ _ _ _ _)); first | walk1 | (dsimp only; walk1)))
          (with_reducible rename Fr _ _ _ _ => kF)
          (with_reducible rename News _ _ _ _ => kN)
          refine LCg.ListComp_U (F₀ := kF) (by with_unfolding_all rfl) (by decide) (by rfl) (by decide) (by rfl) ?_
          repeat' (first | (k_unfold; (try dsimp only)) | ((fail_if_success (with_reducible show Q _ _)); first | walk1 | (dsimp only; walk1)))
          refine LCg.CompSrc.base hh kF kN ⟨_, hln, rfl, _, rfl⟩ ?hszA fun g => ?restA
          case hszA => simp [hvl]; rw [sizeLine_eq]; omega
          case restA =>
            refine comp_pure vs.toArray.size (fun i ys => ys = (names.take i).map fun nm => Value.bool (fitN nn nm)) _ ?stepA ?finA rfl (.inl ⟨_, hln, rfl, _, rfl⟩)
            case stepA =>
              intro k ys v9 I9 oI9 C oC D mm h tk E' QC hk hR hP hC hx F N offk ne hQC
              clear kF kN
              have hk' : k < names.length := by
                have : k < vs.length := by simpa using hk
                omega
              obtain ⟨t9, ht9⟩ := hvs.get k (S names[k]) (by rw [List.getElem?_map, List.getElem?_eq_getElem hk']; rfl)
              have hP9 : vs[k]? = some v9 := by simpa using hP
              rw [hP9] at ht9
              obtain rfl := Option.some.inj ht9
              have hnk := hnm names[k] (List.getElem_mem hk')
              repeat' (first | (k_unfold; (try dsimp only)) | ((fail_if_success (with_reducible show QC _ _)); (fail_if_success (with_reducible show wpAny _ _ (call (Value.ref 849) _) _ _ _)); first | walk1 | (dsimp only; walk1)))
              (with_reducible rename Fr _ _ _ _ => kF2)
              (with_reducible rename News _ _ _ _ => kN2)
              k_dflt (refine' told_useB kF2 X kN2 T (hh := ?hhA) (fits_c w (tabL.getD ((nn.fdiv 3).fmod 6).toNat []) (tas.getD ((nn.fdiv 3).fmod 6).toNat 0) names[k] t9 hfl hnk) ?hdA ?huA ⟨tvs, tc, (kN2 (tas.getD ((nn.fdiv 3).fmod 6).toNat 0, listOf tvs.toArray tc) ?memA).1, tx⟩ ?retA)
              case hhA => exact hh
              case hdA => ktr_room
              case huA => ktr_units
              case memA =>
                (repeat (refine List.Mem.tail _ ?_))
                exact tm
              case retA =>
                intro h9 tk9 F9 N9
                clear kF2 kN2
                repeat' (first | (k_unfold; (try dsimp only)) | ((fail_if_success (with_reducible show QC _ _)); first | walk1 | (dsimp only; walk1)))
                refine hQC _ _ _ _ F9 N9 (fun p hp => hp) ?_
                rw [hR, List.take_add_one, List.getElem?_eq_getElem hk', List.map_append]
                rfl
            case finA =>
              intro ys hR
              rw [show names.take vs.toArray.size = names from List.take_of_length_le (by simp [hvl])] at hR
              subst hR
              clear kF kN
              have hm3 : nn.fmod 3 = 0 ∨ nn.fmod 3 = 1 ∨ nn.fmod 3 = 2 := mod3 nn
              repeat' (first | (k_unfold; (try dsimp only)) | ((fail_if_success (with_reducible show wpAny _ _ (exec (Stmt.If _ _ _ _) _) _ _ _)); first | walk1 | (dsimp only; walk1)))
              (with_reducible rename Fr _ _ _ _ => kF)
              (with_reducible rename News _ _ _ _ => kN)
              refine mid_join (LCg.lst (names.map fun nm => Value.bool (stD nm (staysD (ns.take i) nm) nn))) kF kN ?br ?behind
              case br =>
                repeat' (first | (k_unfold; (try dsimp only)) | ((fail_if_success (with_reducible show wpAny _ _ (eval (Expr.ListComp _ _ _ _) _) _ _ _)); (fail_if_success (with_reducible show MidJ _ _ _ _ _ _ _ _ _ _)); first | walk1 | (dsimp only; walk1)))
                all_goals
                  refine LCg.ListComp_U (F₀ := kF) (by with_unfolding_all rfl) (by decide) (by rfl) (by decide) (by rfl) ?_
                  repeat' (first | (k_unfold; (try dsimp only)) | ((fail_if_success (with_reducible show Q _ _)); first | walk1 | (dsimp only; walk1)))
                  (with_reducible rename Fr _ _ _ _ => kF)
                  (with_reducible rename News _ _ _ _ => kN)
                  (rename IsRange _ _ _ _ _ _ _ _ => hrg)
                  refine LCg.CompSrc.range (n := names.length) hh kF kN hrg (small_one (by decide) (by decide) (by omega) (by omega)) (by rw [rangeSize_nat]; omega) (by rw [sizeLine_eq]; omega) fun g => ?_
                  clear hrg
                  refine comp_pure names.length (fun k ys => ys = (names.take k).map fun nm => Value.bool (stD nm (staysD (ns.take i) nm) nn)) _ ?_ ?_ rfl trivial
                  · intro k ys v9 I9 oI9 C oC D mm h tk E' QC hk hR hP hC hx F N offk ne hQC
                    clear kF kN
                    obtain ⟨t9, rfl⟩ := hP
                    obtain ⟨nm, hgk⟩ : ∃ nm, names[k]? = some nm := ⟨_, List.getElem?_eq_getElem hk⟩
                    obtain ⟨b1, hb1⟩ : ∃ b, staysD (ns.take i) nm = b := ⟨_, rfl⟩
                    obtain ⟨b2, hb2⟩ : ∃ b, fitN nn nm = b := ⟨_, rfl⟩
                    cases b1 <;> cases b2
                    all_goals repeat' (first | (k_unfold; (try dsimp only)) | ((fail_if_success (with_reducible show QC _ _)); first | walk1 | (dsimp only; walk1)))
                    all_goals exact hQC _ _ _ _ F N (fun p hp => hp) (st_snoc hgk hb1 hb2 hR (by simp_all))
                  · intro ys hR
                    rw [List.take_of_length_le (Nat.le_refl _)] at hR
                    subst hR
                    clear kF kN
                    repeat' (first | (k_unfold; (try dsimp only)) | ((fail_if_success (with_reducible show wpAny _ _ (eval (Expr.ListComp _ _ _ _) _) _ _ _)); (fail_if_success (with_reducible show MidJ _ _ _ _ _ _ _ _ _ _)); first | walk1 | (dsimp only; walk1)))
                    (with_reducible rename Fr _ _ _ _ => kF)
                    (with_reducible rename News _ _ _ _ => kN)
                    exact MidJ.intro kF kN (by assumption) (by assumption)
              case behind =>
                clear kF kN
                intro D8 o8 h8 tk8 F8 N8 ho8 z1 z2 z3 z4 z5 z6 z7 z8
                repeat' (first | (k_unfold; (try dsimp only)) | ((fail_if_success (with_reducible show wpAny _ _ (eval (Expr.ListComp _ _ _ _) _) _ _ _)); (fail_if_success (with_reducible show QQ _ _)); first | walk1 | (dsimp only; walk1)))
                (with_reducible rename Fr _ _ _ _ => kF)
                (with_reducible rename News _ _ _ _ => kN)
                refine LCt.ListComp_T (F₀ := kF) (by with_unfolding_all rfl) (by decide) (by rfl) (by decide) (by rfl) ?_
                repeat' (first | (k_unfold; (try dsimp only)) | ((fail_if_success (with_reducible show Q _ _)); first | walk1 | (dsimp only; walk1)))
                (with_reducible rename Fr _ _ _ _ => kF)
                (with_reducible rename News _ _ _ _ => kN)
                (rename IsRange _ _ _ _ _ _ _ _ => hrg)
                refine LCt.CompSrcT.range (n := names.length) hh kF kN hrg (small_one (by decide) (by decide) (by omega) (by omega)) (by rw [rangeSize_nat]; omega) (by rw [sizeLine_eq]; omega) fun g => ?_
                clear hrg
                refine comp_indT names.length (fun k ys => StrsAre ys (((names.take k).filter (staysD (ns.take (i + 1)))).map S)) _ ?_ ?_ .nil trivial
                · intro k ys v9 I9 oI9 C oC D mm h tk E' QC QN hk hR hP hC hx F N offk ne hQC hQN
                  clear kF kN
                  obtain ⟨t9, rfl⟩ := hP
                  obtain ⟨nm, hgk⟩ : ∃ nm, names[k]? = some nm := ⟨_, List.getElem?_eq_getElem hk⟩
                  obtain ⟨b, hb⟩ : ∃ b, stD nm (staysD (ns.take i) nm) nn = b := ⟨_, rfl⟩
                  cases b
                  all_goals repeat' (first | (k_unfold; (try dsimp only)) | ((fail_if_success (with_reducible show QC _ _)); (fail_if_success (with_reducible show QN _)); first | walk1 | (dsimp only; walk1)))
                  · exact hQN _ _ _ F N (fun p hp => hp) (due_no hgk ((staysD_snoc hg).trans hb) hR)
                  · exact hQC _ _ _ _ F N (fun p hp => hp) (due_yes hgk ((staysD_snoc hg).trans hb) hR)
                · intro ys hR
                  rw [List.take_of_length_le (Nat.le_refl _)] at hR
                  clear kF kN
                  have hdz : dvs.toArray.size ≤ sizeLine := by
                    have := hdat.length
                    simp at this ⊢
                    rw [sizeLine_eq]
                    have := hus.length
                    omega
                  repeat' (first | (k_unfold; (try dsimp only)) | ((fail_if_success (with_reducible show wpAny _ _ (eval (Expr.ListComp _ _ _ _) _) _ _ _)); (fail_if_success (with_reducible show QQ _ _)); first | walk1 | (dsimp only; walk1)))
                  (with_reducible rename Fr _ _ _ _ => kF)
                  (with_reducible rename News _ _ _ _ => kN)
                  rw [List.push_toArray] at kN
                  refine hQQ _ _ (du_end (oI := oI) (rest := rest) (dvs := dvs) (tas := tas) (ys := ys) (nn := nn) (ln := ln) kF kN (by k_mem) (by k_mem) (by k_mem) (by k_mem) (by k_mem) (by k_mem) (by k_mem) rfl rfl d1 d2 ho8 (by assumption) (by assumption) (by k_mem) (by k_mem) (by k_mem) (fun q hq => by (repeat (refine List.Mem.tail _ ?_)); exact hq) rfl hg hR htab hdat hr1 hr3 hr4 hr5 hrI (Ne.symm z3) ne2 ne3 (Ne.symm z8) (Ne.symm z7) (Ne.symm z6) ne7 (by with_reducible assumption) q1 (Ne.symm z2) q3 q8 q7 q6 q5 q4)
        case fin =>
          clear kF kN N0 J0
          intro g₁ m₁ news₁ h₁ tk₁ F₁ N₁ J₁
          refine du_fin J₁ F₁ N₁ ?_
          clear J₁ F₁ N₁ m₁ news₁ g₁
          intro ld dvs cd rest m₁ F₁ N₁ hdat
          repeat' (first | (k_unfold; (try dsimp only)) | ((fail_if_success (with_reducible show Q _ _)); first | walk1 | (dsimp only; walk1)))
          (with_reducible rename Fr _ _ _ _ => kF)
          (with_reducible rename News _ _ _ _ => kN)
          have hul : us.length = ns.length := ints_len hus
          refine hret _ _ _ kF.keep ⟨ld, dvs, cd, rest, rfl, (kN _ (.head _)).2.2, (kN _ (.head _)).1, fun q hq => ⟨(kN q ?_).2.2, (kN q ?_).1⟩, by rw [hul] at hdat; exact hdat⟩
          all_goals
            (repeat (refine List.Mem.tail _ ?_))
            exact hq
end
section
/-- the text in quotes: an apostrophe inside is written out of them -/
noncomputable def dq (x : List Nat) : List Nat := x.flatMap fun c => if c = 39 then [39, 34, 39, 34, 39] else [c]
noncomputable def qt (x : List Nat) (b : Bool) : List Nat := if b then 39 :: dq x ++ [39] else x
theorem apo_S : Str.ofString "'" = S [39] := by decide +kernel
theorem callWith_find {w : World} {A : Around} {E : Value → Shared → Prop} {s : Shared} {h₀ : Heap} {pos : Pos} {first : List Value} {Q : Value → Shared → Prop} {env : Env} {e : Expr} {rest : List Expr} (_X : (Mine.K w.params).In h₀)
    (h : wpAny (model PySem.Challenge.pw_il0113_01 w) A (spliced (backTo pos (starEach (e :: rest) env))) (fun vs s₁ => (Mine.K w.params).In s₁.heap ∧ wpAny (model PySem.Challenge.pw_il0113_01 w) A (call (.ref 820) (first ++ vs)) Q E s₁) E s)
    (he : starEach (e :: rest) env = (false, eval e env) :: starEach rest env := by rfl) (hplain : (backTo pos (starEach rest env)).any (·.1) = false := by rfl) :
    wpAny (model PySem.Challenge.pw_il0113_01 w) A (callWith pos (.ref 820) first (backTo pos (starEach (e :: rest) env)) []) Q E s := by
  rw [he] at h ⊢
  exact callWith_of (P := (Mine.K w.params).In) (by show ((false || (backTo pos (starEach rest env)).any (·.1)) || false) = false; rw [hplain]; rfl) (fun _ X9 => ⟨.machine, .inr (.inl rfl), find_keep X9⟩) (evalArgs_plain h)
local macro_rules | `(tactic| walk_at "callWith ref") => `(tactic| (k_here; (with_reducible show wpAny _ _ (callWith _ (Value.ref 820) _ _ _) _ _ _); k_dflt (refine' callWith_find ?k1 ?_; (case k1 => k_asm); k_whole)))
local macro_rules | `(tactic| walk_at "truthy str") => `(tactic| (refine truthy_txt (b := true) (by first | with_reducible assumption | decide +kernel) (by first | with_reducible assumption | decide +kernel) ?_))
theorem quote_n (w : World) (x : List Nat) (t : Tok) (hx : unsafe? x = some false) (c : Nat) (x' : List Nat) (hc : x = c :: x') (hl : x.length ≤ 1000) :
    ToldQ PySem.Challenge.pw_il0113_01 w (Mine.K w.params) 20 180 (.ref 827) [.str (S x) t] (fun r => ∃ t', r = .str (S (qt x false)) t') := by
  have he : (S x).cps.toList.isEmpty = !true := by rw [hc]; rfl
  have hl' : (S x).length ≤ 1000000 := by rw [S_len]; omega
  intro p loose mean mg mb A s Q E X T hh hdp hun hret
  refine wpAny_call ?_
  k_dflt (refine' code_defQ ?k3 ?k5 ?k6 ?k7 ?k8 ?k9 ?kB ?_ ?c2 ?c3 ?c4 ?c5; (case k3 => exact X); (case k5 => exact T); (case k6 => k_is); (case k7 => k_is); (case k8 => ktr_room); (case k9 => first | exact BindsTo.of_eq rfl | exact binds_K X rfl (by k_is) rfl rfl rfl); (case c5 => decide); (case kB => exact locs rfl); (case c2 => exact rfl); (case c3 => exact rfl); (case c4 => exact rfl); k_whole; intro L' h' F' N'; (try ((refine execs_at (b' := ?kbody) ?kbe ?_); (case kbe => (conv => lhs; whnf)))); (try dsimp only); (try k_fold))
  repeat' (first | (k_unfold; (try dsimp only)) | ((fail_if_success (with_reducible show Q _ _)); first | (k_here; (with_reducible show wpAny _ _ (call (Value.ref 820) _) _ _ _); k_dflt (refine' find_call ?k1 ?k2 ?k3 _ _ _ ?kx ?_; (case k1 => k_asm); (case k2 => k_asm); (case k3 => k_asm); (case kx => assumption)); intro r9 h9 tk9 F9 N9 hf9 ht9; (first | (have e9 := hf9 rfl; subst e9) | (obtain ⟨a9, e9⟩ := ht9 rfl; subst e9)); (try k_sweep)) | walk1 | (dsimp only; first | (k_here; (with_reducible show wpAny _ _ (call (Value.ref 820) _) _ _ _); k_dflt (refine' find_call ?k1 ?k2 ?k3 _ _ _ ?kx ?_; (case k1 => k_asm); (case k2 => k_asm); (case k3 => k_asm); (case kx => assumption)); intro r9 h9 tk9 F9 N9 hf9 ht9; (first | (have e9 := hf9 rfl; subst e9) | (obtain ⟨a9, e9⟩ := ht9 rfl; subst e9)); (try k_sweep)) | walk1)))
  (with_reducible rename Fr _ _ _ _ => kF)
  exact hret _ _ _ kF.keep ⟨_, rfl⟩
theorem quote_y (w : World) (x : List Nat) (t : Tok) (hx : unsafe? x = some true) (c : Nat) (x' : List Nat) (hc : x = c :: x') (hl : x.length ≤ 1000) (hrep : Txt.replace (S x) (Str.ofString "'") (Str.ofString "'\"'\"'") = S (dq x)) (hl2 : (S (dq x)).length ≤ 5000) :
    ToldQ PySem.Challenge.pw_il0113_01 w (Mine.K w.params) 20 180 (.ref 827) [.str (S x) t] (fun r => ∃ t', r = .str (S (qt x true)) t') := by
  have he : (S x).cps.toList.isEmpty = !true := by rw [hc]; rfl
  have hl' : (S x).length ≤ 1000000 := by rw [S_len]; omega
  intro p loose mean mg mb A s Q E X T hh hdp hun hret
  refine wpAny_call ?_
  k_dflt (refine' code_defQ ?k3 ?k5 ?k6 ?k7 ?k8 ?k9 ?kB ?_ ?c2 ?c3 ?c4 ?c5; (case k3 => exact X); (case k5 => exact T); (case k6 => k_is); (case k7 => k_is); (case k8 => ktr_room); (case k9 => first | exact BindsTo.of_eq rfl | exact binds_K X rfl (by k_is) rfl rfl rfl); (case c5 => decide); (case kB => exact locs rfl); (case c2 => exact rfl); (case c3 => exact rfl); (case c4 => exact rfl); k_whole; intro L' h' F' N'; (try ((refine execs_at (b' := ?kbody) ?kbe ?_); (case kbe => (conv => lhs; whnf)))); (try dsimp only); (try k_fold))
  repeat' (first | (k_unfold; (try dsimp only)) | ((fail_if_success (with_reducible show Q _ _)); first | (k_here; (with_reducible show wpAny _ _ (call (Value.ref 820) _) _ _ _); k_dflt (refine' find_call ?k1 ?k2 ?k3 _ _ _ ?kx ?_; (case k1 => k_asm); (case k2 => k_asm); (case k3 => k_asm); (case kx => assumption)); intro r9 h9 tk9 F9 N9 hf9 ht9; (first | (have e9 := hf9 rfl; subst e9) | (obtain ⟨a9, e9⟩ := ht9 rfl; subst e9)); (try k_sweep)) | walk1 | (dsimp only; first | (k_here; (with_reducible show wpAny _ _ (call (Value.ref 820) _) _ _ _); k_dflt (refine' find_call ?k1 ?k2 ?k3 _ _ _ ?kx ?_; (case k1 => k_asm); (case k2 => k_asm); (case k3 => k_asm); (case kx => assumption)); intro r9 h9 tk9 F9 N9 hf9 ht9; (first | (have e9 := hf9 rfl; subst e9) | (obtain ⟨a9, e9⟩ := ht9 rfl; subst e9)); (try k_sweep)) | walk1)))
  rw [hrep]
  repeat' (first | (k_unfold; (try dsimp only)) | ((fail_if_success (with_reducible show Q _ _)); first | (k_here; (with_reducible show wpAny _ _ (call (Value.ref 820) _) _ _ _); k_dflt (refine' find_call ?k1 ?k2 ?k3 _ _ _ ?kx ?_; (case k1 => k_asm); (case k2 => k_asm); (case k3 => k_asm); (case kx => assumption)); intro r9 h9 tk9 F9 N9 hf9 ht9; (first | (have e9 := hf9 rfl; subst e9) | (obtain ⟨a9, e9⟩ := ht9 rfl; subst e9)); (try k_sweep)) | walk1 | (dsimp only; first | (k_here; (with_reducible show wpAny _ _ (call (Value.ref 820) _) _ _ _); k_dflt (refine' find_call ?k1 ?k2 ?k3 _ _ _ ?kx ?_; (case k1 => k_asm); (case k2 => k_asm); (case k3 => k_asm); (case kx => assumption)); intro r9 h9 tk9 F9 N9 hf9 ht9; (first | (have e9 := hf9 rfl; subst e9) | (obtain ⟨a9, e9⟩ := ht9 rfl; subst e9)); (try k_sweep)) | walk1)))
  (with_reducible rename Fr _ _ _ _ => kF)
  exact hret _ _ _ kF.keep ⟨_, by rw [apo_S, S_app, S_app]; rfl⟩
end
section
noncomputable def unsafeB (x : List Nat) : Bool := (unsafe? x).getD false
/-- a text that quote can be told of -/
structure Good (x : List Nat) : Prop where
  run : unsafe? x = some (unsafeB x)
  ne : x ≠ []
  len : x.length ≤ 1000
  rep : unsafeB x = true → Txt.replace (S x) (Str.ofString "'") (Str.ofString "'\"'\"'") = S (dq x)
theorem dq_len (x : List Nat) : (dq x).length ≤ 5 * x.length := by
  unfold dq
  induction x with
  | nil => exact Nat.le_refl _
  | cons c x ih =>
    rw [List.flatMap_cons, List.length_append, List.length_cons]
    split <;> simp only [List.length_cons, List.length_nil] <;> omega
noncomputable def qu (x : List Nat) : List Nat := qt x (unsafeB x)
theorem quote_q (w : World) (x : List Nat) (t : Tok) (h : Good x) : ToldQ PySem.Challenge.pw_il0113_01 w (Mine.K w.params) 20 180 (.ref 827) [.str (S x) t] (fun r => ∃ t', r = .str (S (qu x)) t') := by
  obtain ⟨c, x', hc⟩ : ∃ c x', x = c :: x' := by
    cases x with
    | nil => exact absurd rfl h.ne
    | cons c x' => exact ⟨c, x', rfl⟩
  cases hb : unsafeB x with
  | false => unfold qu; rw [hb]; exact quote_n w x t (hb ▸ h.run) c x' hc h.len
  | true => unfold qu; rw [hb]; exact quote_y w x t (hb ▸ h.run) c x' hc h.len (h.rep hb) (by rw [S_len]; have := dq_len x; have := h.len; omega)
/-- the words, quoted, with a blank between -/
noncomputable def glue : List (List Nat) → List Nat
  | [] => []
  | [x] => x
  | x :: y :: r => x ++ 32 :: glue (y :: r)
theorem glued_S : ∀ xs : List (List Nat), Str.join (Str.ofString " ") (xs.map S) = S (glue xs)
  | [] => rfl
  | [x] => rfl
  | x :: y :: r => by
    have ih := glued_S (y :: r)
    show S x ++ Str.ofString " " ++ Str.join (Str.ofString " ") ((y :: r).map S) = _
    rw [ih, show Str.ofString " " = S [32] from by decide +kernel, S_app, S_app]
    show S (x ++ [32] ++ glue (y :: r)) = S (x ++ 32 :: glue (y :: r))
    rw [List.append_assoc]; rfl
theorem joined_S (xs : List (List Nat)) : Txt.join (Str.ofString " ") (xs.map S) = S (glue xs) := by
  unfold Txt.join
  rw [StrLaws.glued_eq_join]
  exact glued_S xs
theorem joinOk_S (xs : List (List Nat)) (h : (xs.map (·.length)).sum + xs.length ≤ 100000) : JoinOk (Str.ofString " ") (xs.map S) = true := by
  unfold JoinOk
  rw [StrLaws.joinTotal]
  have e1 : (Str.ofString " ").length = 1 := by decide +kernel
  have e2 : ((xs.map S).map (·.length)) = xs.map (·.length) := by
    rw [List.map_map]; exact List.map_congr_left fun x _ => S_len x
  rw [e2, e1, List.length_map, Nat.mul_one]
  unfold Builtin.Str.tooLong
  rw [sizeLine_eq]
  simp
  omega
end
section
/-- a word that the reader gives back as it was -/
structure WordOk (x : List Nat) : Prop where
  good : Good x
  mid : ∀ r, ∃ qd, Lx 32 [] false (qu x ++ 32 :: r) (some 32, x, qd, r)
  fin : ∃ qd, Lx 32 [] false (qu x) (none, x, qd, [])
theorem runs_glue : ∀ ws : List (List Nat), ws ≠ [] → (∀ x ∈ ws, WordOk x) → Runs (glue (ws.map qu)) ws
  | [], h, _ => absurd rfl h
  | [x], _, h => by
    obtain ⟨qd, hq⟩ := (h x (.head _)).fin
    exact .last hq (h x (.head _)).good.ne
  | x :: y :: r, _, h => by
    obtain ⟨qd, hq⟩ := (h x (.head _)).mid (glue ((y :: r).map qu))
    exact .more hq (h x (.head _)).good.ne (runs_glue (y :: r) (by simp) fun z hz => h z (.tail _ hz))
theorem WordOk.of {x y : List Nat} (hy : qu x = y) (good : Good x) (mid : ∀ r, ∃ qd, Lx 32 [] false (y ++ 32 :: r) (some 32, x, qd, r)) (fin : ∃ qd, Lx 32 [] false y (none, x, qd, [])) : WordOk x := ⟨good, hy ▸ mid, hy ▸ fin⟩
noncomputable def wordL : List (List Nat) := [[97, 98], [97, 32, 98], [98], [42], [97], [39, 97], [100, 114, 111, 112], [107, 101, 101, 112], [98, 97, 99, 107], [97, 42], [63], [91, 42, 93], [42, 98], [91, 33, 97, 93, 42], [42, 32, 42]]
theorem wq1 : qu [97, 98] = [97, 98] := by decide +kernel
theorem wq2 : qu [97, 32, 98] = [39, 97, 32, 98, 39] := by decide +kernel
theorem wq3 : qu [98] = [98] := by decide +kernel
theorem wq4 : qu [42] = [39, 42, 39] := by decide +kernel
theorem wq5 : qu [97] = [97] := by decide +kernel
theorem wq6 : qu [39, 97] = [39, 39, 34, 39, 34, 39, 97, 39] := by decide +kernel
theorem wq7 : qu [100, 114, 111, 112] = [100, 114, 111, 112] := by decide +kernel
theorem wq8 : qu [107, 101, 101, 112] = [107, 101, 101, 112] := by decide +kernel
theorem wq9 : qu [98, 97, 99, 107] = [98, 97, 99, 107] := by decide +kernel
theorem wq10 : qu [97, 42] = [39, 97, 42, 39] := by decide +kernel
theorem wq11 : qu [63] = [39, 63, 39] := by decide +kernel
theorem wq12 : qu [91, 42, 93] = [39, 91, 42, 93, 39] := by decide +kernel
theorem wq13 : qu [42, 98] = [39, 42, 98, 39] := by decide +kernel
theorem wq14 : qu [91, 33, 97, 93, 42] = [39, 91, 33, 97, 93, 42, 39] := by decide +kernel
theorem wq15 : qu [42, 32, 42] = [39, 42, 32, 42, 39] := by decide +kernel
theorem words_ok : ∀ x ∈ wordL, WordOk x := by
  intro x hx
  unfold wordL at hx
  simp only [List.mem_cons, List.not_mem_nil, or_false] at hx
  rcases hx with rfl | rfl | rfl | rfl | rfl | rfl | rfl | rfl | rfl | rfl | rfl | rfl | rfl | rfl | rfl
  · refine WordOk.of wq1 (by (exact ⟨by decide +kernel, by decide, by decide, fun _ => by decide +kernel⟩)) (fun r => ⟨false, ?_⟩) ⟨false, ?_⟩ <;> (repeat' (first | exact Lx.eof1 | exact Lx.wordEnd (by decide) | (refine Lx.startQ ?_) | (refine Lx.startW (by decide) ?_) | (refine Lx.word (by decide) ?_) | (refine Lx.wordQ ?_) | (refine Lx.wordD ?_) | (refine Lx.sqEnd ?_) | (refine Lx.sqCh (by decide) (by decide) ?_) | (refine Lx.dqEnd ?_) | (refine Lx.dqQ ?_)))
  · refine WordOk.of wq2 (by (exact ⟨by decide +kernel, by decide, by decide, fun _ => by decide +kernel⟩)) (fun r => ⟨true, ?_⟩) ⟨true, ?_⟩ <;> (repeat' (first | exact Lx.eof1 | exact Lx.wordEnd (by decide) | (refine Lx.startQ ?_) | (refine Lx.startW (by decide) ?_) | (refine Lx.word (by decide) ?_) | (refine Lx.wordQ ?_) | (refine Lx.wordD ?_) | (refine Lx.sqEnd ?_) | (refine Lx.sqCh (by decide) (by decide) ?_) | (refine Lx.dqEnd ?_) | (refine Lx.dqQ ?_)))
  · refine WordOk.of wq3 (by (exact ⟨by decide +kernel, by decide, by decide, fun _ => by decide +kernel⟩)) (fun r => ⟨false, ?_⟩) ⟨false, ?_⟩ <;> (repeat' (first | exact Lx.eof1 | exact Lx.wordEnd (by decide) | (refine Lx.startQ ?_) | (refine Lx.startW (by decide) ?_) | (refine Lx.word (by decide) ?_) | (refine Lx.wordQ ?_) | (refine Lx.wordD ?_) | (refine Lx.sqEnd ?_) | (refine Lx.sqCh (by decide) (by decide) ?_) | (refine Lx.dqEnd ?_) | (refine Lx.dqQ ?_)))
  · refine WordOk.of wq4 (by (exact ⟨by decide +kernel, by decide, by decide, fun _ => by decide +kernel⟩)) (fun r => ⟨true, ?_⟩) ⟨true, ?_⟩ <;> (repeat' (first | exact Lx.eof1 | exact Lx.wordEnd (by decide) | (refine Lx.startQ ?_) | (refine Lx.startW (by decide) ?_) | (refine Lx.word (by decide) ?_) | (refine Lx.wordQ ?_) | (refine Lx.wordD ?_) | (refine Lx.sqEnd ?_) | (refine Lx.sqCh (by decide) (by decide) ?_) | (refine Lx.dqEnd ?_) | (refine Lx.dqQ ?_)))
  · refine WordOk.of wq5 (by (exact ⟨by decide +kernel, by decide, by decide, fun _ => by decide +kernel⟩)) (fun r => ⟨false, ?_⟩) ⟨false, ?_⟩ <;> (repeat' (first | exact Lx.eof1 | exact Lx.wordEnd (by decide) | (refine Lx.startQ ?_) | (refine Lx.startW (by decide) ?_) | (refine Lx.word (by decide) ?_) | (refine Lx.wordQ ?_) | (refine Lx.wordD ?_) | (refine Lx.sqEnd ?_) | (refine Lx.sqCh (by decide) (by decide) ?_) | (refine Lx.dqEnd ?_) | (refine Lx.dqQ ?_)))
  · refine WordOk.of wq6 (by (exact ⟨by decide +kernel, by decide, by decide, fun _ => by decide +kernel⟩)) (fun r => ⟨true, ?_⟩) ⟨true, ?_⟩ <;> (repeat' (first | exact Lx.eof1 | exact Lx.wordEnd (by decide) | (refine Lx.startQ ?_) | (refine Lx.startW (by decide) ?_) | (refine Lx.word (by decide) ?_) | (refine Lx.wordQ ?_) | (refine Lx.wordD ?_) | (refine Lx.sqEnd ?_) | (refine Lx.sqCh (by decide) (by decide) ?_) | (refine Lx.dqEnd ?_) | (refine Lx.dqQ ?_)))
  · refine WordOk.of wq7 (by (exact ⟨by decide +kernel, by decide, by decide, fun _ => by decide +kernel⟩)) (fun r => ⟨false, ?_⟩) ⟨false, ?_⟩ <;> (repeat' (first | exact Lx.eof1 | exact Lx.wordEnd (by decide) | (refine Lx.startQ ?_) | (refine Lx.startW (by decide) ?_) | (refine Lx.word (by decide) ?_) | (refine Lx.wordQ ?_) | (refine Lx.wordD ?_) | (refine Lx.sqEnd ?_) | (refine Lx.sqCh (by decide) (by decide) ?_) | (refine Lx.dqEnd ?_) | (refine Lx.dqQ ?_)))
  · refine WordOk.of wq8 (by (exact ⟨by decide +kernel, by decide, by decide, fun _ => by decide +kernel⟩)) (fun r => ⟨false, ?_⟩) ⟨false, ?_⟩ <;> (repeat' (first | exact Lx.eof1 | exact Lx.wordEnd (by decide) | (refine Lx.startQ ?_) | (refine Lx.startW (by decide) ?_) | (refine Lx.word (by decide) ?_) | (refine Lx.wordQ ?_) | (refine Lx.wordD ?_) | (refine Lx.sqEnd ?_) | (refine Lx.sqCh (by decide) (by decide) ?_) | (refine Lx.dqEnd ?_) | (refine Lx.dqQ ?_)))
  · refine WordOk.of wq9 (by (exact ⟨by decide +kernel, by decide, by decide, fun _ => by decide +kernel⟩)) (fun r => ⟨false, ?_⟩) ⟨false, ?_⟩ <;> (repeat' (first | exact Lx.eof1 | exact Lx.wordEnd (by decide) | (refine Lx.startQ ?_) | (refine Lx.startW (by decide) ?_) | (refine Lx.word (by decide) ?_) | (refine Lx.wordQ ?_) | (refine Lx.wordD ?_) | (refine Lx.sqEnd ?_) | (refine Lx.sqCh (by decide) (by decide) ?_) | (refine Lx.dqEnd ?_) | (refine Lx.dqQ ?_)))
  · refine WordOk.of wq10 (by (exact ⟨by decide +kernel, by decide, by decide, fun _ => by decide +kernel⟩)) (fun r => ⟨true, ?_⟩) ⟨true, ?_⟩ <;> (repeat' (first | exact Lx.eof1 | exact Lx.wordEnd (by decide) | (refine Lx.startQ ?_) | (refine Lx.startW (by decide) ?_) | (refine Lx.word (by decide) ?_) | (refine Lx.wordQ ?_) | (refine Lx.wordD ?_) | (refine Lx.sqEnd ?_) | (refine Lx.sqCh (by decide) (by decide) ?_) | (refine Lx.dqEnd ?_) | (refine Lx.dqQ ?_)))
  · refine WordOk.of wq11 (by (exact ⟨by decide +kernel, by decide, by decide, fun _ => by decide +kernel⟩)) (fun r => ⟨true, ?_⟩) ⟨true, ?_⟩ <;> (repeat' (first | exact Lx.eof1 | exact Lx.wordEnd (by decide) | (refine Lx.startQ ?_) | (refine Lx.startW (by decide) ?_) | (refine Lx.word (by decide) ?_) | (refine Lx.wordQ ?_) | (refine Lx.wordD ?_) | (refine Lx.sqEnd ?_) | (refine Lx.sqCh (by decide) (by decide) ?_) | (refine Lx.dqEnd ?_) | (refine Lx.dqQ ?_)))
  · refine WordOk.of wq12 (by (exact ⟨by decide +kernel, by decide, by decide, fun _ => by decide +kernel⟩)) (fun r => ⟨true, ?_⟩) ⟨true, ?_⟩ <;> (repeat' (first | exact Lx.eof1 | exact Lx.wordEnd (by decide) | (refine Lx.startQ ?_) | (refine Lx.startW (by decide) ?_) | (refine Lx.word (by decide) ?_) | (refine Lx.wordQ ?_) | (refine Lx.wordD ?_) | (refine Lx.sqEnd ?_) | (refine Lx.sqCh (by decide) (by decide) ?_) | (refine Lx.dqEnd ?_) | (refine Lx.dqQ ?_)))
  · refine WordOk.of wq13 (by (exact ⟨by decide +kernel, by decide, by decide, fun _ => by decide +kernel⟩)) (fun r => ⟨true, ?_⟩) ⟨true, ?_⟩ <;> (repeat' (first | exact Lx.eof1 | exact Lx.wordEnd (by decide) | (refine Lx.startQ ?_) | (refine Lx.startW (by decide) ?_) | (refine Lx.word (by decide) ?_) | (refine Lx.wordQ ?_) | (refine Lx.wordD ?_) | (refine Lx.sqEnd ?_) | (refine Lx.sqCh (by decide) (by decide) ?_) | (refine Lx.dqEnd ?_) | (refine Lx.dqQ ?_)))
  · refine WordOk.of wq14 (by (exact ⟨by decide +kernel, by decide, by decide, fun _ => by decide +kernel⟩)) (fun r => ⟨true, ?_⟩) ⟨true, ?_⟩ <;> (repeat' (first | exact Lx.eof1 | exact Lx.wordEnd (by decide) | (refine Lx.startQ ?_) | (refine Lx.startW (by decide) ?_) | (refine Lx.word (by decide) ?_) | (refine Lx.wordQ ?_) | (refine Lx.wordD ?_) | (refine Lx.sqEnd ?_) | (refine Lx.sqCh (by decide) (by decide) ?_) | (refine Lx.dqEnd ?_) | (refine Lx.dqQ ?_)))
  · refine WordOk.of wq15 (by (exact ⟨by decide +kernel, by decide, by decide, fun _ => by decide +kernel⟩)) (fun r => ⟨true, ?_⟩) ⟨true, ?_⟩ <;> (repeat' (first | exact Lx.eof1 | exact Lx.wordEnd (by decide) | (refine Lx.startQ ?_) | (refine Lx.startW (by decide) ?_) | (refine Lx.word (by decide) ?_) | (refine Lx.wordQ ?_) | (refine Lx.wordD ?_) | (refine Lx.sqEnd ?_) | (refine Lx.sqCh (by decide) (by decide) ?_) | (refine Lx.dqEnd ?_) | (refine Lx.dqQ ?_)))
/-- the pieces of the patterns of the rows -/
noncomputable def pieceL : List (List (List Nat × List Nat)) := [[([97], [97]), ([42], [42])], [([63], [63])], [([91, 42, 93], [91, 42, 93])], [([42], [42]), ([98], [98])], [([91, 33, 97, 93], [91, 94, 97, 93]), ([42], [42])], [([42], [42]), ([32], [92, 32]), ([42], [42])]]
end
section
/-- which names a step's pattern takes, by its parts -/
noncomputable def takeN (n : Int) (nm : List Nat) : Bool := takes ((pieceL.getD ((n.fdiv 3).fmod 6).toNat []).map (·.2)) nm
noncomputable def stT (nm : List Nat) (b : Bool) (n : Int) : Bool := if n.fmod 3 = 0 then b && !takeN n nm else if n.fmod 3 = 1 then b && takeN n nm else b || takeN n nm
noncomputable def staysT (ns : List Int) (nm : List Nat) : Bool := ns.foldl (stT nm) true
noncomputable def toldOf (names : List (List Nat)) (ns : List Int) : List (List (List Nat)) := (List.range ns.length).map fun i => names.filter (staysT (ns.take (i + 1)))
theorem filt_S (A B : List (List Nat)) : ((A.map S).filter fun z => !(B.map S).contains z) = (A.filter fun x => !B.contains x).map S := by
  rw [List.filter_map]
  congr 1
  refine List.filter_congr fun x _ => ?_
  show (!(B.map S).contains (S x)) = _
  congr 1
  rw [Bool.eq_iff_iff, List.contains_iff_mem, List.contains_iff_mem, List.mem_map]
  exact ⟨fun ⟨y, hy, e⟩ => S_inj e ▸ hy, fun h => ⟨x, h, rfl⟩⟩
theorem cont_filter (A : List (List Nat)) (p : List Nat → Bool) (x : List Nat) : (A.filter p).contains x = (A.contains x && p x) := by
  rw [Bool.eq_iff_iff, Bool.and_eq_true, List.contains_iff_mem, List.contains_iff_mem, List.mem_filter]
section
variable {names xs : List (List Nat)} {st tk : List Nat → Bool} (hx : ∀ x ∈ names, xs.contains x = tk x)
include hx
theorem F_drop : (names.filter st).filter (fun x => !xs.contains x) = names.filter fun x => st x && !tk x := by
  rw [List.filter_filter]
  exact List.filter_congr fun x h => by rw [hx x h, Bool.and_comm]
theorem F_keep : (names.filter st).filter (fun x => !((names.filter st).filter (fun x => !xs.contains x)).contains x) = names.filter fun x => st x && tk x := by
  rw [List.filter_filter]
  refine List.filter_congr fun x h => ?_
  rw [cont_filter, cont_filter, hx x h, List.contains_iff_mem.mpr h]
  cases st x <;> cases tk x <;> rfl
theorem F_back : names.filter (fun x => !((names.filter (fun x => !(names.filter st).contains x)).filter (fun x => !xs.contains x)).contains x) = names.filter fun x => st x || tk x := by
  refine List.filter_congr fun x h => ?_
  rw [cont_filter, cont_filter, cont_filter, hx x h, List.contains_iff_mem.mpr h]
  cases st x <;> cases tk x <;> rfl
end
theorem pat_facts : ∀ j, j < 6 → (∀ x ∈ pieceL.getD j [], Pc [42] [63] x.1 x.2) ∧ patL.getD j [] = ((pieceL.getD j []).map (·.1)).flatten ∧ Adj [42] [63] (pieceL.getD j []) ∧ (∀ p ∈ (pieceL.getD j []).map (·.2), p ∈ partL) ∧ (patL.getD j []).length ≤ 1000 ∧ ((pieceL.getD j []).map (·.2)).length ≤ 100 := by
  have a1 : Pc [42] [63] [97] [97] := .oth 97 (by decide) (by decide) (by decide) (by decide)
  have a2 : Pc [42] [63] [42] [42] := .star
  have a3 : Pc [42] [63] [63] [63] := .one
  have a4 : Pc [42] [63] [91, 42, 93] [91, 42, 93] := .set 42 (.inl rfl)
  have a5 : Pc [42] [63] [98] [98] := .oth 98 (by decide) (by decide) (by decide) (by decide)
  have a6 : Pc [42] [63] [91, 33, 97, 93] [91, 94, 97, 93] := .neg
  have a7 : Pc [42] [63] [32] [92, 32] := .oth 32 (by decide) (by decide) (by decide) (by decide)
  have one : ∀ {a : List Nat × List Nat}, Pc [42] [63] a.1 a.2 → ∀ x ∈ [a], Pc [42] [63] x.1 x.2 := fun h x hx => by rw [List.mem_singleton.mp hx]; exact h
  have two : ∀ {a b : List Nat × List Nat}, Pc [42] [63] a.1 a.2 → Pc [42] [63] b.1 b.2 → ∀ x ∈ [a, b], Pc [42] [63] x.1 x.2 := fun h k => List.forall_mem_cons.mpr ⟨h, one k⟩
  intro j hj
  match j, hj with
  | 0, _ => exact ⟨two a1 a2, by decide, show (([42] : List Nat) = [42] → ([97] : List Nat) ≠ [42] ∧ ([97] : List Nat) ≠ [63]) ∧ True from ⟨by decide, trivial⟩, by decide, by decide, by decide⟩
  | 1, _ => exact ⟨one a3, by decide, trivial, by decide, by decide, by decide⟩
  | 2, _ => exact ⟨one a4, by decide, trivial, by decide, by decide, by decide⟩
  | 3, _ => exact ⟨two a2 a5, by decide, show (([98] : List Nat) = [42] → ([42] : List Nat) ≠ [42] ∧ ([42] : List Nat) ≠ [63]) ∧ True from ⟨by decide, trivial⟩, by decide, by decide, by decide⟩
  | 4, _ => exact ⟨two a6 a2, by decide, show (([42] : List Nat) = [42] → ([91, 94, 97, 93] : List Nat) ≠ [42] ∧ ([91, 94, 97, 93] : List Nat) ≠ [63]) ∧ True from ⟨by decide, trivial⟩, by decide, by decide, by decide⟩
  | 5, _ => exact ⟨List.forall_mem_cons.mpr ⟨a2, two a7 a2⟩, by decide, show (([32] : List Nat) = [42] → ([42] : List Nat) ≠ [42] ∧ ([42] : List Nat) ≠ [63]) ∧ ((([42] : List Nat) = [42] → ([92, 32] : List Nat) ≠ [42] ∧ ([92, 32] : List Nat) ≠ [63]) ∧ True) from ⟨by decide, by decide, trivial⟩, by decide, by decide, by decide⟩
theorem row_line' : ∀ d : Fin 3, ∀ j : Fin 6, ((glue ([deedL.getD d.val [], patL.getD j.val []].map qu)).length ≤ 10000 && wordL.contains (deedL.getD d.val []) && wordL.contains (patL.getD j.val [])) = true := by decide +kernel
theorem row_line (d : Nat) (hd : d < 3) (j : Nat) (hj : j < 6) : (glue ([deedL.getD d [], patL.getD j []].map qu)).length ≤ 10000 ∧ deedL.getD d [] ∈ wordL ∧ patL.getD j [] ∈ wordL := by
  have h := row_line' ⟨d, hd⟩ ⟨j, hj⟩
  simp only [Bool.and_eq_true, decide_eq_true_eq, List.contains_iff_mem] at h
  exact ⟨h.1.1, h.1.2, h.2⟩
theorem row_runs (n : Int) : Runs (glue ((rowOf n).map qu)) (rowOf n) ∧ (glue ((rowOf n).map qu)).length ≤ 10000 := by
  have h0 : 0 ≤ n.fmod 3 := Int.fmod_nonneg_of_pos _ (by decide)
  have h1 : n.fmod 3 < 3 := Int.fmod_lt_of_pos _ (by decide)
  have h2 : 0 ≤ (n.fdiv 3).fmod 6 := Int.fmod_nonneg_of_pos _ (by decide)
  have h3 : (n.fdiv 3).fmod 6 < 6 := Int.fmod_lt_of_pos _ (by decide)
  obtain ⟨a, b, c⟩ := row_line (n.fmod 3).toNat (by omega) ((n.fdiv 3).fmod 6).toNat (by omega)
  refine ⟨runs_glue _ (by simp [rowOf]) fun x hx => ?_, a⟩
  simp only [rowOf, List.mem_cons, List.not_mem_nil, or_false] at hx
  rcases hx with rfl | rfl
  · exact words_ok _ b
  · exact words_ok _ c
theorem take_fit' : ∀ j : Fin 6, (nameS.all fun x => takes ((pieceL.getD j.val []).map (·.2)) x == fits (tabL.getD j.val []) x) = true := by decide +kernel
theorem take_fit (j : Nat) (hj : j < 6) (x : List Nat) (hx : x ∈ nameS) : takes ((pieceL.getD j []).map (·.2)) x = fits (tabL.getD j []) x := eq_of_beq (List.all_eq_true.mp (take_fit' ⟨j, hj⟩) x hx)
theorem names_in (ns : List Int) : ∀ x ∈ namesOf ns, x ∈ nameS := by
  intro x hx
  rcases List.mem_append.mp hx with hx | hx
  · have h : ∀ x ∈ nameB, x ∈ nameS := by decide
    exact h x hx
  · obtain ⟨n, _, rfl⟩ := List.mem_map.mp hx
    have h0 : 0 ≤ n.fmod 6 := Int.fmod_nonneg_of_pos _ (by decide)
    have h1 : n.fmod 6 < 6 := Int.fmod_lt_of_pos _ (by decide)
    unfold nameAt
    have hj : (n.fmod 6).toNat < nameS.length := by
      show _ < 6
      omega
    rw [List.getD_eq_getElem?_getD, List.getElem?_eq_getElem hj]
    exact List.getElem_mem hj
theorem stT_eq {nm : List Nat} (h : nm ∈ nameS) (b : Bool) (n : Int) : stT nm b n = stD nm b n := by
  have h2 : 0 ≤ (n.fdiv 3).fmod 6 := Int.fmod_nonneg_of_pos _ (by decide)
  have h3 : (n.fdiv 3).fmod 6 < 6 := Int.fmod_lt_of_pos _ (by decide)
  unfold stT stD takeN fitN
  rw [take_fit _ (by omega) nm h]
theorem staysT_eq {nm : List Nat} (h : nm ∈ nameS) : ∀ (ns : List Int) (b : Bool), ns.foldl (stT nm) b = ns.foldl (stD nm) b
  | [], _ => rfl
  | n :: ns, b => by rw [List.foldl_cons, List.foldl_cons, stT_eq h, staysT_eq h ns]
/-- the plain law -/
theorem told_due (ks ns : List Int) : toldOf (namesOf ks) ns = dueOf (namesOf ks) ns := by
  unfold toldOf dueOf
  refine List.map_congr_left fun i _ => List.filter_congr fun x hx => ?_
  exact staysT_eq (names_in ks x hx) _ true
end
section
section
variable {w : World} {p : Program} {loose : List Str} {mean : ExcName → Option Value} {mg mb : Str → Option Value} {dp un : Nat} {gd : Option (List Code)} {cn : Str} {cs : Scope} {a : Addr} {ccd : Value} {cl : List (Str × Addr)} {outer : List Env} {A₀ : Around} {base h₀ : Heap} {L : Addr} {m : Str → Option Value} {s : Shared} {news : List (Addr × Obj)} {Q E : Value → Shared → Prop}
theorem filt_use {lf ls : Addr} {vs us : List Value} {c c' : Nat} {xs ys : List (List Nat)} (B : Below A₀ base outer h₀) (F : Fr h₀ L s.heap m) (X : (Mine.K w.params).In h₀) (N : News h₀ L s.heap news) (T : Top p loose mean mg mb h₀) (hk : cs.kind = .function) (XB : (Mine.K w.params).In base) (TB : Top p loose mean mg mb base) (D : KtsDicts (outer.filterMap (·.frame)) h₀) (hdd : dp + 60 < recursionLimit) (hu : un + 400 < cLine)
    (hf : (lf, listOf vs.toArray c) ∈ news) (hs : (ls, listOf us.toArray c') ∈ news) (hx : StrsAre vs (xs.map S)) (hy : StrsAre us (ys.map S)) (hlen : xs.length ≤ 1000)
    (ret : ∀ l os c2 h' tk' g', KtsTurn (outer.filterMap (·.frame)) h₀ g' → Fr g' L h' m → News g' L h' ((l, listOf os.toArray c2) :: news) → Below A₀ base outer g' → (Mine.K w.params).In g' → Top p loose mean mg mb g' → KtsDicts (outer.filterMap (·.frame)) g' → (∀ q ∈ news, q.1 < l) → StrsAre os ((xs.filter fun x => !ys.contains x).map S) → Q (.ref l) { s with heap := h', toks := tk' }) :
    wpAny (model PySem.Challenge.pw_il0113_01 w) (ktrTop dp un gd cn cs L a ccd cl outer) (call (.ref 88) [.ref lf, .ref ls]) Q E s := by
  refine filt_c w lf ls vs us c c' news _ _ hx hy (by rw [List.length_map]; exact hlen) p loose mean mg mb dp un gd cn cs a ccd cl outer A₀ base h₀ L m s Q E B F X (fun q hq => ?_) T hk hdd hu XB TB D trivial ?_
  · rcases List.mem_cons.mp hq with rfl | hq
    · exact N _ hf
    · rcases List.mem_cons.mp hq with rfl | hq
      · exact N _ hs
      · exact N _ hq
  · rintro r nw h' tk' g' T' F' N' B' X' P' D' ⟨l, os, c2, rfl, rfl, hlt, hos⟩
    rw [filt_S] at hos
    exact ret l os c2 h' tk' g' T' F' (news_sub N' fun q hq => by
      rcases List.mem_cons.mp hq with rfl | hq
      · exact .head _
      · exact .tail _ (.tail _ (.tail _ hq))) B' X' P' D' (fun q hq => hlt q (.tail _ (.tail _ hq))) hos
theorem split_use {bs : List Nat} {t : Tok} {ws : List (List Nat)} (B : Below A₀ base outer h₀) (F : Fr h₀ L s.heap m) (X : (Mine.K w.params).In h₀) (N : News h₀ L s.heap news) (T : Top p loose mean mg mb h₀) (hk : cs.kind = .function) (XB : (Mine.K w.params).In base) (TB : Top p loose mean mg mb base) (D : KtsDicts (outer.filterMap (·.frame)) h₀) (hdd : dp + 60 < recursionLimit) (hu : un + 400 < cLine)
    (hb : bs.length ≤ 10000) (hr : Runs bs ws) (hw : ws.length ≤ 1000) (hw0 : 0 < ws.length)
    (ret : ∀ l vs c h' tk' g', KtsTurn (outer.filterMap (·.frame)) h₀ g' → Fr g' L h' m → News g' L h' ((l, listOf vs.toArray c) :: news) → Below A₀ base outer g' → (Mine.K w.params).In g' → Top p loose mean mg mb g' → KtsDicts (outer.filterMap (·.frame)) g' → (∀ q ∈ news, q.1 < l) → StrsAre vs (ws.map S) → Q (.ref l) { s with heap := h', toks := tk' }) :
    wpAny (model PySem.Challenge.pw_il0113_01 w) (ktrTop dp un gd cn cs L a ccd cl outer) (call (.ref 812) [.str (S bs) t]) Q E s := by
  refine split_c w bs t news ws hb hr hw hw0 p loose mean mg mb dp un gd cn cs a ccd cl outer A₀ base h₀ L m s Q E B F X N T hk hdd hu XB TB D trivial ?_
  rintro r nw h' tk' g' T' F' N' B' X' P' D' ⟨l, vs, c, rfl, rfl, hlt, hvs⟩
  exact ret l vs c h' tk' g' T' F' N' B' X' P' D' hlt hvs
theorem trans_use {bs : List Nat} {t ts tq : Tok} {P : List (List Nat × List Nat)} {ps : Array Value} (B : Below A₀ base outer h₀) (F : Fr h₀ L s.heap m) (X : (Mine.K w.params).In h₀) (N : News h₀ L s.heap ((107, tabO ps) :: news)) (T : Top p loose mean mg mb h₀) (hk : cs.kind = .function) (hdd : dp + 30 < recursionLimit) (hu : un + 200 < cLine)
    (hb : bs.length ≤ 1000) (hP : ∀ x ∈ P, Pc [42] [63] x.1 x.2) (hbs : bs = (P.map (·.1)).flatten) (hadj : Adj [42] [63] P) (hps : PsOk lpos ps) (hr : ∀ r ∈ news, r.1 ≠ 107) (hpre : 0 < ts ∧ ts < s.toks)
    (ret : ∀ l vs c ps' h' tk', Fr h₀ L h' m → News h₀ L h' ((l, listOf vs.toArray c) :: (107, tabO ps') :: news) → PsOk lpos ps' → StrsAre vs ((P.map (·.2)).map S) → Q (.ref l) { s with heap := h', toks := tk' }) :
    wpAny (model PySem.Challenge.pw_il0113_01 w) (ktrTop dp un gd cn cs L a ccd cl outer) (call (.ref 112) [.str (S bs) t, .str (S [42]) ts, .str (S [63]) tq]) Q E s := by
  refine trans_c w bs t ts tq [42] [63] P ps news hb hP hbs hadj hps hr p loose mean mg mb dp un gd cn cs a ccd cl outer A₀ base h₀ L m s Q E B F X N T hk hdd hu hpre ?_
  rintro r nw h' tk' F' N' ⟨l, vs, c, ps', rfl, rfl, hp, hvs⟩
  exact ret l vs c ps' h' tk' F' N' hp (by rw [List.map_map]; exact hvs)
end
end
section
local macro_rules | `(tactic| walk_at "execs cons") => `(tactic| (k_here; (refine execs_tok (by assumption) ?kkk ?_; (case kkk => (try dsimp only); first | ((repeat (first | with_reducible assumption | refine Nat.le_succ_of_le ?_)); done) | omega)); intro tk htk))
/-- the ground between the turns -/
structure Gr (fs : List Addr) (A : Around) (base g₀ : Heap) (env : List Env) (K : Frag) (p : Program) (loose : List Str) (mean : ExcName → Option Value) (mg mb : Str → Option Value) (g : Heap) : Prop where
  P : KtsTurn fs g₀ g
  B : Below A base env g
  X : K.In g
  T : Top p loose mean mg mb g
  D : KtsDicts fs g
/-- between the turns of _law_told -/
inductive TlJ (fs : List Addr) (A : Around) (base g₀ : Heap) (env : List Env) (K : Frag) (p : Program) (loose : List Str) (mean : ExcName → Option Value) (mg mb : Str → Option Value) (lr c1 c2 : Addr) (rvs : List Value) (cr : Nat) (names : List (List Nat)) (ns : List Int) (rest : List (Addr × Obj)) (i : Nat) : Heap → (Str → Option Value) → List (Addr × Obj) → Prop
  | mk (g : Heap) (lN lL lT : Addr) (nvs lvs tvs : List Value) (cN cL cT : Nat) (o1 o2 : Obj) (v2 : Option Value) (ps : Array Value) (led : List (Addr × Obj)) (m : Str → Option Value) (G : Gr fs A base g₀ env K p loose mean mg mb g)
    (e1 : m (Str.ofString "rows") = some (.ref lr)) (e2 : m (Str.ofString "left") = some (.ref lL)) (e3 : m (Str.ofString "told") = some (.ref lT)) (d1 : o1.data = .cell (some (.ref lN))) (d2 : o2.data = .cell v2) (hps : PsOk lpos ps)
    (mN : (lN, listOf nvs.toArray cN) ∈ led) (mL : (lL, listOf lvs.toArray cL) ∈ led) (mR : (lr, listOf rvs.toArray cr) ∈ led) (mrest : ∀ q ∈ rest, q ∈ led) (hnv : StrsAre nvs (names.map S)) (hlv : StrsAre lvs ((names.filter (staysT (ns.take i))).map S))
    (hdat : DatAll led tvs (datOf ((List.range i).map fun k => names.filter (staysT (ns.take (k + 1)))))) (hT : ∀ q ∈ led, @Ne Nat q.1 lT) (h1 : ∀ q ∈ led, @Ne Nat q.1 c1) (h2 : ∀ q ∈ led, @Ne Nat q.1 c2) (ht : ∀ q ∈ led, @Ne Nat q.1 107)
    (ne1 : @Ne Nat lT c1) (ne2 : @Ne Nat lT c2) (ne3 : @Ne Nat lT 107) (ne4 : @Ne Nat c1 c2) (ne5 : @Ne Nat c1 107) (ne6 : @Ne Nat c2 107) : TlJ fs A base g₀ env K p loose mean mg mb lr c1 c2 rvs cr names ns rest i g m ((c1, o1) :: (c2, o2) :: (lT, listOf tvs.toArray cT) :: (107, tabO ps) :: led)
theorem news_ne {g h : Heap} {L a b : Addr} {o o' : Obj} {all : List (Addr × Obj)} (N : News g L h all) (h1 : (a, o) ∈ all) (h2 : (b, o') ∈ all) (hne : o ≠ o') : @Ne Nat a b := by
  intro e
  have h1 := (N _ h1).1
  have h2 := (N _ h2).1
  dsimp only at h1 h2
  rw [show a = b from e, h2] at h1
  exact hne (Option.some.inj h1).symm
section
variable {prog : Program} {w : World} {A : Around} {E : Value → Shared → Prop} {s : Shared}
theorem idx_k {value slice : PySem.Expr} {l : Addr} {names : List (List Nat)} {vs : List Value} {c i : Nat} {u : Tok} {nm : List Nat} {Q : Value → Shared → Prop} (hl : s.heap.get? l = some (listOf vs.toArray c)) (hx : StrsAre vs (names.map S)) (hsz : names.length ≤ 1000) (hi : names[i]? = some nm) (h : ∀ t, Q (.str (S nm) t) s)
    (hs : subscripted slice false (.ref l) (.int (i : Int) u) = operate [.ref l, .int (i : Int) u] (getItem (.ref l) (.int (i : Int) u)) := by with_unfolding_all rfl) :
    wpAny (model prog w) A (subscriptTail value slice (.ref l) (.int (i : Int) u)) Q E s := by
  have hlt := (List.getElem?_eq_some_iff.mp hi).1
  have e : S (names.getD (i : Int).toNat []) = S nm := by
    rw [Int.toNat_natCast, List.getD_eq_getElem?_getD, hi]; rfl
  exact idx_l hl hx hsz (by omega) (by omega) (fun t => by rw [e]; exact h t) hs
theorem len_k {l : Addr} {vs : List Value} {c : Nat} {names : List (List Nat)} {Q : Value → Shared → Prop} (hl : s.heap.get? l = some (listOf vs.toArray c)) (hx : StrsAre vs (names.map S)) (hz : names.length ≤ 1000) (h : Q (.int (names.length : Int) (s.toks + 1)) { s with toks := s.toks + 1 + 1 }) : wpAny (model prog w) A (call (.builtin "len") [.ref l]) Q E s :=
  kun_lenL ⟨_, hl, rfl, c, rfl⟩ (by have := hx.length; simp at this; simp [this]) (by omega) h
end
theorem slice_k {prog : Program} {w : World} {A : Around} {E : Value → Shared → Prop} {s : Shared} {h₀ : Heap} {L l : Addr} {m : Str → Option Value} {news : List (Addr × Obj)} {x : Str} {px ps : Pos} {lo hi st : Option PySem.Expr} {vs : List Value} {c k : Nat} {u : Tok} {Q : Value → Shared → Prop} (F : Fr h₀ L s.heap m) (N : News h₀ L s.heap news) (hm : (l, listOf vs.toArray c) ∈ news) (hz : vs.toArray.size ≤ sizeLine)
    (h : ∀ D h', Fr h₀ L h' m → News h₀ L h' ((D, listOf (vs.take k).toArray 0) :: news) → (∀ p ∈ news, p.1 < D) → Q (.ref D) { s with heap := h' })
    (hs : subscripted (.Slice lo hi st ps) false (.ref l) (.ref s.heap.objs.size) = operate [.ref s.heap.objs.size, .ref l] (getItem (.ref l) (.ref s.heap.objs.size))) :
    wpAny (model prog w) A (subscriptTail (.Name x px) (.Slice lo hi st ps) (.ref l) (.ref s.heap.objs.size)) Q E { s with heap := s.heap.push { cls := .type "slice", data := .fields #[.none, .int (k : Int) u, .none] } } :=
  kmk_slice_lit F N (news_list N hm) .none (.int _ _) (pick_upto _ _) h hs (by intro _; with_unfolding_all rfl) hz
theorem m3t (m : Str → Option Value) (a b c : Str) (va vb vc : Option Value) (ha : m a = va) (hb : m b = vb) (hc : m c = vc) : m = fun y => if y = a then va else if y = b then vb else if y = c then vc else m y := by
  funext y
  by_cases h1 : y = a
  · rw [if_pos h1, h1, ha]
  · rw [if_neg h1]
    by_cases h2 : y = b
    · rw [if_pos h2, h2, hb]
    · rw [if_neg h2]
      by_cases h3 : y = c
      · rw [if_pos h3, h3, hc]
      · rw [if_neg h3]
theorem tl_init {fs : List Addr} {A : Around} {base g₀ g h : Heap} {env : List Env} {K : Frag} {p : Program} {loose : List Str} {mean : ExcName → Option Value} {mg mb : Str → Option Value} {L lr c1 c2 lN lT : Addr} {rvs nvs : List Value} {cr cN : Nat} {names : List (List Nat)} {ns : List Int} {rest all : List (Addr × Obj)} {m : Str → Option Value} {o1 o2 : Obj} {v2 : Option Value} {ps : Array Value}
    (F : Fr g L h m) (N : News g L h all) (G : Gr fs A base g₀ env K p loose mean mg mb g) (e1 : m (Str.ofString "rows") = some (.ref lr)) (e2 : m (Str.ofString "left") = some (.ref lN)) (e3 : m (Str.ofString "told") = some (.ref lT)) (k1 : (c1, o1) ∈ all) (k2 : (c2, o2) ∈ all)
    (d1 : o1.data = .cell (some (.ref lN))) (d2 : o2.data = .cell v2) (mT : (lT, listOf #[] 0) ∈ all) (mtr : (107, tabO ps) ∈ all) (mN : (lN, listOf nvs.toArray cN) ∈ all) (mr : ∀ q ∈ rest, q ∈ all) (hlr : (lr, listOf rvs.toArray cr) ∈ rest) (hps : PsOk lpos ps) (hnv : StrsAre nvs (names.map S))
    (rT : ∀ q ∈ rest, @Ne Nat q.1 lT) (r1 : ∀ q ∈ rest, @Ne Nat q.1 c1) (r2 : ∀ q ∈ rest, @Ne Nat q.1 c2) (rt : ∀ q ∈ rest, @Ne Nat q.1 107) (hlT : @LT.lt Nat _ lN lT) (hl2 : @LT.lt Nat _ c2 lN) (hlt : @LT.lt Nat _ 107 lN) (hc : @LT.lt Nat _ c1 c2) (hct : @LT.lt Nat _ 107 c1) {P : Prop}
    (kk : ∀ news0, News g L h news0 → TlJ fs A base g₀ env K p loose mean mg mb lr c1 c2 rvs cr names ns rest 0 g m news0 → P) : P := by
  refine kk ((c1, o1) :: (c2, o2) :: (lT, listOf #[] 0) :: (107, tabO ps) :: (lN, listOf nvs.toArray cN) :: rest)
    (news_sub N (List.forall_mem_cons.mpr ⟨k1, List.forall_mem_cons.mpr ⟨k2, List.forall_mem_cons.mpr ⟨mT, List.forall_mem_cons.mpr ⟨mtr, List.forall_mem_cons.mpr ⟨mN, mr⟩⟩⟩⟩⟩))
    (.mk g lN lN lT nvs nvs [] cN cN 0 o1 o2 v2 ps ((lN, listOf nvs.toArray cN) :: rest) m G e1 e2 e3 d1 d2 hps (.head _) (.head _) (.tail _ hlr) (fun q hq => .tail _ hq) hnv ?_ .nil
      (List.forall_mem_cons.mpr ⟨Nat.ne_of_lt hlT, rT⟩) (List.forall_mem_cons.mpr ⟨Nat.ne_of_gt (Nat.lt_trans hc hl2), r1⟩) (List.forall_mem_cons.mpr ⟨Nat.ne_of_gt hl2, r2⟩) (List.forall_mem_cons.mpr ⟨Nat.ne_of_gt hlt, rt⟩)
      (Nat.ne_of_gt (Nat.lt_trans hc (Nat.lt_trans hl2 hlT))) (Nat.ne_of_gt (Nat.lt_trans hl2 hlT)) (Nat.ne_of_gt (Nat.lt_trans hlt hlT)) (Nat.ne_of_lt hc) (Nat.ne_of_gt hct) (Nat.ne_of_gt (Nat.lt_trans hct hc)))
  rw [show names.filter (staysT (ns.take 0)) = names from List.filter_eq_self.mpr fun _ _ => rfl]
  exact hnv
theorem strs_take {vs : List Value} {xs : List Str} (h : StrsAre vs xs) : ∀ k, StrsAre (vs.take k) (xs.take k) := by
  induction h with
  | nil => intro k; simpa using StrsAre.nil
  | cons x t _ ih =>
    intro k
    cases k with
    | zero => exact .nil
    | succ k => exact .cons x t (ih k)
theorem notin_k {prog : Program} {w : World} {A : Around} {E : Value → Shared → Prop} {s : Shared} {l : Addr} {vs : List Value} {c : Nat} {xs : List (List Nat)} {nm : List Nat} {t : Tok} {b : Bool} {Q : Value → Shared → Prop} (hl : s.heap.get? l = some (listOf vs.toArray c)) (hx : StrsAre vs (xs.map S)) (hb : xs.contains nm = b) (h : Q (.bool (!b)) s) : wpAny (model prog w) A (compareOp .NotIn (.str (S nm) t) (.ref l)) Q E s := by
  refine notin_list_strs ⟨_, hl, rfl, c, rfl⟩ hx ?_
  have e : ((xs.map S).any (· == S nm)) = b := by
    rw [← hb, Bool.eq_iff_iff, List.any_eq_true, List.contains_iff_mem]
    constructor
    · rintro ⟨y, hy, e⟩
      obtain ⟨x, hx, rfl⟩ := List.mem_map.mp hy
      exact S_inj (eq_of_beq e) ▸ hx
    · intro h
      exact ⟨S nm, List.mem_map.mpr ⟨nm, h, rfl⟩, beq_self_eq_true _⟩
  rw [e]
  exact h
local macro_rules | `(tactic| walk_at "subscriptTail") => `(tactic| (k_here; (with_reducible show wpAny _ _ (subscriptTail _ _ (Value.ref _) (Value.int _ _)) _ _ _); k_dflt (refine' idx_k ?k1 ?k0 ?k2 ?k3 ?_; (case k1 => exact News.get (by k_asm) (by (repeat (refine List.Mem.tail _ ?_)); assumption)); (case k0 => assumption); (case k2 => assumption); (case k3 => assumption); k_whole); intro t9))
local macro_rules | `(tactic| walk_at "call builtin:len") => `(tactic| (k_here; (with_reducible show wpAny _ _ (call (Value.builtin "len") [Value.ref _]) _ _ _); k_dflt (refine' len_k ?k1 ?k0 ?k2 ?_; (case k1 => exact News.get (by k_asm) (by (repeat (refine List.Mem.tail _ ?_)); assumption)); (case k0 => assumption); (case k2 => assumption); k_whole)))
local macro_rules | `(tactic| walk_at "subscriptTail Name Slice ref ref") => `(tactic| (k_here; (with_reducible show wpAny _ _ (subscriptTail _ (PySem.Expr.Slice none _ _ _) (Value.ref _) (Value.ref _)) _ _ _); k_dflt (refine slice_k (by k_asm) (by k_asm) (by (repeat (refine List.Mem.tail _ ?_)); assumption) (by assumption) ?_ (by with_unfolding_all rfl)); intro D' h' F' N' l1; (try k_lt l1); (try k_sweep)))
local macro_rules | `(tactic| walk_at "compareOp NotIn str ref") => `(tactic| (k_here; k_dflt (refine' notin_k ?k1 ?k0 ?k2 ?_; (case k1 => exact News.get (by k_asm) (by k_mem)); (case k0 => assumption); (case k2 => assumption); k_whole)))
theorem staysT_snoc {ns : List Int} {i : Nat} {n : Int} {x : List Nat} (hn : ns[i]? = some n) : staysT (ns.take (i + 1)) x = stT x (staysT (ns.take i) x) n := by
  unfold staysT
  rw [take_snoc hn, List.foldl_append]
  rfl
theorem tl_end {fs : List Addr} {A : Around} {base g₀ g h9 : Heap} {env : List Env} {K : Frag} {p : Program} {loose : List Str} {mean : ExcName → Option Value} {mg mb : Str → Option Value} {L I lr c1 c2 lN lf lT : Addr} {rvs nvs tvs os : List Value} {cr cN cT cf i tk9 : Nat} {names : List (List Nat)} {ns : List Int} {rest led all : List (Addr × Obj)} {m9 : Str → Option Value} {oI o1 oP : Obj} {v2 : Option Value} {ps : Array Value} {s : Shared} {Q : Flow → Shared → Prop}
    (F9 : Fr g L h9 m9) (N9 : News g L h9 all) (G : Gr fs A base g₀ env K p loose mean mg mb g) (e1 : m9 (Str.ofString "rows") = some (.ref lr)) (e2 : m9 (Str.ofString "left") = some (.ref lf)) (e3 : m9 (Str.ofString "told") = some (.ref lT))
    (mI : (I, oI) ∈ all) (k1 : (c1, o1) ∈ all) (k2 : (c2, oP) ∈ all) (d1 : o1.data = .cell (some (.ref lN))) (d2 : oP.data = .cell v2) (mT : (lT, listOf (tvs ++ [Value.ref lf]).toArray cT) ∈ all) (mtr : (107, tabO ps) ∈ all) (mf : (lf, listOf os.toArray cf) ∈ all) (ml : ∀ q ∈ led, q ∈ all) (hps : PsOk lpos ps)
    (mN : (lN, listOf nvs.toArray cN) ∈ led) (mR : (lr, listOf rvs.toArray cr) ∈ led) (mrest : ∀ q ∈ rest, q ∈ led) (hnv : StrsAre nvs (names.map S)) (hos : StrsAre os ((names.filter (staysT (ns.take (i + 1)))).map S)) (hdat : DatAll led tvs (datOf ((List.range i).map fun k => names.filter (staysT (ns.take (k + 1))))))
    (hT : ∀ q ∈ led, @Ne Nat q.1 lT) (h1 : ∀ q ∈ led, @Ne Nat q.1 c1) (h2 : ∀ q ∈ led, @Ne Nat q.1 c2) (ht : ∀ q ∈ led, @Ne Nat q.1 107) (fT : @LT.lt Nat _ lT lf) (f1 : @LT.lt Nat _ c1 lf) (f2 : @LT.lt Nat _ c2 lf) (ft : @LT.lt Nat _ 107 lf) (fI : @LT.lt Nat _ I lf)
    (i1 : @Ne Nat c1 I) (i2 : @Ne Nat c2 I) (i3 : @Ne Nat lT I) (i4 : @Ne Nat 107 I) (hlI : ∀ q ∈ led, q.1 ≠ I) (ne1 : @Ne Nat lT c1) (ne2 : @Ne Nat lT c2) (ne3 : @Ne Nat lT 107) (ne4 : @Ne Nat c1 c2) (ne5 : @Ne Nat c1 107) (ne6 : @Ne Nat c2 107) :
    ForEnd L s I oI (TlJ fs A base g₀ env K p loose mean mg mb lr c1 c2 rvs cr names ns rest (i + 1)) Q .next { s with heap := h9, toks := tk9 } := by
  refine .mk g h9 tk9 m9 ((c1, o1) :: (c2, oP) :: (lT, listOf (tvs ++ [Value.ref lf]).toArray cT) :: (107, tabO ps) :: (lf, listOf os.toArray cf) :: led) F9
    (news_sub N9 (List.forall_mem_cons.mpr ⟨mI, List.forall_mem_cons.mpr ⟨k1, List.forall_mem_cons.mpr ⟨k2, List.forall_mem_cons.mpr ⟨mT, List.forall_mem_cons.mpr ⟨mtr, List.forall_mem_cons.mpr ⟨mf, ml⟩⟩⟩⟩⟩⟩))
    (List.forall_mem_cons.mpr ⟨i1, List.forall_mem_cons.mpr ⟨i2, List.forall_mem_cons.mpr ⟨i3, List.forall_mem_cons.mpr ⟨i4, List.forall_mem_cons.mpr ⟨Nat.ne_of_gt fI, hlI⟩⟩⟩⟩⟩)
    (.mk g lN lf lT nvs os (tvs ++ [Value.ref lf]) cN cf cT o1 oP v2 ps ((lf, listOf os.toArray cf) :: led) m9 G e1 e2 e3 d1 d2 hps (.tail _ mN) (.head _) (.tail _ mR) (fun q hq => .tail _ (mrest q hq)) hnv hos ?_
      (List.forall_mem_cons.mpr ⟨Nat.ne_of_gt fT, hT⟩) (List.forall_mem_cons.mpr ⟨Nat.ne_of_gt f1, h1⟩) (List.forall_mem_cons.mpr ⟨Nat.ne_of_gt f2, h2⟩) (List.forall_mem_cons.mpr ⟨Nat.ne_of_gt ft, ht⟩) ne1 ne2 ne3 ne4 ne5 ne6)
  rw [List.range_succ, List.map_append]
  show DatAll _ _ (List.map _ (_ ++ _))
  rw [List.map_append]
  refine DatAll.append (DatAll.mono (fun q hq => .tail _ hq) hdat) (DatAll.one ?_)
  refine .list (.head _) ?_
  have := strs_dat (nd := (lf, listOf os.toArray cf) :: led) hos
  rw [List.map_map] at this
  exact this
section
variable {fs : List Addr} {A : Around} {base g₀ g₁ h₁ : Heap} {env : List Env} {K : Frag} {p : Program} {loose : List Str} {mean : ExcName → Option Value} {mg mb : Str → Option Value} {L I lr c1 c2 : Addr} {rvs : List Value} {cr i : Nat} {names : List (List Nat)} {ns : List Int} {rest news₁ : List (Addr × Obj)} {m₁ : Str → Option Value} {oI : Obj}
theorem tl_hl (J : TlJ fs A base g₀ env K p loose mean mg mb lr c1 c2 rvs cr names ns rest i g₁ m₁ news₁) (N : News g₁ L h₁ news₁) : h₁.IsList lr rvs.toArray := by
  cases J with
  | mk lN lL lT nvs lvs tvs cN cL cT o1 o2 v2 ps led _ G e1 e2 e3 d1 d2 hps mN mL mR => exact ⟨_, (N _ (.tail _ (.tail _ (.tail _ (.tail _ mR))))).1, rfl, cr, rfl⟩
theorem tl_turn (J : TlJ fs A base g₀ env K p loose mean mg mb lr c1 c2 rvs cr names ns rest i g₁ m₁ news₁) (off : ∀ q ∈ news₁, q.1 ≠ I) (F : Fr g₁ L h₁ m₁) (N : News g₁ L h₁ ((I, oI) :: news₁)) {P : Prop}
    (kk : ∀ lN lL lT nvs lvs tvs cN cL cT o1 o2 v2 ps led (m : Str → Option Value), KtsTurn fs g₀ g₁ → Below A base env g₁ → K.In g₁ → Top p loose mean mg mb g₁ → KtsDicts fs g₁ →
      Fr g₁ L h₁ (fun y => if y = (Str.ofString "rows") then some (.ref lr) else if y = (Str.ofString "left") then some (.ref lL) else if y = (Str.ofString "told") then some (.ref lT) else m y) → News g₁ L h₁ ((I, oI) :: (c1, o1) :: (c2, o2) :: (lT, listOf tvs.toArray cT) :: (107, tabO ps) :: led) →
      o1.data = .cell (some (.ref lN)) → o2.data = .cell v2 → PsOk lpos ps → (lN, listOf nvs.toArray cN) ∈ led → (lL, listOf lvs.toArray cL) ∈ led → (lr, listOf rvs.toArray cr) ∈ led → (∀ q ∈ rest, q ∈ led) → StrsAre nvs (names.map S) → StrsAre lvs ((names.filter (staysT (ns.take i))).map S) →
      DatAll led tvs (datOf ((List.range i).map fun k => names.filter (staysT (ns.take (k + 1))))) → (∀ q ∈ led, @Ne Nat q.1 lT) → (∀ q ∈ led, @Ne Nat q.1 c1) → (∀ q ∈ led, @Ne Nat q.1 c2) → (∀ q ∈ led, @Ne Nat q.1 107) → (∀ q ∈ led, q.1 ≠ I) →
      @Ne Nat lT c1 → @Ne Nat lT c2 → @Ne Nat lT 107 → @Ne Nat c1 c2 → @Ne Nat c1 107 → @Ne Nat c2 107 → @Ne Nat c1 I → @Ne Nat c2 I → @Ne Nat lT I → @Ne Nat 107 I → P) : P := by
  cases J with
  | mk lN lL lT nvs lvs tvs cN cL cT o1 o2 v2 ps led _ G e1 e2 e3 d1 d2 hps mN mL mR mrest hnv hlv hdat hT h1 h2 ht ne1 ne2 ne3 ne4 ne5 ne6 =>
    have o := List.forall_mem_cons.mp off
    have q := List.forall_mem_cons.mp o.2
    have r := List.forall_mem_cons.mp q.2
    have t := List.forall_mem_cons.mp r.2
    exact kk lN lL lT nvs lvs tvs cN cL cT o1 o2 v2 ps led m₁ G.P G.B G.X G.T G.D (m3t m₁ _ _ _ _ _ _ e1 e2 e3 ▸ F) N d1 d2 hps mN mL mR mrest hnv hlv hdat hT h1 h2 ht t.2 ne1 ne2 ne3 ne4 ne5 ne6 o.1 q.1 r.1 t.1
theorem tl_fin (J : TlJ fs A base g₀ env K p loose mean mg mb lr c1 c2 rvs cr names ns rest i g₁ m₁ news₁) (F : Fr g₁ L h₁ m₁) (N : News g₁ L h₁ news₁) {P : Prop}
    (kk : ∀ lL lT tvs cT ps led (m : Str → Option Value), KtsTurn fs g₀ g₁ → Below A base env g₁ → K.In g₁ → Top p loose mean mg mb g₁ → KtsDicts fs g₁ →
      Fr g₁ L h₁ (fun y => if y = (Str.ofString "rows") then some (.ref lr) else if y = (Str.ofString "left") then some (.ref lL) else if y = (Str.ofString "told") then some (.ref lT) else m y) → News g₁ L h₁ ((lT, listOf tvs.toArray cT) :: (107, tabO ps) :: led) →
      (∀ q ∈ rest, q ∈ led) → DatAll led tvs (datOf ((List.range i).map fun k => names.filter (staysT (ns.take (k + 1))))) → P) : P := by
  cases J with
  | mk lN lL lT nvs lvs tvs cN cL cT o1 o2 v2 ps led _ G e1 e2 e3 d1 d2 hps mN mL mR mrest hnv hlv hdat hT h1 h2 ht ne1 ne2 ne3 ne4 ne5 ne6 =>
    exact kk lL lT tvs cT ps led m₁ G.P G.B G.X G.T G.D (m3t m₁ _ _ _ _ _ _ e1 e2 e3 ▸ F) (fun q hq => N q (.tail _ (.tail _ hq))) mrest hdat
/-- where the three ways meet -/
inductive MidT (fs : List Addr) (A : Around) (base g₀ : Heap) (env : List Env) (K : Frag) (p : Program) (loose : List Str) (mean : ExcName → Option Value) (mg mb : Str → Option Value) (L : Addr) (s : Shared) (m : Str → Option Value) (led : List (Addr × Obj)) (xs : List (List Nat)) : Flow → Shared → Prop
  | mk (lf : Addr) (os : List Value) (c : Nat) (h : Heap) (tk : Tok) (g : Heap) (G : Gr fs A base g₀ env K p loose mean mg mb g) (F : Fr g L h (fun y => if y = (Str.ofString "left") then some (.ref lf) else m y)) (N : News g L h ((lf, listOf os.toArray c) :: led)) (lt : ∀ q ∈ led, @LT.lt Nat _ q.1 lf) (hs : StrsAre os (xs.map S)) : MidT fs A base g₀ env K p loose mean mg mb L s m led xs .next { s with heap := h, toks := tk }
theorem mid_told {prog : Program} {w : World} {A₁ : Around} {E : Value → Shared → Prop} {s : Shared} {c : Sem Flow} {Q : Flow → Shared → Prop} {m : Str → Option Value} {led : List (Addr × Obj)} (xs : List (List Nat)) {g : Heap} (_G : Gr fs A base g₀ env K p loose mean mg mb g) (_F : Fr g L s.heap m) (_N : News g L s.heap led) (hk : @LE.le Nat _ 1 s.toks)
    (br : wpAny (model prog w) A₁ c (MidT fs A base g₀ env K p loose mean mg mb L s m led xs) E s)
    (behind : ∀ lf os cc h tk g, @LE.le Nat _ 1 tk → KtsTurn fs g₀ g → Below A base env g → K.In g → Top p loose mean mg mb g → KtsDicts fs g → Fr g L h (fun y => if y = (Str.ofString "left") then some (.ref lf) else m y) → News g L h ((lf, listOf os.toArray cc) :: led) → (∀ q ∈ led, @LT.lt Nat _ q.1 lf) → StrsAre os (xs.map S) → Q .next { s with heap := h, toks := tk }) : wpAny (model prog w) A₁ c Q E s := by
  refine wpAny_mono (wpAny_toks_of (n := 1) hk br) (fun f s₁ h => ?_) fun _ _ e => e.2
  have h1 := h.1
  cases h.2 with
  | mk lf os cc h' tk g G F N lt hs => exact behind lf os cc h' tk g h1 G.P G.B G.X G.T G.D F N lt hs
end
/-- what the comprehension of _law_told has gathered -/
noncomputable def TkR (names : List (List Nat)) (n : Int) (k : Nat) (ys : List Value) : Prop := ∃ xs : List (List Nat), StrsAre ys (xs.map S) ∧ ∀ x, x ∈ xs ↔ (x ∈ names.take k ∧ takeN n x = true)
section
variable {names : List (List Nat)} {n : Int} {k : Nat} {ys : List Value} {nm : List Nat} {t : Tok}
theorem tkr_dup (hg : names[k]? = some nm) (hb : (names.take k).contains nm = true) (h : TkR names n k ys) : TkR names n (k + 1) ys := by
  obtain ⟨xs, hys, hxs⟩ := h
  have hin : nm ∈ names.take k := List.contains_iff_mem.mp hb
  refine ⟨xs, hys, fun x => ?_⟩
  rw [hxs, take_snoc hg, List.mem_append, List.mem_singleton]
  exact ⟨fun h => ⟨.inl h.1, h.2⟩, fun h => ⟨h.1.elim id fun e => e ▸ hin, h.2⟩⟩
theorem tkr_no (hg : names[k]? = some nm) (hb : takeN n nm = false) (h : TkR names n k ys) : TkR names n (k + 1) ys := by
  obtain ⟨xs, hys, hxs⟩ := h
  refine ⟨xs, hys, fun x => ?_⟩
  rw [hxs, take_snoc hg, List.mem_append, List.mem_singleton]
  refine ⟨fun h => ⟨.inl h.1, h.2⟩, fun h => ⟨h.1.elim id fun e => ?_, h.2⟩⟩
  rw [e, hb] at h
  exact absurd h.2 Bool.false_ne_true
theorem tkr_yes (hg : names[k]? = some nm) (hb : takeN n nm = true) (h : TkR names n k ys) : TkR names n (k + 1) (ys ++ [.str (S nm) t]) := by
  obtain ⟨xs, hys, hxs⟩ := h
  refine ⟨xs ++ [nm], by rw [List.map_append]; exact strs_snoc hys, fun x => ?_⟩
  rw [take_snoc hg, List.mem_append, List.mem_append, hxs, List.mem_singleton]
  refine ⟨fun h => h.elim (fun h => ⟨.inl h.1, h.2⟩) fun e => ⟨.inr e, e ▸ hb⟩, fun h => h.1.elim (fun h1 => .inl ⟨h1, h.2⟩) .inr⟩
theorem tkr_all (h : TkR names n names.length ys) : ∃ xs : List (List Nat), StrsAre ys (xs.map S) ∧ ∀ x ∈ names, xs.contains x = takeN n x := by
  obtain ⟨xs, hys, hxs⟩ := h
  rw [List.take_of_length_le (Nat.le_refl _)] at hxs
  refine ⟨xs, hys, fun x hx => ?_⟩
  rw [Bool.eq_iff_iff, List.contains_iff_mem, hxs]
  exact ⟨fun h => h.2, fun h => ⟨hx, h⟩⟩
end
theorem strs2k {a b : Str} {vs : List Value} (h : StrsAre vs [a, b]) {P : Prop} (kk : ∀ t u, vs = [.str a t, .str b u] → P) : P := by
  obtain ⟨t1, vs3, rfl, hs3⟩ := h.cons_inv
  obtain ⟨t2, vs4, rfl, hs4⟩ := hs3.cons_inv
  obtain rfl := hs4.nil_inv
  exact kk t1 t2 rfl
theorem div6 (n : Int) : ((n.fdiv 3).fmod 6).toNat < 6 := by
  have h0 : 0 ≤ (n.fdiv 3).fmod 6 := Int.fmod_nonneg_of_pos _ (by decide)
  have h1 : (n.fdiv 3).fmod 6 < 6 := Int.fmod_lt_of_pos _ (by decide)
  omega
theorem told_c (w : World) (line : List Nat) (t : Tok) (lr : Addr) (rvs : List Value) (cr : Nat) (ps : Array Value) (rest : List (Addr × Obj)) (names : List (List Nat)) (ns : List Int) (hline : line.length ≤ 10000) (hruns : Runs line names) (hnn : names.length ≤ 100) (hn0 : 0 < names.length) (hnm : ∀ x ∈ names, x.length ≤ 100) (hns : ns.length ≤ 100)
    (hlr : (lr, listOf rvs.toArray cr) ∈ rest) (hrvs : StrsAre rvs ((ns.map fun n => glue ((rowOf n).map qu)).map S)) (hps : PsOk lpos ps) (hr : ∀ r ∈ rest, r.1 ≠ 107) :
    ToldX PySem.Challenge.pw_il0113_01 w (Mine.K w.params) 150 3000 (fun n => 0 < n) (.ref 854) [.str (S line) t, .ref lr] ((107, tabO ps) :: rest)
      (fun r nw => ∃ (l : Addr) (tvs : List Value) (c : Nat) (nd : List (Addr × Obj)) (ps' : Array Value), r = .ref l ∧ nw = (l, listOf tvs.toArray c) :: (107, tabO ps') :: nd ∧ (∀ q ∈ rest, q ∈ nd) ∧ DatAll nd tvs (datOf (toldOf names ns))) := by
  have kt : KTok 1 := ⟨⟩
  intro p loose mean mg mb dp un gd cn cs a ccd cl outer A₀ base h₀ L m s Q E B F X N T hk hdp hun XB TB D hpre hret
  refine wpAny_call ?_
  have hpre1 : @LE.le Nat _ 1 s.toks := hpre
  k_dflt (refine' code_defSC ?k1 ?k2 ?k3 ?k4 ?k5 ?XB ?TB ?D ?T0 ?kA ?k6 ?k7 ?k8 ?k9 ?kB ?kD ?_ ?cK ?c2 ?c3 ?c4; (case kA => exact rfl); (case k2 => k_asm); (case k1 => k_asm); (case XB => assumption); (case TB => assumption); (case D => assumption); (case T0 => exact KtsTurn.refl); (case k3 => k_asm); (case k4 => k_asm); (case k5 => k_asm); (case k6 => k_is); (case k7 => k_is); (case k8 => ktr_room); (case k9 => first | exact BindsTo.of_eq rfl | exact binds_K (Frag.In.keeps X F.keep) rfl (by k_is) rfl rfl rfl); (case kB => exact rfl); (case kD => decide +kernel); (case cK => first | assumption | exact rfl); (case c2 => exact rfl); (case c3 => exact rfl); (case c4 => exact rfl); k_whole; intro g' L' h' tk' cells' FG' F' N' Y' B' X' T' D' l1 htk0; (try dsimp only [List.cons_append, List.nil_append] at N'); k_cells Y'; (try k_lt l1); (try ((refine execs_at (b' := ?kbody) ?kbe ?_); (case kbe => (conv => lhs; whnf)))); (try dsimp only); (try k_fold))
  have hpre2 : @LE.le Nat _ 1 tk' := Nat.le_trans hpre1 htk0
  (try dsimp only [List.cons_append, List.nil_append] at N')
  repeat' (first | ((with_reducible show _ ≤ _ → _); intro htk; (try dsimp only at htk ⊢)) | (k_unfold; (try dsimp only)) | ((fail_if_success (with_reducible show wpAny _ _ (call (Value.ref 812) _) _ _ _)); (fail_if_success (with_reducible show wpAny _ _ (exec (Stmt.For _ _ _ _ _) _) _ _ _)); (fail_if_success (with_reducible show Q _ _)); first | walk1 | (dsimp only; walk1)))
  have hra1 : ∀ q ∈ rest, q.1 ≠ L' + 1 := allLt_up (Nat.le_succ _) l1.2
  have hra2 : ∀ q ∈ rest, q.1 ≠ L' + 1 + 1 := allLt_up (Nat.le_succ_of_le (Nat.le_succ _)) l1.2
  have l1a := l1.1
  k_dflt (refine' split_use (bs := line) (ws := names) B' F' X' N' T' ?hk XB TB D' ?hd ?hu hline hruns (by omega) hn0 ?ret)
  case hk => exact rfl
  case hd => ktr_room
  case hu => ktr_units
  case ret =>
    intro lN nvs cN h9 tk9 g9 P9 F9 N9 B9 X9 T9 D9 lt9 hnvs
    have b1 : @LT.lt Nat _ (L' + 1 + 1) lN := lt9 _ (.head _)
    have b2 : @LT.lt Nat _ (L' + 1) lN := lt9 _ (.tail _ (.head _))
    have b3 : @LT.lt Nat _ 107 lN := lt9 _ (.tail _ (.tail _ (.head _)))
    clear F' N'
    repeat' (first | ((with_reducible show _ ≤ _ → _); intro htk; (try dsimp only at htk ⊢)) | (k_unfold; (try dsimp only)) | ((fail_if_success (with_reducible show wpAny _ _ (exec (Stmt.For _ _ _ _ _) _) _ _ _)); (fail_if_success (with_reducible show ForSrcK _ _ _ _ _ _ _ _ _ _ _ _)); (fail_if_success (with_reducible show Q _ _)); first | walk1 | (dsimp only; walk1)))
    (with_reducible rename Fr _ _ _ _ => kF)
    (with_reducible rename News _ _ _ _ => kN)
    refine For_k kF 1 ?_
    repeat' (first | ((with_reducible show _ ≤ _ → _); intro htk; (try dsimp only at htk ⊢)) | (k_unfold; (try dsimp only)) | ((fail_if_success (with_reducible show wpAny _ _ (exec (Stmt.For _ _ _ _ _) _) _ _ _)); (fail_if_success (with_reducible show ForSrcK _ _ _ _ _ _ _ _ _ _ _ _)); (fail_if_success (with_reducible show Q _ _)); first | walk1 | (dsimp only; walk1)))
    (with_reducible rename Fr _ _ _ _ => kF)
    (with_reducible rename News _ _ _ _ => kN)
    (rename _ < _ ∧ _ < _ ∧ _ < _ ∧ _ < _ ∧ AllLt _ rest => hlT)
    refine' tl_init (lr := lr) (c1 := L' + 1) (c2 := L' + 1 + 1) (rvs := rvs) (cr := cr) (names := names) (ns := ns) (rest := rest) (ps := ps) (nvs := nvs) (cN := cN) kF kN ⟨P9, B9, X9, T9, D9⟩ ?e1 ?e2 ?e3 ?k1 ?k2 ?d1 ?d2 ?mT ?mtr ?mN ?mr hlr hps hnvs (allLt_up (Nat.le_refl _) hlT.2.2.2.2) hra1 hra2 hr hlT.1 b1 b3 (Nat.lt_succ_self _) (Nat.lt_succ_of_lt l1a) ?kk
    case e1 => exact rfl
    case e2 => exact rfl
    case e3 => exact rfl
    case k1 => k_mem
    case k2 => k_mem
    case d1 => assumption
    case d2 => assumption
    case mT => k_mem
    case mtr => k_mem
    case mN => k_mem
    case mr =>
      intro q hq
      (repeat (refine List.Mem.tail _ ?_))
      exact hq
    case kk =>
      intro news0 N0 J0
      refine .mk _ lr rvs g9 _ news0 _ (by (try dsimp only); omega) rfl kF N0 J0 ?hl ?turn ?fin
      case hl =>
        intro i g₁ m₁ news₁ h₁ J₁ _ N₁
        exact tl_hl J₁ N₁
      case turn =>
        clear kF kN N0 J0
        (repeat ((rename Obj.data _ = _ => dd); clear dd))
        intro i v g₁ m₁ news₁ h₁ tk₁ I oI hkk hi hv off F₁ N₁ J₁ QQ hQQ
        refine tl_turn J₁ off F₁ N₁ ?_
        clear J₁ off F₁ N₁ m₁ news₁
        intro lN' lL lT nvs' lvs tvs cN' cL cT o1 o2 v2 ps1 led m₁ P1 B1 X1 T1 D1 F₁ N₁ d1 d2 hps1 mN mL mR mrest hnv hlv hdat hlT' hlc1 hlc2 hltr qI ne1 ne2 ne3 ne4 ne5 ne6 q1 q2 q3 q4
        have hvl : rvs.length = ns.length := by
          have := hrvs.length
          simpa using this
        have hi' : i < ns.length := by omega
        obtain ⟨n, hn⟩ : ∃ n, ns[i]? = some n := ⟨_, List.getElem?_eq_getElem hi'⟩
        obtain ⟨tv, htv⟩ := hrvs.get i (S (glue ((rowOf n).map qu))) (by rw [List.getElem?_map, List.getElem?_map, hn]; rfl)
        rw [hv] at htv
        obtain rfl := Option.some.inj htv
        obtain ⟨hrun, hrl⟩ := row_runs n
        repeat' (first | ((with_reducible show _ ≤ _ → _); intro htk; (try dsimp only at htk ⊢)) | (k_unfold; (try dsimp only)) | ((fail_if_success (with_reducible show wpAny _ _ (call (Value.ref 812) _) _ _ _)); (fail_if_success (with_reducible show QQ _ _)); first | walk1 | (dsimp only; walk1)))
        (with_reducible rename Fr _ _ _ _ => kF)
        (with_reducible rename News _ _ _ _ => kN)
        k_dflt (refine' split_use (bs := glue ((rowOf n).map qu)) (ws := rowOf n) B1 kF X1 kN T1 ?hkA XB TB D1 ?hdA ?huA hrl hrun (by simp [rowOf]) (by simp [rowOf]) ?retA)
        case hkA => exact rfl
        case hdA => ktr_room
        case huA => ktr_units
        case retA =>
          intro l2 vs2 c2 h2 tk2 g2 P2 F2 N2 B2 X2 T2 D2 lt2 hs2
          clear kF kN
          refine strs2k hs2 ?_
          intro t1 t2 e2
          subst e2
          repeat' (first | ((with_reducible show _ ≤ _ → _); intro htk; (try dsimp only at htk ⊢)) | (k_unfold; (try dsimp only)) | ((fail_if_success (with_reducible show wpAny _ _ (call (Value.ref 112) _) _ _ _)); (fail_if_success (with_reducible show QQ _ _)); first | walk1 | (dsimp only; walk1)))
          (with_reducible rename Fr _ _ _ _ => kF)
          (with_reducible rename News _ _ _ _ => kN)
          have pf := pat_facts _ (div6 n)
          rw [star_S, one_S]
          k_dflt (refine' trans_use (news := (I, oI) :: (L' + 1, o1) :: (L' + 1 + 1, o2) :: (lT, listOf tvs.toArray cT) :: led) B2 kF X2 (news_sub kN ?subB) T2 ?hkB ?hdB ?huB pf.2.2.2.2.1 pf.1 pf.2.1 pf.2.2.1 hps1 ?hrB ?preB ?retB)
          case subB =>
            ((repeat (refine List.forall_mem_cons.mpr ⟨(by first | exact .head _ | exact .tail _ (.head _) | exact .tail _ (.tail _ (.head _)) | exact .tail _ (.tail _ (.tail _ (.head _))) | exact .tail _ (.tail _ (.tail _ (.tail _ (.head _)))) | exact .tail _ (.tail _ (.tail _ (.tail _ (.tail _ (.head _))))) | exact .tail _ (.tail _ (.tail _ (.tail _ (.tail _ (.tail _ (.head _)))))) | exact .tail _ (.tail _ (.tail _ (.tail _ (.tail _ (.tail _ (.tail _ (.head _))))))) | exact .tail _ (.tail _ (.tail _ (.tail _ (.tail _ (.tail _ (.tail _ (.tail _ (.head _)))))))) | exact .tail _ (.tail _ (.tail _ (.tail _ (.tail _ (.tail _ (.tail _ (.tail _ (.tail _ (.head _)))))))))), ?_⟩)); first | exact fun _ h => h | exact fun _ h => .tail _ (h) | exact fun _ h => .tail _ (.tail _ (h)) | exact fun _ h => .tail _ (.tail _ (.tail _ (h))) | exact fun _ h => .tail _ (.tail _ (.tail _ (.tail _ (h)))) | exact fun _ h => .tail _ (.tail _ (.tail _ (.tail _ (.tail _ (h))))) | exact fun _ h => .tail _ (.tail _ (.tail _ (.tail _ (.tail _ (.tail _ (h)))))) | exact fun _ h => .tail _ (.tail _ (.tail _ (.tail _ (.tail _ (.tail _ (.tail _ (h))))))) | exact fun _ h => .tail _ (.tail _ (.tail _ (.tail _ (.tail _ (.tail _ (.tail _ (.tail _ (h)))))))) | exact fun _ h => .tail _ (.tail _ (.tail _ (.tail _ (.tail _ (.tail _ (.tail _ (.tail _ (.tail _ (h))))))))) | exact fun _ h => nomatch h)
          case hkB => exact rfl
          case hdB => ktr_room
          case huB => ktr_units
          case hrB =>
            refine List.forall_mem_cons.mpr ⟨Ne.symm q4, List.forall_mem_cons.mpr ⟨ne5, List.forall_mem_cons.mpr ⟨ne6, List.forall_mem_cons.mpr ⟨ne3, hltr⟩⟩⟩⟩
          case preB =>
            (try dsimp only)
            (with_reducible rename 1 ≤ _ => hq1)
            constructor <;> (show @LT.lt Nat _ _ _) <;> omega
          case retB =>
            intro lp pvs cp ps2 h3 tk3 F3 N3 hps2 hpv
            clear kF kN
            have hlp : @Ne Nat lp (L' + 1 + 1) := news_ne N3 (.head _) (.tail _ (.tail _ (.tail _ (.tail _ (.head _))))) (by intro e; rw [← e] at d2; cases d2)
            repeat' (first | ((with_reducible show _ ≤ _ → _); intro htk; (try dsimp only at htk ⊢)) | (k_unfold; (try dsimp only)) | ((fail_if_success (with_reducible show wpAny _ _ (exec (Stmt.Assign [_] (Expr.ListComp _ _ _ _) _) _) _ _ _)); (fail_if_success (with_reducible show QQ _ _)); first | walk1 | (dsimp only; walk1)))
            (with_reducible rename Fr _ _ _ _ => kF)
            (with_reducible rename News _ _ _ _ => kN)
            (rename Obj.data _ = _ => dP)
            (rename Obj => oP)
            refine LCt.Assign_ListComp_T (F₀ := kF) (by rfl) (by with_unfolding_all rfl) (by with_unfolding_all rfl) (by decide) (by rfl) (by decide) (by rfl) (by rfl) (by rfl) ?_
            have hnz : names.length ≤ 1000 := by omega
            repeat' (first | (k_unfold; (try dsimp only)) | ((fail_if_success (with_reducible show LCt.CompSrcT _ _ _ _ _ _ _ _ _ _ _ _ _ _ _)); first | walk1 | (dsimp only; walk1)))
            (with_reducible rename Fr _ _ _ _ => kF)
            (with_reducible rename News _ _ _ _ => kN)
            (rename IsRange _ _ _ _ _ _ _ _ => hrg)
            refine LCt.CompSrcT.range (n := names.length) rfl kF kN hrg (small_one (by decide) (by decide) (by omega) (by omega)) (by rw [rangeSize_nat]; omega) (by rw [sizeLine_eq]; omega) fun g => ?_
            clear hrg
            refine comp_indT names.length (TkR names n) _ ?_ ?_ ⟨[], .nil, fun x => by simp⟩ trivial
            · intro k ys v9 I9 oI9 C oC D9 mm h tk E' QC QN hk9 hR hP hC hx F N offk ne hQC hQN
              clear kF kN
              obtain ⟨t9, rfl⟩ : ∃ t, v9 = .int (k : Int) t := by
                obtain ⟨t, rfl⟩ := hP
                exact ⟨t, by rw [Int.zero_add]⟩
              obtain ⟨nm, hgk⟩ : ∃ nm, names[k]? = some nm := ⟨_, List.getElem?_eq_getElem hk9⟩
              have htake : StrsAre (nvs'.take k) ((names.take k).map S) := by
                rw [List.map_take]
                exact strs_take hnv k
              have hsz9 : nvs'.toArray.size ≤ sizeLine := by
                have := hnv.length
                simp at this ⊢
                rw [sizeLine_eq]
                omega
              obtain ⟨b1, hb1⟩ : ∃ b, (names.take k).contains nm = b := ⟨_, rfl⟩
              cases b1 with
              | true =>
                repeat' (first | ((with_reducible show _ ≤ _ → _); intro htk; (try dsimp only at htk ⊢)) | (k_unfold; (try dsimp only)) | ((fail_if_success (with_reducible show wpAny _ _ (call (Value.ref 844) _) _ _ _)); (fail_if_success (with_reducible show QC _ _)); (fail_if_success (with_reducible show QN _)); first | walk1 | (dsimp only; walk1)))
                (with_reducible rename Fr _ _ _ _ => kF)
                (with_reducible rename News _ _ _ _ => kN)
                exact hQN _ _ _ kF kN (fun p hp => .tail _ hp) (tkr_dup hgk hb1 hR)
              | false =>
                repeat' (first | ((with_reducible show _ ≤ _ → _); intro htk; (try dsimp only at htk ⊢)) | (k_unfold; (try dsimp only)) | ((fail_if_success (with_reducible show wpAny _ _ (call (Value.ref 844) _) _ _ _)); (fail_if_success (with_reducible show QC _ _)); (fail_if_success (with_reducible show QN _)); first | walk1 | (dsimp only; walk1)))
                (with_reducible rename Fr _ _ _ _ => kF)
                (with_reducible rename News _ _ _ _ => kN)
                obtain ⟨b2, hb2⟩ : ∃ b2, takeN n nm = b2 := ⟨_, rfl⟩
                have hnmk : nm.length ≤ 100 := hnm nm (List.mem_of_getElem? hgk)
                have htc := fun t9 => takes_c w lp ((pieceL.getD ((n.fdiv 3).fmod 6).toNat []).map (·.2)) nm t9 pf.2.2.2.1 pf.2.2.2.2.2 hnmk
                rw [show takes ((pieceL.getD ((n.fdiv 3).fmod 6).toNat []).map (·.2)) nm = b2 from hb2] at htc
                k_dflt (refine' told_useB kF X2 kN T2 (hh := ?hhT) (htc _) ?hdT ?huT ⟨pvs, cp, News.get kN ?memT, hpv⟩ ?retT)
                case hhT => exact rfl
                case hdT => ktr_room
                case huT => ktr_units
                case memT => k_mem
                case retT =>
                  intro h8 tk8 F8 N8
                  clear kF kN
                  cases b2 with
                  | true =>
                    repeat' (first | ((with_reducible show _ ≤ _ → _); intro htk; (try dsimp only at htk ⊢)) | (k_unfold; (try dsimp only)) | ((fail_if_success (with_reducible show wpAny _ _ (call (Value.ref 844) _) _ _ _)); (fail_if_success (with_reducible show QC _ _)); (fail_if_success (with_reducible show QN _)); first | walk1 | (dsimp only; walk1)))
                    exact hQC _ _ _ _ F8 N8 (fun p hp => .tail _ hp) (tkr_yes hgk hb2 hR)
                  | false =>
                    repeat' (first | ((with_reducible show _ ≤ _ → _); intro htk; (try dsimp only at htk ⊢)) | (k_unfold; (try dsimp only)) | ((fail_if_success (with_reducible show wpAny _ _ (call (Value.ref 844) _) _ _ _)); (fail_if_success (with_reducible show QC _ _)); (fail_if_success (with_reducible show QN _)); first | walk1 | (dsimp only; walk1)))
                    exact hQN _ _ _ F8 N8 (fun p hp => .tail _ hp) (tkr_no hgk hb2 hR)
            · intro ys hR DD hD9 tkD FD ND offD
              clear kF kN
              refine (tkr_all hR).elim fun xs hxs => ?_
              have hys := hxs.1
              have hx9 := hxs.2
              have y1 : @Ne Nat 107 DD := offD.2.1
              have y2 : @Ne Nat I DD := offD.2.2.1
              have y3 : @Ne Nat (L' + 1) DD := offD.2.2.2.1
              have y4 : @Ne Nat (L' + 1 + 1) DD := offD.2.2.2.2.1
              have y5 : @Ne Nat lT DD := offD.2.2.2.2.2.1
              have hdz : tvs.toArray.size ≤ sizeLine := by
                have := hdat.length
                simp at this ⊢
                rw [sizeLine_eq]
                omega
              have hm3 := mod3 n
              have ND : News g2 L' hD9 ((DD, LCg.lst ys) :: (107, tabO ps2) :: (I, oI) :: (L' + 1, o1) :: (L' + 1 + 1, oP) :: (lT, listOf tvs.toArray cT) :: led) := news_sub ND (by
                ((repeat (refine List.forall_mem_cons.mpr ⟨(by first | exact .head _ | exact .tail _ (.head _) | exact .tail _ (.tail _ (.head _)) | exact .tail _ (.tail _ (.tail _ (.head _))) | exact .tail _ (.tail _ (.tail _ (.tail _ (.head _)))) | exact .tail _ (.tail _ (.tail _ (.tail _ (.tail _ (.head _))))) | exact .tail _ (.tail _ (.tail _ (.tail _ (.tail _ (.tail _ (.head _)))))) | exact .tail _ (.tail _ (.tail _ (.tail _ (.tail _ (.tail _ (.tail _ (.head _))))))) | exact .tail _ (.tail _ (.tail _ (.tail _ (.tail _ (.tail _ (.tail _ (.tail _ (.head _)))))))) | exact .tail _ (.tail _ (.tail _ (.tail _ (.tail _ (.tail _ (.tail _ (.tail _ (.tail _ (.head _)))))))))), ?_⟩)); first | exact fun _ h => h | exact fun _ h => .tail _ (h) | exact fun _ h => .tail _ (.tail _ (h)) | exact fun _ h => .tail _ (.tail _ (.tail _ (h))) | exact fun _ h => .tail _ (.tail _ (.tail _ (.tail _ (h)))) | exact fun _ h => .tail _ (.tail _ (.tail _ (.tail _ (.tail _ (h))))) | exact fun _ h => .tail _ (.tail _ (.tail _ (.tail _ (.tail _ (.tail _ (h)))))) | exact fun _ h => .tail _ (.tail _ (.tail _ (.tail _ (.tail _ (.tail _ (.tail _ (h))))))) | exact fun _ h => .tail _ (.tail _ (.tail _ (.tail _ (.tail _ (.tail _ (.tail _ (.tail _ (h)))))))) | exact fun _ h => .tail _ (.tail _ (.tail _ (.tail _ (.tail _ (.tail _ (.tail _ (.tail _ (.tail _ (h))))))))) | exact fun _ h => nomatch h))
              repeat' (first | ((with_reducible show _ ≤ _ → _); intro htk; (try dsimp only at htk ⊢)) | (k_unfold; (try dsimp only)) | ((fail_if_success (with_reducible show wpAny _ _ (exec (Stmt.If _ _ _ _) _) _ _ _)); (fail_if_success (with_reducible show QQ _ _)); first | walk1 | (dsimp only; walk1)))
              refine mid_told (names.filter (staysT (ns.take (i + 1)))) ⟨P1.trans P2, B2, X2, T2, D2⟩ (by with_reducible assumption) ND (by (try dsimp only); omega) ?br ?behind
              case behind =>
                clear FD
                intro lf os cf h8 tk8 g8 hk8 P8 B8 X8 T8 D8 F8 N8 lt8 hs8
                have z8 : @LT.lt Nat _ lT lf := lt8 _ (.tail _ (.tail _ (.tail _ (.tail _ (.tail _ (.head _))))))
                repeat' (first | ((with_reducible show _ ≤ _ → _); intro htk; (try dsimp only at htk ⊢)) | (k_unfold; (try dsimp only)) | ((fail_if_success (with_reducible show QQ _ _)); first | walk1 | (dsimp only; walk1)))
                (with_reducible rename Fr _ _ _ _ => kF)
                (with_reducible rename News _ _ _ _ => kN)
                rw [List.push_toArray] at kN
                exact hQQ _ _ (tl_end (oI := oI) (led := led) (tvs := tvs) (os := os) (cf := cf) (lf := lf) kF kN ⟨P8, B8, X8, T8, D8⟩ rfl rfl rfl (by k_mem) (by k_mem) (by k_mem) d1 dP (by k_mem) (by k_mem) (by k_mem) (fun q hq => by (repeat (refine List.Mem.tail _ ?_)); exact hq) hps2 mN mR mrest hnv hs8 hdat hlT' hlc1 hlc2 hltr
                  z8 (lt8 _ (.tail _ (.tail _ (.tail _ (.head _))))) (lt8 _ (.tail _ (.tail _ (.tail _ (.tail _ (.head _)))))) (lt8 _ (.tail _ (.head _))) (lt8 _ (.tail _ (.tail _ (.head _)))) q1 q2 q3 q4 qI ne1 ne2 ne3 ne4 ne5 ne6)
              rcases hm3 with hm3 | hm3 | hm3
              · have f1 : (S (deedL.getD (n.fmod 3).toNat []) == Str.ofString "drop") = true := by rw [hm3]; decide +kernel
                repeat' (first | ((with_reducible show _ ≤ _ → _); intro htk; (try dsimp only at htk ⊢)) | (k_unfold; (try dsimp only)) | ((fail_if_success (with_reducible show wpAny _ _ (call (Value.ref 88) _) _ _ _)); (fail_if_success (with_reducible show MidT _ _ _ _ _ _ _ _ _ _ _ _ _ _ _ _ _ _)); first | walk1 | (dsimp only; walk1)))
                (with_reducible rename Fr _ _ _ _ => kF)
                k_dflt (refine' filt_use (xs := names.filter (staysT (ns.take i))) (ys := xs) (vs := lvs) (us := ys) (c := cL) (c' := ys.length) B2 kF X2 ND T2 ?hkC XB TB D2 ?hdC ?huC ?hfC ?hsC hlv hys ?lenC ?retC)
                case hkC => exact rfl
                case hdC => ktr_room
                case huC => ktr_units
                case hfC => (first | k_mem | ((repeat (refine List.Mem.tail _ ?_)); assumption))
                case hsC => (first | k_mem | ((repeat (refine List.Mem.tail _ ?_)); assumption))
                case lenC => first | exact hnz | exact Nat.le_trans (List.length_filter_le _ _) hnz
                case retC =>
                  intro l4 os4 c4 h4 tk4 g4 P4 F4 N4 B4 X4 T4 D4 lt4 hs4
                  clear kF
                  have hfe : names.filter (staysT (ns.take (i + 1))) = (names.filter (staysT (ns.take i))).filter (fun x => !xs.contains x) := by
                    rw [F_drop hx9]
                    exact List.filter_congr fun x _ => by rw [staysT_snoc hn]; unfold stT; rw [if_pos hm3]
                  rw [← hfe] at hs4
                  repeat' (first | ((with_reducible show _ ≤ _ → _); intro htk; (try dsimp only at htk ⊢)) | (k_unfold; (try dsimp only)) | ((fail_if_success (with_reducible show MidT _ _ _ _ _ _ _ _ _ _ _ _ _ _ _ _ _ _)); first | walk1 | (dsimp only; walk1)))
                  (with_reducible rename Fr _ _ _ _ => kF)
                  (with_reducible rename News _ _ _ _ => kN)
                  exact .mk l4 os4 c4 _ _ _ ⟨(P1.trans P2).trans P4, B4, X4, T4, D4⟩ kF kN (fun q hq => lt4 q hq) hs4
              · have f1 : (S (deedL.getD (n.fmod 3).toNat []) == Str.ofString "drop") = false := by rw [hm3]; decide +kernel
                have f2 : (S (deedL.getD (n.fmod 3).toNat []) == Str.ofString "keep") = true := by rw [hm3]; decide +kernel
                repeat' (first | ((with_reducible show _ ≤ _ → _); intro htk; (try dsimp only at htk ⊢)) | (k_unfold; (try dsimp only)) | ((fail_if_success (with_reducible show wpAny _ _ (call (Value.ref 88) _) _ _ _)); (fail_if_success (with_reducible show MidT _ _ _ _ _ _ _ _ _ _ _ _ _ _ _ _ _ _)); first | walk1 | (dsimp only; walk1)))
                (with_reducible rename Fr _ _ _ _ => kF)
                k_dflt (refine' filt_use (xs := names.filter (staysT (ns.take i))) (ys := xs) (vs := lvs) (us := ys) (c := cL) (c' := ys.length) B2 kF X2 ND T2 ?hkK XB TB D2 ?hdK ?huK ?hfK ?hsK hlv hys ?lenK ?retK)
                case hkK => exact rfl
                case hdK => ktr_room
                case huK => ktr_units
                case hfK => (first | k_mem | ((repeat (refine List.Mem.tail _ ?_)); assumption))
                case hsK => (first | k_mem | ((repeat (refine List.Mem.tail _ ?_)); assumption))
                case lenK => first | exact hnz | exact Nat.le_trans (List.length_filter_le _ _) hnz
                case retK =>
                  intro l4 os4 c4 h4 tk4 g4 P4 F4 N4 B4 X4 T4 D4 lt4 hs4
                  clear kF
                  repeat' (first | ((with_reducible show _ ≤ _ → _); intro htk; (try dsimp only at htk ⊢)) | (k_unfold; (try dsimp only)) | ((fail_if_success (with_reducible show wpAny _ _ (call (Value.ref 88) _) _ _ _)); (fail_if_success (with_reducible show MidT _ _ _ _ _ _ _ _ _ _ _ _ _ _ _ _ _ _)); first | walk1 | (dsimp only; walk1)))
                  (with_reducible rename Fr _ _ _ _ => kF)
                  k_dflt (refine' filt_use (xs := names.filter (staysT (ns.take i))) (ys := (names.filter (staysT (ns.take i))).filter (fun x => !xs.contains x)) (vs := lvs) (us := os4) (c := cL) (c' := c4) B4 kF X4 N4 T4 ?hkM XB TB D4 ?hdM ?huM ?hfM ?hsM hlv hs4 ?lenM ?retM)
                  case hkM => exact rfl
                  case hdM => ktr_room
                  case huM => ktr_units
                  case hfM => (first | k_mem | ((repeat (refine List.Mem.tail _ ?_)); assumption))
                  case hsM => (first | k_mem | ((repeat (refine List.Mem.tail _ ?_)); assumption))
                  case lenM => first | exact hnz | exact Nat.le_trans (List.length_filter_le _ _) hnz
                  case retM =>
                    intro l5 os5 c5 h5 tk5 g5 P5 F5 N5 B5 X5 T5 D5 lt5 hs5
                    clear kF
                    have hfe : names.filter (staysT (ns.take (i + 1))) = (names.filter (staysT (ns.take i))).filter (fun x => !((names.filter (staysT (ns.take i))).filter (fun x => !xs.contains x)).contains x) := by
                      rw [F_keep hx9]
                      exact List.filter_congr fun x _ => by rw [staysT_snoc hn]; unfold stT; rw [if_neg (by omega), if_pos hm3]
                    rw [← hfe] at hs5
                    repeat' (first | ((with_reducible show _ ≤ _ → _); intro htk; (try dsimp only at htk ⊢)) | (k_unfold; (try dsimp only)) | ((fail_if_success (with_reducible show MidT _ _ _ _ _ _ _ _ _ _ _ _ _ _ _ _ _ _)); first | walk1 | (dsimp only; walk1)))
                    (with_reducible rename Fr _ _ _ _ => kF)
                    (with_reducible rename News _ _ _ _ => kN)
                    exact .mk l5 os5 c5 _ _ _ ⟨((P1.trans P2).trans P4).trans P5, B5, X5, T5, D5⟩ kF (news_sub kN (List.forall_mem_cons.mpr ⟨.head _, fun q hq => .tail _ (.tail _ hq)⟩)) (fun q hq => lt5 q (.tail _ hq)) hs5
              · have f1 : (S (deedL.getD (n.fmod 3).toNat []) == Str.ofString "drop") = false := by rw [hm3]; decide +kernel
                have f2 : (S (deedL.getD (n.fmod 3).toNat []) == Str.ofString "keep") = false := by rw [hm3]; decide +kernel
                repeat' (first | ((with_reducible show _ ≤ _ → _); intro htk; (try dsimp only at htk ⊢)) | (k_unfold; (try dsimp only)) | ((fail_if_success (with_reducible show wpAny _ _ (call (Value.ref 88) _) _ _ _)); (fail_if_success (with_reducible show MidT _ _ _ _ _ _ _ _ _ _ _ _ _ _ _ _ _ _)); first | walk1 | (dsimp only; walk1)))
                (with_reducible rename Fr _ _ _ _ => kF)
                k_dflt (refine' filt_use (xs := names) (ys := names.filter (staysT (ns.take i))) (vs := nvs') (us := lvs) (c := cN') (c' := cL) B2 kF X2 ND T2 ?hkX XB TB D2 ?hdX ?huX ?hfX ?hsX hnv hlv ?lenX ?retX)
                case hkX => exact rfl
                case hdX => ktr_room
                case huX => ktr_units
                case hfX => (first | k_mem | ((repeat (refine List.Mem.tail _ ?_)); assumption))
                case hsX => (first | k_mem | ((repeat (refine List.Mem.tail _ ?_)); assumption))
                case lenX => first | exact hnz | exact Nat.le_trans (List.length_filter_le _ _) hnz
                case retX =>
                  intro l4 os4 c4 h4 tk4 g4 P4 F4 N4 B4 X4 T4 D4 lt4 hs4
                  clear kF
                  repeat' (first | ((with_reducible show _ ≤ _ → _); intro htk; (try dsimp only at htk ⊢)) | (k_unfold; (try dsimp only)) | ((fail_if_success (with_reducible show wpAny _ _ (call (Value.ref 88) _) _ _ _)); (fail_if_success (with_reducible show MidT _ _ _ _ _ _ _ _ _ _ _ _ _ _ _ _ _ _)); first | walk1 | (dsimp only; walk1)))
                  (with_reducible rename Fr _ _ _ _ => kF)
                  k_dflt (refine' filt_use (xs := names.filter (fun x => !(names.filter (staysT (ns.take i))).contains x)) (ys := xs) (vs := os4) (us := ys) (c := c4) (c' := ys.length) B4 kF X4 N4 T4 ?hkY XB TB D4 ?hdY ?huY ?hfY ?hsY hs4 hys ?lenY ?retY)
                  case hkY => exact rfl
                  case hdY => ktr_room
                  case huY => ktr_units
                  case hfY => (first | k_mem | ((repeat (refine List.Mem.tail _ ?_)); assumption))
                  case hsY => (first | k_mem | ((repeat (refine List.Mem.tail _ ?_)); assumption))
                  case lenY => first | exact hnz | exact Nat.le_trans (List.length_filter_le _ _) hnz
                  case retY =>
                    intro l5 os5 c5 h5 tk5 g5 P5 F5 N5 B5 X5 T5 D5 lt5 hs5
                    clear kF
                    repeat' (first | ((with_reducible show _ ≤ _ → _); intro htk; (try dsimp only at htk ⊢)) | (k_unfold; (try dsimp only)) | ((fail_if_success (with_reducible show wpAny _ _ (call (Value.ref 88) _) _ _ _)); (fail_if_success (with_reducible show MidT _ _ _ _ _ _ _ _ _ _ _ _ _ _ _ _ _ _)); first | walk1 | (dsimp only; walk1)))
                    (with_reducible rename Fr _ _ _ _ => kF)
                    k_dflt (refine' filt_use (xs := names) (ys := (names.filter (fun x => !(names.filter (staysT (ns.take i))).contains x)).filter (fun x => !xs.contains x)) (vs := nvs') (us := os5) (c := cN') (c' := c5) B5 kF X5 N5 T5 ?hkZ XB TB D5 ?hdZ ?huZ ?hfZ ?hsZ hnv hs5 ?lenZ ?retZ)
                    case hkZ => exact rfl
                    case hdZ => ktr_room
                    case huZ => ktr_units
                    case hfZ => (first | k_mem | ((repeat (refine List.Mem.tail _ ?_)); assumption))
                    case hsZ => (first | k_mem | ((repeat (refine List.Mem.tail _ ?_)); assumption))
                    case lenZ => first | exact hnz | exact Nat.le_trans (List.length_filter_le _ _) hnz
                    case retZ =>
                      intro l6 os6 c6 h6 tk6 g6 P6 F6 N6 B6 X6 T6 D6 lt6 hs6
                      clear kF
                      have hfe : names.filter (staysT (ns.take (i + 1))) = names.filter (fun x => !((names.filter (fun x => !(names.filter (staysT (ns.take i))).contains x)).filter (fun x => !xs.contains x)).contains x) := by
                        rw [F_back hx9]
                        exact List.filter_congr fun x _ => by rw [staysT_snoc hn]; unfold stT; rw [if_neg (by omega), if_neg (by omega)]
                      rw [← hfe] at hs6
                      repeat' (first | ((with_reducible show _ ≤ _ → _); intro htk; (try dsimp only at htk ⊢)) | (k_unfold; (try dsimp only)) | ((fail_if_success (with_reducible show MidT _ _ _ _ _ _ _ _ _ _ _ _ _ _ _ _ _ _)); first | walk1 | (dsimp only; walk1)))
                      (with_reducible rename Fr _ _ _ _ => kF)
                      (with_reducible rename News _ _ _ _ => kN)
                      exact .mk l6 os6 c6 _ _ _ ⟨(((P1.trans P2).trans P4).trans P5).trans P6, B6, X6, T6, D6⟩ kF (news_sub kN (List.forall_mem_cons.mpr ⟨.head _, fun q hq => .tail _ (.tail _ (.tail _ hq))⟩)) (fun q hq => lt6 q (.tail _ (.tail _ hq))) hs6
      case fin =>
        clear kF kN N0 J0
        (repeat ((rename Obj.data _ = _ => dd); clear dd))
        intro g₁ m₁ news₁ h₁ tk₁ F₁ N₁ J₁
        refine tl_fin J₁ F₁ N₁ ?_
        clear J₁ F₁ N₁ m₁ news₁
        intro lL lT tvs cT ps1 led m₁ P1 B1 X1 T1 D1 F₁ N₁ mrest hdat
        have hvl : rvs.length = ns.length := by
          have := hrvs.length
          simpa using this
        rw [hvl] at hdat
        repeat' (first | (k_unfold; (try dsimp only)) | ((fail_if_success (with_reducible show Q _ _)); first | walk1 | (dsimp only; walk1)))
        (with_reducible rename Fr _ _ _ _ => kF)
        (with_reducible rename News _ _ _ _ => kN)
        refine' hret _ ((lT, listOf tvs.toArray cT) :: (107, tabO ps1) :: led) _ _ _ ?_ kF kN ?_ ?_ ?_ ?_ ⟨lT, tvs, cT, led, ps1, rfl, rfl, mrest, hdat⟩
        all_goals assumption
end
section
noncomputable def jpos : Pos := { line := 829, col := 20, endLine := 829, endCol := 57 }
noncomputable def quS (y : Str) : Str := S (qu y.cps.toList)
theorem elt_walk (w : World) {p : Program} {loose : List Str} {mean : ExcName → Option Value} {mg mb : Str → Option Value} {g : Heap} (xs : List (List Nat)) (hg : ∀ x ∈ xs, Good x) (X : (Mine.K w.params).In g) (T : Top p loose mean mg mb g) {env : Env} (henv : env.globals = mainGlobals) (D U : Nat) (hD : D + 30 < recursionLimit) (hU : U + 200 < cLine)
    (A' : Around) (E' : Value → Shared → Prop) (Q' : Value → Shared → Prop) (y : Str) (t : Tok) (s₂ : Shared) (m₂ : Str → Option Value) (C : Addr) (code : Value) (hy : y ∈ xs.map S) (hh : A'.handled = none) (hd : A'.depth ≤ D) (hu : A'.units ≤ U) (F : Fr g C s₂.heap m₂) (hm : m₂ (Str.ofString "arg") = some (.str y t))
    (hret : ∀ t' h' tk', (∀ b o, s₂.heap.get? b = some o → h'.get? b = some o) → Q' (.str (quS y) t') { s₂ with heap := h', toks := tk' }) :
    wpAny (model PySem.Challenge.pw_il0113_01 w) A' (eval ((Expr.Name (Str.ofString "quote") { line := 829, col := 21, endLine := 829, endCol := 26 }).Call [Expr.Name (Str.ofString "arg") { line := 829, col := 27, endLine := 829, endCol := 30 }] [] { line := 829, col := 21, endLine := 829, endCol := 31 })
      (genEnv { kind := ScopeKind.function, names := [(Str.ofString ".0", NameKind.local), (Str.ofString "arg", NameKind.local), (Str.ofString "quote", NameKind.globalImplicit)], isGenerator := true, isCoroutine := false } [] C code builtinsNs env)) Q' E' s₂ := by
  obtain ⟨x, hx, rfl⟩ := List.mem_map.mp hy
  have hq := quote_q w x t (hg x hx)
  refine Call_ ?_
  refine Name_function_global (by rfl) (by rfl) (loadGlobal_global (show s₂.heap.Ns (genEnv _ [] C code builtinsNs env).globals mg from (by show s₂.heap.Ns env.globals mg; rw [henv]; exact (T.keeps F.keep).g)) (mg_of X T.g (v := .ref 827) (by k_is)) ?_) (by decide)
  refine callWith_defK (X 827 _ rfl) rfl ?_
  refine args_cons (ldVarG F hm ?_)
  refine args_nil ⟨F.keep _ _ (X 827 _ rfl), ?_⟩
  refine hq p loose mean mg mb A' s₂ Q' E' (X.keeps F.keep) (T.keeps F.keep) hh (by omega) (by omega) ?_
  rintro r h' tk' hk ⟨t', rfl⟩
  exact hret t' h' tk' hk
theorem strs_at {f : Str → Str} {ys : List Str} {lt : List (Str × Tok)} (h : ItemsOf (fun i v => ∃ t, v = .str (f (ys.getD i "")) t) (strValues lt).toArray ys.length) : lt.map (·.1) = ys.map f := by
  have hsz : lt.length = ys.length := by simpa [strValues] using h.1
  apply List.ext_getElem?
  intro j
  by_cases hj : j < ys.length
  · have hj' : j < lt.length := hsz ▸ hj
    obtain ⟨u, hv⟩ := h.2 j (.str lt[j].1 lt[j].2) (by simp [strValues, List.getElem?_eq_getElem hj'])
    injection hv with h1 _
    simp [List.getElem?_eq_getElem hj', hj, h1]
  · rw [List.getElem?_eq_none (by simpa [hsz] using Nat.le_of_not_lt hj), List.getElem?_eq_none (by simpa using Nat.le_of_not_lt hj)]
theorem join_c (w : World) (l : Addr) (vs : List Value) (c : Nat) (ps : Array Value) (rest : List (Addr × Obj)) (xs : List (List Nat)) (hg : ∀ x ∈ xs, Good x) (hxs : StrsAre vs (xs.map S)) (hps : PsOk jpos ps) (hlen : xs.length ≤ 1000) (hsum : ((xs.map qu).map (·.length)).sum ≤ 90000)
    (hl0 : @Ne Nat l 814) (hr0 : ∀ q ∈ rest, q.1 ≠ 814) :
    ToldG PySem.Challenge.pw_il0113_01 w (Mine.K w.params) 40 300 (.ref 819) [.ref l] ((l, listOf vs.toArray c) :: (814, tabO ps) :: rest)
      (fun r nw => ∃ t' ps', r = .str (S (glue (xs.map qu))) t' ∧ PsOk jpos ps' ∧ nw = (l, listOf vs.toArray c) :: (814, tabO ps') :: rest) := by
  intro p loose mean mg mb dp un gd cn cs a ccd cl outer A₀ base h₀ L m s Q E B F X N T hk hdp hun hGB hret
  refine wpAny_call ?_
  k_dflt (refine' code_def ?k1 ?k2 ?k3 ?k4 ?k5 ?kA ?kF ?kK ?k6 ?k7 ?k8 ?k9 ?kB ?_ ?c2 ?c3 ?c4 ?c5; (case kA => exact rfl); (case kF => exact rfl); (case kK => assumption); (case k1 => k_asm); (case k2 => k_asm); (case k3 => k_asm); (case k4 => k_asm); (case k5 => k_asm); (case k6 => k_is); (case k7 => k_is); (case k8 => ktr_room); (case k9 => first | exact BindsTo.of_eq rfl | exact binds_K (by k_in) rfl (by k_is) rfl rfl rfl); (case c5 => decide); (case kB => exact locs rfl); (case c2 => exact rfl); (case c3 => exact rfl); (case c4 => exact rfl); k_whole; intro g' L' h' FG' F' N' B' X' T'; (try ((refine execs_at (b' := ?kbody) ?kbe ?_); (case kbe => (conv => lhs; whnf)))); (try dsimp only); (try k_fold))
  repeat' (first | (k_unfold; (try dsimp only)) | ((fail_if_success (with_reducible show wpAny _ _ (eval (Expr.GeneratorExp _ _ _ _) _) _ _ _)); (fail_if_success (with_reducible show Q _ _)); first | walk1 | (dsimp only; walk1)))
  refine gen_make (x := Str.ofString "arg") quS X' T' F' N' hl0 hr0 hps hxs (by rw [List.length_map]; exact hlen) rfl rfl ?hh ?hco ?hclos ?hcell ?h0 ?hx ?hkind ?hroom ?hs hGB ?hi ?helt ?hgo
  case hh => rfl
  case hco => rfl
  case hclos => with_unfolding_all rfl
  case hcell => decide
  case h0 => with_unfolding_all rfl
  case hx => with_unfolding_all rfl
  case hkind => rfl
  case hroom => ktr_room
  case hs => intro _; with_unfolding_all rfl
  case hi =>
    intro Q' hq
    exact ld F' rfl (hq _)
  case helt =>
    intro A' E' Q' y t s₂ m₂ C code hy hh hd hu F2 hm hret2
    have hcL := cLine_is
    refine elt_walk w xs hg X' T' rfl (dp + 2) (un + 60) (by omega) (by omega) A' E' Q' y t s₂ m₂ C code hy hh (Nat.le_trans hd ?_) (Nat.le_trans hu ?_) F2 hm hret2
    · show (dp + 1) + 1 ≤ dp + 2
      omega
    · simp only [units_in1, units_deeper, Around.mark_units, units_caller]
      try dsimp only [ktrTop]
      omega
  case hgo =>
    have lowF := F'.ns.lt
    have lowK : ∀ b o, g'.get? b = some o → b < h'.objs.size := fun b o e => Heap.lt_size (F'.keep b o e)
    have lowN : ∀ q ∈ ((l, listOf vs.toArray c) :: (814, tabO ps) :: rest), q.1 < h'.objs.size := fun q hq => Heap.lt_size (N' q hq).1
    rintro a ps' h9 tk' gs' hG' F9 N9 hps' ⟨fp, wr, gq, St, W, hst, hT, ha, hfp, hwr⟩
    refine args_nil ?_
    have W := W.in4_2
    refine SC.joinGen W hT hst hfp ha (fun j v hv => let ⟨u, e⟩ := hv; ⟨_, u, e⟩) (fun s' lt hm hacc => ?_) (by rw [List.length_map]; rw [sizeLine_eq]; omega)
    have hlt' : lt.map (·.1) = ((xs.map S).map quS) := strs_at hacc
    have e1 : (xs.map S).map quS = (xs.map qu).map S := by
      rw [List.map_map, List.map_map]; rfl
    rw [hlt', e1, joined_S]
    refine ⟨joinOk_S _ (by rw [List.length_map]; omega), fun t' k => ?_⟩
    have kp : ∀ b o, b < h'.objs.size → h9.get? b = some o → s'.heap.get? b = some o := fun b o hb e => hm.heap b o (fun hmem => Nat.not_lt.mpr (hwr b hmem) hb) e
    have hG2 : AllBare s'.gens := hG'.movedS hm
    obtain ⟨h10, gs10, dr10, tk10, os10⟩ := s'
    obtain rfl : dr10 = s.drawn := hm.drawn
    obtain rfl : os10 = s.os := hm.os
    have F10 : Fr g' L' h10 _ := ⟨F9.ns.at fun o e => kp L' o lowF e, fun b o e => kp b o (lowK b o e) (F9.keep b o e), F9.above⟩
    have N10 : News g' L' h10 ((l, listOf vs.toArray c) :: (814, tabO ps') :: rest) := fun q hq => by
      refine ⟨kp _ _ ?_ (N9 q hq).1, (N9 q hq).2⟩
      rcases List.mem_cons.mp hq with rfl | hq
      · exact lowN _ (.head _)
      · rcases List.mem_cons.mp hq with rfl | hq
        · exact lowN (814, tabO ps) (.tail _ (.head _))
        · exact lowN _ (.tail _ (.tail _ hq))
    exact leaveK_ F10 N10 fun F11 N11 => hret _ _ _ _ _ hG2 F11 N11 ⟨t', ps', rfl, hps', rfl⟩
end
section
section
open PyProof.Rows.LCg
variable {prog : Program} {w : World} {A : Around} {E : Value → Shared → Prop} {s : Shared} {h₀ : Heap} {L : Addr} {m : Str → Option Value} {env : Env}
/-- between the turns of a comprehension whose element may grow the table of generators -/
inductive CgAt (h₀ : Heap) (L : Addr) (m : Str → Option Value) (s : Shared) (ax I C D : Addr) (vs : List Value) (J : Nat → List Value → Array GenState → List (Addr × Obj) → Prop) : Nat → Shared → Prop
  | mk (h' : Heap) (tk : Tok) (gs : Array GenState) (i : Nat) (ys : List Value) (m' : Str → Option Value) (nw : List (Addr × Obj)) (oI : Obj) (hi : i ≤ vs.length) (hy : ys.length = i) (hit : h'.IsListIter I ax i) (hoI : h'.get? I = some oI) (F : Fr h₀ L h' m) (hn : h'.Ns C m') (N : News h₀ L h' ((D, lst ys) :: nw)) (off : Off3 I C D nw) (hJ : J i ys gs nw) :
    CgAt h₀ L m s ax I C D vs J (vs.length + 1 - i) { s with heap := h', toks := tk, gens := gs }
/-- its end -/
inductive CgFin (h₀ : Heap) (L : Addr) (m : Str → Option Value) (s : Shared) (J : List Value → Array GenState → List (Addr × Obj) → Prop) : Value → Shared → Prop
  | mk (D : Addr) (h : Heap) (tk : Tok) (gs : Array GenState) (ys : List Value) (nw : List (Addr × Obj)) (F : Fr h₀ L h m) (N : News h₀ L h ((D, lst ys) :: nw)) (off : Off1 D nw) (hJ : J ys gs nw) : CgFin h₀ L m s J (.ref D) { s with heap := h, toks := tk, gens := gs }
theorem cg_push {s : Shared} (F : Fr h₀ L s.heap m) (N : News h₀ L s.heap news) {H H2 : Heap} {oI oD : Obj} (hH : s.heap.push oI = H) (hH2 : H.push oD = H2) : Fr h₀ L H m ∧ News h₀ L H news ∧ L < H.objs.size ∧ L < H2.objs.size ∧ h₀.get? s.heap.objs.size = none ∧ h₀.get? H.objs.size = none ∧ h₀.get? H2.objs.size = none ∧ L ≠ s.heap.objs.size ∧
    H.objs.size ≠ H2.objs.size ∧ s.heap.objs.size ≠ H2.objs.size ∧ s.heap.objs.size ≠ H.objs.size ∧ Off3 s.heap.objs.size H2.objs.size H.objs.size news := by
  subst hH hH2
  have e1 : (s.heap.push oI).objs.size = s.heap.objs.size + 1 := Heap.size_push _ _
  have e2 : ((s.heap.push oI).push oD).objs.size = s.heap.objs.size + 1 + 1 := (Heap.size_push _ _).trans (by rw [e1])
  have F1 : Fr h₀ L (s.heap.push oI) m := F.push _
  have hL : L < s.heap.objs.size := F.ns.lt
  have no : ∀ n, s.heap.objs.size ≤ n → h₀.get? n = none := fun n hn => by
    cases e : h₀.get? n with
    | none => rfl
    | some o => exact absurd (Heap.lt_size (F.keep _ o e)) (Nat.not_lt.mpr hn)
  have hs : s.heap.objs.size < s.heap.objs.size + 1 := Nat.lt_succ_self _
  have hs2 : s.heap.objs.size < s.heap.objs.size + 1 + 1 := Nat.lt_succ_of_lt hs
  rw [e2, e1]
  exact ⟨F1, N.grown fun b o e => Heap.get?_push_of_some _ e, Nat.lt_trans hL hs, Nat.lt_trans hL hs2, no _ (Nat.le_refl _), no _ (Nat.le_of_lt hs), no _ (Nat.le_of_lt hs2), Nat.ne_of_lt hL, Nat.ne_of_lt (Nat.lt_succ_self _), Nat.ne_of_lt hs2, Nat.ne_of_lt hs,
    Off3.of fun q hq => have hq' := Heap.lt_size (N q hq).1; ⟨Nat.ne_of_lt hq', Nat.ne_of_lt (Nat.lt_trans hq' hs2), Nat.ne_of_lt (Nat.lt_trans hq' hs)⟩⟩
/-- a comprehension over a list of the ledger whose element may grow the table of generators -/
theorem CompG {elt iter : Expr} {x : Str} {px : Pos} {scope : Scope} {cl : List (Str × Addr)} {pos : Pos} {Q : Value → Shared → Prop} {ax : Addr} {vs : List Value} {c : Nat} {news : List (Addr × Obj)} (J : Nat → List Value → Array GenState → List (Addr × Obj) → Prop)
    (hh : A.handled = none) (F : Fr h₀ L s.heap m) (N : News h₀ L s.heap news) (hlen : vs.length ≤ 1000) (h0 : J 0 [] s.gens news) (hsrc : ∀ i ys gs nw, J i ys gs nw → (ax, listOf vs.toArray c) ∈ nw)
    (hclos : closureFor scope env = pure cl) (hcell : ∀ y ∈ scope.names, y.2 ≠ .cell) (hkind : scope.kind = .function) (hnames : ∀ y ∈ scope.names, y.2 = .local → scope.names.lookup y.1 = some .local) (hx : scope.names.lookup x = some .local)
    (hi : ∀ Q' : Value → Shared → Prop, (∀ tk', Q' (.ref ax) { s with toks := tk' }) → wpAny (model prog w) A (eval iter env) Q' E s)
    (step : ∀ i v ys gs nw I oI C oC D m₂ h tk (E' QQ : Value → Shared → Prop), i < vs.length → vs[i]? = some v → J i ys gs nw → NsObj oC m₂ → m₂ x = some v → Fr h₀ L h m → News h₀ L h ((I, oI) :: (C, oC) :: (D, lst ys) :: nw) → Off3 I C D nw → ((@Ne Nat I C) ∧ (@Ne Nat I D) ∧ (@Ne Nat C D)) →
      (∀ y h' tk' gs' nw', Fr h₀ L h' m → News h₀ L h' ((I, oI) :: (C, oC) :: (D, lst ys) :: nw') → Off3 I C D nw' → J (i + 1) (ys ++ [y]) gs' nw' → QQ y { s with heap := h', toks := tk', gens := gs' }) →
      wpAny (model prog w) A (eval elt (compEnvC scope cl C env)) QQ E' { s with heap := h, toks := tk, gens := gs })
    (fin : ∀ D h tk gs ys nw, Fr h₀ L h m → News h₀ L h ((D, lst ys) :: nw) → Off1 D nw → J vs.length ys gs nw → Q (.ref D) { s with heap := h, toks := tk, gens := gs })
    (hs : ∀ x, foldedSetIterable iter env x = pure x := by intro _; rfl) :
    wpAny (model prog w) A (eval (.ListComp elt [⟨.Name x px, iter, [], 0⟩] scope pos) env) Q E s := by
  rw [eval_ListComp]
  refine wpAny_comprehension_free (use := none) rfl hs hclos hkind hnames (hi _ fun tk1 => ?_)
  have hl : s.heap.IsList ax vs.toArray := ⟨_, (N _ (hsrc _ _ _ _ h0)).1, rfl, c, rfl⟩
  have hlt : ax < s.heap.objs.size := Heap.lt_size (N _ (hsrc _ _ _ _ h0)).1
  refine wpAny_pyIter_list (s := { s with toks := tk1 }) hl ?_
  have hI := Heap.get?_push_size s.heap (o := { cls := .type "list_iterator", data := .fields #[.ref ax, .int 0 0] }) rfl
  have W := Walks.list (prog := prog) (w := w) hh s.heap.objs.size ax (Nat.ne_of_lt hlt) vs.toArray
  generalize hH : s.heap.push { cls := .type "list_iterator", data := .fields #[.ref ax, .int 0 0] } = H at hI
  -- the list and the block's frame
  refine wpAny_newObj_type (wpAny_newFunctionEnv hcell (by intro y hy; simp at hy) (fun h₁ hns₁ hsb₁ => ?_) hkind)
  dsimp only at hns₁ hsb₁ ⊢
  have hD := Heap.get?_push_size H (o := { cls := .type "list", dict := none, data := .seq ([] : List Value).toArray }) rfl
  have up : ∀ b o, H.get? b = some o → (H.push { cls := .type "list", dict := none, data := .seq ([] : List Value).toArray }).get? b = some o := fun b o e => Heap.get?_push_of_some _ e
  generalize hH2 : H.push { cls := .type "list", dict := none, data := .seq ([] : List Value).toArray } = H2 at hns₁ hsb₁ hD up ⊢
  have lt2 : ∀ b o, H.get? b = some o → b ≠ H2.objs.size := fun b o e => by rw [← hH2, Heap.size_push]; exact Nat.ne_of_lt (Nat.lt_succ_of_lt (Heap.lt_size e))
  have z := cg_push F N hH hH2
  clear hH hH2
  generalize s.heap.objs.size = I at hI W z ⊢
  generalize H.objs.size = D at hD z ⊢
  generalize H2.objs.size = C at hns₁ hsb₁ lt2 z ⊢
  have old : ∀ b o, H.get? b = some o → h₁.get? b = some o := fun b o e => hsb₁.extBut b o (lt2 b o e) (Heap.get?_push_of_some _ (up b o e))
  have zF := z.1
  have zN := z.2.1
  have hLD := Ne.symm (Nat.ne_of_lt z.2.2.1)
  have hLC := Ne.symm (Nat.ne_of_lt z.2.2.2.1)
  have hI0 := z.2.2.2.2.1
  have hD0 := z.2.2.2.2.2.1
  have hC0 := z.2.2.2.2.2.2.1
  have hIL := z.2.2.2.2.2.2.2.1
  have hDC := z.2.2.2.2.2.2.2.2.1
  have hIC := z.2.2.2.2.2.2.2.2.2.1
  have hID := z.2.2.2.2.2.2.2.2.2.2.1
  have off0 := z.2.2.2.2.2.2.2.2.2.2.2
  clear z
  have hacc : h₁.get? D = some (lst []) := hsb₁.extBut _ _ hDC (Heap.get?_push_of_some _ hD)
  have F2 : Fr h₀ L h₁ m := zF.keeps old
  have N2 : News h₀ L h₁ news := zN.grown old
  have hit0 : h₁.IsListIter I ax 0 := ⟨_, old _ _ hI, rfl, rfl⟩
  have loop : ∀ s₃ : Shared, s₃.gens = s.gens → s₃.drawn = s.drawn → s₃.os = s.os → s₃.heap = h₁ →
      codeAny (model prog w) A (.compLoop (.ListComp elt [⟨.Name x px, iter, [], 0⟩] scope pos) 0 (.ref I) (.ref D) (compEnvC scope cl C env)) (compPost (model prog w) A E none Q (.ref D) C) s₃ := by
    rintro ⟨hp, g9, d9, t9, o9⟩ rfl rfl rfl rfl
    refine codeAny_compLoop_tests (CgAt h₀ L m s ax I C D vs J) ?_ (vs.length + 1)
      (.mk _ _ _ 0 [] _ news _ (Nat.zero_le _) rfl hit0 (old _ _ hI) F2 hns₁ (List.forall_mem_cons.mpr ⟨⟨hacc, hLD, hD0⟩, N2⟩) off0 h0)
    intro k s' hs'
    cases hs' with
    | mk h' tk gs i ys m' nw oI hi9 hyl hit hoI F' hn' N' off' hJ =>
      have off3 := off'.mem
      have N1 : News h₀ L h' nw := fun q hq => N' q (.tail _ hq)
      have hls : h'.IsList ax vs.toArray := ⟨_, (N1 _ (hsrc _ _ _ _ hJ)).1, rfl, c, rfl⟩
      have nI : ∀ q ∈ (D, lst ys) :: nw, q.1 ≠ I := List.forall_mem_cons.mpr ⟨Ne.symm hID, fun q hq => (off3 q hq).1⟩
      have nC : ∀ q ∈ (D, lst ys) :: nw, q.1 ≠ C := List.forall_mem_cons.mpr ⟨hDC, fun q hq => (off3 q hq).2.1⟩
      rcases Nat.lt_or_ge i vs.length with hlt9 | hge
      · refine W.item i _ _ _ (by simpa using hlt9) ⟨hit, hls⟩ fun v h₂ tk₂ hPv hst₂ hk₂ => ?_
        refine wpAny_assign_Name (wpAny_storeName_local (lookup_relabel_local hx) (hn'.at' fun o e => hk₂ _ o (by simpa using Ne.symm hIC) e) (fun h₃ hn₃ hs₃ => ?_) (by simp [compEnvC, relabel, hkind]))
        refine wpAny_tests_nil ?_
        simp only [if_true]
        refine Exists.elim hst₂.1 fun o2 x2 => Exists.elim (ns_obj hn₃) fun oC xC => ?_
        have hoC := xC.2
        have N₂ : News h₀ L h₂ ((D, lst ys) :: nw) := news_but N' hk₂ nI
        refine step i v ys gs nw _ o2 _ oC _ _ h₃ _ _ _ hlt9 (by simpa using hPv) hJ hoC (by simp) ((fr_but F' hk₂ hIL hI0).change hs₃ hLC hC0)
          (List.forall_mem_cons.mpr ⟨⟨hs₃.extBut _ _ hIC x2.1, Ne.symm hIL, hI0⟩, List.forall_mem_cons.mpr ⟨⟨xC.1, hLC, hC0⟩, fun q hq => ⟨hs₃.extBut _ _ (nC q hq) (N₂ q hq).1, (N₂ q hq).2⟩⟩⟩) off' ⟨hIC, hID, Ne.symm hDC⟩
          fun y h₄ tk₄ gs₄ nw₄ F₄ N₄ off₄ J₄ => ?_
        have zI := (N₄ _ (.head _)).1
        have zC := (N₄ _ (.tail _ (.head _))).1
        have zD := (N₄ _ (.tail _ (.tail _ (.head _)))).1
        have off4 := off₄.mem
        refine append_at (hsz := by show ys.toArray.size ≤ sizeLine; rw [List.size_toArray, hyl, sizeLine_eq]; omega) zD fun h₅ hs₅ hD₅ => ?_
        have zI5 : h₅.get? I = some o2 := hs₅.extBut _ _ hID zI
        exact ⟨vs.length + 1 - (i + 1), by omega, .mk h₅ tk₄ gs₄ (i + 1) (ys ++ [y]) _ nw₄ o2 hlt9 (by rw [List.length_append, List.length_singleton, hyl]) ⟨o2, zI5, x2.2⟩ zI5 (F₄.change hs₅ hLD hD0) ((hoC.ns zC).sameBut hs₅ (Ne.symm hDC))
          (List.forall_mem_cons.mpr ⟨⟨hD₅.trans (congrArg some (lst_snoc ys y)), hLD, hD0⟩, fun q hq => ⟨hs₅.extBut _ _ (off4 q hq).2.2 (N₄ _ (.tail _ (.tail _ (.tail _ hq)))).1, (N₄ _ (.tail _ (.tail _ (.tail _ hq)))).2⟩⟩) off₄ J₄⟩
      · obtain rfl : i = vs.length := Nat.le_antisymm hi9 hge
        refine W.done _ _ _ (by simpa using And.intro hit hls) fun h₂ tk₂ hk₂ => ?_
        have N₂ : News h₀ L h₂ ((D, lst ys) :: nw) := news_but N' hk₂ nI
        exact ⟨m', hn'.at' fun o e => hk₂ _ o (by simpa using Ne.symm hIC) e, fun h'' hs'' => fin _ h'' tk₂ gs ys nw ((fr_but F' hk₂ hIL hI0).change hs'' hLC hC0) (fun q hq => ⟨hs''.extBut _ _ (nC q hq) (N₂ q hq).1, (N₂ q hq).2⟩) off'.one hJ⟩
  have hls1 : h₁.IsList ax vs.toArray := ⟨_, (N2 _ (hsrc _ _ _ _ h0)).1, rfl, c, rfl⟩
  exact codeAny_compStart_list (loop _ rfl rfl rfl rfl) (W.self 0 _ _ _ ⟨hit0, hls1⟩ (loop _ rfl rfl rfl rfl))
/-- the same, with a bound on the tokens' count kept -/
theorem CompGK {elt iter : Expr} {x : Str} {px : Pos} {scope : Scope} {cl : List (Str × Addr)} {pos : Pos} {Q : Value → Shared → Prop} {ax : Addr} {vs : List Value} {c : Nat} {news : List (Addr × Obj)} (kk : Nat) (hkk : kk ≤ s.toks) (J : Nat → List Value → Array GenState → List (Addr × Obj) → Prop)
    (hh : A.handled = none) (F : Fr h₀ L s.heap m) (N : News h₀ L s.heap news) (hlen : vs.length ≤ 1000) (h0 : J 0 [] s.gens news) (hsrc : ∀ i ys gs nw, J i ys gs nw → (ax, listOf vs.toArray c) ∈ nw)
    (hclos : closureFor scope env = pure cl) (hcell : ∀ y ∈ scope.names, y.2 ≠ .cell) (hkind : scope.kind = .function) (hnames : ∀ y ∈ scope.names, y.2 = .local → scope.names.lookup y.1 = some .local) (hx : scope.names.lookup x = some .local)
    (hi : ∀ Q' : Value → Shared → Prop, (∀ tk', Q' (.ref ax) { s with toks := tk' }) → wpAny (model prog w) A (eval iter env) Q' E s)
    (step : ∀ i v ys gs nw I oI C oC D m₂ h tk (E' QQ : Value → Shared → Prop), i < vs.length → vs[i]? = some v → J i ys gs nw → NsObj oC m₂ → m₂ x = some v → Fr h₀ L h m → News h₀ L h ((I, oI) :: (C, oC) :: (D, lst ys) :: nw) → Off3 I C D nw → ((@Ne Nat I C) ∧ (@Ne Nat I D) ∧ (@Ne Nat C D)) →
      (∀ y h' tk' gs' nw', Fr h₀ L h' m → News h₀ L h' ((I, oI) :: (C, oC) :: (D, lst ys) :: nw') → Off3 I C D nw' → J (i + 1) (ys ++ [y]) gs' nw' → QQ y { s with heap := h', toks := tk', gens := gs' }) →
      wpAny (model prog w) A (eval elt (compEnvC scope cl C env)) QQ E' { s with heap := h, toks := tk, gens := gs })
    (fin : ∀ D h tk gs ys nw, kk ≤ tk → Fr h₀ L h m → News h₀ L h ((D, lst ys) :: nw) → Off1 D nw → J vs.length ys gs nw → Q (.ref D) { s with heap := h, toks := tk, gens := gs })
    (hs : ∀ x, foldedSetIterable iter env x = pure x := by intro _; rfl) :
    wpAny (model prog w) A (eval (.ListComp elt [⟨.Name x px, iter, [], 0⟩] scope pos) env) Q E s := by
  refine wpAny_mono (wpAny_toks_of hkk (CompG (Q := CgFin h₀ L m s (J vs.length)) J hh F N hlen h0 hsrc hclos hcell hkind hnames hx hi step (fun D h tk gs ys nw a b d e => .mk D h tk gs ys nw a b d e) hs)) (fun r s' h => ?_) (fun _ _ h => h.2)
  have h1 := h.1
  cases h.2 with
  | mk D h' tk gs ys nw a b d e => exact fin D h' tk gs ys nw h1 a b d e
end
end
section
/-- the law's end: True, with the tables laid aside grown at most -/
theorem law_post {M : Model} {A : Around} {cd : Code} {s s₁ : Shared} {cw : ClaimW} {cl : Str → Option Addr} {mean : ExcName → Option Value} {args : List WData} {tabs : List (Addr × Addr)} (hT : TabsAt tabs s₁.heap) (hr : ∀ x, cw.raises args x = false) (hp : cw.post args (.bool true) args = true)
    (h : codeAny M A cd (fun r s' => r = .ok (.ret (.bool true)) ∧ (∀ b o, (ghostOf s₁.heap tabs).get? b = some o → s'.heap.get? b = some o) ∧ s'.os = s₁.os ∧ AllBare s'.gens ∧ GrownAll tabs s'.heap) s) : codeAny M A cd (GoodWG cw cl mean args s₁) s :=
  codeAny_mono h fun r s' ⟨hres, hk, hos, hg, hgr⟩ => by
    subst hres
    have keep : ∀ b o, b ∉ tabs.map (·.2) → s₁.heap.get? b = some o → s'.heap.get? b = some o := fun b o hb e => hk b o (ghost_ne e hb)
    have grown : ∀ b o, b ∈ tabs.map (·.2) → s₁.heap.get? b = some o → isCodeTable s₁.heap b ∧ o = tabObj #[] ∧ ∃ ps, s'.heap.get? b = some (tabObj ps) := fun b o hb e => by
      obtain ⟨q, hq, rfl⟩ := List.mem_map.mp hb
      have e2 := (hT q hq).2
      rw [e] at e2
      exact ⟨((hT q hq).1.tab (hT q hq).2).isCodeTable, Option.some.inj e2, hgr.get q hq⟩
    refine ⟨.inl ⟨.bool true, .bool true, [], rfl, hr, .bool true, hp, fun _ => ⟨List.nodup_nil, fun _ ha => nomatch ha⟩⟩, ⟨fun b o e => ?_, fun b o e => ?_⟩, hos, hg⟩
    · by_cases hb : b ∈ tabs.map (·.2)
      · obtain ⟨ht, rfl, ps, hP⟩ := grown b o hb e
        exact .inr (.inl ⟨ht, rfl, #[], ps, rfl, by rw [Array.empty_append]; exact hP⟩)
      · exact .inl (keep b o hb e)
    · by_cases hb : b ∈ tabs.map (·.2)
      · obtain ⟨_, _, ps, hP⟩ := grown b o hb e
        exact ⟨_, hP⟩
      · exact ⟨o, keep b o hb e⟩
theorem join_use {w : World} {p : Program} {loose : List Str} {mean : ExcName → Option Value} {mg mb : Str → Option Value} {dp un : Nat} {gd : Option (List Code)} {cn : Str} {cs : Scope} {a : Addr} {ccd : Value} {cl : List (Str × Addr)} {outer : List Env} {A₀ : Around} {base h₀ : Heap} {L l : Addr} {m : Str → Option Value} {s : Shared} {rest : List (Addr × Obj)} {Q E : Value → Shared → Prop} {vs : List Value} {c : Nat} {ps : Array Value} {xs : List (List Nat)}
    (B : Below A₀ base outer h₀) (F : Fr h₀ L s.heap m) (X : (Mine.K w.params).In h₀) (N : News h₀ L s.heap ((l, listOf vs.toArray c) :: (814, tabO ps) :: rest)) (T : Top p loose mean mg mb h₀) (hk : cs.kind = .function) (hdd : dp + 40 < recursionLimit) (hu : un + 300 < cLine) (hG : AllBare s.gens)
    (hg : ∀ x ∈ xs, x ∈ wordL) (hxs : StrsAre vs (xs.map S)) (hps : PsOk jpos ps) (hlen : xs.length ≤ 1000) (hl0 : @Ne Nat l 814) (hr0 : ∀ q ∈ rest, q.1 ≠ 814) (kk : Nat) (hkk : kk ≤ s.toks)
    (ret : ∀ t' ps' h' tk' gs', kk ≤ tk' → AllBare gs' → Fr h₀ L h' m → News h₀ L h' ((l, listOf vs.toArray c) :: (814, tabO ps') :: rest) → PsOk jpos ps' → Q (.str (S (glue (xs.map qu))) t') { s with heap := h', toks := tk', gens := gs' }) :
    wpAny (model PySem.Challenge.pw_il0113_01 w) (ktrTop dp un gd cn cs L a ccd cl outer) (call (.ref 819) [.ref l]) Q E s := by
  have hq : ∀ x ∈ wordL, (qu x).length ≤ 9 := by decide +kernel
  have hsum : ∀ ys : List (List Nat), (∀ x ∈ ys, x ∈ wordL) → ((ys.map qu).map (·.length)).sum ≤ 9 * ys.length := by
    intro ys
    induction ys with
    | nil => intro _; exact Nat.le_refl _
    | cons y ys ih =>
      intro h
      have h1 := hq y (h y (.head _))
      have h2 := ih fun x hx => h x (.tail _ hx)
      simp only [List.map_cons, List.sum_cons, List.length_cons]
      omega
  have hs := hsum xs hg
  refine wpAny_mono (wpAny_toks_of (n := kk) hkk (join_c w l vs c ps rest xs (fun x hx => (words_ok x (hg x hx)).good) hxs hps hlen (by omega) hl0 hr0 p loose mean mg mb dp un gd cn cs a ccd cl outer A₀ base h₀ L m s
    (fun r s' => ∃ t' ps' h' tk' gs', r = .str (S (glue (xs.map qu))) t' ∧ s' = { s with heap := h', toks := tk', gens := gs' } ∧ AllBare gs' ∧ Fr h₀ L h' m ∧ News h₀ L h' ((l, listOf vs.toArray c) :: (814, tabO ps') :: rest) ∧ PsOk jpos ps') E B F X N T hk hdd hu hG ?_)) (fun r s' h => ?_) (fun _ _ h => h.2)
  · rintro r nw h' tk' gs' hG' F' N' ⟨t', ps', rfl, hp, rfl⟩
    exact ⟨t', ps', h', tk', gs', rfl, rfl, hG', F', N', hp⟩
  · obtain ⟨hk9, t', ps', h', tk', gs', rfl, rfl, hG', F', N', hp⟩ := h
    exact ret t' ps' h' tk' gs' hk9 hG' F' N' hp
theorem nameS_word : ∀ x ∈ nameS, x ∈ wordL := by decide
theorem glue_len : ∀ ys : List (List Nat), (glue ys).length ≤ (ys.map (·.length)).sum + ys.length
  | [] => Nat.le_refl _
  | [x] => by simp [glue]
  | x :: y :: r => by
    have ih := glue_len (y :: r)
    show (x ++ 32 :: glue (y :: r)).length ≤ _
    simp only [List.map_cons, List.sum_cons, List.length_cons, List.length_append] at ih ⊢
    omega
theorem line_len (xs : List (List Nat)) (h : ∀ x ∈ xs, x ∈ wordL) : (glue (xs.map qu)).length ≤ 10 * xs.length := by
  have hq : ∀ x ∈ wordL, (qu x).length ≤ 9 := by decide +kernel
  have hsum : ∀ ys : List (List Nat), (∀ x ∈ ys, x ∈ wordL) → ((ys.map qu).map (·.length)).sum ≤ 9 * ys.length := by
    intro ys
    induction ys with
    | nil => intro _; exact Nat.le_refl _
    | cons y ys ih =>
      intro h
      have h1 := hq y (h y (.head _))
      have h2 := ih fun x hx => h x (.tail _ hx)
      simp only [List.map_cons, List.sum_cons, List.length_cons]
      omega
  have h1 := glue_len (xs.map qu)
  have h2 := hsum xs h
  rw [List.length_map] at h1
  omega
theorem tell_use {w : World} {p : Program} {loose : List Str} {mean : ExcName → Option Value} {mg mb : Str → Option Value} {dp un : Nat} {gd : Option (List Code)} {cn : Str} {cs : Scope} {a : Addr} {ccd : Value} {cl : List (Str × Addr)} {outer : List Env} {A₀ : Around} {base h₀ : Heap} {L lr : Addr} {m : Str → Option Value} {s : Shared} {rest : List (Addr × Obj)} {Q E : Value → Shared → Prop} {rvs : List Value} {cr : Nat} {names : List (List Nat)} {ns : List Int} {t : Tok}
    (B : Below A₀ base outer h₀) (F : Fr h₀ L s.heap m) (X : (Mine.K w.params).In h₀) (N : News h₀ L s.heap ((107, tabO #[]) :: rest)) (T : Top p loose mean mg mb h₀) (hk : cs.kind = .function) (hdd : dp + 150 < recursionLimit) (hu : un + 3000 < cLine) (XB : (Mine.K w.params).In base) (TB : Top p loose mean mg mb base) (D : KtsDicts (outer.filterMap (·.frame)) h₀) (hpre : 0 < s.toks)
    (hw : ∀ x ∈ names, x ∈ nameS) (hnn : names.length ≤ 100) (hn0 : names ≠ []) (hns : ns.length ≤ 100) (hlr : (lr, listOf rvs.toArray cr) ∈ rest) (hrvs : StrsAre rvs ((ns.map fun n => glue ((rowOf n).map qu)).map S)) (hr : ∀ r ∈ rest, r.1 ≠ 107)
    (ret : ∀ l tvs c nd ps' h' tk' g', KtsTurn (outer.filterMap (·.frame)) h₀ g' → Fr g' L h' m → News g' L h' ((l, listOf tvs.toArray c) :: (107, tabO ps') :: nd) → (Mine.K w.params).In g' → Top p loose mean mg mb g' → (∀ q ∈ rest, q ∈ nd) → DatAll nd tvs (datOf (toldOf names ns)) → Q (.ref l) { s with heap := h', toks := tk' }) :
    wpAny (model PySem.Challenge.pw_il0113_01 w) (ktrTop dp un gd cn cs L a ccd cl outer) (call (.ref 854) [.str (S (glue (names.map qu))) t, .ref lr]) Q E s := by
  have hwl : ∀ x ∈ names, x ∈ wordL := fun x hx => nameS_word x (hw x hx)
  have hnm : ∀ x ∈ nameS, x.length ≤ 100 := by decide
  have hl0 : 0 < names.length := List.length_pos_iff.mpr hn0
  have hln := line_len names hwl
  refine told_c w (glue (names.map qu)) t lr rvs cr #[] rest names ns (by omega) (runs_glue names hn0 fun x hx => words_ok x (hwl x hx)) hnn hl0 (fun x hx => hnm x (hw x hx)) hns hlr hrvs (.inl rfl) hr p loose mean mg mb dp un gd cn cs a ccd cl outer A₀ base h₀ L m s Q E B F X N T hk hdd hu XB TB D hpre ?_
  rintro r nw h' tk' g' T' F' N' B' X' P' D' ⟨l, tvs, c, nd, ps', rfl, rfl, hsub, hdat⟩
  exact ret l tvs c nd ps' h' tk' g' T' F' N' X' P' hsub hdat
theorem due_use {prog : Program} {w : World} {A : Around} {E : Value → Shared → Prop} {s : Shared} {K : Frag} {dpn unn : Nat} {Pre : Heap → Prop} {f : Value} {args : List Value} {ds : List Dat} {p : Program} {loose : List Str} {mean : ExcName → Option Value} {mg mb : Str → Option Value} {h₀ : Heap} {L : Addr} {m : Str → Option Value} {news : List (Addr × Obj)} {Q : Value → Shared → Prop}
    (F : Fr h₀ L s.heap m) (X : K.In h₀) (N : News h₀ L s.heap news) (T : Top p loose mean mg mb h₀) (hh : A.handled = none) (C : ToldH prog w K dpn unn Pre f args (NewD ds)) (hd : A.depth + dpn < recursionLimit) (hu : A.units + unn < cLine) (hp : Pre s.heap)
    (ret : ∀ l vs c nd h' tk', Fr h₀ L h' m → News h₀ L h' ((l, listOf vs.toArray c) :: (nd ++ news)) → DatAll nd vs ds → Q (.ref l) { s with heap := h', toks := tk' }) : wpAny (model prog w) A (call f args) Q E s := by
  refine C p loose mean mg mb A s Q E (X.keeps F.keep) (T.keeps F.keep) hh hd hu hp ?_
  rintro r h' tk' hk ⟨l, vs, c, nd, rfl, hn, hl, hnd, hD⟩
  have new : ∀ a, s.heap.get? a = none → a ≠ L ∧ h₀.get? a = none := by
    intro a ha
    constructor
    · rintro rfl
      obtain ⟨o, _, _, ho, _⟩ := F.ns
      rw [ha] at ho; cases ho
    · cases e : h₀.get? a with
      | none => rfl
      | some o =>
        have := F.keep _ _ e
        rw [ha] at this; cases this
  refine ret l vs c nd h' tk' (F.keeps hk) (fun q hq => ?_) hD
  rcases List.mem_cons.mp hq with rfl | hq
  · exact ⟨hl, new _ hn⟩
  · rcases List.mem_append.mp hq with hq | hq
    · exact ⟨(hnd q hq).2, new _ (hnd q hq).1⟩
    · exact ⟨hk _ _ (N q hq).1, (N q hq).2⟩
theorem dec_self {α : Type} (x : α) (i : Decidable (x = x)) : @decide (x = x) i = true := @decide_eq_true (x = x) i rfl
theorem strOk_names : ∀ x ∈ nameS, PyData.strOk (S x) = true := by decide +kernel
theorem dat_ok (names : List (List Nat)) (hw : ∀ x ∈ names, x ∈ nameS) (ns : List Int) : ∀ d ∈ datOf (dueOf names ns), kqdOk 8 d = true := by
  intro d hd
  obtain ⟨xs, hxs, rfl⟩ := List.mem_map.mp hd
  obtain ⟨i, _, rfl⟩ := List.mem_map.mp hxs
  show (List.all _ (kqdOk 7)) = true
  rw [List.all_eq_true]
  intro e he
  obtain ⟨x, hx, rfl⟩ := List.mem_map.mp he
  exact strOk_names x (hw x (List.mem_filter.mp hx).1)
local macro_rules | `(tactic| walk_at "execs cons") => `(tactic| (k_here; (refine execs_tok (by assumption) ?kkk ?_; (case kkk => (try dsimp only); first | ((repeat (first | with_reducible assumption | refine Nat.le_succ_of_le ?_)); done) | omega)); intro tk htk))
theorem add_drawn {prog : Program} {w : World} {A : Around} {E : Value → Shared → Prop} {s : Shared} {h₀ : Heap} {L l b : Addr} {m : Str → Option Value} {news : List (Addr × Obj)} {t1 t2 t3 t4 : Tok} {ws : List Value} {cb : Nat} {ks : List Int} {Q : Value → Shared → Prop} (F : Fr h₀ L s.heap m) (N : News h₀ L s.heap news) (hl : (l, listOf #[.int 3 t1, .int 10 t2, .int 8 t3, .int 15 t4] 0) ∈ news) (hb : (b, listOf ws.toArray cb) ∈ news) (hI : IntsAre ws ks) (hz : ws.length ≤ 100)
    (ret : ∀ ld dvs cd h', Fr h₀ L h' m → News h₀ L h' ((ld, listOf dvs.toArray cd) :: news) → (∀ q ∈ news, q.1 < ld) → IntsAre dvs ([3, 10, 8, 15] ++ ks) → Q (.ref ld) { s with heap := h' }) : wpAny (model prog w) A (binaryOp .Add (.ref l) (.ref b)) Q E s :=
  add_lists (vs := [.int 3 t1, .int 10 t2, .int 8 t3, .int 15 t4]) F N (news_list (c := 0) N hl) (news_list N hb) (fun h' F' N' => ret _ _ 0 h' F' N' (fun q hq => Heap.lt_size (N q hq).1) ((IntsAre.cons 3 _ (.cons 10 _ (.cons 8 _ (.cons 15 _ .nil)))).append hI)) (by rw [sizeLine_eq]; simp; omega)
theorem pick4 (vs : List Value) : (slicePick vs.toArray none (some 4) none).toList = vs.take 4 := pick_upto vs 4
theorem ints_take {vs : List Value} {ns : List Int} (h : IntsAre vs ns) : ∀ k, IntsAre (vs.take k) (ns.take k) := by
  induction h with
  | nil => intro k; simpa using IntsAre.nil
  | cons n t _ ih =>
    intro k
    cases k with
    | zero => exact .nil
    | succ k => exact .cons n t (ih k)
theorem slice_4 {prog : Program} {w : World} {A : Around} {E : Value → Shared → Prop} {s : Shared} {h₀ : Heap} {L l : Addr} {m : Str → Option Value} {news : List (Addr × Obj)} {x : Str} {px ps : Pos} {lo hi st : Option PySem.Expr} {vs : List Value} {u : Tok} {Q : Value → Shared → Prop} (F : Fr h₀ L s.heap m) (N : News h₀ L s.heap news) (hl : h₀.IsList l vs.toArray) (hz : vs.toArray.size ≤ sizeLine)
    (h : ∀ D h', Fr h₀ L h' m → News h₀ L h' ((D, listOf (vs.take 4).toArray 0) :: news) → (∀ p ∈ news, p.1 < D) → Q (.ref D) { s with heap := h' })
    (hs : subscripted (.Slice lo hi st ps) false (.ref l) (.ref s.heap.objs.size) = operate [.ref s.heap.objs.size, .ref l] (getItem (.ref l) (.ref s.heap.objs.size))) :
    wpAny (model prog w) A (subscriptTail (.Name x px) (.Slice lo hi st ps) (.ref l) (.ref s.heap.objs.size)) Q E { s with heap := s.heap.push { cls := .type "slice", data := .fields #[.none, .int 4 u, .none] } } :=
  kmk_slice_lit F N (Heap.IsList.at hl fun o e => F.keep _ _ e) .none (.int _ _) (pick4 _) h hs (by intro _; with_unfolding_all rfl) hz
local macro_rules | `(tactic| walk_at "subscriptTail Name Slice ref ref") => `(tactic| (k_here; (with_reducible show wpAny _ _ (subscriptTail _ (PySem.Expr.Slice none _ _ _) (Value.ref _) (Value.ref _)) _ _ _); k_dflt (refine slice_4 (by k_asm) (by k_asm) (by assumption) (by assumption) ?_ (by with_unfolding_all rfl)); intro D' h' F' N' l1; (try k_lt l1); (try k_sweep)))
theorem law_walk : PySem.Challenge.rw_il0113_01.Holds := hd (by
  k_fill
  intro w s₀ s₁ mg mb G Y fa o pm cd doc dV kV ho hdd hcd hD hmg hg args vals as hpre hlay hrd hwl hlo
  have KX := km_in_of Y
  km_tabs Y
  have X := (Ground.X G).1
  have V := (Ground.X G).2
  refine Ground.open G ?_
  intro T B D TE TW
  try (refine guard_noD D (by decide +kernel) ?_; clear D)
  have hT9 : TabsAt [(111, 107), (818, 814)] s₁.heap := List.forall_mem_cons.mpr ⟨⟨codeHd_of_K (c := 111) (P := 107) KX (by kernel_rfl), hT8 107 (by k_mem)⟩, List.forall_mem_cons.mpr ⟨⟨codeHd_of_K (c := 818) (P := 814) KX (by kernel_rfl), hT8 814 (by k_mem)⟩, fun _ h => nomatch h⟩⟩
  clear hmg
  wrow_args hpre hlay hrd hwl hlo
  refine enter_call ?_
  w_top on
  have hpost : ∀ ds : List WData, (PySem.Challenge.rw_il0113_01).row.claim.post ds (.bool true) ds = true := by
    intro ds
    refine postW_of (X := true) (by decide +kernel) ?_ rfl
    show WTm.value _ (.eq .res (.lit (.bool true))) _ = _
    have e : PySem.W.same (WData.bool true) (WData.bool true) = true := by decide +kernel
    simp only [WTm.value, e]
  refine law_post hT9 (fun _ => rfl) (hpost _) ?_
  w_call any ho hdd hcd hD T F
  clear hdd
  kn_ghosts F T
  k_drop
  (all_goals try k_fold)
  have kt : KTok 1 := ⟨⟩
  simp only [List.length_cons, List.length_nil, Nat.zero_add]
  (rename IntsAre _ _ => hI)
  (rename List Int => script)
  (rename List Value => svs)
  (rename ¬ _ < _ => hcond)
  have hsl := ints_len hI
  have hcl9 := cLine_is
  have hs63 : script.length ≤ 63 := by
    (try simp only [] at hcond)
    omega
  have hsz9 : svs.toArray.size ≤ sizeLine := by
    simp
    rw [sizeLine_eq]
    omega
  repeat' (first | ((with_reducible show _ ≤ _ → _); intro htk; (try dsimp only at htk ⊢)) | (k_unfold; (try dsimp only)) | ((fail_if_success (with_reducible show wpAny _ _ (call (Value.ref 832) _) _ _ _)); first | walk1 | (dsimp only; walk1)))
  (with_reducible rename Fr _ _ _ _ => kF)
  (with_reducible rename News _ _ _ _ => kN)
  (rename Frag.In _ _ => kX)
  (rename Top _ _ _ _ _ _ => kT)
  (rename Below _ _ _ _ => kB)
  have h44 : (script.take 4).length ≤ 4 := by rw [List.length_take]; omega
  k_dflt (refine' told_useH kF kX kN kT (hh := ?hhA) (names_c w _ (script.take 4) (by omega)) ?hdA ?huA ⟨svs.take 4, _, (kN _ (.head _)).1, ints_take hI 4⟩ ?retA)
  case hhA => exact rfl
  case hdA => ktr_room
  case huA => ktr_units
  case retA =>
    intro ln nvs cn h2 tk2 F2 N2 ln2 hnv
    clear kF kN
    have a1 : @Ne Nat 107 ln := ln2 (_, _) (.tail _ (.head _))
    have a2 : @Ne Nat 814 ln := ln2 (_, _) (.tail _ (.tail _ (.head _)))
    repeat' (first | ((with_reducible show _ ≤ _ → _); intro htk; (try dsimp only at htk ⊢)) | (k_unfold; (try dsimp only)) | ((fail_if_success (with_reducible show wpAny _ _ (binaryOp _ (Value.ref _) (Value.ref _)) _ _ _)); (fail_if_success (with_reducible show wpAny _ _ (call (Value.ref 819) _) _ _ _)); first | walk1 | (dsimp only; walk1)))
    (with_reducible rename Fr _ _ _ _ => kF)
    (with_reducible rename News _ _ _ _ => kN)
    have hsl4 : (svs.take 4).length ≤ 100 := by rw [List.length_take]; omega
    refine add_drawn kF kN (.tail _ (.head _)) (.head _) (ints_take hI 4) hsl4 fun lw dvs cd h3 F3 N3 lt3 hdv => ?_
    have b1 : @LT.lt Nat _ ln lw := lt3 (_, _) (.tail _ (.tail _ (.head _)))
    have b2 : @LT.lt Nat _ 107 lw := lt3 (_, _) (.tail _ (.tail _ (.tail _ (.tail _ (.head _)))))
    have b3 : @LT.lt Nat _ 814 lw := lt3 (_, _) (.tail _ (.tail _ (.tail _ (.tail _ (.tail _ (.head _))))))
    have N3 : News _ _ h3 [(lw, listOf dvs.toArray cd), (ln, listOf nvs.toArray cn), (107, tabO #[]), (814, tabO #[])] := news_sub N3 (by
      ((repeat (refine List.forall_mem_cons.mpr ⟨(by first | exact .head _ | exact .tail _ (.head _) | exact .tail _ (.tail _ (.head _)) | exact .tail _ (.tail _ (.tail _ (.head _))) | exact .tail _ (.tail _ (.tail _ (.tail _ (.head _)))) | exact .tail _ (.tail _ (.tail _ (.tail _ (.tail _ (.head _))))) | exact .tail _ (.tail _ (.tail _ (.tail _ (.tail _ (.tail _ (.head _)))))) | exact .tail _ (.tail _ (.tail _ (.tail _ (.tail _ (.tail _ (.tail _ (.head _))))))) | exact .tail _ (.tail _ (.tail _ (.tail _ (.tail _ (.tail _ (.tail _ (.tail _ (.head _)))))))) | exact .tail _ (.tail _ (.tail _ (.tail _ (.tail _ (.tail _ (.tail _ (.tail _ (.tail _ (.head _)))))))))), ?_⟩)); first | exact fun _ h => h | exact fun _ h => .tail _ (h) | exact fun _ h => .tail _ (.tail _ (h)) | exact fun _ h => .tail _ (.tail _ (.tail _ (h))) | exact fun _ h => .tail _ (.tail _ (.tail _ (.tail _ (h)))) | exact fun _ h => .tail _ (.tail _ (.tail _ (.tail _ (.tail _ (h))))) | exact fun _ h => .tail _ (.tail _ (.tail _ (.tail _ (.tail _ (.tail _ (h)))))) | exact fun _ h => .tail _ (.tail _ (.tail _ (.tail _ (.tail _ (.tail _ (.tail _ (h))))))) | exact fun _ h => .tail _ (.tail _ (.tail _ (.tail _ (.tail _ (.tail _ (.tail _ (.tail _ (h)))))))) | exact fun _ h => .tail _ (.tail _ (.tail _ (.tail _ (.tail _ (.tail _ (.tail _ (.tail _ (.tail _ (h))))))))) | exact fun _ h => nomatch h))
    clear kF kN
    generalize hns9 : ([3, 10, 8, 15] ++ script.take 4 : List Int) = ns at hdv
    repeat' (first | ((with_reducible show _ ≤ _ → _); intro htk; (try dsimp only at htk ⊢)) | (k_unfold; (try dsimp only)) | ((fail_if_success (with_reducible show wpAny _ _ (call (Value.ref 819) _) _ _ _)); first | walk1 | (dsimp only; walk1)))
    (with_reducible rename Fr _ _ _ _ => kF)
    (with_reducible rename News _ _ _ _ => kN)
    (with_reducible rename 1 ≤ _ => hk1)
    have hnl : (namesOf (script.take 4)).length ≤ 11 := by
      unfold namesOf
      rw [List.length_append, List.length_map]
      have : nameB.length = 7 := rfl
      omega
    k_dflt (refine' join_use (vs := nvs) (c := cn) (xs := namesOf (script.take 4)) (ps := #[]) (rest := [(lw, listOf dvs.toArray cd), (107, tabO #[])]) kB kF kX (news_sub kN ?subJ) kT ?hkJ ?hdJ ?huJ (AllBare.of_eq hg) ?hgJ hnv (.inl rfl) ?lenJ ?hlJ ?hrJ 1 ?kkJ ?retJ)
    case subJ =>
      ((repeat (refine List.forall_mem_cons.mpr ⟨(by first | exact .head _ | exact .tail _ (.head _) | exact .tail _ (.tail _ (.head _)) | exact .tail _ (.tail _ (.tail _ (.head _))) | exact .tail _ (.tail _ (.tail _ (.tail _ (.head _)))) | exact .tail _ (.tail _ (.tail _ (.tail _ (.tail _ (.head _))))) | exact .tail _ (.tail _ (.tail _ (.tail _ (.tail _ (.tail _ (.head _)))))) | exact .tail _ (.tail _ (.tail _ (.tail _ (.tail _ (.tail _ (.tail _ (.head _))))))) | exact .tail _ (.tail _ (.tail _ (.tail _ (.tail _ (.tail _ (.tail _ (.tail _ (.head _)))))))) | exact .tail _ (.tail _ (.tail _ (.tail _ (.tail _ (.tail _ (.tail _ (.tail _ (.tail _ (.head _)))))))))), ?_⟩)); first | exact fun _ h => h | exact fun _ h => .tail _ (h) | exact fun _ h => .tail _ (.tail _ (h)) | exact fun _ h => .tail _ (.tail _ (.tail _ (h))) | exact fun _ h => .tail _ (.tail _ (.tail _ (.tail _ (h)))) | exact fun _ h => .tail _ (.tail _ (.tail _ (.tail _ (.tail _ (h))))) | exact fun _ h => .tail _ (.tail _ (.tail _ (.tail _ (.tail _ (.tail _ (h)))))) | exact fun _ h => .tail _ (.tail _ (.tail _ (.tail _ (.tail _ (.tail _ (.tail _ (h))))))) | exact fun _ h => .tail _ (.tail _ (.tail _ (.tail _ (.tail _ (.tail _ (.tail _ (.tail _ (h)))))))) | exact fun _ h => .tail _ (.tail _ (.tail _ (.tail _ (.tail _ (.tail _ (.tail _ (.tail _ (.tail _ (h))))))))) | exact fun _ h => nomatch h)
    case hkJ => exact rfl
    case hdJ => ktr_room
    case huJ => ktr_units
    case hgJ => exact fun x hx => nameS_word x (names_in _ x hx)
    case lenJ => omega
    case hlJ => exact Ne.symm a2
    case hrJ => exact List.forall_mem_cons.mpr ⟨Nat.ne_of_gt b3, List.forall_mem_cons.mpr ⟨by decide, fun _ h => nomatch h⟩⟩
    case kkJ => (try dsimp only); omega
    case retJ =>
      intro tJ psJ hJ tkJ gsJ kkJ GJ FJ NJ hpJ
      clear kF kN
      repeat' (first | ((with_reducible show _ ≤ _ → _); intro htk; (try dsimp only at htk ⊢)) | (k_unfold; (try dsimp only)) | ((fail_if_success (with_reducible show wpAny _ _ (eval (Expr.ListComp _ _ _ _) _) _ _ _)); (fail_if_success (with_reducible show wpAny _ _ (call (Value.ref 819) _) _ _ _)); first | walk1 | (dsimp only; walk1)))
      (with_reducible rename Fr _ _ _ _ => kF)
      (with_reducible rename News _ _ _ _ => kN)
      have hnsl : ns.length ≤ 8 := by
        rw [← hns9, List.length_append]
        have : ([3, 10, 8, 15] : List Int).length = 4 := rfl
        omega
      have hdl := ints_len hdv
      refine CompGK (ax := lw) (vs := dvs) (c := cd) (news := [(814, tabO psJ), (lw, listOf dvs.toArray cd), (ln, listOf nvs.toArray cn), (107, tabO #[])]) 1 (by (try dsimp only); omega)
        (fun i ys gs nw => ∃ ps', AllBare gs ∧ PsOk jpos ps' ∧ nw = [(814, tabO ps'), (lw, listOf dvs.toArray cd), (ln, listOf nvs.toArray cn), (107, tabO #[])] ∧ StrsAre ys (((ns.take i).map fun n => glue ((rowOf n).map qu)).map S))
        rfl kF (news_sub kN ?subK) (by omega) ⟨psJ, GJ, hpJ, rfl, .nil⟩ ?srcK (by with_unfolding_all rfl) (by decide) (by rfl) (by decide) (by rfl) ?hiK ?stepK ?finK
      case subK =>
        ((repeat (refine List.forall_mem_cons.mpr ⟨(by first | exact .head _ | exact .tail _ (.head _) | exact .tail _ (.tail _ (.head _)) | exact .tail _ (.tail _ (.tail _ (.head _))) | exact .tail _ (.tail _ (.tail _ (.tail _ (.head _)))) | exact .tail _ (.tail _ (.tail _ (.tail _ (.tail _ (.head _))))) | exact .tail _ (.tail _ (.tail _ (.tail _ (.tail _ (.tail _ (.head _)))))) | exact .tail _ (.tail _ (.tail _ (.tail _ (.tail _ (.tail _ (.tail _ (.head _))))))) | exact .tail _ (.tail _ (.tail _ (.tail _ (.tail _ (.tail _ (.tail _ (.tail _ (.head _)))))))) | exact .tail _ (.tail _ (.tail _ (.tail _ (.tail _ (.tail _ (.tail _ (.tail _ (.tail _ (.head _)))))))))), ?_⟩)); first | exact fun _ h => h | exact fun _ h => .tail _ (h) | exact fun _ h => .tail _ (.tail _ (h)) | exact fun _ h => .tail _ (.tail _ (.tail _ (h))) | exact fun _ h => .tail _ (.tail _ (.tail _ (.tail _ (h)))) | exact fun _ h => .tail _ (.tail _ (.tail _ (.tail _ (.tail _ (h))))) | exact fun _ h => .tail _ (.tail _ (.tail _ (.tail _ (.tail _ (.tail _ (h)))))) | exact fun _ h => .tail _ (.tail _ (.tail _ (.tail _ (.tail _ (.tail _ (.tail _ (h))))))) | exact fun _ h => .tail _ (.tail _ (.tail _ (.tail _ (.tail _ (.tail _ (.tail _ (.tail _ (h)))))))) | exact fun _ h => .tail _ (.tail _ (.tail _ (.tail _ (.tail _ (.tail _ (.tail _ (.tail _ (.tail _ (h))))))))) | exact fun _ h => nomatch h)
      case srcK =>
        rintro i ys gs nw ⟨ps', _, _, rfl, _⟩
        exact .tail _ (.head _)
      case hiK =>
        intro Q' hq
        exact ld kF rfl (hq _)
      case stepK =>
        rintro k v ys gs nw I9 oI9 C oC D9 mm h tk E' QC hk hv ⟨psK, GK, hpK, rfl, hys⟩ hC hx F N offk ne hQC
        clear kF kN
        obtain ⟨n, t9, rfl, hgn⟩ := hdv.at k v hv
        repeat' (first | ((with_reducible show _ ≤ _ → _); intro htk; (try dsimp only at htk ⊢)) | (k_unfold; (try dsimp only)) | ((fail_if_success (with_reducible show wpAny _ _ (call (Value.ref 839) _) _ _ _)); (fail_if_success (with_reducible show QC _ _)); first | walk1 | (dsimp only; walk1)))
        (with_reducible rename Fr _ _ _ _ => kF2)
        (with_reducible rename News _ _ _ _ => kN2)
        k_dflt (refine' told_useH kF2 kX kN2 kT (hh := ?hhR) (row_c w n t9) ?hdR ?huR trivial ?retR)
        case hhR => exact rfl
        case hdR => ktr_room
        case huR => ktr_units
        case retR =>
          intro lr rv rc h5 tk5 F5 N5 ne5 hrv
          clear kF2 kN2
          repeat' (first | ((with_reducible show _ ≤ _ → _); intro htk; (try dsimp only at htk ⊢)) | (k_unfold; (try dsimp only)) | ((fail_if_success (with_reducible show wpAny _ _ (call (Value.ref 819) _) _ _ _)); (fail_if_success (with_reducible show QC _ _)); first | walk1 | (dsimp only; walk1)))
          (with_reducible rename Fr _ _ _ _ => kF3)
          (with_reducible rename News _ _ _ _ => kN3)
          have hrw : ∀ x ∈ rowOf n, x ∈ wordL := by
            have h0 : 0 ≤ n.fmod 3 := Int.fmod_nonneg_of_pos _ (by decide)
            have h1 : n.fmod 3 < 3 := Int.fmod_lt_of_pos _ (by decide)
            have h2 : 0 ≤ (n.fdiv 3).fmod 6 := Int.fmod_nonneg_of_pos _ (by decide)
            have h3 : (n.fdiv 3).fmod 6 < 6 := Int.fmod_lt_of_pos _ (by decide)
            obtain ⟨_, b, c⟩ := row_line (n.fmod 3).toNat (by omega) ((n.fdiv 3).fmod 6).toNat (by omega)
            exact List.forall_mem_cons.mpr ⟨b, List.forall_mem_cons.mpr ⟨c, fun _ h => nomatch h⟩⟩
          k_dflt (refine' join_use (vs := rv) (c := rc) (xs := rowOf n) (ps := psK) (rest := [(I9, oI9), (C, oC), (D9, LCg.lst ys), (lw, listOf dvs.toArray cd), (ln, listOf nvs.toArray cn), (107, tabO #[])]) kB kF3 kX (news_sub kN3 ?subR) kT ?hkR ?hdR2 ?huR2 GK hrw hrv hpK (by simp [rowOf]) ?hlR ?hrR 0 (Nat.zero_le _) ?retR2)
          case subR =>
            ((repeat (refine List.forall_mem_cons.mpr ⟨(by first | exact .head _ | exact .tail _ (.head _) | exact .tail _ (.tail _ (.head _)) | exact .tail _ (.tail _ (.tail _ (.head _))) | exact .tail _ (.tail _ (.tail _ (.tail _ (.head _)))) | exact .tail _ (.tail _ (.tail _ (.tail _ (.tail _ (.head _))))) | exact .tail _ (.tail _ (.tail _ (.tail _ (.tail _ (.tail _ (.head _)))))) | exact .tail _ (.tail _ (.tail _ (.tail _ (.tail _ (.tail _ (.tail _ (.head _))))))) | exact .tail _ (.tail _ (.tail _ (.tail _ (.tail _ (.tail _ (.tail _ (.tail _ (.head _)))))))) | exact .tail _ (.tail _ (.tail _ (.tail _ (.tail _ (.tail _ (.tail _ (.tail _ (.tail _ (.head _)))))))))), ?_⟩)); first | exact fun _ h => h | exact fun _ h => .tail _ (h) | exact fun _ h => .tail _ (.tail _ (h)) | exact fun _ h => .tail _ (.tail _ (.tail _ (h))) | exact fun _ h => .tail _ (.tail _ (.tail _ (.tail _ (h)))) | exact fun _ h => .tail _ (.tail _ (.tail _ (.tail _ (.tail _ (h))))) | exact fun _ h => .tail _ (.tail _ (.tail _ (.tail _ (.tail _ (.tail _ (h)))))) | exact fun _ h => .tail _ (.tail _ (.tail _ (.tail _ (.tail _ (.tail _ (.tail _ (h))))))) | exact fun _ h => .tail _ (.tail _ (.tail _ (.tail _ (.tail _ (.tail _ (.tail _ (.tail _ (h)))))))) | exact fun _ h => .tail _ (.tail _ (.tail _ (.tail _ (.tail _ (.tail _ (.tail _ (.tail _ (.tail _ (h))))))))) | exact fun _ h => nomatch h)
          case hkR => exact rfl
          case hdR2 => ktr_room
          case huR2 => ktr_units
          case hlR => exact Ne.symm (ne5 (814, tabO psK) (.tail _ (.tail _ (.tail _ (.head _)))))
          case hrR =>
            exact List.forall_mem_cons.mpr ⟨Ne.symm offk.1.1, List.forall_mem_cons.mpr ⟨Ne.symm offk.1.2.1, List.forall_mem_cons.mpr ⟨Ne.symm offk.1.2.2, List.forall_mem_cons.mpr ⟨Nat.ne_of_gt b3, List.forall_mem_cons.mpr ⟨Ne.symm a2, List.forall_mem_cons.mpr ⟨by decide, fun _ h => nomatch h⟩⟩⟩⟩⟩⟩
          case retR2 =>
            intro t6 ps6 h6 tk6 gs6 _ G6 F6 N6 hp6
            clear kF3 kN3
            repeat' (first | ((with_reducible show _ ≤ _ → _); intro htk; (try dsimp only at htk ⊢)) | (k_unfold; (try dsimp only)) | ((fail_if_success (with_reducible show QC _ _)); first | walk1 | (dsimp only; walk1)))
            refine hQC _ _ _ _ [(814, tabO ps6), (lw, listOf dvs.toArray cd), (ln, listOf nvs.toArray cn), (107, tabO #[])] F6 (news_sub N6 ?_) offk ⟨ps6, G6, hp6, rfl, ?_⟩
            · ((repeat (refine List.forall_mem_cons.mpr ⟨(by first | exact .head _ | exact .tail _ (.head _) | exact .tail _ (.tail _ (.head _)) | exact .tail _ (.tail _ (.tail _ (.head _))) | exact .tail _ (.tail _ (.tail _ (.tail _ (.head _)))) | exact .tail _ (.tail _ (.tail _ (.tail _ (.tail _ (.head _))))) | exact .tail _ (.tail _ (.tail _ (.tail _ (.tail _ (.tail _ (.head _)))))) | exact .tail _ (.tail _ (.tail _ (.tail _ (.tail _ (.tail _ (.tail _ (.head _))))))) | exact .tail _ (.tail _ (.tail _ (.tail _ (.tail _ (.tail _ (.tail _ (.tail _ (.head _)))))))) | exact .tail _ (.tail _ (.tail _ (.tail _ (.tail _ (.tail _ (.tail _ (.tail _ (.tail _ (.head _)))))))))), ?_⟩)); first | exact fun _ h => h | exact fun _ h => .tail _ (h) | exact fun _ h => .tail _ (.tail _ (h)) | exact fun _ h => .tail _ (.tail _ (.tail _ (h))) | exact fun _ h => .tail _ (.tail _ (.tail _ (.tail _ (h)))) | exact fun _ h => .tail _ (.tail _ (.tail _ (.tail _ (.tail _ (h))))) | exact fun _ h => .tail _ (.tail _ (.tail _ (.tail _ (.tail _ (.tail _ (h)))))) | exact fun _ h => .tail _ (.tail _ (.tail _ (.tail _ (.tail _ (.tail _ (.tail _ (h))))))) | exact fun _ h => .tail _ (.tail _ (.tail _ (.tail _ (.tail _ (.tail _ (.tail _ (.tail _ (h)))))))) | exact fun _ h => .tail _ (.tail _ (.tail _ (.tail _ (.tail _ (.tail _ (.tail _ (.tail _ (.tail _ (h))))))))) | exact fun _ h => nomatch h)
            · rw [take_snoc hgn, List.map_append, List.map_append]
              exact strs_snoc hys
      case finK =>
        rintro D9 h9 tk9 gs9 ys nw kk9 F9 N9 off9 ⟨ps', G9, hp9, rfl, hys⟩
        rw [List.take_of_length_le (by omega)] at hys
        clear kF kN
        repeat' (first | ((with_reducible show _ ≤ _ → _); intro htk; (try dsimp only at htk ⊢)) | (k_unfold; (try dsimp only)) | ((fail_if_success (with_reducible show wpAny _ _ (call (Value.ref 854) _) _ _ _)); first | walk1 | (dsimp only; walk1)))
        (with_reducible rename Fr _ _ _ _ => kF)
        (with_reducible rename News _ _ _ _ => kN)
        have z1 : @Ne Nat 107 D9 := off9.2.2.2.1
        k_dflt (refine' tell_use (names := namesOf (script.take 4)) (ns := ns) (rvs := ys) (cr := ys.length) (rest := [(D9, LCg.lst ys), (814, tabO ps'), (lw, listOf dvs.toArray cd), (ln, listOf nvs.toArray cn)]) kB kF kX (news_sub kN ?subT) kT ?hkT ?hdT ?huT kX kT ?DT ?preT (names_in _) ?nnT ?n0T ?nsT (.head _) hys ?hrT ?retT)
        case subT =>
          ((repeat (refine List.forall_mem_cons.mpr ⟨(by first | exact .head _ | exact .tail _ (.head _) | exact .tail _ (.tail _ (.head _)) | exact .tail _ (.tail _ (.tail _ (.head _))) | exact .tail _ (.tail _ (.tail _ (.tail _ (.head _)))) | exact .tail _ (.tail _ (.tail _ (.tail _ (.tail _ (.head _))))) | exact .tail _ (.tail _ (.tail _ (.tail _ (.tail _ (.tail _ (.head _)))))) | exact .tail _ (.tail _ (.tail _ (.tail _ (.tail _ (.tail _ (.tail _ (.head _))))))) | exact .tail _ (.tail _ (.tail _ (.tail _ (.tail _ (.tail _ (.tail _ (.tail _ (.head _)))))))) | exact .tail _ (.tail _ (.tail _ (.tail _ (.tail _ (.tail _ (.tail _ (.tail _ (.tail _ (.head _)))))))))), ?_⟩)); first | exact fun _ h => h | exact fun _ h => .tail _ (h) | exact fun _ h => .tail _ (.tail _ (h)) | exact fun _ h => .tail _ (.tail _ (.tail _ (h))) | exact fun _ h => .tail _ (.tail _ (.tail _ (.tail _ (h)))) | exact fun _ h => .tail _ (.tail _ (.tail _ (.tail _ (.tail _ (h))))) | exact fun _ h => .tail _ (.tail _ (.tail _ (.tail _ (.tail _ (.tail _ (h)))))) | exact fun _ h => .tail _ (.tail _ (.tail _ (.tail _ (.tail _ (.tail _ (.tail _ (h))))))) | exact fun _ h => .tail _ (.tail _ (.tail _ (.tail _ (.tail _ (.tail _ (.tail _ (.tail _ (h)))))))) | exact fun _ h => .tail _ (.tail _ (.tail _ (.tail _ (.tail _ (.tail _ (.tail _ (.tail _ (.tail _ (h))))))))) | exact fun _ h => nomatch h)
        case hkT => exact rfl
        case hdT => ktr_room
        case huT => ktr_units
        case DT => exact fun b hb => nomatch hb
        case preT =>
          (try dsimp only)
          (show @LT.lt Nat _ _ _)
          omega
        case nnT => omega
        case n0T => simp [namesOf, nameB]
        case nsT => omega
        case hrT =>
          exact List.forall_mem_cons.mpr ⟨Ne.symm z1, List.forall_mem_cons.mpr ⟨(show @Ne Nat 814 107 by decide), List.forall_mem_cons.mpr ⟨Nat.ne_of_gt b2, List.forall_mem_cons.mpr ⟨Ne.symm a1, fun _ h => nomatch h⟩⟩⟩⟩
        case retT =>
          intro lt tvs ct nd psT h7 tk7 g7 P7 F7 N7 X7 T7 hsub7 hdat7
          clear kF kN
          repeat' (first | ((with_reducible show _ ≤ _ → _); intro htk; (try dsimp only at htk ⊢)) | (k_unfold; (try dsimp only)) | ((fail_if_success (with_reducible show wpAny _ _ (call (Value.ref 859) _) _ _ _)); (fail_if_success (with_reducible show wpAny _ _ (compareOp _ (Value.ref _) (Value.ref _)) _ _ _)); first | walk1 | (dsimp only; walk1)))
          (with_reducible rename Fr _ _ _ _ => kF)
          (with_reducible rename News _ _ _ _ => kN)
          have hnm9 : ∀ x ∈ namesOf (script.take 4), x.length ≤ 100 := fun x hx => (show ∀ x ∈ nameS, x.length ≤ 100 by decide) x (names_in _ x hx)
          k_dflt (refine' due_use kF X7 kN T7 (hh := ?hhU) (due_c w ln lw (namesOf (script.take 4)) ns ?nnU hnm9 ?nsU) ?hdU ?huU ⟨⟨nvs, cn, (kN (ln, listOf nvs.toArray cn) ?m1U).1, hnv⟩, dvs, cd, (kN (lw, listOf dvs.toArray cd) ?m2U).1, hdv⟩ ?retU)
          case hhU => exact rfl
          case nnU => omega
          case nsU => omega
          case hdU => ktr_room
          case huU => ktr_units
          case m1U => exact .tail _ (.tail _ (hsub7 _ (.tail _ (.tail _ (.tail _ (.head _))))))
          case m2U => exact .tail _ (.tail _ (hsub7 _ (.tail _ (.tail _ (.head _)))))
          case retU =>
            intro l8 vs8 c8 nd8 h8 tk8 F8 N8 hdat8
            clear kF kN
            repeat' (first | ((with_reducible show _ ≤ _ → _); intro htk; (try dsimp only at htk ⊢)) | (k_unfold; (try dsimp only)) | ((fail_if_success (with_reducible show wpAny _ _ (compareOp _ (Value.ref _) (Value.ref _)) _ _ _)); first | walk1 | (dsimp only; walk1)))
            have hok := dat_ok (namesOf (script.take 4)) (names_in _) ns
            refine kqd_eq N8 (List.mem_cons_of_mem _ (List.mem_append_right _ (.head _))) rfl rfl hdat7 (fun q hq => List.mem_cons_of_mem _ (List.mem_append_right _ (.tail _ (.tail _ hq)))) (.head _) rfl rfl hdat8 (fun q hq => List.mem_cons_of_mem _ (List.mem_append_left _ hq)) (by rw [told_due]; exact hok) hok ?huE ?hE
            case huE => ktr_units
            case hE =>
              rw [told_due, dec_self]
              repeat' (first | ((with_reducible show _ ≤ _ → _); intro htk; (try dsimp only at htk ⊢)) | (k_unfold; (try dsimp only)) | ((fail_if_success (with_reducible show And _ _)); first | walk1 | (dsimp only; walk1)))
              refine ⟨rfl, fun b o e => F8.keep b o (P7.other b o e (fun h => nomatch h)), rfl, G9, GrownAt.of N8 (ps := psT) (List.mem_cons_of_mem _ (List.mem_append_right _ (.tail _ (.head _)))), GrownAt.of N8 (ps := ps') (List.mem_cons_of_mem _ (List.mem_append_right _ (.tail _ (.tail _ (hsub7 _ (.tail _ (.head _))))))), trivial⟩)
end
end
end Mine
set_option maxRecDepth 100000 in
theorem PySem.Challenge.cw_il0113_01_holds : PySem.Challenge.rw_il0113_01.Holds :=
  Mine.law_walk
