import PyProof.Rows.All
import Wide.All
import OpenK.AllK
import Wide.FinOn
import Lean
import PySem.Challenge.RW_ij0179_01
open PySem PySem.W PyProof.Rows
open PySem.W.X PySem.W.ZRun
open PySem.Calls
set_option Elab.async false
set_option maxRecDepth 100000
set_option maxHeartbeats 400000
set_option linter.all false
namespace Mine
def tops : List Stmt := PySem.Challenge.pw_ij0179_01.main.body
def nth (l : List Stmt) (n : Nat) : Stmt := match l.drop n with
  | s :: _ => s
  | [] => .Pass ⟨0, 0, 0, 0⟩
def inCls : Stmt → List Stmt
  | .ClassDef _ _ _ b _ _ _ _ _ _ _ => b
  | _ => []
abbrev vi (i : Int) : Value := .int i 0
abbrev vr (a : Addr) : Value := .ref a
abbrev cu (t : Tok) : Value := .str "/claim/cut.py" t
def des (P : Params) (l : List (Str × Tok × Value)) : Array DictEntry := (l.map fun x => ⟨PyData.keyHash P x.1, .str x.1 x.2.1, x.2.2⟩).toArray
def fnO (st : Stmt) (q : Str) (clo : List (Str × Addr)) (df m c ct : Value) : Obj := match st with
  | .FunctionDef n a b _ _ _ sc _ _ _ => ⟨.type "function", none, .func { name := n, qualname := q, params := a, body := .stmts b, scope := sc, globals := 3, closure := clo, defaults := df, kwdefaults := .none, pyModule := m, code := c, closureTuple := ct }, #[]⟩
  | _ => default
/-- what the top leaves, as far as it is used here -/
noncomputable def Kn (P : Params) : Frag := [
  (0, ⟨(.type "dict"), none, (.dict (des P [⟨"__name__", 1, (.str "builtins" 160)⟩, ⟨"__doc__", 2, (.builtin "builtins.__doc__:str#opaque")⟩, ⟨"__package__", 3, (.builtin "builtins.__package__:str#opaque")⟩, ⟨"__loader__", 4, (.builtin "builtins.__loader__:shared#opaque")⟩, ⟨"__spec__", 5, (.builtin "builtins.__spec__#opaque")⟩, ⟨"__build_class__", 6, (.builtin "__build_class__")⟩, ⟨"__import__", 7, (.builtin "__import__")⟩, ⟨"abs", 8, (.builtin "abs")⟩, ⟨"all", 9, (.builtin "all")⟩, ⟨"any", 10, (.builtin "any")⟩, ⟨"ascii", 11, (.builtin "ascii")⟩, ⟨"bin", 12, (.builtin "bin")⟩, ⟨"breakpoint", 13, (.builtin "breakpoint")⟩, ⟨"callable", 14, (.builtin "callable")⟩, ⟨"chr", 15, (.builtin "chr")⟩, ⟨"compile", 16, (.builtin "compile")⟩, ⟨"delattr", 17, (.builtin "delattr")⟩, ⟨"dir", 18, (.builtin "dir")⟩, ⟨"divmod", 19, (.builtin "divmod")⟩, ⟨"eval", 20, (.builtin "eval")⟩, ⟨"exec", 21, (.builtin "exec")⟩, ⟨"format", 22, (.builtin "format")⟩, ⟨"getattr", 23, (.builtin "getattr")⟩, ⟨"globals", 24, (.builtin "globals")⟩, ⟨"hasattr", 25, (.builtin "hasattr")⟩, ⟨"hash", 26, (.builtin "hash")⟩, ⟨"hex", 27, (.builtin "hex")⟩, ⟨"id", 28, (.builtin "id")⟩, ⟨"input", 29, (.builtin "input")⟩, ⟨"isinstance", 30, (.builtin "isinstance")⟩, ⟨"issubclass", 31, (.builtin "issubclass")⟩, ⟨"iter", 32, (.builtin "iter")⟩, ⟨"aiter", 33, (.builtin "aiter")⟩, ⟨"len", 34, (.builtin "len")⟩, ⟨"locals", 35, (.builtin "locals")⟩, ⟨"max", 36, (.builtin "max")⟩, ⟨"min", 37, (.builtin "min")⟩, ⟨"next", 38, (.builtin "next")⟩, ⟨"anext", 39, (.builtin "anext")⟩, ⟨"oct", 40, (.builtin "oct")⟩, ⟨"ord", 41, (.builtin "ord")⟩, ⟨"pow", 42, (.builtin "pow")⟩, ⟨"print", 43, (.builtin "print")⟩, ⟨"repr", 44, (.builtin "repr")⟩, ⟨"round", 45, (.builtin "round")⟩, ⟨"setattr", 46, (.builtin "setattr")⟩, ⟨"sorted", 47, (.builtin "sorted")⟩, ⟨"sum", 48, (.builtin "sum")⟩, ⟨"vars", 49, (.builtin "vars")⟩, ⟨"None", 50, .none⟩, ⟨"Ellipsis", 51, .ellipsis⟩, ⟨"NotImplemented", 52, .notImplemented⟩, ⟨"False", 53, (.bool false)⟩, ⟨"True", 54, (.bool true)⟩, ⟨"bool", 55, (.type "bool")⟩, ⟨"memoryview", 56, (.type "memoryview")⟩, ⟨"bytearray", 57, (.type "bytearray")⟩, ⟨"bytes", 58, (.type "bytes")⟩, ⟨"classmethod", 59, (.type "classmethod")⟩, ⟨"complex", 60, (.type "complex")⟩, ⟨"dict", 61, (.type "dict")⟩, ⟨"enumerate", 62, (.type "enumerate")⟩, ⟨"filter", 63, (.type "filter")⟩, ⟨"float", 64, (.type "float")⟩, ⟨"frozenset", 65, (.type "frozenset")⟩, ⟨"property", 66, (.type "property")⟩, ⟨"int", 67, (.type "int")⟩, ⟨"list", 68, (.type "list")⟩, ⟨"map", 69, (.type "map")⟩, ⟨"object", 70, (.type "object")⟩, ⟨"range", 71, (.type "range")⟩, ⟨"reversed", 72, (.type "reversed")⟩, ⟨"set", 73, (.type "set")⟩, ⟨"slice", 74, (.type "slice")⟩, ⟨"staticmethod", 75, (.type "staticmethod")⟩, ⟨"str", 76, (.type "str")⟩, ⟨"super", 77, (.type "super")⟩, ⟨"tuple", 78, (.type "tuple")⟩, ⟨"type", 79, (.type "type")⟩, ⟨"zip", 80, (.type "zip")⟩, ⟨"__debug__", 81, (.bool true)⟩, ⟨"BaseException", 82, (.type "BaseException")⟩, ⟨"BaseExceptionGroup", 83, (.type "BaseExceptionGroup")⟩, ⟨"Exception", 84, (.type "Exception")⟩, ⟨"GeneratorExit", 85, (.type "GeneratorExit")⟩, ⟨"KeyboardInterrupt", 86, (.type "KeyboardInterrupt")⟩, ⟨"SystemExit", 87, (.type "SystemExit")⟩, ⟨"ArithmeticError", 88, (.type "ArithmeticError")⟩, ⟨"AssertionError", 89, (.type "AssertionError")⟩, ⟨"AttributeError", 90, (.type "AttributeError")⟩, ⟨"BufferError", 91, (.type "BufferError")⟩, ⟨"EOFError", 92, (.type "EOFError")⟩, ⟨"ImportError", 93, (.type "ImportError")⟩, ⟨"LookupError", 94, (.type "LookupError")⟩, ⟨"MemoryError", 95, (.type "MemoryError")⟩, ⟨"NameError", 96, (.type "NameError")⟩, ⟨"OSError", 97, (.type "OSError")⟩, ⟨"ReferenceError", 98, (.type "ReferenceError")⟩, ⟨"RuntimeError", 99, (.type "RuntimeError")⟩, ⟨"StopAsyncIteration", 100, (.type "StopAsyncIteration")⟩, ⟨"StopIteration", 101, (.type "StopIteration")⟩, ⟨"SyntaxError", 102, (.type "SyntaxError")⟩, ⟨"SystemError", 103, (.type "SystemError")⟩, ⟨"TypeError", 104, (.type "TypeError")⟩, ⟨"ValueError", 105, (.type "ValueError")⟩, ⟨"Warning", 106, (.type "Warning")⟩, ⟨"FloatingPointError", 107, (.type "FloatingPointError")⟩, ⟨"OverflowError", 108, (.type "OverflowError")⟩, ⟨"ZeroDivisionError", 109, (.type "ZeroDivisionError")⟩, ⟨"BytesWarning", 110, (.type "BytesWarning")⟩, ⟨"DeprecationWarning", 111, (.type "DeprecationWarning")⟩, ⟨"EncodingWarning", 112, (.type "EncodingWarning")⟩, ⟨"FutureWarning", 113, (.type "FutureWarning")⟩, ⟨"ImportWarning", 114, (.type "ImportWarning")⟩, ⟨"PendingDeprecationWarning", 115, (.type "PendingDeprecationWarning")⟩, ⟨"ResourceWarning", 116, (.type "ResourceWarning")⟩, ⟨"RuntimeWarning", 117, (.type "RuntimeWarning")⟩, ⟨"SyntaxWarning", 118, (.type "SyntaxWarning")⟩, ⟨"UnicodeWarning", 119, (.type "UnicodeWarning")⟩, ⟨"UserWarning", 120, (.type "UserWarning")⟩, ⟨"BlockingIOError", 121, (.type "BlockingIOError")⟩, ⟨"ChildProcessError", 122, (.type "ChildProcessError")⟩, ⟨"ConnectionError", 123, (.type "ConnectionError")⟩, ⟨"FileExistsError", 124, (.type "FileExistsError")⟩, ⟨"FileNotFoundError", 125, (.type "FileNotFoundError")⟩, ⟨"InterruptedError", 126, (.type "InterruptedError")⟩, ⟨"IsADirectoryError", 127, (.type "IsADirectoryError")⟩, ⟨"NotADirectoryError", 128, (.type "NotADirectoryError")⟩, ⟨"PermissionError", 129, (.type "PermissionError")⟩, ⟨"ProcessLookupError", 130, (.type "ProcessLookupError")⟩, ⟨"TimeoutError", 131, (.type "TimeoutError")⟩, ⟨"IndentationError", 132, (.type "IndentationError")⟩, ⟨"_IncompleteInputError", 133, (.type "_IncompleteInputError")⟩, ⟨"IndexError", 134, (.type "IndexError")⟩, ⟨"KeyError", 135, (.type "KeyError")⟩, ⟨"ModuleNotFoundError", 136, (.type "ModuleNotFoundError")⟩, ⟨"NotImplementedError", 137, (.type "NotImplementedError")⟩, ⟨"PythonFinalizationError", 138, (.type "PythonFinalizationError")⟩, ⟨"RecursionError", 139, (.type "RecursionError")⟩, ⟨"UnboundLocalError", 140, (.type "UnboundLocalError")⟩, ⟨"UnicodeError", 141, (.type "UnicodeError")⟩, ⟨"BrokenPipeError", 142, (.type "BrokenPipeError")⟩, ⟨"ConnectionAbortedError", 143, (.type "ConnectionAbortedError")⟩, ⟨"ConnectionRefusedError", 144, (.type "ConnectionRefusedError")⟩, ⟨"ConnectionResetError", 145, (.type "ConnectionResetError")⟩, ⟨"TabError", 146, (.type "TabError")⟩, ⟨"UnicodeDecodeError", 147, (.type "UnicodeDecodeError")⟩, ⟨"UnicodeEncodeError", 148, (.type "UnicodeEncodeError")⟩, ⟨"UnicodeTranslateError", 149, (.type "UnicodeTranslateError")⟩, ⟨"ExceptionGroup", 150, (.type "ExceptionGroup")⟩, ⟨"EnvironmentError", 151, (.type "OSError")⟩, ⟨"IOError", 152, (.type "OSError")⟩, ⟨"open", 153, (.builtin "open")⟩, ⟨"quit", 154, (.builtin "builtins.quit#opaque")⟩, ⟨"exit", 155, (.builtin "builtins.exit#opaque")⟩, ⟨"copyright", 156, (.builtin "builtins.copyright#opaque")⟩, ⟨"credits", 157, (.builtin "builtins.credits#opaque")⟩, ⟨"license", 158, (.builtin "builtins.license#opaque")⟩, ⟨"help", 159, (.builtin "builtins.help#opaque")⟩]) 159), #[]⟩),
  (1, ⟨(.type "dict"), none, (.dict (des P [⟨"builtins", 162, (vr 4)⟩, ⟨"__main__", 163, (vr 5)⟩, ⟨"_sre", 244, (vr 12)⟩]) 3), #[]⟩),
  (2, ⟨.none, none, (.dict (des P [⟨"\x69mport.loaded._sre", 183, (.bool true)⟩, ⟨"class._frozen_importlib.BuiltinImporter", 185, (vr 14)⟩, ⟨"watched.\x69mport", 206, (vr 18)⟩, ⟨"class._frozen_importlib.ModuleSpec", 216, (vr 22)⟩, ⟨"sys.modules.booked-epoch", 245, (vi 3)⟩, ⟨"\x69mport.later-laid._sre", 270, (.bool true)⟩, ⟨"watched.library", 272, (vr 27)⟩, ⟨"watched.library-objects", 0, (.str "\x0c" 0)⟩, ⟨"watched.library-deep._sre", 273, (.str "\x04\x00\x00\x0b\x04\x00\x00\x0b\x04\x00\x00\x03\x04\x00\x00\x0b\x08\x04dict\x02" 0)⟩]) 9), #[]⟩),
  (3, ⟨(.type "dict"), none, (.dict (des P [⟨"__name__", 165, (.str "law_ij0179_01" 581)⟩, ⟨"__doc__", 166, .none⟩, ⟨"__package__", 167, .none⟩, ⟨"__loader__", 168, (.builtin "__main__.__loader__#opaque")⟩, ⟨"__spec__", 169, .none⟩, ⟨"__annotations__", 170, (vr 6)⟩, ⟨"__builtins__", 171, (vr 4)⟩, ⟨"__file__", 173, (cu 172)⟩, ⟨"__cached__", 174, .none⟩, ⟨"_sre", 275, (vr 12)⟩, ⟨"_wall", 288, (vr 38)⟩, ⟨"read_uint1", 298, (vr 45)⟩, ⟨"read_string1", 307, (vr 52)⟩, ⟨"read_bytes1", 316, (vr 59)⟩, ⟨"decode_long", 325, (vr 66)⟩, ⟨"read_long1", 336, (vr 73)⟩, ⟨"_twin_re_1", 366, (vr 78)⟩, ⟨"NL", 368, (.str "\n" 367)⟩, ⟨"EMPTYSTRING", 370, (.str "" 369)⟩, ⟨"_ValueFormatter", 484, (vr 151)⟩, ⟨"_Accumulator", 580, (vr 235)⟩, ⟨"_law_ascii", 589, (vr 246)⟩, ⟨"_law_try", 595, (vr 251)⟩, ⟨"_law_right", 603, (vr 258)⟩, ⟨"_law_value", 609, (vr 263)⟩, ⟨"_law_words", 619, (vr 270)⟩, ⟨"_law_rows", 631, (vr 277)⟩, ⟨"law", 637, (vr 282)⟩]) 28), #[]⟩),
  (4, ⟨(.type "module"), (some 0), .plain, #[]⟩),
  (5, ⟨(.type "module"), (some 3), .plain, #[]⟩),
  (6, ⟨(.type "dict"), none, (.dict (des P []) 0), #[]⟩),
  (9, ⟨(.type "code"), none, (.fields #[(.str "<module>" 176), (.str "<module>" 177), (cu 178), (vi 1), (vi 0), (vi 0), (vi 0), (vi 0), (vr 7), (.bool false), (vi 175), (vr 8), .none, .none, .none, .none, (vi 179), (vi 1), (cu 180)]), #[]⟩),
  (10, ⟨(.type "frame"), none, .plain, #[(some (vr 9)), (some (vr 3)), (some (vr 3)), none, (some (.str "__main__" 164)), none, (some (vr 0))]⟩),
  (11, ⟨(.type "dict"), none, (.dict (des P [⟨"__name__", 247, (.str "_sre" 246)⟩, ⟨"__doc__", 248, .none⟩, ⟨"__package__", 250, (.str "" 249)⟩, ⟨"__loader__", 251, (.builtin "off-the-table:_sre.__loader__:shared#opaque")⟩, ⟨"__spec__", 252, (.builtin "off-the-table:_sre.__spec__:shared#opaque")⟩, ⟨"compile", 253, (.builtin "_sre.compile")⟩, ⟨"template", 254, (.builtin "off-the-table:_sre.template:shared#opaque")⟩, ⟨"getcodesize", 255, (.builtin "off-the-table:_sre.getcodesize:shared#opaque")⟩, ⟨"ascii_iscased", 256, (.builtin "off-the-table:_sre.ascii_iscased:shared#opaque")⟩, ⟨"unicode_iscased", 257, (.builtin "off-the-table:_sre.unicode_iscased:shared#opaque")⟩, ⟨"ascii_tolower", 258, (.builtin "off-the-table:_sre.ascii_tolower:shared#opaque")⟩, ⟨"unicode_tolower", 259, (.builtin "off-the-table:_sre.unicode_tolower:shared#opaque")⟩, ⟨"MAGIC", 261, (.int 20230612 260)⟩, ⟨"CODESIZE", 263, (.int 4 262)⟩, ⟨"MAXREPEAT", 265, (.int 4294967295 264)⟩, ⟨"MAXGROUPS", 267, (.int 1073741823 266)⟩, ⟨"copyright", 269, (.str " SRE 2.2.2 Copyright (c) 1997-2002 by Secret Labs AB " 268)⟩]) 17), #[]⟩),
  (12, ⟨(.type "module"), (some 11), .plain, #[]⟩),
  (13, ⟨(.type "dict"), none, (.dict (des P [⟨"__module__", 189, (.str "_frozen_importlib" 186)⟩, ⟨"__firstlineno__", 190, (.int 971 187)⟩, ⟨"__doc__", 191, (.builtin "_frozen_importlib.BuiltinImporter.__doc__:str#opaque")⟩, ⟨"_ORIGIN", 192, (.str "built-in" 188)⟩, ⟨"find_spec", 193, (.builtin "_frozen_importlib.BuiltinImporter.find_spec#opaque")⟩, ⟨"create_module", 194, (.builtin "_frozen_importlib.BuiltinImporter.create_module#opaque")⟩, ⟨"exec_module", 195, (.builtin "_frozen_importlib.BuiltinImporter.exec_module#opaque")⟩, ⟨"get_code", 196, (.builtin "_frozen_importlib.BuiltinImporter.get_code#opaque")⟩, ⟨"get_source", 197, (.builtin "_frozen_importlib.BuiltinImporter.get_source#opaque")⟩, ⟨"is_package", 198, (.builtin "_frozen_importlib.BuiltinImporter.is_package#opaque")⟩, ⟨"load_module", 199, (.builtin "_frozen_importlib.BuiltinImporter.load_module#opaque")⟩, ⟨"__static_attributes__", 200, (vr 15)⟩, ⟨"__dict__", 202, (vr 16)⟩, ⟨"__weakref__", 204, (vr 17)⟩]) 14), #[]⟩),
  (14, ⟨(.type "type"), none, (.cls { name := "BuiltinImporter", bases := [(.type "object")], mro := [(vr 14), (.type "object")], ns := 13, qualname := "BuiltinImporter", hasDict := true, slotNames := [], subclasses := [], abstract := false, collection := none, hasDel := false }), #[]⟩),
  (37, ⟨(.type "code"), none, (.fields #[(.str "_wall" 282), (.str "_wall" 283), (cu 284), (vi 2), (vi 1), (vi 0), (vi 0), (vi 3), (vr 32), (.bool true), (vi 276), (vr 33), .none, (vr 34), (vr 35), (vr 36), (vi 286), (vi 2), (cu 287)]), #[]⟩),
  (38, fnO (nth tops 1) "_wall" [] .none (.str "__main__" 164) (vr 37) .none),
  (44, ⟨(.type "code"), none, (.fields #[(.str "read_uint1" 291), (.str "read_uint1" 292), (cu 293), (vi 6), (vi 1), (vi 0), (vi 0), (vi 3), (vr 39), (.bool true), (vi 276), (vr 40), .none, (vr 41), (vr 42), (vr 43), (vi 296), (vi 6), (cu 297)]), #[]⟩),
  (45, fnO (nth tops 3) "read_uint1" [] .none (.str "cpy313.pickletools" 289) (vr 44) .none),
  (51, ⟨(.type "code"), none, (.fields #[(.str "read_string1" 299), (.str "read_string1" 300), (cu 301), (vi 11), (vi 1), (vi 0), (vi 0), (vi 3), (vr 46), (.bool true), (vi 276), (vr 47), .none, (vr 48), (vr 49), (vr 50), (vi 305), (vi 11), (cu 306)]), #[]⟩),
  (52, fnO (nth tops 4) "read_string1" [] .none (.str "cpy313.pickletools" 289) (vr 51) .none),
  (58, ⟨(.type "code"), none, (.fields #[(.str "read_bytes1" 308), (.str "read_bytes1" 309), (cu 310), (vi 18), (vi 1), (vi 0), (vi 0), (vi 3), (vr 53), (.bool true), (vi 276), (vr 54), .none, (vr 55), (vr 56), (vr 57), (vi 314), (vi 18), (cu 315)]), #[]⟩),
  (59, fnO (nth tops 5) "read_bytes1" [] .none (.str "cpy313.pickletools" 289) (vr 58) .none),
  (65, ⟨(.type "code"), none, (.fields #[(.str "decode_long" 319), (.str "decode_long" 320), (cu 321), (vi 26), (vi 1), (vi 0), (vi 0), (vi 3), (vr 60), (.bool true), (vi 276), (vr 61), .none, (vr 62), (vr 63), (vr 64), (vi 323), (vi 26), (cu 324)]), #[]⟩),
  (66, fnO (nth tops 7) "decode_long" [] .none (.str "pickle" 317) (vr 65) .none),
  (72, ⟨(.type "code"), none, (.fields #[(.str "read_long1" 328), (.str "read_long1" 329), (cu 330), (vi 29), (vi 1), (vi 0), (vi 0), (vi 3), (vr 67), (.bool true), (vi 276), (vr 68), .none, (vr 69), (vr 70), (vr 71), (vi 334), (vi 29), (cu 335)]), #[]⟩),
  (73, fnO (nth tops 9) "read_long1" [] .none (.str "cpy313.pickletools" 326) (vr 72) .none),
  (77, ⟨(.type "tuple"), none, (.seq #[(vi 14), (vi 4), (vi 0), (vi 1), (vi 4294967295), (vi 17), (vi 0), (vi 24), (vi 11), (vi 1), (vi 4294967295), (vi 13), (vi 6), (vi 16), (vi 32), (vi 16), (vi 9), (vi 0), (vi 1), (vi 17), (vi 1), (vi 1)]), #[]⟩),
  (78, ⟨(.type "re.Pattern"), none, (.fields #[(.str "([ \t]+)" 340), (.int 32 365), (vi 1), .none, .none, (vr 77), (vi 0)]), #[]⟩),
  (91, ⟨(.type "code"), none, (.fields #[(.str "__init__" 383), (.str "_ValueFormatter.__init__" 384), (cu 385), (vi 41), (vi 5), (vi 0), (vi 0), (vi 3), (vr 86), (.bool true), (vi 276), (vr 87), .none, (vr 88), (vr 89), (vr 90), (vi 391), (vi 41), (cu 392)]), #[]⟩),
  (92, fnO (nth (inCls (nth tops 14)) 0) "_ValueFormatter.__init__" [] .none (.str "cpy313.email.header" 337) (vr 91) .none),
  (98, ⟨(.type "code"), none, (.fields #[(.str "_str" 394), (.str "_ValueFormatter._str" 395), (cu 396), (vi 49), (vi 2), (vi 0), (vi 0), (vi 3), (vr 93), (.bool true), (vi 276), (vr 94), .none, (vr 95), (vr 96), (vr 97), (vi 399), (vi 49), (cu 400)]), #[]⟩),
  (99, fnO (nth (inCls (nth tops 14)) 1) "_ValueFormatter._str" [] .none (.str "cpy313.email.header" 337) (vr 98) .none),
  (105, ⟨(.type "code"), none, (.fields #[(.str "__str__" 402), (.str "_ValueFormatter.__str__" 403), (cu 404), (vi 53), (vi 1), (vi 0), (vi 0), (vi 3), (vr 100), (.bool true), (vi 276), (vr 101), .none, (vr 102), (vr 103), (vr 104), (vi 406), (vi 53), (cu 407)]), #[]⟩),
  (106, fnO (nth (inCls (nth tops 14)) 2) "_ValueFormatter.__str__" [] .none (.str "cpy313.email.header" 337) (vr 105) .none),
  (112, ⟨(.type "code"), none, (.fields #[(.str "newline" 409), (.str "_ValueFormatter.newline" 410), (cu 411), (vi 56), (vi 1), (vi 0), (vi 0), (vi 3), (vr 107), (.bool true), (vi 276), (vr 108), .none, (vr 109), (vr 110), (vr 111), (vi 414), (vi 56), (cu 415)]), #[]⟩),
  (113, fnO (nth (inCls (nth tops 14)) 3) "_ValueFormatter.newline" [] .none (.str "cpy313.email.header" 337) (vr 112) .none),
  (119, ⟨(.type "code"), none, (.fields #[(.str "add_transition" 417), (.str "_ValueFormatter.add_transition" 418), (cu 419), (vi 67), (vi 1), (vi 0), (vi 0), (vi 3), (vr 114), (.bool true), (vi 276), (vr 115), .none, (vr 116), (vr 117), (vr 118), (vi 421), (vi 67), (cu 422)]), #[]⟩),
  (120, fnO (nth (inCls (nth tops 14)) 4) "_ValueFormatter.add_transition" [] .none (.str "cpy313.email.header" 337) (vr 119) .none),
  (126, ⟨(.type "code"), none, (.fields #[(.str "feed" 424), (.str "_ValueFormatter.feed" 425), (cu 426), (vi 70), (vi 4), (vi 0), (vi 0), (vi 3), (vr 121), (.bool true), (vi 276), (vr 122), .none, (vr 123), (vr 124), (vr 125), (vi 435), (vi 70), (cu 436)]), #[]⟩),
  (127, fnO (nth (inCls (nth tops 14)) 5) "_ValueFormatter.feed" [] .none (.str "cpy313.email.header" 337) (vr 126) .none),
  (133, ⟨(.type "code"), none, (.fields #[(.str "_maxlengths" 438), (.str "_ValueFormatter._maxlengths" 439), (cu 440), (vi 90), (vi 1), (vi 0), (vi 0), (vi 35), (vr 128), (.bool true), (vi 276), (vr 129), .none, (vr 130), (vr 131), (vr 132), (vi 442), (vi 90), (cu 443)]), #[]⟩),
  (134, fnO (nth (inCls (nth tops 14)) 6) "_ValueFormatter._maxlengths" [] .none (.str "cpy313.email.header" 337) (vr 133) .none),
  (140, ⟨(.type "code"), none, (.fields #[(.str "_ascii_split" 445), (.str "_ValueFormatter._ascii_split" 446), (cu 447), (vi 95), (vi 4), (vi 0), (vi 0), (vi 3), (vr 135), (.bool true), (vi 276), (vr 136), .none, (vr 137), (vr 138), (vr 139), (vi 454), (vi 95), (cu 455)]), #[]⟩),
  (141, fnO (nth (inCls (nth tops 14)) 7) "_ValueFormatter._ascii_split" [] .none (.str "cpy313.email.header" 337) (vr 140) .none),
  (147, ⟨(.type "code"), none, (.fields #[(.str "_append_chunk" 457), (.str "_ValueFormatter._append_chunk" 458), (cu 459), (vi 104), (vi 3), (vi 0), (vi 0), (vi 3), (vr 142), (.bool true), (vi 276), (vr 143), .none, (vr 144), (vr 145), (vr 146), (vi 468), (vi 104), (cu 469)]), #[]⟩),
  (148, fnO (nth (inCls (nth tops 14)) 8) "_ValueFormatter._append_chunk" [] .none (.str "cpy313.email.header" 337) (vr 147) .none),
  (150, ⟨(.type "dict"), none, (.dict (des P [⟨"__module__", 378, (.str "cpy313.email.header" 337)⟩, ⟨"__firstlineno__", 382, (.int 39 381)⟩, ⟨"__init__", 393, (vr 92)⟩, ⟨"_str", 401, (vr 99)⟩, ⟨"__str__", 408, (vr 106)⟩, ⟨"newline", 416, (vr 113)⟩, ⟨"add_transition", 423, (vr 120)⟩, ⟨"feed", 437, (vr 127)⟩, ⟨"_maxlengths", 444, (vr 134)⟩, ⟨"_ascii_split", 456, (vr 141)⟩, ⟨"_append_chunk", 470, (vr 148)⟩, ⟨"__static_attributes__", 477, (vr 149)⟩, ⟨"__dict__", 479, (vr 152)⟩, ⟨"__weakref__", 481, (vr 153)⟩, ⟨"__doc__", 482, .none⟩]) 4), #[]⟩),
  (151, ⟨(.type "type"), none, (.cls { name := "_ValueFormatter", bases := [(.type "object")], mro := [(vr 151), (.type "object")], ns := 150, qualname := "_ValueFormatter", hasDict := true, slotNames := [], subclasses := [], abstract := false, collection := none, hasDel := false }), #[none, none, (some (.str "_ValueFormatter" 371)), (some (.str "_ValueFormatter" 379)), (some (.builtin "object.__new__")), (some (.bool true))]⟩),
  (152, ⟨(.type "getset_descriptor"), none, (.fields #[(.str "__dict__" 478), (vr 151), (.builtin "function.__dict__"), (.builtin "function.__dict__#set")]), #[]⟩),
  (153, ⟨(.type "getset_descriptor"), none, (.fields #[(.str "__weakref__" 480), (vr 151), (.builtin "ExceptionGroup.__weakref__"), .none]), #[]⟩),
  (159, ⟨(.type "cell"), none, (.cell (some (vr 235))), #[]⟩),
  (164, ⟨(.type "tuple"), none, (.seq #[(.int 0 497)]), #[]⟩),
  (171, ⟨(.type "code"), none, (.fields #[(.str "__init__" 498), (.str "_Accumulator.__init__" 499), (cu 500), (vi 132), (vi 2), (vi 0), (vi 0), (vi 3), (vr 166), (.bool true), (vi 276), (vr 167), .none, (vr 168), (vr 169), (vr 170), (vi 504), (vi 132), (cu 505)]), #[]⟩),
  (172, fnO (nth (inCls (nth tops 15)) 0) "_Accumulator.__init__" [("__class__", 159)] (vr 164) (.str "cpy313.email.header" 337) (vr 171) (vr 165)),
  (178, ⟨(.type "code"), none, (.fields #[(.str "push" 507), (.str "_Accumulator.push" 508), (cu 509), (vi 136), (vi 3), (vi 0), (vi 0), (vi 3), (vr 173), (.bool true), (vi 276), (vr 174), .none, (vr 175), (vr 176), (vr 177), (vi 513), (vi 136), (cu 514)]), #[]⟩),
  (179, fnO (nth (inCls (nth tops 15)) 1) "_Accumulator.push" [] .none (.str "cpy313.email.header" 337) (vr 178) .none),
  (180, ⟨(.type "tuple"), none, (.seq #[(.int 0 516)]), #[]⟩),
  (186, ⟨(.type "code"), none, (.fields #[(.str "pop_from" 517), (.str "_Accumulator.pop_from" 518), (cu 519), (vi 139), (vi 2), (vi 0), (vi 0), (vi 3), (vr 181), (.bool true), (vi 276), (vr 182), .none, (vr 183), (vr 184), (vr 185), (vi 523), (vi 139), (cu 524)]), #[]⟩),
  (187, fnO (nth (inCls (nth tops 15)) 2) "_Accumulator.pop_from" [] (vr 180) (.str "cpy313.email.header" 337) (vr 186) .none),
  (194, ⟨(.type "code"), none, (.fields #[(.str "pop" 526), (.str "_Accumulator.pop" 527), (cu 528), (vi 144), (vi 1), (vi 0), (vi 0), (vi 3), (vr 189), (.bool true), (vi 276), (vr 190), .none, (vr 191), (vr 192), (vr 193), (vi 531), (vi 144), (cu 532)]), #[]⟩),
  (195, fnO (nth (inCls (nth tops 15)) 3) "_Accumulator.pop" [("__class__", 159)] .none (.str "cpy313.email.header" 337) (vr 194) (vr 188)),
  (201, ⟨(.type "code"), none, (.fields #[(.str "__len__" 534), (.str "_Accumulator.__len__" 535), (cu 536), (vi 149), (vi 1), (vi 0), (vi 0), (vi 3), (vr 196), (.bool true), (vi 276), (vr 197), .none, (vr 198), (vr 199), (vr 200), (vi 538), (vi 149), (cu 539)]), #[]⟩),
  (202, fnO (nth (inCls (nth tops 15)) 4) "_Accumulator.__len__" [] .none (.str "cpy313.email.header" 337) (vr 201) .none),
  (208, ⟨(.type "code"), none, (.fields #[(.str "__str__" 541), (.str "_Accumulator.__str__" 542), (cu 543), (vi 152), (vi 1), (vi 0), (vi 0), (vi 3), (vr 203), (.bool true), (vi 276), (vr 204), .none, (vr 205), (vr 206), (vr 207), (vi 545), (vi 152), (cu 546)]), #[]⟩),
  (209, fnO (nth (inCls (nth tops 15)) 5) "_Accumulator.__str__" [] .none (.str "cpy313.email.header" 337) (vr 208) .none),
  (210, ⟨(.type "tuple"), none, (.seq #[.none]), #[]⟩),
  (216, ⟨(.type "code"), none, (.fields #[(.str "reset" 548), (.str "_Accumulator.reset" 549), (cu 550), (vi 155), (vi 2), (vi 0), (vi 0), (vi 3), (vr 211), (.bool true), (vi 276), (vr 212), .none, (vr 213), (vr 214), (vr 215), (vi 553), (vi 155), (cu 554)]), #[]⟩),
  (217, fnO (nth (inCls (nth tops 15)) 6) "_Accumulator.reset" [] (vr 210) (.str "cpy313.email.header" 337) (vr 216) .none),
  (223, ⟨(.type "code"), none, (.fields #[(.str "is_onlyws" 556), (.str "_Accumulator.is_onlyws" 557), (cu 558), (vi 161), (vi 1), (vi 0), (vi 0), (vi 3), (vr 218), (.bool true), (vi 276), (vr 219), .none, (vr 220), (vr 221), (vr 222), (vi 560), (vi 161), (cu 561)]), #[]⟩),
  (224, fnO (nth (inCls (nth tops 15)) 7) "_Accumulator.is_onlyws" [] .none (.str "cpy313.email.header" 337) (vr 223) .none),
  (231, ⟨(.type "code"), none, (.fields #[(.str "part_count" 563), (.str "_Accumulator.part_count" 564), (cu 565), (vi 164), (vi 1), (vi 0), (vi 0), (vi 3), (vr 226), (.bool true), (vi 276), (vr 227), .none, (vr 228), (vr 229), (vr 230), (vi 568), (vi 164), (cu 569)]), #[]⟩),
  (232, fnO (nth (inCls (nth tops 15)) 8) "_Accumulator.part_count" [("__class__", 159)] .none (.str "cpy313.email.header" 337) (vr 231) (vr 225)),
  (234, ⟨(.type "dict"), none, (.dict (des P [⟨"__module__", 492, (.str "cpy313.email.header" 337)⟩, ⟨"__firstlineno__", 496, (.int 130 495)⟩, ⟨"__init__", 506, (vr 172)⟩, ⟨"push", 515, (vr 179)⟩, ⟨"pop_from", 525, (vr 187)⟩, ⟨"pop", 533, (vr 195)⟩, ⟨"__len__", 540, (vr 202)⟩, ⟨"__str__", 547, (vr 209)⟩, ⟨"reset", 555, (vr 217)⟩, ⟨"is_onlyws", 562, (vr 224)⟩, ⟨"part_count", 570, (vr 232)⟩, ⟨"__static_attributes__", 572, (vr 233)⟩, ⟨"__dict__", 575, (vr 236)⟩, ⟨"__weakref__", 577, (vr 237)⟩, ⟨"__doc__", 578, .none⟩]) 5), #[]⟩),
  (235, ⟨(.type "type"), none, (.cls { name := "_Accumulator", bases := [(.type "list")], mro := [(vr 235), (.type "list"), (.type "object")], ns := 234, qualname := "_Accumulator", hasDict := true, slotNames := [], subclasses := [], abstract := false, collection := none, hasDel := false }), #[(some (vr 156)), none, (some (.str "_Accumulator" 485)), (some (.str "_Accumulator" 493)), (some (.builtin "list.__new__")), (some (.bool true))]⟩),
  (236, ⟨(.type "getset_descriptor"), none, (.fields #[(.str "__dict__" 574), (vr 235), (.builtin "function.__dict__"), (.builtin "function.__dict__#set")]), #[]⟩),
  (237, ⟨(.type "getset_descriptor"), none, (.fields #[(.str "__weakref__" 576), (vr 235), (.builtin "ExceptionGroup.__weakref__"), .none]), #[]⟩),
  (245, ⟨(.type "code"), none, (.fields #[(.str "_law_ascii" 583), (.str "_law_ascii" 584), (cu 585), (vi 167), (vi 0), (vi 0), (vi 0), (vi 3), (vr 240), (.bool true), (vi 276), (vr 241), .none, (vr 242), (vr 243), (vr 244), (vi 587), (vi 167), (cu 588)]), #[]⟩),
  (246, fnO (nth tops 17) "_law_ascii" [] .none (.str "law_ij0179_01" 581) (vr 245) .none),
  (250, ⟨(.type "code"), none, (.fields #[(.str "_law_try" 590), (.str "_law_try" 591), (cu 592), (vi 171), (vi 2), (vi 0), (vi 0), (vi 3), (vr 247), (.bool true), (vi 276), (vr 248), .none, .none, .none, (vr 249), (vi 593), (vi 171), (cu 594)]), #[]⟩),
  (251, fnO (nth tops 18) "_law_try" [] .none (.str "law_ij0179_01" 581) (vr 250) .none),
  (257, ⟨(.type "code"), none, (.fields #[(.str "_law_right" 596), (.str "_law_right" 597), (cu 598), (vi 190), (vi 2), (vi 0), (vi 0), (vi 3), (vr 252), (.bool true), (vi 276), (vr 253), .none, (vr 254), (vr 255), (vr 256), (vi 601), (vi 190), (cu 602)]), #[]⟩),
  (258, fnO (nth tops 19) "_law_right" [] .none (.str "law_ij0179_01" 581) (vr 257) .none),
  (262, ⟨(.type "code"), none, (.fields #[(.str "_law_value" 604), (.str "_law_value" 605), (cu 606), (vi 194), (vi 2), (vi 0), (vi 0), (vi 3), (vr 259), (.bool true), (vi 276), (vr 260), .none, .none, .none, (vr 261), (vi 607), (vi 194), (cu 608)]), #[]⟩),
  (263, fnO (nth tops 20) "_law_value" [] .none (.str "law_ij0179_01" 581) (vr 262) .none),
  (269, ⟨(.type "code"), none, (.fields #[(.str "_law_words" 610), (.str "_law_words" 611), (cu 612), (vi 207), (vi 3), (vi 0), (vi 0), (vi 3), (vr 264), (.bool true), (vi 276), (vr 265), .none, (vr 266), (vr 267), (vr 268), (vi 617), (vi 207), (cu 618)]), #[]⟩),
  (270, fnO (nth tops 21) "_law_words" [] .none (.str "law_ij0179_01" 581) (vr 269) .none),
  (276, ⟨(.type "code"), none, (.fields #[(.str "_law_rows" 620), (.str "_law_rows" 621), (cu 622), (vi 214), (vi 3), (vi 0), (vi 0), (vi 3), (vr 271), (.bool true), (vi 276), (vr 272), .none, (vr 273), (vr 274), (vr 275), (vi 629), (vi 214), (cu 630)]), #[]⟩),
  (277, fnO (nth tops 22) "_law_rows" [] .none (.str "law_ij0179_01" 581) (vr 276) .none),
  (281, ⟨(.type "code"), none, (.fields #[(.str "law" 632), (.str "law" 633), (cu 634), (vi 230), (vi 1), (vi 0), (vi 0), (vi 3), (vr 278), (.bool true), (vi 276), (vr 279), .none, .none, .none, (vr 280), (vi 635), (vi 230), (cu 636)]), #[]⟩),
  (282, fnO (nth tops 23) "law" [] .none (.str "law_ij0179_01" 581) (vr 281) .none)]
def tb0 : Obj := ⟨.none, none, .fields #[], #[]⟩
noncomputable def hs (P : Params) : Frag := Kn P ++ [(197, tb0), (204, tb0), (241, tb0), (248, tb0)]
noncomputable def hsA : List Addr := [0, 1, 2, 3, 4, 5, 6, 9, 10, 11, 12, 13, 14, 37, 38, 44, 45, 51, 52, 58, 59, 65, 66, 72, 73, 77, 78, 91, 92, 98, 99, 105, 106, 112, 113, 119, 120, 126, 127, 133, 134, 140, 141, 147, 148, 150, 151, 152, 153, 159, 164, 171, 172, 178, 179, 180, 186, 187, 194, 195, 201, 202, 208, 209, 210, 216, 217, 223, 224, 231, 232, 234, 235, 236, 237, 245, 246, 250, 251, 257, 258, 262, 263, 269, 270, 276, 277, 281, 282, 197, 204, 241, 248]
noncomputable def vw : Program := { PySem.Challenge.pw_ij0179_01 with main := { PySem.Challenge.pw_ij0179_01.main with body := [0, 1, 3, 4, 5, 7, 9, 11, 12, 13, 14, 15, 17, 18, 19, 20, 21, 22, 23].map (nth tops) } }
end Mine
namespace Mine
/-- a def's text, as its code bears it -/
def fnQ (st : Stmt) (q : Str) : Obj := match st with
  | .FunctionDef n a b _ _ _ sc _ _ _ => ⟨.none, none, .func { name := n, qualname := q, params := a, body := .stmts b, scope := sc, globals := 0, closure := [], defaults := .none, kwdefaults := .none }, #[]⟩
  | _ => default
noncomputable def q0 (P : Params) : Obj := ⟨(.type "dict"), none, (.dict (des P [⟨"__name__", 1, (.str "builtins" 160)⟩, ⟨"__doc__", 2, (.builtin "builtins.__doc__:str#opaque")⟩, ⟨"__package__", 3, (.builtin "builtins.__package__:str#opaque")⟩, ⟨"__loader__", 4, (.builtin "builtins.__loader__:shared#opaque")⟩, ⟨"__spec__", 5, (.builtin "builtins.__spec__#opaque")⟩, ⟨"__build_class__", 6, (.builtin "__build_class__")⟩, ⟨"__import__", 7, (.builtin "__import__")⟩, ⟨"abs", 8, (.builtin "abs")⟩, ⟨"all", 9, (.builtin "all")⟩, ⟨"any", 10, (.builtin "any")⟩, ⟨"ascii", 11, (.builtin "ascii")⟩, ⟨"bin", 12, (.builtin "bin")⟩, ⟨"breakpoint", 13, (.builtin "breakpoint")⟩, ⟨"callable", 14, (.builtin "callable")⟩, ⟨"chr", 15, (.builtin "chr")⟩, ⟨"compile", 16, (.builtin "compile")⟩, ⟨"delattr", 17, (.builtin "delattr")⟩, ⟨"dir", 18, (.builtin "dir")⟩, ⟨"divmod", 19, (.builtin "divmod")⟩, ⟨"eval", 20, (.builtin "eval")⟩, ⟨"exec", 21, (.builtin "exec")⟩, ⟨"format", 22, (.builtin "format")⟩, ⟨"getattr", 23, (.builtin "getattr")⟩, ⟨"globals", 24, (.builtin "globals")⟩, ⟨"hasattr", 25, (.builtin "hasattr")⟩, ⟨"hash", 26, (.builtin "hash")⟩, ⟨"hex", 27, (.builtin "hex")⟩, ⟨"id", 28, (.builtin "id")⟩, ⟨"input", 29, (.builtin "input")⟩, ⟨"isinstance", 30, (.builtin "isinstance")⟩, ⟨"issubclass", 31, (.builtin "issubclass")⟩, ⟨"iter", 32, (.builtin "iter")⟩, ⟨"aiter", 33, (.builtin "aiter")⟩, ⟨"len", 34, (.builtin "len")⟩, ⟨"locals", 35, (.builtin "locals")⟩, ⟨"max", 36, (.builtin "max")⟩, ⟨"min", 37, (.builtin "min")⟩, ⟨"next", 38, (.builtin "next")⟩, ⟨"anext", 39, (.builtin "anext")⟩, ⟨"oct", 40, (.builtin "oct")⟩, ⟨"ord", 41, (.builtin "ord")⟩, ⟨"pow", 42, (.builtin "pow")⟩, ⟨"print", 43, (.builtin "print")⟩, ⟨"repr", 44, (.builtin "repr")⟩, ⟨"round", 45, (.builtin "round")⟩, ⟨"setattr", 46, (.builtin "setattr")⟩, ⟨"sorted", 47, (.builtin "sorted")⟩, ⟨"sum", 48, (.builtin "sum")⟩, ⟨"vars", 49, (.builtin "vars")⟩, ⟨"None", 50, .none⟩, ⟨"Ellipsis", 51, .ellipsis⟩, ⟨"NotImplemented", 52, .notImplemented⟩, ⟨"False", 53, (.bool false)⟩, ⟨"True", 54, (.bool true)⟩, ⟨"bool", 55, (.type "bool")⟩, ⟨"memoryview", 56, (.type "memoryview")⟩, ⟨"bytearray", 57, (.type "bytearray")⟩, ⟨"bytes", 58, (.type "bytes")⟩, ⟨"classmethod", 59, (.type "classmethod")⟩, ⟨"complex", 60, (.type "complex")⟩, ⟨"dict", 61, (.type "dict")⟩, ⟨"enumerate", 62, (.type "enumerate")⟩, ⟨"filter", 63, (.type "filter")⟩, ⟨"float", 64, (.type "float")⟩, ⟨"frozenset", 65, (.type "frozenset")⟩, ⟨"property", 66, (.type "property")⟩, ⟨"int", 67, (.type "int")⟩, ⟨"list", 68, (.type "list")⟩, ⟨"map", 69, (.type "map")⟩, ⟨"object", 70, (.type "object")⟩, ⟨"range", 71, (.type "range")⟩, ⟨"reversed", 72, (.type "reversed")⟩, ⟨"set", 73, (.type "set")⟩, ⟨"slice", 74, (.type "slice")⟩, ⟨"staticmethod", 75, (.type "staticmethod")⟩, ⟨"str", 76, (.type "str")⟩, ⟨"super", 77, (.type "super")⟩, ⟨"tuple", 78, (.type "tuple")⟩, ⟨"type", 79, (.type "type")⟩, ⟨"zip", 80, (.type "zip")⟩, ⟨"__debug__", 81, (.bool true)⟩, ⟨"BaseException", 82, (.type "BaseException")⟩, ⟨"BaseExceptionGroup", 83, (.type "BaseExceptionGroup")⟩, ⟨"Exception", 84, (.type "Exception")⟩, ⟨"GeneratorExit", 85, (.type "GeneratorExit")⟩, ⟨"KeyboardInterrupt", 86, (.type "KeyboardInterrupt")⟩, ⟨"SystemExit", 87, (.type "SystemExit")⟩, ⟨"ArithmeticError", 88, (.type "ArithmeticError")⟩, ⟨"AssertionError", 89, (.type "AssertionError")⟩, ⟨"AttributeError", 90, (.type "AttributeError")⟩, ⟨"BufferError", 91, (.type "BufferError")⟩, ⟨"EOFError", 92, (.type "EOFError")⟩, ⟨"ImportError", 93, (.type "ImportError")⟩, ⟨"LookupError", 94, (.type "LookupError")⟩, ⟨"MemoryError", 95, (.type "MemoryError")⟩, ⟨"NameError", 96, (.type "NameError")⟩, ⟨"OSError", 97, (.type "OSError")⟩, ⟨"ReferenceError", 98, (.type "ReferenceError")⟩, ⟨"RuntimeError", 99, (.type "RuntimeError")⟩, ⟨"StopAsyncIteration", 100, (.type "StopAsyncIteration")⟩, ⟨"StopIteration", 101, (.type "StopIteration")⟩, ⟨"SyntaxError", 102, (.type "SyntaxError")⟩, ⟨"SystemError", 103, (.type "SystemError")⟩, ⟨"TypeError", 104, (.type "TypeError")⟩, ⟨"ValueError", 105, (.type "ValueError")⟩, ⟨"Warning", 106, (.type "Warning")⟩, ⟨"FloatingPointError", 107, (.type "FloatingPointError")⟩, ⟨"OverflowError", 108, (.type "OverflowError")⟩, ⟨"ZeroDivisionError", 109, (.type "ZeroDivisionError")⟩, ⟨"BytesWarning", 110, (.type "BytesWarning")⟩, ⟨"DeprecationWarning", 111, (.type "DeprecationWarning")⟩, ⟨"EncodingWarning", 112, (.type "EncodingWarning")⟩, ⟨"FutureWarning", 113, (.type "FutureWarning")⟩, ⟨"ImportWarning", 114, (.type "ImportWarning")⟩, ⟨"PendingDeprecationWarning", 115, (.type "PendingDeprecationWarning")⟩, ⟨"ResourceWarning", 116, (.type "ResourceWarning")⟩, ⟨"RuntimeWarning", 117, (.type "RuntimeWarning")⟩, ⟨"SyntaxWarning", 118, (.type "SyntaxWarning")⟩, ⟨"UnicodeWarning", 119, (.type "UnicodeWarning")⟩, ⟨"UserWarning", 120, (.type "UserWarning")⟩, ⟨"BlockingIOError", 121, (.type "BlockingIOError")⟩, ⟨"ChildProcessError", 122, (.type "ChildProcessError")⟩, ⟨"ConnectionError", 123, (.type "ConnectionError")⟩, ⟨"FileExistsError", 124, (.type "FileExistsError")⟩, ⟨"FileNotFoundError", 125, (.type "FileNotFoundError")⟩, ⟨"InterruptedError", 126, (.type "InterruptedError")⟩, ⟨"IsADirectoryError", 127, (.type "IsADirectoryError")⟩, ⟨"NotADirectoryError", 128, (.type "NotADirectoryError")⟩, ⟨"PermissionError", 129, (.type "PermissionError")⟩, ⟨"ProcessLookupError", 130, (.type "ProcessLookupError")⟩, ⟨"TimeoutError", 131, (.type "TimeoutError")⟩, ⟨"IndentationError", 132, (.type "IndentationError")⟩, ⟨"_IncompleteInputError", 133, (.type "_IncompleteInputError")⟩, ⟨"IndexError", 134, (.type "IndexError")⟩, ⟨"KeyError", 135, (.type "KeyError")⟩, ⟨"ModuleNotFoundError", 136, (.type "ModuleNotFoundError")⟩, ⟨"NotImplementedError", 137, (.type "NotImplementedError")⟩, ⟨"PythonFinalizationError", 138, (.type "PythonFinalizationError")⟩, ⟨"RecursionError", 139, (.type "RecursionError")⟩, ⟨"UnboundLocalError", 140, (.type "UnboundLocalError")⟩, ⟨"UnicodeError", 141, (.type "UnicodeError")⟩, ⟨"BrokenPipeError", 142, (.type "BrokenPipeError")⟩, ⟨"ConnectionAbortedError", 143, (.type "ConnectionAbortedError")⟩, ⟨"ConnectionRefusedError", 144, (.type "ConnectionRefusedError")⟩, ⟨"ConnectionResetError", 145, (.type "ConnectionResetError")⟩, ⟨"TabError", 146, (.type "TabError")⟩, ⟨"UnicodeDecodeError", 147, (.type "UnicodeDecodeError")⟩, ⟨"UnicodeEncodeError", 148, (.type "UnicodeEncodeError")⟩, ⟨"UnicodeTranslateError", 149, (.type "UnicodeTranslateError")⟩, ⟨"ExceptionGroup", 150, (.type "ExceptionGroup")⟩, ⟨"EnvironmentError", 151, (.type "OSError")⟩, ⟨"IOError", 152, (.type "OSError")⟩, ⟨"open", 153, (.builtin "open")⟩, ⟨"quit", 154, (.builtin "builtins.quit#opaque")⟩, ⟨"exit", 155, (.builtin "builtins.exit#opaque")⟩, ⟨"copyright", 156, (.builtin "builtins.copyright#opaque")⟩, ⟨"credits", 157, (.builtin "builtins.credits#opaque")⟩, ⟨"license", 158, (.builtin "builtins.license#opaque")⟩, ⟨"help", 159, (.builtin "builtins.help#opaque")⟩]) 159), #[]⟩
noncomputable def q1 (P : Params) : Obj := ⟨(.type "dict"), none, (.dict (des P [⟨"builtins", 162, (vr 4)⟩, ⟨"__main__", 163, (vr 5)⟩, ⟨"_sre", 244, (vr 12)⟩]) 3), #[]⟩
noncomputable def q2 (P : Params) : Obj := ⟨.none, none, (.dict (des P [⟨"\x69mport.loaded._sre", 183, (.bool true)⟩, ⟨"class._frozen_importlib.BuiltinImporter", 185, (vr 14)⟩, ⟨"watched.\x69mport", 206, (vr 18)⟩, ⟨"class._frozen_importlib.ModuleSpec", 216, (vr 22)⟩, ⟨"sys.modules.booked-epoch", 245, (vi 3)⟩, ⟨"\x69mport.later-laid._sre", 270, (.bool true)⟩, ⟨"watched.library", 272, (vr 27)⟩, ⟨"watched.library-objects", 0, (.str ⟨#[12]⟩ 0)⟩, ⟨"watched.library-deep._sre", 273, (.str ⟨#[4, 0, 0, 11, 4, 0, 0, 11, 4, 0, 0, 3, 4, 0, 0, 11, 8, 4, 100, 105, 99, 116, 2]⟩ 0)⟩]) 9), #[]⟩
noncomputable def q3 (P : Params) : Obj := ⟨(.type "dict"), none, (.dict (des P [⟨"__name__", 165, (.str "__main__" 164)⟩, ⟨"__doc__", 166, .none⟩, ⟨"__package__", 167, .none⟩, ⟨"__loader__", 168, (.builtin "__main__.__loader__#opaque")⟩, ⟨"__spec__", 169, .none⟩, ⟨"__annotations__", 170, (vr 6)⟩, ⟨"__builtins__", 171, (vr 4)⟩, ⟨"__file__", 173, (cu 172)⟩, ⟨"__cached__", 174, .none⟩, ⟨"_sre", 275, (vr 12)⟩]) 10), #[]⟩
noncomputable def q4 (P : Params) : Obj := ⟨(.type "code"), none, (.fields #[(.str "<module>" 176), (.str "<module>" 177), (cu 178), (vi 1), (vi 0), (vi 0), (vi 0), (vi 0), (vr 7), (.bool false), (vi 175), (vr 8), .none, .none, .none, .none, (vi 179), (vi 1), (cu 180)]), #[]⟩
noncomputable def q5 (P : Params) : Obj := ⟨(.type "frame"), none, .plain, #[(some (vr 9)), (some (vr 3)), (some (vr 3)), none, (some (.str "__main__" 164)), none, (some (vr 0))]⟩
noncomputable def q6 (P : Params) : Obj := ⟨(.type "dict"), none, (.dict (des P [⟨"__name__", 247, (.str "_sre" 246)⟩, ⟨"__doc__", 248, .none⟩, ⟨"__package__", 250, (.str "" 249)⟩, ⟨"__loader__", 251, (.builtin "off-the-table:_sre.__loader__:shared#opaque")⟩, ⟨"__spec__", 252, (.builtin "off-the-table:_sre.__spec__:shared#opaque")⟩, ⟨"compile", 253, (.builtin "_sre.compile")⟩, ⟨"template", 254, (.builtin "off-the-table:_sre.template:shared#opaque")⟩, ⟨"getcodesize", 255, (.builtin "off-the-table:_sre.getcodesize:shared#opaque")⟩, ⟨"ascii_iscased", 256, (.builtin "off-the-table:_sre.ascii_iscased:shared#opaque")⟩, ⟨"unicode_iscased", 257, (.builtin "off-the-table:_sre.unicode_iscased:shared#opaque")⟩, ⟨"ascii_tolower", 258, (.builtin "off-the-table:_sre.ascii_tolower:shared#opaque")⟩, ⟨"unicode_tolower", 259, (.builtin "off-the-table:_sre.unicode_tolower:shared#opaque")⟩, ⟨"MAGIC", 261, (.int 20230612 260)⟩, ⟨"CODESIZE", 263, (.int 4 262)⟩, ⟨"MAXREPEAT", 265, (.int 4294967295 264)⟩, ⟨"MAXGROUPS", 267, (.int 1073741823 266)⟩, ⟨"copyright", 269, (.str " SRE 2.2.2 Copyright (c) 1997-2002 by Secret Labs AB " 268)⟩]) 17), #[]⟩
noncomputable def q7 (P : Params) : Obj := ⟨(.type "dict"), none, (.dict (des P [⟨"__module__", 189, (.str "_frozen_importlib" 186)⟩, ⟨"__firstlineno__", 190, (.int 971 187)⟩, ⟨"__doc__", 191, (.builtin "_frozen_importlib.BuiltinImporter.__doc__:str#opaque")⟩, ⟨"_ORIGIN", 192, (.str "built-in" 188)⟩, ⟨"find_spec", 193, (.builtin "_frozen_importlib.BuiltinImporter.find_spec#opaque")⟩, ⟨"create_module", 194, (.builtin "_frozen_importlib.BuiltinImporter.create_module#opaque")⟩, ⟨"exec_module", 195, (.builtin "_frozen_importlib.BuiltinImporter.exec_module#opaque")⟩, ⟨"get_code", 196, (.builtin "_frozen_importlib.BuiltinImporter.get_code#opaque")⟩, ⟨"get_source", 197, (.builtin "_frozen_importlib.BuiltinImporter.get_source#opaque")⟩, ⟨"is_package", 198, (.builtin "_frozen_importlib.BuiltinImporter.is_package#opaque")⟩, ⟨"load_module", 199, (.builtin "_frozen_importlib.BuiltinImporter.load_module#opaque")⟩, ⟨"__static_attributes__", 200, (vr 15)⟩, ⟨"__dict__", 202, (vr 16)⟩, ⟨"__weakref__", 204, (vr 17)⟩]) 14), #[]⟩
noncomputable def q8 (P : Params) : Obj := ⟨(.type "type"), none, (.cls { name := "BuiltinImporter", bases := [(.type "object")], mro := [(vr 14), (.type "object")], ns := 13, qualname := "BuiltinImporter", hasDict := true, slotNames := [], subclasses := [], abstract := false, collection := none, hasDel := false }), #[]⟩
noncomputable def q9 (P : Params) : Obj := ⟨(.type "getset_descriptor"), none, (.fields #[(.str "__dict__" 201), (vr 14), (.builtin "function.__dict__"), (.builtin "function.__dict__#set")]), #[]⟩
noncomputable def q10 (P : Params) : Obj := ⟨(.type "getset_descriptor"), none, (.fields #[(.str "__weakref__" 203), (vr 14), (.builtin "ExceptionGroup.__weakref__"), .none]), #[]⟩
noncomputable def q11 (P : Params) : Obj := ⟨.none, none, (.seq #[(vi 13), (.str ⟨#[6, 189, 10, 95, 95, 109, 111, 100, 117, 108, 101, 95, 95, 6, 186, 17, 95, 102, 114, 111, 122, 101, 110, 95, 105, 109, 112, 111, 114, 116, 108, 105, 98, 6, 190, 15, 95, 95, 102, 105, 114, 115, 116, 108, 105, 110, 101, 110, 111, 95, 95, 4, 187, 0, 971, 6, 191, 7, 95, 95, 100, 111, 99, 95, 95, 9, 52, 95, 102, 114, 111, 122, 101, 110, 95, 105, 109, 112, 111, 114, 116, 108, 105, 98, 46, 66, 117, 105, 108, 116, 105, 110, 73, 109, 112, 111, 114, 116, 101, 114, 46, 95, 95, 100, 111, 99, 95, 95, 58, 115, 116, 114, 35, 111, 112, 97, 113, 117, 101, 6, 192, 7, 95, 79, 82, 73, 71, 73, 78, 6, 188, 8, 98, 117, 105, 108, 116, 45, 105, 110, 6, 193, 9, 102, 105, 110, 100, 95, 115, 112, 101, 99, 9, 50, 95, 102, 114, 111, 122, 101, 110, 95, 105, 109, 112, 111, 114, 116, 108, 105, 98, 46, 66, 117, 105, 108, 116, 105, 110, 73, 109, 112, 111, 114, 116, 101, 114, 46, 102, 105, 110, 100, 95, 115, 112, 101, 99, 35, 111, 112, 97, 113, 117, 101, 6, 194, 13, 99, 114, 101, 97, 116, 101, 95, 109, 111, 100, 117, 108, 101, 9, 54, 95, 102, 114, 111, 122, 101, 110, 95, 105, 109, 112, 111, 114, 116, 108, 105, 98, 46, 66, 117, 105, 108, 116, 105, 110, 73, 109, 112, 111, 114, 116, 101, 114, 46, 99, 114, 101, 97, 116, 101, 95, 109, 111, 100, 117, 108, 101, 35, 111, 112, 97, 113, 117, 101, 6, 195, 11, 101, 120, 101, 99, 95, 109, 111, 100, 117, 108, 101, 9, 52, 95, 102, 114, 111, 122, 101, 110, 95, 105, 109, 112, 111, 114, 116, 108, 105, 98, 46, 66, 117, 105, 108, 116, 105, 110, 73, 109, 112, 111, 114, 116, 101, 114, 46, 101, 120, 101, 99, 95, 109, 111, 100, 117, 108, 101, 35, 111, 112, 97, 113, 117, 101, 6, 196, 8, 103, 101, 116, 95, 99, 111, 100, 101, 9, 49, 95, 102, 114, 111, 122, 101, 110, 95, 105, 109, 112, 111, 114, 116, 108, 105, 98, 46, 66, 117, 105, 108, 116, 105, 110, 73, 109, 112, 111, 114, 116, 101, 114, 46, 103, 101, 116, 95, 99, 111, 100, 101, 35, 111, 112, 97, 113, 117, 101, 6, 197, 10, 103, 101, 116, 95, 115, 111, 117, 114, 99, 101, 9, 51, 95, 102, 114, 111, 122, 101, 110, 95, 105, 109, 112, 111, 114, 116, 108, 105, 98, 46, 66, 117, 105, 108, 116, 105, 110, 73, 109, 112, 111, 114, 116, 101, 114, 46, 103, 101, 116, 95, 115, 111, 117, 114, 99, 101, 35, 111, 112, 97, 113, 117, 101, 6, 198, 10, 105, 115, 95, 112, 97, 99, 107, 97, 103, 101, 9, 51, 95, 102, 114, 111, 122, 101, 110, 95, 105, 109, 112, 111, 114, 116, 108, 105, 98, 46, 66, 117, 105, 108, 116, 105, 110, 73, 109, 112, 111, 114, 116, 101, 114, 46, 105, 115, 95, 112, 97, 99, 107, 97, 103, 101, 35, 111, 112, 97, 113, 117, 101, 6, 199, 11, 108, 111, 97, 100, 95, 109, 111, 100, 117, 108, 101, 9, 52, 95, 102, 114, 111, 122, 101, 110, 95, 105, 109, 112, 111, 114, 116, 108, 105, 98, 46, 66, 117, 105, 108, 116, 105, 110, 73, 109, 112, 111, 114, 116, 101, 114, 46, 108, 111, 97, 100, 95, 109, 111, 100, 117, 108, 101, 35, 111, 112, 97, 113, 117, 101, 6, 200, 21, 95, 95, 115, 116, 97, 116, 105, 99, 95, 97, 116, 116, 114, 105, 98, 117, 116, 101, 115, 95, 95, 4, 0, 0, 15, 6, 202, 8, 95, 95, 100, 105, 99, 116, 95, 95, 4, 0, 0, 16, 6, 204, 11, 95, 95, 119, 101, 97, 107, 114, 101, 102, 95, 95, 4, 0, 0, 17]⟩ 0), (.bool true), (.bool true), (.str "" 205), (vi 21), (.str ⟨#[6, 227, 10, 95, 95, 109, 111, 100, 117, 108, 101, 95, 95, 6, 217, 17, 95, 102, 114, 111, 122, 101, 110, 95, 105, 109, 112, 111, 114, 116, 108, 105, 98, 6, 228, 15, 95, 95, 102, 105, 114, 115, 116, 108, 105, 110, 101, 110, 111, 95, 95, 4, 218, 0, 562, 6, 229, 7, 95, 95, 100, 111, 99, 95, 95, 9, 47, 95, 102, 114, 111, 122, 101, 110, 95, 105, 109, 112, 111, 114, 116, 108, 105, 98, 46, 77, 111, 100, 117, 108, 101, 83, 112, 101, 99, 46, 95, 95, 100, 111, 99, 95, 95, 58, 115, 116, 114, 35, 111, 112, 97, 113, 117, 101, 6, 230, 8, 95, 95, 105, 110, 105, 116, 95, 95, 9, 44, 95, 102, 114, 111, 122, 101, 110, 95, 105, 109, 112, 111, 114, 116, 108, 105, 98, 46, 77, 111, 100, 117, 108, 101, 83, 112, 101, 99, 46, 95, 95, 105, 110, 105, 116, 95, 95, 35, 111, 112, 97, 113, 117, 101, 6, 231, 8, 95, 95, 114, 101, 112, 114, 95, 95, 9, 44, 95, 102, 114, 111, 122, 101, 110, 95, 105, 109, 112, 111, 114, 116, 108, 105, 98, 46, 77, 111, 100, 117, 108, 101, 83, 112, 101, 99, 46, 95, 95, 114, 101, 112, 114, 95, 95, 35, 111, 112, 97, 113, 117, 101, 6, 232, 6, 95, 95, 101, 113, 95, 95, 9, 42, 95, 102, 114, 111, 122, 101, 110, 95, 105, 109, 112, 111, 114, 116, 108, 105, 98, 46, 77, 111, 100, 117, 108, 101, 83, 112, 101, 99, 46, 95, 95, 101, 113, 95, 95, 35, 111, 112, 97, 113, 117, 101, 6, 233, 6, 99, 97, 99, 104, 101, 100, 9, 42, 95, 102, 114, 111, 122, 101, 110, 95, 105, 109, 112, 111, 114, 116, 108, 105, 98, 46, 77, 111, 100, 117, 108, 101, 83, 112, 101, 99, 46, 99, 97, 99, 104, 101, 100, 35, 111, 112, 97, 113, 117, 101, 6, 234, 6, 112, 97, 114, 101, 110, 116, 9, 42, 95, 102, 114, 111, 122, 101, 110, 95, 105, 109, 112, 111, 114, 116, 108, 105, 98, 46, 77, 111, 100, 117, 108, 101, 83, 112, 101, 99, 46, 112, 97, 114, 101, 110, 116, 35, 111, 112, 97, 113, 117, 101, 6, 235, 12, 104, 97, 115, 95, 108, 111, 99, 97, 116, 105, 111, 110, 9, 48, 95, 102, 114, 111, 122, 101, 110, 95, 105, 109, 112, 111, 114, 116, 108, 105, 98, 46, 77, 111, 100, 117, 108, 101, 83, 112, 101, 99, 46, 104, 97, 115, 95, 108, 111, 99, 97, 116, 105, 111, 110, 35, 111, 112, 97, 113, 117, 101, 6, 236, 21, 95, 95, 115, 116, 97, 116, 105, 99, 95, 97, 116, 116, 114, 105, 98, 117, 116, 101, 115, 95, 95, 4, 0, 0, 23, 6, 238, 8, 95, 95, 100, 105, 99, 116, 95, 95, 4, 0, 0, 24, 6, 240, 11, 95, 95, 119, 101, 97, 107, 114, 101, 102, 95, 95, 4, 0, 0, 25, 6, 241, 8, 95, 95, 104, 97, 115, 104, 95, 95, 0]⟩ 0), (.bool true), (.bool true), (.str "" 242)] 1), #[]⟩
noncomputable def q12 (P : Params) : Obj := ⟨(.type "dict"), none, (.dict (des P [⟨"name", 208, (.str "_sre" 207)⟩, ⟨"loader", 209, (vr 14)⟩, ⟨"origin", 210, (.str "built-in" 184)⟩, ⟨"loader_state", 211, .none⟩, ⟨"submodule_search_locations", 212, .none⟩, ⟨"_uninitialized_submodules", 213, (vr 19)⟩, ⟨"_set_fileattr", 214, (.bool false)⟩, ⟨"_cached", 215, .none⟩, ⟨"_initializing", 243, (.bool false)⟩]) 9), #[]⟩
noncomputable def q13 (P : Params) : Obj := ⟨(.type "dict"), none, (.dict (des P [⟨"__module__", 227, (.str "_frozen_importlib" 217)⟩, ⟨"__firstlineno__", 228, (.int 562 218)⟩, ⟨"__doc__", 229, (.builtin "_frozen_importlib.ModuleSpec.__doc__:str#opaque")⟩, ⟨"__init__", 230, (.builtin "_frozen_importlib.ModuleSpec.__init__#opaque")⟩, ⟨"__repr__", 231, (.builtin "_frozen_importlib.ModuleSpec.__repr__#opaque")⟩, ⟨"__eq__", 232, (.builtin "_frozen_importlib.ModuleSpec.__eq__#opaque")⟩, ⟨"cached", 233, (.builtin "_frozen_importlib.ModuleSpec.cached#opaque")⟩, ⟨"parent", 234, (.builtin "_frozen_importlib.ModuleSpec.parent#opaque")⟩, ⟨"has_location", 235, (.builtin "_frozen_importlib.ModuleSpec.has_location#opaque")⟩, ⟨"__static_attributes__", 236, (vr 23)⟩, ⟨"__dict__", 238, (vr 24)⟩, ⟨"__weakref__", 240, (vr 25)⟩, ⟨"__hash__", 241, .none⟩]) 13), #[]⟩
noncomputable def q14 (P : Params) : Obj := ⟨(.type "type"), none, (.cls { name := "ModuleSpec", bases := [(.type "object")], mro := [(vr 22), (.type "object")], ns := 21, qualname := "ModuleSpec", hasDict := true, slotNames := [], subclasses := [], abstract := false, collection := none, hasDel := false }), #[]⟩
noncomputable def q15 (P : Params) : Obj := ⟨(.type "tuple"), none, (.seq #[(.str "_cached" 219), (.str "_set_fileattr" 220), (.str "_uninitialized_submodules" 221), (.str "loader" 222), (.str "loader_state" 223), (.str "name" 224), (.str "origin" 225), (.str "submodule_search_locations" 226)]), #[]⟩
noncomputable def q16 (P : Params) : Obj := ⟨(.type "getset_descriptor"), none, (.fields #[(.str "__dict__" 237), (vr 22), (.builtin "function.__dict__"), (.builtin "function.__dict__#set")]), #[]⟩
noncomputable def q17 (P : Params) : Obj := ⟨(.type "getset_descriptor"), none, (.fields #[(.str "__weakref__" 239), (vr 22), (.builtin "ExceptionGroup.__weakref__"), .none]), #[]⟩
noncomputable def q18 (P : Params) : Obj := ⟨.none, none, (.seq #[(vi 11), (.str ⟨#[6, 247, 8, 95, 95, 110, 97, 109, 101, 95, 95, 6, 246, 4, 95, 115, 114, 101, 6, 248, 7, 95, 95, 100, 111, 99, 95, 95, 0, 6, 250, 11, 95, 95, 112, 97, 99, 107, 97, 103, 101, 95, 95, 6, 249, 0, 6, 251, 10, 95, 95, 108, 111, 97, 100, 101, 114, 95, 95, 4, 0, 0, 14, 6, 252, 8, 95, 95, 115, 112, 101, 99, 95, 95, 4, 0, 0, 26, 6, 253, 7, 99, 111, 109, 112, 105, 108, 101, 9, 12, 95, 115, 114, 101, 46, 99, 111, 109, 112, 105, 108, 101, 6, 254, 8, 116, 101, 109, 112, 108, 97, 116, 101, 9, 13, 95, 115, 114, 101, 46, 116, 101, 109, 112, 108, 97, 116, 101, 6, 255, 11, 103, 101, 116, 99, 111, 100, 101, 115, 105, 122, 101, 9, 16, 95, 115, 114, 101, 46, 103, 101, 116, 99, 111, 100, 101, 115, 105, 122, 101, 6, 256, 13, 97, 115, 99, 105, 105, 95, 105, 115, 99, 97, 115, 101, 100, 9, 18, 95, 115, 114, 101, 46, 97, 115, 99, 105, 105, 95, 105, 115, 99, 97, 115, 101, 100, 6, 257, 15, 117, 110, 105, 99, 111, 100, 101, 95, 105, 115, 99, 97, 115, 101, 100, 9, 20, 95, 115, 114, 101, 46, 117, 110, 105, 99, 111, 100, 101, 95, 105, 115, 99, 97, 115, 101, 100, 6, 258, 13, 97, 115, 99, 105, 105, 95, 116, 111, 108, 111, 119, 101, 114, 9, 18, 95, 115, 114, 101, 46, 97, 115, 99, 105, 105, 95, 116, 111, 108, 111, 119, 101, 114, 6, 259, 15, 117, 110, 105, 99, 111, 100, 101, 95, 116, 111, 108, 111, 119, 101, 114, 9, 20, 95, 115, 114, 101, 46, 117, 110, 105, 99, 111, 100, 101, 95, 116, 111, 108, 111, 119, 101, 114, 6, 261, 5, 77, 65, 71, 73, 67, 4, 260, 0, 20230612, 6, 263, 8, 67, 79, 68, 69, 83, 73, 90, 69, 4, 262, 0, 4, 6, 265, 9, 77, 65, 88, 82, 69, 80, 69, 65, 84, 4, 264, 0, 4294967295, 6, 267, 9, 77, 65, 88, 71, 82, 79, 85, 80, 83, 4, 266, 0, 1073741823, 6, 269, 9, 99, 111, 112, 121, 114, 105, 103, 104, 116, 6, 268, 53, 32, 83, 82, 69, 32, 50, 46, 50, 46, 50, 32, 67, 111, 112, 121, 114, 105, 103, 104, 116, 32, 40, 99, 41, 32, 49, 57, 57, 55, 45, 50, 48, 48, 50, 32, 98, 121, 32, 83, 101, 99, 114, 101, 116, 32, 76, 97, 98, 115, 32, 65, 66, 32]⟩ 0), (.bool true), (.bool false), (.str "_sre" 271)]), #[]⟩
noncomputable def q19 (P : Params) : Obj := ⟨(.type "code"), none, (.fields #[(.str "<module>" 277), (.str "<module>" 278), (cu 279), (vi 1), (vi 0), (vi 0), (vi 0), (vi 0), (vr 28), (.bool false), (vi 276), (vr 29), .none, .none, .none, .none, (vi 280), (vi 1), (cu 281)]), #[]⟩
noncomputable def q20 (P : Params) : Obj := ⟨(.type "frame"), none, .plain, #[(some (vr 30)), (some (vr 3)), (some (vr 3)), none, (some (.str "__main__" 164)), none, (some (vr 0))]⟩
/-- the objects at the fence, at the body's start, behind the fourteenth statement -/
noncomputable def lF (P : Params) : List Obj := [
  q0 P,
  q1 P,
  q2 P,
  q3 P,
  ⟨(.type "module"), (some 0), .plain, #[]⟩,
  ⟨(.type "module"), (some 3), .plain, #[]⟩,
  ⟨(.type "dict"), none, (.dict (des P []) 0), #[]⟩,
  ⟨(.type "tuple"), none, (.seq #[]), #[]⟩,
  ⟨.none, none, (.fields #[]), #[]⟩,
  q4 P,
  q5 P,
  q6 P,
  ⟨(.type "module"), (some 11), .plain, #[]⟩,
  q7 P,
  q8 P,
  ⟨(.type "tuple"), none, (.seq #[]), #[]⟩,
  q9 P,
  q10 P,
  q11 P,
  ⟨(.type "list"), none, (.seq #[]), #[]⟩,
  q12 P,
  q13 P,
  q14 P,
  q15 P,
  q16 P,
  q17 P,
  ⟨(vr 22), (some 20), .plain, #[]⟩,
  q18 P]
noncomputable def lP (P : Params) : List Obj := [
  q0 P,
  q1 P,
  q2 P,
  q3 P,
  ⟨(.type "module"), (some 0), .plain, #[]⟩,
  ⟨(.type "module"), (some 3), .plain, #[]⟩,
  ⟨(.type "dict"), none, (.dict (des P []) 0), #[]⟩,
  ⟨(.type "tuple"), none, (.seq #[]), #[]⟩,
  ⟨.none, none, (.fields #[]), #[]⟩,
  q4 P,
  q5 P,
  q6 P,
  ⟨(.type "module"), (some 11), .plain, #[]⟩,
  q7 P,
  q8 P,
  ⟨(.type "tuple"), none, (.seq #[]), #[]⟩,
  q9 P,
  q10 P,
  q11 P,
  ⟨(.type "list"), none, (.seq #[]), #[]⟩,
  q12 P,
  q13 P,
  q14 P,
  q15 P,
  q16 P,
  q17 P,
  ⟨(vr 22), (some 20), .plain, #[]⟩,
  q18 P,
  ⟨(.type "tuple"), none, (.seq #[]), #[]⟩,
  ⟨.none, none, (.fields #[]), #[]⟩,
  q19 P,
  q20 P]
noncomputable def lM (P : Params) : List Obj := [
  q0 P,
  q1 P,
  q2 P,
  ⟨(.type "dict"), none, (.dict (des P [⟨"__name__", 165, (.str "cpy313.email.header" 337)⟩, ⟨"__doc__", 166, .none⟩, ⟨"__package__", 167, .none⟩, ⟨"__loader__", 168, (.builtin "__main__.__loader__#opaque")⟩, ⟨"__spec__", 169, .none⟩, ⟨"__annotations__", 170, (vr 6)⟩, ⟨"__builtins__", 171, (vr 4)⟩, ⟨"__file__", 173, (cu 172)⟩, ⟨"__cached__", 174, .none⟩, ⟨"_sre", 275, (vr 12)⟩, ⟨"_wall", 288, (vr 38)⟩, ⟨"read_uint1", 298, (vr 45)⟩, ⟨"read_string1", 307, (vr 52)⟩, ⟨"read_bytes1", 316, (vr 59)⟩, ⟨"decode_long", 325, (vr 66)⟩, ⟨"read_long1", 336, (vr 73)⟩, ⟨"_twin_re_1", 366, (vr 78)⟩, ⟨"NL", 368, (.str ⟨#[10]⟩ 367)⟩, ⟨"EMPTYSTRING", 370, (.str "" 369)⟩, ⟨"_ValueFormatter", 484, (vr 151)⟩]) 20), #[]⟩,
  ⟨(.type "module"), (some 0), .plain, #[]⟩,
  ⟨(.type "module"), (some 3), .plain, #[]⟩,
  ⟨(.type "dict"), none, (.dict (des P []) 0), #[]⟩,
  ⟨(.type "tuple"), none, (.seq #[]), #[]⟩,
  ⟨.none, none, (.fields #[]), #[]⟩,
  q4 P,
  q5 P,
  q6 P,
  ⟨(.type "module"), (some 11), .plain, #[]⟩,
  q7 P,
  q8 P,
  ⟨(.type "tuple"), none, (.seq #[]), #[]⟩,
  q9 P,
  q10 P,
  q11 P,
  ⟨(.type "list"), none, (.seq #[]), #[]⟩,
  q12 P,
  q13 P,
  q14 P,
  q15 P,
  q16 P,
  q17 P,
  ⟨(vr 22), (some 20), .plain, #[]⟩,
  q18 P,
  ⟨(.type "tuple"), none, (.seq #[]), #[]⟩,
  ⟨.none, none, (.fields #[(vi 2), (vi 0), (vr 37), (vi 6), (vi 0), (vr 44), (vi 11), (vi 0), (vr 51), (vi 18), (vi 0), (vr 58), (vi 26), (vi 0), (vr 65), (vi 29), (vi 0), (vr 72), (vi 39), (vi 0), (vr 84)]), #[]⟩,
  q19 P,
  q20 P,
  ⟨(.type "tuple"), none, (.seq #[]), #[]⟩,
  ⟨.none, none, (.fields #[]), #[]⟩,
  ⟨(.type "tuple"), none, (.seq #[(.str "k" 285)]), #[]⟩,
  ⟨(.type "tuple"), none, (.seq #[]), #[]⟩,
  fnQ (nth tops 1) "_wall",
  ⟨(.type "code"), none, (.fields #[(.str "_wall" 282), (.str "_wall" 283), (cu 284), (vi 2), (vi 1), (vi 0), (vi 0), (vi 3), (vr 32), (.bool true), (vi 276), (vr 33), .none, (vr 34), (vr 35), (vr 36), (vi 286), (vi 2), (cu 287)]), #[]⟩,
  fnO (nth tops 1) "_wall" [] .none (.str "__main__" 164) (vr 37) .none,
  ⟨(.type "tuple"), none, (.seq #[]), #[]⟩,
  ⟨.none, none, (.fields #[]), #[]⟩,
  ⟨(.type "tuple"), none, (.seq #[(.str "f" 294), (.str "data" 295)]), #[]⟩,
  ⟨(.type "tuple"), none, (.seq #[]), #[]⟩,
  fnQ (nth tops 3) "read_uint1",
  ⟨(.type "code"), none, (.fields #[(.str "read_uint1" 291), (.str "read_uint1" 292), (cu 293), (vi 6), (vi 1), (vi 0), (vi 0), (vi 3), (vr 39), (.bool true), (vi 276), (vr 40), .none, (vr 41), (vr 42), (vr 43), (vi 296), (vi 6), (cu 297)]), #[]⟩,
  fnO (nth tops 3) "read_uint1" [] .none (.str "cpy313.pickletools" 289) (vr 44) .none,
  ⟨(.type "tuple"), none, (.seq #[]), #[]⟩,
  ⟨.none, none, (.fields #[]), #[]⟩,
  ⟨(.type "tuple"), none, (.seq #[(.str "f" 302), (.str "n" 303), (.str "data" 304)]), #[]⟩,
  ⟨(.type "tuple"), none, (.seq #[]), #[]⟩,
  fnQ (nth tops 4) "read_string1",
  ⟨(.type "code"), none, (.fields #[(.str "read_string1" 299), (.str "read_string1" 300), (cu 301), (vi 11), (vi 1), (vi 0), (vi 0), (vi 3), (vr 46), (.bool true), (vi 276), (vr 47), .none, (vr 48), (vr 49), (vr 50), (vi 305), (vi 11), (cu 306)]), #[]⟩,
  fnO (nth tops 4) "read_string1" [] .none (.str "cpy313.pickletools" 289) (vr 51) .none,
  ⟨(.type "tuple"), none, (.seq #[]), #[]⟩,
  ⟨.none, none, (.fields #[]), #[]⟩,
  ⟨(.type "tuple"), none, (.seq #[(.str "f" 311), (.str "n" 312), (.str "data" 313)]), #[]⟩,
  ⟨(.type "tuple"), none, (.seq #[]), #[]⟩,
  fnQ (nth tops 5) "read_bytes1",
  ⟨(.type "code"), none, (.fields #[(.str "read_bytes1" 308), (.str "read_bytes1" 309), (cu 310), (vi 18), (vi 1), (vi 0), (vi 0), (vi 3), (vr 53), (.bool true), (vi 276), (vr 54), .none, (vr 55), (vr 56), (vr 57), (vi 314), (vi 18), (cu 315)]), #[]⟩,
  fnO (nth tops 5) "read_bytes1" [] .none (.str "cpy313.pickletools" 289) (vr 58) .none,
  ⟨(.type "tuple"), none, (.seq #[]), #[]⟩,
  ⟨.none, none, (.fields #[]), #[]⟩,
  ⟨(.type "tuple"), none, (.seq #[(.str "data" 322)]), #[]⟩,
  ⟨(.type "tuple"), none, (.seq #[]), #[]⟩,
  fnQ (nth tops 7) "decode_long",
  ⟨(.type "code"), none, (.fields #[(.str "decode_long" 319), (.str "decode_long" 320), (cu 321), (vi 26), (vi 1), (vi 0), (vi 0), (vi 3), (vr 60), (.bool true), (vi 276), (vr 61), .none, (vr 62), (vr 63), (vr 64), (vi 323), (vi 26), (cu 324)]), #[]⟩,
  fnO (nth tops 7) "decode_long" [] .none (.str "pickle" 317) (vr 65) .none,
  ⟨(.type "tuple"), none, (.seq #[]), #[]⟩,
  ⟨.none, none, (.fields #[]), #[]⟩,
  ⟨(.type "tuple"), none, (.seq #[(.str "f" 331), (.str "n" 332), (.str "data" 333)]), #[]⟩,
  ⟨(.type "tuple"), none, (.seq #[]), #[]⟩,
  fnQ (nth tops 9) "read_long1",
  ⟨(.type "code"), none, (.fields #[(.str "read_long1" 328), (.str "read_long1" 329), (cu 330), (vi 29), (vi 1), (vi 0), (vi 0), (vi 3), (vr 67), (.bool true), (vi 276), (vr 68), .none, (vr 69), (vr 70), (vr 71), (vi 334), (vi 29), (cu 335)]), #[]⟩,
  fnO (nth tops 9) "read_long1" [] .none (.str "cpy313.pickletools" 326) (vr 72) .none,
  ⟨(.type "list"), none, (.seq #[(.int 14 342), (.int 4 343), (.int 0 344), (.int 1 345), (.int 4294967295 346), (.int 17 347), (.int 0 348), (.int 24 349), (.int 11 350), (.int 1 351), (.int 4294967295 352), (.int 13 353), (.int 6 354), (.int 16 355), (.int 32 356), (.int 16 357), (.int 9 358), (.int 0 359), (.int 1 360), (.int 17 361), (.int 1 362), (.int 1 363)]), #[]⟩,
  ⟨(.type "dict"), none, (.dict (des P []) 0), #[]⟩,
  ⟨(.type "tuple"), none, (.seq #[.none, .none]), #[]⟩,
  ⟨(.type "tuple"), none, (.seq #[(vi 14), (vi 4), (vi 0), (vi 1), (vi 4294967295), (vi 17), (vi 0), (vi 24), (vi 11), (vi 1), (vi 4294967295), (vi 13), (vi 6), (vi 16), (vi 32), (vi 16), (vi 9), (vi 0), (vi 1), (vi 17), (vi 1), (vi 1)]), #[]⟩,
  ⟨(.type "re.Pattern"), none, (.fields #[(.str ⟨#[40, 91, 32, 9, 93, 43, 41]⟩ 340), (.int 32 365), (vi 1), .none, .none, (vr 77), (vi 0)]), #[]⟩,
  ⟨(.type "tuple"), none, (.seq #[]), #[]⟩,
  ⟨(.type "builtin_function_or_method"), none, (.fields #[(.builtin "type.__prepare__"), (.type "type")]), #[]⟩,
  ⟨(.type "dict"), none, (.dict (des P [⟨"__module__", 378, (.str "cpy313.email.header" 337)⟩, ⟨"__qualname__", 380, (.str "_ValueFormatter" 379)⟩, ⟨"__firstlineno__", 382, (.int 39 381)⟩, ⟨"__init__", 393, (vr 92)⟩, ⟨"_str", 401, (vr 99)⟩, ⟨"__str__", 408, (vr 106)⟩, ⟨"newline", 416, (vr 113)⟩, ⟨"add_transition", 423, (vr 120)⟩, ⟨"feed", 437, (vr 127)⟩, ⟨"_maxlengths", 444, (vr 134)⟩, ⟨"_ascii_split", 456, (vr 141)⟩, ⟨"_append_chunk", 470, (vr 148)⟩, ⟨"__static_attributes__", 477, (vr 149)⟩]) 13), #[]⟩,
  ⟨(.type "tuple"), none, (.seq #[]), #[]⟩,
  ⟨.none, none, (.fields #[(vi 41), (vi 4), (vr 91), (vi 49), (vi 4), (vr 98), (vi 53), (vi 4), (vr 105), (vi 56), (vi 4), (vr 112), (vi 67), (vi 4), (vr 119), (vi 70), (vi 4), (vr 126), (vi 90), (vi 4), (vr 133), (vi 95), (vi 4), (vr 140), (vi 104), (vi 4), (vr 147)]), #[]⟩,
  ⟨(.type "code"), none, (.fields #[(.str "_ValueFormatter" 373), (.str "_ValueFormatter" 374), (cu 375), (vi 39), (vi 0), (vi 0), (vi 0), (vi 0), (vr 82), (.bool false), (vi 276), (vr 83), .none, .none, .none, .none, (vi 376), (vi 39), (cu 377)]), #[]⟩,
  ⟨(.type "frame"), none, .plain, #[(some (vr 84)), (some (vr 3)), (some (vr 81)), none, (some (.str "cpy313.email.header" 337)), none, (some (vr 0))]⟩,
  ⟨(.type "tuple"), none, (.seq #[]), #[]⟩,
  ⟨.none, none, (.fields #[]), #[]⟩,
  ⟨(.type "tuple"), none, (.seq #[(.str "self" 386), (.str "headerlen" 387), (.str "maxlen" 388), (.str "continuation_ws" 389), (.str "splitchars" 390)]), #[]⟩,
  ⟨(.type "tuple"), none, (.seq #[]), #[]⟩,
  fnQ (nth (inCls (nth tops 14)) 0) "_ValueFormatter.__init__",
  ⟨(.type "code"), none, (.fields #[(.str "__init__" 383), (.str "_ValueFormatter.__init__" 384), (cu 385), (vi 41), (vi 5), (vi 0), (vi 0), (vi 3), (vr 86), (.bool true), (vi 276), (vr 87), .none, (vr 88), (vr 89), (vr 90), (vi 391), (vi 41), (cu 392)]), #[]⟩,
  fnO (nth (inCls (nth tops 14)) 0) "_ValueFormatter.__init__" [] .none (.str "cpy313.email.header" 337) (vr 91) .none,
  ⟨(.type "tuple"), none, (.seq #[]), #[]⟩,
  ⟨.none, none, (.fields #[]), #[]⟩,
  ⟨(.type "tuple"), none, (.seq #[(.str "self" 397), (.str "linesep" 398)]), #[]⟩,
  ⟨(.type "tuple"), none, (.seq #[]), #[]⟩,
  fnQ (nth (inCls (nth tops 14)) 1) "_ValueFormatter._str",
  ⟨(.type "code"), none, (.fields #[(.str "_str" 394), (.str "_ValueFormatter._str" 395), (cu 396), (vi 49), (vi 2), (vi 0), (vi 0), (vi 3), (vr 93), (.bool true), (vi 276), (vr 94), .none, (vr 95), (vr 96), (vr 97), (vi 399), (vi 49), (cu 400)]), #[]⟩,
  fnO (nth (inCls (nth tops 14)) 1) "_ValueFormatter._str" [] .none (.str "cpy313.email.header" 337) (vr 98) .none,
  ⟨(.type "tuple"), none, (.seq #[]), #[]⟩,
  ⟨.none, none, (.fields #[]), #[]⟩,
  ⟨(.type "tuple"), none, (.seq #[(.str "self" 405)]), #[]⟩,
  ⟨(.type "tuple"), none, (.seq #[]), #[]⟩,
  fnQ (nth (inCls (nth tops 14)) 2) "_ValueFormatter.__str__",
  ⟨(.type "code"), none, (.fields #[(.str "__str__" 402), (.str "_ValueFormatter.__str__" 403), (cu 404), (vi 53), (vi 1), (vi 0), (vi 0), (vi 3), (vr 100), (.bool true), (vi 276), (vr 101), .none, (vr 102), (vr 103), (vr 104), (vi 406), (vi 53), (cu 407)]), #[]⟩,
  fnO (nth (inCls (nth tops 14)) 2) "_ValueFormatter.__str__" [] .none (.str "cpy313.email.header" 337) (vr 105) .none,
  ⟨(.type "tuple"), none, (.seq #[]), #[]⟩,
  ⟨.none, none, (.fields #[]), #[]⟩,
  ⟨(.type "tuple"), none, (.seq #[(.str "self" 412), (.str "end_of_line" 413)]), #[]⟩,
  ⟨(.type "tuple"), none, (.seq #[]), #[]⟩,
  fnQ (nth (inCls (nth tops 14)) 3) "_ValueFormatter.newline",
  ⟨(.type "code"), none, (.fields #[(.str "newline" 409), (.str "_ValueFormatter.newline" 410), (cu 411), (vi 56), (vi 1), (vi 0), (vi 0), (vi 3), (vr 107), (.bool true), (vi 276), (vr 108), .none, (vr 109), (vr 110), (vr 111), (vi 414), (vi 56), (cu 415)]), #[]⟩,
  fnO (nth (inCls (nth tops 14)) 3) "_ValueFormatter.newline" [] .none (.str "cpy313.email.header" 337) (vr 112) .none,
  ⟨(.type "tuple"), none, (.seq #[]), #[]⟩,
  ⟨.none, none, (.fields #[]), #[]⟩,
  ⟨(.type "tuple"), none, (.seq #[(.str "self" 420)]), #[]⟩,
  ⟨(.type "tuple"), none, (.seq #[]), #[]⟩,
  fnQ (nth (inCls (nth tops 14)) 4) "_ValueFormatter.add_transition",
  ⟨(.type "code"), none, (.fields #[(.str "add_transition" 417), (.str "_ValueFormatter.add_transition" 418), (cu 419), (vi 67), (vi 1), (vi 0), (vi 0), (vi 3), (vr 114), (.bool true), (vi 276), (vr 115), .none, (vr 116), (vr 117), (vr 118), (vi 421), (vi 67), (cu 422)]), #[]⟩,
  fnO (nth (inCls (nth tops 14)) 4) "_ValueFormatter.add_transition" [] .none (.str "cpy313.email.header" 337) (vr 119) .none,
  ⟨(.type "tuple"), none, (.seq #[]), #[]⟩,
  ⟨.none, none, (.fields #[]), #[]⟩,
  ⟨(.type "tuple"), none, (.seq #[(.str "self" 427), (.str "fws" 428), (.str "string" 429), (.str "charset" 430), (.str "encoded_lines" 431), (.str "first_line" 432), (.str "last_line" 433), (.str "line" 434)]), #[]⟩,
  ⟨(.type "tuple"), none, (.seq #[]), #[]⟩,
  fnQ (nth (inCls (nth tops 14)) 5) "_ValueFormatter.feed",
  ⟨(.type "code"), none, (.fields #[(.str "feed" 424), (.str "_ValueFormatter.feed" 425), (cu 426), (vi 70), (vi 4), (vi 0), (vi 0), (vi 3), (vr 121), (.bool true), (vi 276), (vr 122), .none, (vr 123), (vr 124), (vr 125), (vi 435), (vi 70), (cu 436)]), #[]⟩,
  fnO (nth (inCls (nth tops 14)) 5) "_ValueFormatter.feed" [] .none (.str "cpy313.email.header" 337) (vr 126) .none,
  ⟨(.type "tuple"), none, (.seq #[]), #[]⟩,
  ⟨.none, none, (.fields #[]), #[]⟩,
  ⟨(.type "tuple"), none, (.seq #[(.str "self" 441)]), #[]⟩,
  ⟨(.type "tuple"), none, (.seq #[]), #[]⟩,
  fnQ (nth (inCls (nth tops 14)) 6) "_ValueFormatter._maxlengths",
  ⟨(.type "code"), none, (.fields #[(.str "_maxlengths" 438), (.str "_ValueFormatter._maxlengths" 439), (cu 440), (vi 90), (vi 1), (vi 0), (vi 0), (vi 35), (vr 128), (.bool true), (vi 276), (vr 129), .none, (vr 130), (vr 131), (vr 132), (vi 442), (vi 90), (cu 443)]), #[]⟩,
  fnO (nth (inCls (nth tops 14)) 6) "_ValueFormatter._maxlengths" [] .none (.str "cpy313.email.header" 337) (vr 133) .none,
  ⟨(.type "tuple"), none, (.seq #[]), #[]⟩,
  ⟨.none, none, (.fields #[]), #[]⟩,
  ⟨(.type "tuple"), none, (.seq #[(.str "self" 448), (.str "fws" 449), (.str "string" 450), (.str "splitchars" 451), (.str "parts" 452), (.str "part" 453)]), #[]⟩,
  ⟨(.type "tuple"), none, (.seq #[]), #[]⟩,
  fnQ (nth (inCls (nth tops 14)) 7) "_ValueFormatter._ascii_split",
  ⟨(.type "code"), none, (.fields #[(.str "_ascii_split" 445), (.str "_ValueFormatter._ascii_split" 446), (cu 447), (vi 95), (vi 4), (vi 0), (vi 0), (vi 3), (vr 135), (.bool true), (vi 276), (vr 136), .none, (vr 137), (vr 138), (vr 139), (vi 454), (vi 95), (cu 455)]), #[]⟩,
  fnO (nth (inCls (nth tops 14)) 7) "_ValueFormatter._ascii_split" [] .none (.str "cpy313.email.header" 337) (vr 140) .none,
  ⟨(.type "tuple"), none, (.seq #[]), #[]⟩,
  ⟨.none, none, (.fields #[]), #[]⟩,
  ⟨(.type "tuple"), none, (.seq #[(.str "self" 460), (.str "fws" 461), (.str "string" 462), (.str "ch" 463), (.str "i" 464), (.str "prevpart" 465), (.str "part" 466), (.str "remainder" 467)]), #[]⟩,
  ⟨(.type "tuple"), none, (.seq #[]), #[]⟩,
  fnQ (nth (inCls (nth tops 14)) 8) "_ValueFormatter._append_chunk",
  ⟨(.type "code"), none, (.fields #[(.str "_append_chunk" 457), (.str "_ValueFormatter._append_chunk" 458), (cu 459), (vi 104), (vi 3), (vi 0), (vi 0), (vi 3), (vr 142), (.bool true), (vi 276), (vr 143), .none, (vr 144), (vr 145), (vr 146), (vi 468), (vi 104), (cu 469)]), #[]⟩,
  fnO (nth (inCls (nth tops 14)) 8) "_ValueFormatter._append_chunk" [] .none (.str "cpy313.email.header" 337) (vr 147) .none,
  ⟨(.type "tuple"), none, (.seq #[(.str "_continuation_ws" 471), (.str "_continuation_ws_len" 472), (.str "_current_line" 473), (.str "_lines" 474), (.str "_maxlen" 475), (.str "_splitchars" 476)]), #[]⟩,
  ⟨(.type "dict"), none, (.dict (des P [⟨"__module__", 378, (.str "cpy313.email.header" 337)⟩, ⟨"__firstlineno__", 382, (.int 39 381)⟩, ⟨"__init__", 393, (vr 92)⟩, ⟨"_str", 401, (vr 99)⟩, ⟨"__str__", 408, (vr 106)⟩, ⟨"newline", 416, (vr 113)⟩, ⟨"add_transition", 423, (vr 120)⟩, ⟨"feed", 437, (vr 127)⟩, ⟨"_maxlengths", 444, (vr 134)⟩, ⟨"_ascii_split", 456, (vr 141)⟩, ⟨"_append_chunk", 470, (vr 148)⟩, ⟨"__static_attributes__", 477, (vr 149)⟩, ⟨"__dict__", 479, (vr 152)⟩, ⟨"__weakref__", 481, (vr 153)⟩, ⟨"__doc__", 482, .none⟩]) 4), #[]⟩,
  ⟨(.type "type"), none, (.cls { name := "_ValueFormatter", bases := [(.type "object")], mro := [(vr 151), (.type "object")], ns := 150, qualname := "_ValueFormatter", hasDict := true, slotNames := [], subclasses := [], abstract := false, collection := none, hasDel := false }), #[none, none, (some (.str "_ValueFormatter" 371)), (some (.str "_ValueFormatter" 379)), (some (.builtin "object.__new__")), (some (.bool true))]⟩,
  ⟨(.type "getset_descriptor"), none, (.fields #[(.str "__dict__" 478), (vr 151), (.builtin "function.__dict__"), (.builtin "function.__dict__#set")]), #[]⟩,
  ⟨(.type "getset_descriptor"), none, (.fields #[(.str "__weakref__" 480), (vr 151), (.builtin "ExceptionGroup.__weakref__"), .none]), #[]⟩,
  ⟨(.type "super"), none, (.fields #[(vr 151), (vr 151), (vr 151)]), #[]⟩,
  ⟨(.type "builtin_function_or_method"), none, (.fields #[(.builtin "object.__init_subclass__"), (vr 151)]), #[]⟩]
noncomputable def sL (l : List Obj) (k : Nat) (os : OsState) : Shared := ⟨⟨⟨l⟩, {}⟩, #[], {}, k, os⟩
def obS (n : Nat) (s : Shared) : List (Option Obj) × Nat × Life × Array GenState × Drawn × Nat := ((List.range n).map fun i => s.heap.objs[i]?, s.heap.objs.size, s.heap.life, s.gens, s.drawn, s.toks)
def vlS (l : List Obj) (k : Nat) : List (Option Obj) × Nat × Life × Array GenState × Drawn × Nat := (l.map some, l.length, {}, #[], {}, k)
theorem obS_eq {s : Shared} {l : List Obj} {n k : Nat} (hn : l.length = n) (h : obS n s = vlS l k) : s = sL l k s.os := by
  obtain ⟨⟨⟨o⟩, li⟩, g, d, t, os⟩ := s
  simp only [obS, vlS, Prod.mk.injEq] at h
  obtain ⟨h1, h2, h3, h4, h5, h6⟩ := h
  have e : o = l := by
    refine List.ext_getElem? fun i => ?_
    by_cases hi : i < n
    · have := congrArg (fun x => x[i]?) h1
      simp [hi] at this
      have h7 : i < l.length := hn ▸ hi
      simp [h7] at this
      rw [this, List.getElem?_eq_getElem h7]
    · have h7 : o.length = l.length := h2
      rw [List.getElem?_eq_none (by omega), List.getElem?_eq_none (by omega)]
  subst e h3 h4 h5 h6
  rfl
noncomputable abbrev pgm : Program := PySem.Challenge.rw_ij0179_01.row.prog
noncomputable def envT : Env := { scope := pgm.main.scope, locals := mainNs, globals := mainNs, cells := [], code := .ref 30, frame := some 31 }
noncomputable abbrev cT : Code := .body (behindTheImports pgm) envT
set_option maxHeartbeats 0 in
theorem run0 : ∀ w : World, (fencedOpening treeTable pgm w 3168).map (obS 28) = some (vlS (lF w.params) 276) := fun w => by
  kernel_rfl
set_option maxHeartbeats 0 in
theorem run1 : ∀ (w : World) (os : OsState), (topGo treeTable pgm w 28 (some (.ref 6)) 12 (sL (lF w.params) 276 os) (topStub pgm)).map (fun x => (obS 32 x.1, x.1.os, x.2)) = some (vlS (lP w.params) 282, os, ⟨denote treeTable cT, cT, ⟨0, 0, 0, 0⟩, [topFrame ⟨0, 0, 0, 0⟩]⟩) := fun w os => by
  kernel_rfl
set_option maxHeartbeats 0 in
theorem run2 : ∀ (w : World) (os : OsState), (segRun treeTable pgm w 28 (some (.ref 6)) 1 5 (sL (lP w.params) 282 os) (blockOf (behindTheImports pgm) envT cT ⟨0, 0, 0, 0⟩ [topFrame ⟨0, 0, 0, 0⟩])).map (fun x => (x.1, obS 32 x.2.1, x.2.1.os, x.2.2)) = some (.next, vlS (lP w.params) 282, os, cT, ⟨0, 0, 0, 0⟩) := fun w os => by
  kernel_rfl
set_option maxHeartbeats 0 in
theorem run3 : ∀ (w : World) (os : OsState), (segRun treeTable pgm w 28 (some (.ref 6)) 1 900 (sL (lP w.params) 282 os) (piecesOf ((behindTheImports pgm).take 14) envT cT ⟨0, 0, 0, 0⟩ [topFrame ⟨0, 0, 0, 0⟩])).map (fun x => (x.1, obS 156 x.2.1, x.2.1.os, x.2.2)) = some (.next, vlS (lM w.params) 485, os, cT, ⟨39, 0, 129, 47⟩) := fun w os => by
  kernel_rfl
def looksG (p : Program) (s₀ s₁ : Shared) : Option Shared := match staticsOk (importedModules p.main.body) s₀.heap s₁.heap && namesBound p s₁.heap && gensDone s₁ && laidKept s₀.heap s₁.heap with
  | true => some s₁
  | false => none
theorem topFrom_of {p : Program} {w : World} {N m : Nat} {ann : Option Value} {s r r' : Shared} (z : (s.heap.isNs mainGlobals && s.gens.size == 0, s.heap.objs.size, s.heap.nsMap mainGlobals "__annotations__") = (true, m, ann)) (k : topRun treeTable p w m ann N s (topStub p) = some r') (l : looksG p s r' = some r) : topFrom treeTable p w N s = some r := by
  obtain ⟨z1, z2, z3⟩ : _ ∧ _ ∧ _ := by simpa only [Prod.mk.injEq] using z
  unfold topFrom
  rw [z1, z2, z3, k]
  exact l
theorem open_of {p : Program} {w : World} {N : Nat} {s r : Shared} {β : Type} {F : Shared → β} {y : β} (hs : fencedOpening treeTable p w N = some s) (t : topFrom treeTable p w N s = some r) (v : F r = y) : (openEnds treeTable p w N).map F = some y := by
  unfold openEnds
  rw [hs]
  show (topFrom treeTable p w N s).map F = _
  rw [t]
  exact congrArg some v
theorem parts_of {p : Program} {w : World} {N n1 n2 n3 n4 m k0 k1 k2 a b c : Nat} {ann : Option Value} {l0 l1 l2 : List Obj} {env : Env} {ct : Code} {q p1 p2 p3 : Pos} {bs : List Stmt} {i : Nat} {β : Type} {F : Shared → β} {y : β}
    (r0 : (fencedOpening treeTable p w N).map (obS a) = some (vlS l0 k0)) (ha : l0.length = a) (hb : l1.length = b) (hc : l2.length = c)
    (z : ∀ os, ((sL l0 k0 os).heap.isNs mainGlobals && (sL l0 k0 os).gens.size == 0, (sL l0 k0 os).heap.objs.size, (sL l0 k0 os).heap.nsMap mainGlobals "__annotations__") = (true, m, ann))
    (r1 : ∀ os, (topGo treeTable p w m ann n1 (sL l0 k0 os) (topStub p)).map (fun x => (obS b x.1, x.1.os, x.2)) = some (vlS l1 k1, os, ⟨denote treeTable (.body bs env), ct, p1, [topFrame q]⟩))
    (r2 : ∀ os, (segRun treeTable p w m ann 1 n2 (sL l1 k1 os) (blockOf bs env ct p1 [topFrame q])).map (fun x => (x.1, obS b x.2.1, x.2.1.os, x.2.2)) = some (.next, vlS l1 k1, os, ct, p2))
    (r3 : ∀ os, (segRun treeTable p w m ann 1 n3 (sL l1 k1 os) (piecesOf (bs.take i) env ct p2 [topFrame q])).map (fun x => (x.1, obS c x.2.1, x.2.1.os, x.2.2)) = some (.next, vlS l2 k2, os, ct, p3))
    (r4 : ∀ os, ((topRun treeTable p w m ann n4 (sL l2 k2 os) (restOf (bs.drop i) env ct p3 [topFrame q])).bind (looksG p (sL l0 k0 os))).map F = some y)
    (hN : n1 + (n2 + (n3 + n4)) ≤ N) : (openEnds treeTable p w N).map F = some y := by
  obtain ⟨s, hs, hv⟩ := Option.map_eq_some_iff.mp r0
  have e0 := obS_eq ha hv
  generalize s.os = os at e0
  subst e0
  obtain ⟨⟨s1, t1⟩, h1, v1⟩ := Option.map_eq_some_iff.mp (r1 os)
  simp only [Prod.mk.injEq] at v1
  obtain ⟨v1, o1, rfl⟩ := v1
  have e1 := obS_eq hb v1
  rw [o1] at e1; subst e1
  obtain ⟨⟨f2, s2, c2⟩, h2, v2⟩ := Option.map_eq_some_iff.mp (r2 os)
  simp only [Prod.mk.injEq] at v2
  obtain ⟨rfl, v2, o2, rfl⟩ := v2
  have e2 := obS_eq hb v2
  rw [o2] at e2; subst e2
  obtain ⟨⟨f3, s3, c3⟩, h3, v3⟩ := Option.map_eq_some_iff.mp (r3 os)
  simp only [Prod.mk.injEq] at v3
  obtain ⟨rfl, v3, o3, rfl⟩ := v3
  have e3 := obS_eq hc v3
  rw [o3] at e3; subst e3
  obtain ⟨r, h4, v4⟩ := Option.map_eq_some_iff.mp (r4 os)
  obtain ⟨r', h5, h6⟩ := Option.bind_eq_some_iff.mp h4
  have k3 := piece_app h3 h5
  rw [List.take_append_drop] at k3
  have k1 := topRun_mono (N - (n1 + (n2 + (n3 + n4)))) _ _ _ _ (go_top h1 (piece_block h2 k3))
  rw [Nat.add_sub_cancel' hN] at k1
  exact open_of hs (topFrom_of (z os) k1 h6) v4
set_option maxHeartbeats 0 in
theorem run4 : ∀ (w : World) (os : OsState), ((topRun treeTable pgm w 28 (some (.ref 6)) 2000 (sL (lM w.params) 485 os) (restOf ((behindTheImports pgm).drop 14) envT cT ⟨39, 0, 129, 47⟩ [topFrame ⟨0, 0, 0, 0⟩])).bind (looksG pgm (sL (lF w.params) 276 os))).map (fun s => (openSeen vw [Str.ofString "_twin_re_1", Str.ofString "_Accumulator"] (importedModules pgm.main.body) (fun s => xlAt vw [] s && recOk (RowW.records PySem.Challenge.rw_ij0179_01.row.toRowW) s) true s, obsZ hsA s)) = some (openGood vw [Str.ofString "_twin_re_1", Str.ofString "_Accumulator"], valZ hs 283 638 w) := fun w os => by
  kernel_rfl
theorem fence_ns : ∀ (P : Params) (os : OsState), ((sL (lF P) 276 os).heap.isNs mainGlobals && (sL (lF P) 276 os).gens.size == 0, (sL (lF P) 276 os).heap.objs.size, (sL (lF P) 276 os).heap.nsMap mainGlobals "__annotations__") = (true, 28, some (.ref 6)) := fun P os => by
  kernel_rfl
theorem left : LeftO PySem.Challenge.rw_ij0179_01.row.prog vw [Str.ofString "_twin_re_1", Str.ofString "_Accumulator"] (fun s => xlAt vw [] s && recOk (RowW.records PySem.Challenge.rw_ij0179_01.row.toRowW) s) (obsZ hsA) (valZ hs 283 638) 3168 := fun w =>
  parts_of (run0 w) (by rfl) (by rfl) (by rfl) (fence_ns w.params) (run1 w) (run2 w) (run3 w) (run4 w) (by decide)
end Mine
namespace Mine
/-- a statement of a list: what comes behind it is the one word N -/
def nextOr (N : Shared → Prop) (Q : Flow → Shared → Prop) (f : Flow) (s : Shared) : Prop := match f with | .next => N s | f => Q f s
theorem nx {N : Shared → Prop} {Q : Flow → Shared → Prop} {s : Shared} (h : N s) : nextOr N Q .next s := h
theorem nxb {N : Shared → Prop} {Q : Flow → Shared → Prop} {s : Shared} (h : Q .brk s) : nextOr N Q .brk s := h
theorem nxc {N : Shared → Prop} {Q : Flow → Shared → Prop} {s : Shared} (h : Q .cont s) : nextOr N Q .cont s := h
theorem nxr {N : Shared → Prop} {Q : Flow → Shared → Prop} {v : Value} {s : Shared} (h : Q (.ret v) s) : nextOr N Q (.ret v) s := h
theorem mstN {M : Model} {A : Around} {E : Value → Shared → Prop} {s : Shared} {st : Stmt} {rest : List Stmt} {env : Env} {Q : Flow → Shared → Prop}
    (h : ∀ N : Shared → Prop, (∀ s', wpAny M A (execs rest env) Q E s' → N s') → wpAny M A (exec st env) (nextOr N Q) E s) : wpAny M A (execs (st :: rest) env) Q E s :=
  wpAny_execs_cons (h _ (fun _ x => x))
theorem evSome {M : Model} {A : Around} {E : Value → Shared → Prop} {s : Shared} {e : Expr} {env : Env} {Q : Value → Shared → Prop} (h : wpAny M A (eval e env) Q E s) : wpAny M A (evalPart (some e) env) Q E s := h
theorem evNone {M : Model} {A : Around} {E : Value → Shared → Prop} {s : Shared} {env : Env} {Q : Value → Shared → Prop} (h : Q .none s) : wpAny M A (evalPart none env) Q E s := wpAny_of_eq (evalPart_none _) h
theorem dl0 {a n R : Nat} (h : a + n < R) : a < R := Nat.lt_of_le_of_lt (Nat.le_add_right a n) h
theorem dl {a n k R : Nat} (h : a + n < R) (hk : k ≤ n) : a + k < R := Nat.lt_of_le_of_lt (Nat.add_le_add_left hk a) h
theorem dl2 {a n j k R : Nat} (h : a + n < R) (hk : j + k ≤ n) : a + j + k < R := by rw [Nat.add_assoc]; exact dl h hk
theorem dl3 {a n j k l R : Nat} (h : a + n < R) (hk : j + k + l ≤ n) : a + j + k + l < R := by rw [Nat.add_assoc, Nat.add_assoc]; exact dl h (by omega)
theorem ge63 {n : Nat} (h : n ≤ 1000000) : ¬ ((n : Int) ≥ 2 ^ 63) := by omega
theorem kstep {k i n : Nat} (h : k + i = n + 1) (hi : i < n) : k - 1 + (i + 1) = n + 1 := by omega
theorem kpos {k i n : Nat} (h : k + i = n + 1) (hi : i < n) : k - 1 < k := by omega
theorem leq {i n : Nat} (h : i ≤ n) (h' : ¬ i < n) : i = n := Nat.le_antisymm h (Nat.not_lt.mp h')
theorem four {k : Int} (h0 : 0 ≤ k) (h3 : k ≤ 3) : k = 0 ∨ k = 1 ∨ k = 2 ∨ k = 3 := by omega
theorem three {k : Int} (hk : k ≠ 0) (h0 : 0 ≤ k) (h3 : k ≤ 3) : k = 1 ∨ k = 2 ∨ k = 3 := by omega
theorem last_ix {n : Nat} (h : 0 < n) : (-1 + (n : Int)).toNat = n - 1 := by omega
theorem last_ix1 {n : Nat} : (-1 + ((n : Int) + 1)).toNat = n := by omega
theorem max0 {n : Nat} : (max 0 (n : Int)).toNat = n := by omega
theorem tonat {z : Int} (h : 0 ≤ z) : (z.toNat : Int) = z := Int.toNat_of_nonneg h
/-- a ledger's objects but some: the ones that p picks -/
theorem sub_pick {α : Type} : ∀ (p : List Bool) (l : List α), ((p.zip l).filterMap fun x => if x.1 then some x.2 else none).Sublist l
  | [], l => List.nil_sublist l
  | _ :: _, [] => List.Sublist.slnil
  | true :: p, x :: l => by
    rw [List.zip_cons_cons, List.filterMap_cons]; exact (sub_pick p l).cons₂ x
  | false :: p, x :: l => by
    rw [List.zip_cons_cons, List.filterMap_cons]; exact (sub_pick p l).cons x
end Mine
set_option hygiene false in
local macro_rules | `(tactic| walk_at "st") => `(tactic| first
  | (with_reducible first
    | refine Mine.mstN fun N hN => ?_
    | refine Mine.nxb ?_
    | refine Mine.nxc ?_
    | refine Mine.nxr ?_
    | refine wpAny_Return_some ?_
    | refine Subscript_ ?_
    | refine wpAny_Slice ?_
    | refine Mine.evNone ?_
    | refine Mine.evSome ?_
    | refine wpAny_If ?_
    | refine Attribute_name ?_
    | refine Tuple_ ?_
    | refine List_ ?_
    | refine wpAny_Constant_none ?_
    | refine wpAny_BinOp ?_)
  | ((with_reducible first | refine wpAny_execs_nil ?_ | refine wpAny_Return_none ?_ | refine spliced_none ?_); (try dsimp only))
  | ((with_reducible refine Mine.nx ?_); apply_assumption)
  | ((with_reducible show wpAny _ _ (exec (Stmt.Assign _ _ _) _) _ _ _); first | refine wpAny_Assign_Name ?_ | refine wpAny_Assign_Subscript ?_ | refine plainObj_wpAny_Assign_Attribute ?_)
  | ((with_reducible show wpAny _ _ (exec (Stmt.Expr _ _) _) _ _ _); refine wpAny_Expr ?_)
  | ((with_reducible show wpAny _ _ (eval (Expr.Call _ _ _ _) _) _ _ _); first | refine MethodCall_ ?_ | refine Call_ ?_)
  | ((with_reducible show wpAny _ _ (spliced _) _ _ _); refine spliced_more ?_))
local macro_rules | `(tactic| walk_at "nx") => `(tactic| repeat (first
  | ((with_reducible refine Mine.nx ?_); apply_assumption)
  | ((with_reducible refine wpAny_execs_nil ?_); (try dsimp only))))
set_option hygiene false in
local macro_rules | `(tactic| walk_at "om") => `(tactic| first
  | (with_reducible assumption)
  | ((with_reducible first | refine Nat.le_trans (by assumption) ?_ | refine Nat.lt_of_le_of_lt (by assumption) ?_ | refine Mine.ge63 (Nat.le_trans (by assumption) ?_)); exact Nat.le_of_ble_eq_true rfl)
  | ((with_reducible first | refine Nat.lt_of_lt_of_le (by assumption) ?_ | refine Nat.le_of_lt (Nat.lt_of_lt_of_le (by assumption) ?_)); exact Nat.le_of_ble_eq_true rfl)
  | ((with_reducible first | refine Mine.dl hroom ?_ | refine Mine.dl hu ?_); exact Nat.le_of_ble_eq_true rfl)
  | (with_reducible exact Mine.dl0 hroom)
  | omega)
namespace Mine
noncomputable def FD (P : Params) (n : Nat) : FuncData := match (Kn P).lookup n with
  | some ⟨_, _, .func fd, _⟩ => fd
  | _ => default
def stmtsOf : FuncBody → List Stmt
  | .stmts b => b
  | _ => []
noncomputable def BD (P : Params) (n : Nat) : List Stmt := stmtsOf (FD P n).body
noncomputable abbrev EV (P : Params) (n : Nat) (L : Addr) : Env := callEnv (FD P n) L n

noncomputable def nsK (P : Params) (a : Addr) : Str → Option Value := match (Kn P).lookup a with
  | some ⟨_, _, .dict es _, _⟩ => nsFind es
  | _ => fun _ => none
def strKeysB (o : Option Obj) : Bool := match o with
  | some ⟨_, _, .dict es _, _⟩ => es.all fun e => match e.key with | .str _ _ => true | _ => false
  | _ => false
theorem ns_of {P : Params} {h : Heap} {a : Addr} (X : (Kn P).In h) (e : strKeysB ((Kn P).lookup a) = true) : h.Ns a (nsK P a) := by
  unfold strKeysB at e
  split at e
  · rename_i c d es ep sl ho
    refine ⟨_, es, ep, X _ _ ho, rfl, fun x hx => ?_, fun name => ?_⟩
    · have := Array.all_eq_true'.mp e x hx
      revert this
      cases hk : x.key <;> simp
    · unfold nsK; rw [ho]
  · cases e
theorem nsG {P : Params} {h : Heap} (X : (Kn P).In h) : h.Ns mainGlobals (nsK P 3) := ns_of X (by kernel_rfl)
theorem nsB {P : Params} {h : Heap} (X : (Kn P).In h) : h.Ns builtinsNs (nsK P 0) := ns_of X (by kernel_rfl)
theorem nsS {P : Params} {h : Heap} (X : (Kn P).In h) : h.Ns cStatics (nsK P 2) := ns_of X (by kernel_rfl)
theorem noLimit {P : Params} {h : Heap} (X : (Kn P).In h) : h.NoLimit := ⟨_, nsS X, by kernel_rfl⟩

theorem nne {α : Type} {l : List α} (h : l.Nodup) (i j : Nat) {a b : α} (hi : l[i]? = some a := by rfl) (hj : l[j]? = some b := by rfl) (e : Nat.beq i j = false := by rfl) : a ≠ b := fun q => by
  subst q
  obtain ⟨hi, ei⟩ := List.getElem?_eq_some_iff.mp hi
  obtain ⟨hj, ej⟩ := List.getElem?_eq_some_iff.mp hj
  exact Nat.ne_of_beq_eq_false e ((List.getElem_inj h).mp (ei.trans ej.symm))
/-- the first and the rest of a list without doubles do not meet -/
theorem ndj {α : Type} {l₁ l₂ : List α} (h : (l₁ ++ l₂).Nodup) {a b : α} (ha : a ∈ l₁) (hb : b ∈ l₂) : a ≠ b := (List.nodup_append.mp h).2.2 a ha b hb
def dkind : Data → Nat
  | .plain => 0 | .prim _ => 1 | .seq _ _ => 2 | .dict _ _ => 3 | .set _ _ _ => 4 | .bytearray _ _ => 5 | .cell _ => 6 | .func _ => 7 | .cls _ => 8 | .fields _ => 9 | .freed => 10
def okind (o : Obj) : Nat := match o.cls with
  | .none => dkind o.data * 3
  | .type _ => dkind o.data * 3 + 1
  | _ => dkind o.data * 3 + 2
/-- objects of two kinds lie apart -/
theorem gnk {h : Heap} {a b : Addr} {o o' : Obj} (ea : h.get? a = some o) (eb : h.get? b = some o') (k : Nat.beq (okind o) (okind o') = false := by rfl) : a ≠ b := fun q => by
  subst q
  rw [ea] at eb
  cases eb
  exact Nat.ne_of_beq_eq_false k rfl
theorem gnc {h : Heap} {a b : Addr} {o o' : Obj} (ea : h.get? a = some o) (eb : h.get? b = some o') (k : o.cls ≠ o'.cls) : a ≠ b := fun q => by
  subst q
  rw [ea] at eb
  cases eb
  exact k rfl
theorem tl_ne : Value.type "tuple" ≠ Value.type "list" := by decide
theorem gnkD {h : Heap} {d b : Addr} {m : Str → Option Value} {o' : Obj} (hn : h.Ns d m) (eb : h.get? b = some o') (k : Nat.beq (dkind o'.data) 3 = false := by rfl) : d ≠ b := fun q => by
  subst q
  obtain ⟨o, es, ep, ho, hd, _⟩ := hn
  rw [ho] at eb
  cases eb
  rw [hd] at k
  cases k
theorem gnkC {h : Heap} {c b : Addr} {n : Str} {o' : Obj} (hn : h.CodeRec (.ref c) n) (eb : h.get? b = some o') (k : Nat.beq (dkind o'.data) 9 = false := by rfl) : c ≠ b := fun q => by
  subst q
  obtain ⟨c2, o, vs, t, e, ho, hd, _⟩ := hn
  cases e
  rw [ho] at eb
  cases eb
  rw [hd] at k
  cases k
theorem ns_uniq {h : Heap} {a : Addr} {m m' : Str → Option Value} (x : h.Ns a m) (y : h.Ns a m') (n : Str) : m n = m' n := by
  obtain ⟨o, es, ep, e1, e2, -, e3⟩ := x
  obtain ⟨o', es', ep', f1, f2, -, f3⟩ := y
  rw [e1] at f1; cases f1
  rw [e2] at f2; cases f2
  rw [← e3, ← f3]
theorem ns_ne {h : Heap} {a b : Addr} {m m' : Str → Option Value} (x : h.Ns a m) (y : h.Ns b m') (n : Str) (e : m n ≠ m' n) : a ≠ b := fun q => by
  subst q
  exact e (ns_uniq x y n)
theorem nf5 {b x d ll t1 t2 : Addr} (h1 : b ≠ x) (h2 : b ≠ d) (h3 : b ≠ ll) (h4 : b ≠ t1) (h5 : b ≠ t2) : b ∉ [x, d, ll, t1, t2] := by simp [h1, h2, h3, h4, h5]
theorem nd5 {x d ll t1 t2 : Addr} (a1 : x ≠ d) (a2 : x ≠ ll) (a3 : x ≠ t1) (a4 : x ≠ t2) (b1 : d ≠ ll) (b2 : d ≠ t1) (b3 : d ≠ t2) (c1 : ll ≠ t1) (c2 : ll ≠ t2) (d1 : t1 ≠ t2) : [x, d, ll, t1, t2].Nodup := by simp [a1, a2, a3, a4, b1, b2, b3, c1, c2, d1]
theorem nf1 {α : Type} {b x : α} (h : b ≠ x) : b ∉ [x] := by simp [h]
theorem nf2 {α : Type} {b x y : α} (h1 : b ≠ x) (h2 : b ≠ y) : b ∉ [x, y] := by simp [h1, h2]
theorem nf3 {α : Type} {b x y z : α} (h1 : b ≠ x) (h2 : b ≠ y) (h3 : b ≠ z) : b ∉ [x, y, z] := by simp [h1, h2, h3]
theorem nf4 {α : Type} {b x y z u : α} (h1 : b ≠ x) (h2 : b ≠ y) (h3 : b ≠ z) (h4 : b ≠ u) : b ∉ [x, y, z, u] := by simp [h1, h2, h3, h4]
theorem fa2 {α : Type} {p : α → Prop} {a b : α} (ha : p a) (hb : p b) : ∀ x ∈ [a, b], p x := by simp [ha, hb]
theorem fa3 {α : Type} {p : α → Prop} {a b c : α} (ha : p a) (hb : p b) (hc : p c) : ∀ x ∈ [a, b, c], p x := by simp [ha, hb, hc]
theorem fa4 {α : Type} {p : α → Prop} {a b c d : α} (ha : p a) (hb : p b) (hc : p c) (hd : p d) : ∀ x ∈ [a, b, c, d], p x := by simp [ha, hb, hc, hd]
theorem fa5 {α : Type} {p : α → Prop} {a b c d e : α} (ha : p a) (hb : p b) (hc : p c) (hd : p d) (he : p e) : ∀ x ∈ [a, b, c, d, e], p x := by simp [ha, hb, hc, hd, he]
/-- a call's heap, split: g is frozen, led may change, L holds the locals m; σ is the state at the call's start -/
structure Own (P : Params) (foot : List Addr) (g : Heap) (σ s : Shared) (L : Addr) (m : Str → Option Value) (led : List (Addr × Obj)) : Prop where
  ns : s.heap.Ns L m
  keep : ∀ b o, g.get? b = some o → s.heap.get? b = some o
  kn : (Kn P).In g
  newL : g.get? L = none
  lg : ∀ p ∈ led, s.heap.get? p.1 = some p.2 ∧ p.1 ≠ L ∧ g.get? p.1 = none
  nd : (led.map (·.1)).Nodup
  bare : AllBare σ.gens → AllBare s.gens
  drawn : s.drawn = σ.drawn
  os : s.os = σ.os
  base : ∀ b o, b ∉ foot → σ.heap.get? b = some o → g.get? b = some o

def Ext (foot : List Addr) (h h' : Heap) : Prop := ∀ b o, b ∉ foot → h.get? b = some o → h'.get? b = some o
structure Post (foot : List Addr) (s s' : Shared) : Prop where
  ext : Ext foot s.heap s'.heap
  bare : AllBare s.gens → AllBare s'.gens
  drawn : s'.drawn = s.drawn
  os : s'.os = s.os

section
variable {P : Params} {foot : List Addr} {g : Heap} {σ s s' : Shared} {L : Addr} {m : Str → Option Value} {led led' : List (Addr × Obj)}
theorem Own.X (O : Own P foot g σ s L m led) : (Kn P).In s.heap := fun a o e => O.keep a o (O.kn a o e)
theorem Own.at (O : Own P foot g σ s L m led) (i : Nat) {a : Addr} {o : Obj} (hi : led[i]? = some (a, o)) : s.heap.get? a = some o := (O.lg _ (List.mem_of_getElem? hi)).1
theorem Own.mem (O : Own P foot g σ s L m led) {a : Addr} {o : Obj} (hi : (a, o) ∈ led) : s.heap.get? a = some o := (O.lg _ hi).1
theorem Own.toks (O : Own P foot g σ s L m led) (t : Nat) : Own P foot g σ { s with toks := t } L m led := ⟨O.ns, O.keep, O.kn, O.newL, O.lg, O.nd, O.bare, O.drawn, O.os, O.base⟩
theorem Own.fresh (O : Own P foot g σ s L m led) {a : Addr} (ha : s.heap.get? a = none) : g.get? a = none ∧ a ≠ L ∧ a ∉ led.map (·.1) := by
  refine ⟨?_, ?_, ?_⟩
  · cases e : g.get? a with
    | none => rfl
    | some o => rw [O.keep _ _ e] at ha; cases ha
  · rintro rfl
    obtain ⟨o, _, _, e, _⟩ := O.ns
    rw [e] at ha; cases ha
  · intro hm
    obtain ⟨p, hp, rfl⟩ := List.mem_map.mp hm
    rw [(O.lg p hp).1] at ha; cases ha
theorem get?_size_none (h : Heap) : h.get? h.objs.size = none := by
  cases e : h.get? h.objs.size with
  | none => rfl
  | some o => exact absurd (Heap.lt_size e) (Nat.lt_irrefl _)
theorem get?_ge_none {h : Heap} {a : Addr} (ha : h.objs.size ≤ a) : h.get? a = none := by
  cases e : h.get? a with
  | none => rfl
  | some o => exact absurd (Heap.lt_size e) (Nat.not_lt.mpr ha)
/-- a new object -/
theorem Own.push (O : Own P foot g σ s L m led) (o : Obj) (hf : o.isFreed = false := by rfl) (t : Nat := s.toks) : Own P foot g σ { s with heap := s.heap.push o, toks := t } L m ((s.heap.objs.size, o) :: led) := by
  obtain ⟨f1, f2, f3⟩ := O.fresh (get?_size_none s.heap)
  refine ⟨?_, fun b o' e => Heap.get?_push_of_some _ (O.keep b o' e), O.kn, O.newL, fun p hp => ?_, ?_, O.bare, O.drawn, O.os, O.base⟩
  · exact O.ns.keeps fun b o' e => Heap.get?_push_of_some _ e
  · rcases List.mem_cons.mp hp with rfl | hp
    · exact ⟨Heap.get?_push_size _ hf, f2, f1⟩
    · exact ⟨Heap.get?_push_of_some _ (O.lg p hp).1, (O.lg p hp).2⟩
  · rw [List.map_cons, List.nodup_cons]; exact ⟨f3, O.nd⟩
theorem map_set_fst : ∀ {l : List (Addr × Obj)} {i : Nat} {a : Addr} {o o' : Obj}, l[i]? = some (a, o) → (l.set i (a, o')).map (·.1) = l.map (·.1)
  | [], _, _, _, _, h => by cases h
  | x :: l, 0, a, o, o', h => by
    have : x = (a, o) := Option.some.inj h
    subst this; rfl
  | x :: l, i + 1, a, o, o', h => by
    show x.1 :: (l.set i (a, o')).map (·.1) = x.1 :: l.map (·.1)
    rw [map_set_fst (l := l) (i := i) (o := o) (by simpa using h)]
theorem mem_set_cases : ∀ {l : List (Addr × Obj)} {i : Nat} {a : Addr} {o o' : Obj}, (l.map (·.1)).Nodup → l[i]? = some (a, o) → ∀ p ∈ l.set i (a, o'), p = (a, o') ∨ (p ∈ l ∧ p.1 ≠ a)
  | [], _, _, _, _, _, h, _, _ => by cases h
  | x :: l, 0, a, o, o', hn, h, p, hp => by
    have : x = (a, o) := Option.some.inj h
    subst this
    rcases List.mem_cons.mp hp with rfl | hp
    · exact .inl rfl
    · refine .inr ⟨List.mem_cons_of_mem _ hp, fun e => ?_⟩
      rw [List.map_cons, List.nodup_cons] at hn
      exact hn.1 (List.mem_map.mpr ⟨p, hp, e⟩)
  | x :: l, i + 1, a, o, o', hn, h, p, hp => by
    rw [List.map_cons, List.nodup_cons] at hn
    have h' : l[i]? = some (a, o) := by simpa using h
    rcases List.mem_cons.mp hp with rfl | hp
    · exact .inr ⟨List.mem_cons_self .., fun e => hn.1 (List.mem_map.mpr ⟨_, List.mem_of_getElem? h', e.symm⟩)⟩
    · rcases mem_set_cases hn.2 h' p hp with q | q
      · exact .inl q
      · exact .inr ⟨List.mem_cons_of_mem _ q.1, q.2⟩
/-- an object of the ledger changed -/
theorem Own.change (O : Own P foot g σ s L m led) (i : Nat) {a : Addr} {o o' : Obj} {h' : Heap} (hi : led[i]? = some (a, o)) (hs : Heap.SameBut a s.heap h') (ho : h'.get? a = some o') (t : Nat := s.toks) :
    Own P foot g σ { s with heap := h', toks := t } L m (led.set i (a, o')) := by
  have z := O.lg _ (List.mem_of_getElem? hi)
  refine ⟨O.ns.sameBut hs (Ne.symm z.2.1), fun b ob e => (hs.2 b fun q => ?_).trans (O.keep b ob e), O.kn, O.newL, fun p hp => ?_, ?_, O.bare, O.drawn, O.os, O.base⟩
  · subst q; rw [z.2.2] at e; cases e
  · rcases mem_set_cases O.nd hi p hp with rfl | ⟨hp, hne⟩
    · exact ⟨ho, z.2⟩
    · exact ⟨(hs.2 _ hne).trans (O.lg p hp).1, (O.lg p hp).2⟩
  · rw [map_set_fst hi]; exact O.nd
theorem Own.update (O : Own P foot g σ s L m led) (i : Nat) {a : Addr} {o : Obj} {f : Obj → Obj} (hi : led[i]? = some (a, o)) (hf : (f o).isFreed = false := by rfl) (t : Nat := s.toks) :
    Own P foot g σ { s with heap := s.heap.update a f, toks := t } L m (led.set i (a, f o)) :=
  O.change i hi (Heap.SameBut.update ..) (Heap.get?_update_self _ (O.at i hi) hf) t
/-- the locals changed -/
theorem Own.locals (O : Own P foot g σ s L m led) {m' : Str → Option Value} {h' : Heap} (hn : h'.Ns L m') (hs : Heap.SameBut L s.heap h') (t : Nat := s.toks) : Own P foot g σ { s with heap := h', toks := t } L m' led :=
  ⟨hn, fun b o e => (hs.2 b fun q => by subst q; rw [O.newL] at e; cases e).trans (O.keep b o e), O.kn, O.newL, fun p hp => ⟨(hs.2 _ (O.lg p hp).2.1).trans (O.lg p hp).1, (O.lg p hp).2⟩, O.nd, O.bare, O.drawn, O.os, O.base⟩
/-- only more objects -/
theorem Own.more (O : Own P foot g σ s L m led) {h' : Heap} (hk : ∀ b o, s.heap.get? b = some o → h'.get? b = some o) (t : Nat := s.toks) : Own P foot g σ { s with heap := h', toks := t } L m led :=
  ⟨O.ns.keeps hk, fun b o e => hk _ _ (O.keep b o e), O.kn, O.newL, fun p hp => ⟨hk _ _ (O.lg p hp).1, (O.lg p hp).2⟩, O.nd, O.bare, O.drawn, O.os, O.base⟩
theorem Own.sub (O : Own P foot g σ s L m led) (h : ∀ p ∈ led', p ∈ led) (hn : (led'.map (·.1)).Nodup) : Own P foot g σ s L m led' :=
  ⟨O.ns, O.keep, O.kn, O.newL, fun p hp => O.lg p (h p hp), hn, O.bare, O.drawn, O.os, O.base⟩
theorem Own.tail (O : Own P foot g σ s L m led) {p : Addr × Obj} (e : led = p :: led') : Own P foot g σ s L m led' := by
  subst e
  exact O.sub (fun _ h => List.mem_cons_of_mem _ h) (by have := O.nd; rw [List.map_cons, List.nodup_cons] at this; exact this.2)
theorem Own.off (O : Own P foot g σ s L m led) {a : Addr} {o : Obj} (hi : (a, o) ∈ led) : (Kn P).lookup a = none := by
  cases e : (Kn P).lookup a with
  | none => rfl
  | some ob => have := O.kn _ _ e; rw [(O.lg _ hi).2.2] at this; cases this
/-- behind a call of known footprint -/
theorem Own.after (O : Own P foot g σ s L m led) {ft : List Addr} (p : Post ft s s') (hf : ∀ a ∈ ft, a ∈ led.map (·.1))
    (hl : ∀ p ∈ led', s'.heap.get? p.1 = some p.2 ∧ (p.1 ∈ led.map (·.1) ∨ s.heap.get? p.1 = none)) (hn : (led'.map (·.1)).Nodup) : Own P foot g σ s' L m led' := by
  have off : ∀ b o, g.get? b = some o → b ∉ ft := fun b o e hb => by
    obtain ⟨q, hq, rfl⟩ := List.mem_map.mp (hf b hb)
    rw [(O.lg q hq).2.2] at e; cases e
  have offL : L ∉ ft := fun hb => by
    obtain ⟨q, hq, e⟩ := List.mem_map.mp (hf L hb)
    exact (O.lg q hq).2.1 e
  refine ⟨O.ns.at' fun o e => p.ext _ _ offL e, fun b o e => p.ext _ _ (off b o e) (O.keep b o e), O.kn, O.newL, fun q hq => ⟨(hl q hq).1, ?_⟩, hn, fun x => p.bare (O.bare x), p.drawn.trans O.drawn, p.os.trans O.os, O.base⟩
  rcases (hl q hq).2 with z | z
  · obtain ⟨q', hq', e⟩ := List.mem_map.mp z
    rw [← e]; exact (O.lg q' hq').2
  · exact ⟨(O.fresh z).2.1, (O.fresh z).1⟩
theorem hide_nodup {h : Heap} {l : List Addr} {b : Addr} {o : Obj} (e : h.get? b = some o) (hb : b ∉ l) : (hideAll h l).get? b = some o := hideAll_get l e hb
theorem Own.post (O : Own P foot g σ s L m led) : Post foot σ s :=
  ⟨fun b o hb e => O.keep b o (O.base b o hb e), O.bare, O.drawn, O.os⟩
/-- an object of the ledger that the footprint does not name is new -/
theorem Own.new (O : Own P foot g σ s L m led) {a : Addr} (ha : a ∈ led.map (·.1)) (hf : a ∉ foot) : σ.heap.get? a = none := by
  cases e : σ.heap.get? a with
  | none => rfl
  | some o =>
    obtain ⟨q, hq, rfl⟩ := List.mem_map.mp ha
    have := O.base _ _ hf e
    rw [(O.lg q hq).2.2] at this; cases this
/-- all but the ledger and the locals is frozen -/
theorem Own.freeze (O : Own P foot g σ s L m led) (h : ∀ p ∈ led', s.heap.get? p.1 = some p.2 ∧ p.1 ∈ led.map (·.1)) (hn : (led'.map (·.1)).Nodup) :
    ∃ g', Own P foot g' σ s L m led' ∧ (∀ b o, g.get? b = some o → g'.get? b = some o) ∧ ∀ b o, b ≠ L → b ∉ led'.map (·.1) → s.heap.get? b = some o → g'.get? b = some o := by
  have up : ∀ b o, b ≠ L → b ∉ led'.map (·.1) → s.heap.get? b = some o → (hideAll s.heap (L :: led'.map (·.1))).get? b = some o := fun b o h1 h2 e =>
    hideAll_get _ e fun hm => (List.mem_cons.mp hm).elim h1 h2
  have gu : ∀ b o, g.get? b = some o → (hideAll s.heap (L :: led'.map (·.1))).get? b = some o := fun b o e => by
    refine up b o (fun q => by subst q; rw [O.newL] at e; cases e) (fun hm => ?_) (O.keep b o e)
    obtain ⟨p, hp, rfl⟩ := List.mem_map.mp hm
    obtain ⟨q, hq, e'⟩ := List.mem_map.mp (h p hp).2
    rw [← e', (O.lg q hq).2.2] at e; cases e
  refine ⟨_, ⟨O.ns, fun b o e => of_hideAll _ e, fun a o e => gu _ _ (O.kn a o e), hideAll_none _ (List.mem_cons_self ..), fun p hp => ?_, hn, O.bare, O.drawn, O.os, fun b o hb e => gu _ _ (O.base b o hb e)⟩, gu, up⟩
  refine ⟨(h p hp).1, ?_, hideAll_none _ (List.mem_cons_of_mem _ (List.mem_map_of_mem hp))⟩
  obtain ⟨q, hq, e'⟩ := List.mem_map.mp (h p hp).2
  rw [← e']; exact (O.lg q hq).2.1
/-- behind a call: the ledger told anew, all else frozen -/
theorem Own.call (O : Own P foot g σ s L m led) {ft : List Addr} (p : Post ft s s') (hf : ∀ a ∈ ft, a ∈ led.map (·.1))
    (hl : ∀ p ∈ led', s'.heap.get? p.1 = some p.2 ∧ (p.1 ∈ led.map (·.1) ∨ s.heap.get? p.1 = none)) (hn : (led'.map (·.1)).Nodup) :
    ∃ g', Own P foot g' σ s' L m led' ∧ (∀ b o, g.get? b = some o → g'.get? b = some o) ∧ ∀ b o, b ≠ L → b ∉ led'.map (·.1) → s'.heap.get? b = some o → g'.get? b = some o :=
  (O.after p hf hl hn).freeze (fun q hq => ⟨(hl q hq).1, List.mem_map_of_mem hq⟩) hn
end

section
variable {P : Params} {h : Heap} {a : Addr} {o : Obj} {l : List (Addr × Obj)}
def Off (P : Params) (a : Addr) : Prop := (Kn P).lookup a = none
def LedOk (P : Params) (h : Heap) (l : List (Addr × Obj)) : Prop := ∀ p ∈ l, h.get? p.1 = some p.2 ∧ Off P p.1
theorem led_nil : LedOk P h [] := fun _ hp => absurd hp List.not_mem_nil
theorem led_cons (h1 : h.get? a = some o) (h2 : Off P a) (h3 : LedOk P h l) : LedOk P h ((a, o) :: l) := List.forall_mem_cons.mpr ⟨⟨h1, h2⟩, h3⟩
end
section
variable {prog : Program} {w : World} {A : Around} {E : Value → Shared → Prop} {s : Shared} {P : Params}
def flowV : Flow → Value
  | .ret v => v
  | _ => .none
/-- the call of a top function or method that has no cells of its own -/
theorem enter (n : Nat) (binds : List (Str × Value)) (led : List (Addr × Obj)) {R : Result → Shared → Prop} {args : Args}
    (X : (Kn P).In s.heap) (hroom : A.depth < recursionLimit)
    (hled : LedOk P s.heap led) (hnd : (led.map (·.1)).Nodup)
    (h : ∀ L s' g, (∀ b o, b ∉ led.map (·.1) → s.heap.get? b = some o → g.get? b = some o) → Own P (led.map (·.1)) g s s' L (fun y => binds.reverse.lookup y) led →
      wpAny (model prog w) (A.deeper (EV P n L)) (execs (BD P n) (EV P n L))
        (fun f s' => R (.ok (.ret (flowV f))) s')
        (fun e s' => wpAny (model prog w) (A.deeper (EV P n L)) (leaving (EV P n L) e) (fun _ s'' => R (.error e) s'') (fun e' s'' => R (.error e') s'') s') s')
    (hbind : BindsTo s (FD P n) args binds := by (refine BindsTo.of_eq ?_; kernel_rfl))
    (hfd : (Kn P).lookup n = some ⟨.type "function", none, .func (FD P n), #[]⟩ := by kernel_rfl)
    (hcode : codeIn (Kn P) (FD P n).code (FD P n).qualname = true := by kernel_rfl) (hbody : (FD P n).body = .stmts (BD P n) := by kernel_rfl)
    (hcell : ((FD P n).scope.names.all fun x => x.2 != .cell) = true := by kernel_rfl) (hloc : (binds.all fun x => (FD P n).scope.names.lookup x.1 == some .local) = true := by kernel_rfl)
    (hco : (FD P n).scope.isCoroutine = false := by kernel_rfl) (hgen : (FD P n).scope.isGenerator = false := by kernel_rfl) (hk : (FD P n).scope.kind = .function := by kernel_rfl) :
    codeAny (model prog w) A (.call (.ref n) args) R s := by
  refine codeAny_call_def hroom (X _ _ hfd) rfl (noLimit X) (codeRec_of X hcode) hbody hbind
    (fun x hx e => by have := List.all_eq_true.mp hcell x hx; rw [e] at this; cases this) (fun x hx => by have := List.all_eq_true.mp hloc x hx; exact beq_iff_eq.mp this) (fun h₀ hns hk₀ => ?_) hco hgen hk
  refine wpAny_mono (h s.heap.objs.size _ (hideAll s.heap (led.map (·.1))) (fun b o hb e => hide_nodup e hb) ⟨hns, fun b o e => hk₀ b o (of_hideAll _ e), fun a o e => hideAll_get _ (X a o e) fun hm => ?_, ?_, fun p hp => ⟨hk₀ _ _ (hled p hp).1, Nat.ne_of_lt (Heap.lt_size (hled p hp).1), hideAll_none _ (List.mem_map_of_mem hp)⟩, hnd, id, rfl, rfl, fun b o hb e => hide_nodup e hb⟩) (fun f s' hf => ?_) fun _ _ e => e
  · obtain ⟨p, hp, rfl⟩ := List.mem_map.mp hm
    have z : (Kn P).lookup p.1 = none := (hled p hp).2
    rw [z] at e; cases e
  · cases e : (hideAll s.heap (led.map (·.1))).get? s.heap.objs.size with
    | none => rfl
    | some o => exact absurd (Heap.lt_size (of_hideAll _ e)) (Nat.lt_irrefl _)
  · cases f <;> exact hf
end

/-- a walk with its two ends hidden -/
theorem absQE {M : Model} {A : Around} {t : Sem Flow} {Qc : Flow → Shared → Prop} {Ec : Value → Shared → Prop} {s : Shared} (h : ∀ (Q : Flow → Shared → Prop) (E : Value → Shared → Prop), (∀ f s', Qc f s' → Q f s') → wpAny M A t Q E s) : wpAny M A t Qc Ec s := h Qc Ec fun _ _ x => x
section
variable {M : Model} {A : Around} {E : Value → Shared → Prop} {P : Params} {foot : List Addr} {g : Heap} {σ s : Shared} {L : Addr} {m : Str → Option Value} {led : List (Addr × Obj)} {env : Env}
theorem ldO {x : Str} {pos : Pos} {v : Value} {Q : Value → Shared → Prop} (O : Own P foot g σ s L m led) (hv : m x = some v) (h : Q v s)
    (hL : env.locals = L := by rfl) (hk : env.scope.kind = .function := by kernel_rfl) (hl : env.kindOf x = some .local := by kernel_rfl) (hd : (x == ("__debug__" : Str)) = false := by kernel_rfl) :
    wpAny M A (eval (.Name x pos) env) Q E s := wpAny_Name (wpAny_loadName_local hk hl (hL ▸ O.ns) hv h) hd
theorem ldnO {x : Str} {v : Value} {Q : Value → Shared → Prop} (O : Own P foot g σ s L m led) (hv : m x = some v) (h : Q v s)
    (hL : env.locals = L := by rfl) (hk : env.scope.kind = .function := by kernel_rfl) (hl : env.kindOf x = some .local := by kernel_rfl) :
    wpAny M A (loadName env x) Q E s := wpAny_loadName_local hk hl (hL ▸ O.ns) hv h
theorem stO {x : Str} {v : Value} {Q : Unit → Shared → Prop} (O : Own P foot g σ s L m led)
    (h : ∀ s', Own P foot g σ s' L (fun y => if y = x then some v else m y) led → Q () s')
    (hL : env.locals = L := by rfl) (hk : env.scope.kind = .function := by kernel_rfl) (hl : env.kindOf x = some .local := by kernel_rfl) : wpAny M A (storeName env x v) Q E s :=
  wpAny_storeName_local hl (hL ▸ O.ns) (fun h' hn hs => h _ (O.locals (hL ▸ hn) (hL ▸ hs) (s.toks + 1))) (by rw [hk]; rfl)
theorem ldG {x : Str} {pos : Pos} {v : Value} {Q : Value → Shared → Prop} (O : Own P foot g σ s L m led) (h : Q v s) (hv : nsK P 3 x = some v := by kernel_rfl)
    (hg : env.globals = mainGlobals := by kernel_rfl) (hk : env.scope.kind = .function := by kernel_rfl) (hl : env.kindOf x = some .globalImplicit := by kernel_rfl) (hd : (x == ("__debug__" : Str)) = false := by kernel_rfl) :
    wpAny M A (eval (.Name x pos) env) Q E s := Name_function_global hk hl (loadGlobal_global (hg ▸ nsG O.X) hv h) hd
theorem ldB {x : Str} {pos : Pos} {v : Value} {Q : Value → Shared → Prop} (O : Own P foot g σ s L m led) (h : Q v s) (hn : nsK P 3 x = none := by kernel_rfl) (hv : nsK P 0 x = some v := by kernel_rfl)
    (hg : env.globals = mainGlobals := by kernel_rfl) (hb : env.builtins = builtinsNs := by kernel_rfl) (hk : env.scope.kind = .function := by kernel_rfl) (hl : env.kindOf x = some .globalImplicit := by kernel_rfl) (hd : (x == ("__debug__" : Str)) = false := by kernel_rfl) :
    wpAny M A (eval (.Name x pos) env) Q E s := Name_function_global hk hl (loadGlobal_builtin (hg ▸ nsG O.X) hn (hb ▸ nsB O.X) hv h) hd
theorem intO {i : Int} {k : Nat} {pos : Pos} {Q : Value → Shared → Prop} (O : Own P foot g σ s L m led) (h : ∀ t s', Own P foot g σ s' L m led → Q (.int i t) s') : wpAny M A (eval (.Constant (.int i) k pos) env) Q E s :=
  wpAny_Constant_int (h _ _ (O.toks _))
theorem strO {x : Str} {k : Nat} {pos : Pos} {Q : Value → Shared → Prop} (O : Own P foot g σ s L m led) (h : ∀ t s', Own P foot g σ s' L m led → Q (.str x t) s') : wpAny M A (eval (.Constant (.str x) k pos) env) Q E s :=
  Constant_str (h _ _ (O.toks _))
theorem tupO {vs : List Value} {Q : Value → Shared → Prop} (O : Own P foot g σ s L m led) (h : ∀ a s', s.heap.get? a = none → Own P foot g σ s' L m ((a, { cls := .type "tuple", data := .seq vs.toArray }) :: led) → Q (.ref a) s')
    (hsz : vs.length ≤ sizeLine := by first | exact Nat.le_of_ble_eq_true rfl | size_fits) : wpAny M A (newTuple vs) Q E s :=
  wpAny_newTuple (h _ _ (get?_size_none _) (O.push _)) hsz
theorem lstO {vs : List Value} {Q : Value → Shared → Prop} (O : Own P foot g σ s L m led) (h : ∀ a s', s.heap.get? a = none → Own P foot g σ s' L m ((a, { cls := .type "list", data := .seq vs.toArray }) :: led) → Q (.ref a) s')
    (hsz : vs.length ≤ sizeLine := by first | exact Nat.le_of_ble_eq_true rfl | size_fits) : wpAny M A (newList vs) Q E s :=
  wpAny_newList (h _ _ (get?_size_none _) (O.push _)) hsz
end
end Mine
namespace Mine
section
variable {prog : Program} {w : World} {A : Around} {E : Value → Shared → Prop} {s : Shared}
theorem check_any {M : Model} {i owner n : String} {self : Value} {rest : List Value} {kw : List (Str × Value)} {Q : Unit → Shared → Prop}
    (hk : builtinKind i = some .slot ∨ builtinKind i = some .method) (hs : splitId i = some (owner, n)) (hi : Looks M s.heap (isInstance self (.type owner)) true) (ha : argsOk i ⟨self :: rest, kw⟩) (q : Q () s) :
    wpAny M A (checkBuiltinCall i ⟨self :: rest, kw⟩) Q E s := by
  rcases hk with hk | hk <;>
  · simp only [checkBuiltinCall, hk, hs]
    refine wpAny_bind (hi.here ?_)
    simp only [Bool.not_true, Bool.false_eq_true, if_false]
    cases hsig : Manifest.signature? i with
    | none => exact wpAny_pure q
    | some sig =>
      simp only [argsOk, hsig] at ha
      have h2 : Bind.checkArgs i sig ⟨self :: rest, kw⟩ = pure () := ha
      show wpAny M A (Bind.checkArgs i sig ⟨self :: rest, kw⟩) Q E s
      rw [h2]; exact wpAny_pure q
/-- a built-in method or slot called upon an object of its owner -/
theorem callOn {id owner n : String} {b : Builtin} {self : Value} {rest : List Value} {Q : Value → Shared → Prop}
    (hi : Looks (model prog w) s.heap (isInstance self (.type owner)) true) (ha : argsOk id ⟨self :: rest, []⟩)
    (hc : wpAny (model prog w) A.in1 (b ⟨self :: rest, []⟩) (fun fin s' => ∃ v, fin = .done (.ret v) ∧ Q v s') E s)
    (hk : builtinKind id = some .slot ∨ builtinKind id = some .method) (hs : splitId id = some (owner, n) := by decide +kernel) (hp : plainId id = true := by decide +kernel) (hb : entryFor table id = some b := by exact entryFor_of_tree (by kernel_rfl)) :
    wpAny (model prog w) A (call (.builtin id) (self :: rest)) Q E s := by
  refine wpAny_call (codeAny_call_builtin hp hb (check_any hk hs hi ha (wpAny_mono hc (fun fin s' h' => ?_) fun _ _ h' => h')))
  obtain ⟨v, rfl, hv⟩ := h'; exact hv
end

abbrev accObj (d : Addr) (xs : Array Value) (n : Nat) : Obj := ⟨.ref 235, some d, .seq xs n, #[]⟩
section
variable {prog : Program} {w : World} {A : Around} {E : Value → Shared → Prop} {s : Shared} {x d : Addr} {xs : Array Value} {n : Nat} {m : Str → Option Value}
theorem acc_type {M : Model} {h : Heap} (hx : h.get? x = some (accObj d xs n)) : Looks M h (typeOf (.ref x)) (.ref 235) := (Looks.ld hx).andThen .now
theorem acc_inst {P : Params} {M : Model} {h : Heap} (X : (Kn P).In h) (hx : h.get? x = some (accObj d xs n)) : Looks M h (isInstance (.ref x) (.type "list")) true :=
  (acc_type hx).andThen (looks_mroIn X (by kernel_rfl))
theorem looks_ns {M : Model} {h : Heap} {name : Str} {m : Str → Option Value} {r : Option Value} (hd : h.Ns d m) (e : m name = r) : Looks M h (nsGet d name) r := by
  intro A Q E s k q
  refine wpAny_nsGet (hd.keeps k) ?_
  rw [e]; exact q
theorem acc_method {name : Str} {f : Value} {T : String} {pl : Sem Bool} {Q : Value × List Value → Shared → Prop} (X : (Kn w.params).In s.heap)
   (hx : s.heap.get? x = some (accObj d xs n)) (hd : s.heap.Ns d m) (hn : m name = none)
   (hf : findIn (Kn w.params) (.ref 235) name = some (some f)) (ht : typeIn (Kn w.params) f = some (.type T)) (hT : T = "function" ∨ T = "method_descriptor" ∨ T = "wrapper_descriptor")
   (h : Q (f, [.ref x]) s) : wpAny (model prog w) A (getMethod (.ref x) name pl) Q E s := by
  obtain ⟨hp,g,dr,t,os⟩ := s
  dsimp only at *
  have T : Looks (model prog w) hp (typeOf (.ref x)) (.ref 235) := acc_type hx
  have L1 : Looks (model prog w) hp (typeLookup (.ref 235) "__getattribute__") (some (.builtin "list.__getattribute__")) := looks_findIn X (by kernel_rfl)
  have L2 : Looks (model prog w) hp (typeLookup (.ref 235) "__getattr__") (none) := looks_findIn X (by kernel_rfl)
  have L3 : Looks (model prog w) hp (typeLookup (.ref 235) name) (some f) := looks_findIn X hf
  have L4 : Looks (model prog w) hp (typeOf f) (.type _) := looks_typeIn X ht
  have L5 : Looks (model prog w) hp (nsGet d name) none := looks_ns hd hn
  unfold getMethod
  rcases hT with rfl | rfl | rfl <;> (repeat lk) <;> exact h
theorem acc_append {v : Value} {Q : Value → Shared → Prop} (X : (Kn w.params).In s.heap) (hx : s.heap.get? x = some (accObj d xs n)) (hsz : xs.size < sizeLine)
    (h : Q .none { s with heap := s.heap.update x (Obj.mapSeq (·.push v)) }) : wpAny (model prog w) A (call (.builtin "list.append") [.ref x, v]) Q E s := by
  refine callOn (n := "append") (b := Builtin.«list.append») (acc_inst X hx) (PySem.F.args_list_append_2 _ _) ?_ (.inr (by decide +kernel))
  show wpAny _ _ (updateSeq x (·.push v) >>= fun _ => ret .none) _ _ s
  refine wpAny_bind ?_
  exact wpAny_updateSeq hx rfl (wpAny_pure ⟨.none, rfl, h⟩)
end
end Mine
namespace Mine
section
variable {prog : Program} {w : World} {A : Around} {R : Result → Shared → Prop} {s : Shared} {x d : Addr} {xs : Array Value} {n : Nat} {m : Str → Option Value}
theorem push_ok {f v : Value} (X : (Kn w.params).In s.heap) (hroom : A.depth < recursionLimit) (hx : s.heap.get? x = some (accObj d xs n)) (hd : s.heap.Ns d m) (hxd : x ≠ d)
    (ax : Off w.params x) (hn : m "append" = none) (hsz : xs.size < 1000)
    (h : ∀ s' t n', Post [x] s s' → s.heap.get? t = none → s'.heap.get? t = some { cls := .type "tuple", data := .seq #[f, v] } → s'.heap.get? x = some (accObj d (xs.push (.ref t)) n') → R (.ok (.ret .none)) s') :
    codeAny (model prog w) A (.call (.ref 179) ⟨[.ref x, f, v], []⟩) R s := by
  refine enter 179 [("self", .ref x), ("fws", f), ("string", v)] [(x, accObj d xs n)] X hroom (led_cons hx ax led_nil) (by simp) ?_
  intro L s₁ g up O
  refine absQE fun Q E hR => ?_
  have hd₁ : s₁.heap.Ns d m := hd.at' fun o e => O.keep _ _ (up _ _ (by simp [Ne.symm hxd]) e)
  refine mstN fun N hN => ?_
  walk_at "st"
  walk_at "st"
  refine ldO O (by rfl) ?_
  refine acc_method (f := .builtin "list.append") (T := "method_descriptor") O.X (O.at 0 rfl) hd₁ hn (by kernel_rfl) (by kernel_rfl) (.inr (.inl rfl)) ?_
  dsimp only
  refine callWith_method1 ?_
  repeat walk_at "st"
  refine ldO O (by rfl) ?_
  repeat walk_at "st"
  refine ldO O (by rfl) ?_
  repeat walk_at "st"
  refine tupO O fun t s₂ ht O₂ => ?_
  repeat walk_at "st"
  refine acc_append O₂.X (O₂.at 1 rfl) (by simp only [sizeLine]; walk_at "om") ?_
  have O₃ := O₂.update 1 (f := Obj.mapSeq (·.push (.ref t))) rfl
  generalize hs₃ : ({ s₂ with heap := s₂.heap.update x (Obj.mapSeq (·.push (.ref t))) } : Shared) = s₃ at O₃ ⊢
  repeat walk_at "st"
  have ht0 : s.heap.get? t = none := by
    cases e : s.heap.get? t with
    | none => rfl
    | some o =>
      by_cases hq : t = x
      · rw [hq, O.at 0 rfl] at ht; cases ht
      · rw [O.keep _ _ (up _ _ (by simpa using hq) e)] at ht; cases ht
  exact hR _ _ (h _ t _ O₃.post ht0 (O₃.at 0 rfl) (O₃.at 1 rfl))
end
end Mine
namespace Mine
noncomputable def codeA (P : Params) (n : Nat) : Addr := match (FD P n).code with
  | .ref c => c
  | _ => 0
noncomputable def codeO (P : Params) (n : Nat) : Obj := ((Kn P).lookup (codeA P n)).getD default
noncomputable def codeV (P : Params) (n : Nat) : Array Value := match (codeO P n).data with
  | .fields vs => vs
  | _ => #[]
noncomputable def codeF (P : Params) (n : Nat) : Str × Tok := match ((codeV P n)[2]? : Option Value) with
  | some (.str f t) => (f, t)
  | _ => (Str.empty, 0)
noncomputable def fileN (P : Params) : Str := (codeF P 232).1
/-- what the walk under super() asks of the program -/
def PG (prog : Program) (P : Params) : Prop := ((prog.main.file : Str) == fileN P) = true ∧ (prog.main.scope.names.lookup ("super" : Str)).isSome = false
section
variable {prog : Program} {w : World} {A : Around} {E : Value → Shared → Prop} {s : Shared} {P : Params}
/-- the call of a method with the class's cell in its closure -/
theorem enterAt (n : Nat) (binds : List (Str × Value)) (led : List (Addr × Obj)) {R : Result → Shared → Prop} {args : Args}
    (X : (Kn P).In s.heap) (hroom : A.depth < recursionLimit)
    (hled : LedOk P s.heap led) (hnd : (led.map (·.1)).Nodup)
    (h : ∀ L s' g, (∀ b o, b ∉ led.map (·.1) → s.heap.get? b = some o → g.get? b = some o) → Own P (led.map (·.1)) g s s' L (fun y => binds.reverse.lookup y) led →
      _root_.PySem.wpAt (model prog w) (A.deeper (EV P n L)) (.func (BD P n) (EV P n L)) (execs (BD P n) (EV P n L))
        (fun f s' => R (.ok (.ret (flowV f))) s')
        (fun e s' => wpAny (model prog w) (A.deeper (EV P n L)) (leaving (EV P n L) e) (fun _ s'' => R (.error e) s'') (fun e' s'' => R (.error e') s'') s') s')
    (hbind : BindsTo s (FD P n) args binds := by (refine BindsTo.of_eq ?_; kernel_rfl))
    (hfd : (Kn P).lookup n = some ⟨.type "function", none, .func (FD P n), #[]⟩ := by kernel_rfl)
    (hcode : codeIn (Kn P) (FD P n).code (FD P n).qualname = true := by kernel_rfl) (hbody : (FD P n).body = .stmts (BD P n) := by kernel_rfl)
    (hcell : ((FD P n).scope.names.all fun x => x.2 != .cell) = true := by kernel_rfl) (hloc : (binds.all fun x => (FD P n).scope.names.lookup x.1 == some .local) = true := by kernel_rfl)
    (hco : (FD P n).scope.isCoroutine = false := by kernel_rfl) (hgen : (FD P n).scope.isGenerator = false := by kernel_rfl) (hk : (FD P n).scope.kind = .function := by kernel_rfl) :
    codeAny (model prog w) A (.call (.ref n) args) R s := by
  refine ks_codeAny_call_defAt hroom (X _ _ hfd) rfl (noLimit X) (codeRec_of X hcode) hbody hbind
    (fun x hx e => by have := List.all_eq_true.mp hcell x hx; rw [e] at this; cases this) (fun x hx => by have := List.all_eq_true.mp hloc x hx; exact beq_iff_eq.mp this) (fun h₀ hns hk₀ => ?_) hco hgen hk
  refine ks_wpAt_mono (h s.heap.objs.size _ (hideAll s.heap (led.map (·.1))) (fun b o hb e => hide_nodup e hb) ⟨hns, fun b o e => hk₀ b o (of_hideAll _ e), fun a o e => hideAll_get _ (X a o e) fun hm => ?_, ?_, fun p hp => ⟨hk₀ _ _ (hled p hp).1, Nat.ne_of_lt (Heap.lt_size (hled p hp).1), hideAll_none _ (List.mem_map_of_mem hp)⟩, hnd, id, rfl, rfl, fun b o hb e => hide_nodup e hb⟩) (fun f s' hf => ?_) fun _ _ e => e
  · obtain ⟨p, hp, rfl⟩ := List.mem_map.mp hm
    have z : (Kn P).lookup p.1 = none := (hled p hp).2
    rw [z] at e; cases e
  · cases e : (hideAll s.heap (led.map (·.1))).get? s.heap.objs.size with
    | none => rfl
    | some o => exact absurd (Heap.lt_size (of_hideAll _ e)) (Nat.lt_irrefl _)
  · cases f <;> exact hf
end
theorem acc_cls {P : Params} {h : Heap} (X : (Kn P).In h) : ∃ o cd, h.get? 235 = some o ∧ o.data = .cls cd := by
  have hD : (clsIn (Kn P) 235).isSome = true := by kernel_rfl
  obtain ⟨cd, hD⟩ := Option.isSome_iff_exists.mp hD
  unfold clsIn at hD
  split at hD
  · rename_i c d cd' sl ho
    exact ⟨_, _, X _ _ ho, rfl⟩
  · cases hD
section
variable {prog : Program} {w : World} {A : Around} {E : Value → Shared → Prop} {foot : List Addr} {g : Heap} {σ s : Shared} {L : Addr} {m : Str → Option Value} {led : List (Addr × Obj)} {x d : Addr} {xs : Array Value} {k : Nat}
theorem superO (n : Nat) {body : List Stmt} {p0 p1 : Pos} {attr : Str} {whole : Sem Value} {Q : Value → Shared → Prop}
    (O : Own w.params foot g σ s L m led) (pg : PG prog w.params) (hx : s.heap.get? x = some (accObj d xs k)) (hv : m "self" = some (.ref x))
    (h : ∀ so s', s.heap.get? so = none → Own w.params foot g σ s' L m ((so, ks_superObj 235 x 235) :: led) → Q (.ref so) s')
    (hfn : (FD w.params n).code = .ref (codeA w.params n) := by kernel_rfl) (hoc : (Kn w.params).lookup (codeA w.params n) = some (codeO w.params n) := by kernel_rfl) (hod : (codeO w.params n).data = .fields (codeV w.params n) := by kernel_rfl)
    (hvs : (codeV w.params n)[2]? = some (.str (fileN w.params) (codeF w.params n).2) := by kernel_rfl)
    (hp : (((FD w.params n).params.posonlyargs ++ (FD w.params n).params.args).head?).map (·.arg) = some "self" := by kernel_rfl)
    (hfd : (Kn w.params).lookup n = some ⟨.type "function", none, .func (FD w.params n), #[]⟩ := by kernel_rfl)
    (hks : (EV w.params n L).kindOf "super" = some .globalImplicit := by kernel_rfl) (hkc : (EV w.params n L).kindOf "__class__" = some .free := by kernel_rfl)
    (hka : (EV w.params n L).kindOf "self" = some .local := by kernel_rfl) (hk : (EV w.params n L).scope.kind = .function := by kernel_rfl)
    (hgl : (EV w.params n L).globals = mainGlobals := by kernel_rfl) (hbu : (EV w.params n L).builtins = builtinsNs := by kernel_rfl) (hat : (attr == ("__class__" : Str)) = false := by kernel_rfl)
    (hcl : (EV w.params n L).cells.lookup ("__class__" : Str) = some 159 := by kernel_rfl) :
    _root_.PySem.wpAt (model prog w) A (.func body (EV w.params n L)) (attributeBase (.Call (.Name "super" p0) [] [] p1) attr (EV w.params n L) whole) Q E s := by
  have X := O.X
  obtain ⟨ar, hp, har⟩ := Option.map_eq_some_iff.mp hp
  rw [← har] at hv hka
  refine ks_wpAt_super_base hks hkc hat rfl (X _ _ hfd) rfl hp hfn (X _ _ hoc) hod hvs pg.1 pg.2 ?_
  refine ks_loadName_global hk hks (loadGlobal_builtin (hgl ▸ nsG X) (by kernel_rfl) (hbu ▸ nsB X) (by kernel_rfl) ⟨rfl, ?_⟩)
  refine wpAny_loadName_free hk hkc hcl ⟨_, X 159 { cls := .type "cell", data := .cell (some (.ref 235)) } (by kernel_rfl), rfl⟩ ?_
  refine wpAny_loadName_local hk hka O.ns hv ?_
  obtain ⟨oD, cdD, hD1, hD2⟩ := acc_cls X
  obtain ⟨hh, gg, dd, tt, os⟩ := s
  refine ks_wpAny_isType_cls hD1 hD2 ⟨rfl, ?_⟩
  refine ks_wpAny_call_super hD1 hD2 hx rfl (fun c e => by cases e) (looks_mroIn X (by kernel_rfl)) (fun h' e k => ?_)
  refine h _ _ (get?_size_none _) ?_
  obtain ⟨f1, f2, f3⟩ := O.fresh (get?_size_none _)
  have O' := O.more k
  refine ⟨O'.ns, O'.keep, O'.kn, O'.newL, fun p hp => ?_, by rw [List.map_cons, List.nodup_cons]; exact ⟨f3, O.nd⟩, O'.bare, O'.drawn, O'.os, O'.base⟩
  rcases List.mem_cons.mp hp with rfl | hp
  · exact ⟨e, f2, f1⟩
  · exact O'.lg p hp
/-- a built-in attribute behind super(), bound -/
theorem sup_get {id T b gid : String} {name : Str} {tk : Tok} {so : Addr} {Q : Fin → Shared → Prop}
    (X : (Kn w.params).In s.heap) (hso : s.heap.get? so = some (ks_superObj 235 x 235))
    (ha : alongIn (Kn w.params) name [.type "list", .type "object"] = some (some (.builtin id))) (hn : (name == ("__class__" : Str)) = false)
    (hxC : x ≠ 235)
    (hty : typeIn (Kn w.params) (.builtin id) = some (.type T)) (hg : findIn (Kn w.params) (.type T) "__get__" = some (some (.builtin gid)))
    (hc : ∀ (A' : Around) (R : Result → Shared → Prop), R (.ok (.ret (.ref s.heap.objs.size))) { s with heap := s.heap.push { cls := .type b, data := .fields #[.builtin id, .ref x] } } →
      codeAny (model prog w) A' (.call (.builtin gid) ⟨[.builtin id, .ref x, .ref 235], []⟩) R s)
    (hq : Q (.done (.ret (.ref s.heap.objs.size))) { s with heap := s.heap.push { cls := .type b, data := .fields #[.builtin id, .ref x] } }) :
    wpAny (model prog w) A (Builtin.«super.__getattribute__» ⟨[.ref so, .str name tk], []⟩) Q E s := by
  have hno : Looks (model prog w) s.heap (opaqueClassAbove (.ref 235)) none := looks_opaque X (by kernel_rfl)
  have hC : Looks (model prog w) s.heap (mroOf (.ref 235)) [.ref 235, .type "list", .type "object"] := by
    obtain ⟨cd, hcd⟩ := Option.isSome_iff_exists.mp (show (clsIn (Kn w.params) 235).isSome = true by kernel_rfl)
    have e : ((clsIn (Kn w.params) 235).map (·.mro)) = some [.ref 235, .type "list", .type "object"] := by kernel_rfl
    rw [hcd] at e
    have e' : cd.mro = [.ref 235, .type "list", .type "object"] := Option.some.inj e
    rw [← e']
    exact fun A Q E s k q => wpAny_bind ((looks_clsIn X hcd) A _ E s k (wpAny_pure q))
  have LT : Looks (model prog w) s.heap (typeOf (.builtin id)) (.type T) := looks_typeIn X hty
  have LG : Looks (model prog w) s.heap (typeLookup (.type T) "__get__") (some (.builtin gid)) := looks_findIn X hg
  obtain ⟨h, gg, dd, tt, os⟩ := s
  dsimp only at *
  have hne : (Value.ref x == Value.ref 235) = false := by simp [hxC]
  have hdt : (ks_superObj 235 x 235).data = .fields #[.ref 235, .ref x, .ref 235] := rfl
  have f0 : (#[.ref 235, .ref x, .ref 235] : Array Value)[0]? = some (.ref 235) := rfl
  have f1 : (#[.ref 235, .ref x, .ref 235] : Array Value)[1]? = some (.ref x) := rfl
  have f2 : (#[.ref 235, .ref x, .ref 235] : Array Value)[2]? = some (.ref 235) := rfl
  have hdrop : ([Value.ref 235, .type "list", .type "object"].dropWhile (· != .ref 235)).drop 1 = [.type "list", .type "object"] := by rfl
  unfold Builtin.«super.__getattribute__»
  repeat (first
    | (with_reducible refine wpAny_field hso hdt f0 ?_) | (with_reducible refine wpAny_field hso hdt f1 ?_) | (with_reducible refine wpAny_field hso hdt f2 ?_)
    | (with_reducible refine ks_wpAny_notOpaque hno ?_)
    | (with_reducible refine Looks.at hC ?_; rw [hdrop])
    | (refine ks_forIn_along X (fun _ _ => rfl) rfl ?_ ha)
    | (with_reducible refine Looks.at LT ?_)
    | (with_reducible refine Looks.at LG ?_)
    | (simp only [hn, hne, Bool.or_false, Bool.false_eq_true, if_false])
    | wp_step
    | dsimp only)
  refine hc _ _ ?_
  repeat (first | wp_step | dsimp only)
  exact hq
theorem entry_wd_get : entryFor table "wrapper_descriptor.__get__" = some Builtin.«wrapper_descriptor.__get__» := entryFor_of_tree (by kernel_rfl)
theorem entry_md_get : entryFor table "method_descriptor.__get__" = some Builtin.«method_descriptor.__get__» := entryFor_of_tree (by kernel_rfl)
theorem args_wd_get (a b c : Value) : argsOk "wrapper_descriptor.__get__" ⟨[a, b, c], []⟩ := by unfold argsOk; kernel_rfl
theorem args_md_get (a b c : Value) : argsOk "method_descriptor.__get__" ⟨[a, b, c], []⟩ := by unfold argsOk; kernel_rfl
theorem plain_wd_get : plainId "wrapper_descriptor.__get__" = true := by decide +kernel
theorem plain_md_get : plainId "method_descriptor.__get__" = true := by decide +kernel
theorem kind_wd_get : builtinKind "wrapper_descriptor.__get__" = some .slot := by decide +kernel
theorem kind_md_get : builtinKind "method_descriptor.__get__" = some .slot := by decide +kernel
theorem split_wd_get : splitId "wrapper_descriptor.__get__" = some ("wrapper_descriptor", "__get__") := by decide +kernel
theorem split_md_get : splitId "method_descriptor.__get__" = some ("method_descriptor", "__get__") := by decide +kernel
theorem get_wrapper {id : String} {R : Result → Shared → Prop} (X : (Kn w.params).In s.heap) (hx : s.heap.get? x = some (accObj d xs k))
    (hi : Looks (model prog w) s.heap (isInstance (.builtin id) (.type "wrapper_descriptor")) true) (ho : ".".intercalate (id.cutAt '.').dropLast = "list")
    (h : R (.ok (.ret (.ref s.heap.objs.size))) { s with heap := s.heap.push { cls := .type "method-wrapper", data := .fields #[.builtin id, .ref x] } }) :
    codeAny (model prog w) A (.call (.builtin "wrapper_descriptor.__get__") ⟨[.builtin id, .ref x, .ref 235], []⟩) R s := by
  refine codeAny_call_builtin plain_wd_get entry_wd_get ?_
  have K1 : builtinKind "wrapper_descriptor.__get__" = some .slot ∨ builtinKind "wrapper_descriptor.__get__" = some .method := .inl kind_wd_get
  refine check_any (i := "wrapper_descriptor.__get__") (owner := "wrapper_descriptor") (n := "__get__") (self := .builtin id) (rest := [.ref x, .ref 235]) (kw := []) ?a ?b ?c ?d ?e
  case a => exact K1
  case b => exact split_wd_get
  case c => exact hi
  case d => exact args_wd_get _ _ _
  have LS : Looks (model prog w) s.heap (isSubtype (.ref 235) (.type (".".intercalate (id.cutAt '.').dropLast))) true := by rw [ho]; exact looks_mroIn X (by kernel_rfl)
  obtain ⟨h, gg, dd, tt, os⟩ := s
  dsimp only at *
  unfold Builtin.«wrapper_descriptor.__get__»
  repeat lk
  exact h
theorem get_method {id : String} {R : Result → Shared → Prop} (X : (Kn w.params).In s.heap) (hx : s.heap.get? x = some (accObj d xs k))
    (hi : Looks (model prog w) s.heap (isInstance (.builtin id) (.type "method_descriptor")) true) (ho : ".".intercalate (id.cutAt '.').dropLast = "list") (ht : Manifest.toldItsClass.contains id = false)
    (h : R (.ok (.ret (.ref s.heap.objs.size))) { s with heap := s.heap.push { cls := .type "builtin_function_or_method", data := .fields #[.builtin id, .ref x] } }) :
    codeAny (model prog w) A (.call (.builtin "method_descriptor.__get__") ⟨[.builtin id, .ref x, .ref 235], []⟩) R s := by
  refine codeAny_call_builtin plain_md_get entry_md_get ?_
  have K1 : builtinKind "method_descriptor.__get__" = some .slot ∨ builtinKind "method_descriptor.__get__" = some .method := .inl kind_md_get
  refine check_any (i := "method_descriptor.__get__") (owner := "method_descriptor") (n := "__get__") (self := .builtin id) (rest := [.ref x, .ref 235]) (kw := []) ?a ?b ?c ?d ?e
  case a => exact K1
  case b => exact split_md_get
  case c => exact hi
  case d => exact args_md_get _ _ _
  have LS : Looks (model prog w) s.heap (isSubtype (.ref 235) (.type (".".intercalate (id.cutAt '.').dropLast))) true := by rw [ho]; exact looks_mroIn X (by kernel_rfl)
  obtain ⟨h, gg, dd, tt, os⟩ := s
  dsimp only at *
  unfold Builtin.«method_descriptor.__get__»
  repeat lk
  rw [ht]
  repeat lk
  exact h
/-- a built-in attribute behind super(), bound -/
theorem sup_getMethod {id T b gid : String} {name : Str} {pl : Sem Bool} {so : Addr} {Q : Value × List Value → Shared → Prop}
    (O : Own w.params foot g σ s L m led) (hso : s.heap.get? so = some (ks_superObj 235 x 235)) (hxC : x ≠ 235)
    (ha : alongIn (Kn w.params) name [.type "list", .type "object"] = some (some (.builtin id))) (hn : (name == ("__class__" : Str)) = false)
    (hty : typeIn (Kn w.params) (.builtin id) = some (.type T)) (hg : findIn (Kn w.params) (.type T) "__get__" = some (some (.builtin gid)))
    (hc : ∀ (A' : Around) (R : Result → Shared → Prop) (s₀ : Shared), (Kn w.params).In s₀.heap → s₀.heap.get? x = s.heap.get? x → R (.ok (.ret (.ref s₀.heap.objs.size))) { s₀ with heap := s₀.heap.push { cls := .type b, data := .fields #[.builtin id, .ref x] } } →
      codeAny (model prog w) A' (.call (.builtin gid) ⟨[.builtin id, .ref x, .ref 235], []⟩) R s₀)
    (h : ∀ q s', s.heap.get? q = none → Own w.params foot g σ s' L m ((q, { cls := .type b, data := .fields #[.builtin id, .ref x] }) :: led) → Q (.ref q, []) s') :
    wpAny (model prog w) A (getMethod (.ref so) name pl) Q E s := by
  have X := O.X
  have hT : ∀ t', ({ s with toks := t' } : Shared).TypeIs (.ref so) "super" := fun _ => ⟨_, hso, rfl⟩
  have hlk := F.ks_slot_super_ga.lookup
  have hcan := F.ks_canon_super_ga
  unfold getMethod
  refine wpAny_bind (wpAny_specialOf (hT _) hlk ?_)
  show wpAny _ _ (if (Manifest.canonical "super.__getattribute__" != "object.__getattribute__") = true then _ else _) _ _ _
  rw [if_pos hcan]
  unfold getAttr getAttrBy
  refine wpAny_bind (wpAny_bind (wpAny_mkText (wpAny_holding (wpAny_bind (wpAny_typeOf (hT _) (wpAny_bind (wpAny_of_eq hlk ?_)))))))
  show wpAny _ _ (getAttrByItsOwn (.ref so) (.str name s.toks) (.type "super") (.builtin "super.__getattribute__") true false) _ _ _
  unfold getAttrByItsOwn hookBefore callGetattribute boundAndCalled
  refine wpAny_bind (wpAny_of_eq (show (if onTheHeap (.type "super") then typeLookup (.type "super") "__getattr__" else pure none) = pure none from rfl) ?_)
  refine wpAny_bind (wpAny_attempt (wpAny_holding ?_))
  show wpAny _ _ (bindSpecial (.builtin "super.__getattribute__") (.ref so) >>= _) _ _ _
  refine wpAny_bind (wpAny_of_eq (F.ks_slot_super_ga.bind _) ?_)
  refine wpAny_mono (Q := fun v s' => v = .ref s.heap.objs.size ∧ s' = { s with heap := s.heap.push { cls := .type b, data := .fields #[.builtin id, .ref x] }, toks := s.toks + 1 }) (E := fun _ _ => False)
    (wpAny_call_entry F.ks_slot_super_ga (hT _) F.ks_entry_super_ga (sup_get (T := T) (b := b) (id := id) (gid := gid) (s := { s with toks := s.toks + 1 }) X hso ha hn hxC hty hg (fun A' R r => hc A' R _ X rfl r) ⟨_, rfl, rfl, rfl⟩) (F.ks_gaArgs_super _ _)) (fun v s' hv => ?_) fun _ _ z => z.elim
  obtain ⟨rfl, rfl⟩ := hv
  exact wpAny_pure (wpAny_pure (h _ _ (get?_size_none _) (O.push _ rfl (s.toks + 1))))
theorem looks_inst_b {M : Model} {K : Frag} {h : Heap} (X : K.In h) {id : String} {T : String} (e : typeIn K (.builtin id) = some (.type T)) (e2 : ((fastBuiltinMro T).map (·.contains (.type T))) = some true) : Looks M h (isInstance (.builtin id) (.type T)) true := by
  refine (looks_typeIn X e).andThen (Looks.of_pure ?_)
  rw [isSubtype_type]
  obtain ⟨l, h1, h2⟩ := Option.map_eq_some_iff.mp e2
  rw [h1]; dsimp only; rw [h2]
theorem ne_235 {P : Params} {h : Heap} (X : (Kn P).In h) (hx : h.get? x = some (accObj d xs k)) : x ≠ 235 := by
  rintro rfl
  obtain ⟨o, cd, h1, h2⟩ := acc_cls X
  rw [hx] at h1
  cases h1; cases h2
theorem sup_wrapper {id : String} {name : Str} {pl : Sem Bool} {so : Addr} {Q : Value × List Value → Shared → Prop}
    (O : Own w.params foot g σ s L m led) (hso : s.heap.get? so = some (ks_superObj 235 x 235)) (hx : s.heap.get? x = some (accObj d xs k))
    (ha : alongIn (Kn w.params) name [.type "list", .type "object"] = some (some (.builtin id))) (hn : (name == ("__class__" : Str)) = false)
    (hty : typeIn (Kn w.params) (.builtin id) = some (.type "wrapper_descriptor")) (ho : ".".intercalate (id.cutAt '.').dropLast = "list")
    (h : ∀ q s', s.heap.get? q = none → Own w.params foot g σ s' L m ((q, { cls := .type "method-wrapper", data := .fields #[.builtin id, .ref x] }) :: led) → Q (.ref q, []) s') :
    wpAny (model prog w) A (getMethod (.ref so) name pl) Q E s := by
  refine sup_getMethod (id := id) (T := "wrapper_descriptor") (gid := "wrapper_descriptor.__get__") (b := "method-wrapper") (x := x) O hso (ne_235 O.X hx) ha hn hty (by kernel_rfl) ?_ h
  intro A' R s₀ X₀ e r
  refine get_wrapper X₀ (e.trans hx) (looks_inst_b X₀ ?_ (by kernel_rfl)) ho r
  exact hty
theorem sup_method {id : String} {name : Str} {pl : Sem Bool} {so : Addr} {Q : Value × List Value → Shared → Prop}
    (O : Own w.params foot g σ s L m led) (hso : s.heap.get? so = some (ks_superObj 235 x 235)) (hx : s.heap.get? x = some (accObj d xs k))
    (ha : alongIn (Kn w.params) name [.type "list", .type "object"] = some (some (.builtin id))) (hn : (name == ("__class__" : Str)) = false)
    (hty : typeIn (Kn w.params) (.builtin id) = some (.type "method_descriptor")) (ho : ".".intercalate (id.cutAt '.').dropLast = "list") (ht : Manifest.toldItsClass.contains id = false)
    (h : ∀ q s', s.heap.get? q = none → Own w.params foot g σ s' L m ((q, { cls := .type "builtin_function_or_method", data := .fields #[.builtin id, .ref x] }) :: led) → Q (.ref q, []) s') :
    wpAny (model prog w) A (getMethod (.ref so) name pl) Q E s := by
  refine sup_getMethod (id := id) (T := "method_descriptor") (gid := "method_descriptor.__get__") (b := "builtin_function_or_method") (x := x) O hso (ne_235 O.X hx) ha hn hty (by kernel_rfl) ?_ h
  intro A' R s₀ X₀ e r
  refine get_method X₀ (e.trans hx) (looks_inst_b X₀ ?_ (by kernel_rfl)) ho ht r
  exact hty
end
end Mine
namespace Mine
section
variable {prog : Program} {w : World} {A : Around} {E : Value → Shared → Prop} {s : Shared} {x d : Addr} {xs : Array Value} {k : Nat}
theorem bound_call {q : Addr} {b id : String} {B : Builtin} {args : List Value} {R : Result → Shared → Prop}
    (hq : s.heap.get? q = some { cls := .type b, data := .fields #[.builtin id, .ref x] }) (hb : b = "method-wrapper" ∨ b = "builtin_function_or_method")
    (hp : plainId id = true) (he : entryFor table id = some B)
    (hc : ∀ Q : Unit → Shared → Prop, Q () s → wpAny (model prog w) A.in1 (checkBoundCall id ⟨.ref x :: args, []⟩) Q (fun e s' => R (.error e) s') s)
    (h : wpAny (model prog w) A.in1 (B ⟨.ref x :: args, []⟩) (fun fin s' => ∃ v, fin = .done (.ret v) ∧ R (.ok (.ret v)) s') (fun e s' => R (.error e) s') s) :
    codeAny (model prog w) A (.call (.ref q) ⟨args, []⟩) R s := by
  refine codeAny_of_tree ?_
  show wpAny _ A.in1 (callAny (.ref q) _) _ _ _
  unfold callAny
  refine wpAny_bind (wpAny_load hq ?_)
  rcases hb with rfl | rfl <;>
  · show wpAny _ _ (checkBoundCall id ⟨.ref x :: args, []⟩ >>= fun _ => again (.builtin id ⟨.ref x :: args, []⟩)) _ _ _
    refine wpAny_bind (hc _ ?_)
    refine wpAny_pure ⟨plainId_quiet hp _, codeAny_builtin he ?_⟩
    rw [Around.under_plainId hp _]
    refine wpAny_mono h (fun fin s' z => ?_) fun _ _ z => z
    obtain ⟨v, rfl, r⟩ := z
    exact r
theorem bound_slot {id : String} {args : Args} {Q : Unit → Shared → Prop} {E : Value → Shared → Prop} (hk : builtinKind id = some .slot) (ha : argsOk id args) (q : Q () s) : wpAny (model prog w) A (checkBoundCall id args) Q E s := by
  unfold checkBoundCall
  unfold argsOk at ha
  cases hsig : Manifest.signature? id with
  | none => exact wpAny_pure q
  | some sig =>
    rw [hsig] at ha
    dsimp only at ha ⊢
    rw [hk]
    obtain ⟨pos, kw⟩ := args
    cases pos with
    | nil => dsimp only; rw [ha]; exact wpAny_pure q
    | cons self rest =>
      dsimp only
      rw [if_pos (by decide), ha]; exact wpAny_pure q
theorem looks_classData {P : Params} {M : Model} {h : Heap} {cd : ClassData} (X : (Kn P).In h) {C : Addr} (hc : clsIn (Kn P) C = some cd) : Looks M h (classData C) cd := looks_clsIn X hc
theorem bound_pop {Q : Unit → Shared → Prop} {E : Value → Shared → Prop} (X : (Kn w.params).In s.heap) (hx : s.heap.get? x = some (accObj d xs k)) (q : Q () s) : wpAny (model prog w) A (checkBoundCall "list.pop" ⟨[.ref x], []⟩) Q E s := by
  obtain ⟨cd, hcd⟩ := Option.isSome_iff_exists.mp (show (clsIn (Kn w.params) 235).isSome = true by kernel_rfl)
  have hqn : cd.qualname = ("_Accumulator" : Str) := by
    have e : ((clsIn (Kn w.params) 235).map (·.qualname)) = some ("_Accumulator" : Str) := by kernel_rfl
    rw [hcd] at e
    exact Option.some.inj e
  have L1 : Looks (model prog w) s.heap (classData 235) cd := looks_classData X hcd
  have L2 : Looks (model prog w) s.heap (isSubtype (.ref 235) (.type "module")) false := looks_mroIn X (by kernel_rfl)
  have L3 : Looks (model prog w) s.heap (typeOf (.ref 235)) (.type "type") := looks_typeIn X (by kernel_rfl)
  obtain ⟨h, gg, dd, tt, os⟩ := s
  dsimp only at *
  obtain ⟨sig, hsig⟩ := Option.isSome_iff_exists.mp (show (Manifest.signature? "list.pop").isSome = true by decide +kernel)
  have hck : (match Manifest.signature? "list.pop" with | some sig => Bind.checkArgs "list.pop" { sig with full := s!"{("_Accumulator" : Str).toString}.{Bind.lastOf "list.pop"}" } ⟨[.ref x], []⟩ | none => pure ()) = pure () := by kernel_rfl
  rw [hsig] at hck
  dsimp only at hck
  have L4 : Looks (model prog w) h (Bind.checkArgs "list.pop" { sig with full := s!"{cd.qualname.toString}.{Bind.lastOf "list.pop"}" } ⟨[.ref x], []⟩) () := by rw [hqn]; exact Looks.of_pure hck
  clear hqn hck
  unfold checkBoundCall
  rw [hsig]
  have hk : builtinKind "list.pop" = some .method := by decide +kernel
  have hv : Manifest.varargsMethods.contains "list.pop" = false := by decide +kernel
  dsimp only
  rw [hk]
  dsimp only
  rw [hv]
  repeat lk
  exact q
theorem callWith_bound0 {q : Addr} {b id : String} {env : Env} {pos : Pos} {Q : Value → Shared → Prop}
    (hq : s.heap.get? q = some { cls := .type b, data := .fields #[.builtin id, .ref x] }) (hb : b = "method-wrapper" ∨ b = "builtin_function_or_method")
    (h : wpAny (model prog w) A (call (.ref q) []) Q E s) : wpAny (model prog w) A (callWith pos (.ref q) [] (backTo pos (starEach [] env)) []) Q E s := by
  refine callWith_of (P := fun h => h.get? q = some { cls := .type b, data := .fields #[.builtin id, .ref x] }) rfl (fun h e => ⟨.machine, .inr (.inl rfl), (Looks.ld (part := none) e).andThen ?_⟩) (evalArgs_nil3 ⟨hq, h⟩)
  rcases hb with rfl | rfl <;> exact .now
theorem entry_list_len : entryFor table "list.__len__" = some Builtin.«list.__len__» := entryFor_of_tree (by kernel_rfl)
theorem list_len {Q : Fin → Shared → Prop} (hx : s.heap.get? x = some (accObj d xs k)) (h : ∀ t t', Q (.done (.ret (.int xs.size t))) { s with toks := t' }) :
    wpAny (model prog w) A (Builtin.«list.__len__» ⟨[.ref x], []⟩) Q E s := by
  have hd : (accObj d xs k).data = .seq xs k := rfl
  obtain ⟨hh, gg, dd, tt, os⟩ := s
  unfold Builtin.«list.__len__»
  repeat (first | (with_reducible refine wpAny_seqSize hx hd ?_) | wp_step)
  exact h _ _
end
section
variable {prog : Program} {w : World} {A : Around} {R : Result → Shared → Prop} {s : Shared} {x d : Addr} {xs : Array Value} {n : Nat} {m : Str → Option Value}
theorem part_count_ok (pg : PG prog w.params) (X : (Kn w.params).In s.heap) (hroom : A.depth < recursionLimit) (hx : s.heap.get? x = some (accObj d xs n))
    (h : ∀ s' t, Post [] s s' → R (.ok (.ret (.int xs.size t))) s') :
    codeAny (model prog w) A (.call (.ref 232) ⟨[.ref x], []⟩) R s := by
  refine enterAt 232 [("self", .ref x)] [] X hroom led_nil (by simp) ?_
  intro L s₁ g up O
  have hx₁ := up _ _ (by simp) hx
  refine ks_wpAt_execs_cons ?_
  refine ks_wpAt_Return_some ?_
  refine ks_wpAt_MethodCall ?_
  refine superO 232 O pg (O.keep _ _ hx₁) (by rfl) fun so s₂ hso O₂ => ?_
  refine sup_wrapper (id := "list.__len__") O₂ (O₂.at 0 rfl) (O₂.keep _ _ hx₁) (by kernel_rfl) (by kernel_rfl) (by kernel_rfl) (by decide +kernel) fun q s₃ hq O₃ => ?_
  dsimp only
  refine callWith_bound0 (O₃.at 0 rfl) (.inl rfl) ?_
  refine wpAny_call (bound_call (O₃.at 0 rfl) (.inl rfl) (by decide +kernel) entry_list_len (fun Q q => ?_) ?_)
  · refine bound_slot (by decide +kernel) (PySem.F.args_list_len_1 _) q
  refine list_len (O₃.keep _ _ hx₁) fun t t' => ⟨_, rfl, ?_⟩
  exact h _ _ (O₃.toks t').post
end
end Mine
namespace Mine
section
variable {prog : Program} {w : World} {A : Around} {R : Result → Shared → Prop} {s : Shared} {x d : Addr} {xs : Array Value} {n : Nat} {m : Str → Option Value}
theorem Own.quiet {P : Params} {foot : List Addr} {g : Heap} {σ s s' : Shared} {L : Addr} {m : Str → Option Value} {led : List (Addr × Obj)} (O : Own P foot g σ s L m led) (p : Post [] s s') : Own P foot g σ s' L m led :=
  O.after p (by simp) (fun q hq => ⟨p.ext _ _ (by simp) (O.lg q hq).1, .inl (List.mem_map_of_mem hq)⟩) O.nd
theorem callK0 {P : Params} {M : Model} {A : Around} {E : Value → Shared → Prop} {env : Env} {pos : Pos} {f : Value} {first : List Value} {Q : Value → Shared → Prop}
    (X : (Kn P).In s.heap) (h : wpAny M A (call f first) Q E s) (hk : keepIn (Kn P) f = true := by kernel_rfl) : wpAny M A (callWith pos f first (backTo pos (starEach [] env)) []) Q E s :=
  callWith_K0 X hk (by rw [List.append_nil]; exact h)
theorem entry_list_pop : entryFor table "list.pop" = some Builtin.«list.pop» := entryFor_of_tree (by kernel_rfl)
theorem eraseLast {α : Type} (xs : Array α) (h : xs.size ≠ 0) : xs.eraseIdxIfInBounds (xs.size - 1) = xs.pop := by
  have hl : xs.size - 1 < xs.size := by walk_at "om"
  unfold Array.eraseIdxIfInBounds
  rw [dif_pos hl]
  apply Array.toList_inj.mp
  rw [Array.toList_eraseIdx, Array.toList_pop, List.eraseIdx_eq_take_drop_succ, List.dropLast_eq_take]
  have : xs.toList.length = xs.size := by simp
  rw [this, List.drop_eq_nil_of_le (by rw [this]; walk_at "om"), List.append_nil]
theorem list_pop {A : Around} {E : Value → Shared → Prop} {Q : Fin → Shared → Prop} (hx : s.heap.get? x = some (accObj d xs n)) (hz : xs.size < 1000) {v : Value} (hv : xs[xs.size - 1]? = some v) (hne : xs.size ≠ 0)
    (h : Q (.done (.ret v)) { s with heap := s.heap.update x (Obj.mapSeq fun a => a.eraseIdxIfInBounds (xs.size - 1)) }) :
    wpAny (model prog w) A (Builtin.«list.pop» ⟨[.ref x], []⟩) Q E s := by
  have hd : (accObj d xs n).data = .seq xs n := rfl
  have h1 : xs.isEmpty = false := by simp [Array.isEmpty, hne]
  have h2 : seqIndex? (-1) xs.size = some (xs.size - 1) := by
    unfold seqIndex?
    have e1 : (-1 + (xs.size : Int)).toNat = xs.size - 1 := last_ix (Nat.pos_of_ne_zero hne)
    have e2 : (0 ≤ (-1 + (xs.size : Int))) := by walk_at "om"
    have e3 : (-1 + (xs.size : Int)) < xs.size := by walk_at "om"
    simp [e1, e2, e3]
  unfold Builtin.«list.pop»
  repeat (first | (with_reducible refine wpAny_listItems hx hd ?_) | wp_step)
  rw [h2, Option.bind_some, hv]
  dsimp only [Option.map_some]
  show wpAny _ _ (updateSeq x _ >>= fun _ => ret v) _ _ _
  refine wpAny_bind (wpAny_updateSeq hx hd (wpAny_pure h) (by simp only [sizeLine]; walk_at "om") ?_)
  rw [eraseLast xs hne]
  simp only [sizeLine, Array.size_pop]
  walk_at "om"
theorem pop_ok (pg : PG prog w.params) (X : (Kn w.params).In s.heap) (hroom : A.depth + 2 < recursionLimit) (hx : s.heap.get? x = some (accObj d xs n)) (hd : s.heap.Ns d m) (hxd : x ≠ d)
    (ax : Off w.params x) (hn : m "part_count" = none) (hsz : xs.size < 1000)
    (h0 : xs.size = 0 → ∀ s' t t1 t2, Post [x] s s' → s.heap.get? t = none → s'.heap.get? t = some { cls := .type "tuple", data := .seq #[.str "" t1, .str "" t2] } → s'.heap.get? x = some (accObj d xs n) → R (.ok (.ret (.ref t))) s')
    (h1 : ∀ s' v n', Post [x] s s' → xs.size ≠ 0 → xs[xs.size - 1]? = some v → s'.heap.get? x = some (accObj d xs.pop n') → R (.ok (.ret v)) s') :
    codeAny (model prog w) A (.call (.ref 195) ⟨[.ref x], []⟩) R s := by
  refine enterAt 195 [("self", .ref x)] [(x, accObj d xs n)] X (dl0 hroom) (led_cons hx ax led_nil) (by simp) ?_
  intro L s₁ g up O
  have hd₁ : s₁.heap.Ns d m := hd.at' fun o e => O.keep _ _ (up _ _ (by simp [Ne.symm hxd]) e)
  refine ks_wpAt_execs_cons ?_
  refine ks_wpAt_If ?_
  refine wpAt_of_wpAny ?_
  refine wpAny_isTrue_Compare1 ?_
  walk_at "st"
  refine ldO O (by rfl) ?_
  refine acc_method (f := .ref 232) (T := "function") O.X (O.at 0 rfl) hd₁ hn (by kernel_rfl) (by kernel_rfl) (.inl rfl) ?_
  dsimp only
  refine callK0 O.X ?_
  refine wpAny_call (part_count_ok pg O.X (by show A.depth + 1 < _; exact dl hroom (by decide)) (O.at 0 rfl) fun s₂ t₂ p₂ => ?_)
  have O₂ := O.quiet p₂
  dsimp only
  refine intO O₂ fun t₃ s₃ O₃ => ?_
  refine PySem.P.eq_int ?_
  refine wpAny_pure ?_
  by_cases hz : xs.size = 0
  · rw [if_pos (by simp [hz])]
    refine ks_wpAt_execs_cons ?_
    refine wpAt_of_wpAny ?_
    walk_at "st"
    walk_at "st"
    walk_at "st"
    refine strO O₃ fun t₄ s₄ O₄ => ?_
    walk_at "st"
    refine strO O₄ fun t₅ s₅ O₅ => ?_
    walk_at "st"
    refine tupO O₅ fun t s₆ ht O₆ => ?_
    have ht0 : s.heap.get? t = none := by
      cases e : s.heap.get? t with
      | none => rfl
      | some o =>
        by_cases hq : t = x
        · rw [hq, O₅.at 0 rfl] at ht; cases ht
        · rw [O₅.base _ _ (by simpa using hq) e |> O₅.keep _ _] at ht; cases ht
    exact h0 hz _ _ _ _ O₆.post ht0 (O₆.at 0 rfl) (O₆.at 1 rfl)
  · rw [if_neg (by simp [hz])]
    refine wpAt_of_wpAny ?_
    refine wpAny_execs_nil ?_
    dsimp only
    refine ks_wpAt_execs_cons ?_
    refine ks_wpAt_Return_some ?_
    refine ks_wpAt_MethodCall ?_
    refine superO 195 O₃ pg (O₃.at 0 rfl) (by rfl) fun so s₄ hso O₄ => ?_
    refine sup_method (id := "list.pop") O₄ (O₄.at 0 rfl) (O₄.at 1 rfl) (by kernel_rfl) (by kernel_rfl) (by kernel_rfl) (by decide +kernel) (by decide +kernel) fun q s₅ hq O₅ => ?_
    dsimp only
    refine callWith_bound0 (O₅.at 0 rfl) (.inr rfl) ?_
    obtain ⟨v, hv⟩ : ∃ v, xs[xs.size - 1]? = some v := ⟨_, Array.getElem?_eq_getElem (by walk_at "om")⟩
    refine wpAny_call (bound_call (O₅.at 0 rfl) (.inr rfl) (by decide +kernel) entry_list_pop (fun Q q => ?_) ?_)
    · exact bound_pop O₅.X (O₅.at 2 rfl) q
    refine list_pop (O₅.at 2 rfl) hsz hv hz ⟨_, rfl, ?_⟩
    have O₆ := O₅.update 2 (f := Obj.mapSeq fun a => a.eraseIdxIfInBounds (xs.size - 1)) rfl
    exact h1 _ _ _ O₆.post hz hv (by rw [← eraseLast xs hz]; exact O₆.at 2 rfl)
end
end Mine
namespace Mine
section
variable {prog : Program} {w : World} {A : Around} {E : Value → Shared → Prop} {s : Shared} {x d : Addr} {xs : Array Value} {n : Nat} {m : Str → Option Value}
theorem acc_clsD {P : Params} {h : Heap} (X : (Kn P).In h) : ∃ c dd cd sl, h.get? 235 = some ⟨c, dd, .cls cd, sl⟩ ∧ cd.hasDict = true := by
  have hD : (clsIn (Kn P) 235).isSome = true := by kernel_rfl
  have hE : (clsIn (Kn P) 235).map (·.hasDict) = some true := by kernel_rfl
  obtain ⟨cd, hD⟩ := Option.isSome_iff_exists.mp hD
  rw [hD] at hE
  unfold clsIn at hD
  split at hD
  · rename_i c d cd' sl ho
    cases hD
    exact ⟨_, _, _, _, X _ _ ho, Option.some.inj hE⟩
  · cases hD
theorem acc_get {name : Str} {v : Value} {Q : Value → Shared → Prop} (X : (Kn w.params).In s.heap)
   (hx : s.heap.get? x = some (accObj d xs n)) (hd : s.heap.Ns d m) (hn : m name = some v) (hf : findIn (Kn w.params) (.ref 235) name = some none) (hh : handedIn v = true)
   (h : Q v { s with toks := s.toks + 1 }) : wpAny (model prog w) A (getAttr (.ref x) name true) Q E s := by
  have T : Looks (model prog w) s.heap (typeOf (.ref x)) (.ref 235) := acc_type hx
  have L1 : Looks (model prog w) s.heap (typeLookup (.ref 235) "__getattribute__") (some (.builtin "list.__getattribute__")) := looks_findIn X (by kernel_rfl)
  have L2 : Looks (model prog w) s.heap (typeLookup (.ref 235) "__getattr__") (none) := looks_findIn X (by kernel_rfl)
  have L3 : Looks (model prog w) s.heap (typeLookup (.ref 235) name) none := looks_findIn X hf
  have L5 : Looks (model prog w) s.heap (nsGet d name) (some v) := looks_ns hd hn
  have LI := acc_inst (M := model prog w) X hx
  obtain ⟨c, dd, cd, sl, hC, hD⟩ := acc_clsD X
  obtain ⟨hp,g,dr,t,os⟩ := s
  dsimp only at *
  unfold getAttr getAttrBy
  refine wpAny_bind (wpAny_mkText (wpAny_holding (wpAny_bind (T.at (wpAny_bind (L1.at ?_))))))
  show wpAny _ _ (getAttrByItsOwn (.ref x) (.str name t) (.ref 235) (.builtin "list.__getattribute__") true true) _ _ _
  unfold getAttrByItsOwn hookBefore callGetattribute boundAndCalled
  refine wpAny_bind (L2.at ?_)
  refine wpAny_bind (wpAny_attempt (wpAny_holding ?_))
  show wpAny _ _ (bindSpecial (.builtin "list.__getattribute__") (.ref x) >>= _) _ _ _
  refine wpAny_bind (wpAny_of_eq (PySem.F.slot_list_getattribute.bind _) ?_)
  show wpAny _ _ (call (.builtin "list.__getattribute__") [.ref x, .str name t]) _ _ _
  refine callOn (n := "__getattribute__") (owner := "list") (b := Builtin.«object.__getattribute__») LI (PySem.F.args_list_getattribute_2 _ _) ?_ (.inl (by decide +kernel)) (hb := am_entry_list_getattribute)
  unfold Builtin.«object.__getattribute__»
  repeat lk
  rw [hD]
  repeat lk
  exact ⟨_, rfl, by rw [handedOut_of hh]; exact wpAny_pure h⟩
theorem acc_I (hx : s.heap.get? x = some (accObj d xs n)) {od : Obj} (hd : s.heap.get? d = some od) : InstAt s.heap x (accObj d xs n) 235 (some od) := ⟨hx, rfl, rfl, hd⟩
theorem acc_set {name : Str} {v : Value} {ns : List Str} {Q : Unit → Shared → Prop} (X : (Kn w.params).In s.heap)
   (hx : s.heap.get? x = some (accObj d xs n)) (hd : s.heap.Ns1 d m) (hw : Within m ns) (hsz : ns.length ≤ 100)
   (hf : findIn (Kn w.params) (.ref 235) name = some none)
   (h : ∀ h' t', h'.Ns1 d (fun y => if y = name then some v else m y) → Heap.SameBut d s.heap h' → Q () { s with heap := h', toks := t' }) : wpAny (model prog w) A (setAttr (.ref x) name v) Q E s := by
  have hd0 := hd
  obtain ⟨od, -, -, hod, -⟩ := hd0
  refine set_plain X (acc_I hx hod) (by kernel_rfl) ?_
  have SF := PySem.F.store_object
  have sub : Looks (model prog w) s.heap (isInstance (.ref x) (.type "object")) true := (acc_type hx).andThen (looks_mroIn X (by kernel_rfl))
  refine codeAny_call_builtin SF.slot.plain SF.entry (@check_slot (model prog w) _ _ _ "object.__setattr__" "object" "__setattr__" (.ref x) [.str name s.toks, v] [] _ SF.kind SF.split sub (SF.args (.ref x) (.str name s.toks) v) ?_)
  have T : Looks (model prog w) s.heap (typeOf (.ref x)) (.ref 235) := acc_type hx
  have hm : Looks (model prog w) s.heap (mroOf (.ref 235)) [.ref 235, .type "list", .type "object"] := by
    obtain ⟨cd, hcd⟩ := Option.isSome_iff_exists.mp (show (clsIn (Kn w.params) 235).isSome = true by kernel_rfl)
    have e : ((clsIn (Kn w.params) 235).map (·.mro)) = some [.ref 235, .type "list", .type "object"] := by kernel_rfl
    rw [hcd] at e
    have e' : cd.mro = [.ref 235, .type "list", .type "object"] := Option.some.inj e
    rw [← e']
    exact fun A Q E s k q => wpAny_bind ((looks_clsIn X hcd) A _ E s k (wpAny_pure q))
  have L3 : Looks (model prog w) s.heap (Builtin.ObjectAttr.storeTaker? none) none := .now
  rw [osa_eq, refuse_eq]
  refine wpAny_bind (wpAny_bind (T.here (s := { s with toks := s.toks + 1 }) (wpAny_bind (hm.here (s := { s with toks := s.toks + 1 }) ?_))))
  rw [refuseLoop_ref, show PySem.refuseLoop (.ref x) "__setattr__" [.type "list", .type "object"] = pure () by kernel_rfl]
  refine wpAny_pure (wpAny_bind (T.here (s := { s with toks := s.toks + 1 }) (wpAny_bind ((looks_findIn X hf).here (s := { s with toks := s.toks + 1 }) (wpAny_bind (L3.here (s := { s with toks := s.toks + 1 }) ?_))))))
  obtain ⟨c, dd, cd, sl, hC, hD⟩ := acc_clsD X
  obtain ⟨hp,g,dr,t,os⟩ := s
  dsimp only at *
  unfold Builtin.ObjectAttr.storeInOwnDict
  repeat lk
  rw [hD]
  refine wpAny_pure (a := some d) (wpAny_bind (wpAny_pure (wpAny_bind ?_)))
  refine wpAny_nsSet1 hd fun h' hn' hs => ?_
  obtain ⟨oD, esD, epD, hoD, hdD, hcD⟩ := hn'.count (Within.cons name v hw)
  refine wpAny_bind (wpAny_lookBehind hoD (by rw [hdD]; exact pastItsLine_dict (Nat.le_trans hcD (by rw [List.length_cons, sizeLine_eq]; walk_at "om"))) ?_)
  exact wpAny_pure (h _ _ hn' hs)
end
end Mine
namespace Mine
abbrev fmtObj (d : Addr) : Obj := ⟨.ref 151, some d, .plain, #[]⟩
section
variable {prog : Program} {w : World} {A : Around} {E : Value → Shared → Prop} {s : Shared} {x d : Addr} {m : Str → Option Value}
theorem fmt_clsD {P : Params} {h : Heap} (X : (Kn P).In h) : ∃ c dd cd sl, h.get? 151 = some ⟨c, dd, .cls cd, sl⟩ ∧ cd.hasDict = true := by
  have hD : (clsIn (Kn P) 151).isSome = true := by kernel_rfl
  have hE : (clsIn (Kn P) 151).map (·.hasDict) = some true := by kernel_rfl
  obtain ⟨cd, hD⟩ := Option.isSome_iff_exists.mp hD
  rw [hD] at hE
  unfold clsIn at hD
  split at hD
  · rename_i c d cd' sl ho
    cases hD
    exact ⟨_, _, _, _, X _ _ ho, Option.some.inj hE⟩
  · cases hD
theorem fmt_type {M : Model} {h : Heap} (hx : h.get? x = some (fmtObj d)) : Looks M h (typeOf (.ref x)) (.ref 151) := (Looks.ld hx).andThen .now
theorem fmt_get {name : Str} {v : Value} {Q : Value → Shared → Prop} (X : (Kn w.params).In s.heap)
   (hx : s.heap.get? x = some (fmtObj d)) (hd : s.heap.Ns d m) (hn : m name = some v) (hf : findIn (Kn w.params) (.ref 151) name = some none) (hh : handedIn v = true)
   (h : Q v { s with toks := s.toks + 1 }) : wpAny (model prog w) A (getAttr (.ref x) name true) Q E s := by
  have T : Looks (model prog w) s.heap (typeOf (.ref x)) (.ref 151) := fmt_type hx
  have L3 : Looks (model prog w) s.heap (typeLookup (.ref 151) name) none := looks_findIn X hf
  have L5 : Looks (model prog w) s.heap (nsGet d name) (some v) := looks_ns hd hn
  obtain ⟨od, es, ep, hod, -⟩ := id hd
  refine get_open (od := some od) (ox := fmtObj d) X ⟨hx, rfl, rfl, hod⟩ (by kernel_rfl) ?_
  clear hod
  obtain ⟨c, dd, cd, sl, hC, hD⟩ := fmt_clsD X
  obtain ⟨hp,g,dr,t,os⟩ := s
  dsimp only at *
  unfold Builtin.«proto.getattr_hooked»
  repeat lk
  rw [hD]
  repeat lk
  show wpAny _ _ (handedOut v) _ _ _
  rw [handedOut_of hh]; exact wpAny_pure h
theorem fmt_method {name : Str} {f : Value} {T : String} {pl : Sem Bool} {Q : Value × List Value → Shared → Prop} (X : (Kn w.params).In s.heap)
   (hx : s.heap.get? x = some (fmtObj d)) (hd : s.heap.Ns d m) (hn : m name = none)
   (hf : findIn (Kn w.params) (.ref 151) name = some (some f)) (ht : typeIn (Kn w.params) f = some (.type T)) (hT : T = "function")
   (h : Q (f, [.ref x]) s) : wpAny (model prog w) A (getMethod (.ref x) name pl) Q E s := by
  subst hT
  have T : Looks (model prog w) s.heap (typeOf (.ref x)) (.ref 151) := fmt_type hx
  have L1 : Looks (model prog w) s.heap (typeLookup (.ref 151) "__getattribute__") (some (.builtin "object.__getattribute__")) := looks_findIn X (by kernel_rfl)
  have L2 : Looks (model prog w) s.heap (typeLookup (.ref 151) "__getattr__") (none) := looks_findIn X (by kernel_rfl)
  have L3 : Looks (model prog w) s.heap (typeLookup (.ref 151) name) (some f) := looks_findIn X hf
  have L4 : Looks (model prog w) s.heap (typeOf f) (.type _) := looks_typeIn X ht
  have L5 : Looks (model prog w) s.heap (nsGet d name) none := looks_ns hd hn
  obtain ⟨hp,g,dr,t,os⟩ := s
  dsimp only at *
  unfold getMethod
  repeat lk
  exact h
theorem fmt_set {name : Str} {v : Value} {ns : List Str} {Q : Unit → Shared → Prop} (X : (Kn w.params).In s.heap)
   (hx : s.heap.get? x = some (fmtObj d)) (hd : s.heap.Ns1 d m) (hw : Within m ns) (hsz : ns.length ≤ 100)
   (hf : findIn (Kn w.params) (.ref 151) name = some none)
   (h : ∀ h' t', h'.Ns1 d (fun y => if y = name then some v else m y) → Heap.SameBut d s.heap h' → Q () { s with heap := h', toks := t' }) : wpAny (model prog w) A (setAttr (.ref x) name v) Q E s := by
  have hd0 := hd
  obtain ⟨od, -, -, hod, -⟩ := hd0
  have I : InstAt s.heap x (fmtObj d) 151 (some od) := ⟨hx, rfl, rfl, hod⟩
  refine set_plain X I (by kernel_rfl) ?_
  refine osa_open (s := { s with toks := s.toks + 1 }) X I (by kernel_rfl) (r := none) (by unfold takerIn; rw [hf]; rfl) fun b => ?_
  have T : Looks (model prog w) s.heap (typeOf (.ref x)) (.ref 151) := fmt_type hx
  obtain ⟨c, dd, cd, sl, hC, hD⟩ := fmt_clsD X
  obtain ⟨hp,g,dr,t,os⟩ := s
  dsimp only at *
  unfold Builtin.ObjectAttr.storeInOwnDict
  repeat lk
  rw [hD]
  refine wpAny_pure (a := some d) (wpAny_bind (wpAny_pure (wpAny_bind ?_)))
  refine wpAny_nsSet1 hd fun h' hn' hs => ?_
  obtain ⟨oD, esD, epD, hoD, hdD, hcD⟩ := hn'.count (Within.cons name v hw)
  refine wpAny_bind (wpAny_lookBehind hoD (by rw [hdD]; exact pastItsLine_dict (Nat.le_trans hcD (by rw [List.length_cons, sizeLine_eq]; walk_at "om"))) ?_)
  exact wpAny_pure (h _ _ hn' hs)
end
end Mine
namespace Mine
section
variable {prog : Program} {w : World} {A : Around} {E : Value → Shared → Prop} {s : Shared} {x d : Addr} {xs : Array Value} {n : Nat} {m : Str → Option Value}
theorem acc_slot {o name : Str} {id nm : String} {args : List Value} {B : Builtin} {Q : Option Value → Shared → Prop} (X : (Kn w.params).In s.heap) (hx : s.heap.get? x = some (accObj d xs n))
   (hf : findIn (Kn w.params) (.ref 235) name = some (some (.builtin id))) (hb : bindSpecial (.builtin id) (.ref x) = pure (.builtin id, [.ref x]))
   (h : wpAny (model prog w) A (call (.builtin id) (.ref x :: args)) (fun v s' => Q (some v) s') E s) :
   wpAny (model prog w) A (callSpecial? (.ref x) name args) Q E s := by
  have T : Looks (model prog w) s.heap (typeOf (.ref x)) (.ref 235) := acc_type hx
  have L1 : Looks (model prog w) s.heap (typeLookup (.ref 235) name) (some (.builtin id)) := looks_findIn X hf
  unfold callSpecial? specialOf
  refine wpAny_bind (wpAny_bind (T.here (L1.here ?_)))
  refine wpAny_holding ?_
  rw [hb]
  refine wpAny_bind (wpAny_pure (wpAny_bind (wpAny_mono h (fun v s' h' => wpAny_pure h') fun _ _ z => z)))
theorem acc_seqKey {P : Params} {M : Model} {h : Heap} {k : Value} {name : Str} (X : (Kn P).In h) (hx : h.get? x = some (accObj d xs n)) : Looks M h (sequenceKey (.ref x) k name) k := by
  have T : Looks M h (typeOf (.ref x)) (.ref 235) := acc_type hx
  refine T.andThen ?_
  have hall : ∀ l : List String, (l.all fun n => mroIn (Kn P) 235 (.type n) == some false) = true → Looks M h (l.anyM fun n => isSubtype (.ref 235) (.type n)) false := by
    intro l
    induction l with
    | nil => intro _; exact .now
    | cons a r ih =>
      intro hl
      rw [List.all_cons, Bool.and_eq_true] at hl
      exact (looks_mroIn X (beq_iff_eq.mp hl.1)).andThen (ih hl.2)
  exact (hall seqItemTypes (by kernel_rfl)).andThen .now
/-- self[a:b] -/
theorem acc_getSlice {sl : Addr} {vl vu vs : Value} {lo hi st : Option Int} {Q : Value → Shared → Prop} (X : (Kn w.params).In s.heap) (hx : s.heap.get? x = some (accObj d xs n))
    (hs : s.heap.IsSliceOf sl vl vu vs) (pl : IsPart vl lo) (pu : IsPart vu hi) (ps : IsPart vs st) (h0 : st ≠ some 0)
    (h : Q (.ref s.heap.objs.size) { s with heap := s.heap.push { cls := .type "list", data := .seq (slicePick xs lo hi st) } })
    (hsz : xs.size < 1000) : wpAny (model prog w) A (getItem (.ref x) (.ref sl)) Q E s := by
  obtain ⟨os, hos, hcs, hds⟩ := id hs
  have hTs : s.TypeIs (.ref sl) "slice" := ⟨os, hos, hcs⟩
  have hd : (accObj d xs n).data = .seq xs n := rfl
  have hz : xs.size ≤ sizeLine := by simp only [sizeLine]; walk_at "om"
  unfold getItem
  refine wpAny_holding ?_
  refine wpAny_bind ((acc_seqKey X hx).here (wpAny_bind ?_))
  refine acc_slot (o := "") (nm := "") (B := Builtin.«list.__getitem__») (id := "list.__getitem__") X hx (by kernel_rfl) (slot_list_getitem.bind _) ?_
  refine callOn (n := "__getitem__") (owner := "list") (b := Builtin.«list.__getitem__») (acc_inst X hx) (args_list_getitem _ _) ?_ (.inr (by decide +kernel)) (by decide +kernel) (by decide +kernel) entry_list_getitem
  show wpAny _ _ (Builtin.List.listSubscript? (.ref sl) >>= _) _ _ s
  refine wpAny_bind ?_
  unfold Builtin.List.listSubscript?
  refine wpAny_bind (wpAny_specialOf hTs slice_no_index ?_)
  simp only [Option.isNone_none, if_true]
  refine wpAny_pure ?_
  show wpAny _ _ (typeOf (.ref sl) >>= _) _ _ s
  refine wpAny_bind (wpAny_typeOf hTs ?_)
  rw [if_neg (by decide)]
  rw [listSliceParts_eq]
  have hstep : ¬ ((rawPart st == rawInt 0) = true) := by
    cases st with
    | none => exact Bool.false_ne_true
    | some c =>
      intro hh
      have : c = 0 := by simpa [rawPart, rawInt] using hh
      exact h0 (by rw [this])
  refine wpAny_bind (wpAny_bind (wpAny_field hos hds (x := vs) rfl (wpAny_bind (wpAny_listPart ps ?_))))
  rw [if_neg hstep]
  refine wpAny_bind (wpAny_field hos hds (x := vl) rfl (wpAny_bind (wpAny_listPart pl ?_)))
  refine wpAny_bind (wpAny_field hos hds (x := vu) rfl (wpAny_bind (wpAny_listPart pu (wpAny_pure ?_))))
  refine wpAny_bind (m := Builtin.List.listItems (.ref x)) ?_
  unfold Builtin.List.listItems
  refine wpAny_bind (wpAny_seqItems hx hd (wpAny_pure ?_))
  refine wpAny_bind (wpAny_of_eq (sliceIndices_raw lo hi st xs.size h0) ?_)
  refine wpAny_bind (wpAny_newObj_type (wpAny_pure ⟨_, rfl, ?_⟩) (Nat.le_trans (slicePick_size_le xs lo hi st) hz))
  exact wpAny_pure h
/-- self[a:b] = a plain list -/
theorem iN {α : Type} {c : Prop} [Decidable c] {M : Model} {a b : Sem α} {Q : α → Shared → Prop} (hc : ¬c) (h : wpAny M A b Q E s) : wpAny M A (if c then a else b) Q E s := by rw [if_neg hc]; exact h
theorem iP {α : Type} {c : Prop} [Decidable c] {M : Model} {a b : Sem α} {Q : α → Shared → Prop} (hc : c) (h : wpAny M A a Q E s) : wpAny M A (if c then a else b) Q E s := by rw [if_pos hc]; exact h
theorem slice_fit {n m a b c : Nat} (h1 : n < 100000) (h2 : m < 100000) : min a n - b + m + (min n n - c) ≤ 2 ^ 24 + 1 :=
  Nat.le_trans (Nat.add_le_add (Nat.add_le_add (Nat.le_trans (Nat.sub_le _ _) (Nat.le_trans (Nat.min_le_right _ _) (Nat.le_of_lt h1))) (Nat.le_of_lt h2)) (Nat.le_trans (Nat.sub_le _ _) (Nat.le_trans (Nat.min_le_right _ _) (Nat.le_of_lt h1)))) (by decide)
/-- the body of list.__setitem__ at a slice, for every object that bears a list's items -/
theorem setSlice_body {o : Obj} {sl y : Addr} {ys : Array Value} {ny : Nat} {vl vu : Value} {lo hi : Option Int} {Q : Fin → Shared → Prop} (hx : s.heap.get? x = some o) (hd : o.data = .seq xs n)
    (hs : s.heap.IsSliceOf sl vl vu .none) (pl : IsPart vl lo) (pu : IsPart vu hi) (hy : s.heap.get? y = some { cls := .type "list", data := .seq ys ny }) (hyx : y ≠ x)
    (h : Q (.done (.ret .none)) { s with heap := s.heap.update x (Obj.mapSeq fun xs' => xs'.extract 0 (sliceBounds lo hi none xs.size).1.toNat ++ ys ++ xs'.extract (max (sliceBounds lo hi none xs.size).1 (sliceBounds lo hi none xs.size).2.1).toNat xs'.size) })
    (hsz : xs.size < 100000) (hsy : ys.size < 100000) : wpAny (model prog w) A (Builtin.«list.__setitem__» ⟨[.ref x, .ref sl, .ref y], []⟩) Q E s := by
  obtain ⟨os, hos, hcs, hds⟩ := id hs
  have hTs : s.TypeIs (.ref sl) "slice" := ⟨os, hos, hcs⟩
  have hTy : s.TypeIs (.ref y) "list" := ⟨_, hy, rfl⟩
  have hdy : ({ cls := .type "list", data := .seq ys ny } : Obj).data = .seq ys ny := rfl
  have hz : xs.size ≤ sizeLine := Nat.le_trans (Nat.le_of_lt hsz) (by decide)
  have hsr : Builtin.List.listSameRef (.ref x) (.ref y) = false := by simp [Builtin.List.listSameRef, Ne.symm hyx]
  have htl : Builtin.List.listTooLong (xs.size + ys.size) = false := by unfold Builtin.List.listTooLong; refine decide_eq_false ?_; simp only [sizeLine]; walk_at "om"
  have hi0 : wpAny (model prog w) A (Builtin.List.listSubscript? (.ref sl)) (fun v s' => v = none ∧ s' = s) E s := by
    unfold Builtin.List.listSubscript?
    exact wpAny_bind (wpAny_specialOf hTs slice_no_index (wpAny_pure ⟨rfl, rfl⟩))
  show wpAny _ _ (Builtin.List.listSubscript? (.ref sl) >>= _) _ _ s
  refine wpAny_bind (wpAny_mono hi0 (fun v s' q => ?_) fun _ _ x => x)
  obtain ⟨rfl, rfl⟩ := q
  refine wpAny_bind (m := typeOf (.ref sl)) (wpAny_typeOf hTs (iN (by decide) ?_))
  refine wpAny_bind (m := Builtin.List.listSliceParts (.ref sl)) ?_
  rw [listSliceParts_eq]
  refine wpAny_bind (wpAny_field hos hds (x := .none) rfl (wpAny_bind (wpAny_pure ?_)))
  refine iN (by decide) ?_
  refine wpAny_bind (wpAny_field hos hds (x := vl) rfl (wpAny_bind (wpAny_listPart pl ?_)))
  refine wpAny_bind (wpAny_field hos hds (x := vu) rfl (wpAny_bind (wpAny_listPart pu (wpAny_pure ?_))))
  refine iN (c := Builtin.List.listSameRef (.ref x) (.ref y) = true) (by rw [hsr]; exact Bool.false_ne_true) ?_
  refine wpAny_bind (m := Builtin.List.listAllItems (.ref y) _) (wpAny_bind (wpAny_typeOf hTy (iP (by decide) ?_)))
  refine wpAny_bind (wpAny_seqItems hy hdy (wpAny_pure ?_))
  refine wpAny_bind (m := Builtin.List.listItems (.ref x)) (wpAny_bind (wpAny_seqItems hx hd (wpAny_pure ?_)))
  refine wpAny_bind (wpAny_of_eq (sliceIndices_raw lo hi none xs.size (by simp)) ?_)
  refine iP (c := (((sliceBounds lo hi none xs.size).2.2 : Int) == 1) = true) (by rfl) ?_
  refine wpAny_bind (m := rule _) (wpAny_rule (iN (c := Builtin.List.listTooLong (xs.size + ys.size) = true) (by rw [htl]; exact Bool.false_ne_true) ?_))
  refine wpAny_bind (m := updateSeq x _) (wpAny_updateSeq hx hd (wpAny_bind (wpAny_letGo (wpAny_pure h))) hz ?_)
  simp only [sizeLine, Array.size_append, Array.size_extract]
  exact slice_fit hsz hsy
theorem acc_setSlice {sl y : Addr} {ys : Array Value} {ny : Nat} {vl vu : Value} {lo hi : Option Int} {Q : Unit → Shared → Prop} (X : (Kn w.params).In s.heap) (hx : s.heap.get? x = some (accObj d xs n))
    (hs : s.heap.IsSliceOf sl vl vu .none) (pl : IsPart vl lo) (pu : IsPart vu hi) (hy : s.heap.get? y = some { cls := .type "list", data := .seq ys ny }) (hyx : y ≠ x)
    (h : Q () { s with heap := s.heap.update x (Obj.mapSeq fun xs' => xs'.extract 0 (sliceBounds lo hi none xs.size).1.toNat ++ ys ++ xs'.extract (max (sliceBounds lo hi none xs.size).1 (sliceBounds lo hi none xs.size).2.1).toNat xs'.size) })
    (hsz : xs.size < 1000) (hsy : ys.size < 1000) : wpAny (model prog w) A (setItem (.ref x) (.ref sl) (.ref y)) Q E s := by
  unfold setItem
  refine wpAny_holding ?_
  refine wpAny_bind ((acc_seqKey X hx).here (wpAny_bind ?_))
  refine acc_slot (o := "") (nm := "") (B := Builtin.«list.__setitem__») (id := "list.__setitem__") X hx (by kernel_rfl) (PySem.F.slot_list_setitem.bind _) ?_
  exact callOn (n := "__setitem__") (owner := "list") (b := Builtin.«list.__setitem__») (acc_inst X hx) (PySem.F.args_list_setitem_3 _ _ _)
    (setSlice_body hx rfl hs pl pu hy hyx ⟨_, rfl, wpAny_pure h⟩ (Nat.lt_trans hsz (by decide)) (Nat.lt_trans hsy (by decide))) (.inl (by decide +kernel))
end
end Mine
namespace Mine
section
variable {prog : Program} {w : World} {A : Around} {R : Result → Shared → Prop} {E : Value → Shared → Prop} {s : Shared} {x d : Addr} {xs : Array Value} {n : Nat} {m : Str → Option Value}
theorem acc_subTail {value : Expr} {l u : Option Expr} {p : Pos} {i : Value} {Q : Value → Shared → Prop} (X : (Kn w.params).In s.heap) (hx : s.heap.get? x = some (accObj d xs n))
    (h : wpAny (model prog w) A (getItem (.ref x) i) Q E s) (ht : ∀ r, letTemporaryGo value (.ref x) r = pure () := by intro _; with_unfolding_all rfl) :
    wpAny (model prog w) A (subscriptTail value (.Slice l u none p) (.ref x) i) Q E s := by
  unfold subscriptTail
  refine wpAny_bind ?_
  have L : Looks (model prog w) s.heap (specialOf (.ref x) "__getitem__") (some (.builtin "list.__getitem__")) := (acc_type hx).andThen (looks_findIn X (by kernel_rfl))
  unfold getitemInPython
  refine wpAny_bind (L.here ?_)
  refine wpAny_pure (wpAny_bind ?_)
  show wpAny _ _ (operate [i, .ref x] (getItem (.ref x) i)) _ _ _
  exact wpAny_operating (wpAny_mono h (fun r s₃ h₃ => wpAny_bind (wpAny_of_eq (ht r) (wpAny_pure h₃))) fun _ _ x => x)
theorem partNone {M : Model} {env : Env} {Q : Value → Shared → Prop} (q : Q .none s) : wpAny M A (evalPart none env) Q E s := wpAny_of_eq (evalPart_none _) q
theorem slO {M : Model} {P : Params} {foot : List Addr} {g : Heap} {σ : Shared} {L : Addr} {mm : Str → Option Value} {led : List (Addr × Obj)} {env : Env} {lower upper : Option Expr} {p : Pos} {l u : Value} {Q : Value → Shared → Prop} (O : Own P foot g σ s L mm led)
    (hl : ∀ Q : Value → Shared → Prop, Q l s → wpAny M A (evalPart lower env) Q E s) (hu : ∀ Q : Value → Shared → Prop, Q u s → wpAny M A (evalPart upper env) Q E s)
    (h : ∀ a s', s.heap.get? a = none → Own P foot g σ s' L mm ((a, { cls := .type "slice", data := .fields #[l, u, .none] }) :: led) → Q (.ref a) s') :
    wpAny M A (eval (.Slice lower upper none p) env) Q E s := by
  refine wpAny_Slice (hl _ (hu _ (partNone ?_)))
  exact h _ _ (get?_size_none _) (O.push _)
theorem acc_getSliceO {foot : List Addr} {g : Heap} {σ : Shared} {L : Addr} {mm : Str → Option Value} {led : List (Addr × Obj)} {value : Expr} {l u : Option Expr} {p : Pos} {sl : Addr} {vl vu : Value} {lo hi : Option Int} {Q : Value → Shared → Prop}
    (O : Own w.params foot g σ s L mm led) (hx : s.heap.get? x = some (accObj d xs n))
    (hs : s.heap.IsSliceOf sl vl vu .none) (pl : IsPart vl lo) (pu : IsPart vu hi) (hsz : xs.size < 1000)
    (h : ∀ a s', s.heap.get? a = none → Own w.params foot g σ s' L mm ((a, { cls := .type "list", data := .seq (slicePick xs lo hi none) }) :: led) → Q (.ref a) s')
    (ht : ∀ r, letTemporaryGo value (.ref x) r = pure () := by intro _; with_unfolding_all rfl) :
    wpAny (model prog w) A (subscriptTail value (.Slice l u none p) (.ref x) (.ref sl)) Q E s :=
  acc_subTail O.X hx (acc_getSlice (st := none) O.X hx hs pl pu .none (by simp) (h _ _ (get?_size_none _) (O.push _)) hsz) ht
theorem acc_setSliceO {foot : List Addr} {g : Heap} {σ : Shared} {L : Addr} {mm : Str → Option Value} {led : List (Addr × Obj)} {sl y : Addr} {ys : Array Value} {ny : Nat} {vl vu : Value} {lo hi : Option Int} {Q : Unit → Shared → Prop}
    (O : Own w.params foot g σ s L mm led) (i : Nat) (hx : led[i]? = some (x, accObj d xs n))
    (hs : s.heap.IsSliceOf sl vl vu .none) (pl : IsPart vl lo) (pu : IsPart vu hi) (hy : s.heap.get? y = some { cls := .type "list", data := .seq ys ny }) (hsz : xs.size < 1000) (hsy : ys.size < 1000)
    (h : ∀ s' n', Own w.params foot g σ s' L mm (led.set i (x, accObj d (xs.extract 0 (sliceBounds lo hi none xs.size).1.toNat ++ ys ++ xs.extract (max (sliceBounds lo hi none xs.size).1 (sliceBounds lo hi none xs.size).2.1).toNat xs.size) n')) → Q () s') :
    wpAny (model prog w) A (setItem (.ref x) (.ref sl) (.ref y)) Q E s := by
  have hx' := O.at i hx
  refine acc_setSlice O.X hx' hs pl pu hy (fun e => by subst e; rw [hx'] at hy; cases hy) ?_ hsz hsy
  have O' := O.update i (f := Obj.mapSeq fun xs' => xs'.extract 0 (sliceBounds lo hi none xs.size).1.toNat ++ ys ++ xs'.extract (max (sliceBounds lo hi none xs.size).1 (sliceBounds lo hi none xs.size).2.1).toNat xs'.size) hx
  exact h _ _ O'
theorem pop_from_ok {i : Nat} {ti : Tok} (X : (Kn w.params).In s.heap) (hroom : A.depth < recursionLimit) (hx : s.heap.get? x = some (accObj d xs n)) 
    (ax : Off w.params x) (hsz : xs.size < 1000) (hi : i ≤ xs.size)
    (h : ∀ s' y n' n'', Post [x] s s' → s'.heap.get? x = some (accObj d (xs.extract 0 i) n') → s.heap.get? y = none → s'.heap.get? y = some { cls := .type "list", data := .seq (xs.toList.drop i).toArray n'' } → R (.ok (.ret (.ref y))) s') :
    codeAny (model prog w) A (.call (.ref 187) ⟨[.ref x, .int i ti], []⟩) R s := by
  refine enter 187 [("self", .ref x), ("i", .int i ti)] [(x, accObj d xs n)] X hroom (led_cons hx ax led_nil) (by simp) ?_ (hbind := kp_binds X fun S => by kernel_rfl)
  intro L s₁ g up O
  refine absQE fun Q E hR => ?_
  refine mstN fun N hN => ?_
  repeat walk_at "st"
  refine ldO O (by rfl) ?_
  refine slO O (fun Q q => ldO O (by rfl) q) (fun Q q => partNone q) fun sl s₂ hsl O₂ => ?_
  refine acc_getSliceO (lo := some (i : Int)) (hi := none) O₂ (O₂.at 1 rfl) ⟨_, O₂.at 0 rfl, rfl, rfl⟩ (.int _ _) .none hsz fun y s₃ hy O₃ => ?_
  refine stO O₃ fun s₄ O₄ => ?_
  repeat walk_at "st"
  refine lstO O₄ fun em s₅ hem O₅ => ?_
  refine ldO O₅ (by rfl) ?_
  refine slO O₅ (fun Q q => ldO O₅ (by rfl) q) (fun Q q => partNone q) fun sl₂ s₆ hsl₂ O₆ => ?_
  refine acc_setSliceO (lo := some (i : Int)) (hi := none) O₆ 4 rfl ⟨_, O₆.at 0 rfl, rfl, rfl⟩ (.int _ _) .none (O₆.at 1 rfl) hsz (by simp) fun s₇ n' O₇ => ?_
  repeat walk_at "st"
  refine ldO O₇ (by rfl) ?_
  have hb : sliceBounds (some (i : Int)) none none xs.size = ((i : Int), (xs.size : Int), 1) := by
    simp only [sliceBounds, Option.getD_none, show (1 : Int) > 0 by decide, if_true]
    have h1 : ¬ ((i : Int) < 0) := by walk_at "om"
    simp only [h1, if_false]
    congr 1
    walk_at "om"
  rw [hb] at O₇
  have e1 : xs.extract 0 i ++ #[] ++ xs.extract xs.size xs.size = xs.extract 0 i := by simp
  have e2 : (max (i : Int) (xs.size : Int)).toNat = xs.size := by walk_at "om"
  show Q (.ret (.ref y)) s₇
  have hx7 := O₇.at 4 rfl
  simp only [Int.toNat_natCast, e2] at hx7
  rw [e1] at hx7
  have hy7 := O₇.at 2 rfl
  rw [slicePick_from xs i hi] at hy7
  exact hR _ _ (h _ y _ _ O₇.post hx7 (O₃.new (by simp) (fun hm => by
    have : y = x := by simpa using hm
    subst this; rw [O₂.at 1 rfl] at hy; cases hy)) hy7)
theorem Own.setNs {P : Params} {foot : List Addr} {g : Heap} {σ : Shared} {L : Addr} {mm m' : Str → Option Value} {led : List (Addr × Obj)} {od : Obj} {h' : Heap} (O : Own P foot g σ s L mm led) (i : Nat) (hi : led[i]? = some (d, od))
    (hs : Heap.SameBut d s.heap h') (hn : h'.Ns1 d m') (t : Nat := s.toks) : ∃ od', h'.get? d = some od' ∧ Own P foot g σ { s with heap := h', toks := t } L mm (led.set i (d, od')) := by
  obtain ⟨od', -, -, ho, -⟩ := id hn
  exact ⟨od', ho, O.change i hi hs ho t⟩
theorem reset_list {y : Addr} {ys : Array Value} {ny : Nat} {ns : List Str} (X : (Kn w.params).In s.heap) (hroom : A.depth < recursionLimit) (hx : s.heap.get? x = some (accObj d xs n)) {od : Obj} (hdo : s.heap.get? d = some od) (hd : s.heap.Ns1 d m) (hw : Within m ns) (hns : ns.length ≤ 100) (hxd : x ≠ d)
    (ax : Off w.params x) (ad : Off w.params d) (hsz : xs.size < 1000) (hy : s.heap.get? y = some { cls := .type "list", data := .seq ys ny }) (hsy : ys.size < 1000) (hyd : y ≠ d)
    (h : ∀ s' n' t, Post [x, d] s s' → s'.heap.get? x = some (accObj d ys n') → s'.heap.Ns1 d (fun z => if z = "_initial_size" then some (.int 0 t) else m z) → R (.ok (.ret .none)) s') :
    codeAny (model prog w) A (.call (.ref 217) ⟨[.ref x, .ref y], []⟩) R s := by
  have hyx : y ≠ x := by rintro rfl; rw [hx] at hy; cases hy
  have hyn : y ∉ [(x, accObj d xs n), (d, od)].map (·.1) := by simp [hyx, hyd]
  refine enter 217 [("self", .ref x), ("startval", .ref y)] [(x, accObj d xs n), (d, od)] X hroom (led_cons hx ax (led_cons hdo ad led_nil)) (by simp [hxd]) ?_ (hbind := kp_binds X fun S => by kernel_rfl)
  intro L s₁ g up O
  refine absQE fun Q E hR => ?_
  refine mstN fun N hN => ?_
  walk_at "st"
  refine wpAny_isTrue_Compare1 ?_
  refine ldO O (by rfl) ?_
  walk_at "st"
  refine is_ref_none ?_
  refine wpAny_pure ?_
  rw [if_neg Bool.false_ne_true]
  repeat walk_at "st"
  refine ldO O (by rfl) ?_
  refine ldO O (by rfl) ?_
  refine slO O (fun Q q => partNone q) (fun Q q => partNone q) fun sl s₂ hsl O₂ => ?_
  refine acc_setSliceO (lo := none) (hi := none) O₂ 1 rfl ⟨_, O₂.at 0 rfl, rfl, rfl⟩ .none .none (O₂.keep _ _ (up _ _ hyn hy)) hsz hsy fun s₃ n' O₃ => ?_
  repeat walk_at "st"
  refine intO O₃ fun t₄ s₄ O₄ => ?_
  refine ldO O₄ (by rfl) ?_
  have hxy : xs.extract 0 (sliceBounds none none none xs.size).1.toNat ++ ys ++ xs.extract (max (sliceBounds none none none xs.size).1 (sliceBounds none none none xs.size).2.1).toNat xs.size = ys := by
    have hb : sliceBounds none none none xs.size = (0, (xs.size : Int), 1) := by simp [sliceBounds]
    rw [hb]
    have e2 : (max (0 : Int) (xs.size : Int)).toNat = xs.size := by walk_at "om"
    simp [e2]
  rw [hxy] at O₄
  have hd₄ : s₄.heap.Ns1 d m := hd.at fun o e => by
    have : o = od := Option.some.inj (e.symm.trans hdo)
    subst this; exact O₄.at 2 rfl
  refine acc_set O₄.X (O₄.at 1 rfl) hd₄ hw hns (by kernel_rfl) fun h' t' hn' hs' => ?_
  obtain ⟨od', -, O₅⟩ := O₄.setNs 2 rfl hs' hn' t'
  repeat walk_at "st"
  exact hR _ _ (h _ _ t₄ O₅.post (O₅.at 1 rfl) hn')
theorem reset_none {ns : List Str} (X : (Kn w.params).In s.heap) (hroom : A.depth < recursionLimit) (hx : s.heap.get? x = some (accObj d xs n)) {od : Obj} (hdo : s.heap.get? d = some od) (hd : s.heap.Ns1 d m) (hw : Within m ns) (hns : ns.length ≤ 100) (hxd : x ≠ d)
    (ax : Off w.params x) (ad : Off w.params d) (hsz : xs.size < 1000)
    (h : ∀ s' n' t, Post [x, d] s s' → s'.heap.get? x = some (accObj d #[] n') → s'.heap.Ns1 d (fun z => if z = "_initial_size" then some (.int 0 t) else m z) → R (.ok (.ret .none)) s') :
    codeAny (model prog w) A (.call (.ref 217) ⟨[.ref x], []⟩) R s := by
  refine enter 217 [("self", .ref x), ("startval", .none)] [(x, accObj d xs n), (d, od)] X hroom (led_cons hx ax (led_cons hdo ad led_nil)) (by simp [hxd]) ?_ (hbind := kp_binds X fun S => by kernel_rfl)
  intro L s₁ g up O
  refine absQE fun Q E hR => ?_
  refine mstN fun N hN => ?_
  walk_at "st"
  refine wpAny_isTrue_Compare1 ?_
  refine ldO O (by rfl) ?_
  walk_at "st"
  refine wpAny_is_plain rfl ?_
  refine wpAny_pure ?_
  rw [if_pos (by simp)]
  repeat walk_at "st"
  refine lstO O fun y s₁' hy O => ?_
  refine stO O fun s₂' O => ?_
  repeat walk_at "st"
  refine ldO O (by rfl) ?_
  refine ldO O (by rfl) ?_
  refine slO O (fun Q q => partNone q) (fun Q q => partNone q) fun sl s₂ hsl O₂ => ?_
  refine acc_setSliceO (lo := none) (hi := none) O₂ 2 rfl ⟨_, O₂.at 0 rfl, rfl, rfl⟩ .none .none (O₂.at 1 rfl) hsz (by simp) fun s₃ n' O₃ => ?_
  repeat walk_at "st"
  refine intO O₃ fun t₄ s₄ O₄ => ?_
  refine ldO O₄ (by rfl) ?_
  have hxy : xs.extract 0 (sliceBounds none none none xs.size).1.toNat ++ #[] ++ xs.extract (max (sliceBounds none none none xs.size).1 (sliceBounds none none none xs.size).2.1).toNat xs.size = #[] := by
    have hb : sliceBounds none none none xs.size = (0, (xs.size : Int), 1) := by simp [sliceBounds]
    rw [hb]
    have e2 : (max (0 : Int) (xs.size : Int)).toNat = xs.size := by walk_at "om"
    simp [e2]
  rw [hxy] at O₄
  have hd₄ : s₄.heap.Ns1 d m := hd.at fun o e => by
    have : o = od := Option.some.inj (e.symm.trans hdo)
    subst this; exact O₄.at 3 rfl
  refine acc_set O₄.X (O₄.at 2 rfl) hd₄ hw hns (by kernel_rfl) fun h' t' hn' hs' => ?_
  obtain ⟨od', -, O₅⟩ := O₄.setNs 3 rfl hs' hn' t'
  repeat walk_at "st"
  exact hR _ _ (h _ _ t₄ O₅.post (O₅.at 2 rfl) hn')
end
end Mine
namespace Mine
section
variable {prog : Program} {w : World} {A : Around} {E : Value → Shared → Prop} {s : Shared} {x d it : Addr} {xs : Array Value} {n i : Nat}
/-- iter(self) of a list's subclass -/
theorem acc_iter {Q : Value → Shared → Prop} (X : (Kn w.params).In s.heap) (hx : s.heap.get? x = some (accObj d xs n))
    (h : Q (.ref s.heap.objs.size) { s with heap := s.heap.push { cls := .type "list_iterator", data := .fields #[.ref x, .int 0 0] } }) : wpAny (model prog w) A (pyIter (.ref x)) Q E s := by
  have L1 : Looks (model prog w) s.heap (specialOf (.ref x) "__iter__") (some (.builtin "list.__iter__")) := (acc_type hx).andThen (looks_findIn X (by kernel_rfl))
  unfold pyIter
  refine wpAny_bind (L1.here ?_)
  unfold callSpecialIfBoundUnlessNone? bindSpecialIfBound?
  refine wpAny_bind (wpAny_holding (wpAny_bind (wpAny_bind (L1.here ?_))))
  have hb := slot_list_iter.bind (.ref x)
  dsimp only
  rw [hb]
  have fin : wpAny (model prog w) A (call (.builtin "list.__iter__") [.ref x]) (fun v s' => wpAny (model prog w) A (specialOf v "__next__" >>= fun r => match r with
      | none => do rule "iter.non-iterator"; raiseError "TypeError" s!"iter() returned non-iterator of type '{← typeNameOf v}'"
      | some _ => pure v) Q E s') E s := by
    refine callOn (n := "__iter__") (owner := "list") (b := Builtin.«list.__iter__») (acc_inst X hx) (args_list_iter _) ?_ (.inl (by decide +kernel))
    show wpAny _ _ (do ret (← newFields "list_iterator" [.ref x, rawInt 0])) _ _ s
    refine wpAny_bind (wpAny_newObj_type (wpAny_pure ⟨_, rfl, ?_⟩))
    have hT : (Shared.mk (s.heap.push { cls := .type "list_iterator", data := .fields #[.ref x, .int 0 0] }) s.gens s.drawn s.toks s.os).TypeIs (.ref s.heap.objs.size) "list_iterator" := ⟨_, Heap.get?_push_size _ rfl, rfl⟩
    exact wpAny_bind (wpAny_specialOf hT slot_listiter_next.lookup (wpAny_pure h))
  refine wpAny_bind (wpAny_askSetting ?_)
  split
  · refine wpAny_bind (wpAny_pure (wpAny_pure ?_))
    dsimp only
    rw [if_neg (by decide)]
    exact wpAny_bind (wpAny_mono fin (fun v s' h' => wpAny_pure h') fun _ _ z => z)
  · refine wpAny_tryCatch (wpAny_bind (wpAny_pure (wpAny_pure ?_)))
    dsimp only
    rw [if_neg (by decide)]
    exact wpAny_bind (wpAny_mono fin (fun v s' h' => wpAny_pure h') fun _ _ z => z)
theorem acc_next {v : Value} {Q : Option Value → Shared → Prop} (hit : s.heap.IsListIter it x i) (hx : s.heap.get? x = some (accObj d xs n)) (hv : xs[i]? = some v)
    (hQ : ∀ h', h'.IsListIter it x (i + 1) → Heap.SameBut it s.heap h' → Q (some v) { s with heap := h' }) : wpAny (model prog w) A (pyNext (.ref it)) Q E s := by
  have hd : (accObj d xs n).data = .seq xs n := rfl
  have hT := hit.typeIs
  obtain ⟨o, ho, hc, hdo⟩ := id hit
  unfold pyNext
  refine wpAny_bind (wpAny_attempt (wpAny_callSpecial?_slot (name := Str.ofString "__next__") hT slot_listiter_next (wpAny_call_entry slot_listiter_next hT entry_listiter_next ?_ (args_listiter_next _))))
  unfold Builtin.«list_iterator.__next__»
  repeat (first | (with_reducible refine wpAny_field ho hdo (x := .ref x) rfl ?_) | (with_reducible refine wpAny_field ho hdo (x := .int i 0) rfl ?_) | (with_reducible refine wpAny_seqItems hx hd ?_) | wp_step)
  simp only [Int.toNat_natCast, hv]
  refine wpAny_bind (wpAny_setField ho hdo (by simp) (wpAny_pure ⟨v, rfl, wpAny_pure (hQ _ ?_ (Heap.SameBut.update ..))⟩))
  exact ⟨_, Heap.get?_update_self _ ho (Obj.isFreed_of_fields (Obj.data_mapFields hdo _)), (Obj.cls_mapFields ..).trans hc, by
    rw [Obj.data_mapFields hdo]; simp [rawInt]⟩
theorem acc_end {Q : Option Value → Shared → Prop} (hh : A.handled = none) (hit : s.heap.IsListIter it x i) (hx : s.heap.get? x = some (accObj d xs n)) (hv : xs[i]? = none)
    (hQ : ∀ h', Heap.ExtBut it s.heap h' → Q none { s with heap := h' }) : wpAny (model prog w) A (pyNext (.ref it)) Q E s := by
  have hd : (accObj d xs n).data = .seq xs n := rfl
  have hT := hit.typeIs
  obtain ⟨o, ho, hc, hdo⟩ := id hit
  unfold pyNext
  refine wpAny_bind (wpAny_attempt (wpAny_callSpecial?_slot (name := Str.ofString "__next__") hT slot_listiter_next (wpAny_call_entry slot_listiter_next hT entry_listiter_next ?_ (args_listiter_next _))))
  unfold Builtin.«list_iterator.__next__»
  repeat (first | (with_reducible refine wpAny_field ho hdo (x := .ref x) rfl ?_) | (with_reducible refine wpAny_field ho hdo (x := .int i 0) rfl ?_) | (with_reducible refine wpAny_seqItems hx hd ?_) | wp_step)
  simp only [Int.toNat_natCast, hv]
  refine wpAny_bind (wpAny_rule (wpAny_bind (wpAny_setField ho hdo (by simp) ?_)))
  show wpAny _ _ (newExc (.type "StopIteration") [] >>= _) _ _ _
  refine wpAny_bind ?_
  simp only [newExc, newTuple]
  refine wpAny_bind (wpAny_newObj_type ?_ (by size_fits))
  refine wpAny_bind (m := firstArgMember _ _) (wpAny_of_eq (a := Value.none) (by first | rfl | (simp only [firstArgMember]; rfl)) ?_)
  refine wpAny_newObj_type ?_ (by size_fits)
  simp only [raiseNew]
  refine wpAny_bind (wpAny_handled ?_)
  rw [show A.in1.handled = none from hh]
  refine wpAny_bind (wpAny_pure (wpAny_throw ?_))
  refine wpAny_bind (wpAny_isInstance (T := "StopIteration") (b := true) ⟨_, Heap.get?_push_size _ rfl, rfl⟩ isSubtype_stop ?_)
  exact wpAny_pure (hQ _ (((Heap.SameBut.update ..).extBut.push _).push _))
/-- the walk over a list's subclass whose items are tuples -/
theorem accWalk (hh : A.handled = none) (I ax d : Addr) (hne : ax ≠ I) (items : Array Value) (k : Nat) (Ts : Nat → Addr) (vals : Nat → Array Value)
    (hit : ∀ j, j < items.size → items[j]? = some (.ref (Ts j))) (hTI : ∀ j, j < items.size → Ts j ≠ I) :
    WalksU prog w A I (I :: ax :: (List.range items.size).map Ts) [I] items.size (fun j v => j < items.size ∧ v = vals j)
      (fun j h => h.IsListIter I ax j ∧ h.get? ax = some (accObj d items k) ∧ ∀ k, k < items.size → h.IsTuple (Ts k) (vals k))
      (fun j T h => (j < items.size ∧ T = Ts j) ∧ h.IsListIter I ax (j + 1) ∧ h.get? ax = some (accObj d items k) ∧ ∀ k, k < items.size → h.IsTuple (Ts k) (vals k)) where
  sub := fun b hb => by simp at hb; simp [hb]
  frame := fun _ _ _ st hk => ⟨st.1.at fun o e => hk I (by simp) o e, hk ax (by simp) _ st.2.1,
    fun k hk' => (st.2.2 k hk').at fun o e => hk (Ts k) (List.mem_cons_of_mem _ (List.mem_cons_of_mem _ (List.mem_map.mpr ⟨k, List.mem_range.mpr hk', rfl⟩))) o e⟩
  item := fun i s Q E hi st hQ => by
    refine acc_next st.1 st.2.1 (hit i hi) fun h' hit' hs' => ?_
    have tup : ∀ k, k < items.size → h'.IsTuple (Ts k) (vals k) := fun k hk' => (st.2.2 k hk').extBut hs'.extBut (hTI k hk')
    exact hQ (Ts i) (vals i) h' s.toks ⟨hi, rfl⟩ (tup i hi) ⟨⟨hi, rfl⟩, hit', (hs'.2 _ hne).trans st.2.1, tup⟩ fun b o hb e => hs'.extBut b o (fun h => hb (by simp [h])) e
  go := fun _ _ _ _ _ s Q _ hm hQ => wpAny_letOwnedTupleGo_listiter hm.2.1 (hQ s.heap hm.2 fun _ _ _ e => e)
  apart := fun j T _ hm hmem => by
    rcases List.mem_cons.mp hmem with e | e
    · exact hTI j hm.1.1 (hm.1.2 ▸ e)
    · cases e
  done := fun s Q E st hQ => acc_end hh st.1 st.2.1 (by simp) fun h' he' => hQ h' s.toks fun b o hb e => he' b o (fun h => hb (by simp [h])) e
  self := fun _ _ _ _ st hQ => wpAny_pyIter_listiter st.1 hQ
end
end Mine
namespace Mine
section
variable {P : Params} {foot : List Addr} {g : Heap} {σ s s' : Shared} {L : Addr} {m : Str → Option Value} {led led' : List (Addr × Obj)}
theorem Own.extBut (O : Own P foot g σ s L m led) (i : Nat) {a : Addr} {o o' : Obj} {h' : Heap} (hi : led[i]? = some (a, o)) (hs : Heap.ExtBut a s.heap h') (ho : h'.get? a = some o') (t : Nat := s.toks) :
    Own P foot g σ { s with heap := h', toks := t } L m (led.set i (a, o')) := by
  have z := O.lg _ (List.mem_of_getElem? hi)
  refine ⟨O.ns.extBut hs (Ne.symm z.2.1), fun b ob e => hs b ob (fun q => ?_) (O.keep b ob e), O.kn, O.newL, fun p hp => ?_, ?_, O.bare, O.drawn, O.os, O.base⟩
  · subst q; rw [z.2.2] at e; cases e
  · rcases mem_set_cases O.nd hi p hp with rfl | ⟨hp, hne⟩
    · exact ⟨ho, z.2⟩
    · exact ⟨hs _ _ hne (O.lg p hp).1, (O.lg p hp).2⟩
  · rw [map_set_fst hi]; exact O.nd
end
abbrev tabObj (ps : Array Value) : Obj := { cls := .none, data := .fields ps }
/-- the table of a code that holds at most one inner code -/
def Tab1 (pos : Pos) (ps : Array Value) : Prop := ps = #[] ∨ ∃ c' : Addr, ps = #[rawInt pos.line, rawInt pos.col, .ref c']
def codeOkB (vs : Array Value) (T : Addr) : Bool := vs.getD 11 .none == .ref T && vs[11]? == some (.ref T) &&
  (match vs.getD 18 .none with | .str _ _ => true | _ => false) && (match vs.getD 7 .none with | .int _ _ => true | _ => false) &&
  (match vs.getD 9 .none with | .bool _ => true | _ => false) && (match vs.getD 10 .none with | .int _ _ => true | _ => false)
theorem codeOk_of {h : Heap} {c T : Addr} {o : Obj} {vs ps : Array Value} (ho : h.get? c = some o) (hd : o.data = .fields vs) (hcl : o.cls = .type "code") (e : codeOkB vs T = true) (hT : h.get? T = some (tabObj ps)) (ht : TriplesOk ps.toList) (hne : c ≠ T) :
    h.IsCode c T ps ∧ h.TableAt c T ps := by
  unfold codeOkB at e
  simp only [Bool.and_eq_true] at e
  obtain ⟨⟨⟨⟨⟨e1, e1'⟩, e2⟩, e3⟩, e4⟩, e5⟩ := e
  have e1 := beq_iff_eq.mp e1
  have e1' := beq_iff_eq.mp e1'
  split at e2 <;> first | cases e2 | skip
  split at e3 <;> first | cases e3 | skip
  split at e4 <;> first | cases e4 | skip
  split at e5 <;> first | cases e5 | skip
  exact ⟨⟨o, vs, _, _, _, _, _, _, _, _, ho, hd, e1, by assumption, by assumption, by assumption, by assumption, hT, rfl, ht, hne⟩, ⟨⟨o, vs, ho, hcl, hd, e1'⟩, hT⟩⟩
theorem Tab1.triples {pos : Pos} {ps : Array Value} (t : Tab1 pos ps) : TriplesOk ps.toList := by
  rcases t with rfl | ⟨c, rfl⟩ <;> exact trivial
section
variable {prog : Program} {w : World} {A : Around} {E : Value → Shared → Prop} {foot : List Addr} {g : Heap} {σ s : Shared} {L : Addr} {m : Str → Option Value} {led : List (Addr × Obj)} {pos : Pos} {ps : Array Value} {T : Addr}
theorem genCodeO (n : Nat) {qual : Str} {scope : Scope} {Q : Value → Shared → Prop} (O : Own w.params foot g σ s L m led) (i : Nat) (hi : led[i]? = some (T, tabObj ps)) (ht : Tab1 pos ps)
    (h : ∀ c' s' ps', Own w.params foot g σ s' L m (led.set i (T, tabObj ps')) → Tab1 pos ps' → Heap.ExtBut T s.heap s'.heap → s.heap.objs.size ≤ s'.heap.objs.size → s'.gens = s.gens → Q (.ref c') s')
    (hfn : (EV w.params n L).code = .ref (codeA w.params n) := by kernel_rfl) (hoc : (Kn w.params).lookup (codeA w.params n) = some (codeO w.params n) := by kernel_rfl) (hod : (codeO w.params n).data = .fields (codeV w.params n) := by kernel_rfl)
    (hcl : (codeO w.params n).cls = .type "code" := by kernel_rfl) (hok : codeOkB (codeV w.params n) T = true := by kernel_rfl) (hne : Nat.beq (codeA w.params n) T = false := by kernel_rfl) :
    wpAny (model prog w) A (genexprCode (EV w.params n L) pos qual scope) Q E s := by
  obtain ⟨hI, hTab⟩ := codeOk_of (O.X _ _ hoc) hod hcl hok (O.at i hi) ht.triples (Nat.ne_of_beq_eq_false hne)
  rcases ht with rfl | ⟨c', rfl⟩
  · refine wpAny_genexprCodeX hfn hI hTab rfl fun c' h' tk hx hge hlt hI' _ hT' _ => ?_
    refine h c' _ _ (O.extBut i hi hx hT'.2 tk) (.inr ⟨c', by simp⟩) hx (Nat.le_trans hge (Nat.le_of_lt hlt)) rfl
  · refine wpAny_genexprCode_hit (c' := .ref c') hfn hI ?_ (h c' s _ (O.extBut i hi (fun b o _ e => e) (O.at i hi) s.toks) (.inr ⟨c', rfl⟩) (fun b o _ e => e) (Nat.le_refl _) rfl)
    simp [codeAmong, rawInt]
theorem builtinsO (n : Nat) {Q : Addr → Shared → Prop} (X : (Kn w.params).In s.heap) (h : Q builtinsNs s)
    (hg : (EV w.params n L).globals = mainGlobals := by kernel_rfl) : wpAny (model prog w) A (builtinsFor (EV w.params n L).globals (EV w.params n L).builtins) Q E s := by
  refine wpAny_builtinsFor (hg ▸ nsG X) (bm := 4) (by kernel_rfl) (by decide) (X 4 { cls := .type "module", dict := some builtinsNs, data := .plain } (by kernel_rfl)) rfl rfl rfl h
end
end Mine
namespace Mine
def PartAt (h : Heap) (v : Value) (p : Str × Str) : Prop := ∃ a tf tp, v = .ref a ∧ h.get? a = some { cls := .type "tuple", data := .seq #[.str p.1 tf, .str p.2 tp] }
/-- the chunks behind the values -/
structure Parts (h : Heap) (xs : Array Value) (ps : List (Str × Str)) : Prop where
  len : xs.size = ps.length
  at_ : ∀ (j : Nat) (v : Value) (p : Str × Str), xs[j]? = some v → ps[j]? = some p → PartAt h v p
theorem Parts.keeps {h h' : Heap} {xs : Array Value} {ps : List (Str × Str)} (x : Parts h xs ps) (k : ∀ b o, h.get? b = some o → o.cls = .type "tuple" → h'.get? b = some o) : Parts h' xs ps :=
  ⟨x.len, fun j v p e1 e2 => let ⟨a, tf, tp, e, o⟩ := x.at_ j v p e1 e2; ⟨a, tf, tp, e, k _ _ o rfl⟩⟩
section
variable {P : Params} {foot : List Addr} {g : Heap} {σ s s' : Shared} {L : Addr} {m : Str → Option Value} {led led' : List (Addr × Obj)}
theorem Own.moved (O : Own P foot g σ s L m led) {wr : List Addr} {gg : Nat} (hm : Moved wr (GenOnlyQ gg) s s') (hw : ∀ b ∈ wr, g.get? b = none ∧ b ≠ L ∧ b ∉ led.map (·.1)) : Own P foot g σ s' L m led := by
  refine ⟨O.ns.at' fun o e => hm.heap _ o (fun h => (hw _ h).2.1 rfl) e, fun b o e => hm.heap b o (fun h => ?_) (O.keep b o e), O.kn, O.newL, fun p hp => ⟨hm.heap _ _ (fun h => (hw _ h).2.2 (List.mem_map_of_mem hp)) (O.lg p hp).1, (O.lg p hp).2⟩, O.nd,
    fun x => (O.bare x).moved hm.gens, hm.drawn.trans O.drawn, hm.os.trans O.os, O.base⟩
  rw [(hw b h).1] at e; cases e
end
theorem Own.gens {P : Params} {foot : List Addr} {g : Heap} {σ s : Shared} {L : Addr} {m : Str → Option Value} {led : List (Addr × Obj)} (O : Own P foot g σ s L m led) {gs : GenState} (hb : gs.bare = true) {h' : Heap} (hk : ∀ b o, s.heap.get? b = some o → h'.get? b = some o) (t : Nat) :
    Own P foot g σ { s with gens := s.gens.push gs, toks := t, heap := h' } L m led :=
  let O' := O.more hk; ⟨O'.ns, O'.keep, O'.kn, O'.newL, O'.lg, O'.nd, fun x => (O.bare x).push hb, O.drawn, O.os, O.base⟩
theorem _root_.PySem.WalksS.monoP {prog : Program} {w : World} {A : Around} {I : Addr} {fp wr : List Addr} {G : Array GenState → Array GenState → Prop} {n : Nat} {P P' : Nat → Value → Prop} {St : Nat → Shared → Prop} (W : WalksS prog w A I fp wr G n P St) (h : ∀ i v, P i v → P' i v) : WalksS prog w A I fp wr G n P' St :=
  ⟨W.sub, W.grefl, W.gtrans, W.frame, fun i s Q E hi st hQ => W.item i s Q E hi st fun v s' hP => hQ v s' (h i v hP), W.done, W.self⟩
theorem passing_all (n : Nat) : passing (fun _ => true) n 0 = List.range n := by unfold passing; rw [List.drop_zero]; exact List.filter_eq_self.mpr fun _ _ => rfl
section
variable {prog : Program} {w : World} {A : Around} {E : Value → Shared → Prop} {foot : List Addr} {g : Heap} {σ s : Shared} {L : Addr} {m : Str → Option Value} {led : List (Addr × Obj)} {tb : Array Value} {T x d : Addr} {xs : Array Value} {k : Nat} {ps : List (Str × Str)}
theorem genO (n : Nat) {elt : Expr} {pa pb pt pi : Pos} {kt : Nat} {scope : Scope} {pos : Pos} {Q : Value → Shared → Prop} (F : Nat → Value → Prop)
    (O : Own w.params foot g σ s L m led) (hh : A.handled = none) (hroom : A.depth < recursionLimit) (i : Nat) (hi : led[i]? = some (T, tabObj tb)) (ht : Tab1 pos tb) (hx : s.heap.get? x = some (accObj d xs k)) (hv : m "self" = some (.ref x)) (hP : Parts s.heap xs ps)
    (hclos : closureFor scope (EV w.params n L) = pure []) (hcell : (scope.names.all fun y => y.2 != .cell) = true) (h0 : scope.names.lookup (".0" : Str) = some NameKind.local)
    (hxa : scope.names.lookup ("fws" : Str) = some .local) (hxb : scope.names.lookup ("part" : Str) = some .local) (hkind : scope.kind = .function) (hco : scope.isCoroutine = false)
    (helt : ∀ (A' : Around) (E' : Value → Shared → Prop) code L' (s₂ : Shared) (m₂ : Str → Option Value) i p ta tb, A'.handled = none → ps[i]? = some p → (Kn w.params).In s₂.heap → s₂.heap.Ns L' m₂ → m₂ "fws" = some (.str p.1 ta) → m₂ "part" = some (.str p.2 tb) →
      wpAny (model prog w) A' (eval elt (genEnv scope [] L' code builtinsNs (EV w.params n L))) (fun y s₃ => F i y ∧ Keeps s₂ s₃) E' s₂)
    (h : ∀ a gg s' tb' fp wr St, Own w.params foot g σ s' L m (led.set i (T, tabObj tb')) → Tab1 pos tb' → WalksS prog w A.in4 a fp wr (GenOnlyQ gg) ps.length F St → St 0 s' → (∀ i s, St i s → s.TypeIs (.ref a) "generator") → a ∈ fp →
      (∀ b ∈ fp, b < s'.heap.objs.size) → (∀ b ∈ wr, s.heap.get? b = none) → Q (.ref a) s')
    (hks : (EV w.params n L).kindOf "self" = some .local := by kernel_rfl) (hkf : (EV w.params n L).scope.kind = .function := by kernel_rfl)
    (hfn : (EV w.params n L).code = .ref (codeA w.params n) := by kernel_rfl) (hoc : (Kn w.params).lookup (codeA w.params n) = some (codeO w.params n) := by kernel_rfl) (hod : (codeO w.params n).data = .fields (codeV w.params n) := by kernel_rfl)
    (hcl : (codeO w.params n).cls = .type "code" := by kernel_rfl) (hok : codeOkB (codeV w.params n) T = true := by kernel_rfl) (hne : Nat.beq (codeA w.params n) T = false := by kernel_rfl) (hgl : (EV w.params n L).globals = mainGlobals := by kernel_rfl) :
    wpAny (model prog w) A (eval (.GeneratorExp elt [⟨.Tuple [.Name "fws" pa, .Name "part" pb] kt pt, .Name "self" pi, [], 0⟩] scope pos) (EV w.params n L)) Q E s := by
  refine wpAny_GeneratorExp_walksQT hh hco hclos (fun y hy e => by have := List.all_eq_true.mp hcell y hy; rw [e] at this; cases this) h0 hxa hxb (by decide) hkind hroom ?_ (by intro x; rfl)
  refine ldO O hv ?_ (hk := hkf) (hl := hks)
  refine acc_iter O.X hx ?_
  have O₂ := O.push (o := { cls := .type "list_iterator", data := .fields #[.ref x, .int 0 0] })
  refine ⟨noLimit O₂.X, ?_⟩
  refine genCodeO n O₂ (i + 1) (by simpa using hi) ht (fun c' s₃ tb' O₃ ht' hx₃ hsz₃ hg₃ => ?_) hfn hoc hod hcl hok hne
  refine builtinsO n O₃.X ?_ hgl
  have hall : ∀ j : Nat, ∃ q : Addr × Tok × Tok × (Str × Str), j < xs.size → xs[j]? = some (.ref q.1) ∧ ps[j]? = some q.2.2.2 ∧ s.heap.get? q.1 = some { cls := .type "tuple", data := .seq #[.str q.2.2.2.1 q.2.1, .str q.2.2.2.2 q.2.2.1] } := by
    intro j
    by_cases hj : j < xs.size
    · have e1 : xs[j]? = some xs[j] := Array.getElem?_eq_getElem hj
      have hj' : j < ps.length := by rw [← hP.len]; exact hj
      have e2 : ps[j]? = some ps[j] := List.getElem?_eq_getElem hj'
      obtain ⟨a, tf, tp, e, ho⟩ := hP.at_ j _ _ e1 e2
      exact ⟨(a, tf, tp, ps[j]), fun _ => ⟨by rw [e1, e], e2, ho⟩⟩
    · exact ⟨(0, 0, 0, (Str.empty, Str.empty)), fun h => absurd h hj⟩
  obtain ⟨f, hf⟩ := Classical.skolem.mp hall
  have hTat := O.at i hi
  have hxT : x ≠ T := fun e => by rw [e, hTat] at hx; cases hx
  have hlt : ∀ b o, s.heap.get? b = some o → b ≠ s.heap.objs.size := fun b o e => Nat.ne_of_lt (Heap.lt_size e)
  have kp : ∀ b o, b ≠ T → s.heap.get? b = some o → s₃.heap.get? b = some o := fun b o hb e => hx₃ b o hb (Heap.get?_push_of_some _ e)
  have hx3 : s₃.heap.get? x = some (accObj d xs k) := kp _ _ hxT hx
  have htT : ∀ j, j < xs.size → (f j).1 ≠ T := fun j hj e => by
    have := (hf j hj).2.2
    rw [e, hTat] at this; cases this
  have ht3 : ∀ j, j < xs.size → s₃.heap.get? (f j).1 = some { cls := .type "tuple", data := .seq #[.str (f j).2.2.2.1 (f j).2.1, .str (f j).2.2.2.2 (f j).2.2.1] } := fun j hj => kp _ _ (htT j hj) (hf j hj).2.2
  have h2 : cStatics ≠ s.heap.objs.size := by
    obtain ⟨_, hn, _⟩ := noLimit O.X
    exact Nat.ne_of_lt hn.lt
  refine ⟨s.heap.objs.size, _, [s.heap.objs.size], xs.size, _, _, _, fun _ => true, F, rfl, fun A' hA => accWalk hA s.heap.objs.size x d (hlt _ _ hx) xs k (fun j => (f j).1) (fun j => #[.str (f j).2.2.2.1 (f j).2.1, .str (f j).2.2.2.2 (f j).2.2.1]) (fun j hj => (hf j hj).1) (fun j hj => hlt _ _ (hf j hj).2.2),
    fun j vals hv => ⟨_, _, hv.2⟩, ⟨⟨_, O₃.at 0 rfl, rfl, rfl⟩, hx3, fun j hj => ⟨_, ht3 j hj, rfl, _, rfl⟩⟩, ?_, noLimit O₃.X, by simpa using h2, ?_, ?_⟩
  · intro b hb
    rcases List.mem_cons.mp hb with rfl | hb
    · exact Heap.lt_size (O₃.at 0 rfl)
    rcases List.mem_cons.mp hb with rfl | hb
    · exact Heap.lt_size hx3
    · obtain ⟨j, hj, rfl⟩ := List.mem_map.mp hb
      exact Heap.lt_size (ht3 j (List.mem_range.mp hj))
  · intro href hhref
    refine ⟨fun A' E' i va vb s₂ m₂ hA hPt hn e1 e2 hk => ?_, fun A' E' i va vb s₂ m₂ hA hPt _ hn e1 e2 hk => ?_⟩
    · exact wpAny_pure ⟨rfl, _, _, rfl, fun _ _ e => e⟩
    · obtain ⟨hj, hvals⟩ := hPt
      have hva : va = .str (f i).2.2.2.1 (f i).2.1 ∧ vb = .str (f i).2.2.2.2 (f i).2.2.1 := by simpa using hvals
      rw [hva.1] at e1; rw [hva.2] at e2
      refine helt A' E' (.ref c') _ s₂ m₂ i (f i).2.2.2 _ _ hA (hf i hj).2.1 (fun a o e => ?_) hn e1 e2
      have ea := O₃.X a o e
      have ea' := O.X a o e
      exact hk a (List.mem_range.mpr (Heap.lt_size ea)) (by simpa using hlt _ _ ea') o (hhref _ _ ea)
  · intro a h₅ tk gs hgs hag hsz₅ hk₅ W hGA
    have hlen : (passing (fun _ => true) xs.size 0).length = ps.length := by rw [passing_all, List.length_range, hP.len]
    rw [hlen] at W
    have W' := W.monoP (P' := F) fun j y hj => by
      obtain ⟨i, e1, e2⟩ := hj
      rw [passing_all] at e1
      have : i = j := by
        obtain ⟨h1, h2⟩ := List.getElem?_eq_some_iff.mp e1
        rw [List.getElem_range] at h2; exact h2.symm
      rw [← this]; exact e2
    refine h a s₃.gens.size _ tb' _ _ _ ((O₃.tail (p := (s.heap.objs.size, _)) (led' := led.set i (T, tabObj tb')) rfl).gens hgs hk₅ tk) ht' W' hGA (fun i s' st => st.1.typeIs) List.mem_cons_self ?_ ?_
    · intro b hb
      show b < h₅.objs.size
      rw [hsz₅]
      rcases List.mem_cons.mp hb with rfl | hb
      · exact Nat.lt_succ_self _
      · rcases List.mem_cons.mp hb with rfl | hb
        · exact Nat.lt_succ_of_lt hag
        · exact Nat.lt_succ_of_lt (Nat.lt_trans (List.mem_range.mp hb) hag)
    · intro b hb
      rcases List.mem_cons.mp hb with rfl | hb
      · refine get?_ge_none (Nat.le_trans (Nat.le_succ _) ?_)
        have := hsz₃
        simpa using this
      · have : b = s.heap.objs.size := by simpa using hb
        rw [this]; exact get?_size_none _
end
end Mine
namespace Mine
section
variable {prog : Program} {w : World} {A : Around} {E : Value → Shared → Prop} {s : Shared} {I : Addr} {fp wr : List Addr} {G : Array GenState → Array GenState → Prop} {n : Nat} {P : Nat → Value → Prop} {St : Nat → Shared → Prop}
theorem shiftS (W : WalksS prog w A I fp wr G n P St) : WalksS prog w A I fp wr G (n + 1) (fun i v => match i with | 0 => False | j + 1 => P j v) (fun i s => match i with | 0 => False | j + 1 => St j s) where
  sub := W.sub
  grefl := W.grefl
  gtrans := W.gtrans
  frame := fun i s h' tk st ht hk => by
    cases i with
    | zero => exact st.elim
    | succ j => exact W.frame j s h' tk st ht hk
  item := fun i s Q E hi st hQ => by
    cases i with
    | zero => exact st.elim
    | succ j => exact W.item j s Q E (by walk_at "om") st fun v s' hP hst => hQ v s' hP hst
  done := fun s Q E st hQ => W.done s Q E st hQ
  self := fun i s Q E st hQ => by
    cases i with
    | zero => exact st.elim
    | succ j => exact W.self j s Q E st hQ
theorem preSum_shift (val : Nat → Int) (z : Int) : ∀ n, preSum (fun i => match i with | 0 => z | j + 1 => val j) (n + 1) = z + preSum val n
  | 0 => by simp [preSum]
  | n + 1 => by
    have := preSum_shift val z n
    show preSum _ (n + 1) + val n = z + (preSum val n + val n)
    rw [this]; walk_at "om"
theorem args_sum2 (a b : Value) : argsOk "sum" ⟨[a, b], []⟩ := by unfold argsOk; kernel_rfl
/-- sum of a walk, from a start -/
theorem sum_start {z : Int} {tz : Tok} {Q : Value → Shared → Prop} (W : WalksS prog w A.in1 I fp wr G n P St) (val : Nat → Int) (hval : ∀ i v, P i v → ∃ t, v = .int (val i) t) (hst : St 0 s) (hfp : ∀ b ∈ fp, b < s.heap.objs.size)
    (hQ : ∀ s' t', Moved wr G s s' → Q (.int (z + preSum val n) t') s') : wpAny (model prog w) A (call (.builtin "sum") [.ref I, .int z tz]) Q E s := by
  refine call_function_tree F.kind_sum F.plain_sum F.entry_sum (args_sum2 _ _) ?_
  unfold Builtin.«sum»
  simp only [List.length_cons, List.length_nil]
  rw [if_neg (by decide)]
  refine wpAny_bind (wpAny_of_eq (show Builtin.Builtins.bindParams "sum" ["start"] 0 ⟨[.int z tz], []⟩ = pure [some (.int z tz)] from rfl) ?_)
  refine wpAny_bind (W.self 0 _ _ _ hst ?_)
  dsimp only
  have hSf : s.heap.objs.size ∉ fp := fun hm => Nat.lt_irrefl _ (hfp _ hm)
  have e0 : z = preSum (fun i => match i with | 0 => z | j + 1 => val j) 1 := by simp [preSum]
  have hvs : ∀ i v, (fun i v => match i with | 0 => False | j + 1 => P j v : Nat → Value → Prop) i v → ∃ t, v = .int ((fun i => match i with | 0 => z | j + 1 => val j : Nat → Int) i) t := fun i v hP => by
    cases i with
    | zero => exact hP.elim
    | succ j => exact hval j v hP
  split
  · refine wpAny_bind (wpAny_bind (wpAny_rule (wpAny_pure ?_)))
    refine wpAny_bind (wpAny_mkInt (wpAny_bind (wpAny_pure ?_)))
    simp only [List.forIn_cons, List.forIn_nil]
    refine wpAny_bind (wpAny_bind (wpAny_bind (wpAny_isInstance (T := "int") (b := false) (typeIs_int _ _ _) PySem.sub_int_str ?_)))
    simp only [Bool.false_eq_true, if_false]
    refine wpAny_pure (wpAny_bind (wpAny_bind (wpAny_isInstance (T := "int") (b := false) (typeIs_int _ _ _) sub_int_bytes ?_)))
    simp only [Bool.false_eq_true, if_false]
    refine wpAny_pure (wpAny_bind (wpAny_bind (wpAny_isInstance (T := "int") (b := false) (typeIs_int _ _ _) sub_int_bytearray ?_)))
    simp only [Bool.false_eq_true, if_false]
    refine wpAny_pure (wpAny_pure ?_)
    refine wpAny_bind (wpAny_newObj_type ?_)
    refine wpAny_pure ⟨plainId_quiet F.plain_sum_loop _, ?_⟩
    refine codeAny_sum_loopAnyS (shiftS W) _ hvs s.heap.objs.size hSf n 1 _ s.toks 0 0 (.inl rfl) (by walk_at "om") (by walk_at "om") (W.frame 0 s _ _ hst (Nat.le_succ _) fun b _ o e => Heap.get?_push_of_some _ e) ?_ fun s' t' hm => ?_
    · rw [← e0]; exact Heap.get?_push_size _ rfl
    · rw [preSum_shift]
      exact hQ s' t' (Moved.drop_new hm (Nat.le_succ _))
  · refine wpAny_bind (wpAny_pure ?_)
    simp only [List.forIn_cons, List.forIn_nil]
    refine wpAny_bind (wpAny_bind (wpAny_bind (wpAny_isInstance (T := "int") (b := false) (typeIs_int _ _ _) PySem.sub_int_str ?_)))
    simp only [Bool.false_eq_true, if_false]
    refine wpAny_pure (wpAny_bind (wpAny_bind (wpAny_isInstance (T := "int") (b := false) (typeIs_int _ _ _) sub_int_bytes ?_)))
    simp only [Bool.false_eq_true, if_false]
    refine wpAny_pure (wpAny_bind (wpAny_bind (wpAny_isInstance (T := "int") (b := false) (typeIs_int _ _ _) sub_int_bytearray ?_)))
    simp only [Bool.false_eq_true, if_false]
    refine wpAny_pure (wpAny_pure ?_)
    refine wpAny_bind (wpAny_newObj_type ?_)
    refine wpAny_pure ⟨plainId_quiet F.plain_sum_loop _, ?_⟩
    refine codeAny_sum_loopAnyS (shiftS W) _ hvs s.heap.objs.size hSf n 1 _ tz 0 2 (.inr rfl) (by walk_at "om") (by walk_at "om") (W.frame 0 s _ _ hst (Nat.le_refl _) fun b _ o e => Heap.get?_push_of_some _ e) ?_ fun s' t' hm => ?_
    · rw [← e0]; exact Heap.get?_push_size _ rfl
    · rw [preSum_shift]
      exact hQ s' t' (Moved.drop_new hm (Nat.le_refl _))
end
end Mine
namespace Mine
abbrev pLen : Pos := ⟨150, 19, 150, 63⟩
def psum (ps : List (Str × Str)) : Int := (ps.map fun p => (p.1.length : Int) + p.2.length).sum
def Small (ps : List (Str × Str)) : Prop := ∀ p ∈ ps, p.1.length ≤ 1000 ∧ p.2.length ≤ 1000
section
variable {M : Model} {A : Around} {E : Value → Shared → Prop} {s : Shared} {P : Params} {n : Nat} {scope : Scope} {L' L : Addr} {code : Value} {m : Str → Option Value} {x : Str} {v : Value} {pos : Pos} {Q : Value → Shared → Prop}
theorem gldO (hn : s.heap.Ns L' m) (hv : m x = some v) (h : Q v s) (hk : scope.kind = .function := by rfl) (hl : (genEnv scope [] L' code builtinsNs (EV P n L)).kindOf x = some .local := by rfl) (hd : (x == ("__debug__" : Str)) = false := by kernel_rfl) :
    wpAny M A (eval (.Name x pos) (genEnv scope [] L' code builtinsNs (EV P n L))) Q E s := wpAny_Name (wpAny_loadName_local hk hl hn hv h) hd
theorem gldB (X : (Kn P).In s.heap) (h : Q v s) (hn : nsK P 3 x = none := by kernel_rfl) (hv : nsK P 0 x = some v := by kernel_rfl) (hg : (EV P n L).globals = mainGlobals := by kernel_rfl)
    (hk : scope.kind = .function := by rfl) (hl : (genEnv scope [] L' code builtinsNs (EV P n L)).kindOf x = some .globalImplicit := by rfl) (hd : (x == ("__debug__" : Str)) = false := by kernel_rfl) :
    wpAny M A (eval (.Name x pos) (genEnv scope [] L' code builtinsNs (EV P n L))) Q E s := Name_function_global hk hl (loadGlobal_builtin (show s.heap.Ns (EV P n L).globals _ from hg ▸ nsG X) hn (nsB X) hv h) hd
theorem gldG (X : (Kn P).In s.heap) (h : Q v s) (hv : nsK P 3 x = some v := by kernel_rfl) (hg : (EV P n L).globals = mainGlobals := by kernel_rfl)
    (hk : scope.kind = .function := by rfl) (hl : (genEnv scope [] L' code builtinsNs (EV P n L)).kindOf x = some .globalImplicit := by rfl) (hd : (x == ("__debug__" : Str)) = false := by kernel_rfl) :
    wpAny M A (eval (.Name x pos) (genEnv scope [] L' code builtinsNs (EV P n L))) Q E s := Name_function_global hk hl (loadGlobal_global (show s.heap.Ns (EV P n L).globals _ from hg ▸ nsG X) hv h) hd
end
section
variable {prog : Program} {w : World} {A : Around} {R : Result → Shared → Prop} {s : Shared} {x d : Addr} {xs tb : Array Value} {k : Nat} {ps : List (Str × Str)} {m : Str → Option Value}
theorem len_ok {sz : Int} {tz : Tok} (X : (Kn w.params).In s.heap) (hroom : A.depth + 10 < recursionLimit) (hh : A.handled = none) (hx : s.heap.get? x = some (accObj d xs k)) (hd : s.heap.Ns d m) (hsz : m "_initial_size" = some (.int sz tz)) (hP : Parts s.heap xs ps) (hB : Small ps)
    (hT : s.heap.get? 197 = some (tabObj tb)) (ht : Tab1 pLen tb)
    (h : ∀ s' t tb', Post [197] s s' → s'.heap.get? 197 = some (tabObj tb') → Tab1 pLen tb' → R (.ok (.ret (.int (sz + psum ps) t))) s') :
    codeAny (model prog w) A (.call (.ref 202) ⟨[.ref x], []⟩) R s := by
  have hx7 : x ≠ 197 := by rintro rfl; rw [hx] at hT; cases hT
  have hd7 : d ≠ 197 := by
    rintro rfl
    obtain ⟨o, es, ep, ho, hd, _⟩ := hd
    rw [ho] at hT; cases hT; cases hd
  refine enter 202 [("self", .ref x)] [(197, tabObj tb)] X (dl0 hroom) (led_cons hT (by unfold Off; kernel_rfl) led_nil) (by simp) ?_
  intro L s₁ g up O
  refine absQE fun Q E hR => ?_
  have hx₁ : s₁.heap.get? x = some (accObj d xs k) := O.keep _ _ (up _ _ (by simpa using hx7) hx)
  refine mstN fun N hN => ?_
  repeat walk_at "st"
  refine ldB (v := .builtin "sum") O ?_
  refine callWith_method1 ?_
  repeat walk_at "st"
  refine genO 202 (fun i y => ∃ p, ps[i]? = some p ∧ ∃ t, y = .int ((p.1.length : Int) + p.2.length) t) O hh (by show A.depth + 1 < _; exact dl hroom (by decide)) 0 rfl ht hx₁ (by rfl) (hP.keeps fun b o e hc => O.keep _ _ (up _ _ ?_ e)) (by rfl) (by rfl) (by rfl) (by rfl) (by rfl) (by rfl) (by rfl) ?_ ?_
  · intro hb
    have : b = 197 := by simpa using hb
    subst this; rw [hT] at e; cases e; cases hc
  · intro A' E' code L' s₂ m₂ i p ta tb hA hp X₂ hn e1 e2
    have hb := hB p (List.mem_of_getElem? hp)
    repeat walk_at "st"
    refine gldB (v := .builtin "len") X₂ ?_
    refine callWith_method1 ?_
    repeat walk_at "st"
    refine gldO hn e1 ?_
    repeat walk_at "st"
    refine len_str (by walk_at "om") ?_
    repeat walk_at "st"
    refine gldB (v := .builtin "len") X₂ ?_
    refine callWith_method1 ?_
    repeat walk_at "st"
    refine gldO hn e2 ?_
    repeat walk_at "st"
    refine len_str (by walk_at "om") ?_
    refine PySem.P.add_int ?_
    exact ⟨⟨p, hp, _, rfl⟩, _, _, rfl, fun _ _ e => e⟩
  · intro a gg s₂ tb' fp wr St O₂ ht' W hst hgen hafp hfp hwr
    repeat walk_at "st"
    refine ldO O₂ (by rfl) ?_
    refine acc_get O₂.X (O₂.keep _ _ (up _ _ (by simpa using hx7) hx)) (hd.at' fun o e => O₂.keep _ _ (up _ _ (by simpa using hd7) e)) hsz (by kernel_rfl) rfl ?_
    repeat walk_at "st"
    refine sum_start W.in4_1 (fun i => (ps.map fun p => (p.1.length : Int) + p.2.length).getD i 0) (fun i v hv => ?_) (W.frame 0 s₂ _ _ hst (Nat.le_succ _) fun _ _ _ e => e) hfp fun s₃ t₃ hm => ?_
    · obtain ⟨p, hp, t, rfl⟩ := hv
      exact ⟨t, by simp [List.getD_eq_getElem?_getD, hp]⟩
    · have e : preSum (fun i => (ps.map fun p => (p.1.length : Int) + p.2.length).getD i 0) ps.length = psum ps := by
        have e := preSum_getD (ps.map fun p => (p.1.length : Int) + p.2.length) ps.length
        rw [List.take_of_length_le (by simp)] at e
        exact e
      rw [e]
      have O₃ := (O₂.toks (s₂.toks + 1)).moved hm fun b hb => by
        obtain ⟨f1, f2, f3⟩ := O.fresh (hwr b hb)
        exact ⟨f1, f2, f3⟩
      exact hR _ _ (h _ t₃ tb' O₃.post (O₃.at 0 rfl) ht')
end
end Mine
namespace Mine
abbrev pStr : Pos := ⟨153, 32, 153, 85⟩
def lst (x : Str) : List Nat := x.cps.toList
def ofL (l : List Nat) : Str := ⟨l.toArray⟩
theorem lst_ofL (l : List Nat) : lst (ofL l) = l := rfl
theorem ofL_lst (x : Str) : ofL (lst x) = x := rfl
theorem lst_append (x y : Str) : lst (x ++ y) = lst x ++ lst y := Array.toList_append ..
theorem ext_lst {x y : Str} (h : lst x = lst y) : x = y := by rw [← ofL_lst x, h, ofL_lst]
theorem len_lst (x : Str) : x.length = (lst x).length := rfl
def chunks (ps : List (Str × Str)) : List Nat := ps.flatMap fun p => lst p.1 ++ lst p.2
def accText (ps : List (Str × Str)) : Str := ofL (chunks ps)
theorem join_empty : ∀ l : List Str, Str.join "" l = ofL (l.flatMap lst)
  | [] => rfl
  | [x] => by
    show x = _
    rw [List.flatMap_cons, List.flatMap_nil, List.append_nil]; rfl
  | x :: y :: r => by
    have h := join_empty (y :: r)
    show x ++ "" ++ Str.join "" (y :: r) = _
    rw [h]
    apply ext_lst
    rw [lst_append, lst_append, lst_ofL, lst_ofL]
    simp only [List.flatMap_cons, show lst (Str.ofString "") = [] from rfl, List.append_nil]
theorem txt_empty (l : List Str) : Txt.join "" l = ofL (l.flatMap lst) := by
  unfold Txt.join
  rw [StrLaws.glued_eq_join, join_empty]
theorem txt_pair (p : Str × Str) : Txt.join "" [p.1, p.2] = ofL (lst p.1 ++ lst p.2) := by
  rw [txt_empty]; simp
theorem txt_chunks (ps : List (Str × Str)) : Txt.join "" (ps.map fun p => ofL (lst p.1 ++ lst p.2)) = accText ps := by
  rw [txt_empty]
  unfold accText chunks
  congr 1
  rw [List.flatMap_map]
  rfl
noncomputable def tokE (P : Params) : Tok := match nsK P 3 "EMPTYSTRING" with
  | some (.str _ t) => t
  | _ => 0
theorem sum_le_of {α : Type} (f : α → Nat) (b : Nat) : ∀ l : List α, (∀ x ∈ l, f x ≤ b) → (l.map f).sum ≤ l.length * b
  | [], _ => by simp
  | x :: r, h => by
    have h1 := h x List.mem_cons_self
    have h2 := sum_le_of f b r fun y hy => h y (List.mem_cons_of_mem _ hy)
    rw [List.map_cons, List.sum_cons, List.length_cons, Nat.add_mul]
    walk_at "om"
section
variable {prog : Program} {w : World} {A : Around} {R : Result → Shared → Prop} {s : Shared} {x d : Addr} {xs tb : Array Value} {k : Nat} {ps : List (Str × Str)} {m : Str → Option Value}
theorem str_ok (X : (Kn w.params).In s.heap) (hroom : A.depth + 10 < recursionLimit) (hh : A.handled = none) (hx : s.heap.get? x = some (accObj d xs k)) (hP : Parts s.heap xs ps) (hB : Small ps) (hsz : ps.length ≤ 1000)
    (hT : s.heap.get? 204 = some (tabObj tb)) (ht : Tab1 pStr tb)
    (h : ∀ s' t tb', Post [204] s s' → s'.heap.get? 204 = some (tabObj tb') → Tab1 pStr tb' → R (.ok (.ret (.str (accText ps) t))) s') :
    codeAny (model prog w) A (.call (.ref 209) ⟨[.ref x], []⟩) R s := by
  have hx7 : x ≠ 204 := by rintro rfl; rw [hx] at hT; cases hT
  refine enter 209 [("self", .ref x)] [(204, tabObj tb)] X (dl0 hroom) (led_cons hT (by unfold Off; kernel_rfl) led_nil) (by simp) ?_
  intro L s₁ g up O
  refine absQE fun Q E hR => ?_
  have hx₁ : s₁.heap.get? x = some (accObj d xs k) := O.keep _ _ (up _ _ (by simpa using hx7) hx)
  refine mstN fun N hN => ?_
  repeat walk_at "st"
  refine ldG (v := .str "" (tokE w.params)) O ?_
  refine GM.join ?_
  dsimp only
  refine callWith_method1 ?_
  repeat walk_at "st"
  refine genO 209 (fun i y => ∃ p, ps[i]? = some p ∧ ∃ t, y = .str (ofL (lst p.1 ++ lst p.2)) t) O hh (by show A.depth + 1 < _; exact dl hroom (by decide)) 0 rfl ht hx₁ (by rfl) (hP.keeps fun b o e hc => O.keep _ _ (up _ _ ?_ e)) (by rfl) (by rfl) (by rfl) (by rfl) (by rfl) (by rfl) (by rfl) ?_ ?_
  · intro hb
    have : b = 204 := by simpa using hb
    subst this; rw [hT] at e; cases e; cases hc
  · intro A' E' code L' s₂ m₂ i p ta tb hA hp X₂ hn e1 e2
    have hb := hB p (List.mem_of_getElem? hp)
    repeat walk_at "st"
    refine gldG (v := .str "" (tokE w.params)) X₂ ?_
    refine GM.join ?_
    dsimp only
    refine callWith_method1 ?_
    repeat walk_at "st"
    refine gldO hn e1 ?_
    repeat walk_at "st"
    refine gldO hn e2 ?_
    repeat walk_at "st"
    refine wpAny_newTuple ?_ (by size_fits)
    repeat walk_at "st"
    refine join_tuple (ys := [p.1, p.2]) ⟨_, Heap.get?_push_size _ rfl, rfl, _, rfl⟩ (.cons _ _ (.cons _ _ .nil)) (by simp [show (Str.ofString "").length = 0 from rfl]; walk_at "om") fun t' k' => ?_
    rw [txt_pair]
    exact ⟨⟨p, hp, _, rfl⟩, _, _, rfl, fun _ _ e => Heap.get?_push_of_some _ e⟩
  · intro a gg s₂ tb' fp wr St O₂ ht' W hst hgen hafp hfp hwr
    repeat walk_at "st"
    refine SC.joinGen W.in4_2 hgen hst hfp hafp (fun i v hv => by obtain ⟨p, hp, t, rfl⟩ := hv; exact ⟨_, _, rfl⟩) (fun s₃ l hm hl => ?_) (by simp only [sizeLine]; walk_at "om")
    have hlen : l.length = ps.length := by have := hl.1; simpa [strValues] using this
    have hmap : l.map (·.1) = ps.map fun p => ofL (lst p.1 ++ lst p.2) := by
      apply List.ext_getElem (by simpa using hlen)
      intro j h1 h2
      simp only [List.length_map] at h1 h2
      have e := hl.2 j (.str l[j].1 l[j].2) (by simp [strValues, List.getElem?_eq_getElem h1])
      obtain ⟨p, hp, t, e⟩ := e
      injection e with e1 e2
      obtain ⟨h3, h4⟩ := List.getElem?_eq_some_iff.mp hp
      simp only [List.getElem_map, e1, h4]
    rw [hmap, txt_chunks]
    refine ⟨joinOk_of ?_, fun t' k' => ?_⟩
    · rw [List.map_map]
      have := sum_le_of ((fun y : Str => y.length) ∘ fun p : Str × Str => ofL (lst p.1 ++ lst p.2)) 2000 ps fun p hp => by
        have hb := hB p hp
        show (ofL (lst p.1 ++ lst p.2)).length ≤ 2000
        rw [len_lst, lst_ofL, List.length_append]
        simp only [len_lst] at hb
        walk_at "om"
      have e0 : (Str.ofString "").length = 0 := rfl
      rw [e0]
      simp only [List.length_map]
      walk_at "om"
    · have O₃ := O₂.moved hm fun b hb => by
        obtain ⟨f1, f2, f3⟩ := O.fresh (hwr b hb)
        exact ⟨f1, f2, f3⟩
      exact hR _ _ (h _ t' tb' (O₃.toks k').post (O₃.at 0 rfl) ht')
end
end Mine
namespace Mine
section
variable {prog : Program} {w : World} {A : Around} {E : Value → Shared → Prop} {s : Shared} {x d : Addr} {xs : Array Value} {k : Nat}
theorem acc_I' (hx : s.heap.get? x = some (accObj d xs k)) {m : Str → Option Value} (hd : s.heap.Ns d m) : ∃ od, InstAt s.heap x (accObj d xs k) 235 (some od) := by
  obtain ⟨od, _, _, hod, _⟩ := hd
  exact ⟨od, hx, rfl, rfl, hod⟩
/-- the body of len() upon an object with a __len__ of its own -/
theorem len_body {C f : Addr} {ox : Obj} {od : Option Obj} {Q : Value → Shared → Prop} (X : (Kn w.params).In s.heap) (I : InstAt s.heap x ox C od) (hs : findIn (Kn w.params) (.ref C) "__len__" = some (some (.ref f))) (hf : typeIn (Kn w.params) (.ref f) = some (.type "function"))
    (h : wpAny (model prog w) A (call (.ref f) [.ref x]) (fun v s' => ∃ (n : Int) (u : Tok), v = .int n u ∧ 0 ≤ n ∧ n < 2 ^ 63 ∧ ∀ t k, Q (.int n t) { s' with toks := k }) E s) :
    wpAny (model prog w) A (Builtin.«len» ⟨[.ref x], []⟩) (fun fin s' => ∃ v, fin = .done (.ret v) ∧ Q v s') E s := by
  unfold Builtin.«len»
  refine wpAny_bind (m := oneArg "len" _) (wpAny_pure ?_)
  refine wpAny_bind (m := callSpecial? (.ref x) (Str.ofString "__len__")) (special_fn X I hs hf (wpAny_mono h (fun r s' hr => ?_) fun _ _ y => y))
  obtain ⟨n, u, rfl, h0, h1, hq⟩ := hr
  refine wpAny_bind (wpAny_holding (wpAny_pure ?_))
  refine wpAny_bind (wpAny_letGo ?_)
  show wpAny _ _ (if n < 0 then _ else _) _ _ _
  rw [if_neg (by walk_at "om")]
  show wpAny _ _ (if n ≥ 2 ^ 63 then _ else _) _ _ _
  rw [if_neg (by walk_at "om")]
  exact wpAny_bind (wpAny_mkInt (wpAny_pure ⟨_, rfl, hq _ _⟩))
theorem len_own {C f : Addr} {ox : Obj} {od : Option Obj} {Q : Value → Shared → Prop} (X : (Kn w.params).In s.heap) (I : InstAt s.heap x ox C od) (hs : findIn (Kn w.params) (.ref C) "__len__" = some (some (.ref f))) (hf : typeIn (Kn w.params) (.ref f) = some (.type "function"))
    (h : wpAny (model prog w) A.in1 (call (.ref f) [.ref x]) (fun v s' => ∃ (n : Int) (u : Tok), v = .int n u ∧ 0 ≤ n ∧ n < 2 ^ 63 ∧ ∀ t k, Q (.int n t) { s' with toks := k }) E s) : wpAny (model prog w) A (call (.builtin "len") [.ref x]) Q E s :=
  Calls.call_function_entry kind_len plain_len entry_len (args_len1 _) (len_body X I hs hf h)
theorem truthy_own {C f : Addr} {ox : Obj} {od : Option Obj} {Q : Bool → Shared → Prop} (X : (Kn w.params).In s.heap) (I : InstAt s.heap x ox C od) (hb : findIn (Kn w.params) (.ref C) "__bool__" = some none)
    (hs : findIn (Kn w.params) (.ref C) "__len__" = some (some (.ref f))) (hf : typeIn (Kn w.params) (.ref f) = some (.type "function"))
    (h : wpAny (model prog w) A.in1 (call (.ref f) [.ref x]) (fun v s' => ∃ (n : Int) (u : Tok), v = .int n u ∧ 0 ≤ n ∧ n < 2 ^ 63 ∧ ∀ k, Q (n != 0) { s' with toks := k }) E s) : wpAny (model prog w) A (truthy (.ref x)) Q E s := by
  unfold truthy
  refine wpAny_bind (m := callSpecial? (.ref x) (Str.ofString "__bool__")) (wpAny_bind (wpAny_bind (I.type.here ((looks_findIn X hb).here (wpAny_pure ?_)))))
  refine wpAny_bind (wpAny_bind (I.type.here ((looks_findIn X hs).here ?_)))
  rw [if_neg (by simp)]
  refine wpAny_bind (wpAny_runValue (codeAny_builtin entry_len ?_))
  rw [Around.under_plainId plain_len _]
  refine wpAny_mono (len_body X I hs hf (Q := fun v s' => ∃ (n : Int) (t : Tok), v = .int n t ∧ Q (n != 0) s') (wpAny_mono h (fun v s' hv => ?_) fun _ _ z => z)) (fun fin s' hv => ?_) fun _ _ z => z
  · obtain ⟨n, u, rfl, h0, h1, hq⟩ := hv
    exact ⟨n, u, rfl, h0, h1, fun t k => ⟨n, t, rfl, hq k⟩⟩
  · obtain ⟨v, rfl, n, t, rfl, hq⟩ := hv
    exact wpAny_pure hq
end
end Mine
namespace Mine
def mA (v : Value) : Str → Option Value := fun y => if y = "_initial_size" then some v else none
section
variable {prog : Program} {w : World} {A : Around} {E : Value → Shared → Prop} {R : Result → Shared → Prop} {s : Shared} {x d : Addr} {xs tb tb2 : Array Value} {k : Nat} {ps : List (Str × Str)} {foot : List Addr} {g : Heap} {σ : Shared} {L : Addr} {m : Str → Option Value} {led : List (Addr × Obj)}
/-- how the accumulator lies in the heap -/
structure AccAt (h : Heap) (x d : Addr) (xs : Array Value) (k : Nat) (z : Int) (tz : Tok) (ps : List (Str × Str)) : Prop where
  obj : h.get? x = some (accObj d xs k)
  ns : h.Ns1 d (mA (.int z tz))
  parts : Parts h xs ps
theorem psum_nonneg (ps : List (Str × Str)) : 0 ≤ psum ps := by
  unfold psum
  induction ps with
  | nil => simp
  | cons p r ih => rw [List.map_cons, List.sum_cons]; walk_at "om"
theorem psum_le {ps : List (Str × Str)} (hB : Small ps) : psum ps ≤ 2000 * ps.length := by
  unfold psum
  induction ps with
  | nil => simp
  | cons p r ih =>
    have h1 := hB p List.mem_cons_self
    have h2 := ih fun q hq => hB q (List.mem_cons_of_mem _ hq)
    rw [List.map_cons, List.sum_cons, List.length_cons]; walk_at "om"
theorem only_ok {z : Int} {tz : Tok} (X : (Kn w.params).In s.heap) (hroom : A.depth + 20 < recursionLimit) (hu : A.units + 40 < cLine) (hh : A.handled = none) (a : AccAt s.heap x d xs k z tz ps) (hB : Small ps) (hsz : ps.length ≤ 1000) (hz : 0 ≤ z) (hz2 : z ≤ 1000)
    (hT : s.heap.get? 197 = some (tabObj tb)) (ht : Tab1 pLen tb) (hT2 : s.heap.get? 204 = some (tabObj tb2)) (ht2 : Tab1 pStr tb2)
    (h : ∀ s' tb' tb2', Post [197, 204] s s' → s'.heap.get? 197 = some (tabObj tb') → Tab1 pLen tb' → s'.heap.get? 204 = some (tabObj tb2') → Tab1 pStr tb2' → R (.ok (.ret (.bool (z == 0 && (z + psum ps == 0 || Txt.isspace (accText ps)))))) s') :
    codeAny (model prog w) A (.call (.ref 224) ⟨[.ref x], []⟩) R s := by
  have hx := a.obj
  have hd := a.ns.ns
  have hx7 : x ≠ 197 := by rintro rfl; rw [hx] at hT; cases hT
  have hx8 : x ≠ 204 := by rintro rfl; rw [hx] at hT2; cases hT2
  have ndict : ∀ b tb, s.heap.get? b = some (tabObj tb) → d ≠ b := by
    rintro b tb hb rfl
    obtain ⟨o, es, ep, ho, hd, _⟩ := hd
    rw [ho] at hb; cases hb; cases hd
  have hd7 := ndict _ _ hT
  have hd8 := ndict _ _ hT2
  refine enter 224 [("self", .ref x)] [(197, tabObj tb), (204, tabObj tb2)] X (dl0 hroom) (led_cons hT (by unfold Off; kernel_rfl) (led_cons hT2 (by unfold Off; kernel_rfl) led_nil)) (by simp) ?_
  intro L s₁ g up O
  refine absQE fun Q E hR => ?_
  have ux : g.get? x = some (accObj d xs k) := up _ _ (by simp [hx7, hx8]) hx
  have ud : g.Ns d (mA (.int z tz)) := hd.at' fun o e => up _ _ (by simp [hd7, hd8]) e
  have uP : Parts g xs ps := a.parts.keeps fun b o e hc => up _ _ (by
    simp only [List.map_cons, List.map_nil, List.mem_cons, List.not_mem_nil, or_false, not_or]
    exact ⟨(fun q => by subst q; rw [hT] at e; cases e; cases hc), (fun q => by subst q; rw [hT2] at e; cases e; cases hc)⟩) e
  refine mstN fun N hN => ?_
  repeat walk_at "st"
  refine BoolOp_and ?_
  refine wpAny_Compare1 ?_
  repeat walk_at "st"
  refine ldO O (by rfl) ?_
  refine acc_get O.X (O.keep _ _ ux) (ud.at' fun o e => O.keep _ _ e) (v := .int z tz) (by rfl) (by kernel_rfl) rfl ?_
  refine intO (O.toks _) fun t₂ s₂ O₂ => ?_
  refine PySem.P.eq_int ?_
  refine wpAny_pure ?_
  by_cases h0 : z = 0
  · subst h0
    rw [if_pos (by simp)]
    refine BoolOp_one ?_
    refine BoolOp_or ?_
    refine UnaryOp_ ?_
    refine ldO O₂ (by rfl) ?_
    obtain ⟨od, I⟩ := acc_I' (O₂.keep _ _ ux) (ud.at' fun o e => O₂.keep _ _ e)
    refine not_of (truthy_own O₂.X I (by kernel_rfl) (f := 202) (by kernel_rfl) (by kernel_rfl) ?_)
    refine wpAny_call (len_ok O₂.X (by show A.depth + 1 + 10 < _; exact dl2 hroom (by decide)) hh (O₂.keep _ _ ux) (ud.at' fun o e => O₂.keep _ _ e) (sz := 0) (tz := tz) (by rfl) (uP.keeps fun b o e _ => O₂.keep _ _ e) hB (O₂.at 0 rfl) ht fun s₃ t₃ tb' p₃ hT' ht' => ?_)
    have hn := psum_nonneg ps
    have hn2 := psum_le hB
    refine ⟨_, _, rfl, by walk_at "om", by walk_at "om", fun k' => ?_⟩
    have O₃ := O₂.after p₃ (led' := [(197, tabObj tb'), (204, tabObj tb2)]) (by simp) (by
      intro q hq
      rcases List.mem_cons.mp hq with rfl | hq
      · exact ⟨hT', .inl (by simp)⟩
      · have : q = (204, tabObj tb2) := by simpa using hq
        subst this
        exact ⟨p₃.ext _ _ (by simp) (O₂.at 1 rfl), .inl (by simp)⟩) (by simp)
    refine wpAny_pure ?_
    by_cases h1 : psum ps = 0
    · rw [if_pos (by simp [h1])]
      have e : (((0 : Int) == 0) && ((0 : Int) + psum ps == 0 || Txt.isspace (accText ps))) = !((0 : Int) + psum ps != 0) := by simp [h1]
      rw [e] at h
      exact hR _ _ (h _ tb' tb2 (O₃.toks k').post (O₃.at 0 rfl) ht' (O₃.at 1 rfl) ht2)
    · rw [if_neg (by simp [h1])]
      refine BoolOp_one ?_
      have O₃ := O₃.toks k'
      repeat walk_at "st"
      refine ldB (v := .type "str") O₃ ?_
      refine PyProof.Rows.callWith_type1 ?_
      repeat walk_at "st"
      refine ldO O₃ (by rfl) ?_
      repeat walk_at "st"
      obtain ⟨od₃, I₃⟩ := acc_I' (O₃.keep _ _ ux) (ud.at' fun o e => O₃.keep _ _ e)
      refine kso_call (f := 209) (by show A.units + 3 + 1 + 1 < _; exact dl3 hu (by decide)) O₃.X I₃ (by kernel_rfl) (by kernel_rfl) ?_
      refine wpAny_call (str_ok O₃.X (by show A.depth + 1 + 10 < _; exact dl2 hroom (by decide)) hh (O₃.keep _ _ ux) (uP.keeps fun b o e _ => O₃.keep _ _ e) hB hsz (O₃.at 1 rfl) ht2 fun s₄ t₄ tb2' p₄ hT2' ht2' => ?_)
      have O₄ := O₃.after p₄ (led' := [(197, tabObj tb'), (204, tabObj tb2')]) (by simp) (by
        intro q hq
        rcases List.mem_cons.mp hq with rfl | hq
        · exact ⟨p₄.ext _ _ (by simp) (O₃.at 0 rfl), .inl (by simp)⟩
        · have : q = (204, tabObj tb2') := by simpa using hq
          subst this
          exact ⟨hT2', .inl (by simp)⟩) (by simp)
      refine GM.isspace ?_
      dsimp only
      refine callWith_method0 ?_
      refine SC.isspace ?_
      have e : (((0 : Int) == 0) && ((0 : Int) + psum ps == 0 || Txt.isspace (accText ps))) = Txt.isspace (accText ps) := by simp [h1]
      rw [e] at h
      exact hR _ _ (h _ tb' tb2' O₄.post (O₄.at 0 rfl) ht' (O₄.at 1 rfl) ht2')
  · rw [if_neg (by simp [h0])]
    have e : (z == 0 && (z + psum ps == 0 || Txt.isspace (accText ps))) = (z == 0) := by simp [h0]
    rw [e] at h
    exact hR _ _ (h _ tb tb2 O₂.post (O₂.at 0 rfl) ht (O₂.at 1 rfl) ht2)
end
end Mine
namespace Mine
noncomputable def clsOb (P : Params) (n : Nat) : Option (ClassData × Array (Option Value)) := match (Kn P).lookup n with
  | some ⟨_, _, .cls cd, sl⟩ => some (cd, sl)
  | _ => none
theorem clsOb_get {P : Params} {h : Heap} {n : Nat} {cd : ClassData} {sl : Array (Option Value)} (X : (Kn P).In h) (e : clsOb P n = some (cd, sl)) : ∃ c dd, h.get? n = some ⟨c, dd, .cls cd, sl⟩ := by
  unfold clsOb at e
  split at e
  · rename_i c d cd' sl' ho
    cases e
    exact ⟨_, _, X _ _ ho⟩
  · cases e
structure AccCls (M : Model) (h : Heap) : Prop where
  obj : ∃ c dd cd sl, h.get? 235 = some ⟨c, dd, .cls cd, sl⟩ ∧ cd.hasDict = true ∧ cd.hasDel = false ∧ cd.mro.isEmpty = false
  made : Looks M h (Bind.madeBy (.ref 235)) (some "list.__new__")
  base : Looks M h (Bind.staticBase (.ref 235)) (.ref 235)
  self : Looks M h (isSubtype (.ref 235) (.ref 235)) true
  top : Looks M h (isSubtype (.ref 235) (.type "list")) true
  call : Looks M h (specialOf (.ref 235) "__call__") (some (.builtin "type.__call__"))
  typ : Looks M h (isInstance (.ref 235) (.type "type")) true
  init : Looks M h (typeLookup (.ref 235) "__init__") (some (.ref 172))
  bind : ∀ self, Looks M h (bindSpecial (.ref 172) self) (.ref 172, [self])
theorem accCls {P : Params} {M : Model} {h : Heap} (X : (Kn P).In h) : AccCls M h := by
  obtain ⟨⟨cd, sl⟩, hcs⟩ := Option.isSome_iff_exists.mp (show (clsOb P 235).isSome = true by kernel_rfl)
  have f1 : (clsOb P 235).map (fun p => (p.1.hasDict, p.1.hasDel, p.1.mro)) = some (true, false, [.ref 235, .type "list", .type "object"]) := by kernel_rfl
  have f2 : (clsOb P 235).map (fun p => (p.2.toList[4]?).join) = some (some (.builtin "list.__new__")) := by kernel_rfl
  rw [hcs] at f1 f2
  have f1 := Option.some.inj f1
  have f2 := Option.some.inj f2
  obtain ⟨f1a, f1b⟩ := Prod.mk.inj f1
  obtain ⟨f1b, f1c⟩ := Prod.mk.inj f1b
  dsimp only at f2
  obtain ⟨c, dd, ho⟩ := clsOb_get X hcs
  have hc : clsIn (Kn P) 235 = some cd := by
    have e : (clsOb P 235).map (·.1) = clsIn (Kn P) 235 := by kernel_rfl
    rw [hcs] at e; exact e.symm
  have hm : Looks M h (mroOf (.ref 235)) cd.mro := (looks_clsIn X hc).andThen .now
  have made : Looks M h (Bind.madeBy (.ref 235)) (some "list.__new__") := by
    intro A Q E s k q
    unfold Bind.madeBy
    refine wpAny_bind (hm A _ E s k ?_)
    rw [f1c, List.forIn_cons]
    refine wpAny_bind (wpAny_bind (wpAny_bind (wpAny_bind (wpAny_loadPart (k _ _ ho) (wpAny_pure ?_)))))
    dsimp only
    rw [← Array.getElem?_toList, f2]
    exact wpAny_pure (wpAny_pure (wpAny_pure q))
  refine ⟨⟨c, dd, cd, sl, ho, f1a, f1b, by rw [f1c]; rfl⟩, made, ?_, looks_mroIn X (by kernel_rfl), looks_mroIn X (by kernel_rfl), looks_specialIn X (by kernel_rfl), looks_instIn X (by kernel_rfl), looks_findIn X (by kernel_rfl), fun self => bind_fn X self (by kernel_rfl)⟩
  intro A Q E s k q
  unfold Bind.staticBase
  refine wpAny_bind (hm A _ E s k ?_)
  rw [f1c, List.forIn_cons]
  exact wpAny_bind (wpAny_bind (wpAny_bind (made A _ E s k (wpAny_pure (wpAny_pure (wpAny_pure q))))))
section
variable {prog : Program} {w : World} {A : Around} {R : Result → Shared → Prop} {h : Heap} {g : Array GenState} {d : Drawn} {t : Nat} {os : OsState}
theorem acc_new {a : Value} (Y : AccCls (model prog w) h)
    (hq : R (.ok (.ret (.ref (h.objs.size + 1)))) ⟨(h.push emptyDict).push (accObj h.objs.size #[] 0), g, d, t, os⟩) :
    codeAny (model prog w) A (.call (.builtin "list.__new__") ⟨[.ref 235, a], []⟩) R ⟨h, g, d, t, os⟩ := by
  obtain ⟨⟨oc, od, cd, sl, hC, e1, e2, e4⟩, made, base, self, top, call, typ, -, -⟩ := Y
  refine codeAny_call_builtin_code (plainId_quiet F.plain_list_new _) ?_
  have k1 : builtinKind "list.__new__" = some .builtinFn := by decide +kernel
  have k2 : splitId "list.__new__" = some ("list", "__new__") := by decide +kernel
  simp only [checkBuiltinCall, k1, k2]
  rw [if_pos (by decide)]
  repeat (first | simp only [bne_self_eq_false, Bool.false_eq_true, if_false] | lk)
  refine codeAny_builtin_stack F.entry_list_new rfl fun p st => ?_
  have hown := owner_list_new
  simp only [hown]
  repeat (first | simp only [Bool.false_eq_true, if_false, Bool.not_true] | lk)
  refine nd_load (Heap.get?_push_of_some _ (Heap.get?_push_of_some _ hC)) ?_
  refine wpAny_pure ?_
  dsimp only
  rw [e2]
  repeat lk
  rw [Heap.size_push]
  exact hq
theorem acc_make {a : Value} (Y : AccCls (model prog w) h)
    (hq : codeAny (model prog w) (A.under (.builtin "type.__call__" ⟨[.ref 235, a], []⟩)) (.call (.ref 172) ⟨[.ref (h.objs.size + 1), a], []⟩) (InitBack (h.objs.size + 1) R) ⟨(h.push emptyDict).push (accObj h.objs.size #[] 0), g, d, t, os⟩) :
    codeAny (model prog w) A (.call (.ref 235) ⟨[a], []⟩) R ⟨h, g, d, t, os⟩ := by
  have Y' := Y
  obtain ⟨⟨oc, od, cd, sl, hC, e1, e2, e4⟩, made, base, self, top, call, typ, hi, hb⟩ := Y
  refine codeAny_of_tree ?_
  show wpAny _ _ (callAny (.ref 235) _) _ _ _
  refine nd_load hC ?_
  show wpAny _ _ (callAny.viaDunder (.ref 235) _) _ _ _
  unfold callAny.viaDunder
  refine wpAny_bind (call.at ?_)
  dsimp only
  rw [tc_bind]
  refine wpAny_bind (wpAny_pure (wpAny_bind (wpAny_pure ?_)))
  refine wpAny_pure (a := Fin.again (.call (.builtin "type.__call__") ⟨[.ref 235, a], []⟩)) (And.intro rfl ?_)
  refine codeAny_call_builtin_at (Code.quiet_builtin _ (by decide +kernel)) entry_typeCall (check_slot tc_kind tc_split typ (tc_args _ _ _) ?_)
  unfold Builtin.«type.__call__»
  have hm : Looks (model prog w) h (mroOf (.ref 235)) cd.mro := ((Looks.ld (part := none) hC).andThen .now).andThen .now
  repeat (first | simp only [e4, Bool.false_eq_true, if_false] | with_reducible refine wpAny_call ?_ | lk)
  refine acc_new Y' ?_
  have k : ∀ b o, h.get? b = some o → ((h.push emptyDict).push (accObj h.objs.size #[] 0)).get? b = some o := fun b o e => Heap.get?_push_of_some _ (Heap.get?_push_of_some _ e)
  have hx : ((h.push emptyDict).push (accObj h.objs.size #[] 0)).get? (h.objs.size + 1) = some (accObj h.objs.size #[] 0) := by heap_get
  have t1 : Looks (model prog w) ((h.push emptyDict).push (accObj h.objs.size #[] 0)) (typeOf (.ref (h.objs.size + 1))) (.ref 235) := (Looks.ld hx).andThen .now
  have s1 := self.keeps k
  have i1 := hi.keeps k
  have b1 := (hb (.ref (h.objs.size + 1))).keeps k
  unfold isInstance callSpecial? specialOf
  repeat (first | with_reducible refine wpAny_call ?_ | lk)
  refine codeAny_mono hq fun r s' z => ?_
  rcases r with e | (v | _ | _ | _) <;> first | exact z | exact z.elim | skip
  obtain ⟨rfl, z⟩ := z
  exact wpAny_pure (wpAny_pure z)
end
end Mine
namespace Mine
section
variable {prog : Program} {w : World} {A : Around} {E : Value → Shared → Prop} {R : Result → Shared → Prop} {s : Shared} {x d : Addr} {xs : Array Value} {n : Nat}
theorem entry_list_init : entryFor table "list.__init__" = some Builtin.«list.__init__» := entryFor_of_tree (by kernel_rfl)
theorem list_init {Q : Fin → Shared → Prop} (hx : s.heap.get? x = some (accObj d #[] n))
    (h : Q (.done (.ret .none)) { s with heap := s.heap.update x (Obj.mapSeq fun _ => #[]) }) :
    wpAny (model prog w) A (Builtin.«list.__init__» ⟨[.ref x], []⟩) Q E s := by
  have hd : (accObj d #[] n).data = .seq #[] n := rfl
  unfold Builtin.«list.__init__»
  repeat (first | (with_reducible refine wpAny_listItems hx hd ?_) | wp_step)
  exact h
theorem initA_ok {z : Int} {tz : Tok} (pg : PG prog w.params) (X : (Kn w.params).In s.heap) (hroom : A.depth < recursionLimit) (hx : s.heap.get? x = some (accObj d #[] n)) {od : Obj} (hod : s.heap.get? d = some od) (hd : s.heap.Ns1 d fun _ => none) (hxd : x ≠ d)
    (ax : Off w.params x) (ad : Off w.params d)
    (h : ∀ s' n', Post [x, d] s s' → s'.heap.get? x = some (accObj d #[] n') → s'.heap.Ns1 d (mA (.int z tz)) → R (.ok (.ret .none)) s') :
    codeAny (model prog w) A (.call (.ref 172) ⟨[.ref x, .int z tz], []⟩) R s := by
  refine enterAt 172 [("self", .ref x), ("initial_size", .int z tz)] [(x, accObj d #[] n), (d, od)] X hroom (led_cons hx ax (led_cons hod ad led_nil)) (by simp [hxd]) ?_ (hbind := kp_binds X fun S => by kernel_rfl)
  intro L s₁ g up O
  have hd₁ : s₁.heap.Ns1 d fun _ => none := hd.at fun o e => by
    have : o = od := Option.some.inj (e.symm.trans hod)
    subst this; exact O.at 1 rfl
  refine ks_wpAt_execs_cons ?_
  refine wpAt_of_wpAny ?_
  walk_at "st"
  refine ldO O (by rfl) ?_
  refine ldO O (by rfl) ?_
  refine acc_set O.X (O.at 0 rfl) hd₁ (ns := []) (by exact Within.nil) (by simp) (by kernel_rfl) fun h' t' hn' hs' => ?_
  obtain ⟨od', ho', O₂⟩ := O.setNs 1 rfl hs' hn' t'
  dsimp only
  refine ks_wpAt_execs_cons ?_
  refine ks_wpAt_Expr_any ?_
  refine ks_wpAt_MethodCall ?_
  refine superO 172 O₂ pg (O₂.at 0 rfl) (by rfl) fun so s₃ hso O₃ => ?_
  refine sup_wrapper (id := "list.__init__") O₃ (O₃.at 0 rfl) (O₃.at 1 rfl) (by kernel_rfl) (by kernel_rfl) (by kernel_rfl) (by decide +kernel) fun q s₄ hq O₄ => ?_
  dsimp only
  refine callWith_bound0 (O₄.at 0 rfl) (.inl rfl) ?_
  refine wpAny_call (bound_call (O₄.at 0 rfl) (.inl rfl) (by decide +kernel) entry_list_init (fun Q q => ?_) ?_)
  · refine bound_slot (by decide +kernel) (PySem.F.args_list_init_1 _) q
  refine list_init (O₄.at 2 rfl) ⟨_, rfl, ?_⟩
  have O₅ := O₄.update 2 (f := Obj.mapSeq fun _ => #[]) rfl
  refine wpAt_of_wpAny ?_
  refine wpAny_execs_nil ?_
  refine h _ _ O₅.post (O₅.at 2 rfl) ?_
  have hn2 : (fun z' => if z' = ("_initial_size" : Str) then some (Value.int z tz) else none) = mA (.int z tz) := rfl
  rw [← hn2]
  refine hn'.at fun o e => ?_
  have : od' = o := Option.some.inj (ho'.symm.trans e)
  subst this
  exact O₅.at 3 rfl
end
end Mine
namespace Mine
section
variable {prog : Program} {w : World} {A : Around} {E : Value → Shared → Prop} {s : Shared} {env : Env} {foot : List Addr} {g : Heap} {σ : Shared} {L : Addr} {m : Str → Option Value} {led : List (Addr × Obj)}
theorem Own.heap {P : Params} (O : Own P foot g σ s L m led) {h' : Heap} (hk : ∀ b o, s.heap.get? b = some o → h'.get? b = some o) : Own P foot g σ { s with heap := h' } L m led := O.more hk
theorem ne_tuples {t u : Addr} {k l : Nat} {a b c d : Str} {ta tb tc td : Tok} {Q : Value → Shared → Prop} (ht : s.heap.get? t = some { cls := .type "tuple", data := .seq #[.str a ta, .str b tb] k }) (hu : s.heap.get? u = some { cls := .type "tuple", data := .seq #[.str c tc, .str d td] l })
    (hun : A.units < cLine) (h : Q (.bool (!(a == c && b == d))) s) : wpAny (model prog w) A (compareOp .NotEq (.ref t) (.ref u)) Q E s := by
  refine SeqAt.RcNeAt.tuples (e := fun j => match j with | 0 => a == c | _ => b == d) ⟨_, ht, rfl, _, rfl⟩ ⟨_, hu, rfl, _, rfl⟩ hun (fun j h1 h2 => ?_) prog w E Q ?_
  · match j, h1 with
    | 0, _ => exact SeqAt.EqAt.str_str _ _ _ _
    | 1, _ => exact SeqAt.EqAt.str_str _ _ _ _
  · have e : (!((List.range (min (#[Value.str a ta, .str b tb] : Array Value).size (#[Value.str c tc, .str d td] : Array Value).size)).all (fun j => match j with | 0 => a == c | _ => b == d) && (#[Value.str a ta, .str b tb] : Array Value).size == (#[Value.str c tc, .str d td] : Array Value).size)) = !(a == c && b == d) := by
      have : List.range (min (#[Value.str a ta, .str b tb] : Array Value).size (#[Value.str c tc, .str d td] : Array Value).size) = [0, 1] := rfl
      rw [this]
      simp
    rw [e]; exact h
end
end Mine
namespace Mine
abbrev lstObj (lv : Array Value) (k : Nat) : Obj := { cls := .type "list", data := .seq lv k }
abbrev led5 (ex : List (Addr × Obj)) (x : Addr) (ox : Obj) (d : Addr) (od : Obj) (ll : Addr) (ol : Obj) (t1 t2 : Obj) : List (Addr × Obj) := (x, ox) :: (d, od) :: (ll, ol) :: (197, t1) :: (204, t2) :: ex
section
variable {P : Params} {foot : List Addr} {g : Heap} {σ s s' : Shared} {L : Addr} {m : Str → Option Value} {x d ll : Addr} {ox od ol t1 t2 ox' od' ol' t1' t2' : Obj} {ex : List (Addr × Obj)}
theorem five (O : Own P foot g σ s L m (led5 ex x ox d od ll ol t1 t2)) {ft : List Addr} (p : Post ft s s') (hf : ∀ a ∈ ft, a = x ∨ a = d ∨ a = ll ∨ a = 197 ∨ a = 204)
    (h1 : s'.heap.get? x = some ox') (h2 : s'.heap.get? d = some od') (h3 : s'.heap.get? ll = some ol') (h4 : s'.heap.get? 197 = some t1') (h5 : s'.heap.get? 204 = some t2') :
    ∃ g', Own P foot g' σ s' L m (led5 ex x ox' d od' ll ol' t1' t2') ∧ (∀ b o, g.get? b = some o → g'.get? b = some o) ∧ ∀ b o, b ≠ L → b ∉ x :: d :: ll :: 197 :: 204 :: ex.map (·.1) → s'.heap.get? b = some o → g'.get? b = some o := by
  have nd : ([x, d, ll, 197, 204] ++ ex.map (·.1) : List Addr).Nodup := O.nd
  have hf' : ∀ a ∈ ft, a ∈ [x, d, ll, 197, 204] := fun a ha => by simpa using hf a ha
  have sub5 : ∀ a ∈ [x, d, ll, 197, 204], a ∈ (led5 ex x ox d od ll ol t1 t2).map (·.1) := fun a ha => List.mem_append_left (ex.map fun p : Addr × Obj => p.1) ha
  refine O.call (led' := led5 ex x ox' d od' ll ol' t1' t2') p (fun a ha => sub5 a (hf' a ha)) (fun q hq => ?_) nd
  rcases List.mem_append.mp (show q ∈ [(x, ox'), (d, od'), (ll, ol'), (197, t1'), (204, t2')] ++ ex from hq) with hq | hq
  · exact ⟨fa5 (p := fun q : Addr × Obj => s'.heap.get? q.1 = some q.2) h1 h2 h3 h4 h5 q hq, .inl (sub5 _ (List.mem_map_of_mem (f := (·.1)) hq))⟩
  · have hm : q.1 ∈ ex.map (·.1) := List.mem_map_of_mem hq
    exact ⟨p.ext _ _ (fun hb => ndj nd (hf' _ hb) hm rfl) (O.lg q (List.mem_append_right [_, _, _, _, _] hq)).1, .inl (List.mem_append_right [x, d, ll, 197, 204] hm)⟩
end
/-- the object at x holds a -/
def Has (h : Heap) (x a : Addr) : Prop := ∃ d xs k, h.get? x = some (accObj d xs k) ∧ Value.ref a ∈ xs.toList
/-- no other object of the frame is a chunk; no old object has become one -/
structure ExOk (foot : List Addr) (σ : Shared) (x : Addr) (xs : Array Value) (ex : List (Addr × Obj)) : Prop where
  tup : ∀ p ∈ ex, p.2.cls = .type "tuple" → Value.ref p.1 ∉ xs.toList
  old : ∀ a o, a ∉ foot → σ.heap.get? a = some o → ¬ Has σ.heap x a → Value.ref a ∉ xs.toList
theorem ExOk.less {foot : List Addr} {σ : Shared} {x : Addr} {xs ys : Array Value} {ex : List (Addr × Obj)} (h : ExOk foot σ x xs ex) (hs : ∀ v ∈ ys.toList, v ∈ xs.toList) : ExOk foot σ x ys ex :=
  ⟨fun p hp ht hm => h.tup p hp ht (hs _ hm), fun a o ha ho hn hm => h.old a o ha ho hn (hs _ hm)⟩
/-- the formatter's world within a call -/
inductive FO (P : Params) (ex : List (Addr × Obj)) (foot : List Addr) (g : Heap) (σ s : Shared) (L : Addr) (m : Str → Option Value) (x d ll : Addr) (z : Int) (xs : Array Value) (ps : List (Str × Str)) (lines : List Str) : Prop where
  | mk (k : Nat) (od : Obj) (lv : Array Value) (kl : Nat) (tb tb2 : Array Value) (tz : Tok) (own : Own P foot g σ s L m (led5 ex x (accObj d xs k) d od ll (lstObj lv kl) (tabObj tb) (tabObj tb2))) (hn : s.heap.Ns1 d (mA (.int z tz))) (hP : Parts g xs ps) (hS : StrsAre lv.toList lines) (h1 : Tab1 pLen tb) (h2 : Tab1 pStr tb2 ∧ ExOk foot σ x xs ex)
section
variable {P : Params} {foot : List Addr} {g : Heap} {σ s s' : Shared} {L : Addr} {m m' : Str → Option Value} {x d ll : Addr} {z : Int} {xs : Array Value} {ps : List (Str × Str)} {lines : List Str} {ex : List (Addr × Obj)}
theorem FO.own (F : FO P ex foot g σ s L m x d ll z xs ps lines) : Own P foot g σ s L m [] := by
  obtain ⟨k, od, lv, kl, tb, tb2, tz, O, -⟩ := id F
  exact O.sub (fun _ h => absurd h List.not_mem_nil) List.nodup_nil
theorem FO.X (F : FO P ex foot g σ s L m x d ll z xs ps lines) : (Kn P).In s.heap := F.own.X
theorem FO.offs (F : FO P ex foot g σ s L m x d ll z xs ps lines) : Off P x ∧ Off P d ∧ Off P ll ∧ x ≠ d ∧ x ≠ ll ∧ d ≠ ll := by
  obtain ⟨k, od, lv, kl, tb, tb2, tz, O, -⟩ := id F
  exact ⟨O.off (a := x) (.head _), O.off (a := d) (.tail _ (.head _)), O.off (a := ll) (.tail _ (.tail _ (.head _))), nne O.nd 0 1, nne O.nd 0 2, nne O.nd 1 2⟩
/-- the locals or the tokens changed -/
theorem FO.same (F : FO P ex foot g σ s L m x d ll z xs ps lines) (h : ∀ led, Own P foot g σ s L m led → Own P foot g σ s' L m' led) : FO P ex foot g σ s' L m' x d ll z xs ps lines := by
  obtain ⟨k, od, lv, kl, tb, tb2, tz, O, hn, hP, hS, h1, r⟩ := id F
  have O' := h _ O
  refine ⟨k, od, lv, kl, tb, tb2, tz, O', hn.at fun o e => ?_, hP, hS, h1, r⟩
  have : od = o := Option.some.inj ((O.at 1 rfl).symm.trans e)
  subst this; exact O'.at 1 rfl
theorem tupNe {t : Addr} {items : Array Value} {n : Nat} {k : Nat} {od : Obj} {lv tb tb2 : Array Value} {kl : Nat} {v : Value} (O : Own P foot g σ s L m (led5 ex x (accObj d xs k) d od ll (lstObj lv kl) (tabObj tb) (tabObj tb2))) (hd : s.heap.Ns1 d m') (hnt : ∀ p ∈ ex, p.2.cls = .type "tuple" → p.1 ≠ t) (ht : s.heap.get? t = some { cls := .type "tuple", data := .seq items n }) :
    t ≠ L ∧ t ∉ x :: d :: ll :: 197 :: 204 :: ex.map (·.1) := by
  refine ⟨(gnkD O.ns ht).symm, fun hm => ?_⟩
  rcases List.mem_append.mp (show t ∈ [x, d, ll, 197, 204] ++ ex.map (·.1) from hm) with hm | hm
  · exact nf5 (gnk ht (O.at 0 rfl)) (gnkD hd.ns ht).symm (gnc ht (O.at 2 rfl) tl_ne) (gnk ht (O.at 3 rfl)) (gnk ht (O.at 4 rfl)) hm
  · obtain ⟨q, hq, rfl⟩ := List.mem_map.mp hm
    have := (O.lg q (List.mem_append_right [_, _, _, _, _] hq)).1
    rw [ht] at this
    exact hnt q hq (by rw [← Option.some.inj this]) rfl
theorem ExOk.push {t : Addr} {k : Nat} {od : Obj} {lv tb tb2 : Array Value} {kl : Nat} (O : Own P foot g σ s L m (led5 ex x (accObj d xs k) d od ll (lstObj lv kl) (tabObj tb) (tabObj tb2))) (h : ExOk foot σ x xs ex) (ht : s.heap.get? t = none) : ExOk foot σ x (xs.push (.ref t)) ex := by
  refine ⟨fun p hp hc hm => ?_, fun a o ha ho hn hm => ?_⟩
  · simp only [Array.toList_push, List.mem_append, List.mem_singleton, Value.ref.injEq] at hm
    rcases hm with hm | hm
    · exact h.tup p hp hc hm
    · have := (O.lg p (.tail _ (.tail _ (.tail _ (.tail _ (.tail _ hp)))))).1
      rw [hm, ht] at this; cases this
  · simp only [Array.toList_push, List.mem_append, List.mem_singleton, Value.ref.injEq] at hm
    rcases hm with hm | hm
    · exact h.old a o ha ho hn hm
    · subst hm
      rw [O.keep _ _ (O.base _ _ ha ho)] at ht; cases ht
theorem Parts.snoc {h : Heap} (hp : Parts h xs ps) {v : Value} {p : Str × Str} (hv : PartAt h v p) : Parts h (xs.push v) (ps ++ [p]) := by
  refine ⟨by simp [hp.len], fun j u q e1 e2 => ?_⟩
  rw [Array.getElem?_push] at e1
  by_cases hj : j = xs.size
  · subst hj
    rw [if_pos rfl] at e1
    rw [hp.len, List.getElem?_append_right (Nat.le_refl _)] at e2
    simp only [Nat.sub_self, List.getElem?_cons_zero] at e2
    cases e1; cases e2; exact hv
  · rw [if_neg hj] at e1
    have hlt : j < xs.size := (Array.getElem?_eq_some_iff.mp e1).1
    rw [List.getElem?_append_left (by rw [← hp.len]; exact hlt)] at e2
    exact hp.at_ j u q e1 e2
theorem Parts.pop {h : Heap} (hp : Parts h xs ps) : Parts h xs.pop ps.dropLast := by
  refine ⟨by simp [hp.len], fun j u q e1 e2 => ?_⟩
  rw [Array.getElem?_pop] at e1
  split at e1
  · rename_i hj
    rw [List.getElem?_dropLast] at e2
    split at e2
    · exact hp.at_ j u q e1 e2
    · cases e2
  · cases e1
end
section
variable {prog : Program} {w : World} {A : Around} {E : Value → Shared → Prop} {foot : List Addr} {g : Heap} {σ s s' : Shared} {L : Addr} {m m' : Str → Option Value} {x d ll : Addr} {z : Int} {xs : Array Value} {ps : List (Str × Str)} {lines : List Str} {ex : List (Addr × Obj)}
theorem fo_push' {a b : Str} {ta tb : Tok} {R : Result → Shared → Prop} (F : FO w.params ex foot g σ s L m x d ll z xs ps lines) (hroom : A.depth < recursionLimit) (hsz : ps.length < 1000)
    (h : ∀ g' s' xs', (∀ b o, g.get? b = some o → g'.get? b = some o) → FO w.params ex foot g' σ s' L m x d ll z xs' (ps ++ [(a, b)]) lines → R (.ok (.ret .none)) s') :
    codeAny (model prog w) A (.call (.ref 179) ⟨[.ref x, .str a ta, .str b tb], []⟩) R s := by
  obtain ⟨ax, ad, al, hxd, hxl, hdl⟩ := F.offs
  obtain ⟨k, od, lv, kl, t1, t2, tz, O, hn, hP, hS, ht1, ht2⟩ := id F
  refine push_ok F.X hroom (O.at 0 rfl) hn.ns hxd ax (by rfl) (by rw [hP.len]; exact hsz) fun s' t n' p ht0 ht hx => ?_
  have e : ∀ b o, b ≠ x → s.heap.get? b = some o → s'.heap.get? b = some o := fun b o hb e => p.ext b o (by simpa using hb) e
  obtain ⟨g', O', up, upn⟩ := five O p (fun a ha => .inl (by simpa using ha)) hx (e _ _ (Ne.symm hxd) (O.at 1 rfl)) (e _ _ (Ne.symm hxl) (O.at 2 rfl)) (e _ _ (by rintro rfl; have := O.at 3 rfl; rw [O.at 0 rfl] at this; cases this) (O.at 3 rfl)) (e _ _ (by rintro rfl; have := O.at 4 rfl; rw [O.at 0 rfl] at this; cases this) (O.at 4 rfl))
  have hn' : s'.heap.Ns1 d (mA (.int z tz)) := hn.at fun o eo => e _ _ (Ne.symm hxd) eo
  obtain ⟨n1, n2⟩ := tupNe (v := .none) O' hn' (fun q hq _ e => by
    have := (O.lg q (.tail _ (.tail _ (.tail _ (.tail _ (.tail _ hq)))))).1
    rw [e, ht0] at this; cases this) ht
  refine h g' s' _ up ⟨_, od, lv, kl, t1, t2, tz, O', hn', (hP.keeps fun b o eo _ => up _ _ eo).snoc ⟨t, ta, tb, rfl, upn _ _ n1 n2 ht⟩, hS, ht1, ht2.1, ExOk.push O ht2.2 ht0⟩
theorem fo_push {a b : Str} {ta tb : Tok} {Q : Value → Shared → Prop} (F : FO w.params ex foot g σ s L m x d ll z xs ps lines) (hroom : A.depth < recursionLimit) (hsz : ps.length < 1000)
    (h : ∀ g' s' xs', (∀ b o, g.get? b = some o → g'.get? b = some o) → FO w.params ex foot g' σ s' L m x d ll z xs' (ps ++ [(a, b)]) lines → Q .none s') :
    wpAny (model prog w) A (call (.ref 179) [.ref x, .str a ta, .str b tb]) Q E s := wpAny_call (fo_push' F hroom hsz h)
end
end Mine
namespace Mine
section
variable {prog : Program} {w : World} {A : Around} {E : Value → Shared → Prop} {foot : List Addr} {g : Heap} {σ s s' : Shared} {L : Addr} {m m' : Str → Option Value} {x d ll : Addr} {z : Int} {xs : Array Value} {ps : List (Str × Str)} {lines : List Str} {ex : List (Addr × Obj)}
abbrev Up (g g' : Heap) : Prop := ∀ b o, g.get? b = some o → g'.get? b = some o
theorem acc_ne {P : Params} {k : Nat} {od : Obj} {lv tb tb2 : Array Value} {kl : Nat} (O : Own P foot g σ s L m (led5 ex x (accObj d xs k) d od ll (lstObj lv kl) (tabObj tb) (tabObj tb2))) : x ≠ 197 ∧ x ≠ 204 ∧ ll ≠ 197 ∧ ll ≠ 204 ∧ d ≠ 197 ∧ d ≠ 204 := by
  have nd : (x :: d :: ll :: 197 :: 204 :: ex.map (·.1) : List Addr).Nodup := O.nd
  simp only [List.nodup_cons, List.mem_cons, not_or] at nd
  exact ⟨nd.1.2.2.1, nd.1.2.2.2.1, nd.2.2.1.1, nd.2.2.1.2.1, nd.2.1.2.1, nd.2.1.2.2.1⟩
theorem fo_pop {Q : Value → Shared → Prop} (pg : PG prog w.params) (F : FO w.params ex foot g σ s L m x d ll z xs ps lines) (hroom : A.depth + 2 < recursionLimit) (hsz : ps.length < 1000)
    (h : ∀ g' s' v xs', Up g g' → FO w.params ex foot g' σ s' L m x d ll z xs' ps.dropLast lines → PartAt g' v (ps.getLastD ("", "")) → Q v s') :
    wpAny (model prog w) A (call (.ref 195) [.ref x]) Q E s := by
  obtain ⟨ax, ad, al, hxd, hxl, hdl⟩ := F.offs
  obtain ⟨k, od, lv, kl, t1, t2, tz, O, hn, hP, hS, ht1, ht2⟩ := id F
  obtain ⟨x7, x4, -⟩ := acc_ne O
  have fin : ∀ s' (n' : Nat) xs', Post [x] s s' → s'.heap.get? x = some (accObj d xs' n') → ∃ g', Up g g' ∧ Own w.params foot g' σ s' L m (led5 ex x (accObj d xs' n') d od ll (lstObj lv kl) (tabObj t1) (tabObj t2)) ∧ s'.heap.Ns1 d (mA (.int z tz)) ∧
      (∀ t items k, s.heap.get? t = none → s'.heap.get? t = some { cls := .type "tuple", data := .seq items k } → g'.get? t = some { cls := .type "tuple", data := .seq items k }) := by
    intro s' n' xs' p hx
    have e : ∀ b o, b ≠ x → s.heap.get? b = some o → s'.heap.get? b = some o := fun b o hb e => p.ext b o (by simpa using hb) e
    obtain ⟨g', O', up, upn⟩ := five O p (fun a ha => .inl (by simpa using ha)) hx (e _ _ (Ne.symm hxd) (O.at 1 rfl)) (e _ _ (Ne.symm hxl) (O.at 2 rfl)) (e _ _ (Ne.symm x7) (O.at 3 rfl)) (e _ _ (Ne.symm x4) (O.at 4 rfl))
    have hn' : s'.heap.Ns1 d (mA (.int z tz)) := hn.at fun o eo => e _ _ (Ne.symm hxd) eo
    refine ⟨g', up, O', hn', fun t items k ht0 ht => ?_⟩
    obtain ⟨n1, n2⟩ := tupNe (v := .none) O' hn' (fun q hq _ e => by
      have := (O.lg q (.tail _ (.tail _ (.tail _ (.tail _ (.tail _ hq)))))).1
      rw [e, ht0] at this; cases this) ht
    exact upn _ _ n1 n2 ht
  refine wpAny_call (pop_ok pg F.X hroom (O.at 0 rfl) hn.ns hxd ax (by rfl) (by rw [hP.len]; exact hsz) (fun h0 s' t ta tb p ht0 ht hx => ?_) (fun s' v n' p h0 hv hx => ?_))
  · obtain ⟨g', up, O', hn', ut⟩ := fin s' k xs p hx
    have hps : ps = [] := List.length_eq_zero_iff.mp (by rw [← hP.len]; exact h0)
    subst hps
    exact h g' s' _ xs up ⟨_, od, lv, kl, t1, t2, tz, O', hn', hP.keeps fun b o eo _ => up _ _ eo, hS, ht1, ht2⟩ ⟨t, ta, tb, rfl, ut _ _ _ ht0 ht⟩
  · obtain ⟨g', up, O', hn', ut⟩ := fin s' n' _ p hx
    have hne : ps ≠ [] := fun q => h0 (by rw [hP.len, q]; rfl)
    have hlast : ps[xs.size - 1]? = some (ps.getLastD ("", "")) := by
      rw [hP.len, ← List.getLast?_eq_getElem?, List.getLastD_eq_getLast?, List.getLast?_eq_some_getLast hne]; rfl
    obtain ⟨a, tf, tp, rfl, ho⟩ := hP.at_ _ _ _ hv hlast
    exact h g' s' _ _ up ⟨_, od, lv, kl, t1, t2, tz, O', hn', (hP.pop).keeps fun b o eo _ => up _ _ eo, hS, ht1, ht2.1, ht2.2.less fun v hv => List.dropLast_subset _ (by simpa using hv)⟩ ⟨a, tf, tp, rfl, up _ _ ho⟩
theorem fo_len {Q : Value → Shared → Prop} (F : FO w.params ex foot g σ s L m x d ll z xs ps lines) (hroom : A.depth + 10 < recursionLimit) (hh : A.handled = none) (hB : Small ps) (hsz : ps.length ≤ 1000) (hz : 0 ≤ z) (hz2 : z ≤ 1000)
    (h : ∀ g' s' t, Up g g' → FO w.params ex foot g' σ s' L m x d ll z xs ps lines → Q (.int (z + psum ps) t) s') :
    wpAny (model prog w) A (call (.builtin "len") [.ref x]) Q E s := by
  obtain ⟨ax, ad, al, hxd, hxl, hdl⟩ := F.offs
  obtain ⟨k, od, lv, kl, t1, t2, tz, O, hn, hP, hS, ht1, ht2⟩ := id F
  obtain ⟨x7, x4, l7, l4, d7, d4⟩ := acc_ne O
  obtain ⟨odi, I⟩ := acc_I' (O.at 0 rfl) hn.ns
  refine len_own F.X I (f := 202) (by kernel_rfl) (by kernel_rfl) ?_
  refine wpAny_call (len_ok F.X hroom hh (O.at 0 rfl) hn.ns (sz := z) (tz := tz) (by rfl) (hP.keeps fun b o e _ => O.keep _ _ e) hB (O.at 3 rfl) ht1 fun s' t tb' p hT' ht' => ?_)
  have h0 := psum_nonneg ps
  have h1 := psum_le hB
  refine ⟨_, _, rfl, by walk_at "om", by walk_at "om", fun t' k' => ?_⟩
  have e : ∀ b o, b ≠ 197 → s.heap.get? b = some o → s'.heap.get? b = some o := fun b o hb e => p.ext b o (by simpa using hb) e
  obtain ⟨g', O', up, upn⟩ := five O p (fun a ha => .inr (.inr (.inr (.inl (by simpa using ha))))) (e _ _ x7 (O.at 0 rfl)) (e _ _ d7 (O.at 1 rfl)) (e _ _ l7 (O.at 2 rfl)) hT' (e _ _ (by decide) (O.at 4 rfl))
  have hn' : s'.heap.Ns1 d (mA (.int z tz)) := hn.at fun o eo => e _ _ d7 eo
  exact h g' _ _ up (FO.same (s' := { s' with toks := k' }) ⟨_, od, lv, kl, tb', t2, tz, O', hn', hP.keeps fun b o eo _ => up _ _ eo, hS, ht', ht2⟩ fun led O => O.toks k')
theorem fo_str {Q : Value → Shared → Prop} (F : FO w.params ex foot g σ s L m x d ll z xs ps lines) (hroom : A.depth + 10 < recursionLimit) (hu : A.units + 40 < cLine) (hh : A.handled = none) (hB : Small ps) (hsz : ps.length ≤ 1000)
    (h : ∀ g' s' t, Up g g' → FO w.params ex foot g' σ s' L m x d ll z xs ps lines → Q (.str (accText ps) t) s') :
    wpAny (model prog w) A (call (.type "str") [.ref x]) Q E s := by
  obtain ⟨ax, ad, al, hxd, hxl, hdl⟩ := F.offs
  obtain ⟨k, od, lv, kl, t1, t2, tz, O, hn, hP, hS, ht1, ht2⟩ := id F
  obtain ⟨x7, x4, l7, l4, d7, d4⟩ := acc_ne O
  obtain ⟨odi, I⟩ := acc_I' (O.at 0 rfl) hn.ns
  refine kso_call (f := 209) (by show A.units + 1 + 1 < _; exact dl2 hu (by decide)) F.X I (by kernel_rfl) (by kernel_rfl) ?_
  refine wpAny_call (str_ok F.X hroom hh (O.at 0 rfl) (hP.keeps fun b o e _ => O.keep _ _ e) hB hsz (O.at 4 rfl) ht2.1 fun s' t tb' p hT' ht' => ?_)
  have e : ∀ b o, b ≠ 204 → s.heap.get? b = some o → s'.heap.get? b = some o := fun b o hb e => p.ext b o (by simpa using hb) e
  obtain ⟨g', O', up, upn⟩ := five O p (fun a ha => .inr (.inr (.inr (.inr (by simpa using ha))))) (e _ _ x4 (O.at 0 rfl)) (e _ _ d4 (O.at 1 rfl)) (e _ _ l4 (O.at 2 rfl)) (e _ _ (by decide) (O.at 3 rfl)) hT'
  have hn' : s'.heap.Ns1 d (mA (.int z tz)) := hn.at fun o eo => e _ _ d4 eo
  exact h g' _ _ up ⟨_, od, lv, kl, t1, tb', tz, O', hn', hP.keeps fun b o eo _ => up _ _ eo, hS, ht1, ht', ht2.2⟩
theorem fo_only {Q : Value → Shared → Prop} (F : FO w.params ex foot g σ s L m x d ll z xs ps lines) (hroom : A.depth + 20 < recursionLimit) (hu : A.units + 40 < cLine) (hh : A.handled = none) (hB : Small ps) (hsz : ps.length ≤ 1000) (hz : 0 ≤ z) (hz2 : z ≤ 1000)
    (h : ∀ g' s', Up g g' → FO w.params ex foot g' σ s' L m x d ll z xs ps lines → Q (.bool (z == 0 && (z + psum ps == 0 || Txt.isspace (accText ps)))) s') :
    wpAny (model prog w) A (call (.ref 224) [.ref x]) Q E s := by
  obtain ⟨ax, ad, al, hxd, hxl, hdl⟩ := F.offs
  obtain ⟨k, od, lv, kl, t1, t2, tz, O, hn, hP, hS, ht1, ht2⟩ := id F
  obtain ⟨x7, x4, l7, l4, d7, d4⟩ := acc_ne O
  refine wpAny_call (only_ok F.X hroom hu hh ⟨O.at 0 rfl, hn, hP.keeps fun b o e _ => O.keep _ _ e⟩ hB hsz hz hz2 (O.at 3 rfl) ht1 (O.at 4 rfl) ht2.1 fun s' tb' tb2' p hT1 ht1' hT2 ht2' => ?_)
  have e : ∀ b o, b ≠ 197 → b ≠ 204 → s.heap.get? b = some o → s'.heap.get? b = some o := fun b o hb hb2 e => p.ext b o (by simp [hb, hb2]) e
  obtain ⟨g', O', up, upn⟩ := five O p (fun a ha => by
    rcases List.mem_cons.mp ha with rfl | ha
    · exact .inr (.inr (.inr (.inl rfl)))
    · exact .inr (.inr (.inr (.inr (by simpa using ha))))) (e _ _ x7 x4 (O.at 0 rfl)) (e _ _ d7 d4 (O.at 1 rfl)) (e _ _ l7 l4 (O.at 2 rfl)) hT1 hT2
  have hn' : s'.heap.Ns1 d (mA (.int z tz)) := hn.at fun o eo => e _ _ d7 d4 eo
  exact h g' _ up ⟨_, od, lv, kl, tb', tb2', tz, O', hn', hP.keeps fun b o eo _ => up _ _ eo, hS, ht1', ht2', ht2.2⟩
end
end Mine
namespace Mine
section
variable {prog : Program} {w : World} {A : Around} {E : Value → Shared → Prop} {foot : List Addr} {g : Heap} {σ s s' : Shared} {L : Addr} {m m' : Str → Option Value} {x d ll : Addr} {z : Int} {xs : Array Value} {ps : List (Str × Str)} {lines : List Str} {ex : List (Addr × Obj)}
theorem mA_set (v u : Value) : (fun y => if y = ("_initial_size" : Str) then some v else mA u y) = mA v := by
  funext y
  unfold mA
  split <;> rfl
theorem within_mA (v : Value) : Within (mA v) ["_initial_size"] := fun y hy => by
  unfold mA at hy
  split at hy
  · rename_i e; rw [e]; exact List.mem_cons_self
  · exact absurd rfl hy
theorem fo_reset0 {Q : Value → Shared → Prop} (F : FO w.params ex foot g σ s L m x d ll z xs ps lines) (hroom : A.depth < recursionLimit) (hsz : ps.length < 1000)
    (h : ∀ g' s', Up g g' → FO w.params ex foot g' σ s' L m x d ll 0 #[] [] lines → Q .none s') :
    wpAny (model prog w) A (call (.ref 217) [.ref x]) Q E s := by
  obtain ⟨ax, ad, al, hxd, hxl, hdl⟩ := F.offs
  obtain ⟨k, od, lv, kl, t1, t2, tz, O, hn, hP, hS, ht1, ht2⟩ := id F
  obtain ⟨x7, x4, l7, l4, d7, d4⟩ := acc_ne O
  refine wpAny_call (reset_none F.X hroom (O.at 0 rfl) (O.at 1 rfl) hn (within_mA _) (by simp) hxd ax ad (by rw [hP.len]; exact hsz) fun s' n' t p hx' hn' => ?_)
  rw [mA_set] at hn'
  have e : ∀ b o, b ≠ x → b ≠ d → s.heap.get? b = some o → s'.heap.get? b = some o := fun b o hb hb2 e => p.ext b o (by simp [hb, hb2]) e
  obtain ⟨od', -, -, hod', -⟩ := id hn'
  obtain ⟨g', O', up, upn⟩ := five O p (fun a ha => by
    rcases List.mem_cons.mp ha with rfl | ha
    · exact .inl rfl
    · exact .inr (.inl (by simpa using ha))) hx' hod' (e _ _ (Ne.symm hxl) (Ne.symm hdl) (O.at 2 rfl)) (e _ _ (Ne.symm x7) (Ne.symm d7) (O.at 3 rfl)) (e _ _ (Ne.symm x4) (Ne.symm d4) (O.at 4 rfl))
  exact h g' _ up ⟨_, od', lv, kl, t1, t2, t, O', hn', ⟨rfl, fun j u q e1 _ => by simp at e1⟩, hS, ht1, ht2.1, ht2.2.less (by simp)⟩
theorem fo_reset1 {y : Addr} {ys : Array Value} {ny : Nat} {qs : List (Str × Str)} {Q : Value → Shared → Prop} (F : FO w.params ex foot g σ s L m x d ll z xs ps lines) (hroom : A.depth < recursionLimit) (hsz : ps.length < 1000)
    (hy : g.get? y = some { cls := .type "list", data := .seq ys ny }) (hq : Parts g ys qs) (hqs : qs.length < 1000) (hx1 : ExOk foot σ x ys ex)
    (h : ∀ g' s', Up g g' → FO w.params ex foot g' σ s' L m x d ll 0 ys qs lines → Q .none s') :
    wpAny (model prog w) A (call (.ref 217) [.ref x, .ref y]) Q E s := by
  obtain ⟨ax, ad, al, hxd, hxl, hdl⟩ := F.offs
  obtain ⟨k, od, lv, kl, t1, t2, tz, O, hn, hP, hS, ht1, ht2⟩ := id F
  obtain ⟨x7, x4, l7, l4, d7, d4⟩ := acc_ne O
  have hyd : y ≠ d := by
    rintro rfl
    have := (O.lg (y, od) (.tail _ (.head _))).2.2
    rw [hy] at this; cases this
  refine wpAny_call (reset_list F.X hroom (O.at 0 rfl) (O.at 1 rfl) hn (within_mA _) (by simp) hxd ax ad (by rw [hP.len]; exact hsz) (O.keep _ _ hy) (by rw [hq.len]; exact hqs) hyd fun s' n' t p hx' hn' => ?_)
  rw [mA_set] at hn'
  have e : ∀ b o, b ≠ x → b ≠ d → s.heap.get? b = some o → s'.heap.get? b = some o := fun b o hb hb2 e => p.ext b o (by simp [hb, hb2]) e
  obtain ⟨od', -, -, hod', -⟩ := id hn'
  obtain ⟨g', O', up, upn⟩ := five O p (fun a ha => by
    rcases List.mem_cons.mp ha with rfl | ha
    · exact .inl rfl
    · exact .inr (.inl (by simpa using ha))) hx' hod' (e _ _ (Ne.symm hxl) (Ne.symm hdl) (O.at 2 rfl)) (e _ _ (Ne.symm x7) (Ne.symm d7) (O.at 3 rfl)) (e _ _ (Ne.symm x4) (Ne.symm d4) (O.at 4 rfl))
  exact h g' _ up ⟨_, od', lv, kl, t1, t2, t, O', hn', hq.keeps fun b o eo _ => up _ _ eo, hS, ht1, ht2.1, hx1⟩
theorem Parts.take {h : Heap} (hp : Parts h xs ps) (i : Nat) (hi : i ≤ xs.size) : Parts h (xs.extract 0 i) (ps.take i) := by
  refine ⟨by simp [hp.len, Nat.min_comm], fun j u q e1 e2 => ?_⟩
  rw [Array.getElem?_extract] at e1
  rw [List.getElem?_take] at e2
  split at e1
  · split at e2
    · exact hp.at_ j u q (by simpa using e1) e2
    · cases e2
  · cases e1
theorem Parts.drop {h : Heap} (hp : Parts h xs ps) (i : Nat) : Parts h (xs.toList.drop i).toArray (ps.drop i) := by
  refine ⟨by simp [hp.len], fun j u q e1 e2 => ?_⟩
  simp only [List.getElem?_toArray, List.getElem?_drop, Array.getElem?_toList] at e1
  rw [List.getElem?_drop] at e2
  exact hp.at_ _ u q e1 e2
theorem fo_pop_from {i : Nat} {ti : Tok} {Q : Value → Shared → Prop} (F : FO w.params ex foot g σ s L m x d ll z xs ps lines) (hroom : A.depth < recursionLimit) (hsz : ps.length < 1000) (hi : i ≤ ps.length)
    (h : ∀ g' s' xs' y ys ny, Up g g' → FO w.params ex foot g' σ s' L m x d ll z xs' (ps.take i) lines → g'.get? y = some { cls := .type "list", data := .seq ys ny } → Parts g' ys (ps.drop i) → ExOk foot σ x ys ex → Q (.ref y) s') :
    wpAny (model prog w) A (call (.ref 187) [.ref x, .int i ti]) Q E s := by
  obtain ⟨ax, ad, al, hxd, hxl, hdl⟩ := F.offs
  obtain ⟨k, od, lv, kl, t1, t2, tz, O, hn, hP, hS, ht1, ht2⟩ := id F
  obtain ⟨x7, x4, l7, l4, d7, d4⟩ := acc_ne O
  have hi' : i ≤ xs.size := by rw [hP.len]; exact hi
  refine wpAny_call (pop_from_ok F.X hroom (O.at 0 rfl) ax (by rw [hP.len]; exact hsz) hi' fun s' y n' n'' p hx' hy0 hy => ?_)
  have e : ∀ b o, b ≠ x → s.heap.get? b = some o → s'.heap.get? b = some o := fun b o hb e => p.ext b o (by simpa using hb) e
  obtain ⟨g', O', up, upn⟩ := five O p (fun a ha => .inl (by simpa using ha)) hx' (e _ _ (Ne.symm hxd) (O.at 1 rfl)) (e _ _ (Ne.symm hxl) (O.at 2 rfl)) (e _ _ (Ne.symm x7) (O.at 3 rfl)) (e _ _ (Ne.symm x4) (O.at 4 rfl))
  have hn' : s'.heap.Ns1 d (mA (.int z tz)) := hn.at fun o eo => e _ _ (Ne.symm hxd) eo
  obtain ⟨-, f2, f3⟩ := O.fresh hy0
  have hy' := upn y _ f2 f3 hy
  exact h g' s' _ y _ _ up ⟨_, od, lv, kl, t1, t2, tz, O', hn', (hP.take i hi').keeps fun b o eo _ => up _ _ eo, hS, ht1, ht2.1, ht2.2.less fun v hv => List.mem_of_mem_take (i := i) (by simpa [List.extract] using hv)⟩ hy' ((hP.drop i).keeps fun b o eo _ => up _ _ eo) (ht2.2.less fun v hv => List.mem_of_mem_drop (by simpa using hv))
theorem fo_count {Q : Value → Shared → Prop} (pg : PG prog w.params) (F : FO w.params ex foot g σ s L m x d ll z xs ps lines) (hroom : A.depth < recursionLimit)
    (h : ∀ s' t, FO w.params ex foot g σ s' L m x d ll z xs ps lines → Q (.int ps.length t) s') :
    wpAny (model prog w) A (call (.ref 232) [.ref x]) Q E s := by
  obtain ⟨k, od, lv, kl, t1, t2, tz, O, hn, hP, hS, ht1, ht2⟩ := id F
  refine wpAny_call (part_count_ok pg F.X hroom (O.at 0 rfl) fun s' t p => ?_)
  rw [hP.len]
  exact h s' t (F.same fun led O => O.quiet p)
theorem fo_size {Q : Value → Shared → Prop} (F : FO w.params ex foot g σ s L m x d ll z xs ps lines)
    (h : ∀ s' t, FO w.params ex foot g σ s' L m x d ll z xs ps lines → Q (.int z t) s') :
    wpAny (model prog w) A (getAttr (.ref x) "_initial_size" true) Q E s := by
  obtain ⟨k, od, lv, kl, t1, t2, tz, O, hn, hP, hS, ht1, ht2⟩ := id F
  exact acc_get F.X (O.at 0 rfl) hn.ns (v := .int z tz) (by rfl) (by kernel_rfl) rfl (h _ tz (F.same fun led O => O.toks _))
/-- a method of the accumulator -/
theorem fo_method {name : Str} {f : Value} {T : String} {pl : Sem Bool} {Q : Value × List Value → Shared → Prop} (F : FO w.params ex foot g σ s L m x d ll z xs ps lines)
   (hf : findIn (Kn w.params) (.ref 235) name = some (some f)) (hn : (name == "_initial_size") = false) (ht : typeIn (Kn w.params) f = some (.type T)) (hT : T = "function" ∨ T = "method_descriptor" ∨ T = "wrapper_descriptor")
   (h : Q (f, [.ref x]) s) : wpAny (model prog w) A (getMethod (.ref x) name pl) Q E s := by
  obtain ⟨k, od, lv, kl, t1, t2, tz, O, hns, hP, hS, ht1, ht2⟩ := id F
  refine acc_method F.X (O.at 0 rfl) hns.ns ?_ hf ht hT h
  unfold mA
  rw [if_neg (by simpa using hn)]
/-- self._lines.append -/
theorem fo_lines {v : Str} {tv : Tok} {Q : Value → Shared → Prop} (F : FO w.params ex foot g σ s L m x d ll z xs ps lines) (hsz : lines.length < 1000)
    (h : ∀ s', FO w.params ex foot g σ s' L m x d ll z xs ps (lines ++ [v]) → Q .none s') :
    wpAny (model prog w) A (call (.builtin "list.append") [.ref ll, .str v tv]) Q E s := by
  obtain ⟨k, od, lv, kl, t1, t2, tz, O, hn, hP, hS, ht1, ht2⟩ := id F
  have hlen : lv.size = lines.length := by
    have : ∀ {vs : List Value} {ys : List Str}, StrsAre vs ys → vs.length = ys.length := fun h => by induction h with | nil => rfl | cons _ _ _ ih => simp [ih]
    have := this hS; simpa using this
  have hsn : ∀ {vs : List Value} {ys : List Str}, StrsAre vs ys → StrsAre (vs ++ [.str v tv]) (ys ++ [v]) := fun h => by
    induction h with
    | nil => exact .cons _ _ .nil
    | cons y t r ih => exact .cons y t ih
  refine wpAny_call_entry slot_list_append ⟨_, O.at 2 rfl, rfl⟩ entry_list_append ?_ (args_list_append _ _)
  show wpAny _ _ (updateSeq ll (·.push (.str v tv)) >>= fun _ => ret .none) _ _ s
  refine wpAny_bind (wpAny_updateSeq (O.at 2 rfl) rfl (wpAny_pure ⟨_, rfl, ?_⟩) (by simp only [sizeLine]; walk_at "om"))
  have O' := O.update 2 (f := Obj.mapSeq (·.push (.str v tv))) rfl
  obtain ⟨-, -, -, -, -, hdl⟩ := F.offs
  refine h _ ⟨k, od, lv.push (.str v tv), _, t1, t2, tz, O', hn.at fun o eo => ?_, hP, by simpa using hsn hS, ht1, ht2⟩
  have : od = o := Option.some.inj ((O.at 1 rfl).symm.trans eo)
  subst this; exact O'.at 1 rfl
end
end Mine
namespace Mine
inductive FmtS (P : Params) (h : Heap) (x d ll : Addr) (z : Int) (ps : List (Str × Str)) (lines : List Str) : Prop where
  | mk (xs : Array Value) (k : Nat) (od : Obj) (lv : Array Value) (kl : Nat) (tb tb2 : Array Value) (tz : Tok) (e1 : h.get? x = some (accObj d xs k)) (e2 : h.get? d = some od) (hn : h.Ns1 d (mA (.int z tz))) (e3 : h.get? ll = some (lstObj lv kl)) (e4 : h.get? 197 = some (tabObj tb)) (e5 : h.get? 204 = some (tabObj tb2)) (hP : Parts h xs ps) (hS : StrsAre lv.toList lines) (h1 : Tab1 pLen tb) (h2 : Tab1 pStr tb2) (ax : Off P x) (ad : Off P d) (al : Off P ll)
theorem FmtS.off {P : Params} {h : Heap} {x d ll : Addr} {z : Int} {ps : List (Str × Str)} {lines : List Str} : FmtS P h x d ll z ps lines → Off P x ∧ Off P d ∧ Off P ll
  | ⟨_, _, _, _, _, _, _, _, _, _, _, _, _, _, _, _, _, _, a, b, c⟩ => ⟨a, b, c⟩
abbrev foot5 (x d ll : Addr) : List Addr := [x, d, ll, 197, 204]
inductive FmAt (h : Heap) (fm ll x : Addr) (W : Int) : Prop where
  | mk (fd : Addr) (m : Str → Option Value) (tW t1 t3 : Tok) (h1 : h.get? fm = some (fmtObj fd)) (h2 : h.Ns fd m) (e1 : m "_maxlen" = some (.int W tW)) (e2 : m "_continuation_ws" = some (.str " " t1)) (e3 : m "_splitchars" = some (.str " " t3)) (e4 : m "_lines" = some (.ref ll)) (e5 : m "_current_line" = some (.ref x))
    (e6 : ∀ n, (["newline", "_append_chunk", "_ascii_split", "feed", "_str"] : List Str).contains n = true → m n = none)
theorem FmAt.keeps {h h' : Heap} {fm ll x : Addr} {W : Int} (F : FmAt h fm ll x W) (k : ∀ b o, h.get? b = some o → (o.cls = .ref 151 ∨ ∃ es n, o.data = .dict es n) → h'.get? b = some o) : FmAt h' fm ll x W := by
  obtain ⟨fd, m, tW, t1, t3, h1, h2, q1, q2, q3, q4, q5, q6⟩ := id F
  obtain ⟨o, es, ep, ho, hd, r2⟩ := h2
  exact ⟨fd, m, tW, t1, t3, k _ _ h1 (.inl rfl), ⟨o, es, ep, k _ _ ho (.inr ⟨es, ep, hd⟩), hd, r2⟩, q1, q2, q3, q4, q5, q6⟩
section
variable {P : Params} {foot : List Addr} {g : Heap} {σ s s' : Shared} {L : Addr} {m : Str → Option Value} {x d ll : Addr} {z z' : Int} {xs : Array Value} {ps ps' : List (Str × Str)} {lines lines' : List Str} {ex : List (Addr × Obj)}
theorem FO.S (F : FO P ex foot g σ s L m x d ll z xs ps lines) : FmtS P s.heap x d ll z ps lines := by
  obtain ⟨ax, ad, al, -, -, -⟩ := F.offs
  obtain ⟨k, od, lv, kl, tb, tb2, tz, O, hn, hP, hS, h1, h2⟩ := id F
  exact ⟨xs, k, od, lv, kl, tb, tb2, tz, O.at 0 rfl, O.at 1 rfl, hn, O.at 2 rfl, O.at 3 rfl, O.at 4 rfl, hP.keeps fun b o e _ => O.keep _ _ e, hS, h1, h2.1, ax, ad, al⟩
theorem FO.post (F : FO P ex foot g σ s L m x d ll z xs ps lines) : Post foot σ s := F.own.post
/-- no old object has become a chunk -/
def OldC (foot : List Addr) (x : Addr) (h h' : Heap) : Prop := ∀ a o, a ∉ foot → h.get? a = some o → ¬ Has h x a → ¬ Has h' x a
structure PostF (x d ll : Addr) (s s' : Shared) : Prop where
  post : Post (foot5 x d ll) s s'
  old : OldC (foot5 x d ll) x s.heap s'.heap
theorem FO.postF (F : FO P ex (foot5 x d ll) g σ s L m x d ll z xs ps lines) : PostF x d ll σ s := by
  refine ⟨F.post, fun a o ha ho hn hh => ?_⟩
  obtain ⟨k, od, lv, kl, tb, tb2, tz, O, -, -, -, -, -, hx⟩ := id F
  obtain ⟨d', ys, k', e, hm⟩ := hh
  rw [O.at 0 rfl] at e
  cases e
  exact hx.old a o ha ho hn hm
theorem foot_five {a : Addr} (h : a ∈ foot5 x d ll) : a = x ∨ a = d ∨ a = ll ∨ a = 197 ∨ a = 204 := by simpa using h
theorem FO.re (F : FO P ex foot g σ s L m x d ll z xs ps lines) (p : PostF x d ll s s') (S : FmtS P s'.heap x d ll z' ps' lines') : ∃ g' xs', (∀ b o, g.get? b = some o → g'.get? b = some o) ∧ FO P ex foot g' σ s' L m x d ll z' xs' ps' lines' := by
  obtain ⟨k, od, lv, kl, tb, tb2, tz, O, -, -, -, -, -, hnt⟩ := id F
  obtain ⟨xs', k', od', lv', kl', tb', tb2', tz', e1, e2, hn', e3, e4, e5, hP', hS', h1', h2'⟩ := id S
  obtain ⟨g', O', up, upn⟩ := five O p.post (fun a => foot_five) e1 e2 e3 e4 e5
  have tup : ∀ q ∈ ex, q.2.cls = .type "tuple" → Value.ref q.1 ∉ xs'.toList := fun q hq hc hm => by
    have hm1 : q.1 ∈ ex.map (·.1) := List.mem_map_of_mem hq
    refine p.old q.1 q.2 (fun hb => ?_) (O.lg q (.tail _ (.tail _ (.tail _ (.tail _ (.tail _ hq)))))).1 (fun hh => ?_) ⟨d, xs', k', e1, hm⟩
    · exact ndj (l₁ := [x, d, ll, 197, 204]) O.nd hb hm1 rfl
    · obtain ⟨d2, ys, k2, e, hm2⟩ := hh
      rw [O.at 0 rfl] at e
      cases e
      exact hnt.tup q hq hc hm2
  have tupAt : ∀ a, Value.ref a ∈ xs'.toList → ∃ items, s'.heap.get? a = some { cls := .type "tuple", data := .seq items } := fun a hm => by
    obtain ⟨j, hj, ej⟩ := List.mem_iff_getElem.mp hm
    have hj' : j < ps'.length := by rw [← hP'.len]; simpa using hj
    obtain ⟨b, tf, tp, e, ho⟩ := hP'.at_ j (.ref a) ps'[j] (by rw [← ej]; simp) (List.getElem?_eq_getElem hj')
    cases e
    exact ⟨_, ho⟩
  have apart : ∀ a, Value.ref a ∈ xs'.toList → a ≠ L ∧ a ∉ x :: d :: ll :: 197 :: 204 :: ex.map (·.1) := fun a hm => by
    obtain ⟨items, ho⟩ := tupAt a hm
    exact tupNe (v := .none) O' hn' (fun q hq hc e => tup q hq hc (e ▸ hm)) ho
  refine ⟨g', xs', up, ⟨k', od', lv', kl', tb', tb2', tz', O', hn', ⟨hP'.len, fun j v q a1 a2 => ?_⟩, hS', h1', h2', ⟨tup, fun a o ha ho hn hm => ?_⟩⟩⟩
  · obtain ⟨a, tf, tp, e, ho⟩ := hP'.at_ j v q a1 a2
    subst e
    obtain ⟨n1, n2⟩ := apart a (by
      have := Array.mem_of_getElem? a1
      simpa using this)
    exact ⟨a, tf, tp, rfl, upn _ _ n1 n2 ho⟩
  · have hs := O.keep _ _ (O.base _ _ ha ho)
    obtain ⟨-, n2⟩ := apart a hm
    refine p.old a o (fun hb => n2 (List.mem_append_left (ex.map fun p : Addr × Obj => p.1) hb)) hs (fun hh => ?_) ⟨d, xs', k', e1, hm⟩
    obtain ⟨d2, ys, k2, e, hm2⟩ := hh
    rw [O.at 0 rfl] at e
    cases e
    exact hnt.old a o ha ho hn hm2
end
section
variable {prog : Program} {w : World} {A : Around} {E : Value → Shared → Prop} {s : Shared} {x d ll : Addr} {z : Int} {ps : List (Str × Str)} {lines : List Str} {ex : List (Addr × Obj)}
theorem FmtS.nd {P : Params} {h : Heap} (S : FmtS P h x d ll z ps lines) : ([x, d, ll, 197, 204] : List Addr).Nodup := by
  obtain ⟨xs, k, od, lv, kl, tb, tb2, tz, e1, e2, hn, e3, e4, e5, -⟩ := id S
  exact nd5 (gnkD hn.ns e1).symm (gnk e1 e3) (gnk e1 e4) (gnk e1 e5) (gnkD hn.ns e3) (gnkD hn.ns e4) (gnkD hn.ns e5) (gnk e3 e4) (gnk e3 e5) (by decide)
theorem FmtS.offO {P : Params} {h : Heap} {b : Addr} {o : Obj} (S : FmtS P h x d ll z ps lines) (hb : h.get? b = some o) (kk : (Nat.beq (okind o) 8 = false ∧ Nat.beq (okind o) 7 = false) ∧ Nat.beq (okind o) 27 = false ∧ Nat.beq (dkind o.data) 3 = false := by exact ⟨⟨rfl, rfl⟩, rfl, rfl⟩) : b ∉ foot5 x d ll := by
  obtain ⟨xs, k, od, lv, kl, tb, tb2, tz, e1, e2, hn, e3, e4, e5, -⟩ := id S
  exact nf5 (gnk hb e1 kk.1.1) (gnkD hn.ns hb kk.2.2).symm (gnk hb e3 kk.1.2) (gnk hb e4 kk.2.1) (gnk hb e5 kk.2.1)
theorem FmtS.offD {P : Params} {h : Heap} {dc : Addr} {mc : Str → Option Value} {name : Str} {v : Value} (S : FmtS P h x d ll z ps lines) (hd : h.Ns dc mc) (hv : mc name = some v) (hn : name ≠ "_initial_size") : dc ∉ foot5 x d ll := by
  obtain ⟨xs, k, od, lv, kl, tb, tb2, tz, x1, x2, hns, x3, x4, x5, -⟩ := id S
  exact nf5 (gnkD hd x1) (ns_ne hd hns.ns name (by rw [hv]; unfold mA; rw [if_neg hn]; nofun)) (gnkD hd x3) (gnkD hd x4) (gnkD hd x5)
/-- the call of a formatter's method -/
theorem enterF (n : Nat) (binds : List (Str × Value)) {R : Result → Shared → Prop} {args : Args}
    (X : (Kn w.params).In s.heap) (hroom : A.depth < recursionLimit) (S : FmtS w.params s.heap x d ll z ps lines)
    (h : ∀ L s' g xs, (∀ b o, b ∉ foot5 x d ll → s.heap.get? b = some o → g.get? b = some o) → FO w.params [] (foot5 x d ll) g s s' L (fun y => binds.reverse.lookup y) x d ll z xs ps lines →
      wpAny (model prog w) (A.deeper (EV w.params n L)) (execs (BD w.params n) (EV w.params n L))
        (fun f s' => R (.ok (.ret (flowV f))) s')
        (fun e s' => wpAny (model prog w) (A.deeper (EV w.params n L)) (leaving (EV w.params n L) e) (fun _ s'' => R (.error e) s'') (fun e' s'' => R (.error e') s'') s') s')
    (hbind : BindsTo s (FD w.params n) args binds := by (refine BindsTo.of_eq ?_; kernel_rfl))
    (hfd : (Kn w.params).lookup n = some ⟨.type "function", none, .func (FD w.params n), #[]⟩ := by kernel_rfl)
    (hcode : codeIn (Kn w.params) (FD w.params n).code (FD w.params n).qualname = true := by kernel_rfl) (hbody : (FD w.params n).body = .stmts (BD w.params n) := by kernel_rfl)
    (hcell : ((FD w.params n).scope.names.all fun x => x.2 != .cell) = true := by kernel_rfl) (hloc : (binds.all fun x => (FD w.params n).scope.names.lookup x.1 == some .local) = true := by kernel_rfl)
    (hco : (FD w.params n).scope.isCoroutine = false := by kernel_rfl) (hgen : (FD w.params n).scope.isGenerator = false := by kernel_rfl) (hk : (FD w.params n).scope.kind = .function := by kernel_rfl) :
    codeAny (model prog w) A (.call (.ref n) args) R s := by
  have nd := S.nd
  obtain ⟨ax, ad, al⟩ := S.off
  obtain ⟨xs, k, od, lv, kl, tb, tb2, tz, e1, e2, hn, e3, e4, e5, hP, hS, h1, h2⟩ := id S
  refine enter n binds (led5 [] x (accObj d xs k) d od ll (lstObj lv kl) (tabObj tb) (tabObj tb2)) X hroom (led_cons e1 ax (led_cons e2 ad (led_cons e3 al (led_cons e4 (by unfold Off; kernel_rfl) (led_cons e5 (by unfold Off; kernel_rfl) led_nil))))) nd ?_ hbind hfd hcode hbody hcell hloc hco hgen hk
  intro L s₁ g up O
  have hn₁ : s₁.heap.Ns1 d (mA (.int z tz)) := hn.at fun o e => by
    have : od = o := Option.some.inj (e2.symm.trans e)
    subst this; exact O.at 1 rfl
  refine h L s₁ g xs up ⟨k, od, lv, kl, tb, tb2, tz, O, hn₁, ⟨hP.len, fun j v q a1 a2 => ?_⟩, hS, h1, h2, ⟨fun p hp => absurd hp List.not_mem_nil, fun a o ha ho hn hm => hn ⟨_, _, _, e1, hm⟩⟩⟩
  obtain ⟨a, tf, tp, e, ho⟩ := hP.at_ j v q a1 a2
  exact ⟨a, tf, tp, e, up _ _ (nf5 (gnk ho e1) (gnkD hn.ns ho).symm (gnc ho e3 tl_ne) (gnk ho e4) (gnk ho e5)) ho⟩
end
end Mine
namespace Mine
theorem ifT {p : Bool} {a b : Prop} (e : p = true) (h : a) : if p = true then a else b := by rw [if_pos e]; exact h
theorem ifF {p : Bool} {a b : Prop} (e : p = false) (h : b) : if p = true then a else b := by rw [e, if_neg Bool.false_ne_true]; exact h
section
variable {prog : Program} {w : World} {A : Around} {E : Value → Shared → Prop} {s : Shared} {env : Env} {x d : Addr} {xs : Array Value} {n : Nat} {m : Str → Option Value}
theorem MethodCallStar {o e : Expr} {name : Str} {apos pos p : Pos} {Q : Value → Shared → Prop}
    (h : wpAny (model prog w) A (eval o env) (fun ov s₁ => wpAny (model prog w) A (getAttr ov name true) (fun f s₂ => wpAny (model prog w) A (callWith pos f [] (backTo pos (starEach [.Starred e p] env)) []) Q E s₂) E s₁) E s)
    (he : eval (.Call (.Attribute o name apos) [.Starred e p] [] pos) env = (do
      let ov ← eval o env
      standAt apos.atName
      let (f, first) ← holding [ov] (do pure (← getAttr ov name true, []))
      callWith pos f first (backTo pos (starEach [.Starred e p] env)) []) := by rfl) :
    wpAny (model prog w) A (eval (.Call (.Attribute o name apos) [.Starred e p] [] pos) env) Q E s := by
  rw [he]
  refine wpAny_bind (wpAny_mono h (fun ov s₁ h₁ => wpAny_bind (wpAny_standAt (wpAny_bind (wpAny_holding (wpAny_bind (wpAny_mono h₁ (fun r s₂ h₂ => wpAny_pure h₂) fun _ _ x => x)))))) fun _ _ x => x)
/-- a function of the class, bound -/
theorem acc_bound {name : Str} {f : Addr} {Q : Value → Shared → Prop} (X : (Kn w.params).In s.heap)
   (hx : s.heap.get? x = some (accObj d xs n)) (hd : s.heap.Ns d m) (hn : m name = none) (hf : findIn (Kn w.params) (.ref 235) name = some (some (.ref f))) (ht : typeIn (Kn w.params) (.ref f) = some (.type "function")) (hcn : copiedNames.contains name = false)
   (h : Q (.ref s.heap.objs.size) { s with heap := s.heap.push (methodObj (.ref f) (.ref x)), toks := s.toks + 1 }) : wpAny (model prog w) A (getAttr (.ref x) name true) Q E s := by
  have T : Looks (model prog w) s.heap (typeOf (.ref x)) (.ref 235) := acc_type hx
  have L1 : Looks (model prog w) s.heap (typeLookup (.ref 235) "__getattribute__") (some (.builtin "list.__getattribute__")) := looks_findIn X (by kernel_rfl)
  have L2 : Looks (model prog w) s.heap (typeLookup (.ref 235) "__getattr__") (none) := looks_findIn X (by kernel_rfl)
  have L3 : Looks (model prog w) s.heap (typeLookup (.ref 235) name) (some (.ref f)) := looks_findIn X hf
  have L5 : Looks (model prog w) s.heap (nsGet d name) none := looks_ns hd hn
  have LI := acc_inst (M := model prog w) X hx
  have LT : Looks (model prog w) s.heap (typeOf (.ref f)) (.type "function") := looks_typeIn X ht
  have G1 : Looks (model prog w) s.heap (typeLookup (.type "function") "__get__") (some (.builtin "function.__get__")) := looks_findIn X (by kernel_rfl)
  have G2 : Looks (model prog w) s.heap (typeLookup (.type "function") "__set__") none := looks_findIn X (by kernel_rfl)
  have G3 : Looks (model prog w) s.heap (typeLookup (.type "function") "__delete__") none := looks_findIn X (by kernel_rfl)
  obtain ⟨c, dd, cd, sl, hC, hD⟩ := acc_clsD X
  obtain ⟨of, hof, hofc⟩ : ∃ of, s.heap.get? f = some of ∧ of.cls = .type "function" := by
    have ht' : ((Kn w.params).lookup f).map (·.cls) = some (.type "function") := ht
    cases z : (Kn w.params).lookup f with
    | none => rw [z] at ht'; cases ht'
    | some of => rw [z] at ht'; exact ⟨of, X _ _ z, Option.some.inj ht'⟩
  obtain ⟨hp,g,dr,t,os⟩ := s
  dsimp only at *
  unfold getAttr getAttrBy
  refine wpAny_bind (wpAny_mkText (wpAny_holding (wpAny_bind (T.at (wpAny_bind (L1.at ?_))))))
  show wpAny _ _ (getAttrByItsOwn (.ref x) (.str name t) (.ref 235) (.builtin "list.__getattribute__") true true) _ _ _
  unfold getAttrByItsOwn hookBefore callGetattribute boundAndCalled
  refine wpAny_bind (L2.at ?_)
  refine wpAny_bind (wpAny_attempt (wpAny_holding ?_))
  show wpAny _ _ (bindSpecial (.builtin "list.__getattribute__") (.ref x) >>= _) _ _ _
  refine wpAny_bind (wpAny_of_eq (PySem.F.slot_list_getattribute.bind _) ?_)
  show wpAny _ _ (call (.builtin "list.__getattribute__") [.ref x, .str name t]) _ _ _
  refine callOn (n := "__getattribute__") (owner := "list") (b := Builtin.«object.__getattribute__») LI (PySem.F.args_list_getattribute_2 _ _) ?_ (.inl (by decide +kernel)) (hb := am_entry_list_getattribute)
  unfold Builtin.«object.__getattribute__»
  repeat lk
  rw [hD]
  repeat lk
  unfold copiedNames at hcn
  rw [hcn]
  repeat (first | with_reducible refine wpAny_call ?_ | lk)
  refine codeAny_call_builtin F.ks_slot_function_get.plain F.ks_entry_function_get (F.ks_slot_function_get.check _ _ _ _ _ _ _ _ ⟨of, hof, hofc⟩ (F.ks_getArgs_function _ _ _) ?_)
  unfold Builtin.«function.__get__»
  repeat lk
  exact ⟨_, rfl, wpAny_pure h⟩
/-- q(*tuple) of a bound method -/
theorem starBound {n : Nat} {q : Addr} {self : Value} {pos p : Pos} {e : Expr} {Q : Value → Shared → Prop}
    (h : wpAny (model prog w) A (eval e env) (fun v s₁ => ∃ (t : Addr) (items : List Value) (k : Nat), v = .ref t ∧ s₁.heap.get? t = some { cls := .type "tuple", data := .seq items.toArray k } ∧ items.length ≤ 1000 ∧
      ∀ h', (∀ b o, s₁.heap.get? b = some o → h'.get? b = some o) → ((Kn w.params).In h' ∧ h'.get? q = some (methodObj (.ref n) self)) ∧ codeAny (model prog w) A (.call (.ref n) ⟨self :: items, []⟩) (wants Q E) { s₁ with heap := h' }) E s)
    (hfd : (Kn w.params).lookup n = some ⟨.type "function", none, .func (FD w.params n), #[]⟩ := by kernel_rfl) (he : backTo pos (starEach [.Starred e p] env) = [(true, eval e env >>= fun v => standAt pos >>= fun _ => pure v)] := by rfl) :
    wpAny (model prog w) A (callWith pos (.ref q) [] (backTo pos (starEach [.Starred e p] env)) []) Q E s := by
  rw [he]
  unfold callWith
  refine wpAny_bind (wpAny_holding ?_)
  have ev : wpAny (model prog w) A (evalArgs (.ref q) true [(true, eval e env >>= fun v => standAt pos >>= fun _ => pure v)] []) (fun a s₁ => ((Kn w.params).In s₁.heap ∧ s₁.heap.get? q = some (methodObj (.ref n) self)) ∧ codeAny (model prog w) A (.call (.ref n) ⟨self :: a.pos, a.kw⟩) (wants Q E) s₁) E s := by
    unfold evalArgs
    refine wpAny_bind (wpAny_bind (wpAny_mono h (fun v s₁ hv => wpAny_bind (wpAny_standAt (wpAny_pure (wpAny_bind (wpAny_pure ?_))))) fun _ _ z => z))
    obtain ⟨t, items, k, rfl, ht, hz, hq⟩ := hv
    have hT : s₁.TypeIs (.ref t) "tuple" := ⟨_, ht, rfl⟩
    dsimp only
    refine wpAny_holding ?_
    rw [if_pos (by rfl)]
    refine wpAny_bind (wpAny_pure ?_)
    unfold notIterableAtAll
    have hl := PySem.F.slot_tuple_iter.lookup
    refine wpAny_bind (wpAny_bind (wpAny_bind (wpAny_specialOf (name := Str.ofString "__iter__") hT hl ?_)))
    rw [if_pos (by rfl)]
    refine wpAny_pure ?_
    rw [if_neg Bool.false_ne_true]
    refine wpAny_holding (wpAny_collect_seq t (.inr rfl) ht rfl rfl (fun h' hk => ?_) (by simp only [sizeLine, List.size_toArray]; walk_at "om"))
    refine wpAny_pure ?_
    exact hq h' hk
  refine wpAny_mono ev (fun a s₁ h₁ => wpAny_bind (wpAny_standAt ?_)) fun _ _ z => z
  have L : Looks (model prog w) s₁.heap (keeperOf (.ref q)) .boundFrame := (Looks.ld (part := none) h₁.1.2).andThen ((Looks.ld (part := none) (h₁.1.1 _ _ hfd)).andThen .now)
  refine wpAny_bind (L.here ?_)
  show wpAny _ _ (operate _ (call (.ref q) a.pos a.kw) >>= fun r => holding [r] point >>= fun _ => pure r) _ _ _
  refine wpAny_bind (wpAny_operating (wpAny_call (ks_codeAny_call_bound h₁.1.2 (codeAny_mono h₁.2 fun r s' hr => ?_))))
  rcases r with e | (v | _ | _ | _) <;> first | exact hr | exact hr.elim | skip
  exact wpAny_bind (wpAny_holding (wpAny_point (wpAny_pure hr)))
end
end Mine
namespace Mine
section
variable {prog : Program} {w : World} {A : Around} {E : Value → Shared → Prop} {R : Result → Shared → Prop} {foot : List Addr} {g : Heap} {σ s : Shared} {L : Addr} {m : Str → Option Value} {x d ll fm : Addr} {z W : Int} {xs : Array Value} {ps : List (Str × Str)} {lines : List Str} {ex : List (Addr × Obj)} {env : Env}
theorem stF {M : Model} {P : Params} {y : Str} {v : Value} {Q : Unit → Shared → Prop} (F : FO P ex foot g σ s L m x d ll z xs ps lines)
    (h : ∀ s', FO P ex foot g σ s' L (fun u => if u = y then some v else m u) x d ll z xs ps lines → Q () s')
    (hL : env.locals = L := by rfl) (hk : env.scope.kind = .function := by kernel_rfl) (hl : env.kindOf y = some .local := by kernel_rfl) : wpAny M A (storeName env y v) Q E s :=
  wpAny_storeName_local hl (hL ▸ F.own.ns) (fun h' hn hs => h _ (F.same fun led O => O.locals (hL ▸ hn) (hL ▸ hs) (s.toks + 1))) (by rw [hk]; rfl)
theorem intF {M : Model} {P : Params} {i : Int} {k : Nat} {pos : Pos} {Q : Value → Shared → Prop} (F : FO P ex foot g σ s L m x d ll z xs ps lines) (h : ∀ t s', FO P ex foot g σ s' L m x d ll z xs ps lines → Q (.int i t) s') : wpAny M A (eval (.Constant (.int i) k pos) env) Q E s :=
  wpAny_Constant_int (h _ _ (F.same fun _ O => O.toks _))
theorem strF {M : Model} {P : Params} {y : Str} {k : Nat} {pos : Pos} {Q : Value → Shared → Prop} (F : FO P ex foot g σ s L m x d ll z xs ps lines) (h : ∀ t s', FO P ex foot g σ s' L m x d ll z xs ps lines → Q (.str y t) s') : wpAny M A (eval (.Constant (.str y) k pos) env) Q E s :=
  Constant_str (h _ _ (F.same fun _ O => O.toks _))
theorem tupF {M : Model} {P : Params} {vs : List Value} {Q : Value → Shared → Prop} (F : FO P ex foot g σ s L m x d ll z xs ps lines) (h : ∀ a s', FO P ex foot g σ s' L m x d ll z xs ps lines → s'.heap.get? a = some { cls := .type "tuple", data := .seq vs.toArray } → (∀ b o, s.heap.get? b = some o → s'.heap.get? b = some o) → Q (.ref a) s')
    (hsz : vs.length ≤ sizeLine := by first | exact Nat.le_of_ble_eq_true rfl | size_fits) : wpAny M A (newTuple vs) Q E s :=
  wpAny_newTuple (h _ _ (F.same fun _ O => O.more fun b o e => Heap.get?_push_of_some _ e) (Heap.get?_push_size _ rfl) fun b o e => Heap.get?_push_of_some _ e) hsz
theorem fm_get {name : Str} {v : Value} {Q : Value → Shared → Prop} (F : FO w.params ex foot g σ s L m x d ll z xs ps lines) (K : FmAt g fm ll x W)
    (hv : ∀ mm : Str → Option Value, (∃ tW t1 t3, mm "_maxlen" = some (.int W tW) ∧ mm "_continuation_ws" = some (.str " " t1) ∧ mm "_splitchars" = some (.str " " t3) ∧ mm "_lines" = some (.ref ll) ∧ mm "_current_line" = some (.ref x)) → mm name = some v)
    (hf : findIn (Kn w.params) (.ref 151) name = some none) (hh : handedIn v = true) (h : ∀ s', FO w.params ex foot g σ s' L m x d ll z xs ps lines → Q v s') : wpAny (model prog w) A (getAttr (.ref fm) name true) Q E s := by
  obtain ⟨fd, mm, tW, t1, t3, h1, h2, e1, e2, e3, e4, e5, -⟩ := id K
  exact fmt_get F.X (F.own.keep _ _ h1) (h2.at' fun o e => F.own.keep _ _ e) (hv mm ⟨tW, t1, t3, e1, e2, e3, e4, e5⟩) hf hh (h _ (F.same fun _ O => O.toks _))
theorem fm_cur {Q : Value → Shared → Prop} (F : FO w.params ex foot g σ s L m x d ll z xs ps lines) (K : FmAt g fm ll x W) (h : ∀ s', FO w.params ex foot g σ s' L m x d ll z xs ps lines → Q (.ref x) s') :
    wpAny (model prog w) A (getAttr (.ref fm) "_current_line" true) Q E s := fm_get F K (fun mm h => by obtain ⟨_, _, _, _, _, _, _, e⟩ := h; exact e) (by kernel_rfl) rfl h
theorem fm_lines {Q : Value → Shared → Prop} (F : FO w.params ex foot g σ s L m x d ll z xs ps lines) (K : FmAt g fm ll x W) (h : ∀ s', FO w.params ex foot g σ s' L m x d ll z xs ps lines → Q (.ref ll) s') :
    wpAny (model prog w) A (getAttr (.ref fm) "_lines" true) Q E s := fm_get F K (fun mm h => by obtain ⟨_, _, _, _, _, _, e, _⟩ := h; exact e) (by kernel_rfl) rfl h
theorem fo_bound {name : Str} {f : Addr} {Q : Value → Shared → Prop} (F : FO w.params ex foot g σ s L m x d ll z xs ps lines)
   (hf : findIn (Kn w.params) (.ref 235) name = some (some (.ref f))) (hn : (name == "_initial_size") = false) (ht : typeIn (Kn w.params) (.ref f) = some (.type "function")) (hcn : copiedNames.contains name = false)
   (h : ∀ q s', FO w.params ex foot g σ s' L m x d ll z xs ps lines → s'.heap.get? q = some (methodObj (.ref f) (.ref x)) → (∀ b o, s.heap.get? b = some o → s'.heap.get? b = some o) → Q (.ref q) s') : wpAny (model prog w) A (getAttr (.ref x) name true) Q E s := by
  obtain ⟨k, od, lv, kl, t1, t2, tz, O, hns, -⟩ := id F
  refine acc_bound F.X (O.at 0 rfl) hns.ns ?_ hf ht hcn ?_
  · unfold mA
    rw [if_neg (by simpa using hn)]
  · exact h _ _ (F.same fun _ O => O.more (fun b o e => Heap.get?_push_of_some _ e) _) (Heap.get?_push_size _ rfl) fun b o e => Heap.get?_push_of_some _ e
theorem fo_linesM {pl : Sem Bool} {Q : Value × List Value → Shared → Prop} (F : FO w.params ex foot g σ s L m x d ll z xs ps lines) (h : Q (.builtin "list.append", [.ref ll]) s) : wpAny (model prog w) A (getMethod (.ref ll) "append" pl) Q E s := by
  obtain ⟨k, od, lv, kl, t1, t2, tz, O, -⟩ := id F
  exact getMethod_builtin ⟨_, O.at 2 rfl, rfl⟩ PySem.F.plainAttrs_list slot_list_append PySem.F.type_list_append (fun a e => by cases e; exact ⟨_, O.at 2 rfl, rfl⟩) h
theorem FmAt.up {P : Params} {h : Heap} (K : FmAt h fm ll x W) (S : FmtS P h x d ll z ps lines) (up : ∀ b o, b ∉ foot5 x d ll → h.get? b = some o → g.get? b = some o) : FmAt g fm ll x W := by
  obtain ⟨fd, mm, tW, t1, t3, h1, h2, e1, r4, r5, r6, r7, r8⟩ := id K
  exact ⟨fd, mm, tW, t1, t3, up _ _ (S.offO h1) h1, h2.at' fun o e => up _ _ (S.offD h2 e1 (by decide)) e, e1, r4, r5, r6, r7, r8⟩
/-- the chunks behind newline's push and pop -/
def nlParts (ps : List (Str × Str)) : List (Str × Str) := if ps.getLastD ("", "") = ((" " : Str), ("" : Str)) then ps.dropLast else ps.dropLast ++ [ps.getLastD ("", "")]
def nlLines (z : Int) (ps : List (Str × Str)) (lines : List Str) : List Str := if z + psum (nlParts ps) > 0 then lines ++ [accText (nlParts ps)] else lines
theorem newline_ok (pg : PG prog w.params) (X : (Kn w.params).In s.heap) (hroom : A.depth + 40 < recursionLimit) (hu : A.units + 80 < cLine) (hh : A.handled = none) (S : FmtS w.params s.heap x d ll z ps lines) (K : FmAt s.heap fm ll x W)
    (hB : Small ps) (hsz : ps.length ≤ 500) (hz : 0 ≤ z) (hz2 : z ≤ 1000) (hl : lines.length < 1000) (hno : (z == 0 && (z + psum (nlParts ps) == 0 || Txt.isspace (accText (nlParts ps)))) = false ∨ z + psum (nlParts ps) ≤ 0)
    (h : ∀ s', PostF x d ll s s' → FmtS w.params s'.heap x d ll 0 [] (nlLines z ps lines) → R (.ok (.ret .none)) s') :
    codeAny (model prog w) A (.call (.ref 113) ⟨[.ref fm], []⟩) R s := by
  refine enterF 113 [("self", .ref fm)] X (dl0 hroom) S ?_
  intro L s₁ g xs up F
  refine absQE fun Q E hR => ?_
  have K₁ : FmAt g fm ll x W := K.up S up
  refine mstN fun N hN => ?_
  repeat walk_at "st"
  refine ldO F.own (by rfl) ?_
  refine fm_cur F K₁ fun s₂ F₂ => ?_
  refine fo_method F₂ (f := .ref 195) (T := "function") (by kernel_rfl) (by decide) (by kernel_rfl) (.inl rfl) ?_
  dsimp only
  refine callK0 F₂.X ?_
  refine fo_pop pg F₂ (by show A.depth + 1 + 2 < _; exact dl2 hroom (by decide)) (by walk_at "om") fun g₃ s₃ v xs₃ u₃ F₃ hv => ?_
  refine stF F₃ fun s₄ F₄ => ?_
  repeat walk_at "st"
  refine wpAny_isTrue_Compare1 ?_
  refine ldO F₄.own (by rfl) ?_
  repeat walk_at "st"
  refine strF F₄ fun ta s₅ F₅ => ?_
  repeat walk_at "st"
  refine strF F₅ fun tb s₆ F₆ => ?_
  repeat walk_at "st"
  refine tupF F₆ fun u s₇ F₇ hu₇ k₇ => ?_
  obtain ⟨t, tf, tp, rfl, ht⟩ := hv
  refine ne_tuples (F₇.own.keep _ _ ht) hu₇ (by show A.units + 3 < _; exact dl hu (by decide)) ?_
  refine wpAny_pure ?_
  have hn1 : ps.dropLast.length ≤ ps.length := by simp
  have hBd : Small ps.dropLast := fun p hp => hB p (List.dropLast_subset ps hp)
  have rest : ∀ g₈ s₈ xs₈ (m₈ : Str → Option Value), m₈ "self" = some (.ref fm) → FmAt g₈ fm ll x W → FO w.params [] (foot5 x d ll) g₈ s s₈ L m₈ x d ll z xs₈ (nlParts ps) lines → wpAny (model prog w) (A.deeper (EV w.params 113 L)) (execs (BD w.params 113).tail.tail (EV w.params 113 L))
        Q E s₈ := by
    intro g₈ s₈ xs₈ m₈ hself K₈ F₈
    have hBn : Small (nlParts ps) := by
      intro p hp
      unfold nlParts at hp
      split at hp
      · exact hBd p hp
      · rcases List.mem_append.mp hp with hp | hp
        · exact hBd p hp
        · have : p = ps.getLastD ("", "") := by simpa using hp
          subst this
          cases hps : ps with
          | nil => exact ⟨by decide, by decide⟩
          | cons q r =>
            have hm : ps.getLastD ("", "") ∈ ps := by
              rw [hps, List.getLastD_cons, List.getLastD_eq_getLast?]
              cases hr : r.getLast? with
              | none => simp
              | some u => simp; exact .inr (List.mem_of_getLast? hr)
            rw [← hps]; exact hB _ hm
    have hln : (nlParts ps).length ≤ 600 := by
      unfold nlParts
      split
      · walk_at "om"
      · simp only [List.length_append, List.length_singleton]; walk_at "om"
    refine mstN fun N hN => ?_
    repeat walk_at "st"
    refine wpAny_isTrue_Compare1 ?_
    repeat walk_at "st"
    refine ldB (v := .builtin "len") F₈.own ?_
    refine callWith_method1 ?_
    repeat walk_at "st"
    refine ldO F₈.own hself ?_
    refine fm_cur F₈ K₈ fun s₉ F₉ => ?_
    repeat walk_at "st"
    refine fo_len F₉ (by show A.depth + 1 + 10 < _; exact dl2 hroom (by decide)) hh hBn (by walk_at "om") hz hz2 fun g₁₀ s₁₀ t₁₀ u₁₀ F₁₀ => ?_
    refine intF F₁₀ fun t₁₁ s₁₁ F₁₁ => ?_
    refine PySem.P.gt_int ?_
    refine wpAny_pure ?_
    have last : ∀ g' s' xs' lines', FmAt g' fm ll x W → FO w.params [] (foot5 x d ll) g' s s' L m₈ x d ll z xs' (nlParts ps) lines' → lines' = nlLines z ps lines → wpAny (model prog w) (A.deeper (EV w.params 113 L)) (execs (BD w.params 113).tail.tail.tail (EV w.params 113 L))
        Q E s' := by
      intro g' s' xs' lines' K' F' hl'
      subst hl'
      refine mstN fun N hN => ?_
      repeat walk_at "st"
      refine ldO F'.own hself ?_
      refine fm_cur F' K' fun s₁₂ F₁₂ => ?_
      refine fo_method F₁₂ (f := .ref 217) (T := "function") (by kernel_rfl) (by decide) (by kernel_rfl) (.inl rfl) ?_
      dsimp only
      refine callK0 F₁₂.X ?_
      refine fo_reset0 F₁₂ (by show A.depth + 1 < _; exact dl hroom (by decide)) (by walk_at "om") fun g₁₃ s₁₃ u₁₃ F₁₃ => ?_
      walk_at "nx"
      exact hR _ _ (h s₁₃ F₁₃.postF F₁₃.S)
    by_cases hpos : z + psum (nlParts ps) > 0
    · refine ifT (by simpa using hpos) ?_
      repeat walk_at "st"
      refine isTrue_and ?_
      refine isTrue_plain ?_
      repeat walk_at "st"
      refine ldO F₁₁.own hself ?_
      refine fm_cur F₁₁ (K₈.keeps fun b o e _ => u₁₀ b o e) fun s₁₂ F₁₂ => ?_
      refine fo_method F₁₂ (f := .ref 224) (T := "function") (by kernel_rfl) (by decide) (by kernel_rfl) (.inl rfl) ?_
      dsimp only
      refine callK0 F₁₂.X ?_
      refine fo_only F₁₂ (by show A.depth + 1 + 20 < _; exact dl2 hroom (by decide)) (by show A.units + 3 + 40 < _; exact dl2 hu (by decide)) hh hBn (by walk_at "om") hz hz2 fun g₁₃ s₁₃ u₁₃ F₁₃ => ?_
      have hno' : (z == 0 && (z + psum (nlParts ps) == 0 || Txt.isspace (accText (nlParts ps)))) = false := hno.resolve_right (by walk_at "om")
      rw [hno']
      refine wpAny_pure ?_
      rw [if_neg Bool.false_ne_true]
      rw [if_neg Bool.false_ne_true]
      repeat walk_at "st"
      refine ldO F₁₃.own hself ?_
      refine fm_lines F₁₃ (K₈.keeps fun b o e _ => u₁₃ _ _ (u₁₀ b o e)) fun s₁₄ F₁₄ => ?_
      refine fo_linesM F₁₄ ?_
      dsimp only
      refine callWith_method1 ?_
      repeat walk_at "st"
      refine ldB (v := .type "str") F₁₄.own ?_
      refine PyProof.Rows.callWith_type1 ?_
      repeat walk_at "st"
      refine ldO F₁₄.own hself ?_
      refine fm_cur F₁₄ (K₈.keeps fun b o e _ => u₁₃ _ _ (u₁₀ b o e)) fun s₁₅ F₁₅ => ?_
      repeat walk_at "st"
      refine fo_str F₁₅ (by show A.depth + 1 + 10 < _; exact dl2 hroom (by decide)) (by show A.units + 3 + 40 < _; exact dl2 hu (by decide)) hh hBn (by walk_at "om") fun g₁₆ s₁₆ t₁₆ u₁₆ F₁₆ => ?_
      repeat walk_at "st"
      refine fo_lines F₁₆ hl fun s₁₇ F₁₇ => ?_
      walk_at "nx"
      refine last _ _ _ _ (K₈.keeps fun b o e _ => u₁₆ _ _ (u₁₃ _ _ (u₁₀ b o e))) F₁₇ ?_
      unfold nlLines
      rw [if_pos hpos]
    · refine ifF (by simpa using hpos) ?_
      walk_at "nx"
      refine last _ _ _ _ (K₈.keeps fun b o e _ => u₁₀ b o e) F₁₁ ?_
      unfold nlLines
      rw [if_neg hpos]
  by_cases hq : ps.getLastD ("", "") = ((" " : Str), ("" : Str))
  · have e : (!((ps.getLastD ("", "")).1 == (" " : Str) && (ps.getLastD ("", "")).2 == ("" : Str))) = false := by rw [hq]; rfl
    refine ifF e ?_
    walk_at "nx"
    have eP : nlParts ps = ps.dropLast := by unfold nlParts; rw [if_pos hq]
    rw [← eP] at F₇
    refine rest _ _ _ _ ?_ (K₁.keeps fun b o e _ => u₃ b o e) F₇
    rfl
  · have e : (!((ps.getLastD ("", "")).1 == (" " : Str) && (ps.getLastD ("", "")).2 == ("" : Str))) = true := by
      simp only [Bool.not_eq_true', Bool.and_eq_false_iff, beq_eq_false_iff_ne, ne_eq]
      by_cases h1 : (ps.getLastD ("", "")).1 = (" " : Str)
      · exact .inr fun h2 => hq (Prod.ext h1 h2)
      · exact .inl h1
    refine ifT e ?_
    walk_at "st"
    walk_at "st"
    refine MethodCallStar ?_
    repeat walk_at "st"
    refine ldO F₇.own (by rfl) ?_
    refine fm_cur F₇ (K₁.keeps fun b o e _ => u₃ b o e) fun s₈ F₈ => ?_
    refine fo_bound F₈ (f := 179) (by kernel_rfl) (by decide) (by kernel_rfl) (by decide +kernel) fun q s₉ F₉ hq₉ k₉ => ?_
    refine starBound (n := 179) (self := .ref x) ?_
    refine ldO F₉.own (by rfl) ?_
    refine ⟨t, [.str (ps.getLastD ("", "")).1 tf, .str (ps.getLastD ("", "")).2 tp], 0, rfl, F₉.own.keep _ _ ht, by simp, fun h' hk' => ?_⟩
    have F₁₀ := F₉.same (s' := { s₉ with heap := h' }) fun led O => O.heap hk'
    refine ⟨⟨F₁₀.X, hk' _ _ hq₉⟩, ?_⟩
    refine fo_push' F₁₀ (by show A.depth + 1 < _; exact dl hroom (by decide)) (by walk_at "om") fun g₁₀ s₁₀ xs₁₀ u₁₀ F₁₀ => ?_
    walk_at "nx"
    have eP : nlParts ps = ps.dropLast ++ [((ps.getLastD ("", "")).1, (ps.getLastD ("", "")).2)] := by unfold nlParts; rw [if_neg hq]
    rw [← eP] at F₁₀
    refine rest _ _ _ _ ?_ (K₁.keeps fun b o e _ => u₁₀ _ _ (u₃ b o e)) F₁₀
    rfl
end
end Mine
namespace Mine
section
variable {P : Params} {foot : List Addr} {g : Heap} {σ s s' : Shared} {L : Addr} {m m' : Str → Option Value} {x d ll : Addr} {z : Int} {xs : Array Value} {ps : List (Str × Str)} {lines : List Str} {ex ex' : List (Addr × Obj)}
theorem FO.addEx (F : FO P ex foot g σ s L m x d ll z xs ps lines) (o : Obj) (hf : o.isFreed = false := by rfl) (t : Nat := s.toks) :
    FO P ((s.heap.objs.size, o) :: ex) foot g σ { s with heap := s.heap.push o, toks := t } L m x d ll z xs ps lines := by
  obtain ⟨k, od, lv, kl, tb, tb2, tz, O, hn, hP, hS, h1, h2, hnt⟩ := id F
  have O' := O.push o hf t
  have PM : (led5 ((s.heap.objs.size, o) :: ex) x (accObj d xs k) d od ll (lstObj lv kl) (tabObj tb) (tabObj tb2)).Perm ((s.heap.objs.size, o) :: led5 ex x (accObj d xs k) d od ll (lstObj lv kl) (tabObj tb) (tabObj tb2)) := List.perm_middle (l₁ := [_, _, _, _, _])
  refine ⟨k, od, lv, kl, tb, tb2, tz, O'.sub (fun p hp => PM.mem_iff.mp hp) ((PM.map _).nodup_iff.mpr O'.nd), hn.at fun o e => Heap.get?_push_of_some _ e, hP, hS, h1, h2, ⟨fun p hp hc hm => ?_, hnt.old⟩⟩
  · rcases List.mem_cons.mp hp with rfl | hp
    · obtain ⟨j, hj, ej⟩ := List.mem_iff_getElem.mp hm
      have hj' : j < ps.length := by rw [← hP.len]; simpa using hj
      obtain ⟨b, tf, tp, e, ho⟩ := hP.at_ j (.ref s.heap.objs.size) ps[j] (by rw [← ej]; simp) (List.getElem?_eq_getElem hj')
      cases e
      have := O.keep _ _ ho
      rw [get?_size_none] at this; cases this
    · exact hnt.tup p hp hc hm
theorem FO.exAt (F : FO P ex foot g σ s L m x d ll z xs ps lines) {a : Addr} {o : Obj} (h : (a, o) ∈ ex) : s.heap.get? a = some o := by
  obtain ⟨k, od, lv, kl, tb, tb2, tz, O, -⟩ := id F
  exact (O.lg (a, o) (.tail _ (.tail _ (.tail _ (.tail _ (.tail _ h)))))).1
theorem FO.chEx (F : FO P ex foot g σ s L m x d ll z xs ps lines) (i : Nat) {a : Addr} {o o' : Obj} {h' : Heap} (hi : ex[i]? = some (a, o)) (hs : Heap.ExtBut a s.heap h') (ho : h'.get? a = some o') (hc : o'.cls = .type "tuple" → o.cls = .type "tuple") (t : Nat := s.toks) :
    FO P (ex.set i (a, o')) foot g σ { s with heap := h', toks := t } L m x d ll z xs ps lines := by
  obtain ⟨k, od, lv, kl, tb, tb2, tz, O, hn, hP, hS, h1, h2, hnt⟩ := id F
  have hm := List.mem_of_getElem? hi
  have hda : d ≠ a := by
    exact ndj (l₁ := [x, d, ll, 197, 204]) O.nd (.tail _ (.head _)) (List.mem_map_of_mem (f := (·.1)) hm)
  have O' := O.extBut (i + 5) (by simpa using hi) hs ho t
  refine ⟨k, od, lv, kl, tb, tb2, tz, O', hn.at fun o e => hs _ _ hda e, hP, hS, h1, h2, ⟨fun p hp hp2 => ?_, hnt.old⟩⟩
  rcases List.mem_or_eq_of_mem_set hp with hp | rfl
  · exact hnt.tup p hp hp2
  · exact hnt.tup (a, o) hm (hc hp2)
theorem FO.subEx (F : FO P ex foot g σ s L m x d ll z xs ps lines) (h : ex'.Sublist ex) : FO P ex' foot g σ s L m x d ll z xs ps lines := by
  obtain ⟨k, od, lv, kl, tb, tb2, tz, O, hn, hP, hS, h1, h2, hnt⟩ := id F
  have hs : (led5 ex' x (accObj d xs k) d od ll (lstObj lv kl) (tabObj tb) (tabObj tb2)).Sublist (led5 ex x (accObj d xs k) d od ll (lstObj lv kl) (tabObj tb) (tabObj tb2)) := (((((h.cons₂ _).cons₂ _).cons₂ _).cons₂ _).cons₂ _)
  exact ⟨k, od, lv, kl, tb, tb2, tz, O.sub (fun p hp => hs.subset hp) ((hs.map _).nodup O.nd), hn, hP, hS, h1, h2, ⟨fun p hp => hnt.tup p (h.subset hp), hnt.old⟩⟩
/-- the first of the extra objects is let go, however it changed -/
theorem FO.loseEx {a : Addr} {o : Obj} {h' : Heap} (F : FO P ((a, o) :: ex) foot g σ s L m x d ll z xs ps lines) (hs : Heap.ExtBut a s.heap h') (t : Nat := s.toks) :
    FO P ex foot g σ { s with heap := h', toks := t } L m x d ll z xs ps lines := by
  obtain ⟨k, od, lv, kl, tb, tb2, tz, O, hn, hP, hS, h1, h2, hnt⟩ := id F
  have SL : (led5 ex x (accObj d xs k) d od ll (lstObj lv kl) (tabObj tb) (tabObj tb2)).Sublist (led5 ((a, o) :: ex) x (accObj d xs k) d od ll (lstObj lv kl) (tabObj tb) (tabObj tb2)) := ((((((List.sublist_cons_self _ _).cons₂ _).cons₂ _).cons₂ _).cons₂ _).cons₂ _)
  have za := O.lg (a, o) (.tail _ (.tail _ (.tail _ (.tail _ (.tail _ (.head _))))))
  have keepB : ∀ b ob, b ≠ a → s.heap.get? b = some ob → h'.get? b = some ob := fun b ob hb e => hs b ob hb e
  refine ⟨k, od, lv, kl, tb, tb2, tz, ⟨O.ns.at' fun ob e => keepB _ _ (Ne.symm za.2.1) e, fun b ob e => keepB _ _ (fun q => ?_) (O.keep b ob e), O.kn, O.newL, fun p hp => ?_, ?_, O.bare, O.drawn, O.os, O.base⟩, hn.at fun ob e => keepB _ _ (nne O.nd 1 5) e, hP, hS, h1, h2, ⟨fun p hp => hnt.tup p (.tail _ hp), hnt.old⟩⟩
  · subst q; have := za.2.2; rw [e] at this; cases this
  · have hp' : p ∈ led5 ((a, o) :: ex) x (accObj d xs k) d od ll (lstObj lv kl) (tabObj tb) (tabObj tb2) := SL.subset hp
    have hne : p.1 ≠ a := by
      have PM : (led5 ((a, o) :: ex) x (accObj d xs k) d od ll (lstObj lv kl) (tabObj tb) (tabObj tb2)).Perm ((a, o) :: led5 ex x (accObj d xs k) d od ll (lstObj lv kl) (tabObj tb) (tabObj tb2)) := List.perm_middle (l₁ := [_, _, _, _, _])
      have nd := (PM.map (·.1)).nodup_iff.mp O.nd
      exact fun q => (List.nodup_cons.mp nd).1 (q ▸ List.mem_map_of_mem (f := (·.1)) hp)
    exact ⟨keepB _ _ hne (O.lg p hp').1, (O.lg p hp').2⟩
  · exact (SL.map _).nodup O.nd
end
section
variable {prog : Program} {w : World} {A : Around} {E : Value → Shared → Prop} {foot : List Addr} {g : Heap} {σ s : Shared} {L : Addr} {m : Str → Option Value} {x d ll fm : Addr} {z W : Int} {xs : Array Value} {ps : List (Str × Str)} {lines : List Str} {ex : List (Addr × Obj)}
theorem fo_newline {Q : Value → Shared → Prop} (pg : PG prog w.params) (F : FO w.params ex foot g σ s L m x d ll z xs ps lines) (K : FmAt g fm ll x W) (hroom : A.depth + 40 < recursionLimit) (hu : A.units + 80 < cLine) (hh : A.handled = none)
    (hB : Small ps) (hsz : ps.length ≤ 500) (hz : 0 ≤ z) (hz2 : z ≤ 1000) (hl : lines.length < 1000) (hno : (z == 0 && (z + psum (nlParts ps) == 0 || Txt.isspace (accText (nlParts ps)))) = false ∨ z + psum (nlParts ps) ≤ 0)
    (h : ∀ g' s' xs', Up g g' → FO w.params ex foot g' σ s' L m x d ll 0 xs' [] (nlLines z ps lines) → Q .none s') :
    wpAny (model prog w) A (call (.ref 113) [.ref fm]) Q E s := by
  refine wpAny_call (newline_ok pg F.X hroom hu hh F.S (K.keeps fun b o e _ => F.own.keep _ _ e) hB hsz hz hz2 hl hno fun s' p S => ?_)
  obtain ⟨g', xs', up, F'⟩ := F.re p S
  exact h g' s' xs' up F'
end
end Mine
namespace Mine
section
variable {prog : Program} {w : World} {A : Around} {R : Result → Shared → Prop} {s : Shared} {target : Expr} {it : Value} {body orelse : List Stmt} {env : Env}
/-- a loop of one turn at most -/
theorem forOnce (StB : Shared → Prop)
    (h1 : wpAny (model prog w) A (pyNext it) (fun r s₁ => ∃ v, r = some v ∧ wpAny (model prog w) A (assign target env v) (fun _ s₂ => wpAny (model prog w) A (execs body env) (fun f s₃ => match f with
          | .next | .cont => StB s₃
          | .brk => R (.ok .next) s₃
          | .ret v => R (.ok (.ret v)) s₃) (notedBy (model prog w) A env fun e s' => R (.error e) s') s₂) (notedBy (model prog w) A env fun e s' => R (.error e) s') s₁) (notedBy (model prog w) A env fun e s' => R (.error e) s') s)
    (h2 : ∀ s, StB s → wpAny (model prog w) A (pyNext it) (fun r s₁ => r = none ∧ wpAny (model prog w) A (execs orelse env) (fun f s₃ => R (.ok f) s₃) (notedBy (model prog w) A env fun e s' => R (.error e) s') s₁) (notedBy (model prog w) A env fun e s' => R (.error e) s') s)
    (ht : ∀ v, letOwnedTupleGo target it v = pure () := by intro _; rfl) : codeAny (model prog w) A (.forLoop target it body orelse env) R s := by
  refine codeAny_forLoop (fun n s' => (n = 1 ∧ s' = s) ∨ (n = 0 ∧ StB s')) (fun n s' hI => ?_) 1 (.inl ⟨rfl, rfl⟩) ht
  rcases hI with ⟨rfl, rfl⟩ | ⟨rfl, hB⟩
  · refine wpAny_mono h1 (fun r s₁ hr => ?_) fun _ _ z => z
    obtain ⟨v, rfl, hr⟩ := hr
    refine wpAny_mono hr (fun _ s₂ h₂ => wpAny_mono h₂ (fun f s₃ h₃ => ?_) fun _ _ z => z) fun _ _ z => z
    cases f with
    | next => exact ⟨0, by decide, .inr ⟨rfl, h₃⟩⟩
    | cont => exact ⟨0, by decide, .inr ⟨rfl, h₃⟩⟩
    | brk => exact h₃
    | ret v => exact h₃
  · refine wpAny_mono (h2 s' hB) (fun r s₁ hr => ?_) fun _ _ z => z
    obtain ⟨rfl, hr⟩ := hr
    exact hr
theorem forNone
    (h2 : wpAny (model prog w) A (pyNext it) (fun r s₁ => r = none ∧ wpAny (model prog w) A (execs orelse env) (fun f s₃ => R (.ok f) s₃) (notedBy (model prog w) A env fun e s' => R (.error e) s') s₁) (notedBy (model prog w) A env fun e s' => R (.error e) s') s)
    (ht : ∀ v, letOwnedTupleGo target it v = pure () := by intro _; rfl) : codeAny (model prog w) A (.forLoop target it body orelse env) R s := by
  refine codeAny_forLoop (fun n s' => n = 0 ∧ s' = s) (fun n s' hI => ?_) 0 ⟨rfl, rfl⟩ ht
  obtain ⟨rfl, rfl⟩ := hI
  refine wpAny_mono h2 (fun r s₁ hr => ?_) fun _ _ z => z
  obtain ⟨rfl, hr⟩ := hr
  exact hr
end
end Mine
namespace Mine
section
variable {prog : Program} {w : World} {A : Around} {E : Value → Shared → Prop} {s : Shared} {x d : Addr} {xs : Array Value} {n : Nat}
theorem acc_getIndex {i : Int} {ti : Tok} {v : Value} {Q : Value → Shared → Prop} (X : (Kn w.params).In s.heap) (hx : s.heap.get? x = some (accObj d xs n)) (h0 : 0 ≤ i) (hfit : i < 2 ^ 63) (hv : xs[i.toNat]? = some v) (h : Q v s) :
    wpAny (model prog w) A (getItem (.ref x) (.int i ti)) Q E s := by
  have hd : (accObj d xs n).data = .seq xs n := rfl
  unfold getItem
  refine wpAny_holding ?_
  refine wpAny_bind ((acc_seqKey X hx).here (wpAny_bind ?_))
  refine acc_slot (o := "") (nm := "") (B := Builtin.«list.__getitem__») (id := "list.__getitem__") X hx (by kernel_rfl) (slot_list_getitem.bind _) ?_
  refine callOn (n := "__getitem__") (owner := "list") (b := Builtin.«list.__getitem__») (acc_inst X hx) (args_list_getitem _ _) ?_ (.inr (by decide +kernel)) (by decide +kernel) (by decide +kernel) entry_list_getitem
  show wpAny _ _ (Builtin.List.listSubscript? (.int i ti) >>= _) _ _ s
  refine wpAny_bind (wpAny_listSubscript_int (fitsIndex_of h0 hfit) ?_)
  clear hfit
  obtain ⟨j, rfl⟩ := Int.eq_ofNat_of_zero_le h0
  have hv' : xs[j]? = some v := hv
  show wpAny _ _ ((seqItemAt x j >>= fun r => pure (r.map (j, ·))) >>= _) _ _ s
  refine wpAny_bind (wpAny_bind (wpAny_seqItemAt hx hd (wpAny_pure ?_)))
  rw [hv']
  exact wpAny_pure ⟨v, rfl, wpAny_pure h⟩
theorem subTail_any {value slice : Expr} {o i : Value} {Q : Value → Shared → Prop} (hg : wpAny (model prog w) A (getitemInPython o) (fun b s' => b = false ∧ s' = s) E s)
    (h : wpAny (model prog w) A (getItem o i) Q E s) (hs : subscripted slice false o i = operate [o, i] (getItem o i)) :
    wpAny (model prog w) A (subscriptTail value slice o i) Q E s := by
  unfold subscriptTail
  refine wpAny_bind (wpAny_mono hg (fun b s' hb => ?_) fun _ _ z => z)
  obtain ⟨rfl, rfl⟩ := hb
  rw [hs]
  exact wpAny_bind (wpAny_operating (wpAny_mono h (fun r s₃ h₃ => wpAny_bind (wpAny_letTemporaryGo (wpAny_pure h₃))) fun _ _ x => x))
theorem inPython_builtin {o : Value} {T id : String} (hT : s.TypeIs o T) (hl : typeLookup (.type T) "__getitem__" = pure (some (.builtin id))) : wpAny (model prog w) A (getitemInPython o) (fun b s' => b = false ∧ s' = s) E s := by
  unfold getitemInPython
  exact wpAny_bind (wpAny_specialOf hT hl (wpAny_pure ⟨rfl, rfl⟩))
theorem inPython_acc (X : (Kn w.params).In s.heap) (hx : s.heap.get? x = some (accObj d xs n)) : wpAny (model prog w) A (getitemInPython (.ref x)) (fun b s' => b = false ∧ s' = s) E s := by
  have L : Looks (model prog w) s.heap (specialOf (.ref x) "__getitem__") (some (.builtin "list.__getitem__")) := (acc_type hx).andThen (looks_findIn X (by kernel_rfl))
  unfold getitemInPython
  exact wpAny_bind (L.here (wpAny_pure ⟨rfl, rfl⟩))
theorem sub_tuple {value slice : Expr} {t : Addr} {items : Array Value} {kk : Nat} {k : Int} {u : Tok} {j : Nat} {v : Value} {Q : Value → Shared → Prop} (ht : s.heap.get? t = some { cls := .type "tuple", data := .seq items kk })
    (hlo : -(2 ^ 63) ≤ k) (hhi : k < 2 ^ 63) (hj : seqIndex? k items.size = some j) (hx : items[j]? = some v) (h : Q v s)
    (hs : subscripted slice false (.ref t) (.int k u) = operate [.ref t, .int k u] (getItem (.ref t) (.int k u)) := by with_unfolding_all rfl) :
    wpAny (model prog w) A (subscriptTail value slice (.ref t) (.int k u)) Q E s :=
  subTail_any (inPython_builtin ⟨_, ht, rfl⟩ slot_tuple_getitem.lookup) (getItem_tuple ⟨_, ht, rfl, _, rfl⟩ hlo hhi hj hx h) hs
theorem fo_item {foot : List Addr} {g : Heap} {σ : Shared} {L : Addr} {m : Str → Option Value} {ll : Addr} {z : Int} {ps : List (Str × Str)} {lines : List Str} {ex : List (Addr × Obj)} {value slice : Expr} {i : Nat} {u : Tok} {p : Str × Str} {Q : Value → Shared → Prop} (F : FO w.params ex foot g σ s L m x d ll z xs ps lines)
    (hi : ps[i]? = some p) (hs' : ps.length < 1000) (h : ∀ v, PartAt g v p → Q v s)
    (hs : subscripted slice false (.ref x) (.int i u) = operate [.ref x, .int i u] (getItem (.ref x) (.int i u)) := by with_unfolding_all rfl) :
    wpAny (model prog w) A (subscriptTail value slice (.ref x) (.int i u)) Q E s := by
  obtain ⟨k, od, lv, kl, t1, t2, tz, O, hns, hP, -⟩ := id F
  obtain ⟨hlt, -⟩ := List.getElem?_eq_some_iff.mp hi
  have hlt' : i < xs.size := by rw [hP.len]; exact hlt
  have hv : xs[i]? = some xs[i] := Array.getElem?_eq_getElem hlt'
  exact subTail_any (inPython_acc F.X (O.at 0 rfl)) (acc_getIndex F.X (O.at 0 rfl) (by walk_at "om") (by walk_at "om") (by simpa using hv) (h _ (hP.at_ i _ _ hv hi))) hs
/-- a, b = a pair -/
theorem assignPair {env : Env} {xa xb : Str} {pa pb pt : Pos} {kt : Nat} {t : Addr} {va vb : Value} {kk : Nat} {Q : Unit → Shared → Prop} (hh : A.handled = none) (ht : s.heap.get? t = some { cls := .type "tuple", data := .seq #[va, vb] kk })
    (h : ∀ h', (∀ b o, s.heap.get? b = some o → h'.get? b = some o) → wpAny (model prog w) A (storeName env xa va) (fun _ s₁ => wpAny (model prog w) A (storeName env xb vb) (fun _ s₂ => Q () s₂) E s₁) E { s with heap := h' }) :
    wpAny (model prog w) A (assign (.Tuple [.Name xa pa, .Name xb pb] kt pt) env (.ref t)) Q E s := by
  refine wpAny_assign_Tuple hh (t := t) (items := #[va, vb]) ⟨_, ht, rfl, _, rfl⟩ rfl rfl fun h' hx => ?_
  have hk := h h' fun b o e => hx b o (Nat.ne_of_lt (Heap.lt_size e)) e
  show wpAny _ _ (do holding [vb] (assign (.Name xa pa) env va); do holding [] (assign (.Name xb pb) env vb); pure ()) _ _ _
  refine wpAny_bind (wpAny_holding (wpAny_assign_Name (wpAny_mono hk (fun _ s₁ h₁ => ?_) fun _ _ z => z)))
  exact wpAny_bind (wpAny_holding (wpAny_assign_Name (wpAny_mono h₁ (fun _ s₂ h₂ => wpAny_pure h₂) fun _ _ z => z)))
end
end Mine
namespace Mine
section
variable {prog : Program} {w : World} {A : Around} {E : Value → Shared → Prop} {R : Result → Shared → Prop} {foot : List Addr} {g : Heap} {σ s : Shared} {L : Addr} {m : Str → Option Value} {x d ll fm : Addr} {z W : Int} {xs : Array Value} {ps : List (Str × Str)} {lines : List Str} {ex : List (Addr × Obj)}
theorem fm_max {Q : Value → Shared → Prop} (F : FO w.params ex foot g σ s L m x d ll z xs ps lines) (K : FmAt g fm ll x W) (h : ∀ s' t, FO w.params ex foot g σ s' L m x d ll z xs ps lines → Q (.int W t) s') :
    wpAny (model prog w) A (getAttr (.ref fm) "_maxlen" true) Q E s := by
  obtain ⟨fd, mm, tW, t1, t3, h1, h2, e1, e2, e3, e4, e5, -⟩ := id K
  exact fmt_get F.X (F.own.keep _ _ h1) (h2.at' fun o e => F.own.keep _ _ e) e1 (by kernel_rfl) rfl (h _ tW (F.same fun _ O => O.toks _))
theorem fm_split {Q : Value → Shared → Prop} (F : FO w.params ex foot g σ s L m x d ll z xs ps lines) (K : FmAt g fm ll x W) (h : ∀ s' t, FO w.params ex foot g σ s' L m x d ll z xs ps lines → Q (.str " " t) s') :
    wpAny (model prog w) A (getAttr (.ref fm) "_splitchars" true) Q E s := by
  obtain ⟨fd, mm, tW, t1, t3, h1, h2, e1, e2, e3, e4, e5, -⟩ := id K
  exact fmt_get F.X (F.own.keep _ _ h1) (h2.at' fun o e => F.own.keep _ _ e) e3 (by kernel_rfl) rfl (h _ t3 (F.same fun _ O => O.toks _))
theorem fm_method {name : Str} {f : Value} {pl : Sem Bool} {Q : Value × List Value → Shared → Prop} (F : FO w.params ex foot g σ s L m x d ll z xs ps lines) (K : FmAt g fm ll x W)
    (hn : (["newline", "_append_chunk", "_ascii_split", "feed", "_str"] : List Str).contains name = true) (hf : findIn (Kn w.params) (.ref 151) name = some (some f)) (ht : typeIn (Kn w.params) f = some (.type "function"))
    (h : Q (f, [.ref fm]) s) : wpAny (model prog w) A (getMethod (.ref fm) name pl) Q E s := by
  obtain ⟨fd, mm, tW, t1, t3, h1, h2, e1, e2, e3, e4, e5, e6⟩ := id K
  exact fmt_method F.X (F.own.keep _ _ h1) (h2.at' fun o e => F.own.keep _ _ e) (e6 _ hn) hf ht rfl h
theorem down_size (n : Nat) : Builtin.Range.rangeSize (n : Nat) 0 (-1) = (n : Nat) := by
  unfold Builtin.Range.rangeSize
  rw [if_neg (by decide)]
  split
  · show ((n : Int) - 0 - 1) / 1 + 1 = _
    rw [Int.ediv_one]; walk_at "om"
  · walk_at "om"
theorem down_small {n : Nat} (h : n < 1000000) : Builtin.Range.small (n : Nat) 0 (-1) = true := by
  unfold Builtin.Range.small
  rw [down_size]
  unfold Builtin.Range.rangeFitsLong
  rw [if_neg (by decide)]
  simp only [Bool.and_eq_true, Bool.or_eq_true, decide_eq_true_eq]
  refine ⟨⟨⟨⟨⟨by walk_at "om", by walk_at "om"⟩, by decide, by decide⟩, by decide, by decide⟩, by walk_at "om", by walk_at "om"⟩, .inr ⟨by decide, by decide⟩⟩
/-- the state behind _append_chunk -/
def apState (W z : Int) (ps : List (Str × Str)) (lines : List Str) (f v : Str) : Int × List (Str × Str) × List Str :=
  if z + psum (ps ++ [(f, v)]) > W then
    if ps = [] then (if z > 0 then (0, [(if f = "" then " " else f, v)], nlLines z [] lines) else (z, [(f, v)], lines))
    else (0, [(f, v)], lines ++ [accText ps])
  else (z, ps ++ [(f, v)], lines)
set_option maxHeartbeats 4000000 in
theorem append_ok {f v : Str} {tf tv : Tok} (pg : PG prog w.params) (X : (Kn w.params).In s.heap) (hroom : A.depth + 60 < recursionLimit) (hu : A.units + 160 < cLine) (hh : A.handled = none) (S : FmtS w.params s.heap x d ll z ps lines) (K : FmAt s.heap fm ll x W)
    (hB : Small (ps ++ [(f, v)])) (hsz : ps.length ≤ 400) (hz : 0 ≤ z) (hz2 : z ≤ 1000) (hl : lines.length < 900) (hf : ps ≠ [] → f = " ")
    (h : ∀ s', PostF x d ll s s' → FmtS w.params s'.heap x d ll (apState W z ps lines f v).1 (apState W z ps lines f v).2.1 (apState W z ps lines f v).2.2 → R (.ok (.ret .none)) s') :
    codeAny (model prog w) A (.call (.ref 148) ⟨[.ref fm, .str f tf, .str v tv], []⟩) R s := by
  refine enterF 148 [("self", .ref fm), ("fws", .str f tf), ("string", .str v tv)] X (dl0 hroom) S ?_
  intro L s₁ g xs up F
  refine absQE fun Q E hR => ?_
  have K₁ : FmAt g fm ll x W := K.up S up
  refine mstN fun N hN => ?_
  repeat walk_at "st"
  refine ldO F.own (by rfl) ?_
  refine fm_cur F K₁ fun s₂ F₂ => ?_
  refine fo_method F₂ (f := .ref 179) (T := "function") (by kernel_rfl) (by decide) (by kernel_rfl) (.inl rfl) ?_
  dsimp only
  refine callWith_K (h₀ := g) F.own.kn (by kernel_rfl) ?_
  repeat walk_at "st"
  refine ldO F₂.own (by rfl) ?_
  repeat walk_at "st"
  refine ldO F₂.own (by rfl) ?_
  repeat walk_at "st"
  refine ⟨F₂.X, ?_⟩
  refine fo_push F₂ (by show A.depth + 1 < _; exact dl hroom (by decide)) (by walk_at "om") fun g₃ s₃ xs₃ u₃ F₃ => ?_
  walk_at "st"
  refine mstN fun N hN => ?_
  repeat walk_at "st"
  refine wpAny_isTrue_Compare1 ?_
  repeat walk_at "st"
  refine ldB (v := .builtin "len") F₃.own ?_
  refine callWith_method1 ?_
  repeat walk_at "st"
  refine ldO F₃.own (by rfl) ?_
  refine fm_cur F₃ (K₁.keeps fun b o e _ => u₃ b o e) fun s₄ F₄ => ?_
  repeat walk_at "st"
  have hln : (ps ++ [(f, v)]).length ≤ 401 := by simp only [List.length_append, List.length_singleton]; walk_at "om"
  refine fo_len F₄ (by show A.depth + 1 + 10 < _; exact dl2 hroom (by decide)) hh hB (by walk_at "om") hz hz2 fun g₅ s₅ t₅ u₅ F₅ => ?_
  repeat walk_at "st"
  refine ldO F₅.own (by rfl) ?_
  have K₅ : FmAt g₅ fm ll x W := K₁.keeps fun b o e _ => u₅ _ _ (u₃ b o e)
  refine fm_max F₅ K₅ fun s₆ t₆ F₆ => ?_
  refine PySem.P.gt_int ?_
  refine wpAny_pure ?_
  by_cases hW : z + psum (ps ++ [(f, v)]) > W
  · refine ifT (by simpa using hW) ?_
    refine mstN fun N hN => ?_
    refine wpAny_For ?_
    repeat walk_at "st"
    refine ldO F₆.own (by rfl) ?_
    refine fm_split F₆ K₅ fun s₇ t₇ F₇ => ?_
    refine wpAny_pyIter_ascii (by decide +kernel) ?_
    have F₈ := F₇.addEx { cls := .type "str_ascii_iterator", data := .fields #[.str " " t₇, .int 0 0] }
    generalize s₇.heap.objs.size = I at F₈ ⊢
    generalize hs₈ : ({ s₇ with heap := s₇.heap.push { cls := .type "str_ascii_iterator", data := .fields #[.str " " t₇, .int 0 0] } } : Shared) = s₈ at F₈ ⊢
    have hit : s₈.heap.IsStrIter I "str_ascii_iterator" " " t₇ 0 := ⟨_, F₈.exAt (.head _), rfl, rfl⟩
    refine forOnce (fun s' => ps = [] ∧ ∃ oI g' xs' m', FO w.params [(I, oI)] (foot5 x d ll) g' s s' L m' x d ll z xs' (ps ++ [(f, v)]) lines ∧ FmAt g' fm ll x W ∧ m' "self" = some (.ref fm) ∧ s'.heap.IsStrIter I "str_ascii_iterator" " " t₇ 1) ?_ ?_
    · refine wpAny_pyNext_ascii_item hit (c := 32) (by rfl) fun h' hit' hs' => ⟨_, rfl, ?_⟩
      obtain ⟨oI, hoI, hcI, hdI⟩ := id hit'
      have F₉ := F₈.chEx 0 rfl hs'.extBut hoI (by rw [hcI]; simp) (s₈.toks + 1)
      refine wpAny_assign_Name ?_
      refine stF F₉ fun s₁₀ F₁₀ => ?_
      refine mstN fun N hN => ?_
      refine wpAny_For ?_
      repeat walk_at "st"
      refine ldB (v := .type "range") F₁₀.own ?_
      refine PyProof.Rows.callWith_type1 ?_
      repeat walk_at "st"
      refine ldO F₁₀.own (by rfl) ?_
      refine fm_cur F₁₀ K₅ fun s₁₁ F₁₁ => ?_
      refine fo_method F₁₁ (f := .ref 232) (T := "function") (by kernel_rfl) (by decide) (by kernel_rfl) (.inl rfl) ?_
      dsimp only
      refine callK0 F₁₁.X ?_
      refine fo_count pg F₁₁ (by show A.depth + 1 < _; exact dl hroom (by decide)) fun s₁₂ t₁₂ F₁₂ => ?_
      refine intF F₁₂ fun t₁₃ s₁₃ F₁₃ => ?_
      refine PySem.P.sub_int ?_
      have F₁₄ := F₁₃.same fun _ O => O.toks (s₁₃.toks + 1)
      generalize hs₁₄ : ({ s₁₃ with toks := s₁₃.toks + 1 } : Shared) = s₁₄ at F₁₄ ⊢
      have hn : (((ps ++ [(f, v)]).length : Int) - 1) = (ps.length : Int) := by simp only [List.length_append, List.length_singleton]; walk_at "om"
      rw [hn]
      repeat walk_at "st"
      refine intF F₁₄ fun t₁₅ s₁₅ F₁₅ => ?_
      repeat walk_at "st"
      refine UnaryOp_ ?_
      refine intF F₁₅ fun t₁₆ s₁₆ F₁₆ => ?_
      refine PySem.P.neg_int ?_
      have F₁₇ := F₁₆.same fun _ O => O.toks (s₁₆.toks + 1)
      generalize hs₁₇ : ({ s₁₆ with toks := s₁₆.toks + 1 } : Shared) = s₁₇ at F₁₇ ⊢
      repeat walk_at "st"
      refine call_range_3 (c := -1) (by decide) ?_ (.inl (PyProof.noPylong_small (by decide)))
      have F₁₈ := F₁₇.same (s' := { s₁₇ with heap := s₁₇.heap.push { cls := .type "range", data := .fields #[.int ps.length s₁₃.toks, .int 0 t₁₅, .int (-1) s₁₆.toks] } }) fun _ O => O.more fun b o e => Heap.get?_push_of_some _ e
      have hr : IsRange (s₁₇.heap.push { cls := .type "range", data := .fields #[.int ps.length s₁₃.toks, .int 0 t₁₅, .int (-1) s₁₆.toks] }) s₁₇.heap.objs.size ps.length 0 (-1) s₁₃.toks t₁₅ s₁₆.toks := Heap.get?_push_size _ rfl
      generalize s₁₇.heap.objs.size = rr at hr ⊢
      generalize hs₁₈ : ({ s₁₇ with heap := s₁₇.heap.push { cls := .type "range", data := .fields #[.int ps.length s₁₃.toks, .int 0 t₁₅, .int (-1) s₁₆.toks] } } : Shared) = s₁₈ at F₁₈ ⊢
      have hr : IsRange s₁₈.heap rr ps.length 0 (-1) s₁₃.toks t₁₅ s₁₆.toks := by rw [← hs₁₈]; exact hr
      have hsz' := down_size ps.length
      have hsm := down_small (n := ps.length) (by walk_at "om")
      refine wpAny_pyIter_range hr hsm ?_
      rw [hsz']
      have F₁₉ := F₁₈.addEx { cls := .type "range_iterator", data := .fields #[rawInt ps.length, rawInt ps.length, rawInt (-1)] }
      generalize s₁₈.heap.objs.size = J at F₁₉ ⊢
      generalize hs₁₉ : ({ s₁₈ with heap := s₁₈.heap.push { cls := .type "range_iterator", data := .fields #[rawInt ps.length, rawInt ps.length, rawInt (-1)] } } : Shared) = s₁₉ at F₁₉ ⊢
      have hJ : IsRangeIter s₁₉.heap J ps.length ps.length (-1) := F₁₉.exAt (.head _)
      by_cases hps : ps = []
      · refine forNone ?_
        refine wpAny_pyNext_range_end hh hJ (by rw [hps]; simp) fun h' hx' => ⟨rfl, ?_⟩
        have F₂₀ := F₁₉.loseEx hx'
        refine mstN fun N hN => ?_
        refine wpAny_Continue ?_
        have hoI' := F₂₀.exAt (a := I) (.head _)
        exact ⟨hps, oI, g₅, _, _, F₂₀, K₅, rfl, ⟨oI, hoI', hcI, hdI⟩⟩
      · have hfs : f = " " := hf hps
        have hpos : (0 : Int) < ps.length := by
          have : ps.length ≠ 0 := fun q => hps (List.length_eq_zero_iff.mp q)
          walk_at "om"
        refine forOnce (fun _ => False) ?_ (fun _ hF => hF.elim)
        refine wpAny_pyNext_range_item hJ hpos fun h' hJ' hs' => ⟨_, rfl, ?_⟩
        have F₂₀ := F₁₉.chEx 0 rfl hs'.extBut hJ' (by simp) (s₁₉.toks + 1)
        refine wpAny_assign_Name ?_
        refine stF F₂₀ fun s₂₁ F₂₁ => ?_
        refine mstN fun N hN => ?_
        repeat walk_at "st"
        refine isTrue_plain ?_
        repeat walk_at "st"
        refine ldO F₂₁.own (by rfl) ?_
        refine GM.isspace ?_
        dsimp only
        refine callWith_method0 ?_
        refine SC.isspace ?_
        refine wpAny_pure ?_
        refine ifT (by decide +kernel) ?_
        repeat walk_at "st"
        refine ldO F₂₁.own (by rfl) ?_
        refine fm_cur F₂₁ K₅ fun s₂₂ F₂₂ => ?_
        refine ldO F₂₂.own (by rfl) ?_
        have hp : (ps ++ [(f, v)])[ps.length]? = some (f, v) := by rw [List.getElem?_append_right (Nat.le_refl _)]; simp
        refine fo_item F₂₂ hp (by walk_at "om") fun u hu => ?_
        obtain ⟨tt, t1, t2, rfl, htt⟩ := hu
        refine intF F₂₂ fun t₂₃ s₂₃ F₂₃ => ?_
        refine sub_tuple (F₂₃.own.keep _ _ htt) (k := 0) (by decide) (by decide) (j := 0) (by rfl) (v := .str f t1) (by rfl) ?_
        refine stF F₂₃ fun s₂₄ F₂₄ => ?_
        repeat walk_at "st"
        refine isTrue_and ?_
        refine isTrue_plain ?_
        refine ldO F₂₄.own (by rfl) ?_
        refine PySem.P.truthy_str (by rw [hfs]; decide +kernel) ?_
        have F₂₅ := F₂₄.same fun _ O => O.toks (s₂₄.toks + 1 + 1)
        generalize hs₂₅ : ({ s₂₄ with toks := s₂₄.toks + 1 + 1 } : Shared) = s₂₅ at F₂₅ ⊢
        refine ifT (by rw [hfs]; decide +kernel) ?_
        refine isTrue_and ?_
        refine wpAny_isTrue_Compare1 ?_
        repeat walk_at "st"
        refine ldO F₂₅.own (by rfl) ?_
        refine intF F₂₅ fun t₂₆ s₂₆ F₂₆ => ?_
        refine subTail_any (inPython_builtin (typeIs_str _ _ _) PySem.F.slot_str_getitem.lookup) (PySem.P.getItem_str (c := 32) (by decide +kernel) (by rw [hfs]; decide +kernel) ?_) (by with_unfolding_all rfl)
        have F₂₇ := F₂₆.same fun _ O => O.toks (s₂₆.toks + 1)
        generalize hs₂₇ : ({ s₂₆ with toks := s₂₆.toks + 1 } : Shared) = s₂₇ at F₂₇ ⊢
        refine ldO F₂₇.own (by rfl) ?_
        refine PyProof.Rows.eq_str ?_
        refine wpAny_pure ?_
        refine ifT (by decide +kernel) ?_
        refine isTrue_and_nil ?_
        refine ifT rfl ?_
        refine mstN fun N hN => ?_
        refine wpAny_Break ?_
        repeat walk_at "st"
        refine wpAny_Break ?_
        repeat walk_at "st"
        refine ldO F₂₇.own (by rfl) ?_
        refine fm_cur F₂₇ K₅ fun s₂₈ F₂₈ => ?_
        refine fo_method F₂₈ (f := .ref 187) (T := "function") (by kernel_rfl) (by decide) (by kernel_rfl) (.inl rfl) ?_
        dsimp only
        refine callWith_K (h₀ := g₅) F₂₈.own.kn (by kernel_rfl) ?_
        repeat walk_at "st"
        refine ldO F₂₈.own (by rfl) ?_
        repeat walk_at "st"
        refine ⟨F₂₈.X, ?_⟩
        refine fo_pop_from (i := ps.length) F₂₈ (by show A.depth + 1 < _; exact dl hroom (by decide)) (by walk_at "om") (by simp) fun g₂₉ s₂₉ xs₂₉ y ys ny u₂₉ F₂₉ hy hys hex => ?_
        rw [List.take_left' rfl] at F₂₉
        rw [List.drop_left' rfl] at hys
        refine stF F₂₉ fun s₃₀ F₃₀ => ?_
        have K₂₉ : FmAt g₂₉ fm ll x W := K₅.keeps fun b o e _ => u₂₉ b o e
        walk_at "st"
        refine mstN fun N hN => ?_
        repeat walk_at "st"
        refine ldO F₃₀.own (by rfl) ?_
        refine fm_lines F₃₀ K₂₉ fun s₃₁ F₃₁ => ?_
        refine fo_linesM F₃₁ ?_
        dsimp only
        refine callWith_method1 ?_
        repeat walk_at "st"
        refine ldB (v := .type "str") F₃₁.own ?_
        refine PyProof.Rows.callWith_type1 ?_
        repeat walk_at "st"
        refine ldO F₃₁.own (by rfl) ?_
        refine fm_cur F₃₁ K₂₉ fun s₃₂ F₃₂ => ?_
        repeat walk_at "st"
        have hBp : Small ps := fun q hq => hB q (List.mem_append_left _ hq)
        refine fo_str F₃₂ (by show A.depth + 1 + 10 < _; exact dl2 hroom (by decide)) (by show A.units + 3 + 40 < _; exact dl2 hu (by decide)) hh hBp (by walk_at "om") fun g₃₃ s₃₃ t₃₃ u₃₃ F₃₃ => ?_
        repeat walk_at "st"
        refine fo_lines F₃₃ (by walk_at "om") fun s₃₄ F₃₄ => ?_
        walk_at "st"
        refine mstN fun N hN => ?_
        repeat walk_at "st"
        refine ldO F₃₄.own (by rfl) ?_
        refine fm_cur F₃₄ (K₂₉.keeps fun b o e _ => u₃₃ b o e) fun s₃₅ F₃₅ => ?_
        refine fo_method F₃₅ (f := .ref 217) (T := "function") (by kernel_rfl) (by decide) (by kernel_rfl) (.inl rfl) ?_
        dsimp only
        refine callWith_K (h₀ := g₃₃) F₃₅.own.kn (by kernel_rfl) ?_
        repeat walk_at "st"
        refine ldO F₃₅.own (by rfl) ?_
        repeat walk_at "st"
        refine ⟨F₃₅.X, ?_⟩
        refine fo_reset1 F₃₅ (by show A.depth + 1 < _; exact dl hroom (by decide)) (by walk_at "om") (u₃₃ _ _ hy) (hys.keeps fun b o e _ => u₃₃ b o e) (by simp) hex fun g₃₆ s₃₆ u₃₆ F₃₆ => ?_
        walk_at "nx"
        have e : apState W z ps lines f v = (0, [(f, v)], lines ++ [accText ps]) := by unfold apState; rw [if_pos hW, if_neg hps]
        rw [e] at h
        exact hR _ _ (h s₃₆ F₃₆.postF F₃₆.S)
    · rintro s' ⟨hps, oI, g', xs', m', F', K', hself, hit⟩
      refine wpAny_pyNext_ascii_end hh hit (by rfl) fun h' hx' => ⟨rfl, ?_⟩
      have F₉ := F'.loseEx hx'
      refine mstN fun N hN => ?_
      refine Assign_Tuple ?_
      repeat walk_at "st"
      refine ldO F₉.own hself ?_
      refine fm_cur F₉ K' fun s₁₀ F₁₀ => ?_
      refine fo_method F₁₀ (f := .ref 195) (T := "function") (by kernel_rfl) (by decide) (by kernel_rfl) (.inl rfl) ?_
      dsimp only
      refine callK0 F₁₀.X ?_
      refine fo_pop pg F₁₀ (by show A.depth + 1 + 2 < _; exact dl2 hroom (by decide)) (by rw [hps]; exact (by decide : 1 < 1000)) fun g₁₁ s₁₁ u xs₁₁ u₁₁ F₁₁ hu => ?_
      have hlast : (ps ++ [(f, v)]).getLastD ("", "") = (f, v) := List.getLastD_concat ..
      rw [hlast] at hu
      obtain ⟨tt, t1, t2, rfl, htt⟩ := hu
      have K₁₁ : FmAt g₁₁ fm ll x W := K'.keeps fun b o e _ => u₁₁ b o e
      refine assignPair hh (F₁₁.own.keep _ _ htt) fun h'' hk => ?_
      have F₁₂ := F₁₁.same (s' := { s₁₁ with heap := h'' }) fun _ O => O.more hk
      refine stF F₁₂ fun s₁₃ F₁₃ => ?_
      refine stF F₁₃ fun s₁₄ F₁₄ => ?_
      walk_at "st"
      refine mstN fun N hN => ?_
      repeat walk_at "st"
      refine wpAny_isTrue_Compare1 ?_
      refine Attribute_any_ ?_
      repeat walk_at "st"
      refine ldO F₁₄.own hself ?_
      refine fm_cur F₁₄ K₁₁ fun s₁₅ F₁₅ => ?_
      refine fo_size F₁₅ fun s₁₆ t₁₆ F₁₆ => ?_
      refine intF F₁₆ fun t₁₇ s₁₇ F₁₇ => ?_
      refine PySem.P.gt_int ?_
      refine wpAny_pure ?_
      have hdrop : (ps ++ [(f, v)]).dropLast = [] := by rw [List.dropLast_concat, hps]
      rw [hdrop] at F₁₇
      have hBf : f.length ≤ 1000 ∧ v.length ≤ 1000 := hB (f, v) (by simp)
      have last : ∀ g₁ s₁ xs₁ (m₁ : Str → Option Value) f' tf' tv' z' lines', m₁ "self" = some (.ref fm) → m₁ "fws" = some (.str f' tf') → m₁ "part" = some (.str v tv') → FmAt g₁ fm ll x W → FO w.params [] (foot5 x d ll) g₁ s s₁ L m₁ x d ll z' xs₁ [] lines' →
          apState W z ps lines f v = (z', [(f', v)], lines') → ∀ {Q : Flow → Shared → Prop} {E : Value → Shared → Prop}, (∀ s', R (.ok (.ret .none)) s' → Q (.ret .none) s') →
          wpAny (model prog w) (A.deeper (EV w.params 148 L)) (execs (match (BD w.params 148).tail with | [.If _ (.For _ _ _ (_ :: _ :: r) _ :: _) _ _] => r | _ => []) (EV w.params 148 L)) Q E s₁ := by
        intro g₁ s₁ xs₁ m₁ f' tf' tv' z' lines' hs1 hs2 hs3 K₁ F₁ he Q E hQ
        refine mstN fun N hN => ?_
        repeat walk_at "st"
        refine ldO F₁.own hs1 ?_
        refine fm_cur F₁ K₁ fun s₂ F₂ => ?_
        refine fo_method F₂ (f := .ref 179) (T := "function") (by kernel_rfl) (by decide) (by kernel_rfl) (.inl rfl) ?_
        dsimp only
        refine callWith_K (h₀ := g₁) F₂.own.kn (by kernel_rfl) ?_
        repeat walk_at "st"
        refine ldO F₂.own hs2 ?_
        repeat walk_at "st"
        refine ldO F₂.own hs3 ?_
        repeat walk_at "st"
        refine ⟨F₂.X, ?_⟩
        refine fo_push F₂ (by show A.depth + 1 < _; exact dl hroom (by decide)) (by simp) fun g₃ s₃ xs₃ u₃ F₃ => ?_
        walk_at "st"
        refine mstN fun N hN => ?_
        walk_at "st"
        refine hQ s₃ (h s₃ F₃.postF ?_)
        rw [he]
        exact F₃.S
      by_cases hz0 : z > 0
      · refine ifT (by simpa using hz0) ?_
        refine mstN fun N hN => ?_
        repeat walk_at "st"
        refine ldO F₁₇.own hself ?_
        refine fm_method F₁₇ K₁₁ (f := .ref 113) (by decide +kernel) (by kernel_rfl) (by kernel_rfl) ?_
        dsimp only
        refine callK0 F₁₇.X ?_
        have hznz : (z == 0 && (z + psum (nlParts []) == 0 || Txt.isspace (accText (nlParts [])))) = false := by
          have : (z == 0) = false := by simp; walk_at "om"
          rw [this]; rfl
        refine fo_newline pg F₁₇ K₁₁ (by show A.depth + 1 + 40 < _; exact dl2 hroom (by decide)) (by show A.units + 3 + 80 < _; exact dl2 hu (by decide)) hh (fun p hp => absurd hp List.not_mem_nil) (by simp) hz hz2 (by walk_at "om") (.inl hznz) fun g₁₈ s₁₈ xs₁₈ u₁₈ F₁₈ => ?_
        have K₁₈ : FmAt g₁₈ fm ll x W := K₁₁.keeps fun b o e _ => u₁₈ b o e
        walk_at "st"
        refine mstN fun N hN => ?_
        repeat walk_at "st"
        refine isTrue_not ?_
        refine isTrue_plain ?_
        refine ldO F₁₈.own (by rfl) ?_
        refine PySem.P.truthy_str (by show ¬ ((f.length : Int) ≥ 2 ^ 63); walk_at "om") ?_
        have F₁₉ := F₁₈.same fun _ O => O.toks (s₁₈.toks + 1 + 1)
        generalize hs₁₉ : ({ s₁₈ with toks := s₁₈.toks + 1 + 1 } : Shared) = s₁₉ at F₁₉ ⊢
        by_cases hf0 : f = ""
        · refine ifT (by rw [hf0]; rfl) ?_
          repeat walk_at "st"
          refine strF F₁₉ fun t₂₀ s₂₀ F₂₀ => ?_
          refine stF F₂₀ fun s₂₁ F₂₁ => ?_
          walk_at "st"
          walk_at "nx"
          refine last _ _ _ _ " " t₂₀ t2 0 (nlLines z [] lines) ?_ ?_ ?_ K₁₈ F₂₁ ?_ (fun s' h => hR (.ret .none) s' h)
          · exact hself
          · rfl
          · rfl
          · unfold apState; rw [if_pos hW, if_pos hps, if_pos hz0, if_pos hf0]
        · refine ifF ?_ ?_
          · have : f.length ≠ 0 := fun q => hf0 (ext_lst (by
              have : (lst f).length = 0 := q
              rw [List.length_eq_zero_iff.mp this]; rfl))
            show (!((f.length : Int) != 0)) = false
            simp only [Bool.not_eq_false', bne_iff_ne, ne_eq]
            walk_at "om"
          walk_at "nx"
          refine last _ _ _ _ f t1 t2 0 (nlLines z [] lines) ?_ ?_ ?_ K₁₈ F₁₉ ?_ (fun s' h => hR (.ret .none) s' h)
          · exact hself
          · rfl
          · rfl
          · unfold apState; rw [if_pos hW, if_pos hps, if_pos hz0, if_neg hf0]
      · refine ifF (by simpa using hz0) ?_
        walk_at "nx"
        refine last _ _ _ _ f t1 t2 z lines ?_ ?_ ?_ K₁₁ F₁₇ ?_ (fun s' h => hR (.ret .none) s' h)
        · exact hself
        · rfl
        · rfl
        · unfold apState; rw [if_pos hW, if_pos hps, if_neg hz0]
  · refine ifF (by simpa using hW) ?_
    walk_at "st"
    have e : apState W z ps lines f v = (z, ps ++ [(f, v)], lines) := by unfold apState; rw [if_neg hW]
    rw [e] at h
    walk_at "nx"
    exact hR _ _ (h s₆ F₆.postF F₆.S)
end
end Mine
namespace Mine
section
variable {prog : Program} {w : World} {A : Around} {E : Value → Shared → Prop} {R : Result → Shared → Prop} {foot : List Addr} {g : Heap} {σ s : Shared} {L : Addr} {m : Str → Option Value} {x d ll fm : Addr} {z W : Int} {xs : Array Value} {ps : List (Str × Str)} {lines : List Str} {ex : List (Addr × Obj)}
theorem strFm_ok {sep : Str} {ts : Tok} (pg : PG prog w.params) (X : (Kn w.params).In s.heap) (hroom : A.depth + 60 < recursionLimit) (hu : A.units + 160 < cLine) (hh : A.handled = none) (S : FmtS w.params s.heap x d ll z ps lines) (K : FmAt s.heap fm ll x W)
    (hB : Small ps) (hsz : ps.length ≤ 400) (hz : 0 ≤ z) (hz2 : z ≤ 1000) (hl : lines.length < 900) (hno : (z == 0 && (z + psum (nlParts ps) == 0 || Txt.isspace (accText (nlParts ps)))) = false ∨ z + psum (nlParts ps) ≤ 0)
    (hjoin : ((nlLines z ps lines).map (·.length)).sum + (nlLines z ps lines).length * sep.length ≤ 16777216)
    (h : ∀ s' t, PostF x d ll s s' → FmtS w.params s'.heap x d ll 0 [] (nlLines z ps lines) → R (.ok (.ret (.str (Txt.join sep (nlLines z ps lines)) t))) s') :
    codeAny (model prog w) A (.call (.ref 99) ⟨[.ref fm, .str sep ts], []⟩) R s := by
  refine enterF 99 [("self", .ref fm), ("linesep", .str sep ts)] X (dl0 hroom) S ?_
  intro L s₁ g xs up F
  refine absQE fun Q E hR => ?_
  have K₁ : FmAt g fm ll x W := K.up S up
  refine mstN fun N hN => ?_
  repeat walk_at "st"
  refine ldO F.own (by rfl) ?_
  refine fm_method F K₁ (f := .ref 113) (by decide +kernel) (by kernel_rfl) (by kernel_rfl) ?_
  dsimp only
  refine callK0 F.X ?_
  refine fo_newline pg F K₁ (by show A.depth + 1 + 40 < _; exact dl2 hroom (by decide)) (by show A.units + 3 + 80 < _; exact dl2 hu (by decide)) hh hB (by walk_at "om") hz hz2 (by walk_at "om") hno fun g₂ s₂ xs₂ u₂ F₂ => ?_
  walk_at "nx"
  refine mstN fun N hN => ?_
  repeat walk_at "st"
  refine ldO F₂.own (by rfl) ?_
  refine GM.join ?_
  dsimp only
  refine callWith_method1 ?_
  repeat walk_at "st"
  refine ldO F₂.own (by rfl) ?_
  refine fm_lines F₂ (K₁.keeps fun b o e _ => u₂ b o e) fun s₃ F₃ => ?_
  repeat walk_at "st"
  obtain ⟨k, od, lv, kl, t1, t2, tz, O, hn, hP, hS, ht1, ht2⟩ := id F₃
  refine join_list ⟨_, O.at 2 rfl, rfl, _, rfl⟩ hS hjoin fun t' k' => ?_
  have F₄ := F₃.same fun _ O => O.toks k'
  exact hR _ _ (h _ t' F₄.postF F₄.S)
end
end Mine
namespace Mine
section
variable {prog : Program} {w : World} {A : Around} {E : Value → Shared → Prop} {R : Result → Shared → Prop} {s : Shared} {fm fd : Addr} {W z : Int} {tb tb2 : Array Value}
theorem empty_ns1 {h : Heap} {d : Addr} (e : h.get? d = some emptyDict) : h.Ns1 d fun _ => none := by
  refine Heap.Ns1.of_empty ⟨_, #[], 0, e, rfl, fun e he => absurd he (by simp), fun _ => rfl⟩
theorem fset {P : Params} {foot : List Addr} {g : Heap} {σ s : Shared} {L : Addr} {mm m : Str → Option Value} {led : List (Addr × Obj)} {prog : Program} {w : World} {od : Obj} {name : Str} {v : Value} {ns : List Str} {Q : Unit → Shared → Prop} (O : Own w.params foot g σ s L mm led) (i : Nat) (hi : led[i]? = some (fd, od)) (hx : s.heap.get? fm = some (fmtObj fd)) (hd : s.heap.Ns1 fd m) (hw : Within m ns) (hsz : ns.length ≤ 100)
    (hf : findIn (Kn w.params) (.ref 151) name = some none)
    (h : ∀ s' od', s'.heap.Ns1 fd (fun y => if y = name then some v else m y) → Own w.params foot g σ s' L mm (led.set i (fd, od')) → Within (fun y => if y = name then some v else m y) (name :: ns) → Q () s') : wpAny (model prog w) A (setAttr (.ref fm) name v) Q E s := by
  refine fmt_set O.X hx hd hw hsz hf fun h' t' hn' hs' => ?_
  obtain ⟨od', ho', O'⟩ := O.setNs i hi hs' hn' t'
  exact h _ od' hn' O' (Within.cons name v hw)
theorem initF_ok {tz tW t1 t2 : Tok} (pg : PG prog w.params) (X : (Kn w.params).In s.heap) (hroom : A.depth + 20 < recursionLimit) (hfm : s.heap.get? fm = some (fmtObj fd)) (hfd : s.heap.get? fd = some emptyDict) (hoff : Off w.params fd) (hne : fm ≠ fd)
    (hT : s.heap.get? 197 = some (tabObj tb)) (ht : Tab1 pLen tb) (hT2 : s.heap.get? 204 = some (tabObj tb2)) (ht2 : Tab1 pStr tb2)
    (h : ∀ s' x d ll, Post [fd] s s' → FmtS w.params s'.heap x d ll z [] [] → FmAt s'.heap fm ll x W → s.heap.get? x = none → s.heap.get? d = none → s.heap.get? ll = none → R (.ok (.ret .none)) s') :
    codeAny (model prog w) A (.call (.ref 92) ⟨[.ref fm, .int z tz, .int W tW, .str " " t1, .str " " t2], []⟩) R s := by
  refine enter 92 [("self", .ref fm), ("headerlen", .int z tz), ("maxlen", .int W tW), ("continuation_ws", .str " " t1), ("splitchars", .str " " t2)] [(fd, emptyDict)] X (dl0 hroom) (led_cons hfd hoff led_nil) (by simp) ?_
  intro L s₁ g up O
  refine absQE fun Q E hR => ?_
  have ufm : g.get? fm = some (fmtObj fd) := up _ _ (by simpa using hne) hfm
  have n₁ := empty_ns1 (O.at 0 rfl)
  refine mstN fun N hN => ?_
  repeat walk_at "st"
  refine ldO O (by rfl) ?_
  refine ldO O (by rfl) ?_
  refine fset (P := w.params) O 0 rfl (O.keep _ _ ufm) n₁ (ns := []) Within.nil (by simp) (by kernel_rfl) fun s₂ od₂ n₂ O₂ w₂ => ?_
  repeat walk_at "st"
  refine ldO O₂ (by rfl) ?_
  refine ldO O₂ (by rfl) ?_
  refine fset (P := w.params) O₂ 0 rfl (O₂.keep _ _ ufm) n₂ w₂ (by simp) (by kernel_rfl) fun s₃ od₃ n₃ O₃ w₃ => ?_
  repeat walk_at "st"
  refine ldB (v := .builtin "len") O₃ ?_
  refine callWith_method1 ?_
  repeat walk_at "st"
  refine ldO O₃ (by rfl) ?_
  repeat walk_at "st"
  refine len_str (by decide +kernel) ?_
  have O₄ := O₃.toks (s₃.toks + 1 + 1)
  have n₄ := n₃
  refine ldO O₄ (by rfl) ?_
  refine fset (P := w.params) O₄ 0 rfl (O₄.keep _ _ ufm) n₄ w₃ (by simp) (by kernel_rfl) fun s₅ od₅ n₅ O₅ w₅ => ?_
  repeat walk_at "st"
  refine ldO O₅ (by rfl) ?_
  refine ldO O₅ (by rfl) ?_
  refine fset (P := w.params) O₅ 0 rfl (O₅.keep _ _ ufm) n₅ w₅ (by simp) (by kernel_rfl) fun s₆ od₆ n₆ O₆ w₆ => ?_
  repeat walk_at "st"
  refine lstO O₆ fun ll s₇ hll O₇ => ?_
  have n₇ := n₆.at (h' := s₇.heap) fun o e => by
    have : od₆ = o := Option.some.inj ((O₆.at 0 rfl).symm.trans e)
    subst this; exact O₇.at 1 rfl
  refine ldO O₇ (by rfl) ?_
  refine fset (P := w.params) O₇ 1 rfl (O₇.keep _ _ ufm) n₇ w₆ (by simp) (by kernel_rfl) fun s₈ od₈ n₈ O₈ w₈ => ?_
  repeat walk_at "st"
  refine ldG (v := .ref 235) O₈ ?_
  refine callWith_K (h₀ := g) O₈.kn (by kernel_rfl) ?_
  repeat walk_at "st"
  refine ldO O₈ (by rfl) ?_
  repeat walk_at "st"
  refine ⟨O₈.X, ?_⟩
  have O₉ := (O₈.push emptyDict).push (accObj s₈.heap.objs.size #[] 0)
  obtain ⟨hp, gg, dd, tt, os⟩ := s₈
  refine wpAny_call (acc_make (accCls O₈.X) ?_)
  dsimp only at O₉
  rw [Heap.size_push] at O₉
  generalize hd₉ : hp.objs.size = dx at O₉ ⊢
  generalize hs₉ : ({ heap := (hp.push emptyDict).push (accObj dx #[] 0), gens := gg, drawn := dd, toks := tt, os := os } : Shared) = s₉ at O₉ ⊢
  refine initA_ok (z := z) (tz := tz) pg O₉.X (by show A.depth + 1 + 1 < _; exact dl2 hroom (by decide)) (O₉.at 0 rfl) (O₉.at 1 rfl) (empty_ns1 (O₉.at 1 rfl)) (Nat.succ_ne_self _) (O₉.off (.head _)) (O₉.off (.tail _ (.head _))) fun s₁₀ n' p₁₀ hx₁₀ hn₁₀ => ?_
  refine ⟨rfl, ?_⟩
  obtain ⟨od', -, -, hod', -⟩ := id hn₁₀
  have nd₉ := O₉.nd
  have keep₁₀ : ∀ b o, b ≠ dx + 1 → b ≠ dx → s₉.heap.get? b = some o → s₁₀.heap.get? b = some o := fun b o h1 h2 e => p₁₀.ext _ _ (nf2 h1 h2) e
  have hl1 : ll ≠ dx + 1 ∧ ll ≠ dx ∧ fd ≠ dx + 1 ∧ fd ≠ dx ∧ ll ≠ fd := by
    exact ⟨nne nd₉ 2 0, nne nd₉ 2 1, nne nd₉ 3 0, nne nd₉ 3 1, nne nd₉ 2 3⟩
  have O₁₀ := O₉.after p₁₀ (led' := [(dx + 1, accObj dx #[] n'), (dx, od'), (ll, lstObj #[] 0), (fd, od₈)]) (by simp) (by
    refine fa4 ⟨hx₁₀, .inl (.head _)⟩ ⟨hod', .inl (.tail _ (.head _))⟩ ⟨keep₁₀ _ _ hl1.1 hl1.2.1 (O₉.at 2 rfl), .inl (.tail _ (.tail _ (.head _)))⟩ ⟨keep₁₀ _ _ hl1.2.2.1 hl1.2.2.2.1 (O₉.at 3 rfl), .inl (.tail _ (.tail _ (.tail _ (.head _))))⟩) nd₉
  have n₁₀ := n₈.at (h' := s₁₀.heap) fun o e => by
    have : od₈ = o := Option.some.inj ((O₈.at 1 rfl).symm.trans e)
    subst this; exact O₁₀.at 3 rfl
  refine ldO O₁₀ (by rfl) ?_
  refine fset (P := w.params) O₁₀ 3 rfl (O₁₀.keep _ _ ufm) n₁₀ w₈ (by simp) (by kernel_rfl) fun s₁₁ od₁₁ n₁₁ O₁₁ w₁₁ => ?_
  repeat walk_at "st"
  have hn₁₁ : s₁₁.heap.Ns1 dx (mA (.int z tz)) := hn₁₀.at fun o e => by
    have : od' = o := Option.some.inj (hod'.symm.trans e)
    subst this; exact O₁₁.at 1 rfl
  have new : ∀ a, a ∈ ([dx + 1, dx, ll] : List Addr) → s.heap.get? a = none := fa3 (O₁₁.new (.head _) (nf1 hl1.2.2.1.symm)) (O₁₁.new (.tail _ (.head _)) (nf1 hl1.2.2.2.1.symm)) (O₁₁.new (.tail _ (.tail _ (.head _))) (nf1 hl1.2.2.2.2))
  have h7 : s₁₁.heap.get? 197 = some (tabObj tb) := O₁₁.keep _ _ (up _ _ (nf1 (gnk hT hfd)) hT)
  have h4 : s₁₁.heap.get? 204 = some (tabObj tb2) := O₁₁.keep _ _ (up _ _ (nf1 (gnk hT2 hfd)) hT2)
  refine hR _ _ (h s₁₁ (dx + 1) dx ll O₁₁.post ⟨#[], n', od', #[], 0, tb, tb2, tz, O₁₁.at 0 rfl, O₁₁.at 1 rfl, hn₁₁, O₁₁.at 2 rfl, h7, h4, ⟨rfl, fun j v q e1 _ => by simp at e1⟩, .nil, ht, ht2, O₁₁.off (.head _), O₁₁.off (.tail _ (.head _)), O₁₁.off (.tail _ (.tail _ (.head _)))⟩ ?_ (new _ (.head _)) (new _ (.tail _ (.head _))) (new _ (.tail _ (.tail _ (.head _)))))
  refine ⟨fd, _, tW, t1, t2, O₁₁.keep _ _ ufm, n₁₁.ns, rfl, rfl, rfl, rfl, rfl, fun n hn => ?_⟩
  simp only [List.contains_cons, List.contains_nil, Bool.or_eq_true, beq_iff_eq, Bool.false_eq_true, or_false] at hn
  rcases hn with rfl | rfl | rfl | rfl | rfl <;> rfl
end
end Mine
namespace Mine
section
variable {prog : Program} {w : World} {A : Around} {R : Result → Shared → Prop} {s : Shared} {W z : Int} {tb tb2 : Array Value}
theorem off_of_none {P : Params} {h : Heap} {a : Addr} (X : (Kn P).In h) (e : h.get? a = none) : Off P a := by
  unfold Off
  cases z : (Kn P).lookup a with
  | none => rfl
  | some o => rw [X _ _ z] at e; cases e
/-- _ValueFormatter(head, width, ' ', ' ') -/
theorem fmake_ok {tz tW t1 t2 : Tok} (pg : PG prog w.params) (X : (Kn w.params).In s.heap) (hroom : A.depth + 30 < recursionLimit)
    (hT : s.heap.get? 197 = some (tabObj tb)) (ht : Tab1 pLen tb) (hT2 : s.heap.get? 204 = some (tabObj tb2)) (ht2 : Tab1 pStr tb2)
    (h : ∀ s' fm x d ll, Post [] s s' → FmtS w.params s'.heap x d ll z [] [] → FmAt s'.heap fm ll x W → s.heap.get? fm = none → s.heap.get? x = none → s.heap.get? d = none → s.heap.get? ll = none → R (.ok (.ret (.ref fm))) s') :
    codeAny (model prog w) A (.call (.ref 151) ⟨[.int z tz, .int W tW, .str " " t1, .str " " t2], []⟩) R s := by
  obtain ⟨hp, gg, dd, tt, os⟩ := s
  dsimp only at *
  refine make_core (init := .ref 92) (makes_of X (by kernel_rfl)) (looks_findIn X (by kernel_rfl)) (fun self => bind_fn X self (by kernel_rfl)) (.inl rfl) ?_
  have up : ∀ b o, hp.get? b = some o → ((hp.push emptyDict).push (instObj 151 hp.objs.size)).get? b = some o := fun b o e => Heap.get?_push_of_some _ (Heap.get?_push_of_some _ e)
  have hsz : (hp.push emptyDict).objs.size = hp.objs.size + 1 := Heap.size_push ..
  have e1 : ((hp.push emptyDict).push (instObj 151 hp.objs.size)).get? (hp.objs.size + 1) = some (fmtObj hp.objs.size) := by rw [← hsz]; exact Heap.get?_push_size _ rfl
  have e2 : ((hp.push emptyDict).push (instObj 151 hp.objs.size)).get? hp.objs.size = some emptyDict := Heap.get?_push_of_some _ (Heap.get?_push_size _ rfl)
  refine initF_ok pg (s := ⟨(hp.push emptyDict).push (instObj 151 hp.objs.size), gg, dd, tt, os⟩) (fun a o e => up _ _ (X _ _ e)) (by show A.depth + 1 + 20 < _; exact dl2 hroom (by decide)) e1 e2 (off_of_none X (get?_size_none _)) (Nat.succ_ne_self _) (up _ _ hT) ht (up _ _ hT2) ht2 fun s' x d ll p S K n1 n2 n3 => ?_
  have old : ∀ a, ((hp.push emptyDict).push (instObj 151 hp.objs.size)).get? a = none → hp.get? a = none := fun a e => by
    cases z : hp.get? a with
    | none => rfl
    | some o => rw [up _ _ z] at e; cases e
  refine ⟨rfl, h s' (hp.objs.size + 1) x d ll ⟨fun b o hb e => p.ext b o (fun hm => ?_) (up _ _ e), p.bare, p.drawn, p.os⟩ S K (get?_ge_none (Nat.le_succ _)) (old _ n1) (old _ n2) (old _ n3)⟩
  have : b = hp.objs.size := by simpa using hm
  subst this
  have e' : hp.get? hp.objs.size = some o := e
  rw [get?_size_none] at e'; cases e'
end
end Mine
namespace Mine
open PySem.Sre
def reCode : Array Nat := #[14, 4, 0, 1, 4294967295, 17, 0, 24, 11, 1, 4294967295, 13, 6, 16, 32, 16, 9, 0, 1, 17, 1, 1]
def blank (c : Nat) : Bool := c == 32 || c == 9
/-- the machine ahead of an attempt at s -/
def mAt (T : Array Nat) (s : Nat) (start0 : Nat) (marks : Array (Option Nat)) (handed : Nat) (seen : PySem.Sre.Seen) (out : Bool) : M :=
  { code := reCode, text := T, lim := T.size, start := s, lastStart := T.size, pc := 5, pos := s, handed := s, outermost := out, marks := marks, lastmark := -1, lastindex := -1,
    frames := [{ wait := .nextStart, pc := 5, pos := s, outermost := out }], weight := 1, seen := seen }
theorem accepts_blank (c : Nat) (seen : PySem.Sre.Seen) : ∃ seen', accepts reCode 11 c seen = .ok (blank c, seen') := by
  have h1 : ops[reCode.getD 11 0]? = some Op.IN := by rfl
  unfold accepts
  rw [h1]
  show ∃ seen', inSet reCode c 22 13 true seen = _
  unfold inSet
  have h2 : ops[reCode.getD (13 + 0) 0]? = some Op.LITERAL := by rfl
  simp only [h2]
  have e1 : reCode.getD (13 + 1) 0 = 32 := by rfl
  rw [e1]
  by_cases hc : c == 32
  · rw [if_pos hc]; rw [show blank c = true by simp [blank, hc]]; exact ⟨_, rfl⟩
  · rw [if_neg hc]
    unfold inSet
    have h3 : ops[reCode.getD (13 + 2 + 0) 0]? = some Op.LITERAL := by rfl
    simp only [h3]
    have e2 : reCode.getD (13 + 2 + 1) 0 = 9 := by rfl
    rw [e2]
    by_cases hd : c == 9
    · rw [if_pos hd]; rw [show blank c = true by simp [blank, hd]]; exact ⟨_, rfl⟩
    · rw [if_neg hd]
      unfold inSet
      have h4 : ops[reCode.getD (13 + 2 + 2 + 0) 0]? = some Op.FAILURE := by rfl
      simp only [h4]
      rw [show blank c = false by simp [blank, hc, hd]]; exact ⟨_, rfl⟩
def mMark (T : Array Nat) (s : Nat) (marks : Array (Option Nat)) (seen : PySem.Sre.Seen) (out : Bool) : M :=
  { mAt T s s marks s seen out with marks := marks.setIfInBounds 0 (some s), lastmark := 0, pc := 7, seen := seen.add 17 }
theorem step_mark (T : Array Nat) (s : Nat) (marks : Array (Option Nat)) (seen : PySem.Sre.Seen) (out : Bool) : (mAt T s s marks s seen out).step = mMark T s marks seen out := by rfl
theorem run_zero {T : Array Nat} {s n : Nat} {seen : PySem.Sre.Seen} (hb : blank (T.getD s 0) = false) : ∃ seen', PySem.Sre.run reCode T 11 n s 0 seen = .ok (0, seen') := by
  cases n with
  | zero => exact ⟨_, rfl⟩
  | succ n =>
    unfold PySem.Sre.run
    obtain ⟨seen', e⟩ := accepts_blank (T.getD s 0) seen
    rw [e, hb]
    exact ⟨_, rfl⟩
theorem run_one {T : Array Nat} {s n : Nat} {seen : PySem.Sre.Seen} (hb : blank (T.getD s 0) = true) (hn : 1 ≤ n) (h2 : n = 1 ∨ blank (T.getD (s + 1) 0) = false) : ∃ seen', PySem.Sre.run reCode T 11 n s 0 seen = .ok (1, seen') := by
  cases n with
  | zero => walk_at "om"
  | succ n =>
    unfold PySem.Sre.run
    obtain ⟨seen', e⟩ := accepts_blank (T.getD s 0) seen
    rw [e, hb]
    show ∃ seen'', PySem.Sre.run reCode T 11 n (s + 1) (0 + 1) seen' = .ok (1, seen'')
    cases n with
    | zero => exact ⟨_, rfl⟩
    | succ n =>
      have h2 := h2.resolve_left (by walk_at "om")
      unfold PySem.Sre.run
      obtain ⟨seen'', e⟩ := accepts_blank (T.getD (s + 1) 0) seen'
      rw [e, h2]
      exact ⟨_, rfl⟩
theorem step_fail {T : Array Nat} {s : Nat} {marks : Array (Option Nat)} {seen : PySem.Sre.Seen} {out : Bool} (hb : s < T.size → blank (T.getD s 0) = false) :
    ∃ seen', (mMark T s marks seen out).step = { mMark T s marks seen out with seen := seen', answer := some false } := by
  have hop : ops[(mMark T s marks seen out).word 0]? = some Op.REPEAT_ONE := by rfl
  show ∃ seen', (mMark T s marks seen out).exec = _
  generalize hr : (mMark T s marks seen out).exec = r
  unfold M.exec at hr
  simp only [hop] at hr
  split at hr
  · rw [← hr]; exact ⟨_, rfl⟩
  · rename_i hc
    have hs : s < T.size := by
      have : ¬ ((1 : Int) > (T.size : Int) - s) := hc
      walk_at "om"
    obtain ⟨seen', e⟩ := run_zero (T := T) (s := s) (n := min 4294967295 ((T.size : Int) - s).toNat) (seen := ((mMark T s marks seen out).seen.add 24).add 13) (hb hs)
    split at hr
    · rename_i heq
      have := e.symm.trans heq; cases this
    · rename_i heq
      have := e.symm.trans heq
      cases this
      rw [← hr]
      exact ⟨seen', rfl⟩
theorem step_next {T : Array Nat} {s : Nat} {marks : Array (Option Nat)} {seen seen' : PySem.Sre.Seen} {out : Bool} (hs : s < T.size) :
    ({ mMark T s marks seen out with seen := seen', answer := some false } : M).step = mAt T (s + 1) (s + 1) (marks.setIfInBounds 0 (some s)) (s + 1) seen' false := by
  have e : ({ mMark T s marks seen out with seen := seen', answer := some false } : M).step = if s < T.size then mAt T (s + 1) (s + 1) (marks.setIfInBounds 0 (some s)) (s + 1) seen' false else
      ({ mMark T s marks seen out with seen := seen', answer := none, frames := [], weight := 0, pc := 5 } : M).say false := by rfl
  rw [e, if_pos hs]
theorem step_last {T : Array Nat} {s : Nat} {marks : Array (Option Nat)} {seen seen' : PySem.Sre.Seen} {out : Bool} (hs : ¬ s < T.size) :
    ∃ m : M, ({ mMark T s marks seen out with seen := seen', answer := some false } : M).step.step = m ∧ m.outcome = some .failed := by
  have e : ({ mMark T s marks seen out with seen := seen', answer := some false } : M).step = if s < T.size then mAt T (s + 1) (s + 1) (marks.setIfInBounds 0 (some s)) (s + 1) seen' false else
      ({ mMark T s marks seen out with seen := seen', answer := none, frames := [], weight := 0, pc := 5 } : M).say false := by rfl
  rw [e, if_neg hs]
  exact ⟨_, rfl, rfl⟩
def mRun (T : Array Nat) (s : Nat) (marks : Array (Option Nat)) (seen seen' : PySem.Sre.Seen) (out : Bool) : M :=
  { mMark T s marks seen out with seen := seen', pc := 19, pos := s + 1, handed := s + 1, weight := 2, frames := [{ wait := .giveBack, pc := 7, pos := s + 1, outermost := out, count := 1, kept := { lastmark := 0, lastindex := -1, whole := false, marks := #[] } }, { wait := .nextStart, pc := 5, pos := s, outermost := out }] }
theorem step_hit {T : Array Nat} {s : Nat} {marks : Array (Option Nat)} {seen : PySem.Sre.Seen} {out : Bool} (hs : s < T.size) (hb : blank (T.getD s 0) = true) (h2 : s + 1 = T.size ∨ blank (T.getD (s + 1) 0) = false) :
    ∃ seen', (mMark T s marks seen out).step = mRun T s marks seen seen' out := by
  have hop : ops[(mMark T s marks seen out).word 0]? = some Op.REPEAT_ONE := by rfl
  show ∃ seen', (mMark T s marks seen out).exec = _
  generalize hr : (mMark T s marks seen out).exec = r
  unfold M.exec at hr
  simp only [hop] at hr
  split at hr
  · rename_i hc
    have : (1 : Int) > (T.size : Int) - s := hc
    walk_at "om"
  · obtain ⟨seen', e⟩ := run_one (T := T) (s := s) (n := min 4294967295 ((T.size : Int) - s).toNat) (seen := ((mMark T s marks seen out).seen.add 24).add 13) hb (by walk_at "om") (h2.elim (fun q => .inl (by walk_at "om")) .inr)
    split at hr
    · rename_i heq
      have := e.symm.trans heq; cases this
    · rename_i heq
      have := e.symm.trans heq
      cases this
      rw [← hr]
      exact ⟨seen', rfl⟩
def mTwo (T : Array Nat) (s : Nat) (marks : Array (Option Nat)) (seen seen' : PySem.Sre.Seen) (out : Bool) : M :=
  { mRun T s marks seen seen' out with seen := seen'.add 17, marks := (marks.setIfInBounds 0 (some s)).setIfInBounds 1 (some (s + 1)), lastmark := 1, lastindex := 1, pc := 21 }
theorem found1 {T : Array Nat} {s : Nat} {marks : Array (Option Nat)} {seen seen' : PySem.Sre.Seen} {out : Bool} : (mRun T s marks seen seen' out).step = mTwo T s marks seen seen' out := by kernel_rfl
def mThree (T : Array Nat) (s : Nat) (marks : Array (Option Nat)) (seen seen' : PySem.Sre.Seen) (out : Bool) : M :=
  { mTwo T s marks seen seen' out with seen := (seen'.add 17).add 1, answer := some true }
theorem found2 {T : Array Nat} {s : Nat} {marks : Array (Option Nat)} {seen seen' : PySem.Sre.Seen} {out : Bool} : (mTwo T s marks seen seen' out).step = mThree T s marks seen seen' out := by
  cases out <;> rfl
def mFour (T : Array Nat) (s : Nat) (marks : Array (Option Nat)) (seen seen' : PySem.Sre.Seen) (out : Bool) : M :=
  { mThree T s marks seen seen' out with frames := [{ wait := .nextStart, pc := 5, pos := s, outermost := out }], weight := 1, pc := 7 }
theorem found3 {T : Array Nat} {s : Nat} {marks : Array (Option Nat)} {seen seen' : PySem.Sre.Seen} {out : Bool} : (mThree T s marks seen seen' out).step = mFour T s marks seen seen' out := by rfl
def mFive (T : Array Nat) (s : Nat) (marks : Array (Option Nat)) (seen seen' : PySem.Sre.Seen) (out : Bool) : M :=
  { mFour T s marks seen seen' out with frames := [], weight := 0, pc := 5, pos := s }
theorem found4 {T : Array Nat} {s : Nat} {marks : Array (Option Nat)} {seen seen' : PySem.Sre.Seen} {out : Bool} : (mFour T s marks seen seen' out).step = mFive T s marks seen seen' out := by rfl
theorem found5 {T : Array Nat} {s : Nat} {marks : Array (Option Nat)} {seen seen' : PySem.Sre.Seen} {out : Bool} : (mFive T s marks seen seen' out).step = { mFive T s marks seen seen' out with outcome := some .matched } := by rfl
end Mine
namespace Mine
open PySem.Sre
def seen0 : PySem.Sre.Seen := ({} : PySem.Sre.Seen).add 14
theorem search_go {T : Array Nat} {s : Nat} (hs : s < T.size) : PySem.Sre.forSearch reCode T 1 s T.size false = mAt T s s #[none, none] s seen0 true := by
  have e : PySem.Sre.forSearch reCode T 1 s T.size false = if (decide (s > T.size) || decide (T.size - s < 1)) = true then { mAt T s s #[none, none] s seen0 true with lastStart := 0, frames := [], weight := 0, answer := some false } else mAt T s s #[none, none] s seen0 true := by rfl
  rw [e, if_neg]
  simp; walk_at "om"
theorem search_end {T : Array Nat} {s : Nat} (hs : T.size ≤ s) : ∃ m : M, PySem.Sre.forSearch reCode T 1 s T.size false = m ∧ m.outcome = none ∧ m.step.outcome = some .failed := by
  have e : PySem.Sre.forSearch reCode T 1 s T.size false = if (decide (s > T.size) || decide (T.size - s < 1)) = true then { mAt T s s #[none, none] s seen0 true with lastStart := 0, frames := [], weight := 0, answer := some false } else mAt T s s #[none, none] s seen0 true := by rfl
  rw [e, if_pos]
  · exact ⟨_, rfl, rfl, rfl⟩
  · simp; walk_at "om"
theorem runFor_step {n : Nat} {m : M} (h : m.outcome = none) : m.runFor (n + 1) = m.step.runFor n := by
  show (if m.outcome.isSome then m else m.step.runFor n) = _
  rw [h]; rfl
theorem runFor_done {m : M} (h : m.outcome.isSome = true) : ∀ n, m.runFor n = m
  | 0 => rfl
  | n + 1 => by show (if m.outcome.isSome then m else m.step.runFor n) = _; rw [if_pos h]
theorem runFor_add (b : Nat) : ∀ (a : Nat) (m : M), m.runFor (a + b) = (m.runFor a).runFor b
  | 0, m => by rw [Nat.zero_add]; rfl
  | a + 1, m => by
    by_cases h : m.outcome.isSome = true
    · rw [runFor_done h, runFor_done h, runFor_done h]
    · have h : m.outcome = none := by simpa using h
      rw [show a + 1 + b = (a + b) + 1 by walk_at "om", runFor_step h, runFor_step h, runFor_add b a]
structure Hit (o : M) (j : Nat) : Prop where
  outcome : o.outcome = some .matched
  start : o.start = j
  handed : o.handed = j + 1
  lastmark : o.lastmark = 1
  m0 : o.marks.getD 0 none = some j
  m1 : o.marks.getD 1 none = some (j + 1)
theorem hit_here {T : Array Nat} {s : Nat} {marks : Array (Option Nat)} {seen : PySem.Sre.Seen} {out : Bool} (hm : marks.size = 2) (hs : s < T.size) (hb : blank (T.getD s 0) = true) (h2 : s + 1 = T.size ∨ blank (T.getD (s + 1) 0) = false) :
    Hit ((mAt T s s marks s seen out).runFor 7) s := by
  obtain ⟨seen', e⟩ := step_hit (marks := marks) (seen := seen) (out := out) hs hb h2
  rw [runFor_step rfl, step_mark, runFor_step rfl, e, runFor_step rfl, found1, runFor_step rfl, found2, runFor_step rfl, found3, runFor_step rfl, found4, runFor_step rfl, found5]
  show Hit { mFive T s marks seen seen' out with outcome := some .matched } s
  refine ⟨rfl, rfl, rfl, rfl, ?_, ?_⟩
  · show ((marks.setIfInBounds 0 (some s)).setIfInBounds 1 (some (s + 1))).getD 0 none = some s
    simp [Array.getD, hm]
  · show ((marks.setIfInBounds 0 (some s)).setIfInBounds 1 (some (s + 1))).getD 1 none = some (s + 1)
    simp [Array.getD, hm]
theorem hunt {T : Array Nat} : ∀ (d s : Nat) (marks : Array (Option Nat)) (seen : PySem.Sre.Seen) (out : Bool), marks.size = 2 → (∀ i, s ≤ i → i < s + d → blank (T.getD i 0) = false) → s + d < T.size → blank (T.getD (s + d) 0) = true →
    (s + d + 1 = T.size ∨ blank (T.getD (s + d + 1) 0) = false) → Hit ((mAt T s s marks s seen out).runFor (3 * d + 7)) (s + d)
  | 0, s, marks, seen, out, hm, hn, hs, hb, h2 => hit_here hm hs hb h2
  | d + 1, s, marks, seen, out, hm, hn, hs, hb, h2 => by
    obtain ⟨seen', e⟩ := step_fail (T := T) (s := s) (marks := marks) (seen := seen) (out := out) fun _ => hn s (Nat.le_refl _) (by walk_at "om")
    rw [show 3 * (d + 1) + 7 = (3 * d + 7) + 1 + 1 + 1 by walk_at "om", runFor_step rfl, step_mark, runFor_step rfl, e, runFor_step rfl, step_next (by walk_at "om")]
    rw [show s + (d + 1) = (s + 1) + d by walk_at "om"] at hn hs hb h2 ⊢
    exact hunt d (s + 1) _ seen' false (by simpa using hm) (fun i h1 h2 => hn i (by walk_at "om") h2) hs hb h2
theorem lost {T : Array Nat} : ∀ (d s : Nat) (marks : Array (Option Nat)) (seen : PySem.Sre.Seen) (out : Bool), s + d = T.size → (∀ i, s ≤ i → i < T.size → blank (T.getD i 0) = false) →
    ((mAt T s s marks s seen out).runFor (3 * d + 4)).outcome = some .failed
  | 0, s, marks, seen, out, hs, hn => by
    obtain ⟨seen', e⟩ := step_fail (T := T) (s := s) (marks := marks) (seen := seen) (out := out) fun h => absurd h (by walk_at "om")
    obtain ⟨m, e2, h2⟩ := step_last (T := T) (s := s) (marks := marks) (seen := seen) (seen' := seen') (out := out) (by walk_at "om")
    have h1 : ({ mMark T s marks seen out with seen := seen', answer := some false } : M).step.outcome = none := by
      have e : ({ mMark T s marks seen out with seen := seen', answer := some false } : M).step = if s < T.size then mAt T (s + 1) (s + 1) (marks.setIfInBounds 0 (some s)) (s + 1) seen' false else
        ({ mMark T s marks seen out with seen := seen', answer := none, frames := [], weight := 0, pc := 5 } : M).say false := by rfl
      rw [e, if_neg (by walk_at "om")]; rfl
    rw [show 3 * 0 + 4 = 0 + 1 + 1 + 1 + 1 by rfl, runFor_step rfl, step_mark, runFor_step rfl, e, runFor_step rfl, runFor_step h1, e2]
    exact h2
  | d + 1, s, marks, seen, out, hs, hn => by
    obtain ⟨seen', e⟩ := step_fail (T := T) (s := s) (marks := marks) (seen := seen) (out := out) fun h => hn s (Nat.le_refl _) h
    rw [show 3 * (d + 1) + 4 = (3 * d + 4) + 1 + 1 + 1 by walk_at "om", runFor_step rfl, step_mark, runFor_step rfl, e, runFor_step rfl, step_next (by walk_at "om")]
    exact lost d (s + 1) _ seen' false (by walk_at "om") fun i h1 h2 => hn i (by walk_at "om") h2
section
variable {prog : Program} {w : World} {A : Around} {E : Value → Shared → Prop} {s : Shared}
theorem wp_drive : ∀ (n k : Nat) (m : M) {Q : M → Shared → Prop}, k < 4 * n → (m.runFor k).outcome.isSome = true → Q (m.runFor k) s → wpAny (model prog w) A (PySem.Builtin.Re.reDrive n m) Q E s
  | 0, k, m, Q, hk, h, hQ => by walk_at "om"
  | n + 1, k, m, Q, hk, h, hQ => by
    show wpAny _ _ (if (m.runFor 4).outcome.isSome then pure (m.runFor 4) else rule "sre.turn" >>= fun _ => PySem.Builtin.Re.reDrive n (m.runFor 4)) _ _ _
    by_cases hd : (m.runFor 4).outcome.isSome = true
    · rw [if_pos hd]
      have : m.runFor k = m.runFor 4 := by
        rcases Nat.le_total k 4 with h4 | h4
        · obtain ⟨b, hb⟩ := Nat.exists_eq_add_of_le h4
          rw [hb, runFor_add b k m, runFor_done h]
        · obtain ⟨b, rfl⟩ := Nat.exists_eq_add_of_le h4
          rw [runFor_add b 4 m, runFor_done hd]
      rw [← this]
      exact wpAny_pure hQ
    · rw [if_neg hd]
      have h4 : 4 ≤ k := by
        rcases Nat.lt_or_ge k 4 with h4 | h4
        · obtain ⟨b, hb⟩ := Nat.exists_eq_add_of_le (Nat.le_of_lt h4)
          rw [hb, runFor_add b k m, runFor_done h] at hd
          exact absurd h hd
        · exact h4
      obtain ⟨b, rfl⟩ := Nat.exists_eq_add_of_le h4
      rw [runFor_add b 4 m] at h hQ
      exact wpAny_bind (wpAny_rule (wp_drive n b (m.runFor 4) (by walk_at "om") h hQ))
end
end Mine
namespace Mine
open PySem.Builtin.Re
noncomputable def patOf (P : Params) : Array Value := match (Kn P).lookup 78 with
  | some ⟨_, _, .fields vs, _⟩ => vs
  | _ => #[]
noncomputable def codeOf (P : Params) : Array Value := match (Kn P).lookup 77 with
  | some ⟨_, _, .seq vs _, _⟩ => vs
  | _ => #[]
section
variable {P : Params}
theorem pat78 : (Kn P).lookup 78 = some ⟨.type "re.Pattern", none, .fields (patOf P), #[]⟩ := by kernel_rfl
theorem pat5 : (patOf P).getD 5 .none = .ref 77 := by kernel_rfl
theorem pat6 : reRawNat ((patOf P).getD 6 .none) = 0 := by kernel_rfl
theorem pat2 : reRawNat ((patOf P).getD 2 .none) = 1 := by kernel_rfl
theorem code77 : (Kn P).lookup 77 = some ⟨.type "tuple", none, .seq (codeOf P) 0, #[]⟩ := by kernel_rfl
theorem rcodeL : ((codeOf P).toList.map reRawOf).map (·.toNat) = reCode.toList := by kernel_rfl
theorem rcodeA : ((codeOf P).map reRawOf).map (·.toNat) = reCode := by
  apply Array.toList_inj.mp
  rw [Array.toList_map, Array.toList_map]; exact rcodeL
end
section
variable {prog : Program} {w : World} {A : Around} {E : Value → Shared → Prop} {s : Shared}
def target (t : Str) (k : Tok) : ReTarget := { pattern := .ref 78, string := .str t k, code := reCode, text := t.cps, kind := 0, groups := 1, pos := 0, lim := t.cps.size }
theorem whole_ok {t : Str} {k : Tok} {Q : ReTarget → Shared → Prop} (X : (Kn w.params).In s.heap) (h : Q (target t k) s) : wpAny (model prog w) A (reWholeTarget (.ref 78) (.str t k)) Q E s := by
  unfold reWholeTarget
  refine wpAny_bind (wpAny_fieldsOf (X _ _ pat78) rfl ?_)
  refine wpAny_bind (show wpAny _ _ (pure (t.cps, 0)) _ _ _ from wpAny_pure ?_)
  dsimp only
  rw [pat6, pat5, pat2]
  refine wpAny_bind (show wpAny _ _ (pure ()) _ _ _ from wpAny_pure ?_)
  refine wpAny_bind (show wpAny _ _ (seqItems? (.ref 77) >>= _) _ _ _ from wpAny_bind (wpAny_seqItems (X _ _ code77) rfl (wpAny_pure ?_)))
  refine wpAny_pure ?_
  show Q ⟨_, _, Array.map (·.toNat) (Array.map reRawOf (codeOf w.params)), _, _, _, _, _⟩ _
  rw [rcodeA]; exact h
theorem wp_seen (m : PySem.Sre.M) {Q : Option PySem.Sre.M → Shared → Prop} {k n : Nat} (hk : k < 4 * 2 ^ 64) (h1 : (m.runFor k).outcome.isSome = true)
    (h2 : (m.runFor k).outcome = some .matched → Q (some (m.runFor k)) s) (h3 : (m.runFor k).outcome = some .failed → Q none s) (h4 : (m.runFor k).outcome = some .matched ∨ (m.runFor k).outcome = some .failed) : wpAny (model prog w) A (reRunToEnd m) Q E s := by
  unfold reRunToEnd
  refine wpAny_bind (wp_drive _ k m hk h1 ?_)
  generalize m.runFor k = o at *
  refine wpAny_bind (wpAny_forIn_list _ (fun _ _ s' => s' = s) _ (fun x rest b s' hs => ?_) (fun b s' hs => ?_) _ _ rfl)
  · subst hs
    by_cases hc : o.seen.has x = true
    · rw [if_pos hc]
      exact wpAny_bind (wpAny_rule (wpAny_pure rfl))
    · rw [if_neg hc]
      exact wpAny_pure rfl
  · subst hs
    rcases h4 with h4 | h4
    · rw [h4]; exact wpAny_pure (h2 h4)
    · rw [h4]; exact wpAny_pure (h3 h4)
theorem next_hit {t : Str} {k : Tok} {st d : Nat} {Q : Option PySem.Sre.M → Shared → Prop} (hsz : t.cps.size ≤ 100000) (hn : ∀ i, st ≤ i → i < st + d → blank (t.cps.getD i 0) = false) (hs : st + d < t.cps.size) (hb : blank (t.cps.getD (st + d) 0) = true)
    (h2 : st + d + 1 = t.cps.size ∨ blank (t.cps.getD (st + d + 1) 0) = false) (h : ∀ o, Hit o (st + d) → Q (some o) s) : wpAny (model prog w) A (reNextFound (target t k) st false) Q E s := by
  show wpAny _ _ (reRunToEnd (PySem.Sre.forSearch reCode t.cps 1 st t.cps.size false)) _ _ _
  rw [search_go (by walk_at "om")]
  have H := hunt d st #[none, none] seen0 true rfl hn hs hb h2
  exact wp_seen _ (k := 3 * d + 7) (n := 0) (by walk_at "om") (by rw [H.outcome]; rfl) (fun _ => h _ H) (fun e => by rw [H.outcome] at e; cases e) (.inl H.outcome)
theorem next_none {t : Str} {k : Tok} {st : Nat} {Q : Option PySem.Sre.M → Shared → Prop} (hsz : t.cps.size ≤ 100000) (hn : ∀ i, st ≤ i → i < t.cps.size → blank (t.cps.getD i 0) = false)
    (h : Q none s) : wpAny (model prog w) A (reNextFound (target t k) st false) Q E s := by
  show wpAny _ _ (reRunToEnd (PySem.Sre.forSearch reCode t.cps 1 st t.cps.size false)) _ _ _
  rcases Nat.lt_or_ge st t.cps.size with hs | hs
  · rw [search_go hs]
    have H := lost (T := t.cps) (t.cps.size - st) st #[none, none] seen0 true (by walk_at "om") hn
    exact wp_seen _ (k := 3 * (t.cps.size - st) + 4) (n := 0) (by walk_at "om") (by rw [H]; rfl) (fun e => by rw [H] at e; cases e) (fun _ => h) (.inr H)
  · obtain ⟨m, e, h0, h1⟩ := search_end (T := t.cps) hs
    rw [e]
    have H : (m.runFor 1).outcome = some .failed := by rw [runFor_step h0]; exact h1
    exact wp_seen _ (k := 1) (n := 0) (by walk_at "om") (by rw [H]; rfl) (fun e => by rw [H] at e; cases e) (fun _ => h) (.inr H)
def joinB : List Nat → List (List Nat) → List Nat
  | w, [] => w
  | w, v :: vs => w ++ 32 :: joinB v vs
def cutV : List Nat → List (List Nat) → List Str
  | w, [] => [ofL w]
  | w, v :: vs => ofL w :: " " :: cutV v vs
def dark (w : List Nat) : Prop := ∀ c ∈ w, blank c = false
theorem at_word {T : Array Nat} {pre w rest : List Nat} (e : T.toList = pre ++ (w ++ rest)) (hw : dark w) {i : Nat} (h1 : pre.length ≤ i) (h2 : i < pre.length + w.length) : blank (T.getD i 0) = false := by
  have e1 : T.getD i 0 = T.toList.getD i 0 := by simp [Array.getD, List.getD_eq_getElem?_getD]; split <;> simp_all
  rw [e1, e, List.getD_eq_getElem?_getD, List.getElem?_append_right h1, List.getElem?_append_left (by walk_at "om"), List.getElem?_eq_getElem (by walk_at "om")]
  exact hw _ (List.getElem_mem _)
theorem at_gap {T : Array Nat} {pre w rest : List Nat} {c : Nat} (e : T.toList = pre ++ (w ++ c :: rest)) : T.getD (pre.length + w.length) 0 = c := by
  have e1 : T.getD (pre.length + w.length) 0 = T.toList.getD (pre.length + w.length) 0 := by simp [Array.getD, List.getD_eq_getElem?_getD]; split <;> simp_all
  rw [e1, e, List.getD_eq_getElem?_getD, List.getElem?_append_right (by walk_at "om"), List.getElem?_append_right (by walk_at "om")]
  simp
theorem ext_word {T : Array Nat} {pre w rest : List Nat} (e : T.toList = pre ++ (w ++ rest)) : (⟨T.extract pre.length (pre.length + w.length)⟩ : Str) = ofL w := by
  apply ext_lst
  show (T.extract _ _).toList = w
  rw [Array.toList_extract, e]
  simp [List.extract]
theorem strs_snoc {l : List Value} {ys : List Str} (y : Str) (t : Tok) (h : StrsAre l ys) : StrsAre (l ++ [.str y t]) (ys ++ [y]) := h.append' (.cons y t .nil)
theorem wp_slice {T : Array Nat} {b e : Nat} {Q : Value → Shared → Prop} (hsz : T.size ≤ 100000) (h : Q (.str ⟨T.extract b e⟩ s.toks) { s with toks := s.toks + 1 }) : wpAny (model prog w) A (reSlice T 0 b e) Q E s := by
  show wpAny _ _ (mkStr ⟨T.extract b e⟩) _ _ _
  refine wpAny_mkStr h ?_
  show (T.extract b e).size ≤ sizeLine
  have : 100000 ≤ sizeLine := by decide
  simp; walk_at "om"
/-- where the loop of split stands -/
inductive SpI (s0 : Shared) (T : Array Nat) (total : List Str) (l : List Nat) : Array Value × Nat × Nat × Bool × Int × Bool → Shared → Prop where
  | go (tk : Nat) (outS : List Str) (pre w : List Nat) (ws : List (List Nat)) (out : Array Value) (n : Int) (hS : StrsAre out.toList outS) (hT : outS ++ cutV w ws = total) (hL : T.toList = pre ++ joinB w ws) (hdw : dark w) (hdv : ∀ v ∈ ws, dark v ∧ v ≠ []) (hl : ws.length + 1 ≤ l.length) :
      SpI s0 T total l (out, pre.length, pre.length, false, n, false) { s0 with toks := tk }
  | over (tk : Nat) (outS : List Str) (pre w : List Nat) (out : Array Value) (n : Int) (hS : StrsAre out.toList outS) (hT : outS ++ cutV w [] = total) (hL : T.toList = pre ++ joinB w []) (hdw : dark w) :
      SpI s0 T total l (out, pre.length, pre.length, false, n, true) { s0 with toks := tk }
theorem SpI.go' {s0 : Shared} {T : Array Nat} {total : List Str} {l : List Nat} {tk : Nat} {outS : List Str} {pre w : List Nat} {ws : List (List Nat)} {out : Array Value} {n : Int} {st la : Nat} {mu : Bool} (e1 : st = pre.length) (e2 : la = pre.length) (e3 : mu = false) (hS : StrsAre out.toList outS) (hT : outS ++ cutV w ws = total) (hL : T.toList = pre ++ joinB w ws) (hdw : dark w) (hdv : ∀ v ∈ ws, dark v ∧ v ≠ []) (hl : ws.length + 1 ≤ l.length) :
    SpI s0 T total l (out, st, la, mu, n, false) { s0 with toks := tk } := by
  subst e1 e2 e3
  exact .go tk outS pre w ws out n hS hT hL hdw hdv hl
theorem join_ge : ∀ (ws : List (List Nat)) (w : List Nat), ws.length ≤ (joinB w ws).length
  | [], _ => Nat.zero_le _
  | v :: vs, w => by have := join_ge vs v; simp only [joinB, List.length_append, List.length_cons]; walk_at "om"
theorem cut_le : ∀ (ws : List (List Nat)) (w : List Nat), (cutV w ws).length ≤ 2 * (joinB w ws).length + 1
  | [], w => by simp [cutV]
  | v :: vs, w => by have := cut_le vs v; simp only [cutV, joinB, List.length_append, List.length_cons]; walk_at "om"
theorem last_size {T : Array Nat} {pre w1 : List Nat} (hL : T.toList = pre ++ joinB w1 []) : T.size = pre.length + w1.length := by
  have := congrArg List.length hL
  simpa [joinB] using this
theorem next_size {T : Array Nat} {pre w1 r : List Nat} (hL : T.toList = (pre ++ w1 ++ [32]) ++ r) : T.size = pre.length + w1.length + 1 + r.length := by
  have := congrArg List.length hL
  simp only [List.length_append, List.length_singleton, Array.length_toList] at this
  walk_at "om"
theorem next_dark {T : Array Nat} {pre w1 v : List Nat} {vs : List (List Nat)} (hL : T.toList = (pre ++ w1 ++ [32]) ++ joinB v vs) (hv : dark v ∧ v ≠ []) : blank (T.getD (pre.length + w1.length + 1) 0) = false := by
  obtain ⟨c, cs, rfl⟩ : ∃ c cs, v = c :: cs := by
    cases v with
    | nil => exact absurd rfl hv.2
    | cons c cs => exact ⟨c, cs, rfl⟩
  obtain ⟨rest, er⟩ : ∃ rest, joinB (c :: cs) vs = (c :: cs) ++ rest := by
    cases vs with
    | nil => exact ⟨[], by simp [joinB]⟩
    | cons u us => exact ⟨_, rfl⟩
  rw [er] at hL
  exact at_word hL hv.1 (by simp; walk_at "om") (by simp; walk_at "om")
theorem out_fit {t : Str} {w0 w1 : List Nat} {ws0 : List (List Nat)} {outS : List Str} {out : Array Value} {v : Value} (ht : lst t = joinB w0 ws0) (hsz : t.cps.size ≤ 100000) (hS : StrsAre out.toList outS) (hT : outS ++ cutV w1 [] = cutV w0 ws0) : (out.push v).toList.length ≤ sizeLine := by
  have h2 := hS.length
  have h3 := congrArg List.length hT
  have h5 := cut_le ws0 w0
  rw [← ht] at h5
  have h6 : (lst t).length = t.cps.size := rfl
  have : 300000 ≤ sizeLine := by decide
  simp [cutV] at h3
  simp only [Array.toList_push, List.length_append, List.length_singleton]
  walk_at "om"
set_option maxHeartbeats 2000000 in
theorem split_ok {t : Str} {k : Tok} {w0 : List Nat} {ws0 : List (List Nat)} {Q : Fin → Shared → Prop} (X : (Kn w.params).In s.heap) (ht : lst t = joinB w0 ws0) (hsz : t.cps.size ≤ 100000) (hd : dark w0) (hds : ∀ v ∈ ws0, dark v ∧ v ≠ [])
    (h : ∀ vs tk, StrsAre vs (cutV w0 ws0) → Q (.done (.ret (.ref s.heap.objs.size))) { s with heap := s.heap.push { cls := .type "list", data := .seq vs.toArray }, toks := tk }) : wpAny (model prog w) A (Builtin.«re.Pattern.split» ⟨[.ref 78, .str t k], []⟩) Q E s := by
  unfold Builtin.«re.Pattern.split»
  dsimp only
  refine wpAny_bind (wpAny_of_eq (show reNamed "re.Pattern.split" "split" ["string", "maxsplit"] 1 [.str t k] [] = pure [some (.str t k), none] by kernel_rfl) ?_)
  dsimp only
  refine wpAny_bind (wpAny_pure ?_)
  refine wpAny_bind (whole_ok X ?_)
  refine wpAny_bind (wpAny_forIn_list _ (SpI s t.cps (cutV w0 ws0)) _ ?turn ?fin _ _ ?start)
  case start =>
    refine SpI.go' (s0 := s) (tk := s.toks) (outS := []) (pre := []) rfl rfl rfl .nil rfl ht hd hds ?_
    rw [List.length_range]
    show ws0.length + 1 ≤ 2 * t.cps.size + 3
    have h1 := join_ge ws0 w0
    rw [← ht] at h1
    have : (lst t).length = t.cps.size := rfl
    walk_at "om"
  case turn =>
    rintro x rest b s' (⟨tk, outS, pre, w1, ws, out, n, hS, hT, hL, hdw, hdv, hl⟩ | ⟨tk, outS, pre, w1, out, n, hS, hT, hL, hdw⟩)
    · refine iP (show (!false) = true from rfl) ?_
      have hz0 : ¬ ((0 : Int) != 0 && decide (n ≥ 0)) = true := by simp
      cases ws with
      | nil =>
        have hL' : t.cps.toList = pre ++ (w1 ++ []) := by rw [List.append_nil]; exact hL
        have hsize := last_size hL
        refine wpAny_bind (iN hz0 (next_none hsz (fun i (h1 : pre.length ≤ i) h2 => at_word hL' hdw h1 (by walk_at "om")) ?_))
        exact wpAny_pure (.over tk outS pre w1 out n hS hT hL hdw)
      | cons v vs =>
        have hL1 : t.cps.toList = pre ++ (w1 ++ 32 :: joinB v vs) := hL
        have hL2 : t.cps.toList = (pre ++ w1) ++ ([32] ++ joinB v vs) := by rw [hL1]; simp
        have hL3 : t.cps.toList = (pre ++ w1 ++ [32]) ++ joinB v vs := by rw [hL1]; simp
        have hsize := next_size hL3
        have hb2 := Or.inr (a := pre.length + w1.length + 1 = t.cps.size) (next_dark hL3 (hdv _ List.mem_cons_self))
        refine wpAny_bind (iN hz0 (next_hit hsz (d := w1.length) (fun i h1 h2 => at_word hL1 hdw h1 h2) (by show pre.length + w1.length < _; walk_at "om") (by rw [at_gap hL1]; rfl) hb2 fun o H => ?_))
        dsimp only
        rw [H.start, H.handed]
        refine wpAny_bind (wp_slice hsz ?_)
        rw [show List.range (target t k).groups = [0] from rfl]
        simp only [List.forIn_cons, List.forIn_nil]
        have hg : reMachineGroup (target t k) o (0 + 1) (pure .none) = reSlice t.cps 0 (pre.length + w1.length) (pre.length + w1.length + 1) := by
          unfold reMachineGroup
          rw [if_neg (by rw [H.lastmark]; decide), H.m0, H.m1]
          dsimp only
          rw [if_neg (by walk_at "om")]
          rfl
        rw [hg]
        refine wpAny_bind (wpAny_bind (wpAny_bind (wp_slice hsz (wpAny_pure (wpAny_pure (wpAny_pure ?_))))))
        have e1 : (⟨(target t k).text.extract pre.length (pre.length + w1.length)⟩ : Str) = ofL w1 := ext_word hL1
        have e2 : (⟨t.cps.extract (pre.length + w1.length) (pre.length + w1.length + 1)⟩ : Str) = " " := by
          have := ext_word hL2
          rw [List.length_append] at this
          exact this
        rw [e1, e2]
        refine SpI.go' (total := cutV w0 ws0) (st := pre.length + w1.length + 1) (la := pre.length + w1.length + 1) (tk := tk + 1 + 1) (outS := outS ++ [ofL w1] ++ [(" " : Str)]) (pre := pre ++ w1 ++ [32]) (by simp [Nat.add_assoc]) (by simp [Nat.add_assoc]) (by simp) ?_ (by rw [← hT]; simp [cutV]) hL3 (hdv _ List.mem_cons_self).1 (fun u hu => hdv _ (List.mem_cons_of_mem _ hu)) (by simp at hl; walk_at "om")
        simp only [Array.toList_push]
        exact strs_snoc _ _ (strs_snoc _ _ hS)
    · refine iN (show ¬ (!true) = true by decide) ?_
      exact wpAny_pure (.over tk outS pre w1 out n hS hT hL hdw)
  case fin =>
    rintro b s' (⟨tk, outS, pre, w1, ws, out, n, hS, hT, hL, hdw, hdv, hl⟩ | ⟨tk, outS, pre, w1, out, n, hS, hT, hL, hdw⟩)
    · exact absurd hl (by simp)
    · refine iN (show ¬ (!true) = true by decide) ?_
      refine wpAny_bind (wp_slice hsz ?_)
      have hsize := last_size hL
      have e1 : (⟨(target t k).text.extract pre.length (target t k).lim⟩ : Str) = ofL w1 := by
        have hL' : t.cps.toList = pre ++ (w1 ++ []) := by rw [List.append_nil]; exact hL
        have := ext_word hL'
        rw [← hsize] at this
        exact this
      rw [e1]
      have hlen := out_fit (v := .str (ofL w1) tk) ht hsz hS hT
      refine wpAny_bind (wpAny_newList ?_ hlen)
      refine wpAny_pure ?_
      refine h _ (tk + 1) ?_
      rw [← hT]
      simp only [Array.toList_push]
      exact strs_snoc _ _ hS
end
end Mine
namespace Mine
theorem plainAttrs_re : PlainAttrs "re.Pattern" :=
  ⟨⟨"object.__getattribute__", by rw [typeLookup_type, builtinLookup_eq_fast]; kernel_rfl, by decide +kernel⟩, by rw [typeLookup_type, builtinLookup_eq_fast]; kernel_rfl⟩
theorem owner_re : Manifest.owners.lookup (String.ofList ['n', 'r', 'e', 't', 't', 'a', 'P', '.', 'e', 'r'].reverse) = some Manifest.sig_re_Pattern := by kernel_rfl
theorem slot_re_split : Slot "re.Pattern" "split" "re.Pattern.split" :=
  .of (owner := "re.Pattern") (n := "split") (by rw [typeLookup_type, builtinLookup_eq_fast]; kernel_rfl) (by decide +kernel) (by decide +kernel) (by decide +kernel)
    (by first | exact .inl (by decide +kernel) | exact .inr (by decide +kernel)) (by rw [isSubtype_type]; kernel_rfl)
theorem type_re_split : typeOf (.builtin "re.Pattern.split") = pure (.type "method_descriptor") := by show builtinType _ = _; rw [builtinType_eq_fast]; kernel_rfl
theorem entry_re_split : entryFor table "re.Pattern.split" = some Builtin.«re.Pattern.split» := entryFor_of_tree (by kernel_rfl)
theorem args_re_split (a b : Value) : argsOk "re.Pattern.split" ⟨[a, b], []⟩ := by
  unfold argsOk; rw [signature?_of (id := "re.Pattern.split") (n := ['t', 'i', 'l', 'p', 's']) (o := ['n', 'r', 'e', 't', 't', 'a', 'P', '.', 'e', 'r']) (by kernel_rfl) owner_re]; kernel_rfl
section
variable {prog : Program} {w : World} {A : Around} {E : Value → Shared → Prop} {s : Shared}
theorem re_type (X : (Kn w.params).In s.heap) : s.TypeIs (.ref 78) "re.Pattern" := ⟨_, X _ _ pat78, rfl⟩
theorem re_method {pl : Sem Bool} {Q : Value × List Value → Shared → Prop} (X : (Kn w.params).In s.heap) (h : Q (.builtin "re.Pattern.split", [.ref 78]) s) : wpAny (model prog w) A (getMethod (.ref 78) "split" pl) Q E s :=
  getMethod_builtin (re_type X) plainAttrs_re slot_re_split type_re_split (fun a e => by cases e; exact ⟨_, X _ _ pat78, rfl⟩) h
theorem re_split {t : Str} {k : Tok} {w0 : List Nat} {ws0 : List (List Nat)} {Q : Value → Shared → Prop} (X : (Kn w.params).In s.heap) (ht : lst t = joinB w0 ws0) (hsz : t.cps.size ≤ 100000) (hd : dark w0) (hds : ∀ v ∈ ws0, dark v ∧ v ≠ [])
    (h : ∀ vs tk, StrsAre vs (cutV w0 ws0) → Q (.ref s.heap.objs.size) { s with heap := s.heap.push { cls := .type "list", data := .seq vs.toArray }, toks := tk }) :
    wpAny (model prog w) A (call (.builtin "re.Pattern.split") [.ref 78, .str t k]) Q E s := by
  refine wpAny_call_entry slot_re_split (re_type X) entry_re_split ?_ (args_re_split _ _)
  exact split_ok X ht hsz hd hds fun vs tk hv => ⟨_, rfl, h vs tk hv⟩
end
end Mine
namespace Mine
section
variable {prog : Program} {w : World} {A : Around} {E : Value → Shared → Prop} {s : Shared}
structure ZipSame (z TI TO i l : Addr) : Prop where
  TIz : TI ≠ z
  TOz : TO ≠ z
  iz : i ≠ z
  TITO : TI ≠ TO
  TIi : TI ≠ i
  TOi : TO ≠ i
  lz : l ≠ z
  lTO : l ≠ TO
  li : l ≠ i
theorem zs_item {z TI TO i l : Addr} {k : Nat} {xs : Array Value} {x y a b : Value} {Q : Value → Shared → Prop} (D : ZipSame z TI TO i l)
    (hz : IsZip s.heap z TI TO .none) (hTI : IsPair s.heap TI (.ref i) (.ref i)) (hTO : IsPair s.heap TO a b)
    (h1 : s.heap.IsListIter i l k) (hl : s.heap.IsList l xs) (hx : xs[k]? = some x) (hy : xs[k + 1]? = some y)
    (hQ : ∀ h', IsZip h' z TI TO (rawInt s.heap.objs.size) → IsPair h' TO x y → h'.IsListIter i l (k + 2) → IsPair h' s.heap.objs.size x y →
      (∀ c o, c ≠ z → c ≠ TO → c ≠ i → s.heap.get? c = some o → h'.get? c = some o) → Q (.ref s.heap.objs.size) { s with heap := h' }) :
    wpAny (model prog w) A (Builtin.«zip.__next__» ⟨[.ref z], []⟩) (fun fin s' => ∃ v, fin = .done (.ret v) ∧ Q v s') E s := by
  show wpAny _ _ (field (.ref z) 2 >>= _) _ _ _
  refine wpAny_bind (wpAny_field hz rfl (x := .bool false) rfl ?_)
  show wpAny _ _ (field (.ref z) 3 >>= _) _ _ _
  refine wpAny_bind (wpAny_field hz rfl (x := .ref TI) rfl ?_)
  refine wpAny_bind (wpAny_seqItems hTI rfl ?_)
  show wpAny _ _ (Builtin.SmallTypes.ownedTupleIsFree (.ref z) >>= _) _ _ _
  refine wpAny_bind ?_
  unfold Builtin.SmallTypes.ownedTupleIsFree
  refine wpAny_bind (wpAny_field hz rfl (x := .none) rfl (wpAny_pure ?_))
  simp only [if_true]
  refine wpAny_bind (wpAny_rule ?_)
  refine wpAny_bind (wpAny_field hz rfl (x := .ref TO) rfl ?_)
  refine wpAny_bind (wpAny_setField_rec hz (by simp) fun h₁ hz₁ hs₁ => ?_)
  replace hz₁ : IsZip h₁ z TI TO .ellipsis := hz₁
  refine wpAny_bind ?_
  simp only [List.zipIdx_cons, List.zipIdx_nil, List.forIn_cons, List.forIn_nil]
  refine wpAny_bind (wpAny_bind (wpAny_onRaise ?_))
  show wpAny _ _ (Builtin.SmallTypes.nextOf (.ref i) >>= _) _ _ _
  refine wpAny_bind (wpAny_nextOf_list_item (h1.extBut hs₁.extBut D.iz) (hl.extBut hs₁.extBut D.lz) hx fun h₂ h1₂ hs₂ => wpAny_pure ?_)
  have hTO₂ : IsPair h₂ TO a b := hs₂.extBut _ _ D.TOi (hs₁.extBut _ _ D.TOz hTO)
  refine wpAny_bind (wpAny_seqItems hTO₂ rfl ?_)
  refine wpAny_bind (wpAny_updateSeq_pair hTO₂ fun h₃ hTO₃ hs₃ => ?_)
  replace hTO₃ : IsPair h₃ TO x b := hTO₃
  refine wpAny_bind (wpAny_letGo (wpAny_pure ?_))
  refine wpAny_bind (wpAny_bind (wpAny_onRaise ?_))
  show wpAny _ _ (Builtin.SmallTypes.nextOf (.ref i) >>= _) _ _ _
  refine wpAny_bind (wpAny_nextOf_list_item (h1₂.extBut hs₃.extBut D.TOi.symm)
    (((hl.extBut hs₁.extBut D.lz).extBut hs₂.extBut D.li).extBut hs₃.extBut D.lTO) hy fun h₄ h2₄ hs₄ => wpAny_pure ?_)
  have hTO₄ : IsPair h₄ TO x b := hs₄.extBut _ _ D.TOi hTO₃
  refine wpAny_bind (wpAny_seqItems hTO₄ rfl ?_)
  refine wpAny_bind (wpAny_updateSeq_pair hTO₄ fun h₅ hTO₅ hs₅ => ?_)
  replace hTO₅ : IsPair h₅ TO x y := hTO₅
  refine wpAny_bind (wpAny_letGo (wpAny_pure (wpAny_pure ?_)))
  refine wpAny_bind (wpAny_seqItems hTO₅ rfl ?_)
  refine wpAny_bind (wpAny_newTuple ?_)
  have hsz : h₅.objs.size = s.heap.objs.size := by rw [hs₅.1, hs₄.1, hs₃.1, hs₂.1, hs₁.1]
  have hz₅ : IsZip h₅ z TI TO .ellipsis := hs₅.extBut _ _ D.TOz.symm (hs₄.extBut _ _ D.iz.symm (hs₃.extBut _ _ D.TOz.symm (hs₂.extBut _ _ D.iz.symm hz₁)))
  have hk₅ : ∀ c o, c ≠ z → c ≠ TO → c ≠ i → s.heap.get? c = some o → h₅.get? c = some o := fun c o c1 c2 c3 e =>
    hs₅.extBut _ _ c2 (hs₄.extBut _ _ c3 (hs₃.extBut _ _ c2 (hs₂.extBut _ _ c3 (hs₁.extBut _ _ c1 e))))
  have h2₅ : h₅.IsListIter i l (k + 2) := h2₄.extBut hs₅.extBut D.TOi.symm
  have hzlt : z < h₅.objs.size := Heap.lt_size hz₅
  show wpAny _ _ (Builtin.SmallTypes.ownedTupleHandOut (.ref z) (.ref h₅.objs.size) >>= _) _ _ _
  refine wpAny_bind ?_
  unfold Builtin.SmallTypes.ownedTupleHandOut
  have hz₆ : IsZip (h₅.push { cls := .type "tuple", data := .seq #[x, y] }) z TI TO .ellipsis := Heap.get?_push_of_some _ hz₅
  refine wpAny_bind (wpAny_setField_rec hz₆ (by simp) fun h₇ hz₇ hs₇ => ?_)
  replace hz₇ : IsZip h₇ z TI TO (rawInt h₅.objs.size) := hz₇
  refine wpAny_setField_rec hz₇ (by simp) fun h₈ hz₈ hs₈ => ?_
  replace hz₈ : IsZip h₈ z TI TO (rawInt h₅.objs.size) := hz₈
  have up : ∀ c o, c ≠ z → h₅.get? c = some o → h₈.get? c = some o := fun c o c1 e => hs₈.extBut _ _ c1 (hs₇.extBut _ _ c1 (Heap.get?_push_of_some _ e))
  have hT₈ : IsPair h₈ h₅.objs.size x y := hs₈.extBut _ _ (Nat.ne_of_gt hzlt) (hs₇.extBut _ _ (Nat.ne_of_gt hzlt) (Heap.get?_push_size _ rfl))
  rw [hsz] at hz₈ hT₈
  refine wpAny_pure ⟨_, rfl, ?_⟩
  show Q (.ref h₅.objs.size) _
  rw [hsz]
  exact hQ h₈ hz₈ (up _ _ D.TOz hTO₅) (h2₅.at fun o e => up _ o D.iz e) hT₈ fun c o c1 c2 c3 e => up c o c1 (hk₅ c o c1 c2 c3 e)
theorem zs_end {z TI TO i l : Addr} {k : Nat} {xs : Array Value} {a b : Value} {Q : Fin → Shared → Prop} (hh : A.handled = none) (D : ZipSame z TI TO i l)
    (hz : IsZip s.heap z TI TO .none) (hTI : IsPair s.heap TI (.ref i) (.ref i))
    (h1 : s.heap.IsListIter i l k) (hl : s.heap.IsList l xs) (hend : xs[k]? = none)
    (hE : ∀ h' e, (∀ c o, c ≠ z → c ≠ TO → c ≠ i → s.heap.get? c = some o → h'.get? c = some o) → (∃ o, h'.get? e = some o ∧ o.cls = .type "StopIteration") → E (.ref e) { s with heap := h' }) :
    wpAny (model prog w) A (Builtin.«zip.__next__» ⟨[.ref z], []⟩) Q E s := by
  show wpAny _ _ (field (.ref z) 2 >>= _) _ _ _
  refine wpAny_bind (wpAny_field hz rfl (x := .bool false) rfl ?_)
  show wpAny _ _ (field (.ref z) 3 >>= _) _ _ _
  refine wpAny_bind (wpAny_field hz rfl (x := .ref TI) rfl ?_)
  refine wpAny_bind (wpAny_seqItems hTI rfl ?_)
  show wpAny _ _ (Builtin.SmallTypes.ownedTupleIsFree (.ref z) >>= _) _ _ _
  refine wpAny_bind ?_
  unfold Builtin.SmallTypes.ownedTupleIsFree
  refine wpAny_bind (wpAny_field hz rfl (x := .none) rfl (wpAny_pure ?_))
  simp only [if_true]
  refine wpAny_bind (wpAny_rule ?_)
  refine wpAny_bind (wpAny_field hz rfl (x := .ref TO) rfl ?_)
  refine wpAny_bind (wpAny_setField_rec hz (by simp) fun h₁ hz₁ hs₁ => ?_)
  replace hz₁ : IsZip h₁ z TI TO .ellipsis := hz₁
  refine wpAny_bind ?_
  simp only [List.zipIdx_cons, List.zipIdx_nil, List.forIn_cons, List.forIn_nil]
  refine wpAny_bind (wpAny_bind (wpAny_onRaise ?_))
  show wpAny _ _ (Builtin.SmallTypes.nextOf (.ref i) >>= _) _ _ _
  refine wpAny_bind (wpAny_nextOf_list_end hh (h1.extBut hs₁.extBut D.iz) (hl.extBut hs₁.extBut D.lz) hend fun h₂ e hs₂ he => ?_)
  obtain ⟨oe, hoe, hce⟩ := he
  have hz₂ : IsZip h₂ z TI TO .ellipsis := hs₂ _ _ D.iz.symm hz₁
  have hez : e ≠ z := fun x => by subst x; rw [hz₂] at hoe; cases hoe; simp at hce
  refine wpAny_setField_rec hz₂ (by simp) fun h₃ _ hs₃ => hE h₃ e (fun c o c1 _ c3 x => hs₃.extBut _ _ c1 (hs₂ _ _ c3 (hs₁.extBut _ _ c1 x))) ⟨oe, hs₃.extBut _ _ hez hoe, hce⟩
theorem next_zs {z TI TO i l : Addr} {k : Nat} {xs : Array Value} {x y a b : Value} {Q : Option Value → Shared → Prop} (D : ZipSame z TI TO i l)
    (hz : IsZip s.heap z TI TO .none) (hTI : IsPair s.heap TI (.ref i) (.ref i)) (hTO : IsPair s.heap TO a b)
    (h1 : s.heap.IsListIter i l k) (hl : s.heap.IsList l xs) (hx : xs[k]? = some x) (hy : xs[k + 1]? = some y)
    (hQ : ∀ h', IsZip h' z TI TO (rawInt s.heap.objs.size) → IsPair h' TO x y → h'.IsListIter i l (k + 2) → IsPair h' s.heap.objs.size x y →
      (∀ c o, c ≠ z → c ≠ TO → c ≠ i → s.heap.get? c = some o → h'.get? c = some o) → Q (some (.ref s.heap.objs.size)) { s with heap := h' }) :
    wpAny (model prog w) A (pyNext (.ref z)) Q E s := by
  have hT : s.TypeIs (.ref z) "zip" := ⟨_, hz, rfl⟩
  unfold pyNext
  exact wpAny_bind (wpAny_attempt (wpAny_callSpecial?_slot (name := Str.ofString "__next__") hT PySem.F.slot_zip_next
    (wpAny_call_entry PySem.F.slot_zip_next hT PySem.F.entry_zip_next
      (zs_item D hz hTI hTO h1 hl hx hy fun h' a1 a2 a3 a4 a5 => wpAny_pure (hQ h' a1 a2 a3 a4 a5)) (PySem.F.args_zip_next_1 _))))
theorem stop_zs {z TI TO i l : Addr} {k : Nat} {xs : Array Value} {Q : Option Value → Shared → Prop} (hh : A.handled = none) (D : ZipSame z TI TO i l)
    (hz : IsZip s.heap z TI TO .none) (hTI : IsPair s.heap TI (.ref i) (.ref i))
    (h1 : s.heap.IsListIter i l k) (hl : s.heap.IsList l xs) (hend : xs[k]? = none)
    (hQ : ∀ h', (∀ c o, c ≠ z → c ≠ TO → c ≠ i → s.heap.get? c = some o → h'.get? c = some o) → Q none { s with heap := h' }) : wpAny (model prog w) A (pyNext (.ref z)) Q E s := by
  have hT : s.TypeIs (.ref z) "zip" := ⟨_, hz, rfl⟩
  unfold pyNext
  refine wpAny_bind (wpAny_attempt (wpAny_callSpecial?_slot (name := Str.ofString "__next__") hT PySem.F.slot_zip_next
    (wpAny_call_entry PySem.F.slot_zip_next hT PySem.F.entry_zip_next (zs_end (a := .none) (b := .none) hh D hz hTI h1 hl hend fun h' e hk he => ?_) (PySem.F.args_zip_next_1 _))))
  obtain ⟨o, ho, hc⟩ := he
  refine wpAny_bind (wpAny_isInstance (T := "StopIteration") (b := true) ⟨o, ho, hc⟩ isSubtype_stop ?_)
  exact wpAny_pure (hQ _ hk)
theorem zs_new {i l : Addr} {k : Nat} {R : Result → Shared → Prop} (hi : s.heap.IsListIter i l k)
    (h : R (.ok (.ret (.ref (s.heap.objs.size + 2)))) { s with heap := ((s.heap.push { cls := .type "tuple", data := .seq #[.ref i, .ref i] }).push { cls := .type "tuple", data := .seq #[.none, .none] }).push { cls := .type "zip", data := .fields #[.none, .bool false, .bool false, .ref s.heap.objs.size, .ref (s.heap.objs.size + 1)] } }) :
    wpAny (model prog w) A.in1 (Builtin.«zip.__new__» ⟨[.type "zip", .ref i, .ref i], []⟩) (fun fin s' => match fin with | .done f => R (.ok f) s' | .again c => c.quiet = true ∧ codeAny (model prog w) A c R s') (fun e s' => R (.error e) s') s := by
  have hsub := sub_zip
  have hi0 : Heap.IsListIter (Shared.heap ⟨s.heap, s.gens, s.drawn, s.toks, s.os⟩) i l k := hi
  obtain ⟨hp, g, d, tk, os⟩ := s
  have z1 : (hp.push { cls := .type "tuple", data := .seq #[.ref i, .ref i] }).objs.size = hp.objs.size + 1 := Heap.size_push ..
  have z2 : ((hp.push { cls := .type "tuple", data := .seq #[.ref i, .ref i] }).push { cls := .type "tuple", data := .seq #[.none, .none] }).objs.size = hp.objs.size + 2 := by rw [Heap.size_push, z1]
  dsimp only at h
  rw [← z2, ← z1] at h
  wp_walk using wpAny_pyIter_listiter hi0
  exact h
end
end Mine
namespace Mine
section
variable {prog : Program} {w : World} {A : Around} {E : Value → Shared → Prop} {s : Shared} {x : Addr} {xs : Array Value} {n : Nat}
/-- l[a:b] = a plain list, of a plain list -/
theorem lst_setSlice {sl y : Addr} {ys : Array Value} {ny : Nat} {vl vu : Value} {lo hi : Option Int} {Q : Unit → Shared → Prop} (hx : s.heap.get? x = some { cls := .type "list", data := .seq xs n })
    (hs : s.heap.IsSliceOf sl vl vu .none) (pl : IsPart vl lo) (pu : IsPart vu hi) (hy : s.heap.get? y = some { cls := .type "list", data := .seq ys ny }) (hyx : y ≠ x)
    (h : Q () { s with heap := s.heap.update x (Obj.mapSeq fun xs' => xs'.extract 0 (sliceBounds lo hi none xs.size).1.toNat ++ ys ++ xs'.extract (max (sliceBounds lo hi none xs.size).1 (sliceBounds lo hi none xs.size).2.1).toNat xs'.size) })
    (hsz : xs.size < 100000) (hsy : ys.size < 100000) : wpAny (model prog w) A (setItem (.ref x) (.ref sl) (.ref y)) Q E s := by
  have hTx : s.TypeIs (.ref x) "list" := ⟨_, hx, rfl⟩
  unfold setItem
  try with_reducible refine wpAny_holding ?_
  refine wpAny_bind (wpAny_sequenceKey hTx (by decide) ?_)
  exact wpAny_bind (wpAny_callSpecial?_slot (name := Str.ofString "__setitem__") hTx PySem.F.slot_list_setitem
    (wpAny_call_entry PySem.F.slot_list_setitem hTx PySem.F.entry_list_setitem (setSlice_body hx rfl hs pl pu hy hyx ⟨_, rfl, wpAny_pure h⟩ hsz hsy) (PySem.F.args_list_setitem_3 _ _ _)))
/-- iter(l) -/
theorem iter_list {Q : Value → Shared → Prop} (hx : s.heap.get? x = some { cls := .type "list", data := .seq xs n })
    (h : Q (.ref s.heap.objs.size) { s with heap := s.heap.push { cls := .type "list_iterator", data := .fields #[.ref x, .int 0 0] } }) :
    wpAny (model prog w) A (call (.builtin "iter") [.ref x]) Q E s := by
  refine call_function_entry (by decide +kernel) (by decide +kernel) kdk_entry_iter (kdk_args_iter _) ?_
  unfold Builtin.«iter»
  refine wpAny_bind (m := someArgs "iter" 1 2 _) (wpAny_of_eq (a := [Value.ref x]) (by first | rfl | kernel_rfl!) ?_)
  show wpAny _ _ (pyIter (.ref x) >>= _) _ _ _
  refine wpAny_bind (wpAny_pyIter_list ⟨_, hx, rfl, _, rfl⟩ ?_)
  exact wpAny_pure ⟨_, rfl, h⟩
theorem mul_list2 {l : Addr} {v : Value} {k : Nat} {u : Tok} {Q : Value → Shared → Prop}
    (hl : s.heap.get? l = some { cls := .type "list", data := .seq #[v] k })
    (h : Q (.ref s.heap.objs.size) { s with heap := s.heap.push { cls := .type "list", data := .seq #[v, v] } }) :
    wpAny (model prog w) A (binaryOp .Mult (.ref l) (.int 2 u)) Q E s :=
  wpAny_binaryOp_repeat_ref (T := "list") (U := "int") (by decide) ⟨_, hl, rfl⟩ (fun s' => typeIs_int s' 2 u) noFill_list_mul PySem.F.fills_int_mul PySem.F.slot_int_rmul repeat_list PySem.F.slot_int_index.lookup
    (call_meets PySem.F.slot_int_rmul (typeIs_int s 2 u) PySem.F.entry_int_rmul (PySem.F.args_int_rmul_2 _ _) (int___rmul___int_list 2 u l #[v] k)
      ⟨hl, rfl, ⟨_, hl, rfl⟩, call_meets PySem.F.slot_list_mul ⟨_, hl, rfl⟩ PySem.F.entry_list_mul (PySem.F.args_list_mul_2 _ _)
        (AutoListH.list___mul___list_int_3 l #[v] k 2 u (by simp [Builtin.List.listFitsIndex]) (by show ¬ (1 * 2 > _); decide) (by simp [Builtin.List.listTooLong, sizeLine]))
        ⟨hl, h⟩⟩)
theorem star_list {l : Addr} {k : Nat} {Q : List Value → Shared → Prop} (hx : s.heap.get? l = some { cls := .type "list", data := .seq xs k }) (hz : xs.size < 100000)
    (h : ∀ h', (∀ b o, s.heap.get? b = some o → h'.get? b = some o) → Q xs.toList { s with heap := h' }) : StarOf (model prog w) A E (.ref l) Q s := by
  have hT' : s.TypeIs (.ref l) "list" := ⟨_, hx, rfl⟩
  have z : wpAny (model prog w) A (collect (.ref l)) Q E s := wpAny_collect_seq l (.inl rfl) hx rfl rfl (fun h' hk => h h' hk) (by simp only [sizeLine]; walk_at "om")
  unfold StarOf notIterableAtAll
  exact wpAny_bind (wpAny_specialOf hT' PySem.F.slot_list_iter.lookup (wpAny_pure ⟨rfl, z⟩))
/-- zip(*e) -/
theorem zipStar {env : Env} {pos p : Pos} {e : Expr} {Q : Value → Shared → Prop} (h : wpAny (model prog w) A (eval e env) (fun v s₁ => StarOf (model prog w) A E v (fun vs s₂ => wpAny (model prog w) A (call (.type "zip") vs) Q E s₂) s₁) E s)
    (he : starEach [.Starred e p] env = [(true, eval e env)] := by rfl) :
    wpAny (model prog w) A (callWith pos (.type "zip") [] (backTo pos (starEach [.Starred e p] env)) []) Q E s := by
  rw [he]
  refine ks_call (P := fun _ => True) rfl (fun _ _ => ⟨.machine, .inr (.inl rfl), .now⟩) (ks_lone ?_)
  refine wpAny_mono h (fun v s₁ h₁ => ?_) fun _ _ z => z
  unfold StarOf at h₁ ⊢
  refine wpAny_mono h₁ (fun b s₂ h₂ => ⟨h₂.1, wpAny_mono h₂.2 (fun vs s₃ h₃ => ⟨trivial, h₃⟩) fun _ _ z => z⟩) fun _ _ z => z
abbrev zipObj (TI TO : Addr) : Obj := { cls := .type "zip", data := .fields #[.none, .bool false, .bool false, .ref TI, .ref TO] }
theorem call_zs {i l : Addr} {k : Nat} {Q : Value → Shared → Prop} (hi : s.heap.IsListIter i l k)
    (h : Q (.ref (s.heap.objs.size + 2)) { s with heap := ((s.heap.push { cls := .type "tuple", data := .seq #[.ref i, .ref i] }).push { cls := .type "tuple", data := .seq #[.none, .none] }).push (zipObj s.heap.objs.size (s.heap.objs.size + 1)) }) :
    wpAny (model prog w) A (call (.type "zip") [.ref i, .ref i]) Q E s := by
  refine callType_newIn (S := fun A R s => (∃ l k, s.heap.IsListIter i l k) ∧ R (.ok (.ret (.ref (s.heap.objs.size + 2)))) { s with heap := ((s.heap.push { cls := .type "tuple", data := .seq #[.ref i, .ref i] }).push { cls := .type "tuple", data := .seq #[.none, .none] }).push (zipObj s.heap.objs.size (s.heap.objs.size + 1)) })
    PySem.F.called_zip (by decide) (PySem.F.typeCall_zip_2 _ _) (PySem.F.newCall_zip_2 _ _) (fun obj => PySem.F.args_object_init_3 obj _ _) PySem.F.entry_zip_new
    (fun A R s h => let ⟨⟨l, k, hi⟩, h⟩ := h; zs_new hi h) ⟨⟨l, k, hi⟩, ?_⟩
  have z1 : (s.heap.push { cls := .type "tuple", data := .seq #[.ref i, .ref i] }).objs.size = s.heap.objs.size + 1 := Heap.size_push ..
  have z2 : ((s.heap.push { cls := .type "tuple", data := .seq #[.ref i, .ref i] }).push { cls := .type "tuple", data := .seq #[.none, .none] }).objs.size = s.heap.objs.size + 2 := by rw [Heap.size_push, z1]
  have e : (((s.heap.push { cls := .type "tuple", data := .seq #[.ref i, .ref i] }).push { cls := .type "tuple", data := .seq #[.none, .none] }).push (zipObj s.heap.objs.size (s.heap.objs.size + 1))).get? (s.heap.objs.size + 2) = some (zipObj s.heap.objs.size (s.heap.objs.size + 1)) := by
    rw [← z2]
    exact Heap.get?_push_size _ rfl
  exact ⟨⟨_, e, rfl⟩, h⟩
end
end Mine
namespace Mine
section
variable {P : Params} {foot : List Addr} {g : Heap} {σ s s' : Shared} {L : Addr} {m m' : Str → Option Value} {x d ll : Addr} {z : Int} {xs : Array Value} {ps : List (Str × Str)} {lines : List Str} {ex ex' : List (Addr × Obj)}
/-- the extra objects changed -/
theorem FO.exs (F : FO P ex foot g σ s L m x d ll z xs ps lines) {h' : Heap} (hm : ex'.map (·.1) = ex.map (·.1)) (hk : ∀ c o, c ∉ ex.map (·.1) → s.heap.get? c = some o → h'.get? c = some o)
    (hg : ∀ p ∈ ex', h'.get? p.1 = some p.2) (hc : ∀ p ∈ ex', p.2.cls = .type "tuple" → ∃ o, (p.1, o) ∈ ex ∧ o.cls = .type "tuple") (t : Nat := s.toks) :
    FO P ex' foot g σ { s with heap := h', toks := t } L m x d ll z xs ps lines := by
  obtain ⟨k, od, lv, kl, tb, tb2, tz, O, hn, hP, hS, h1, h2, hnt⟩ := id F
  have nd : ([x, d, ll, 197, 204] ++ ex.map (·.1) : List Addr).Nodup := O.nd
  have mem : ∀ q ∈ ex, q ∈ led5 ex x (accObj d xs k) d od ll (lstObj lv kl) (tabObj tb) (tabObj tb2) := fun q hq => List.mem_append_right [_, _, _, _, _] hq
  have out : ∀ c, g.get? c ≠ none → c ∉ ex.map (·.1) := fun c hc hmem => by
    obtain ⟨q, hq, rfl⟩ := List.mem_map.mp hmem
    exact hc (O.lg q (mem q hq)).2.2
  have outL : L ∉ ex.map (·.1) := fun hmem => by
    obtain ⟨q, hq, e⟩ := List.mem_map.mp hmem
    exact (O.lg q (mem q hq)).2.1 e
  have O' : Own P foot g σ { s with heap := h', toks := t } L m (led5 ex' x (accObj d xs k) d od ll (lstObj lv kl) (tabObj tb) (tabObj tb2)) := by
    refine ⟨O.ns.at' fun o e => hk _ _ outL e, fun b o e => hk b o (out b (by rw [e]; nofun)) (O.keep b o e), O.kn, O.newL, fun p hp => ?_, ?_, O.bare, O.drawn, O.os, O.base⟩
    · rcases List.mem_append.mp (show p ∈ [(x, accObj d xs k), (d, od), (ll, lstObj lv kl), (197, tabObj tb), (204, tabObj tb2)] ++ ex' from hp) with hp | hp
      · have l := O.lg p (List.mem_append_left ex hp)
        exact ⟨hk _ _ (fun hm => ndj nd (List.mem_map_of_mem (f := (·.1)) hp) hm rfl) l.1, l.2⟩
      · have : p.1 ∈ ex.map (·.1) := by rw [← hm]; exact List.mem_map_of_mem hp
        obtain ⟨q, hq, e⟩ := List.mem_map.mp this
        exact ⟨hg p hp, e ▸ (O.lg q (mem q hq)).2⟩
    · show ([x, d, ll, 197, 204] ++ ex'.map (·.1) : List Addr).Nodup
      rw [hm]; exact nd
  refine ⟨k, od, lv, kl, tb, tb2, tz, O', hn.at fun o e => hk _ _ (fun hm => ndj nd (.tail _ (.head _)) hm rfl) e, hP, hS, h1, h2, ⟨fun p hp hp2 => ?_, hnt.old⟩⟩
  obtain ⟨o, ho, hoc⟩ := hc p hp hp2
  exact hnt.tup (p.1, o) ho hoc
/-- the extra objects are let go, however they changed -/
theorem FO.dropEx (F : FO P ex foot g σ s L m x d ll z xs ps lines) {h' : Heap} (hk : ∀ c o, c ∉ ex.map (·.1) → s.heap.get? c = some o → h'.get? c = some o) (t : Nat := s.toks) :
    FO P [] foot g σ { s with heap := h', toks := t } L m x d ll z xs ps lines := by
  obtain ⟨k, od, lv, kl, tb, tb2, tz, O, hn, hP, hS, h1, h2, hnt⟩ := id F
  have nd : ([x, d, ll, 197, 204] ++ ex.map (·.1) : List Addr).Nodup := O.nd
  have mem : ∀ q ∈ ex, q ∈ led5 ex x (accObj d xs k) d od ll (lstObj lv kl) (tabObj tb) (tabObj tb2) := fun q hq => List.mem_append_right [_, _, _, _, _] hq
  have out : ∀ c, g.get? c ≠ none → c ∉ ex.map (·.1) := fun c hc hmem => by
    obtain ⟨q, hq, rfl⟩ := List.mem_map.mp hmem
    exact hc (O.lg q (mem q hq)).2.2
  have outL : L ∉ ex.map (·.1) := fun hmem => by
    obtain ⟨q, hq, e⟩ := List.mem_map.mp hmem
    exact (O.lg q (mem q hq)).2.1 e
  have O' : Own P foot g σ { s with heap := h', toks := t } L m (led5 [] x (accObj d xs k) d od ll (lstObj lv kl) (tabObj tb) (tabObj tb2)) := by
    refine ⟨O.ns.at' fun o e => hk _ _ outL e, fun b o e => hk b o (out b (by rw [e]; nofun)) (O.keep b o e), O.kn, O.newL, fun p hp => ?_, (List.nodup_append.mp nd).1, O.bare, O.drawn, O.os, O.base⟩
    have l := O.lg p (List.mem_append_left ex hp)
    exact ⟨hk _ _ (fun hm => ndj nd (List.mem_map_of_mem (f := (·.1)) hp) hm rfl) l.1, l.2⟩
  exact ⟨k, od, lv, kl, tb, tb2, tz, O', hn.at fun o e => hk _ _ (fun hm => ndj nd (.tail _ (.head _)) hm rfl) e, hP, hS, h1, h2, ⟨fun p hp => absurd hp List.not_mem_nil, hnt.old⟩⟩
theorem FO.exNd (F : FO P ex foot g σ s L m x d ll z xs ps lines) : (ex.map (·.1)).Nodup ∧ ∀ a ∈ ex.map (·.1), a ≠ L ∧ g.get? a = none := by
  obtain ⟨k, od, lv, kl, tb, tb2, tz, O, -⟩ := id F
  have nd : ([x, d, ll, 197, 204] ++ ex.map (·.1) : List Addr).Nodup := O.nd
  refine ⟨(List.nodup_append.mp nd).2.1, fun a ha => ?_⟩
  obtain ⟨q, hq, rfl⟩ := List.mem_map.mp ha
  exact (O.lg q (.tail _ (.tail _ (.tail _ (.tail _ (.tail _ hq)))))).2
end
section
variable {prog : Program} {w : World} {A : Around} {E : Value → Shared → Prop} {foot : List Addr} {g : Heap} {σ s : Shared} {L : Addr} {m : Str → Option Value} {x d ll : Addr} {z : Int} {xs : Array Value} {ps : List (Str × Str)} {lines : List Str} {ex : List (Addr × Obj)}
theorem lstF {M : Model} {P : Params} {vs : List Value} {Q : Value → Shared → Prop} (F : FO P ex foot g σ s L m x d ll z xs ps lines) (h : ∀ a s', s.heap.get? a = none → FO P ((a, { cls := .type "list", data := .seq vs.toArray }) :: ex) foot g σ s' L m x d ll z xs ps lines → Q (.ref a) s')
    (hsz : vs.length ≤ sizeLine := by first | exact Nat.le_of_ble_eq_true rfl | size_fits) : wpAny M A (newList vs) Q E s :=
  wpAny_newList (h _ _ (get?_size_none _) (F.addEx _)) hsz
theorem setSliceF {lp sl y : Addr} {vs ys : Array Value} {n ny : Nat} {vl vu : Value} {lo hi : Option Int} {Q : Unit → Shared → Prop} (F : FO w.params ex foot g σ s L m x d ll z xs ps lines) (i : Nat) (hi' : ex[i]? = some (lp, { cls := .type "list", data := .seq vs n }))
    (hs : s.heap.IsSliceOf sl vl vu .none) (pl : IsPart vl lo) (pu : IsPart vu hi) (hy : s.heap.get? y = some { cls := .type "list", data := .seq ys ny }) (hyx : y ≠ lp) (hsz : vs.size < 100000) (hsy : ys.size < 100000)
    (h : ∀ s' n', FO w.params (ex.set i (lp, { cls := .type "list", data := .seq (vs.extract 0 (sliceBounds lo hi none vs.size).1.toNat ++ ys ++ vs.extract (max (sliceBounds lo hi none vs.size).1 (sliceBounds lo hi none vs.size).2.1).toNat vs.size) n' })) foot g σ s' L m x d ll z xs ps lines → Q () s') :
    wpAny (model prog w) A (setItem (.ref lp) (.ref sl) (.ref y)) Q E s := by
  have hlp := F.exAt (List.mem_of_getElem? hi')
  refine lst_setSlice hlp hs pl pu hy hyx ?_ hsz hsy
  have hl : ∃ n', (s.heap.update lp (Obj.mapSeq fun xs' => xs'.extract 0 (sliceBounds lo hi none vs.size).1.toNat ++ ys ++ xs'.extract (max (sliceBounds lo hi none vs.size).1 (sliceBounds lo hi none vs.size).2.1).toNat xs'.size)).get? lp = some { cls := .type "list", data := .seq (vs.extract 0 (sliceBounds lo hi none vs.size).1.toNat ++ ys ++ vs.extract (max (sliceBounds lo hi none vs.size).1 (sliceBounds lo hi none vs.size).2.1).toNat vs.size) n' } :=
    ⟨_, Heap.get?_update_self _ hlp rfl⟩
  obtain ⟨n', hl⟩ := hl
  exact h _ n' (F.chEx i hi' (Heap.SameBut.update ..).extBut hl (fun e => e))
end
end Mine
namespace Mine
def chunksOf (w0 : List Nat) (ws : List (List Nat)) : List (Str × Str) := ("", ofL w0) :: ws.map fun w => (" ", ofL w)
abbrev FState := Int × List (Str × Str) × List Str
def apStep (W : Int) (st : FState) (c : Str × Str) : FState := apState W st.1 st.2.1 st.2.2 c.1 c.2
def apFold (W : Int) (st : FState) (cs : List (Str × Str)) : FState := cs.foldl (apStep W) st
def flat2 : List (Str × Str) → List Str
  | [] => []
  | c :: cs => c.1 :: c.2 :: flat2 cs
theorem flat2_get : ∀ (cs : List (Str × Str)) (i : Nat) (c : Str × Str), cs[i]? = some c → (flat2 cs)[2 * i]? = some c.1 ∧ (flat2 cs)[2 * i + 1]? = some c.2
  | c :: cs, 0, c', h => by cases h; exact ⟨rfl, rfl⟩
  | c :: cs, i + 1, c', h => by
    have := flat2_get cs i c' (by simpa using h)
    have e1 : 2 * (i + 1) = 2 * i + 1 + 1 := by walk_at "om"
    rw [e1]
    exact this
theorem flat2_len : ∀ cs : List (Str × Str), (flat2 cs).length = 2 * cs.length
  | [] => rfl
  | c :: cs => by simp only [flat2, List.length_cons, flat2_len cs]; walk_at "om"
theorem cut_flat : ∀ (ws : List (List Nat)) (w : List Nat), ("" : Str) :: cutV w ws = flat2 (chunksOf w ws) := by
  have : ∀ (ws : List (List Nat)) (w : List Nat), cutV w ws = ofL w :: flat2 (ws.map fun w => (" ", ofL w)) := by
    intro ws
    induction ws with
    | nil => intro w; rfl
    | cons v vs ih => intro w; simp only [cutV, ih, List.map_cons, flat2]
  intro ws w
  rw [this]; rfl
/-- what holds of the formatter between the chunks -/
structure StOk (n : Nat) (st : FState) : Prop where
  z0 : 0 ≤ st.1
  z1 : st.1 ≤ 1000
  ps : st.2.1.length ≤ n
  ls : st.2.2.length ≤ n
  small : Small st.2.1
theorem apStep_ok {W : Int} {n : Nat} {st : FState} {c : Str × Str} (h : StOk n st) (hc : c.1.length ≤ 999 ∧ c.2.length ≤ 1000) : StOk (n + 1) (apStep W st c) := by
  obtain ⟨z, ps, ls⟩ := st
  obtain ⟨h1, h2, h3, h4, h5⟩ := h
  dsimp only at h1 h2 h3 h4 h5
  have one : Small [c] := fun p hp => by
    have : p = c := by simpa using hp
    subst this; exact ⟨by walk_at "om", hc.2⟩
  unfold apStep apState
  dsimp only
  split
  · split
    · split
      · refine ⟨Int.le_refl _, (show (0 : Int) ≤ 1000 by decide), by simp, ?_, fun p hp => ?_⟩
        · dsimp only
          unfold nlLines
          split
          · simp; exact h4
          · walk_at "om"
        · have : p = (if c.1 = "" then (" " : Str) else c.1, c.2) := by simpa using hp
          subst this
          refine ⟨?_, hc.2⟩
          dsimp only
          split
          · decide
          · walk_at "om"
      · exact ⟨h1, h2, by simp, by dsimp only; walk_at "om", one⟩
    · exact ⟨Int.le_refl _, (show (0 : Int) ≤ 1000 by decide), by simp, by simp; exact h4, one⟩
  · refine ⟨h1, h2, by simp; exact h3, by dsimp only; walk_at "om", fun p hp => ?_⟩
    rcases List.mem_append.mp hp with hp | hp
    · exact h5 p hp
    · exact one p hp
theorem apFold_ok {W : Int} : ∀ {cs : List (Str × Str)} {n : Nat} {st : FState}, StOk n st → (∀ c ∈ cs, c.1.length ≤ 999 ∧ c.2.length ≤ 1000) → StOk (n + cs.length) (apFold W st cs)
  | [], _, _, h, _ => h
  | c :: cs, n, st, h, hc => by
    have := apFold_ok (W := W) (cs := cs) (apStep_ok (W := W) h (hc c List.mem_cons_self)) fun c' h' => hc c' (List.mem_cons_of_mem _ h')
    rw [List.length_cons, show n + (cs.length + 1) = n + 1 + cs.length by walk_at "om"]
    exact this
theorem apStep_ne {W : Int} {st : FState} {c : Str × Str} : (apStep W st c).2.1 ≠ [] := by
  unfold apStep apState
  split
  · split
    · split <;> simp
    · simp
  · simp
theorem strs_get {vs : List Value} {ys : List Str} {i : Nat} {y : Str} (h : StrsAre vs ys) (e : ys[i]? = some y) : ∃ t, vs[i]? = some (.str y t) := h.get i y e
theorem strs_len {vs : List Value} {ys : List Str} (h : StrsAre vs ys) : vs.length = ys.length := h.length
section
variable {prog : Program} {w : World} {A : Around} {E : Value → Shared → Prop} {R : Result → Shared → Prop} {foot : List Addr} {g : Heap} {σ s : Shared} {L : Addr} {m : Str → Option Value} {x d ll fm : Addr} {z W : Int} {xs : Array Value} {ps : List (Str × Str)} {lines : List Str} {ex : List (Addr × Obj)}
theorem fo_append {f v : Str} {tf tv : Tok} {Q : Value → Shared → Prop} (pg : PG prog w.params) (F : FO w.params ex foot g σ s L m x d ll z xs ps lines) (K : FmAt g fm ll x W) (hroom : A.depth + 60 < recursionLimit) (hu : A.units + 160 < cLine) (hh : A.handled = none)
    (hB : Small (ps ++ [(f, v)])) (hsz : ps.length ≤ 400) (hz : 0 ≤ z) (hz2 : z ≤ 1000) (hl : lines.length < 900) (hf : ps ≠ [] → f = " ")
    (h : ∀ g' s' xs', Up g g' → FO w.params ex foot g' σ s' L m x d ll (apState W z ps lines f v).1 xs' (apState W z ps lines f v).2.1 (apState W z ps lines f v).2.2 → Q .none s') :
    wpAny (model prog w) A (call (.ref 148) [.ref fm, .str f tf, .str v tv]) Q E s := by
  refine wpAny_call (append_ok pg F.X hroom hu hh F.S (K.keeps fun b o e _ => F.own.keep _ _ e) hB hsz hz hz2 hl hf fun s' p S => ?_)
  obtain ⟨g', xs', up, F'⟩ := F.re p S
  exact h g' s' xs' up F'
/-- where the loop stands: n turns are left -/
inductive AscInv (P : Params) (cs : List (Str × Str)) (g : Heap) (σ : Shared) (L : Addr) (x d ll fm : Addr) (z W : Int) (zz TI TO it lp : Addr) (vs' : List Value) (n' : Nat) (n : Nat) (s' : Shared) : Prop where
  | mk (i : Nat) (g' : Heap) (xs' : Array Value) (m' : Str → Option Value) (a b : Value) (oi : Obj) (hn : n + i = cs.length + 1) (hi : i ≤ cs.length) (up : Up g g')
    (F : FO P [(zz, zipObj TI TO), (TO, { cls := .type "tuple", data := .seq #[a, b] }), (TI, { cls := .type "tuple", data := .seq #[.ref it, .ref it] }), (it, oi), (lp, { cls := .type "list", data := .seq vs'.toArray n' })] (foot5 x d ll) g' σ s' L m' x d ll (apFold W (z, [], []) (cs.take i)).1 xs' (apFold W (z, [], []) (cs.take i)).2.1 (apFold W (z, [], []) (cs.take i)).2.2)
    (hself : m' "self" = some (.ref fm)) (hit : s'.heap.IsListIter it lp (2 * i))
theorem not_in5 {α : Type} {a b c d e x : α} (h : x ∉ [a, b, c, d, e]) : x ≠ a ∧ x ≠ b ∧ x ≠ c ∧ x ≠ d ∧ x ≠ e := by simpa [not_or] using h
theorem cut_len : ∀ (ws : List (List Nat)) (w : List Nat), (cutV w ws).length = 2 * ws.length + 1
  | [], _ => rfl
  | v :: vs, w => by have := cut_len vs v; simp only [cutV, List.length_cons, this]; walk_at "om"
theorem chunks_ok {w0 : List Nat} {ws0 : List (List Nat)} (hl0 : w0.length ≤ 900) (hls : ∀ v ∈ ws0, v.length ≤ 900) : ∀ c ∈ chunksOf w0 ws0, c.1.length ≤ 999 ∧ c.2.length ≤ 1000 := fun c hc => by
  rcases List.mem_cons.mp hc with rfl | hc
  · exact ⟨(show 0 ≤ 999 by decide), Nat.le_trans hl0 (by decide)⟩
  · obtain ⟨v, hv, rfl⟩ := List.mem_map.mp hc
    exact ⟨(show 1 ≤ 999 by decide), Nat.le_trans (hls v hv) (by decide)⟩
theorem chunks_ne {w0 : List Nat} {ws0 : List (List Nat)} : ∀ i c, (chunksOf w0 ws0)[i]? = some c → i ≠ 0 → c.1 = (" " : Str) := fun i c hc hi => by
  cases i with
  | zero => exact absurd rfl hi
  | succ i =>
    rw [chunksOf, List.getElem?_cons_succ, List.getElem?_map] at hc
    obtain ⟨v, -, rfl⟩ := Option.map_eq_some_iff.mp hc
    exact rfl
theorem cut_front {vs : List Value} {t : Tok} (h : vs.length ≤ 401) : (vs.toArray.extract 0 (sliceBounds none (some 0) none vs.toArray.size).1.toNat ++ [Value.str "" t].toArray ++ vs.toArray.extract (max (sliceBounds none (some 0) none vs.toArray.size).1 (sliceBounds none (some 0) none vs.toArray.size).2.1).toNat vs.toArray.size) = (Value.str "" t :: vs).toArray := by
  have hb : sliceBounds none (some 0) none vs.toArray.size = (0, 0, 1) := by simp [sliceBounds]; walk_at "om"
  rw [hb]
  simp
theorem fold_next {W z : Int} {cs : List (Str × Str)} {i : Nat} {c : Str × Str} (hc : cs[i]? = some c) : apFold W (z, [], []) (cs.take (i + 1)) = apStep W (apFold W (z, [], []) (cs.take i)) c := by
  unfold apFold
  rw [List.take_add_one, hc]
  simp
theorem fold_ok {W z : Int} {cs : List (Str × Str)} {i : Nat} (hz : 0 ≤ z) (hz2 : z ≤ 1000) (hi : i ≤ cs.length) (ok : ∀ c ∈ cs, c.1.length ≤ 999 ∧ c.2.length ≤ 1000) : StOk i (apFold W (z, [], []) (cs.take i)) := by
  have := apFold_ok (W := W) (cs := cs.take i) (n := 0) (st := (z, [], [])) ⟨hz, hz2, Nat.le_refl _, Nat.le_refl _, fun p hp => absurd hp List.not_mem_nil⟩ fun c hc => ok c (List.mem_of_mem_take hc)
  simpa [Nat.min_eq_left hi] using this
theorem small_snoc {ps : List (Str × Str)} {c : Str × Str} (h : Small ps) (hc : c.1.length ≤ 999 ∧ c.2.length ≤ 1000) : Small (ps ++ [(c.1, c.2)]) := fun p hp => by
  rcases List.mem_append.mp hp with hp | hp
  · exact h p hp
  · have : p = (c.1, c.2) := by simpa using hp
    subst this; exact ⟨Nat.le_trans hc.1 (by decide), hc.2⟩
set_option maxHeartbeats 4000000 in
theorem ascii_ok {t : Str} {t1 kt t2 : Tok} {w0 : List Nat} {ws0 : List (List Nat)} (pg : PG prog w.params) (X : (Kn w.params).In s.heap) (hroom : A.depth + 80 < recursionLimit) (hu : A.units + 240 < cLine) (hh : A.handled = none) (S : FmtS w.params s.heap x d ll z [] []) (K : FmAt s.heap fm ll x W)
    (ht : lst t = joinB w0 ws0) (hsz : t.length ≤ 100000) (hd : dark w0) (h0 : w0 ≠ []) (hds : ∀ v ∈ ws0, dark v ∧ v ≠ []) (hl0 : w0.length ≤ 900) (hls : ∀ v ∈ ws0, v.length ≤ 900) (hn : ws0.length ≤ 200) (hz : 0 ≤ z) (hz2 : z ≤ 1000)
    (h : ∀ s', PostF x d ll s s' → FmtS w.params s'.heap x d ll (apFold W (z, [], []) (chunksOf w0 ws0)).1 (apFold W (z, [], []) (chunksOf w0 ws0)).2.1 (apFold W (z, [], []) (chunksOf w0 ws0)).2.2 → R (.ok (.ret .none)) s') :
    codeAny (model prog w) A (.call (.ref 141) ⟨[.ref fm, .str "" t1, .str t kt, .str " " t2], []⟩) R s := by
  refine enterF 141 [("self", .ref fm), ("fws", .str "" t1), ("string", .str t kt), ("splitchars", .str " " t2)] X (dl0 hroom) S ?_
  intro L s₁ g xs up F
  refine absQE fun Q E hR => ?_
  have K₁ : FmAt g fm ll x W := K.up S up
  refine mstN fun N hN => ?_
  repeat walk_at "st"
  refine ldG (v := .ref 78) F.own ?_
  refine re_method F.X ?_
  dsimp only
  refine callWith_method1 ?_
  repeat walk_at "st"
  refine ldO F.own (by rfl) ?_
  refine ldO F.own (by rfl) ?_
  refine PyProof.Rows.add_str (fun t' tk => ?_) (by show 0 + t.length ≤ sizeLine; simp only [sizeLine]; walk_at "om")
  repeat walk_at "st"
  have F := F.same fun _ O => O.toks tk
  generalize hs₂ : ({ s₁ with toks := tk } : Shared) = s₂ at F ⊢
  have hnil : ("" : Str) ++ t = t := by apply ext_lst; rw [lst_append]; rfl
  rw [hnil]
  refine re_split F.X ht hsz hd hds fun vs tk₃ hv => ?_
  have F₃ := F.addEx { cls := .type "list", data := .seq vs.toArray } rfl tk₃
  have hP0 : s₂.heap.get? s₂.heap.objs.size = none := get?_size_none _
  generalize s₂.heap.objs.size = lp at F₃ hP0 ⊢
  generalize hs₃ : ({ s₂ with heap := s₂.heap.push { cls := .type "list", data := .seq vs.toArray }, toks := tk₃ } : Shared) = s₃ at F₃ ⊢
  refine stF F₃ fun s₄ F₄ => ?_
  obtain ⟨tv, hv0⟩ : ∃ tv, vs[0]? = some (.str (ofL w0) tv) := strs_get hv (by cases ws0 <;> rfl)
  repeat walk_at "st"
  refine isTrue_plain ?_
  repeat walk_at "st"
  refine ldO F₄.own (by rfl) ?_
  refine intF F₄ fun t₅ s₅ F₅ => ?_
  have hlp : s₅.heap.get? lp = some { cls := .type "list", data := .seq vs.toArray } := F₅.exAt (.head _)
  refine subTail_any (inPython_builtin ⟨_, hlp, rfl⟩ slot_list_getitem.lookup) (wpAny_getItem_list (k := 0) ⟨_, hlp, rfl, _, rfl⟩ (by decide) (by decide) (by simpa using hv0) ?_) (by with_unfolding_all rfl)
  have hw0 : w0.length ≠ 0 := fun q => h0 (List.length_eq_zero_iff.mp q)
  refine PySem.P.truthy_str (by show ¬ ((w0.length : Int) ≥ 2 ^ 63); walk_at "om") ?_
  have F₆ := F₅.same fun _ O => O.toks (s₅.toks + 1 + 1)
  generalize hs₆ : ({ s₅ with toks := s₅.toks + 1 + 1 } : Shared) = s₆ at F₆ ⊢
  refine ifT (by show ((w0.length : Int) != 0) = true; simp only [bne_iff_ne, ne_eq]; walk_at "om") ?_
  repeat walk_at "st"
  refine strF (y := "") F₆ fun t₇ s₇ F₇ => ?_
  repeat walk_at "st"
  refine lstF F₇ fun l1 s₈ hl1 F₈ => ?_
  refine ldO F₈.own (by rfl) ?_
  refine wpAny_Slice (partNone ?_)
  repeat walk_at "st"
  refine intF F₈ fun t₉ s₉ F₉ => ?_
  refine partNone ?_
  have F₁₀ := F₉.addEx { cls := .type "slice", data := .fields #[.none, .int 0 t₉, .none] }
  have hsl0 : s₉.heap.get? s₉.heap.objs.size = none := get?_size_none _
  generalize s₉.heap.objs.size = sl at F₁₀ hsl0 ⊢
  generalize hs₁₀ : ({ s₉ with heap := s₉.heap.push { cls := .type "slice", data := .fields #[.none, .int 0 t₉, .none] } } : Shared) = s₁₀ at F₁₀ ⊢
  have hvl : vs.length ≤ 401 := by rw [strs_len hv, cut_len]; walk_at "om"
  have hlp₁₀ := F₁₀.exAt (a := lp) (.tail _ (.tail _ (.head _)))
  refine setSliceF (lo := none) (hi := some 0) F₁₀ 2 rfl ⟨_, F₁₀.exAt (.head _), rfl, rfl⟩ .none (.int _ _) (F₁₀.exAt (a := l1) (.tail _ (.head _))) (nne F₁₀.exNd.1 1 2) (Nat.lt_of_le_of_lt hvl (by decide)) (show 1 < 100000 by decide) fun s₁₁ n' F₁₁ => ?_
  rw [cut_front hvl] at F₁₁
  have F₁₁ := F₁₁.subEx (ex' := [(lp, { cls := .type "list", data := .seq (Value.str "" t₇ :: vs).toArray n' })]) (.cons _ (.cons _ (.cons₂ _ .slnil)))
  have hv' : StrsAre (Value.str "" t₇ :: vs) (flat2 (chunksOf w0 ws0)) := by rw [← cut_flat]; exact .cons _ _ hv
  generalize hvs' : (Value.str "" t₇ :: vs) = vs' at F₁₁ hv'
  repeat walk_at "st"
  refine wpAny_For ?_
  repeat walk_at "st"
  refine ldB (v := .type "zip") F₁₁.own ?_
  refine zipStar ?_
  repeat walk_at "st"
  refine ldB (v := .builtin "iter") F₁₁.own ?_
  refine callWith_method1 ?_
  repeat walk_at "st"
  refine ldO F₁₁.own (by rfl) ?_
  repeat walk_at "st"
  refine iter_list (F₁₁.exAt (a := lp) (.head _)) ?_
  have F₁₂ := F₁₁.addEx { cls := .type "list_iterator", data := .fields #[.ref lp, .int 0 0] }
  generalize s₁₁.heap.objs.size = it at F₁₂ ⊢
  generalize hs₁₂ : ({ s₁₁ with heap := s₁₁.heap.push { cls := .type "list_iterator", data := .fields #[.ref lp, .int 0 0] } } : Shared) = s₁₂ at F₁₂ ⊢
  repeat walk_at "st"
  refine lstF F₁₂ fun l2 s₁₃ hl2 F₁₃ => ?_
  refine intF F₁₃ fun t₁₄ s₁₄ F₁₄ => ?_
  refine mul_list2 (F₁₄.exAt (a := l2) (.head _)) ?_
  have F₁₅ := F₁₄.addEx { cls := .type "list", data := .seq #[.ref it, .ref it] }
  generalize s₁₄.heap.objs.size = l3 at F₁₅ ⊢
  generalize hs₁₅ : ({ s₁₄ with heap := s₁₄.heap.push { cls := .type "list", data := .seq #[.ref it, .ref it] } } : Shared) = s₁₅ at F₁₅ ⊢
  refine star_list (F₁₅.exAt (a := l3) (.head _)) (show 2 < 100000 by decide) fun h' hk' => ?_
  have F₁₆ := (F₁₅.same (s' := { s₁₅ with heap := h' }) fun _ O => O.more hk').subEx (ex' := [(it, { cls := .type "list_iterator", data := .fields #[.ref lp, .int 0 0] }), (lp, { cls := .type "list", data := .seq vs'.toArray n' })]) (.cons _ (.cons _ (.cons₂ _ (.cons₂ _ .slnil))))
  generalize hs₁₆ : ({ s₁₅ with heap := h' } : Shared) = s₁₆ at F₁₆ ⊢
  refine call_zs ⟨_, F₁₆.exAt (a := it) (.head _), rfl, rfl⟩ ?_
  have F₁₇ := ((F₁₆.addEx { cls := .type "tuple", data := .seq #[.ref it, .ref it] }).addEx { cls := .type "tuple", data := .seq #[.none, .none] }).addEx (zipObj s₁₆.heap.objs.size (s₁₆.heap.objs.size + 1))
  dsimp only at F₁₇
  have z1 : (s₁₆.heap.push { cls := .type "tuple", data := .seq #[.ref it, .ref it] }).objs.size = s₁₆.heap.objs.size + 1 := Heap.size_push ..
  have z2 : ((s₁₆.heap.push { cls := .type "tuple", data := .seq #[.ref it, .ref it] }).push { cls := .type "tuple", data := .seq #[.none, .none] }).objs.size = s₁₆.heap.objs.size + 2 := by rw [Heap.size_push, z1]
  rw [z2, z1] at F₁₇
  generalize hs₁₇ : ({ s₁₆ with heap := _ } : Shared) = s₁₇ at F₁₇ ⊢
  generalize s₁₆.heap.objs.size + 2 = zz at F₁₇ ⊢
  generalize s₁₆.heap.objs.size + 1 = TO at F₁₇ ⊢
  generalize s₁₆.heap.objs.size = TI at F₁₇ ⊢
  refine wpAny_pyIter_zip (F₁₇.exAt (a := zz) (.head _)) ?_
  have csl : (chunksOf w0 ws0).length = ws0.length + 1 := by simp [chunksOf]
  have csok := chunks_ok hl0 hls
  have csf := chunks_ne (w0 := w0) (ws0 := ws0)
  generalize hcs : chunksOf w0 ws0 = cs at *
  have nd₁₇ := F₁₇.exNd.1
  have D : ZipSame zz TI TO it lp := ⟨nne nd₁₇ 2 0, nne nd₁₇ 1 0, nne nd₁₇ 3 0, nne nd₁₇ 2 1, nne nd₁₇ 2 3, nne nd₁₇ 1 3, nne nd₁₇ 4 0, nne nd₁₇ 4 1, nne nd₁₇ 4 3⟩
  refine codeAny_forLoop_any (AscInv w.params cs g s L x d ll fm z W zz TI TO it lp vs' n') ?_ (cs.length + 1) ⟨0, g, xs, _, .none, .none, _, rfl, Nat.zero_le _, fun _ _ e => e, F₁₇, by rfl, ⟨_, F₁₇.exAt (a := it) (.tail _ (.tail _ (.tail _ (.head _)))), rfl, rfl⟩⟩
  rintro n s' ⟨i, g', xs', m', a, b, oi, hn', hi, ug, F', hself, hit⟩
  have K' : FmAt g' fm ll x W := K₁.keeps fun b o e _ => ug b o e
  have hzz := F'.exAt (a := zz) (.head _)
  have hTO := F'.exAt (a := TO) (.tail _ (.head _))
  have hTI := F'.exAt (a := TI) (.tail _ (.tail _ (.head _)))
  have hLP := F'.exAt (a := lp) (.tail _ (.tail _ (.tail _ (.tail _ (.head _)))))
  by_cases hlt : i < cs.length
  · have hc : cs[i]? = some cs[i] := List.getElem?_eq_getElem hlt
    generalize cs[i] = c at hc
    obtain ⟨e1, e2⟩ := flat2_get cs i c hc
    obtain ⟨ta, hva⟩ := strs_get hv' e1
    obtain ⟨tb, hvb⟩ := strs_get hv' e2
    have hst : StOk i (apFold W (z, [], []) (cs.take i)) := fold_ok hz hz2 hi csok
    have hfold := fold_next (W := W) (z := z) hc
    have hcc := csok c (List.mem_of_getElem? hc)
    have hz0 : i = 0 → (apFold W (z, [], []) (cs.take i)).2.1 = [] := fun e => by subst e; rfl
    generalize apFold W (z, [], []) (cs.take i) = st at F' hst hfold hz0
    obtain ⟨z', ps', ls'⟩ := st
    dsimp only at F' hst hfold hz0
    refine next_zs D hzz hTI hTO hit ⟨_, hLP, rfl, _, rfl⟩ (by simpa using hva) (by simpa using hvb) fun h' q1 q2 q3 q4 q5 => ?_
    dsimp only
    obtain ⟨oi', hoi', hci', hdi'⟩ := id q3
    have hT0 : s'.heap.get? s'.heap.objs.size = none := get?_size_none _
    generalize s'.heap.objs.size = T at q1 q4 hT0 ⊢
    have hTz : T ≠ zz := fun e => by rw [e, hzz] at hT0; cases hT0
    have F₁ := F'.exs (ex' := [(zz, { cls := .type "zip", data := .fields #[rawInt T, .bool false, .bool false, .ref TI, .ref TO] }), (TO, { cls := .type "tuple", data := .seq #[.str c.1 ta, .str c.2 tb] }), (TI, { cls := .type "tuple", data := .seq #[.ref it, .ref it] }), (it, oi'), (lp, { cls := .type "list", data := .seq vs'.toArray n' })]) rfl
      (fun c o hc e => have h := not_in5 hc; q5 c o h.1 h.2.1 h.2.2.2.1 e)
      (fa5 q1 q2 (q5 _ _ D.TIz D.TITO D.TIi hTI) hoi' (q5 _ _ D.lz D.lTO D.li hLP))
      (fa5 (fun hc => by simp at hc) (fun _ => ⟨_, .tail _ (.head _), rfl⟩) (fun _ => ⟨_, .tail _ (.tail _ (.head _)), rfl⟩) (fun hc => by rw [hci'] at hc; simp at hc) (fun hc => by simp at hc))
    generalize hs₁ : ({ s' with heap := h', toks := s'.toks } : Shared) = s₁ at F₁ ⊢
    have hq4 : IsPair s₁.heap T (.str c.1 ta) (.str c.2 tb) := by rw [← hs₁]; exact q4
    refine wpAny_letOwnedTupleGo_zip (F₁.exAt (a := zz) (.head _)) fun h₂ hz₂ hs₂ => ?_
    have F₂ := F₁.chEx 0 rfl hs₂.extBut hz₂ (fun e => by simp at e)
    generalize hs₂' : ({ s₁ with heap := h₂, toks := s₁.toks } : Shared) = s₂ at F₂ ⊢
    have hT₂ : IsPair s₂.heap T (.str c.1 ta) (.str c.2 tb) := by rw [← hs₂']; exact hs₂.extBut _ _ hTz hq4
    refine assignPair hh hT₂ fun h₃ hk₃ => ?_
    have F₃ := F₂.same (s' := { s₂ with heap := h₃ }) fun _ O => O.more hk₃
    generalize hs₃' : ({ s₂ with heap := h₃ } : Shared) = s₃ at F₃ ⊢
    refine stF F₃ fun s₄ F₄ => ?_
    refine stF F₄ fun s₅ F₅ => ?_
    refine mstN fun N hN => ?_
    repeat walk_at "st"
    refine ldO F₅.own (by exact hself) ?_
    refine fm_method F₅ K' (f := .ref 148) (by decide +kernel) (by kernel_rfl) (by kernel_rfl) ?_
    dsimp only
    refine callWith_K (h₀ := g') F₅.own.kn (by kernel_rfl) ?_
    repeat walk_at "st"
    refine ldO F₅.own (by rfl) ?_
    repeat walk_at "st"
    refine ldO F₅.own (by rfl) ?_
    repeat walk_at "st"
    refine ⟨F₅.X, ?_⟩
    refine fo_append (f := c.1) (v := c.2) pg F₅ K' (by show A.depth + 1 + 60 < _; exact dl2 hroom (by decide)) (by show A.units + 3 + 160 < _; exact dl2 hu (by decide)) hh (small_snoc hst.small hcc) (Nat.le_trans hst.ps (Nat.le_trans hi (by walk_at "om"))) hst.z0 hst.z1 (Nat.lt_of_le_of_lt hst.ls (Nat.lt_of_lt_of_le hlt (by walk_at "om"))) (fun hp => csf i c hc (fun e0 => hp (hz0 e0))) fun g₆ s₆ xs₆ u₆ F₆ => ?_
    repeat walk_at "st"
    have f1 : (apState W z' ps' ls' c.1 c.2).1 = (apFold W (z, [], []) (cs.take (i + 1))).1 := by rw [hfold]; rfl
    have f2 : (apState W z' ps' ls' c.1 c.2).2.1 = (apFold W (z, [], []) (cs.take (i + 1))).2.1 := by rw [hfold]; rfl
    have f3 : (apState W z' ps' ls' c.1 c.2).2.2 = (apFold W (z, [], []) (cs.take (i + 1))).2.2 := by rw [hfold]; rfl
    rw [f1, f2, f3] at F₆
    exact ⟨n - 1, kpos ‹_› ‹_›, i + 1, g₆, xs₆, _, _, _, oi', kstep ‹_› ‹_›, Nat.succ_le_of_lt ‹i < cs.length›, fun b o e => u₆ _ _ (ug _ _ e), F₆, hself, ⟨oi', F₆.exAt (a := it) (.tail _ (.tail _ (.tail _ (.head _)))), hci', by rw [show 2 * (i + 1) = 2 * i + 2 by walk_at "om"]; exact hdi'⟩⟩
  · have hie : i = cs.length := leq ‹_› ‹_›
    rw [hie] at hit
    have hend : vs'.toArray[2 * cs.length]? = none := by
      have h1 := strs_len hv'
      rw [flat2_len] at h1
      simp; walk_at "om"
    refine stop_zs hh D hzz hTI hit ⟨_, hLP, rfl, _, rfl⟩ hend fun h' q5 => ?_
    dsimp only
    rw [hie, List.take_length] at F'
    have F₁ := F'.dropEx (h' := h') fun c o hc e => have h := not_in5 hc; q5 c o h.1 h.2.1 h.2.2.2.1 e
    repeat walk_at "st"
    exact hR _ _ (h _ F₁.postF F₁.S)
end
end Mine
namespace Mine
abbrev fnOb (dd : Option Addr) (fd : FuncData) : Obj := { cls := .type "function", dict := dd, data := .func fd }
theorem fn_ga : typeLookup (.type "function") "__getattribute__" = pure (some (.builtin "object.__getattribute__")) := by rw [typeLookup_type, builtinLookup_eq_fast]; kernel_rfl
theorem fn_gh : typeLookup (.type "function") "__getattr__" = pure none := by rw [typeLookup_type, builtinLookup_eq_fast]; kernel_rfl
theorem slot_fn_setattr : Slot "function" "__setattr__" "object.__setattr__" :=
  .of (owner := "object") (n := "__setattr__") (by rw [typeLookup_type, builtinLookup_eq_fast]; kernel_rfl) (by decide +kernel) (by decide +kernel) (by decide +kernel)
    (by first | exact .inl (by decide +kernel) | exact .inr (by decide +kernel)) (by rw [isSubtype_type]; kernel_rfl)
theorem slot_fn_getattribute : Slot "function" "__getattribute__" "object.__getattribute__" :=
  .of (owner := "object") (n := "__getattribute__") (by rw [typeLookup_type, builtinLookup_eq_fast]; kernel_rfl) (by decide +kernel) (by decide +kernel) (by decide +kernel)
    (by first | exact .inl (by decide +kernel) | exact .inr (by decide +kernel)) (by rw [isSubtype_type]; kernel_rfl)
theorem entry_object_ga : entryFor table "object.__getattribute__" = some Builtin.«object.__getattribute__» := entryFor_of_tree (by kernel_rfl)
theorem args_object_ga (a b : Value) : argsOk "object.__getattribute__" ⟨[a, b], []⟩ := by unfold argsOk; kernel_rfl
theorem empty_ns1' {h : Heap} {d : Addr} (e : h.get? d = some emptyDict) : h.Ns1 d fun _ => none :=
  Heap.Ns1.of_empty ⟨_, #[], 0, e, rfl, fun e he => absurd he (by simp), fun _ => rfl⟩
section
variable {prog : Program} {w : World} {A : Around} {E : Value → Shared → Prop} {s : Shared} {f d : Addr} {fd : FuncData} {m : Str → Option Value}
theorem fn_get {name : Str} {v : Value} {b : Bool} {Q : Value → Shared → Prop}
   (hx : s.heap.get? f = some (fnOb (some d) fd)) (hd : s.heap.Ns d m) (hn : m name = some v) (hf : typeLookup (.type "function") name = pure none) (hh : handedIn v = true)
   (h : Q v { s with toks := s.toks + 1 }) : wpAny (model prog w) A (getAttr (.ref f) name b) Q E s := by
  have hT : s.TypeIs (.ref f) "function" := ⟨_, hx, rfl⟩
  have T : Looks (model prog w) s.heap (typeOf (.ref f)) (.type "function") := (Looks.ld hx).andThen .now
  have L1 : Looks (model prog w) s.heap (typeLookup (.type "function") "__getattribute__") (some (.builtin "object.__getattribute__")) := Looks.of_pure fn_ga
  have L3 : Looks (model prog w) s.heap (typeLookup (.type "function") name) none := Looks.of_pure hf
  have L5 : Looks (model prog w) s.heap (nsGet d name) (some v) := looks_ns hd hn
  obtain ⟨hp,g,dr,t,os⟩ := s
  dsimp only at *
  unfold getAttr getAttrBy
  refine wpAny_bind (wpAny_mkText (wpAny_holding (wpAny_bind (T.at (wpAny_bind (L1.at ?_))))))
  show wpAny _ _ (getAttrByItsOwn (.ref f) (.str name t) (.type "function") (.builtin "object.__getattribute__") true b) _ _ _
  unfold getAttrByItsOwn hookBefore callGetattribute boundAndCalled
  refine wpAny_bind (wpAny_pure ?_)
  refine wpAny_bind (wpAny_attempt (wpAny_holding ?_))
  rw [show (b && onTheHeap (Value.builtin "object.__getattribute__")) = false by cases b <;> rfl, if_neg Bool.false_ne_true]
  refine wpAny_bind (wpAny_of_eq (slot_fn_getattribute.bind _) ?_)
  show wpAny _ _ (call (.builtin "object.__getattribute__") [.ref f, .str name t]) _ _ _
  refine wpAny_call_entry slot_fn_getattribute hT entry_object_ga ?_ (args_object_ga _ _)
  unfold Builtin.«object.__getattribute__»
  repeat lk
  exact ⟨_, rfl, by rw [handedOut_of hh]; exact wpAny_pure h⟩
theorem fn_method {name : Str} {v : Value} {pl : Sem Bool} {Q : Value × List Value → Shared → Prop}
   (hx : s.heap.get? f = some (fnOb (some d) fd)) (hd : s.heap.Ns d m) (hn : m name = some v) (hf : typeLookup (.type "function") name = pure none) (hh : handedIn v = true)
   (h : Q (v, []) { s with toks := s.toks + 1 }) : wpAny (model prog w) A (getMethod (.ref f) name pl) Q E s := by
  have T : Looks (model prog w) s.heap (typeOf (.ref f)) (.type "function") := (Looks.ld hx).andThen .now
  have L1 : Looks (model prog w) s.heap (specialOf (.ref f) "__getattribute__") (some (.builtin "object.__getattribute__")) := T.andThen (Looks.of_pure fn_ga)
  have L2 : Looks (model prog w) s.heap (specialOf (.ref f) "__getattr__") none := T.andThen (Looks.of_pure fn_gh)
  have L3 : Looks (model prog w) s.heap (specialOf (.ref f) name) none := T.andThen (Looks.of_pure hf)
  unfold getMethod
  refine wpAny_bind (L1.here ?_)
  dsimp only
  rw [if_neg (by decide +kernel)]
  refine wpAny_bind (L2.here ?_)
  rw [if_neg (by decide)]
  refine wpAny_bind (L3.here ?_)
  exact wpAny_bind (fn_get hx hd hn hf hh (wpAny_pure h))
theorem fn_set {name : Str} {v : Value} {Q : Unit → Shared → Prop}
   (hx : s.heap.get? f = some (fnOb none fd)) (hf : typeLookup (.type "function") name = pure none)
   (h : ∀ h' t', h'.Ns1 s.heap.objs.size (fun y => if y = name then some v else none) → Heap.SameBut s.heap.objs.size ((s.heap.push emptyDict).update f fun o => { o with dict := some s.heap.objs.size }) h' → Q () { s with heap := h', toks := t' }) : wpAny (model prog w) A (setAttr (.ref f) name v) Q E s := by
  have hT : s.TypeIs (.ref f) "function" := ⟨_, hx, rfl⟩
  obtain ⟨hp,g,dr,t,os⟩ := s
  have hT' : (Shared.mk hp g dr (t + 1) os).TypeIs (.ref f) "function" := ⟨_, hx, rfl⟩
  dsimp only at *
  unfold setAttr
  have SF := PySem.F.store_object
  refine wpAny_bind (wpAny_mkText (wpAny_bind (wpAny_callSpecial?_slot (name := Str.ofString "__setattr__") hT' slot_fn_setattr (wpAny_call_entry slot_fn_setattr hT' SF.entry ?_ (SF.args _ _ _)))))
  rw [osa_eq, refuse_eq]
  have hm : mroOf (.type "function") = pure [.type "function", .type "object"] := by rw [mroOf_type]; kernel_rfl
  refine wpAny_bind (wpAny_bind (wpAny_typeOf hT' (wpAny_bind (wpAny_of_eq hm ?_))))
  rw [show PySem.refuseLoop (.ref f) "__setattr__" [.type "function", .type "object"] = pure () by kernel_rfl]
  refine wpAny_pure (wpAny_bind (wpAny_typeOf hT' (wpAny_bind (wpAny_of_eq hf (wpAny_bind (wpAny_pure ?_))))))
  dsimp only
  unfold Builtin.ObjectAttr.storeInOwnDict
  refine wpAny_bind (wpAny_of_eq (show ownStreamTells (.ref f) (.type "function") = pure () by kernel_rfl) ?_)
  rw [if_neg (by decide)]
  dsimp only
  have hdM : dictMade (.type "function") f hp.objs.size = pure (some hp.objs.size) := by
    unfold dictMade
    dsimp only
    rw [show finalisedInACycleAlone "function" = false by decide +kernel]
    rfl
  have hx₁ : (hp.push emptyDict).get? f = some (fnOb none fd) := Heap.get?_push_of_some _ hx
  refine wpAny_bind (m := Builtin.ObjectAttr.ownDictForStores _) ?_
  show wpAny _ _ (instanceDict f true) _ _ _
  unfold instanceDict
  refine wpAny_bind (wpAny_loadPart hx ?_)
  dsimp only
  rw [show (!true || !typeHasDict (Value.type "function")) = false by decide +kernel, if_neg Bool.false_ne_true]
  refine wpAny_bind (wpAny_alloc ?_)
  refine wpAny_bind (wpAny_update hx₁ ?_)
  refine wpAny_of_eq hdM ?_
  dsimp only
  unfold Builtin.ObjectAttr.storeInDict
  refine wpAny_bind (wpAny_of_eq (show Builtin.ObjectAttr.newKeyGuard hp.objs.size name (.str name t) = pure () from rfl) ?_)
  have hfd : f ≠ hp.objs.size := Nat.ne_of_lt (Heap.lt_size hx)
  have hdd : ((hp.push emptyDict).update f fun o => { o with dict := some hp.objs.size }).get? hp.objs.size = some emptyDict := by
    rw [Heap.get?_update_other _ _ hfd]
    exact Heap.get?_push_size _ rfl
  refine wpAny_bind (wpAny_nsSet1 (empty_ns1' hdd) fun h' hn' hs' => ?_)
  obtain ⟨oD, esD, epD, hoD, hdD, hcD⟩ := hn'.count (Within.cons name v Within.nil)
  refine wpAny_bind (wpAny_lookBehind hoD (by rw [hdD]; exact pastItsLine_dict (Nat.le_trans hcD (by rw [List.length_cons, List.length_nil, sizeLine_eq]; walk_at "om"))) ?_)
  exact wpAny_pure ⟨_, rfl, wpAny_pure (h _ _ hn' hs')⟩
end
end Mine
namespace Mine
section
variable {P : Params} {h : Heap} {x d ll : Addr} {z : Int} {ps : List (Str × Str)} {lines : List Str}
theorem FmtS.offF {c : Addr} {dd : Option Addr} {fd : FuncData} (S : FmtS P h x d ll z ps lines) (hc : h.get? c = some (fnOb dd fd)) : c ∉ foot5 x d ll := S.offO hc
end
section
variable {prog : Program} {w : World} {A : Around} {E : Value → Shared → Prop} {R : Result → Shared → Prop} {foot : List Addr} {g : Heap} {σ s : Shared} {L : Addr} {m : Str → Option Value} {x d ll fm : Addr} {z W : Int} {xs : Array Value} {ps : List (Str × Str)} {lines : List Str} {ex : List (Addr × Obj)}
theorem fo_ascii {t : Str} {t1 kt t2 : Tok} {w0 : List Nat} {ws0 : List (List Nat)} {Q : Value → Shared → Prop} (pg : PG prog w.params) (F : FO w.params ex foot g σ s L m x d ll z xs [] []) (K : FmAt g fm ll x W) (hroom : A.depth + 80 < recursionLimit) (hu : A.units + 240 < cLine) (hh : A.handled = none)
    (ht : lst t = joinB w0 ws0) (hsz : t.length ≤ 100000) (hd : dark w0) (h0 : w0 ≠ []) (hds : ∀ v ∈ ws0, dark v ∧ v ≠ []) (hl0 : w0.length ≤ 900) (hls : ∀ v ∈ ws0, v.length ≤ 900) (hn : ws0.length ≤ 200) (hz : 0 ≤ z) (hz2 : z ≤ 1000)
    (h : ∀ g' s' xs', Up g g' → FO w.params ex foot g' σ s' L m x d ll (apFold W (z, [], []) (chunksOf w0 ws0)).1 xs' (apFold W (z, [], []) (chunksOf w0 ws0)).2.1 (apFold W (z, [], []) (chunksOf w0 ws0)).2.2 → Q .none s') :
    wpAny (model prog w) A (call (.ref 141) [.ref fm, .str "" t1, .str t kt, .str " " t2]) Q E s := by
  refine wpAny_call (ascii_ok pg F.X hroom hu hh F.S (K.keeps fun b o e _ => F.own.keep _ _ e) ht hsz hd h0 hds hl0 hls hn hz hz2 fun s' p S => ?_)
  obtain ⟨g', xs', up, F'⟩ := F.re p S
  exact h g' s' xs' up F'
theorem feed_ok {t : Str} {t1 kt : Tok} {c dc : Addr} {fd : FuncData} {mc : Str → Option Value} {w0 : List Nat} {ws0 : List (List Nat)} (pg : PG prog w.params) (X : (Kn w.params).In s.heap) (hroom : A.depth + 100 < recursionLimit) (hu : A.units + 300 < cLine) (hh : A.handled = none) (S : FmtS w.params s.heap x d ll z [] []) (K : FmAt s.heap fm ll x W)
    (hc : s.heap.get? c = some (fnOb (some dc) fd)) (hdc : s.heap.Ns dc mc) (hmc : mc "header_encoding" = some .none)
    (ht : lst t = joinB w0 ws0) (hsz : t.length ≤ 100000) (hd : dark w0) (h0 : w0 ≠ []) (hds : ∀ v ∈ ws0, dark v ∧ v ≠ []) (hl0 : w0.length ≤ 900) (hls : ∀ v ∈ ws0, v.length ≤ 900) (hn : ws0.length ≤ 200) (hz : 0 ≤ z) (hz2 : z ≤ 1000)
    (h : ∀ s', PostF x d ll s s' → FmtS w.params s'.heap x d ll (apFold W (z, [], []) (chunksOf w0 ws0)).1 (apFold W (z, [], []) (chunksOf w0 ws0)).2.1 (apFold W (z, [], []) (chunksOf w0 ws0)).2.2 → R (.ok (.ret .none)) s') :
    codeAny (model prog w) A (.call (.ref 127) ⟨[.ref fm, .str "" t1, .str t kt, .ref c], []⟩) R s := by
  refine enterF 127 [("self", .ref fm), ("fws", .str "" t1), ("string", .str t kt), ("charset", .ref c)] X (dl0 hroom) S ?_
  intro L s₁ g xs up F
  refine absQE fun Q E hR => ?_
  have K₁ : FmAt g fm ll x W := K.up S up
  have hcg : g.get? c = some (fnOb (some dc) fd) := up _ _ (S.offF hc) hc
  have hdg : g.Ns dc mc := hdc.at' fun o e => up _ _ (S.offD hdc hmc (by decide)) e
  refine mstN fun N hN => ?_
  repeat walk_at "st"
  refine wpAny_isTrue_Compare1 ?_
  repeat walk_at "st"
  refine ldO F.own (by rfl) ?_
  refine fn_get (F.own.keep _ _ hcg) (hdg.at' fun o e => F.own.keep _ _ e) hmc (by rw [typeLookup_type, builtinLookup_eq_fast]; kernel_rfl) rfl ?_
  have F₂ := F.same fun _ O => O.toks (s₁.toks + 1)
  generalize hs₂ : ({ s₁ with toks := s₁.toks + 1 } : Shared) = s₂ at F₂ ⊢
  repeat walk_at "st"
  refine wpAny_is_plain rfl ?_
  refine wpAny_pure ?_
  refine ifT (by rfl) ?_
  refine mstN fun N hN => ?_
  repeat walk_at "st"
  refine ldO F₂.own (by rfl) ?_
  refine fm_method F₂ K₁ (f := .ref 141) (by decide +kernel) (by kernel_rfl) (by kernel_rfl) ?_
  dsimp only
  refine callWith_K (h₀ := g) F₂.own.kn (by kernel_rfl) ?_
  repeat walk_at "st"
  refine ldO F₂.own (by rfl) ?_
  repeat walk_at "st"
  refine ldO F₂.own (by rfl) ?_
  repeat walk_at "st"
  refine ldO F₂.own (by rfl) ?_
  refine fm_split F₂ K₁ fun s₃ t₃ F₃ => ?_
  repeat walk_at "st"
  refine ⟨F₃.X, ?_⟩
  refine fo_ascii pg F₃ K₁ (by show A.depth + 1 + 80 < _; exact dl2 hroom (by decide)) (by show A.units + 3 + 240 < _; exact dl2 hu (by decide)) hh ht hsz hd h0 hds hl0 hls hn hz hz2 fun g₄ s₄ xs₄ u₄ F₄ => ?_
  walk_at "nx"
  refine mstN fun N hN => ?_
  repeat walk_at "st"
  exact hR _ _ (h s₄ F₄.postF F₄.S)
end
end Mine
namespace Mine
noncomputable abbrev EVC (P : Params) (n : Nat) (L : Addr) : Env := PySem.callEnvC (FD P n) L n
theorem bindL_eq {kindOf : Str → Option NameKind} : ∀ (binds : List (Str × Value)) (m : Str → Option Value), (∀ x ∈ binds, kindOf x.1 = some .local) → PySem.bindL kindOf binds m = fun y => (binds.reverse.lookup y).or (m y)
  | [], m, _ => by funext y; rfl
  | (n, v) :: r, m, h => by
    unfold PySem.bindL
    rw [if_pos (h (n, v) List.mem_cons_self), bindL_eq r _ fun x hx => h x (List.mem_cons_of_mem _ hx)]
    funext y
    rw [List.reverse_cons, List.lookup_append]
    cases (r.reverse.lookup y) with
    | some u => rfl
    | none =>
      simp only [Option.none_or, List.lookup_cons, List.lookup_nil]
      by_cases hy : y = n
      · subst hy; simp
      · have : (y == n) = false := by simpa using hy
        rw [if_neg hy, this]
        rfl
section
variable {P : Params} {foot : List Addr} {g : Heap} {σ s s' : Shared} {L : Addr} {m : Str → Option Value} {led led' : List (Addr × Obj)}
/-- one more object of the ledger -/
theorem Own.addLed (O : Own P foot g σ s L m led) {a : Addr} {o : Obj} (h1 : s.heap.get? a = some o) (h2 : a ≠ L) (h3 : g.get? a = none) (h4 : a ∉ led.map (·.1)) : Own P foot g σ s L m ((a, o) :: led) := by
  refine ⟨O.ns, O.keep, O.kn, O.newL, fun p hp => ?_, ?_, O.bare, O.drawn, O.os, O.base⟩
  · rcases List.mem_cons.mp hp with rfl | hp
    · exact ⟨h1, h2, h3⟩
    · exact O.lg p hp
  · rw [List.map_cons, List.nodup_cons]; exact ⟨h4, O.nd⟩
end
section
variable {prog : Program} {w : World} {A : Around} {E : Value → Shared → Prop} {s : Shared} {P : Params}
/-- the call of a function object that the call has made -/
theorem enterFd {f : Addr} {ob : Obj} {fd : FuncData} {body : List Stmt} (binds : List (Str × Value)) (led : List (Addr × Obj)) {R : Result → Shared → Prop} {args : Args}
    (X : (Kn P).In s.heap) (hroom : A.depth < recursionLimit) (hf : s.heap.get? f = some ob) (hob : ob.data = .func fd) (hcode : s.heap.CodeRec fd.code fd.qualname)
    (hled : LedOk P s.heap led) (hnd : (led.map (·.1)).Nodup)
    (h : ∀ L s' g, (∀ b o, b ∉ led.map (·.1) → s.heap.get? b = some o → g.get? b = some o) → Own P (led.map (·.1)) g s s' L (fun y => binds.reverse.lookup y) led →
      wpAny (model prog w) (A.deeper (PySem.callEnv fd L f)) (execs body (PySem.callEnv fd L f))
        (fun f s' => R (.ok (.ret (flowV f))) s')
        (fun e s' => wpAny (model prog w) (A.deeper (PySem.callEnv fd L f)) (leaving (PySem.callEnv fd L f) e) (fun _ s'' => R (.error e) s'') (fun e' s'' => R (.error e') s'') s') s')
    (hbind : bindArgs fd args = pure binds) (hbody : fd.body = .stmts body)
    (hcell : (fd.scope.names.all fun x => x.2 != .cell) = true) (hloc : (binds.all fun x => fd.scope.names.lookup x.1 == some .local) = true)
    (hco : fd.scope.isCoroutine = false) (hgen : fd.scope.isGenerator = false) (hk : fd.scope.kind = .function) :
    codeAny (model prog w) A (.call (.ref f) args) R s := by
  refine codeAny_call_def hroom hf hob (noLimit X) hcode hbody (BindsTo.of_eq hbind)
    (fun x hx e => by have := List.all_eq_true.mp hcell x hx; rw [e] at this; cases this) (fun x hx => by have := List.all_eq_true.mp hloc x hx; exact beq_iff_eq.mp this) (fun h₀ hns hk₀ => ?_) hco hgen hk
  refine wpAny_mono (h s.heap.objs.size _ (hideAll s.heap (led.map (·.1))) (fun b o hb e => hide_nodup e hb) ⟨hns, fun b o e => hk₀ b o (of_hideAll _ e), fun a o e => hideAll_get _ (X a o e) fun hm => ?_, ?_, fun p hp => ⟨hk₀ _ _ (hled p hp).1, Nat.ne_of_lt (Heap.lt_size (hled p hp).1), hideAll_none _ (List.mem_map_of_mem hp)⟩, hnd, id, rfl, rfl, fun b o hb e => hide_nodup e hb⟩) (fun f s' hf => ?_) fun _ _ e => e
  · obtain ⟨p, hp, rfl⟩ := List.mem_map.mp hm
    have z : (Kn P).lookup p.1 = none := (hled p hp).2
    rw [z] at e; cases e
  · cases e : (hideAll s.heap (led.map (·.1))).get? s.heap.objs.size with
    | none => rfl
    | some o => exact absurd (Heap.lt_size (of_hideAll _ e)) (Nat.lt_irrefl _)
  · cases f <;> exact hf
/-- the call of a top function that has cells of its own -/
theorem enterC (n : Nat) (cl : List (Str × Nat)) (vals : List Value) (binds : List (Str × Value)) (led : List (Addr × Obj)) {R : Result → Shared → Prop}
    (X : (Kn P).In s.heap) (hroom : A.depth < recursionLimit)
    (hled : LedOk P s.heap led) (hnd : (led.map (·.1)).Nodup)
    (h : ∀ L s' g, (∀ b o, b ∉ led.map (·.1) → s.heap.get? b = some o → g.get? b = some o) → Own P (led.map (·.1)) g s s' L (fun y => binds.reverse.lookup y) led →
      (∀ p ∈ cl, ∃ o, s'.heap.get? (L + p.2) = some o ∧ o.data = .cell none ∧ g.get? (L + p.2) = none ∧ L + p.2 ∉ led.map (·.1)) →
      wpAny (model prog w) (A.deeper (EVC P n L)) (execs (BD P n) (EVC P n L))
        (fun f s' => R (.ok (.ret (flowV f))) s')
        (fun e s' => wpAny (model prog w) (A.deeper (EVC P n L)) (leaving (EVC P n L) e) (fun _ s'' => R (.error e) s'') (fun e' s'' => R (.error e') s'') s') s')
    (hcl : ∀ L : Nat, PySem.cellsFrom (L + 1) (FD P n).scope.names [] = cl.map fun p => (p.1, L + p.2) := by intro L; kernel_rfl)
    (hcn : (cl.map (·.1)).Nodup := by decide)
    (hbind : bindArgs (FD P n) ⟨vals, []⟩ = pure binds := by kernel_rfl)
    (hfd : (Kn P).lookup n = some ⟨.type "function", none, .func (FD P n), #[]⟩ := by kernel_rfl)
    (hcode : codeIn (Kn P) (FD P n).code (FD P n).qualname = true := by kernel_rfl) (hbody : (FD P n).body = .stmts (BD P n) := by kernel_rfl)
    (hloc : (binds.all fun x => (FD P n).scope.names.lookup x.1 == some .local) = true := by kernel_rfl) (hclo : (FD P n).closure = [] := by kernel_rfl)
    (hco : (FD P n).scope.isCoroutine = false := by kernel_rfl) (hgen : (FD P n).scope.isGenerator = false := by kernel_rfl) (hk : (FD P n).scope.kind = .function := by kernel_rfl) :
    codeAny (model prog w) A (.call (.ref n) ⟨vals, []⟩) R s := by
  have hl : ∀ x ∈ binds, (FD P n).scope.names.lookup x.1 = some .local := fun x hx => by have := List.all_eq_true.mp hloc x hx; exact beq_iff_eq.mp this
  refine codeAny_call_cells hroom (X _ _ hfd) rfl (noLimit X) (codeRec_of X hcode) hbody hbind hclo (fun x hx => .inl (hl x hx)) (fun s₁ I => ?_) hco hgen hk
  have hm : PySem.bindL (PySem.callEnvC (FD P n) s.heap.objs.size n).kindOf binds (fun _ => none) = fun y => binds.reverse.lookup y := by
    rw [bindL_eq binds _ fun x hx => hl x hx]
    funext y
    cases binds.reverse.lookup y <;> rfl
  rw [hm] at I
  have hsame := I.toInCall.same
  have hns := I.toInCall.ns
  have hkeep := I.toInCall.keep
  obtain ⟨h₁, tk, rfl⟩ := hsame
  have hL : (PySem.callEnvC (FD P n) s.heap.objs.size n).locals = s.heap.objs.size := rfl
  rw [hL] at hns
  refine wpAny_mono (h s.heap.objs.size _ (hideAll s.heap (led.map (·.1))) (fun b o hb e => hide_nodup e hb) ⟨hns, fun b o e => hkeep b o (of_hideAll _ e), fun a o e => hideAll_get _ (X a o e) fun hm => ?_, ?_, fun p hp => ⟨hkeep _ _ (hled p hp).1, Nat.ne_of_lt (Heap.lt_size (hled p hp).1), hideAll_none _ (List.mem_map_of_mem hp)⟩, hnd, id, rfl, rfl, fun b o hb e => hide_nodup e hb⟩ ?_) (fun f s' hf => ?_) fun _ _ e => e
  · obtain ⟨p, hp, rfl⟩ := List.mem_map.mp hm
    have z : (Kn P).lookup p.1 = none := (hled p hp).2
    rw [z] at e; cases e
  · cases e : (hideAll s.heap (led.map (·.1))).get? s.heap.objs.size with
    | none => rfl
    | some o => exact absurd (Heap.lt_size (of_hideAll _ e)) (Nat.lt_irrefl _)
  · intro p hp
    have hc : (PySem.callEnvC (FD P n) s.heap.objs.size n).cells = cl.map fun p => (p.1, s.heap.objs.size + p.2) := hcl _
    have hlk : ∀ (l : List (Str × Nat)), (l.map (·.1)).Nodup → p ∈ l → (l.map fun p => (p.1, s.heap.objs.size + p.2)).lookup p.1 = some (s.heap.objs.size + p.2) := by
      intro l
      induction l with
      | nil => intro _ hp; exact absurd hp List.not_mem_nil
      | cons q r ih =>
        intro hn hp
        rw [List.map_cons, List.nodup_cons] at hn
        rw [List.map_cons, List.lookup_cons]
        rcases List.mem_cons.mp hp with rfl | hp
        · simp
        · have : (p.1 == q.1) = false := by
            refine beq_false_of_ne fun e => hn.1 (e ▸ List.mem_map_of_mem hp)
          rw [this]
          exact ih hn.2 hp
    have hcell := I.cell p.1 (s.heap.objs.size + p.2) (by rw [hc]; exact hlk cl hcn hp)
    have hnone : PySem.bindC (PySem.callEnvC (FD P n) s.heap.objs.size n).kindOf binds (fun _ => none) p.1 = none := by
      have : ∀ (bs : List (Str × Value)) (m : Str → Option Value), (∀ x ∈ bs, (FD P n).scope.names.lookup x.1 = some .local) → PySem.bindC (PySem.callEnvC (FD P n) s.heap.objs.size n).kindOf bs m = m := by
        intro bs
        induction bs with
        | nil => intro m _; rfl
        | cons b r ih =>
          intro m hb
          unfold PySem.bindC
          rw [ih _ fun x hx => hb x (List.mem_cons_of_mem _ hx)]
          exact if_pos (hb b List.mem_cons_self)
      rw [this binds _ hl]
    rw [hnone] at hcell
    obtain ⟨o, ho, hd⟩ := hcell
    have hge : s.heap.objs.size < s.heap.objs.size + p.2 := I.above p.1 _ (by rw [hc]; exact List.mem_map.mpr ⟨p, hp, rfl⟩)
    refine ⟨o, ho, hd, ?_, fun hmem => ?_⟩
    · cases e : (hideAll s.heap (led.map (·.1))).get? (s.heap.objs.size + p.2) with
      | none => rfl
      | some o => exact absurd (Heap.lt_size (of_hideAll _ e)) (Nat.not_lt.mpr (Nat.le_of_lt hge))
    · obtain ⟨q, hq, e⟩ := List.mem_map.mp hmem
      have := Heap.lt_size (hled q hq).1
      rw [e] at this
      exact absurd this (Nat.not_lt.mpr (Nat.le_of_lt hge))
  · cases f <;> exact hf
end
section
variable {M : Model} {A : Around} {E : Value → Shared → Prop} {P : Params} {foot : List Addr} {g : Heap} {σ s : Shared} {L : Addr} {m : Str → Option Value} {led : List (Addr × Obj)} {env : Env}
theorem ldC {x : Str} {pos : Pos} {c : Addr} {oc : Obj} {v : Value} {Q : Value → Shared → Prop} (ho : s.heap.get? c = some oc) (hd : oc.data = .cell (some v)) (h : Q v s)
    (hc : env.cells.lookup x = some c := by kernel_rfl) (hk : env.scope.kind = .function := by kernel_rfl) (hl : env.kindOf x = some .cell := by kernel_rfl) (hdb : (x == ("__debug__" : Str)) = false := by kernel_rfl) :
    wpAny M A (eval (.Name x pos) env) Q E s := wpAny_Name (wpAny_loadName_cell hk hl hc ⟨oc, ho, hd⟩ h) hdb
theorem ldFree {x : Str} {pos : Pos} {c : Addr} {oc : Obj} {v : Value} {Q : Value → Shared → Prop} (ho : s.heap.get? c = some oc) (hd : oc.data = .cell (some v)) (h : Q v s)
    (hc : env.cells.lookup x = some c := by kernel_rfl) (hk : env.scope.kind = .function := by kernel_rfl) (hl : env.kindOf x = some .free := by kernel_rfl) (hdb : (x == ("__debug__" : Str)) = false := by kernel_rfl) (hcd : (x == ("__classdict__" : Str)) = false := by kernel_rfl) :
    wpAny M A (eval (.Name x pos) env) Q E s := wpAny_Name (wpAny_loadName_free hk hl hc ⟨oc, ho, hd⟩ h hcd) hdb
theorem stC {x : Str} {c : Addr} {oc : Obj} {v : Value} {v₀ : Option Value} {Q : Unit → Shared → Prop} (O : Own P foot g σ s L m led) (i : Nat) (hi : led[i]? = some (c, oc)) (hd : oc.data = .cell v₀)
    (h : ∀ s' oc', oc'.data = .cell (some v) → Own P foot g σ s' L m (led.set i (c, oc')) → Q () s')
    (hc : env.cells.lookup x = some c := by kernel_rfl) (hk : env.scope.kind = .function := by kernel_rfl) (hl : env.kindOf x = some .cell := by kernel_rfl) : wpAny M A (storeName env x v) Q E s := by
  refine wpAny_storeName_cell hk hl hc ⟨oc, O.at i hi, hd⟩ fun h' hc' hs' => ?_
  obtain ⟨o', ho', hd'⟩ := hc'
  exact h _ o' hd' (O.change i hi hs' ho')
end
end Mine
namespace Mine
section
variable {P : Params} {foot : List Addr} {g : Heap} {σ s s' : Shared} {L : Addr} {m : Str → Option Value} {led led' : List (Addr × Obj)}
theorem Ns.of_obj {h h' : Heap} {a : Addr} {o : Obj} {m : Str → Option Value} (x : h.Ns a m) (e : h.get? a = some o) (e' : h'.get? a = some o) : h'.Ns a m :=
  x.at' fun o' q => by rw [e] at q; cases q; exact e'
/-- into the names of a comprehension -/
theorem Own.compIn (O : Own P foot g σ s L m led) {h' : Heap} {cl : Value} (hn : h'.Ns s.heap.objs.size fun _ => none) (hs : Heap.SameBut s.heap.objs.size (s.heap.push { cls := cl, data := .dict #[] }) h') (t : Nat := s.toks) :
    ∃ oL, s.heap.get? L = some oL ∧ Own P foot g σ { s with heap := h', toks := t } s.heap.objs.size (fun _ => none) ((L, oL) :: led) := by
  obtain ⟨oL, es, ep, hL, -⟩ := id O.ns
  have up : ∀ b o, s.heap.get? b = some o → h'.get? b = some o := fun b o e => hs.extBut b o (Nat.ne_of_lt (Heap.lt_size e)) (Heap.get?_push_of_some _ e)
  refine ⟨oL, hL, hn, fun b o e => up b o (O.keep b o e), O.kn, ?_, fun p hp => ?_, ?_, O.bare, O.drawn, O.os, O.base⟩
  · cases e : g.get? s.heap.objs.size with
    | none => rfl
    | some o => have := O.keep _ _ e; rw [get?_size_none] at this; cases this
  · rcases List.mem_cons.mp hp with rfl | hp
    · exact ⟨up _ _ hL, Nat.ne_of_lt (Heap.lt_size hL), O.newL⟩
    · have z := O.lg p hp
      exact ⟨up _ _ z.1, Nat.ne_of_lt (Heap.lt_size z.1), z.2.2⟩
  · rw [List.map_cons, List.nodup_cons]
    refine ⟨fun hm => ?_, O.nd⟩
    obtain ⟨q, hq, e⟩ := List.mem_map.mp hm
    exact (O.lg q hq).2.1 e
/-- out of them -/
theorem Own.compOut {C : Addr} {oL : Obj} {mc : Str → Option Value} (O : Own P foot g σ s C mc ((L, oL) :: led)) (hn : s.heap.Ns L m) {h' : Heap} (hs : Heap.SameBut C s.heap h') (t : Nat := s.toks) : Own P foot g σ { s with heap := h', toks := t } L m led := by
  have zL := O.lg (L, oL) List.mem_cons_self
  have nd := O.nd
  rw [List.map_cons, List.nodup_cons] at nd
  refine ⟨hn.sameBut hs zL.2.1, fun b o e => hs.extBut b o (fun q => ?_) (O.keep b o e), O.kn, zL.2.2, fun p hp => ?_, nd.2, O.bare, O.drawn, O.os, O.base⟩
  · subst q; rw [O.newL] at e; cases e
  · have z := O.lg p (List.mem_cons_of_mem _ hp)
    exact ⟨hs.extBut _ _ z.2.1 z.1, fun e => nd.1 (List.mem_map.mpr ⟨p, hp, e⟩), z.2.2⟩
end
section
variable {prog : Program} {w : World} {A : Around} {E : Value → Shared → Prop} {P : Params} {foot : List Addr} {g : Heap} {σ s : Shared} {L : Addr} {m : Str → Option Value} {led : List (Addr × Obj)} {env : Env}
/-- a comprehension of lists up to its loop -/
theorem compCore {use : Option (Value → Sem Unit)} {elt target iter : Expr} {ifs : List Expr} {rest : List Comprehension} {scope : Scope} {cl : List (Str × Addr)} {pos p0 : Pos} {Q : Value → Shared → Prop}
    (hclos : closureFor scope env = pure cl) (hcell : (scope.names.all fun y => y.2 != .cell) = true) (hkind : scope.kind = .function) (hnames : (scope.names.all fun x => x.2 != .local || scope.names.lookup x.1 == some .local) = true)
    (h : wpAny (model prog w) A (eval iter env) (fun xv s₁ => wpAny (model prog w) A (pyIter xv) (fun it s₂ => ∃ g m led, Own P foot g σ s₂ L m led ∧
      (∀ (s₃ : Shared) (Q : Value → Shared → Prop) (E : Value → Shared → Prop), (∀ b o, s₂.heap.get? b = some o → s₃.heap.get? b = some o) → Q it s₃ → wpAny (model prog w) A (pyIter it) Q E s₃) ∧
      ∀ C D oL s₃, s₂.heap.get? D = none → s₂.heap.get? L = some oL → (∀ b o, s₂.heap.get? b = some o → s₃.heap.get? b = some o) → Own P foot g σ s₃ C (fun _ => none) ((L, oL) :: (D, { cls := .type "list", data := .seq #[] }) :: led) →
        codeAny (model prog w) A (.compLoop (.ListComp elt (⟨target, iter, ifs, 0⟩ :: rest) scope pos) 0 it (.ref D) (PySem.compEnvC scope cl C env)) (fun r s' => match r with
          | .ok _ => compPost (model prog w) A E use Q (.ref D) C r s'
          | .error _ => False) s₃) E s₁) E s)
    (hs : ∀ x, foldedSetIterable iter env x = pure x) :
    wpAny (model prog w) A (comprehension (.ListComp elt (⟨target, iter, ifs, 0⟩ :: rest) scope pos) scope env p0 (newList []) false (eval iter env) use) Q E s := by
  refine wpAny_comprehension_free rfl hs hclos hkind (fun x hx hl => ?_) (wpAny_mono h (fun xv s₁ h₁ => wpAny_mono h₁ (fun it s₂ h₂ => ?_) fun _ _ e => e) fun _ _ e => e)
  · have := List.all_eq_true.mp hnames x hx
    rw [hl] at this
    exact beq_iff_eq.mp this
  obtain ⟨g, m, led, O, hself, hloop⟩ := h₂
  have hc : ∀ y ∈ scope.names, y.2 ≠ .cell := fun y hy e => by have := List.all_eq_true.mp hcell y hy; rw [e] at this; cases this
  have O₁ := O.push { cls := .type "list", data := .seq ([] : List Value).toArray }
  refine wpAny_newList ?_ (by size_fits)
  have kL : ∀ b o, s₂.heap.get? b = some o → (s₂.heap.push { cls := .type "list", data := .seq ([] : List Value).toArray }).get? b = some o := fun b o e => Heap.get?_push_of_some _ e
  generalize hs₁ : ({ s₂ with heap := s₂.heap.push { cls := .type "list", data := .seq ([] : List Value).toArray } } : Shared) = s₁' at O₁ ⊢
  have kL' : ∀ b o, s₂.heap.get? b = some o → s₁'.heap.get? b = some o := by rw [← hs₁]; exact kL
  have hD : s₂.heap.get? s₂.heap.objs.size = none := get?_size_none _
  have ht : s₁'.toks = s₂.toks := by rw [← hs₁]
  generalize s₂.heap.objs.size = D at O₁ hD ⊢
  refine wpAny_newFunctionEnv hc (by intro y hy; simp at hy) (fun h' hn' hs' => ?_) hkind
  obtain ⟨oL, hoL, O₂⟩ := O₁.compIn hn' hs' (s₁'.toks + ([] : List (Str × Value)).length)
  have k₂ : ∀ b o, s₁'.heap.get? b = some o → h'.get? b = some o := fun b o e => hs'.extBut b o (Nat.ne_of_lt (Heap.lt_size e)) (Heap.get?_push_of_some _ e)
  have hoL2 : s₂.heap.get? L = some oL := by
    obtain ⟨o2, _, _, e2, -⟩ := id O.ns
    rw [kL' _ _ e2] at hoL; cases hoL; exact e2
  have k₃ : ∀ b o, s₂.heap.get? b = some o → h'.get? b = some o := fun b o e => k₂ b o (kL' b o e)
  generalize hs₃ : ({ s₁' with heap := h', toks := s₁'.toks + ([] : List (Str × Value)).length } : Shared) = s₃ at O₂ ⊢
  have k₃' : ∀ b o, s₂.heap.get? b = some o → s₃.heap.get? b = some o := by rw [← hs₃]; exact k₃
  have loop : codeAny (model prog w) A (.compLoop (.ListComp elt (⟨target, iter, ifs, 0⟩ :: rest) scope pos) 0 it (.ref D) (PySem.compEnvC scope cl s₁'.heap.objs.size env)) (compPost (model prog w) A E use Q (.ref D) s₁'.heap.objs.size) s₃ := by
    refine codeAny_mono (hloop s₁'.heap.objs.size D oL s₃ hD hoL2 k₃' O₂) fun r s' hr => ?_
    cases r with
    | ok f => exact hr
    | error e => exact hr.elim
  exact codeAny_compStart_list loop (hself _ _ _ k₃' loop)
/-- a comprehension, its list handed on -/
theorem compO {elt target iter : Expr} {ifs : List Expr} {rest : List Comprehension} {scope : Scope} {cl : List (Str × Addr)} {pos : Pos} {Q : Value → Shared → Prop}
    (h : wpAny (model prog w) A (eval iter env) (fun xv s₁ => wpAny (model prog w) A (pyIter xv) (fun it s₂ => ∃ g m led, Own P foot g σ s₂ L m led ∧
      (∀ (s₃ : Shared) (Q : Value → Shared → Prop) (E : Value → Shared → Prop), (∀ b o, s₂.heap.get? b = some o → s₃.heap.get? b = some o) → Q it s₃ → wpAny (model prog w) A (pyIter it) Q E s₃) ∧
      ∀ C D oL s₃, s₂.heap.get? D = none → Own P foot g σ s₃ C (fun _ => none) ((L, oL) :: (D, { cls := .type "list", data := .seq #[] }) :: led) →
        codeAny (model prog w) A (.compLoop (.ListComp elt (⟨target, iter, ifs, 0⟩ :: rest) scope pos) 0 it (.ref D) (PySem.compEnvC scope cl C env)) (fun r s' => match r with
          | .ok _ => ∃ g' mc led', Own P foot g' σ s' C mc ((L, oL) :: led') ∧ ∀ s'', Own P foot g' σ s'' L m led' → Q (.ref D) s''
          | .error _ => False) s₃) E s₁) E s)
    (hclos : closureFor scope env = pure cl := by kernel_rfl) (hcell : (scope.names.all fun y => y.2 != .cell) = true := by kernel_rfl) (hkind : scope.kind = .function := by kernel_rfl) (hnames : (scope.names.all fun x => x.2 != .local || scope.names.lookup x.1 == some .local) = true := by kernel_rfl)
    (hs : ∀ x, foldedSetIterable iter env x = pure x := by intro _; rfl) :
    wpAny (model prog w) A (eval (.ListComp elt (⟨target, iter, ifs, 0⟩ :: rest) scope pos) env) Q E s := by
  rw [eval_ListComp]
  refine compCore (P := P) (foot := foot) (σ := σ) (L := L) (use := none) hclos hcell hkind hnames (wpAny_mono h (fun xv s₁ h₁ => wpAny_mono h₁ (fun it s₂ h₂ => ?_) fun _ _ e => e) fun _ _ e => e) hs
  obtain ⟨g, m, led, O, hself, hloop⟩ := h₂
  refine ⟨g, m, led, O, hself, fun C D oL s₃ hD hoL k₃ O₃ => codeAny_mono (hloop C D oL s₃ hD O₃) fun r s' hr => ?_⟩
  cases r with
  | error e => exact hr.elim
  | ok f =>
    obtain ⟨g', mc, led', O', hq⟩ := hr
    have hn : s'.heap.Ns L m := Ns.of_obj O.ns hoL (O'.at 0 rfl)
    exact ⟨mc, O'.ns, fun h' hs' => hq _ (O'.compOut hn hs')⟩
/-- name = a comprehension, where the stores are exchanged -/
theorem compA {elt target iter : Expr} {y : Str} {py spos : Pos} {ifs : List Expr} {rest : List Comprehension} {scope : Scope} {cl : List (Str × Addr)} {pos : Pos} {Q : Flow → Shared → Prop}
    (h : wpAny (model prog w) A (eval iter env) (fun xv s₁ => wpAny (model prog w) A (pyIter xv) (fun it s₂ => ∃ g m led, Own P foot g σ s₂ L m led ∧
      (∀ (s₃ : Shared) (Q : Value → Shared → Prop) (E : Value → Shared → Prop), (∀ b o, s₂.heap.get? b = some o → s₃.heap.get? b = some o) → Q it s₃ → wpAny (model prog w) A (pyIter it) Q E s₃) ∧
      ∀ C D oL s₃, s₂.heap.get? D = none → Own P foot g σ s₃ C (fun _ => none) ((L, oL) :: (D, { cls := .type "list", data := .seq #[] }) :: led) →
        codeAny (model prog w) A (.compLoop (.ListComp elt (⟨target, iter, ifs, 0⟩ :: rest) scope pos) 0 it (.ref D) (PySem.compEnvC scope cl C env)) (fun r s' => match r with
          | .ok _ => ∃ g' mc led', Own P foot g' σ s' C mc ((L, oL) :: led') ∧ ∀ s'', Own P foot g' σ s'' L (fun z => if z = y then some (.ref D) else m z) led' → Q .next s''
          | .error _ => False) s₃) E s₁) E s)
    (hsw : swapsWith (.ListComp elt (⟨target, iter, ifs, 0⟩ :: rest) scope pos) (some (.Name y py)) spos.line env = pure true := by kernel_rfl)
    (hL : env.locals = L := by rfl) (hfk : env.scope.kind = .function := by kernel_rfl) (hl : env.kindOf y = some .local := by kernel_rfl)
    (hclos : closureFor scope env = pure cl := by kernel_rfl) (hcell : (scope.names.all fun y => y.2 != .cell) = true := by kernel_rfl) (hkind : scope.kind = .function := by kernel_rfl) (hnames : (scope.names.all fun x => x.2 != .local || scope.names.lookup x.1 == some .local) = true := by kernel_rfl)
    (hs : ∀ x, foldedSetIterable iter env x = pure x := by intro _; rfl) :
    wpAny (model prog w) A (exec (.Assign [.Name y py] (.ListComp elt (⟨target, iter, ifs, 0⟩ :: rest) scope pos) spos) env) Q E s := by
  rw [exec_Assign_Name_used _ _ _ _ hsw]
  refine wpAny_bind (wpAny_standAt (wpAny_bind ?_))
  show wpAny _ A (do let _ ← comprehension (.ListComp elt (⟨target, iter, ifs, 0⟩ :: rest) scope pos) scope env _ (newList []) false (eval iter env) (some (assign (.Name y py) env))) _ _ s
  refine wpAny_bind (wpAny_mono (compCore (P := P) (foot := foot) (σ := σ) (L := L) (use := some (assign (.Name y py) env)) (Q := fun _ s' => Q .next s') hclos hcell hkind hnames (wpAny_mono h (fun xv s₁ h₁ => wpAny_mono h₁ (fun it s₂ h₂ => ?_) fun _ _ e => e) fun _ _ e => e) hs)
    (fun _ s' hq => wpAny_pure (wpAny_pure hq)) fun _ _ e => e)
  obtain ⟨g, m, led, O, hself, hloop⟩ := h₂
  refine ⟨g, m, led, O, hself, fun C D oL s₃ hD hoL k₃ O₃ => codeAny_mono (hloop C D oL s₃ hD O₃) fun r s' hr => ?_⟩
  cases r with
  | error e => exact hr.elim
  | ok f =>
    obtain ⟨g', mc, led', O', hq⟩ := hr
    have hn : s'.heap.Ns L m := Ns.of_obj O.ns hoL (O'.at 0 rfl)
    show wpAny _ A (assign (.Name y py) env (.ref D)) _ _ _
    refine wpAny_assign_Name (wpAny_storeName_local hl (hL ▸ hn) (fun h₂ hn₂ hs₂ => ?_) (by rw [hfk]; rfl))
    rw [hL] at hn₂ hs₂
    obtain ⟨oL', es, ep, hoL', -⟩ := id hn₂
    have O₂ := O'.change 0 rfl hs₂ hoL' (s'.toks + 1)
    exact ⟨mc, O₂.ns, fun h' hs' => hq _ (O₂.compOut hn₂ hs')⟩
end
end Mine
namespace Mine
/-- the number that octets spell, the least first, with a sign -/
def leSigned (b : List UInt8) : Int :=
  if b.reverse.head?.any (· ≥ 128) then b.reverse.foldl (fun (acc : Int) (c : UInt8) => acc * 256 + (c.toNat : Int)) 0 - 256 ^ b.length else b.reverse.foldl (fun (acc : Int) (c : UInt8) => acc * 256 + (c.toNat : Int)) 0
section
variable {prog : Program} {w : World} {A : Around} {E : Value → Shared → Prop} {R : Result → Shared → Prop} {s : Shared}
theorem fb_getm {pl : Sem Bool} {Q : Value × List Value → Shared → Prop} (X : (Kn w.params).In s.heap)
    (h : Q (.ref s.heap.objs.size, []) { s with heap := s.heap.push KFB.bound, toks := s.toks + 1 }) :
    wpAny (model prog w) A (getMethod (.type "int") "from_bytes" pl) Q E s := by
  have hstub : opaqueClassAbove (.type "int") = pure none := by unfold opaqueClassAbove; dsimp only; rw [show Manifest.isStub "int" = false by decide +kernel]; rfl
  have L0 : Looks (model prog w) s.heap (typeOf (.type "int")) (.type "type") := Looks.of_pure (by kernel_rfl)
  have hg : findIn (Kn w.params) (.type "type") "__getattribute__" = some (some (.builtin "type.__getattribute__")) := type_tga
  have LO : Looks (model prog w) s.heap (opaqueClassAbove (.type "int")) none := Looks.of_pure hstub
  unfold getMethod specialOf
  refine wpAny_bind (wpAny_bind (L0.here ((looks_findIn X hg).here ?_)))
  dsimp only
  rw [if_pos canon_tga]
  refine wpAny_bind (wpAny_mono (Q := fun v => Q (v, [])) (E := E) ?_ (fun _ _ z => wpAny_pure z) fun _ _ z => z)
  have e : findCls (Kn w.params) (.type "int") (.type "type") (PySem.Str.ofString "from_bytes") = some (.get (.builtin "classmethod_descriptor.__get__") (.builtin "int.from_bytes") .none (.type "int")) := by kernel_rfl
  refine cls_open X LO L0 hg (looks_hook X (r := none) (by rfl)) (by show subIn (Kn w.params) _ _ = _; rfl) e ?_
  refine wpAny_bind (wpAny_holding ?_)
  exact wpAny_call_entry KFB.slot_get KFB.type_fb KFB.entry_get (KFB.run_get ⟨_, rfl, wpAny_pure (wpAny_pure h)⟩) (KFB.args_get _ _ _)
theorem mkGrown {z : Int} {Q : Value → Shared → Prop} (hz : z.natAbs < 2 ^ 64) (h : Q (.int z s.toks) { s with toks := s.toks + 1 }) : wpAny (model prog w) A (mkIntGrown z) Q E s := by
  unfold mkIntGrown
  have hl : ¬ (z.natAbs.log2 ≥ bitsLine) := by
    have hb : bitsLine = 134217728 := by first | rfl | decide
    by_cases h0 : z.natAbs = 0
    · rw [h0, hb]; decide
    · have := (Nat.log2_lt h0).mpr hz
      walk_at "om"
  rw [if_neg hl]
  exact wpAny_mkInt h
theorem leFold_lt (l : List UInt8) (a : Int) (h0 : 0 ≤ a) : 0 ≤ l.foldl (fun (acc : Int) (c : UInt8) => acc * 256 + (c.toNat : Int)) a ∧ l.foldl (fun (acc : Int) (c : UInt8) => acc * 256 + (c.toNat : Int)) a < (a + 1) * 256 ^ l.length := by
  induction l generalizing a with
  | nil => simp; walk_at "om"
  | cons c r ih =>
    rw [List.foldl_cons, List.length_cons]
    have hc := c.toNat_lt
    have h1 := ih (a * 256 + (c.toNat : Int)) (by walk_at "om")
    refine ⟨h1.1, Int.lt_of_lt_of_le h1.2 ?_⟩
    rw [Int.pow_succ, ← Int.mul_assoc, Int.mul_right_comm]
    exact Int.mul_le_mul_of_nonneg_right (by walk_at "om") (Int.pow_nonneg (by decide))
theorem fb_tree {b : Array UInt8} {t u : Tok} {P : Fin → Shared → Prop} (hl : b.size ≤ 4) (h : P (.done (.ret (.int (leSigned b.toList) s.toks))) { s with toks := s.toks + 1 }) :
    wpAny (model prog w) A (Builtin.«int.from_bytes» ⟨[.type "int", .bytes b t], [("byteorder", .str "little" u), ("signed", .bool true)]⟩) P E s := by
  unfold Builtin.«int.from_bytes»
  refine wpAny_bind (wpAny_of_eq (a := true) KFB.type_int ?_)
  refine KFB.if_not rfl ?_
  refine wpAny_bind (wpAny_of_eq (a := true) PySem.F.conv_sub_int ?_)
  refine KFB.if_not rfl ?_
  refine wpAny_bind (wpAny_of_eq (a := [some (.bytes b t), some (.str (PySem.Str.ofString "little") u), some (.bool true)]) (by kernel_rfl) ?_)
  refine wpAny_bind (wpAny_of_eq (a := PySem.Str.ofString "little") (by kernel_rfl) ?_)
  refine wpAny_bind (wpAny_of_eq (a := true) rfl ?_)
  refine wpAny_bind (wpAny_of_eq (a := true) (by kernel_rfl) ?_)
  refine wpAny_bind (wpAny_of_eq (a := b) rfl ?_)
  dsimp only
  rw [if_pos rfl]
  have hlen : b.toList.reverse.length = b.size := by simp
  have hf := leFold_lt b.toList.reverse 0 (Int.le_refl _)
  rw [hlen] at hf
  have hp : (256 : Int) ^ b.size ≤ 256 ^ 4 := by
    have : ((256 ^ b.size : Nat) : Int) ≤ ((256 ^ 4 : Nat) : Int) := Int.ofNat_le.mpr (Nat.pow_le_pow_right (by decide) hl)
    simpa using this
  have h4 : (256 : Int) ^ 4 = 4294967296 := by decide
  have h0 : (0 : Int) ≤ 256 ^ b.size := Int.pow_nonneg (by decide)
  have hv : (if (true && Option.any (fun x => decide (x ≥ (128 : UInt8))) b.toList.reverse.head?) = true then List.foldl (fun (acc : Int) (b : UInt8) => acc * 256 + (b.toNat : Int)) ((0 : Nat) : Int) b.toList.reverse - 256 ^ b.toList.reverse.length else List.foldl (fun (acc : Int) (b : UInt8) => acc * 256 + (b.toNat : Int)) ((0 : Nat) : Int) b.toList.reverse) = leSigned b.toList := by
    unfold leSigned
    rw [Bool.true_and, List.length_reverse]
    rfl
  have hz : (leSigned b.toList).natAbs < 2 ^ 64 := by
    unfold leSigned
    have hs : b.toList.length = b.size := by simp
    rw [hs]
    split <;> walk_at "om"
  refine wpAny_bind (m := mkIntGrown _) ?_
  show wpAny _ _ (mkIntGrown (if (true && Option.any (fun x => decide (x ≥ (128 : UInt8))) b.toList.reverse.head?) = true then List.foldl (fun (acc : Int) (b : UInt8) => acc * 256 + (b.toNat : Int)) ((0 : Nat) : Int) b.toList.reverse - 256 ^ b.toList.reverse.length else List.foldl (fun (acc : Int) (b : UInt8) => acc * 256 + (b.toNat : Int)) ((0 : Nat) : Int) b.toList.reverse)) _ _ _
  rw [hv]
  refine mkGrown hz ?_
  refine KFB.if_so (by decide +kernel) ?_
  exact wpAny_bind (wpAny_pure (wpAny_pure h))
theorem fb_call {x : Addr} {b : Array UInt8} {t u : Tok} {Q : Value → Shared → Prop} (ho : s.heap.get? x = some KFB.bound) (hl : b.size ≤ 4)
    (h : ∀ t', Q (.int (leSigned b.toList) t') { s with toks := s.toks + 1 }) : wpAny (model prog w) A (call (.ref x) [.bytes b t] [("byteorder", .str "little" u), ("signed", .bool true)]) Q E s := by
  refine wpAny_call (codeAny_of_tree ?_)
  show wpAny _ A.in1 (callAny (.ref x) ⟨[.bytes b t], [("byteorder", .str "little" u), ("signed", .bool true)]⟩) _ _ s
  simp only [callAny]
  refine wpAny_bind (wpAny_load ho ?_)
  simp only [KFB.bound]
  refine KFB.if_so (by decide) ?_
  refine wpAny_bind (wpAny_of_eq (a := ()) (show checkBoundCall "int.from_bytes" ⟨[.type "int", .bytes b t], [("byteorder", .str "little" u), ("signed", .bool true)]⟩ = pure () by kernel_rfl) ?_)
  refine wpAny_bind (wpAny_pure (wpAny_pure ?_))
  exact ⟨KFB.quiet_fb, codeAny_builtin KFB.entry_fb (fb_tree hl (h _))⟩
theorem MethodCallKw {env : Env} {o : Expr} {name : Str} {apos pos : Pos} {args : List Expr} {kws : List Keyword} {pl : Sem Bool} {Q : Value → Shared → Prop}
    (h : wpAny (model prog w) A (eval o env) (fun ov s₁ => wpAny (model prog w) A (getMethod ov name pl) (fun fx s₂ => wpAny (model prog w) A (callWith pos fx.1 fx.2 (backTo pos (starEach args env)) (backToKw pos (keywordEach kws env))) Q E s₂) E s₁) E s)
    (he : eval (.Call (.Attribute o name apos) args kws pos) env = (do
      let ov ← eval o env
      standAt apos.atName
      let (f, first) ← holding [ov] (getMethod ov name pl)
      callWith pos f first (backTo pos (starEach args env)) (backToKw pos (keywordEach kws env))) := by rfl) :
    wpAny (model prog w) A (eval (.Call (.Attribute o name apos) args kws pos) env) Q E s := by
  rw [he]
  exact wpAny_bind (wpAny_mono h (fun ov s₁ h₁ => wpAny_bind (wpAny_standAt (wpAny_bind (wpAny_holding (wpAny_mono h₁ (fun r s₂ h₂ => h₂) fun _ _ x => x))))) fun _ _ x => x)
theorem decode_long_ok {b : Array UInt8} {tb : Tok} (X : (Kn w.params).In s.heap) (hroom : A.depth < recursionLimit) (hl : b.size ≤ 4)
    (h : ∀ s' t, Post [] s s' → R (.ok (.ret (.int (leSigned b.toList) t))) s') :
    codeAny (model prog w) A (.call (.ref 66) ⟨[.bytes b tb], []⟩) R s := by
  refine enter 66 [("data", .bytes b tb)] [] X hroom led_nil (by simp) ?_
  intro L s₁ g up O
  refine absQE fun Q E hR => ?_
  refine mstN fun N hN => ?_
  repeat walk_at "st"
  refine MethodCallKw ?_
  refine ldB (v := .type "int") O ?_
  refine fb_getm O.X ?_
  have O₂ := O.push KFB.bound rfl (s₁.toks + 1)
  generalize s₁.heap.objs.size = xb at O₂ ⊢
  generalize hs₂ : ({ s₁ with heap := s₁.heap.push KFB.bound, toks := s₁.toks + 1 } : Shared) = s₂ at O₂ ⊢
  dsimp only
  refine callWith_of (P := fun h => h.get? xb = some KFB.bound) (by rfl) (fun h e => ⟨.machine, .inr (.inl rfl), (Looks.ld (part := none) e).andThen .now⟩) ?_
  refine evalArgs_kw (by rfl) ?_
  show wpAny _ _ (spliced (backTo ⟨27, 11, 27, 64⟩ (starEach [Expr.Name "data" ⟨27, 26, 27, 30⟩] (EV w.params 66 L)))) _ _ _
  refine spliced_more ?_
  refine ldO O₂ (by rfl) ?_
  refine spliced_none ?_
  refine wpAny_evalAll_cons ?_
  refine wpAny_bind ?_
  refine strO (x := "little") O₂ fun t₃ s₃ O₃ => ?_
  refine wpAny_bind (wpAny_standAt (wpAny_pure ?_))
  refine wpAny_evalAll_cons ?_
  refine wpAny_bind ?_
  refine Constant_bool ?_
  refine wpAny_bind (wpAny_standAt (wpAny_pure ?_))
  refine wpAny_evalAll_nil ?_
  refine ⟨O₃.at 0 rfl, ?_⟩
  refine fb_call (u := t₃) (O₃.at 0 rfl) hl fun t' => ?_
  exact hR _ _ (h _ _ (O₃.toks _).post)
end
end Mine
namespace Mine
section
variable {prog : Program} {w : World} {A : Around} {E : Value → Shared → Prop} {foot : List Addr} {g : Heap} {σ s : Shared} {L : Addr} {m : Str → Option Value} {led : List (Addr × Obj)} {env : Env} {ps : Array Value} {T : Addr} {pos : Pos}
theorem fn_setO {name : Str} {v : Value} {f : Addr} {fd : FuncData} {Q : Unit → Shared → Prop} (O : Own w.params foot g σ s L m led) (i : Nat) (hi : led[i]? = some (f, fnOb none fd)) (hf : typeLookup (.type "function") name = pure none)
    (h : ∀ s' d od, s'.heap.Ns1 d (fun y => if y = name then some v else none) → Own w.params foot g σ s' L m ((d, od) :: led.set i (f, fnOb (some d) fd)) → Q () s') : wpAny (model prog w) A (setAttr (.ref f) name v) Q E s := by
  refine fn_set (O.at i hi) hf fun h' t' hn' hs' => ?_
  have O₁ := O.push emptyDict
  have O₂ := O₁.update (i + 1) (a := f) (o := fnOb none fd) (f := fun o => { o with dict := some s.heap.objs.size }) (by simpa using hi)
  obtain ⟨od, -, O₃⟩ := O₂.setNs 0 rfl hs' hn' t'
  exact h _ _ od hn' O₃
theorem bltAt {P : Params} {h : Heap} (X : (Kn P).In h) (hT : Nat.beq 4 T = false) : h.BuiltinsAt (nsK P 3) T :=
  ⟨4, { cls := .type "module", dict := some builtinsNs, data := .plain }, by kernel_rfl, by decide, by decide, Nat.ne_of_beq_eq_false hT, X 4 _ (by kernel_rfl), rfl, rfl, rfl⟩
theorem codeHd_of {h : Heap} {c T : Addr} {o : Obj} {vs ps : Array Value} (ho : h.get? c = some o) (hd : o.data = .fields vs) (hcl : o.cls = .type "code") (e : codeOkB vs T = true) (hT : h.get? T = some (tabObj ps)) (ht : TriplesOk ps.toList) (hne : c ≠ T) : CodeHd h c T :=
  let ⟨a, b⟩ := codeOk_of ho hd hcl e hT ht hne; CodeHd.of a b
theorem lamO (n : Nat) {params : Arguments} {body : Expr} {scope : Scope} {clos : List (Str × Addr)} {Q : Value → Shared → Prop} (O : Own w.params foot g σ s L m led) (i : Nat) (hi : led[i]? = some (T, tabObj ps)) (ht : TriplesOk ps.toList)
    (hps : codeAmong pos ps.toList = none ∨ ∃ c' : Addr, codeAmong pos ps.toList = some (.ref c'))
    (h : ∀ f fd s' ps', (codeAmong pos ps.toList = none → ∃ c' : Addr, ps' = ps ++ #[rawInt pos.line, rawInt pos.col, .ref c']) → ((∃ c' : Addr, codeAmong pos ps.toList = some (.ref c')) → ps' = ps) →
      (∀ b o, b ≠ T → s.heap.get? b = some o → s'.heap.get? b = some o) → Own w.params foot g σ s' L m ((f, fnOb none fd) :: led.set i (T, tabObj ps')) → Q (.ref f) s')
    (hT3 : mainGlobals ≠ T := by decide) (hT4 : Nat.beq 4 T = false := by kernel_rfl)
    (hdef : defaultsOf params env = ([], []) := by kernel_rfl) (hcl : closureFor scope env = pure clos := by kernel_rfl) (hge0 : env.globals = mainGlobals := by kernel_rfl)
    (hfn : env.code = .ref (codeA w.params n) := by kernel_rfl) (hoc : (Kn w.params).lookup (codeA w.params n) = some (codeO w.params n) := by kernel_rfl) (hod : (codeO w.params n).data = .fields (codeV w.params n) := by kernel_rfl)
    (hcls : (codeO w.params n).cls = .type "code" := by kernel_rfl) (hok : codeOkB (codeV w.params n) T = true := by kernel_rfl) (hne : Nat.beq (codeA w.params n) T = false := by kernel_rfl) :
    wpAny (model prog w) A (eval (.Lambda params body scope pos) env) Q E s := by
  have hT := O.at i hi
  have C := codeHd_of (O.X _ _ hoc) hod hcls hok hT ht (Nat.ne_of_beq_eq_false hne)
  have zT := O.lg _ (List.mem_of_getElem? hi)
  refine kla_eval hdef ?_
  rcases hps with hnf | ⟨c', hf⟩
  · refine kla_makeFunction (mg := nsK w.params 3) hcl hge0 (nsG O.X) hfn C hT ht hnf hT3 (bltAt O.X hT4) fun c' ctv h' tk hx hge hlt hrec htb => ?_
    have O₁ := O.extBut i hi hx htb tk
    have O₂ := O₁.push (kla_obj "<lambda>" (env.qual ++ "<lambda>") params body scope clos (((nsK w.params 3) "__name__").getD .none) c' ctv) rfl tk
    refine h _ _ _ _ (fun _ => ⟨c', rfl⟩) (fun ⟨c'', e⟩ => by rw [hnf] at e; cases e) (fun b o hb e => Heap.get?_push_of_some _ (hx b o hb e)) O₂
  · refine kla_makeFunctionHit (mg := nsK w.params 3) hcl hge0 (nsG O.X) hfn C hT ht hf (bltAt O.X hT4) fun ctv h' tk hk hsz => ?_
    have O₁ := O.more hk tk
    have O₂ := O₁.push (kla_obj "<lambda>" (env.qual ++ "<lambda>") params body scope clos (((nsK w.params 3) "__name__").getD .none) c' ctv) rfl tk
    have e : led.set i (T, tabObj ps) = led := by
      obtain ⟨hl, he⟩ := List.getElem?_eq_some_iff.mp hi
      rw [← he]; exact List.set_getElem_self hl
    rw [← e] at O₂
    exact h _ _ _ ps (fun q => by rw [hf] at q; cases q) (fun _ => rfl) (fun b o hb e => Heap.get?_push_of_some _ (hk b o e)) O₂
/-- a def in a body -/
theorem defO (n : Nat) {name : Str} {params : Arguments} {body : List Stmt} {scope : Scope} {clos : List (Str × Addr)} {Q : Flow → Shared → Prop} (mk : Addr → Value → Value → FuncData) (O : Own w.params foot g σ s L m led) (i : Nat) (hi : led[i]? = some (T, tabObj ps)) (ht : TriplesOk ps.toList)
    (hps : codeAmong pos ps.toList = none ∨ ∃ c' : Addr, codeAmong pos ps.toList = some (.ref c') ∧ s.heap.CodeRec (.ref c') (env.qual ++ name))
    (h : ∀ f c' ctv doc s' ps', (codeAmong pos ps.toList = none → ps' = ps ++ #[rawInt pos.line, rawInt pos.col, .ref c']) → (∀ c'' : Addr, codeAmong pos ps.toList = some (.ref c'') → ps' = ps ∧ c' = c'') →
      s'.heap.CodeRec (.ref c') (env.qual ++ name) → (∀ b o, b ≠ T → s.heap.get? b = some o → s'.heap.get? b = some o) → Own w.params foot g σ s' L m ((f, fnOb none (mk c' ctv doc)) :: led.set i (T, tabObj ps')) → wpAny (model prog w) A (storeName env name (.ref f)) (fun _ s'' => Q .next s'') E s')
    (hmk : ∀ c' ctv doc, fnMade name (env.qual ++ name) params body scope clos doc (((nsK w.params 3) "__name__").getD .none) c' ctv = fnOb none (mk c' ctv doc) := by intro _ _ _; kernel_rfl)
    (hqn : qualnameIn env name name = env.qual ++ name := by kernel_rfl)
    (hT3 : mainGlobals ≠ T := by decide) (hT4 : Nat.beq 4 T = false := by kernel_rfl)
    (hd0 : params.defaults = [] := by kernel_rfl) (hk0 : params.kw_defaults = [] := by kernel_rfl) (ha : annTrees params none env = [] := by kernel_rfl)
    (hcl : closureFor scope env = pure clos := by kernel_rfl) (hge0 : env.globals = mainGlobals := by kernel_rfl)
    (hfn : env.code = .ref (codeA w.params n) := by kernel_rfl) (hoc : (Kn w.params).lookup (codeA w.params n) = some (codeO w.params n) := by kernel_rfl) (hod : (codeO w.params n).data = .fields (codeV w.params n) := by kernel_rfl)
    (hcls : (codeO w.params n).cls = .type "code" := by kernel_rfl) (hok : codeOkB (codeV w.params n) T = true := by kernel_rfl) (hne : Nat.beq (codeA w.params n) T = false := by kernel_rfl) :
    wpAny (model prog w) A (exec (.FunctionDef name params body [] none [] scope none name pos) env) Q E s := by
  have hT := O.at i hi
  have C := codeHd_of (O.X _ _ hoc) hod hcls hok hT ht (Nat.ne_of_beq_eq_false hne)
  have zT := O.lg _ (List.mem_of_getElem? hi)
  refine nestDef_K hd0 hk0 ha ?_
  rw [hqn]
  rcases hps with hnf | ⟨c', hf, hrec⟩
  · refine makeFunction_K (mg := nsK w.params 3) hcl hge0 (nsG O.X) hfn C hT ht hnf hT3 (bltAt O.X hT4) fun c' ctv doc h' tk hx hge hlt hrec htb => ?_
    have O₁ := O.extBut i hi hx htb tk
    have O₂ := O₁.push (fnMade name (env.qual ++ name) params body scope clos doc (((nsK w.params 3) "__name__").getD .none) c' ctv) rfl tk
    rw [hmk] at O₂ ⊢
    exact h _ c' ctv doc _ _ (fun _ => rfl) (fun c'' e => by rw [hnf] at e; cases e) (hrec.keeps fun b o e => Heap.get?_push_of_some _ e) (fun b o hb e => Heap.get?_push_of_some _ (hx b o hb e)) O₂
  · refine makeFunction_hit (mg := nsK w.params 3) hcl hge0 (nsG O.X) hfn C hT ht hf (bltAt O.X hT4) fun ctv doc h' tk hk hsz => ?_
    have O₁ := O.more hk tk
    have O₂ := O₁.push (fnMade name (env.qual ++ name) params body scope clos doc (((nsK w.params 3) "__name__").getD .none) c' ctv) rfl tk
    have e : led.set i (T, tabObj ps) = led := by
      obtain ⟨hl, he⟩ := List.getElem?_eq_some_iff.mp hi
      rw [← he]; exact List.set_getElem_self hl
    have e2 : ({ cls := .type "function", data := .func (fnX name (env.qual ++ name) params body scope clos .none .none doc (((nsK w.params 3) "__name__").getD .none) none (.ref c') ctv) } : Obj) = fnOb none (mk c' ctv doc) := hmk c' ctv doc
    rw [hmk] at O₂
    rw [e2]
    refine h _ c' ctv doc _ ps (fun q => by rw [hf] at q; cases q) (fun c'' e => ⟨rfl, by rw [hf] at e; cases e; rfl⟩) (hrec.keeps fun b o e => Heap.get?_push_of_some _ (hk b o e)) (fun b o hb e => Heap.get?_push_of_some _ (hk b o e)) ?_
    rw [e]; exact O₂
end
end Mine
namespace Mine
section
variable {prog : Program} {w : World} {A : Around} {R : Result → Shared → Prop} {s : Shared}
theorem asc_ok (X : (Kn w.params).In s.heap) (hroom : A.depth < recursionLimit) (hT : s.heap.get? 241 = some (tabObj #[]))
    (h : ∀ s' c dc fd tb, Post [241] s s' → s'.heap.get? 241 = some (tabObj tb) → s'.heap.get? c = some (fnOb (some dc) fd) → s'.heap.Ns dc (fun y => if y = "header_encoding" then some .none else none) → R (.ok (.ret (.ref c))) s') :
    codeAny (model prog w) A (.call (.ref 246) ⟨[], []⟩) R s := by
  refine enter 246 [] [(241, tabObj #[])] X hroom (led_cons hT (by unfold Off; kernel_rfl) led_nil) (by simp) ?_
  intro L s₁ g up O
  refine absQE fun Q E hR => ?_
  refine mstN fun N hN => ?_
  repeat walk_at "st"
  refine lamO 246 (clos := []) O 0 rfl trivial (.inl rfl) fun c fd s₂ ps' _ _ k₂ O₂ => ?_
  refine stO O₂ fun s₃ O₃ => ?_
  repeat walk_at "st"
  refine ldO O₃ (by rfl) ?_
  refine fn_setO O₃ 0 rfl (by rw [typeLookup_type, builtinLookup_eq_fast]; kernel_rfl) fun s₄ dc od hn O₄ => ?_
  repeat walk_at "st"
  refine ldO O₄ (by rfl) ?_
  exact hR _ _ (h s₄ c dc fd ps' O₄.post (O₄.at 2 rfl) (O₄.at 1 rfl) hn.ns)
end
end Mine
namespace Mine
section
variable {prog : Program} {w : World} {A : Around} {E : Value → Shared → Prop} {P : Params} {foot : List Addr} {g : Heap} {σ s : Shared} {L : Addr} {m : Str → Option Value} {led : List (Addr × Obj)} {x : Addr} {xs : Array Value} {n : Nat}
theorem inPython_lst (hx : s.heap.get? x = some (lstObj xs n)) : wpAny (model prog w) A (getitemInPython (.ref x)) (fun b s' => b = false ∧ s' = s) E s := by
  unfold getitemInPython
  exact wpAny_bind (wpAny_specialOf (T := "list") ⟨_, hx, rfl⟩ slot_list_getitem.lookup (wpAny_pure ⟨rfl, rfl⟩))
/-- l[a:b] of a plain list, behind its parts -/
theorem lst_getSliceO {value : Expr} {l u : Option Expr} {p : Pos} {sl : Addr} {vl vu : Value} {lo hi : Option Int} {Q : Value → Shared → Prop}
    (O : Own P foot g σ s L m led) (hx : s.heap.get? x = some (lstObj xs n))
    (hs : s.heap.IsSliceOf sl vl vu .none) (pl : IsPart vl lo) (pu : IsPart vu hi) (hsz : xs.size < 100000)
    (h : ∀ a s', s.heap.get? a = none → Own P foot g σ s' L m ((a, lstObj (slicePick xs lo hi none) 0) :: led) → Q (.ref a) s')
    (ht : ∀ r, letTemporaryGo value (.ref x) r = pure () := by intro _; with_unfolding_all rfl) :
    wpAny (model prog w) A (subscriptTail value (.Slice l u none p) (.ref x) (.ref sl)) Q E s := by
  unfold subscriptTail
  refine wpAny_bind (wpAny_mono (inPython_lst hx) (fun b s' hb => ?_) fun _ _ z => z)
  obtain ⟨rfl, rfl⟩ := hb
  refine wpAny_bind ?_
  show wpAny _ _ (operate [.ref sl, .ref x] (getItem (.ref x) (.ref sl))) _ _ _
  refine wpAny_operating (wpAny_getItem_list_slice (st := none) ⟨_, hx, rfl, _, rfl⟩ hs pl pu .none (by simp) ?_ (by simp only [sizeLine]; walk_at "om"))
  refine wpAny_bind (wpAny_of_eq (ht _) (wpAny_pure ?_))
  exact h _ _ (get?_size_none _) (O.push _)
theorem lst_setSliceO {sl y : Addr} {ys : Array Value} {ny : Nat} {vl vu : Value} {lo hi : Option Int} {Q : Unit → Shared → Prop}
    (O : Own P foot g σ s L m led) (i : Nat) (hx : led[i]? = some (x, lstObj xs n))
    (hs : s.heap.IsSliceOf sl vl vu .none) (pl : IsPart vl lo) (pu : IsPart vu hi) (hy : s.heap.get? y = some (lstObj ys ny)) (hyx : y ≠ x) (hsz : xs.size < 100000) (hsy : ys.size < 100000)
    (h : ∀ s' n', Own P foot g σ s' L m (led.set i (x, lstObj (xs.extract 0 (sliceBounds lo hi none xs.size).1.toNat ++ ys ++ xs.extract (max (sliceBounds lo hi none xs.size).1 (sliceBounds lo hi none xs.size).2.1).toNat xs.size) n')) → Q () s') :
    wpAny (model prog w) A (setItem (.ref x) (.ref sl) (.ref y)) Q E s := by
  have hx' := O.at i hx
  refine lst_setSlice hx' hs pl pu hy hyx ?_ hsz hsy
  have O' := O.update i (f := Obj.mapSeq fun xs' => xs'.extract 0 (sliceBounds lo hi none xs.size).1.toNat ++ ys ++ xs'.extract (max (sliceBounds lo hi none xs.size).1 (sliceBounds lo hi none xs.size).2.1).toNat xs'.size) hx
  exact h _ _ O'
end
noncomputable def rdParts (P : Params) : Arguments × List Stmt × Scope := match BD P 251 with
  | _ :: .FunctionDef _ a b _ _ _ sc _ _ _ :: _ => (a, b, sc)
  | _ => (default, [], default)
noncomputable def readFd (P : Params) (cell : Addr) (c : Addr) (ctv doc : Value) : FuncData :=
  fnX "read" ((EVC P 251 0).qual ++ "read") (rdParts P).1 (rdParts P).2.1 (rdParts P).2.2 [("left", cell)] .none .none doc (((nsK P 3) "__name__").getD .none) none (.ref c) ctv
theorem readFd_qual (P : Params) (cell c : Addr) (ctv doc : Value) : (readFd P cell c ctv doc).qualname = (EVC P 251 0).qual ++ "read" := by unfold readFd; rfl
theorem readFd_code (P : Params) (cell c : Addr) (ctv doc : Value) : (readFd P cell c ctv doc).code = .ref c := by unfold readFd; rfl
/-- the stream: an object whose read takes from the list lf -/
inductive Strm (P : Params) (h : Heap) (st lf : Addr) : Prop where
  | mk (rd cell dst : Addr) (mst : Str → Option Value) (fdS : FuncData) (c : Addr) (ctv doc : Value) (oc : Obj) (e1 : h.get? st = some (fnOb (some dst) fdS)) (e2 : h.Ns dst mst) (e3 : mst "read" = some (.ref rd)) (e4 : h.get? rd = some (fnOb none (readFd P cell c ctv doc)))
    (e5 : h.CodeRec (.ref c) ((EVC P 251 0).qual ++ "read")) (e6 : h.get? cell = some oc) (e7 : oc.data = .cell (some (.ref lf)))
theorem Strm.up {P : Params} {h g : Heap} {st lf : Addr} {xs : Array Value} {n : Nat} (S : Strm P h st lf) (hl : h.get? lf = some (lstObj xs n)) (up : ∀ b o, b ≠ lf → h.get? b = some o → g.get? b = some o) : Strm P g st lf := by
  obtain ⟨rd, cell, dst, mst, fdS, c, ctv, doc, oc, e1, e2, e3, e4, e5, e6, e7⟩ := id S
  exact ⟨rd, cell, dst, mst, fdS, c, ctv, doc, oc, up _ _ (gnk e1 hl) e1, e2.at' fun o e => up _ _ (gnkD e2 hl) e, e3, up _ _ (gnk e4 hl) e4, e5.at fun o e => up _ _ (gnkC e5 hl) e, up _ _ (gnk e6 hl (by unfold okind; rw [e7]; cases oc.cls <;> rfl)) e6, e7⟩
theorem Strm.keeps {P : Params} {h g : Heap} {st lf : Addr} (S : Strm P h st lf) (up : ∀ b o, h.get? b = some o → g.get? b = some o) : Strm P g st lf := by
  obtain ⟨rd, cell, dst, mst, fdS, c, ctv, doc, oc, e1, e2, e3, e4, e5, e6, e7⟩ := id S
  exact ⟨rd, cell, dst, mst, fdS, c, ctv, doc, oc, up _ _ e1, e2.at' fun o e => up _ _ e, e3, up _ _ e4, e5.keeps up, up _ _ e6, e7⟩
section
variable {prog : Program} {w : World} {A : Around} {E : Value → Shared → Prop} {R : Result → Shared → Prop} {s : Shared} {lf rd cell c : Addr} {vs : List Value} {ns : List Int} {n : Nat} {ctv doc : Value} {oc : Obj}
theorem ints_take {vs : List Value} {ns : List Int} (k : Nat) (h : IntsAre vs ns) : IntsAre (vs.take k) (ns.take k) := h.take k
theorem ints_drop {vs : List Value} {ns : List Int} (k : Nat) (h : IntsAre vs ns) : IntsAre (vs.drop k) (ns.drop k) := h.drop k
theorem read_ok {k : Nat} {tk : Tok} (X : (Kn w.params).In s.heap) (hroom : A.depth < recursionLimit) (hh : A.handled = none)
    (hrd : s.heap.get? rd = some (fnOb none (readFd w.params cell c ctv doc))) (hcd : s.heap.CodeRec (.ref c) ((EVC w.params 251 0).qual ++ "read")) (hc : s.heap.get? cell = some oc) (hoc : oc.data = .cell (some (.ref lf)))
    (hl : s.heap.get? lf = some (lstObj vs.toArray n)) (al : Off w.params lf) (hi : IntsAre vs ns) (hr : ∀ n ∈ ns, 0 ≤ n ∧ n < 256) (hsz : vs.length < 1000) (hk : k < 1000)
    (h : ∀ s' t n', Post [lf] s s' → s'.heap.get? lf = some (lstObj (vs.drop k).toArray n') → R (.ok (.ret (.bytes (byteArr (ns.take k)) t))) s') :
    codeAny (model prog w) A (.call (.ref rd) ⟨[.int k tk], []⟩) R s := by
  have hbind : bindArgs (readFd w.params cell c ctv doc) ⟨[.int k tk], []⟩ = pure ([("count", Value.int k tk)] : List (Str × Value)) := by kernel_rfl
  have h1 : (readFd w.params cell c ctv doc).body = .stmts (rdParts w.params).2.1 := by kernel_rfl
  have h2 : ((readFd w.params cell c ctv doc).scope.names.all fun x => x.2 != .cell) = true := by kernel_rfl
  have h3 : (([("count", .int k tk)] : List (Str × Value)).all fun x => (readFd w.params cell c ctv doc).scope.names.lookup x.1 == some .local) = true := by kernel_rfl
  have h4 : (readFd w.params cell c ctv doc).scope.isCoroutine = false := by kernel_rfl
  have h5 : (readFd w.params cell c ctv doc).scope.isGenerator = false := by kernel_rfl
  have h6 : (readFd w.params cell c ctv doc).scope.kind = .function := by kernel_rfl
  have h7 : s.heap.CodeRec (readFd w.params cell c ctv doc).code (readFd w.params cell c ctv doc).qualname := by rw [readFd_qual, readFd_code]; exact hcd
  have h8 : (fnOb none (readFd w.params cell c ctv doc)).data = .func (readFd w.params cell c ctv doc) := by kernel_rfl
  have h9 : LedOk w.params s.heap [(lf, lstObj vs.toArray n)] := led_cons hl al led_nil
  refine enterFd (ob := fnOb none (readFd w.params cell c ctv doc)) (fd := readFd w.params cell c ctv doc) (body := (rdParts w.params).2.1) [("count", .int k tk)] [(lf, lstObj vs.toArray n)] X hroom hrd h8 h7 h9 (by simp) ?_ hbind h1 h2 h3 h4 h5 h6
  intro L s₁ g up O
  refine absQE fun Q E hR => ?_
  have hcl : cell ≠ lf := by rintro rfl; rw [hl] at hc; cases hc; cases hoc
  have hc₁ : g.get? cell = some oc := up _ _ (by simpa using hcl) hc
  refine mstN fun N hN => ?_
  repeat walk_at "st"
  refine ldFree (c := cell) (O.keep _ _ hc₁) hoc ?_
  refine slO O (fun Q q => partNone q) (fun Q q => ldO O (by rfl) q) fun sl s₂ hsl O₂ => ?_
  refine lst_getSliceO (lo := none) (hi := some (k : Int)) O₂ (O₂.at 1 rfl) ⟨_, O₂.at 0 rfl, rfl, rfl⟩ .none (.int _ _) (by show vs.length < _; walk_at "om") fun tn s₃ htn O₃ => ?_
  rw [slicePick_upto'] at O₃
  refine stO O₃ fun s₄ O₄ => ?_
  repeat walk_at "st"
  refine lstO O₄ fun em s₅ hem O₅ => ?_
  repeat walk_at "st"
  refine ldFree (c := cell) (O₅.keep _ _ hc₁) hoc ?_
  refine slO O₅ (fun Q q => partNone q) (fun Q q => ldO O₅ (by rfl) q) fun sl₂ s₆ hsl₂ O₆ => ?_
  have nd := O₆.nd
  simp only [List.map_cons, List.map_nil, List.nodup_cons, List.mem_cons, List.not_mem_nil, or_false, not_or] at nd
  refine lst_setSliceO (lo := none) (hi := some (k : Int)) O₆ 4 rfl ⟨_, O₆.at 0 rfl, rfl, rfl⟩ .none (.int _ _) (O₆.at 1 rfl) nd.2.1.2.2 (by show vs.length < _; walk_at "om") (by show 0 < _; walk_at "om") fun s₇ n' O₇ => ?_
  have hres : vs.toArray.extract 0 (sliceBounds none (some (k : Int)) none vs.toArray.size).1.toNat ++ ([] : List Value).toArray ++ vs.toArray.extract (max (sliceBounds none (some (k : Int)) none vs.toArray.size).1 (sliceBounds none (some (k : Int)) none vs.toArray.size).2.1).toNat vs.toArray.size = (vs.drop k).toArray := by
    have hb : sliceBounds none (some (k : Int)) none vs.toArray.size = (0, min (k : Int) vs.length, 1) := by
      simp only [sliceBounds, Option.getD_none, show (1 : Int) > 0 by decide, if_true]
      simp
      walk_at "om"
    rw [hb]
    apply Array.toList_inj.mp
    have e2 : (max (0 : Int) (min (k : Int) vs.length)).toNat = min k vs.length := by walk_at "om"
    simp only [e2, Array.toList_append, Array.toList_extract]
    rcases Nat.le_total k vs.length with hkl | hkl
    · simp only [List.extract, Nat.min_eq_left hkl]
      simp [List.take_of_length_le (show (vs.drop k).length ≤ vs.length - k by simp)]
    · simp [List.extract, Nat.min_eq_right hkl, List.drop_eq_nil_of_le hkl]
  rw [hres] at O₇
  repeat walk_at "st"
  refine ldB (v := .type "bytes") O₇ ?_
  refine PyProof.Rows.callWith_type1 ?_
  repeat walk_at "st"
  refine ldO O₇ (by rfl) ?_
  repeat walk_at "st"
  refine call_bytes_ints (l := tn) (vs := vs.take k) (ns := ns.take k) ⟨_, O₇.at 2 rfl, rfl, _, rfl⟩ (ints_take k hi) (fun n hn => hr n (List.mem_of_mem_take hn)) (by simp only [sizeLine, List.length_take]; walk_at "om") hh fun h' t kk hk' => ?_
  have O₈ := O₇.more hk' kk
  exact hR _ _ (h _ t n' O₈.post (O₈.at 4 rfl))
end
end Mine
namespace Mine
theorem absQE2 {M : Model} {A : Around} {t : Sem Flow} {Qc : Flow → Shared → Prop} {Ec : Value → Shared → Prop} {s : Shared} (h : ∀ (Q : Flow → Shared → Prop) (E : Value → Shared → Prop), (∀ f s', Qc f s' → Q f s') → (∀ e s', Ec e s' → E e s') → wpAny M A t Q E s) : wpAny M A t Qc Ec s := h Qc Ec (fun _ _ x => x) fun _ _ x => x
/-- a part of a walk, with words Q and E of its own for how it ends -/
theorem absT {α : Type} {M : Model} {A : Around} {c : Sem α} {s : Shared} {Q0 Pq : α → Shared → Prop} {E0 Pe : Value → Shared → Prop} (h : ∀ (Q : α → Shared → Prop) (E : Value → Shared → Prop), (∀ v s', Pq v s' → Q v s') → (∀ e s', Pe e s' → E e s') → wpAny M A c Q E s) (hq : ∀ v s', Pq v s' → Q0 v s') (he : ∀ e s', Pe e s' → E0 e s') : wpAny M A c Q0 E0 s := h Q0 E0 hq he
def frs (l : List Env) : List Addr := l.filterMap (·.frame)
/-- the frames of the stack, as they lie -/
def Fms (h : Heap) (l : List Env) : Prop := ∀ env ∈ l, env.scope.kind ≠ .module ∧ ∃ L o, env.frame = some L ∧ h.get? L = some o ∧ ∀ vs, o.data ≠ .fields vs
theorem Fms.fun {h base : Heap} : ∀ {l : List Env}, Fms h l → (∀ a ∈ frs l, base.get? a = none) → h.FunFrames base l
  | [], _, _ => trivial
  | env :: r, F, hb => by
    obtain ⟨hk, L, o, hf, ho, hd⟩ := F env List.mem_cons_self
    refine ⟨hk, ⟨L, o, hf, hb L (List.mem_filterMap.mpr ⟨env, List.mem_cons_self, hf⟩), ho, hd⟩, Fms.fun (fun e he => F e (List.mem_cons_of_mem _ he)) fun a ha => hb a ?_⟩
    obtain ⟨e, he, hf'⟩ := List.mem_filterMap.mp ha
    exact List.mem_filterMap.mpr ⟨e, List.mem_cons_of_mem _ he, hf'⟩
theorem Fms.mem {h : Heap} {l : List Env} (F : Fms h l) {b : Addr} (hb : b ∈ frs l) : ∃ o, h.get? b = some o ∧ ∀ vs, o.data ≠ .fields vs := by
  obtain ⟨e, he, hf⟩ := List.mem_filterMap.mp hb
  obtain ⟨-, L, o, hf', ho, hd⟩ := F e he
  rw [hf] at hf'; cases hf'
  exact ⟨o, ho, hd⟩
theorem Fms.keeps {h h' : Heap} {l : List Env} (F : Fms h l) (k : ∀ b ∈ frs l, ∀ o, h.get? b = some o → h'.get? b = some o) : Fms h' l := fun e he => by
  obtain ⟨hk, L, o, hf, ho, hd⟩ := F e he
  exact ⟨hk, L, o, hf, k L (List.mem_filterMap.mpr ⟨e, he, hf⟩) o ho, hd⟩
/-- the end of a call by ValueError with a text -/
structure Raised (foot : List Addr) (outer : List Env) (e : Addr) (msg : Str) (s s' : Shared) : Prop where
  ex : ∃ base t tm, Heap.FlyingW base outer e (.type "ValueError") (.ref t) s'.heap ∧ s'.heap.TupAt t [.str msg tm] ∧ ∀ b o, b ∉ foot → b ∉ frs outer → s.heap.get? b = some o → base.get? b = some o
  slots : ∀ b ∈ frs outer, ∀ o, s.heap.get? b = some o → ∃ sl, s'.heap.get? b = some { o with slots := sl }
  bare : AllBare s.gens → AllBare s'.gens
  drawn : s'.drawn = s.drawn
  os : s'.os = s.os
section
variable {prog : Program} {w : World} {A : Around} {E : Value → Shared → Prop} {R : Result → Shared → Prop} {P : Params} {foot : List Addr} {g : Heap} {σ s s' : Shared} {L : Addr} {m : Str → Option Value} {led : List (Addr × Obj)} {env : Env} {outer : List Env}
theorem Own.frame (O : Own P foot g σ s L m led) : ∃ o, s.heap.get? L = some o ∧ ∀ vs, o.data ≠ .fields vs := by
  obtain ⟨o, es, ep, ho, hd, -⟩ := O.ns
  exact ⟨o, ho, fun vs q => by rw [hd] at q; cases q⟩
theorem Own.fms (O : Own P foot g σ s L m led) (F : Fms σ.heap outer) (hfo : ∀ a ∈ frs outer, a ∉ foot) : Fms s.heap outer :=
  F.keeps fun b hb o e => O.keep _ _ (O.base _ _ (hfo b hb) e)
theorem Own.fmsIn (O : Own P foot g σ s L m led) (F : Fms σ.heap outer) (hfo : ∀ a ∈ frs outer, a ∉ foot) (hf : env.frame = some L) (hk : env.scope.kind ≠ .module) : Fms s.heap (env :: outer) := fun e he => by
  rcases List.mem_cons.mp he with rfl | he
  · obtain ⟨o, ho, hd⟩ := O.frame
    exact ⟨hk, L, o, hf, ho, hd⟩
  · exact O.fms F hfo e he
/-- a raise here leaves the frame -/
theorem Own.raise (O : Own P foot g σ s L m led) {h' : Heap} {e : Addr} {msg : Str} {tm : Tok} (hx : Heap.MadeExc s.heap h' e "ValueError" [.str msg tm]) (hA : A.frames = some outer) (F : Fms σ.heap outer) (hfo : ∀ a ∈ frs outer, a ∉ foot)
    (h : ∀ s', Raised foot outer e msg σ s' → R (.error (.ref e)) s') (hf : env.frame = some L := by kernel_rfl) (hk : env.scope.kind = .function := by kernel_rfl) :
    wpAny (model prog w) (A.deeper env) (leaving env (.ref e)) (fun _ s'' => R (.error (.ref e)) s'') E { s with heap := h' } := by
  have FI := O.fmsIn F hfo hf (by rw [hk]; decide)
  have hLout : L ∉ frs outer := fun hm => by
    obtain ⟨o, ho, -⟩ := F.mem hm
    have := O.base _ _ (hfo L hm) ho
    rw [O.newL] at this; cases this
  have hbase : ∀ b o, b ∉ foot → b ∉ frs outer → σ.heap.get? b = some o → (hideAll s.heap (frs (env :: outer))).get? b = some o := fun b o h1 h2 e1 => by
    refine hideAll_get _ (O.keep _ _ (O.base _ _ h1 e1)) fun hm => ?_
    have hm' : b ∈ L :: frs outer := by
      have : frs (env :: outer) = L :: frs outer := by unfold frs; rw [List.filterMap_cons, hf]
      rw [← this]; exact hm
    rcases List.mem_cons.mp hm' with rfl | hm'
    · have := O.base _ _ h1 e1; rw [O.newL] at this; cases this
    · exact h2 hm'
  refine wpAny_leaves_madeW (s := { s with heap := h' }) (base := hideAll s.heap (frs (env :: outer))) (h := s.heap) (Around.frames_deeper hA) hf (fun b o q => of_hideAll _ q) (FI.fun fun a ha => hideAll_none _ ha) hx.of fun h'' t x1 x2 x3 x4 => ?_
  refine h _ ⟨⟨_, t, tm, x1, x2, hbase⟩, fun b hb o e1 => ?_, O.bare, O.drawn, O.os⟩
  have e2 : h'.get? b = some o := hx.keeps _ _ (O.keep _ _ (O.base _ _ (hfo b hb) e1))
  obtain ⟨o', ho', hd'⟩ := F.mem hb
  rw [e1] at ho'; cases ho'
  exact x4 b o e2 hd'
/-- a raise of a callee passes -/
theorem Own.passes (O : Own P foot g σ s L m led) {ft : List Addr} {e : Addr} {msg : Str} (r : Raised ft (env :: outer) e msg s s') (hft : ∀ a ∈ ft, a ∈ led.map (·.1)) (hA : A.frames = some outer) (F : Fms σ.heap outer) (hfo : ∀ a ∈ frs outer, a ∉ foot)
    (h : ∀ s', Raised foot outer e msg σ s' → R (.error (.ref e)) s') (hf : env.frame = some L := by kernel_rfl) :
    wpAny (model prog w) (A.deeper env) (leaving env (.ref e)) (fun _ s'' => R (.error (.ref e)) s'') E s' := by
  obtain ⟨base, t, tm, fl, tp, hb⟩ := r.ex
  have hfrs : frs (env :: outer) = L :: frs outer := by unfold frs; rw [List.filterMap_cons, hf]
  refine wpAny_leaves_onW (Around.frames_deeper hA) hf fl fun h'' x1 x2 => ?_
  refine h _ ⟨⟨base, t, tm, x1, tp.of_slots x2, fun b o h1 h2 e1 => ?_⟩, fun b hbm o e1 => ?_, fun x => r.bare (O.bare x), r.drawn.trans O.drawn, r.os.trans O.os⟩
  · have eg := O.base _ _ h1 e1
    refine hb b o (fun hm => ?_) (fun hm => ?_) (O.keep _ _ eg)
    · obtain ⟨q, hq, rfl⟩ := List.mem_map.mp (hft b hm)
      rw [(O.lg q hq).2.2] at eg; cases eg
    · rw [hfrs] at hm
      rcases List.mem_cons.mp hm with rfl | hm
      · rw [O.newL] at eg; cases eg
      · exact h2 hm
  · have eg := O.base _ _ (hfo b hbm) e1
    obtain ⟨sl, e2⟩ := r.slots b (by rw [hfrs]; exact List.mem_cons_of_mem _ hbm) o (O.keep _ _ eg)
    obtain ⟨o', ho', hd'⟩ := F.mem hbm
    rw [e1] at ho'; cases ho'
    obtain ⟨sl', e3⟩ := x2 b _ e2 hd'
    exact ⟨sl', e3⟩
end
end Mine
namespace Mine
theorem notOnly {l : List Env} {lf : Addr} {o : Obj} (h : lf ∉ frs l) : ∀ a ∈ frs l, a ∉ ([(lf, o)] : List (Addr × Obj)).map (·.1) := fun a ha hm => by
  have : a = lf := by simpa using hm
  exact h (this ▸ ha)
structure RdAt (P : Params) (g : Heap) (rd lf : Addr) : Prop where
  ex : ∃ cell c ctv doc oc, g.get? rd = some (fnOb none (readFd P cell c ctv doc)) ∧ g.CodeRec (.ref c) ((EVC P 251 0).qual ++ "read") ∧ g.get? cell = some oc ∧ oc.data = .cell (some (.ref lf))
theorem RdAt.fnAt {P : Params} {g : Heap} {rd lf : Addr} (r : RdAt P g rd lf) : FnAt rd g := by
  obtain ⟨cell, c, ctv, doc, oc, e, -⟩ := r.ex
  exact ⟨_, _, _, _, e⟩
theorem RdAt.keeps {P : Params} {g h : Heap} {rd lf : Addr} (r : RdAt P g rd lf) (k : ∀ b o, g.get? b = some o → h.get? b = some o) : RdAt P h rd lf := by
  obtain ⟨cell, c, ctv, doc, oc, e1, e2, e3, e4⟩ := r.ex
  exact ⟨cell, c, ctv, doc, oc, k _ _ e1, e2.keeps k, k _ _ e3, e4⟩
theorem byteArr_cons {n : Int} {ns : List Int} (h : 0 ≤ n ∧ n < 256) : ((byteArr (n :: ns)).toList.getD 0 0).toNat = n.toNat := by
  unfold byteArr
  simp only [List.map_cons, List.getD_eq_getElem?_getD, List.getElem?_cons_zero, Option.getD_some]
  show (UInt8.ofNat n.toNat).toNat = n.toNat
  simp; walk_at "om"
section
variable {prog : Program} {w : World} {A : Around} {E : Value → Shared → Prop} {R : Result → Shared → Prop} {foot : List Addr} {g : Heap} {σ s : Shared} {L : Addr} {m : Str → Option Value} {led : List (Addr × Obj)} {st lf rd : Addr} {vs : List Value} {ns : List Int} {n : Nat} {outer : List Env}
theorem st_method {pl : Sem Bool} {Q : Value × List Value → Shared → Prop} (O : Own w.params foot g σ s L m led) (S : Strm w.params g st lf) (h : ∀ rd s', Own w.params foot g σ s' L m led → RdAt w.params g rd lf → Q (.ref rd, []) s') : wpAny (model prog w) A (getMethod (.ref st) "read" pl) Q E s := by
  obtain ⟨rd, cell, dst, mst, fdS, c, ctv, doc, oc, e1, e2, e3, e4, e5, e6, e7⟩ := id S
  refine fn_method (O.keep _ _ e1) (e2.at' fun o e => O.keep _ _ e) e3 (by rw [typeLookup_type, builtinLookup_eq_fast]; kernel_rfl) rfl ?_
  exact h rd _ (O.toks _) ⟨cell, c, ctv, doc, oc, e4, e5, e6, e7⟩
theorem st_read {k : Nat} {tk : Tok} {Q : Value → Shared → Prop} (O : Own w.params foot g σ s L m ((lf, lstObj vs.toArray n) :: led)) (r : RdAt w.params g rd lf) (hroom : A.depth < recursionLimit) (hh : A.handled = none)
    (hi : IntsAre vs ns) (hr : ∀ n ∈ ns, 0 ≤ n ∧ n < 256) (hsz : vs.length < 1000) (hk : k < 1000)
    (h : ∀ s' t n', Own w.params foot g σ s' L m ((lf, lstObj (vs.drop k).toArray n') :: led) → Q (.bytes (byteArr (ns.take k)) t) s') :
    wpAny (model prog w) A (call (.ref rd) [.int k tk]) Q E s := by
  obtain ⟨cell, c, ctv, doc, oc, e1, e2, e3, e4⟩ := r.ex
  refine wpAny_call (read_ok O.X hroom hh (O.keep _ _ e1) (e2.keeps O.keep) (O.keep _ _ e3) e4 (O.at 0 rfl) (O.off (.head _)) hi hr hsz hk fun s' t n' p hl' => ?_)
  have nd := O.nd
  rw [List.map_cons, List.nodup_cons] at nd
  refine h s' t n' (O.after p (by simp) (fun q hq => ?_) O.nd)
  rcases List.mem_cons.mp hq with rfl | hq
  · exact ⟨hl', .inl (by simp)⟩
  · refine ⟨p.ext _ _ (fun hm => nd.1 ?_) (O.lg q (.tail _ hq)).1, .inl (by rw [List.map_cons]; exact .tail _ (List.mem_map_of_mem hq))⟩
    have : q.1 = lf := by simpa using hm
    exact List.mem_map.mpr ⟨q, hq, this⟩
theorem uint1_ok (X : (Kn w.params).In s.heap) (hroom : A.depth + 5 < recursionLimit) (hh : A.handled = none) (S : Strm w.params s.heap st lf) (hl : s.heap.get? lf = some (lstObj vs.toArray n)) (al : Off w.params lf)
    (hi : IntsAre vs ns) (hr : ∀ n ∈ ns, 0 ≤ n ∧ n < 256) (hsz : vs.length < 1000) (hA : A.frames = some outer) (F : Fms s.heap outer) (hfo : lf ∉ frs outer)
    (h1 : ∀ n0 nr, ns = n0 :: nr → ∀ s' t n', Post [lf] s s' → s'.heap.get? lf = some (lstObj (vs.drop 1).toArray n') → R (.ok (.ret (.int n0 t))) s')
    (h2 : ns = [] → ∀ s' e, Raised [lf] outer e "not enough data in stream to read uint1" s s' → R (.error (.ref e)) s') :
    codeAny (model prog w) A (.call (.ref 45) ⟨[.ref st], []⟩) R s := by
  refine enter 45 [("f", .ref st)] [(lf, lstObj vs.toArray n)] X (dl0 hroom) (led_cons hl al led_nil) (by simp) ?_
  intro L s₁ g up O
  refine absQE2 fun Q E hR hE => ?_
  have S₁ : Strm w.params g st lf := S.up hl fun b o hb e => up b o (by simpa using hb) e
  refine mstN fun N hN => ?_
  repeat walk_at "st"
  refine ldO O (by rfl) ?_
  refine st_method O S₁ fun rd s₂ O₂ r => ?_
  dsimp only
  refine callWith_F (q := rd) (by obtain ⟨a, b, c, d, e⟩ := r.fnAt; exact ⟨a, b, c, d, O₂.keep _ _ e⟩) ?_
  repeat walk_at "st"
  refine intO O₂ fun t₃ s₃ O₃ => ?_
  repeat walk_at "st"
  refine ⟨by obtain ⟨a, b, c, d, e⟩ := r.fnAt; exact ⟨a, b, c, d, O₃.keep _ _ e⟩, ?_⟩
  refine st_read (k := 1) (ns := ns) O₃ r (by show A.depth + 1 < _; exact dl hroom (by decide)) hh hi hr hsz (by decide) fun s₄ t₄ n' O₄ => ?_
  refine stO O₄ fun s₅ O₅ => ?_
  repeat walk_at "st"
  refine isTrue_plain ?_
  refine ldO O₅ (by rfl) ?_
  have hbs : (byteArr (ns.take 1)).size ≤ 1 := by rw [byteArr_size, List.length_take]; walk_at "om"
  refine PySem.W.truthy_bytes (by walk_at "om") ?_
  have O₆ := O₅.toks (s₅.toks + 1 + 1)
  generalize hs₆ : ({ s₅ with toks := s₅.toks + 1 + 1 } : Shared) = s₆ at O₆ ⊢
  cases ns with
  | nil =>
    refine ifF (by rfl) ?_
    repeat walk_at "st"
    refine Raise_madeB PySem.F.excCall_ValueError PySem.F.excRaise_ValueError hh ?_
    refine ldB (v := .type "ValueError") O₆ ⟨rfl, ?_⟩
    repeat walk_at "st"
    refine strO O₆ fun t₇ s₇ O₇ => ?_
    repeat walk_at "st"
    refine ⟨by size_fits, fun h' e hx => ?_⟩
    exact hE _ _ (O₇.raise hx hA F (notOnly hfo) fun s' r => h2 rfl s' e r)
  | cons n0 nr =>
    refine ifT (by rfl) ?_
    repeat walk_at "st"
    refine ldO O₆ (by rfl) ?_
    refine intO O₆ fun t₇ s₇ O₇ => ?_
    refine subTail_any (inPython_builtin (PySem.W.typeIs_bytes _ _ _) FB.slot_bytes_getitem.lookup) (PySem.W.getItem_bytes (l := [n0.toNat.toUInt8]) (by show 1 ≤ _; walk_at "om") (by decide) (by show (0 : Int) < 1; decide) ?_) (by with_unfolding_all rfl)
    have hb := hr n0 List.mem_cons_self
    have hv : ((([n0.toNat.toUInt8] : List UInt8).getD (Int.toNat 0) 0).toNat : Int) = n0 := by
      have := byteArr_cons (ns := []) hb
      have e : (([n0.toNat.toUInt8] : List UInt8).getD (Int.toNat 0) 0).toNat = n0.toNat := this
      rw [e]; walk_at "om"
    rw [hv]
    have O₈ := O₇.toks (s₇.toks + 1)
    exact hR _ _ (h1 n0 nr rfl _ _ n' O₈.post (O₈.at 0 rfl))
end
end Mine
namespace Mine
def dec (n : Int) : Str := Str.ofString (toString n)
def shortMsg (name : Str) (n k : Int) : Str := ("expected " : Str) ++ dec n ++ " bytes in a " ++ name ++ ", but only " ++ dec k ++ " remain"
theorem append_assocS (a b c : Str) : a ++ b ++ c = a ++ (b ++ c) := by apply ext_lst; simp only [lst_append, List.append_assoc]
section
variable {prog : Program} {w : World} {A : Around} {E : Value → Shared → Prop} {s : Shared} {b : Addr} {t u1 u2 u3 : Tok} {n k : Int}
theorem mod_tup {X X' T : Str} {its : Array Value} {kk : Nat} {Q : Value → Shared → Prop} (hb : s.heap.get? b = some { cls := .type "tuple", data := .seq its kk }) (hX : X = X')
    (hm : Meets (Builtin.«str.__mod__» ⟨[.str X' t, .ref b], []⟩) (fun _ R s => IsTup s.heap b its ∧ ∀ t' k, R (.ok (.ret (.str T t'))) { s with toks := k }))
    (h : ∀ t' k, Q (.str T t') { s with toks := k }) : wpAny (model prog w) A (binaryOp .Mod (.str X t) (.ref b)) Q E s := by
  subst hX
  exact KPt.bin_left (T := "str") (U := "tuple") (op := .Mod) (by decide) (typeIs_str s X t) ⟨_, hb, rfl⟩ PySem.F.fills_str_mod KPt.fills_tuple PySem.F.slot_str_mod
    (call_meets PySem.F.slot_str_mod (typeIs_str s X t) PySem.F.entry_str_mod (PySem.F.args_str_mod_2 _ _) hm ⟨⟨_, hb, rfl, _, rfl⟩, fun t' k => ⟨(fun e => nomatch e), h t' k⟩⟩)
set_option maxHeartbeats 4000000 in
theorem pct_string1 (h0 : 0 ≤ n) (h1 : n < 10 ^ 10) (k0 : 0 ≤ k) (k1 : k < 10 ^ 10) : Meets (Builtin.«str.__mod__» ⟨[.str (⟨[101, 120, 112, 101, 99, 116, 101, 100, 32, 37, 100, 32, 98, 121, 116, 101, 115, 32, 105, 110, 32, 97, 32, 115, 116, 114, 105, 110, 103, 49, 44, 32, 98, 117, 116, 32, 111, 110, 108, 121, 32, 37, 100, 32, 114, 101, 109, 97, 105, 110].toArray⟩ : Str) t, .ref b], []⟩)
    (fun _ R s => IsTup s.heap b #[.int n u1, .int k u2] ∧ ∀ t' k', R (.ok (.ret (.str (("expected " : Str) ++ Str.ofString (toString n) ++ " bytes in a string1, but only " ++ Str.ofString (toString k) ++ " remain") t'))) { s with toks := k' }) := by
  kpt_run
theorem mod_string1 {X : Str} {kk : Nat} {Q : Value → Shared → Prop} (hb : s.heap.get? b = some { cls := .type "tuple", data := .seq #[.int n u1, .int k u2] kk }) (h0 : 0 ≤ n) (h1 : n < 10 ^ 10) (k0 : 0 ≤ k) (k1 : k < 10 ^ 10)
    (h : ∀ t' k', Q (.str (shortMsg "string1" n k) t') { s with toks := k' }) (hX : X = (⟨[101, 120, 112, 101, 99, 116, 101, 100, 32, 37, 100, 32, 98, 121, 116, 101, 115, 32, 105, 110, 32, 97, 32, 115, 116, 114, 105, 110, 103, 49, 44, 32, 98, 117, 116, 32, 111, 110, 108, 121, 32, 37, 100, 32, 114, 101, 109, 97, 105, 110].toArray⟩ : Str) := by decide +kernel) : wpAny (model prog w) A (binaryOp .Mod (.str X t) (.ref b)) Q E s := by
  refine mod_tup hb hX (pct_string1 h0 h1 k0 k1) fun t' k' => ?_
  have e : ("expected " : Str) ++ Str.ofString (toString n) ++ " bytes in a string1, but only " ++ Str.ofString (toString k) ++ " remain" = shortMsg "string1" n k := by
    unfold shortMsg dec
    apply ext_lst
    simp only [lst_append, List.append_assoc]
    rfl
  rw [e]
  exact h t' k'
set_option maxHeartbeats 4000000 in
theorem pct_bytes1 (h0 : 0 ≤ n) (h1 : n < 10 ^ 10) (k0 : 0 ≤ k) (k1 : k < 10 ^ 10) : Meets (Builtin.«str.__mod__» ⟨[.str (⟨[101, 120, 112, 101, 99, 116, 101, 100, 32, 37, 100, 32, 98, 121, 116, 101, 115, 32, 105, 110, 32, 97, 32, 98, 121, 116, 101, 115, 49, 44, 32, 98, 117, 116, 32, 111, 110, 108, 121, 32, 37, 100, 32, 114, 101, 109, 97, 105, 110].toArray⟩ : Str) t, .ref b], []⟩)
    (fun _ R s => IsTup s.heap b #[.int n u1, .int k u2] ∧ ∀ t' k', R (.ok (.ret (.str (("expected " : Str) ++ Str.ofString (toString n) ++ " bytes in a bytes1, but only " ++ Str.ofString (toString k) ++ " remain") t'))) { s with toks := k' }) := by
  kpt_run
theorem mod_bytes1 {X : Str} {kk : Nat} {Q : Value → Shared → Prop} (hb : s.heap.get? b = some { cls := .type "tuple", data := .seq #[.int n u1, .int k u2] kk }) (h0 : 0 ≤ n) (h1 : n < 10 ^ 10) (k0 : 0 ≤ k) (k1 : k < 10 ^ 10)
    (h : ∀ t' k', Q (.str (shortMsg "bytes1" n k) t') { s with toks := k' }) (hX : X = (⟨[101, 120, 112, 101, 99, 116, 101, 100, 32, 37, 100, 32, 98, 121, 116, 101, 115, 32, 105, 110, 32, 97, 32, 98, 121, 116, 101, 115, 49, 44, 32, 98, 117, 116, 32, 111, 110, 108, 121, 32, 37, 100, 32, 114, 101, 109, 97, 105, 110].toArray⟩ : Str) := by decide +kernel) : wpAny (model prog w) A (binaryOp .Mod (.str X t) (.ref b)) Q E s := by
  refine mod_tup hb hX (pct_bytes1 h0 h1 k0 k1) fun t' k' => ?_
  have e : ("expected " : Str) ++ Str.ofString (toString n) ++ " bytes in a bytes1, but only " ++ Str.ofString (toString k) ++ " remain" = shortMsg "bytes1" n k := by
    unfold shortMsg dec
    apply ext_lst
    simp only [lst_append, List.append_assoc]
    rfl
  rw [e]
  exact h t' k'
set_option maxHeartbeats 4000000 in
theorem pct_name {y : Str} (h0 : 0 ≤ n) (h1 : n < 10 ^ 10) (k0 : 0 ≤ k) (k1 : k < 10 ^ 10) (hy : y.length ≤ 1000000) : Meets (Builtin.«str.__mod__» ⟨[.str (⟨[101, 120, 112, 101, 99, 116, 101, 100, 32, 37, 100, 32, 98, 121, 116, 101, 115, 32, 105, 110, 32, 97, 32, 37, 115, 44, 32, 98, 117, 116, 32, 111, 110, 108, 121, 32, 37, 100, 32, 114, 101, 109, 97, 105, 110].toArray⟩ : Str) t, .ref b], []⟩)
    (fun _ R s => IsTup s.heap b #[.int n u1, .str y u3, .int k u2] ∧ ∀ t' k', R (.ok (.ret (.str (("expected " : Str) ++ Str.ofString (toString n) ++ " bytes in a " ++ y ++ ", but only " ++ Str.ofString (toString k) ++ " remain") t'))) { s with toks := k' }) := by
  kpt_run
theorem mod_name {X y : Str} {kk : Nat} {Q : Value → Shared → Prop} (hb : s.heap.get? b = some { cls := .type "tuple", data := .seq #[.int n u1, .str y u3, .int k u2] kk }) (h0 : 0 ≤ n) (h1 : n < 10 ^ 10) (k0 : 0 ≤ k) (k1 : k < 10 ^ 10) (hy : y.length ≤ 1000)
    (h : ∀ t' k', Q (.str (shortMsg y n k) t') { s with toks := k' }) (hX : X = (⟨[101, 120, 112, 101, 99, 116, 101, 100, 32, 37, 100, 32, 98, 121, 116, 101, 115, 32, 105, 110, 32, 97, 32, 37, 115, 44, 32, 98, 117, 116, 32, 111, 110, 108, 121, 32, 37, 100, 32, 114, 101, 109, 97, 105, 110].toArray⟩ : Str) := by decide +kernel) : wpAny (model prog w) A (binaryOp .Mod (.str X t) (.ref b)) Q E s :=
  mod_tup hb hX (pct_name h0 h1 k0 k1 (by walk_at "om")) h
end
end Mine
namespace Mine
theorem args_bytes_decode_2 (a b : Value) : argsOk "bytes.decode" ⟨[a, b], []⟩ := by unfold argsOk; kernel_rfl
theorem latin_road0 (b : UInt8) (id : String) : Builtin._codecs.decodeRoad id #[b] "latin-1" none [] = mkStr ⟨#[b.toNat]⟩ := by kernel_rfl
theorem latin_road1 (b c : UInt8) (id : String) : Builtin._codecs.decodeRoad id #[b, c] "latin-1" none [] = mkStr ⟨#[b.toNat, c.toNat]⟩ := by kernel_rfl
theorem latin_road2 (b c d : UInt8) (id : String) : Builtin._codecs.decodeRoad id #[b, c, d] "latin-1" none [] = mkStr ⟨#[b.toNat, c.toNat, d.toNat]⟩ := by kernel_rfl
theorem latin_entry (c : UInt8) (cs : List UInt8) (t u : Tok) : Builtin.«bytes.decode» ⟨[.bytes (c :: cs).toArray t, .str "latin-1" u], []⟩ = (mkStr (PySem.Str.ofString "utf-8") >>= fun _ => mkStr (PySem.Str.ofString "latin-1") >>= fun e => mkStr (PySem.Str.ofString "bytes.decode") >>= fun d =>
    call (.builtin "_codecs.decode.text") [.bytes (c :: cs).toArray t, e, .none, d] >>= fun v => ret v) := by kernel_rfl
theorem latin_entry0 (t u : Tok) : Builtin.«bytes.decode» ⟨[.bytes #[] t, .str "latin-1" u], []⟩ = (rule "bytes.decode.empty" >>= fun _ => retStr Str.empty) := by kernel_rfl
section
variable {prog : Program} {w : World} {A : Around} {E : Value → Shared → Prop} {s : Shared} {t u : Tok}
theorem latin_fin {bs : List UInt8} {x : Str} {Q : Fin → Shared → Prop} (hr : ∀ id, Builtin._codecs.decodeRoad id bs.toArray "latin-1" none [] = mkStr x) (hx : x.length ≤ 100) {t1 t2 : Tok} {d : Str} (h : ∀ t', Q (.done (.ret (.str x t'))) { s with toks := s.toks + 1 }) :
    wpAny (model prog w) A (Builtin.«_codecs.decode.text» ⟨[.bytes bs.toArray t, .str "latin-1" t1, .none, .str d t2], []⟩) Q E s := by
  show wpAny _ _ (Builtin.Bytes.bytesLike _ (.bytes bs.toArray t) >>= fun r => _) _ _ s
  refine wpAny_bind (wpAny_of_eq KBd.like_eq ?_)
  refine wpAny_bind (wpAny_of_eq KBd.held_eq ?_)
  show wpAny _ _ (Builtin._codecs.decodeRoad _ bs.toArray "latin-1" none [] >>= fun v => _) _ _ s
  rw [hr]
  refine wpAny_bind (wpAny_mkStr ?_ ?_)
  · exact wpAny_pure (h _)
  have : 100 ≤ sizeLine := by decide
  walk_at "om"
theorem latin_meets {bs : List UInt8} {x : Str} {Q : Fin → Shared → Prop} (hne : bs ≠ []) (hr : ∀ id, Builtin._codecs.decodeRoad id bs.toArray "latin-1" none [] = mkStr x) (hx : x.length ≤ 100) (h : ∀ t' k, Q (.done (.ret (.str x t'))) { s with toks := k }) :
    wpAny (model prog w) A (Builtin.«bytes.decode» ⟨[.bytes bs.toArray t, .str "latin-1" u], []⟩) Q E s := by
  obtain ⟨c, cs, rfl⟩ : ∃ c cs, bs = c :: cs := by
    cases bs with
    | nil => exact absurd rfl hne
    | cons c cs => exact ⟨c, cs, rfl⟩
  rw [latin_entry]
  refine wpAny_bind (wpAny_mkStr ?_ (by decide))
  refine wpAny_bind (wpAny_mkStr ?_ (by decide))
  refine wpAny_bind (wpAny_mkStr ?_ (by decide))
  refine wpAny_bind (call_function_tree KBd.kind_text KBd.plain_text KBd.entry_text (KBd.args_text _ _ _ _) ?_)
  exact latin_fin hr hx fun t' => wpAny_pure (h _ _)
theorem latin_empty {Q : Fin → Shared → Prop} (h : ∀ t' k, Q (.done (.ret (.str "" t'))) { s with toks := k }) : wpAny (model prog w) A (Builtin.«bytes.decode» ⟨[.bytes #[] t, .str "latin-1" u], []⟩) Q E s := by
  rw [latin_entry0]
  refine wpAny_bind (wpAny_rule ?_)
  show wpAny _ _ (mkStr Str.empty >>= fun v => ret v) _ _ _
  exact wpAny_bind (wpAny_mkStr (wpAny_pure (h _ _)) (by decide))
def ofBytes (bs : List UInt8) : Str := ⟨(bs.map (·.toNat)).toArray⟩
theorem latin_call {bs : List UInt8} {Q : Value → Shared → Prop} (hl : bs.length ≤ 3) (h : ∀ t' k, Q (.str (ofBytes bs) t') { s with toks := k }) : wpAny (model prog w) A (call (.builtin "bytes.decode") [.bytes bs.toArray t, .str "latin-1" u]) Q E s := by
  refine wpAny_call_entry FB.slot_bytes_decode (PySem.W.typeIs_bytes _ _ _) FB.entry_bytes_decode ?_ (args_bytes_decode_2 _ _)
  match bs, hl with
  | [], _ => exact latin_empty fun t' k => ⟨_, rfl, h t' k⟩
  | [b], _ => exact latin_meets (x := ofBytes [b]) (by simp) (latin_road0 b) (by show 1 ≤ 100; decide) fun t' k => ⟨_, rfl, h t' k⟩
  | [b, c], _ => exact latin_meets (x := ofBytes [b, c]) (by simp) (latin_road1 b c) (by show 2 ≤ 100; decide) fun t' k => ⟨_, rfl, h t' k⟩
  | [b, c, d], _ => exact latin_meets (x := ofBytes [b, c, d]) (by simp) (latin_road2 b c d) (by show 3 ≤ 100; decide) fun t' k => ⟨_, rfl, h t' k⟩
  | _ :: _ :: _ :: _ :: _, hl => exact absurd hl (by simp)
theorem latin_method {b : Array UInt8} {pl : Sem Bool} {Q : Value × List Value → Shared → Prop} (h : Q (.builtin "bytes.decode", [.bytes b t]) s) : wpAny (model prog w) A (getMethod (.bytes b t) "decode" pl) Q E s := KBd.method h
end
end Mine
namespace Mine
def chars (ns : List Int) : Str := ofL (ns.map Int.toNat)
theorem ofBytes_byteArr {ns : List Int} (h : ∀ n ∈ ns, 0 ≤ n ∧ n < 256) : ofBytes (byteArr ns).toList = chars ns := by
  unfold ofBytes byteArr chars ofL
  congr 2
  rw [List.toList_toArray, List.map_map]
  refine List.map_congr_left fun n hn => ?_
  have := h n hn
  show (UInt8.ofNat n.toNat).toNat = n.toNat
  simp; walk_at "om"
section
variable {prog : Program} {w : World} {A : Around} {E : Value → Shared → Prop} {R : Result → Shared → Prop} {foot : List Addr} {g : Heap} {σ s : Shared} {L : Addr} {m : Str → Option Value} {led : List (Addr × Obj)} {st lf rd : Addr} {vs : List Value} {ns : List Int} {n : Nat} {outer : List Env}
theorem Own.afterHd {P : Params} {s' : Shared} {o o' : Obj} (O : Own P foot g σ s L m ((lf, o) :: led)) (p : Post [lf] s s') (hl : s'.heap.get? lf = some o') : Own P foot g σ s' L m ((lf, o') :: led) := by
  have nd := O.nd
  rw [List.map_cons, List.nodup_cons] at nd
  refine O.after p (by simp) (fun q hq => ?_) O.nd
  rcases List.mem_cons.mp hq with rfl | hq
  · exact ⟨hl, .inl (by simp)⟩
  · refine ⟨p.ext _ _ (fun hm => nd.1 ?_) (O.lg q (.tail _ hq)).1, .inl (by rw [List.map_cons]; exact .tail _ (List.mem_map_of_mem hq))⟩
    have : q.1 = lf := by simpa using hm
    exact List.mem_map.mpr ⟨q, hq, this⟩
theorem st_uint1 {Q : Value → Shared → Prop} (O : Own w.params foot g σ s L m ((lf, lstObj vs.toArray n) :: led)) (S : Strm w.params g st lf) (hroom : A.depth + 5 < recursionLimit) (hh : A.handled = none)
    (hi : IntsAre vs ns) (hr : ∀ n ∈ ns, 0 ≤ n ∧ n < 256) (hsz : vs.length < 1000) (hA : A.frames = some outer) (F : Fms s.heap outer) (hfo : lf ∉ frs outer)
    (h1 : ∀ n0 nr, ns = n0 :: nr → ∀ s' t n', Own w.params foot g σ s' L m ((lf, lstObj (vs.drop 1).toArray n') :: led) → Q (.int n0 t) s')
    (h2 : ns = [] → ∀ s' e, Raised [lf] outer e "not enough data in stream to read uint1" s s' → E (.ref e) s') :
    wpAny (model prog w) A (call (.ref 45) [.ref st]) Q E s := by
  refine wpAny_call (uint1_ok O.X hroom hh (S.keeps O.keep) (O.at 0 rfl) (O.off (.head _)) hi hr hsz hA F hfo (fun n0 nr e s' t n' p hl => ?_) h2)
  exact h1 n0 nr e s' t n' (O.afterHd p hl)
theorem lf_frames {P : Params} {env : Env} {o : Obj} (O : Own P foot g σ s L m ((lf, o) :: led)) (hfo : lf ∉ frs outer) (hf : env.frame = some L) : lf ∉ frs (env :: outer) := by
  have hfrs : frs (env :: outer) = L :: frs outer := by unfold frs; rw [List.filterMap_cons, hf]
  rw [hfrs]
  intro hm
  rcases List.mem_cons.mp hm with e | hm
  · exact (O.lg (lf, o) (.head _)).2.1 e
  · exact hfo hm
set_option maxHeartbeats 2000000 in
theorem string1_ok (X : (Kn w.params).In s.heap) (hroom : A.depth + 10 < recursionLimit) (hh : A.handled = none) (S : Strm w.params s.heap st lf) (hl : s.heap.get? lf = some (lstObj vs.toArray n)) (al : Off w.params lf)
    (hi : IntsAre vs ns) (hr : ∀ n ∈ ns, 0 ≤ n ∧ n < 256) (hsz : vs.length < 1000) (hA : A.frames = some outer) (F : Fms s.heap outer) (hfo : lf ∉ frs outer) (h3 : ∀ n0 nr, ns = n0 :: nr → n0 ≤ 3)
    (h1 : ∀ n0 nr, ns = n0 :: nr → n0.toNat ≤ nr.length → ∀ s' t n', Post [lf] s s' → s'.heap.get? lf = some (lstObj (vs.drop (1 + n0.toNat)).toArray n') → R (.ok (.ret (.str (chars (nr.take n0.toNat)) t))) s')
    (h2 : ns = [] → ∀ s' e, Raised [lf] outer e "not enough data in stream to read uint1" s s' → R (.error (.ref e)) s')
    (h4 : ∀ n0 nr, ns = n0 :: nr → nr.length < n0.toNat → ∀ s' e, Raised [lf] outer e (shortMsg "string1" n0 nr.length) s s' → R (.error (.ref e)) s') :
    codeAny (model prog w) A (.call (.ref 52) ⟨[.ref st], []⟩) R s := by
  refine enter 52 [("f", .ref st)] [(lf, lstObj vs.toArray n)] X (dl0 hroom) (led_cons hl al led_nil) (by simp) ?_
  intro L s₁ g up O
  refine absQE2 fun Q E hR hE => ?_
  have S₁ : Strm w.params g st lf := S.up hl fun b o hb e => up b o (by simpa using hb) e
  have hfn := notOnly (o := lstObj vs.toArray n) hfo
  walk_at "nx"
  refine mstN fun N hN => ?_
  repeat walk_at "st"
  refine ldG (v := .ref 45) O ?_
  refine callWith_K (h₀ := g) O.kn (by kernel_rfl) ?_
  repeat walk_at "st"
  refine ldO O (by rfl) ?_
  repeat walk_at "st"
  refine ⟨O.X, ?_⟩
  refine st_uint1 (ns := ns) O S₁ (by show A.depth + 1 + 5 < _; exact dl2 hroom (by decide)) hh hi hr hsz (Around.frames_deeper hA) (O.fmsIn F hfn (by kernel_rfl) (by show (EV w.params 52 L).scope.kind ≠ _; rw [show (EV w.params 52 L).scope.kind = .function by kernel_rfl]; decide)) (lf_frames O hfo (by kernel_rfl)) (fun n0 nr e s₂ t₂ n₂ O₂ => ?_) fun e s₂ ex r => ?_
  · have hb := hr n0 (by rw [e]; exact List.mem_cons_self)
    have hle := h3 n0 nr e
    obtain ⟨k, hk⟩ : ∃ k : Nat, n0 = k := ⟨n0.toNat, by walk_at "om"⟩
    subst hk
    have hk3 : k ≤ 3 := by walk_at "om"
    have hi₂ : IntsAre (vs.drop 1) nr := by have := ints_drop 1 hi; rw [e] at this; exact this
    have hr₂ : ∀ n ∈ nr, 0 ≤ n ∧ n < 256 := fun n hn => hr n (by rw [e]; exact List.mem_cons_of_mem _ hn)
    have hlen : (vs.drop 1).length = nr.length := hi₂.length
    refine stO O₂ fun s₃ O₃ => ?_
    walk_at "nx"
    refine mstN fun N hN => ?_
    refine wpAny_Assert_holds ?_
    refine wpAny_isTrue_Compare1 ?_
    refine ldO O₃ (by rfl) ?_
    refine intO O₃ fun t₄ s₄ O₄ => ?_
    refine PySem.P.ge_int ?_
    refine wpAny_pure ⟨by simp, ?_⟩
    walk_at "nx"
    refine mstN fun N hN => ?_
    repeat walk_at "st"
    refine ldO O₄ (by rfl) ?_
    refine st_method O₄ S₁ fun rd s₅ O₅ r => ?_
    dsimp only
    refine callWith_F (q := rd) (by obtain ⟨a, b, c, d, e⟩ := r.fnAt; exact ⟨a, b, c, d, O₅.keep _ _ e⟩) ?_
    repeat walk_at "st"
    refine ldO O₅ (by rfl) ?_
    repeat walk_at "st"
    refine ⟨by obtain ⟨a, b, c, d, e⟩ := r.fnAt; exact ⟨a, b, c, d, O₅.keep _ _ e⟩, ?_⟩
    refine st_read (k := k) (ns := nr) O₅ r (by show A.depth + 1 < _; exact dl hroom (by decide)) hh hi₂ hr₂ (by simp; walk_at "om") (by walk_at "om") fun s₆ t₆ n₆ O₆ => ?_
    refine stO O₆ fun s₇ O₇ => ?_
    walk_at "nx"
    refine mstN fun N hN => ?_
    repeat walk_at "st"
    refine wpAny_isTrue_Compare1 ?_
    repeat walk_at "st"
    refine ldB (v := .builtin "len") O₇ ?_
    refine callWith_method1 ?_
    repeat walk_at "st"
    refine ldO O₇ (by rfl) ?_
    repeat walk_at "st"
    have hbs : (byteArr (nr.take k)).size = min k nr.length := by rw [byteArr_size, List.length_take]
    refine PySem.W.len_bytes (by walk_at "om") ?_
    have O₈ := O₇.toks (s₇.toks + 1 + 1)
    generalize hs₈ : ({ s₇ with toks := s₇.toks + 1 + 1 } : Shared) = s₈ at O₈ ⊢
    refine ldO O₈ (by rfl) ?_
    refine PySem.P.eq_int ?_
    refine wpAny_pure ?_
    rw [hbs]
    by_cases hge : k ≤ nr.length
    · refine ifT (by rw [Nat.min_eq_left hge]; simp) ?_
      repeat walk_at "st"
      refine ldO O₈ (by rfl) ?_
      refine latin_method ?_
      dsimp only
      refine callWith_method1 ?_
      repeat walk_at "st"
      refine strO (x := "latin-1") O₈ fun t₉ s₉ O₉ => ?_
      repeat walk_at "st"
      show wpAny _ _ (call (.builtin "bytes.decode") [.bytes (byteArr (nr.take k)).toList.toArray t₆, .str "latin-1" t₉]) _ _ _
      refine latin_call (by simp; walk_at "om") fun t' k' => ?_
      rw [ofBytes_byteArr fun n hn => hr₂ n (List.mem_of_mem_take hn)]
      have O₁₀ := O₉.toks k'
      refine hR _ _ (h1 k nr e hge _ _ n₆ O₁₀.post ?_)
      have := O₁₀.at 0 rfl
      rw [List.drop_drop] at this
      exact this
    · refine ifF (by rw [Nat.min_eq_right (by walk_at "om")]; simp; walk_at "om") ?_
      repeat walk_at "st"
      refine Raise_madeB PySem.F.excCall_ValueError PySem.F.excRaise_ValueError hh ?_
      refine ldB (v := .type "ValueError") O₈ ⟨rfl, ?_⟩
      repeat walk_at "st"
      refine strO O₈ fun t₉ s₉ O₉ => ?_
      repeat walk_at "st"
      refine ldO O₉ (by rfl) ?_
      repeat walk_at "st"
      refine ldB (v := .builtin "len") O₉ ?_
      refine callWith_method1 ?_
      repeat walk_at "st"
      refine ldO O₉ (by rfl) ?_
      repeat walk_at "st"
      refine PySem.W.len_bytes (by walk_at "om") ?_
      have O₁₀ := O₉.toks (s₉.toks + 1 + 1)
      generalize hs₁₀ : ({ s₉ with toks := s₉.toks + 1 + 1 } : Shared) = s₁₀ at O₁₀ ⊢
      repeat walk_at "st"
      refine tupO O₁₀ fun tu s₁₁ htu O₁₁ => ?_
      refine mod_string1 (O₁₁.at 0 rfl) (by walk_at "om") (by walk_at "om") (by walk_at "om") (by rw [hbs]; walk_at "om") (fun t' k' => ?_)
      repeat walk_at "st"
      refine ⟨by size_fits, fun h' e' hx => ?_⟩
      have hmin : ((byteArr (nr.take k)).size : Int) = nr.length := by rw [hbs, Nat.min_eq_right (by walk_at "om")]
      rw [hmin] at hx
      exact hE _ _ ((O₁₁.toks k').raise hx hA F hfn fun s' r => h4 k nr e (by walk_at "om") s' e' r)
  · exact hE _ _ (O.passes r (by simp) hA F hfn fun s' r' => h2 e s' ex r')
set_option maxHeartbeats 2000000 in
theorem bytes1_ok (X : (Kn w.params).In s.heap) (hroom : A.depth + 10 < recursionLimit) (hh : A.handled = none) (S : Strm w.params s.heap st lf) (hl : s.heap.get? lf = some (lstObj vs.toArray n)) (al : Off w.params lf)
    (hi : IntsAre vs ns) (hr : ∀ n ∈ ns, 0 ≤ n ∧ n < 256) (hsz : vs.length < 1000) (hA : A.frames = some outer) (F : Fms s.heap outer) (hfo : lf ∉ frs outer) (h3 : ∀ n0 nr, ns = n0 :: nr → n0 ≤ 3)
    (h1 : ∀ n0 nr, ns = n0 :: nr → n0.toNat ≤ nr.length → ∀ s' t n', Post [lf] s s' → s'.heap.get? lf = some (lstObj (vs.drop (1 + n0.toNat)).toArray n') → R (.ok (.ret (.bytes (byteArr (nr.take n0.toNat)) t))) s')
    (h2 : ns = [] → ∀ s' e, Raised [lf] outer e "not enough data in stream to read uint1" s s' → R (.error (.ref e)) s')
    (h4 : ∀ n0 nr, ns = n0 :: nr → nr.length < n0.toNat → ∀ s' e, Raised [lf] outer e (shortMsg "bytes1" n0 nr.length) s s' → R (.error (.ref e)) s') :
    codeAny (model prog w) A (.call (.ref 59) ⟨[.ref st], []⟩) R s := by
  refine enter 59 [("f", .ref st)] [(lf, lstObj vs.toArray n)] X (dl0 hroom) (led_cons hl al led_nil) (by simp) ?_
  intro L s₁ g up O
  refine absQE2 fun Q E hR hE => ?_
  have S₁ : Strm w.params g st lf := S.up hl fun b o hb e => up b o (by simpa using hb) e
  have hfn := notOnly (o := lstObj vs.toArray n) hfo
  walk_at "nx"
  refine mstN fun N hN => ?_
  repeat walk_at "st"
  refine ldG (v := .ref 45) O ?_
  refine callWith_K (h₀ := g) O.kn (by kernel_rfl) ?_
  repeat walk_at "st"
  refine ldO O (by rfl) ?_
  repeat walk_at "st"
  refine ⟨O.X, ?_⟩
  refine st_uint1 (ns := ns) O S₁ (by show A.depth + 1 + 5 < _; exact dl2 hroom (by decide)) hh hi hr hsz (Around.frames_deeper hA) (O.fmsIn F hfn (by kernel_rfl) (by show (EV w.params 59 L).scope.kind ≠ _; rw [show (EV w.params 59 L).scope.kind = .function by kernel_rfl]; decide)) (lf_frames O hfo (by kernel_rfl)) (fun n0 nr e s₂ t₂ n₂ O₂ => ?_) fun e s₂ ex r => ?_
  · have hb := hr n0 (by rw [e]; exact List.mem_cons_self)
    have hle := h3 n0 nr e
    obtain ⟨k, hk⟩ : ∃ k : Nat, n0 = k := ⟨n0.toNat, by walk_at "om"⟩
    subst hk
    have hk3 : k ≤ 3 := by walk_at "om"
    have hi₂ : IntsAre (vs.drop 1) nr := by have := ints_drop 1 hi; rw [e] at this; exact this
    have hr₂ : ∀ n ∈ nr, 0 ≤ n ∧ n < 256 := fun n hn => hr n (by rw [e]; exact List.mem_cons_of_mem _ hn)
    have hlen : (vs.drop 1).length = nr.length := hi₂.length
    refine stO O₂ fun s₃ O₃ => ?_
    walk_at "nx"
    refine mstN fun N hN => ?_
    refine wpAny_Assert_holds ?_
    refine wpAny_isTrue_Compare1 ?_
    refine ldO O₃ (by rfl) ?_
    refine intO O₃ fun t₄ s₄ O₄ => ?_
    refine PySem.P.ge_int ?_
    refine wpAny_pure ⟨by simp, ?_⟩
    walk_at "nx"
    refine mstN fun N hN => ?_
    repeat walk_at "st"
    refine ldO O₄ (by rfl) ?_
    refine st_method O₄ S₁ fun rd s₅ O₅ r => ?_
    dsimp only
    refine callWith_F (q := rd) (by obtain ⟨a, b, c, d, e⟩ := r.fnAt; exact ⟨a, b, c, d, O₅.keep _ _ e⟩) ?_
    repeat walk_at "st"
    refine ldO O₅ (by rfl) ?_
    repeat walk_at "st"
    refine ⟨by obtain ⟨a, b, c, d, e⟩ := r.fnAt; exact ⟨a, b, c, d, O₅.keep _ _ e⟩, ?_⟩
    refine st_read (k := k) (ns := nr) O₅ r (by show A.depth + 1 < _; exact dl hroom (by decide)) hh hi₂ hr₂ (by simp; walk_at "om") (by walk_at "om") fun s₆ t₆ n₆ O₆ => ?_
    refine stO O₆ fun s₇ O₇ => ?_
    walk_at "nx"
    refine mstN fun N hN => ?_
    repeat walk_at "st"
    refine wpAny_isTrue_Compare1 ?_
    repeat walk_at "st"
    refine ldB (v := .builtin "len") O₇ ?_
    refine callWith_method1 ?_
    repeat walk_at "st"
    refine ldO O₇ (by rfl) ?_
    repeat walk_at "st"
    have hbs : (byteArr (nr.take k)).size = min k nr.length := by rw [byteArr_size, List.length_take]
    refine PySem.W.len_bytes (by walk_at "om") ?_
    have O₈ := O₇.toks (s₇.toks + 1 + 1)
    generalize hs₈ : ({ s₇ with toks := s₇.toks + 1 + 1 } : Shared) = s₈ at O₈ ⊢
    refine ldO O₈ (by rfl) ?_
    refine PySem.P.eq_int ?_
    refine wpAny_pure ?_
    rw [hbs]
    by_cases hge : k ≤ nr.length
    · refine ifT (by rw [Nat.min_eq_left hge]; simp) ?_
      repeat walk_at "st"
      refine ldO O₈ (by rfl) ?_
      refine hR _ _ (h1 k nr e hge _ _ n₆ O₈.post ?_)
      have := O₈.at 0 rfl
      rw [List.drop_drop] at this
      exact this
    · refine ifF (by rw [Nat.min_eq_right (by walk_at "om")]; simp; walk_at "om") ?_
      repeat walk_at "st"
      refine Raise_madeB PySem.F.excCall_ValueError PySem.F.excRaise_ValueError hh ?_
      refine ldB (v := .type "ValueError") O₈ ⟨rfl, ?_⟩
      repeat walk_at "st"
      refine strO O₈ fun t₉ s₉ O₉ => ?_
      repeat walk_at "st"
      refine ldO O₉ (by rfl) ?_
      repeat walk_at "st"
      refine ldB (v := .builtin "len") O₉ ?_
      refine callWith_method1 ?_
      repeat walk_at "st"
      refine ldO O₉ (by rfl) ?_
      repeat walk_at "st"
      refine PySem.W.len_bytes (by walk_at "om") ?_
      have O₁₀ := O₉.toks (s₉.toks + 1 + 1)
      generalize hs₁₀ : ({ s₉ with toks := s₉.toks + 1 + 1 } : Shared) = s₁₀ at O₁₀ ⊢
      repeat walk_at "st"
      refine tupO O₁₀ fun tu s₁₁ htu O₁₁ => ?_
      refine mod_bytes1 (O₁₁.at 0 rfl) (by walk_at "om") (by walk_at "om") (by walk_at "om") (by rw [hbs]; walk_at "om") (fun t' k' => ?_)
      repeat walk_at "st"
      refine ⟨by size_fits, fun h' e' hx => ?_⟩
      have hmin : ((byteArr (nr.take k)).size : Int) = nr.length := by rw [hbs, Nat.min_eq_right (by walk_at "om")]
      rw [hmin] at hx
      exact hE _ _ ((O₁₁.toks k').raise hx hA F hfn fun s' r => h4 k nr e (by walk_at "om") s' e' r)
  · exact hE _ _ (O.passes r (by simp) hA F hfn fun s' r' => h2 e s' ex r')
end
end Mine
namespace Mine
section
variable {prog : Program} {w : World} {A : Around} {E : Value → Shared → Prop} {R : Result → Shared → Prop} {s : Shared} {st lf rd : Addr} {vs : List Value} {ns : List Int} {n : Nat} {outer : List Env}
set_option maxHeartbeats 2000000 in
theorem long1_ok (X : (Kn w.params).In s.heap) (hroom : A.depth + 10 < recursionLimit) (hh : A.handled = none) (S : Strm w.params s.heap st lf) (hl : s.heap.get? lf = some (lstObj vs.toArray n)) (al : Off w.params lf)
    (hi : IntsAre vs ns) (hr : ∀ n ∈ ns, 0 ≤ n ∧ n < 256) (hsz : vs.length < 1000) (hA : A.frames = some outer) (F : Fms s.heap outer) (hfo : lf ∉ frs outer) (h3 : ∀ n0 nr, ns = n0 :: nr → n0 ≤ 3)
    (h1 : ∀ n0 nr, ns = n0 :: nr → n0.toNat ≤ nr.length → ∀ s' t n', Post [lf] s s' → s'.heap.get? lf = some (lstObj (vs.drop (1 + n0.toNat)).toArray n') → R (.ok (.ret (.int (leSigned (byteArr (nr.take n0.toNat)).toList) t))) s')
    (h2 : ns = [] → ∀ s' e, Raised [lf] outer e "not enough data in stream to read uint1" s s' → R (.error (.ref e)) s')
    (h4 : ∀ n0 nr, ns = n0 :: nr → nr.length < n0.toNat → ∀ s' e, Raised [lf] outer e "not enough data in stream to read long1" s s' → R (.error (.ref e)) s') :
    codeAny (model prog w) A (.call (.ref 73) ⟨[.ref st], []⟩) R s := by
  refine enter 73 [("f", .ref st)] [(lf, lstObj vs.toArray n)] X (dl0 hroom) (led_cons hl al led_nil) (by simp) ?_
  intro L s₁ g up O
  refine absQE2 fun Q E hR hE => ?_
  have S₁ : Strm w.params g st lf := S.up hl fun b o hb e => up b o (by simpa using hb) e
  have hfn := notOnly (o := lstObj vs.toArray n) hfo
  walk_at "nx"
  refine mstN fun N hN => ?_
  repeat walk_at "st"
  refine ldG (v := .ref 45) O ?_
  refine callWith_K (h₀ := g) O.kn (by kernel_rfl) ?_
  repeat walk_at "st"
  refine ldO O (by rfl) ?_
  repeat walk_at "st"
  refine ⟨O.X, ?_⟩
  refine st_uint1 (ns := ns) O S₁ (by show A.depth + 1 + 5 < _; exact dl2 hroom (by decide)) hh hi hr hsz (Around.frames_deeper hA) (O.fmsIn F hfn (by kernel_rfl) (by show (EV w.params 73 L).scope.kind ≠ _; rw [show (EV w.params 73 L).scope.kind = .function by kernel_rfl]; decide)) (lf_frames O hfo (by kernel_rfl)) (fun n0 nr e s₂ t₂ n₂ O₂ => ?_) fun e s₂ ex r => ?_
  · have hb := hr n0 (by rw [e]; exact List.mem_cons_self)
    have hle := h3 n0 nr e
    obtain ⟨k, hk⟩ : ∃ k : Nat, n0 = k := ⟨n0.toNat, by walk_at "om"⟩
    subst hk
    have hk3 : k ≤ 3 := by walk_at "om"
    have hi₂ : IntsAre (vs.drop 1) nr := by have := ints_drop 1 hi; rw [e] at this; exact this
    have hr₂ : ∀ n ∈ nr, 0 ≤ n ∧ n < 256 := fun n hn => hr n (by rw [e]; exact List.mem_cons_of_mem _ hn)
    have hlen : (vs.drop 1).length = nr.length := hi₂.length
    refine stO O₂ fun s₄ O₄ => ?_
    walk_at "nx"
    refine mstN fun N hN => ?_
    repeat walk_at "st"
    refine ldO O₄ (by rfl) ?_
    refine st_method O₄ S₁ fun rd s₅ O₅ r => ?_
    dsimp only
    refine callWith_F (q := rd) (by obtain ⟨a, b, c, d, e⟩ := r.fnAt; exact ⟨a, b, c, d, O₅.keep _ _ e⟩) ?_
    repeat walk_at "st"
    refine ldO O₅ (by rfl) ?_
    repeat walk_at "st"
    refine ⟨by obtain ⟨a, b, c, d, e⟩ := r.fnAt; exact ⟨a, b, c, d, O₅.keep _ _ e⟩, ?_⟩
    refine st_read (k := k) (ns := nr) O₅ r (by show A.depth + 1 < _; exact dl hroom (by decide)) hh hi₂ hr₂ (by simp; walk_at "om") (by walk_at "om") fun s₆ t₆ n₆ O₆ => ?_
    refine stO O₆ fun s₇ O₇ => ?_
    walk_at "nx"
    refine mstN fun N hN => ?_
    repeat walk_at "st"
    refine wpAny_isTrue_Compare1 ?_
    repeat walk_at "st"
    refine ldB (v := .builtin "len") O₇ ?_
    refine callWith_method1 ?_
    repeat walk_at "st"
    refine ldO O₇ (by rfl) ?_
    repeat walk_at "st"
    have hbs : (byteArr (nr.take k)).size = min k nr.length := by rw [byteArr_size, List.length_take]
    refine PySem.W.len_bytes (by walk_at "om") ?_
    have O₈ := O₇.toks (s₇.toks + 1 + 1)
    generalize hs₈ : ({ s₇ with toks := s₇.toks + 1 + 1 } : Shared) = s₈ at O₈ ⊢
    refine ldO O₈ (by rfl) ?_
    refine PySem.P.ne_int ?_
    refine wpAny_pure ?_
    rw [hbs]
    by_cases hge : k ≤ nr.length
    · refine ifF (by rw [Nat.min_eq_left hge]; simp) ?_
      repeat walk_at "st"
      refine ldG (v := .ref 66) O₈ ?_
      refine callWith_K (h₀ := g) O₈.kn (by kernel_rfl) ?_
      repeat walk_at "st"
      refine ldO O₈ (by rfl) ?_
      repeat walk_at "st"
      refine ⟨O₈.X, ?_⟩
      refine wpAny_call (decode_long_ok O₈.X (by show A.depth + 1 < _; exact dl hroom (by decide)) (by walk_at "om") fun s₉ t₉ p₉ => ?_)
      have O₉ := O₈.quiet p₉
      refine hR _ _ (h1 k nr e hge _ _ n₆ O₉.post ?_)
      have := O₉.at 0 rfl
      rw [List.drop_drop] at this
      exact this
    · refine ifT (by rw [Nat.min_eq_right (by walk_at "om")]; simp; walk_at "om") ?_
      walk_at "nx"
      refine mstN fun N hN => ?_
      refine Raise_madeB PySem.F.excCall_ValueError PySem.F.excRaise_ValueError hh ?_
      refine ldB (v := .type "ValueError") O₈ ⟨rfl, ?_⟩
      repeat walk_at "st"
      refine strO O₈ fun t₉ s₉ O₉ => ?_
      repeat walk_at "st"
      refine ⟨by size_fits, fun h' e' hx => ?_⟩
      exact hE _ _ (O₉.raise hx hA F hfn fun s' r => h4 k nr e (by walk_at "om") s' e' r)
  · exact hE _ _ (O.passes r (by simp) hA F hfn fun s' r' => h2 e s' ex r')
end
end Mine
namespace Mine
section
variable {prog : Program} {w : World} {A : Around} {E : Value → Shared → Prop} {s : Shared} {e t0 : Addr} {msg : Str} {tk : Tok}
/-- str(error) -/
theorem str_exc {Q : Value → Shared → Prop} (hu : A.units + 4 < cLine) (x : s.heap.ExcAt e "ValueError" (.ref t0)) (ht : s.heap.TupAt t0 [.str msg tk]) (h : Q (.str msg tk) s) : wpAny (model prog w) A (call (.type "str") [.ref e]) Q E s := by
  refine callType_codes (T := "str") (Bi := Builtin.«object.__init__») (Q₁ := fun r s₁ => ∃ y u, r = .str y u ∧ Q r s₁) PySem.F.called_str (PySem.F.typeCall_str_1 _) PySem.F.entry_object_init ?_ ?_
  · refine codeAny_of_tree ?_
    show wpAny _ A.in1.in1 (do checkBuiltinCall "str.__new__" ⟨[.type "str", .ref e], []⟩; again (.builtin "str.__new__" ⟨[.type "str", .ref e], []⟩)) _ _ s
    refine wpAny_bind (wpAny_of_eq (PySem.F.newCall_str_1 _) (wpAny_pure ⟨plainId_quiet (by decide +kernel) _, codeAny_builtin PySem.F.entry_str_new ?_⟩))
    rw [Around.under_plainId (by decide +kernel) _]
    rw [str_new_tree]
    refine wpAny_bind (wpAny_pure ?_)
    refine wpAny_bind (wpAny_of_eq isSubtype_str_str ?_)
    refine wpAny_bind (strOf_exc_one PySem.F.excStr_ValueError (by show A.units + 1 + 1 < _; exact dl2 hu (by decide)) x ht ?_)
    exact wpAny_pure ⟨_, _, rfl, h⟩
  · rintro obj s₁ ⟨y, u, rfl, hq⟩
    exact ⟨typeIs_str _ _ _, PySem.F.args_object_init_2 _ _, object_init_meets PySem.F.called_str.init.lookup PySem.F.called_str.made (by decide) prog w A.in1 _ s₁ ⟨typeIs_str _ _ _, rfl, hq⟩⟩
end
section
variable {P : Params} {foot : List Addr} {g base : Heap} {σ s s' : Shared} {L T Lf : Addr} {m : Str → Option Value} {led : List (Addr × Obj)} {oT oF : Obj} {env : Env} {outer : List Env}
/-- while the exception is looked at, frames change in their slots alone -/
theorem Own.fly (O : Own P foot g σ s L m [(T, oT), (Lf, oF)]) (hg : ∀ b o, g.get? b = some o → base.get? b = some o) (hT : base.get? T = some oT) (hnf : ∀ vs, oF.data ≠ .fields vs) {h' : Heap} (hst : base.StaysIn h') (hup : s.heap.UpToSlots h') :
    ∃ sl, Own P foot g σ { s with heap := h' } L m [(T, oT), (Lf, { oF with slots := sl })] := by
  obtain ⟨sl, hF⟩ := hup Lf oF (O.at 1 rfl) hnf
  refine ⟨sl, hup.ns O.ns, fun b o e => hst b o (hg b o e), O.kn, O.newL, fun p hp => ?_, O.nd, O.bare, O.drawn, O.os, O.base⟩
  simp only [List.mem_cons, List.not_mem_nil, or_false] at hp
  rcases hp with rfl | rfl
  · exact ⟨hst _ _ hT, (O.lg _ (.head _)).2⟩
  · exact ⟨hF, (O.lg _ (.tail _ (.head _))).2⟩
/-- a raise of a callee arrives in the frame -/
theorem Own.arrives {lf : Addr} {ol : Obj} (O : Own P foot g σ s L m ((lf, ol) :: (T, oT) :: (Lf, oF) :: led)) {e : Addr} {msg : Str} (r : Raised [lf] (env :: outer) e msg s s') (hf : env.frame = some L) (ho : frs outer = [Lf]) (hnf : ∀ vs, oF.data ≠ .fields vs) :
    ∃ base t tm sl, Own P foot g σ s' L m [(T, oT), (Lf, { oF with slots := sl })] ∧ (∀ b o, g.get? b = some o → base.get? b = some o) ∧ base.get? T = some oT ∧ Heap.FlyingW base (env :: outer) e (.type "ValueError") (.ref t) s'.heap ∧ s'.heap.TupAt t [.str msg tm] := by
  obtain ⟨base, t, tm, fl, tp, hb⟩ := r.ex
  have hfrs : frs (env :: outer) = [L, Lf] := by
    have : frs (env :: outer) = L :: frs outer := by unfold frs; rw [List.filterMap_cons, hf]
    rw [this, ho]
  have nd := O.nd
  simp only [List.map_cons, List.nodup_cons, List.mem_cons, not_or] at nd
  have hg : ∀ b o, g.get? b = some o → base.get? b = some o := fun b o eg => by
    refine hb b o (fun hm => ?_) (fun hm => ?_) (O.keep _ _ eg)
    · have : b = lf := by simpa using hm
      subst this
      have := (O.lg (b, ol) (.head _)).2.2
      rw [eg] at this; cases this
    · rw [hfrs] at hm
      simp only [List.mem_cons, List.not_mem_nil, or_false] at hm
      rcases hm with rfl | rfl
      · rw [O.newL] at eg; cases eg
      · have := (O.lg (b, oF) (.tail _ (.tail _ (.head _)))).2.2
        rw [eg] at this; cases this
  have hT : base.get? T = some oT := by
    refine hb T oT (fun hm => ?_) (fun hm => ?_) (O.at 1 rfl)
    · have : T = lf := by simpa using hm
      exact nd.1.1 this.symm
    · rw [hfrs] at hm
      simp only [List.mem_cons, List.not_mem_nil, or_false] at hm
      rcases hm with e1 | e1
      · exact (O.lg (T, oT) (.tail _ (.head _))).2.1 e1
      · exact nd.2.1.1 e1
  obtain ⟨sl, hF⟩ := r.slots Lf (by rw [hfrs]; simp) oF (O.at 2 rfl)
  refine ⟨base, t, tm, sl, ⟨?_, fun b o eg => fl.1 b o (hg b o eg), O.kn, O.newL, fun p hp => ?_, ?_, fun x => r.bare (O.bare x), r.drawn.trans O.drawn, r.os.trans O.os, O.base⟩, hg, hT, fl, tp⟩
  · obtain ⟨o, es, ep, hL, hd, x⟩ := O.ns
    obtain ⟨sl', hL'⟩ := r.slots L (by rw [hfrs]; simp) o hL
    exact ⟨_, es, ep, hL', hd, x⟩
  · simp only [List.mem_cons, List.not_mem_nil, or_false] at hp
    rcases hp with rfl | rfl
    · exact ⟨fl.1 _ _ hT, (O.lg _ (.tail _ (.head _))).2⟩
    · exact ⟨hF, (O.lg (Lf, oF) (.tail _ (.tail _ (.head _)))).2⟩
  · simp only [List.map_cons, List.map_nil, List.nodup_cons, List.mem_cons, List.not_mem_nil, or_false]
    exact ⟨nd.2.1.1, not_false, List.nodup_nil⟩
end
end Mine
namespace Mine
/-- an iterator that comes by n items -/
structure Src (prog : Program) (w : World) (A : Around) (g : Heap) (I : Addr) (n : Nat) (val : Nat → Value → Prop) (ob : Nat → Obj → Prop) : Prop where
  next : ∀ (i : Nat) (s : Shared) (o : Obj) (Q : Option Value → Shared → Prop) (E : Value → Shared → Prop), i < n → s.heap.get? I = some o → ob i o → (∀ b o, g.get? b = some o → s.heap.get? b = some o) →
    (∀ v h' o' t', val i v → h'.get? I = some o' → ob (i + 1) o' → Heap.ExtBut I s.heap h' → Q (some v) { s with heap := h', toks := t' }) → wpAny (model prog w) A (pyNext (.ref I)) Q E s
  stop : ∀ (s : Shared) (o : Obj) (Q : Option Value → Shared → Prop) (E : Value → Shared → Prop), s.heap.get? I = some o → ob n o → (∀ b o, g.get? b = some o → s.heap.get? b = some o) →
    (∀ h', Heap.ExtBut I s.heap h' → Q none { s with heap := h' }) → wpAny (model prog w) A (pyNext (.ref I)) Q E s
  self : ∀ (s : Shared) (o : Obj) (Q : Value → Shared → Prop) (E : Value → Shared → Prop), s.heap.get? I = some o → ob 0 o → Q (.ref I) s → wpAny (model prog w) A (pyIter (.ref I)) Q E s
  go : ∀ (elts : List Expr) (k : Nat) (pos : Pos) (i : Nat) (v : Value) (s : Shared) (o : Obj) (Q : Unit → Shared → Prop) (E : Value → Shared → Prop), s.heap.get? I = some o → ob i o → Q () s → wpAny (model prog w) A (letOwnedTupleGo (.Tuple elts k pos) (.ref I) v) Q E s
theorem take_range_filter (p : Nat → Bool) (i : Nat) : (List.range (i + 1)).filter p = (List.range i).filter p ++ (if p i then [i] else []) := by
  rw [List.range_succ, List.filter_append]
  cases hp : p i <;> simp [hp]
section
variable {P : Params} {foot : List Addr} {g : Heap} {σ s : Shared} {L : Addr} {m : Str → Option Value} {led : List (Addr × Obj)}
/-- the objects that the others are not among changed -/
theorem Own.extBut2 (O : Own P foot g σ s L m led) (i : Nat) {a : Addr} {o o' : Obj} {h' : Heap} (hi : led[i]? = some (a, o)) (hs : Heap.ExtBut a s.heap h') (ho : h'.get? a = some o') (t : Nat := s.toks) :
    Own P foot g σ { s with heap := h', toks := t } L m (led.set i (a, o')) := by
  have z := O.lg _ (List.mem_of_getElem? hi)
  refine ⟨O.ns.extBut hs (Ne.symm z.2.1), fun b ob e => hs b ob (fun q => ?_) (O.keep b ob e), O.kn, O.newL, fun p hp => ?_, ?_, O.bare, O.drawn, O.os, O.base⟩
  · subst q; rw [z.2.2] at e; cases e
  · rcases mem_set_cases O.nd hi p hp with rfl | ⟨hp, hne⟩
    · exact ⟨ho, z.2⟩
    · exact ⟨hs _ _ hne (O.lg p hp).1, (O.lg p hp).2⟩
  · rw [map_set_fst hi]; exact O.nd
/-- the first object of the ledger is let go, however it changed -/
theorem Own.lose {a : Addr} {o : Obj} (O : Own P foot g σ s L m ((a, o) :: led)) {h' : Heap} (hs : Heap.ExtBut a s.heap h') (t : Nat := s.toks) : Own P foot g σ { s with heap := h', toks := t } L m led := by
  have z := O.lg _ List.mem_cons_self
  have nd := O.nd
  rw [List.map_cons, List.nodup_cons] at nd
  refine ⟨O.ns.extBut hs (Ne.symm z.2.1), fun b ob e => hs b ob (fun q => ?_) (O.keep b ob e), O.kn, O.newL, fun p hp => ?_, nd.2, O.bare, O.drawn, O.os, O.base⟩
  · subst q; rw [z.2.2] at e; cases e
  · have zp := O.lg p (List.mem_cons_of_mem _ hp)
    exact ⟨hs _ _ (fun e => nd.1 (List.mem_map.mpr ⟨p, hp, e⟩)) zp.1, zp.2⟩
end
section
variable {prog : Program} {w : World} {A : Around} {E : Value → Shared → Prop} {foot : List Addr} {g : Heap} {σ s : Shared} {L : Addr} {m : Str → Option Value} {led : List (Addr × Obj)} {env : Env}
theorem list_appendO {D : Addr} {ys : Array Value} {k : Nat} {v : Value} {Q : Value → Shared → Prop} {mc : Str → Option Value} {C : Addr} (O : Own w.params foot g σ s C mc led) (i : Nat) (hi : led[i]? = some (D, lstObj ys k)) (hsz : ys.size < 100000)
    (h : ∀ s' k', Own w.params foot g σ s' C mc (led.set i (D, lstObj (ys.push v) k')) → Q .none s') : wpAny (model prog w) A (call (.builtin "list.append") [.ref D, v]) Q E s := by
  refine wpAny_call_entry slot_list_append ⟨_, O.at i hi, rfl⟩ entry_list_append ?_ (args_list_append _ _)
  show wpAny _ _ (updateSeq D (·.push v) >>= fun _ => ret .none) _ _ s
  refine wpAny_bind (wpAny_updateSeq (O.at i hi) rfl (wpAny_pure ⟨_, rfl, ?_⟩) (by simp only [sizeLine]; walk_at "om"))
  exact h _ _ (O.update i (f := Obj.mapSeq (·.push v)) hi)
theorem Own.perm (O : Own P foot g σ s L m led) {led' : List (Addr × Obj)} (p : led'.Perm led) : Own P foot g σ s L m led' := O.sub (fun _ hq => p.mem_iff.mp hq) ((p.map _).nodup_iff.mpr O.nd)
/-- where a comprehension's loop stands: kk turns are left -/
inductive CompInv (P : Params) (foot : List Addr) (g : Heap) (σ : Shared) (C L : Addr) (oL : Obj) (D I : Addr) (led : List (Addr × Obj)) (n : Nat) (ob : Nat → Obj → Prop) (Pr : Nat → List Value → Prop) (kk : Nat) (s' : Shared) : Prop where
  | mk (i : Nat) (mc : Str → Option Value) (ys : Array Value) (k : Nat) (oi : Obj) (hi : i ≤ n) (hkk : kk + i = n + 1) (hob : ob i oi) (O : Own P foot g σ s' C mc ((L, oL) :: (D, lstObj ys k) :: (I, oi) :: led)) (hP : Pr i ys.toList)
/-- the loop of a comprehension over one source -/
theorem compLoopSrc {elt iter : Expr} {x : Str} {px : Pos} {ifs : List Expr} {scope : Scope} {cl : List (Str × Addr)} {pos : Pos} {I D C : Addr} {n : Nat} {val : Nat → Value → Prop} {ob : Nat → Obj → Prop} {p : Nat → Bool} {Fp : Nat → Value → Prop} {oL oI : Obj} {R : Result → Shared → Prop}
    (S : Src prog w A g I n val ob) (O : Own w.params foot g σ s C (fun _ => none) ((L, oL) :: (D, lstObj #[] 0) :: (I, oI) :: led)) (h0 : ob 0 oI) (hn : n < 100000)
    (hx : (PySem.compEnvC scope cl C env).kindOf x = some .local) (hk : scope.kind = .function)
    (tests : ∀ i v s₃ mc led₃, i < n → Own w.params foot g σ s₃ C mc led₃ → (∀ q ∈ led, q ∈ led₃) → mc x = some v → val i v → ∀ (Q : Bool → Shared → Prop) (E : Value → Shared → Prop), (∀ s', Own w.params foot g σ s' C mc led₃ → Q (p i) s') →
      wpAny (model prog w) A (forIn ifs true fun c r => if r = true then do let ok ← isTrue c (PySem.compEnvC scope cl C env) (eval c (PySem.compEnvC scope cl C env)); pure (ForInStep.yield ok) else pure (ForInStep.yield r)) Q E s₃)
    (step : ∀ i v s₃ mc led₃, i < n → p i = true → Own w.params foot g σ s₃ C mc led₃ → (∀ q ∈ led, q ∈ led₃) → mc x = some v → val i v → ∀ (Q : Value → Shared → Prop) (E : Value → Shared → Prop), (∀ y s', Own w.params foot g σ s' C mc led₃ → Fp i y → Q y s') →
      wpAny (model prog w) A (eval elt (PySem.compEnvC scope cl C env)) Q E s₃)
    (fin : ∀ s' mc ys k, Own w.params foot g σ s' C mc ((L, oL) :: (D, lstObj ys k) :: led) → Paired Fp ((List.range n).filter p) ys.toList → R (.ok .next) s') :
    codeAny (model prog w) A (.compLoop (.ListComp elt [⟨.Name x px, iter, ifs, 0⟩] scope pos) 0 (.ref I) (.ref D) (PySem.compEnvC scope cl C env)) R s := by
  refine codeAny_compLoop_tests (CompInv w.params foot g σ C L oL D I led n ob (fun i ys => Paired Fp ((List.range i).filter p) ys)) ?_ (n + 1) ⟨0, _, #[], 0, oI, Nat.zero_le _, rfl, h0, O, .nil⟩
  rintro kk s' ⟨i, mc, ys, k, oi, hi, hkk, hob, O', hP⟩
  have hys : ys.size ≤ n := by
    have e1 := hP.length
    have e2 : ((List.range i).filter p).length ≤ (List.range i).length := List.length_filter_le _ _
    rw [List.length_range] at e2
    have e4 : ys.toList.length = ys.size := by simp
    walk_at "om"
  by_cases hlt : i < n
  · refine S.next i s' oi _ _ hlt (O'.at 2 rfl) hob O'.keep fun v h' o' t' hv ho' hob' hs' => ?_
    dsimp only
    have O₁ := O'.extBut2 2 rfl hs' ho' t'
    generalize hs₁ : ({ s' with heap := h', toks := t' } : Shared) = s₁ at O₁ ⊢
    refine wpAny_assign_Name ?_
    refine wpAny_storeName_local hx O₁.ns (fun h₂ hn₂ hs₂ => ?_) (by have e : (PySem.compEnvC scope cl C env).scope.kind = .function := hk; rw [e]; rfl)
    have O₂ := O₁.locals hn₂ hs₂ (s₁.toks + 1)
    generalize hs₂' : ({ s₁ with heap := h₂, toks := s₁.toks + 1 } : Shared) = s₂ at O₂ ⊢
    have hsub : ∀ q ∈ led, q ∈ ((L, oL) :: (D, lstObj ys k) :: (I, o') :: led) := fun q hq => .tail _ (.tail _ (.tail _ hq))
    refine tests i v s₂ _ _ hlt O₂ hsub (by simp) hv _ _ fun s₃ O₃ => ?_
    by_cases hp : p i = true
    · rw [if_pos hp]
      refine step i v s₃ _ _ hlt hp O₃ hsub (by simp) hv _ _ fun y s₄ O₄ hy => ?_
      refine list_appendO O₄ 1 rfl (by walk_at "om") fun s₅ k' O₅ => ?_
      refine ⟨kk - 1, kpos ‹_› ‹_›, i + 1, _, ys.push y, k', o', hlt, kstep ‹_› ‹_›, hob', O₅, ?_⟩
      rw [take_range_filter, if_pos hp, Array.toList_push]
      exact hP.snoc hy
    · rw [if_neg hp]
      refine ⟨kk - 1, kpos ‹_› ‹_›, i + 1, _, ys, k, o', hlt, kstep ‹_› ‹_›, hob', O₃, ?_⟩
      rw [take_range_filter, if_neg hp, List.append_nil]
      exact hP
  · have : i = n := leq ‹_› ‹_›
    rw [this] at hP hob
    refine S.stop s' oi _ _ (O'.at 2 rfl) hob O'.keep fun h' hs' => ?_
    dsimp only
    have Op := O'.perm (List.perm_middle (l₁ := [(L, oL), (D, lstObj ys k)])).symm
    exact fin _ mc ys k (Op.lose hs') hP
end
end Mine
namespace Mine
inductive TV where
  | int (z : Int)
  | str (x : Str)
  | bytes (b : List Int)
def TV.val : TV → Value → Prop
  | .int z, v => ∃ t, v = .int z t
  | .str x, v => ∃ t, v = .str x t
  | .bytes b, v => ∃ t, v = .bytes (byteArr b) t
/-- what _law_try tells -/
def tryV (kind : Int) (ns : List Int) : Except Str (TV × List Int) :=
  match ns with
  | [] => .error "not enough data in stream to read uint1"
  | n0 :: nr =>
    if kind = 0 then .ok (.int n0, nr)
    else if nr.length < n0.toNat then
      (if kind = 1 then .error (shortMsg "string1" n0 nr.length) else if kind = 2 then .error (shortMsg "bytes1" n0 nr.length) else .error "not enough data in stream to read long1")
    else .ok (if kind = 1 then .str (chars (nr.take n0.toNat)) else if kind = 2 then .bytes (nr.take n0.toNat) else .int (leSigned (byteArr (nr.take n0.toNat)).toList), nr.drop n0.toNat)
def TryTab (P : Params) (g : Heap) (tb : Array Value) : Prop :=
  tb = #[] ∨ ∃ c1 c2 : Addr, tb = #[rawInt (174 : Nat), rawInt (4 : Nat), .ref c1, rawInt (178 : Nat), rawInt (13 : Nat), .ref c2] ∧ g.CodeRec (.ref c1) ((EVC P 251 0).qual ++ "read")
theorem EVC_qual (P : Params) (L : Addr) : (EVC P 251 L).qual ++ "read" = (EVC P 251 0).qual ++ "read" := by kernel_rfl
theorem paired_get {F : Nat → Value → Prop} {is : List Nat} {ys : List Value} (h : Paired F is ys) : ∀ (j i : Nat) (y : Value), is[j]? = some i → ys[j]? = some y → F i y := by
  induction h with
  | nil => intro j i y e _; cases e
  | cons h _ ih =>
    intro j i y e1 e2
    cases j with
    | zero => cases e1; cases e2; exact h
    | succ j => exact ih j i y e1 e2
theorem paired_range {F : Nat → Value → Prop} {n : Nat} {ys : List Value} (h : Paired F (List.range n) ys) : ys.length = n ∧ ∀ (i : Nat) (y : Value), ys[i]? = some y → F i y := by
  have hl := h.length
  rw [List.length_range] at hl
  refine ⟨hl.symm, fun i y e => paired_get h i i y ?_ e⟩
  have : i < ys.length := (List.getElem?_eq_some_iff.mp e).1
  exact List.getElem?_range (by walk_at "om")
theorem filter_true (n : Nat) : (List.range n).filter (fun _ => true) = List.range n := List.filter_eq_self.mpr fun _ _ => rfl
section
variable {prog : Program} {w : World} {A : Around} {g : Heap} {I lo : Addr} {vs : List Value} {k : Nat}
theorem srcList (hl : g.get? lo = some (lstObj vs.toArray k)) (hne : lo ≠ I) (hh : A.handled = none) :
    Src prog w A g I vs.length (fun i v => vs[i]? = some v) (fun i o => o.cls = .type "list_iterator" ∧ o.data = .fields #[.ref lo, .int i 0]) where
  next := fun i s o Q E hi ho hob hk hQ => by
    have hv : vs.toArray[i]? = some vs[i] := by simp [hi]
    refine wpAny_pyNext_list_item (l := lo) ⟨o, ho, hob.1, hob.2⟩ ⟨_, hk _ _ hl, rfl, _, rfl⟩ hv fun h' hit' hs' => ?_
    obtain ⟨o', ho', hc', hd'⟩ := hit'
    exact hQ _ h' o' s.toks (List.getElem?_eq_getElem hi) ho' ⟨hc', hd'⟩ hs'.extBut
  stop := fun s o Q E ho hob hk hQ => by
    refine wpAny_pyNext_list_end hh (l := lo) ⟨o, ho, hob.1, hob.2⟩ ⟨_, hk _ _ hl, rfl, _, rfl⟩ (by simp) fun h' hs' => hQ h' hs'
  self := fun s o Q E ho hob hq => wpAny_pyIter_listiter ⟨o, ho, hob.1, hob.2⟩ hq
  go := fun elts kk pos i v s o Q E ho hob hq => by
    unfold letOwnedTupleGo
    cases v with
    | ref a =>
      refine wpAny_bind (wpAny_load ho ?_)
      rw [hob.1, hob.2]
      dsimp only
      rw [if_neg (by simp)]
      exact wpAny_pure hq
    | _ => exact wpAny_pure hq
end
end Mine
namespace Mine
theorem sub_ValueError : isSubtype (.type "ValueError") (.type "ValueError") = pure true := by rw [isSubtype_type]; kernel_rfl
theorem FlyingW_exc {base h : Heap} {l : List Env} {e t : Addr} (x : Heap.FlyingW base l e (.type "ValueError") (.ref t) h) : h.ExcAt e "ValueError" (.ref t) := by
  obtain ⟨_, _, _, oe, vs, T, oT, ts, he, ⟨hc, h0⟩, hd, h1, hnT, hTe, hT, hdT, h3⟩ := x
  exact ⟨oe, vs, he, hc, hd, h0⟩
section
variable {prog : Program} {w : World} {A : Around} {E : Value → Shared → Prop} {R : Result → Shared → Prop} {σ s : Shared} {g : Heap} {m : Str → Option Value} {st D Lf L : Addr} {vs : List Value} {ns : List Int} {k : Nat} {outer : List Env} {oF oc : Obj} {es : Array DictEntry} {ep : Nat} {tb : Array Value}
/-- what the caller of _law_try learns -/
def TryRes (P : Params) (Lf : Addr) (oF : Obj) (s s' : Shared) (kd : Int) (ns : List Int) (r : Addr) : Prop :=
  ∃ sl tb', Post [248, Lf] s s' ∧ s'.heap.get? Lf = some { oF with slots := sl } ∧ s'.heap.get? 248 = some (tabObj tb') ∧ TryTab P s'.heap tb' ∧ s.heap.get? r = none ∧
      (match tryV kd ns with
        | .ok (tv, rest) => ∃ v lf' vs' k1 k2, s'.heap.get? r = some (lstObj #[v, .ref lf'] k1) ∧ tv.val v ∧ s.heap.get? lf' = none ∧ s'.heap.get? lf' = some (lstObj vs'.toArray k2) ∧ IntsAre vs' rest
        | .error msg => ∃ t k1, s'.heap.get? r = some (lstObj #[.str msg t] k1))
theorem TryTab.keeps {P : Params} {g h : Heap} (t : TryTab P g tb) (k : ∀ b o, g.get? b = some o → h.get? b = some o) : TryTab P h tb := by
  rcases t with rfl | ⟨c1, c2, rfl, hrec⟩
  · exact .inl rfl
  · exact .inr ⟨c1, c2, rfl, hrec.keeps k⟩
noncomputable def tryParts (P : Params) : List Stmt × List ExceptHandler := match (BD P 251).drop 4 with
  | .Try a b _ _ _ :: _ => (a, b)
  | _ => ([], [])
set_option maxHeartbeats 4000000 in
theorem try_err {kd : Int} {ol : Obj} {e : Addr} {msg : Str} {s' : Shared} {Q : Flow → Shared → Prop} (O : Own w.params [248, Lf] g σ s L m [(D, ol), (248, tabObj tb), (Lf, oF)]) (ht : TryTab w.params g tb) (hu : A.units + 20 < cLine)
    (hm : tryV kd ns = .error msg) (r : Raised [D] (EVC w.params 251 L :: outer) e msg s s') (hdF : oF.data = .dict es ep) (hout : frs outer = [Lf]) (hA : A.frames = some outer)
    (h : ∀ s'' r', TryRes w.params Lf oF σ s'' kd ns r' → Q (.ret (.ref r')) s'') :
    wpAny (model prog w) (A.deeper (EVC w.params 251 L)) (noteFrame (.ref e) (EVC w.params 251 L)) (fun _ s₂ => wpAny (model prog w) (A.deeper (EVC w.params 251 L)) (setFlight (.ref e) none)
      (fun _ s₃ => wpAny (model prog w) (A.deeper (EVC w.params 251 L)) (handleBy (.ref e) (EVC w.params 251 L) (tryParts w.params).2) Q E s₃) E s₂) E s' := by
  have hnf : ∀ vs, oF.data ≠ .fields vs := fun vs q => by rw [hdF] at q; cases q
  obtain ⟨base, t, tm, sl, O₁, hg, hT, fl, tp⟩ := O.arrives r (by kernel_rfl) hout hnf
  refine wpAny_looks_onW (L := L) (Around.frames_deeper hA) (by kernel_rfl) fl fun h₂ hh₂ up₂ => ?_
  obtain ⟨sl₂, O₂⟩ := O₁.fly hg hT hnf hh₂.1 up₂
  have tp₂ := tp.of_slots up₂
  generalize hs₂ : ({ s' with heap := h₂ } : Shared) = s₂ at O₂ ⊢
  have hs₂' : s₂.heap = h₂ := by rw [← hs₂]
  rw [← hs₂'] at hh₂ tp₂
  refine wpAny_landsW hh₂ fun h₃ fl₃ up₃ => ?_
  obtain ⟨sl₃, O₃⟩ := O₂.fly hg hT (fun vs q => hnf vs q) fl₃.1 up₃
  have tp₃ := tp₂.of_slots up₃
  generalize hs₃ : ({ s₂ with heap := h₃ } : Shared) = s₃ at O₃ ⊢
  have hs₃' : s₃.heap = h₃ := by rw [← hs₃]
  rw [← hs₃'] at fl₃ tp₃
  refine wpAny_handleBy_builtin_as (X := "ValueError") (T := "ValueError") (b := true) PySem.F.isExc_ValueError PySem.F.notTuple_ValueError sub_ValueError ?_
  refine ldB (v := .type "ValueError") O₃ ⟨rfl, ?_, ?_⟩
  · obtain ⟨oe, vs, he, hc, -⟩ := FlyingW_exc fl₃
    exact ⟨oe, he, hc⟩
  rw [if_pos rfl]
  refine lands_againW fl₃ fun h₄ fl₄ up₄ => ?_
  obtain ⟨sl₄, O₄⟩ := O₃.fly hg hT (fun vs q => hnf vs q) fl₄.1 up₄
  have tp₄ := tp₃.of_slots up₄
  generalize hs₄ : ({ s₃ with heap := h₄ } : Shared) = s₄ at O₄ ⊢
  have hs₄' : s₄.heap = h₄ := by rw [← hs₄]
  rw [← hs₄'] at fl₄ tp₄
  replace O₄ : Own w.params [248, Lf] g σ s₄ L m [(248, tabObj tb), (Lf, { oF with slots := sl₄ })] := O₄
  have x₄ := FlyingW_exc fl₄
  obtain ⟨g₅, O₅, gg, gn⟩ := O₄.freeze (led' := [(248, tabObj tb), (Lf, { oF with slots := sl₄ })]) (fun p hp => ⟨(O₄.lg p hp).1, List.mem_map_of_mem hp⟩) O₄.nd
  have hnot : ∀ b o T, s₄.heap.get? b = some o → o.cls = .type T → (∀ es n, o.data ≠ .dict es n) → g₅.get? b = some o := by
    intro b o T h1 h2 h3
    refine gn b o ?_ ?_ h1
    · rintro rfl
      obtain ⟨o', es, ep, hL, hd, -⟩ := O₄.ns
      rw [h1] at hL; cases hL; exact h3 _ _ hd
    · simp only [List.map_cons, List.map_nil, List.mem_cons, List.not_mem_nil, or_false]
      rintro (rfl | rfl)
      · have e1 := O₄.at 0 rfl
        rw [h1] at e1; cases e1; cases h2
      · have e1 := O₄.at 1 rfl
        rw [h1] at e1; cases e1; exact h3 _ _ hdF
  have x₅ : g₅.ExcAt e "ValueError" (.ref t) := by
    obtain ⟨o, vs, h1, h2, h3, h4⟩ := x₄
    exact ⟨o, vs, hnot e o _ h1 h2 (fun es n q => by rw [h3] at q; cases q), h2, h3, h4⟩
  have tp₅ : g₅.TupAt t [.str msg tm] := by
    obtain ⟨o, n, h1, h2, h3⟩ := tp₄
    exact ⟨o, n, hnot t o _ h1 h2 (fun es n q => by rw [h3] at q; cases q), h2, h3⟩
  refine stO O₅ fun s₆ O₆ => ?_
  walk_at "nx"
  refine mstN fun N hN => ?_
  repeat walk_at "st"
  refine ldB (v := .type "str") O₆ ?_
  refine PyProof.Rows.callWith_type1 ?_
  repeat walk_at "st"
  refine ldO O₆ (by rfl) ?_
  repeat walk_at "st"
  refine str_exc (e := e) (t0 := t) (msg := msg) (tk := tm) ?_ ?_ ?_ ?_
  · show A.units + 3 + 4 < cLine; walk_at "om"
  · obtain ⟨o, vs, h1, h2⟩ := x₅
    exact ⟨o, vs, O₆.keep _ _ h1, h2⟩
  · obtain ⟨o, n, h1, h2⟩ := tp₅
    exact ⟨o, n, O₆.keep _ _ h1, h2⟩
  repeat walk_at "st"
  refine lstO O₆ (fun r' s₇ hnew O₇ => ?_)
  refine wpAny_nameGoes (m := _) (by kernel_rfl) O₇.ns (by kernel_rfl) fun h₈ m' hn₈ hs₈ => ?_
  have O₈ := O₇.locals hn₈ hs₈ (s₇.toks + 1)
  refine h _ r' ⟨sl₄, tb, O₈.post, O₈.at 2 rfl, O₈.at 1 rfl, (ht.keeps gg).keeps O₈.keep, O₇.new (.head _) fun hm => (O₆.fresh hnew).2.2 hm, ?_⟩
  · rw [hm]
    exact ⟨tm, _, O₈.at 0 rfl⟩
end
end Mine
namespace Mine
theorem tryV_ok {kd n0 : Int} {nr : List Int} (h0 : kd ≠ 0) (hle : n0.toNat ≤ nr.length) : tryV kd (n0 :: nr) = .ok (if kd = 1 then .str (chars (nr.take n0.toNat)) else if kd = 2 then .bytes (nr.take n0.toNat) else .int (leSigned (byteArr (nr.take n0.toNat)).toList), nr.drop n0.toNat) := by
  unfold tryV; dsimp only
  rw [if_neg h0, if_neg (Nat.not_lt.mpr hle)]
theorem tryV_err {kd n0 : Int} {nr : List Int} (h0 : kd ≠ 0) (hlt : nr.length < n0.toNat) : tryV kd (n0 :: nr) = (if kd = 1 then .error (shortMsg "string1" n0 nr.length) else if kd = 2 then .error (shortMsg "bytes1" n0 nr.length) else .error "not enough data in stream to read long1") := by
  unfold tryV; dsimp only
  rw [if_neg h0, if_pos hlt]
section
variable {prog : Program} {w : World} {A : Around} {E : Value → Shared → Prop} {R : Result → Shared → Prop} {σ s : Shared} {g : Heap} {m : Str → Option Value} {st D Lf L : Addr} {vs : List Value} {ns : List Int} {k : Nat} {outer : List Env} {oF oc : Obj} {es : Array DictEntry} {ep : Nat} {tb : Array Value}
theorem frms {env : Env} {led : List (Addr × Obj)} {foot : List Addr} (O : Own w.params foot g σ s L m led) (F : Fms σ.heap outer) (hout : frs outer = [Lf]) (hF : s.heap.get? Lf = some oF) (hdF : oF.data = .dict es ep) (hf : env.frame = some L) (hk : env.scope.kind ≠ .module) : Fms s.heap (env :: outer) := fun e he => by
  rcases List.mem_cons.mp he with rfl | he
  · obtain ⟨o, ho, hd⟩ := O.frame
    exact ⟨hk, L, o, hf, ho, hd⟩
  · obtain ⟨hk', L', o, hf', ho, hd⟩ := F e he
    have : L' ∈ frs outer := List.mem_filterMap.mpr ⟨e, he, hf'⟩
    rw [hout, List.mem_singleton] at this
    subst this
    exact ⟨hk', L', _, hf', hF, fun vs q => by rw [hdF] at q; cases q⟩
theorem byteN {vs : List Value} {ns : List Int} (hi : IntsAre vs ns) : vs.length = ns.length := hi.length
set_option maxHeartbeats 4000000 in
theorem try_mid {kd : Int} {tkd : Tok} {Q : Flow → Shared → Prop} (O : Own w.params [248, Lf] g σ s L m [(D, lstObj vs.toArray k), (248, tabObj tb), (Lf, oF)]) (S : Strm w.params g st D) (hcl : g.get? (L + 1) = some oc) (hdc : oc.data = .cell (some (.ref D))) (ht : TryTab w.params g tb)
    (hroom : A.depth + 20 < recursionLimit) (hu : A.units + 40 < cLine) (hh : A.handled = none) (hA : A.frames = some outer) (hout : frs outer = [Lf]) (F : Fms σ.heap outer) (hdF : oF.data = .dict es ep)
    (hi : IntsAre vs ns) (hr : ∀ n ∈ ns, 0 ≤ n ∧ n < 256) (hsz : vs.length < 1000) (h3 : ∀ n0 nr, ns = n0 :: nr → kd ≠ 0 → n0 ≤ 3) (hk0 : 0 ≤ kd) (hk3 : kd ≤ 3) (hm1 : m "kind" = some (.int kd tkd)) (hm2 : m "stream" = some (.ref st))
    (hD : σ.heap.get? D = none)
    (h : ∀ s'' r', TryRes w.params Lf oF σ s'' kd ns r' → Q (.ret (.ref r')) s'') :
    wpAny (model prog w) (A.deeper (EVC w.params 251 L)) (execs ((BD w.params 251).drop 4) (EVC w.params 251 L)) Q E s := by
  walk_at "nx"
  refine mstN fun N hN => ?_
  refine wpAny_Try_except ?_
  refine absT (Pq := fun f s' => ∃ r', f = .ret (.ref r') ∧ TryRes w.params Lf oF σ s' kd ns r') (Pe := fun e s' => ∃ e0 msg s₁ ol m₁, e = .ref e0 ∧ tryV kd ns = .error msg ∧ Own w.params [248, Lf] g σ s₁ L m₁ [(D, ol), (248, tabObj tb), (Lf, oF)] ∧ Raised [D] (EVC w.params 251 L :: outer) e0 msg s₁ s') (fun Q' E' hQ hE => ?_) (fun f s' hf => ?_) (fun e s' he => ?_)
  rotate_left
  · obtain ⟨r', rfl, hq⟩ := hf
    exact h _ _ hq
  · obtain ⟨e0, msg, s₁, ol, m₁, rfl, hm, O₁, r⟩ := he
    exact try_err O₁ ht (dl hu (by decide)) hm r hdF hout hA h
  have hLD : L + 1 ≠ D := by
    intro q
    have := (O.lg (D, lstObj vs.toArray k) (.head _)).2.2
    rw [← q, hcl] at this; cases this
  have FI : ∀ {s' : Shared} {m' : Str → Option Value} {ol : Obj}, Own w.params [248, Lf] g σ s' L m' [(D, ol), (248, tabObj tb), (Lf, oF)] → Fms s'.heap (EVC w.params 251 L :: outer) := fun O' => frms O' F hout (O'.at 2 rfl) hdF (by kernel_rfl) (by rw [show (EVC w.params 251 L).scope.kind = .function by kernel_rfl]; decide)
  have hDf : D ∉ frs (EVC w.params 251 L :: outer) := by
    have : frs (EVC w.params 251 L :: outer) = L :: frs outer := by unfold frs; rw [List.filterMap_cons]; rfl
    rw [this, hout]
    have nd := O.nd
    simp only [List.map_cons, List.nodup_cons, List.mem_cons, not_or] at nd
    simp only [List.mem_cons, List.not_mem_nil, or_false, not_or]
    exact ⟨(O.lg (D, lstObj vs.toArray k) (.head _)).2.1, nd.1.2.1⟩
  have fin : ∀ {s' : Shared} {m' : Str → Option Value} {vs' : List Value} {rest : List Int} {v : Value} {tv : TV} {n' : Nat} {E'' : Value → Shared → Prop}, Own w.params [248, Lf] g σ s' L m' [(D, lstObj vs'.toArray n'), (248, tabObj tb), (Lf, oF)] → IntsAre vs' rest → tv.val v → tryV kd ns = .ok (tv, rest) →
      wpAny (model prog w) (A.deeper (EVC w.params 251 L)) (newList [v, .ref D]) (fun v' s' => Q' (.ret v') s') E'' s' := by
    intro s' m' vs' rest v tv n' E'' O' hi' hv' hV
    refine lstO O' fun r' s₇ hnew O₇ => ?_
    refine hQ _ _ ⟨r', rfl, oF.slots, tb, O₇.post, O₇.at 3 rfl, O₇.at 2 rfl, ht.keeps O₇.keep, O₇.new (.head _) fun hm => (O'.fresh hnew).2.2 (.tail _ hm), by rw [hV]; exact ⟨v, D, vs', _, _, O₇.at 0 rfl, hv', hD, O₇.at 1 rfl, hi'⟩⟩
  walk_at "nx"
  refine mstN fun N hN => ?_
  repeat walk_at "st"
  refine wpAny_isTrue_Compare1 ?_
  refine ldO O (by exact hm1) ?_
  refine intO O fun t₁ s₁ O₁ => ?_
  refine PySem.P.eq_int ?_
  refine wpAny_pure ?_
  by_cases h0 : kd = 0
  · refine ifT (by rw [h0]; rfl) ?_
    repeat walk_at "st"
    refine ldG (v := .ref 45) O₁ ?_
    refine callWith_K (h₀ := g) O₁.kn (by kernel_rfl) ?_
    repeat walk_at "st"
    refine ldO O₁ (by exact hm2) ?_
    repeat walk_at "st"
    refine ⟨O₁.X, ?_⟩
    refine wpAny_call (uint1_ok (ns := ns) O₁.X (by show A.depth + 1 + 5 < _; exact dl2 hroom (by decide)) hh (S.keeps O₁.keep) (O₁.at 0 rfl) (O₁.off (.head _)) hi hr hsz (Around.frames_deeper hA) (FI O₁) hDf (fun n0 nr e s' t n' p hl => ?_) fun e s' e0 r => ?_)
    · have O₂ := O₁.afterHd p hl
      repeat walk_at "st"
      refine ldC (O₂.keep _ _ hcl) hdc ?_
      repeat walk_at "st"
      refine fin (tv := .int n0) (rest := nr) O₂ (by have := ints_drop 1 hi; rw [e] at this; exact this) ⟨_, rfl⟩ (by rw [e, h0]; rfl)
    · exact hE _ _ ⟨_, _, s₁, _, _, rfl, by rw [e]; rfl, O₁, r⟩
  refine ifF (beq_eq_false_iff_ne.mpr h0) ?_
  repeat walk_at "st"
  refine wpAny_isTrue_Compare1 ?_
  refine ldO O₁ (by exact hm1) ?_
  refine intO O₁ fun t₂ s₂ O₂ => ?_
  refine PySem.P.eq_int ?_
  refine wpAny_pure ?_
  by_cases h1 : kd = 1
  · refine ifT (by rw [h1]; rfl) ?_
    repeat walk_at "st"
    refine ldG (v := .ref 52) O₂ ?_
    refine callWith_K (h₀ := g) O₂.kn (by kernel_rfl) ?_
    repeat walk_at "st"
    refine ldO O₂ (by exact hm2) ?_
    repeat walk_at "st"
    refine ⟨O₂.X, ?_⟩
    refine wpAny_call (string1_ok (ns := ns) O₂.X (by show A.depth + 1 + 10 < _; exact dl2 hroom (by decide)) hh (S.keeps O₂.keep) (O₂.at 0 rfl) (O₂.off (.head _)) hi hr hsz (Around.frames_deeper hA) (FI O₂) hDf (fun n0 nr e => h3 n0 nr e h0) (fun n0 nr e hle s' t n' p hl => ?_) (fun e s' e0 r => ?_) fun n0 nr e hlt s' e0 r => ?_)
    · have O' := O₂.afterHd p hl
      repeat walk_at "st"
      refine ldC (O'.keep _ _ hcl) hdc ?_
      repeat walk_at "st"
      refine fin (tv := .str (chars (nr.take n0.toNat))) (rest := nr.drop n0.toNat) O' ?_ ⟨_, rfl⟩ ?_
      · have := ints_drop n0.toNat (ints_drop 1 hi)
        rw [e, List.drop_drop] at this
        exact this
      · rw [e, tryV_ok h0 hle, h1]; rfl
    · exact hE _ _ ⟨_, _, s₂, _, _, rfl, by rw [e]; rfl, O₂, r⟩
    · exact hE _ _ ⟨_, _, s₂, _, _, rfl, by rw [e, tryV_err h0 hlt, h1]; rfl, O₂, r⟩
  refine ifF (beq_eq_false_iff_ne.mpr h1) ?_
  repeat walk_at "st"
  refine wpAny_isTrue_Compare1 ?_
  refine ldO O₂ (by exact hm1) ?_
  refine intO O₂ fun t₃ s₃ O₃ => ?_
  refine PySem.P.eq_int ?_
  refine wpAny_pure ?_
  by_cases h2 : kd = 2
  · refine ifT (by rw [h2]; rfl) ?_
    repeat walk_at "st"
    refine ldG (v := .ref 59) O₃ ?_
    refine callWith_K (h₀ := g) O₃.kn (by kernel_rfl) ?_
    repeat walk_at "st"
    refine ldO O₃ (by exact hm2) ?_
    repeat walk_at "st"
    refine ⟨O₃.X, ?_⟩
    refine wpAny_call (bytes1_ok (ns := ns) O₃.X (by show A.depth + 1 + 10 < _; exact dl2 hroom (by decide)) hh (S.keeps O₃.keep) (O₃.at 0 rfl) (O₃.off (.head _)) hi hr hsz (Around.frames_deeper hA) (FI O₃) hDf (fun n0 nr e => h3 n0 nr e h0) (fun n0 nr e hle s' t n' p hl => ?_) (fun e s' e0 r => ?_) fun n0 nr e hlt s' e0 r => ?_)
    · have O' := O₃.afterHd p hl
      repeat walk_at "st"
      refine ldC (O'.keep _ _ hcl) hdc ?_
      repeat walk_at "st"
      refine fin (tv := .bytes (nr.take n0.toNat)) (rest := nr.drop n0.toNat) O' ?_ ⟨_, rfl⟩ ?_
      · have := ints_drop n0.toNat (ints_drop 1 hi)
        rw [e, List.drop_drop] at this
        exact this
      · rw [e, tryV_ok h0 hle, h2]; rfl
    · exact hE _ _ ⟨_, _, s₃, _, _, rfl, by rw [e]; rfl, O₃, r⟩
    · exact hE _ _ ⟨_, _, s₃, _, _, rfl, by rw [e, tryV_err h0 hlt, h2]; rfl, O₃, r⟩
  have hk3 : kd = 3 := by rcases four hk0 hk3 with h | h | h | h <;> first | exact h | exact absurd h ‹_›
  refine ifF (beq_eq_false_iff_ne.mpr h2) ?_
  repeat walk_at "st"
  refine ldG (v := .ref 73) O₃ ?_
  refine callWith_K (h₀ := g) O₃.kn (by kernel_rfl) ?_
  repeat walk_at "st"
  refine ldO O₃ (by exact hm2) ?_
  repeat walk_at "st"
  refine ⟨O₃.X, ?_⟩
  refine wpAny_call (long1_ok (ns := ns) O₃.X (by show A.depth + 1 + 10 < _; exact dl2 hroom (by decide)) hh (S.keeps O₃.keep) (O₃.at 0 rfl) (O₃.off (.head _)) hi hr hsz (Around.frames_deeper hA) (FI O₃) hDf (fun n0 nr e => h3 n0 nr e h0) (fun n0 nr e hle s' t n' p hl => ?_) (fun e s' e0 r => ?_) fun n0 nr e hlt s' e0 r => ?_)
  · have O' := O₃.afterHd p hl
    repeat walk_at "st"
    refine ldC (O'.keep _ _ hcl) hdc ?_
    repeat walk_at "st"
    refine fin (tv := .int (leSigned (byteArr (nr.take n0.toNat)).toList)) (rest := nr.drop n0.toNat) O' ?_ ⟨_, rfl⟩ ?_
    · have := ints_drop n0.toNat (ints_drop 1 hi)
      rw [e, List.drop_drop] at this
      exact this
    · rw [e, tryV_ok h0 hle, hk3]; rfl
  · exact hE _ _ ⟨_, _, s₃, _, _, rfl, by rw [e]; rfl, O₃, r⟩
  · exact hE _ _ ⟨_, _, s₃, _, _, rfl, by rw [e, tryV_err h0 hlt, hk3]; rfl, O₃, r⟩
end
end Mine
namespace Mine
section
variable {prog : Program} {w : World} {A : Around} {E : Value → Shared → Prop} {R : Result → Shared → Prop} {s : Shared} {lo Lf : Addr} {vs : List Value} {ns : List Int} {n : Nat} {outer : List Env} {oF : Obj} {es : Array DictEntry} {ep : Nat} {tb : Array Value}
theorem tri6 {a b c d : Nat} {c1 c2 : Addr} : TriplesOk (#[rawInt a, rawInt b, Value.ref c1, rawInt c, rawInt d, Value.ref c2] : Array Value).toList := by simp [TriplesOk, rawInt]
def pk {α : Type} : List Bool → List α → List α
  | true :: p, x :: l => x :: pk p l
  | false :: p, _ :: l => pk p l
  | _, _ => []
theorem pk_sub {α : Type} : ∀ (p : List Bool) (l : List α), (pk p l).Sublist l
  | [], l => List.nil_sublist l
  | true :: _, [] => List.Sublist.slnil
  | false :: _, [] => List.Sublist.slnil
  | true :: p, x :: l => (pk_sub p l).cons₂ x
  | false :: p, x :: l => (pk_sub p l).cons x
theorem pk_off {α β : Type} {f : α → β} : ∀ (p : List Bool) (l : List α), (l.map f).Nodup → ∀ x ∈ pk (p.map (!·)) l, f x ∉ (pk p l).map f
  | [], _, _, _, hx => absurd hx List.not_mem_nil
  | true :: _, [], _, _, hx => absurd hx List.not_mem_nil
  | false :: _, [], _, _, hx => absurd hx List.not_mem_nil
  | true :: p, y :: l, h, x, hx => fun hm => by
    have h := List.nodup_cons.mp h
    rcases List.mem_cons.mp hm with e | hm
    · exact h.1 (e ▸ List.mem_map_of_mem ((pk_sub _ l).subset hx))
    · exact pk_off p l h.2 x hx hm
  | false :: p, y :: l, h, x, hx => fun hm => by
    have h := List.nodup_cons.mp h
    rcases List.mem_cons.mp hx with rfl | hx
    · exact h.1 (((pk_sub p l).map f).subset hm)
    · exact pk_off p l h.2 x hx hm
/-- keep in the ledger what p picks, freeze the rest -/
theorem Own.pick {P : Params} {foot : List Addr} {g : Heap} {σ s : Shared} {L : Addr} {m : Str → Option Value} {led : List (Addr × Obj)} (p : List Bool) (O : Own P foot g σ s L m led) :
    ∃ g', Own P foot g' σ s L m (pk p led) ∧ (∀ b o, g.get? b = some o → g'.get? b = some o) ∧ ∀ x ∈ pk (p.map (!·)) led, g'.get? x.1 = some x.2 := by
  obtain ⟨g', O', up, up2⟩ := O.freeze (led' := pk p led) (fun q hq => ⟨(O.lg q ((pk_sub p led).subset hq)).1, List.mem_map_of_mem ((pk_sub p led).subset hq)⟩) (((pk_sub p led).map _).nodup O.nd)
  exact ⟨g', O', up, fun x hx => up2 _ _ (O.lg x ((pk_sub _ led).subset hx)).2.1 (pk_off p led O.nd x hx) (O.lg x ((pk_sub _ led).subset hx)).1⟩
theorem gnkO {h : Heap} {a b : Addr} {o o' : Obj} (ea : h.get? a = some o) (eb : h.get? b = some o') (k : Nat.beq (dkind o.data) (dkind o'.data) = false) : a ≠ b := fun q => by
  subst q
  rw [ea] at eb
  cases eb
  simp at k
theorem nd2 {α : Type} {a b : α} (h : a ≠ b) : [a, b].Nodup := by simp [h]
theorem rec_ne_ns {h : Heap} {c d : Addr} {n : Str} {m : Str → Option Value} (hr : h.CodeRec (.ref c) n) (hn : h.Ns d m) : c ≠ d := by
  obtain ⟨o, es, ep, e1, e2, -⟩ := hn
  exact gnkC hr e1 (by rw [e2]; rfl)
theorem TryTab.up {P : Params} {h g : Heap} {tb : Array Value} (ht : TryTab P h tb) (hT : h.get? 248 = some (tabObj tb)) (hLf : h.get? Lf = some oF) (hdF : oF.data = .dict es ep) (up : ∀ b o, b ∉ [248, Lf] → h.get? b = some o → g.get? b = some o) : TryTab P g tb := by
  rcases ht with rfl | ⟨c1, c2, rfl, hrec⟩
  · exact .inl rfl
  · refine .inr ⟨c1, c2, rfl, hrec.at fun o e => up _ _ (nf2 ?_ (gnkC hrec hLf (by rw [hdF]; rfl))) e⟩
    obtain ⟨c, o', vs', t', q1, q2, q3, q4⟩ := hrec
    cases q1
    rintro rfl
    rw [hT] at q2; cases q2; cases q3; simp [rawInt] at q4
theorem TryTab.triples {P : Params} {g : Heap} {tb : Array Value} (ht : TryTab P g tb) : TriplesOk tb.toList := by
  rcases ht with rfl | ⟨c1, c2, rfl, -⟩
  · trivial
  · exact tri6
theorem TryTab.first {P : Params} {h : Heap} {tb : Array Value} {L : Addr} {el ec : Nat} (ht : TryTab P h tb) :
    codeAmong { line := 174, col := 4, endLine := el, endCol := ec } tb.toList = none ∨ ∃ c' : Addr, codeAmong { line := 174, col := 4, endLine := el, endCol := ec } tb.toList = some (.ref c') ∧ h.CodeRec (.ref c') ((EVC P 251 L).qual ++ "read") := by
  rcases ht with rfl | ⟨c1, c2, rfl, hrec⟩
  · exact .inl rfl
  · refine .inr ⟨c1, rfl, ?_⟩
    rw [EVC_qual]; exact hrec
def KeyTb (c' : Addr) (ps' : Array Value) : Prop := ps' = #[rawInt (174 : Nat), rawInt (4 : Nat), .ref c'] ∨ ∃ c2 : Addr, ps' = #[rawInt (174 : Nat), rawInt (4 : Nat), .ref c', rawInt (178 : Nat), rawInt (13 : Nat), .ref c2]
theorem TryTab.key {P : Params} {h : Heap} {tb ps' : Array Value} {c' : Addr} {el ec : Nat} (ht : TryTab P h tb) (hp1 : codeAmong { line := 174, col := 4, endLine := el, endCol := ec } tb.toList = none → ps' = tb ++ #[rawInt (174 : Nat), rawInt (4 : Nat), .ref c'])
    (hp2 : ∀ c'' : Addr, codeAmong { line := 174, col := 4, endLine := el, endCol := ec } tb.toList = some (.ref c'') → ps' = tb ∧ c' = c'') : KeyTb c' ps' := by
  rcases ht with rfl | ⟨c1, c2, rfl, -⟩
  · exact .inl (hp1 rfl)
  · obtain ⟨e1, rfl⟩ := hp2 c1 rfl
    exact .inr ⟨c2, e1⟩
theorem KeyTb.ne {h : Heap} {c c' b : Addr} {n : Str} {ps' : Array Value} (K : KeyTb c' ps') (hr : h.CodeRec (.ref c) n) (eb : h.get? b = some (tabObj ps')) : c ≠ b := by
  rintro rfl
  obtain ⟨c0, o, vs, t, q1, q2, q3, q4⟩ := hr
  cases q1
  rw [eb] at q2; cases q2; cases q3
  rcases K with rfl | ⟨c2, rfl⟩ <;> simp [rawInt] at q4
theorem KeyTb.triples {c' : Addr} {ps' : Array Value} (K : KeyTb c' ps') : TriplesOk ps'.toList := by
  rcases K with rfl | ⟨c2, rfl⟩
  · simp [TriplesOk, rawInt]
  · exact tri6
theorem KeyTb.lam {c' : Addr} {ps' : Array Value} {el ec : Nat} (K : KeyTb c' ps') :
    codeAmong { line := 178, col := 13, endLine := el, endCol := ec } ps'.toList = none ∨ ∃ c'' : Addr, codeAmong { line := 178, col := 13, endLine := el, endCol := ec } ps'.toList = some (.ref c'') := by
  rcases K with rfl | ⟨c2, rfl⟩
  · exact .inl rfl
  · exact .inr ⟨c2, rfl⟩
theorem KeyTb.after {P : Params} {h : Heap} {c' : Addr} {ps' ps'' : Array Value} {el ec : Nat} (K : KeyTb c' ps') (hrec : h.CodeRec (.ref c') ((EVC P 251 0).qual ++ "read"))
    (hq1 : codeAmong { line := 178, col := 13, endLine := el, endCol := ec } ps'.toList = none → ∃ c2 : Addr, ps'' = ps' ++ #[rawInt (178 : Nat), rawInt (13 : Nat), .ref c2])
    (hq2 : (∃ c2 : Addr, codeAmong { line := 178, col := 13, endLine := el, endCol := ec } ps'.toList = some (.ref c2)) → ps'' = ps') : TryTab P h ps'' := by
  rcases K with rfl | ⟨c2, rfl⟩
  · obtain ⟨c2, e1⟩ := hq1 rfl
    exact .inr ⟨c', c2, e1, hrec⟩
  · exact .inr ⟨c', c2, hq2 ⟨c2, rfl⟩, hrec⟩
theorem paired_all {vs : List Value} {ys : List Value} (hP : Paired (fun i y => vs[i]? = some y) ((List.range vs.length).filter fun _ => true) ys) : ys = vs := by
  rw [filter_true] at hP
  obtain ⟨h1, h2⟩ := paired_range hP
  refine List.ext_getElem? fun i => ?_
  by_cases hil : i < ys.length
  · rw [h2 i _ (List.getElem?_eq_getElem hil)]
    exact List.getElem?_eq_getElem hil
  · rw [List.getElem?_eq_none (by walk_at "om"), List.getElem?_eq_none (by walk_at "om")]
set_option maxHeartbeats 4000000 in
theorem try_ok {kd : Int} {tkd : Tok} (X : (Kn w.params).In s.heap) (hroom : A.depth + 20 < recursionLimit) (hu : A.units + 40 < cLine) (hh : A.handled = none) (hA : A.frames = some outer) (hout : frs outer = [Lf]) (F : Fms s.heap outer)
    (hLf : s.heap.get? Lf = some oF) (hdF : oF.data = .dict es ep) (aF : Off w.params Lf) (hT : s.heap.get? 248 = some (tabObj tb)) (ht : TryTab w.params s.heap tb)
    (hl : s.heap.get? lo = some (lstObj vs.toArray n)) (hi : IntsAre vs ns) (hr : ∀ n ∈ ns, 0 ≤ n ∧ n < 256) (hsz : vs.length < 500) (h3 : ∀ n0 nr, ns = n0 :: nr → kd ≠ 0 → n0 ≤ 3) (hk0 : 0 ≤ kd) (hk3 : kd ≤ 3)
    (h : ∀ s' r, TryRes w.params Lf oF s s' kd ns r → R (.ok (.ret (.ref r))) s') :
    codeAny (model prog w) A (.call (.ref 251) ⟨[.int kd tkd, .ref lo], []⟩) R s := by
  have hTF : (248 : Addr) ≠ Lf := gnkO hT hLf (by rw [hdF]; rfl)
  refine enterC 251 [("left", 1)] [.int kd tkd, .ref lo] [("kind", .int kd tkd), ("octets", .ref lo)] [(248, tabObj tb), (Lf, oF)] X (dl0 hroom) (led_cons hT (by unfold Off; kernel_rfl) (led_cons hLf aF led_nil)) (nd2 hTF) ?_
  intro L s₁ g up O hcells
  refine absQE fun Q E hR => ?_
  obtain ⟨oc, hoc, hdc, hgc, hnc⟩ := hcells ("left", 1) (.head _)
  have hlo : g.get? lo = some (lstObj vs.toArray n) := up _ _ (nf2 (gnkO hl hT (by rfl)) (gnkO hl hLf (by rw [hdF]; rfl))) hl
  have ht₁ : TryTab w.params g tb := ht.up hT hLf hdF up
  have O₁ := O.addLed hoc (Nat.succ_ne_self L) hgc hnc
  refine mstN fun N hN => ?_
  refine wpAny_Assign_Name ?_ (by kernel_rfl)
  refine compO (cl := []) (P := w.params) (σ := s) (foot := [248, Lf]) (L := L) ?_
  refine ldO O₁ (by rfl) ?_
  refine wpAny_pyIter_list ⟨_, O₁.keep _ _ hlo, rfl, _, rfl⟩ ?_
  have O₂ := O₁.push { cls := .type "list_iterator", data := .fields #[.ref lo, .int 0 0] }
  have hlI : lo ≠ s₁.heap.objs.size := Nat.ne_of_lt (Heap.lt_size (O₁.keep _ _ hlo))
  refine ⟨g, _, _, O₂, fun s₃ Q E hk q => wpAny_pyIter_listiter ⟨_, hk _ _ (O₂.at 0 rfl), rfl, rfl⟩ q, fun C D oL s₃ hD O₃ => ?_⟩
  refine compLoopSrc (p := fun _ => true) (Fp := fun i y => vs[i]? = some y) (srcList hlo hlI hh) O₃ ⟨rfl, rfl⟩ (by walk_at "om") (by kernel_rfl) (by kernel_rfl) (fun i v s₄ mc led₃ hiv O₄ hsub hm hv Q E q => wpAny_tests_nil (q _ O₄)) (fun i v s₄ mc led₃ hiv _ O₄ hsub hm hv Q E q => ldO O₄ hm (q _ _ O₄ hv)) fun s₄ mc ys k O₄ hP => ?_
  refine ⟨g, mc, _, O₄, fun s₅ O₅ => ?_⟩
  have hys' : ys = vs.toArray := by rw [← paired_all hP]
  rw [hys'] at O₅
  refine stC O₅ 1 rfl hdc fun s₆ oc₆ hd₆ O₆ => ?_
  walk_at "nx"
  refine mstN fun N hN => ?_
  have hDn : s₆.heap.get? D = some (lstObj vs.toArray k) := O₆.at 0 rfl
  refine defO (T := 248) 251 (clos := [("left", L + 1)]) (fun c' ctv doc => readFd w.params (L + 1) c' ctv doc) O₆ 2 rfl ht₁.triples (ht₁.keeps O₆.keep).first ?_
  intro f c' ctv doc s₇ ps' hp1 hp2 hrec₇ hk₇ O₇
  have key : KeyTb c' ps' := ht₁.key hp1 hp2
  obtain ⟨g₇, O₇, gg₇, gn₇⟩ := O₇.freeze (led' := [(f, fnOb none (readFd w.params (L + 1) c' ctv doc)), (D, lstObj vs.toArray k), (L + 1, oc₆), (248, tabObj ps'), (Lf, oF)]) (fun p hp => ⟨(O₇.lg p hp).1, List.mem_map_of_mem hp⟩) O₇.nd
  have hrecg : g₇.CodeRec (.ref c') ((EVC w.params 251 0).qual ++ "read") := by
    rw [← EVC_qual w.params L]
    exact hrec₇.at fun o e => gn₇ _ _ (rec_ne_ns hrec₇ O₇.ns) (nf5 (gnkC hrec₇ (O₇.at 0 rfl)) (gnkC hrec₇ (O₇.at 1 rfl)) (gnkC hrec₇ (O₇.at 2 rfl) (by rw [hd₆]; rfl)) (key.ne hrec₇ (O₇.at 3 rfl)) (gnkC hrec₇ (O₇.at 4 rfl) (by rw [hdF]; rfl))) e
  refine stO O₇ fun s₈ O₈ => ?_
  walk_at "nx"
  refine mstN fun N hN => ?_
  repeat walk_at "st"
  refine lamO (T := 248) 251 (clos := []) O₈ 3 rfl key.triples key.lam fun st fdS s₉ ps'' hq1 hq2 hk₉ O₉ => ?_
  have ht₉ : TryTab w.params g₇ ps'' := key.after hrecg hq1 hq2
  refine stO O₉ fun s₁₀ O₁₀ => ?_
  repeat walk_at "st"
  refine ldO O₁₀ (by rfl) ?_
  refine ldO O₁₀ (by rfl) ?_
  refine fn_setO (name := "read") O₁₀ 0 rfl (by rw [typeLookup_type, builtinLookup_eq_fast]; kernel_rfl) fun s₁₁ d od hn O₁₁ => ?_
  walk_at "nx"
  obtain ⟨g', O', gg', up'⟩ := O₁₁.pick [false, false, false, true, false, true, true]
  have S : Strm w.params g' st D := by
    refine ⟨f, L + 1, d, _, fdS, c', ctv, doc, oc₆, up' (st, fnOb (some d) fdS) (.tail _ (.head _)), hn.ns.at' fun o e => (up' (d, od) (.head _)).trans ((O₁₁.lg (d, od) (.head _)).1.symm.trans e), ?_, up' (f, fnOb none (readFd w.params (L + 1) c' ctv doc)) (.tail _ (.tail _ (.head _))), hrecg.keeps gg', up' (L + 1, oc₆) (.tail _ (.tail _ (.tail _ (.head _)))), hd₆⟩
    simp
  refine try_mid O' S (up' (L + 1, oc₆) (.tail _ (.tail _ (.tail _ (.head _))))) hd₆ (ht₉.keeps gg') hroom hu hh hA hout F hdF hi hr (Nat.lt_trans hsz (by decide)) h3 hk0 hk3 (by rfl) (by rfl) ?_ fun s'' r' hq => ?_
  · exact O'.new (.head _) (List.nodup_cons.mp O'.nd).1
  · exact hR _ _ (h _ _ hq)
end
end Mine
namespace Mine
section
variable {prog : Program} {w : World} {A : Around} {E : Value → Shared → Prop} {R : Result → Shared → Prop} {s : Shared}
theorem right_ok {kd : Int} {tkd : Tok} {v : Value} (X : (Kn w.params).In s.heap) (hroom : A.depth < recursionLimit) (hv : kd = 1 ∨ (kd = 2 ∧ ∃ b t, v = .bytes b t) ∨ (kd ≠ 2 ∧ kd ≠ 1 ∧ ∃ z t, v = .int z t))
    (h : ∀ s', Post [] s s' → R (.ok (.ret (.bool true))) s') : codeAny (model prog w) A (.call (.ref 258) ⟨[.int kd tkd, v], []⟩) R s := by
  refine enter 258 [("kind", .int kd tkd), ("value", v)] [] X hroom led_nil (by simp) ?_
  intro L s₁ g up O
  refine absQE fun Q E hR => ?_
  walk_at "nx"
  refine mstN fun N hN => ?_
  repeat walk_at "st"
  refine wpAny_isTrue_Compare1 ?_
  refine ldO O (by rfl) ?_
  refine intO O fun t₂ s₂ O₂ => ?_
  refine PySem.P.eq_int ?_
  refine wpAny_pure ?_
  by_cases h2 : kd = 2
  · subst h2
    refine ifT (by rfl) ?_
    repeat walk_at "st"
    refine ldB (v := .builtin "isinstance") O₂ ?_
    refine callWith_method1 ?_
    repeat walk_at "st"
    refine ldO O₂ (by rfl) ?_
    repeat walk_at "st"
    refine ldB (v := .type "bytes") O₂ ?_
    repeat walk_at "st"
    obtain ⟨b, t, rfl⟩ : ∃ b t, v = .bytes b t := by
      rcases hv with h1 | ⟨-, h1⟩ | ⟨h1, -⟩
      · cases h1
      · exact h1
      · exact absurd rfl h1
    exact call_isinstance (isinstance_true (Tx := "bytes") PySem.F.isi_meta_bytes PySem.F.sub_bytes_bytes) ⟨rfl, hR _ _ (h _ O₂.post)⟩
  · refine ifF (decide_eq_false h2) ?_
    repeat walk_at "st"
    refine BoolOp_or ?_
    refine wpAny_Compare1 ?_
    repeat walk_at "st"
    refine ldO O₂ (by rfl) ?_
    refine intO O₂ fun t₃ s₃ O₃ => ?_
    refine PySem.P.eq_int ?_
    refine wpAny_pure ?_
    by_cases h1 : kd = 1
    · subst h1
      exact hR _ _ (h _ O₃.post)
    · rw [if_neg (show ¬ ((kd == 1) = true) by simpa using h1)]
      refine BoolOp_one ?_
      repeat walk_at "st"
      refine ldB (v := .builtin "isinstance") O₃ ?_
      refine callWith_method1 ?_
      repeat walk_at "st"
      refine ldO O₃ (by rfl) ?_
      repeat walk_at "st"
      refine ldB (v := .type "int") O₃ ?_
      repeat walk_at "st"
      obtain ⟨z, t, rfl⟩ : ∃ z t, v = .int z t := by
        rcases hv with h3 | ⟨h3, -⟩ | ⟨-, -, h3⟩
        · exact absurd h3 h1
        · exact absurd h3 h2
        · exact h3
      exact call_isinstance (isinstance_true (Tx := "int") PySem.F.isi_meta_int PySem.F.sub_int_int) ⟨rfl, hR _ _ (h _ O₃.post)⟩
end
end Mine
namespace Mine
def wordsV (kd n0 there : Int) : Str := if there = 0 then "not enough data in stream to read uint1" else if kd = 3 then "not enough data in stream to read long1" else shortMsg (if kd = 1 then "string1" else "bytes1") n0 (there - 1)
section
variable {prog : Program} {w : World} {A : Around} {E : Value → Shared → Prop} {R : Result → Shared → Prop} {s : Shared} {lo : Addr} {vs : List Value} {xs : Array Value} {n : Nat}
theorem sub_lst {value slice : Expr} {l : Addr} {k : Int} {u : Tok} {v : Value} {Q : Value → Shared → Prop} (hl : s.heap.get? l = some (lstObj xs n)) (h0 : 0 ≤ k) (hfit : k < 2 ^ 63) (hx : xs[k.toNat]? = some v) (h : Q v s)
    (hs : subscripted slice false (.ref l) (.int k u) = operate [.ref l, .int k u] (getItem (.ref l) (.int k u)) := by with_unfolding_all rfl) : wpAny (model prog w) A (subscriptTail value slice (.ref l) (.int k u)) Q E s :=
  subTail_any (inPython_lst hl) (wpAny_getItem_list ⟨_, hl, rfl, _, rfl⟩ h0 hfit hx h) hs
theorem sub_lst_last {value slice : Expr} {l : Addr} {u : Tok} {v : Value} {Q : Value → Shared → Prop} (hl : s.heap.get? l = some (lstObj xs n)) (h1 : 0 < xs.size) (hx : xs[xs.size - 1]? = some v) (h : Q v s)
    (hs : subscripted slice false (.ref l) (.int (-1) u) = operate [.ref l, .int (-1) u] (getItem (.ref l) (.int (-1) u)) := by with_unfolding_all rfl) : wpAny (model prog w) A (subscriptTail value slice (.ref l) (.int (-1) u)) Q E s :=
  subTail_any (inPython_lst hl) (wpAny_getItem_list_neg ⟨_, hl, rfl, _, rfl⟩ (by decide) (by walk_at "om") (by decide) (by rw [last_ix h1]; exact hx) h) hs
theorem words_ok {kd there n0 : Int} {tkd tth t0 : Tok} (X : (Kn w.params).In s.heap) (hroom : A.depth < recursionLimit) (hl : s.heap.get? lo = some (lstObj vs.toArray n)) (hv : there ≠ 0 → kd ≠ 3 → vs[0]? = some (.int n0 t0)) (hk : there ≠ 0 → kd = 1 ∨ kd = 2 ∨ kd = 3)
    (h0 : 0 ≤ n0 ∧ n0 < 256) (ht : 0 ≤ there ∧ there < 1000) (h : ∀ s' t, Post [] s s' → R (.ok (.ret (.str (wordsV kd n0 there) t))) s') : codeAny (model prog w) A (.call (.ref 270) ⟨[.int kd tkd, .ref lo, .int there tth], []⟩) R s := by
  refine enter 270 [("kind", .int kd tkd), ("octets", .ref lo), ("there", .int there tth)] [] X hroom led_nil (by simp) ?_
  intro L s₁ g up O
  refine absQE fun Q E hR => ?_
  have hl₁ : g.get? lo = some (lstObj vs.toArray n) := up _ _ (by simp) hl
  walk_at "nx"
  refine mstN fun N hN => ?_
  repeat walk_at "st"
  refine wpAny_isTrue_Compare1 ?_
  refine ldO O (by rfl) ?_
  refine intO O fun t₂ s₂ O₂ => ?_
  refine PySem.P.eq_int ?_
  refine wpAny_pure ?_
  by_cases h1 : there = 0
  · subst h1
    refine ifT (by rfl) ?_
    repeat walk_at "st"
    refine strO O₂ fun t₃ s₃ O₃ => ?_
    exact hR _ _ (h _ _ O₃.post)
  refine ifF (decide_eq_false h1) ?_
  repeat walk_at "st"
  refine wpAny_isTrue_Compare1 ?_
  refine ldO O₂ (by rfl) ?_
  refine intO O₂ fun t₃ s₃ O₃ => ?_
  refine PySem.P.eq_int ?_
  refine wpAny_pure ?_
  by_cases h3 : kd = 3
  · subst h3
    refine ifT (by rfl) ?_
    repeat walk_at "st"
    refine strO O₃ fun t₄ s₄ O₄ => ?_
    have e : wordsV 3 n0 there = "not enough data in stream to read long1" := by unfold wordsV; rw [if_neg h1, if_pos rfl]
    have := hR (.ret _) _ (h s₄ t₄ O₄.post)
    rw [e] at this
    exact this
  refine ifF (decide_eq_false h3) ?_
  repeat walk_at "st"
  refine strO (x := "string1") O₃ fun t₄ s₄ O₄ => ?_
  repeat walk_at "st"
  refine strO (x := "bytes1") O₄ fun t₅ s₅ O₅ => ?_
  repeat walk_at "st"
  refine lstO O₅ fun ln s₆ hn₆ O₆ => ?_
  repeat walk_at "st"
  refine ldO O₆ (by rfl) ?_
  refine intO O₆ fun t₇ s₇ O₇ => ?_
  refine PySem.P.sub_int ?_
  have hk' : kd = 1 ∨ kd = 2 := by rcases hk h1 with h | h | h <;> walk_at "om"
  have O₈ := O₇.toks (s₇.toks + 1)
  generalize hs₈ : ({ s₇ with toks := s₇.toks + 1 } : Shared) = s₈ at O₈ ⊢
  refine sub_lst (O₈.at 0 rfl) (v := .str (if kd = 1 then "string1" else "bytes1") (if kd = 1 then t₄ else t₅)) (by walk_at "om") (by walk_at "om") (by rcases hk' with rfl | rfl <;> rfl) ?_
  generalize (if kd = 1 then t₄ else t₅) = tn
  refine stO O₈ fun s₉ O₉ => ?_
  repeat walk_at "st"
  refine strO O₉ fun t₁₀ s₁₀ O₁₀ => ?_
  repeat walk_at "st"
  refine ldO O₁₀ (by rfl) ?_
  refine intO O₁₀ fun t₁₁ s₁₁ O₁₁ => ?_
  refine sub_lst (O₁₁.keep _ _ hl₁) (v := .int n0 t0) (by decide) (by decide) (by have := hv h1 h3; simpa using this) ?_
  repeat walk_at "st"
  refine ldO O₁₁ (by rfl) ?_
  repeat walk_at "st"
  refine ldO O₁₁ (by rfl) ?_
  refine intO O₁₁ fun t₁₂ s₁₂ O₁₂ => ?_
  refine PySem.P.sub_int ?_
  have O₁₃ := O₁₂.toks (s₁₂.toks + 1)
  generalize hs₁₃ : ({ s₁₂ with toks := s₁₂.toks + 1 } : Shared) = s₁₃ at O₁₃ ⊢
  repeat walk_at "st"
  refine tupO O₁₃ fun b s₁₄ hb O₁₄ => ?_
  refine mod_name (y := if kd = 1 then "string1" else "bytes1") (O₁₄.at 0 rfl) h0.1 (by walk_at "om") (by walk_at "om") (by walk_at "om") (by split <;> decide) fun t' k' => ?_
  have e : wordsV kd n0 there = shortMsg (if kd = 1 then "string1" else "bytes1") n0 (there - 1) := by unfold wordsV; rw [if_neg h1, if_neg h3]
  have := hR (.ret _) _ (h _ t' (O₁₄.toks k').post)
  rw [e] at this
  exact this
end
end Mine
namespace Mine
section
variable {prog : Program} {w : World} {A : Around} {E : Value → Shared → Prop} {P : Params} {foot : List Addr} {g : Heap} {σ s : Shared} {L : Addr} {m : Str → Option Value} {led : List (Addr × Obj)} {env : Env} {I : Addr}
theorem addO {a b r : Int} {t u : Tok} {Q : Value → Shared → Prop} (O : Own P foot g σ s L m led) (h : ∀ s' t', Own P foot g σ s' L m led → Q (.int r t') s') (hr : a + b = r := by rfl) : wpAny (model prog w) A (binaryOp .Add (.int a t) (.int b u)) Q E s := PySem.P.add_int (hr ▸ h _ _ (O.toks _))
theorem iaddO {a b r : Int} {t u : Tok} {Q : Value → Shared → Prop} (O : Own P foot g σ s L m led) (h : ∀ s' t', Own P foot g σ s' L m led → Q (.int r t') s') (hr : a + b = r := by rfl) : wpAny (model prog w) A (inplaceOp .Add (.int a t) (.int b u)) Q E s := PySem.P.iadd_int (hr ▸ h _ _ (O.toks _))
theorem modO {a b r : Int} {t u : Tok} {Q : Value → Shared → Prop} (O : Own P foot g σ s L m led) (hb : b ≠ 0) (h : ∀ s' t', Own P foot g σ s' L m led → Q (.int r t') s') (hr : a.fmod b = r := by rfl) : wpAny (model prog w) A (binaryOp .Mod (.int a t) (.int b u)) Q E s := PyProof.Rows.mod_int hb (hr ▸ h _ _ (O.toks _))
theorem fdivO {a b : Int} {t u : Tok} {Q : Value → Shared → Prop} (O : Own P foot g σ s L m led) (hb : b ≠ 0) (h : ∀ s' t', Own P foot g σ s' L m led → Q (.int (a.fdiv b) t') s') (hn : Builtin.divisionGoesByPylong a b = false := by exact PyProof.noPylong_small (by decide)) :
    wpAny (model prog w) A (binaryOp .FloorDiv (.int a t) (.int b u)) Q E s := PyProof.Rows.floordiv_int hb (h _ _ (O.toks _)) (.inl hn)
theorem lenlO {l : Addr} {xs : Array Value} {k n : Nat} {Q : Value → Shared → Prop} (O : Own P foot g σ s L m led) (hl : s.heap.get? l = some (lstObj xs k)) (hz : xs.size < 1000000) (h : ∀ s' t', Own P foot g σ s' L m led → Q (.int n t') s') (hn : xs.size = n := by rfl) :
    wpAny (model prog w) A (call (.builtin "len") [.ref l]) Q E s := len_list ⟨_, hl, rfl, _, rfl⟩ (by walk_at "om") (hn ▸ h _ _ (O.toks _))
theorem lensO {x : Str} {t : Tok} {Q : Value → Shared → Prop} (O : Own P foot g σ s L m led) (hz : x.length < 1000000) (h : ∀ s' t', Own P foot g σ s' L m led → Q (.int x.length t') s') :
    wpAny (model prog w) A (call (.builtin "len") [.str x t]) Q E s := PyProof.Rows.len_str (by walk_at "om") (h _ _ (O.toks _))
theorem srcRange (hh : A.handled = none) (a c : Int) (n : Nat) :
    Src prog w A g I n (fun i v => ∃ t, v = .int (a + i * c) t) (fun i o => o = { cls := .type "range_iterator", data := .fields #[rawInt (a + i * c), rawInt (n - i), rawInt c] }) where
  next := fun i s o Q E hi ho hob hk hQ => by
    subst hob
    refine wpAny_pyNext_range_item ho (by walk_at "om") fun h' hit' hs' => ?_
    refine hQ _ h' _ (s.toks + 1) ⟨_, rfl⟩ hit' ?_ hs'.extBut
    rw [show a + (i : Int) * c + c = a + ((i + 1 : Nat) : Int) * c by push_cast; rw [Int.add_mul]; walk_at "om", show (n : Int) - (i : Int) - 1 = (n : Int) - ((i + 1 : Nat) : Int) by walk_at "om"]
  stop := fun s o Q E ho hob hk hQ => by
    subst hob
    exact wpAny_pyNext_range_end hh ho (by walk_at "om") fun h' hs' => hQ h' hs'
  self := fun s o Q E ho hob hq => by
    subst hob
    exact wpAny_pyIter_rangeiter ho hq
  go := fun elts kk pos i v s o Q E ho hob hq => by
    subst hob
    unfold letOwnedTupleGo
    cases v with
    | ref b =>
      refine wpAny_bind (wpAny_load ho ?_)
      dsimp only
      rw [if_neg (by simp)]
      exact wpAny_pure hq
    | _ => exact wpAny_pure hq
theorem srcStr (hh : A.handled = none) (x : Str) (t : Tok) {T : String} (hT : T = "str_ascii_iterator" ∨ T = "str_iterator") :
    Src prog w A g I x.cps.size (SignAt x) (fun i o => o.cls = .type T ∧ o.data = .fields #[.str x t, .int i 0]) where
  next := fun i s o Q E hi ho hob hk hQ => by
    rcases hT with rfl | rfl
    · refine wpAny_pyNext_ascii_item (i := i) ⟨o, ho, hob⟩ (c := x.cps[i]) (by simp [hi]) fun h' hit' hs' => ?_
      obtain ⟨o', ho', hob'⟩ := hit'
      exact hQ _ h' o' (s.toks + 1) ⟨_, _, by simp [hi], rfl⟩ ho' hob' hs'.extBut
    · refine wpAny_pyNext_wide_item (i := i) ⟨o, ho, hob⟩ (c := x.cps[i]) (by simp [hi]) fun h' hit' hs' => ?_
      obtain ⟨o', ho', hob'⟩ := hit'
      exact hQ _ h' o' (s.toks + 1) ⟨_, _, by simp [hi], rfl⟩ ho' hob' hs'.extBut
  stop := fun s o Q E ho hob hk hQ => by
    rcases hT with rfl | rfl
    · exact wpAny_pyNext_ascii_end hh ⟨o, ho, hob⟩ (by simp) fun h' hs' => hQ h' hs'
    · exact wpAny_pyNext_wide_end hh ⟨o, ho, hob⟩ (by simp) fun h' hs' => hQ h' hs'
  self := fun s o Q E ho hob hq => by
    rcases hT with rfl | rfl
    · exact wpAny_pyIter_striter_ascii ⟨o, ho, hob⟩ hq
    · exact wpAny_pyIter_striter_wide ⟨o, ho, hob⟩ hq
  go := fun elts kk pos i v s o Q E ho hob hq => by
    unfold letOwnedTupleGo
    cases v with
    | ref b =>
      refine wpAny_bind (wpAny_load ho ?_)
      rw [hob.1, hob.2]
      rcases hT with rfl | rfl
      · dsimp only
        rw [if_neg (by simp)]
        exact wpAny_pure hq
      · dsimp only
        rw [if_neg (by simp)]
        exact wpAny_pure hq
    | _ => exact wpAny_pure hq
theorem iter_strO {x : Str} {t : Tok} {Q : Value → Shared → Prop} (O : Own P foot g σ s L m led)
    (h : ∀ I T oI s', (T = "str_ascii_iterator" ∨ T = "str_iterator") → oI.cls = .type T ∧ oI.data = .fields #[.str x t, .int 0 0] → Own P foot g σ s' L m ((I, oI) :: led) → Q (.ref I) s') : wpAny (model prog w) A (pyIter (.str x t)) Q E s := by
  cases ha : x.cps.all (· < 128)
  · exact wpAny_pyIter_wide ha (h _ _ _ _ (.inr rfl) ⟨rfl, rfl⟩ (O.push _))
  · exact wpAny_pyIter_ascii ha (h _ _ _ _ (.inl rfl) ⟨rfl, rfl⟩ (O.push _))
theorem iter_rangeO {r : Addr} {a b c : Int} {t u v : Tok} {n : Nat} {Q : Value → Shared → Prop} (O : Own P foot g σ s L m led) (hr : IsRange s.heap r a b c t u v) (hsm : Builtin.Range.small a b c = true) (hn : Builtin.Range.rangeSize a b c = n)
    (h : ∀ I s', Own P foot g σ s' L m ((I, { cls := .type "range_iterator", data := .fields #[rawInt (a + (0 : Nat) * c), rawInt (n - (0 : Nat)), rawInt c] }) :: led) → Q (.ref I) s') : wpAny (model prog w) A (pyIter (.ref r)) Q E s := by
  refine wpAny_pyIter_range hr hsm ?_
  rw [hn]
  have := h _ _ (O.push _)
  rw [show a + ((0 : Nat) : Int) * c = a by simp, show (n : Int) - ((0 : Nat) : Int) = n by simp] at this
  exact this
/-- where such a loop stands: kk turns are left -/
inductive SrcInv (P : Params) (foot : List Addr) (g : Heap) (σ : Shared) (L I : Addr) (n : Nat) (ob : Nat → Obj → Prop) (J : Nat → Heap → (Str → Option Value) → List (Addr × Obj) → Prop) (kk : Nat) (s' : Shared) : Prop where
  | mk (i : Nat) (g₁ : Heap) (m₁ : Str → Option Value) (led₁ : List (Addr × Obj)) (oi : Obj) (hi : i ≤ n) (hkk : kk + i = n + 1) (hob : ob i oi) (up : ∀ b o, g.get? b = some o → g₁.get? b = some o) (O : Own P foot g₁ σ s' L m₁ ((I, oi) :: led₁)) (hJ : J i g₁ m₁ led₁)
/-- a for-loop over one source; the frozen heap may grow; the iterator's object is known -/
theorem forSrcO {x : Str} {px : Pos} {body : List Stmt} {n : Nat} {val : Nat → Value → Prop} {ob : Nat → Obj → Prop} {oI : Obj} {R : Result → Shared → Prop} (S : Src prog w A g I n val ob) (J : Nat → Heap → (Str → Option Value) → List (Addr × Obj) → Prop)
    (O : Own P foot g σ s L m ((I, oI) :: led)) (h0 : ob 0 oI) (hJ : J 0 g m led)
    (step : ∀ i v s₁ g₁ m₁ led₁ oi, i < n → val i v → ob (i + 1) oi → (∀ b o, g.get? b = some o → g₁.get? b = some o) → J i g₁ m₁ led₁ → Own P foot g₁ σ s₁ L (fun y => if y = x then some v else m₁ y) ((I, oi) :: led₁) → ∀ (Q : Flow → Shared → Prop) (E : Value → Shared → Prop),
      (∀ s' g' m' led', (∀ b o, g₁.get? b = some o → g'.get? b = some o) → Own P foot g' σ s' L m' ((I, oi) :: led') → J (i + 1) g' m' led' → Q .next s') → wpAny (model prog w) A (execs body env) Q E s₁)
    (fin : ∀ s' g' m' led', (∀ b o, g.get? b = some o → g'.get? b = some o) → Own P foot g' σ s' L m' led' → J n g' m' led' → R (.ok .next) s')
    (hL : env.locals = L := by rfl) (hk : env.scope.kind = .function := by kernel_rfl) (hl : env.kindOf x = some .local := by kernel_rfl) :
    codeAny (model prog w) A (.forLoop (.Name x px) (.ref I) body [] env) R s := by
  refine codeAny_forLoop (SrcInv P foot g σ L I n ob J) ?_ (n + 1) ⟨0, g, m, led, oI, Nat.zero_le _, rfl, h0, fun _ _ e => e, O, hJ⟩
  rintro kk s' ⟨i, g₁, m₁, led₁, oi, hi, hkk, hob, up, O', hJ'⟩
  by_cases hlt : i < n
  · refine S.next i s' oi _ _ hlt (O'.at 0 rfl) hob (fun b o e => O'.keep b o (up b o e)) fun v h' o' t' hv ho' hob' hs' => ?_
    dsimp only
    have O₁ := O'.extBut2 0 rfl hs' ho' t'
    generalize hs₁ : ({ s' with heap := h', toks := t' } : Shared) = s₁ at O₁ ⊢
    refine wpAny_assign_Name ?_
    refine stO O₁ (fun s₂ O₂ => ?_) hL hk hl
    refine step i v s₂ g₁ m₁ led₁ o' hlt hv hob' up hJ' O₂ _ _ fun s₃ g₃ m₃ led₃ up₃ O₃ hJ₃ => ?_
    exact ⟨kk - 1, kpos ‹_› ‹_›, i + 1, g₃, m₃, led₃, o', hlt, kstep ‹_› ‹_›, hob', fun b o e => up₃ _ _ (up _ _ e), O₃, hJ₃⟩
  · have : i = n := leq ‹_› ‹_›
    refine S.stop s' oi _ _ (O'.at 0 rfl) (this ▸ hob) (fun b o e => O'.keep b o (up b o e)) fun h' hs' => ?_
    dsimp only
    refine wpAny_execs_nil ?_
    exact fin _ g₁ m₁ led₁ up (O'.lose hs') (this ▸ hJ')
/-- a for-loop over one source, whose body never leaves -/
theorem forSrc {x : Str} {px : Pos} {body : List Stmt} {n : Nat} {val : Nat → Value → Prop} {ob : Nat → Obj → Prop} {oI : Obj} {R : Result → Shared → Prop} (S : Src prog w A g I n val ob) (J : Nat → (Str → Option Value) → List (Addr × Obj) → Prop)
    (O : Own P foot g σ s L m ((I, oI) :: led)) (h0 : ob 0 oI) (hJ : J 0 m led)
    (step : ∀ i v s₁ m₁ led₁ oi, i < n → val i v → J i m₁ led₁ → Own P foot g σ s₁ L (fun y => if y = x then some v else m₁ y) ((I, oi) :: led₁) → ∀ (Q : Flow → Shared → Prop) (E : Value → Shared → Prop),
      (∀ s' m' led', Own P foot g σ s' L m' ((I, oi) :: led') → J (i + 1) m' led' → Q .next s') → wpAny (model prog w) A (execs body env) Q E s₁)
    (fin : ∀ s' m' led', Own P foot g σ s' L m' led' → J n m' led' → R (.ok .next) s')
    (hL : env.locals = L := by rfl) (hk : env.scope.kind = .function := by kernel_rfl) (hl : env.kindOf x = some .local := by kernel_rfl) :
    codeAny (model prog w) A (.forLoop (.Name x px) (.ref I) body [] env) R s := by
  refine forSrcO S (fun i g₁ m₁ led₁ => J i m₁ led₁ ∧ g₁ = g) O h0 ⟨hJ, rfl⟩ (fun i v s₁ g₁ m₁ led₁ oi hi hv _ _ hj O₁ Q E k => ?_) (fun s' g' m' led' _ O' hj => ?_) hL hk hl
  · exact step i v s₁ m₁ led₁ oi hi hv hj.1 (hj.2 ▸ O₁) Q E fun s' m' led' O' hJ' => k s' g m' led' (fun b o e => hj.2 ▸ e) O' ⟨hJ', rfl⟩
  · exact fin s' m' led' (hj.2 ▸ O') hj.1
end
end Mine
namespace Mine
def numV (ns : List Int) : Int := (ns.drop 1).foldr (fun b acc => acc * 256 + b) (if 127 < ns.getLastD 0 then -1 else 0)
def valueV (kd : Int) (ns : List Int) : TV := if kd = 0 then .int (ns.headD 0) else if kd = 1 then .str (chars (ns.drop 1)) else if kd = 2 then .bytes (ns.drop 1) else .int (numV ns)
theorem ints_get {vs : List Value} {ns : List Int} {i : Nat} {v : Value} (h : IntsAre vs ns) (e : vs[i]? = some v) : ∃ z t, ns[i]? = some z ∧ v = .int z t :=
  let ⟨n, t, e1, e2⟩ := h.at i v e
  ⟨n, t, e2, e1⟩
theorem strs_of {ys : List Value} : ∀ {zs : List Str}, ys.length = zs.length → (∀ (i : Nat) (y : Value), ys[i]? = some y → ∃ x t, zs[i]? = some x ∧ y = Value.str x t) → StrsAre ys zs := by
  induction ys with
  | nil => intro zs e _; rw [List.length_eq_zero_iff.mp e.symm]; exact .nil
  | cons y ys ih =>
    intro zs e h
    cases zs with
    | nil => cases e
    | cons z zs =>
      obtain ⟨x, t, e1, rfl⟩ := h 0 y rfl
      cases e1
      exact .cons _ _ (ih (Nat.succ.inj e) fun i y' e' => h (i + 1) y' e')
theorem ints_of {ys : List Value} : ∀ {zs : List Int}, ys.length = zs.length → (∀ (i : Nat) (y : Value), ys[i]? = some y → ∃ x t, zs[i]? = some x ∧ y = Value.int x t) → IntsAre ys zs := by
  induction ys with
  | nil => intro zs e _; rw [List.length_eq_zero_iff.mp e.symm]; exact .nil
  | cons y ys ih =>
    intro zs e h
    cases zs with
    | nil => cases e
    | cons z zs =>
      obtain ⟨x, t, e1, rfl⟩ := h 0 y rfl
      cases e1
      exact .cons _ _ (ih (Nat.succ.inj e) fun i y' e' => h (i + 1) y' e')
theorem paired_strs {F : Nat → Value → Prop} {f : Int → Str} {ns : List Int} {ys : List Value} (h : Paired F (List.range ns.length) ys) (hF : ∀ i y, F i y → ∃ z t, ns[i]? = some z ∧ y = .str (f z) t) : StrsAre ys (ns.map f) := by
  obtain ⟨h1, h2⟩ := paired_range h
  refine strs_of (by simpa using h1) fun i y e => ?_
  obtain ⟨z, t, hz, rfl⟩ := hF i y (h2 i y e)
  exact ⟨f z, t, by rw [List.getElem?_map, hz]; rfl, rfl⟩
theorem drop_back {ns : List Int} {i : Nat} {z : Int} (h : i < ns.length) (hz : ns[ns.length - 1 - i]? = some z) : ns.drop (ns.length - (i + 1)) = z :: ns.drop (ns.length - i) := by
  obtain ⟨k, hk⟩ : ∃ k, k = ns.length - 1 - i := ⟨_, rfl⟩
  have h1 : ns.length - (i + 1) = k := by walk_at "om"
  have h2 : ns.length - i = k + 1 := by walk_at "om"
  have h3 : k < ns.length := by walk_at "om"
  rw [← hk, List.getElem?_eq_getElem h3] at hz
  rw [h1, h2, List.drop_eq_getElem_cons h3]
  injection hz with hz
  rw [hz]
theorem chars_join (ns : List Int) : Txt.join "" (ns.map fun z => chars [z]) = chars ns := by
  rw [txt_empty]
  unfold chars
  congr 1
  induction ns with
  | nil => rfl
  | cons a r ih => rw [List.map_cons, List.flatMap_cons, ih]; rfl
theorem chars_sum (ns : List Int) : ((ns.map fun z => chars [z]).map (·.length)).sum = ns.length := by
  induction ns with
  | nil => rfl
  | cons a r ih => rw [List.map_cons, List.map_cons, List.sum_cons, ih, List.length_cons]; show 1 + _ = _; walk_at "om"
section
variable {P : Params} {foot : List Addr} {g : Heap} {σ s : Shared} {L : Addr} {m : Str → Option Value} {led : List (Addr × Obj)}
/-- the first objects of the ledger stay as they are from now on -/
theorem Own.settle (pre : List (Addr × Obj)) (O : Own P foot g σ s L m (pre ++ led)) :
    ∃ g', Own P foot g' σ s L m led ∧ (∀ b o, g.get? b = some o → g'.get? b = some o) ∧ ∀ p ∈ pre, g'.get? p.1 = some p.2 := by
  have nd := O.nd
  rw [List.map_append, List.nodup_append] at nd
  obtain ⟨g', O', k1, k2⟩ := O.freeze (led' := led) (fun p hp => ⟨(O.lg p (List.mem_append_right _ hp)).1, List.mem_map_of_mem (f := fun x : Addr × Obj => x.1) (List.mem_append_right _ hp)⟩) nd.2.1
  refine ⟨g', O', k1, fun p hp => ?_⟩
  have z := O.lg p (List.mem_append_left _ hp)
  refine k2 _ _ z.2.1 (fun hm => nd.2.2 p.1 (List.mem_map_of_mem (f := fun x : Addr × Obj => x.1) hp) p.1 hm rfl) z.1
end
section
variable {prog : Program} {w : World} {A : Around} {E : Value → Shared → Prop} {R : Result → Shared → Prop} {s : Shared} {lo : Addr} {vs : List Value} {ns : List Int} {n : Nat}
theorem back_one {n : Nat} {xs : Array Value} (h : xs.toList.length = n) (hp : 0 < n) : ((xs.size : Int) - 1) = ((n - 1 : Nat) : Int) := by rw [Array.length_toList] at h; walk_at "om"
theorem down_ix {n i : Nat} (h : i < n) : 0 ≤ ((n : Int) + (i : Int) * -1) ∧ ((n : Int) + (i : Int) * -1).toNat = n - i ∧ (n : Int) + (i : Int) * -1 ≤ n := by walk_at "om"
theorem value_loop {m : Str → Option Value} {z0 : Tok} {L : Addr} {g : Heap} {σ : Shared} {E : Value → Shared → Prop} {Q : Flow → Shared → Prop} (O : Own w.params [] g σ s L m []) (hh : A.handled = none) (hl : g.get? lo = some (lstObj vs.toArray n)) (hi : IntsAre vs ns) (hne : ns ≠ []) (hsz : ns.length < 100)
    (hm1 : m "octets" = some (.ref lo)) (hm2 : m "number" = some (.int (if 127 < ns.getLastD 0 then -1 else 0) z0)) (h : ∀ s' t g' m', Own w.params [] g' σ s' L m' [] → Q (.ret (.int (numV ns) t)) s') :
    wpAny (model prog w) (A.deeper (EV w.params 263 L)) (execs ((BD w.params 263).drop 5) (EV w.params 263 L)) Q E s := by
  have hlen := hi.length
  walk_at "nx"
  refine mstN fun N hN => ?_
  refine wpAny_For ?_
  repeat walk_at "st"
  refine ldB (v := .type "range") O ?_
  refine PyProof.Rows.callWith_type1 ?_
  repeat walk_at "st"
  refine ldB (v := .builtin "len") O ?_
  refine callWith_method1 ?_
  repeat walk_at "st"
  refine ldO O (by exact hm1) ?_
  repeat walk_at "st"
  refine lenlO O (O.keep _ _ hl) (by simp; walk_at "om") fun s₁ u₁ O₁ => ?_
  refine intO O₁ fun t₂ s₂ O₂ => ?_
  refine PySem.P.sub_int ?_
  have O₃ := O₂.toks (s₂.toks + 1)
  generalize hs₃ : ({ s₂ with toks := s₂.toks + 1 } : Shared) = s₃ at O₃ ⊢
  have hpos : 0 < ns.length := List.length_pos_iff.mpr hne
  rw [back_one hlen hpos]
  repeat walk_at "st"
  refine intO O₃ fun t₄ s₄ O₄ => ?_
  repeat walk_at "st"
  refine UnaryOp_ ?_
  refine intO O₄ fun t₅ s₅ O₅ => ?_
  refine PySem.P.neg_int ?_
  have O₆ := O₅.toks (s₅.toks + 1)
  generalize hs₆ : ({ s₅ with toks := s₅.toks + 1 } : Shared) = s₆ at O₆ ⊢
  repeat walk_at "st"
  refine call_range_3 (c := -1) (by decide) ?_ (.inl (PyProof.noPylong_small (by decide)))
  have O₇ := O₆.push { cls := .type "range", data := .fields #[.int (ns.length - 1 : Nat) s₂.toks, .int 0 t₄, .int (-1) s₅.toks] }
  have hz100 : ns.length - 1 < 1000000 := by walk_at "om"
  have hsz' := down_size (ns.length - 1)
  have hsm := down_small hz100
  refine iter_rangeO (n := ns.length - 1) O₇ (O₇.at 0 rfl) hsm hsz' fun I s₈ O₈ => ?_
  refine forSrc (srcRange (A := A.deeper (EV w.params 263 L)) hh ((ns.length - 1 : Nat) : Int) (-1) (ns.length - 1)) (fun i m' led' => led' = [(s₆.heap.objs.size, { cls := .type "range", data := .fields #[.int (ns.length - 1 : Nat) s₂.toks, .int 0 t₄, .int (-1) s₅.toks] })] ∧ m' "octets" = some (.ref lo) ∧ ∃ t, m' "number" = some (.int ((ns.drop (ns.length - i)).foldr (fun b acc => acc * 256 + b) (if 127 < ns.getLastD 0 then -1 else 0)) t)) O₈ rfl ⟨rfl, hm1, z0, ?_⟩ ?_ ?_
  · rw [hm2, Nat.sub_zero, List.drop_length]; rfl
  · rintro i v s₁ m₁ led₁ oi hlt ⟨tv, rfl⟩ ⟨rfl, hm₁, tn, hn₁⟩ O₉ Q E' q
    repeat walk_at "st"
    refine ldO O₉ (by rw [if_neg (by decide)]; exact hn₁) ?_
    refine intO O₉ fun t₁₀ s₁₀ O₁₀ => ?_
    refine PySem.P.mul_int ?_ (IntMulOk.of_right (by decide))
    have O₁₁ := O₁₀.toks (s₁₀.toks + 1)
    generalize hs₁₁ : ({ s₁₀ with toks := s₁₀.toks + 1 } : Shared) = s₁₁ at O₁₁ ⊢
    repeat walk_at "st"
    refine ldO O₁₁ (by rw [if_neg (by decide)]; exact hm₁) ?_
    repeat walk_at "st"
    refine ldO O₁₁ (by rw [if_pos (by decide)]) ?_
    have hlv : ns.length - 1 - i < vs.length := Nat.lt_of_le_of_lt (Nat.sub_le _ _) (hlen ▸ Nat.sub_lt (hlen ▸ hpos) Nat.one_pos)
    have hix := down_ix hlt
    obtain ⟨z, tz, hz, hv⟩ := ints_get hi (List.getElem?_eq_getElem hlv)
    refine sub_lst (O₁₁.keep _ _ hl) (v := .int z tz) hix.1 (by have := hix.2.2; walk_at "om") (by
      rw [hix.2.1]
      simp [hlv, hv]) ?_
    refine PySem.P.add_int ?_
    refine stO (O₁₁.toks (s₁₁.toks + 1)) fun s₁₂ O₁₂ => ?_
    repeat walk_at "st"
    refine q _ _ _ O₁₂ ⟨rfl, by rw [if_neg (by decide), if_neg (by decide)]; exact hm₁, s₁₁.toks, ?_⟩
    rw [if_pos (by rfl)]
    show some (Value.int _ _) = some (Value.int _ _)
    have hd := drop_back (by walk_at "om") hz
    simp only [hd, List.foldr_cons]
  · rintro s' m' led' O₉ ⟨rfl, hm₁, tn, hn₁⟩
    dsimp only
    repeat walk_at "st"
    refine ldO O₉ hn₁ ?_
    obtain ⟨g₁₀, O₁₀, up₁₀, -⟩ := O₉.settle [_] (led := [])
    have e : numV ns = (ns.drop (ns.length - (ns.length - 1))).foldr (fun b acc => acc * 256 + b) (if 127 < ns.getLastD 0 then -1 else 0) := by
      unfold numV
      rw [Nat.sub_sub_self hpos]
    rw [← e]
    exact h _ _ _ _ O₁₀
set_option maxHeartbeats 4000000 in
theorem value_ok {kd : Int} {tkd : Tok} (X : (Kn w.params).In s.heap) (hroom : A.depth < recursionLimit) (hh : A.handled = none) (hl : s.heap.get? lo = some (lstObj vs.toArray n)) (hi : IntsAre vs ns) (hr : ∀ n ∈ ns, 0 ≤ n ∧ n < 256) (hne : ns ≠ []) (hsz : ns.length < 100)
    (hk0 : 0 ≤ kd) (hk3 : kd ≤ 3) (h : ∀ s' v, Post [] s s' → (valueV kd ns).val v → R (.ok (.ret v)) s') : codeAny (model prog w) A (.call (.ref 263) ⟨[.int kd tkd, .ref lo], []⟩) R s := by
  have hlen := hi.length
  refine enter 263 [("kind", .int kd tkd), ("octets", .ref lo)] [] X hroom led_nil (by simp) ?_
  intro L s₁ g up O
  refine absQE fun Q E hR => ?_
  have hl₁ : g.get? lo = some (lstObj vs.toArray n) := up _ _ (by simp) hl
  obtain ⟨n0, nr, rfl⟩ := List.exists_cons_of_ne_nil hne
  have hv0 : ∃ t vr, vs = .int n0 t :: vr ∧ IntsAre vr nr := by cases hi with | cons a t h => exact ⟨_, _, rfl, h⟩
  obtain ⟨t0, vr, rfl, hir⟩ := hv0
  have hvr : vr.length = nr.length := hir.length
  simp only [List.length_cons] at hsz
  walk_at "nx"
  refine mstN fun N hN => ?_
  repeat walk_at "st"
  refine wpAny_isTrue_Compare1 ?_
  refine ldO O (by rfl) ?_
  refine intO O fun t₂ s₂ O₂ => ?_
  refine PySem.P.eq_int ?_
  refine wpAny_pure ?_
  by_cases h0 : kd = 0
  · refine ifT (decide_eq_true h0) ?_
    repeat walk_at "st"
    refine ldO O₂ (by rfl) ?_
    refine intO O₂ fun t₃ s₃ O₃ => ?_
    refine sub_lst (O₃.keep _ _ hl₁) (v := .int n0 t0) (by decide) (by decide) (by rfl) ?_
    exact hR _ _ (h _ _ O₃.post (by rw [h0]; exact ⟨_, rfl⟩))
  refine ifF (decide_eq_false h0) ?_
  repeat walk_at "st"
  refine wpAny_isTrue_Compare1 ?_
  refine ldO O₂ (by rfl) ?_
  refine intO O₂ fun t₃ s₃ O₃ => ?_
  refine PySem.P.eq_int ?_
  refine wpAny_pure ?_
  by_cases h1 : kd = 1
  · refine ifT (decide_eq_true h1) ?_
    repeat walk_at "st"
    refine strO (x := "") O₃ fun t₄ s₄ O₄ => ?_
    refine GM.join ?_
    dsimp only
    refine callWith_method1 ?_
    repeat walk_at "st"
    refine compO (cl := []) (P := w.params) (σ := s) (foot := []) (L := L) ?_
    repeat walk_at "st"
    refine ldO O₄ (by rfl) ?_
    repeat walk_at "st"
    refine intO O₄ fun t₅ s₅ O₅ => ?_
    repeat walk_at "st"
    have O₆ := O₅.push { cls := .type "slice", data := .fields #[.int 1 t₅, .none, .none] }
    refine lst_getSliceO (lo := some ((1 : Nat) : Int)) (hi := none) O₆ (O₆.keep _ _ hl₁) ⟨_, O₆.at 0 rfl, rfl, rfl⟩ (.int _ _) .none (by simp; walk_at "om") fun D₀ s₇ hD₀ O₇ => ?_
    rw [slicePick_from'] at O₇
    obtain ⟨g₈, O₈, up₈, hin₈⟩ := O₇.settle [_, _] (led := [])
    have hD : g₈.get? D₀ = some (lstObj vr.toArray 0) := hin₈ _ (.head _)
    refine wpAny_pyIter_list ⟨_, O₈.keep _ _ hD, rfl, _, rfl⟩ ?_
    have O₉ := O₈.push { cls := .type "list_iterator", data := .fields #[.ref D₀, .int 0 0] }
    have hDI : D₀ ≠ s₇.heap.objs.size := Nat.ne_of_lt (Heap.lt_size (O₈.keep _ _ hD))
    refine ⟨g₈, _, _, O₉, fun s₃ Q E hk q => wpAny_pyIter_listiter ⟨_, hk _ _ (O₉.at 0 rfl), rfl, rfl⟩ q, fun C D oL s₃ hDn O₁₀ => ?_⟩
    refine compLoopSrc (p := fun _ => true) (Fp := fun i y => ∃ z t, nr[i]? = some z ∧ y = .str (chars [z]) t) (srcList hD hDI hh) O₁₀ ⟨rfl, rfl⟩ (by walk_at "om") (by kernel_rfl) (by kernel_rfl) (fun i v s₄ mc led₃ hiv O₄ hsub hm hv Q E q => wpAny_tests_nil (q _ O₄)) (fun i v s₄ mc led₃ hiv _ O₄ hsub hm hv Q E q => ?_) fun s₄ mc ys k O₁₁ hP => ?_
    · obtain ⟨z, tz, hz, rfl⟩ := ints_get hir hv
      repeat walk_at "st"
      refine ldB (v := .builtin "chr") O₄ ?_
      refine callWith_method1 ?_
      repeat walk_at "st"
      refine ldO O₄ hm ?_
      repeat walk_at "st"
      have hb := hr z (List.mem_cons_of_mem _ (List.mem_of_getElem? hz))
      refine PySem.P.chr_of_int ?_ ?_
      · simp only [Bool.or_eq_false_iff, decide_eq_false_iff_not]
        exact ⟨by walk_at "om", by walk_at "om"⟩
      · exact q _ _ (O₄.toks _) ⟨z, s₄.toks, hz, rfl⟩
    · have hS : StrsAre ys.toList (nr.map fun z => chars [z]) := by
        rw [filter_true, hvr] at hP
        exact paired_strs hP fun i y hy => hy
      refine ⟨_, mc, _, O₁₁, fun s₅ O₁₂ => ?_⟩
      repeat walk_at "st"
      refine join_list ⟨_, O₁₂.at 0 rfl, rfl, _, rfl⟩ hS ?_ fun t' k' => ?_
      · rw [chars_sum, List.length_map]
        show nr.length + nr.length * 0 ≤ _
        walk_at "om"
      · rw [chars_join]
        exact hR _ _ (h _ _ (O₁₂.toks k').post (by rw [h1]; exact ⟨_, rfl⟩))
  refine ifF (decide_eq_false h1) ?_
  repeat walk_at "st"
  refine wpAny_isTrue_Compare1 ?_
  refine ldO O₃ (by rfl) ?_
  refine intO O₃ fun t₄ s₄ O₄ => ?_
  refine PySem.P.eq_int ?_
  refine wpAny_pure ?_
  by_cases h2 : kd = 2
  · refine ifT (decide_eq_true h2) ?_
    repeat walk_at "st"
    refine ldB (v := .type "bytes") O₄ ?_
    refine PyProof.Rows.callWith_type1 ?_
    repeat walk_at "st"
    refine ldO O₄ (by rfl) ?_
    repeat walk_at "st"
    refine intO O₄ fun t₅ s₅ O₅ => ?_
    repeat walk_at "st"
    have O₆ := O₅.push { cls := .type "slice", data := .fields #[.int 1 t₅, .none, .none] }
    refine lst_getSliceO (lo := some ((1 : Nat) : Int)) (hi := none) O₆ (O₆.keep _ _ hl₁) ⟨_, O₆.at 0 rfl, rfl, rfl⟩ (.int _ _) .none (by simp; walk_at "om") fun D₀ s₇ hD₀ O₇ => ?_
    rw [slicePick_from'] at O₇
    repeat walk_at "st"
    refine call_bytes_ints (l := D₀) (vs := vr) (ns := nr) ⟨_, O₇.at 0 rfl, rfl, _, rfl⟩ hir (fun n hn => hr n (List.mem_cons_of_mem _ hn)) (by rw [sizeLine_eq]; walk_at "om") hh fun h' t k hk => ?_
    exact hR _ _ (h _ _ (O₇.more hk k).post (by rw [h2]; exact ⟨_, rfl⟩))
  have hkd : kd = 3 := by rcases four hk0 hk3 with h | h | h | h <;> first | exact h | exact absurd h ‹_›
  refine ifF (decide_eq_false h2) ?_
  repeat walk_at "st"
  refine intO O₄ fun t₅ s₅ O₅ => ?_
  refine stO O₅ fun s₆ O₆ => ?_
  walk_at "nx"
  refine mstN fun N hN => ?_
  repeat walk_at "st"
  refine wpAny_isTrue_Compare1 ?_
  repeat walk_at "st"
  refine ldO O₆ (by rfl) ?_
  refine UnaryOp_ ?_
  refine intO O₆ fun t₇ s₇ O₇ => ?_
  refine PySem.P.neg_int ?_
  have O₈ := O₇.toks (s₇.toks + 1)
  generalize hs₈ : ({ s₇ with toks := s₇.toks + 1 } : Shared) = s₈ at O₈ ⊢
  obtain ⟨zl, tl, hzl, hvl⟩ : ∃ z t, (n0 :: nr)[(n0 :: nr).length - 1]? = some z ∧ (Value.int n0 t0 :: vr)[(Value.int n0 t0 :: vr).length - 1]? = some (.int z t) := by
    obtain ⟨z, t, e1, e2⟩ := ints_get (i := (Value.int n0 t0 :: vr).length - 1) hi (List.getElem?_eq_getElem (by simp))
    exact ⟨z, t, by rw [← hlen]; exact e1, by rw [← e2]; exact List.getElem?_eq_getElem (by simp)⟩
  refine sub_lst_last (O₈.keep _ _ hl₁) (v := .int zl tl) (by simp) (by simpa using hvl) ?_
  refine intO O₈ fun t₉ s₉ O₉ => ?_
  refine PySem.P.gt_int ?_
  refine wpAny_pure ?_
  have hlast : (n0 :: nr).getLastD 0 = zl := by
    rw [List.getLastD_eq_getLast?, List.getLast?_eq_getElem?, hzl]; rfl
  have fin : ∀ {s' : Shared} {m' : Str → Option Value} {tz : Tok}, Own w.params [] g s s' L m' [] → m' "octets" = some (.ref lo) → m' "number" = some (.int (if 127 < (n0 :: nr).getLastD 0 then -1 else 0) tz) →
      wpAny (model prog w) (A.deeper (EV w.params 263 L)) (execs ((BD w.params 263).drop 5) (EV w.params 263 L)) Q E s' := by
    intro s' m' tz O' hm1 hm2
    exact value_loop (m := m') O' hh hl₁ hi (by simp) (by simp; walk_at "om") hm1 hm2 fun s'' t'' g'' m'' O'' => hR _ _ (h _ _ O''.post (by rw [hkd]; exact ⟨_, rfl⟩))
  by_cases hgt : 127 < zl
  · refine ifT (decide_eq_true hgt) ?_
    repeat walk_at "st"
    refine UnaryOp_ ?_
    refine intO O₉ fun t₁₀ s₁₀ O₁₀ => ?_
    refine PySem.P.neg_int ?_
    refine stO (O₁₀.toks (s₁₀.toks + 1)) fun s₁₁ O₁₁ => ?_
    walk_at "nx"
    exact fin (m' := _) O₁₁ (by rfl) (by rw [hlast, if_pos hgt]; rfl)
  · refine ifF (decide_eq_false hgt) ?_
    walk_at "nx"
    exact fin (m' := _) O₉ (by rfl) (by rw [hlast, if_neg hgt]; rfl)
end
end Mine
namespace Mine
open PySem.SeqAt
section
variable {prog : Program} {w : World} {A : Around} {E : Value → Shared → Prop} {s : Shared}
theorem EqAt_bytes {b c : Array UInt8} {t u : Tok} (h : b = c) : EqAt A s (.bytes b t) (.bytes c u) true := fun prog w E Q hq => by
  subst h
  exact eqBool_bytes (by simpa using hq)
theorem EqAt_strs {x y : Str} {t u : Tok} (h : x = y) : EqAt A s (.str x t) (.str y u) true := by
  subst h
  have := EqAt.str_str (A := A) (s := s) x t x u
  simpa using this
theorem EqAt_ints {x y : Int} {t u : Tok} (h : x = y) : EqAt A s (.int x t) (.int y u) true := by
  subst h
  have := EqAt.int_int (A := A) (s := s) x t x u
  simpa using this
theorem EqAt_tv {tv : TV} {v v' : Value} (h : tv.val v) (h' : tv.val v') : EqAt A s v v' true := by
  cases tv with
  | int z => obtain ⟨t, rfl⟩ := h; obtain ⟨t', rfl⟩ := h'; exact EqAt_ints rfl
  | str z => obtain ⟨t, rfl⟩ := h; obtain ⟨t', rfl⟩ := h'; exact EqAt_strs rfl
  | bytes z => obtain ⟨t, rfl⟩ := h; obtain ⟨t', rfl⟩ := h'; exact EqAt_bytes rfl
theorem all_true (n : Nat) : (List.range n).all (fun _ => true) = true := by simp
theorem EqAt_lists {l b : Addr} {xs ys : Array Value} {n k : Nat} (hne : l ≠ b) (hl : s.heap.get? l = some (lstObj xs n)) (hb : s.heap.get? b = some (lstObj ys k)) (hsz : xs.size = ys.size) (hu : A.units < cLine)
    (he : ∀ j (h1 : j < xs.size) (h2 : j < ys.size), EqAt A.in1 s xs[j] ys[j] true) : EqAt A s (.ref l) (.ref b) true := by
  have := RcAt.lists (A := A) (s := s) (e := fun _ => true) ⟨_, hl, rfl, _, rfl⟩ ⟨_, hb, rfl, _, rfl⟩ hsz hu he
  rw [all_true] at this
  exact EqAt.of_refs hne this
theorem ne_lists {l b : Addr} {xs ys : Array Value} {n k : Nat} {Q : Value → Shared → Prop} (hl : s.heap.get? l = some (lstObj xs n)) (hb : s.heap.get? b = some (lstObj ys k)) (hsz : xs.size = ys.size) (hu : A.units < cLine)
    (he : ∀ j (h1 : j < xs.size) (h2 : j < ys.size), EqAt A.in1 s xs[j] ys[j] true) (h : Q (.bool false) s) : wpAny (model prog w) A (compareOp .NotEq (.ref l) (.ref b)) Q E s := by
  have := RcNeAt.lists (A := A) (s := s) (e := fun _ => true) ⟨_, hl, rfl, _, rfl⟩ ⟨_, hb, rfl, _, rfl⟩ hsz hu he
  rw [all_true] at this
  exact this prog w E Q h
theorem eq_empty {l b : Addr} {xs : Array Value} {n k : Nat} {Q : Value → Shared → Prop} (hl : s.heap.get? l = some (lstObj xs n)) (hb : s.heap.get? b = some (lstObj #[] k)) (hu : A.units < cLine)
    (h : Q (.bool (decide (xs.size = 0))) s) : wpAny (model prog w) A (compareOp .Eq (.ref l) (.ref b)) Q E s := by
  by_cases h0 : xs.size = 0
  · refine eq_listAt (e := fun _ => true) ⟨_, hl, rfl, _, rfl⟩ ⟨_, hb, rfl, _, rfl⟩ (by simpa using h0) hu (fun j h1 h2 => absurd h2 (by simp)) ?_
    rw [all_true]
    simpa [h0] using h
  · refine eq_list_lengthsAt ⟨_, hl, rfl, _, rfl⟩ ⟨_, hb, rfl, _, rfl⟩ (by simpa using h0) hu ?_
    simpa [h0] using h
end
end Mine
namespace Mine
def rowsStep (head width : Int) (st : List Str × Int) (wd : Str) : List Str × Int :=
  if st.1 = [] ∧ (head = 0 ∨ head + wd.length ≤ width) then ([wd], head + wd.length)
  else if st.2 + 1 + wd.length ≤ width then (st.1.dropLast ++ [st.1.getLastD "" ++ (" " ++ wd)], st.2 + (1 + wd.length))
  else ((if st.1 = [] then ([""] : List Str) else st.1) ++ [" " ++ wd], 1 + wd.length)
structure RowsI (head : Int) (i : Nat) (st : List Str × Int) : Prop where
  len : st.1.length ≤ 2 * i
  row : ∀ r ∈ st.1, r.length ≤ 8 * i
  emp : st.1 = [] → st.2 = head
theorem rowsI_step {head width : Int} {i : Nat} {st : List Str × Int} {wd : Str} (I : RowsI head i st) (hw : wd.length ≤ 4) (hne : ¬ (st.1 = [] ∧ (head = 0 ∨ head + wd.length ≤ width)) → st.2 + 1 + wd.length ≤ width → st.1 ≠ []) : RowsI head (i + 1) (rowsStep head width st wd) := by
  have hb : ((" " : Str) ++ wd).length = 1 + wd.length := by rw [Str.length_append]; rfl
  unfold rowsStep
  split
  · refine ⟨by simp; walk_at "om", fun r hr => ?_, fun h => absurd h (by simp)⟩
    have : r = wd := by simpa using hr
    subst this; walk_at "om"
  · split
    · rename_i h1 h2
      have hn := hne h1 h2
      have hlen : 0 < st.1.length := List.length_pos_iff.mpr hn
      refine ⟨?_, fun r hr => ?_, fun h => absurd h (by simp)⟩
      · have := I.len
        simp only [List.length_append, List.length_dropLast, List.length_singleton]; walk_at "om"
      · rcases List.mem_append.mp hr with hr | hr
        · have := I.row r ((List.dropLast_sublist _).subset hr); walk_at "om"
        · have e : r = st.1.getLastD "" ++ (" " ++ wd) := by simpa using hr
          have h3 : (st.1.getLastD "").length ≤ 8 * i := by
            rw [List.getLastD_eq_getLast?, List.getLast?_eq_some_getLast hn]
            exact I.row _ (List.getLast_mem hn)
          rw [e, Str.length_append, hb]; walk_at "om"
    · refine ⟨?_, fun r hr => ?_, fun h => absurd h (by simp)⟩
      · have := I.len
        simp only [List.length_append, List.length_singleton]
        split <;> simp <;> walk_at "om"
      · rcases List.mem_append.mp hr with hr | hr
        · split at hr
          · have : r = "" := by simpa using hr
            subst this
            show 0 ≤ _
            walk_at "om"
          · have := I.row r hr; walk_at "om"
        · have e : r = " " ++ wd := by simpa using hr
          rw [e, hb]; walk_at "om"
section
variable {prog : Program} {w : World} {A : Around} {E : Value → Shared → Prop} {R : Result → Shared → Prop} {s : Shared} {lw : Addr} {vs : List Value} {ws : List Str} {n : Nat}
theorem lst_appendM {P : Params} {foot : List Addr} {g : Heap} {σ : Shared} {L l : Addr} {m : Str → Option Value} {led : List (Addr × Obj)} {xs : Array Value} {k : Nat} {pl : Sem Bool} {Q : Value × List Value → Shared → Prop} (O : Own P foot g σ s L m led) (i : Nat) (hi : led[i]? = some (l, lstObj xs k)) (h : Q (.builtin "list.append", [.ref l]) s) : wpAny (model prog w) A (getMethod (.ref l) "append" pl) Q E s :=
  getMethod_builtin ⟨_, O.at i hi, rfl⟩ PySem.F.plainAttrs_list slot_list_append PySem.F.type_list_append (fun a e => by cases e; exact ⟨_, O.at i hi, rfl⟩) h
theorem strs_unsnoc {vs : List Value} {ws : List Str} (h : StrsAre vs ws) (hn : ws ≠ []) : ∃ vi wi wl t, vs = vi ++ [.str wl t] ∧ ws = wi ++ [wl] ∧ StrsAre vi wi := by
  obtain ⟨wi, wl, e⟩ : ∃ wi wl, ws = wi ++ [wl] := ⟨_, _, (List.dropLast_concat_getLast hn).symm⟩
  subst e
  have h1 := h.drop' wi.length
  have h2 := h.take' wi.length
  rw [List.drop_left' rfl] at h1
  rw [List.take_left' rfl] at h2
  obtain ⟨t, vl, e1, e2⟩ := h1.cons_inv
  rw [e2.nil_inv] at e1
  exact ⟨_, wi, wl, t, by rw [← e1, List.take_append_drop], rfl, h2⟩
theorem set_last (vi : List Value) (x v : Value) : (vi ++ [x]).toArray.setIfInBounds (((-1 : Int) + ((vi ++ [x]).toArray.size : Int)).toNat) v = (vi ++ [v]).toArray := by
  have e : (((-1 : Int) + ((vi ++ [x]).toArray.size : Int)).toNat) = vi.length := by simp; exact last_ix1
  rw [e]
  apply Array.toList_inj.mp
  simp [Array.toList_setIfInBounds]
noncomputable def rowsTail (P : Params) : List Stmt := match (BD P 277).drop 2 with
  | .For _ _ (.If _ _ (.If _ _ r _ :: _) _ :: _) _ _ :: _ => r.drop 1
  | _ => []
/-- what the loop keeps -/
inductive RowJ (lr lw : Addr) (ws : List Str) (head width : Int) (th tw : Tok) (i : Nat) (m' : Str → Option Value) (led' : List (Addr × Obj)) : Prop where
  | mk (vs' : List Value) (k : Nat) (st : List Str × Int) (tz : Tok) (e : led' = [(lr, lstObj vs'.toArray k)]) (hS : StrsAre vs' st.1) (hst : st = (ws.take i).foldl (rowsStep head width) ([], head)) (hI : RowsI head i st)
    (hm1 : m' "rows" = some (.ref lr)) (hm2 : m' "size" = some (.int st.2 tz)) (hm3 : m' "words" = some (.ref lw)) (hm4 : m' "head" = some (.int head th)) (hm5 : m' "width" = some (.int width tw))
set_option maxHeartbeats 4000000 in
theorem rows_ok {head width : Int} {th tw : Tok} (X : (Kn w.params).In s.heap) (hroom : A.depth < recursionLimit) (hu : A.units + 40 < cLine) (hh : A.handled = none) (hl : s.heap.get? lw = some (lstObj vs.toArray n)) (hi : StrsAre vs ws) (hw : ∀ x ∈ ws, x.length ≤ 4) (hsz : ws.length < 500)
    (hhd : 0 ≤ head ∧ head < 1000) (hwd : 0 ≤ width ∧ width < 1000)
    (h : ∀ s' r k vs', Post [] s s' → s.heap.get? r = none → s'.heap.get? r = some (lstObj vs'.toArray k) → StrsAre vs' (ws.foldl (rowsStep head width) ([], head)).1 → R (.ok (.ret (.ref r))) s') :
    codeAny (model prog w) A (.call (.ref 277) ⟨[.ref lw, .int head th, .int width tw], []⟩) R s := by
  have hlen := strs_len hi
  refine enter 277 [("words", .ref lw), ("head", .int head th), ("width", .int width tw)] [] X hroom led_nil (by simp) ?_
  intro L s₁ g up O
  refine absQE fun Q E hR => ?_
  have hl₁ : g.get? lw = some (lstObj vs.toArray n) := up _ _ (by simp) hl
  walk_at "nx"
  refine mstN fun N hN => ?_
  repeat walk_at "st"
  refine lstO O fun lr s₂ hlr O₂ => ?_
  refine stO O₂ fun s₃ O₃ => ?_
  repeat walk_at "st"
  refine ldO O₃ (by rfl) ?_
  refine stO O₃ fun s₄ O₄ => ?_
  walk_at "nx"
  refine mstN fun N hN => ?_
  refine wpAny_For ?_
  refine ldO O₄ (by rfl) ?_
  refine wpAny_pyIter_list ⟨_, O₄.keep _ _ hl₁, rfl, _, rfl⟩ ?_
  have O₅ := O₄.push { cls := .type "list_iterator", data := .fields #[.ref lw, .int 0 0] }
  have hlI : lw ≠ s₄.heap.objs.size := Nat.ne_of_lt (Heap.lt_size (O₄.keep _ _ hl₁))
  have hcl : StrsAre vs ws := hi
  refine forSrc (srcList (A := A.deeper (EV w.params 277 L)) hl₁ hlI hh) (RowJ lr lw ws head width th tw) O₅ ⟨rfl, rfl⟩ ⟨[], 0, ([], head), th, rfl, .nil, rfl, ⟨by simp, by simp, fun _ => rfl⟩, rfl, rfl, rfl, rfl, rfl⟩ ?_ ?_
  · rintro i v s₁ m₁ led₁ oi hlt hv ⟨vs', k, st, tz, rfl, hS, hst, hI, hm1, hm2, hm3, hm4, hm5⟩ O₆ Q E' q
    obtain ⟨wd, twd, hwd', rfl⟩ : ∃ wd t, ws[i]? = some wd ∧ v = .str wd t := by
      obtain ⟨t, e⟩ := strs_get hi (List.getElem?_eq_getElem (show i < ws.length by walk_at "om"))
      rw [hv] at e
      exact ⟨_, t, List.getElem?_eq_getElem (by walk_at "om"), Option.some.inj e⟩
    have hwl : wd.length ≤ 4 := hw wd (List.mem_of_getElem? hwd')
    have hst' : (ws.take (i + 1)).foldl (rowsStep head width) ([], head) = rowsStep head width st wd := by
      rw [List.take_succ, hwd', hst, List.foldl_append]; rfl
    walk_at "nx"
    refine mstN fun N hN => ?_
    refine wpAny_If (wpAny_mono (Q := fun b s₂ => b = decide (st.1 = [] ∧ (head = 0 ∨ head + wd.length ≤ width)) ∧ Own w.params (([] : List (Addr × Obj)).map fun x => x.1) g s s₂ L (fun y => if y = "word" then some (Value.str wd twd) else m₁ y) [(s₄.heap.objs.size, oi), (lr, lstObj vs'.toArray k)]) (E := E') ?_ (fun b s₂ hb => ?_) fun _ _ x => x)
    · refine isTrue_and ?_
      refine wpAny_isTrue_Compare1 ?_
      refine ldO O₆ (by exact hm1) ?_
      repeat walk_at "st"
      refine lstO O₆ fun em s₇ hem O₇ => ?_
      refine eq_empty (O₇.at 2 rfl) (O₇.at 0 rfl) (by show A.units + 3 < cLine; exact dl hu (by decide)) ?_
      refine wpAny_pure ?_
      have hemp : vs'.toArray.size = 0 ↔ st.1 = [] := by
        have := strs_len hS
        rw [List.size_toArray, this]
        exact List.length_eq_zero_iff
      have O₈ := O₇.tail rfl
      by_cases h0 : st.1 = []
      · refine ifT (by simpa using hemp.mpr h0) ?_
        refine isTrue_and ?_
        refine isTrue_or ?_
        refine wpAny_isTrue_Compare1 ?_
        refine ldO O₈ (by exact hm4) ?_
        refine intO O₈ fun t₉ s₉ O₉ => ?_
        refine PySem.P.eq_int ?_
        refine wpAny_pure ?_
        by_cases hz : head = 0
        · exact ifT (by simpa using hz) (ifT (by rfl) (isTrue_and_nil ⟨by simp [h0, hz], O₉⟩))
        · refine ifF (by simpa using hz) ?_
          refine isTrue_or ?_
          refine wpAny_isTrue_Compare1 ?_
          repeat walk_at "st"
          refine ldO O₉ (by exact hm4) ?_
          repeat walk_at "st"
          refine ldB (v := .builtin "len") O₉ ?_
          refine callWith_method1 ?_
          repeat walk_at "st"
          refine ldO O₉ (by rfl) ?_
          repeat walk_at "st"
          refine lensO O₉ (by walk_at "om") fun s₁₀ u₁₀ O₁₀ => ?_
          refine addO O₁₀ fun s₁₁ u₁₁ O₁₁ => ?_
          refine ldO O₁₁ (by exact hm5) ?_
          refine PySem.P.le_int ?_
          refine wpAny_pure ?_
          by_cases hle : head + wd.length ≤ width
          · exact ifT (by simpa using hle) (ifT (by rfl) (isTrue_and_nil ⟨by simp [h0, hle], O₁₁⟩))
          · refine ifF (by simpa using hle) (isTrue_or_nil (ifF (by rfl) ?_))
            exact ⟨by simp [hle, hz], O₁₁⟩
      · exact ifF (by simpa using fun q => h0 (hemp.mp q)) ⟨by simp [h0], O₈⟩
    · obtain ⟨rfl, O₇⟩ := hb
      by_cases hc : st.1 = [] ∧ (head = 0 ∨ head + wd.length ≤ width)
      · refine ifT (decide_eq_true hc) ?_
        have hstep : rowsStep head width st wd = ([wd], head + wd.length) := by unfold rowsStep; rw [if_pos hc]
        repeat walk_at "st"
        refine ldO O₇ (by exact hm1) ?_
        refine lst_appendM O₇ 1 rfl ?_
        dsimp only
        refine callWith_method1 ?_
        repeat walk_at "st"
        refine ldO O₇ (by rfl) ?_
        repeat walk_at "st"
        have hvs : vs'.toArray.size ≤ 2 * i := by
          have := strs_len hS
          have := hI.len
          rw [List.size_toArray]; walk_at "om"
        refine list_appendO O₇ 1 rfl (by walk_at "om") fun s₈ k₈ O₈ => ?_
        dsimp only
        repeat walk_at "st"
        refine ldO O₈ (by exact hm4) ?_
        repeat walk_at "st"
        refine ldB (v := .builtin "len") O₈ ?_
        refine callWith_method1 ?_
        repeat walk_at "st"
        refine ldO O₈ (by rfl) ?_
        repeat walk_at "st"
        refine lensO O₈ (by walk_at "om") fun s₉ u₉ O₉ => ?_
        refine PySem.P.add_int ?_
        refine stO (O₉.toks (s₉.toks + 1)) fun s₁₀ O₁₀ => ?_
        repeat walk_at "st"
        refine q _ _ _ O₁₀ ⟨[.str wd twd], k₈, rowsStep head width st wd, s₉.toks, ?_, ?_, hst'.symm, rowsI_step hI hwl (fun h => absurd hc h), hm1, ?_, hm3, hm4, hm5⟩
        · have : vs' = [] := by
            have e1 := strs_len hS
            rw [hc.1] at e1
            exact List.length_eq_zero_iff.mp e1
          subst this; rfl
        · rw [hstep]; exact .cons _ _ .nil
        · rw [hstep]; rfl
      · refine ifF (decide_eq_false hc) ?_
        walk_at "nx"
        refine mstN fun N hN => ?_
        refine wpAny_If (wpAny_mono (Q := fun b s₂ => b = decide (st.2 + 1 + wd.length ≤ width) ∧ Own w.params (([] : List (Addr × Obj)).map fun x => x.1) g s s₂ L (fun y => if y = "word" then some (Value.str wd twd) else m₁ y) [(s₄.heap.objs.size, oi), (lr, lstObj vs'.toArray k)]) (E := E') ?_ (fun b s₂ hb => ?_) fun _ _ x => x)
        · refine wpAny_isTrue_Compare1 ?_
          repeat walk_at "st"
          refine ldO O₇ (by exact hm2) ?_
          refine intO O₇ fun t₈ s₈ O₈ => ?_
          refine addO O₈ fun s₉ u₉ O₉ => ?_
          repeat walk_at "st"
          refine ldB (v := .builtin "len") O₉ ?_
          refine callWith_method1 ?_
          repeat walk_at "st"
          refine ldO O₉ (by rfl) ?_
          repeat walk_at "st"
          refine lensO O₉ (by walk_at "om") fun s₁₀ u₁₀ O₁₀ => ?_
          refine addO O₁₀ fun s₁₁ u₁₁ O₁₁ => ?_
          refine ldO O₁₁ (by exact hm5) ?_
          refine PySem.P.le_int ?_
          exact wpAny_pure ⟨rfl, O₁₁⟩
        · obtain ⟨rfl, O₈⟩ := hb
          by_cases hc2 : st.2 + 1 + wd.length ≤ width
          · refine ifT (decide_eq_true hc2) ?_
            have hn : st.1 ≠ [] := fun hn => by
              have e1 := hI.emp hn
              refine hc ⟨hn, .inr ?_⟩
              walk_at "om"
            have hstep : rowsStep head width st wd = (st.1.dropLast ++ [st.1.getLastD "" ++ (" " ++ wd)], st.2 + (1 + wd.length)) := by unfold rowsStep; rw [if_neg hc, if_pos hc2]
            obtain ⟨vi, wi, wl, tl, rfl, ews, hS'⟩ := strs_unsnoc hS hn
            have hwll : wl.length ≤ 8 * i := hI.row wl (by rw [ews]; simp)
            walk_at "nx"
            refine mstN fun N hN => ?_
            refine wpAny_AugAssign_Subscript_any ?_
            refine ldO O₈ (by exact hm1) ?_
            refine UnaryOp_ ?_
            refine intO O₈ fun t₉ s₉ O₉ => ?_
            refine PySem.P.neg_int ?_
            have O₁₀ := O₉.toks (s₉.toks + 1)
            generalize hs₁₀ : ({ s₉ with toks := s₉.toks + 1 } : Shared) = s₁₀ at O₁₀ ⊢
            refine wpAny_getItem_list_neg (items := (vi ++ [Value.str wl tl]).toArray) (x := .str wl tl) ⟨_, O₁₀.at 1 rfl, rfl, _, rfl⟩ (by decide) (by simp; walk_at "om") (by decide) (by
              rw [show ((-1 : Int) + ((vi ++ [Value.str wl tl]).toArray.size : Int)).toNat = vi.length by simp; walk_at "om"]
              simp) ?_
            repeat walk_at "st"
            refine strO (x := " ") O₁₀ fun t₁₁ s₁₁ O₁₁ => ?_
            refine ldO O₁₁ (by rfl) ?_
            refine PyProof.Rows.add_str (fun t' tk => ?_) (by show 1 + wd.length ≤ sizeLine; simp only [sizeLine]; walk_at "om")
            have O₁₂ := O₁₁.toks tk
            generalize hs₁₂ : ({ s₁₁ with toks := tk } : Shared) = s₁₂ at O₁₂ ⊢
            refine PyProof.Rows.iadd_str (fun t'' tk' => ?_) (by rw [Str.length_append]; show wl.length + (1 + wd.length) ≤ sizeLine; simp only [sizeLine]; walk_at "om")
            have O₁₃ := O₁₂.toks tk'
            generalize hs₁₃ : ({ s₁₂ with toks := tk' } : Shared) = s₁₃ at O₁₃ ⊢
            refine ki_setBack (O₁₃.at 1 rfl) (by decide) (by simp; walk_at "om") (by decide) ?_
            have O₁₄ := O₁₃.update 1 (f := Obj.mapSeq (·.setIfInBounds (((-1 : Int) + ((vi ++ [Value.str wl tl]).toArray.size : Int)).toNat) (.str (wl ++ (" " ++ wd)) t''))) rfl
            generalize hs₁₄ : ({ s₁₃ with heap := s₁₃.heap.update lr (Obj.mapSeq (·.setIfInBounds (((-1 : Int) + ((vi ++ [Value.str wl tl]).toArray.size : Int)).toNat) (.str (wl ++ (" " ++ wd)) t''))) } : Shared) = s₁₄ at O₁₄ ⊢
            obtain ⟨k', O₁₅⟩ : ∃ k', Own w.params (([] : List (Addr × Obj)).map fun x => x.1) g s s₁₄ L (fun y => if y = "word" then some (Value.str wd twd) else m₁ y) [(s₄.heap.objs.size, oi), (lr, lstObj (vi ++ [Value.str (wl ++ (" " ++ wd)) t'']).toArray k')] := ⟨_, by rw [← set_last vi (.str wl tl)]; exact O₁₄⟩
            walk_at "nx"
            refine mstN fun N hN => ?_
            refine wpAny_AugAssign_Name ?_
            refine ldnO O₁₅ (by exact hm2) ?_
            repeat walk_at "st"
            refine intO O₁₅ fun t₁₆ s₁₆ O₁₆ => ?_
            repeat walk_at "st"
            refine ldB (v := .builtin "len") O₁₆ ?_
            refine callWith_method1 ?_
            repeat walk_at "st"
            refine ldO O₁₆ (by rfl) ?_
            repeat walk_at "st"
            refine lensO O₁₆ (by walk_at "om") fun s₁₇ u₁₇ O₁₇ => ?_
            refine addO O₁₇ fun s₁₈ u₁₈ O₁₈ => ?_
            refine PySem.P.iadd_int ?_
            refine stO (O₁₈.toks (s₁₈.toks + 1)) fun s₁₉ O₁₉ => ?_
            repeat walk_at "st"
            refine q _ _ _ O₁₉ ⟨vi ++ [.str (wl ++ (" " ++ wd)) t''], k', rowsStep head width st wd, s₁₈.toks, rfl, ?_, hst'.symm, rowsI_step hI hwl (fun _ _ => hn), hm1, ?_, hm3, hm4, hm5⟩
            · rw [hstep, ews]
              simp only [List.dropLast_concat, List.getLastD_concat]
              exact Mine.strs_snoc _ _ hS'
            · rw [hstep]; rfl
          · refine ifF (decide_eq_false hc2) ?_
            have hstep : rowsStep head width st wd = ((if st.1 = [] then ([""] : List Str) else st.1) ++ [" " ++ wd], (1 + wd.length : Int)) := by unfold rowsStep; rw [if_neg hc, if_neg hc2]
            have hvs : vs'.length ≤ 2 * i := by
              have := strs_len hS
              have := hI.len
              walk_at "om"
            have hemp : vs'.toArray.size = 0 ↔ st.1 = [] := by
              have := strs_len hS
              rw [List.size_toArray, this]
              exact List.length_eq_zero_iff
            walk_at "nx"
            refine mstN fun N hN => ?_
            refine wpAny_If (wpAny_mono (Q := fun b s₂ => b = decide (st.1 = []) ∧ Own w.params (([] : List (Addr × Obj)).map fun x => x.1) g s s₂ L (fun y => if y = "word" then some (Value.str wd twd) else m₁ y) [(s₄.heap.objs.size, oi), (lr, lstObj vs'.toArray k)]) (E := E') ?_ (fun b s₂ hb => ?_) fun _ _ x => x)
            · refine wpAny_isTrue_Compare1 ?_
              refine ldO O₈ (by exact hm1) ?_
              repeat walk_at "st"
              refine lstO O₈ fun em s₉ hem O₉ => ?_
              refine eq_empty (O₉.at 2 rfl) (O₉.at 0 rfl) (by show A.units + 3 < cLine; exact dl hu (by decide)) ?_
              refine wpAny_pure ?_
              exact ⟨decide_eq_decide.mpr hemp, O₉.tail rfl⟩
            obtain ⟨rfl, O₉⟩ := hb
            have fin : ∀ {s₅ : Shared} {vs₅ : List Value} {k₅ : Nat} {Q₅ : Flow → Shared → Prop}, Own w.params (([] : List (Addr × Obj)).map fun x => x.1) g s s₅ L (fun y => if y = "word" then some (Value.str wd twd) else m₁ y) [(s₄.heap.objs.size, oi), (lr, lstObj vs₅.toArray k₅)] → StrsAre vs₅ (if st.1 = [] then ([""] : List Str) else st.1) → vs₅.length < 50000 → (∀ s', Q .next s' → Q₅ .next s') →
                wpAny (model prog w) (A.deeper (EV w.params 277 L)) (execs (rowsTail w.params) (EV w.params 277 L)) Q₅ E' s₅ := by
              intro s₅ vs₅ k₅ Q₅ O₅ hS₅ hl₅ hq
              walk_at "nx"
              refine mstN fun N hN => ?_
              repeat walk_at "st"
              refine ldO O₅ (by exact hm1) ?_
              refine lst_appendM O₅ 1 rfl ?_
              dsimp only
              refine callWith_method1 ?_
              repeat walk_at "st"
              refine strO (x := " ") O₅ fun t₁₁ s₁₁ O₁₁ => ?_
              refine ldO O₁₁ (by rfl) ?_
              refine PyProof.Rows.add_str (fun t' tk => ?_) (by show 1 + wd.length ≤ sizeLine; simp only [sizeLine]; walk_at "om")
              have O₁₂ := O₁₁.toks tk
              generalize hs₁₂ : ({ s₁₁ with toks := tk } : Shared) = s₁₂ at O₁₂ ⊢
              repeat walk_at "st"
              refine list_appendO O₁₂ 1 rfl (by simp; walk_at "om") fun s₁₃ k₁₃ O₁₃ => ?_
              dsimp only
              repeat walk_at "st"
              refine intO O₁₃ fun t₁₆ s₁₆ O₁₆ => ?_
              repeat walk_at "st"
              refine ldB (v := .builtin "len") O₁₆ ?_
              refine callWith_method1 ?_
              repeat walk_at "st"
              refine ldO O₁₆ (by rfl) ?_
              repeat walk_at "st"
              refine lensO O₁₆ (by walk_at "om") fun s₁₇ u₁₇ O₁₇ => ?_
              refine PySem.P.add_int ?_
              refine stO (O₁₇.toks (s₁₇.toks + 1)) fun s₁₈ O₁₈ => ?_
              repeat walk_at "st"
              refine hq _ (q _ _ _ O₁₈ ⟨vs₅ ++ [.str (" " ++ wd) t'], k₁₃, rowsStep head width st wd, s₁₇.toks, by simp, ?_, hst'.symm, rowsI_step hI hwl (fun _ h => absurd h hc2), hm1, ?_, hm3, hm4, hm5⟩)
              · rw [hstep]
                exact Mine.strs_snoc _ _ hS₅
              · rw [hstep]; rfl
            by_cases h0 : st.1 = []
            · refine ifT (decide_eq_true h0) ?_
              repeat walk_at "st"
              refine ldO O₉ (by exact hm1) ?_
              refine lst_appendM O₉ 1 rfl ?_
              dsimp only
              refine callWith_method1 ?_
              repeat walk_at "st"
              refine strO (x := "") O₉ fun t₁₁ s₁₁ O₁₁ => ?_
              repeat walk_at "st"
              refine list_appendO O₁₁ 1 rfl (by simp; walk_at "om") fun s₁₃ k₁₃ O₁₃ => ?_
              walk_at "nx"
              have hv0 : vs' = [] := by
                have e1 := strs_len hS
                rw [h0] at e1
                exact List.length_eq_zero_iff.mp e1
              subst hv0
              refine fin (vs₅ := [.str "" t₁₁]) O₁₃ (by rw [if_pos h0]; exact .cons _ _ .nil) (by simp) fun s' x => ?_
              repeat walk_at "st"
              exact x
            · refine ifF (decide_eq_false h0) ?_
              walk_at "nx"
              refine fin O₉ (by rw [if_neg h0]; exact hS) (by walk_at "om") fun s' x => ?_
              repeat walk_at "st"
              exact x
  · rintro s' m' led' O₆ ⟨vs', k, st, tz, rfl, hS, hst, hI, hm1, hm2, hm3, hm4, hm5⟩
    dsimp only
    repeat walk_at "st"
    refine ldO O₆ hm1 ?_
    refine hR _ _ (h _ lr k vs' O₆.post (O₆.new (.head _) (by simp)) (O₆.at 0 rfl) ?_)
    rw [List.take_of_length_le (by walk_at "om")] at hst
    rw [← hst]
    exact hS
end
end Mine
namespace Mine
def tabL : List Int := [2, 0, 1, 3, 65, 128, 255, 4, 127, 97, 1, 200, 2, 5, 14, 254]
def numsV (ns : List Int) : List Int := [104013, 1323, 176] ++ ns.take 14
def headV (ns : List Int) : Int := ns.sum.fmod 5
def widthV (ns : List Int) : Int := 2 + (ns.sum.fdiv 5).fmod 8
structure LawF (g : Heap) (L : Addr) (m : Str → Option Value) (ns : List Int) : Prop where
  tab : ∃ o lt k vt, g.get? (L + 1) = some o ∧ o.data = .cell (some (.ref lt)) ∧ g.get? lt = some (lstObj vt.toArray k) ∧ IntsAre vt tabL
  num : ∃ ln k vn, m "numbers" = some (.ref ln) ∧ g.get? ln = some (lstObj vn.toArray k) ∧ IntsAre vn (numsV ns)
  head : ∃ t, m "head" = some (.int (headV ns) t)
  width : ∃ t, m "width" = some (.int (widthV ns) t)
  nom : m "_maxlen" = none
theorem LawF.set {g : Heap} {L : Addr} {m : Str → Option Value} {ns : List Int} (F : LawF g L m ns) {x : Str} {v : Value} (h1 : x ≠ "numbers" := by decide) (h2 : x ≠ "head" := by decide) (h3 : x ≠ "width" := by decide) (h4 : x ≠ "_maxlen" := by decide) : LawF g L (fun y => if y = x then some v else m y) ns := by
  obtain ⟨a, ⟨ln, k, vn, b1, b2⟩, ⟨tc, c⟩, ⟨td, d⟩, e⟩ := F
  exact ⟨a, ⟨ln, k, vn, by rw [if_neg (Ne.symm h1)]; exact b1, b2⟩, ⟨tc, by rw [if_neg (Ne.symm h2)]; exact c⟩, ⟨td, by rw [if_neg (Ne.symm h3)]; exact d⟩, by rw [if_neg (Ne.symm h4)]; exact e⟩
theorem LawF.up {g g' : Heap} {L : Addr} {m : Str → Option Value} {ns : List Int} (F : LawF g L m ns) (k : ∀ b o, g.get? b = some o → g'.get? b = some o) : LawF g' L m ns := by
  obtain ⟨⟨o, lt, kk, vt, a1, a2, a3, a4⟩, ⟨ln, k', vn, b1, b2, b3⟩, c, d, e⟩ := F
  exact ⟨⟨o, lt, kk, vt, k _ _ a1, a2, k _ _ a3, a4⟩, ⟨ln, k', vn, b1, k _ _ b2, b3⟩, c, d, e⟩
section
variable {prog : Program} {w : World} {A : Around} {E : Value → Shared → Prop} {Q : Flow → Shared → Prop} {foot : List Addr} {σ s : Shared} {g : Heap} {L la : Addr} {m : Str → Option Value} {led : List (Addr × Obj)} {vs : List Value} {ns : List Int} {n : Nat}
noncomputable def lawSt (P : Params) (k : Nat) : Stmt := match (BD P 282).drop k with
  | st :: _ => st
  | [] => .Pass default
theorem law_cons {k : Nat} (h : (BD w.params 282).drop k = lawSt w.params k :: (BD w.params 282).drop (k + 1) := by kernel_rfl) {env : Env}
    (q : wpAny (model prog w) A (exec (lawSt w.params k) env) (fun f s' => match f with | .next => wpAny (model prog w) A (execs ((BD w.params 282).drop (k + 1)) env) Q E s' | f => Q f s') E s) :
    wpAny (model prog w) A (execs ((BD w.params 282).drop k) env) Q E s := by
  rw [h]
  exact wpAny_execs_cons q
theorem lawS0 {ocT : Obj} (O : Own w.params foot g σ s L m ((L + 1, ocT) :: led)) (hcT : ocT.data = .cell none)
    (h : ∀ s' g' o lt k vt, Own w.params foot g' σ s' L m led → (∀ b o, g.get? b = some o → g'.get? b = some o) → g'.get? (L + 1) = some o → o.data = .cell (some (.ref lt)) → g'.get? lt = some (lstObj vt.toArray k) → IntsAre vt tabL → Q .next s') :
    wpAny (model prog w) (A.deeper (EVC w.params 282 L)) (exec (lawSt w.params 0) (EVC w.params 282 L)) Q E s := by
  show wpAny _ _ (exec (Stmt.Assign [Expr.Name _ _] _ _) _) _ _ _
  repeat walk_at "st"
  refine wpAny_Constant_int ?_
  repeat walk_at "st"
  refine wpAny_Constant_int ?_
  repeat walk_at "st"
  refine wpAny_Constant_int ?_
  repeat walk_at "st"
  refine wpAny_Constant_int ?_
  repeat walk_at "st"
  refine wpAny_Constant_int ?_
  repeat walk_at "st"
  refine wpAny_Constant_int ?_
  repeat walk_at "st"
  refine wpAny_Constant_int ?_
  repeat walk_at "st"
  refine wpAny_Constant_int ?_
  repeat walk_at "st"
  refine wpAny_Constant_int ?_
  repeat walk_at "st"
  refine wpAny_Constant_int ?_
  repeat walk_at "st"
  refine wpAny_Constant_int ?_
  repeat walk_at "st"
  refine wpAny_Constant_int ?_
  repeat walk_at "st"
  refine wpAny_Constant_int ?_
  repeat walk_at "st"
  refine wpAny_Constant_int ?_
  repeat walk_at "st"
  refine wpAny_Constant_int ?_
  repeat walk_at "st"
  refine wpAny_Constant_int ?_
  repeat walk_at "st"
  refine lstO (O.toks _) fun lt s₁ hlt O₁ => ?_
  refine stC O₁ 1 rfl hcT fun s₂ oc₂ hd₂ O₂ => ?_
  obtain ⟨g', O₃, up₃, hin⟩ := O₂.settle [_, _] (led := led)
  exact h s₂ g' oc₂ lt _ _ O₃ up₃ (hin _ (.tail _ (.head _))) hd₂ (hin _ (.head _)) (by unfold tabL; repeat constructor)
theorem sum_lst {l : Addr} {Q : Value → Shared → Prop} (O : Own w.params foot g σ s L m led) (hh : A.handled = none) (hl : s.heap.get? l = some (lstObj vs.toArray n)) (hi : IntsAre vs ns) (h : ∀ s' t, Own w.params foot g σ s' L m led → Q (.int ns.sum t) s') :
    wpAny (model prog w) A (call (.builtin "sum") [.ref l]) Q E s := by
  obtain ⟨xs, hxs⟩ := hi.allInts.items
  have hn : (numsOf vs).sum = preSum (numAt xs) xs.size := by
    have : numsOf vs = numsOf (intItems xs).toList := by rw [← hxs]
    rw [this, nums_intItems, preSum_eq, List.take_of_length_le (by simp)]
  refine sum_intListG (xs := xs) hh (by rw [← hxs]; exact ⟨_, hl, rfl, _, rfl⟩) fun h' tk t' hk => ?_
  rw [← hn, hi.numsOf]
  exact h _ _ (O.more hk tk)
theorem lawS1 (O : Own w.params foot g σ s L m led) (hh : A.handled = none) (hsc : m "script" = some (.ref la)) (hla : g.get? la = some (lstObj vs.toArray n)) (hi : IntsAre vs ns)
    (h : ∀ s' t, Own w.params foot g σ s' L (fun y => if y = "total" then some (Value.int ns.sum t) else m y) led → Q .next s') : wpAny (model prog w) (A.deeper (EVC w.params 282 L)) (exec (lawSt w.params 1) (EVC w.params 282 L)) Q E s := by
  show wpAny _ _ (exec (Stmt.Assign [Expr.Name _ _] _ _) _) _ _ _
  repeat walk_at "st"
  refine ldB (v := .builtin "sum") O ?_
  refine callWith_method1 ?_
  repeat walk_at "st"
  refine ldO O (by exact hsc) ?_
  repeat walk_at "st"
  refine sum_lst O hh (O.keep _ _ hla) hi fun s₁ t₁ O₁ => ?_
  exact stO O₁ fun s₂ O₂ => h s₂ t₁ O₂
theorem lawS2 {t : Tok} {z : Int} (O : Own w.params foot g σ s L m led) (ht : m "total" = some (.int z t))
    (h : ∀ s' t, Own w.params foot g σ s' L (fun y => if y = "head" then some (Value.int (z.fmod 5) t) else m y) led → Q .next s') : wpAny (model prog w) (A.deeper (EVC w.params 282 L)) (exec (lawSt w.params 2) (EVC w.params 282 L)) Q E s := by
  show wpAny _ _ (exec (Stmt.Assign [Expr.Name _ _] _ _) _) _ _ _
  repeat walk_at "st"
  refine ldO O (by exact ht) ?_
  refine intO O fun t₁ s₁ O₁ => ?_
  refine PyProof.Rows.mod_int (by decide) ?_
  exact stO (O₁.toks (s₁.toks + 1)) fun s₂ O₂ => h s₂ _ O₂
theorem lawS3 {t : Tok} {z : Int} (O : Own w.params foot g σ s L m led) (ht : m "total" = some (.int z t))
    (h : ∀ s' t, Own w.params foot g σ s' L (fun y => if y = "width" then some (Value.int (2 + (z.fdiv 5).fmod 8) t) else m y) led → Q .next s') : wpAny (model prog w) (A.deeper (EVC w.params 282 L)) (exec (lawSt w.params 3) (EVC w.params 282 L)) Q E s := by
  show wpAny _ _ (exec (Stmt.Assign [Expr.Name _ _] _ _) _) _ _ _
  repeat walk_at "st"
  refine intO O fun t₁ s₁ O₁ => ?_
  repeat walk_at "st"
  refine ldO O₁ (by exact ht) ?_
  refine intO O₁ fun t₂ s₂ O₂ => ?_
  refine fdivO O₂ (by decide) fun s₃ u₃ O₃ => ?_
  refine intO O₃ fun t₄ s₄ O₄ => ?_
  refine modO O₄ (by decide) fun s₅ u₅ O₅ => ?_
  refine PySem.P.add_int ?_
  exact stO (O₅.toks (s₅.toks + 1)) fun s₂ O₂ => h s₂ _ O₂
theorem lawS4 (O : Own w.params foot g σ s L m led) (hsc : m "script" = some (.ref la)) (hla : g.get? la = some (lstObj vs.toArray n)) (hi : IntsAre vs ns) (hlen : ns.length ≤ 63)
    (h : ∀ s' g' ln k vn, Own w.params foot g' σ s' L (fun y => if y = "numbers" then some (Value.ref ln) else m y) led → (∀ b o, g.get? b = some o → g'.get? b = some o) → g'.get? ln = some (lstObj vn.toArray k) → IntsAre vn (numsV ns) → Q .next s') :
    wpAny (model prog w) (A.deeper (EVC w.params 282 L)) (exec (lawSt w.params 4) (EVC w.params 282 L)) Q E s := by
  have hl := hi.length
  show wpAny _ _ (exec (Stmt.Assign [Expr.Name _ _] _ _) _) _ _ _
  repeat walk_at "st"
  refine intO O fun t₁ s₁ O₁ => ?_
  repeat walk_at "st"
  refine intO O₁ fun t₂ s₂ O₂ => ?_
  repeat walk_at "st"
  refine intO O₂ fun t₃ s₃ O₃ => ?_
  repeat walk_at "st"
  refine lstO O₃ fun l1 s₄ hl1 O₄ => ?_
  repeat walk_at "st"
  refine ldO O₄ (by exact hsc) ?_
  repeat walk_at "st"
  refine intO O₄ fun t₅ s₅ O₅ => ?_
  repeat walk_at "st"
  have O₆ := O₅.push { cls := .type "slice", data := .fields #[.none, .int 14 t₅, .none] }
  refine lst_getSliceO (lo := none) (hi := some ((14 : Nat) : Int)) O₆ (O₆.keep _ _ hla) ⟨_, O₆.at 0 rfl, rfl, rfl⟩ .none (.int _ _) (by simp; walk_at "om") fun D₀ s₇ hD₀ O₇ => ?_
  rw [slicePick_upto'] at O₇
  refine PySem.P.add_list (O₇.at 2 rfl) (O₇.at 0 rfl) ?_ (by simp only [sizeLine]; simp; walk_at "om")
  have O₈ := O₇.push { cls := .type "list", data := .seq ((#[Value.int 104013 t₁, Value.int 1323 t₂, Value.int 176 t₃] : Array Value) ++ (vs.toArray.toList.take 14).toArray) }
  refine stO O₈ fun s₉ O₉ => ?_
  obtain ⟨g', O₁₀, up₁₀, hin⟩ := O₉.settle [_, _, _, _] (led := led)
  refine h s₉ g' _ _ _ O₁₀ up₁₀ (by have := hin _ (.head _); rw [show ((#[Value.int 104013 t₁, Value.int 1323 t₂, Value.int 176 t₃] : Array Value) ++ (vs.toArray.toList.take 14).toArray) = ([Value.int 104013 t₁, Value.int 1323 t₂, Value.int 176 t₃] ++ vs.take 14).toArray by simp] at this; exact this) ?_
  exact .cons _ _ (.cons _ _ (.cons _ _ (ints_take 14 hi)))
end
end Mine
namespace Mine
def restV (x : Int) : Int := (x.fdiv 4).fmod 16384
def pickV (z : Int) : Int := tabL.getD (z.fmod 16).toNat 0
def bodyV (x : Int) : List Int := (List.range ((restV x).fmod 4).toNat).map fun k => pickV (((restV x).fdiv 4).fdiv (16 ^ k))
def valOf (x : Int) : Int × List Int := if x.fmod 4 = 0 then (0, [pickV ((restV x).fdiv 4)]) else (x.fmod 4, ((bodyV x).length : Int) :: bodyV x)
inductive ValAt (g : Heap) : Value → Int × List Int → Prop where
  | mk {x : Int × List Int} (t : Addr) (k : Nat) (tk : Tok) (lo : Addr) (k2 : Nat) (vs : List Value) (ht : g.get? t = some { cls := .type "tuple", data := .seq #[.int x.1 tk, .ref lo] k }) (hl : g.get? lo = some (lstObj vs.toArray k2)) (hi : IntsAre vs x.2) : ValAt g (.ref t) x
theorem ValAt.up {g g' : Heap} {v : Value} {x : Int × List Int} (h : ValAt g v x) (k : ∀ b o, g.get? b = some o → g'.get? b = some o) : ValAt g' v x := by
  obtain ⟨t, kk, tk, lo, k2, vs, h1, h2, h3⟩ := h
  exact ⟨t, kk, tk, lo, k2, vs, k _ _ h1, k _ _ h2, h3⟩
structure ValsAre (g : Heap) (vs : List Value) (xs : List (Int × List Int)) : Prop where
  len : vs.length = xs.length
  at' : ∀ (i : Nat) x, xs[i]? = some x → ∃ v, vs[i]? = some v ∧ ValAt g v x
theorem ValsAre.up {g g' : Heap} {vs : List Value} {xs : List (Int × List Int)} (h : ValsAre g vs xs) (k : ∀ b o, g.get? b = some o → g'.get? b = some o) : ValsAre g' vs xs :=
  ⟨h.len, fun i x e => let ⟨v, e1, e2⟩ := h.at' i x e; ⟨v, e1, e2.up k⟩⟩
theorem ValsAre.snoc {g : Heap} {vs : List Value} {xs : List (Int × List Int)} {v : Value} {x : Int × List Int} (h : ValsAre g vs xs) (hv : ValAt g v x) : ValsAre g (vs ++ [v]) (xs ++ [x]) := by
  refine ⟨by simp [h.len], fun i y e => ?_⟩
  by_cases hi : i < xs.length
  · rw [List.getElem?_append_left hi] at e
    obtain ⟨u, e1, e2⟩ := h.at' i y e
    exact ⟨u, by rw [List.getElem?_append_left (by rw [h.len]; exact hi)]; exact e1, e2⟩
  · rw [List.getElem?_append_right (by walk_at "om")] at e
    have hi' : i = xs.length := by
      have := (List.getElem?_eq_some_iff.mp e).1
      simp at this; walk_at "om"
    rw [hi'] at e ⊢
    simp at e; subst e
    exact ⟨v, by rw [List.getElem?_append_right (by rw [h.len]; walk_at "om"), h.len]; simp, hv⟩
theorem ints_at {vs : List Value} {ns : List Int} {i : Nat} {z : Int} (h : IntsAre vs ns) (e : ns[i]? = some z) : ∃ t, vs[i]? = some (.int z t) := by
  have hi : i < vs.length := h.length ▸ (List.getElem?_eq_some_iff.mp e).1
  obtain ⟨n, t, e1, e2⟩ := h.at i _ (List.getElem?_eq_getElem hi)
  cases e.symm.trans e2
  exact ⟨t, (List.getElem?_eq_getElem hi).trans (congrArg some e1)⟩
section
variable {prog : Program} {w : World} {A : Around} {E : Value → Shared → Prop} {Q : Flow → Shared → Prop} {P : Params} {foot : List Addr} {σ s : Shared} {g : Heap} {L la : Addr} {m : Str → Option Value} {led : List (Addr × Obj)} {vs : List Value} {ns : List Int} {n : Nat} {env : Env} {I : Addr}
/-- a for-loop over one source; the frozen heap may grow -/
theorem forSrcG {x : Str} {px : Pos} {body : List Stmt} {n : Nat} {val : Nat → Value → Prop} {ob : Nat → Obj → Prop} {oI : Obj} {R : Result → Shared → Prop} (S : Src prog w A g I n val ob) (J : Nat → Heap → (Str → Option Value) → List (Addr × Obj) → Prop)
    (O : Own P foot g σ s L m ((I, oI) :: led)) (h0 : ob 0 oI) (hJ : J 0 g m led)
    (step : ∀ i v s₁ g₁ m₁ led₁ oi, i < n → val i v → (∀ b o, g.get? b = some o → g₁.get? b = some o) → J i g₁ m₁ led₁ → Own P foot g₁ σ s₁ L (fun y => if y = x then some v else m₁ y) ((I, oi) :: led₁) → ∀ (Q : Flow → Shared → Prop) (E : Value → Shared → Prop),
      (∀ s' g' m' led', (∀ b o, g₁.get? b = some o → g'.get? b = some o) → Own P foot g' σ s' L m' ((I, oi) :: led') → J (i + 1) g' m' led' → Q .next s') → wpAny (model prog w) A (execs body env) Q E s₁)
    (fin : ∀ s' g' m' led', (∀ b o, g.get? b = some o → g'.get? b = some o) → Own P foot g' σ s' L m' led' → J n g' m' led' → R (.ok .next) s')
    (hL : env.locals = L := by rfl) (hk : env.scope.kind = .function := by kernel_rfl) (hl : env.kindOf x = some .local := by kernel_rfl) :
    codeAny (model prog w) A (.forLoop (.Name x px) (.ref I) body [] env) R s :=
  forSrcO S J O h0 hJ (fun i v s₁ g₁ m₁ led₁ oi hi hv _ up hj O₁ => step i v s₁ g₁ m₁ led₁ oi hi hv up hj O₁) fin hL hk hl
theorem lawS5 (O : Own w.params foot g σ s L m led) (h : ∀ s' lv, Own w.params foot g σ s' L (fun y => if y = "values" then some (Value.ref lv) else m y) ((lv, lstObj #[] 0) :: led) → Q .next s') : wpAny (model prog w) (A.deeper (EVC w.params 282 L)) (exec (lawSt w.params 5) (EVC w.params 282 L)) Q E s := by
  show wpAny _ _ (exec (Stmt.Assign [Expr.Name _ _] _ _) _) _ _ _
  repeat walk_at "st"
  refine lstO O fun lv s₁ hlv O₁ => ?_
  exact stO O₁ fun s₂ O₂ => h s₂ lv O₂
noncomputable def valBody (P : Params) : List Stmt := match lawSt P 6 with
  | .For _ _ b _ _ => b
  | _ => []
set_option maxHeartbeats 400000 in
theorem lawS6 {lv : Addr} {ocR : Obj} {v₀ : Option Value} (O : Own w.params foot g σ s L m ((lv, lstObj #[] 0) :: (L + 2, ocR) :: led)) (hcR : ocR.data = .cell v₀) (F : LawF g L m ns) (hm : m "values" = some (.ref lv)) (hh : A.handled = none)
    (step : ∀ {i : Nat} {x : Int} {tx : Tok} {s₁ : Shared} {g₁ : Heap} {m₁ : Str → Option Value} {I : Addr} {oI : Obj} {vv : List Value} {k : Nat} {oR : Obj} {v₁ : Option Value} {Q : Flow → Shared → Prop} {E : Value → Shared → Prop}, i < 100 → vv.length < 100 → oR.data = .cell v₁ → LawF g₁ L m₁ ns → m₁ "values" = some (.ref lv) → m₁ "x" = some (.int x tx) →
      Own w.params foot g₁ σ s₁ L m₁ ((I, oI) :: (lv, lstObj vv.toArray k) :: (L + 2, oR) :: led) → (∀ s' g' m' oR' v' v₂ k', (∀ b o, g₁.get? b = some o → g'.get? b = some o) → Own w.params foot g' σ s' L m' ((I, oI) :: (lv, lstObj (vv ++ [v']).toArray k') :: (L + 2, oR') :: led) → oR'.data = .cell v₂ → LawF g' L m' ns → m' "values" = some (.ref lv) → ValAt g' v' (valOf x) → Q .next s') →
      wpAny (model prog w) (A.deeper (EVC w.params 282 L)) (execs (valBody w.params) (EVC w.params 282 L)) Q E s₁)
    (h : ∀ s' g' m' vv, Own w.params foot g' σ s' L m' led → (∀ b o, g.get? b = some o → g'.get? b = some o) → LawF g' L m' ns → m' "values" = some (.ref lv) → (∃ k, g'.get? lv = some (lstObj vv.toArray k)) → ValsAre g' vv ((numsV ns).map valOf) → Q .next s') :
    wpAny (model prog w) (A.deeper (EVC w.params 282 L)) (exec (lawSt w.params 6) (EVC w.params 282 L)) Q E s := by
  obtain ⟨ln, kn, vn, hn1, hn2, hn3⟩ := F.num
  have hlen := hn3.length
  have hnl : (numsV ns).length ≤ 17 := by unfold numsV; simp; walk_at "om"
  refine wpAny_For ?_
  refine ldO O (by exact hn1) ?_
  refine wpAny_pyIter_list ⟨_, O.keep _ _ hn2, rfl, _, rfl⟩ ?_
  have O₁ := O.push { cls := .type "list_iterator", data := .fields #[.ref ln, .int 0 0] }
  have hlI : ln ≠ s.heap.objs.size := Nat.ne_of_lt (Heap.lt_size (O.keep _ _ hn2))
  refine forSrcG (srcList (A := A.deeper (EVC w.params 282 L)) hn2 hlI hh) (fun i g₁ m₁ led₁ => ∃ vv k oR v₁, led₁ = (lv, lstObj vv.toArray k) :: (L + 2, oR) :: led ∧ oR.data = .cell v₁ ∧ LawF g₁ L m₁ ns ∧ m₁ "values" = some (.ref lv) ∧ ValsAre g₁ vv (((numsV ns).take i).map valOf)) O₁ ⟨rfl, rfl⟩ ⟨[], 0, ocR, v₀, rfl, hcR, F, hm, rfl, fun i x e => by simp at e⟩ ?_ ?_
  · rintro i v s₁ g₁ m₁ led₁ oi hlt hv up ⟨vv, k, oR, v₁, rfl, hcR₁, F₁, hm₁, hV⟩ O₂ Q' E' q
    obtain ⟨x, tx, hx, rfl⟩ := ints_get hn3 hv
    have hvl := hV.len
    rw [List.length_map, List.length_take] at hvl
    refine step (i := i) (by walk_at "om") (by walk_at "om") hcR₁ F₁.set (by rw [if_neg (by decide)]; exact hm₁) (by exact if_pos rfl) O₂ fun s' g' m' oR' v' v₂ k' up' O' hcR' F' hm' hv' => ?_
    refine q s' g' m' _ up' O' ⟨_, k', oR', v₂, rfl, hcR', F', hm', ?_⟩
    rw [List.take_succ, hx, List.map_append]
    exact (hV.up up').snoc hv'
  · rintro s' g' m' led' up O₂ ⟨vv, k, oR, v₁, rfl, hcR₁, F₁, hm₁, hV⟩
    dsimp only
    obtain ⟨g₃, O₃, up₃, hin⟩ := O₂.settle [_, _] (led := led)
    refine h s' g₃ m' vv O₃ (fun b o e => up₃ _ _ (up _ _ e)) (F₁.up up₃) hm₁ ⟨k, hin _ (.head _)⟩ ?_
    rw [List.take_of_length_le (by walk_at "om")] at hV
    exact hV.up up₃
end
end Mine
namespace Mine
noncomputable def valSt (P : Params) (k : Nat) : Stmt := match (valBody P).drop k with
  | st :: _ => st
  | [] => .Pass default
theorem fmod_range {a : Int} {b : Nat} (hb : 0 < b) : 0 ≤ a.fmod b ∧ a.fmod b < b := ⟨by rw [Int.fmod_eq_emod_of_nonneg _ (by walk_at "om")]; exact Int.emod_nonneg _ (by walk_at "om"), by rw [Int.fmod_eq_emod_of_nonneg _ (by walk_at "om")]; exact Int.emod_lt_of_pos _ (by walk_at "om")⟩
theorem tab_at {vt : List Value} (h : IntsAre vt tabL) (z : Int) : ∃ t, vt.toArray[(z.fmod 16).toNat]? = some (.int (pickV z) t) := by
  have hb : 0 ≤ z.fmod 16 ∧ z.fmod 16 < 16 := fmod_range (b := 16) (by decide)
  have hl : (z.fmod 16).toNat < tabL.length := by show _ < 16; walk_at "om"
  obtain ⟨t, e⟩ := ints_at (i := (z.fmod 16).toNat) (z := pickV z) h (by unfold pickV; rw [List.getElem?_eq_getElem hl, List.getD_eq_getElem?_getD, List.getElem?_eq_getElem hl]; rfl)
  exact ⟨t, by simpa using e⟩
theorem ints_paired {F : Nat → Value → Prop} {f : Nat → Int} {n : Nat} {ys : List Value} (h : Paired F (List.range n) ys) (hF : ∀ i y, F i y → ∃ t, y = .int (f i) t) : IntsAre ys ((List.range n).map f) := by
  obtain ⟨h1, h2⟩ := paired_range h
  refine ints_of (by simpa using h1) fun i y e => ?_
  obtain ⟨t, rfl⟩ := hF i y (h2 i y e)
  have hi : i < n := by rw [← h1]; exact (List.getElem?_eq_some_iff.mp e).1
  exact ⟨f i, t, by rw [List.getElem?_map, List.getElem?_range hi]; rfl, rfl⟩
section
variable {prog : Program} {w : World} {A : Around} {E : Value → Shared → Prop} {Q : Flow → Shared → Prop} {P : Params} {foot : List Addr} {σ s : Shared} {g : Heap} {L la : Addr} {m : Str → Option Value} {led : List (Addr × Obj)} {vs : List Value} {ns : List Int} {n : Nat} {env : Env} {I : Addr}
theorem valS0 {x : Int} {tx : Tok} {oR : Obj} {v₀ : Option Value} (i : Nat) (O : Own w.params foot g σ s L m led) (hi : led[i]? = some (L + 2, oR)) (hR : oR.data = .cell v₀) (hx : m "x" = some (.int x tx))
    (h : ∀ s' oR' t, oR'.data = .cell (some (.int (restV x) t)) → Own w.params foot g σ s' L m (led.set i (L + 2, oR')) → Q .next s') : wpAny (model prog w) (A.deeper (EVC w.params 282 L)) (exec (valSt w.params 0) (EVC w.params 282 L)) Q E s := by
  show wpAny _ _ (exec (Stmt.Assign [Expr.Name _ _] _ _) _) _ _ _
  repeat walk_at "st"
  refine ldO O (by exact hx) ?_
  refine intO O fun t₁ s₁ O₁ => ?_
  refine fdivO O₁ (by decide) fun s₂ u₂ O₂ => ?_
  refine intO O₂ fun t₃ s₃ O₃ => ?_
  refine PyProof.Rows.mod_int (by decide) ?_
  exact stC (O₃.toks (s₃.toks + 1)) i hi hR fun s₄ oR' hd O₄ => h s₄ oR' _ hd O₄
set_option maxHeartbeats 400000 in
theorem valS1 {x : Int} {oR : Obj} {tr : Tok} {lt : Addr} {ocT : Obj} {kt : Nat} {vt : List Value} (O : Own w.params foot g σ s L m led) (hi : (L + 2, oR) ∈ led) (hR : oR.data = .cell (some (.int (restV x) tr))) (hh : A.handled = none)
    (hT : g.get? (L + 1) = some ocT) (hTd : ocT.data = .cell (some (.ref lt))) (hlt : g.get? lt = some (lstObj vt.toArray kt)) (hit : IntsAre vt tabL)
    (h : ∀ s' g' D vb k, (∀ b o, g.get? b = some o → g'.get? b = some o) → Own w.params foot g' σ s' L (fun y => if y = "body" then some (Value.ref D) else m y) led → g'.get? D = some (lstObj vb.toArray k) → IntsAre vb (bodyV x) → Q .next s') : wpAny (model prog w) (A.deeper (EVC w.params 282 L)) (exec (valSt w.params 1) (EVC w.params 282 L)) Q E s := by
  refine compA (cl := [("table", L + 1), ("rest", L + 2)]) (P := w.params) (σ := σ) (foot := foot) (L := L) (y := "body") ?_
  repeat walk_at "st"
  refine ldB (v := .type "range") O ?_
  refine PyProof.Rows.callWith_type1 ?_
  repeat walk_at "st"
  refine ldC (c := L + 2) (O.lg _ hi).1 hR ?_
  refine intO O fun t₁ s₁ O₁ => ?_
  refine modO O₁ (by decide) fun s₂ u₂ O₂ => ?_
  repeat walk_at "st"
  refine call_range_1 ?_
  have hb : 0 ≤ (restV x).fmod 4 ∧ (restV x).fmod 4 < 4 := fmod_range (b := 4) (by decide)
  have hn3 : ((restV x).fmod 4).toNat ≤ 3 := by have := hb.2; walk_at "om"
  have O₃ := O₂.push { cls := .type "range", data := .fields #[.int 0 s₂.toks, .int ((restV x).fmod 4) u₂, .int 1 (s₂.toks + 1)] } rfl (s₂.toks + 1 + 1)
  refine iter_rangeO (n := ((restV x).fmod 4).toNat) O₃ (O₃.at 0 rfl) (small_one (by decide) (by decide) (by have := hb.1; walk_at "om") (by have := hb.2; walk_at "om")) (by rw [rangeSize_one]; have := hb.1; split <;> walk_at "om") fun J s₄ O₄ => ?_
  refine ⟨g, m, _, O₄, fun s₅ Q' E' hk q => wpAny_pyIter_rangeiter (hk _ _ (O₄.at 0 rfl)) q, fun C D oL s₅ hD O₅ => ?_⟩
  refine compLoopSrc (p := fun _ => true) (Fp := fun i y => ∃ t, y = .int (pickV (((restV x).fdiv 4).fdiv (16 ^ i))) t) (srcRange (A := A.deeper (EVC w.params 282 L)) hh 0 1 ((restV x).fmod 4).toNat) O₅ rfl (by walk_at "om") (by kernel_rfl) (by kernel_rfl) (fun i v s₆ mc led₃ hiv O₆ hsub hm hv Q E q => wpAny_tests_nil (q _ O₆)) (fun i v s₆ mc led₃ hiv _ O₆ hsub hm hv Q' E' q => ?_) fun s₆ mc ys k O₆ hP => ?_
  · obtain ⟨tv, rfl⟩ := hv
    have hi3 : i < 3 := by walk_at "om"
    repeat walk_at "st"
    refine ldC (c := L + 1) (O₆.keep _ _ hT) hTd ?_
    repeat walk_at "st"
    refine ldC (c := L + 2) (O₆.lg _ (hsub _ (.tail _ hi))).1 hR ?_
    refine intO O₆ fun t₇ s₇ O₇ => ?_
    refine fdivO O₇ (by decide) fun s₈ u₈ O₈ => ?_
    repeat walk_at "st"
    refine intO O₈ fun t₉ s₉ O₉ => ?_
    refine ldO O₉ (by exact hm) ?_
    refine PyProof.Rows.pow_int_small (by walk_at "om") (by walk_at "om") (by decide) ?_
    rw [show (0 + (i : Int) * 1).toNat = i by walk_at "om"]
    have O₁₀ := O₉.toks (s₉.toks + 1)
    generalize hs₁₀ : ({ s₉ with toks := s₉.toks + 1 } : Shared) = s₁₀ at O₁₀ ⊢
    have hpw : (16 : Int) ^ i ≠ 0 ∧ ((16 : Int) ^ i).natAbs < 1073741824 := by
      have : i = 0 ∨ i = 1 ∨ i = 2 := by walk_at "om"
      rcases this with rfl | rfl | rfl <;> decide
    refine PyProof.Rows.floordiv_int hpw.1 ?_ (.inl (PyProof.noPylong_small hpw.2))
    have O₁₁ := O₁₀.toks (s₁₀.toks + 1)
    generalize hs₁₁ : ({ s₁₀ with toks := s₁₀.toks + 1 } : Shared) = s₁₁ at O₁₁ ⊢
    refine intO O₁₁ fun t₁₂ s₁₂ O₁₂ => ?_
    refine modO O₁₂ (by decide) fun s₁₃ u₁₃ O₁₃ => ?_
    obtain ⟨tp, htp⟩ := tab_at hit (((restV x).fdiv 4).fdiv (16 ^ i))
    have hb16 : 0 ≤ (((restV x).fdiv 4).fdiv (16 ^ i)).fmod 16 ∧ (((restV x).fdiv 4).fdiv (16 ^ i)).fmod 16 < 16 := fmod_range (b := 16) (by decide)
    refine sub_lst (O₁₃.keep _ _ hlt) hb16.1 (by walk_at "om") htp ?_
    exact q _ s₁₃ O₁₃ ⟨tp, rfl⟩
  · have hI : IntsAre ys.toList (bodyV x) := by
      rw [filter_true] at hP
      exact ints_paired hP fun i y hy => hy
    refine ⟨g, mc, _, O₆, fun s₇ O₇ => ?_⟩
    obtain ⟨g', O₈, up₈, hin⟩ := O₇.settle [_, _] (led := led)
    exact h s₇ g' D ys.toList k up₈ O₈ (by have := hin _ (.head _); simpa using this) hI
set_option maxHeartbeats 400000 in
theorem valS2 {x : Int} {tx : Tok} {oR : Obj} {tr : Tok} {lt lv D : Addr} {ocT : Obj} {kt kv kb : Nat} {vt vb vv : List Value} (i : Nat) (O : Own w.params foot g σ s L m led) (hi : (L + 2, oR) ∈ led) (hR : oR.data = .cell (some (.int (restV x) tr)))
    (hlv : led[i]? = some (lv, lstObj vv.toArray kv)) (hvv : vv.length < 100) (hx : m "x" = some (.int x tx)) (hmv : m "values" = some (.ref lv)) (hmb : m "body" = some (.ref D)) (hD : g.get? D = some (lstObj vb.toArray kb)) (hib : IntsAre vb (bodyV x))
    (hT : g.get? (L + 1) = some ocT) (hTd : ocT.data = .cell (some (.ref lt))) (hlt : g.get? lt = some (lstObj vt.toArray kt)) (hit : IntsAre vt tabL)
    (h : ∀ s' g' v' k', (∀ b o, g.get? b = some o → g'.get? b = some o) → Own w.params foot g' σ s' L m (led.set i (lv, lstObj (vv ++ [v']).toArray k')) → ValAt g' v' (valOf x) → Q .next s') : wpAny (model prog w) (A.deeper (EVC w.params 282 L)) (exec (valSt w.params 2) (EVC w.params 282 L)) Q E s := by
  refine wpAny_If ?_
  refine wpAny_isTrue_Compare1 ?_
  repeat walk_at "st"
  refine ldO O (by exact hx) ?_
  refine intO O fun t₁ s₁ O₁ => ?_
  refine modO O₁ (by decide) fun s₂ u₂ O₂ => ?_
  refine intO O₂ fun t₃ s₃ O₃ => ?_
  refine PySem.P.eq_int ?_
  refine wpAny_pure ?_
  have hsz : vv.toArray.size < 100000 := by simp; walk_at "om"
  by_cases h0 : x.fmod 4 = 0
  · have hval : valOf x = (0, [pickV ((restV x).fdiv 4)]) := by unfold valOf; rw [if_pos h0]
    refine ifT (decide_eq_true h0) ?_
    repeat walk_at "st"
    refine ldO O₃ (by exact hmv) ?_
    refine lst_appendM O₃ i hlv ?_
    dsimp only
    refine callWith_method1 ?_
    repeat walk_at "st"
    refine intO O₃ fun t₄ s₄ O₄ => ?_
    repeat walk_at "st"
    refine ldC (c := L + 1) (O₄.keep _ _ hT) hTd ?_
    repeat walk_at "st"
    refine ldC (c := L + 2) (O₄.lg _ hi).1 hR ?_
    refine intO O₄ fun t₅ s₅ O₅ => ?_
    refine fdivO O₅ (by decide) fun s₆ u₆ O₆ => ?_
    refine intO O₆ fun t₇ s₇ O₇ => ?_
    refine modO O₇ (by decide) fun s₈ u₈ O₈ => ?_
    obtain ⟨tp, htp⟩ := tab_at hit ((restV x).fdiv 4)
    have hb16 : 0 ≤ ((restV x).fdiv 4).fmod 16 ∧ ((restV x).fdiv 4).fmod 16 < 16 := fmod_range (b := 16) (by decide)
    refine sub_lst (O₈.keep _ _ hlt) hb16.1 (by walk_at "om") htp ?_
    repeat walk_at "st"
    refine lstO O₈ fun lo s₉ hlo O₉ => ?_
    repeat walk_at "st"
    refine tupO O₉ fun b s₁₀ hb O₁₀ => ?_
    repeat walk_at "st"
    refine list_appendO O₁₀ (i + 2) (by simpa using hlv) hsz fun s₁₁ k' O₁₁ => ?_
    rw [List.push_toArray] at O₁₁
    obtain ⟨g', O₁₂, up₁₂, hin⟩ := O₁₁.settle [_, _] (led := led.set i (lv, lstObj (vv ++ [Value.ref b]).toArray k'))
    dsimp only
    repeat walk_at "st"
    refine h s₁₁ g' (.ref b) k' up₁₂ O₁₂ ?_
    rw [hval]
    exact ⟨b, _, t₄, lo, _, _, hin _ (.head _), hin _ (.tail _ (.head _)), .cons _ _ .nil⟩
  · have hval : valOf x = (x.fmod 4, ((bodyV x).length : Int) :: bodyV x) := by unfold valOf; rw [if_neg h0]
    refine ifF (decide_eq_false h0) ?_
    repeat walk_at "st"
    refine ldO O₃ (by exact hmv) ?_
    refine lst_appendM O₃ i hlv ?_
    dsimp only
    refine callWith_method1 ?_
    repeat walk_at "st"
    refine ldO O₃ (by exact hx) ?_
    refine intO O₃ fun t₄ s₄ O₄ => ?_
    refine modO O₄ (by decide) fun s₅ u₅ O₅ => ?_
    repeat walk_at "st"
    refine ldB (v := .builtin "len") O₅ ?_
    refine callWith_method1 ?_
    repeat walk_at "st"
    refine ldO O₅ (by exact hmb) ?_
    repeat walk_at "st"
    have hbl := hib.length
    have hbl3 : (bodyV x).length ≤ 3 := by
      unfold bodyV
      have hb : 0 ≤ (restV x).fmod 4 ∧ (restV x).fmod 4 < 4 := fmod_range (b := 4) (by decide)
      simp; walk_at "om"
    refine lenlO O₅ (O₅.keep _ _ hD) (by simp; walk_at "om") fun s₆ u₆ O₆ => ?_
    repeat walk_at "st"
    refine lstO O₆ fun l1 s₇ hl1 O₇ => ?_
    refine ldO O₇ (by exact hmb) ?_
    refine PySem.P.add_list (O₇.at 0 rfl) (O₇.keep _ _ hD) ?_ (by simp only [sizeLine]; simp; walk_at "om")
    have O₈ := O₇.push { cls := .type "list", data := .seq (([Value.int vb.toArray.size u₆] : List Value).toArray ++ vb.toArray) }
    generalize hs₈ : ({ s₇ with heap := s₇.heap.push { cls := .type "list", data := .seq (([Value.int vb.toArray.size u₆] : List Value).toArray ++ vb.toArray) } } : Shared) = s₈ at O₈ ⊢
    generalize s₇.heap.objs.size = l2 at O₈ ⊢
    repeat walk_at "st"
    refine tupO O₈ fun b s₁₀ hb O₁₀ => ?_
    repeat walk_at "st"
    refine list_appendO O₁₀ (i + 3) (by simpa using hlv) hsz fun s₁₁ k' O₁₁ => ?_
    rw [List.push_toArray] at O₁₁
    obtain ⟨g', O₁₂, up₁₂, hin⟩ := O₁₁.settle [_, _, _] (led := led.set i (lv, lstObj (vv ++ [Value.ref b]).toArray k'))
    dsimp only
    repeat walk_at "st"
    refine h s₁₁ g' (.ref b) k' up₁₂ O₁₂ ?_
    rw [hval]
    refine ⟨b, 0, u₅, l2, 0, Value.int vb.toArray.size u₆ :: vb, hin _ (.head _), ?_, ?_⟩
    · have := hin _ (.tail _ (.head _))
      simpa using this
    · rw [show ((vb.toArray.size : Nat) : Int) = ((bodyV x).length : Int) by simp [hbl]]
      exact .cons _ _ hib
end
end Mine
namespace Mine
theorem valBody_eq (P : Params) : valBody P = [valSt P 0, valSt P 1, valSt P 2] := by kernel_rfl
section
variable {prog : Program} {w : World} {A : Around} {E : Value → Shared → Prop} {Q : Flow → Shared → Prop} {P : Params} {foot : List Addr} {σ s : Shared} {g : Heap} {L la : Addr} {m : Str → Option Value} {led : List (Addr × Obj)} {vs : List Value} {ns : List Int} {n : Nat} {env : Env} {I : Addr}
theorem lawS6' {lv : Addr} {ocR : Obj} {v₀ : Option Value} (O : Own w.params foot g σ s L m ((lv, lstObj #[] 0) :: (L + 2, ocR) :: led)) (hcR : ocR.data = .cell v₀) (F : LawF g L m ns) (hm : m "values" = some (.ref lv)) (hh : A.handled = none)
    (h : ∀ s' g' m' vv, Own w.params foot g' σ s' L m' led → (∀ b o, g.get? b = some o → g'.get? b = some o) → LawF g' L m' ns → m' "values" = some (.ref lv) → (∃ k, g'.get? lv = some (lstObj vv.toArray k)) → ValsAre g' vv ((numsV ns).map valOf) → Q .next s') :
    wpAny (model prog w) (A.deeper (EVC w.params 282 L)) (exec (lawSt w.params 6) (EVC w.params 282 L)) Q E s := by
  refine lawS6 O hcR F hm hh ?_ h
  intro i x tx s₁ g₁ m₁ I oI vv k oR v₁ Q' E' hi hvv hR F₁ hmv hmx O₁ q
  rw [valBody_eq]
  walk_at "nx"
  refine mstN fun N hN => ?_
  refine valS0 2 O₁ rfl hR hmx fun s₂ oR₂ t₂ hR₂ O₂ => ?_
  try dsimp only
  obtain ⟨⟨ocT, lt, kt, vt, hT, hTd, hlt, hit⟩, -⟩ := id F₁
  walk_at "nx"
  refine mstN fun N hN => ?_
  refine valS1 O₂ (by simp) hR₂ hh hT hTd hlt hit fun s₃ g₃ D vb kb up₃ O₃ hD hib => ?_
  walk_at "nx"
  refine mstN fun N hN => ?_
  refine valS2 1 O₃ (by simp) hR₂ rfl hvv (by rw [if_neg (by decide)]; exact hmx) (by rw [if_neg (by decide)]; exact hmv) (by exact if_pos rfl) hD hib (up₃ _ _ hT) hTd (up₃ _ _ hlt) hit fun s₄ g₄ v' k' up₄ O₄ hV => ?_
  walk_at "nx"
  refine q s₄ g₄ _ oR₂ v' _ k' (fun b o e => up₄ _ _ (up₃ _ _ e)) O₄ hR₂ ?_ (by rw [if_neg (by decide)]; exact hmv) hV
  exact ((F₁.up up₃).up up₄).set
end
end Mine
namespace Mine
section
variable {prog : Program} {w : World} {A : Around} {E : Value → Shared → Prop} {R : Result → Shared → Prop} {s : Shared}
theorem compTurn_two0 (elt t0 i0 t1 i1 : Expr) (scope : Scope) (pos : Pos) (it acc : Value) (env : Env) :
    compTurn (.ListComp elt [⟨t0, i0, [], 0⟩, ⟨t1, i1, [], 0⟩] scope pos) 0 it acc env = (standAt i0.pos >>= fun _ => pyNext it >>= fun r => match r with
      | none => pure (.done .next)
      | some v => letOwnedTupleGo t0 it v >>= fun _ => assign t0 env v >>= fun _ => eval i1 env >>= fun x => standAt i1.pos >>= fun _ => foldedSetIterable i1 env x >>= fun x => holding [x] (pyIter x) >>= fun it1 =>
          runOwn (.compStart (.ListComp elt [⟨t0, i0, [], 0⟩, ⟨t1, i1, [], 0⟩] scope pos) 1 it1 acc env) env >>= fun _ => again (.compLoop (.ListComp elt [⟨t0, i0, [], 0⟩, ⟨t1, i1, [], 0⟩] scope pos) 0 it acc env)) := by rfl
theorem compTurn_two1 (elt t0 i0 t1 i1 : Expr) (scope : Scope) (pos : Pos) (it acc : Value) (env : Env) :
    compTurn (.ListComp elt [⟨t0, i0, [], 0⟩, ⟨t1, i1, [], 0⟩] scope pos) 1 it acc env = (standAt i1.pos >>= fun _ => pyNext it >>= fun r => match r with
      | none => pure (.done .next)
      | some v => letOwnedTupleGo t1 it v >>= fun _ => assign t1 env v >>= fun _ =>
          (eval elt env >>= fun x => call (.builtin "list.append") [acc, x] >>= fun _ => pure ()) >>= fun _ => again (.compLoop (.ListComp elt [⟨t0, i0, [], 0⟩, ⟨t1, i1, [], 0⟩] scope pos) 1 it acc env)) := by rfl
theorem start1 {elt t0 i0 t1 i1 : Expr} {scope : Scope} {pos : Pos} {it acc : Value} {env : Env}
    (h0 : codeAny (model prog w) A (.compLoop (.ListComp elt [⟨t0, i0, [], 0⟩, ⟨t1, i1, [], 0⟩] scope pos) 1 it acc env) R s)
    (h : wpAny (model prog w) A (pyIter it) (fun it' s' => codeAny (model prog w) A (.compLoop (.ListComp elt [⟨t0, i0, [], 0⟩, ⟨t1, i1, [], 0⟩] scope pos) 1 it' acc env) R s')
      (notedBy (model prog w) A env fun x s' => R (.error x) s') s) :
    codeAny (model prog w) A (.compStart (.ListComp elt [⟨t0, i0, [], 0⟩, ⟨t1, i1, [], 0⟩] scope pos) 1 it acc env) R s := by
  refine codeAny_of_tree ?_
  show wpAny _ _ ((compStart (.ListComp elt [⟨t0, i0, [], 0⟩, ⟨t1, i1, [], 0⟩] scope pos) 1 it acc env).onRaise (fun x => do noteFrame x env; standAt theWindowsPlace)) _ _ s
  refine wpAny_notedAt ?_
  unfold compStart
  show wpAny _ _ (ask >>= _) _ _ s
  refine wpAny_bind (wpAny_askSetting (wpAny_ite ?_))
  split
  · first
      | exact wpAny_bind (wpAny_pure (wpAny_pure (And.intro rfl h0)))
      | exact wpAny_pure (And.intro rfl h0)
  · first
      | exact wpAny_bind (wpAny_rule (wpAny_bind (wpAny_standAt (wpAny_bind (wpAny_mono h (fun it' s' h' => wpAny_pure (And.intro rfl h')) fun _ _ x => x)))))
      | (refine wpAny_bind (wpAny_rule ?_); show wpAny _ _ (standAt i1.pos >>= _) _ _ s; exact wpAny_bind (wpAny_standAt (wpAny_bind (wpAny_mono h (fun it' s' h' => wpAny_pure (And.intro rfl h')) fun _ _ x => x))))
/-- the inner loop of a comprehension with two sources -/
theorem loop1 {elt t0 i0 t1 i1 : Expr} {scope : Scope} {pos : Pos} {it acc : Value} {env : Env} (I : Nat → Shared → Prop)
    (turn : ∀ n s, I n s → wpAny (model prog w) A (pyNext it) (fun r s₁ => match r with
      | none => R (.ok .next) s₁
      | some v => wpAny (model prog w) A (assign t1 env v) (fun _ s₂ => wpAny (model prog w) A (eval elt env) (fun x s₃ =>
          wpAny (model prog w) A (call (.builtin "list.append") [acc, x]) (fun _ s₄ => ∃ m, m < n ∧ I m s₄) (notedBy (model prog w) A env fun e s' => R (.error e) s') s₃)
          (notedBy (model prog w) A env fun e s' => R (.error e) s') s₂) (notedBy (model prog w) A env fun e s' => R (.error e) s') s₁) (notedBy (model prog w) A env fun e s' => R (.error e) s') s)
    (n : Nat) (h : I n s) (ht : ∀ v, letOwnedTupleGo t1 it v = pure () := by intro _; rfl) :
    codeAny (model prog w) A (.compLoop (.ListComp elt [⟨t0, i0, [], 0⟩, ⟨t1, i1, [], 0⟩] scope pos) 1 it acc env) R s := by
  refine codeAny_loop rfl I (fun n s hI => ?_) n h
  show wpAny _ A ((compTurn (.ListComp elt [⟨t0, i0, [], 0⟩, ⟨t1, i1, [], 0⟩] scope pos) 1 it acc env).onRaise (fun x => do noteFrame x env; theTreesLotGoes x)) _ _ s
  refine wpAny_noted ?_
  rw [compTurn_two1]
  refine wpAny_bind (wpAny_standAt (wpAny_bind (wpAny_mono (turn n s hI) (fun r s₁ h₁ => ?_) fun _ _ h' => h')))
  cases r with
  | none => exact wpAny_pure h₁
  | some v =>
    refine wpAny_bind (wpAny_of_eq (ht v) ?_)
    exact wpAny_bind (wpAny_mono h₁ (fun _ s₂ h₂ => wpAny_bind (wpAny_bind (wpAny_mono h₂ (fun x s₃ h₃ => wpAny_bind (wpAny_mono h₃ (fun _ s₄ h₄ => wpAny_pure (wpAny_pure ⟨rfl, h₄⟩)) fun _ _ h' => h')) fun _ _ h' => h'))) fun _ _ h' => h')
/-- the outer loop -/
theorem loop0 {elt t0 i0 t1 i1 : Expr} {scope : Scope} {pos : Pos} {it acc : Value} {env : Env} (I : Nat → Shared → Prop)
    (turn : ∀ n s, I n s → wpAny (model prog w) A (pyNext it) (fun r s₁ => match r with
      | none => R (.ok .next) s₁
      | some v => wpAny (model prog w) A (letOwnedTupleGo t0 it v) (fun _ s₁' => wpAny (model prog w) A (assign t0 env v) (fun _ s₂ => wpAny (model prog w) A (eval i1 env) (fun x s₃ =>
          wpAny (model prog w) A (pyIter x) (fun it1 s₄ => wpAny (model prog w) A (runOwn (.compStart (.ListComp elt [⟨t0, i0, [], 0⟩, ⟨t1, i1, [], 0⟩] scope pos) 1 it1 acc env) env) (fun _ s₅ => ∃ m, m < n ∧ I m s₅) (notedBy (model prog w) A env fun e s' => R (.error e) s') s₄) (notedBy (model prog w) A env fun e s' => R (.error e) s') s₃)
          (notedBy (model prog w) A env fun e s' => R (.error e) s') s₂) (notedBy (model prog w) A env fun e s' => R (.error e) s') s₁') (notedBy (model prog w) A env fun e s' => R (.error e) s') s₁) (notedBy (model prog w) A env fun e s' => R (.error e) s') s)
    (n : Nat) (h : I n s) (hs : ∀ x, foldedSetIterable i1 env x = pure x := by intro _; rfl) :
    codeAny (model prog w) A (.compLoop (.ListComp elt [⟨t0, i0, [], 0⟩, ⟨t1, i1, [], 0⟩] scope pos) 0 it acc env) R s := by
  refine codeAny_loop rfl I (fun n s hI => ?_) n h
  show wpAny _ A ((compTurn (.ListComp elt [⟨t0, i0, [], 0⟩, ⟨t1, i1, [], 0⟩] scope pos) 0 it acc env).onRaise (fun x => do noteFrame x env; theTreesLotGoes x)) _ _ s
  refine wpAny_noted ?_
  rw [compTurn_two0]
  refine wpAny_bind (wpAny_standAt (wpAny_bind (wpAny_mono (turn n s hI) (fun r s₁ h₁ => ?_) fun _ _ h' => h')))
  cases r with
  | none => exact wpAny_pure h₁
  | some v =>
    refine wpAny_bind (wpAny_mono h₁ (fun _ s₁' h₁' => wpAny_bind (wpAny_mono h₁' (fun _ s₂ h₂ => wpAny_bind (wpAny_mono h₂ (fun x s₃ h₃ => ?_) fun _ _ h' => h')) fun _ _ h' => h')) fun _ _ h' => h')
    refine wpAny_bind (wpAny_standAt (wpAny_bind (wpAny_of_eq (hs x) (wpAny_bind (wpAny_holding (wpAny_mono h₃ (fun it1 s₄ h₄ => ?_) fun _ _ h' => h'))))))
    exact wpAny_bind (wpAny_mono h₄ (fun _ s₅ h₅ => wpAny_pure ⟨rfl, h₅⟩) fun _ _ h' => h')
end
end Mine
namespace Mine
def flatV (xs : List (Int × List Int)) : List Int := xs.flatMap (·.2)
theorem flatV_take {xs : List (Int × List Int)} {i : Nat} {x : Int × List Int} (h : xs[i]? = some x) : flatV (xs.take (i + 1)) = flatV (xs.take i) ++ x.2 := by
  unfold flatV
  rw [List.take_succ, h, List.flatMap_append]
  simp
theorem flatV_len {xs : List (Int × List Int)} (h : ∀ x ∈ xs, x.2.length ≤ 4) : (flatV xs).length ≤ 4 * xs.length := by
  unfold flatV
  induction xs with
  | nil => simp
  | cons a r ih =>
    have h1 := h a List.mem_cons_self
    have h2 := ih fun x hx => h x (List.mem_cons_of_mem _ hx)
    simp only [List.flatMap_cons, List.length_append, List.length_cons]
    walk_at "om"
section
variable {prog : Program} {w : World} {A : Around} {E : Value → Shared → Prop} {Q : Flow → Shared → Prop} {P : Params} {foot : List Addr} {σ s : Shared} {g : Heap} {L la : Addr} {m : Str → Option Value} {led : List (Addr × Obj)} {vs : List Value} {ns : List Int} {n : Nat} {env : Env} {I : Addr}
/-- where the inner loop stands -/
inductive InInv (P : Params) (foot : List Addr) (g : Heap) (σ : Shared) (C J lo : Addr) (rest : Array Value → Nat → List (Addr × Obj)) (n : Nat) (Pr : Nat → List Value → Prop) (kk : Nat) (s' : Shared) : Prop where
  | mk (j : Nat) (mc : Str → Option Value) (ys : Array Value) (k : Nat) (oj : Obj) (hj : j ≤ n) (hkk : kk + j = n + 1) (hob : oj.cls = .type "list_iterator" ∧ oj.data = .fields #[.ref lo, .int j 0]) (O : Own P foot g σ s' C mc ((J, oj) :: rest ys k)) (hP : Pr j ys.toList)
theorem chr_fit {z : Int} (h : 0 ≤ z ∧ z < 256) : (decide (z < 0) || decide (z > 1114111)) = false := by
  simp only [Bool.or_eq_false_iff, decide_eq_false_iff_not]
  exact ⟨by walk_at "om", by walk_at "om"⟩
set_option maxHeartbeats 400000 in
theorem lawS7 {lv : Addr} {vv : List Value} {k : Nat} {xs : List (Int × List Int)} (O : Own w.params foot g σ s L m led) (hh : A.handled = none) (hm : m "values" = some (.ref lv)) (hlv : g.get? lv = some (lstObj vv.toArray k)) (hV : ValsAre g vv xs) (hr : ∀ x ∈ xs, ∀ z ∈ x.2, 0 ≤ z ∧ z < 256) (hx4 : ∀ x ∈ xs, x.2.length ≤ 4) (hsz : xs.length ≤ 100)
    (h : ∀ s' t, Own w.params foot g σ s' L (fun y => if y = "signs" then some (Value.str (chars (flatV xs)) t) else m y) led → Q .next s') : wpAny (model prog w) (A.deeper (EVC w.params 282 L)) (exec (lawSt w.params 7) (EVC w.params 282 L)) Q E s := by
  show wpAny _ _ (exec (Stmt.Assign [Expr.Name _ _] _ _) _) _ _ _
  repeat walk_at "st"
  refine strO (x := "") O fun t₄ s₄ O₄ => ?_
  refine GM.join ?_
  dsimp only
  refine callWith_method1 ?_
  repeat walk_at "st"
  refine compO (cl := []) (P := w.params) (σ := σ) (foot := foot) (L := L) ?_
  refine ldO O₄ (by exact hm) ?_
  refine wpAny_pyIter_list ⟨_, O₄.keep _ _ hlv, rfl, _, rfl⟩ ?_
  have O₅ := O₄.push { cls := .type "list_iterator", data := .fields #[.ref lv, .int 0 0] }
  have hlI : lv ≠ s₄.heap.objs.size := Nat.ne_of_lt (Heap.lt_size (O₄.keep _ _ hlv))
  generalize s₄.heap.objs.size = I at O₅ hlI ⊢
  refine ⟨g, _, _, O₅, fun s₃ Q E hk q => wpAny_pyIter_listiter ⟨_, hk _ _ (O₅.at 0 rfl), rfl, rfl⟩ q, fun C D oL s₅ hD O₆ => ?_⟩
  have hS := srcList (A := A.deeper (EVC w.params 282 L)) (prog := prog) (w := w) hlv hlI hh
  refine loop0 (CompInv w.params foot g σ C L oL D I led vv.length (fun i oi => oi.cls = .type "list_iterator" ∧ oi.data = .fields #[.ref lv, .int i 0]) fun i ys => StrsAre ys ((flatV (xs.take i)).map fun z => chars [z])) ?_ (vv.length + 1) ⟨0, _, #[], 0, _, Nat.zero_le _, rfl, ⟨rfl, rfl⟩, O₆, .nil⟩
  rintro kk s' ⟨i, mc, ys, k', oi, hi, hkk, hob, O', hP⟩
  have hvl := hV.len
  by_cases hlt : i < vv.length
  · refine hS.next i s' oi _ _ hlt (O'.at 2 rfl) hob O'.keep fun v h' o' t' hv ho' hob' hs' => ?_
    dsimp only
    have O₁ := O'.extBut2 2 rfl hs' ho' t'
    generalize hs₁ : ({ s' with heap := h', toks := t' } : Shared) = s₁ at O₁ ⊢
    refine hS.go _ _ _ (i + 1) v s₁ o' _ _ (O₁.at 2 rfl) hob' ?_
    obtain ⟨x, hx⟩ : ∃ x, xs[i]? = some x := ⟨_, List.getElem?_eq_getElem (by walk_at "om")⟩
    obtain ⟨v', hv', hA⟩ := hV.at' i x hx
    have hA : ValAt g v x := by cases hv.symm.trans hv'; exact hA
    obtain ⟨t, kt, tk, lo, k2, os, ht, hlo, hio⟩ := hA
    refine assignPair hh (O₁.keep _ _ ht) fun h₂ hk₂ => ?_
    have O₂ := O₁.more hk₂
    generalize hs₂ : ({ s₁ with heap := h₂ } : Shared) = s₂ at O₂ ⊢
    refine stO O₂ fun s₃ O₃ => stO O₃ fun s₄' O₄' => ?_
    refine ldO O₄' (by rfl) ?_
    refine wpAny_pyIter_list ⟨_, O₄'.keep _ _ hlo, rfl, _, rfl⟩ ?_
    have O₇ := O₄'.push { cls := .type "list_iterator", data := .fields #[.ref lo, .int 0 0] }
    have hloJ : lo ≠ s₄'.heap.objs.size := Nat.ne_of_lt (Heap.lt_size (O₄'.keep _ _ hlo))
    generalize s₄'.heap.objs.size = J at O₇ hloJ ⊢
    generalize hs₇ : ({ s₄' with heap := s₄'.heap.push { cls := .type "list_iterator", data := .fields #[.ref lo, .int 0 0] } } : Shared) = s₇ at O₇ ⊢
    have hiol := hio.length
    have hxm := List.mem_of_getElem? hx
    have hx4' := hx4 x hxm
    refine wpAny_runOwn ?_
    refine (fun hL => start1 hL (wpAny_pyIter_listiter ⟨_, O₇.at 0 rfl, rfl, rfl⟩ hL)) ?_
    have hS1 := srcList (A := (A.deeper (EVC w.params 282 L)).mark none) (prog := prog) (w := w) hlo hloJ (by simpa [Around.mark, Around.deeper] using hh)
    refine loop1 (InInv w.params foot g σ C J lo (fun ys k => (L, oL) :: (D, lstObj ys k) :: (I, o') :: led) os.length fun j ys => StrsAre ys ((flatV (xs.take i) ++ x.2.take j).map fun z => chars [z])) ?_ (os.length + 1) ⟨0, _, ys, k', _, Nat.zero_le _, rfl, ⟨rfl, rfl⟩, O₇, by simpa using hP⟩
    rintro kk₂ s₈ ⟨j, mc₂, ys₂, k₂, oj, hj, hkk₂, hobj, O₈, hP₂⟩
    by_cases hltj : j < os.length
    · refine hS1.next j s₈ oj _ _ hltj (O₈.at 0 rfl) hobj O₈.keep fun v₂ h₃ o₃ t₃ hv₂ ho₃ hob₃ hs₃ => ?_
      dsimp only
      have O₉ := O₈.extBut2 0 rfl hs₃ ho₃ t₃
      generalize hs₉ : ({ s₈ with heap := h₃, toks := t₃ } : Shared) = s₉ at O₉ ⊢
      obtain ⟨z, tz, hz, rfl⟩ := ints_get hio hv₂
      have hzr := hr x hxm z (List.mem_of_getElem? hz)
      refine wpAny_assign_Name ?_
      refine stO O₉ fun s₁₀ O₁₀ => ?_
      repeat walk_at "st"
      refine ldB (v := .builtin "chr") O₁₀ ?_
      refine callWith_method1 ?_
      repeat walk_at "st"
      refine ldO O₁₀ (by rfl) ?_
      repeat walk_at "st"
      refine PySem.P.chr_of_int ?_ ?_
      · simp only [Bool.or_eq_false_iff, decide_eq_false_iff_not]
        exact ⟨by walk_at "om", by walk_at "om"⟩
      have O₁₁ := O₁₀.toks (s₁₀.toks + 1)
      generalize hs₁₁ : ({ s₁₀ with toks := s₁₀.toks + 1 } : Shared) = s₁₁ at O₁₁ ⊢
      have hyl := strs_len hP₂
      have hfl : (flatV (xs.take i)).length ≤ 4 * (xs.take i).length := flatV_len fun y hy => hx4 y (List.mem_of_mem_take hy)
      rw [List.length_take] at hfl
      rw [List.length_map, List.length_append, List.length_take] at hyl
      refine list_appendO O₁₁ 2 rfl (by have : ys₂.toList.length = ys₂.size := by simp
                                        walk_at "om") fun s₁₂ k₁₂ O₁₂ => ?_
      refine ⟨kk₂ - 1, kpos ‹_› ‹_›, j + 1, _, ys₂.push (.str (chars [z]) s₁₀.toks), k₁₂, o₃, hltj, kstep ‹_› ‹_›, hob₃, O₁₂, ?_⟩
      rw [List.take_succ, hz, Array.toList_push, ← List.append_assoc, List.map_append]
      exact Mine.strs_snoc _ _ hP₂
    · have hje : j = os.length := leq ‹_› ‹_›
      refine hS1.stop s₈ oj _ _ (O₈.at 0 rfl) (hje ▸ hobj) O₈.keep fun h₃ hs₃ => ?_
      dsimp only
      refine ⟨kk - 1, kpos ‹_› ‹_›, i + 1, mc₂, ys₂, k₂, o', hlt, kstep ‹_› ‹_›, hob', O₈.lose hs₃, ?_⟩
      rw [flatV_take hx]
      rw [hje, List.take_of_length_le (l := x.2) (Nat.le_of_eq hiol.symm)] at hP₂
      exact hP₂
  · have : i = vv.length := leq ‹_› ‹_›
    refine hS.stop s' oi _ _ (O'.at 2 rfl) (this ▸ hob) O'.keep fun h' hs' => ?_
    dsimp only
    have Op := O'.perm (List.perm_middle (l₁ := [(L, oL), (D, lstObj ys k')])).symm
    refine ⟨_, mc, _, Op.lose hs', fun s₆ O₈ => ?_⟩
    have hfl := flatV_len hx4
    rw [this, List.take_of_length_le (Nat.le_of_eq hvl.symm)] at hP
    repeat walk_at "st"
    refine join_list ⟨_, O₈.at 0 rfl, rfl, _, rfl⟩ hP ?_ fun t' k' => ?_
    · rw [chars_sum, List.length_map]
      show (flatV xs).length + (flatV xs).length * 0 ≤ _
      walk_at "om"
    · rw [chars_join]
      exact stO ((O₈.tail rfl).toks k') fun s₉ O₉ => h s₉ t' O₉
end
end Mine
namespace Mine
section
variable {prog : Program} {w : World} {A : Around} {E : Value → Shared → Prop} {P : Params} {foot : List Addr} {σ s : Shared} {g : Heap} {L la : Addr} {m : Str → Option Value} {led : List (Addr × Obj)} {x : Str} {t : Tok} {value slice : Expr} {Q : Value → Shared → Prop}
theorem ownKept : KeptByPush (fun s => Own P foot g σ s L m led) := fun s o k O => O.more (fun b ob e => Heap.get?_push_of_some _ e) k
theorem str_to {j : Int} {uj : Tok} (O : Own P foot g σ s L m led) (hsz : x.length ≤ 10000) (h : ∀ s' t', Own P foot g σ s' L m led → Q (.str (Txt.slice x none (some j)) t') s')
    (hs : subscripted slice false (.str x t) (.ref s.heap.objs.size) = operate [.ref s.heap.objs.size, .str x t] (getItem (.str x t) (.ref s.heap.objs.size)) := by with_unfolding_all rfl)
    (ht : ∀ r, letTemporaryGo value (.str x t) r = pure () := by intro _; with_unfolding_all rfl) :
    wpAny (model prog w) A (subscriptTail value slice (.str x t) (.ref s.heap.objs.size)) Q E { s with heap := s.heap.push { cls := .type "slice", data := .fields #[.none, .int j uj, .none] } } :=
  tail_of_ItemOn (SBG.sliceItem_ns ownKept O h (by simp only [sizeLine]; walk_at "om")) hs ht
theorem str_from {i : Int} {ui : Tok} (O : Own P foot g σ s L m led) (hsz : x.length ≤ 10000) (h : ∀ s' t', Own P foot g σ s' L m led → Q (.str (Txt.slice x (some i) none) t') s')
    (hs : subscripted slice false (.str x t) (.ref s.heap.objs.size) = operate [.ref s.heap.objs.size, .str x t] (getItem (.str x t) (.ref s.heap.objs.size)) := by with_unfolding_all rfl)
    (ht : ∀ r, letTemporaryGo value (.str x t) r = pure () := by intro _; with_unfolding_all rfl) :
    wpAny (model prog w) A (subscriptTail value slice (.str x t) (.ref s.heap.objs.size)) Q E { s with heap := s.heap.push { cls := .type "slice", data := .fields #[.int i ui, .none, .none] } } :=
  tail_of_ItemOn (SBG.sliceItem_sn ownKept O h (by simp only [sizeLine]; walk_at "om")) hs ht
end
theorem slice_ofL_from (l : List Nat) (k : Nat) : Txt.slice (ofL l) (some (k : Int)) none = ofL (l.drop k) := by
  have hlen : (ofL l).length = l.length := rfl
  by_cases hk : k ≤ l.length
  · rw [slice_from_eq (b := (l.length : Int)) (by walk_at "om") (by rw [hlen]; walk_at "om") (by rw [hlen])]
    show ofL ((l.drop ((k : Int).toNat)).take ((l.length : Int) - k).toNat) = _
    rw [Int.toNat_natCast, List.take_of_length_le (by rw [List.length_drop]; walk_at "om")]
  · rw [slice_beyond (by rw [hlen]; walk_at "om"), List.drop_of_length_le (by walk_at "om")]
    rfl
theorem slice_ofL_to (l : List Nat) (k : Nat) : Txt.slice (ofL l) none (some (k : Int)) = ofL (l.take k) := by
  have hlen : (ofL l).length = l.length := rfl
  by_cases hk : k ≤ l.length
  · rw [beq_iff_eq.mp (slice_closes_toL (x := ofL l) (j := (k : Int)) (by walk_at "om") (by rw [hlen]; walk_at "om"))]
    show ofL ((l.drop ((0 : Int).toNat)).take ((k : Int) - 0).toNat) = _
    rw [show ((k : Int) - 0).toNat = k by walk_at "om"]
    rfl
  · rw [slice_to_beyond (by rw [hlen]; walk_at "om"), hlen, beq_iff_eq.mp (slice_closes_toL (x := ofL l) (j := (l.length : Int)) (by walk_at "om") (by rw [hlen]; walk_at "om"))]
    show ofL ((l.drop ((0 : Int).toNat)).take ((l.length : Int) - 0).toNat) = _
    rw [show ((l.length : Int) - 0).toNat = l.length by walk_at "om", List.take_of_length_le (l := l) (i := k) (by walk_at "om")]
    show ofL (l.take l.length) = _
    rw [List.take_length]
def cutN (nums : List Int) (t : Nat) : Nat := (1 + ((nums.getD (t % nums.length) 0).fdiv 64).fmod 3).toNat
def wordsN (nums : List Int) : Nat → Nat → List Nat → List (List Nat)
  | 0, _, _ => []
  | f + 1, t, l => if l = [] then [] else l.take (cutN nums t) :: wordsN nums f (t + 1) (l.drop (cutN nums t))
theorem cutN_range (nums : List Int) (t : Nat) : 1 ≤ cutN nums t ∧ cutN nums t ≤ 3 := by
  unfold cutN
  have h : 0 ≤ ((nums.getD (t % nums.length) 0).fdiv 64).fmod 3 ∧ ((nums.getD (t % nums.length) 0).fdiv 64).fmod 3 < 3 := fmod_range (b := 3) (by decide)
  walk_at "om"
section
variable {prog : Program} {w : World} {A : Around} {E : Value → Shared → Prop} {Q : Flow → Shared → Prop} {P : Params} {foot : List Addr} {σ s : Shared} {g : Heap} {L la : Addr} {m : Str → Option Value} {led : List (Addr × Obj)} {ns : List Int}
theorem lawS8 (O : Own w.params foot g σ s L m led) (h : ∀ s' lv, Own w.params foot g σ s' L (fun y => if y = "words" then some (Value.ref lv) else m y) ((lv, lstObj #[] 0) :: led) → Q .next s') : wpAny (model prog w) (A.deeper (EVC w.params 282 L)) (exec (lawSt w.params 8) (EVC w.params 282 L)) Q E s := by
  show wpAny _ _ (exec (Stmt.Assign [Expr.Name _ _] _ _) _) _ _ _
  repeat walk_at "st"
  refine lstO O fun lv s₁ hlv O₁ => ?_
  exact stO O₁ fun s₂ O₂ => h s₂ lv O₂
theorem lawS9 (O : Own w.params foot g σ s L m led) (h : ∀ s' t, Own w.params foot g σ s' L (fun y => if y = "turn" then some (Value.int 0 t) else m y) led → Q .next s') : wpAny (model prog w) (A.deeper (EVC w.params 282 L)) (exec (lawSt w.params 9) (EVC w.params 282 L)) Q E s := by
  show wpAny _ _ (exec (Stmt.Assign [Expr.Name _ _] _ _) _) _ _ _
  repeat walk_at "st"
  refine intO O fun t₁ s₁ O₁ => ?_
  exact stO O₁ fun s₂ O₂ => h s₂ _ O₂
end
end Mine
namespace Mine
theorem wordsN_nil (nums : List Int) (f t : Nat) : wordsN nums f t [] = [] := by cases f <;> simp [wordsN]
section
variable {prog : Program} {w : World} {A : Around} {E : Value → Shared → Prop} {Q : Flow → Shared → Prop} {P : Params} {foot : List Addr} {σ s : Shared} {g : Heap} {L la : Addr} {m : Str → Option Value} {led : List (Addr × Obj)} {ns : List Int}
/-- where the while-loop stands: l is not yet cut -/
inductive W10 (P : Params) (foot : List Addr) (g : Heap) (σ : Shared) (L : Addr) (m : Str → Option Value) (led : List (Addr × Obj)) (lv : Addr) (nums : List Int) (l0 : List Nat) (kk : Nat) (s' : Shared) : Prop where
  | mk (turn f : Nat) (l : List Nat) (ws : List (List Nat)) (vw : List Value) (k : Nat) (tt tss : Tok) (m₁ : Str → Option Value) (hk : kk = l.length) (hf : l.length ≤ f) (hl4 : l.length ≤ 400) (htl : turn + l.length ≤ 400) (hws : wordsN nums l0.length 0 l0 = ws ++ wordsN nums f turn l) (hS : StrsAre vw (ws.map ofL)) (hvl : vw.length = turn)
    (O : Own P foot g σ s' L m₁ ((lv, lstObj vw.toArray k) :: led)) (hm : ∀ y : Str, y ≠ "count" → y ≠ "signs" → y ≠ "turn" → m₁ y = m y) (hm1 : m₁ "turn" = some (.int (turn : Nat) tt)) (hm2 : m₁ "signs" = some (.str (ofL l) tss))
theorem w10_fit {n c f t q : Nat} (h1 : 1 ≤ c ∧ c ≤ 3) (hp : 0 < n) (hf : n ≤ f + 1) (h4 : n ≤ 400) (ht : t + n ≤ 400) (hq : q = n - c) : q < n ∧ q ≤ f ∧ q ≤ 400 ∧ t + 1 + q ≤ 400 := by walk_at "om"
theorem cut_int (nums : List Int) (t : Nat) : (1 + ((nums.getD (t % nums.length) 0).fdiv 64).fmod 3 : Int) = ((cutN nums t : Nat) : Int) := by
  have hb : 0 ≤ ((nums.getD (t % nums.length) 0).fdiv 64).fmod 3 ∧ ((nums.getD (t % nums.length) 0).fdiv 64).fmod 3 < 3 := fmod_range (b := 3) (by decide)
  unfold cutN
  walk_at "om"
theorem mod_nat {t n : Nat} : ((t : Nat) : Int).fmod (n : Nat) = ((t % n : Nat) : Int) := by
  rw [Int.fmod_eq_emod_of_nonneg _ (by walk_at "om")]; rfl
set_option maxHeartbeats 400000 in
theorem lawS10 {lv : Addr} {l0 : List Nat} {t0 ts : Tok} (O : Own w.params foot g σ s L m ((lv, lstObj #[] 0) :: led)) (hh : A.handled = none) (F : LawF g L m ns) (hlen : ns.length ≤ 63) (hw : m "words" = some (.ref lv)) (ht : m "turn" = some (.int 0 t0)) (hs : m "signs" = some (.str (ofL l0) ts)) (h0 : l0.length ≤ 400)
    (h : ∀ s' m' vw k, Own w.params foot g σ s' L m' ((lv, lstObj vw.toArray k) :: led) → (∀ y : Str, y ≠ "count" → y ≠ "signs" → y ≠ "turn" → m' y = m y) → StrsAre vw ((wordsN (numsV ns) l0.length 0 l0).map ofL) → Q .next s') :
    wpAny (model prog w) (A.deeper (EVC w.params 282 L)) (exec (lawSt w.params 10) (EVC w.params 282 L)) Q E s := by
  obtain ⟨ln, kn, vn, hn1, hn2, hn3⟩ := F.num
  have hnlen := hn3.length
  have hnl : (numsV ns).length ≤ 17 ∧ 0 < (numsV ns).length := by unfold numsV; simp; walk_at "om"
  refine wpAny_While ?_
  refine codeAny_whileLoop (W10 w.params foot g σ L m led lv (numsV ns) l0) ?_ l0.length ⟨0, l0.length, l0, [], [], 0, t0, ts, m, rfl, Nat.le_refl _, h0, by walk_at "om", rfl, .nil, rfl, O, fun _ _ _ _ => rfl, ht, hs⟩
  rintro kk s' ⟨turn, f, l, ws, vw, k, tt, tss, m₁, rfl, hf, hl4, htl, hws, hS, hvl, O₁, hm, hm1, hm2⟩
  refine wpAny_isTrue_Compare1 ?_
  refine ldO O₁ (by exact hm2) ?_
  refine strO (x := "") O₁ fun t₂ s₂ O₂ => ?_
  refine PySem.P.ne_str ?_
  refine wpAny_pure ?_
  have hvn : vn.toArray.size = (numsV ns).length := by simp [hnlen]
  by_cases hl0 : l = []
  · refine ifF (by rw [hl0]; rfl) ?_
    walk_at "nx"
    rw [hl0, wordsN_nil, List.append_nil] at hws
    refine h s₂ m₁ vw k O₂ hm ?_
    rw [hws]; exact hS
  · refine ifT (by
      show ((l != ([] : List Nat)) = true)
      simpa using hl0) ?_
    have hlp : 0 < l.length := List.length_pos_iff.mpr hl0
    have hx1 : m₁ "numbers" = some (.ref ln) := by rw [hm _ (by decide) (by decide) (by decide)]; exact hn1
    have hx2 : m₁ "words" = some (.ref lv) := by rw [hm _ (by decide) (by decide) (by decide)]; exact hw
    walk_at "nx"
    refine mstN fun N hN => ?_
    repeat walk_at "st"
    refine intO O₂ fun t₃ s₃ O₃ => ?_
    repeat walk_at "st"
    refine ldO O₃ (by exact hx1) ?_
    repeat walk_at "st"
    refine ldO O₃ (by exact hm1) ?_
    repeat walk_at "st"
    refine ldB (v := .builtin "len") O₃ ?_
    refine callWith_method1 ?_
    repeat walk_at "st"
    refine ldO O₃ (by exact hx1) ?_
    repeat walk_at "st"
    refine lenlO O₃ (O₃.keep _ _ hn2) (by walk_at "om") (fun s₄ u₄ O₄ => ?_) hvn
    refine modO O₄ (by walk_at "om") (fun s₅ u₅ O₅ => ?_) mod_nat
    have hidx : turn % (numsV ns).length < (numsV ns).length := Nat.mod_lt _ hnl.2
    obtain ⟨tz, hz⟩ := ints_at (i := turn % (numsV ns).length) (z := (numsV ns).getD (turn % (numsV ns).length) 0) hn3 (by rw [List.getD_eq_getElem?_getD, List.getElem?_eq_getElem hidx]; rfl)
    refine sub_lst (O₅.keep _ _ hn2) (Int.natCast_nonneg _) (by walk_at "om") (v := .int ((numsV ns).getD (turn % (numsV ns).length) 0) tz) (by rw [Int.toNat_natCast]; simpa using hz) ?_
    refine intO O₅ fun t₆ s₆ O₆ => ?_
    refine fdivO O₆ (by decide) fun s₇ u₇ O₇ => ?_
    refine intO O₇ fun t₈ s₈ O₈ => ?_
    refine modO O₈ (by decide) fun s₉ u₉ O₉ => ?_
    refine addO O₉ (fun s₉ u₉ O₉ => ?_) (cut_int (numsV ns) turn)
    have hcr := cutN_range (numsV ns) turn
    generalize hc : cutN (numsV ns) turn = c at hcr ⊢
    refine stO O₉ fun s₁₀ O₁₀ => ?_
    repeat walk_at "st"
    refine ldO O₁₀ (by rw [if_neg (by decide)]; exact hx2) ?_
    refine lst_appendM O₁₀ 0 rfl ?_
    dsimp only
    refine callWith_method1 ?_
    repeat walk_at "st"
    refine ldO O₁₀ (by rw [if_neg (by decide)]; exact hm2) ?_
    repeat walk_at "st"
    refine ldO O₁₀ (by rw [if_pos (by rfl)]) ?_
    repeat walk_at "st"
    refine str_to O₁₀ (by show l.length ≤ _; walk_at "om") fun s₁₁ t₁₁ O₁₁ => ?_
    rw [slice_ofL_to]
    repeat walk_at "st"
    refine list_appendO O₁₁ 0 rfl (by simp; walk_at "om") fun s₁₂ k₁₂ O₁₂ => ?_
    rw [List.push_toArray] at O₁₂
    dsimp only
    repeat walk_at "st"
    refine ldO O₁₂ (by rw [if_neg (by decide)]; exact hm2) ?_
    repeat walk_at "st"
    refine ldO O₁₂ (by rw [if_pos (by rfl)]) ?_
    repeat walk_at "st"
    refine str_from O₁₂ (by show l.length ≤ _; walk_at "om") fun s₁₃ t₁₃ O₁₃ => ?_
    rw [slice_ofL_from]
    refine stO O₁₃ fun s₁₄ O₁₄ => ?_
    walk_at "nx"
    refine mstN fun N hN => ?_
    refine wpAny_AugAssign_Name ?_
    refine ldnO O₁₄ (by rw [if_neg (by decide), if_neg (by decide)]; exact hm1) ?_
    refine intO O₁₄ fun t₁₅ s₁₅ O₁₅ => ?_
    refine PySem.P.iadd_int ?_
    refine stO (O₁₅.toks (s₁₅.toks + 1)) fun s₁₆ O₁₆ => ?_
    walk_at "nx"
    have hdl : (l.drop c).length = l.length - c := List.length_drop
    obtain ⟨f', rfl⟩ : ∃ f', f = f' + 1 := ⟨f - 1, by walk_at "om"⟩
    have hfit := w10_fit hcr hlp hf hl4 htl hdl
    refine ⟨(l.drop c).length, hfit.1, turn + 1, f', l.drop c, ws ++ [l.take c], vw ++ [.str (ofL (l.take c)) t₁₁], k₁₂, s₁₅.toks, t₁₃, _, rfl, hfit.2.1, hfit.2.2.1, hfit.2.2.2, ?_, ?_, by simp [hvl], O₁₆, ?_, ?_, ?_⟩
    · rw [hws]
      show ws ++ (if l = [] then [] else _) = _
      rw [if_neg hl0, hc, List.append_assoc]
      rfl
    · rw [List.map_append]
      exact Mine.strs_snoc _ _ hS
    · intro y h1 h2 h3
      exact (if_neg h3).trans ((if_neg h2).trans ((if_neg h1).trans (hm y h1 h2 h3)))
    · rw [if_pos (by rfl)]
      show some (Value.int ((turn : Int) + 1) _) = some (Value.int ((turn + 1 : Nat) : Int) _)
      rw [Int.natCast_succ]
    · rw [if_neg (by decide), if_pos (by rfl)]
end
end Mine
namespace Mine
section
variable {P : Params} {foot : List Addr} {g : Heap} {σ s s' : Shared} {L : Addr} {m : Str → Option Value} {x d ll : Addr} {z : Int} {ex : List (Addr × Obj)} {tb0 tb20 : Array Value}
theorem fa5c {α : Type} {p : α → Prop} {a b c d e : α} {l : List α} (ha : p a) (hb : p b) (hc : p c) (hd : p d) (he : p e) (hl : ∀ x ∈ l, p x) : ∀ x ∈ a :: b :: c :: d :: e :: l, p x := by
  simpa only [List.forall_mem_cons] using ⟨ha, hb, hc, hd, he, hl⟩
theorem nd3 {x d ll : Addr} {l : List Addr} (h1 : x ≠ d) (h2 : x ≠ ll) (h3 : d ≠ ll) (fx : x ∉ l) (fd : d ∉ l) (fl : ll ∉ l) (nd : l.Nodup) : (x :: d :: ll :: l).Nodup := by simp [h1, h2, h3, fx, fd, fl, nd]
theorem FO.start (O : Own P foot g σ s L m ((197, tabObj tb0) :: (204, tabObj tb20) :: ex)) (p : Post [] s s') (S : FmtS P s'.heap x d ll z [] []) (hx : s.heap.get? x = none) (hd : s.heap.get? d = none) (hll : s.heap.get? ll = none) (hex : ∀ q ∈ ex, q.2.cls ≠ .type "tuple") :
    ∃ xs, FO P ex foot g σ s' L m x d ll z xs [] [] := by
  obtain ⟨xs, k, od, lv, kl, tb, tb2, tz, e1, e2, hn, e3, e4, e5, hP, hS, t1, t2⟩ := id S
  have hxs : xs.toList = [] := List.length_eq_zero_iff.mp hP.len
  obtain ⟨od', es', ep', ho', hd', -⟩ := id hn
  have hd'' : od.data = .dict es' ep' := by cases e2.symm.trans ho'; exact hd'
  refine ⟨xs, k, od, lv, kl, tb, tb2, tz, O.after p (fun _ h => absurd h List.not_mem_nil) (fa5c ⟨e1, .inr hx⟩ ⟨e2, .inr hd⟩ ⟨e3, .inr hll⟩ ⟨e4, .inl (.head _)⟩ ⟨e5, .inl (.tail _ (.head _))⟩ fun q hq => ⟨p.ext _ _ List.not_mem_nil (O.lg q (.tail _ (.tail _ hq))).1, .inl (.tail _ (.tail _ (List.mem_map_of_mem hq)))⟩)
      (nd3 (gnkO e1 e2 (by rw [hd'']; rfl)) (gnc e1 e3 (by simp)) (gnkO e2 e3 (by rw [hd'']; rfl)) (O.fresh hx).2.2 (O.fresh hd).2.2 (O.fresh hll).2.2 O.nd), hn, ⟨hP.len, fun j v q _ e2 => by simp at e2⟩, hS, t1, t2, ⟨fun q hq hc => absurd hc (hex q hq), fun a o _ _ _ hm => by rw [hxs] at hm; exact absurd hm List.not_mem_nil⟩⟩
theorem FO.frz {xs : Array Value} {ps : List (Str × Str)} {lines : List Str} (F : FO P ex foot g σ s L m x d ll z xs ps lines) :
    ∃ g', FO P ex foot g' σ s L m x d ll z xs ps lines ∧ (∀ b o, g.get? b = some o → g'.get? b = some o) ∧ ∀ b o, b ≠ L → b ∉ foot5 x d ll → b ∉ ex.map (·.1) → s.heap.get? b = some o → g'.get? b = some o := by
  obtain ⟨k, od, lv, kl, tb, tb2, tz, O, hn, hP, hS, t1, t2, hE⟩ := id F
  obtain ⟨g', O', k1, k2⟩ := O.freeze (led' := led5 ex x (accObj d xs k) d od ll (lstObj lv kl) (tabObj tb) (tabObj tb2)) (fun p hp => ⟨(O.lg p hp).1, List.mem_map_of_mem (f := fun x : Addr × Obj => x.1) hp⟩) O.nd
  refine ⟨g', ⟨k, od, lv, kl, tb, tb2, tz, O', hn, hP.keeps fun b o e _ => k1 b o e, hS, t1, t2, hE⟩, k1, fun b o h1 h2 h3 e => k2 b o h1 (fun hm => ?_) e⟩
  have hm' : b ∈ foot5 x d ll ++ ex.map (·.1) := hm
  rcases List.mem_append.mp hm' with h | h
  · exact h2 h
  · exact h3 h
end
end Mine
namespace Mine
section
variable {prog : Program} {w : World} {A : Around} {E : Value → Shared → Prop} {Q : Flow → Shared → Prop} {foot : List Addr} {g : Heap} {σ s s' : Shared} {L : Addr} {m : Str → Option Value} {x d ll : Addr} {z : Int} {ex : List (Addr × Obj)} {tb tb2 : Array Value} {ns : List Int}
theorem lawS11 (pg : PG prog w.params) (O : Own w.params foot g σ s L m ((197, tabObj tb) :: (204, tabObj tb2) :: ex)) (ht : Tab1 pLen tb) (ht2 : Tab1 pStr tb2) (hroom : A.depth + 40 < recursionLimit) (F : LawF g L m ns) (hex : ∀ q ∈ ex, q.2.cls ≠ .type "tuple") (hex2 : ∀ q ∈ ex, q.2.cls = .none ∧ ∀ es n, q.2.data ≠ .dict es n)
    (h : ∀ s' g' fm x d ll xs, (∀ b o, g.get? b = some o → g'.get? b = some o) → FO w.params ex foot g' σ s' L (fun y => if y = "formatter" then some (Value.ref fm) else m y) x d ll (headV ns) xs [] [] → FmAt g' fm ll x (widthV ns) → Q .next s') :
    wpAny (model prog w) (A.deeper (EVC w.params 282 L)) (exec (lawSt w.params 11) (EVC w.params 282 L)) Q E s := by
  obtain ⟨-, -, ⟨th, hh⟩, ⟨tw, hw⟩, hnm⟩ := id F
  show wpAny _ _ (exec (Stmt.Assign [Expr.Name _ _] _ _) _) _ _ _
  repeat walk_at "st"
  refine ldG (v := .ref 151) O ?_
  refine callWith_K (h₀ := g) O.kn (by kernel_rfl) ?_
  repeat walk_at "st"
  refine ldO O (by exact hh) ?_
  repeat walk_at "st"
  refine ldO O (by exact hw) ?_
  repeat walk_at "st"
  refine strO (x := " ") O fun t₁ s₁ O₁ => ?_
  repeat walk_at "st"
  refine strO (x := " ") O₁ fun t₂ s₂ O₂ => ?_
  repeat walk_at "st"
  refine ⟨O₂.X, ?_⟩
  refine wpAny_call (fmake_ok pg O₂.X (by show A.depth + 1 + 30 < _; exact dl2 hroom (by decide)) (O₂.at 0 rfl) ht (O₂.at 1 rfl) ht2 fun s₃ fm x d ll p S K n1 n2 n3 n4 => ?_)
  obtain ⟨xs, F₃⟩ := FO.start O₂ p S n2 n3 n4 hex
  obtain ⟨g', F₄, up, upn⟩ := F₃.frz
  have K' : FmAt g' fm ll x (widthV ns) := by
    have K₀ := K.up S (g := hideAll s₃.heap (foot5 x d ll)) fun b o hb e => hide_nodup e hb
    obtain ⟨fd, mm, tW, u1, u3, k1, k2, k3, r4, r5, r6, r7, r8⟩ := id K₀
    have go : ∀ b o, b ≠ L → (o.cls ≠ .none ∨ ∃ es n, o.data = .dict es n) → (hideAll s₃.heap (foot5 x d ll)).get? b = some o → g'.get? b = some o := by
      intro b o hb hc e
      refine upn b o hb (fun hm => ?_) (fun hm => ?_) (of_hideAll _ e)
      · rw [hideAll_none _ hm] at e; cases e
      · obtain ⟨q, hq, rfl⟩ := List.mem_map.mp hm
        have e1 := (p.ext _ _ (by simp) (O₂.lg q (.tail _ (.tail _ hq))).1)
        have e2 := of_hideAll _ e
        rw [e1] at e2; cases e2
        rcases hc with hc | ⟨es, n, hc⟩
        · exact hc (hex2 q hq).1
        · exact (hex2 q hq).2 _ _ hc
    obtain ⟨oL, eL, epL, hL, hdL, hkL, hfL⟩ := F₄.own.ns
    obtain ⟨od, ed, epd, hd1, hd2, hd3, hd4⟩ := id k2
    refine ⟨fd, mm, tW, u1, u3, go fm _ ?_ (.inl (by simp)) k1, ⟨od, ed, epd, go fd _ ?_ (.inr ⟨_, _, hd2⟩) hd1, hd2, hd3, hd4⟩, k3, r4, r5, r6, r7, r8⟩
    · rintro rfl
      have e := of_hideAll _ k1
      rw [hL] at e; cases e; cases hdL
    · rintro rfl
      have e := of_hideAll _ hd1
      rw [hL] at e; cases e
      rw [hdL] at hd2; cases hd2
      have : m "_maxlen" = mm "_maxlen" := (hfL _).symm.trans (hd4 _)
      rw [hnm, k3] at this; cases this
  exact stF F₄ fun s₅ F₅ => h s₅ g' fm x d ll xs up F₅ K'
end
end Mine
namespace Mine
section
variable {P : Params} {foot : List Addr} {g : Heap} {σ s s' : Shared} {L : Addr} {m : Str → Option Value} {x d ll : Addr} {z : Int} {ex : List (Addr × Obj)} {xs : Array Value} {ps : List (Str × Str)} {lines : List Str}
/-- a call has changed the first of the extra objects alone -/
theorem FO.afterEx {e : Addr × Obj} (F : FO P (e :: ex) foot g σ s L m x d ll z xs ps lines) (p : Post [e.1] s s') : FO P ex foot g σ s' L m x d ll z xs ps lines := by
  obtain ⟨k, od, lv, kl, tb, tb2, tz, O, hn, hP, hS, t1, t2, hE⟩ := id F
  have h := List.nodup_cons.mp ((List.perm_middle (l₁ := [x, d, ll, 197, 204])).nodup_iff.mp (O.nd : ([x, d, ll, 197, 204] ++ e.1 :: ex.map (·.1)).Nodup))
  have sub : (led5 ex x (accObj d xs k) d od ll (lstObj lv kl) (tabObj tb) (tabObj tb2)).Sublist (led5 (e :: ex) x (accObj d xs k) d od ll (lstObj lv kl) (tabObj tb) (tabObj tb2)) := .cons₂ _ (.cons₂ _ (.cons₂ _ (.cons₂ _ (.cons₂ _ (.cons _ (List.Sublist.refl _))))))
  have keep : ∀ q ∈ led5 ex x (accObj d xs k) d od ll (lstObj lv kl) (tabObj tb) (tabObj tb2), s'.heap.get? q.1 = some q.2 ∧ (q.1 ∈ (led5 (e :: ex) x (accObj d xs k) d od ll (lstObj lv kl) (tabObj tb) (tabObj tb2)).map (·.1) ∨ s.heap.get? q.1 = none) :=
    fun q hq => ⟨p.ext _ _ (fun hb => h.1 (by have := List.mem_map_of_mem (f := fun x : Addr × Obj => x.1) hq; rw [show q.1 = e.1 from List.mem_singleton.mp hb] at this; exact this)) (O.lg q (sub.subset hq)).1, .inl (List.mem_map_of_mem (f := fun x : Addr × Obj => x.1) (sub.subset hq))⟩
  obtain ⟨o', es, ep, ho, hd, r⟩ := id hn
  have hod := O.at 1 rfl
  rw [ho] at hod
  refine ⟨k, od, lv, kl, tb, tb2, tz, O.after p (by simp) keep h.2, ⟨o', es, ep, ?_, hd, r⟩, hP, hS, t1, t2, ⟨fun q hq => hE.tup q (.tail _ hq), hE.old⟩⟩
  rw [hod]
  exact (keep (d, od) (.tail _ (.head _))).1
end
end Mine
namespace Mine
/-- the signs that a word can hold -/
def sig (c : Nat) : Prop := c ∈ [0, 1, 2, 3, 4, 5, 14, 65, 97, 127, 128, 200, 254, 255]
theorem psum_append (ps qs : List (Str × Str)) : psum (ps ++ qs) = psum ps + psum qs := by
  unfold psum
  induction ps with
  | nil => simp
  | cons a r ih =>
    simp only [List.cons_append, List.map_cons, List.sum_cons] at ih ⊢
    walk_at "om"
theorem psum_one (f v : Str) : psum [(f, v)] = (f.length : Int) + v.length := by simp [psum]
theorem accText_snoc (ps : List (Str × Str)) (f v : Str) : accText (ps ++ [(f, v)]) = accText ps ++ (f ++ v) := by
  apply ext_lst
  unfold accText chunks
  rw [lst_append, lst_append, lst_ofL, lst_ofL, List.flatMap_append]
  simp
theorem accText_one (f v : Str) : accText [(f, v)] = f ++ v := by
  apply ext_lst
  unfold accText chunks
  rw [lst_append, lst_ofL]
  simp
theorem len_sp (v : Str) : ((" " : Str) ++ v).length = 1 + v.length := by rw [Str.length_append]; rfl
theorem len_ofL (v : List Nat) : (ofL v).length = v.length := rfl
theorem ofL_ne {v : List Nat} (h : v ≠ []) (f : Str) : (f, ofL v) ≠ ((" " : Str), ("" : Str)) := fun e => by
  have : ofL v = "" := (Prod.mk.inj e).2
  have := congrArg lst this
  rw [lst_ofL] at this
  exact h this
/-- the formatter between the words, and the rows so far -/
structure LineI (st : FState) (r : List Str × Int) : Prop where
  last : ∃ qs f v, st.2.1 = qs ++ [(f, ofL v)] ∧ v ≠ [] ∧ (∀ c ∈ v, sig c)
  rows : r.1 = st.2.2 ++ [accText st.2.1]
  size : r.2 = st.1 + psum st.2.1
  z0 : 0 ≤ st.1
theorem nl_empty {z : Int} (hz : z > 0) : nlLines z [] [] = [("" : Str)] := by
  have e : nlParts [] = [(("" : Str), ("" : Str))] := by unfold nlParts; rw [if_neg (by decide)]; rfl
  unfold nlLines
  rw [e, if_pos (by rw [psum_one]; show z + (0 + 0) > 0; walk_at "om"), accText_one]
  rfl
theorem line_first {W z : Int} {w0 : List Nat} (hz : 0 ≤ z) (h0 : w0 ≠ []) (hs : ∀ c ∈ w0, sig c) : LineI (apStep W (z, [], []) ("", ofL w0)) (rowsStep z W ([], z) (ofL w0)) := by
  have e0 : ("" : Str) ++ ofL w0 = ofL w0 := by apply ext_lst; rw [lst_append]; rfl
  have ep : psum ([] ++ [(("" : Str), ofL w0)]) = (ofL w0).length := by rw [List.nil_append, psum_one]; show (0 : Int) + _ = _; walk_at "om"
  have ep1 : psum [(("" : Str), ofL w0)] = (ofL w0).length := ep
  unfold apStep apState rowsStep
  dsimp only
  rw [ep]
  by_cases hW : z + ((ofL w0).length : Int) > W
  · rw [if_pos hW, if_pos rfl]
    by_cases hz0 : z > 0
    · rw [if_pos hz0, if_pos rfl, if_neg (by intro h; rcases h.2 with h | h <;> walk_at "om"), if_neg (by walk_at "om"), if_pos rfl, nl_empty hz0]
      refine ⟨⟨[], " ", w0, rfl, h0, hs⟩, ?_, ?_, Int.le_refl _⟩
      · dsimp only; rw [accText_one]
      · dsimp only; rw [psum_one]; show 1 + _ = (0 : Int) + (1 + _); walk_at "om"
    · have : z = 0 := by walk_at "om"
      subst this
      rw [if_neg hz0, if_pos ⟨rfl, .inl rfl⟩]
      refine ⟨⟨[], "", w0, rfl, h0, hs⟩, ?_, ?_, Int.le_refl _⟩
      · dsimp only; rw [accText_one, e0]; rfl
      · dsimp only; rw [ep1]
  · rw [if_neg hW, if_pos ⟨rfl, .inr (by walk_at "om")⟩]
    refine ⟨⟨[], "", w0, rfl, h0, hs⟩, ?_, ?_, hz⟩
    · show [ofL w0] = [] ++ [accText [(_, ofL w0)]]; rw [accText_one, e0]; rfl
    · dsimp only; rw [ep]
theorem line_next {W head : Int} {st : FState} {r : List Str × Int} {v : List Nat} (I : LineI st r) (h0 : v ≠ []) (hs : ∀ c ∈ v, sig c) : LineI (apStep W st (" ", ofL v)) (rowsStep head W r (ofL v)) := by
  obtain ⟨⟨qs, f, u, e1, e2, e3⟩, hr, hz, h⟩ := I
  obtain ⟨z, ps, ls⟩ := st
  obtain ⟨rows, size⟩ := r
  dsimp only at e1 hr hz h
  subst hr hz
  have hne : ps ≠ [] := by rw [e1]; simp
  have ep : z + psum (ps ++ [((" " : Str), ofL v)]) = z + psum ps + 1 + (ofL v).length := by
    rw [psum_append, psum_one]; show z + (psum ps + (1 + _)) = _; walk_at "om"
  unfold apStep apState rowsStep
  dsimp only
  rw [ep, if_neg (show ¬ (ls ++ [accText ps] = [] ∧ _) from fun h => absurd h.1 (by simp))]
  by_cases hW : z + psum ps + 1 + ((ofL v).length : Int) > W
  · rw [if_pos hW, if_neg hne, if_neg (by walk_at "om"), if_neg (by simp)]
    refine ⟨⟨[], " ", v, rfl, h0, hs⟩, ?_, ?_, Int.le_refl _⟩
    · dsimp only; rw [accText_one]
    · dsimp only; rw [psum_one]; show 1 + _ = (0 : Int) + (1 + _); walk_at "om"
  · rw [if_neg hW, if_pos (by walk_at "om")]
    refine ⟨⟨ps, " ", v, rfl, h0, hs⟩, ?_, ?_, h⟩
    · dsimp only; rw [List.dropLast_concat, List.getLastD_concat, accText_snoc]
    · dsimp only; rw [ep]; walk_at "om"
theorem line_fold {W head : Int} : ∀ {ws : List (List Nat)} {st : FState} {r : List Str × Int}, LineI st r → (∀ v ∈ ws, v ≠ [] ∧ ∀ c ∈ v, sig c) → LineI (apFold W st (ws.map fun w => (" ", ofL w))) ((ws.map ofL).foldl (rowsStep head W) r)
  | [], _, _, I, _ => I
  | v :: ws, st, r, I, h => line_fold (ws := ws) (line_next I (h v List.mem_cons_self).1 (h v List.mem_cons_self).2) fun u hu => h u (List.mem_cons_of_mem _ hu)
theorem line_all {W z : Int} {w0 : List Nat} {ws : List (List Nat)} (hz : 0 ≤ z) (h : ∀ v ∈ w0 :: ws, v ≠ [] ∧ ∀ c ∈ v, sig c) : LineI (apFold W (z, [], []) (chunksOf w0 ws)) (((w0 :: ws).map ofL).foldl (rowsStep z W) ([], z)) :=
  line_fold (line_first hz (h w0 List.mem_cons_self).1 (h w0 List.mem_cons_self).2) fun u hu => h u (List.mem_cons_of_mem _ hu)
theorem isspace_not {x : Str} {c : Nat} (hm : c ∈ lst x) (hc : Unicode.isSpace c = false) : Txt.isspace x = false := by
  unfold Txt.isspace
  rw [Bool.and_eq_false_iff]
  refine .inr ?_
  rw [← Bool.not_eq_true]
  intro h
  have := Array.all_eq_true'.mp h c (Array.mem_toList_iff.mp hm)
  rw [hc] at this; cases this
theorem sig_facts {c : Nat} (h : sig c) : Unicode.isSpace c = false ∧ blank c = false ∧ c ≠ 10 ∧ c ≠ 32 ∧ c < 256 := by
  unfold sig at h
  simp only [List.mem_cons, List.not_mem_nil, or_false] at h
  rcases h with rfl | rfl | rfl | rfl | rfl | rfl | rfl | rfl | rfl | rfl | rfl | rfl | rfl | rfl <;> decide +kernel
/-- what _str writes are the rows -/
theorem line_end {st : FState} {r : List Str × Int} (I : LineI st r) : nlLines st.1 st.2.1 st.2.2 = r.1 ∧ (st.1 == 0 && (st.1 + psum (nlParts st.2.1) == 0 || Txt.isspace (accText (nlParts st.2.1)))) = false := by
  obtain ⟨⟨qs, f, v, e1, e2, e3⟩, hr, -, hz⟩ := I
  have hp : nlParts st.2.1 = st.2.1 := by
    rw [e1]; unfold nlParts
    rw [List.getLastD_concat, if_neg (ofL_ne e2 f), List.dropLast_concat]
  have hl : 0 < psum st.2.1 := by
    rw [e1, psum_append, psum_one]
    have h1 := psum_nonneg qs
    have h2 : 0 < v.length := List.length_pos_iff.mpr e2
    rw [len_ofL]
    walk_at "om"
  refine ⟨?_, ?_⟩
  · unfold nlLines
    rw [hp, if_pos (by walk_at "om"), hr]
  · rw [hp]
    obtain ⟨c, hc⟩ := List.exists_mem_of_ne_nil v e2
    have : Txt.isspace (accText st.2.1) = false := by
      refine isspace_not (c := c) ?_ (sig_facts (e3 c hc)).1
      rw [e1, accText_snoc, lst_append, lst_append, lst_ofL]
      simp [hc]
    rw [this]
    have h0 : (st.1 + psum st.2.1 == 0) = false := by simp; walk_at "om"
    rw [h0]; simp
end Mine
namespace Mine
theorem foldr_init (b : List Int) (i : Int) : b.foldr (fun x acc => acc * 256 + x) i = b.foldr (fun x acc => acc * 256 + x) 0 + i * 256 ^ b.length := by
  induction b with
  | nil => simp
  | cons a r ih =>
    rw [List.foldr_cons, List.foldr_cons, ih, List.length_cons, Int.pow_succ, Int.add_mul, Int.mul_assoc]
    walk_at "om"
theorem foldr_bytes : ∀ {b : List Int}, (∀ z ∈ b, 0 ≤ z ∧ z < 256) → (b.map fun n => n.toNat.toUInt8).foldr (fun (c : UInt8) (acc : Int) => acc * 256 + (c.toNat : Int)) 0 = b.foldr (fun x acc => acc * 256 + x) 0
  | [], _ => rfl
  | a :: r, h => by
    rw [List.map_cons, List.foldr_cons, List.foldr_cons, foldr_bytes fun z hz => h z (List.mem_cons_of_mem _ hz)]
    have h1 := h a List.mem_cons_self
    have e : ((a.toNat.toUInt8.toNat : Nat) : Int) = a := by
      rw [show a.toNat.toUInt8.toNat = a.toNat % 256 from rfl]
      walk_at "om"
    rw [e]
theorem byte_ge {z : Int} (h : 0 ≤ z ∧ z < 256) : decide (z.toNat.toUInt8 ≥ 128) = decide (127 < z) := by
  refine decide_eq_decide.mpr ?_
  show (128 : UInt8).toNat ≤ z.toNat.toUInt8.toNat ↔ _
  rw [show z.toNat.toUInt8.toNat = z.toNat % 256 from rfl]
  show 128 ≤ z.toNat % 256 ↔ _
  walk_at "om"
theorem le_numV {n0 : Int} {b : List Int} (h : ∀ z ∈ b, 0 ≤ z ∧ z < 256) (h0 : n0 = (b.length : Nat)) : leSigned (byteArr b).toList = numV (n0 :: b) := by
  have hl : (byteArr b).toList = b.map fun n => n.toNat.toUInt8 := by simp [byteArr]
  unfold leSigned numV
  rw [hl, List.foldl_reverse, foldr_bytes h, List.head?_reverse, List.length_map, List.drop_one, List.tail_cons]
  by_cases hb : b = []
  · subst hb
    subst h0
    rfl
  · have e1 : (b.map fun n => n.toNat.toUInt8).getLast? = some (b.getLast hb).toNat.toUInt8 := by
      rw [List.getLast?_map, List.getLast?_eq_some_getLast hb]; rfl
    have e2 : (n0 :: b).getLastD 0 = b.getLast hb := by
      rw [List.getLastD_cons, List.getLastD_eq_getLast?, List.getLast?_eq_some_getLast hb]; rfl
    rw [e1, e2]
    show (if decide _ = true then _ else _) = _
    rw [byte_ge (h _ (List.getLast_mem hb))]
    by_cases hg : 127 < b.getLast hb
    · rw [if_pos (decide_eq_true hg), if_pos hg, foldr_init b (-1)]; walk_at "om"
    · rw [if_neg (by simpa using hg), if_neg hg]
structure ValOk (x : Int × List Int) : Prop where
  kind : 0 ≤ x.1 ∧ x.1 ≤ 3
  oct : ∀ z ∈ x.2, 0 ≤ z ∧ sig z.toNat
  zero : x.1 = 0 → ∃ a, x.2 = [a]
  count : x.1 ≠ 0 → ∃ b : List Int, x.2 = ((b.length : Nat) : Int) :: b ∧ b.length ≤ 3
theorem ValOk.r {x : Int × List Int} (V : ValOk x) : ∀ z ∈ x.2, 0 ≤ z ∧ z < 256 := fun z hz => by
  have h1 := V.oct z hz
  have h2 := (sig_facts h1.2).2.2.2.2
  walk_at "om"
theorem ValOk.ne {x : Int × List Int} (V : ValOk x) : x.2 ≠ [] := by
  by_cases h : x.1 = 0
  · obtain ⟨a, e⟩ := V.zero h; rw [e]; simp
  · obtain ⟨b, e, -⟩ := V.count h; rw [e]; simp
theorem ValOk.len {x : Int × List Int} (V : ValOk x) : x.2.length ≤ 4 := by
  by_cases h : x.1 = 0
  · obtain ⟨a, e⟩ := V.zero h; rw [e]; simp
  · obtain ⟨b, e, h3⟩ := V.count h; rw [e]; simp; walk_at "om"
theorem tryV_part {x : Int × List Int} (V : ValOk x) {n : Nat} (h : n < x.2.length) : tryV x.1 (x.2.take n) = .error (wordsV x.1 (x.2.headD 0) n) := by
  cases n with
  | zero =>
    rw [List.take_zero]
    unfold wordsV
    rw [if_pos (show ((0 : Nat) : Int) = 0 from rfl)]
    rfl
  | succ k =>
    have hk : x.1 ≠ 0 := fun e => by
      obtain ⟨a, e⟩ := V.zero e
      rw [e] at h
      simp at h
    obtain ⟨b, e, hb3⟩ := V.count hk
    rw [e] at h ⊢
    have hkb : k < b.length := by simpa using h
    have hkt : (b.take k).length = k := by rw [List.length_take]; walk_at "om"
    unfold wordsV
    rw [List.take_succ_cons]
    show (if x.1 = 0 then _ else if (b.take k).length < (((b.length : Nat) : Int)).toNat then _ else _) = _
    rw [if_neg hk, hkt, if_pos (show k < (((b.length : Nat) : Int)).toNat by walk_at "om"), if_neg (show ¬ ((k + 1 : Nat) : Int) = 0 by walk_at "om")]
    show _ = Except.error (if x.1 = 3 then _ else shortMsg _ ((b.length : Nat) : Int) (((k + 1 : Nat) : Int) - 1))
    rw [show ((k + 1 : Nat) : Int) - 1 = (k : Nat) by walk_at "om"]
    have hkd := V.kind
    have : x.1 = 1 ∨ x.1 = 2 ∨ x.1 = 3 := by walk_at "om"
    rcases this with h1 | h1 | h1 <;> rw [h1] <;> rfl
theorem tryV_whole {x : Int × List Int} (V : ValOk x) (rest : List Int) : tryV x.1 (x.2 ++ rest) = .ok (valueV x.1 x.2, rest) := by
  by_cases hk : x.1 = 0
  · obtain ⟨a, e⟩ := V.zero hk
    rw [e, hk]; rfl
  · obtain ⟨b, e, hb3⟩ := V.count hk
    have hr := V.r
    rw [e] at hr ⊢
    rw [List.cons_append]
    show (if x.1 = 0 then _ else if (b ++ rest).length < (((b.length : Nat) : Int)).toNat then _ else _) = _
    rw [if_neg hk, if_neg (show ¬ (b ++ rest).length < (((b.length : Nat) : Int)).toNat by rw [List.length_append]; walk_at "om"), Int.toNat_natCast, List.take_left', List.drop_left'] <;> try rfl
    unfold valueV
    have hkd := V.kind
    have : x.1 = 1 ∨ x.1 = 2 ∨ x.1 = 3 := by walk_at "om"
    rcases this with h1 | h1 | h1
    · rw [h1]; rfl
    · rw [h1]; rfl
    · rw [h1]
      show Except.ok (TV.int (leSigned (byteArr b).toList), rest) = Except.ok (TV.int (numV _), rest)
      rw [le_numV (fun z hz => hr z (List.mem_cons_of_mem _ hz)) rfl]
theorem split_lt {α : Type} {wt rest a b : List α} (h : wt ++ rest = a ++ b) (hl : wt.length < a.length) : wt = a.take wt.length := by
  have := congrArg (List.take wt.length) h
  rw [List.take_left', List.take_append_of_le_length (by walk_at "om")] at this
  · exact this
  · rfl
theorem split_ge {α : Type} {wt rest a b : List α} (h : wt ++ rest = a ++ b) (hl : a.length ≤ wt.length) : wt = a ++ wt.drop a.length ∧ wt.drop a.length ++ rest = b := by
  have h1 := congrArg (List.take a.length) h
  have h2 := congrArg (List.drop a.length) h
  rw [List.take_append_of_le_length hl, List.take_left' rfl] at h1
  rw [List.drop_append_of_le_length hl, List.drop_left' rfl] at h2
  refine ⟨?_, h2⟩
  conv => lhs; rw [← List.take_append_drop a.length wt, h1]
/-- the octets on a row -/
def rowOct (r : Str) : List Int := ((lst r).filter (· ≠ 32)).map Int.ofNat
def rowsOct (rows : List Str) : List Int := rows.flatMap rowOct
theorem rowOct_append (x y : Str) : rowOct (x ++ y) = rowOct x ++ rowOct y := by
  unfold rowOct
  rw [lst_append, List.filter_append, List.map_append]
theorem rowOct_word {v : List Nat} (h : ∀ c ∈ v, sig c) : rowOct (ofL v) = v.map Int.ofNat := by
  unfold rowOct
  rw [lst_ofL, List.filter_eq_self.mpr]
  intro c hc
  simpa using (sig_facts (h c hc)).2.2.2.1
theorem rowOct_sp (x : Str) : rowOct (" " ++ x) = rowOct x := by
  rw [rowOct_append]; rfl
theorem rowsOct_append (x y : List Str) : rowsOct (x ++ y) = rowsOct x ++ rowsOct y := List.flatMap_append ..
theorem rowsOct_one (x : Str) : rowsOct [x] = rowOct x := by unfold rowsOct; simp
theorem rowsOct_step {head W : Int} {st : List Str × Int} {v : List Nat} (h : ∀ c ∈ v, sig c) (hn : st.1 = [] → st.2 = head) (hv : v ≠ []) : rowsOct (rowsStep head W st (ofL v)).1 = rowsOct st.1 ++ v.map Int.ofNat ∧ (rowsStep head W st (ofL v)).1 ≠ [] := by
  have hp : 0 < v.length := List.length_pos_iff.mpr hv
  unfold rowsStep
  split
  · rename_i h1
    rw [h1.1]
    exact ⟨by dsimp only; rw [rowsOct_one, rowOct_word h]; rfl, by simp⟩
  · rename_i h1
    split
    · rename_i h2
      have h3 : st.1 ≠ [] := fun e => h1 ⟨e, .inr (by have := hn e; walk_at "om")⟩
      refine ⟨?_, by simp⟩
      dsimp only
      rw [rowsOct_append, rowsOct_one, rowOct_append, rowOct_sp, rowOct_word h, ← List.append_assoc, ← rowsOct_one (st.1.getLastD ""), ← rowsOct_append]
      congr 2
      rw [List.getLastD_eq_getLast?, List.getLast?_eq_some_getLast h3]
      exact List.dropLast_concat_getLast h3
    · refine ⟨?_, by simp⟩
      dsimp only
      rw [rowsOct_append, rowsOct_one, rowOct_sp, rowOct_word h]
      congr 1
      split
      · rename_i e; rw [e]; rfl
      · rfl
theorem rowsOct_fold {head W : Int} : ∀ {ws : List (List Nat)} {st : List Str × Int}, (∀ v ∈ ws, v ≠ [] ∧ ∀ c ∈ v, sig c) → (st.1 = [] → st.2 = head) → rowsOct ((ws.map ofL).foldl (rowsStep head W) st).1 = rowsOct st.1 ++ ws.flatten.map Int.ofNat
  | [], st, _, _ => by simp
  | v :: ws, st, h, hn => by
    have h1 := rowsOct_step (head := head) (W := W) (st := st) (h v List.mem_cons_self).2 hn (h v List.mem_cons_self).1
    rw [List.map_cons, List.foldl_cons, rowsOct_fold (fun u hu => h u (List.mem_cons_of_mem _ hu)) (fun e => absurd e h1.2), h1.1, List.flatten_cons, List.map_append, List.append_assoc]
end Mine
namespace Mine
theorem pickV_mem (z : Int) : pickV z ∈ tabL := by
  have hb : 0 ≤ z.fmod 16 ∧ z.fmod 16 < 16 := fmod_range (b := 16) (by decide)
  have hl : (z.fmod 16).toNat < tabL.length := by show _ < 16; walk_at "om"
  unfold pickV
  rw [List.getD_eq_getElem?_getD, List.getElem?_eq_getElem hl]
  exact List.getElem_mem hl
theorem tab_sig {z : Int} (h : z ∈ tabL) : 0 ≤ z ∧ sig z.toNat := by
  unfold tabL at h
  simp only [List.mem_cons, List.not_mem_nil, or_false] at h
  unfold sig
  rcases h with rfl | rfl | rfl | rfl | rfl | rfl | rfl | rfl | rfl | rfl | rfl | rfl | rfl | rfl | rfl | rfl <;> decide
theorem body_len (x : Int) : (bodyV x).length ≤ 3 := by
  unfold bodyV
  have hb : 0 ≤ (restV x).fmod 4 ∧ (restV x).fmod 4 < 4 := fmod_range (b := 4) (by decide)
  rw [List.length_map, List.length_range]
  walk_at "om"
theorem valOf_ok (x : Int) : ValOk (valOf x) := by
  have hx : 0 ≤ x.fmod 4 ∧ x.fmod 4 < 4 := fmod_range (b := 4) (by decide)
  have hl := body_len x
  unfold valOf
  by_cases h : x.fmod 4 = 0
  · rw [if_pos h]
    refine ⟨⟨Int.le_refl _, show (0 : Int) ≤ 3 by decide⟩, fun z hz => ?_, fun _ => ⟨_, rfl⟩, fun h => absurd rfl h⟩
    have : z = pickV ((restV x).fdiv 4) := by simpa using hz
    subst this
    exact tab_sig (pickV_mem _)
  · rw [if_neg h]
    refine ⟨⟨hx.1, by dsimp only; walk_at "om"⟩, fun z hz => ?_, fun e => absurd e h, fun _ => ⟨_, rfl, hl⟩⟩
    rcases List.mem_cons.mp hz with rfl | hz
    · have : (bodyV x).length = 0 ∨ (bodyV x).length = 1 ∨ (bodyV x).length = 2 ∨ (bodyV x).length = 3 := by walk_at "om"
      refine ⟨by walk_at "om", ?_⟩
      unfold sig
      rcases this with h | h | h | h <;> rw [h] <;> decide
    · unfold bodyV at hz
      obtain ⟨k, -, rfl⟩ := List.mem_map.mp hz
      exact tab_sig (pickV_mem _)
theorem wordsN_flat (nums : List Int) : ∀ (f t : Nat) (l : List Nat), l.length ≤ f → (wordsN nums f t l).flatten = l
  | 0, t, l, h => by
    have : l = [] := List.length_eq_zero_iff.mp (by walk_at "om")
    subst this; rfl
  | f + 1, t, l, h => by
    unfold wordsN
    split
    · rename_i e; subst e; rfl
    · have hc := cutN_range nums t
      rename_i hne
      have hp : 0 < l.length := List.length_pos_iff.mpr hne
      rw [List.flatten_cons, wordsN_flat nums f (t + 1) (l.drop (cutN nums t)) (by rw [List.length_drop]; walk_at "om")]
      exact List.take_append_drop ..
theorem wordsN_ok (nums : List Int) : ∀ (f t : Nat) (l : List Nat), ∀ v ∈ wordsN nums f t l, v ≠ [] ∧ v.length ≤ 3 ∧ ∀ c ∈ v, c ∈ l
  | 0, t, l, v, hv => absurd hv List.not_mem_nil
  | f + 1, t, l, v, hv => by
    unfold wordsN at hv
    split at hv
    · exact absurd hv List.not_mem_nil
    · have hc := cutN_range nums t
      rename_i hne
      have hp : 0 < l.length := List.length_pos_iff.mpr hne
      rcases List.mem_cons.mp hv with rfl | hv
      · refine ⟨fun e => ?_, by rw [List.length_take]; walk_at "om", fun c h => List.mem_of_mem_take h⟩
        have := congrArg List.length e
        rw [List.length_take, List.length_nil] at this
        walk_at "om"
      · obtain ⟨h1, h2, h3⟩ := wordsN_ok nums f (t + 1) _ v hv
        exact ⟨h1, h2, fun c h => List.mem_of_mem_drop (h3 c h)⟩
theorem wordsN_len (nums : List Int) : ∀ (f t : Nat) (l : List Nat), (wordsN nums f t l).length ≤ l.length
  | 0, t, l => Nat.zero_le _
  | f + 1, t, l => by
    unfold wordsN
    split
    · exact Nat.zero_le _
    · have hc := cutN_range nums t
      rename_i hne
      have hp : 0 < l.length := List.length_pos_iff.mpr hne
      have := wordsN_len nums f (t + 1) (l.drop (cutN nums t))
      rw [List.length_drop] at this
      rw [List.length_cons]
      walk_at "om"
theorem wordsN_ne (nums : List Int) {f : Nat} {l : List Nat} (t : Nat) (h : l ≠ []) (hf : l.length ≤ f) : wordsN nums f t l ≠ [] := fun e => by
  have := wordsN_flat nums f t l hf
  rw [e] at this
  exact h this.symm
/-- the values of the law, their octets and words -/
def valsV (ns : List Int) : List (Int × List Int) := (numsV ns).map valOf
def octV (ns : List Int) : List Nat := (flatV (valsV ns)).map Int.toNat
def wdsV (ns : List Int) : List (List Nat) := wordsN (numsV ns) (octV ns).length 0 (octV ns)
theorem vals_ok (ns : List Int) : ∀ x ∈ valsV ns, ValOk x := fun x hx => by
  obtain ⟨y, -, rfl⟩ := List.mem_map.mp hx
  exact valOf_ok y
theorem nums_len (ns : List Int) : (numsV ns).length ≤ 17 ∧ 3 ≤ (numsV ns).length := by unfold numsV; simp; walk_at "om"
theorem flat_ok (ns : List Int) : ∀ z ∈ flatV (valsV ns), 0 ≤ z ∧ sig z.toNat := fun z hz => by
  obtain ⟨x, hx, hz⟩ := List.mem_flatMap.mp hz
  exact (vals_ok ns x hx).oct z hz
theorem oct_len (ns : List Int) : (octV ns).length ≤ 68 := by
  have h1 := flatV_len (xs := valsV ns) fun x hx => (vals_ok ns x hx).len
  have h2 := (nums_len ns).1
  unfold octV
  rw [List.length_map]
  unfold valsV at h1 ⊢
  rw [List.length_map] at h1
  walk_at "om"
theorem oct_sig (ns : List Int) : ∀ c ∈ octV ns, sig c := fun c hc => by
  obtain ⟨z, hz, rfl⟩ := List.mem_map.mp hc
  exact (flat_ok ns z hz).2
theorem oct_back (ns : List Int) : (octV ns).map Int.ofNat = flatV (valsV ns) := by
  unfold octV
  rw [List.map_map]
  conv => rhs; rw [← List.map_id (flatV (valsV ns))]
  refine List.map_congr_left fun z hz => ?_
  show ((z.toNat : Nat) : Int) = z
  have := (flat_ok ns z hz).1
  walk_at "om"
theorem oct_ne (ns : List Int) : octV ns ≠ [] := fun e => by
  have h := congrArg List.length e
  unfold octV valsV numsV flatV at h
  rw [List.length_map, List.length_nil] at h
  have h2 := List.length_eq_zero_iff.mp h
  rw [List.map_append, List.flatMap_append, List.append_eq_nil_iff] at h2
  have h3 := h2.1
  simp only [List.map_cons, List.flatMap_cons, List.append_eq_nil_iff] at h3
  exact (valOf_ok _).ne h3.1
theorem words_ok' (ns : List Int) : ∀ v ∈ wdsV ns, v ≠ [] ∧ ∀ c ∈ v, sig c := fun v hv => by
  obtain ⟨h1, h2, h3⟩ := wordsN_ok _ _ _ _ v hv
  exact ⟨h1, fun c hc => oct_sig ns c (h3 c hc)⟩
theorem wds_cons (ns : List Int) : ∃ w0 ws0, wdsV ns = w0 :: ws0 ∧ ws0.length ≤ 67 ∧ ∀ v ∈ w0 :: ws0, v.length ≤ 3 := by
  have hne := wordsN_ne (numsV ns) 0 (oct_ne ns) (Nat.le_refl _)
  have hl := wordsN_len (numsV ns) (octV ns).length 0 (octV ns)
  have h68 := oct_len ns
  have hok := wordsN_ok (numsV ns) (octV ns).length 0 (octV ns)
  unfold wdsV
  cases h : wordsN (numsV ns) (octV ns).length 0 (octV ns) with
  | nil => exact absurd h hne
  | cons w0 ws0 =>
    rw [h, List.length_cons] at hl
    exact ⟨w0, ws0, rfl, by walk_at "om", fun v hv => (hok v (h ▸ hv)).2.1⟩
/-- the rows -/
def rowsV (ns : List Int) : List Str := (((wdsV ns).map ofL).foldl (rowsStep (headV ns) (widthV ns)) ([], headV ns)).1
theorem rows_oct (ns : List Int) : rowsOct (rowsV ns) = flatV (valsV ns) := by
  unfold rowsV
  rw [rowsOct_fold (head := headV ns) (words_ok' ns) (fun _ => rfl)]
  show [] ++ _ = _
  rw [List.nil_append, show (wdsV ns).flatten = octV ns from wordsN_flat _ _ _ _ (Nat.le_refl _), oct_back]
end Mine
namespace Mine
open PySem.Builtin.Str
section
variable {prog : Program} {w : World} {A : Around} {E : Value → Shared → Prop} {P : Params} {foot : List Addr} {σ s : Shared} {g : Heap} {L : Addr} {m : Str → Option Value} {led : List (Addr × Obj)} {x y : Str} {t u : Tok} {Q : Value → Shared → Prop}
theorem str_splitO (O : Own P foot g σ s L m led) (hy : (y.length == 0) = false) (hsz : x.length + 2 ≤ sizeLine)
    (h : ∀ D vs s', StrsAre vs (Txt.split x y) → s.heap.get? D = none → Own P foot g σ s' L m ((D, lstObj vs.toArray 0) :: led) → Q (.ref D) s') :
    wpAny (model prog w) A (call (.builtin "str.split") [.str x t, .str y u]) Q E s := by
  have go : ∀ (l : List (Str × Tok)) k, l.map (·.1) = Txt.split x y → Q (.ref s.heap.objs.size) { s with heap := s.heap.push (lstObj (strValues l).toArray 0), toks := k } := fun l k e =>
    h _ _ _ (e ▸ strsAre_of_values l) (get?_size_none _) (O.push _ rfl k)
  by_cases h1 : (decide (x.length < y.length) || decide (strKind x < strKind y)) = true
  · exact call_meets PySem.F.slot_str_split (typeIs_str _ _ _) PySem.F.entry_str_split (PySem.F.args_str_split_2 _ _) (meets_str_split_cannot_occur x y t u h1) (go [(x, t)] s.toks (by unfold Txt.split; rw [if_pos h1]; rfl))
  · by_cases hf : (occurrences x y 0 x.length (x.length + 1)).isEmpty = true
    · exact call_meets PySem.F.slot_str_split (typeIs_str _ _ _) PySem.F.entry_str_split (PySem.F.args_str_split_2 _ _) (meets_str_split_not_found x y t u (by simpa using h1) hy hf) (go [(x, t)] s.toks (by unfold Txt.split; rw [if_neg h1, if_pos hf]; rfl))
    · have hn : (partsBetween x (occurrences x y 0 x.length (x.length + 1)) y.length).length ≤ sizeLine := by
        have e := split_le x y
        unfold Txt.split at e
        rw [if_neg h1, if_neg hf] at e
        walk_at "om"
      refine call_meets PySem.F.slot_str_split (typeIs_str _ _ _) PySem.F.entry_str_split (PySem.F.args_str_split_2 _ _) (meets_str_split_sep x y t u (by simpa using h1) hy (by simpa using hf) (by walk_at "om") hn) ?_
      have := go (numbered s.toks (partsBetween x (occurrences x y 0 x.length (x.length + 1)) y.length)) (s.toks + (partsBetween x (occurrences x y 0 x.length (x.length + 1)) y.length).length) (by rw [numbered_texts]; unfold Txt.split; rw [if_neg h1, if_neg hf])
      rw [← strsFrom_eq] at this
      exact this
end
/-- a text that was joined by a sign comes apart again -/
theorem join_lst (c : Nat) : ∀ (x : Str) (l : List Str), lst (Str.join ⟨#[c]⟩ (x :: l)) = lst x ++ l.flatMap fun y => c :: lst y
  | x, [] => by simp [Str.join]
  | x, y :: l => by
    show lst (x ++ _ ++ Str.join _ (y :: l)) = _
    rw [lst_append, lst_append, join_lst c y l, List.flatMap_cons, List.append_assoc]
    rfl
theorem join_uniq (c : Nat) : ∀ (l l' : List Str) (x x' : Str), c ∉ lst x → c ∉ lst x' → (∀ y ∈ l, c ∉ lst y) → (∀ y ∈ l', c ∉ lst y) → lst x ++ (l.flatMap fun y => c :: lst y) = lst x' ++ (l'.flatMap fun y => c :: lst y) → x :: l = x' :: l' := by
  have cut : ∀ (a a' : List Nat) (r r' : List Nat), c ∉ a → c ∉ a' → a ++ c :: r = a' ++ c :: r' → a = a' ∧ r = r' := by
    intro a
    induction a with
    | nil =>
      intro a' r r' _ h2 e
      cases a' with
      | nil => exact ⟨rfl, by simpa using e⟩
      | cons b a' =>
        have : c = b := by simpa using (List.cons.inj e).1
        exact absurd (this ▸ List.mem_cons_self) h2
    | cons b a ih =>
      intro a' r r' h1 h2 e
      cases a' with
      | nil =>
        have : b = c := by simpa using (List.cons.inj e).1
        exact absurd (this ▸ List.mem_cons_self) h1
      | cons b' a' =>
        obtain ⟨e1, e2⟩ := List.cons.inj e
        obtain ⟨e3, e4⟩ := ih a' r r' (fun h => h1 (List.mem_cons_of_mem _ h)) (fun h => h2 (List.mem_cons_of_mem _ h)) e2
        exact ⟨by rw [e1, e3], e4⟩
  intro l
  induction l with
  | nil =>
    intro l' x x' h1 h2 _ _ e
    cases l' with
    | nil => rw [show x = x' from ext_lst (by simpa using e)]
    | cons y l' =>
      rw [List.flatMap_nil, List.append_nil, List.flatMap_cons] at e
      exact absurd (e ▸ List.mem_append_right _ (List.mem_append_left _ List.mem_cons_self)) h1
  | cons y l ih =>
    intro l' x x' h1 h2 h3 h4 e
    cases l' with
    | nil =>
      rw [List.flatMap_nil, List.append_nil, List.flatMap_cons] at e
      exact absurd (e ▸ List.mem_append_right _ (List.mem_append_left _ List.mem_cons_self)) h2
    | cons y' l' =>
      rw [List.flatMap_cons, List.flatMap_cons] at e
      obtain ⟨e1, e2⟩ := cut (lst x) (lst x') _ _ h1 h2 e
      rw [show x = x' from ext_lst e1, ih l' y y' (h3 y List.mem_cons_self) (h4 y' List.mem_cons_self) (fun z hz => h3 z (List.mem_cons_of_mem _ hz)) (fun z hz => h4 z (List.mem_cons_of_mem _ hz)) e2]
theorem split_join (c : Nat) {rows : List Str} (hne : rows ≠ []) (h : ∀ r ∈ rows, c ∉ lst r) : Txt.split (Txt.join ⟨#[c]⟩ rows) ⟨#[c]⟩ = rows := by
  have h1 : Str.join ⟨#[c]⟩ (Txt.split (Txt.join ⟨#[c]⟩ rows) ⟨#[c]⟩) = Str.join ⟨#[c]⟩ rows := by
    rw [StrLaws.join_split]
    unfold Txt.join
    rw [StrLaws.glued_eq_join]
  have h2 := StrLaws.split_free (Txt.join ⟨#[c]⟩ rows) c
  have h3 : Txt.split (Txt.join ⟨#[c]⟩ rows) ⟨#[c]⟩ ≠ [] := fun e => by
    have := split_pos (Txt.join ⟨#[c]⟩ rows) ⟨#[c]⟩
    rw [e] at this
    exact absurd this (by decide)
  generalize Txt.split (Txt.join ⟨#[c]⟩ rows) ⟨#[c]⟩ = out at h1 h2 h3
  obtain ⟨x, l, rfl⟩ := List.exists_cons_of_ne_nil h3
  obtain ⟨x', l', rfl⟩ := List.exists_cons_of_ne_nil hne
  have e := congrArg lst h1
  rw [join_lst, join_lst] at e
  exact join_uniq c l l' x x' (h2 x List.mem_cons_self) (h x' List.mem_cons_self) (fun z hz => h2 z (List.mem_cons_of_mem _ hz)) (fun z hz => h z (List.mem_cons_of_mem _ hz)) e
end Mine
namespace Mine
theorem joinB_eq : ∀ (ws : List (List Nat)) (w : List Nat), joinB w ws = w ++ ws.flatMap fun v => 32 :: v
  | [], w => by simp [joinB]
  | v :: vs, w => by rw [joinB, joinB_eq vs v, List.flatMap_cons]; rfl
theorem joinB_len : ∀ (ws : List (List Nat)) (w : List Nat), (∀ v ∈ w :: ws, v.length ≤ 4) → (joinB w ws).length ≤ 5 * (ws.length + 1)
  | [], w, h => by have := h w List.mem_cons_self; simp [joinB]; walk_at "om"
  | v :: vs, w, h => by
    have h1 := h w List.mem_cons_self
    have h2 := joinB_len vs v fun u hu => h u (List.mem_cons_of_mem _ hu)
    simp only [joinB, List.length_append, List.length_cons] at h2 ⊢
    walk_at "om"
theorem lst_words (w0 : List Nat) (ws0 : List (List Nat)) : lst (Txt.join " " ((w0 :: ws0).map ofL)) = joinB w0 ws0 := by
  have h := join_lst 32 (ofL w0) (ws0.map ofL)
  unfold Txt.join
  rw [StrLaws.glued_eq_join, joinB_eq]
  refine h.trans ?_
  rw [lst_ofL, List.flatMap_map]
  rfl
section
variable {P : Params} {A : Around} {E : Value → Shared → Prop} {foot : List Addr} {g : Heap} {σ s : Shared} {L : Addr} {m : Str → Option Value} {x d ll : Addr} {z : Int} {ex : List (Addr × Obj)} {xs : Array Value} {ps : List (Str × Str)} {lines : List Str} {led : List (Addr × Obj)} {M : Model} {env : Env}
theorem strF' {y y' : Str} {k : Nat} {pos : Pos} {Q : Value → Shared → Prop} (e : y' = y) (F : FO P ex foot g σ s L m x d ll z xs ps lines) (h : ∀ t s', FO P ex foot g σ s' L m x d ll z xs ps lines → Q (.str y t) s') :
    wpAny M A (eval (.Constant (.str y') k pos) env) Q E s := by subst e; exact strF F h
theorem strO' {y y' : Str} {k : Nat} {pos : Pos} {Q : Value → Shared → Prop} (e : y' = y) (O : Own P foot g σ s L m led) (h : ∀ t s', Own P foot g σ s' L m led → Q (.str y t) s') :
    wpAny M A (eval (.Constant (.str y') k pos) env) Q E s := by subst e; exact strO O h
end
section
variable {P : Params} {foot : List Addr} {g : Heap} {σ s : Shared} {L : Addr} {m : Str → Option Value} {x d ll : Addr} {z : Int} {ex : List (Addr × Obj)} {xs : Array Value} {ps : List (Str × Str)} {lines : List Str}
theorem FO.exNe {a : Addr} {o : Obj} (F : FO P ((a, o) :: ex) foot g σ s L m x d ll z xs ps lines) : a ≠ L ∧ a ∉ foot5 x d ll ∧ a ∉ ex.map (·.1) := by
  obtain ⟨k, od, lv, kl, tb, tb2, tz, O, -⟩ := id F
  have h := List.nodup_cons.mp ((List.perm_middle (l₁ := [x, d, ll, 197, 204])).nodup_iff.mp (O.nd : ([x, d, ll, 197, 204] ++ a :: ex.map (·.1)).Nodup))
  exact ⟨(O.lg (a, o) (.tail _ (.tail _ (.tail _ (.tail _ (.tail _ (.head _))))))).2.1, fun hm => h.1 (List.mem_append_left _ hm), fun hm => h.1 (List.mem_append_right _ hm)⟩
end
section
variable {prog : Program} {w : World} {A : Around} {E : Value → Shared → Prop} {Q : Flow → Shared → Prop} {foot : List Addr} {g : Heap} {σ s s' : Shared} {L : Addr} {m : Str → Option Value} {x d ll fm lw : Addr} {z W : Int} {ex : List (Addr × Obj)} {xs : Array Value} {ns : List Int}
theorem lawS12 {vw : List Value} {kw : Nat} {w0 : List Nat} {ws0 : List (List Nat)} (pg : PG prog w.params) (F : FO w.params ((241, tabObj #[]) :: ex) foot g σ s L m x d ll z xs [] []) (K : FmAt g fm ll x W) (hf : m "formatter" = some (.ref fm)) (hw : m "words" = some (.ref lw)) (hlw : g.get? lw = some (lstObj vw.toArray kw)) (hS : StrsAre vw ((w0 :: ws0).map ofL))
    (hroom : A.depth + 120 < recursionLimit) (hu : A.units + 320 < cLine) (hh : A.handled = none) (hd : dark w0) (h0 : w0 ≠ []) (hds : ∀ v ∈ ws0, dark v ∧ v ≠ []) (hl : ∀ v ∈ w0 :: ws0, v.length ≤ 4) (hn : ws0.length ≤ 200) (hz : 0 ≤ z) (hz2 : z ≤ 1000)
    (h : ∀ s' g' xs' t3, (∀ b o, g.get? b = some o → g'.get? b = some o) → g'.get? 241 = some (tabObj t3) → FO w.params ex foot g' σ s' L m x d ll (apFold W (z, [], []) (chunksOf w0 ws0)).1 xs' (apFold W (z, [], []) (chunksOf w0 ws0)).2.1 (apFold W (z, [], []) (chunksOf w0 ws0)).2.2 → Q .next s') :
    wpAny (model prog w) (A.deeper (EVC w.params 282 L)) (exec (lawSt w.params 12) (EVC w.params 282 L)) Q E s := by
  have hsum : (((w0 :: ws0).map ofL).map (·.length)).sum ≤ (ws0.length + 1) * 4 := by
    have := sum_le_of (fun y : Str => y.length) 4 ((w0 :: ws0).map ofL) fun y hy => by
      obtain ⟨v, hv, rfl⟩ := List.mem_map.mp hy
      exact hl v hv
    simpa using this
  show wpAny _ _ (exec (Stmt.Expr _ _) _) _ _ _
  repeat walk_at "st"
  refine ldO F.own (by exact hf) ?_
  refine fm_method F K (f := .ref 127) (by decide +kernel) (by kernel_rfl) (by kernel_rfl) ?_
  dsimp only
  with_reducible refine callWith_K (h₀ := g) F.own.kn (by kernel_rfl) ?_ (by kernel_rfl) (by kernel_rfl)
  repeat walk_at "st"
  with_reducible refine strF' (y := "") (by kernel_rfl) F fun t₁ s₁ F₁ => ?_
  repeat walk_at "st"
  with_reducible refine strF' (y := " ") (by kernel_rfl) F₁ fun t₂ s₂ F₂ => ?_
  refine GM.join ?_
  dsimp only
  with_reducible refine callWith_method1 ?_ (by kernel_rfl) (by kernel_rfl)
  repeat walk_at "st"
  refine ldO F₂.own (by exact hw) ?_
  repeat walk_at "st"
  refine join_list ⟨_, F₂.own.keep _ _ hlw, rfl, _, rfl⟩ hS ?_ fun t₃ k₃ => ?_
  · rw [List.length_map, List.length_cons]
    show _ + (ws0.length + 1) * 1 ≤ _
    walk_at "om"
  have F₃ := F₂.same fun _ O => O.toks k₃
  generalize hs₃ : ({ s₂ with toks := k₃ } : Shared) = s₃ at F₃ ⊢
  repeat walk_at "st"
  refine ldG (v := .ref 246) F₃.own ?_
  refine callK0 F₃.X ?_
  refine wpAny_call (asc_ok F₃.X (by show A.depth + 1 < _; exact dl hroom (by decide)) (F₃.exAt (.head _)) fun s₄ c dc fd t3 p h241 hc hdc => ?_)
  have F₄ := F₃.afterEx p
  obtain ⟨g₅, F₅, up₅, in₅⟩ := F₄.frz
  obtain ⟨n1, n2, n3⟩ := F₃.exNe
  have h241' : g₅.get? 241 = some (tabObj t3) := in₅ _ _ n1 n2 n3 h241
  have K₅ : FmAt g₅ fm ll x W := K.keeps fun b o e _ => up₅ b o e
  repeat walk_at "st"
  refine ⟨F₅.X, ?_⟩
  have hlt : (Txt.join " " ((w0 :: ws0).map ofL)).length ≤ 100000 := by
    show (lst (Txt.join " " ((w0 :: ws0).map ofL))).length ≤ _
    rw [lst_words]
    have := joinB_len ws0 w0 hl
    walk_at "om"
  refine wpAny_call (feed_ok pg F₅.X (by show A.depth + 1 + 100 < _; exact dl2 hroom (by decide)) (by show A.units + 3 + 300 < _; exact dl2 hu (by decide)) hh F₅.S (K₅.keeps fun b o e _ => F₅.own.keep _ _ e) hc hdc (by exact if_pos rfl) (lst_words w0 ws0) hlt hd h0 hds (by have := hl w0 (List.mem_cons_self ..); walk_at "om") (fun v hv => by have := hl v (List.mem_cons_of_mem _ hv); walk_at "om") hn hz hz2 fun s₆ p₆ S₆ => ?_)
  obtain ⟨g', xs', up, F₆⟩ := F₅.re p₆ S₆
  exact h s₆ g' xs' t3 (fun b o e => up _ _ (up₅ _ _ e)) (up _ _ h241') F₆
end
end Mine
namespace Mine
section
variable {P : Params} {foot : List Addr} {g : Heap} {σ s : Shared} {L : Addr} {m : Str → Option Value} {x d ll : Addr} {z : Int} {ex : List (Addr × Obj)} {xs : Array Value} {ps : List (Str × Str)} {lines : List Str}
/-- the formatter is let go -/
theorem FO.drop (F : FO P ex foot g σ s L m x d ll z xs ps lines) : ∃ g' t1 t2, Own P foot g' σ s L m ex ∧ (∀ b o, g.get? b = some o → g'.get? b = some o) ∧ g'.get? 197 = some (tabObj t1) ∧ g'.get? 204 = some (tabObj t2) := by
  obtain ⟨k, od, lv, kl, tb, tb2, tz, O, -⟩ := id F
  obtain ⟨g', O', up, hin⟩ := Own.settle [(x, accObj d xs k), (d, od), (ll, lstObj lv kl), (197, tabObj tb), (204, tabObj tb2)] (led := ex) O
  exact ⟨g', tb, tb2, O', up, hin (197, tabObj tb) (by simp), hin (204, tabObj tb2) (by simp)⟩
end
section
variable {prog : Program} {w : World} {A : Around} {E : Value → Shared → Prop} {Q : Flow → Shared → Prop} {foot : List Addr} {g : Heap} {σ s s' : Shared} {L : Addr} {m : Str → Option Value} {x d ll fm lw : Addr} {z W : Int} {ex : List (Addr × Obj)} {xs : Array Value} {ps : List (Str × Str)} {lines rows : List Str} {n : Nat}
theorem lawS13 (pg : PG prog w.params) (F : FO w.params ex foot g σ s L m x d ll z xs ps lines) (K : FmAt g fm ll x W) (hf : m "formatter" = some (.ref fm))
    (hroom : A.depth + 120 < recursionLimit) (hu : A.units + 320 < cLine) (hh : A.handled = none) (ok : StOk n (z, ps, lines)) (hn : n ≤ 200) (hrows : nlLines z ps lines = rows)
    (hno : (z == 0 && (z + psum (nlParts ps) == 0 || Txt.isspace (accText (nlParts ps)))) = false) (hne : rows ≠ []) (h10 : ∀ r ∈ rows, 10 ∉ lst r) (hsum : (rows.map (·.length)).sum + rows.length ≤ 100000)
    (h : ∀ s' g' D vs t1 t2, (∀ b o, g.get? b = some o → g'.get? b = some o) → g'.get? 197 = some (tabObj t1) → g'.get? 204 = some (tabObj t2) → Own w.params foot g' σ s' L (fun y => if y = "rows" then some (Value.ref D) else m y) ex → g'.get? D = some (lstObj vs.toArray 0) → StrsAre vs rows → Q .next s') :
    wpAny (model prog w) (A.deeper (EVC w.params 282 L)) (exec (lawSt w.params 13) (EVC w.params 282 L)) Q E s := by
  have hnl : ("\n" : Str) = ⟨#[10]⟩ := by kernel_rfl
  have hz := ok.z0
  have hz2 := ok.z1
  have hps := ok.ps
  have hls := ok.ls
  have hB := ok.small
  dsimp only at hz hz2 hps hls hB
  show wpAny _ _ (exec (Stmt.Assign [Expr.Name _ _] _ _) _) _ _ _
  repeat walk_at "st"
  refine ldO F.own (by exact hf) ?_
  refine fm_method F K (f := .ref 99) (by decide +kernel) (by kernel_rfl) (by kernel_rfl) ?_
  dsimp only
  with_reducible refine callWith_K (h₀ := g) F.own.kn (by kernel_rfl) ?_ (by kernel_rfl) (by kernel_rfl)
  repeat walk_at "st"
  with_reducible refine strF' (y := "\n") (by kernel_rfl) F fun t₁ s₁ F₁ => ?_
  repeat walk_at "st"
  refine ⟨F₁.X, ?_⟩
  refine wpAny_call (strFm_ok pg F₁.X (by show A.depth + 1 + 60 < _; exact dl2 hroom (by decide)) (by show A.units + 3 + 160 < _; exact dl2 hu (by decide)) hh F₁.S (K.keeps fun b o e _ => F₁.own.keep _ _ e) hB (by walk_at "om") hz hz2 (by walk_at "om") (.inl hno) ?_ fun s₂ t₂ p S₂ => ?_)
  · rw [hrows]
    show _ + rows.length * 1 ≤ _
    walk_at "om"
  rw [hrows]
  obtain ⟨g₁, xs₂, up₁, F₂⟩ := F₁.re p S₂
  obtain ⟨g₂, t1, t2, O₂, up₂, e197, e204⟩ := F₂.drop
  refine GM.split ?_
  dsimp only
  with_reducible refine callWith_method1 ?_ (by kernel_rfl) (by kernel_rfl)
  repeat walk_at "st"
  with_reducible refine strO' (y := "\n") (by kernel_rfl) O₂ fun t₃ s₃ O₃ => ?_
  repeat walk_at "st"
  have hlen : (Txt.join "\n" rows).length ≤ 200000 := by
    have h1 := StrLaws.join_length_le "\n" rows
    have h2 : (Txt.join "\n" rows).length = (Str.join "\n" rows).length := by unfold Txt.join; rw [StrLaws.glued_eq_join]
    have h3 : ("\n" : Str).length = 1 := rfl
    rw [h3] at h1
    walk_at "om"
  refine str_splitO O₃ (by rfl) (by rw [sizeLine_eq]; walk_at "om") fun D vs s₄ hvs hD O₄ => ?_
  rw [hnl, split_join 10 hne h10] at hvs
  refine stO O₄ fun s₅ O₅ => ?_
  obtain ⟨g₆, O₆, up₆, hin⟩ := O₅.settle [_] (led := ex)
  exact h s₅ g₆ D vs t1 t2 (fun b o e => up₆ _ _ (up₂ _ _ (up₁ _ _ e))) (up₆ _ _ e197) (up₆ _ _ e204) O₆ (hin _ (.head _)) hvs
end
end Mine
namespace Mine
open PySem.SeqAt
section
variable {prog : Program} {w : World} {A : Around} {E : Value → Shared → Prop} {Q : Flow → Shared → Prop} {foot : List Addr} {g : Heap} {σ s s' : Shared} {L D lw : Addr} {m : Str → Option Value} {led : List (Addr × Obj)} {vs vw : List Value} {rows ws : List Str} {k kw : Nat} {head width : Int} {th tw : Tok}
theorem strs_eqAt {xs ys : List Value} {l : List Str} (h1 : StrsAre xs l) (h2 : StrsAre ys l) : xs.toArray.size = ys.toArray.size ∧ ∀ j (h1 : j < xs.toArray.size) (h2 : j < ys.toArray.size), EqAt A s xs.toArray[j] ys.toArray[j] true := by
  have e1 := strs_len h1
  have e2 := strs_len h2
  refine ⟨by simp [e1, e2], fun j j1 j2 => ?_⟩
  have jl : j < l.length := by simpa [e1] using j1
  obtain ⟨t, ht⟩ := strs_get h1 (List.getElem?_eq_getElem jl)
  obtain ⟨u, hu⟩ := strs_get h2 (List.getElem?_eq_getElem jl)
  have a1 : xs.toArray[j] = .str l[j] t := by
    have := List.getElem?_eq_some_iff.mp ht
    simpa using this.2
  have a2 : ys.toArray[j] = .str l[j] u := by
    have := List.getElem?_eq_some_iff.mp hu
    simpa using this.2
  rw [a1, a2]
  exact EqAt_strs rfl
theorem lawS14 (O : Own w.params foot g σ s L m led) (hroom : A.depth + 120 < recursionLimit) (hu : A.units + 320 < cLine) (hh : A.handled = none)
    (hr : m "rows" = some (.ref D)) (hD : g.get? D = some (lstObj vs.toArray k)) (hv : StrsAre vs rows) (hw : m "words" = some (.ref lw)) (hlw : g.get? lw = some (lstObj vw.toArray kw)) (hvw : StrsAre vw ws)
    (hhd : m "head" = some (.int head th)) (hwd : m "width" = some (.int width tw)) (hw4 : ∀ x ∈ ws, x.length ≤ 4) (hsz : ws.length < 500) (hb1 : 0 ≤ head ∧ head < 1000) (hb2 : 0 ≤ width ∧ width < 1000) (he : rows = (ws.foldl (rowsStep head width) ([], head)).1)
    (h : ∀ s', Own w.params foot g σ s' L m led → Q .next s') :
    wpAny (model prog w) (A.deeper (EVC w.params 282 L)) (exec (lawSt w.params 14) (EVC w.params 282 L)) Q E s := by
  refine wpAny_If ?_
  refine wpAny_isTrue_Compare1 ?_
  refine ldO O (by exact hr) ?_
  repeat walk_at "st"
  refine ldG (v := .ref 277) O ?_
  with_reducible refine callWith_K (h₀ := g) O.kn (by kernel_rfl) ?_ (by kernel_rfl) (by kernel_rfl)
  repeat walk_at "st"
  refine ldO O (by exact hw) ?_
  repeat walk_at "st"
  refine ldO O (by exact hhd) ?_
  repeat walk_at "st"
  refine ldO O (by exact hwd) ?_
  repeat walk_at "st"
  refine ⟨O.X, ?_⟩
  refine wpAny_call (rows_ok O.X (by show A.depth + 1 < _; exact dl hroom (by decide)) (by show A.units + 3 + 40 < _; exact dl2 hu (by decide)) hh (O.keep _ _ hlw) hvw hw4 hsz hb1 hb2 fun s₂ r kr vs' p hr0 hr' hS => ?_)
  rw [← he] at hS
  have O₂ := O.quiet p
  refine ne_lists (O₂.keep _ _ hD) hr' (strs_eqAt (A := A) (s := s₂) hv hS).1 (by show A.units + 3 < _; exact dl hu (by decide)) (fun j j1 j2 => ?_) ?_
  · exact (strs_eqAt hv hS).2 j j1 j2
  refine wpAny_pure ?_
  refine ifF (by rfl) ?_
  refine wpAny_execs_nil ?_
  exact h s₂ O₂
end
end Mine
namespace Mine
open PySem.SeqAt
theorem paired_map {F : Nat → Value → Prop} {f : Nat → Int} (hF : ∀ i y, F i y → ∃ t, y = .int (f i) t) {is : List Nat} {ys : List Value} (h : Paired F is ys) : IntsAre ys (is.map f) := by
  induction h with
  | nil => exact .nil
  | cons h _ ih =>
    obtain ⟨t, rfl⟩ := hF _ _ h
    exact .cons _ _ ih
theorem range_filter (l : List Nat) (p : Nat → Bool) : ((List.range l.length).filter fun i => p (l.getD i 0)).map (fun i => (l.getD i 0 : Int)) = (l.filter p).map Int.ofNat := by
  induction l with
  | nil => rfl
  | cons a r ih =>
    rw [List.length_cons, List.range_succ_eq_map, List.filter_cons, List.filter_cons, List.filter_map]
    have e : ((List.range r.length).filter ((fun i => p ((a :: r).getD i 0)) ∘ Nat.succ)) = (List.range r.length).filter fun i => p (r.getD i 0) := rfl
    rw [e]
    show (if p a = true then _ else _ : List Nat).map _ = _
    have e2 : ∀ l' : List Nat, (l'.map Nat.succ).map (fun i => ((a :: r).getD i 0 : Int)) = l'.map fun i => (r.getD i 0 : Int) := fun l' => by
      rw [List.map_map]; rfl
    by_cases h : p a = true
    · rw [if_pos h, if_pos h, List.map_cons, List.map_cons, e2, ih]; rfl
    · rw [if_neg h, if_neg h, e2, ih]
theorem row_ints {x : Str} {ys : List Value} (h : Paired (fun i y => ∃ t, y = Value.int ((x.cps.getD i 0 : Nat) : Int) t) ((List.range x.cps.size).filter fun i => x.cps.getD i 0 != 32) ys) : IntsAre ys (rowOct x) := by
  have h1 := paired_map (f := fun i => ((x.cps.getD i 0 : Nat) : Int)) (fun i y hy => hy) h
  have e : ∀ i, x.cps.getD i 0 = (lst x).getD i 0 := fun i => by
    simp [lst, Array.getD, List.getD_eq_getElem?_getD]
    split <;> simp_all
  have h2 := range_filter (lst x) (fun c => c != 32)
  have e3 : (lst x).length = x.cps.size := rfl
  rw [e3] at h2
  have e4 : (fun i => x.cps.getD i 0 != 32) = fun i => (lst x).getD i 0 != 32 := by funext i; rw [e i]
  have e5 : (fun i => ((x.cps.getD i 0 : Nat) : Int)) = fun i => (((lst x).getD i 0 : Nat) : Int) := by funext i; rw [e i]
  rw [e4, e5, h2] at h1
  have e6 : rowOct x = ((lst x).filter fun c => c != 32).map Int.ofNat := by
    unfold rowOct
    congr 2
    funext c
    by_cases h : c = 32 <;> simp [h]
  rw [e6]; exact h1
theorem ints_append {a b : List Value} {x y : List Int} (h : IntsAre a x) (h' : IntsAre b y) : IntsAre (a ++ b) (x ++ y) := h.append h'
noncomputable def rowBody (P : Params) : List Stmt := match lawSt P 17 with
  | .For _ _ b _ _ => b
  | _ => []
noncomputable def rowSt (P : Params) (k : Nat) : Stmt := match (rowBody P).drop k with
  | st :: _ => st
  | [] => .Pass default
section
variable {prog : Program} {w : World} {A : Around} {E : Value → Shared → Prop} {Q : Flow → Shared → Prop} {P : Params} {foot : List Addr} {σ s : Shared} {g : Heap} {L la : Addr} {m : Str → Option Value} {led : List (Addr × Obj)} {vs : List Value} {ns : List Int} {n : Nat} {env : Env} {I : Addr}
theorem lawS15 (O : Own w.params foot g σ s L m led) (h : ∀ s' g' lw, (∀ b o, g.get? b = some o → g'.get? b = some o) → Own w.params foot g' σ s' L (fun y => if y = "waiting" then some (Value.ref lw) else m y) led → g'.get? lw = some (lstObj ([] : List Value).toArray 0) → Q .next s') : wpAny (model prog w) (A.deeper (EVC w.params 282 L)) (exec (lawSt w.params 15) (EVC w.params 282 L)) Q E s := by
  show wpAny _ _ (exec (Stmt.Assign [Expr.Name _ _] _ _) _) _ _ _
  repeat walk_at "st"
  refine lstO O fun lv s₁ hlv O₁ => ?_
  refine stO O₁ fun s₂ O₂ => ?_
  obtain ⟨g', O₃, up, hin⟩ := O₂.settle [_] (led := led)
  exact h s₂ g' lv up O₃ (hin _ (.head _))
theorem lawS16 (O : Own w.params foot g σ s L m led) (h : ∀ s' t, Own w.params foot g σ s' L (fun y => if y = "done" then some (Value.int 0 t) else m y) led → Q .next s') : wpAny (model prog w) (A.deeper (EVC w.params 282 L)) (exec (lawSt w.params 16) (EVC w.params 282 L)) Q E s := by
  show wpAny _ _ (exec (Stmt.Assign [Expr.Name _ _] _ _) _) _ _ _
  repeat walk_at "st"
  refine intO O fun t₁ s₁ O₁ => ?_
  exact stO O₁ fun s₂ O₂ => h s₂ _ O₂
theorem rowS1 (O : Own w.params foot g σ s L m led) (h : ∀ s', Own w.params foot g σ s' L (fun y => if y = "refused" then some (Value.bool false) else m y) led → Q .next s') : wpAny (model prog w) (A.deeper (EVC w.params 282 L)) (exec (rowSt w.params 1) (EVC w.params 282 L)) Q E s := by
  show wpAny _ _ (exec (Stmt.Assign [Expr.Name _ _] _ _) _) _ _ _
  repeat walk_at "st"
  refine wpAny_Constant_bool ?_
  exact stO O fun s₂ O₂ => h s₂ O₂
set_option maxHeartbeats 1000000 in
theorem rowS0 {x : Str} {tx : Tok} {lw : Addr} {vw : List Value} {kw : Nat} {wt : List Int} (O : Own w.params foot g σ s L m led) (hh : A.handled = none) (hx : m "row" = some (.str x tx)) (hwt : m "waiting" = some (.ref lw)) (hlw : g.get? lw = some (lstObj vw.toArray kw)) (hi : IntsAre vw wt) (hsz : wt.length + x.length ≤ 50000)
    (h : ∀ s' g' lw' vw' k', (∀ b o, g.get? b = some o → g'.get? b = some o) → Own w.params foot g' σ s' L (fun y => if y = "waiting" then some (Value.ref lw') else m y) led → g'.get? lw' = some (lstObj vw'.toArray k') → IntsAre vw' (wt ++ rowOct x) → Q .next s') :
    wpAny (model prog w) (A.deeper (EVC w.params 282 L)) (exec (rowSt w.params 0) (EVC w.params 282 L)) Q E s := by
  have hil := hi.length
  have hxl : x.length = x.cps.size := rfl
  show wpAny _ _ (exec (Stmt.Assign [Expr.Name _ _] _ _) _) _ _ _
  repeat walk_at "st"
  refine ldO O (by exact hwt) ?_
  refine compO (cl := []) (P := w.params) (σ := σ) (foot := foot) (L := L) ?_
  refine ldO O (by exact hx) ?_
  refine iter_strO O fun I T oI s₁ hT hoI O₁ => ?_
  have hS := srcStr (prog := prog) (w := w) (A := A.deeper (EVC w.params 282 L)) (g := g) (I := I) hh x tx hT
  refine ⟨g, _, _, O₁, fun s₃ Q E hk q => hS.self s₃ oI Q E (hk _ _ (O₁.at 0 rfl)) hoI q, fun C D oL s₃ hD O₃ => ?_⟩
  refine compLoopSrc (p := fun i => x.cps.getD i 0 != 32) (Fp := fun i y => ∃ t, y = Value.int ((x.cps.getD i 0 : Nat) : Int) t) hS O₃ hoI (by walk_at "om") (by kernel_rfl) (by kernel_rfl) (fun i v s₄ mc led₃ hiv O₄ hsub hm hv Q E q => ?_) (fun i v s₄ mc led₃ hiv _ O₄ hsub hm hv Q E q => ?_) fun s₄ mc ys k O₄ hP => ?_
  · obtain ⟨c, u, hc, rfl⟩ := hv
    refine wpAny_tests_one ?_
    refine wpAny_isTrue_Compare1 ?_
    refine ldO O₄ hm ?_
    with_reducible refine strO' (y := " ") (by kernel_rfl) O₄ fun t₅ s₅ O₅ => ?_
    refine PySem.P.ne_str ?_
    refine wpAny_pure ?_
    have e : ((⟨#[c]⟩ : Str).cps.toList != (" " : Str).cps.toList) = (x.cps.getD i 0 != 32) := by
      have hg : x.cps.getD i 0 = c := by
        rw [Array.getD_eq_getD_getElem?, hc]; rfl
      rw [hg]
      show ([c] != [32]) = (c != 32)
      by_cases h3 : c = 32
      · subst h3; rfl
      · have h4 : ([c] : List Nat) ≠ [32] := fun h => h3 (by simpa using h)
        rw [bne_iff_ne.mpr h4, bne_iff_ne.mpr h3]
    rw [e]
    exact q s₅ O₅
  · obtain ⟨c, u, hc, rfl⟩ := hv
    repeat walk_at "st"
    refine ldB (v := .builtin "ord") O₄ ?_
    refine callWith_method1 ?_
    repeat walk_at "st"
    refine ldO O₄ hm ?_
    repeat walk_at "st"
    refine PySem.P.ord_of_char ?_
    have hg : x.cps.getD i 0 = c := by
      rw [Array.getD_eq_getD_getElem?, hc]; rfl
    exact q _ _ (O₄.toks _) ⟨_, by rw [hg]⟩
  · refine ⟨g, mc, _, O₄, fun s₅ O₅ => ?_⟩
    have hr := row_ints hP
    have hrl := hr.length
    have hro : (rowOct x).length ≤ x.length := by
      unfold rowOct
      rw [List.length_map]
      exact List.length_filter_le _ _
    have hys : ys.toList.length = ys.size := by simp
    refine PySem.P.add_list (O₅.keep _ _ hlw) (O₅.at 0 rfl) ?_ (by simp only [sizeLine]; simp; walk_at "om")
    have O₆ := O₅.push { cls := .type "list", data := .seq (vw.toArray ++ ys) }
    refine stO O₆ fun s₇ O₇ => ?_
    obtain ⟨g', O₈, up, hin⟩ := O₇.settle [_, _] (led := led)
    refine h s₇ g' _ (vw ++ ys.toList) 0 up O₈ ?_ (ints_append hi hr)
    have := hin _ (.head _)
    rw [show (vw ++ ys.toList).toArray = vw.toArray ++ ys by apply Array.toList_inj.mp; simp]
    exact this
end
end Mine
namespace Mine
noncomputable def whBody (P : Params) : List Stmt := match rowSt P 2 with
  | .While _ b _ _ => b
  | _ => []
noncomputable def whSt (P : Params) (k : Nat) : Stmt := match (whBody P).drop k with
  | st :: _ => st
  | [] => .Pass default
/-- what the law was told -/
def Told (g : Heap) (r : Addr) (kd : Int) (ns : List Int) : Prop := match tryV kd ns with
  | .ok (tv, rest) => ∃ v lf vs' k1 k2, g.get? r = some (lstObj #[v, .ref lf] k1) ∧ tv.val v ∧ g.get? lf = some (lstObj vs'.toArray k2) ∧ IntsAre vs' rest
  | .error msg => ∃ t k1, g.get? r = some (lstObj #[.str msg t] k1)
section
variable {P : Params} {foot : List Addr} {g : Heap} {σ s s' : Shared} {L r : Addr} {m : Str → Option Value} {led : List (Addr × Obj)} {tb : Array Value} {oF : Obj} {kd : Int} {ns : List Int}
theorem Own.tried (O : Own P foot g σ s L m led) (i : Nat) (hi : led[i]? = some (248, tabObj tb)) (hF : s.heap.get? L = some oF) (hcode : ∀ p ∈ led, ∀ vs q t, p.2.data = .fields vs → vs[1]? ≠ some (.str q t)) (T : TryRes P L oF s s' kd ns r) :
    ∃ g' tb', Own P foot g' σ s' L m (led.set i (248, tabObj tb')) ∧ (∀ b o, g.get? b = some o → g'.get? b = some o) ∧ TryTab P g' tb' ∧ Told g' r kd ns := by
  obtain ⟨sl, tb', p, hL', h248, ht', hr0, hm⟩ := T
  have z := O.lg _ (List.mem_of_getElem? hi)
  dsimp only at z
  have hfoot : ∀ b, b ≠ 248 → b ≠ L → b ∉ [248, L] := fun b h1 h2 hb => by
    simp only [List.mem_cons, List.not_mem_nil, or_false] at hb
    exact hb.elim h1 h2
  have O' : Own P foot g σ s' L m (led.set i (248, tabObj tb')) := by
    refine ⟨?_, fun b o e => p.ext b o (hfoot b ?_ ?_) (O.keep b o e), O.kn, O.newL, fun q hq => ?_, ?_, fun x => p.bare (O.bare x), p.drawn.trans O.drawn, p.os.trans O.os, O.base⟩
    · obtain ⟨o, es, ep, hL, hd, x⟩ := O.ns
      rw [hF] at hL; cases hL
      exact ⟨_, es, ep, hL', hd, x⟩
    · rintro rfl; rw [z.2.2] at e; cases e
    · rintro rfl; rw [O.newL] at e; cases e
    · rcases mem_set_cases O.nd hi q hq with rfl | ⟨hq, hne⟩
      · exact ⟨h248, z.2⟩
      · exact ⟨p.ext _ _ (hfoot _ hne (O.lg q hq).2.1) (O.lg q hq).1, (O.lg q hq).2⟩
    · rw [map_set_fst hi]; exact O.nd
  obtain ⟨g', O₂, up, upn⟩ := O'.freeze (led' := led.set i (248, tabObj tb')) (fun q hq => ⟨(O'.lg q hq).1, List.mem_map_of_mem hq⟩) O'.nd
  have isNew : ∀ b o, s.heap.get? b = none → s'.heap.get? b = some o → g'.get? b = some o := fun b o h0 h1 => by
    refine upn b o ?_ (fun hm => ?_) h1
    · rintro rfl; rw [hF] at h0; cases h0
    · rw [map_set_fst hi] at hm
      obtain ⟨q, hq, rfl⟩ := List.mem_map.mp hm
      rw [(O.lg q hq).1] at h0; cases h0
  refine ⟨g', tb', O₂, up, ?_, ?_⟩
  · rcases ht' with rfl | ⟨c1, c2, rfl, hrec⟩
    · exact .inl rfl
    · refine .inr ⟨c1, c2, rfl, ?_⟩
      obtain ⟨c, o, vs, t, q1, q2, q3, q4⟩ := hrec
      cases q1
      refine ⟨c1, o, vs, t, rfl, upn _ _ ?_ (fun hm => ?_) q2, q3, q4⟩
      · rintro rfl
        obtain ⟨oL, es, ep, hL, hd, -⟩ := O'.ns
        rw [q2] at hL; cases hL; rw [q3] at hd; cases hd
      · obtain ⟨q, hq, hqe⟩ := List.mem_map.mp hm
        have e1 := (O'.lg q hq).1
        have hqe' : q.1 = c1 := hqe
        rw [hqe', q2] at e1
        have e2 : o = q.2 := Option.some.inj e1
        rw [e2] at q3
        rcases mem_set_cases O.nd hi q hq with e | ⟨hq, hne⟩
        · rw [e] at q3
          cases q3
          simp [rawInt] at q4
        · exact hcode q hq vs _ _ q3 q4
  · unfold Told
    revert hm
    cases tryV kd ns with
    | error msg =>
      rintro ⟨t, k1, e⟩
      exact ⟨t, k1, isNew _ _ hr0 e⟩
    | ok q =>
      obtain ⟨tv, rest⟩ := q
      rintro ⟨v, lf, vs', k1, k2, e1, e2, e3, e4, e5⟩
      exact ⟨v, lf, vs', k1, k2, isNew _ _ hr0 e1, e2, isNew _ _ e3 e4, e5⟩
end
section
variable {prog : Program} {w : World} {A : Around} {E : Value → Shared → Prop} {Q : Flow → Shared → Prop} {foot : List Addr} {σ s : Shared} {g : Heap} {L lv lw lo r : Addr} {m : Str → Option Value} {led : List (Addr × Obj)} {vv vw vo : List Value} {xs : List (Int × List Int)} {x : Int × List Int} {wt : List Int} {k kw ko d : Nat} {tb : Array Value} {td tk : Tok}
theorem whS0 (O : Own w.params foot g σ s L m led) (hh : A.handled = none) (hv : m "values" = some (.ref lv)) (hlv : g.get? lv = some (lstObj vv.toArray k)) (hd : m "done" = some (.int (d : Nat) td)) (V : ValsAre g vv xs) (hx : xs[d]? = some x) (hsz : xs.length ≤ 100)
    (h : ∀ s' tk lo vo ko, Own w.params foot g σ s' L (fun y => if y = "octets" then some (Value.ref lo) else if y = "kind" then some (Value.int x.1 tk) else m y) led → g.get? lo = some (lstObj vo.toArray ko) → IntsAre vo x.2 → Q .next s') :
    wpAny (model prog w) (A.deeper (EVC w.params 282 L)) (exec (whSt w.params 0) (EVC w.params 282 L)) Q E s := by
  obtain ⟨v, hv', hA⟩ := V.at' d x hx
  obtain ⟨t, kt, tk, lo, k2, os, ht, hlo, hio⟩ := hA
  have hdl : d < xs.length := (List.getElem?_eq_some_iff.mp hx).1
  refine Assign_Tuple ?_ (by kernel_rfl) (by kernel_rfl)
  repeat walk_at "st"
  refine ldO O (by exact hv) ?_
  refine ldO O (by exact hd) ?_
  refine sub_lst (O.keep _ _ hlv) (v := .ref t) (by walk_at "om") (by walk_at "om") (by rw [Int.toNat_natCast]; simpa using hv') ?_
  refine assignPair hh (O.keep _ _ ht) fun h₂ hk₂ => ?_
  have O₂ := O.more hk₂
  generalize hs₂ : ({ s with heap := h₂ } : Shared) = s₂ at O₂ ⊢
  refine stO O₂ fun s₃ O₃ => stO O₃ fun s₄ O₄ => ?_
  exact h s₄ tk lo os k2 O₄ hlo hio
theorem whS1 (O : Own w.params foot g σ s L m led) (i : Nat) (hi : led[i]? = some (248, tabObj tb)) (ht : TryTab w.params g tb) (hcode : ∀ p ∈ led, ∀ vs q t, p.2.data = .fields vs → vs[1]? ≠ some (.str q t)) (hA : A.frames = some [])
    (hroom : A.depth + 120 < recursionLimit) (hu : A.units + 320 < cLine) (hh : A.handled = none) (hw : m "waiting" = some (.ref lw)) (hlw : g.get? lw = some (lstObj vw.toArray kw)) (hiw : IntsAre vw wt) (hk : m "kind" = some (.int x.1 tk)) (V : ValOk x)
    (hr : ∀ n ∈ wt, 0 ≤ n ∧ n < 256) (h3 : ∀ n0 nr, wt = n0 :: nr → x.1 ≠ 0 → n0 ≤ 3) (hsz : wt.length ≤ 100)
    (h : ∀ s' g' tb' r, (∀ b o, g.get? b = some o → g'.get? b = some o) → Own w.params foot g' σ s' L (fun y => if y = "told" then some (Value.ref r) else m y) (led.set i (248, tabObj tb')) → TryTab w.params g' tb' → Told g' r x.1 wt → Q .next s') :
    wpAny (model prog w) (A.deeper (EVC w.params 282 L)) (exec (whSt w.params 1) (EVC w.params 282 L)) Q E s := by
  have hlen := hiw.length
  show wpAny _ _ (exec (Stmt.Assign [Expr.Name _ _] _ _) _) _ _ _
  repeat walk_at "st"
  refine ldG (v := .ref 251) O ?_
  with_reducible refine callWith_K (h₀ := g) O.kn (by kernel_rfl) ?_ (by kernel_rfl) (by kernel_rfl)
  repeat walk_at "st"
  refine ldO O (by exact hk) ?_
  repeat walk_at "st"
  refine ldO O (by exact hw) ?_
  repeat walk_at "st"
  refine ⟨O.X, ?_⟩
  obtain ⟨oF, es, ep, hL, hdF, -⟩ := id O.ns
  have aF : Off w.params L := by
    unfold Off
    cases e : (Kn w.params).lookup L with
    | none => rfl
    | some o => have := O.kn _ _ e; rw [O.newL] at this; cases this
  have F : Fms s.heap [EVC w.params 282 L] := fun e he => by
    obtain rfl : e = EVC w.params 282 L := by simpa using he
    refine ⟨?_, L, oF, by kernel_rfl, hL, fun vs q => by rw [hdF] at q; cases q⟩
    rw [show (EVC w.params 282 L).scope.kind = .function by kernel_rfl]; decide
  refine wpAny_call (try_ok (Lf := L) (outer := [EVC w.params 282 L]) O.X (by show A.depth + 1 + 20 < _; exact dl2 hroom (by decide)) (by show A.units + 3 + 40 < _; exact dl2 hu (by decide)) hh (Around.frames_deeper hA) (by kernel_rfl) F hL hdF aF (O.at i hi) (ht.keeps O.keep) (O.keep _ _ hlw) hiw hr (by walk_at "om") h3 V.kind.1 V.kind.2 fun s₂ r T => ?_)
  obtain ⟨g₂, tb₂, O₂, up₂, ht₂, hT⟩ := O.tried i hi hL hcode T
  exact stO O₂ fun s₃ O₃ => h s₃ g₂ tb₂ r up₂ O₃ ht₂ hT
end
end Mine
namespace Mine
open PySem.SeqAt
noncomputable def thBody (P : Params) : List Stmt := match whSt P 2 with
  | .If _ b _ _ => b
  | _ => []
noncomputable def elBody (P : Params) : List Stmt := match whSt P 2 with
  | .If _ _ b _ => b
  | _ => []
noncomputable def thSt (P : Params) (k : Nat) : Stmt := match (thBody P).drop k with
  | st :: _ => st
  | [] => .Pass default
noncomputable def elSt (P : Params) (k : Nat) : Stmt := match (elBody P).drop k with
  | st :: _ => st
  | [] => .Pass default
theorem thBody_eq (P : Params) : thBody P = [thSt P 0, thSt P 1] := by kernel_rfl
theorem elBody_eq (P : Params) : elBody P = [elSt P 0, elSt P 1, elSt P 2] := by kernel_rfl
theorem ints_eqAt {A : Around} {s : Shared} {xs ys : List Value} {l : List Int} (h1 : IntsAre xs l) (h2 : IntsAre ys l) : xs.toArray.size = ys.toArray.size ∧ ∀ j (h1 : j < xs.toArray.size) (h2 : j < ys.toArray.size), EqAt A s xs.toArray[j] ys.toArray[j] true := by
  have e1 := h1.length
  have e2 := h2.length
  refine ⟨by simp [e1, e2], fun j j1 j2 => ?_⟩
  have jl : j < l.length := by simpa [e1] using j1
  obtain ⟨t, ht⟩ := ints_at h1 (List.getElem?_eq_getElem jl)
  obtain ⟨u, hu⟩ := ints_at h2 (List.getElem?_eq_getElem jl)
  have a1 : xs.toArray[j] = .int l[j] t := by
    have := List.getElem?_eq_some_iff.mp ht
    simpa using this.2
  have a2 : ys.toArray[j] = .int l[j] u := by
    have := List.getElem?_eq_some_iff.mp hu
    simpa using this.2
  rw [a1, a2]
  exact EqAt_ints rfl
section
variable {prog : Program} {w : World} {A : Around} {E : Value → Shared → Prop} {Q : Flow → Shared → Prop} {foot : List Addr} {σ s : Shared} {g : Heap} {L lv lw lo r : Addr} {m : Str → Option Value} {led : List (Addr × Obj)} {vv vw vo : List Value} {xs : List (Int × List Int)} {x : Int × List Int} {wt : List Int} {k kw ko d : Nat} {tb : Array Value} {td tk : Tok}
theorem thS0 (O : Own w.params foot g σ s L m led) (h : ∀ s', Own w.params foot g σ s' L (fun y => if y = "refused" then some (Value.bool true) else m y) led → Q .next s') : wpAny (model prog w) (A.deeper (EVC w.params 282 L)) (exec (thSt w.params 0) (EVC w.params 282 L)) Q E s := by
  show wpAny _ _ (exec (Stmt.Assign [Expr.Name _ _] _ _) _) _ _ _
  repeat walk_at "st"
  refine wpAny_Constant_bool ?_
  exact stO O fun s₂ O₂ => h s₂ O₂
theorem thS1 (O : Own w.params foot g σ s L m led) (hroom : A.depth + 120 < recursionLimit) (hu : A.units + 320 < cLine)
    (hw : m "waiting" = some (.ref lw)) (hlw : g.get? lw = some (lstObj vw.toArray kw)) (hiw : IntsAre vw wt) (hk : m "kind" = some (.int x.1 tk)) (ho : m "octets" = some (.ref lo)) (hlo : g.get? lo = some (lstObj vo.toArray ko)) (hio : IntsAre vo x.2) (V : ValOk x)
    (ht : m "told" = some (.ref r)) (hT : Told g r x.1 wt) (hlt : wt.length < x.2.length) (hwt : wt = x.2.take wt.length)
    (h : ∀ s', Own w.params foot g σ s' L m led → Q .next s') : wpAny (model prog w) (A.deeper (EVC w.params 282 L)) (exec (thSt w.params 1) (EVC w.params 282 L)) Q E s := by
  have hlen := hiw.length
  have hV4 := V.len
  have hpart := tryV_part V hlt
  rw [← hwt] at hpart
  obtain ⟨tm, kr, hr⟩ : ∃ t k1, g.get? r = some (lstObj #[.str (wordsV x.1 (x.2.headD 0) wt.length) t] k1) := by
    unfold Told at hT
    rw [hpart] at hT
    exact hT
  obtain ⟨n0, b, hx2⟩ := List.exists_cons_of_ne_nil V.ne
  obtain ⟨t0, hv0⟩ : ∃ t, vo[0]? = some (.int (x.2.headD 0) t) := ints_at hio (by rw [hx2]; rfl)
  have hn0 : 0 ≤ x.2.headD 0 ∧ x.2.headD 0 < 256 := by
    rw [hx2]
    exact V.r n0 (by rw [hx2]; exact List.mem_cons_self)
  refine wpAny_If ?_
  refine wpAny_isTrue_Compare1 ?_
  refine ldO O (by exact ht) ?_
  repeat walk_at "st"
  refine ldG (v := .ref 270) O ?_
  with_reducible refine callWith_K (h₀ := g) O.kn (by kernel_rfl) ?_ (by kernel_rfl) (by kernel_rfl)
  repeat walk_at "st"
  refine ldO O (by exact hk) ?_
  repeat walk_at "st"
  refine ldO O (by exact ho) ?_
  repeat walk_at "st"
  refine ldB (v := .builtin "len") O ?_
  refine callWith_method1 ?_
  repeat walk_at "st"
  refine ldO O (by exact hw) ?_
  repeat walk_at "st"
  refine lenlO O (O.keep _ _ hlw) (by simp; walk_at "om") fun s₁ u₁ O₁ => ?_
  repeat walk_at "st"
  refine ⟨O₁.X, ?_⟩
  have hsz : ((vw.toArray.size : Nat) : Int) = (wt.length : Nat) := by simp [hlen]
  rw [hsz]
  refine wpAny_call (words_ok (n0 := x.2.headD 0) (t0 := t0) O₁.X (by show A.depth + 1 < _; exact dl hroom (by decide)) (O₁.keep _ _ hlo) (fun _ _ => hv0) (fun hth => ?_) hn0 (by walk_at "om") fun s₂ t₂ p => ?_)
  · have hkd := V.kind
    by_cases h0 : x.1 = 0
    · obtain ⟨a, e⟩ := V.zero h0
      rw [e] at hlt
      have : wt.length < 1 := hlt
      walk_at "om"
    · walk_at "om"
  have O₂ := O₁.quiet p
  repeat walk_at "st"
  refine lstO O₂ fun ln s₃ hln O₃ => ?_
  refine ne_lists (O₃.keep _ _ hr) (O₃.at 0 rfl) rfl (by show A.units + 3 < _; exact dl hu (by decide)) (fun j j1 j2 => ?_) ?_
  · have : j = 0 := by
      have : j < 1 := j1
      walk_at "om"
    subst this
    exact EqAt_strs rfl
  refine wpAny_pure ?_
  refine ifF (by rfl) ?_
  refine wpAny_execs_nil ?_
  exact h s₃ (O₃.tail rfl)
theorem elS0 (O : Own w.params foot g σ s L m led) (hd : m "done" = some (.int (d : Nat) td)) (h : ∀ s' t, Own w.params foot g σ s' L (fun y => if y = "done" then some (Value.int ((d + 1 : Nat) : Int) t) else m y) led → Q .next s') : wpAny (model prog w) (A.deeper (EVC w.params 282 L)) (exec (elSt w.params 0) (EVC w.params 282 L)) Q E s := by
  refine wpAny_AugAssign_Name ?_
  refine ldnO O (by exact hd) ?_
  refine intO O fun t₁ s₁ O₁ => ?_
  refine PySem.P.iadd_int ?_
  rw [show ((d : Nat) : Int) + 1 = ((d + 1 : Nat) : Int) by walk_at "om"]
  exact stO (O₁.toks (s₁.toks + 1)) fun s₂ O₂ => h s₂ _ O₂
set_option maxHeartbeats 1000000 in
theorem elS1 (O : Own w.params foot g σ s L m led) (hroom : A.depth + 120 < recursionLimit) (hu : A.units + 320 < cLine) (hh : A.handled = none)
    (hw : m "waiting" = some (.ref lw)) (hlw : g.get? lw = some (lstObj vw.toArray kw)) (hiw : IntsAre vw wt) (hk : m "kind" = some (.int x.1 tk)) (ho : m "octets" = some (.ref lo)) (hlo : g.get? lo = some (lstObj vo.toArray ko)) (hio : IntsAre vo x.2) (V : ValOk x)
    (ht : m "told" = some (.ref r)) (hT : Told g r x.1 wt) (hsz : wt.length ≤ 100) (hwt : wt = x.2 ++ wt.drop x.2.length)
    (h : ∀ s', Own w.params foot g σ s' L m led → Q .next s') : wpAny (model prog w) (A.deeper (EVC w.params 282 L)) (exec (elSt w.params 1) (EVC w.params 282 L)) Q E s := by
  have hlen := hiw.length
  have hleno := hio.length
  have hV4 := V.len
  have hkd := V.kind
  have hwhole := tryV_whole V (wt.drop x.2.length)
  rw [← hwt] at hwhole
  obtain ⟨v, lf, vs', k1, k2, hr, htv, hlf, hil⟩ : ∃ v lf vs' k1 k2, g.get? r = some (lstObj #[v, .ref lf] k1) ∧ (valueV x.1 x.2).val v ∧ g.get? lf = some (lstObj vs'.toArray k2) ∧ IntsAre vs' (wt.drop x.2.length) := by
    unfold Told at hT
    rw [hwhole] at hT
    exact hT
  refine wpAny_If ?_
  refine isTrue_or ?_
  refine wpAny_isTrue_Compare1 ?_
  refine ldO O (by exact ht) ?_
  repeat walk_at "st"
  refine ldG (v := .ref 263) O ?_
  with_reducible refine callWith_K (h₀ := g) O.kn (by kernel_rfl) ?_ (by kernel_rfl) (by kernel_rfl)
  repeat walk_at "st"
  refine ldO O (by exact hk) ?_
  repeat walk_at "st"
  refine ldO O (by exact ho) ?_
  repeat walk_at "st"
  refine ⟨O.X, ?_⟩
  refine wpAny_call (value_ok O.X (by show A.depth + 1 < _; exact dl hroom (by decide)) hh (O.keep _ _ hlo) hio V.r V.ne (by walk_at "om") hkd.1 hkd.2 fun s₂ v' p hv' => ?_)
  have O₂ := O.quiet p
  repeat walk_at "st"
  refine ldO O₂ (by exact hw) ?_
  repeat walk_at "st"
  refine ldB (v := .builtin "len") O₂ ?_
  refine callWith_method1 ?_
  repeat walk_at "st"
  refine ldO O₂ (by exact ho) ?_
  repeat walk_at "st"
  refine len_list ⟨_, O₂.keep _ _ hlo, rfl, _, rfl⟩ (by simp; walk_at "om") ?_
  rw [show ((vo.toArray.size : Nat) : Int) = (x.2.length : Nat) by simp [hleno]]
  have O₃ := O₂.toks (s₂.toks + 1 + 1)
  generalize hs₃ : ({ s₂ with toks := s₂.toks + 1 + 1 } : Shared) = s₃ at O₃ ⊢
  repeat walk_at "st"
  have O₄ := O₃.push { cls := .type "slice", data := .fields #[.int (x.2.length : Nat) (s₂.toks + 1), .none, .none] }
  refine lst_getSliceO (lo := some ((x.2.length : Nat) : Int)) (hi := none) O₄ (O₄.keep _ _ hlw) ⟨_, O₄.at 0 rfl, rfl, rfl⟩ (.int _ _) .none (by simp; walk_at "om") fun D₀ s₅ hD₀ O₅ => ?_
  rw [slicePick_from'] at O₅
  have hDlf : lf ≠ D₀ := by
    rintro rfl
    rw [O₄.keep _ _ hlf] at hD₀; cases hD₀
  repeat walk_at "st"
  refine lstO O₅ fun ln s₆ hln O₆ => ?_
  have hdrop : IntsAre (vw.drop x.2.length) (wt.drop x.2.length) := ints_drop _ hiw
  refine ne_lists (O₆.keep _ _ hr) (O₆.at 0 rfl) rfl (by show A.units + 3 < _; exact dl hu (by decide)) (fun j j1 j2 => ?_) ?_
  · have h01 : j = 0 ∨ j = 1 := by
      have : j < 2 := j1
      walk_at "om"
    rcases h01 with rfl | rfl
    · exact EqAt_tv htv hv'
    · refine EqAt_lists hDlf (O₆.keep _ _ hlf) (O₆.at 1 rfl) ?_ (by show A.units + 4 < _; exact dl hu (by decide)) fun j' e1 e2 => ?_
      · have e1 := hil.length
        have e2 := hdrop.length
        simp at e1 e2 ⊢
        walk_at "om"
      · exact (ints_eqAt hil hdrop).2 j' e1 e2
  refine wpAny_pure ?_
  rw [if_neg (by decide)]
  refine isTrue_or ?_
  refine isTrue_not ?_
  refine isTrue_plain ?_
  repeat walk_at "st"
  refine ldG (v := .ref 258) O₆ ?_
  with_reducible refine callWith_K (h₀ := g) O₆.kn (by kernel_rfl) ?_ (by kernel_rfl) (by kernel_rfl)
  repeat walk_at "st"
  refine ldO O₆ (by exact hk) ?_
  repeat walk_at "st"
  refine ldO O₆ (by exact ht) ?_
  refine intO O₆ fun t₇ s₇ O₇ => ?_
  refine sub_lst (O₇.keep _ _ hr) (v := v) (by decide) (by decide) (by rfl) ?_
  repeat walk_at "st"
  refine ⟨O₇.X, ?_⟩
  refine wpAny_call (right_ok O₇.X (by show A.depth + 1 < _; exact dl hroom (by decide)) ?_ fun s₈ p₈ => ?_)
  · have hv3 := four V.kind.1 V.kind.2
    unfold valueV at htv
    rcases hv3 with e | e | e | e
    · rw [e] at htv ⊢
      obtain ⟨t, rfl⟩ := htv
      exact .inr (.inr ⟨by decide, by decide, _, t, rfl⟩)
    · exact .inl e
    · rw [e] at htv ⊢
      obtain ⟨t, rfl⟩ := htv
      exact .inr (.inl ⟨rfl, _, t, rfl⟩)
    · rw [e] at htv ⊢
      obtain ⟨t, rfl⟩ := htv
      exact .inr (.inr ⟨by decide, by decide, _, t, rfl⟩)
  have O₈ := O₇.quiet p₈
  refine wpAny_pure ?_
  rw [if_neg (by decide)]
  refine isTrue_or_nil ?_
  refine ifF (by rfl) ?_
  refine wpAny_execs_nil ?_
  exact h s₈ (((O₈.tail rfl).tail rfl).tail rfl)
set_option maxHeartbeats 1000000 in
theorem elS2 (O : Own w.params foot g σ s L m led) (hw : m "waiting" = some (.ref lw)) (hlw : g.get? lw = some (lstObj vw.toArray kw)) (hiw : IntsAre vw wt) (ho : m "octets" = some (.ref lo)) (hlo : g.get? lo = some (lstObj vo.toArray ko)) (hio : IntsAre vo x.2) (V : ValOk x) (hsz : wt.length ≤ 100)
    (h : ∀ s' g' lw' vw' k', (∀ b o, g.get? b = some o → g'.get? b = some o) → Own w.params foot g' σ s' L (fun y => if y = "waiting" then some (Value.ref lw') else m y) led → g'.get? lw' = some (lstObj vw'.toArray k') → IntsAre vw' (wt.drop x.2.length) → Q .next s') : wpAny (model prog w) (A.deeper (EVC w.params 282 L)) (exec (elSt w.params 2) (EVC w.params 282 L)) Q E s := by
  have hlen := hiw.length
  have hleno := hio.length
  have hV4 := V.len
  show wpAny _ _ (exec (Stmt.Assign [Expr.Name _ _] _ _) _) _ _ _
  repeat walk_at "st"
  refine ldO O (by exact hw) ?_
  repeat walk_at "st"
  refine ldB (v := .builtin "len") O ?_
  refine callWith_method1 ?_
  repeat walk_at "st"
  refine ldO O (by exact ho) ?_
  repeat walk_at "st"
  refine len_list ⟨_, O.keep _ _ hlo, rfl, _, rfl⟩ (by simp; walk_at "om") ?_
  rw [show ((vo.toArray.size : Nat) : Int) = (x.2.length : Nat) by simp [hleno]]
  have O₃ := O.toks (s.toks + 1 + 1)
  generalize hs₃ : ({ s with toks := s.toks + 1 + 1 } : Shared) = s₃ at O₃ ⊢
  repeat walk_at "st"
  have O₄ := O₃.push { cls := .type "slice", data := .fields #[.int (x.2.length : Nat) (s.toks + 1), .none, .none] }
  refine lst_getSliceO (lo := some ((x.2.length : Nat) : Int)) (hi := none) O₄ (O₄.keep _ _ hlw) ⟨_, O₄.at 0 rfl, rfl, rfl⟩ (.int _ _) .none (by simp; walk_at "om") fun D₀ s₅ hD₀ O₅ => ?_
  rw [slicePick_from'] at O₅
  refine stO O₅ fun s₆ O₆ => ?_
  obtain ⟨g', O₇, up, hin⟩ := O₆.settle [_, _] (led := led)
  exact h s₆ g' D₀ (vw.drop x.2.length) 0 up O₇ (hin _ (.head _)) (ints_drop _ hiw)
end
end Mine
namespace Mine
noncomputable def whTest (P : Params) : Expr := match whSt P 2 with
  | .If t _ _ _ => t
  | _ => default
noncomputable def whPos (P : Params) : Pos := match whSt P 2 with
  | .If _ _ _ p => p
  | _ => default
theorem whSt2_eq (P : Params) : whSt P 2 = .If (whTest P) (thBody P) (elBody P) (whPos P) := by kernel_rfl
section
variable {prog : Program} {w : World} {A : Around} {E : Value → Shared → Prop} {Q : Flow → Shared → Prop} {foot : List Addr} {σ s : Shared} {g : Heap} {L lv lw lo r : Addr} {m : Str → Option Value} {led : List (Addr × Obj)} {vv vw vo : List Value} {xs : List (Int × List Int)} {x : Int × List Int} {wt : List Int} {k kw ko d : Nat} {tb : Array Value} {td tk : Tok}
set_option maxHeartbeats 1000000 in
theorem whS2 (O : Own w.params foot g σ s L m led) (hroom : A.depth + 120 < recursionLimit) (hu : A.units + 320 < cLine) (hh : A.handled = none)
    (hw : m "waiting" = some (.ref lw)) (hlw : g.get? lw = some (lstObj vw.toArray kw)) (hiw : IntsAre vw wt) (hk : m "kind" = some (.int x.1 tk)) (ho : m "octets" = some (.ref lo)) (hlo : g.get? lo = some (lstObj vo.toArray ko)) (hio : IntsAre vo x.2) (V : ValOk x)
    (ht : m "told" = some (.ref r)) (hT : Told g r x.1 wt) (hd : m "done" = some (.int (d : Nat) td)) (hsz : wt.length ≤ 100) (hlt : wt.length < x.2.length → wt = x.2.take wt.length) (hge : x.2.length ≤ wt.length → wt = x.2 ++ wt.drop x.2.length)
    (h1 : wt.length < x.2.length → ∀ s', Own w.params foot g σ s' L (fun y => if y = "refused" then some (Value.bool true) else m y) led → Q .next s')
    (h2 : x.2.length ≤ wt.length → ∀ s' g' lw' vw' k' t, (∀ b o, g.get? b = some o → g'.get? b = some o) → Own w.params foot g' σ s' L (fun y => if y = "waiting" then some (Value.ref lw') else if y = "done" then some (Value.int ((d + 1 : Nat) : Int) t) else m y) led → g'.get? lw' = some (lstObj vw'.toArray k') → IntsAre vw' (wt.drop x.2.length) → Q .next s') :
    wpAny (model prog w) (A.deeper (EVC w.params 282 L)) (exec (whSt w.params 2) (EVC w.params 282 L)) Q E s := by
  have hlen := hiw.length
  have hleno := hio.length
  have hV4 := V.len
  rw [whSt2_eq]
  refine wpAny_If ?_
  show wpAny _ _ (isTrue (Expr.Compare _ _ _ _) _ _) _ _ _
  refine wpAny_isTrue_Compare1 ?_
  repeat walk_at "st"
  refine ldB (v := .builtin "len") O ?_
  refine callWith_method1 ?_
  repeat walk_at "st"
  refine ldO O (by exact hw) ?_
  repeat walk_at "st"
  refine lenlO O (O.keep _ _ hlw) (by simp; walk_at "om") (fun s₁ u₁ O₁ => ?_) hlen
  repeat walk_at "st"
  refine ldB (v := .builtin "len") O₁ ?_
  refine callWith_method1 ?_
  repeat walk_at "st"
  refine ldO O₁ (by exact ho) ?_
  repeat walk_at "st"
  refine lenlO O₁ (O₁.keep _ _ hlo) (by simp; walk_at "om") (fun s₂ u₂ O₂ => ?_) hleno
  refine PySem.P.lt_int ?_
  refine wpAny_pure ?_
  by_cases hc : wt.length < x.2.length
  · refine ifT (by simpa using hc) ?_
    rw [thBody_eq]
    walk_at "nx"
    refine mstN fun N hN => ?_
    refine thS0 O₂ fun s₃ O₃ => ?_
    walk_at "nx"
    refine mstN fun N hN => ?_
    refine thS1 O₃ hroom hu (by rw [if_neg (by decide)]; exact hw) hlw hiw (by rw [if_neg (by decide)]; exact hk) (by rw [if_neg (by decide)]; exact ho) hlo hio V (by rw [if_neg (by decide)]; exact ht) hT hc (hlt hc) fun s₄ O₄ => ?_
    walk_at "nx"
    exact h1 hc s₄ O₄
  · have hc' : x.2.length ≤ wt.length := by walk_at "om"
    refine ifF (by simpa using hc') ?_
    rw [elBody_eq]
    walk_at "nx"
    refine mstN fun N hN => ?_
    refine elS0 O₂ hd fun s₃ t₃ O₃ => ?_
    walk_at "nx"
    refine mstN fun N hN => ?_
    refine elS1 O₃ hroom hu hh (by rw [if_neg (by decide)]; exact hw) hlw hiw (by rw [if_neg (by decide)]; exact hk) (by rw [if_neg (by decide)]; exact ho) hlo hio V (by rw [if_neg (by decide)]; exact ht) hT hsz (hge hc') fun s₄ O₄ => ?_
    walk_at "nx"
    refine mstN fun N hN => ?_
    refine elS2 O₄ (by rw [if_neg (by decide)]; exact hw) hlw hiw (by rw [if_neg (by decide)]; exact ho) hlo hio V hsz fun s₅ g₅ lw' vw' k' up O₅ e1 e2 => ?_
    walk_at "nx"
    exact h2 hc' s₅ g₅ lw' vw' k' t₃ up O₅ e1 e2
theorem lawS18 (h : Q (.ret (.bool true)) s) : wpAny (model prog w) (A.deeper (EVC w.params 282 L)) (exec (lawSt w.params 18) (EVC w.params 282 L)) Q E s := by
  show wpAny _ _ (exec (Stmt.Return (some _) _) _) _ _ _
  repeat walk_at "st"
  refine wpAny_Constant_bool ?_
  exact h
end
end Mine
namespace Mine
theorem whBody_eq (P : Params) : whBody P = [whSt P 0, whSt P 1, whSt P 2] := by kernel_rfl
theorem rowBody_eq (P : Params) : rowBody P = [rowSt P 0, rowSt P 1, rowSt P 2] := by kernel_rfl
noncomputable def loTest (P : Params) : Expr := match rowSt P 2 with
  | .While t _ _ _ => t
  | _ => default
noncomputable def loPos (P : Params) : Pos := match rowSt P 2 with
  | .While _ _ _ p => p
  | _ => default
theorem rowSt2_eq (P : Params) : rowSt P 2 = .While (loTest P) (whBody P) [] (loPos P) := by kernel_rfl
/-- what holds between the readings -/
structure WI (P : Params) (ns : List Int) (g : Heap) (m : Str → Option Value) (tb : Array Value) (lv : Addr) (rest : List Int) (d : Nat) (wt : List Int) : Prop where
  val : m "values" = some (.ref lv)
  vv : ∃ vv k, g.get? lv = some (lstObj vv.toArray k) ∧ ValsAre g vv (valsV ns)
  done : ∃ t, m "done" = some (.int (d : Nat) t)
  dle : d ≤ (valsV ns).length
  wait : ∃ lw vw k, m "waiting" = some (.ref lw) ∧ g.get? lw = some (lstObj vw.toArray k) ∧ IntsAre vw wt
  tab : TryTab P g tb
  eq : wt ++ rest = flatV ((valsV ns).drop d)
section
variable {P : Params} {ns : List Int} {g g' : Heap} {m : Str → Option Value} {tb : Array Value} {lv : Addr} {rest : List Int} {d : Nat} {wt : List Int}
theorem WI.up (W : WI P ns g m tb lv rest d wt) (k : ∀ b o, g.get? b = some o → g'.get? b = some o) : WI P ns g' m tb lv rest d wt := by
  obtain ⟨a, ⟨vv, kv, b1, b2⟩, c, d, ⟨lw, vw, kw, e1, e2, e3⟩, f, h⟩ := W
  exact ⟨a, ⟨vv, kv, k _ _ b1, b2.up k⟩, c, d, ⟨lw, vw, kw, e1, k _ _ e2, e3⟩, f.keeps k, h⟩
theorem WI.set (W : WI P ns g m tb lv rest d wt) {x : Str} {v : Value} (h1 : x ≠ "values" := by decide) (h2 : x ≠ "done" := by decide) (h3 : x ≠ "waiting" := by decide) : WI P ns g (fun y => if y = x then some v else m y) tb lv rest d wt := by
  obtain ⟨a, b, ⟨t, c⟩, d, ⟨lw, vw, kw, e1, e2, e3⟩, f, h⟩ := W
  exact ⟨by rw [if_neg (Ne.symm h1)]; exact a, b, ⟨t, by rw [if_neg (Ne.symm h2)]; exact c⟩, d, ⟨lw, vw, kw, by rw [if_neg (Ne.symm h3)]; exact e1, e2, e3⟩, f, h⟩
theorem flat_len (ns : List Int) (d : Nat) : (flatV ((valsV ns).drop d)).length ≤ 68 := by
  have h1 := flatV_len (xs := (valsV ns).drop d) fun x hx => (vals_ok ns x (List.mem_of_mem_drop hx)).len
  have h2 := (nums_len ns).1
  have h3 : (valsV ns).length = (numsV ns).length := by unfold valsV; rw [List.length_map]
  rw [List.length_drop] at h1
  walk_at "om"
theorem WI.len (W : WI P ns g m tb lv rest d wt) : wt.length ≤ 68 := by
  have h1 := congrArg List.length W.eq
  have h2 := flat_len ns d
  rw [List.length_append] at h1
  walk_at "om"
theorem WI.oct (W : WI P ns g m tb lv rest d wt) : ∀ z ∈ wt, 0 ≤ z ∧ z < 256 := fun z hz => by
  have h1 : z ∈ flatV ((valsV ns).drop d) := W.eq ▸ List.mem_append_left _ hz
  obtain ⟨x, hx, hz'⟩ := List.mem_flatMap.mp h1
  exact (vals_ok ns x (List.mem_of_mem_drop hx)).r z hz'
theorem flat_cons {d : Nat} (h : d < (valsV ns).length) : flatV ((valsV ns).drop d) = (valsV ns)[d].2 ++ flatV ((valsV ns).drop (d + 1)) := by
  rw [List.drop_eq_getElem_cons h]
  unfold flatV
  rw [List.flatMap_cons]
theorem tab_nocode {tb : Array Value} (h : TryTab P g tb) {vs : Array Value} {q : Str} {t : Tok} (e : (tabObj tb).data = .fields vs) : vs[1]? ≠ some (.str q t) := by
  cases e
  rcases h with rfl | ⟨c1, c2, rfl, -⟩
  · simp
  · simp [rawInt]
end
section
variable {prog : Program} {w : World} {A : Around} {E : Value → Shared → Prop} {Q : Flow → Shared → Prop} {foot : List Addr} {σ s : Shared} {g : Heap} {L I lv D : Addr} {m : Str → Option Value} {led : List (Addr × Obj)} {oI : Obj} {ns wt rest : List Int} {d : Nat} {tb : Array Value} {vs : List Value} {k : Nat}
theorem it_nocode {oI : Obj} (h : ∃ a b, oI.data = .fields #[.ref a, .int b 0]) (vs : Array Value) (q : Str) (t : Tok) (e : oI.data = .fields vs) : vs[1]? ≠ some (.str q t) := by
  obtain ⟨a, b, e3⟩ := h
  rw [e3] at e; cases e
  simp
/-- where the while-loop of a row stands -/
inductive R2 (P : Params) (foot : List Addr) (g : Heap) (σ : Shared) (L I : Addr) (oI : Obj) (ns : List Int) (lv : Addr) (rest : List Int) (kk : Nat) (s' : Shared) : Prop where
  | mk (rf : Bool) (d' : Nat) (wt' : List Int) (g' : Heap) (m' : Str → Option Value) (tb' : Array Value) (hk : kk = 2 * ((valsV ns).length - d') + (if rf = true then 0 else 1)) (up : ∀ b o, g.get? b = some o → g'.get? b = some o)
    (O : Own P foot g' σ s' L m' [(I, oI), (248, tabObj tb')]) (W : WI P ns g' m' tb' lv rest d' wt') (hrf : m' "refused" = some (.bool rf))
theorem cnt_lt {n d : Nat} (h : d < n) : 2 * (n - (d + 1)) + 1 < 2 * (n - d) + 1 := by walk_at "om"
set_option maxHeartbeats 1000000 in
theorem rowS2 (O : Own w.params foot g σ s L m [(I, oI), (248, tabObj tb)]) (hoI : ∃ a b, oI.data = .fields #[.ref a, .int b 0]) (W : WI w.params ns g m tb lv rest d wt) (hrf : m "refused" = some (.bool false)) (hA : A.frames = some [])
    (hroom : A.depth + 120 < recursionLimit) (hu : A.units + 320 < cLine) (hh : A.handled = none)
    (h : ∀ s' g' m' tb' d' wt', (∀ b o, g.get? b = some o → g'.get? b = some o) → Own w.params foot g' σ s' L m' [(I, oI), (248, tabObj tb')] → WI w.params ns g' m' tb' lv rest d' wt' → Q .next s') :
    wpAny (model prog w) (A.deeper (EVC w.params 282 L)) (exec (rowSt w.params 2) (EVC w.params 282 L)) Q E s := by
  have hnl := (nums_len ns).1
  have hvl : (valsV ns).length = (numsV ns).length := by unfold valsV; rw [List.length_map]
  rw [rowSt2_eq]
  refine wpAny_While ?_
  refine codeAny_whileLoop (R2 w.params foot g σ L I oI ns lv rest) ?_ (2 * ((valsV ns).length - d) + 1) ⟨false, d, wt, g, m, tb, rfl, fun _ _ e => e, O, W, hrf⟩
  rintro kk s' ⟨rf, d', wt', g', m', tb', rfl, up, O', W', hrf'⟩
  obtain ⟨vv, kv, hlv, hV⟩ := W'.vv
  obtain ⟨td, hd⟩ := W'.done
  obtain ⟨lw, vw, kw, hw, hlw, hiw⟩ := W'.wait
  have hvv := hV.len
  show wpAny _ _ (isTrue (Expr.BoolOp _ (_ :: _) _) _ _) _ _ _
  refine isTrue_and ?_
  refine wpAny_isTrue_Compare1 ?_
  refine ldO O' (by exact hd) ?_
  repeat walk_at "st"
  refine ldB (v := .builtin "len") O' ?_
  refine callWith_method1 ?_
  repeat walk_at "st"
  refine ldO O' (by exact W'.val) ?_
  repeat walk_at "st"
  refine lenlO O' (O'.keep _ _ hlv) (by simp; walk_at "om") (fun s₂ u₂ O₂ => ?_) hvv
  refine PySem.P.lt_int ?_
  refine wpAny_pure ?_
  by_cases hc : d' < (valsV ns).length
  · refine ifT (by simpa using hc) ?_
    refine isTrue_and ?_
    refine isTrue_not ?_
    refine isTrue_plain ?_
    refine ldO O₂ (by exact hrf') ?_
    refine wpAny_truthy_bool ?_
    cases rf with
    | true =>
      refine ifF (by rfl) (ifF (by rfl) ?_)
      walk_at "nx"
      exact h s₂ g' m' tb' d' wt' up O₂ W'
    | false =>
      refine ifT (by rfl) (isTrue_and_nil (ifT (by rfl) ?_))
      rw [whBody_eq]
      walk_at "nx"
      refine mstN fun N hN => ?_
      have V : ValOk (valsV ns)[d'] := vals_ok ns _ (List.getElem_mem hc)
      have hfl := flat_cons hc
      have heq := W'.eq
      rw [hfl] at heq
      have hx : (valsV ns)[d']? = some (valsV ns)[d'] := List.getElem?_eq_getElem hc
      generalize (valsV ns)[d'] = x at V hfl heq hx
      have hwl := W'.len
      refine whS0 O₂ hh W'.val hlv hd hV hx (by walk_at "om") fun s₃ tk lo vo ko O₃ hlo hio => ?_
      walk_at "nx"
      refine mstN fun N hN => ?_
      have hlt : wt'.length < x.2.length → wt' = x.2.take wt'.length := fun q => split_lt heq q
      have hge : x.2.length ≤ wt'.length → wt' = x.2 ++ wt'.drop x.2.length := fun q => (split_ge heq q).1
      have h3 : ∀ n0 nr, wt' = n0 :: nr → x.1 ≠ 0 → n0 ≤ 3 := fun n0 nr e hk => by
        obtain ⟨b, e2, hb⟩ := V.count hk
        rw [e, e2] at heq
        have := (List.cons.inj heq).1
        walk_at "om"
      refine whS1 (x := x) (tk := tk) O₃ 1 rfl W'.tab (fun p hp vs q t e => ?_) hA hroom hu hh (by rw [if_neg (by decide), if_neg (by decide)]; exact hw) hlw hiw (by rw [if_neg (by decide), if_pos rfl]) V W'.oct h3 (by walk_at "om") fun s₄ g₄ tb₄ r up₄ O₄ ht₄ hT => ?_
      · exact fa2 (p := fun p : Addr × Obj => ∀ vs q t, p.2.data = .fields vs → vs[1]? ≠ some (.str q t)) (it_nocode hoI) (fun _ _ _ e => tab_nocode W'.tab e) p hp vs q t e
      walk_at "nx"
      refine mstN fun N hN => ?_
      have W₄ : WI w.params ns g₄ (fun y => if y = "told" then some (Value.ref r) else if y = "octets" then some (Value.ref lo) else if y = "kind" then some (Value.int x.1 tk) else m' y) tb₄ lv rest d' wt' := by
        have W₁ := ((W'.up up₄).set (x := "kind") (v := .int x.1 tk)).set (x := "octets") (v := .ref lo) |>.set (x := "told") (v := .ref r)
        exact ⟨W₁.val, W₁.vv, W₁.done, W₁.dle, W₁.wait, ht₄, W₁.eq⟩
      refine whS2 (x := x) (tk := tk) (td := td) (d := d') O₄ hroom hu hh (by rw [if_neg (by decide), if_neg (by decide), if_neg (by decide)]; exact hw) (up₄ _ _ hlw) hiw (by rw [if_neg (by decide), if_neg (by decide), if_pos rfl]) (by rw [if_neg (by decide), if_pos rfl]) (up₄ _ _ hlo) hio V (by rw [if_pos rfl]) hT (by rw [if_neg (by decide), if_neg (by decide), if_neg (by decide)]; exact hd) (by walk_at "om") hlt hge (fun q s₅ O₅ => ?_) fun q s₅ g₅ lw' vw' k' t₅ up₅ O₅ e1 e2 => ?_
      · try dsimp only
        walk_at "nx"
        refine ⟨2 * ((valsV ns).length - d'), ?_, true, d', wt', g₄, _, tb₄, rfl, fun b o e => up₄ _ _ (up _ _ e), O₅, W₄.set, if_pos rfl⟩
        exact Nat.lt_succ_self _
      · try dsimp only
        walk_at "nx"
        have W₅ := W₄.up up₅
        refine ⟨2 * ((valsV ns).length - (d' + 1)) + 1, ?_, false, d' + 1, wt'.drop x.2.length, g₅, _, tb₄, rfl, fun b o e => up₅ _ _ (up₄ _ _ (up _ _ e)), O₅, ⟨?_, W₅.vv, ⟨t₅, ?_⟩, hc, ⟨lw', vw', k', if_pos rfl, e1, e2⟩, W₅.tab, (split_ge heq q).2⟩, ?_⟩
        · exact cnt_lt hc
        · exact W₄.val
        · rw [if_neg (by decide), if_pos rfl]
        · exact hrf'
  · refine ifF (by simpa using hc) (ifF (by rfl) ?_)
    walk_at "nx"
    exact h s₂ g' m' tb' d' wt' up O₂ W'
end
end Mine
namespace Mine
section
variable {prog : Program} {w : World} {A : Around} {E : Value → Shared → Prop} {Q : Flow → Shared → Prop} {foot : List Addr} {σ s : Shared} {g : Heap} {L I lv D : Addr} {m : Str → Option Value} {led : List (Addr × Obj)} {oI : Obj} {ns wt rest : List Int} {d : Nat} {tb : Array Value} {vs : List Value} {k : Nat} {rows : List Str}
theorem lawS17 (O : Own w.params foot g σ s L m [(248, tabObj tb)]) (hr : m "rows" = some (.ref D)) (hD : g.get? D = some (lstObj vs.toArray k)) (hvs : StrsAre vs rows) (hrl : ∀ r ∈ rows, r.length ≤ 10000) (W : WI w.params ns g m tb lv (rowsOct rows) 0 []) (hA : A.frames = some [])
    (hroom : A.depth + 120 < recursionLimit) (hu : A.units + 320 < cLine) (hh : A.handled = none) (hsz : rows.length ≤ 10000)
    (h : ∀ s' g' m' tb', (∀ b o, g.get? b = some o → g'.get? b = some o) → Own w.params foot g' σ s' L m' [(248, tabObj tb')] → Q .next s') :
    wpAny (model prog w) (A.deeper (EVC w.params 282 L)) (exec (lawSt w.params 17) (EVC w.params 282 L)) Q E s := by
  have hlen := strs_len hvs
  refine wpAny_For ?_
  refine ldO O (by exact hr) ?_
  refine wpAny_pyIter_list ⟨_, O.keep _ _ hD, rfl, _, rfl⟩ ?_
  have O₁ := O.push { cls := .type "list_iterator", data := .fields #[.ref D, .int 0 0] }
  have hDI : D ≠ s.heap.objs.size := Nat.ne_of_lt (Heap.lt_size (O.keep _ _ hD))
  refine forSrcO (srcList (A := A.deeper (EVC w.params 282 L)) hD hDI hh) (fun i g₁ m₁ led₁ => ∃ tb d wt, led₁ = [(248, tabObj tb)] ∧ WI w.params ns g₁ m₁ tb lv (rowsOct (rows.drop i)) d wt) O₁ ⟨rfl, rfl⟩ ⟨tb, 0, [], rfl, by rw [List.drop_zero]; exact W⟩ ?_ ?_
  · rintro i v s₁ g₁ m₁ led₁ oi hlt hv hob up ⟨tb₁, d₁, wt₁, rfl, W₁⟩ O₂ Q' E' q
    obtain ⟨row, hrow⟩ : ∃ row, rows[i]? = some row := ⟨_, List.getElem?_eq_getElem (by walk_at "om")⟩
    obtain ⟨t, ht⟩ := strs_get hvs hrow
    rw [hv] at ht
    obtain rfl : v = .str row t := Option.some.inj ht
    have hil : i < rows.length := by walk_at "om"
    have hdrop : rowsOct (rows.drop i) = rowOct row ++ rowsOct (rows.drop (i + 1)) := by
      rw [List.drop_eq_getElem_cons hil]
      rw [List.getElem?_eq_getElem hil] at hrow
      rw [Option.some.inj hrow]
      unfold rowsOct
      rw [List.flatMap_cons]
    have hrl' := hrl row (List.mem_of_getElem? hrow)
    have hwl := W₁.len
    obtain ⟨lw, vw, kw, e1, e2, e3⟩ := W₁.wait
    show wpAny _ _ (execs (rowBody w.params) _) _ _ _
    rw [rowBody_eq]
    walk_at "nx"
    refine mstN fun N hN => ?_
    refine rowS0 O₂ hh (by exact if_pos rfl) (by rw [if_neg (by decide)]; exact e1) e2 e3 (by walk_at "om") fun s₃ g₃ lw' vw' k' up₃ O₃ f1 f2 => ?_
    walk_at "nx"
    refine mstN fun N hN => ?_
    refine rowS1 O₃ fun s₄ O₄ => ?_
    walk_at "nx"
    refine mstN fun N hN => ?_
    have W₃ : WI w.params ns g₃ (fun y => if y = "waiting" then some (Value.ref lw') else if y = "row" then some (Value.str row t) else m₁ y) tb₁ lv (rowsOct (rows.drop (i + 1))) d₁ (wt₁ ++ rowOct row) := by
      have W₂ := (W₁.up up₃).set (x := "row") (v := .str row t)
      obtain ⟨tt, htt⟩ := W₂.done
      exact ⟨by rw [if_neg (by decide)]; exact W₂.val, W₂.vv, ⟨tt, by rw [if_neg (by decide)]; exact htt⟩, W₂.dle, ⟨lw', vw', k', if_pos rfl, f1, f2⟩, W₂.tab, by rw [List.append_assoc, ← hdrop]; exact W₂.eq⟩
    refine rowS2 O₄ ⟨D, _, hob.2⟩ W₃.set (by exact if_pos rfl) hA hroom hu hh fun s₅ g₅ m₅ tb₅ d₅ wt₅ up₅ O₅ W₅ => ?_
    walk_at "nx"
    exact q s₅ g₅ m₅ _ (fun b o e => up₅ _ _ (up₃ _ _ e)) O₅ ⟨tb₅, d₅, wt₅, rfl, W₅⟩
  · rintro s' g' m' led' up O₂ ⟨tb', d', wt', rfl, -⟩
    try dsimp only
    exact h s' g' m' tb' up O₂
end
end Mine
namespace Mine
theorem rowsI_fold {head width : Int} : ∀ {ws : List Str} {i : Nat} {st : List Str × Int}, RowsI head i st → (∀ v ∈ ws, v.length ≤ 4) → RowsI head (i + ws.length) (ws.foldl (rowsStep head width) st)
  | [], _, _, I, _ => I
  | v :: ws, i, st, I, h => by
    have := rowsI_fold (width := width) (ws := ws) (rowsI_step (width := width) I (h v List.mem_cons_self) fun h1 h2 e => h1 ⟨e, .inr (by have := I.emp e; walk_at "om")⟩) fun u hu => h u (List.mem_cons_of_mem _ hu)
    rw [List.length_cons, List.foldl_cons, show i + (ws.length + 1) = i + 1 + ws.length by walk_at "om"]
    exact this
def okc (r : Str) : Prop := ∀ c ∈ lst r, c = 32 ∨ sig c
theorem okc_append {x y : Str} (h1 : okc x) (h2 : okc y) : okc (x ++ y) := fun c hc => by
  rw [lst_append] at hc
  exact (List.mem_append.mp hc).elim (h1 c) (h2 c)
theorem okc_sp : okc " " := fun c hc => .inl (by have : c ∈ [32] := hc; simpa using this)
theorem okc_nil : okc "" := fun c hc => absurd hc List.not_mem_nil
theorem rows_okc {head width : Int} : ∀ {ws : List (List Nat)} {st : List Str × Int}, (∀ r ∈ st.1, okc r) → (∀ v ∈ ws, ∀ c ∈ v, sig c) → ∀ r ∈ ((ws.map ofL).foldl (rowsStep head width) st).1, okc r
  | [], _, I, _ => I
  | v :: ws, st, I, h => by
    have hv : okc (ofL v) := fun c hc => .inr (h v List.mem_cons_self c hc)
    refine rows_okc (ws := ws) (st := rowsStep head width st (ofL v)) ?_ fun u hu => h u (List.mem_cons_of_mem _ hu)
    unfold rowsStep
    split
    · intro r hr
      have : r = ofL v := by simpa using hr
      subst this; exact hv
    · split
      · intro r hr
        rcases List.mem_append.mp hr with hr | hr
        · exact I r ((List.dropLast_sublist _).subset hr)
        · have e : r = st.1.getLastD "" ++ (" " ++ ofL v) := by simpa using hr
          rw [e]
          refine okc_append ?_ (okc_append okc_sp hv)
          rw [List.getLastD_eq_getLast?]
          cases hl : st.1.getLast? with
          | none => exact okc_nil
          | some u => exact I u (List.mem_of_getLast? hl)
      · intro r hr
        rcases List.mem_append.mp hr with hr | hr
        · split at hr
          · have : r = "" := by simpa using hr
            subst this; exact okc_nil
          · exact I r hr
        · have e : r = " " ++ ofL v := by simpa using hr
          rw [e]
          exact okc_append okc_sp hv
theorem rows_bounds (ns : List Int) : (rowsV ns).length ≤ 136 ∧ (∀ r ∈ rowsV ns, r.length ≤ 544) ∧ (∀ r ∈ rowsV ns, 10 ∉ lst r) := by
  obtain ⟨w0, ws0, e, hn, h3⟩ := wds_cons ns
  have hI := rowsI_fold (head := headV ns) (width := widthV ns) (ws := (wdsV ns).map ofL) (i := 0) (st := ([], headV ns)) ⟨by simp, by simp, fun _ => rfl⟩ fun y hy => by
    obtain ⟨v, hv, rfl⟩ := List.mem_map.mp hy
    rw [e] at hv
    have := h3 v hv
    show v.length ≤ 4
    walk_at "om"
  have hl : ((wdsV ns).map ofL).length ≤ 68 := by rw [List.length_map, e, List.length_cons]; walk_at "om"
  refine ⟨?_, fun r hr => ?_, fun r hr h10 => ?_⟩
  · have := hI.len
    unfold rowsV; walk_at "om"
  · have := hI.row r hr
    walk_at "om"
  · have := rows_okc (head := headV ns) (width := widthV ns) (ws := wdsV ns) (st := ([], headV ns)) (fun r hr => absurd hr List.not_mem_nil) (fun v hv => (words_ok' ns v hv).2) r hr 10 h10
    rcases this with h | h
    · exact absurd h (by decide)
    · exact (sig_facts h).2.2.1 rfl
theorem rows_sum (ns : List Int) : ((rowsV ns).map (·.length)).sum + (rowsV ns).length ≤ 100000 := by
  obtain ⟨h1, h2, -⟩ := rows_bounds ns
  have h3 := sum_le_of (fun y : Str => y.length) 544 (rowsV ns) h2
  have h4 : (rowsV ns).length * 544 ≤ 136 * 544 := Nat.mul_le_mul_right _ h1
  walk_at "om"
theorem rows_ne (ns : List Int) : rowsV ns ≠ [] := by
  obtain ⟨w0, ws0, e, hn, h3⟩ := wds_cons ns
  have hz : 0 ≤ headV ns := (fmod_range (b := 5) (a := ns.sum) (by decide)).1
  have := (line_all (W := widthV ns) hz (e ▸ words_ok' ns)).rows
  unfold rowsV
  rw [e, this]
  simp
theorem chars_oct (ns : List Int) : chars (flatV (valsV ns)) = ofL (octV ns) := rfl
end Mine
namespace Mine
theorem nat_ne2 (n : Nat) : n + 2 ≠ n := by walk_at "om"
theorem nat_ne1 (n : Nat) : n + 1 ≠ n := by walk_at "om"
theorem nat_ne12 (n : Nat) : n + 1 ≠ n + 2 := by walk_at "om"
section
variable {prog : Program} {w : World} {A : Around} {E : Value → Shared → Prop} {R : Result → Shared → Prop} {s : Shared} {la : Addr} {vs : List Value} {ns : List Int} {n : Nat}
set_option maxHeartbeats 4000000 in
theorem law_ok (pg : PG prog w.params) (X : (Kn w.params).In s.heap) (hroom : A.depth + 200 < recursionLimit) (hu : A.units + 400 < cLine) (hh : A.handled = none) (hA : A.frames = some [])
    (hla : s.heap.get? la = some (lstObj vs.toArray n)) (hi : IntsAre vs ns) (hlen : ns.length ≤ 63)
    (hT1 : s.heap.get? 197 = some (tabObj #[])) (hT2 : s.heap.get? 204 = some (tabObj #[])) (hT3 : s.heap.get? 241 = some (tabObj #[])) (hT4 : s.heap.get? 248 = some (tabObj #[]))
    (h : ∀ s' t1 t2 t3 t4, Post [197, 204, 241, 248] s s' → s'.heap.get? 197 = some (tabObj t1) → s'.heap.get? 204 = some (tabObj t2) → s'.heap.get? 241 = some (tabObj t3) → s'.heap.get? 248 = some (tabObj t4) → R (.ok (.ret (.bool true))) s') :
    codeAny (model prog w) A (.call (.ref 282) ⟨[.ref la], []⟩) R s := by
  refine enterC 282 [("rest", 2), ("table", 1)] [.ref la] [("script", .ref la)] [(197, tabObj #[]), (204, tabObj #[]), (241, tabObj #[]), (248, tabObj #[])] X (dl0 hroom) (led_cons hT1 (by unfold Off; kernel_rfl) (led_cons hT2 (by unfold Off; kernel_rfl) (led_cons hT3 (by unfold Off; kernel_rfl) (led_cons hT4 (by unfold Off; kernel_rfl) led_nil)))) (by simp) ?_
  intro L s₀ g₀ up₀ O₀ hcells
  obtain ⟨oR, hoR, hdR, hgR, hnR⟩ := hcells ("rest", 2) (by simp)
  obtain ⟨oT, hoT, hdT, hgT, hnT⟩ := hcells ("table", 1) (by simp)
  dsimp only at hoR hgR hnR hoT hgT hnT
  have hla₀ : g₀.get? la = some (lstObj vs.toArray n) := up₀ _ _ (by
    exact nf4 (gnk hla hT1) (gnk hla hT2) (gnk hla hT3) (gnk hla hT4)) hla
  have hm0 : (fun y => ([("script", Value.ref la)] : List (Str × Value)).reverse.lookup y) "script" = some (.ref la) := by rfl
  have hnom : (fun y => ([("script", Value.ref la)] : List (Str × Value)).reverse.lookup y) "_maxlen" = none := by rfl
  generalize hmm : (fun y => ([("script", Value.ref la)] : List (Str × Value)).reverse.lookup y) = m₀ at O₀ hm0 hnom
  have O₁ := (O₀.addLed hoR (nat_ne2 L) hgR hnR).addLed hoT (nat_ne1 L) hgT (by
    simp only [List.map_cons, List.map_nil, List.mem_cons, List.not_mem_nil, or_false, not_or] at hnT ⊢
    exact ⟨nat_ne12 L, hnT⟩)
  have ht1 : Tab1 pLen #[] := .inl rfl
  have ht2 : Tab1 pStr #[] := .inl rfl
  have hz5 : 0 ≤ headV ns ∧ headV ns < 5 := fmod_range (b := 5) (a := ns.sum) (by decide)
  have hw8 : 0 ≤ (ns.sum.fdiv 5).fmod 8 ∧ (ns.sum.fdiv 5).fmod 8 < 8 := fmod_range (b := 8) (by decide)
  have hwid : widthV ns = 2 + (ns.sum.fdiv 5).fmod 8 := rfl
  show wpAny _ _ (execs ((BD w.params 282).drop 0) _) _ _ _
  with_reducible refine law_cons (k := 0) (by kernel_rfl) ?_
  with_reducible refine lawS0 O₁ hdT fun s₁ g₁ o₁ lt k₁ vt O₂ up₁ ho₁ hd₁ hlt hit => ?_
  dsimp only
  with_reducible refine law_cons (k := 1) (by kernel_rfl) ?_
  with_reducible refine lawS1 O₂ hh hm0 (up₁ _ _ hla₀) hi fun s₂ t₂ O₃ => ?_
  dsimp only
  with_reducible refine law_cons (k := 2) (by kernel_rfl) ?_
  with_reducible refine lawS2 O₃ (by exact if_pos rfl) fun s₃ t₃ O₄ => ?_
  dsimp only
  with_reducible refine law_cons (k := 3) (by kernel_rfl) ?_
  with_reducible refine lawS3 O₄ (by rw [if_neg (by decide)]; exact if_pos rfl) fun s₄ t₄ O₅ => ?_
  dsimp only
  with_reducible refine law_cons (k := 4) (by kernel_rfl) ?_
  with_reducible refine lawS4 O₅ (by rw [if_neg (by decide), if_neg (by decide), if_neg (by decide)]; exact hm0) (up₁ _ _ hla₀) hi hlen fun s₅ g₅ ln k₅ vn O₆ up₅ hln hin => ?_
  dsimp only
  have F₅ : LawF g₅ L _ ns := LawF.mk (m := fun y => if y = "numbers" then some (Value.ref ln) else if y = "width" then some (Value.int (2 + (ns.sum.fdiv 5).fmod 8) t₄) else if y = "head" then some (Value.int (ns.sum.fmod 5) t₃) else if y = "total" then some (Value.int ns.sum t₂) else m₀ y)
    ⟨o₁, lt, k₁, vt, up₅ _ _ ho₁, hd₁, up₅ _ _ hlt, hit⟩ ⟨ln, k₅, vn, if_pos rfl, hln, hin⟩ ⟨t₃, by rw [if_neg (by decide), if_neg (by decide), if_pos rfl]; rfl⟩ ⟨t₄, by rw [if_neg (by decide), if_pos rfl]; rfl⟩ (by rw [if_neg (by decide), if_neg (by decide), if_neg (by decide), if_neg (by decide)]; exact hnom)
  generalize (fun y => if y = "numbers" then some (Value.ref ln) else if y = "width" then some (Value.int (2 + (ns.sum.fdiv 5).fmod 8) t₄) else if y = "head" then some (Value.int (ns.sum.fmod 5) t₃) else if y = "total" then some (Value.int ns.sum t₂) else m₀ y : Str → Option Value) = m₅ at O₆ F₅
  with_reducible refine law_cons (k := 5) (by kernel_rfl) ?_
  with_reducible refine lawS5 O₆ fun s₆ lv O₇ => ?_
  dsimp only
  with_reducible refine law_cons (k := 6) (by kernel_rfl) ?_
  with_reducible refine lawS6' O₇ hdR F₅.set (by exact if_pos rfl) hh fun s₇ g₇ m₇ vv O₈ up₇ F₇ hmv hlv hV => ?_
  obtain ⟨kv, hlv⟩ := hlv
  dsimp only
  with_reducible refine law_cons (k := 7) (by kernel_rfl) ?_
  have hvl : ((numsV ns).map valOf).length ≤ 100 := by
    have := (nums_len ns).1
    rw [List.length_map]; walk_at "om"
  have hr7 : ∀ x ∈ (numsV ns).map valOf, ∀ z ∈ x.2, 0 ≤ z ∧ z < 256 := fun x hx => (vals_ok ns x hx).r
  have hl7 : ∀ x ∈ (numsV ns).map valOf, x.2.length ≤ 4 := fun x hx => (vals_ok ns x hx).len
  with_reducible refine lawS7 O₈ hh hmv hlv hV hr7 hl7 hvl fun s₈ t₈ O₉ => ?_
  dsimp only
  have hch : chars (flatV ((numsV ns).map valOf)) = ofL (octV ns) := rfl
  rw [hch] at O₉
  with_reducible refine law_cons (k := 8) (by kernel_rfl) ?_
  with_reducible refine lawS8 O₉ fun s₉ lw O₁₀ => ?_
  dsimp only
  with_reducible refine law_cons (k := 9) (by kernel_rfl) ?_
  with_reducible refine lawS9 O₁₀ fun s₁₀ t₁₀ O₁₁ => ?_
  dsimp only
  with_reducible refine law_cons (k := 10) (by kernel_rfl) ?_
  have hol := oct_len ns
  with_reducible refine lawS10 (l0 := octV ns) (ts := t₈) (t0 := t₁₀) O₁₁ hh (F₇.set.set.set) hlen (by rw [if_neg (by decide)]; exact if_pos rfl) (by exact if_pos rfl) (by rw [if_neg (by decide), if_neg (by decide)]; exact if_pos rfl) (by walk_at "om") fun s₁₁ m₁₁ vw kw O₁₂ hm₁₁ hSw => ?_
  dsimp only
  obtain ⟨g₁₂, O₁₃, up₁₂, hin₁₂⟩ := O₁₂.settle [_]
  have hlw : g₁₂.get? lw = some (lstObj vw.toArray kw) := hin₁₂ _ (.head _)
  have hmw : m₁₁ "words" = some (.ref lw) := by rw [hm₁₁ _ (by decide) (by decide) (by decide), if_neg (by decide)]; exact if_pos rfl
  have hmv₁₁ : m₁₁ "values" = some (.ref lv) := by rw [hm₁₁ _ (by decide) (by decide) (by decide), if_neg (by decide), if_neg (by decide), if_neg (by decide)]; exact hmv
  have F₁₁ : LawF g₁₂ L m₁₁ ns := by
    obtain ⟨a, ⟨ln, kn, vn, b1, b2, b3⟩, ⟨tc, c⟩, ⟨td, d⟩, e⟩ := F₇.up up₁₂
    refine ⟨a, ⟨ln, kn, vn, ?_, b2, b3⟩, ⟨tc, ?_⟩, ⟨td, ?_⟩, ?_⟩
    · rw [hm₁₁ _ (by decide) (by decide) (by decide), if_neg (by decide), if_neg (by decide), if_neg (by decide)]; exact b1
    · rw [hm₁₁ _ (by decide) (by decide) (by decide), if_neg (by decide), if_neg (by decide), if_neg (by decide)]; exact c
    · rw [hm₁₁ _ (by decide) (by decide) (by decide), if_neg (by decide), if_neg (by decide), if_neg (by decide)]; exact d
    · rw [hm₁₁ _ (by decide) (by decide) (by decide), if_neg (by decide), if_neg (by decide), if_neg (by decide)]; exact e
  change StrsAre vw ((wdsV ns).map ofL) at hSw
  with_reducible refine law_cons (k := 11) (by kernel_rfl) ?_
  with_reducible refine lawS11 pg O₁₃ ht1 ht2 (by walk_at "om") F₁₁ (by simp) (by simp) fun s₁₂ g₁₃ fm x d ll xs up₁₃ F₁₃ K₁₃ => ?_
  dsimp only
  obtain ⟨w0, ws0, ewd, hn67, hl3⟩ := wds_cons ns
  have hwok := words_ok' ns
  rw [ewd] at hwok
  have hSw' := hSw
  rw [ewd] at hSw'
  have hdk : ∀ v ∈ w0 :: ws0, dark v ∧ v ≠ [] := fun v hv => ⟨fun c hc => (sig_facts ((hwok v hv).2 c hc)).2.1, (hwok v hv).1⟩
  with_reducible refine law_cons (k := 12) (by kernel_rfl) ?_
  with_reducible refine lawS12 (lw := lw) (vw := vw) (kw := kw) pg F₁₃ K₁₃ (by exact if_pos rfl) (by rw [if_neg (by decide)]; exact hmw) (up₁₃ _ _ hlw) hSw' (by walk_at "om") (by walk_at "om") hh (hdk w0 List.mem_cons_self).1 (hdk w0 List.mem_cons_self).2 (fun v hv => hdk v (List.mem_cons_of_mem _ hv)) (fun v hv => by have := hl3 v hv; walk_at "om") (by walk_at "om") hz5.1 (by walk_at "om") fun s₁₃ g₁₄ xs₁₄ tb3 up₁₄ e241 F₁₄ => ?_
  dsimp only
  have I := line_all (W := widthV ns) hz5.1 hwok
  have hrV : rowsV ns = (((w0 :: ws0).map ofL).foldl (rowsStep (headV ns) (widthV ns)) ([], headV ns)).1 := by unfold rowsV; rw [ewd]
  obtain ⟨hnl, hno⟩ := line_end I
  rw [← hrV] at hnl
  have ok := apFold_ok (W := widthV ns) (cs := chunksOf w0 ws0) (n := 0) (st := (headV ns, [], [])) ⟨hz5.1, by show headV ns ≤ 1000; walk_at "om", Nat.le_refl _, Nat.le_refl _, fun p hp => absurd hp List.not_mem_nil⟩ fun c hc => by
    rcases List.mem_cons.mp hc with rfl | hc
    · have := hl3 w0 List.mem_cons_self
      exact ⟨show 0 ≤ 999 by decide, by show w0.length ≤ 1000; walk_at "om"⟩
    · obtain ⟨v, hv, rfl⟩ := List.mem_map.mp hc
      have := hl3 v (List.mem_cons_of_mem _ hv)
      exact ⟨show 1 ≤ 999 by decide, by show v.length ≤ 1000; walk_at "om"⟩
  have hcl : 0 + (chunksOf w0 ws0).length ≤ 200 := by
    have : (chunksOf w0 ws0).length = ws0.length + 1 := by simp [chunksOf]
    walk_at "om"
  clear I
  generalize apFold (widthV ns) (headV ns, [], []) (chunksOf w0 ws0) = st at F₁₄ ok hnl hno
  obtain ⟨z, ps, lines⟩ := st
  dsimp only at F₁₄ hnl hno
  have hrb := rows_bounds ns
  with_reducible refine law_cons (k := 13) (by kernel_rfl) ?_
  have hf13 : (fun y => if y = "formatter" then some (Value.ref fm) else m₁₁ y : Str → Option Value) "formatter" = some (.ref fm) := if_pos rfl
  have K₁₄ : FmAt g₁₄ fm ll x (widthV ns) := K₁₃.keeps fun b o e _ => up₁₄ b o e
  with_reducible refine lawS13 pg F₁₄ K₁₄ hf13 (by walk_at "om") (by walk_at "om") hh ok hcl hnl hno (rows_ne ns) hrb.2.2 (rows_sum ns) fun s₁₄ g₁₅ D vsr tb1 tb2 up₁₅ e197 e204 O₁₅ hD hvsr => ?_
  dsimp only
  obtain ⟨-, -, ⟨th, hmh⟩, ⟨tw, hmwd⟩, -⟩ := id F₁₁
  with_reducible refine law_cons (k := 14) (by kernel_rfl) ?_
  with_reducible refine lawS14 (k := 0) (kw := kw) (D := D) (lw := lw) (vs := vsr) (vw := vw) (rows := rowsV ns) (ws := (w0 :: ws0).map ofL) (head := headV ns) (width := widthV ns) (th := th) (tw := tw) O₁₅ (by walk_at "om") (by walk_at "om") hh (by exact if_pos rfl) hD hvsr (by rw [if_neg (by decide), if_neg (by decide)]; exact hmw) (up₁₅ _ _ (up₁₄ _ _ (up₁₃ _ _ hlw))) hSw' (by rw [if_neg (by decide), if_neg (by decide)]; exact hmh) (by rw [if_neg (by decide), if_neg (by decide)]; exact hmwd) (fun y hy => ?_) (by rw [List.length_map, List.length_cons]; walk_at "om") (by walk_at "om") (by walk_at "om") hrV fun s₁₅ O₁₆ => ?_
  · obtain ⟨v, hv, rfl⟩ := List.mem_map.mp hy
    have := hl3 v hv
    show v.length ≤ 4
    walk_at "om"
  dsimp only
  with_reducible refine law_cons (k := 15) (by kernel_rfl) ?_
  with_reducible refine lawS15 O₁₆ fun s₁₆ g₁₆ lw2 up₁₆ O₁₇ hlw2 => ?_
  dsimp only
  with_reducible refine law_cons (k := 16) (by kernel_rfl) ?_
  with_reducible refine lawS16 O₁₇ fun s₁₇ t₁₇ O₁₈ => ?_
  dsimp only
  have W : WI w.params ns g₁₆ (fun y => if y = "done" then some (Value.int 0 t₁₇) else if y = "waiting" then some (Value.ref lw2) else if y = "rows" then some (Value.ref D) else if y = "formatter" then some (Value.ref fm) else m₁₁ y) #[] lv (rowsOct (rowsV ns)) 0 [] := by
    refine ⟨?_, ⟨vv, kv, up₁₆ _ _ (up₁₅ _ _ (up₁₄ _ _ (up₁₃ _ _ (up₁₂ _ _ hlv)))), ?_⟩, ⟨t₁₇, if_pos rfl⟩, Nat.zero_le _, ⟨lw2, [], 0, ?_, hlw2, .nil⟩, .inl rfl, ?_⟩
    · rw [if_neg (by decide), if_neg (by decide), if_neg (by decide), if_neg (by decide)]; exact hmv₁₁
    · exact hV.up fun b o e => up₁₆ _ _ (up₁₅ _ _ (up₁₄ _ _ (up₁₃ _ _ (up₁₂ _ _ e))))
    · rw [if_neg (by decide), if_pos rfl]
    · rw [List.nil_append, List.drop_zero]; exact rows_oct ns
  with_reducible refine law_cons (k := 17) (by kernel_rfl) ?_
  with_reducible refine lawS17 (k := 0) (D := D) (vs := vsr) (rows := rowsV ns) O₁₈ (by rw [if_neg (by decide), if_neg (by decide)]; exact if_pos rfl) (up₁₆ _ _ hD) hvsr (fun r hr => ?_) W hA (by walk_at "om") (by walk_at "om") hh (by walk_at "om") fun s₁₈ g₁₈ m₁₈ tb4 up₁₈ O₁₉ => ?_
  · have := hrb.2.1 r hr
    walk_at "om"
  dsimp only
  with_reducible refine law_cons (k := 18) (by kernel_rfl) ?_
  refine lawS18 ?_
  have p : Post [197, 204, 241, 248] s s₁₈ := O₁₉.post
  exact h s₁₈ tb1 tb2 tb3 tb4 p (O₁₉.keep _ _ (up₁₈ _ _ (up₁₆ _ _ e197))) (O₁₉.keep _ _ (up₁₈ _ _ (up₁₆ _ _ e204))) (O₁₉.keep _ _ (up₁₈ _ _ (up₁₆ _ _ (up₁₅ _ _ e241)))) (O₁₉.at 0 rfl)
end
end Mine
namespace Mine
theorem kn_of {P : Params} {h : Heap} (X : (hs P).In h) : (Kn P).In h := fun a o e => X a o (by unfold hs; rw [List.lookup_append, e]; rfl)
theorem tab_code (n : Nat) {P : Params} {T : Addr} {h : Heap} (X : (Kn P).In h) (hT : h.get? T = some (tabObj #[]))
    (hoc : (Kn P).lookup (codeA P n) = some (codeO P n) := by kernel_rfl) (hod : (codeO P n).data = .fields (codeV P n) := by kernel_rfl)
    (hcls : (codeO P n).cls = .type "code" := by kernel_rfl) (hok : codeOkB (codeV P n) T = true := by kernel_rfl) (hne : Nat.beq (codeA P n) T = false := by kernel_rfl) : isCodeTable h T :=
  (codeOk_of (X _ _ hoc) hod hcls hok hT trivial (Nat.ne_of_beq_eq_false hne)).2.isCodeTable
theorem old_ok {P : Params} {s s' : Shared} {t1 t2 t3 t4 : Array Value} (X : (hs P).In s.heap) (p : Post [197, 204, 241, 248] s s') (e1 : s'.heap.get? 197 = some (tabObj t1)) (e2 : s'.heap.get? 204 = some (tabObj t2)) (e3 : s'.heap.get? 241 = some (tabObj t3)) (e4 : s'.heap.get? 248 = some (tabObj t4)) : OldK s.heap s'.heap := by
  have K := kn_of X
  have h1 : s.heap.get? 197 = some (tabObj #[]) := X _ _ (by kernel_rfl)
  have h2 : s.heap.get? 204 = some (tabObj #[]) := X _ _ (by kernel_rfl)
  have h3 : s.heap.get? 241 = some (tabObj #[]) := X _ _ (by kernel_rfl)
  have h4 : s.heap.get? 248 = some (tabObj #[]) := X _ _ (by kernel_rfl)
  have c1 : isCodeTable s.heap 197 := tab_code 202 K h1
  have c2 : isCodeTable s.heap 204 := tab_code 209 K h2
  have c3 : isCodeTable s.heap 241 := tab_code 246 K h3
  have c4 : isCodeTable s.heap 248 := tab_code 251 K h4
  have grow : ∀ {T : Addr} {t : Array Value} {o : Obj}, isCodeTable s.heap T → s.heap.get? T = some (tabObj #[]) → s'.heap.get? T = some (tabObj t) → s.heap.get? T = some o → asItWas s.heap s'.heap T o := by
    intro T t o c h e ho
    rw [h] at ho; cases ho
    exact .inr (.inl ⟨c, rfl, #[], t, rfl, by rw [e]; simp⟩)
  have foot : ∀ b : Addr, b ∈ [197, 204, 241, 248] → b = 197 ∨ b = 204 ∨ b = 241 ∨ b = 248 := fun b hb => by simpa using hb
  refine ⟨fun b o ho => ?_, fun b o ho => ?_⟩
  · by_cases hb : b ∈ ([197, 204, 241, 248] : List Addr)
    · rcases foot b hb with rfl | rfl | rfl | rfl
      · exact grow c1 h1 e1 ho
      · exact grow c2 h2 e2 ho
      · exact grow c3 h3 e3 ho
      · exact grow c4 h4 e4 ho
    · exact .inl (p.ext b o hb ho)
  · by_cases hb : b ∈ ([197, 204, 241, 248] : List Addr)
    · rcases foot b hb with rfl | rfl | rfl | rfl
      · exact ⟨_, e1⟩
      · exact ⟨_, e2⟩
      · exact ⟨_, e3⟩
      · exact ⟨_, e4⟩
    · exact ⟨o, p.ext b o hb ho⟩
theorem pg_ok (P : Params) : PG PySem.Challenge.rw_ij0179_01.row.prog P := ⟨by kernel_rfl, by kernel_rfl⟩
theorem post_ok (l : OpenLaw) (as bs : List WData) : l.row.claim.post as (.bool true) bs = true := by
  show (WShape.has [] (WData.bool true) WShape.bool && WTm.holds [] (WTm.eq .res (.lit (.bool true))) { args := as, res := some (WData.bool true), after := bs }) = true
  rw [Bool.and_eq_true]
  refine ⟨by simp [WShape.has, WShape.arms], ?_⟩
  unfold WTm.holds
  rw [WTm.value, WTm.value, WTm.value]
  have e : same (WData.bool true) (WData.bool true) = true := by first | decide +kernel | simp [same]
  dsimp only
  rw [e]
theorem both {a b : Bool} (ha : a = true) (hb : b = true) : (a && b) = true := by rw [ha, hb]; rfl
set_option maxHeartbeats 4000000 in
theorem row_said0 : PySem.Challenge.rw_ij0179_01.row.wellSaid = true := by
  kernel_rfl
set_option maxHeartbeats 4000000 in
theorem law_said : PySem.Challenge.rw_ij0179_01.wellSaid = true := by
  unfold OpenLaw.wellSaid
  exact both (both (both (both (both (both (both (both (both (both (both (both (both (both (both (both (both (both (row_said0) (by as_aux_lemma => kernel_rfl)) (by as_aux_lemma => kernel_rfl)) (by as_aux_lemma => kernel_rfl)) (by as_aux_lemma => kernel_rfl)) (by as_aux_lemma => kernel_rfl)) (by as_aux_lemma => kernel_rfl)) (by as_aux_lemma => kernel_rfl)) (by as_aux_lemma => kernel_rfl)) (by as_aux_lemma => kernel_rfl)) (by as_aux_lemma => kernel_rfl)) (by as_aux_lemma => kernel_rfl)) (by as_aux_lemma => kernel_rfl)) (by as_aux_lemma => kernel_rfl)) (by as_aux_lemma => kernel_rfl)) (by as_aux_lemma => kernel_rfl)) (by as_aux_lemma => kernel_rfl)) (by as_aux_lemma => kernel_rfl)) (by as_aux_lemma => kernel_rfl)
set_option maxHeartbeats 4000000 in
theorem law_opens : (chainsOk vw && opensWell PySem.Challenge.rw_ij0179_01.row.prog && (frees PySem.Challenge.rw_ij0179_01.row.toRowW && PySem.Challenge.rw_ij0179_01.row.within.isEmpty)) = true := by kernel_rfl
theorem hs_addrs : ∀ P, hsA = (hs P).map (·.1) := fun P => by kernel_rfl
end Mine
set_option maxHeartbeats 4000000 in
theorem PySem.Challenge.cw_ij0179_01_holds : PySem.Challenge.rw_ij0179_01.Holds := by
  refine holds_law Mine.law_said fun said => ?_
  refine holds_openX (q := Mine.vw) (loose := [Str.ofString "_twin_re_1", Str.ofString "_Accumulator"]) (Xt := fun s => xlAt Mine.vw [] s && recOk (RowW.records PySem.Challenge.rw_ij0179_01.row.toRowW) s) (XP := XL Mine.vw []) (Yf := obsZ Mine.hsA) (Ya := valZ Mine.hs 283 638) (N := 3168) Mine.left (fun s e => xl_of s (Bool.and_eq_true_iff.mp e).1) XL.keeps (by rfl) (by rfl) (by rfl) (fun s e => recFacts_of (Bool.and_eq_true_iff.mp e).2) (by rfl) said Mine.law_opens ⟨rfl, rfl, rfl, rfl, rfl, by kernel_rfl⟩ ?hw ?hc
  case hw => w_witness2
  intro w s₀ s₁ mg mb G y fa o pm cd doc dV kV ho hd hcd hD hmg hg args vals as L hpre hlay hrd hwl hlo
  have zf := z_facts Mine.hs_addrs y
  obtain ⟨-, KX, -, -⟩ := zf
  have X0 : (Mine.hs w.params).In s₁.heap := InK.keeps w s₀.heap s₁.heap KX L.keeps
  have X := Mine.kn_of X0
  have hfa : fa = 282 := by
    have e1 := Mine.ns_uniq G.T.g (Mine.nsG X) "law"
    have e2 : Mine.nsK w.params 3 "law" = some (.ref 282) := by kernel_rfl
    have e3 : mg "law" = some (.ref fa) := hmg
    rw [e1, e2] at e3
    cases e3; rfl
  clear hmg hD hcd hd ho
  subst hfa
  wrow_args hpre hlay hrd hwl hlo
  rename_i ns hs hlay0 hL1 hr1 hl2 a4 a3 la vs a0 hLst ra w1 r0 hI hr2 hc hc2
  have hobj := script_obj L hLst
  refine wpAny_call (Mine.law_ok (n := 0) (Mine.pg_ok w.params) X (by decide) (by decide) rfl rfl hobj hI (by walk_at "om") (X0 _ _ (by kernel_rfl)) (X0 _ _ (by kernel_rfl)) (X0 _ _ (by kernel_rfl)) (X0 _ _ (by kernel_rfl)) fun s' t1 t2 t3 t4 p e1 e2 e3 e4 => ?_)
  refine ⟨.inl ⟨.bool true, .bool true, [], rfl, fun _ => rfl, .bool true, ?_, unshared_nil⟩, Mine.old_ok X0 p e1 e2 e3 e4, p.os, p.bare (.of_eq hg)⟩
  exact Mine.post_ok _ _ _
