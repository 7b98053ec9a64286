import PyProof.Rows.All
import Wide.All
import OpenK.AllK
import Wide.FinOn
import PySem.Challenge.RW_rw0108_01
set_option maxRecDepth 100000
set_option Elab.async false
set_option linter.all false
namespace Mine
/-! MStates -/
section
open PySem PySem.W PySem.Spec PySem.Calls PyProof.Rows
noncomputable abbrev pw : Program := PySem.Challenge.pw_rw0108_01
noncomputable def stm (i : Nat) : Stmt := pw.main.body.getD i (.Pass default)
noncomputable def fPar : Stmt → Arguments
  | .FunctionDef _ a _ _ _ _ _ _ _ _ => a
  | _ => default
noncomputable def fBody : Stmt → List Stmt
  | .FunctionDef _ _ b _ _ _ _ _ _ _ => b
  | _ => []
noncomputable def fSc : Stmt → Scope
  | .FunctionDef _ _ _ _ _ _ s _ _ _ => s
  | _ => default
noncomputable abbrev en (P : Params) (x : Str) (t : Tok) (v : Value) : DictEntry := ⟨PyData.keyHash P x, .str x t, v⟩
noncomputable def dKeys : Stmt → List (Option PySem.Expr)
  | .Assign _ (.Dict k _ _) _ => k
  | _ => []
noncomputable def dVals : Stmt → List PySem.Expr
  | .Assign _ (.Dict _ v _) _ => v
  | _ => []
noncomputable def cInt : Option PySem.Expr → Int
  | some (.Constant (.int i) _ _) => i
  | _ => 0
noncomputable def cStr : PySem.Expr → Str
  | .Constant (.str x) _ _ => x
  | _ => Str.empty
noncomputable def b3pairs : List (Int × Str) := ((dKeys (stm 13)).map cInt).zip ((dVals (stm 13)).map cStr)
noncomputable def entsA : Nat → List (Int × Str) → List DictEntry
  | _, [] => []
  | t, (k, v) :: r => ⟨k, .int k t, .str v (t + 1)⟩ :: entsA (t + 3) r
noncomputable def entsB : Nat → List (Int × Str) → List DictEntry
  | _, [] => []
  | t, (k, v) :: r => ⟨k, .int k t, .str v (t + 1)⟩ :: entsB (t + 2) r
noncomputable def subE (j : Nat) : List DictEntry := match Nat.blt j 38 with
  | true => entsA (463 + 51 * j) ((b3pairs.drop (17 * j)).take 17)
  | false => entsB 2401 ((b3pairs.drop 646).take 17)
noncomputable def mainE : Nat → List DictEntry
  | 0 => []
  | j + 1 => mainE j ++ subE j
noncomputable def dObj (es : List DictEntry) : Obj := ⟨.type "dict", none, .dict es.toArray es.length, #[]⟩
noncomputable def subD (j : Nat) (_ : Params) : Obj := dObj (subE j)
noncomputable def mainD (j : Nat) (_ : Params) : Obj := dObj (mainE j)
noncomputable def o0 (P : Params) : Obj := ⟨(.type "dict"), none, (.dict [en P (Str.ofString "__name__") 1 (.str (Str.ofString "builtins") 160), en P (Str.ofString "__doc__") 2 (.builtin "builtins.__doc__:str#opaque"), en P (Str.ofString "__package__") 3 (.builtin "builtins.__package__:str#opaque"), en P (Str.ofString "__loader__") 4 (.builtin "builtins.__loader__:shared#opaque"), en P (Str.ofString "__spec__") 5 (.builtin "builtins.__spec__#opaque"), en P (Str.ofString "__build_class__") 6 (.builtin "__build_class__"), en P (Str.ofString "__import__") 7 (.builtin "__import__"), en P (Str.ofString "abs") 8 (.builtin "abs"), en P (Str.ofString "all") 9 (.builtin "all"), en P (Str.ofString "any") 10 (.builtin "any"), en P (Str.ofString "ascii") 11 (.builtin "ascii"), en P (Str.ofString "bin") 12 (.builtin "bin"), en P (Str.ofString "breakpoint") 13 (.builtin "breakpoint"), en P (Str.ofString "callable") 14 (.builtin "callable"), en P (Str.ofString "chr") 15 (.builtin "chr"), en P (Str.ofString "compile") 16 (.builtin "compile"), en P (Str.ofString "delattr") 17 (.builtin "delattr"), en P (Str.ofString "dir") 18 (.builtin "dir"), en P (Str.ofString "divmod") 19 (.builtin "divmod"), en P (Str.ofString "eval") 20 (.builtin "eval"), en P (Str.ofString "exec") 21 (.builtin "exec"), en P (Str.ofString "format") 22 (.builtin "format"), en P (Str.ofString "getattr") 23 (.builtin "getattr"), en P (Str.ofString "globals") 24 (.builtin "globals"), en P (Str.ofString "hasattr") 25 (.builtin "hasattr"), en P (Str.ofString "hash") 26 (.builtin "hash"), en P (Str.ofString "hex") 27 (.builtin "hex"), en P (Str.ofString "id") 28 (.builtin "id"), en P (Str.ofString "input") 29 (.builtin "input"), en P (Str.ofString "isinstance") 30 (.builtin "isinstance"), en P (Str.ofString "issubclass") 31 (.builtin "issubclass"), en P (Str.ofString "iter") 32 (.builtin "iter"), en P (Str.ofString "aiter") 33 (.builtin "aiter"), en P (Str.ofString "len") 34 (.builtin "len"), en P (Str.ofString "locals") 35 (.builtin "locals"), en P (Str.ofString "max") 36 (.builtin "max"), en P (Str.ofString "min") 37 (.builtin "min"), en P (Str.ofString "next") 38 (.builtin "next"), en P (Str.ofString "anext") 39 (.builtin "anext"), en P (Str.ofString "oct") 40 (.builtin "oct"), en P (Str.ofString "ord") 41 (.builtin "ord"), en P (Str.ofString "pow") 42 (.builtin "pow"), en P (Str.ofString "print") 43 (.builtin "print"), en P (Str.ofString "repr") 44 (.builtin "repr"), en P (Str.ofString "round") 45 (.builtin "round"), en P (Str.ofString "setattr") 46 (.builtin "setattr"), en P (Str.ofString "sorted") 47 (.builtin "sorted"), en P (Str.ofString "sum") 48 (.builtin "sum"), en P (Str.ofString "vars") 49 (.builtin "vars"), en P (Str.ofString "None") 50 .none, en P (Str.ofString "Ellipsis") 51 .ellipsis, en P (Str.ofString "NotImplemented") 52 .notImplemented, en P (Str.ofString "False") 53 (.bool false), en P (Str.ofString "True") 54 (.bool true), en P (Str.ofString "bool") 55 (.type "bool"), en P (Str.ofString "memoryview") 56 (.type "memoryview"), en P (Str.ofString "bytearray") 57 (.type "bytearray"), en P (Str.ofString "bytes") 58 (.type "bytes"), en P (Str.ofString "classmethod") 59 (.type "classmethod"), en P (Str.ofString "complex") 60 (.type "complex"), en P (Str.ofString "dict") 61 (.type "dict"), en P (Str.ofString "enumerate") 62 (.type "enumerate"), en P (Str.ofString "filter") 63 (.type "filter"), en P (Str.ofString "float") 64 (.type "float"), en P (Str.ofString "frozenset") 65 (.type "frozenset"), en P (Str.ofString "property") 66 (.type "property"), en P (Str.ofString "int") 67 (.type "int"), en P (Str.ofString "list") 68 (.type "list"), en P (Str.ofString "map") 69 (.type "map"), en P (Str.ofString "object") 70 (.type "object"), en P (Str.ofString "range") 71 (.type "range"), en P (Str.ofString "reversed") 72 (.type "reversed"), en P (Str.ofString "set") 73 (.type "set"), en P (Str.ofString "slice") 74 (.type "slice"), en P (Str.ofString "staticmethod") 75 (.type "staticmethod"), en P (Str.ofString "str") 76 (.type "str"), en P (Str.ofString "super") 77 (.type "super"), en P (Str.ofString "tuple") 78 (.type "tuple"), en P (Str.ofString "type") 79 (.type "type"), en P (Str.ofString "zip") 80 (.type "zip"), en P (Str.ofString "__debug__") 81 (.bool true), en P (Str.ofString "BaseException") 82 (.type "BaseException"), en P (Str.ofString "BaseExceptionGroup") 83 (.type "BaseExceptionGroup"), en P (Str.ofString "Exception") 84 (.type "Exception"), en P (Str.ofString "GeneratorExit") 85 (.type "GeneratorExit"), en P (Str.ofString "KeyboardInterrupt") 86 (.type "KeyboardInterrupt"), en P (Str.ofString "SystemExit") 87 (.type "SystemExit"), en P (Str.ofString "ArithmeticError") 88 (.type "ArithmeticError"), en P (Str.ofString "AssertionError") 89 (.type "AssertionError"), en P (Str.ofString "AttributeError") 90 (.type "AttributeError"), en P (Str.ofString "BufferError") 91 (.type "BufferError"), en P (Str.ofString "EOFError") 92 (.type "EOFError"), en P (Str.ofString "ImportError") 93 (.type "ImportError"), en P (Str.ofString "LookupError") 94 (.type "LookupError"), en P (Str.ofString "MemoryError") 95 (.type "MemoryError"), en P (Str.ofString "NameError") 96 (.type "NameError"), en P (Str.ofString "OSError") 97 (.type "OSError"), en P (Str.ofString "ReferenceError") 98 (.type "ReferenceError"), en P (Str.ofString "RuntimeError") 99 (.type "RuntimeError"), en P (Str.ofString "StopAsyncIteration") 100 (.type "StopAsyncIteration"), en P (Str.ofString "StopIteration") 101 (.type "StopIteration"), en P (Str.ofString "SyntaxError") 102 (.type "SyntaxError"), en P (Str.ofString "SystemError") 103 (.type "SystemError"), en P (Str.ofString "TypeError") 104 (.type "TypeError"), en P (Str.ofString "ValueError") 105 (.type "ValueError"), en P (Str.ofString "Warning") 106 (.type "Warning"), en P (Str.ofString "FloatingPointError") 107 (.type "FloatingPointError"), en P (Str.ofString "OverflowError") 108 (.type "OverflowError"), en P (Str.ofString "ZeroDivisionError") 109 (.type "ZeroDivisionError"), en P (Str.ofString "BytesWarning") 110 (.type "BytesWarning"), en P (Str.ofString "DeprecationWarning") 111 (.type "DeprecationWarning"), en P (Str.ofString "EncodingWarning") 112 (.type "EncodingWarning"), en P (Str.ofString "FutureWarning") 113 (.type "FutureWarning"), en P (Str.ofString "ImportWarning") 114 (.type "ImportWarning"), en P (Str.ofString "PendingDeprecationWarning") 115 (.type "PendingDeprecationWarning"), en P (Str.ofString "ResourceWarning") 116 (.type "ResourceWarning"), en P (Str.ofString "RuntimeWarning") 117 (.type "RuntimeWarning"), en P (Str.ofString "SyntaxWarning") 118 (.type "SyntaxWarning"), en P (Str.ofString "UnicodeWarning") 119 (.type "UnicodeWarning"), en P (Str.ofString "UserWarning") 120 (.type "UserWarning"), en P (Str.ofString "BlockingIOError") 121 (.type "BlockingIOError"), en P (Str.ofString "ChildProcessError") 122 (.type "ChildProcessError"), en P (Str.ofString "ConnectionError") 123 (.type "ConnectionError"), en P (Str.ofString "FileExistsError") 124 (.type "FileExistsError"), en P (Str.ofString "FileNotFoundError") 125 (.type "FileNotFoundError"), en P (Str.ofString "InterruptedError") 126 (.type "InterruptedError"), en P (Str.ofString "IsADirectoryError") 127 (.type "IsADirectoryError"), en P (Str.ofString "NotADirectoryError") 128 (.type "NotADirectoryError"), en P (Str.ofString "PermissionError") 129 (.type "PermissionError"), en P (Str.ofString "ProcessLookupError") 130 (.type "ProcessLookupError"), en P (Str.ofString "TimeoutError") 131 (.type "TimeoutError"), en P (Str.ofString "IndentationError") 132 (.type "IndentationError"), en P (Str.ofString "_IncompleteInputError") 133 (.type "_IncompleteInputError"), en P (Str.ofString "IndexError") 134 (.type "IndexError"), en P (Str.ofString "KeyError") 135 (.type "KeyError"), en P (Str.ofString "ModuleNotFoundError") 136 (.type "ModuleNotFoundError"), en P (Str.ofString "NotImplementedError") 137 (.type "NotImplementedError"), en P (Str.ofString "PythonFinalizationError") 138 (.type "PythonFinalizationError"), en P (Str.ofString "RecursionError") 139 (.type "RecursionError"), en P (Str.ofString "UnboundLocalError") 140 (.type "UnboundLocalError"), en P (Str.ofString "UnicodeError") 141 (.type "UnicodeError"), en P (Str.ofString "BrokenPipeError") 142 (.type "BrokenPipeError"), en P (Str.ofString "ConnectionAbortedError") 143 (.type "ConnectionAbortedError"), en P (Str.ofString "ConnectionRefusedError") 144 (.type "ConnectionRefusedError"), en P (Str.ofString "ConnectionResetError") 145 (.type "ConnectionResetError"), en P (Str.ofString "TabError") 146 (.type "TabError"), en P (Str.ofString "UnicodeDecodeError") 147 (.type "UnicodeDecodeError"), en P (Str.ofString "UnicodeEncodeError") 148 (.type "UnicodeEncodeError"), en P (Str.ofString "UnicodeTranslateError") 149 (.type "UnicodeTranslateError"), en P (Str.ofString "ExceptionGroup") 150 (.type "ExceptionGroup"), en P (Str.ofString "EnvironmentError") 151 (.type "OSError"), en P (Str.ofString "IOError") 152 (.type "OSError"), en P (Str.ofString "open") 153 (.builtin "open"), en P (Str.ofString "quit") 154 (.builtin "builtins.quit#opaque"), en P (Str.ofString "exit") 155 (.builtin "builtins.exit#opaque"), en P (Str.ofString "copyright") 156 (.builtin "builtins.copyright#opaque"), en P (Str.ofString "credits") 157 (.builtin "builtins.credits#opaque"), en P (Str.ofString "license") 158 (.builtin "builtins.license#opaque"), en P (Str.ofString "help") 159 (.builtin "builtins.help#opaque")].toArray 159), [].toArray⟩
noncomputable def o1 (P : Params) : Obj := ⟨(.type "dict"), none, (.dict [en P (Str.ofString "builtins") 162 (.ref 4), en P (Str.ofString "__main__") 163 (.ref 5), en P (Str.ofString "_sre") 244 (.ref 12)].toArray 3), [].toArray⟩
noncomputable def o2 (P : Params) : Obj := ⟨.none, none, (.dict [en P (Str.ofString "\x69mport.loaded._sre") 183 (.bool true), en P (Str.ofString "class._frozen_importlib.BuiltinImporter") 185 (.ref 14), en P (Str.ofString "watched.\x69mport") 206 (.ref 18), en P (Str.ofString "class._frozen_importlib.ModuleSpec") 216 (.ref 22), en P (Str.ofString "sys.modules.booked-epoch") 245 (.int 3 0), en P (Str.ofString "\x69mport.later-laid._sre") 270 (.bool true), en P (Str.ofString "watched.library") 272 (.ref 27), en P (Str.ofString "watched.library-objects") 0 (.str (Str.ofString "\u000c") 0), en P (Str.ofString "watched.library-deep._sre") 273 (.str (Str.ofString "\u0004\u0000\u0000\u000b\u0004\u0000\u0000\u000b\u0004\u0000\u0000\u0003\u0004\u0000\u0000\u000b\u0008\u0004dict\u0002") 0)].toArray 9), [].toArray⟩
noncomputable def o3 (P : Params) : Obj := ⟨(.type "dict"), none, (.dict [en P (Str.ofString "__name__") 165 (.str (Str.ofString "__main__") 164), en P (Str.ofString "__doc__") 166 .none, en P (Str.ofString "__package__") 167 .none, en P (Str.ofString "__loader__") 168 (.builtin "__main__.__loader__#opaque"), en P (Str.ofString "__spec__") 169 .none, en P (Str.ofString "__annotations__") 170 (.ref 6), en P (Str.ofString "__builtins__") 171 (.ref 4), en P (Str.ofString "__file__") 173 (.str (Str.ofString "/claim/cut.py") 172), en P (Str.ofString "__cached__") 174 .none, en P (Str.ofString "_sre") 275 (.ref 12)].toArray 10), [].toArray⟩
noncomputable def o4 (P : Params) : Obj := ⟨(.type "module"), some 0, .plain, [].toArray⟩
noncomputable def o5 (P : Params) : Obj := ⟨(.type "module"), some 3, .plain, [].toArray⟩
noncomputable def o6 (P : Params) : Obj := ⟨(.type "dict"), none, (.dict [].toArray 0), [].toArray⟩
noncomputable def o7 (P : Params) : Obj := ⟨(.type "tuple"), none, (.seq [].toArray 0), [].toArray⟩
noncomputable def o8 (P : Params) : Obj := ⟨.none, none, (.fields [].toArray), [].toArray⟩
noncomputable def o9 (P : Params) : Obj := ⟨(.type "code"), none, (.fields [(.str (Str.ofString "<module>") 176), (.str (Str.ofString "<module>") 177), (.str (Str.ofString "/claim/cut.py") 178), (.int 1 0), (.int 0 0), (.int 0 0), (.int 0 0), (.int 0 0), (.ref 7), (.bool false), (.int 175 0), (.ref 8), .none, .none, .none, .none, (.int 179 0), (.int 1 0), (.str (Str.ofString "/claim/cut.py") 180)].toArray), [].toArray⟩
noncomputable def o10 (P : Params) : Obj := ⟨(.type "frame"), none, .plain, [some (.ref 9), some (.ref 3), some (.ref 3), none, some (.str (Str.ofString "__main__") 164), none, some (.ref 0)].toArray⟩
noncomputable def o11 (P : Params) : Obj := ⟨(.type "dict"), none, (.dict [en P (Str.ofString "__name__") 247 (.str (Str.ofString "_sre") 246), en P (Str.ofString "__doc__") 248 .none, en P (Str.ofString "__package__") 250 (.str (Str.ofString "") 249), en P (Str.ofString "__loader__") 251 (.ref 14), en P (Str.ofString "__spec__") 252 (.ref 26), en P (Str.ofString "compile") 253 (.builtin "_sre.compile"), en P (Str.ofString "template") 254 (.builtin "_sre.template"), en P (Str.ofString "getcodesize") 255 (.builtin "_sre.getcodesize"), en P (Str.ofString "ascii_iscased") 256 (.builtin "_sre.ascii_iscased"), en P (Str.ofString "unicode_iscased") 257 (.builtin "_sre.unicode_iscased"), en P (Str.ofString "ascii_tolower") 258 (.builtin "_sre.ascii_tolower"), en P (Str.ofString "unicode_tolower") 259 (.builtin "_sre.unicode_tolower"), en P (Str.ofString "MAGIC") 261 (.int 20230612 260), en P (Str.ofString "CODESIZE") 263 (.int 4 262), en P (Str.ofString "MAXREPEAT") 265 (.int 4294967295 264), en P (Str.ofString "MAXGROUPS") 267 (.int 1073741823 266), en P (Str.ofString "copyright") 269 (.str (Str.ofString " SRE 2.2.2 Copyright (c) 1997-2002 by Secret Labs AB ") 268)].toArray 17), [].toArray⟩
noncomputable def o12 (P : Params) : Obj := ⟨(.type "module"), some 11, .plain, [].toArray⟩
noncomputable def o13 (P : Params) : Obj := ⟨(.type "dict"), none, (.dict [en P (Str.ofString "__module__") 189 (.str (Str.ofString "_frozen_importlib") 186), en P (Str.ofString "__firstlineno__") 190 (.int 971 187), en P (Str.ofString "__doc__") 191 (.builtin "_frozen_importlib.BuiltinImporter.__doc__:str#opaque"), en P (Str.ofString "_ORIGIN") 192 (.str (Str.ofString "built-in") 188), en P (Str.ofString "find_spec") 193 (.builtin "_frozen_importlib.BuiltinImporter.find_spec#opaque"), en P (Str.ofString "create_module") 194 (.builtin "_frozen_importlib.BuiltinImporter.create_module#opaque"), en P (Str.ofString "exec_module") 195 (.builtin "_frozen_importlib.BuiltinImporter.exec_module#opaque"), en P (Str.ofString "get_code") 196 (.builtin "_frozen_importlib.BuiltinImporter.get_code#opaque"), en P (Str.ofString "get_source") 197 (.builtin "_frozen_importlib.BuiltinImporter.get_source#opaque"), en P (Str.ofString "is_package") 198 (.builtin "_frozen_importlib.BuiltinImporter.is_package#opaque"), en P (Str.ofString "load_module") 199 (.builtin "_frozen_importlib.BuiltinImporter.load_module#opaque"), en P (Str.ofString "__static_attributes__") 200 (.ref 15), en P (Str.ofString "__dict__") 202 (.ref 16), en P (Str.ofString "__weakref__") 204 (.ref 17)].toArray 14), [].toArray⟩
noncomputable def o14 (P : Params) : Obj := ⟨(.type "type"), none, (.cls ⟨(Str.ofString "BuiltinImporter"), [(.type "object")], [(.ref 14), (.type "object")], 13, (Str.ofString "BuiltinImporter"), true, [], [], false, none, false⟩), [].toArray⟩
noncomputable def o15 (P : Params) : Obj := ⟨(.type "tuple"), none, (.seq [].toArray 0), [].toArray⟩
noncomputable def o16 (P : Params) : Obj := ⟨(.type "getset_descriptor"), none, (.fields [(.str (Str.ofString "__dict__") 201), (.ref 14), (.builtin "function.__dict__"), (.builtin "function.__dict__#set")].toArray), [].toArray⟩
noncomputable def o17 (P : Params) : Obj := ⟨(.type "getset_descriptor"), none, (.fields [(.str (Str.ofString "__weakref__") 203), (.ref 14), (.builtin "ExceptionGroup.__weakref__"), .none].toArray), [].toArray⟩
noncomputable def o18 (P : Params) : Obj := ⟨.none, none, (.seq [(.int 13 0), (.str (Str.ofString "\u0006½\n__module__\u0006º\u0011_frozen_importlib\u0006¾\u000f__firstlineno__\u0004»\u0000ϋ\u0006¿\u0007__doc__\t4_frozen_importlib.BuiltinImporter.__doc__:str#opaque\u0006À\u0007_ORIGIN\u0006¼\u0008built-in\u0006Á\tfind_spec\t2_frozen_importlib.BuiltinImporter.find_spec#opaque\u0006Â\rcreate_module\t6_frozen_importlib.BuiltinImporter.create_module#opaque\u0006Ã\u000bexec_module\t4_frozen_importlib.BuiltinImporter.exec_module#opaque\u0006Ä\u0008get_code\t1_frozen_importlib.BuiltinImporter.get_code#opaque\u0006Å\nget_source\t3_frozen_importlib.BuiltinImporter.get_source#opaque\u0006Æ\nis_package\t3_frozen_importlib.BuiltinImporter.is_package#opaque\u0006Ç\u000bload_module\t4_frozen_importlib.BuiltinImporter.load_module#opaque\u0006È\u0015__static_attributes__\u0004\u0000\u0000\u000f\u0006Ê\u0008__dict__\u0004\u0000\u0000\u0010\u0006Ì\u000b__weakref__\u0004\u0000\u0000\u0011") 0), (.bool true), (.bool true), (.str (Str.ofString "") 205), (.int 21 0), (.str (Str.ofString "\u0006ã\n__module__\u0006Ù\u0011_frozen_importlib\u0006ä\u000f__firstlineno__\u0004Ú\u0000Ȳ\u0006å\u0007__doc__\t/_frozen_importlib.ModuleSpec.__doc__:str#opaque\u0006æ\u0008__init__\t,_frozen_importlib.ModuleSpec.__init__#opaque\u0006ç\u0008__repr__\t,_frozen_importlib.ModuleSpec.__repr__#opaque\u0006è\u0006__eq__\t*_frozen_importlib.ModuleSpec.__eq__#opaque\u0006é\u0006cached\t*_frozen_importlib.ModuleSpec.cached#opaque\u0006ê\u0006parent\t*_frozen_importlib.ModuleSpec.parent#opaque\u0006ë\u000chas_location\t0_frozen_importlib.ModuleSpec.has_location#opaque\u0006ì\u0015__static_attributes__\u0004\u0000\u0000\u0017\u0006î\u0008__dict__\u0004\u0000\u0000\u0018\u0006ð\u000b__weakref__\u0004\u0000\u0000\u0019\u0006ñ\u0008__hash__\u0000") 0), (.bool true), (.bool true), (.str (Str.ofString "") 242)].toArray 1), [].toArray⟩
noncomputable def o19 (P : Params) : Obj := ⟨(.type "list"), none, (.seq [].toArray 0), [].toArray⟩
noncomputable def o20 (P : Params) : Obj := ⟨(.type "dict"), none, (.dict [en P (Str.ofString "name") 208 (.str (Str.ofString "_sre") 207), en P (Str.ofString "loader") 209 (.ref 14), en P (Str.ofString "origin") 210 (.str (Str.ofString "built-in") 184), en P (Str.ofString "loader_state") 211 .none, en P (Str.ofString "submodule_search_locations") 212 .none, en P (Str.ofString "_uninitialized_submodules") 213 (.ref 19), en P (Str.ofString "_set_fileattr") 214 (.bool false), en P (Str.ofString "_cached") 215 .none, en P (Str.ofString "_initializing") 243 (.bool false)].toArray 9), [].toArray⟩
noncomputable def o21 (P : Params) : Obj := ⟨(.type "dict"), none, (.dict [en P (Str.ofString "__module__") 227 (.str (Str.ofString "_frozen_importlib") 217), en P (Str.ofString "__firstlineno__") 228 (.int 562 218), en P (Str.ofString "__doc__") 229 (.builtin "_frozen_importlib.ModuleSpec.__doc__:str#opaque"), en P (Str.ofString "__init__") 230 (.builtin "_frozen_importlib.ModuleSpec.__init__#opaque"), en P (Str.ofString "__repr__") 231 (.builtin "_frozen_importlib.ModuleSpec.__repr__#opaque"), en P (Str.ofString "__eq__") 232 (.builtin "_frozen_importlib.ModuleSpec.__eq__#opaque"), en P (Str.ofString "cached") 233 (.builtin "_frozen_importlib.ModuleSpec.cached#opaque"), en P (Str.ofString "parent") 234 (.builtin "_frozen_importlib.ModuleSpec.parent#opaque"), en P (Str.ofString "has_location") 235 (.builtin "_frozen_importlib.ModuleSpec.has_location#opaque"), en P (Str.ofString "__static_attributes__") 236 (.ref 23), en P (Str.ofString "__dict__") 238 (.ref 24), en P (Str.ofString "__weakref__") 240 (.ref 25), en P (Str.ofString "__hash__") 241 .none].toArray 13), [].toArray⟩
noncomputable def o22 (P : Params) : Obj := ⟨(.type "type"), none, (.cls ⟨(Str.ofString "ModuleSpec"), [(.type "object")], [(.ref 22), (.type "object")], 21, (Str.ofString "ModuleSpec"), true, [], [], false, none, false⟩), [].toArray⟩
noncomputable def o23 (P : Params) : Obj := ⟨(.type "tuple"), none, (.seq [(.str (Str.ofString "_cached") 219), (.str (Str.ofString "_set_fileattr") 220), (.str (Str.ofString "_uninitialized_submodules") 221), (.str (Str.ofString "loader") 222), (.str (Str.ofString "loader_state") 223), (.str (Str.ofString "name") 224), (.str (Str.ofString "origin") 225), (.str (Str.ofString "submodule_search_locations") 226)].toArray 0), [].toArray⟩
noncomputable def o24 (P : Params) : Obj := ⟨(.type "getset_descriptor"), none, (.fields [(.str (Str.ofString "__dict__") 237), (.ref 22), (.builtin "function.__dict__"), (.builtin "function.__dict__#set")].toArray), [].toArray⟩
noncomputable def o25 (P : Params) : Obj := ⟨(.type "getset_descriptor"), none, (.fields [(.str (Str.ofString "__weakref__") 239), (.ref 22), (.builtin "ExceptionGroup.__weakref__"), .none].toArray), [].toArray⟩
noncomputable def o26 (P : Params) : Obj := ⟨(.ref 22), some 20, .plain, [].toArray⟩
noncomputable def o27 (P : Params) : Obj := ⟨.none, none, (.seq [(.int 11 0), (.str (Str.mk #[6, 247, 8, 95, 95, 110, 97, 109, 101, 95, 95, 6, 246, 4, 95, 115, 114, 101, 6, 248, 7, 95, 95, 100, 111, 99, 95, 95, 0, 6, 250, 11, 95, 95, 112, 97, 99, 107, 97, 103, 101, 95, 95, 6, 249, 0, 6, 251, 10, 95, 95, 108, 111, 97, 100, 101, 114, 95, 95, 4, 0, 0, 14, 6, 252, 8, 95, 95, 115, 112, 101, 99, 95, 95, 4, 0, 0, 26, 6, 253, 7, 99, 111, 109, 112, 105, 108, 101, 9, 12, 95, 115, 114, 101, 46, 99, 111, 109, 112, 105, 108, 101, 6, 254, 8, 116, 101, 109, 112, 108, 97, 116, 101, 9, 13, 95, 115, 114, 101, 46, 116, 101, 109, 112, 108, 97, 116, 101, 6, 255, 11, 103, 101, 116, 99, 111, 100, 101, 115, 105, 122, 101, 9, 16, 95, 115, 114, 101, 46, 103, 101, 116, 99, 111, 100, 101, 115, 105, 122, 101, 6, 256, 13, 97, 115, 99, 105, 105, 95, 105, 115, 99, 97, 115, 101, 100, 9, 18, 95, 115, 114, 101, 46, 97, 115, 99, 105, 105, 95, 105, 115, 99, 97, 115, 101, 100, 6, 257, 15, 117, 110, 105, 99, 111, 100, 101, 95, 105, 115, 99, 97, 115, 101, 100, 9, 20, 95, 115, 114, 101, 46, 117, 110, 105, 99, 111, 100, 101, 95, 105, 115, 99, 97, 115, 101, 100, 6, 258, 13, 97, 115, 99, 105, 105, 95, 116, 111, 108, 111, 119, 101, 114, 9, 18, 95, 115, 114, 101, 46, 97, 115, 99, 105, 105, 95, 116, 111, 108, 111, 119, 101, 114, 6, 259, 15, 117, 110, 105, 99, 111, 100, 101, 95, 116, 111, 108, 111, 119, 101, 114, 9, 20, 95, 115, 114, 101, 46, 117, 110, 105, 99, 111, 100, 101, 95, 116, 111, 108, 111, 119, 101, 114, 6, 261, 5, 77, 65, 71, 73, 67, 4, 260, 0, 20230612, 6, 263, 8, 67, 79, 68, 69, 83, 73, 90, 69, 4, 262, 0, 4, 6, 265, 9, 77, 65, 88, 82, 69, 80, 69, 65, 84, 4, 264, 0, 4294967295, 6, 267, 9, 77, 65, 88, 71, 82, 79, 85, 80, 83, 4, 266, 0, 1073741823, 6, 269, 9, 99, 111, 112, 121, 114, 105, 103, 104, 116, 6, 268, 53, 32, 83, 82, 69, 32, 50, 46, 50, 46, 50, 32, 67, 111, 112, 121, 114, 105, 103, 104, 116, 32, 40, 99, 41, 32, 49, 57, 57, 55, 45, 50, 48, 48, 50, 32, 98, 121, 32, 83, 101, 99, 114, 101, 116, 32, 76, 97, 98, 115, 32, 65, 66, 32]) 0), (.bool true), (.bool false), (.str (Str.ofString "_sre") 271)].toArray 0), [].toArray⟩
noncomputable def tE (P : Params) : BT := (.node (o0 P) (.node (o1 P) (.node (o3 P) (.node (o7 P) (.node (o15 P) .nil .nil) (.node (o23 P) .nil .nil)) (.node (o11 P) (.node (o19 P) .nil .nil) (.node (o27 P) .nil .nil))) (.node (o5 P) (.node (o9 P) (.node (o17 P) .nil .nil) (.node (o25 P) .nil .nil)) (.node (o13 P) (.node (o21 P) .nil .nil) .nil))) (.node (o2 P) (.node (o4 P) (.node (o8 P) (.node (o16 P) .nil .nil) (.node (o24 P) .nil .nil)) (.node (o12 P) (.node (o20 P) .nil .nil) .nil)) (.node (o6 P) (.node (o10 P) (.node (o18 P) .nil .nil) (.node (o26 P) .nil .nil)) (.node (o14 P) (.node (o22 P) .nil .nil) .nil))))
noncomputable abbrev SE (w : World) (os : OsState) : SharedT := ⟨tE w.params, 28, {}, #[], {}, 276, os⟩
noncomputable def o110 (P : Params) : Obj := ⟨(.type "dict"), none, (.dict [en P (Str.ofString "__name__") 247 (.str (Str.ofString "_sre") 246), en P (Str.ofString "__doc__") 248 .none, en P (Str.ofString "__package__") 250 (.str (Str.ofString "") 249), en P (Str.ofString "__loader__") 251 (.builtin "off-the-table:_sre.__loader__:shared#opaque"), en P (Str.ofString "__spec__") 252 (.builtin "off-the-table:_sre.__spec__:shared#opaque"), en P (Str.ofString "compile") 253 (.builtin "_sre.compile"), en P (Str.ofString "template") 254 (.builtin "off-the-table:_sre.template:shared#opaque"), en P (Str.ofString "getcodesize") 255 (.builtin "off-the-table:_sre.getcodesize:shared#opaque"), en P (Str.ofString "ascii_iscased") 256 (.builtin "off-the-table:_sre.ascii_iscased:shared#opaque"), en P (Str.ofString "unicode_iscased") 257 (.builtin "off-the-table:_sre.unicode_iscased:shared#opaque"), en P (Str.ofString "ascii_tolower") 258 (.builtin "off-the-table:_sre.ascii_tolower:shared#opaque"), en P (Str.ofString "unicode_tolower") 259 (.builtin "off-the-table:_sre.unicode_tolower:shared#opaque"), en P (Str.ofString "MAGIC") 261 (.int 20230612 260), en P (Str.ofString "CODESIZE") 263 (.int 4 262), en P (Str.ofString "MAXREPEAT") 265 (.int 4294967295 264), en P (Str.ofString "MAXGROUPS") 267 (.int 1073741823 266), en P (Str.ofString "copyright") 269 (.str (Str.ofString " SRE 2.2.2 Copyright (c) 1997-2002 by Secret Labs AB ") 268)].toArray 17), [].toArray⟩
noncomputable def t0 (P : Params) : BT := (.node (o0 P) (.node (o1 P) (.node (o3 P) (.node (o7 P) (.node (o15 P) .nil .nil) (.node (o23 P) .nil .nil)) (.node (o110 P) (.node (o19 P) .nil .nil) (.node (o27 P) .nil .nil))) (.node (o5 P) (.node (o9 P) (.node (o17 P) .nil .nil) (.node (o25 P) .nil .nil)) (.node (o13 P) (.node (o21 P) .nil .nil) .nil))) (.node (o2 P) (.node (o4 P) (.node (o8 P) (.node (o16 P) .nil .nil) (.node (o24 P) .nil .nil)) (.node (o12 P) (.node (o20 P) .nil .nil) .nil)) (.node (o6 P) (.node (o10 P) (.node (o18 P) .nil .nil) (.node (o26 P) .nil .nil)) (.node (o14 P) (.node (o22 P) .nil .nil) .nil))))
noncomputable abbrev S0 (w : World) (os : OsState) : SharedT := ⟨t0 w.params, 28, {}, #[], {}, 276, os⟩
noncomputable def o28 (P : Params) : Obj := ⟨(.type "tuple"), none, (.seq [].toArray 0), [].toArray⟩
noncomputable def o29 (P : Params) : Obj := ⟨.none, none, (.fields [].toArray), [].toArray⟩
noncomputable def o30 (P : Params) : Obj := ⟨(.type "code"), none, (.fields [(.str (Str.ofString "<module>") 277), (.str (Str.ofString "<module>") 278), (.str (Str.ofString "/claim/cut.py") 279), (.int 1 0), (.int 0 0), (.int 0 0), (.int 0 0), (.int 0 0), (.ref 28), (.bool false), (.int 276 0), (.ref 29), .none, .none, .none, .none, (.int 280 0), (.int 1 0), (.str (Str.ofString "/claim/cut.py") 281)].toArray), [].toArray⟩
noncomputable def o31 (P : Params) : Obj := ⟨(.type "frame"), none, .plain, [some (.ref 30), some (.ref 3), some (.ref 3), none, some (.str (Str.ofString "__main__") 164), none, some (.ref 0)].toArray⟩
noncomputable def tA (P : Params) : BT := (.node (o0 P) (.node (o1 P) (.node (o3 P) (.node (o7 P) (.node (o15 P) (.node (o31 P) .nil .nil) .nil) (.node (o23 P) .nil .nil)) (.node (o110 P) (.node (o19 P) .nil .nil) (.node (o27 P) .nil .nil))) (.node (o5 P) (.node (o9 P) (.node (o17 P) .nil .nil) (.node (o25 P) .nil .nil)) (.node (o13 P) (.node (o21 P) .nil .nil) (.node (o29 P) .nil .nil)))) (.node (o2 P) (.node (o4 P) (.node (o8 P) (.node (o16 P) .nil .nil) (.node (o24 P) .nil .nil)) (.node (o12 P) (.node (o20 P) .nil .nil) (.node (o28 P) .nil .nil))) (.node (o6 P) (.node (o10 P) (.node (o18 P) .nil .nil) (.node (o26 P) .nil .nil)) (.node (o14 P) (.node (o22 P) .nil .nil) (.node (o30 P) .nil .nil)))))
noncomputable abbrev SA (w : World) (os : OsState) : SharedT := ⟨tA w.params, 32, {}, #[], {}, 282, os⟩
noncomputable def o3B (P : Params) : Obj := ⟨(.type "dict"), none, (.dict [en P (Str.ofString "__name__") 165 (.str (Str.ofString "cpy313.stringprep") 394), en P (Str.ofString "__doc__") 166 .none, en P (Str.ofString "__package__") 167 .none, en P (Str.ofString "__loader__") 168 (.builtin "__main__.__loader__#opaque"), en P (Str.ofString "__spec__") 169 .none, en P (Str.ofString "__annotations__") 170 (.ref 6), en P (Str.ofString "__builtins__") 171 (.ref 4), en P (Str.ofString "__file__") 173 (.str (Str.ofString "/claim/cut.py") 172), en P (Str.ofString "__cached__") 174 .none, en P (Str.ofString "_sre") 275 (.ref 12), en P (Str.ofString "insort_right") 296 (.ref 40), en P (Str.ofString "bisect_right") 310 (.ref 49), en P (Str.ofString "bisect_left") 324 (.ref 58), en P (Str.ofString "_twin_re_1") 342 (.ref 63), en P (Str.ofString "_twin_re_2") 384 (.ref 68), en P (Str.ofString "CRLF") 386 (.str (Str.ofString "\r\n") 385), en P (Str.ofString "quotedata") 393 (.ref 75)].toArray 17), [].toArray⟩
noncomputable def o29B (P : Params) : Obj := ⟨.none, none, (.fields [(.int 3 0), (.int 0 0), (.ref 39), (.int 9 0), (.int 0 0), (.ref 48), (.int 29 0), (.int 0 0), (.ref 57), (.int 53 0), (.int 0 0), (.ref 74)].toArray), [].toArray⟩
noncomputable def o32 (P : Params) : Obj := ⟨(.type "tuple"), none, (.seq [(.int 0 284), .none].toArray 0), [].toArray⟩
noncomputable def o33 (P : Params) : Obj := ⟨(.type "dict"), none, (.dict [en P (Str.ofString "key") 285 .none].toArray 1), [].toArray⟩
noncomputable def o34 (P : Params) : Obj := ⟨(.type "tuple"), none, (.seq [].toArray 0), [].toArray⟩
noncomputable def o35 (P : Params) : Obj := ⟨.none, none, (.fields [].toArray), [].toArray⟩
noncomputable def o36 (P : Params) : Obj := ⟨(.type "tuple"), none, (.seq [(.str (Str.ofString "a") 289), (.str (Str.ofString "x") 290), (.str (Str.ofString "lo") 291), (.str (Str.ofString "hi") 292), (.str (Str.ofString "key") 293)].toArray 0), [].toArray⟩
noncomputable def o37 (P : Params) : Obj := ⟨(.type "tuple"), none, (.seq [].toArray 0), [].toArray⟩
noncomputable def o38 (P : Params) : Obj := ⟨.none, none, (.func ⟨(Str.ofString "insort_right"), (Str.ofString "insort_right"), fPar (stm 2), .stmts (fBody (stm 2)), fSc (stm 2), 0, [], .none, .none, .none, .none, none, .none, .none, 0⟩), [].toArray⟩
noncomputable def o39 (P : Params) : Obj := ⟨(.type "code"), none, (.fields [(.str (Str.ofString "insort_right") 286), (.str (Str.ofString "insort_right") 287), (.str (Str.ofString "/claim/cut.py") 288), (.int 3 0), (.int 4 0), (.int 0 0), (.int 1 0), (.int 3 0), (.ref 34), (.bool true), (.int 276 0), (.ref 35), .none, (.ref 36), (.ref 37), (.ref 38), (.int 294 0), (.int 3 0), (.str (Str.ofString "/claim/cut.py") 295)].toArray), [].toArray⟩
noncomputable def o40 (P : Params) : Obj := ⟨(.type "function"), none, (.func ⟨(Str.ofString "insort_right"), (Str.ofString "insort_right"), fPar (stm 2), .stmts (fBody (stm 2)), fSc (stm 2), 3, [], (.ref 32), (.ref 33), .none, (.str (Str.ofString "cpy313.bisect") 282), none, (.ref 39), .none, 0⟩), [].toArray⟩
noncomputable def o41 (P : Params) : Obj := ⟨(.type "tuple"), none, (.seq [(.int 0 297), .none].toArray 0), [].toArray⟩
noncomputable def o42 (P : Params) : Obj := ⟨(.type "dict"), none, (.dict [en P (Str.ofString "key") 298 .none].toArray 1), [].toArray⟩
noncomputable def o43 (P : Params) : Obj := ⟨(.type "tuple"), none, (.seq [].toArray 0), [].toArray⟩
noncomputable def o44 (P : Params) : Obj := ⟨.none, none, (.fields [].toArray), [].toArray⟩
noncomputable def o45 (P : Params) : Obj := ⟨(.type "tuple"), none, (.seq [(.str (Str.ofString "a") 302), (.str (Str.ofString "x") 303), (.str (Str.ofString "lo") 304), (.str (Str.ofString "hi") 305), (.str (Str.ofString "key") 306), (.str (Str.ofString "mid") 307)].toArray 0), [].toArray⟩
noncomputable def o46 (P : Params) : Obj := ⟨(.type "tuple"), none, (.seq [].toArray 0), [].toArray⟩
noncomputable def o47 (P : Params) : Obj := ⟨.none, none, (.func ⟨(Str.ofString "bisect_right"), (Str.ofString "bisect_right"), fPar (stm 3), .stmts (fBody (stm 3)), fSc (stm 3), 0, [], .none, .none, .none, .none, none, .none, .none, 0⟩), [].toArray⟩
noncomputable def o48 (P : Params) : Obj := ⟨(.type "code"), none, (.fields [(.str (Str.ofString "bisect_right") 299), (.str (Str.ofString "bisect_right") 300), (.str (Str.ofString "/claim/cut.py") 301), (.int 9 0), (.int 4 0), (.int 0 0), (.int 1 0), (.int 3 0), (.ref 43), (.bool true), (.int 276 0), (.ref 44), .none, (.ref 45), (.ref 46), (.ref 47), (.int 308 0), (.int 9 0), (.str (Str.ofString "/claim/cut.py") 309)].toArray), [].toArray⟩
noncomputable def o49 (P : Params) : Obj := ⟨(.type "function"), none, (.func ⟨(Str.ofString "bisect_right"), (Str.ofString "bisect_right"), fPar (stm 3), .stmts (fBody (stm 3)), fSc (stm 3), 3, [], (.ref 41), (.ref 42), .none, (.str (Str.ofString "cpy313.bisect") 282), none, (.ref 48), .none, 0⟩), [].toArray⟩
noncomputable def o50 (P : Params) : Obj := ⟨(.type "tuple"), none, (.seq [(.int 0 311), .none].toArray 0), [].toArray⟩
noncomputable def o51 (P : Params) : Obj := ⟨(.type "dict"), none, (.dict [en P (Str.ofString "key") 312 .none].toArray 1), [].toArray⟩
noncomputable def o52 (P : Params) : Obj := ⟨(.type "tuple"), none, (.seq [].toArray 0), [].toArray⟩
noncomputable def o53 (P : Params) : Obj := ⟨.none, none, (.fields [].toArray), [].toArray⟩
noncomputable def o54 (P : Params) : Obj := ⟨(.type "tuple"), none, (.seq [(.str (Str.ofString "a") 316), (.str (Str.ofString "x") 317), (.str (Str.ofString "lo") 318), (.str (Str.ofString "hi") 319), (.str (Str.ofString "key") 320), (.str (Str.ofString "mid") 321)].toArray 0), [].toArray⟩
noncomputable def o55 (P : Params) : Obj := ⟨(.type "tuple"), none, (.seq [].toArray 0), [].toArray⟩
noncomputable def o56 (P : Params) : Obj := ⟨.none, none, (.func ⟨(Str.ofString "bisect_left"), (Str.ofString "bisect_left"), fPar (stm 4), .stmts (fBody (stm 4)), fSc (stm 4), 0, [], .none, .none, .none, .none, none, .none, .none, 0⟩), [].toArray⟩
noncomputable def o57 (P : Params) : Obj := ⟨(.type "code"), none, (.fields [(.str (Str.ofString "bisect_left") 313), (.str (Str.ofString "bisect_left") 314), (.str (Str.ofString "/claim/cut.py") 315), (.int 29 0), (.int 4 0), (.int 0 0), (.int 1 0), (.int 3 0), (.ref 52), (.bool true), (.int 276 0), (.ref 53), .none, (.ref 54), (.ref 55), (.ref 56), (.int 322 0), (.int 29 0), (.str (Str.ofString "/claim/cut.py") 323)].toArray), [].toArray⟩
noncomputable def o58 (P : Params) : Obj := ⟨(.type "function"), none, (.func ⟨(Str.ofString "bisect_left"), (Str.ofString "bisect_left"), fPar (stm 4), .stmts (fBody (stm 4)), fSc (stm 4), 3, [], (.ref 50), (.ref 51), .none, (.str (Str.ofString "cpy313.bisect") 282), none, (.ref 57), .none, 0⟩), [].toArray⟩
noncomputable def o59 (P : Params) : Obj := ⟨(.type "list"), none, (.seq [(.int 14 330), (.int 4 331), (.int 0 332), (.int 1 333), (.int 1 334), (.int 6 335), (.int 1 336), (.int 16 337), (.int 46 338), (.int 1 339)].toArray 0), [].toArray⟩
noncomputable def o60 (P : Params) : Obj := ⟨(.type "dict"), none, (.dict [].toArray 0), [].toArray⟩
noncomputable def o61 (P : Params) : Obj := ⟨(.type "tuple"), none, (.seq [.none].toArray 0), [].toArray⟩
noncomputable def o62 (P : Params) : Obj := ⟨(.type "tuple"), none, (.seq [(.int 14 0), (.int 4 0), (.int 0 0), (.int 1 0), (.int 1 0), (.int 6 0), (.int 1 0), (.int 16 0), (.int 46 0), (.int 1 0)].toArray 0), [].toArray⟩
noncomputable def o63 (P : Params) : Obj := ⟨(.type "re.Pattern"), none, (.fields [(.str (Str.ofString "(?m)^\\.") 328), (.int 40 341), (.int 0 0), .none, .none, (.ref 62), (.int 0 0)].toArray), [].toArray⟩
noncomputable def o64 (P : Params) : Obj := ⟨(.type "list"), none, (.seq [(.int 14 346), (.int 9 347), (.int 4 348), (.int 1 349), (.int 2 350), (.int 16 351), (.int 10 352), (.int 16 353), (.int 13 354), (.int 0 355), (.int 7 356), (.int 7 357), (.int 16 358), (.int 13 359), (.int 16 360), (.int 10 361), (.int 15 362), (.int 18 363), (.int 5 364), (.int 16 365), (.int 10 366), (.int 15 367), (.int 13 368), (.int 11 369), (.int 16 370), (.int 13 371), (.int 5 372), (.int 5 373), (.int 0 374), (.int 16 375), (.int 10 376), (.int 1 377), (.int 15 378), (.int 2 379), (.int 0 380), (.int 1 381)].toArray 0), [].toArray⟩
noncomputable def o65 (P : Params) : Obj := ⟨(.type "dict"), none, (.dict [].toArray 0), [].toArray⟩
noncomputable def o66 (P : Params) : Obj := ⟨(.type "tuple"), none, (.seq [.none].toArray 0), [].toArray⟩
noncomputable def o67 (P : Params) : Obj := ⟨(.type "tuple"), none, (.seq [(.int 14 0), (.int 9 0), (.int 4 0), (.int 1 0), (.int 2 0), (.int 16 0), (.int 10 0), (.int 16 0), (.int 13 0), (.int 0 0), (.int 7 0), (.int 7 0), (.int 16 0), (.int 13 0), (.int 16 0), (.int 10 0), (.int 15 0), (.int 18 0), (.int 5 0), (.int 16 0), (.int 10 0), (.int 15 0), (.int 13 0), (.int 11 0), (.int 16 0), (.int 13 0), (.int 5 0), (.int 5 0), (.int 0 0), (.int 16 0), (.int 10 0), (.int 1 0), (.int 15 0), (.int 2 0), (.int 0 0), (.int 1 0)].toArray 0), [].toArray⟩
noncomputable def o68 (P : Params) : Obj := ⟨(.type "re.Pattern"), none, (.fields [(.str (Str.ofString "(?:\\r\\n|\\n|\\r(?!\\n))") 344), (.int 32 383), (.int 0 0), .none, .none, (.ref 67), (.int 0 0)].toArray), [].toArray⟩
noncomputable def o69 (P : Params) : Obj := ⟨(.type "tuple"), none, (.seq [].toArray 0), [].toArray⟩
noncomputable def o70 (P : Params) : Obj := ⟨.none, none, (.fields [].toArray), [].toArray⟩
noncomputable def o71 (P : Params) : Obj := ⟨(.type "tuple"), none, (.seq [(.str (Str.ofString "data") 390)].toArray 0), [].toArray⟩
noncomputable def o72 (P : Params) : Obj := ⟨(.type "tuple"), none, (.seq [].toArray 0), [].toArray⟩
noncomputable def o73 (P : Params) : Obj := ⟨.none, none, (.func ⟨(Str.ofString "quotedata"), (Str.ofString "quotedata"), fPar (stm 9), .stmts (fBody (stm 9)), fSc (stm 9), 0, [], .none, .none, .none, .none, none, .none, .none, 0⟩), [].toArray⟩
noncomputable def o74 (P : Params) : Obj := ⟨(.type "code"), none, (.fields [(.str (Str.ofString "quotedata") 387), (.str (Str.ofString "quotedata") 388), (.str (Str.ofString "/claim/cut.py") 389), (.int 53 0), (.int 1 0), (.int 0 0), (.int 0 0), (.int 3 0), (.ref 69), (.bool true), (.int 276 0), (.ref 70), .none, (.ref 71), (.ref 72), (.ref 73), (.int 391 0), (.int 53 0), (.str (Str.ofString "/claim/cut.py") 392)].toArray), [].toArray⟩
noncomputable def o75 (P : Params) : Obj := ⟨(.type "function"), none, (.func ⟨(Str.ofString "quotedata"), (Str.ofString "quotedata"), fPar (stm 9), .stmts (fBody (stm 9)), fSc (stm 9), 3, [], .none, .none, .none, (.str (Str.ofString "cpy313.smtplib") 325), none, (.ref 74), .none, 0⟩), [].toArray⟩
noncomputable def tB (P : Params) : BT := (.node (o0 P) (.node (o1 P) (.node (o3B P) (.node (o7 P) (.node (o15 P) (.node (o31 P) (.node (o63 P) .nil .nil) .nil) (.node (o47 P) .nil .nil)) (.node (o23 P) (.node (o39 P) (.node (o71 P) .nil .nil) .nil) (.node (o55 P) .nil .nil))) (.node (o110 P) (.node (o19 P) (.node (o35 P) (.node (o67 P) .nil .nil) .nil) (.node (o51 P) .nil .nil)) (.node (o27 P) (.node (o43 P) (.node (o75 P) .nil .nil) .nil) (.node (o59 P) .nil .nil)))) (.node (o5 P) (.node (o9 P) (.node (o17 P) (.node (o33 P) (.node (o65 P) .nil .nil) .nil) (.node (o49 P) .nil .nil)) (.node (o25 P) (.node (o41 P) (.node (o73 P) .nil .nil) .nil) (.node (o57 P) .nil .nil))) (.node (o13 P) (.node (o21 P) (.node (o37 P) (.node (o69 P) .nil .nil) .nil) (.node (o53 P) .nil .nil)) (.node (o29B P) (.node (o45 P) .nil .nil) (.node (o61 P) .nil .nil))))) (.node (o2 P) (.node (o4 P) (.node (o8 P) (.node (o16 P) (.node (o32 P) (.node (o64 P) .nil .nil) .nil) (.node (o48 P) .nil .nil)) (.node (o24 P) (.node (o40 P) (.node (o72 P) .nil .nil) .nil) (.node (o56 P) .nil .nil))) (.node (o12 P) (.node (o20 P) (.node (o36 P) (.node (o68 P) .nil .nil) .nil) (.node (o52 P) .nil .nil)) (.node (o28 P) (.node (o44 P) .nil .nil) (.node (o60 P) .nil .nil)))) (.node (o6 P) (.node (o10 P) (.node (o18 P) (.node (o34 P) (.node (o66 P) .nil .nil) .nil) (.node (o50 P) .nil .nil)) (.node (o26 P) (.node (o42 P) (.node (o74 P) .nil .nil) .nil) (.node (o58 P) .nil .nil))) (.node (o14 P) (.node (o22 P) (.node (o38 P) (.node (o70 P) .nil .nil) .nil) (.node (o54 P) .nil .nil)) (.node (o30 P) (.node (o46 P) .nil .nil) (.node (o62 P) .nil .nil))))))
noncomputable abbrev SB (w : World) (os : OsState) : SharedT := ⟨tB w.params, 76, {}, #[], {}, 396, os⟩
noncomputable def o3C (P : Params) : Obj := ⟨(.type "dict"), none, (.dict [en P (Str.ofString "__name__") 165 (.str (Str.ofString "cpy313.stringprep") 394), en P (Str.ofString "__doc__") 166 .none, en P (Str.ofString "__package__") 167 .none, en P (Str.ofString "__loader__") 168 (.builtin "__main__.__loader__#opaque"), en P (Str.ofString "__spec__") 169 .none, en P (Str.ofString "__annotations__") 170 (.ref 6), en P (Str.ofString "__builtins__") 171 (.ref 4), en P (Str.ofString "__file__") 173 (.str (Str.ofString "/claim/cut.py") 172), en P (Str.ofString "__cached__") 174 .none, en P (Str.ofString "_sre") 275 (.ref 12), en P (Str.ofString "insort_right") 296 (.ref 40), en P (Str.ofString "bisect_right") 310 (.ref 49), en P (Str.ofString "bisect_left") 324 (.ref 58), en P (Str.ofString "_twin_re_1") 342 (.ref 63), en P (Str.ofString "_twin_re_2") 384 (.ref 68), en P (Str.ofString "CRLF") 386 (.str (Str.ofString "\r\n") 385), en P (Str.ofString "quotedata") 393 (.ref 75), en P (Str.ofString "b1_set") 455 (.ref 83)].toArray 18), [].toArray⟩
noncomputable def o76 (P : Params) : Obj := ⟨(.type "list"), none, (.seq [(.int 173 396), (.int 847 397), (.int 6150 398), (.int 6155 399), (.int 6156 400), (.int 6157 401), (.int 8203 402), (.int 8204 403), (.int 8205 404), (.int 8288 405), (.int 65279 406)].toArray 0), [].toArray⟩
noncomputable def o77 (P : Params) : Obj := ⟨(.type "range"), none, (.fields [(.int 65024 407), (.int 65040 408), (.int 1 409)].toArray), [].toArray⟩
noncomputable def o78 (P : Params) : Obj := ⟨(.type "list"), none, (.seq [(.int 65024 412), (.int 65025 413), (.int 65026 414), (.int 65027 415), (.int 65028 416), (.int 65029 417), (.int 65030 418), (.int 65031 419), (.int 65032 420), (.int 65033 421), (.int 65034 422), (.int 65035 423), (.int 65036 424), (.int 65037 425), (.int 65038 426), (.int 65039 427)].toArray 18), [].toArray⟩
noncomputable def o79 (P : Params) : Obj := ⟨(.type "range_iterator"), none, (.fields [(.int 65040 0), (.int 0 0), (.int 1 0)].toArray), [].toArray⟩
noncomputable def o80 (P : Params) : Obj := ⟨(.type "tuple"), none, (.seq [].toArray 0), [].toArray⟩
noncomputable def o81 (P : Params) : Obj := ⟨(.type "StopIteration"), none, (.fields [(.ref 80), .none, .none, .none, (.bool false), .none].toArray), [].toArray⟩
noncomputable def o82 (P : Params) : Obj := ⟨(.type "list"), none, (.seq [(.int 173 396), (.int 847 397), (.int 6150 398), (.int 6155 399), (.int 6156 400), (.int 6157 401), (.int 8203 402), (.int 8204 403), (.int 8205 404), (.int 8288 405), (.int 65279 406), (.int 65024 412), (.int 65025 413), (.int 65026 414), (.int 65027 415), (.int 65028 416), (.int 65029 417), (.int 65030 418), (.int 65031 419), (.int 65032 420), (.int 65033 421), (.int 65034 422), (.int 65035 423), (.int 65036 424), (.int 65037 425), (.int 65038 426), (.int 65039 427)].toArray 0), [].toArray⟩
noncomputable def b1E : List (Int × Value) := [(65024, (.int 65024 412)), (65025, (.int 65025 413)), (65026, (.int 65026 414)), (65027, (.int 65027 415)), (65028, (.int 65028 416)), (65029, (.int 65029 417)), (6150, (.int 6150 398)), (65030, (.int 65030 418)), (65031, (.int 65031 419)), (65032, (.int 65032 420)), (65033, (.int 65033 421)), (6155, (.int 6155 399)), (6156, (.int 6156 400)), (6157, (.int 6157 401)), (8203, (.int 8203 402)), (8204, (.int 8204 403)), (8205, (.int 8205 404)), (65034, (.int 65034 422)), (65035, (.int 65035 423)), (65036, (.int 65036 424)), (65037, (.int 65037 425)), (65038, (.int 65038 426)), (65039, (.int 65039 427)), (173, (.int 173 396)), (847, (.int 847 397)), (8288, (.int 8288 405)), (65279, (.int 65279 406))]
noncomputable def o83 (P : Params) : Obj := ⟨(.type "set"), none, (.set b1E.toArray 29 ⟨127, [0, 1, 2, 3, 4, 5, 6, 7, 8, 9, 10, 11, 12, 13, 14, 15, 16, 17, 18, 19, 20, 21, 22, 45, 79, 96, 127].toArray, [].toArray, 0, !P.followText "set-order", 2, true⟩), [].toArray⟩
noncomputable def o84 (P : Params) : Obj := ⟨(.type "list_iterator"), none, (.fields [.none, (.int 27 0)].toArray), [].toArray⟩
noncomputable def o85 (P : Params) : Obj := ⟨(.type "tuple"), none, (.seq [].toArray 0), [].toArray⟩
noncomputable def o86 (P : Params) : Obj := ⟨(.type "StopIteration"), none, (.fields [(.ref 85), .none, .none, .none, (.bool false), .none].toArray), [].toArray⟩
noncomputable def tC (P : Params) : BT := (.node (o0 P) (.node (o1 P) (.node (o3C P) (.node (o7 P) (.node (o15 P) (.node (o31 P) (.node (o63 P) .nil .nil) .nil) (.node (o47 P) (.node (o79 P) .nil .nil) .nil)) (.node (o23 P) (.node (o39 P) (.node (o71 P) .nil .nil) .nil) (.node (o55 P) .nil .nil))) (.node (o110 P) (.node (o19 P) (.node (o35 P) (.node (o67 P) .nil .nil) .nil) (.node (o51 P) (.node (o83 P) .nil .nil) .nil)) (.node (o27 P) (.node (o43 P) (.node (o75 P) .nil .nil) .nil) (.node (o59 P) .nil .nil)))) (.node (o5 P) (.node (o9 P) (.node (o17 P) (.node (o33 P) (.node (o65 P) .nil .nil) .nil) (.node (o49 P) (.node (o81 P) .nil .nil) .nil)) (.node (o25 P) (.node (o41 P) (.node (o73 P) .nil .nil) .nil) (.node (o57 P) .nil .nil))) (.node (o13 P) (.node (o21 P) (.node (o37 P) (.node (o69 P) .nil .nil) .nil) (.node (o53 P) (.node (o85 P) .nil .nil) .nil)) (.node (o29B P) (.node (o45 P) (.node (o77 P) .nil .nil) .nil) (.node (o61 P) .nil .nil))))) (.node (o2 P) (.node (o4 P) (.node (o8 P) (.node (o16 P) (.node (o32 P) (.node (o64 P) .nil .nil) .nil) (.node (o48 P) (.node (o80 P) .nil .nil) .nil)) (.node (o24 P) (.node (o40 P) (.node (o72 P) .nil .nil) .nil) (.node (o56 P) .nil .nil))) (.node (o12 P) (.node (o20 P) (.node (o36 P) (.node (o68 P) .nil .nil) .nil) (.node (o52 P) (.node (o84 P) .nil .nil) .nil)) (.node (o28 P) (.node (o44 P) (.node (o76 P) .nil .nil) .nil) (.node (o60 P) .nil .nil)))) (.node (o6 P) (.node (o10 P) (.node (o18 P) (.node (o34 P) (.node (o66 P) .nil .nil) .nil) (.node (o50 P) (.node (o82 P) .nil .nil) .nil)) (.node (o26 P) (.node (o42 P) (.node (o74 P) .nil .nil) .nil) (.node (o58 P) .nil .nil))) (.node (o14 P) (.node (o22 P) (.node (o38 P) (.node (o70 P) .nil .nil) .nil) (.node (o54 P) (.node (o86 P) .nil .nil) .nil)) (.node (o30 P) (.node (o46 P) (.node (o78 P) .nil .nil) .nil) (.node (o62 P) .nil .nil))))))
noncomputable abbrev SC (w : World) (os : OsState) : SharedT := ⟨tC w.params, 87, {}, #[], {}, 456, os⟩
noncomputable def o3D (P : Params) : Obj := ⟨(.type "dict"), none, (.dict [en P (Str.ofString "__name__") 165 (.str (Str.ofString "cpy313.stringprep") 394), en P (Str.ofString "__doc__") 166 .none, en P (Str.ofString "__package__") 167 .none, en P (Str.ofString "__loader__") 168 (.builtin "__main__.__loader__#opaque"), en P (Str.ofString "__spec__") 169 .none, en P (Str.ofString "__annotations__") 170 (.ref 6), en P (Str.ofString "__builtins__") 171 (.ref 4), en P (Str.ofString "__file__") 173 (.str (Str.ofString "/claim/cut.py") 172), en P (Str.ofString "__cached__") 174 .none, en P (Str.ofString "_sre") 275 (.ref 12), en P (Str.ofString "insort_right") 296 (.ref 40), en P (Str.ofString "bisect_right") 310 (.ref 49), en P (Str.ofString "bisect_left") 324 (.ref 58), en P (Str.ofString "_twin_re_1") 342 (.ref 63), en P (Str.ofString "_twin_re_2") 384 (.ref 68), en P (Str.ofString "CRLF") 386 (.str (Str.ofString "\r\n") 385), en P (Str.ofString "quotedata") 393 (.ref 75), en P (Str.ofString "b1_set") 455 (.ref 83), en P (Str.ofString "in_table_b1") 462 (.ref 93)].toArray 19), [].toArray⟩
noncomputable def o29D (P : Params) : Obj := ⟨.none, none, (.fields [(.int 3 0), (.int 0 0), (.ref 39), (.int 9 0), (.int 0 0), (.ref 48), (.int 29 0), (.int 0 0), (.ref 57), (.int 53 0), (.int 0 0), (.ref 74), (.int 57 0), (.int 0 0), (.ref 92)].toArray), [].toArray⟩
noncomputable def o87 (P : Params) : Obj := ⟨(.type "tuple"), none, (.seq [].toArray 0), [].toArray⟩
noncomputable def o88 (P : Params) : Obj := ⟨.none, none, (.fields [].toArray), [].toArray⟩
noncomputable def o89 (P : Params) : Obj := ⟨(.type "tuple"), none, (.seq [(.str (Str.ofString "code") 459)].toArray 0), [].toArray⟩
noncomputable def o90 (P : Params) : Obj := ⟨(.type "tuple"), none, (.seq [].toArray 0), [].toArray⟩
noncomputable def o91 (P : Params) : Obj := ⟨.none, none, (.func ⟨(Str.ofString "in_table_b1"), (Str.ofString "in_table_b1"), fPar (stm 12), .stmts (fBody (stm 12)), fSc (stm 12), 0, [], .none, .none, .none, .none, none, .none, .none, 0⟩), [].toArray⟩
noncomputable def o92 (P : Params) : Obj := ⟨(.type "code"), none, (.fields [(.str (Str.ofString "in_table_b1") 456), (.str (Str.ofString "in_table_b1") 457), (.str (Str.ofString "/claim/cut.py") 458), (.int 57 0), (.int 1 0), (.int 0 0), (.int 0 0), (.int 3 0), (.ref 87), (.bool true), (.int 276 0), (.ref 88), .none, (.ref 89), (.ref 90), (.ref 91), (.int 460 0), (.int 57 0), (.str (Str.ofString "/claim/cut.py") 461)].toArray), [].toArray⟩
noncomputable def o93 (P : Params) : Obj := ⟨(.type "function"), none, (.func ⟨(Str.ofString "in_table_b1"), (Str.ofString "in_table_b1"), fPar (stm 12), .stmts (fBody (stm 12)), fSc (stm 12), 3, [], .none, .none, .none, (.str (Str.ofString "cpy313.stringprep") 394), none, (.ref 92), .none, 0⟩), [].toArray⟩
noncomputable def tD (P : Params) : BT := (.node (o0 P) (.node (o1 P) (.node (o3D P) (.node (o7 P) (.node (o15 P) (.node (o31 P) (.node (o63 P) .nil .nil) .nil) (.node (o47 P) (.node (o79 P) .nil .nil) .nil)) (.node (o23 P) (.node (o39 P) (.node (o71 P) .nil .nil) .nil) (.node (o55 P) (.node (o87 P) .nil .nil) .nil))) (.node (o110 P) (.node (o19 P) (.node (o35 P) (.node (o67 P) .nil .nil) .nil) (.node (o51 P) (.node (o83 P) .nil .nil) .nil)) (.node (o27 P) (.node (o43 P) (.node (o75 P) .nil .nil) .nil) (.node (o59 P) (.node (o91 P) .nil .nil) .nil)))) (.node (o5 P) (.node (o9 P) (.node (o17 P) (.node (o33 P) (.node (o65 P) .nil .nil) .nil) (.node (o49 P) (.node (o81 P) .nil .nil) .nil)) (.node (o25 P) (.node (o41 P) (.node (o73 P) .nil .nil) .nil) (.node (o57 P) (.node (o89 P) .nil .nil) .nil))) (.node (o13 P) (.node (o21 P) (.node (o37 P) (.node (o69 P) .nil .nil) .nil) (.node (o53 P) (.node (o85 P) .nil .nil) .nil)) (.node (o29D P) (.node (o45 P) (.node (o77 P) .nil .nil) .nil) (.node (o61 P) (.node (o93 P) .nil .nil) .nil))))) (.node (o2 P) (.node (o4 P) (.node (o8 P) (.node (o16 P) (.node (o32 P) (.node (o64 P) .nil .nil) .nil) (.node (o48 P) (.node (o80 P) .nil .nil) .nil)) (.node (o24 P) (.node (o40 P) (.node (o72 P) .nil .nil) .nil) (.node (o56 P) (.node (o88 P) .nil .nil) .nil))) (.node (o12 P) (.node (o20 P) (.node (o36 P) (.node (o68 P) .nil .nil) .nil) (.node (o52 P) (.node (o84 P) .nil .nil) .nil)) (.node (o28 P) (.node (o44 P) (.node (o76 P) .nil .nil) .nil) (.node (o60 P) (.node (o92 P) .nil .nil) .nil)))) (.node (o6 P) (.node (o10 P) (.node (o18 P) (.node (o34 P) (.node (o66 P) .nil .nil) .nil) (.node (o50 P) (.node (o82 P) .nil .nil) .nil)) (.node (o26 P) (.node (o42 P) (.node (o74 P) .nil .nil) .nil) (.node (o58 P) (.node (o90 P) .nil .nil) .nil))) (.node (o14 P) (.node (o22 P) (.node (o38 P) (.node (o70 P) .nil .nil) .nil) (.node (o54 P) (.node (o86 P) .nil .nil) .nil)) (.node (o30 P) (.node (o46 P) (.node (o78 P) .nil .nil) .nil) (.node (o62 P) .nil .nil))))))
noncomputable abbrev SD (w : World) (os : OsState) : SharedT := ⟨tD w.params, 94, {}, #[], {}, 463, os⟩
noncomputable def o3F (P : Params) : Obj := ⟨(.type "dict"), none, (.dict [en P (Str.ofString "__name__") 165 (.str (Str.ofString "cpy313.stringprep") 394), en P (Str.ofString "__doc__") 166 .none, en P (Str.ofString "__package__") 167 .none, en P (Str.ofString "__loader__") 168 (.builtin "__main__.__loader__#opaque"), en P (Str.ofString "__spec__") 169 .none, en P (Str.ofString "__annotations__") 170 (.ref 6), en P (Str.ofString "__builtins__") 171 (.ref 4), en P (Str.ofString "__file__") 173 (.str (Str.ofString "/claim/cut.py") 172), en P (Str.ofString "__cached__") 174 .none, en P (Str.ofString "_sre") 275 (.ref 12), en P (Str.ofString "insort_right") 296 (.ref 40), en P (Str.ofString "bisect_right") 310 (.ref 49), en P (Str.ofString "bisect_left") 324 (.ref 58), en P (Str.ofString "_twin_re_1") 342 (.ref 63), en P (Str.ofString "_twin_re_2") 384 (.ref 68), en P (Str.ofString "CRLF") 386 (.str (Str.ofString "\r\n") 385), en P (Str.ofString "quotedata") 393 (.ref 75), en P (Str.ofString "b1_set") 455 (.ref 83), en P (Str.ofString "in_table_b1") 462 (.ref 93), en P (Str.ofString "b3_exceptions") 2413 (.ref 94)].toArray 20), [].toArray⟩
noncomputable def tF (P : Params) : BT := (.node (o0 P) (.node (o1 P) (.node (o3F P) (.node (o7 P) (.node (o15 P) (.node (o31 P) (.node (o63 P) (.node (subD 33 P) .nil .nil) .nil) (.node (subD 1 P) .nil .nil)) (.node (o47 P) (.node (o79 P) .nil .nil) (.node (subD 17 P) .nil .nil))) (.node (o23 P) (.node (o39 P) (.node (o71 P) .nil .nil) (.node (subD 9 P) .nil .nil)) (.node (o55 P) (.node (o87 P) .nil .nil) (.node (subD 25 P) .nil .nil)))) (.node (o110 P) (.node (o19 P) (.node (o35 P) (.node (o67 P) (.node (subD 37 P) .nil .nil) .nil) (.node (subD 5 P) .nil .nil)) (.node (o51 P) (.node (o83 P) .nil .nil) (.node (subD 21 P) .nil .nil))) (.node (o27 P) (.node (o43 P) (.node (o75 P) .nil .nil) (.node (subD 13 P) .nil .nil)) (.node (o59 P) (.node (o91 P) .nil .nil) (.node (subD 29 P) .nil .nil))))) (.node (o5 P) (.node (o9 P) (.node (o17 P) (.node (o33 P) (.node (o65 P) (.node (subD 35 P) .nil .nil) .nil) (.node (subD 3 P) .nil .nil)) (.node (o49 P) (.node (o81 P) .nil .nil) (.node (subD 19 P) .nil .nil))) (.node (o25 P) (.node (o41 P) (.node (o73 P) .nil .nil) (.node (subD 11 P) .nil .nil)) (.node (o57 P) (.node (o89 P) .nil .nil) (.node (subD 27 P) .nil .nil)))) (.node (o13 P) (.node (o21 P) (.node (o37 P) (.node (o69 P) .nil .nil) (.node (subD 7 P) .nil .nil)) (.node (o53 P) (.node (o85 P) .nil .nil) (.node (subD 23 P) .nil .nil))) (.node (o29D P) (.node (o45 P) (.node (o77 P) .nil .nil) (.node (subD 15 P) .nil .nil)) (.node (o61 P) (.node (o93 P) .nil .nil) (.node (subD 31 P) .nil .nil)))))) (.node (o2 P) (.node (o4 P) (.node (o8 P) (.node (o16 P) (.node (o32 P) (.node (o64 P) (.node (subD 34 P) .nil .nil) .nil) (.node (subD 2 P) .nil .nil)) (.node (o48 P) (.node (o80 P) .nil .nil) (.node (subD 18 P) .nil .nil))) (.node (o24 P) (.node (o40 P) (.node (o72 P) .nil .nil) (.node (subD 10 P) .nil .nil)) (.node (o56 P) (.node (o88 P) .nil .nil) (.node (subD 26 P) .nil .nil)))) (.node (o12 P) (.node (o20 P) (.node (o36 P) (.node (o68 P) (.node (subD 38 P) .nil .nil) .nil) (.node (subD 6 P) .nil .nil)) (.node (o52 P) (.node (o84 P) .nil .nil) (.node (subD 22 P) .nil .nil))) (.node (o28 P) (.node (o44 P) (.node (o76 P) .nil .nil) (.node (subD 14 P) .nil .nil)) (.node (o60 P) (.node (o92 P) .nil .nil) (.node (subD 30 P) .nil .nil))))) (.node (o6 P) (.node (o10 P) (.node (o18 P) (.node (o34 P) (.node (o66 P) (.node (subD 36 P) .nil .nil) .nil) (.node (subD 4 P) .nil .nil)) (.node (o50 P) (.node (o82 P) .nil .nil) (.node (subD 20 P) .nil .nil))) (.node (o26 P) (.node (o42 P) (.node (o74 P) .nil .nil) (.node (subD 12 P) .nil .nil)) (.node (o58 P) (.node (o90 P) .nil .nil) (.node (subD 28 P) .nil .nil)))) (.node (o14 P) (.node (o22 P) (.node (o38 P) (.node (o70 P) .nil .nil) (.node (subD 8 P) .nil .nil)) (.node (o54 P) (.node (o86 P) .nil .nil) (.node (subD 24 P) .nil .nil))) (.node (o30 P) (.node (o46 P) (.node (o78 P) .nil .nil) (.node (subD 16 P) .nil .nil)) (.node (o62 P) (.node (mainD 39 P) .nil .nil) (.node (subD 32 P) .nil .nil)))))))
noncomputable abbrev SF (w : World) (os : OsState) : SharedT := ⟨tF w.params, 133, {}, #[], {}, 2414, os⟩
noncomputable def o3G (P : Params) : Obj := ⟨(.type "dict"), none, (.dict [en P (Str.ofString "__name__") 165 (.str (Str.ofString "law_rw0108_01") 2422), en P (Str.ofString "__doc__") 166 .none, en P (Str.ofString "__package__") 167 .none, en P (Str.ofString "__loader__") 168 (.builtin "__main__.__loader__#opaque"), en P (Str.ofString "__spec__") 169 .none, en P (Str.ofString "__annotations__") 170 (.ref 6), en P (Str.ofString "__builtins__") 171 (.ref 4), en P (Str.ofString "__file__") 173 (.str (Str.ofString "/claim/cut.py") 172), en P (Str.ofString "__cached__") 174 .none, en P (Str.ofString "_sre") 275 (.ref 12), en P (Str.ofString "insort_right") 296 (.ref 40), en P (Str.ofString "bisect_right") 310 (.ref 49), en P (Str.ofString "bisect_left") 324 (.ref 58), en P (Str.ofString "_twin_re_1") 342 (.ref 63), en P (Str.ofString "_twin_re_2") 384 (.ref 68), en P (Str.ofString "CRLF") 386 (.str (Str.ofString "\r\n") 385), en P (Str.ofString "quotedata") 393 (.ref 75), en P (Str.ofString "b1_set") 455 (.ref 83), en P (Str.ofString "in_table_b1") 462 (.ref 93), en P (Str.ofString "b3_exceptions") 2413 (.ref 94), en P (Str.ofString "map_table_b3") 2421 (.ref 139), en P (Str.ofString "_law_row") 2429 (.ref 144), en P (Str.ofString "_law_sent") 2443 (.ref 151), en P (Str.ofString "_law_heard") 2449 (.ref 156), en P (Str.ofString "law") 2455 (.ref 161)].toArray 25), [].toArray⟩
noncomputable def o29G (P : Params) : Obj := ⟨.none, none, (.fields [(.int 3 0), (.int 0 0), (.ref 39), (.int 9 0), (.int 0 0), (.ref 48), (.int 29 0), (.int 0 0), (.ref 57), (.int 53 0), (.int 0 0), (.ref 74), (.int 57 0), (.int 0 0), (.ref 92), (.int 60 0), (.int 0 0), (.ref 138), (.int 66 0), (.int 0 0), (.ref 143), (.int 83 0), (.int 0 0), (.ref 150), (.int 91 0), (.int 0 0), (.ref 155), (.int 96 0), (.int 0 0), (.ref 160)].toArray), [].toArray⟩
noncomputable def o133 (P : Params) : Obj := ⟨(.type "tuple"), none, (.seq [].toArray 0), [].toArray⟩
noncomputable def o134 (P : Params) : Obj := ⟨.none, none, (.fields [].toArray), [].toArray⟩
noncomputable def o135 (P : Params) : Obj := ⟨(.type "tuple"), none, (.seq [(.str (Str.ofString "code") 2417), (.str (Str.ofString "r") 2418)].toArray 0), [].toArray⟩
noncomputable def o136 (P : Params) : Obj := ⟨(.type "tuple"), none, (.seq [].toArray 0), [].toArray⟩
noncomputable def o137 (P : Params) : Obj := ⟨.none, none, (.func ⟨(Str.ofString "map_table_b3"), (Str.ofString "map_table_b3"), fPar (stm 14), .stmts (fBody (stm 14)), fSc (stm 14), 0, [], .none, .none, .none, .none, none, .none, .none, 0⟩), [].toArray⟩
noncomputable def o138 (P : Params) : Obj := ⟨(.type "code"), none, (.fields [(.str (Str.ofString "map_table_b3") 2414), (.str (Str.ofString "map_table_b3") 2415), (.str (Str.ofString "/claim/cut.py") 2416), (.int 60 0), (.int 1 0), (.int 0 0), (.int 0 0), (.int 3 0), (.ref 133), (.bool true), (.int 276 0), (.ref 134), .none, (.ref 135), (.ref 136), (.ref 137), (.int 2419 0), (.int 60 0), (.str (Str.ofString "/claim/cut.py") 2420)].toArray), [].toArray⟩
noncomputable def o139 (P : Params) : Obj := ⟨(.type "function"), none, (.func ⟨(Str.ofString "map_table_b3"), (Str.ofString "map_table_b3"), fPar (stm 14), .stmts (fBody (stm 14)), fSc (stm 14), 3, [], .none, .none, .none, (.str (Str.ofString "cpy313.stringprep") 394), none, (.ref 138), .none, 0⟩), [].toArray⟩
noncomputable def o140 (P : Params) : Obj := ⟨(.type "tuple"), none, (.seq [].toArray 0), [].toArray⟩
noncomputable def o141 (P : Params) : Obj := ⟨.none, none, (.fields [].toArray), [].toArray⟩
noncomputable def o142 (P : Params) : Obj := ⟨.none, none, (.func ⟨(Str.ofString "_law_row"), (Str.ofString "_law_row"), fPar (stm 16), .stmts (fBody (stm 16)), fSc (stm 16), 0, [], .none, .none, .none, .none, none, .none, .none, 0⟩), [].toArray⟩
noncomputable def o143 (P : Params) : Obj := ⟨(.type "code"), none, (.fields [(.str (Str.ofString "_law_row") 2424), (.str (Str.ofString "_law_row") 2425), (.str (Str.ofString "/claim/cut.py") 2426), (.int 66 0), (.int 2 0), (.int 0 0), (.int 0 0), (.int 3 0), (.ref 140), (.bool true), (.int 276 0), (.ref 141), .none, .none, .none, (.ref 142), (.int 2427 0), (.int 66 0), (.str (Str.ofString "/claim/cut.py") 2428)].toArray), [].toArray⟩
noncomputable def o144 (P : Params) : Obj := ⟨(.type "function"), none, (.func ⟨(Str.ofString "_law_row"), (Str.ofString "_law_row"), fPar (stm 16), .stmts (fBody (stm 16)), fSc (stm 16), 3, [], .none, .none, .none, (.str (Str.ofString "law_rw0108_01") 2422), none, (.ref 143), .none, 0⟩), [].toArray⟩
noncomputable def o145 (P : Params) : Obj := ⟨(.type "tuple"), none, (.seq [].toArray 0), [].toArray⟩
noncomputable def o146 (P : Params) : Obj := ⟨.none, none, (.fields [].toArray), [].toArray⟩
noncomputable def o147 (P : Params) : Obj := ⟨(.type "tuple"), none, (.seq [(.str (Str.ofString "hands") 2433), (.str (Str.ofString "pages") 2434), (.str (Str.ofString "mail") 2435), (.str (Str.ofString "due") 2436), (.str (Str.ofString "place") 2437), (.str (Str.ofString "dot") 2438), (.str (Str.ofString "row") 2439), (.str (Str.ofString "meant") 2440)].toArray 0), [].toArray⟩
noncomputable def o148 (P : Params) : Obj := ⟨(.type "tuple"), none, (.seq [].toArray 0), [].toArray⟩
noncomputable def o149 (P : Params) : Obj := ⟨.none, none, (.func ⟨(Str.ofString "_law_sent"), (Str.ofString "_law_sent"), fPar (stm 17), .stmts (fBody (stm 17)), fSc (stm 17), 0, [], .none, .none, .none, .none, none, .none, .none, 0⟩), [].toArray⟩
noncomputable def o150 (P : Params) : Obj := ⟨(.type "code"), none, (.fields [(.str (Str.ofString "_law_sent") 2430), (.str (Str.ofString "_law_sent") 2431), (.str (Str.ofString "/claim/cut.py") 2432), (.int 83 0), (.int 2 0), (.int 0 0), (.int 0 0), (.int 3 0), (.ref 145), (.bool true), (.int 276 0), (.ref 146), .none, (.ref 147), (.ref 148), (.ref 149), (.int 2441 0), (.int 83 0), (.str (Str.ofString "/claim/cut.py") 2442)].toArray), [].toArray⟩
noncomputable def o151 (P : Params) : Obj := ⟨(.type "function"), none, (.func ⟨(Str.ofString "_law_sent"), (Str.ofString "_law_sent"), fPar (stm 17), .stmts (fBody (stm 17)), fSc (stm 17), 3, [], .none, .none, .none, (.str (Str.ofString "law_rw0108_01") 2422), none, (.ref 150), .none, 0⟩), [].toArray⟩
noncomputable def o152 (P : Params) : Obj := ⟨(.type "tuple"), none, (.seq [].toArray 0), [].toArray⟩
noncomputable def o153 (P : Params) : Obj := ⟨.none, none, (.fields [].toArray), [].toArray⟩
noncomputable def o154 (P : Params) : Obj := ⟨.none, none, (.func ⟨(Str.ofString "_law_heard"), (Str.ofString "_law_heard"), fPar (stm 18), .stmts (fBody (stm 18)), fSc (stm 18), 0, [], .none, .none, .none, .none, none, .none, .none, 0⟩), [].toArray⟩
noncomputable def o155 (P : Params) : Obj := ⟨(.type "code"), none, (.fields [(.str (Str.ofString "_law_heard") 2444), (.str (Str.ofString "_law_heard") 2445), (.str (Str.ofString "/claim/cut.py") 2446), (.int 91 0), (.int 2 0), (.int 0 0), (.int 0 0), (.int 3 0), (.ref 152), (.bool true), (.int 276 0), (.ref 153), .none, .none, .none, (.ref 154), (.int 2447 0), (.int 91 0), (.str (Str.ofString "/claim/cut.py") 2448)].toArray), [].toArray⟩
noncomputable def o156 (P : Params) : Obj := ⟨(.type "function"), none, (.func ⟨(Str.ofString "_law_heard"), (Str.ofString "_law_heard"), fPar (stm 18), .stmts (fBody (stm 18)), fSc (stm 18), 3, [], .none, .none, .none, (.str (Str.ofString "law_rw0108_01") 2422), none, (.ref 155), .none, 0⟩), [].toArray⟩
noncomputable def o157 (P : Params) : Obj := ⟨(.type "tuple"), none, (.seq [].toArray 0), [].toArray⟩
noncomputable def o158 (P : Params) : Obj := ⟨.none, none, (.fields [].toArray), [].toArray⟩
noncomputable def o159 (P : Params) : Obj := ⟨.none, none, (.func ⟨(Str.ofString "law"), (Str.ofString "law"), fPar (stm 19), .stmts (fBody (stm 19)), fSc (stm 19), 0, [], .none, .none, .none, .none, none, .none, .none, 0⟩), [].toArray⟩
noncomputable def o160 (P : Params) : Obj := ⟨(.type "code"), none, (.fields [(.str (Str.ofString "law") 2450), (.str (Str.ofString "law") 2451), (.str (Str.ofString "/claim/cut.py") 2452), (.int 96 0), (.int 1 0), (.int 0 0), (.int 0 0), (.int 3 0), (.ref 157), (.bool true), (.int 276 0), (.ref 158), .none, .none, .none, (.ref 159), (.int 2453 0), (.int 96 0), (.str (Str.ofString "/claim/cut.py") 2454)].toArray), [].toArray⟩
noncomputable def o161 (P : Params) : Obj := ⟨(.type "function"), none, (.func ⟨(Str.ofString "law"), (Str.ofString "law"), fPar (stm 19), .stmts (fBody (stm 19)), fSc (stm 19), 3, [], .none, .none, .none, (.str (Str.ofString "law_rw0108_01") 2422), none, (.ref 160), .none, 0⟩), [].toArray⟩
noncomputable def tG (P : Params) : BT := (.node (o0 P) (.node (o1 P) (.node (o3G P) (.node (o7 P) (.node (o15 P) (.node (o31 P) (.node (o63 P) (.node (subD 33 P) .nil .nil) .nil) (.node (subD 1 P) (.node (o159 P) .nil .nil) .nil)) (.node (o47 P) (.node (o79 P) (.node (o143 P) .nil .nil) .nil) (.node (subD 17 P) .nil .nil))) (.node (o23 P) (.node (o39 P) (.node (o71 P) (.node (o135 P) .nil .nil) .nil) (.node (subD 9 P) .nil .nil)) (.node (o55 P) (.node (o87 P) (.node (o151 P) .nil .nil) .nil) (.node (subD 25 P) .nil .nil)))) (.node (o110 P) (.node (o19 P) (.node (o35 P) (.node (o67 P) (.node (subD 37 P) .nil .nil) .nil) (.node (subD 5 P) .nil .nil)) (.node (o51 P) (.node (o83 P) (.node (o147 P) .nil .nil) .nil) (.node (subD 21 P) .nil .nil))) (.node (o27 P) (.node (o43 P) (.node (o75 P) (.node (o139 P) .nil .nil) .nil) (.node (subD 13 P) .nil .nil)) (.node (o59 P) (.node (o91 P) (.node (o155 P) .nil .nil) .nil) (.node (subD 29 P) .nil .nil))))) (.node (o5 P) (.node (o9 P) (.node (o17 P) (.node (o33 P) (.node (o65 P) (.node (subD 35 P) .nil .nil) .nil) (.node (subD 3 P) (.node (o161 P) .nil .nil) .nil)) (.node (o49 P) (.node (o81 P) (.node (o145 P) .nil .nil) .nil) (.node (subD 19 P) .nil .nil))) (.node (o25 P) (.node (o41 P) (.node (o73 P) (.node (o137 P) .nil .nil) .nil) (.node (subD 11 P) .nil .nil)) (.node (o57 P) (.node (o89 P) (.node (o153 P) .nil .nil) .nil) (.node (subD 27 P) .nil .nil)))) (.node (o13 P) (.node (o21 P) (.node (o37 P) (.node (o69 P) (.node (o133 P) .nil .nil) .nil) (.node (subD 7 P) .nil .nil)) (.node (o53 P) (.node (o85 P) (.node (o149 P) .nil .nil) .nil) (.node (subD 23 P) .nil .nil))) (.node (o29G P) (.node (o45 P) (.node (o77 P) (.node (o141 P) .nil .nil) .nil) (.node (subD 15 P) .nil .nil)) (.node (o61 P) (.node (o93 P) (.node (o157 P) .nil .nil) .nil) (.node (subD 31 P) .nil .nil)))))) (.node (o2 P) (.node (o4 P) (.node (o8 P) (.node (o16 P) (.node (o32 P) (.node (o64 P) (.node (subD 34 P) .nil .nil) .nil) (.node (subD 2 P) (.node (o160 P) .nil .nil) .nil)) (.node (o48 P) (.node (o80 P) (.node (o144 P) .nil .nil) .nil) (.node (subD 18 P) .nil .nil))) (.node (o24 P) (.node (o40 P) (.node (o72 P) (.node (o136 P) .nil .nil) .nil) (.node (subD 10 P) .nil .nil)) (.node (o56 P) (.node (o88 P) (.node (o152 P) .nil .nil) .nil) (.node (subD 26 P) .nil .nil)))) (.node (o12 P) (.node (o20 P) (.node (o36 P) (.node (o68 P) (.node (subD 38 P) .nil .nil) .nil) (.node (subD 6 P) .nil .nil)) (.node (o52 P) (.node (o84 P) (.node (o148 P) .nil .nil) .nil) (.node (subD 22 P) .nil .nil))) (.node (o28 P) (.node (o44 P) (.node (o76 P) (.node (o140 P) .nil .nil) .nil) (.node (subD 14 P) .nil .nil)) (.node (o60 P) (.node (o92 P) (.node (o156 P) .nil .nil) .nil) (.node (subD 30 P) .nil .nil))))) (.node (o6 P) (.node (o10 P) (.node (o18 P) (.node (o34 P) (.node (o66 P) (.node (subD 36 P) .nil .nil) .nil) (.node (subD 4 P) .nil .nil)) (.node (o50 P) (.node (o82 P) (.node (o146 P) .nil .nil) .nil) (.node (subD 20 P) .nil .nil))) (.node (o26 P) (.node (o42 P) (.node (o74 P) (.node (o138 P) .nil .nil) .nil) (.node (subD 12 P) .nil .nil)) (.node (o58 P) (.node (o90 P) (.node (o154 P) .nil .nil) .nil) (.node (subD 28 P) .nil .nil)))) (.node (o14 P) (.node (o22 P) (.node (o38 P) (.node (o70 P) (.node (o134 P) .nil .nil) .nil) (.node (subD 8 P) .nil .nil)) (.node (o54 P) (.node (o86 P) (.node (o150 P) .nil .nil) .nil) (.node (subD 24 P) .nil .nil))) (.node (o30 P) (.node (o46 P) (.node (o78 P) (.node (o142 P) .nil .nil) .nil) (.node (subD 16 P) .nil .nil)) (.node (o62 P) (.node (mainD 39 P) (.node (o158 P) .nil .nil) .nil) (.node (subD 32 P) .nil .nil)))))))
noncomputable abbrev SG (w : World) (os : OsState) : SharedT := ⟨tG w.params, 162, {}, #[], {}, 2456, os⟩
noncomputable def tH (P : Params) : BT := (.node (o0 P) (.node (o1 P) (.node (o3G P) (.node (o7 P) (.node (o15 P) (.node (o31 P) (.node (o63 P) (.node (subD 33 P) .nil .nil) .nil) (.node (subD 1 P) (.node (o159 P) .nil .nil) .nil)) (.node (o47 P) (.node (o79 P) (.node (o143 P) .nil .nil) .nil) (.node (subD 17 P) .nil .nil))) (.node (o23 P) (.node (o39 P) (.node (o71 P) (.node (o135 P) .nil .nil) .nil) (.node (subD 9 P) .nil .nil)) (.node (o55 P) (.node (o87 P) (.node (o151 P) .nil .nil) .nil) (.node (subD 25 P) .nil .nil)))) (.node (o110 P) (.node (o19 P) (.node (o35 P) (.node (o67 P) (.node (subD 37 P) .nil .nil) .nil) (.node (subD 5 P) .nil .nil)) (.node (o51 P) (.node (o83 P) (.node (o147 P) .nil .nil) .nil) (.node (subD 21 P) .nil .nil))) (.node (o27 P) (.node (o43 P) (.node (o75 P) (.node (o139 P) .nil .nil) .nil) (.node (subD 13 P) .nil .nil)) (.node (o59 P) (.node (o91 P) (.node (o155 P) .nil .nil) .nil) (.node (subD 29 P) .nil .nil))))) (.node (o5 P) (.node (o9 P) (.node (o17 P) (.node (o33 P) (.node (o65 P) (.node (subD 35 P) .nil .nil) .nil) (.node (subD 3 P) (.node (o161 P) .nil .nil) .nil)) (.node (o49 P) (.node (o81 P) (.node (o145 P) .nil .nil) .nil) (.node (subD 19 P) .nil .nil))) (.node (o25 P) (.node (o41 P) (.node (o73 P) (.node (o137 P) .nil .nil) .nil) (.node (subD 11 P) .nil .nil)) (.node (o57 P) (.node (o89 P) (.node (o153 P) .nil .nil) .nil) (.node (subD 27 P) .nil .nil)))) (.node (o13 P) (.node (o21 P) (.node (o37 P) (.node (o69 P) (.node (o133 P) .nil .nil) .nil) (.node (subD 7 P) .nil .nil)) (.node (o53 P) (.node (o85 P) (.node (o149 P) .nil .nil) .nil) (.node (subD 23 P) .nil .nil))) (.node (o29G P) (.node (o45 P) (.node (o77 P) (.node (o141 P) .nil .nil) .nil) (.node (subD 15 P) .nil .nil)) (.node (o61 P) (.node (o93 P) (.node (o157 P) .nil .nil) .nil) (.node (subD 31 P) .nil .nil)))))) (.node (o2 P) (.node (o4 P) (.node (o8 P) (.node (o16 P) (.node (o32 P) (.node (o64 P) (.node (subD 34 P) .nil .nil) .nil) (.node (subD 2 P) (.node (o160 P) .nil .nil) .nil)) (.node (o48 P) (.node (o80 P) (.node (o144 P) .nil .nil) .nil) (.node (subD 18 P) .nil .nil))) (.node (o24 P) (.node (o40 P) (.node (o72 P) (.node (o136 P) .nil .nil) .nil) (.node (subD 10 P) .nil .nil)) (.node (o56 P) (.node (o88 P) (.node (o152 P) .nil .nil) .nil) (.node (subD 26 P) .nil .nil)))) (.node (o12 P) (.node (o20 P) (.node (o36 P) (.node (o68 P) (.node (subD 38 P) .nil .nil) .nil) (.node (subD 6 P) .nil .nil)) (.node (o52 P) (.node (o84 P) (.node (o148 P) .nil .nil) .nil) (.node (subD 22 P) .nil .nil))) (.node (o28 P) (.node (o44 P) (.node (o76 P) (.node (o140 P) .nil .nil) .nil) (.node (subD 14 P) .nil .nil)) (.node (o60 P) (.node (o92 P) (.node (o156 P) .nil .nil) .nil) (.node (subD 30 P) .nil .nil))))) (.node (o6 P) (.node (o10 P) (.node (o18 P) (.node (o34 P) (.node (o66 P) (.node (subD 36 P) .nil .nil) .nil) (.node (subD 4 P) .nil .nil)) (.node (o50 P) (.node (o82 P) (.node (o146 P) .nil .nil) .nil) (.node (subD 20 P) .nil .nil))) (.node (o26 P) (.node (o42 P) (.node (o74 P) (.node (o138 P) .nil .nil) .nil) (.node (subD 12 P) .nil .nil)) (.node (o58 P) (.node (o90 P) (.node (o154 P) .nil .nil) .nil) (.node (subD 28 P) .nil .nil)))) (.node (o14 P) (.node (o22 P) (.node (o38 P) (.node (o70 P) (.node (o134 P) .nil .nil) .nil) (.node (subD 8 P) .nil .nil)) (.node (o54 P) (.node (o86 P) (.node (o150 P) .nil .nil) .nil) (.node (subD 24 P) .nil .nil))) (.node (o30 P) (.node (o46 P) (.node (o78 P) (.node (o142 P) .nil .nil) .nil) (.node (subD 16 P) .nil .nil)) (.node (o62 P) (.node (mainD 39 P) (.node (o158 P) .nil .nil) .nil) (.node (subD 32 P) .nil .nil)))))))
noncomputable abbrev SH (w : World) (os : OsState) : SharedT := ⟨tH w.params, 162, {}, #[], {}, 2456, os⟩
noncomputable def K (P : Params) : Frag := (nat_lit 2, o2 P) :: (nat_lit 3, o3G P) :: (nat_lit 6, o6 P) :: (nat_lit 11, o110 P) :: (nat_lit 12, o12 P) :: (nat_lit 32, o32 P) :: (nat_lit 33, o33 P) :: (nat_lit 34, o34 P) :: (nat_lit 36, o36 P) :: (nat_lit 37, o37 P) :: (nat_lit 39, o39 P) :: (nat_lit 40, o40 P) :: (nat_lit 41, o41 P) :: (nat_lit 42, o42 P) :: (nat_lit 43, o43 P) :: (nat_lit 45, o45 P) :: (nat_lit 46, o46 P) :: (nat_lit 48, o48 P) :: (nat_lit 49, o49 P) :: (nat_lit 50, o50 P) :: (nat_lit 51, o51 P) :: (nat_lit 52, o52 P) :: (nat_lit 54, o54 P) :: (nat_lit 55, o55 P) :: (nat_lit 57, o57 P) :: (nat_lit 58, o58 P) :: (nat_lit 62, o62 P) :: (nat_lit 63, o63 P) :: (nat_lit 67, o67 P) :: (nat_lit 68, o68 P) :: (nat_lit 69, o69 P) :: (nat_lit 71, o71 P) :: (nat_lit 72, o72 P) :: (nat_lit 74, o74 P) :: (nat_lit 75, o75 P) :: (nat_lit 87, o87 P) :: (nat_lit 89, o89 P) :: (nat_lit 90, o90 P) :: (nat_lit 92, o92 P) :: (nat_lit 93, o93 P) :: (nat_lit 94, mainD 39 P) :: (nat_lit 133, o133 P) :: (nat_lit 135, o135 P) :: (nat_lit 136, o136 P) :: (nat_lit 138, o138 P) :: (nat_lit 139, o139 P) :: (nat_lit 140, o140 P) :: (nat_lit 143, o143 P) :: (nat_lit 144, o144 P) :: (nat_lit 145, o145 P) :: (nat_lit 147, o147 P) :: (nat_lit 148, o148 P) :: (nat_lit 150, o150 P) :: (nat_lit 151, o151 P) :: (nat_lit 152, o152 P) :: (nat_lit 155, o155 P) :: (nat_lit 156, o156 P) :: (nat_lit 157, o157 P) :: (nat_lit 160, o160 P) :: (nat_lit 161, o161 P) :: (nat_lit 83, o83 P) :: []
end
/-! MHead0 -/
section
open PySem PySem.W PySem.Spec PySem.Calls PyProof.Rows
noncomputable abbrev hann : Option Value := some (.ref 6)
noncomputable def henv : Env := { scope := pw.main.scope, locals := mainNs, globals := mainNs, cells := [], code := .ref 30, frame := some 31 }
noncomputable abbrev bod : List Stmt := behindTheImports pw
noncomputable abbrev hcd : Code := .body bod henv
noncomputable abbrev hp0 : Pos := ⟨0, 0, 0, 0⟩
noncomputable abbrev hB : List Frame := [topFrame hp0]
noncomputable def g1 : List Stmt := [stm 1, stm 2, stm 3, stm 4, stm 5, stm 6, stm 7, stm 8, stm 9, stm 10]
noncomputable def g2 : List Stmt := [stm 11]
noncomputable def g3 : List Stmt := [stm 12]
noncomputable def g4 : List Stmt := [stm 13]
noncomputable def g5 : List Stmt := [stm 14, stm 15, stm 16, stm 17, stm 18, stm 19]
end
/-! MHead1 -/
section
open PySem PySem.W PySem.Spec PySem.Calls PyProof.Rows
theorem bod_eq : bod = g1 ++ (g2 ++ (g3 ++ (g4 ++ (g5 ++ [])))) := by kernel_rfl
theorem h_opening : ∀ w : World, importEnds treeTable (opening pw) w 799 (start (opening pw)).1 (start (opening pw)).2 = some ⟨absHeap (tE w.params) 28 {}, #[], {}, 276, (start (opening pw)).1.os⟩ := by intro w; kernel_rfl
theorem h_fence : ∀ w : World, (fun os => (fenceModules? pw ⟨absHeap (tE w.params) 28 {}, #[], {}, 276, os⟩).map (fun s => (s.heap, s.gens, s.drawn, s.toks))) = fun _ => some (absHeap (t0 w.params) 28 {}, #[], {}, 276) := by intro w; kernel_rfl
theorem h_pre (w : World) (os : OsState) : topGo treeTable pw w 28 hann 12 (S0 w os).abs (topStub pw) = some ((SA w os).abs, ⟨denote treeTable hcd, hcd, hp0, hB⟩) := by kernel_rfl
theorem h_block (w : World) (os : OsState) : segRun treeTable pw w 28 hann 1 1 (SA w os).abs (blockOf bod henv hcd hp0 hB) = some (.next, (SA w os).abs, hcd, hp0) := by kernel_rfl
theorem h_g1 (w : World) (os : OsState) : segRunT treeTable pw w 28 hann 1 332 (SA w os) (piecesOf g1 henv hcd hp0 hB) = some (.next, SB w os, hcd, ⟨55, 0, 55, 8⟩) := by kernel_rfl
theorem h_g3 (w : World) (os : OsState) : segRunT treeTable pw w 28 hann 1 30 (SC w os) (piecesOf g3 henv hcd ⟨56, 0, 56, 6⟩ hB) = some (.next, SD w os, hcd, ⟨57, 0, 58, 30⟩) := by kernel_rfl
theorem h_g5 (w : World) (os : OsState) : segRunT treeTable pw w 28 hann 1 154 (SF w os) (piecesOf g5 henv hcd ⟨59, 0, 59, 13⟩ hB) = some (.next, SG w os, hcd, ⟨96, 0, 132, 15⟩) := by kernel_rfl
theorem h_fin (w : World) (os : OsState) : topRun treeTable pw w 28 hann 2 (SG w os).abs ⟨doneF .next, hcd, ⟨96, 0, 132, 15⟩, hB⟩ = some (SG w os).abs := by kernel_rfl
theorem h_twin {w : World} {n : Nat} {S : SharedT} {t : Thread} {r : Option (Flow × SharedT × Code × Pos)} (h : Fast.tw10110043849684766642 Fast.tw14364793385576792824 pw w 28 hann 1 n S t = r) : segRunT treeTable pw w 28 hann 1 n S t = r := by
  rw [Fast.te10110043849684766642, Fast.te14364793385576792824]; exact h
noncomputable abbrev G2 (w : World) (os : OsState) : Prop := Fast.tw10110043849684766642 Fast.tw14364793385576792824 pw w 28 hann 1 999 (SB w os) (piecesOf g2 henv hcd ⟨55, 0, 55, 8⟩ hB) = some (.next, SC w os, hcd, ⟨56, 0, 56, 6⟩)
theorem g2_ff (w : World) (os : OsState) : G2 ((w.withFollow "special-get-raises" false).withFollow "set-order" false) os := by kernel_rfl
theorem g2_tf (w : World) (os : OsState) : G2 ((w.withFollow "special-get-raises" true).withFollow "set-order" false) os := by kernel_rfl
theorem g2_ft (w : World) (os : OsState) : G2 ((w.withFollow "special-get-raises" false).withFollow "set-order" true) os := by kernel_rfl
theorem g2_tt (w : World) (os : OsState) : G2 ((w.withFollow "special-get-raises" true).withFollow "set-order" true) os := by kernel_rfl
theorem h_g2 (w : World) (os : OsState) : segRunT treeTable pw w 28 hann 1 999 (SB w os) (piecesOf g2 henv hcd ⟨55, 0, 55, 8⟩ hB) = some (.next, SC w os, hcd, ⟨56, 0, 56, 6⟩) := h_twin
  (byRow2 "set-order" (P := fun w => G2 w os) (byRow2 "special-get-raises" (P := fun w => G2 (w.withFollow "set-order" false) os) (fun w => g2_ff w os) (fun w => g2_tf w os))
    (byRow2 "special-get-raises" (P := fun w => G2 (w.withFollow "set-order" true) os) (fun w => g2_ft w os) (fun w => g2_tt w os)) w)
end
/-! MDict -/
section
open PySem PySem.W PySem.Spec PySem.Calls PyProof.Rows
noncomputable abbrev PP := PySem.Sem Value × PySem.Sem Value
noncomputable def som (p : PP) : Option (PySem.Sem Value) × PySem.Sem Value := (some p.1, p.2)
noncomputable def mergeD (d sub : Addr) : PySem.Sem Unit :=
  (holding [.ref d, .ref sub] (mergeMapping d (.ref sub) false)).onRaise fun x => do let _ ← holding [.ref d, x] (runValue (.builtin "proto.let_go" {}))
noncomputable def flD (run : List PP) : Option Addr → PySem.Sem (Option Addr)
  | none => do let d ← subDict run; pure (some d)
  | some d => do
    let sub ← holding [.ref d] (subDict run)
    mergeD d sub
    pure (some d)
noncomputable def restD : List (List PP) → Addr → PySem.Sem Value
  | [], d => pure (.ref d)
  | c :: cs, d => do
    let sub ← holding [.ref d] (subDict c)
    mergeD d sub
    restD cs d
noncomputable abbrev DBody := (Option (PySem.Sem Value) × PySem.Sem Value) → (Option Addr × List PP) → PySem.Sem (ForInStep (Option Addr × List PP))
structure DF (f : DBody) : Prop where
  one : ∀ p m run, (run ++ [p]).length ≠ 17 → f (som p) (m, run) = pure (.yield (m, run ++ [p]))
  full : ∀ p m run, (run ++ [p]).length = 17 → f (som p) (m, run) = flD (run ++ [p]) m >>= fun m' => pure (.yield (m', []))
theorem forIn_full {f : DBody} (F : DF f) : ∀ (c run : List PP) (m : Option Addr) (rest : List (Option (PySem.Sem Value) × PySem.Sem Value)), run.length + c.length = 17 → c ≠ [] →
    forIn (c.map som ++ rest) (m, run) f = flD (run ++ c) m >>= fun m' => forIn rest (m', []) f
  | [], _, _, _, _, h => absurd rfl h
  | [p], run, m, rest, h, _ => by
    simp only [List.map_cons, List.map_nil, List.cons_append, List.nil_append, List.forIn_cons]
    rw [F.full p m run (by simpa using h)]
    simp only [bind_assoc, pure_bind]
  | p :: p' :: c, run, m, rest, h, _ => by
    rw [List.map_cons, List.cons_append, List.forIn_cons, F.one p m run (by simp at h ⊢; omega), pure_bind]
    have := forIn_full F (p' :: c) (run ++ [p]) m rest (by simp at h ⊢; omega) (by simp)
    simpa using this
theorem forIn_few {f : DBody} (F : DF f) : ∀ (c run : List PP) (m : Option Addr), run.length + c.length < 17 → forIn (c.map som) (m, run) f = pure (m, run ++ c)
  | [], run, m, _ => by simp
  | p :: c, run, m, h => by
    rw [List.map_cons, List.forIn_cons, F.one p m run (by simp at h ⊢; omega), pure_bind]
    have := forIn_few F c (run ++ [p]) m (by simp at h ⊢; omega)
    simpa using this
noncomputable def finD (r : Option Addr × List PP) : PySem.Sem Value := do
  let o ← if r.2.isEmpty then pure r.1 else flD r.2 r.1
  match o with
  | some d => pure (.ref d)
  | none => newDict
theorem rest_eq {f : DBody} (F : DF f) (last : List PP) (hl : last.length < 17) (hl0 : last ≠ []) (d : Addr) : ∀ cs : List (List PP), (∀ c ∈ cs, c.length = 17) →
    (forIn ((cs.flatten ++ last).map som) (some d, ([] : List PP)) f >>= finD) = restD (cs ++ [last]) d
  | [], _ => by
    rw [List.flatten_nil, List.nil_append, forIn_few F last [] (some d) (by simpa using hl), pure_bind]
    simp [finD, hl0, flD, restD]
  | c :: cs, h => by
    have hc := h c (.head _)
    rw [List.flatten_cons, List.append_assoc, List.map_append, forIn_full F c [] (some d) _ (by simpa using hc) (by intro e; rw [e] at hc; cases hc)]
    have ih := rest_eq F last hl hl0 d cs fun x hx => h x (.tail _ hx)
    rw [List.cons_append]
    unfold restD
    rw [← ih]
    simp [flD]
theorem fin_to {l : List (Option (PySem.Sem Value) × PySem.Sem Value)} {i : Option Addr × List PP} {f : DBody} {g g' : (Option Addr × List PP) → PySem.Sem Value} (h : ∀ r, g r = g' r) : (forIn l i f >>= g) = (forIn l i f >>= g') := by
  rw [funext h]
theorem display_eq (c0 : List PP) (cs : List (List PP)) (last : List PP) (h0 : c0.length = 17) (h : ∀ c ∈ cs, c.length = 17) (hl : last.length < 17) (hl0 : last ≠ []) :
    dictDisplay ((c0 ++ (cs.flatten ++ last)).map som) = subDict c0 >>= fun d => restD (cs ++ [last]) d := by
  have key : ∃ f : DBody, DF f ∧ dictDisplay ((c0 ++ (cs.flatten ++ last)).map som) = (forIn ((c0 ++ (cs.flatten ++ last)).map som) ((none : Option Addr), ([] : List PP)) f >>= finD) := by
    unfold dictDisplay
    dsimp only
    refine' Exists.intro _ (And.intro ?F ?e)
    case e =>
      refine fin_to fun r => ?_
      obtain ⟨m, run⟩ := r
      cases m <;> cases run <;> simp [finD, flD, mergeD]
    case F =>
      refine ⟨fun p m run hn => ?_, fun p m run hn => ?_⟩
      · exact if_neg (by simpa [som] using hn)
      · refine (if_pos (by simpa [som] using hn)).trans ?_
        cases m <;> simp [flD, mergeD, som]
  obtain ⟨f, F, e⟩ := key
  rw [e, List.map_append, forIn_full F c0 [] none _ (by simpa using h0) (by intro e; rw [e] at h0; cases h0)]
  simp only [List.nil_append, flD, bind_assoc, pure_bind]
  exact bind_congr fun d => rest_eq F last hl hl0 d cs h
end
/-! MDict2 -/
section
open PySem PySem.W PySem.Spec PySem.Calls PyProof.Rows
noncomputable def aPos : Stmt → Pos
  | .Assign _ _ p => p
  | _ => default
noncomputable def dPos : Stmt → Pos
  | .Assign _ (.Dict _ _ p) _ => p
  | _ => default
noncomputable def aTg : Stmt → List PySem.Expr
  | .Assign t _ _ => t
  | _ => []
noncomputable def aVal : Stmt → PySem.Expr
  | .Assign _ v _ => v
  | _ => default
noncomputable def b3items : List (Option (PySem.Sem Value) × PySem.Sem Value) := (evalEachOpt (dKeys (stm 13)) henv).zip ((evalEach (dVals (stm 13)) henv).map fun v => do let x ← v; standAt (dPos (stm 13)); pure x)
noncomputable def b3mid (v : Value) : PySem.Sem Flow := do assignStores henv v (← swappedStores (aTg (stm 13)) (aVal (stm 13)) henv) ((assignEach (aTg (stm 13)) henv).map (·.2))
noncomputable def b3end : Flow → PySem.Sem Flow
  | .next => execs [] henv
  | f => pure f
noncomputable def b3post (v : Value) : PySem.Sem Flow := b3mid v >>= b3end
theorem b3_exec0 : execs [stm 13] henv = Sem.at (aPos (stm 13)) fun _ => Sem.at (dPos (stm 13)) fun _ => ((dictDisplay b3items).bind b3mid).bind b3end := by kernel_rfl
theorem at_assoc {α β γ : Type} (p q : Pos) (t : PySem.Sem α) (f : α → PySem.Sem β) (g : β → PySem.Sem γ) {x : PySem.Sem γ} (h : x = Sem.at p fun _ => Sem.at q fun _ => (t.bind f).bind g) :
    x = Sem.at p fun _ => Sem.at q fun _ => (t >>= fun a => f a >>= g) := by
  have e : (t.bind f).bind g = (t >>= fun a => f a >>= g) := bind_assoc t f g
  rw [h, e]
theorem b3_exec : execs [stm 13] henv = Sem.at (aPos (stm 13)) fun _ => Sem.at (dPos (stm 13)) fun _ => (dictDisplay b3items >>= b3post) :=
  at_assoc (aPos (stm 13)) (dPos (stm 13)) (dictDisplay b3items) b3mid b3end b3_exec0
noncomputable def pairOf (k : Option PySem.Expr) (v : PySem.Expr) : PP := (match k with | some e => eval e henv | none => .pure .none, do let x ← eval v henv; standAt (dPos (stm 13)); pure x)
theorem items_eq (g : PySem.Sem Value → PySem.Sem Value) : ∀ (ks : List (Option PySem.Expr)) (vs : List PySem.Expr), ks.all Option.isSome = true →
    (evalEachOpt ks henv).zip ((evalEach vs henv).map g) = (List.zipWith (fun (k : Option PySem.Expr) (v : PySem.Expr) => ((match k with | some e => eval e henv | none => .pure .none, g (eval v henv)) : PP)) ks vs).map som
  | [], _, _ => by simp [evalEachOpt]
  | k :: ks, [], _ => by simp [evalEach]
  | none :: ks, v :: vs, h => by simp at h
  | some k :: ks, v :: vs, h => by
    have ih := items_eq g ks vs (by simpa using h)
    simp only [evalEachOpt, evalEach, List.map_cons, List.zip_cons_cons, List.zipWith_cons_cons, ih, evalOpt, som]
noncomputable def b3prs : List PP := List.zipWith pairOf (dKeys (stm 13)) (dVals (stm 13))
theorem b3items_eq : b3items = b3prs.map som := items_eq _ _ _ (by decide +kernel)
noncomputable def chunk (j : Nat) : List PP := (b3prs.drop (17 * j)).take 17
end
/-! MDict3 -/
section
open PySem PySem.W PySem.Spec PySem.Calls PyProof.Rows
noncomputable def trA : Nat → Params → BT
  | 0, P => tD P
  | j + 1, P => match Nat.beq j 0 with
    | true => (tD P).ins 94 (mainD 1 P)
    | false => ((trA j P).ins (94 + j) (subD j P)).set 94 (fun _ => mainD (j + 1) P)
noncomputable def trB (j : Nat) (P : Params) : BT := (trA j P).ins (94 + j) (subD j P)
noncomputable def tkA (j : Nat) : Nat := match Nat.blt j 39 with
  | true => 463 + 51 * j
  | false => 2413
noncomputable abbrev stA (j : Nat) (w : World) (os : OsState) : SharedT := ⟨trA j w.params, 94 + j, {}, #[], {}, tkA j, os⟩
noncomputable abbrev stB (j : Nat) (w : World) (os : OsState) : SharedT := ⟨trB j w.params, 95 + j, {}, #[], {}, tkA (j + 1), os⟩
noncomputable abbrev thR (c : List PP) (cs : List (List PP)) : Thread := ⟨(restD (c :: cs) 94 >>= b3post).wrap doneF deadEnd id id, hcd, dPos (stm 13), hB⟩
noncomputable abbrev thM (sub : Addr) (cs : List (List PP)) : Thread := ⟨((mergeD 94 sub >>= fun _ => restD cs 94) >>= b3post).wrap doneF deadEnd id id, hcd, dPos (stm 13), hB⟩
end
/-! MGo -/
section
open PySem PySem.W PySem.Spec PySem.Calls PyProof.Rows
/-- the tree runs to its answer in at most N steps, whatever goes on behind it -/
noncomputable def Go (w : World) (N : Nat) {α : Type} (t : PySem.Sem α) (p : Pos) (s : Shared) (a : α) (p' : Pos) (s' : Shared) : Prop :=
  ∃ n, n ≤ N ∧ ∀ (K : α → PySem.Sem PySem.Fin) (H : Value → PySem.Sem PySem.Fin) (gd : Bool → Bool) (lv : List Value → List Value),
    segGo treeTable pw w 28 hann 1 n s ⟨t.wrap K H gd lv, hcd, p, hB⟩ = some (s', ⟨K a, hcd, p', hB⟩)
section
variable {w : World} {N M : Nat} {α β : Type} {p p' p'' : Pos} {s s' s'' : Shared} {a : α} {b : β}
theorem segGo_add : ∀ (n m : Nat) (s s' : Shared) (t t' : Thread) (r : Option (Shared × Thread)), segGo treeTable pw w 28 hann 1 n s t = some (s', t') → segGo treeTable pw w 28 hann 1 m s' t' = r → segGo treeTable pw w 28 hann 1 (n + m) s t = r
  | 0, m, s, s', t, t', r, h, k => by
    obtain ⟨rfl, rfl⟩ : s = s' ∧ t = t' := by simpa [segGo] using h
    rw [Nat.zero_add]; exact k
  | n + 1, m, s, s', t, t', r, h, k => by
    rw [show n + 1 + m = n + m + 1 by omega]
    unfold segGo at h ⊢
    cases he : endAt 1 t with
    | some x => rw [he] at h; cases h
    | none =>
      rw [he] at h
      cases hk : stepOk 28 hann t with
      | false => rw [hk] at h; cases h
      | true =>
        rw [hk] at h
        cases hs : step (denote treeTable) pw w s t with
        | halt o s' => rw [hs] at h; cases h
        | go s₂ t₂ => rw [hs] at h; exact segGo_add n m s₂ s' t₂ t' r h k
theorem go_le (h : Go w N (α := α) (t := t) p s a p' s') (hN : N ≤ M) : Go w M t p s a p' s' := let ⟨n, hn, h⟩ := h; ⟨n, Nat.le_trans hn hN, h⟩
theorem go_pure : Go w 0 (Pure.pure a : PySem.Sem α) p s a p s := ⟨0, Nat.le_refl _, fun _ _ _ _ => rfl⟩
theorem go_bind {t : PySem.Sem α} {f : α → PySem.Sem β} (h : Go w N t p s a p' s') (k : Go w M (f a) p' s' b p'' s'') : Go w (N + M) (t >>= f) p s b p'' s'' := by
  obtain ⟨n, hn, h⟩ := h
  obtain ⟨m, hm, k⟩ := k
  refine ⟨n + m, by omega, fun K H gd lv => ?_⟩
  rw [PySem.Sem.bind_eq_wrap', PySem.Sem.wrap_wrap]
  exact segGo_add n m _ _ _ _ _ (h (fun a => (f a).wrap K H gd lv) _ _ _) (k K H gd lv)
theorem go_keep {vs : List Value} {t : PySem.Sem α} (h : Go w N t p s a p' s') : Go w N (t.keep vs) p s a p' s' := by
  obtain ⟨n, hn, h⟩ := h
  refine ⟨n, hn, fun K H gd lv => ?_⟩
  rw [PySem.Sem.keep_eq_wrap, PySem.Sem.wrap_wrap]
  exact h K _ _ _
theorem go_hold {vs : List Value} {t : PySem.Sem α} (h : Go w N t p s a p' s') : Go w N (holding vs t) p s a p' s' := by
  unfold holding
  split
  · exact h
  · exact go_keep h
theorem go_onRaise {t : PySem.Sem α} {k : Value → PySem.Sem Unit} (h : Go w N t p s a p' s') : Go w N (t.onRaise k) p s a p' s' := by
  obtain ⟨n, hn, h⟩ := h
  refine ⟨n, hn, fun K H gd lv => ?_⟩
  rw [PySem.Sem.onRaise_eq_wrap, PySem.Sem.wrap_wrap]
  exact h K _ _ _
theorem go_one {t : PySem.Sem α} (h : ∀ K H gd lv, endAt 1 ⟨t.wrap K H gd lv, hcd, p, hB⟩ = none ∧ stepOk 28 hann ⟨t.wrap K H gd lv, hcd, p, hB⟩ = true ∧ step (denote treeTable) pw w s ⟨t.wrap K H gd lv, hcd, p, hB⟩ = .go s' ⟨K a, hcd, p', hB⟩) : Go w 1 t p s a p' s' :=
  ⟨1, Nat.le_refl _, fun K H gd lv => by
    obtain ⟨h1, h2, h3⟩ := h K H gd lv
    unfold segGo
    rw [h1, h2, h3]
    rfl⟩
theorem go_standAt {q : Pos} : Go w 1 (PySem.standAt q) p s () q s := go_one fun _ _ _ _ => ⟨rfl, rfl, rfl⟩
theorem go_rule {tag : String} : Go w 1 (PySem.rule tag) p s () p s := go_one fun _ _ _ _ => ⟨rfl, rfl, rfl⟩
theorem go_point : Go w 1 PySem.point p s () p s := go_one fun _ _ _ _ => ⟨rfl, rfl, rfl⟩
theorem go_fresh : Go w 1 PySem.fresh p s s.toks p { s with toks := s.toks + 1 } := go_one fun _ _ _ _ => ⟨rfl, rfl, rfl⟩
theorem go_ask : Go w 1 PySem.ask p s ⟨pw, w.params⟩ p s := go_one fun _ _ _ _ => ⟨rfl, rfl, rfl⟩
theorem go_alloc {o : Obj} : Go w 1 (PySem.alloc o) p s s.heap.objs.size p { s with heap := s.heap.push o } := go_one fun _ _ _ _ => ⟨rfl, rfl, rfl⟩
theorem go_loadPart {x : Addr} {part : Option Value} {o : Obj} (h : s.heap.get? x = some o) : Go w 1 (PySem.loadPart x part) p s o p s := go_one fun K H gd lv => ⟨rfl, rfl, by
  show step (denote treeTable) pw w s ⟨.load x part fun y => (Sem.pure y).wrap K H gd lv, hcd, p, hB⟩ = _
  obtain ⟨heap, gens, drawn, toks, os⟩ := s
  unfold step
  dsimp only at h ⊢
  rw [h]
  rfl⟩
theorem go_load {x : Addr} {o : Obj} (h : s.heap.get? x = some o) : Go w 1 (PySem.load x) p s o p s := go_loadPart h
theorem go_updatePart {x : Addr} {part : Option Value} {f : Obj → Obj} {o : Obj} (h : s.heap.get? x = some o) (hx : 28 ≤ x) : Go w 1 (PySem.updatePart x part f) p s () p { s with heap := s.heap.update x f } := go_one fun K H gd lv => ⟨rfl, by
  show stepOk 28 hann ⟨.update x part f fun y => (Sem.pure y).wrap K H gd lv, hcd, p, hB⟩ = true
  unfold stepOk
  have : Nat.ble 28 x = true := Nat.ble_eq_true_of_le hx
  dsimp only
  rw [this]
  rfl, by
  show step (denote treeTable) pw w s ⟨.update x part f fun y => (Sem.pure y).wrap K H gd lv, hcd, p, hB⟩ = _
  obtain ⟨heap, gens, drawn, toks, os⟩ := s
  unfold step
  dsimp only at h ⊢
  rw [h]
  rfl⟩
theorem go_eq {t t' : PySem.Sem α} (e : t = t') (h : Go w N t' p s a p' s') : Go w N t p s a p' s' := e ▸ h
end
theorem hash_run (w : World) (heap : Heap) (gens : Array GenState) (drawn : Drawn) (tk : Nat) (os : OsState) (p : Pos) (k : Int) (u : Tok) (b : Bool)
    (K : Int → PySem.Sem PySem.Fin) (H : Value → PySem.Sem PySem.Fin) (gd : Bool → Bool) (lv : List Value → List Value) :
    segGo treeTable pw (w.withFollow "special-get-raises" b) 28 hann 1 5 ⟨heap, gens, drawn, tk, os⟩ ⟨(pyHash (.int k u)).wrap K H gd lv, hcd, p, hB⟩ =
      some (⟨heap, gens, drawn, tk + 1, os⟩, ⟨(pyHashByItsType.reduced (rawHash k)).wrap K H gd lv, hcd, p, hB⟩) := by cases b <;> kernel_rfl
end
/-! MGo2 -/
section
open PySem PySem.W PySem.Spec PySem.Calls PyProof.Rows
theorem reduced_small {k : Int} (h0 : 0 ≤ k) (h1 : k < 2 ^ 31) : pyHashByItsType.reduced (rawHash k) = pure k := by
  have ne1 : (k == -1) = false := by
    cases h : k == -1 with
    | false => rfl
    | true => have := eq_of_beq h; omega
  have e : rawHash k = k := by
    unfold rawHash
    dsimp only
    have hlt : ¬ k < 0 := by omega
    have : ((k.natAbs : Int) % ((2 ^ 61 - 1 : Nat) : Int)) = k := by
      rw [Int.natAbs_of_nonneg h0]; exact Int.emod_eq_of_lt h0 (Int.lt_of_lt_of_le h1 (by decide))
    rw [if_neg hlt, this, ne1]; rfl
  rw [e]
  unfold pyHashByItsType.reduced
  rw [ne1, if_pos (by simp only [Bool.and_eq_true, decide_eq_true_eq]; omega)]; rfl
section
variable {w : World} {p : Pos} {s : Shared} {d : Addr} {k : Int} {u : Tok} {v : Value}
theorem go_hash (h0 : 0 ≤ k) (h1 : k < 2 ^ 31) : Go w 5 (pyHash (.int k u)) p s k p { s with toks := s.toks + 1 } := ⟨5, Nat.le_refl _, fun K H gd lv => by
  have e := hash_run w s.heap s.gens s.drawn s.toks s.os p k u (w.params.followText "special-get-raises") K H gd lv
  rw [World.withFollow_self, reduced_small h0 h1] at e
  exact e⟩
theorem go_entries {part : Option Value} {o : Obj} {es : Array DictEntry} {n : Nat} (h : s.heap.get? d = some o) (hd : o.data = .dict es n) : Go w 1 (dictEntries d part) p s es p s := by
  unfold dictEntries
  refine (go_bind (M := 0) (go_loadPart h) ?_)
  rw [hd]; exact go_pure
theorem go_epoch {part : Option Value} {o : Obj} {es : Array DictEntry} {n : Nat} (h : s.heap.get? d = some o) (hd : o.data = .dict es n) : Go w 1 (dictEpoch d part) p s n p s := by
  unfold dictEpoch
  refine (go_bind (M := 0) (go_loadPart h) ?_)
  rw [hd]; exact go_pure
theorem places_nil {es : Array DictEntry} (hn : ∀ e ∈ es, e.hash ≠ k) : placesWithHash es.size (fun i => es[i]?.map (·.hash)) k = [] := by
  unfold placesWithHash
  rw [List.filter_eq_nil_iff]
  intro i _ h
  have h' : es[i]?.map (·.hash) = some k := by simpa using h
  obtain ⟨e, he, hk⟩ := Option.map_eq_some_iff.mp h'
  exact hn e (Array.mem_of_getElem? he) hk
theorem go_find {o : Obj} {es : Array DictEntry} {n : Nat} (h : s.heap.get? d = some o) (hd : o.data = .dict es n) (hn : ∀ e ∈ es, e.hash ≠ k) : Go w 1 (dictFind d (.int k u) k) p s none p s := by
  unfold dictFind
  refine go_hold ?_
  refine go_bind (M := 0) (go_entries h hd) ?_
  dsimp only
  rw [places_nil hn]
  refine go_eq ?_ go_pure
  rfl
end
noncomputable def hput (h : Heap) (d : Addr) (o : Obj) : Heap := h.update d fun _ => o
theorem upd_hput {h : Heap} {d : Addr} {f : Obj → Obj} {o : Obj} (e : h.get? d = some o) : h.update d f = hput h d (f o) := by
  obtain ⟨objs, life⟩ := h
  have : objs[d]? = some o := by
    unfold Heap.get? at e
    dsimp only at e
    split at e
    · cases e
    · exact e
  show Heap.mk (objs.modify d f) life = Heap.mk (objs.modify d fun _ => f o) life
  congr 1
  apply Array.ext_getElem?
  intro i
  rw [Array.getElem?_modify, Array.getElem?_modify]
  by_cases hi : d = i
  · subst hi; rw [if_pos rfl, if_pos rfl, this]; rfl
  · rw [if_neg hi, if_neg hi]
theorem hput_put {h : Heap} {d : Addr} {a b : Obj} : hput (hput h d a) d b = hput h d b := by
  obtain ⟨objs, life⟩ := h
  unfold hput Heap.update
  dsimp only
  congr 1
  apply Array.ext_getElem?
  intro i
  simp only [Array.getElem?_modify]
  by_cases hi : d = i
  · simp only [if_pos hi, Option.map_map]; rfl
  · simp only [if_neg hi]
theorem hput_get {h : Heap} {d : Addr} {a o : Obj} (e : h.get? d = some o) (hf : a.isFreed = false) : (hput h d a).get? d = some a := Heap.get?_update_self (fun _ => a) e hf
theorem hput_ne {h : Heap} {d b : Addr} {a : Obj} (hb : b ≠ d) : (hput h d a).get? b = h.get? b := Heap.get?_update_ne _ _ _ _ hb
theorem hput_push {h : Heap} {a o : Obj} : hput (h.push o) h.objs.size a = h.push a := by
  obtain ⟨objs, life⟩ := h
  unfold hput Heap.update Heap.push
  dsimp only
  congr 1
  apply Array.ext_getElem?
  intro i
  rw [Array.getElem?_modify, Array.getElem?_push, Array.getElem?_push]
  by_cases hi : i = objs.size
  · subst hi; simp
  · rw [if_neg (Ne.symm hi), if_neg hi, if_neg hi]
/-- a plain dict object: its entries, its epoch -/
noncomputable def dO (es : List DictEntry) (n : Nat) : Obj := ⟨.type "dict", none, .dict es.toArray n, #[]⟩
theorem dO_push {es : List DictEntry} {n : Nat} {e : DictEntry} : Obj.mapDictKeys (·.push e) (dO es n) = dO (es ++ [e]) (n + 1) := by
  simp [Obj.mapDictKeys, dO]
theorem go_updKeys {s : Shared} {w : World} {p : Pos} {d : Addr} {es : List DictEntry} {n : Nat} {e : DictEntry} {part : Option Value} (h : s.heap.get? d = some (dO es n)) (hd : 28 ≤ d) (hs : es.length < 1000) :
    Go w 3 (updateDictKeys d (·.push e) part) p s () p { s with heap := hput s.heap d (dO (es ++ [e]) (n + 1)) } := by
  unfold updateDictKeys
  refine go_bind (M := 2) (go_loadPart h) ?_
  refine go_bind (M := 1) (N := 1) (go_updatePart h hd) ?_
  rw [upd_hput h, dO_push]
  unfold lookBehind
  refine go_bind (M := 0) (N := 1) (go_loadPart (hput_get h rfl)) ?_
  have : (dO (es ++ [e]) (n + 1)).data.pastItsLine = none := by
    simp only [dO, Data.pastItsLine]
    rw [if_neg]
    simp [sizeLine]; omega
  rw [this]
  exact go_pure
section
variable {w : World} {p : Pos} {s : Shared} {d : Addr} {k : Int} {u : Tok} {v : Value} {es : List DictEntry} {n : Nat}
theorem go_setHashed (h : s.heap.get? d = some (dO es n)) (hd : 28 ≤ d) (hs : es.length < 1000) (hn : ∀ e ∈ es, e.hash ≠ k) :
    Go w 5 (dictSetHashed d (.int k u) k v) p s () p { s with heap := hput s.heap d (dO (es ++ [⟨k, .int k u, v⟩]) (n + 1)) } := by
  unfold dictSetHashed
  refine go_hold ?_
  refine go_bind (N := 1) (M := 4) (go_find h rfl (by simpa using hn)) ?_
  refine go_bind (N := 1) (M := 3) go_rule ?_
  exact go_updKeys h hd hs
theorem go_put (h : s.heap.get? d = some (dO es n)) (hd : 28 ≤ d) (hs : es.length < 1000) (hn : ∀ e ∈ es, e.hash ≠ k) :
    Go w 4 (dictPut d k (.int k u) v) p s () p { s with heap := hput s.heap d (dO (es ++ [⟨k, .int k u, v⟩]) (n + 1)) } := by
  unfold dictPut
  refine go_bind (N := 1) (M := 3) (go_find h rfl (by simpa using hn)) ?_
  exact go_updKeys h hd hs
theorem go_set (h : s.heap.get? d = some (dO es n)) (hd : 28 ≤ d) (hs : es.length < 1000) (hn : ∀ e ∈ es, e.hash ≠ k) (h0 : 0 ≤ k) (h1 : k < 2 ^ 31) :
    Go w 10 (dictSet d (.int k u) v) p s () p { s with heap := hput s.heap d (dO (es ++ [⟨k, .int k u, v⟩]) (n + 1)), toks := s.toks + 1 } := by
  unfold dictSet
  refine go_hold ?_
  refine go_bind (N := 5) (M := 5) (go_hash h0 h1) ?_
  exact go_setHashed (s := { s with toks := s.toks + 1 }) h hd hs hn
end
end
/-! MGo3 -/
section
open PySem PySem.W PySem.Spec PySem.Calls PyProof.Rows
noncomputable abbrev dp : Pos := dPos (stm 13)
noncomputable def prOf (x : Int × Str) : PP := (constValue henv (.int x.1), do let v ← constValue henv (.str x.2); standAt dp; pure v)
noncomputable def keysOk (l : List (Int × Str)) : Prop := ∀ x ∈ l, 0 ≤ x.1 ∧ x.1 < 2 ^ 31
theorem hput_self {h : Heap} {d : Addr} {o : Obj} (e : h.get? d = some o) : hput h d o = h := by
  have := upd_hput (f := id) e
  show hput h d (id o) = h
  rw [← this]
  obtain ⟨objs, life⟩ := h
  show Heap.mk (objs.modify d id) life = _
  congr 1
  apply Array.ext_getElem?
  intro i
  rw [Array.getElem?_modify]
  by_cases hi : d = i
  · rw [if_pos hi]; simp
  · rw [if_neg hi]
theorem get_lt {h : Heap} {d : Addr} {o : Obj} (e : h.get? d = some o) : d < h.objs.size := Heap.lt_size e
section
variable {w : World} {p : Pos} {s : Shared} {d a : Addr} {es : List DictEntry} {n : Nat}
theorem go_cInt {i : Int} : Go w 1 (constValue henv (.int i)) p s (.int i s.toks) p { s with toks := s.toks + 1 } := by
  unfold constValue
  refine go_bind (M := 0) go_fresh ?_
  exact go_pure
theorem go_cStr {x : Str} : Go w 1 (constValue henv (.str x)) p s (.str x s.toks) p { s with toks := s.toks + 1 } := by
  unfold constValue
  refine go_bind (M := 0) go_fresh ?_
  exact go_pure
theorem go_val {x : Int × Str} : Go w 2 (prOf x).2 p s (.str x.2 s.toks) dp { s with toks := s.toks + 1 } := by
  refine go_bind (N := 1) (M := 1) go_cStr ?_
  refine go_bind (N := 1) (M := 0) go_standAt ?_
  exact go_pure
theorem entsA_len : ∀ (t : Nat) (l : List (Int × Str)), (entsA t l).length = l.length
  | _, [] => rfl
  | t, (k, v) :: r => by simp [entsA, entsA_len (t + 3) r]
theorem entsB_len : ∀ (t : Nat) (l : List (Int × Str)), (entsB t l).length = l.length
  | _, [] => rfl
  | t, (k, v) :: r => by simp [entsB, entsB_len (t + 2) r]
theorem go_loopA : ∀ (l : List (Int × Str)) (es : List DictEntry) (n : Nat) (s : Shared), s.heap.get? d = some (dO es n) → 28 ≤ d → keysOk l → (es.map (·.hash) ++ l.map (·.1)).Nodup → es.length + l.length < 1000 →
    Go w (13 * l.length) (forIn (l.map prOf) PUnit.unit fun (x : PP) (_ : PUnit) => (do
        let kv ← x.1
        let vv ← holding [kv] x.2
        holding [kv, vv] (dictSet d kv vv)
        pure (ForInStep.yield PUnit.unit) : PySem.Sem (ForInStep PUnit))) dp s PUnit.unit dp { s with heap := hput s.heap d (dO (es ++ entsA s.toks l) (n + l.length)), toks := s.toks + 3 * l.length }
  | [], es, n, s, h, hd, hk, hn, hs => by
    simp only [List.map_nil, entsA, List.append_nil, List.length_nil, Nat.add_zero, Nat.mul_zero, hput_self h]
    exact go_pure
  | (k, x) :: l, es, n, s, h, hd, hk, hn, hs => by
    have hk0 := hk (k, x) (.head _)
    have hne : ∀ e ∈ es, e.hash ≠ k := fun e he q => by
      have := (List.nodup_append.mp hn).2.2 e.hash (List.mem_map_of_mem he) k (by simp)
      exact this q
    rw [List.map_cons, List.forIn_cons]
    have e : 13 * ((k, x) :: l).length = (1 + (2 + (10 + 0))) + 13 * l.length := by rw [List.length_cons]; omega
    rw [e]
    have ih := go_loopA l (es ++ [⟨k, .int k s.toks, .str x (s.toks + 1)⟩]) (n + 1) { s with heap := hput s.heap d (dO (es ++ [⟨k, .int k s.toks, .str x (s.toks + 1)⟩]) (n + 1)), toks := s.toks + 3 }
      (hput_get h rfl) hd (fun y hy => hk y (.tail _ hy)) (by simpa [List.map_append] using hn) (by simp at hs ⊢; omega)
    refine go_bind (a := ForInStep.yield PUnit.unit) (s' := { s with heap := hput s.heap d (dO (es ++ [⟨k, .int k s.toks, .str x (s.toks + 1)⟩]) (n + 1)), toks := s.toks + 3 }) (p' := dp) ?_ ?_
    · refine go_bind go_cInt ?_
      refine go_bind (go_hold go_val) ?_
      refine go_bind (go_hold (go_set (s := { s with toks := s.toks + 1 + 1 }) h hd (by simp at hs; omega) hne hk0.1 hk0.2)) ?_
      exact go_pure
    · have q : ({ s with heap := hput s.heap d (dO (es ++ entsA s.toks ((k, x) :: l)) (n + ((k, x) :: l).length)), toks := s.toks + 3 * ((k, x) :: l).length } : Shared) =
          { s with heap := hput (hput s.heap d (dO (es ++ [⟨k, .int k s.toks, .str x (s.toks + 1)⟩]) (n + 1))) d (dO ((es ++ [⟨k, .int k s.toks, .str x (s.toks + 1)⟩]) ++ entsA (s.toks + 3) l) (n + 1 + l.length)), toks := s.toks + 3 + 3 * l.length } := by
        rw [hput_put]
        simp only [entsA, List.append_assoc, List.cons_append, List.nil_append, List.length_cons]
        rw [show n + (l.length + 1) = n + 1 + l.length by omega, show s.toks + 3 * (l.length + 1) = s.toks + 3 + 3 * l.length by omega]
      rw [q]
      exact ih
theorem go_subA {l : List (Int × Str)} (hl : l.length = 17) (hb : 28 ≤ s.heap.objs.size) (hk : keysOk l) (hn : (l.map (·.1)).Nodup) :
    Go w 223 (subDict (l.map prOf)) dp s s.heap.objs.size dp { s with heap := s.heap.push (dO (entsA s.toks l) 17), toks := s.toks + 51 } := by
  unfold subDict
  refine go_bind (N := 1) (M := 222) go_alloc ?_
  refine go_bind (N := 222) (M := 0) (a := ()) (go_hold ?_) go_pure
  rw [if_neg (by simp [hl])]
  refine go_bind (N := 1) (M := 221) go_rule ?_
  have h0 : (s.heap.push (dO [] 0)).get? s.heap.objs.size = some (dO [] 0) := Heap.get?_push_size _ rfl
  have L := go_loopA (w := w) l [] 0 { s with heap := s.heap.push (dO [] 0) } h0 hb hk (by simpa using hn) (by simp [hl])
  rw [hput_push, hl] at L
  refine go_bind (N := 221) (M := 0) L go_pure
end
end
/-! MGo4 -/
section
open PySem PySem.W PySem.Spec PySem.Calls PyProof.Rows
noncomputable def vsB : Nat → List (Int × Str) → List (Value × Value)
  | _, [] => []
  | t, (k, v) :: r => (.int k t, .str v (t + 1)) :: vsB (t + 2) r
section
variable {w : World} {p : Pos} {s : Shared} {d a : Addr}
theorem go_evalPairs : ∀ (l : List (Int × Str)) (s : Shared), Go w (3 * l.length) (evalPairs (l.map prOf)) dp s (vsB s.toks l) dp { s with toks := s.toks + 2 * l.length }
  | [], s => go_pure
  | (k, x) :: l, s => by
    rw [List.map_cons]
    unfold evalPairs
    have e : 3 * ((k, x) :: l).length = 1 + (2 + (3 * l.length + 0)) := by rw [List.length_cons]; omega
    rw [e]
    refine go_bind go_cInt ?_
    refine go_bind (go_hold go_val) ?_
    refine go_bind (go_hold (go_evalPairs l { s with toks := s.toks + 1 + 1 })) ?_
    have q : ({ s with toks := s.toks + 2 * ((k, x) :: l).length } : Shared) = { s with toks := s.toks + 1 + 1 + 2 * l.length } := by
      rw [List.length_cons, show s.toks + 2 * (l.length + 1) = s.toks + 1 + 1 + 2 * l.length by omega]
    rw [q]
    exact go_pure
theorem go_loopB : ∀ (l : List (Int × Str)) (t : Nat) (es : List DictEntry) (n : Nat) (s : Shared), s.heap.get? d = some (dO es n) → 28 ≤ d → keysOk l → (es.map (·.hash) ++ l.map (·.1)).Nodup → es.length + l.length < 1000 →
    Go w (10 * l.length) (forIn (vsB t l) PUnit.unit fun (x : Value × Value) (_ : PUnit) => (do
        dictSet d x.1 x.2
        pure (ForInStep.yield PUnit.unit) : PySem.Sem (ForInStep PUnit))) dp s PUnit.unit dp { s with heap := hput s.heap d (dO (es ++ entsB t l) (n + l.length)), toks := s.toks + l.length }
  | [], t, es, n, s, h, hd, hk, hn, hs => by
    simp only [vsB, entsB, List.append_nil, List.length_nil, Nat.add_zero, Nat.mul_zero, hput_self h]
    exact go_pure
  | (k, x) :: l, t, es, n, s, h, hd, hk, hn, hs => by
    have hk0 := hk (k, x) (.head _)
    have hne : ∀ e ∈ es, e.hash ≠ k := fun e he q => by
      have := (List.nodup_append.mp hn).2.2 e.hash (List.mem_map_of_mem he) k (by simp)
      exact this q
    unfold vsB
    rw [List.forIn_cons]
    have e : 10 * ((k, x) :: l).length = (10 + 0) + 10 * l.length := by rw [List.length_cons]; omega
    rw [e]
    have ih := go_loopB l (t + 2) (es ++ [⟨k, .int k t, .str x (t + 1)⟩]) (n + 1) { s with heap := hput s.heap d (dO (es ++ [⟨k, .int k t, .str x (t + 1)⟩]) (n + 1)), toks := s.toks + 1 }
      (hput_get h rfl) hd (fun y hy => hk y (.tail _ hy)) (by simpa [List.map_append] using hn) (by simp at hs ⊢; omega)
    refine go_bind (a := ForInStep.yield PUnit.unit) (s' := { s with heap := hput s.heap d (dO (es ++ [⟨k, .int k t, .str x (t + 1)⟩]) (n + 1)), toks := s.toks + 1 }) (p' := dp) ?_ ?_
    · refine go_bind (go_set h hd (by simp at hs; omega) hne hk0.1 hk0.2) ?_
      exact go_pure
    · have q : ({ s with heap := hput s.heap d (dO (es ++ entsB t ((k, x) :: l)) (n + ((k, x) :: l).length)), toks := s.toks + ((k, x) :: l).length } : Shared) =
          { s with heap := hput (hput s.heap d (dO (es ++ [⟨k, .int k t, .str x (t + 1)⟩]) (n + 1))) d (dO ((es ++ [⟨k, .int k t, .str x (t + 1)⟩]) ++ entsB (t + 2) l) (n + 1 + l.length)), toks := s.toks + 1 + l.length } := by
        rw [hput_put]
        simp only [entsB, List.append_assoc, List.cons_append, List.nil_append, List.length_cons]
        rw [show n + (l.length + 1) = n + 1 + l.length by omega, show s.toks + (l.length + 1) = s.toks + 1 + l.length by omega]
      rw [q]
      exact ih
theorem go_subB {l : List (Int × Str)} (hl : l.length ≤ 15) (hb : 28 ≤ s.heap.objs.size) (hk : keysOk l) (hn : (l.map (·.1)).Nodup) :
    Go w 223 (subDict (l.map prOf)) dp s s.heap.objs.size dp { s with heap := s.heap.push (dO (entsB s.toks l) l.length), toks := s.toks + 3 * l.length } := by
  unfold subDict
  refine go_bind (N := 1) (M := 222) go_alloc ?_
  refine go_bind (N := 222) (M := 0) (a := ()) (go_hold ?_) go_pure
  rw [if_pos (by simpa using hl)]
  have h0 : (s.heap.push (dO [] 0)).get? s.heap.objs.size = some (dO [] 0) := Heap.get?_push_size _ rfl
  have E := go_evalPairs (w := w) l { s with heap := s.heap.push (dO [] 0) }
  have L := go_loopB (w := w) l s.toks [] 0 { s with heap := s.heap.push (dO [] 0), toks := s.toks + 2 * l.length } h0 hb hk (by simpa using hn) (by simp; omega)
  rw [hput_push] at L
  simp only [List.nil_append, Nat.zero_add] at L
  rw [show s.toks + 2 * l.length + l.length = s.toks + 3 * l.length by omega] at L
  refine go_le (N := 3 * l.length + (10 * l.length + 0)) ?_ (by omega)
  refine go_bind (a := vsB s.toks l) E ?_
  exact go_hold (go_bind (a := PUnit.unit) L go_pure)
noncomputable def EntOk (e : DictEntry) : Prop := ∃ k u v, e = ⟨k, .int k u, v⟩
theorem entsA_ok : ∀ (t : Nat) (l : List (Int × Str)), ∀ e ∈ entsA t l, EntOk e
  | _, [], e, h => nomatch h
  | t, (k, v) :: r, e, h => by
    unfold entsA at h
    rcases List.mem_cons.mp h with rfl | h
    · exact ⟨k, t, _, rfl⟩
    · exact entsA_ok _ r e h
theorem entsB_ok : ∀ (t : Nat) (l : List (Int × Str)), ∀ e ∈ entsB t l, EntOk e
  | _, [], e, h => nomatch h
  | t, (k, v) :: r, e, h => by
    unfold entsB at h
    rcases List.mem_cons.mp h with rfl | h
    · exact ⟨k, t, _, rfl⟩
    · exact entsB_ok _ r e h
theorem entsA_keys : ∀ (t : Nat) (l : List (Int × Str)), (entsA t l).map (·.hash) = l.map (·.1)
  | _, [] => rfl
  | t, (k, v) :: r => by simp [entsA, entsA_keys (t + 3) r]
theorem entsB_keys : ∀ (t : Nat) (l : List (Int × Str)), (entsB t l).map (·.hash) = l.map (·.1)
  | _, [] => rfl
  | t, (k, v) :: r => by simp [entsB, entsB_keys (t + 2) r]
theorem go_mloop {C : List DictEntry} {ep : Nat} (hda : a ≠ d) (hC : ∀ e ∈ C, EntOk e) : ∀ (m i : Nat) (A : List DictEntry) (n : Nat) (s : Shared), i + m = C.length → s.heap.get? d = some (dO A n) → s.heap.get? a = some (dO C ep) → 28 ≤ d →
    (A.map (·.hash) ++ (C.drop i).map (·.hash)).Nodup → A.length + m < 1000 →
    Go w (6 * m) (forIn (List.range' i m) PUnit.unit fun (i : Nat) (_ : PUnit) => (do
        let es ← dictEntries a
        match es[i]? with
          | some e => do
            holding [e.key, e.val]
                (if false = true then do
                  let __do_lift ← dictFind d e.key e.hash
                  if __do_lift.isSome = true then do
                      rule "dict.merge.duplicate-key"
                      let __do_lift ← newExc (Value.type "KeyError") [e.key]
                      raiseNew __do_lift
                      dictPut d e.hash e.key e.val
                    else dictPut d e.hash e.key e.val
                else dictPut d e.hash e.key e.val)
            let __do_lift ← dictEpoch a
            if (__do_lift != ep) = true then do
                unsupported "dict.changed-during-merge"
                pure (ForInStep.yield PUnit.unit)
              else pure (ForInStep.yield PUnit.unit)
          | x => do
            unsupported "dict.changed-during-merge"
            pure (ForInStep.yield PUnit.unit) : PySem.Sem (ForInStep PUnit))) p s PUnit.unit p { s with heap := hput s.heap d (dO (A ++ C.drop i) (n + m)) }
  | 0, i, A, n, s, hi, h, ha, hd, hn, hs => by
    have : C.drop i = [] := List.drop_eq_nil_of_le (by omega)
    rw [this, List.append_nil, Nat.add_zero, hput_self h]
    exact go_pure
  | m + 1, i, A, n, s, hi, h, ha, hd, hn, hs => by
    have hlt : i < C.length := by omega
    obtain ⟨k, u, v, he⟩ := hC C[i] (List.getElem_mem hlt)
    have hdr : C.drop i = ⟨k, .int k u, v⟩ :: C.drop (i + 1) := by rw [List.drop_eq_getElem_cons hlt, he]
    have hget : (C.toArray)[i]? = some ⟨k, .int k u, v⟩ := by simp [hlt, he]
    have hne : ∀ e ∈ A, e.hash ≠ k := fun e he' q => by
      have := (List.nodup_append.mp hn).2.2 e.hash (List.mem_map_of_mem he') k (by rw [hdr]; simp)
      exact this q
    rw [List.range'_succ, List.forIn_cons]
    have e : 6 * (m + 1) = (1 + (4 + (1 + 0))) + 6 * m := by omega
    rw [e]
    have ih := go_mloop (C := C) (ep := ep) hda hC m (i + 1) (A ++ [⟨k, .int k u, v⟩]) (n + 1) { s with heap := hput s.heap d (dO (A ++ [⟨k, .int k u, v⟩]) (n + 1)) } (by omega)
      (hput_get h rfl) ((hput_ne hda).trans ha) hd (by rw [hdr] at hn; simpa using hn) (by simp; omega)
    refine go_bind (a := ForInStep.yield PUnit.unit) (s' := { s with heap := hput s.heap d (dO (A ++ [⟨k, .int k u, v⟩]) (n + 1)) }) (p' := p) ?_ ?_
    · refine go_bind (go_entries ha rfl) ?_
      rw [hget]
      dsimp only
      refine go_bind (a := ()) (s' := { s with heap := hput s.heap d (dO (A ++ [⟨k, .int k u, v⟩]) (n + 1)) }) (p' := p) (go_hold ?_) ?_
      · rw [if_neg Bool.false_ne_true]
        exact go_put h hd (by omega) hne
      · refine go_bind (go_epoch (s := { s with heap := hput s.heap d (dO (A ++ [⟨k, .int k u, v⟩]) (n + 1)) }) ((hput_ne hda).trans ha) rfl) ?_
        rw [if_neg (by simp)]
        exact go_pure
    · have q : ({ s with heap := hput s.heap d (dO (A ++ C.drop i) (n + (m + 1))) } : Shared) =
          { s with heap := hput (hput s.heap d (dO (A ++ [⟨k, .int k u, v⟩]) (n + 1))) d (dO ((A ++ [⟨k, .int k u, v⟩]) ++ C.drop (i + 1)) (n + 1 + m)) } := by
        rw [hput_put, hdr, List.append_assoc, List.cons_append, List.nil_append, show n + (m + 1) = n + 1 + m by omega]
      rw [q]
      exact ih
end
end
/-! MGo5 -/
section
open PySem PySem.W PySem.Spec PySem.Calls PyProof.Rows
theorem sub_dict : isSubtype (.type "dict") (.type "dict") = pure true := by kernel_rfl
theorem iter_dict : typeLookup (.type "dict") "__iter__" = pure (some (.builtin "dict.__iter__")) := by kernel_rfl
section
variable {w : World} {p : Pos} {s : Shared} {d a : Addr} {A C : List DictEntry} {n m : Nat}
theorem go_typeOf {es : List DictEntry} (h : s.heap.get? a = some (dO es n)) : Go w 1 (PySem.typeOf (.ref a)) p s (.type "dict") p s := by
  refine go_bind (M := 0) (go_loadPart h) ?_
  exact go_pure
theorem go_isDict {es : List DictEntry} (h : s.heap.get? a = some (dO es n)) : Go w 1 (isInstance (.ref a) (.type "dict")) p s true p s := by
  unfold isInstance
  refine go_bind (M := 0) (go_typeOf h) ?_
  rw [sub_dict]; exact go_pure
theorem go_iter {es : List DictEntry} (h : s.heap.get? a = some (dO es n)) : Go w 1 (specialOf (.ref a) "__iter__") p s (some (.builtin "dict.__iter__")) p s := by
  unfold specialOf
  refine go_bind (M := 0) (go_typeOf h) ?_
  rw [iter_dict]; exact go_pure
theorem go_merge (hda : a ≠ d) (ha1 : a ≠ 1) (hC : ∀ e ∈ C, EntOk e) (h : s.heap.get? d = some (dO A n)) (hA : A ≠ []) (ha : s.heap.get? a = some (dO C m)) (hd : 28 ≤ d) (hn : (A.map (·.hash) ++ C.map (·.hash)).Nodup) (hs : A.length + C.length < 1000) :
    Go w (5 + 6 * C.length) (mergeMapping d (.ref a) false) p s () p { s with heap := hput s.heap d (dO (A ++ C) (n + C.length)) } := by
  unfold mergeMapping
  have e : 5 + 6 * C.length = 1 + (1 + (0 + (1 + (1 + (1 + (6 * C.length + 0)))))) := by omega
  rw [e]
  refine go_bind (go_isDict ha) ?_
  dsimp only
  rw [if_pos rfl]
  refine go_bind (go_iter ha) ?_
  refine go_bind (a := true) (go_eq (by rfl) go_pure) ?_
  dsimp only
  rw [if_neg (by simp [sysModules, ha1])]
  refine go_bind (go_entries h rfl) ?_
  rw [if_neg (by simpa using hA)]
  refine go_bind (go_entries ha rfl) ?_
  refine go_bind (go_epoch ha rfl) ?_
  refine go_bind (a := PUnit.unit) ?_ go_pure
  have L := go_mloop (w := w) (p := p) (d := d) (a := a) (C := C) (ep := m) hda hC C.length 0 A n s (by omega) h ha hd (by simpa using hn) hs
  rw [List.drop_zero] at L
  have : (C.toArray).size = C.length := by simp
  rw [this, List.range_eq_range']
  exact L
theorem go_mergeD (hda : a ≠ d) (ha1 : a ≠ 1) (hC : ∀ e ∈ C, EntOk e) (h : s.heap.get? d = some (dO A n)) (hA : A ≠ []) (ha : s.heap.get? a = some (dO C m)) (hd : 28 ≤ d) (hn : (A.map (·.hash) ++ C.map (·.hash)).Nodup) (hs : A.length + C.length < 1000) :
    Go w (5 + 6 * C.length) (mergeD d a) p s () p { s with heap := hput s.heap d (dO (A ++ C) (n + C.length)) } := by
  unfold mergeD
  exact go_onRaise (go_hold (go_merge hda ha1 hC h hA ha hd hn hs))
end
noncomputable def entsC (t : Nat) (c : List (Int × Str)) : List DictEntry := match Nat.beq c.length 17 with
  | true => entsA t c
  | false => entsB t c
theorem entsC_len (t : Nat) (c : List (Int × Str)) : (entsC t c).length = c.length := by
  unfold entsC; split
  · exact entsA_len t c
  · exact entsB_len t c
theorem entsC_keys (t : Nat) (c : List (Int × Str)) : (entsC t c).map (·.hash) = c.map (·.1) := by
  unfold entsC; split
  · exact entsA_keys t c
  · exact entsB_keys t c
theorem entsC_ok (t : Nat) (c : List (Int × Str)) : ∀ e ∈ entsC t c, EntOk e := by
  unfold entsC; split
  · exact entsA_ok t c
  · exact entsB_ok t c
noncomputable def finH (d : Addr) : Heap → Nat → List DictEntry → List (List (Int × Str)) → Heap
  | h, _, _, [] => h
  | h, t, A, c :: cs => finH d (hput (h.push (dO (entsC t c) c.length)) d (dO (A ++ entsC t c) (A.length + c.length))) (t + 3 * c.length) (A ++ entsC t c) cs
noncomputable def finT (t : Nat) : List (List (Int × Str)) → Nat
  | [] => t
  | c :: cs => finT (t + 3 * c.length) cs
theorem go_subC {w : World} {s : Shared} {c : List (Int × Str)} (hl : c.length = 17 ∨ c.length ≤ 15) (hb : 28 ≤ s.heap.objs.size) (hk : keysOk c) (hn : (c.map (·.1)).Nodup) :
    Go w 223 (subDict (c.map prOf)) dp s s.heap.objs.size dp { s with heap := s.heap.push (dO (entsC s.toks c) c.length), toks := s.toks + 3 * c.length } := by
  unfold entsC
  rcases hl with h | h
  · rw [h]; exact go_subA h hb hk hn
  · have : Nat.beq c.length 17 = false := by
      cases q : Nat.beq c.length 17 with
      | false => rfl
      | true => have := Nat.eq_of_beq_eq_true q; omega
    rw [this]; exact go_subB h hb hk hn
theorem push_size {h : Heap} {o : Obj} : (h.push o).objs.size = h.objs.size + 1 := Heap.size_push ..
theorem hput_size {h : Heap} {d : Addr} {o : Obj} : (hput h d o).objs.size = h.objs.size := by
  obtain ⟨objs, life⟩ := h
  show (objs.modify d _).size = _
  simp
theorem go_rest {w : World} {d : Addr} (hd : 28 ≤ d) : ∀ (cs : List (List (Int × Str))) (A : List DictEntry) (s : Shared), s.heap.get? d = some (dO A A.length) → A ≠ [] → (∀ c ∈ cs, c.length = 17 ∨ c.length ≤ 15) → keysOk cs.flatten →
    (A.map (·.hash) ++ cs.flatten.map (·.1)).Nodup → A.length + cs.flatten.length < 1000 →
    Go w (400 * cs.length) (restD (cs.map (·.map prOf)) d) dp s (.ref d) dp { s with heap := finH d s.heap s.toks A cs, toks := finT s.toks cs }
  | [], A, s, h, hA, hl, hk, hn, hs => go_pure
  | c :: cs, A, s, h, hA, hl, hk, hn, hs => by
    have hdlt := get_lt h
    have hb : 28 ≤ s.heap.objs.size := Nat.le_trans hd (Nat.le_of_lt hdlt)
    have hc := hl c (.head _)
    rw [List.flatten_cons] at hn hs hk
    have hkc : keysOk c := fun x hx => hk x (List.mem_append_left _ hx)
    have hkr : keysOk cs.flatten := fun x hx => hk x (List.mem_append_right _ hx)
    have hn1 : (c.map (·.1)).Nodup := by
      rw [List.map_append] at hn
      exact (List.nodup_append.mp (List.nodup_append.mp hn).2.1).1
    have hn2 : (A.map (·.hash) ++ (entsC s.toks c).map (·.hash)).Nodup := by
      rw [entsC_keys]
      rw [List.map_append, ← List.append_assoc] at hn
      exact (List.nodup_append.mp hn).1
    have hlen : c.length ≤ 17 := by omega
    have e : 400 * (c :: cs).length = (400) + 400 * cs.length := by rw [List.length_cons]; omega
    rw [e, List.map_cons]
    unfold restD finH finT
    have ih := go_rest hd (w := w) cs (A ++ entsC s.toks c) { s with heap := hput (s.heap.push (dO (entsC s.toks c) c.length)) d (dO (A ++ entsC s.toks c) (A.length + c.length)), toks := s.toks + 3 * c.length }
      (by
        rw [List.length_append, entsC_len]
        exact hput_get (Heap.get?_push_of_some _ h) rfl) (by simp [hA]) (fun x hx => hl x (.tail _ hx)) hkr
      (by rw [List.map_append, entsC_keys, List.append_assoc]; rw [List.map_append] at hn; exact hn) (by
        rw [List.length_append, entsC_len]; rw [List.length_append] at hs; omega)
    refine go_le (N := 223 + ((5 + 6 * (entsC s.toks c).length) + 400 * cs.length)) ?_ (by rw [entsC_len]; omega)
    refine go_bind (go_hold (go_subC hc hb hkc hn1)) ?_
    have M := go_mergeD (w := w) (p := dp) (s := { s with heap := s.heap.push (dO (entsC s.toks c) c.length), toks := s.toks + 3 * c.length }) (d := d) (a := s.heap.objs.size) (A := A) (C := entsC s.toks c) (n := A.length) (m := c.length)
      (Nat.ne_of_gt hdlt) (Nat.ne_of_gt (Nat.lt_of_lt_of_le (by decide) hb)) (entsC_ok _ _) (Heap.get?_push_of_some _ h) hA (Heap.get?_push_size _ rfl) hd hn2 (by rw [entsC_len]; rw [List.length_append] at hs; omega)
    rw [entsC_len] at M
    rw [entsC_len]
    exact go_bind M ih
end
/-! MDict4 -/
section
open PySem PySem.W PySem.Spec PySem.Calls PyProof.Rows
noncomputable def isCI : Option PySem.Expr → Bool
  | some (.Constant (.int _) _ _) => true
  | _ => false
noncomputable def isCS : PySem.Expr → Bool
  | .Constant (.str _) _ _ => true
  | _ => false
theorem prs_eq : ∀ (ks : List (Option PySem.Expr)) (vs : List PySem.Expr), ks.all isCI = true → vs.all isCS = true → List.zipWith pairOf ks vs = ((ks.map cInt).zip (vs.map cStr)).map prOf
  | [], _, _, _ => by simp
  | k :: ks, [], _, _ => by simp
  | k :: ks, v :: vs, h1, h2 => by
    rw [List.all_cons, Bool.and_eq_true] at h1 h2
    have ih := prs_eq ks vs h1.2 h2.2
    rw [List.zipWith_cons_cons, List.map_cons, List.map_cons, List.zip_cons_cons, List.map_cons, ih]
    congr 1
    obtain ⟨h1, _⟩ := h1
    obtain ⟨h2, _⟩ := h2
    unfold isCI at h1
    unfold isCS at h2
    split at h1
    · split at h2
      · rfl
      · cases h2
    · cases h1
theorem b3prs_eq : b3prs = b3pairs.map prOf := prs_eq _ _ (by decide +kernel) (by decide +kernel)
noncomputable def ck0 : List (Int × Str) := b3pairs.take 17
noncomputable def cks37 : List (List (Int × Str)) := (List.range 37).map fun i => (b3pairs.drop (17 * (i + 1))).take 17
noncomputable def ckl : List (Int × Str) := b3pairs.drop 646
theorem b3pairs_eq : b3pairs = ck0 ++ (cks37.flatten ++ ckl) := by kernel_rfl
noncomputable def risingB : Int → List (Int × Str) → Bool
  | _, [] => true
  | a, x :: r => decide (a < x.1) && risingB x.1 r
theorem rising_all : ∀ (a : Int) (l : List (Int × Str)), risingB a l = true → ∀ x ∈ l, a < x.1
  | _, [], _, _, h => nomatch h
  | a, y :: r, h, x, hx => by
    unfold risingB at h
    rw [Bool.and_eq_true, decide_eq_true_eq] at h
    rcases List.mem_cons.mp hx with rfl | hx
    · exact h.1
    · exact Int.lt_trans h.1 (rising_all y.1 r h.2 x hx)
theorem rising_nodup : ∀ (a : Int) (l : List (Int × Str)), risingB a l = true → (l.map (·.1)).Nodup
  | _, [], _ => List.nodup_nil
  | a, y :: r, h => by
    unfold risingB at h
    rw [Bool.and_eq_true] at h
    rw [List.map_cons, List.nodup_cons]
    refine ⟨fun hm => ?_, rising_nodup y.1 r h.2⟩
    obtain ⟨x, hx, e⟩ := List.mem_map.mp hm
    have := rising_all y.1 r h.2 x hx
    omega
theorem b3rising : risingB 0 b3pairs = true := by decide +kernel
theorem b3small : b3pairs.all (fun x => decide (0 ≤ x.1) && decide (x.1 < 2 ^ 31)) = true := by decide +kernel
theorem b3ok : keysOk b3pairs := fun x hx => by
  have := List.all_eq_true.mp b3small x hx
  rw [Bool.and_eq_true, decide_eq_true_eq, decide_eq_true_eq] at this
  exact this
theorem b3len : b3pairs.length = 650 := by decide +kernel
theorem cks37_len : ∀ c ∈ cks37, c.length = 17 := by
  have : cks37.all (fun c => decide (c.length = 17)) = true := by decide +kernel
  intro c hc
  exact of_decide_eq_true (List.all_eq_true.mp this c hc)
theorem ck0_len : ck0.length = 17 := by decide +kernel
theorem ckl_len : ckl.length = 4 := by decide +kernel
theorem disp_b3 : dictDisplay b3items = subDict (ck0.map prOf) >>= fun d => restD ((cks37 ++ [ckl]).map (·.map prOf)) d := by
  rw [b3items_eq, b3prs_eq]
  have e : b3pairs.map prOf = ck0.map prOf ++ ((cks37.map (·.map prOf)).flatten ++ ckl.map prOf) := by
    rw [b3pairs_eq, List.map_append, List.map_append, List.map_flatten]
  rw [e, display_eq (ck0.map prOf) (cks37.map (·.map prOf)) (ckl.map prOf) (by rw [List.length_map]; exact ck0_len) ?_ (by rw [List.length_map, ckl_len]; decide) ?_]
  · rw [List.map_append]; rfl
  · intro c hc
    obtain ⟨c', hc', rfl⟩ := List.mem_map.mp hc
    rw [List.length_map]; exact cks37_len c' hc'
  · intro q
    have := congrArg List.length q
    rw [List.length_map, ckl_len] at this
    cases this
noncomputable def tX (P : Params) : BT := (List.range 38).foldl (fun t i => t.ins (95 + i) (subD (i + 1) P)) ((tD P).ins 94 (mainD 39 P))
theorem fin_heap (P : Params) : finH 94 ((absHeap (tD P) 94 {}).push (dO (entsC 463 ck0) 17)) 514 (entsC 463 ck0) (cks37 ++ [ckl]) = absHeap (tX P) 133 {} := by kernel_rfl
theorem fin_toks : finT 514 (cks37 ++ [ckl]) = 2413 := by decide +kernel
noncomputable abbrev SX (w : World) (os : OsState) : SharedT := ⟨tX w.params, 133, {}, #[], {}, 2413, os⟩
theorem go_disp_abs {w : World} {s : Shared} (h0 : s.heap.objs.size = 94) (ht : s.toks = 463) :
    Go w 16000 (dictDisplay b3items) dp s (.ref 94) dp { s with heap := finH 94 (s.heap.push (dO (entsC 463 ck0) 17)) 514 (entsC 463 ck0) (cks37 ++ [ckl]), toks := finT 514 (cks37 ++ [ckl]) } := by
  rw [disp_b3]
  have hok := b3ok
  have hnd := rising_nodup 0 b3pairs b3rising
  rw [b3pairs_eq] at hok hnd
  rw [List.map_append] at hnd
  have hln := b3len
  rw [b3pairs_eq, List.length_append, ck0_len] at hln
  have hfl : cks37.flatten ++ ckl = (cks37 ++ [ckl]).flatten := by simp
  have G0 := go_subC (w := w) (s := s) (c := ck0) (.inl ck0_len) (by rw [h0]; decide) (fun x hx => hok x (List.mem_append_left _ hx)) (List.nodup_append.mp hnd).1
  rw [h0, ck0_len, ht] at G0
  refine go_le (N := 223 + 400 * (cks37 ++ [ckl]).length) ?_ (by simp [cks37])
  refine go_bind G0 ?_
  exact go_rest (w := w) (d := 94) (by decide) (cks37 ++ [ckl]) (entsC 463 ck0) { s with heap := s.heap.push (dO (entsC 463 ck0) 17), toks := 514 }
    (by
      rw [entsC_len, ck0_len, ← h0]
      exact Heap.get?_push_size _ rfl)
    (by
      intro q
      have := congrArg List.length q
      rw [entsC_len, ck0_len] at this
      cases this)
    (by
      intro c hc
      rcases List.mem_append.mp hc with hc | hc
      · exact .inl (cks37_len c hc)
      · obtain rfl := List.mem_singleton.mp hc
        exact .inr (by rw [ckl_len]; decide))
    (by rw [← hfl]; exact fun x hx => hok x (List.mem_append_right _ hx))
    (by rw [entsC_keys, ← hfl]; exact hnd)
    (by rw [entsC_len, ck0_len, ← hfl]; omega)
theorem mk_eq {h h' : Heap} {t t' : Nat} (e : h = h') (e' : t = t') (g : Array GenState) (d : Drawn) (o : OsState) : (⟨h, g, d, t, o⟩ : Shared) = ⟨h', g, d, t', o⟩ := by rw [e, e']
theorem abs_mk (t : BT) (n k : Nat) (os : OsState) : SharedT.abs ⟨t, n, {}, #[], {}, k, os⟩ = ⟨absHeap t n {}, #[], {}, k, os⟩ := rfl
theorem go_to {w : World} {N : Nat} {α : Type} {t : PySem.Sem α} {p p' : Pos} {a : α} {h h' : Heap} {g : Array GenState} {d : Drawn} {k k' : Nat} {o : OsState} (f : Heap → Heap)
    (G : ∀ s : Shared, s = ⟨h, g, d, k, o⟩ → Go w N t p s a p' { s with heap := f s.heap, toks := k' }) (e : f h = h') : Go w N t p ⟨h, g, d, k, o⟩ a p' ⟨h', g, d, k', o⟩ := by
  have := G _ rfl
  dsimp only at this
  rw [e] at this
  exact this
theorem go_disp (w : World) (os : OsState) : Go w 16000 (dictDisplay b3items) dp (SD w os).abs (.ref 94) dp (SX w os).abs := by
  rw [abs_mk (tD w.params), abs_mk (tX w.params)]
  refine go_to (fun h => finH 94 (h.push (dO (entsC 463 ck0) 17)) 514 (entsC 463 ck0) (cks37 ++ [ckl])) (fun s hs => ?_) (fin_heap w.params)
  have G := go_disp_abs (w := w) (s := s) (by rw [hs]; exact absHeap_size _ _ _) (by rw [hs])
  rw [fin_toks] at G
  exact G
theorem h_post (w : World) (os : OsState) : segRunT treeTable pw w 28 hann 1 50 (SX w os) ⟨(b3post (.ref 94)).wrap doneF deadEnd id id, hcd, dp, hB⟩ = some (.next, SF w os, hcd, ⟨59, 0, 59, 13⟩) := by kernel_rfl
theorem segRun_mono (tb : String → Option Builtin) (p : Program) (w : World) (n₀ : Nat) (ann : Option Value) (b k : Nat) : ∀ (n : Nat) (s : Shared) (t : Thread) (r : Flow × Shared × Code × Pos), segRun tb p w n₀ ann b n s t = some r → segRun tb p w n₀ ann b (n + k) s t = some r
  | 0, _, _, _, h => by cases h
  | n + 1, s, t, r, h => by
    rw [show n + 1 + k = n + k + 1 by omega]
    unfold segRun at h ⊢
    cases he : endAt b t with
    | some f => rw [he] at h; exact h
    | none =>
      rw [he] at h
      cases hk : stepOk n₀ ann t with
      | false => rw [hk] at h; cases h
      | true =>
        rw [hk] at h
        cases hs : step (denote tb) p w s t with
        | halt o s' => rw [hs] at h; cases h
        | go s' t' => rw [hs] at h; exact segRun_mono tb p w n₀ ann b k n s' t' r h
theorem th_eq {α : Type} {t : PySem.Sem α} {f : α → PySem.Sem Flow} {l : List Stmt} (e : execs l henv = t >>= f) (p : Pos) :
    piecesOf l henv hcd p hB = ⟨t.wrap (fun a => (f a).wrap doneF deadEnd id id) deadEnd id id, hcd, p, hB⟩ := by
  show (⟨(execs l henv).wrap doneF deadEnd id id, hcd, p, hB⟩ : Thread) = _
  rw [e, PySem.Sem.bind_eq_wrap', PySem.Sem.wrap_wrap]
  rfl
theorem at_eq {α : Type} (p q : Pos) (t : PySem.Sem α) (f : α → PySem.Sem Flow) {x : PySem.Sem Flow} (h : x = Sem.at p fun _ => Sem.at q fun _ => (t >>= f)) : x = ((standAt p >>= fun _ => standAt q >>= fun _ => t) >>= f) := h
theorem e4 : execs g4 henv = ((standAt (aPos (stm 13)) >>= fun _ => standAt dp >>= fun _ => dictDisplay b3items) >>= b3post) :=
  at_eq (aPos (stm 13)) dp (dictDisplay b3items) b3post b3_exec
theorem h_g4 (w : World) (os : OsState) : segRun treeTable pw w 28 hann 1 17000 (SD w os).abs (piecesOf g4 henv hcd ⟨57, 0, 58, 30⟩ hB) = some (.next, (SF w os).abs, hcd, ⟨59, 0, 59, 13⟩) := by
  have G : Go w (1 + (1 + 16000)) (standAt (aPos (stm 13)) >>= fun _ => standAt dp >>= fun _ => dictDisplay b3items) ⟨57, 0, 58, 30⟩ (SD w os).abs (.ref 94) dp (SX w os).abs :=
    go_bind go_standAt (go_bind go_standAt (go_disp w os))
  obtain ⟨n, hn, g⟩ := G
  have g' := g (fun a => (b3post a).wrap doneF deadEnd id id) deadEnd id id
  have r := seg_go (N := 50) g' (segRun_of (h_post w os))
  rw [← th_eq e4] at r
  have := segRun_mono treeTable pw w 28 hann 1 (17000 - (n + 50)) _ _ _ _ r
  rw [show n + 50 + (17000 - (n + 50)) = 17000 by omega] at this
  exact this
end
/-! MBase -/
section
open PySem PySem.W PySem.Spec PySem.Calls PyProof.Rows
noncomputable def vq : Program := { pw with main := { pw.main with body := [stm 0, stm 6, stm 7, stm 8, stm 9, stm 11, stm 12, stm 13, stm 14, stm 16, stm 17, stm 18, stm 19] } }
noncomputable def vloose : List Str := [Str.ofString "insort_right", Str.ofString "bisect_right", Str.ofString "bisect_left", Str.ofString "_twin_re_1", Str.ofString "_twin_re_2", Str.ofString "b1_set", Str.ofString "b3_exceptions"]
/-- what stands is kept -/
noncomputable abbrev Ext (h h' : Heap) : Prop := ∀ b o, h.get? b = some o → h'.get? b = some o
/-- the names that a hidden table's top leaves open (see the library's ghost_top) -/
noncomputable abbrev gloose : List Str := looseW vq vloose ++ (recsOf vq).map (·.name) ++ (litsOf vq).map (·.1) ++ (clssOf vq (looseW vq vloose)).map (·.name)
/-- the names of the top's facts -/
structure Names where
  mean : ExcName → Option Value
  mg : Str → Option Value
  mb : Str → Option Value
structure Okh (w : World) (N : Names) (h : Heap) : Prop where
  K : (K w.params).In h
  T : Top topProg gloose N.mean N.mg N.mb h
theorem Okh.ext {w : World} {N : Names} {h h' : Heap} (O : Okh w N h) (e : Ext h h') : Okh w N h' := ⟨O.K.keeps e, O.T.keeps e⟩
noncomputable abbrev retV (fl : Flow) : Value := match fl with | .ret v => v | _ => .none
theorem enterP {w : World} {N : Names} {A : Around} {s : Shared} {Q : Value → Shared → Prop} {E : Value → Shared → Prop} {f : Addr} {fo : Obj} {fd : FuncData} {body : List Stmt} {vs : List Value} {kw : List (Str × Value)} {binds : List (Str × Value)}
    (O : Okh w N s.heap) (hl : (K w.params).lookup f = some fo) (hd : fo.data = .func fd) (hb : fd.body = .stmts body) (hc : codeIn (K w.params) fd.code fd.qualname = true)
    (hbind : BindsTo s fd ⟨vs, kw⟩ binds) (hroom : A.depth < recursionLimit) (hcell : ∀ x ∈ fd.scope.names, x.2 ≠ .cell) (hloc : ∀ x ∈ binds, fd.scope.names.lookup x.1 = some .local)
    (hco : fd.scope.isCoroutine = false) (hgen : fd.scope.isGenerator = false) (hk : fd.scope.kind = .function)
    (h : ∀ h₁, Fr s.heap s.heap.objs.size h₁ (fun x => binds.reverse.lookup x) →
      wpAny (model pw w) (A.deeper (callEnv fd s.heap.objs.size f)) (execs body (callEnv fd s.heap.objs.size f)) (fun fl s' => Q (retV fl) s') (fun _ _ => False) { s with heap := h₁, toks := s.toks + binds.length }) :
    wpAny (model pw w) A (call (.ref f) vs kw) Q E s := by
  refine wpAny_call ?_
  refine codeAny_call_def (fd := fd) (body := body) (binds := binds) hroom (O.K _ _ hl) hd O.T.nolimit (codeRec_of O.K hc) hb hbind hcell hloc (fun h₁ hns hk₁ => ?_) hco hgen hk
  exact wpAny_mono (h h₁ ⟨hns, hk₁, Nat.le_refl _⟩) (fun fl s' hq => hq) (fun _ _ x => x.elim)
/-- a place where the walk is to halt -/
noncomputable def Stop (P : Prop) : Prop := P
theorem Stop.intro {P : Prop} (h : P) : Stop P := h
theorem Stop.out {P : Prop} (h : Stop P) : P := h
theorem dict_get1S {prog : Program} {w : World} {A : Around} {E : Value → Shared → Prop} {s : Shared} {K : Type} [DecidableEq K] {knd : PySem.KeyKind prog w K} {d : Addr} {pos : Pos} {x : PySem.Sem Value} {Q : Value → Shared → Prop} (hd : (d == sysModules) = false)
    (h : wpAny (model prog w) A x (fun key s₁ => Stop (∃ k f, knd.is k key = true ∧ s₁.heap.MapOf knd d f ∧ Q ((f k).getD .none) { s₁ with toks := s₁.toks + 1 })) E s) :
    wpAny (model prog w) A (callWith pos (.builtin "dict.get") [.ref d] [(false, x)] []) Q E s := wpAny_dict_get1 (knd := knd) hd h
theorem while_inv {w : World} {A : Around} {env : Env} {test : PySem.Expr} {body : List Stmt} {pos : Pos} {Q : Flow → Shared → Prop} {E : Value → Shared → Prop} {s : Shared} (I : Nat → Shared → Prop)
    (turn : ∀ n s, I n s → wpAny (model pw w) A (isTrue test env (eval test env)) (fun b s₂ => Stop (if b = true then wpAny (model pw w) A (execs body env) (fun f s₃ => Stop (f = .next ∧ ∃ m, m < n ∧ I m s₃)) (fun _ _ => False) s₂ else Q .next s₂)) (fun _ _ => False) s)
    (n : Nat) (h : I n s) : wpAny (model pw w) A (exec (.While test body [] pos) env) Q E s := by
  refine wpAny_While (codeAny_whileLoop I (fun n s hI => ?_) n h)
  refine wpAny_mono (turn n s hI) (fun b s₂ hb => ?_) (fun _ _ x => x.elim)
  cases b with
  | false =>
    have hb' : Q .next s₂ := hb
    exact wpAny_pure hb'
  | true =>
    have hb' : wpAny (model pw w) A (execs body env) (fun f s₃ => Stop (f = .next ∧ ∃ m, m < n ∧ I m s₃)) (fun _ _ => False) s₂ := hb
    refine wpAny_mono hb' (fun f s₃ hf => ?_) (fun _ _ x => x.elim)
    obtain ⟨rfl, hm⟩ := Stop.out hf
    exact hm
theorem Fr.cast {h₀ h : Heap} {L : Addr} {m m' : Str → Option Value} (F : Fr h₀ L h m) (e : ∀ y, m y = m' y) : Fr h₀ L h m' := (funext e : m = m') ▸ F
theorem item_at {w : World} {A : Around} {E : Value → Shared → Prop} {s : Shared} {value slice : PySem.Expr} {l : Addr} {vs : List Value} {k : Int} {u : Tok} {v : Value} {Q : Value → Shared → Prop}
    (hl : s.heap.IsList l vs.toArray) (h0 : 0 ≤ k) (hhi : k < 2 ^ 63) (hx : vs[k.toNat]? = some v) (h : Q v s)
    (hs : subscripted slice false (.ref l) (.int k u) = operate [.ref l, .int k u] (getItem (.ref l) (.int k u)) := by with_unfolding_all rfl) :
    wpAny (model pw w) A (subscriptTail value slice (.ref l) (.int k u)) Q E s :=
  tail_any hl.typeIs slot_list_getitem.lookup (wpAny_getItem_list hl h0 hhi (by simpa using hx) h) hs
theorem Fr.ext {h₀ h h' : Heap} {L : Addr} {m : Str → Option Value} (F : Fr h₀ L h m) (e : Ext h h') : Fr h₀ L h' m :=
  let ⟨o, a1, a2, hL, a3⟩ := F.ns
  ⟨⟨o, a1, a2, e _ _ hL, a3⟩, fun b o' x => e _ _ (F.keep b o' x), F.above⟩
theorem News.ext {h₀ h h' : Heap} {L : Addr} {news : List (Addr × Obj)} (N : News h₀ L h news) (e : Ext h h') : News h₀ L h' news :=
  fun p hp => ⟨e _ _ (N p hp).1, (N p hp).2.1, (N p hp).2.2⟩
end
/-! MTab -/
section
open PySem PySem.W PySem.Spec PySem.Calls PyProof.Rows
/-- a table's int keys rise: then they differ (in one pass) -/
noncomputable def kInt : PyData → Option Int
  | .int k => some k
  | _ => none
theorem kInt_eq {x : PyData} {k : Int} (h : kInt x = some k) : x = .int k := by
  cases x with
  | int j => exact congrArg PyData.int (Option.some.inj h)
  | _ => cases h
noncomputable def rises1 (a : Int) (D : List (PyData × PyData)) : Bool := List.rec (motive := fun _ => Int → Bool) (fun _ => true) (fun x _ f a => (kInt x.1).any fun k => decide (a < k) && f k) D a
theorem rises1_int {D : List (PyData × PyData)} {a : Int} {x : PyData × PyData} (h : rises1 a (x :: D) = true) : ∃ k, x = (.int k, x.2) ∧ a < k ∧ rises1 k D = true := by
  obtain ⟨k, hk, h⟩ := (Option.any_eq_true _ _).mp h
  obtain ⟨h1, h2⟩ := Bool.and_eq_true_iff.mp h
  exact ⟨k, congrArg (·, x.2) (kInt_eq hk), of_decide_eq_true h1, h2⟩
theorem rises1_no {k : Int} {D : List (PyData × PyData)} : ∀ {a : Int}, k ≤ a → rises1 a D = true → hasIntKey k D = false := by
  induction D with
  | nil => exact fun _ _ => rfl
  | cons x D ih =>
    intro a hk h
    obtain ⟨j, hj, h1, h2⟩ := rises1_int h
    rw [hj]
    exact Bool.or_eq_false_iff.mpr ⟨beq_eq_false_iff_ne.mpr (Int.ne_of_gt (Int.lt_of_le_of_lt hk h1)), ih (Int.le_trans hk (Int.le_of_lt h1)) h2⟩
theorem rises1_apart {D : List (PyData × PyData)} : ∀ {a : Int}, rises1 a D = true → keysApartInt D = true := by
  induction D with
  | nil => exact fun _ => rfl
  | cons x D ih =>
    intro a h
    obtain ⟨j, hj, h1, h2⟩ := rises1_int h
    rw [hj]
    exact Bool.and_eq_true_iff.mpr ⟨congrArg not (rises1_no (Int.le_refl _) h2), ih h2⟩
theorem all_but {α : Type} [BEq α] [LawfulBEq α] {l : List α} {f : α → Bool} (b : α) (h : f b = true) (e : (l.all fun x => x == b || f x) = true) : l.all f = true :=
  List.all_eq_true.mpr fun x hx => ((Bool.or_eq_true _ _).mp (List.all_eq_true.mp e x hx)).elim (fun q => (eq_of_beq q).symm ▸ h) id
noncomputable def b3D : List (PyData × PyData) := (tabIntOf vq (Str.ofString "b3_exceptions")).getD []
theorem b3D_of : tabIntOf vq (Str.ofString "b3_exceptions") = some b3D := by kernel_rfl
theorem b3D_apart : keysApartInt b3D = true := rises1_apart (a := -1) (by kernel_rfl)
theorem h_tabs (w : World) : tablesOk vq (absHeap (tG w.params) 162 {}) = true := by
  unfold tablesOk
  refine all_but (Str.ofString "b3_exceptions") ?_ (by kernel_rfl)
  rw [b3D_of]
  show (_ && Heap.tabIntOk _ _ b3D) = true
  unfold Heap.tabIntOk
  rw [b3D_apart]
  kernel_rfl
end
/-! MHead2 -/
section
open PySem PySem.W PySem.Spec PySem.Calls PyProof.Rows
noncomputable def kas : List Addr := [2, 3, 6, 11, 12, 32, 33, 34, 36, 37, 39, 40, 41, 42, 43, 45, 46, 48, 49, 50, 51, 52, 54, 55, 57, 58, 62, 63, 67, 68, 69, 71, 72, 74, 75, 87, 89, 90, 92, 93, 94, 133, 135, 136, 138, 139, 140, 143, 144, 145, 147, 148, 150, 151, 152, 155, 156, 157, 160, 161, 83]
theorem kas_eq : ∀ P, kas = (K P).map (·.1) := fun _ => rfl
noncomputable abbrev kH : Hook := kmHook K kas kas_eq [158]
theorem h_run (w : World) (os : OsState) : topRun treeTable pw w 28 hann (12 + (1 + (332 + (999 + (30 + (17000 + (154 + 2))))))) (S0 w os).abs (topStub pw) = some (SG w os).abs := by
  refine go_top (h_pre w os) ?_
  refine piece_block (h_block w os) ?_
  rw [bod_eq]
  refine piece_app (segRun_of (h_g1 w os)) ?_
  refine piece_app (segRun_of (h_g2 w os)) ?_
  refine piece_app (segRun_of (h_g3 w os)) ?_
  refine piece_app (h_g4 w os) ?_
  refine piece_app (segRun_of (h_g5 w os)) ?_
  exact h_fin w os
theorem h_open : ∀ w : World, (fencedOpening treeTable pw w 30000).map (fun s => (s.heap, s.gens, s.drawn, s.toks)) = some (absHeap (t0 w.params) 28 {}, #[], {}, 276) :=
  open_cut (He := fun P => absHeap (tE P) 28 {}) (H₀ := fun P => absHeap (t0 P) 28 {}) (M := 799) h_opening (by decide) h_fence
theorem h_size : ∀ w : World, ((absHeap (t0 w.params) 28 {}).isNs mainGlobals && (#[] : Array GenState).size == 0, (absHeap (t0 w.params) 28 {}).objs.size, (absHeap (t0 w.params) 28 {}).nsMap mainGlobals "__annotations__") = (true, 28, hann) := by intro w; kernel_rfl
theorem l1 (w : World) (os : OsState) : (staticsOk (importedModules pw.main.body) (absHeap (t0 w.params) 28 {}) (absHeap (tG w.params) 162 {}) && namesBound pw (absHeap (tG w.params) 162 {}) && gensDone ⟨absHeap (tG w.params) 162 {}, #[], {}, 2456, os⟩ && laidKept (absHeap (t0 w.params) 28 {}) (absHeap (tG w.params) 162 {})) = true := by kernel_rfl
theorem l3 (w : World) (os : OsState) : kH.obs ⟨absHeap (tG w.params) 162 {}, #[], {}, 2456, os⟩ = kH.val w := by kernel_rfl
theorem and7 {a b c d e f g : Bool} (ha : a = true) (hb : b = true) (hc : c = true) (hd : d = true) (he : e = true) (hf : f = true) (hg : g = true) : (a && b && c && d && e && f && g) = true := by
  rw [ha, hb, hc, hd, he, hf, hg]; exact rfl
theorem l2 (w : World) (os : OsState) : openSeen vq vloose (importedModules pw.main.body) (fun s => xlAt vq [] s && recOk (RowW.records (PySem.Challenge.rw_rw0108_01.row.toRowW)) s) true ⟨absHeap (tG w.params) 162 {}, #[], {}, 2456, os⟩ = openGood vq vloose := by
  unfold openSeen openGood
  refine looks_pair (by kernel_rfl) (looks_pair (by kernel_rfl) (looks_pair (and7 (by kernel_rfl) (by kernel_rfl) (by kernel_rfl) (by kernel_rfl) (h_tabs w) (by kernel_rfl) (by kernel_rfl)) ?_))
  kernel_rfl
theorem h_left : LeftO pw vq vloose (fun s => xlAt vq [] s && recOk (RowW.records (PySem.Challenge.rw_rw0108_01.row.toRowW)) s) kH.obs kH.val 30000 :=
  LeftO.of_pieces (H₀ := fun P => absHeap (t0 P) 28 {}) (H₁ := fun P => absHeap (tG P) 162 {}) h_open h_size h_run (by decide)
    (fun w => funext fun os => looks_pair (l1 w os) (looks_pair (l2 w os) (l3 w os)))
end
/-! MOk -/
section
open PySem PySem.W PySem.Spec PySem.Calls PyProof.Rows
noncomputable abbrev lawR : OpenLaw := PySem.Challenge.rw_rw0108_01
theorem ok_sre : sreFenced lawR.row.prog.main = true := by kernel_rfl
theorem ok_mods : ((moduleNames lawR.row.prog.main.body).isEmpty || lookedIntoSs (moduleNames lawR.row.prog.main.body) lawR.row.prog.main.body) = true := by kernel_rfl
theorem ok_names : namesResolve lawR.row.prog = true := by kernel_rfl
theorem ok_bound : lawR.row.prog.boundNames.all (fun n => !worldNames.contains n) = true := by kernel_rfl
theorem ok_bare : (["vars", "dir", "locals"] : List Str).filter (readsOut lawR.row.prog lawR.row.prog.main.body) = [] := by kernel_rfl
theorem ok_road : noRoadLSs { strict := !(importedModules lawR.row.prog.main.body).all cThrough.contains, foot := none, bare := [] } lawR.row.prog.main.body = true := by kernel_rfl
theorem ok_meet : namesMeet lawR.row.prog lawR.row.prog.main.body (fun _ n => attrL n) = true := by kernel_rfl
theorem ok_looks : looksOpen lawR.row.prog = true :=
  look_both (look_both (look_both (look_both (look_both ok_sre ok_mods) ok_names) ok_bound) (by rw [ok_bare]; exact ok_road)) ok_meet
theorem ok_part : lawR.row.partSaid = true := by
  delta OpenRow.partSaid
  rw [ok_looks]
  kernel_rfl
theorem ok_row : lawR.row.wellSaid = true := by
  delta OpenRow.wellSaid
  rw [ok_part]
  kernel_rfl
theorem ok_foot : noRoadLSs { strict := true, foot := some lawR.bound', writes := lawR.writes, may := lawR.may } lawR.footing = true := by kernel_rfl
theorem ok_reads : (lawR.bound'.all fun n => !builtinNamed n || lawR.about == [n] || !lawR.reads n) = true := by kernel_rfl
theorem ok_above : (namesMeet lawR.prog lawR.above fun _ n => !lawR.own.contains n) = true := by kernel_rfl
theorem ok_said : lawR.wellSaid = true := by
  delta OpenLaw.wellSaid
  rw [ok_row, ok_foot, ok_reads, ok_above]
  kernel_rfl
end
/-! MSt -/
section
open PySem PySem.W PySem.Spec PySem.Calls PyProof.Rows
theorem st_a {M : Model} {A : Around} {E : Value → Shared → Prop} {s : Shared} {Q} {z1 z2 z3 z4 z5} (h : Stop (wpAny M A (exec (PySem.Stmt.While z1 z2 z3 z4) z5) Q E s)) : wpAny M A (exec (PySem.Stmt.While z1 z2 z3 z4) z5) Q E s := h
theorem st_b {M : Model} {A : Around} {E : Value → Shared → Prop} {s : Shared} {Q} {z1 z2 z3 z4 z5 z6} (h : Stop (wpAny M A (assign (PySem.Expr.Tuple [z1, z2] z3 z4) z5 (Value.ref z6)) Q E s)) : wpAny M A (assign (PySem.Expr.Tuple [z1, z2] z3 z4) z5 (Value.ref z6)) Q E s := h
theorem st_c {M : Model} {A : Around} {E : Value → Shared → Prop} {s : Shared} {Q} {z1 z2 z3 z4 z5 z6} (h : Stop (wpAny M A (exec (PySem.Stmt.For z1 z2 z3 z4 z5) z6) Q E s)) : wpAny M A (exec (PySem.Stmt.For z1 z2 z3 z4 z5) z6) Q E s := h
theorem st_d {M : Model} {A : Around} {E : Value → Shared → Prop} {s : Shared} {Q} {z1} (h : Stop (wpAny M A (pyIter (Value.ref z1)) Q E s)) : wpAny M A (pyIter (Value.ref z1)) Q E s := h
theorem st_e {M : Model} {A : Around} {E : Value → Shared → Prop} {s : Shared} {Q} {z1 z2 z3 z4 z5} (h : Stop (wpAny M A (binaryOp z1 (Value.str z2 z3) (Value.str z4 z5)) Q E s)) : wpAny M A (binaryOp z1 (Value.str z2 z3) (Value.str z4 z5)) Q E s := h
theorem st_f {M : Model} {A : Around} {E : Value → Shared → Prop} {s : Shared} {Q} {z1 z2 z3 z4 z5} (h : Stop (wpAny M A (binaryOp z1 (Value.str z2 z3) (Value.int z4 z5)) Q E s)) : wpAny M A (binaryOp z1 (Value.str z2 z3) (Value.int z4 z5)) Q E s := h
theorem st_g {M : Model} {A : Around} {E : Value → Shared → Prop} {s : Shared} {Q} {z1 z2 z3 z4 z5} (h : Stop (wpAny M A (subscriptTail (PySem.Expr.List z1 z2) z3 z4 z5) Q E s)) : wpAny M A (subscriptTail (PySem.Expr.List z1 z2) z3 z4 z5) Q E s := h
theorem st_h {M : Model} {A : Around} {E : Value → Shared → Prop} {s : Shared} {Q} {z1 z2 z3 z4} (h : Stop (wpAny M A (exec (PySem.Stmt.Assign z1 z2 z3) z4) Q E s)) : wpAny M A (exec (PySem.Stmt.Assign z1 z2 z3) z4) Q E s := h
theorem st_i {M : Model} {A : Around} {E : Value → Shared → Prop} {s : Shared} {Q} {z1 z2 z3 z4 z5} (h : Stop (wpAny M A (eval (PySem.Expr.ListComp z1 z2 z3 z4) z5) Q E s)) : wpAny M A (eval (PySem.Expr.ListComp z1 z2 z3 z4) z5) Q E s := h
theorem st_j {M : Model} {A : Around} {E : Value → Shared → Prop} {s : Shared} {Q} {z1 z2 z3 z4 z5 z6 z7} (h : Stop (wpAny M A (subscriptTail z1 (PySem.Expr.Slice z2 z3 z4 z5) z6 z7) Q E s)) : wpAny M A (subscriptTail z1 (PySem.Expr.Slice z2 z3 z4 z5) z6 z7) Q E s := h
theorem st_k {M : Model} {A : Around} {E : Value → Shared → Prop} {s : Shared} {Q} {z1} (h : Stop (wpAny M A (newList z1) Q E s)) : wpAny M A (newList z1) Q E s := h
theorem st_l {M : Model} {A : Around} {E : Value → Shared → Prop} {s : Shared} {Q} {z1 z2} (h : Stop (wpAny M A (pyIter (Value.str z1 z2)) Q E s)) : wpAny M A (pyIter (Value.str z1 z2)) Q E s := h
theorem st_m {M : Model} {A : Around} {E : Value → Shared → Prop} {s : Shared} {Q} {z1 z2 z3} (h : Stop (wpAny M A (binaryOp z1 (Value.ref z2) (Value.ref z3)) Q E s)) : wpAny M A (binaryOp z1 (Value.ref z2) (Value.ref z3)) Q E s := h
theorem st_n {M : Model} {A : Around} {E : Value → Shared → Prop} {s : Shared} {Q} {z1 z2 z3} (h : Stop (wpAny M A (compareOp z1 (Value.ref z2) (Value.ref z3)) Q E s)) : wpAny M A (compareOp z1 (Value.ref z2) (Value.ref z3)) Q E s := h
theorem st_o {M : Model} {A : Around} {E : Value → Shared → Prop} {s : Shared} {Q} {z1 z2 z3 z4 z5} (h : Stop (wpAny M A (eval (PySem.Expr.Lambda z1 z2 z3 z4) z5) Q E s)) : wpAny M A (eval (PySem.Expr.Lambda z1 z2 z3 z4) z5) Q E s := h
theorem st_p {M : Model} {A : Around} {E : Value → Shared → Prop} {s : Shared} {Q} {z1 z2 z3 z4 z5 z6} (h : Stop (wpAny M A (subscriptTail z1 z2 (Value.str z3 z4) (Value.int z5 z6)) Q E s)) : wpAny M A (subscriptTail z1 z2 (Value.str z3 z4) (Value.int z5 z6)) Q E s := h
end
/-! MB1 -/
section
open PySem PySem.W PySem.Spec PySem.Calls PyProof.Rows
noncomputable def inB1 (c : Int) : Bool := b1E.any fun e => Value.isInt c e.2
noncomputable def b1Ok : List (Int × Value) → Bool
  | [] => true
  | e :: r => (match e.2 with | .int k _ => e.1 == hashInt k | _ => false) && b1Ok r
theorem b1Ok_spec {prog : Program} {w : World} : ∀ l, b1Ok l = true → ElemsOf (intKind prog w) l
  | [], _ => fun _ h => nomatch h
  | e :: r, h => by
    unfold b1Ok at h
    rw [Bool.and_eq_true] at h
    intro x hx
    rcases List.mem_cons.mp hx with rfl | hx
    · obtain ⟨h, _⟩ := h
      split at h
      · rename_i k t q
        have e1 := eq_of_beq h
        refine ⟨⟨k, ?_, e1⟩, by rw [q]; rfl⟩
        show Value.isInt k x.2 = true
        rw [q]; simp [Value.isInt]
      · cases h
    · exact b1Ok_spec r h.2 x hx
theorem b1_set {w : World} {h : Heap} (X : (K w.params).In h) : h.SetOf (intKind pw w) 83 inB1 27 :=
  ⟨o83 w.params, b1E.toArray, _, _, X 83 _ rfl, ⟨rfl, rfl, rfl⟩, rfl, b1Ok_spec _ (by decide +kernel), fun k => by
    show inB1 k = true ↔ ∃ e ∈ b1E.toArray.toList, Value.isInt k e.2 = true
    rw [List.toList_toArray]
    exact List.any_eq_true, by decide +kernel, rfl, by decide +kernel⟩
set_option maxHeartbeats 1000000 in
theorem b1_spec (w : World) (N : Names) (c : Nat) (t : Tok) {A : Around} {s : Shared} {Q : Value → Shared → Prop} {E : Value → Shared → Prop} (O : Okh w N s.heap) (hd : A.depth < 900) (hu : A.units < 9000)
    (hret : ∀ h' tk, Ext s.heap h' → Q (.bool (inB1 c)) { s with heap := h', toks := tk }) : wpAny (model pw w) A (call (.ref 93) [.str ⟨#[c]⟩ t] []) Q E s := by
  have _kf : (fun (_ : OpenLaw) (_ : Params → Frag) => True) PySem.Challenge.rw_rw0108_01 K := by (k_fill; trivial)
  clear _kf
  refine enterP (f := 93) (binds := [(Str.ofString "code", .str ⟨#[c]⟩ t)]) O rfl rfl rfl rfl (BindsTo.of_eq rfl) (Nat.lt_trans hd (by decide)) (by decide) (locs rfl) rfl rfl rfl ?_
  intro h₁ F
  show wpAny (model pw w) (A.deeper (envOf (Str.ofString "in_table_b1") (fSc (stm 12)) s.heap.objs.size 93 (.ref 92))) (execs (fBody (stm 12)) (envOf (Str.ofString "in_table_b1") (fSc (stm 12)) s.heap.objs.size 93 (.ref 92))) _ _ { s with heap := h₁, toks := s.toks + 1 }
  have es := (rfl : fSc (stm 12) = fSc (stm 12))
  conv at es => rhs; whnf
  have eb := (rfl : fBody (stm 12) = fBody (stm 12))
  conv at eb => rhs; whnf
  rw [es, eb]
  clear es eb
  have KX := O.K
  have T := O.T
  have N0 : News s.heap s.heap.objs.size h₁ [] := News.nil
  k_steps
  refine wpAny_inSet_of (knd := intKind pw w) (k := (c : Int)) (intKind_is _ _ _ _) rfl (b1_set (w := w) (KX.keeps (Fr.keep (by assumption)))) ?_
  exact hret _ _ (by exact Fr.keep (by assumption))
end
/-! MB2 -/
section
open PySem PySem.W PySem.Spec PySem.Calls PyProof.Rows
/-- an entry as a pair -/
noncomputable def key2 (e : DictEntry) : Option (Int × Str) := match e with
  | ⟨h, .int k _, .str x _⟩ => if h == k then some (k, x) else none
  | _ => none
theorem b3key2 : (mainE 39).map key2 = b3pairs.map some := by kernel_rfl
theorem key2_some {e : DictEntry} {k : Int} {x : Str} (h : key2 e = some (k, x)) : ∃ t u, e = ⟨k, .int k t, .str x u⟩ := by
  unfold key2 at h
  split at h
  · rename_i hs k' t x' u
    by_cases q : (hs == k') = true
    · rw [if_pos q] at h
      cases h
      exact ⟨t, u, by rw [eq_of_beq q]⟩
    · rw [if_neg q] at h; cases h
  · cases h
theorem find_pairs : ∀ (es : List DictEntry) (ps : List (Int × Str)) (k : Int), es.map key2 = ps.map some → (ps.lookup k = none ∧ (es.find? fun e => Value.isInt k e.key) = none) ∨ ∃ x t u, ps.lookup k = some x ∧ (es.find? fun e => Value.isInt k e.key) = some ⟨k, .int k t, .str x u⟩
  | [], [], k, _ => .inl ⟨rfl, rfl⟩
  | [], _ :: _, _, h => by simp at h
  | _ :: _, [], _, h => by simp at h
  | e :: es, (k', x) :: ps, k, h => by
    rw [List.map_cons, List.map_cons, List.cons.injEq] at h
    obtain ⟨t, u, he⟩ := key2_some h.1
    subst he
    by_cases q : k = k'
    · subst q
      refine .inr ⟨x, t, u, by simp, ?_⟩
      rw [List.find?_cons]
      have : Value.isInt k (Value.int k t) = true := by simp [Value.isInt]
      rw [this]
    · have ih := find_pairs es ps k h.2
      have hb : (k == k') = false := by
        cases z : k == k' with
        | false => rfl
        | true => exact absurd (eq_of_beq z) q
      have hi : Value.isInt k (Value.int k' t) = false := by
        cases z : Value.isInt k (Value.int k' t) with
        | false => rfl
        | true =>
          obtain ⟨t', e⟩ := Value.isInt_shape z
          cases e; exact absurd rfl q
      rw [List.lookup_cons, hb, List.find?_cons, hi]
      exact ih
theorem hash_small {k : Int} (h0 : 0 ≤ k) (h1 : k < 2 ^ 31) : hashInt k = k := by
  have ne1 : (k == -1) = false := by
    cases h : k == -1 with
    | false => rfl
    | true => have := eq_of_beq h; omega
  have e : rawHash k = k := by
    unfold rawHash
    dsimp only
    have hlt : ¬ k < 0 := by omega
    have : ((k.natAbs : Int) % ((2 ^ 61 - 1 : Nat) : Int)) = k := by
      rw [Int.natAbs_of_nonneg h0]; exact Int.emod_eq_of_lt h0 (Int.lt_of_lt_of_le h1 (by decide))
    rw [if_neg hlt, this, ne1]; rfl
  unfold hashInt
  rw [e, ne1]; rfl
theorem b3sm : b3pairs.all (fun x => decide (0 ≤ x.1) && decide (x.1 < 2 ^ 31)) = true := by decide +kernel
theorem b3keys : IntKeys (mainE 39).toArray := fun e he => by
  rw [List.mem_toArray] at he
  have hm : key2 e ∈ b3pairs.map some := b3key2 ▸ List.mem_map_of_mem he
  obtain ⟨⟨k, x⟩, hp, q⟩ := List.mem_map.mp hm
  obtain ⟨t, u, rfl⟩ := key2_some q.symm
  have := List.all_eq_true.mp b3sm _ hp
  rw [Bool.and_eq_true, decide_eq_true_eq, decide_eq_true_eq] at this
  exact ⟨k, t, rfl, (hash_small this.1 this.2).symm⟩
theorem b3_map {w : World} {h : Heap} (X : (K w.params).In h) : h.MapOf (intKind pw w) 94 (fun k => findBy Value.isInt (mainE 39).toArray k) :=
  ⟨mainD 39 w.params, (mainE 39).toArray, _, X 94 _ rfl, ⟨rfl, rfl, rfl⟩, rfl, fun e he => by
    obtain ⟨k, t, e1, e2⟩ := b3keys e he
    exact ⟨k, by rw [e1]; exact intKind_is _ _ _ _, e2⟩, fun _ => rfl⟩
/-- what map_table_b3 gives of one sign -/
noncomputable def mapB3 (c : Nat) : Str := match b3pairs.lookup (c : Int) with
  | some x => x
  | none => Txt.lower (Str.mk #[c])
theorem b3_find (k : Int) : (b3pairs.lookup k = none ∧ findBy Value.isInt (mainE 39).toArray k = none) ∨ ∃ x u, b3pairs.lookup k = some x ∧ findBy Value.isInt (mainE 39).toArray k = some (.str x u) := by
  unfold findBy
  rw [List.find?_toArray]
  rcases find_pairs _ _ k b3key2 with ⟨a, b⟩ | ⟨x, t, u, a, b⟩
  · exact .inl ⟨a, by rw [b]; rfl⟩
  · exact .inr ⟨x, u, a, by rw [b]; rfl⟩
set_option maxHeartbeats 1000000 in
theorem b3_spec (w : World) (N : Names) (c : Nat) (t : Tok) {A : Around} {s : Shared} {Q : Value → Shared → Prop} {E : Value → Shared → Prop} (O : Okh w N s.heap) (hd : A.depth < 900) (hu : A.units < 9000)
    (hret : ∀ h' tk t', Ext s.heap h' → Q (.str (mapB3 c) t') { s with heap := h', toks := tk }) : wpAny (model pw w) A (call (.ref 139) [.str ⟨#[c]⟩ t] []) Q E s := by
  have _kf : (fun (_ : OpenLaw) (_ : Params → Frag) => True) PySem.Challenge.rw_rw0108_01 K := by (k_fill; trivial)
  clear _kf
  refine enterP (f := 139) (binds := [(Str.ofString "code", .str ⟨#[c]⟩ t)]) O rfl rfl rfl rfl (BindsTo.of_eq rfl) (Nat.lt_trans hd (by decide)) (by decide) (locs rfl) rfl rfl rfl ?_
  intro h₁ F0
  show wpAny (model pw w) (A.deeper (envOf (Str.ofString "map_table_b3") (fSc (stm 14)) s.heap.objs.size 139 (.ref 138))) (execs (fBody (stm 14)) (envOf (Str.ofString "map_table_b3") (fSc (stm 14)) s.heap.objs.size 139 (.ref 138))) _ _ { s with heap := h₁, toks := s.toks + 1 }
  have es := (rfl : fSc (stm 14) = fSc (stm 14))
  conv at es => rhs; whnf
  have eb := (rfl : fBody (stm 14) = fBody (stm 14))
  conv at eb => rhs; whnf
  rw [es, eb]
  clear es eb
  have KX := O.K
  have T := O.T
  have N0 : News s.heap s.heap.objs.size h₁ [] := News.nil
  k_steps
  refine getMethod_builtin (T := "dict") (id := "dict.get") ⟨mainD 39 w.params, KX.keeps (Fr.keep (by assumption)) 94 _ rfl, rfl⟩ F.plainAttrs_dict F.slot_dict_get F.type_dict_get (fun a e => by cases e; exact ⟨mainD 39 w.params, KX.keeps (Fr.keep (by assumption)) 94 _ rfl, rfl⟩) ?_
  dsimp only
  refine dict_get1S (knd := intKind pw w) (by decide) ?_
  rw [if_neg Bool.false_ne_true]
  k_steps
  refine ⟨(c : Int), _, intKind_is _ _ _ _, b3_map (KX.keeps (Fr.keep (by assumption))), ?_⟩
  unfold mapB3 at hret
  rcases b3_find (c : Int) with ⟨e1, e2⟩ | ⟨x, u, e1, e2⟩
  · rw [e2]
    rw [e1] at hret
    dsimp only [Option.getD]
    k_steps
    refine SCL.lower (by show 1 ≤ 5592405; decide) (fun _ => ?_)
    exact hret _ _ _ (by exact Fr.keep (by assumption))
  · rw [e2]
    rw [e1] at hret
    dsimp only [Option.getD]
    k_steps
    exact hret _ _ _ (by exact Fr.keep (by assumption))
end
section
open PySem PySem.W PySem.Spec PySem.Calls PyProof.Rows
local macro_rules | `(tactic| walk_at "exec While") => `(tactic| with_reducible refine st_a ?_)
section
open PySem PySem.W PySem.Spec PySem.Calls PyProof.Rows
local macro_rules | `(tactic| walk_at "exec While Compare cons nil") => `(tactic| with_reducible refine st_a ?_)
/-! MB3 -/
section
open PySem PySem.W PySem.Spec PySem.Calls PyProof.Rows
noncomputable def bis (p : Nat → Bool) : Nat → Nat → Nat → Nat
  | 0, lo, _ => lo
  | f + 1, lo, hi => if lo < hi then (if p ((lo + hi) / 2) then bis p f ((lo + hi) / 2 + 1) hi else bis p f lo ((lo + hi) / 2)) else lo
theorem bis_done {p : Nat → Bool} {n lo hi : Nat} (h : ¬ lo < hi) : bis p n lo hi = lo := by
  cases n with
  | zero => rfl
  | succ n => unfold bis; rw [if_neg h]
theorem bis_up {p : Nat → Bool} {n lo hi : Nat} (h : lo < hi) (q : p ((lo + hi) / 2) = true) : bis p (n + 1) lo hi = bis p n ((lo + hi) / 2 + 1) hi := by
  conv => lhs; unfold bis
  rw [if_pos h, if_pos q]
theorem bis_dn {p : Nat → Bool} {n lo hi : Nat} (h : lo < hi) (q : p ((lo + hi) / 2) = false) : bis p (n + 1) lo hi = bis p n lo ((lo + hi) / 2) := by
  conv => lhs; unfold bis
  rw [if_pos h, if_neg (by rw [q]; exact Bool.false_ne_true)]
theorem mid_eq (lo hi : Nat) : ((lo : Int) + (hi : Int)).fdiv 2 = (((lo + hi) / 2 : Nat) : Int) := by
  rw [Int.fdiv_eq_ediv_of_nonneg _ (by decide)]; omega
noncomputable abbrev bBinds (a x lo hi key : Value) : List (Str × Value) := [(Str.ofString "a", a), (Str.ofString "x", x), (Str.ofString "lo", lo), (Str.ofString "hi", hi), (Str.ofString "key", key)]
noncomputable abbrev bm (a x key lo hi : Value) (mid : Option Value) : Str → Option Value := fun y => if y = Str.ofString "lo" then some lo else if y = Str.ofString "hi" then some hi else if y = Str.ofString "mid" then mid else (bBinds a x .none .none key).reverse.lookup y
theorem bm_start {a x key lo hi : Value} (y : Str) : (bBinds a x lo hi key).reverse.lookup y = bm a x key lo hi none y := by
  by_cases h1 : y = Str.ofString "lo"
  · subst h1; rfl
  · by_cases h2 : y = Str.ofString "hi"
    · subst h2; rfl
    · by_cases h3 : y = Str.ofString "mid"
      · subst h3; rfl
      · have e1 : (y == Str.ofString "lo") = false := beq_eq_false_iff_ne.mpr h1
        have e2 : (y == Str.ofString "hi") = false := beq_eq_false_iff_ne.mpr h2
        simp only [bm, h1, h2, h3, if_false, bBinds, List.reverse_cons, List.reverse_nil, List.nil_append, List.cons_append, List.lookup_cons, e1, e2]
theorem bm_lo {a x key lo hi lo' vm : Value} {mid : Option Value} (y : Str) : (if y = Str.ofString "lo" then some lo' else if y = Str.ofString "mid" then some vm else bm a x key lo hi mid y) = bm a x key lo' hi (some vm) y := by
  by_cases h1 : y = Str.ofString "lo"
  · subst h1; rfl
  · by_cases h2 : y = Str.ofString "hi"
    · subst h2; rfl
    · by_cases h3 : y = Str.ofString "mid"
      · subst h3; rfl
      · simp only [bm, h1, h2, h3, if_false]
theorem bm_hi {a x key lo hi hi' vm : Value} {mid : Option Value} (y : Str) : (if y = Str.ofString "hi" then some hi' else if y = Str.ofString "mid" then some vm else bm a x key lo hi mid y) = bm a x key lo hi' (some vm) y := by
  by_cases h1 : y = Str.ofString "lo"
  · subst h1; rfl
  · by_cases h2 : y = Str.ofString "hi"
    · subst h2; rfl
    · by_cases h3 : y = Str.ofString "mid"
      · subst h3; rfl
      · simp only [bm, h1, h2, h3, if_false]
theorem mid_u1 {lo hi : Nat} (h : lo < hi) : (lo + hi) / 2 + 1 ≤ hi := by omega
theorem mid_u2 {lo hi k : Nat} (h : lo < hi) (h2 : hi - lo ≤ k + 1) : hi - ((lo + hi) / 2 + 1) ≤ k := by omega
theorem mid_d1 {lo hi : Nat} (h : lo < hi) : lo ≤ (lo + hi) / 2 := by omega
theorem mid_d2 {lo hi N : Nat} (h : lo < hi) (h2 : hi ≤ N) : (lo + hi) / 2 ≤ N := by omega
theorem mid_d3 {lo hi k : Nat} (h : lo < hi) (h2 : hi - lo ≤ k + 1) : (lo + hi) / 2 - lo ≤ k := by omega
theorem mid_k {lo hi n : Nat} (h : lo < hi) (h2 : hi - lo ≤ n) : ∃ k, n = k + 1 := ⟨n - 1, by omega⟩
theorem mid_no {lo hi : Nat} (h : ¬ lo < hi) : ¬ (decide ((lo : Int) < (hi : Int)) = true) := fun e => h (Int.ofNat_lt.mp (of_decide_eq_true e))
end
/-! MB4 -/
section
open PySem PySem.W PySem.Spec PySem.Calls PyProof.Rows
noncomputable abbrev sg (c : Nat) : Str := Str.mk #[c]
theorem bm_startN {a x key lo hi hi' : Value} (y : Str) : (if y = Str.ofString "hi" then some hi' else (bBinds a x lo hi key).reverse.lookup y) = bm a x key lo hi' none y := by
  by_cases h2 : y = Str.ofString "hi"
  · subst h2; rfl
  · rw [if_neg h2, bm_start]
    unfold bm
    simp only [h2, if_false]
/-- Python's < of two texts -/
noncomputable def ltS (x y : Str) : Bool := decide (x.cps.toList < y.cps.toList)
set_option maxHeartbeats 2000000 in
theorem bl_int2 (w : World) (N : Names) (l : Addr) (vs : List Value) (ns : List Int) (x : Int) (tx t1 t2 : Tok) (lo hi : Nat) (args : Args) {A : Around} {s : Shared} {Q : Value → Shared → Prop} {E : Value → Shared → Prop} (O : Okh w N s.heap) (hd : A.depth < 890) (hu : A.units < 8900)
    (hl : s.heap.IsList l vs.toArray) (hn : IntsAre vs ns) (hlh : lo ≤ hi) (hhi : hi ≤ ns.length) (hlen : ns.length < 1000)
    (hb : ∀ fd, (o58 w.params).data = .func fd → BindsTo s fd args (bBinds (.ref l) (.int x tx) (.int lo t1) (.int hi t2) .none))
    (hret : ∀ h' tk t', Ext s.heap h' → Q (.int (bis (fun i => decide (ns.getD i 0 < x)) (hi - lo) lo hi : Nat) t') { s with heap := h', toks := tk }) : wpAny (model pw w) A (call (.ref 58) args.pos args.kw) Q E s := by
  have _kf : (fun (_ : OpenLaw) (_ : Params → Frag) => True) PySem.Challenge.rw_rw0108_01 K := by (k_fill; trivial)
  clear _kf
  refine enterP (f := 58) (binds := bBinds (.ref l) (.int x tx) (.int lo t1) (.int hi t2) .none) O rfl rfl rfl rfl (hb _ rfl) (Nat.lt_trans hd (by decide)) (by decide) (locs rfl) rfl rfl rfl ?_
  intro h₁ F0
  show wpAny (model pw w) (A.deeper (envOf (Str.ofString "bisect_left") (fSc (stm 4)) s.heap.objs.size 58 (.ref 57))) (execs (fBody (stm 4)) (envOf (Str.ofString "bisect_left") (fSc (stm 4)) s.heap.objs.size 58 (.ref 57))) _ _ { s with heap := h₁, toks := s.toks + 5 }
  have es := (rfl : fSc (stm 4) = fSc (stm 4))
  conv at es => rhs; whnf
  have eb := (rfl : fBody (stm 4) = fBody (stm 4))
  conv at eb => rhs; whnf
  rw [es, eb]
  clear es eb
  have KX := O.K
  have T := O.T
  have N0 : News s.heap s.heap.objs.size h₁ [] := News.nil
  have hvl : vs.length = ns.length := by have := hn.length; simpa using this
  k_steps
  rename Fr _ _ _ _ => F9
  refine while_inv (fun n s' => ∃ (lo' hi' : Nat) (u1 u2 : Tok) (mid : Option Value) (h' : Heap) (tk' : Nat), s' = { s with heap := h', toks := tk' } ∧ Fr s.heap s.heap.objs.size h' (bm (.ref l) (.int x tx) .none (.int lo' u1) (.int hi' u2) mid) ∧ lo' ≤ hi' ∧ hi' ≤ ns.length ∧ hi' - lo' ≤ n ∧
      bis (fun i => decide (ns.getD i 0 < x)) n lo' hi' = bis (fun i => decide (ns.getD i 0 < x)) (hi - lo) lo hi) ?_ (hi - lo) ⟨lo, hi, t1, t2, none, _, _, rfl, (Fr.cast F9 bm_start), hlh, hhi, Nat.le_refl _, rfl⟩
  rintro n s' ⟨lo', hi', u1, u2, mid, h', tk', es, F1, hlh', hhi', hn', hR⟩
  subst es
  clear F9
  have N1 : News s.heap s.heap.objs.size h' [] := News.nil
  k_steps
  refine Stop.intro ?_
  by_cases hlt : lo' < hi'
  · rw [if_pos (decide_eq_true (Int.ofNat_lt.mpr hlt))]
    obtain ⟨k, rfl⟩ := mid_k hlt hn'
    k_steps
    · rename List.getD _ _ _ < _ => hc
      rw [mid_eq, Int.toNat_natCast] at hc
      rw [bis_up hlt (decide_eq_true hc)] at hR
      have F2 := Fr.cast (by assumption) bm_lo
      rw [mid_eq] at F2
      exact Stop.intro ⟨rfl, k, Nat.lt_succ_self k, (lo' + hi') / 2 + 1, hi', _, _, _, _, _, rfl, F2, mid_u1 hlt, hhi', mid_u2 hlt hn', hR⟩
    · rename ¬ (List.getD _ _ _ < _) => hc
      rw [mid_eq, Int.toNat_natCast] at hc
      rw [bis_dn hlt (decide_eq_false hc)] at hR
      have F2 := Fr.cast (by assumption) bm_hi
      rw [mid_eq] at F2
      exact Stop.intro ⟨rfl, k, Nat.lt_succ_self k, lo', (lo' + hi') / 2, _, _, _, _, _, rfl, F2, mid_d1 hlt, mid_d2 hlt hhi', mid_d3 hlt hn', hR⟩
  · rw [if_neg (mid_no hlt)]
    dsimp only
    k_steps
    rw [← hR, bis_done hlt] at hret
    exact hret _ _ _ (by exact Fr.keep (by assumption))
set_option maxHeartbeats 2000000 in
theorem br_int (w : World) (N : Names) (l : Addr) (vs : List Value) (ns : List Int) (x : Int) (tx t1 t2 : Tok) (lo hi : Nat) (args : Args) {A : Around} {s : Shared} {Q : Value → Shared → Prop} {E : Value → Shared → Prop} (O : Okh w N s.heap) (hd : A.depth < 890) (hu : A.units < 8900)
    (hl : s.heap.IsList l vs.toArray) (hn : IntsAre vs ns) (hlh : lo ≤ hi) (hhi : hi ≤ ns.length) (hlen : ns.length < 1000)
    (hb : ∀ fd, (o49 w.params).data = .func fd → BindsTo s fd args (bBinds (.ref l) (.int x tx) (.int lo t1) (.int hi t2) .none))
    (hret : ∀ h' tk t', Ext s.heap h' → Q (.int (bis (fun i => !decide (x < ns.getD i 0)) (hi - lo) lo hi : Nat) t') { s with heap := h', toks := tk }) : wpAny (model pw w) A (call (.ref 49) args.pos args.kw) Q E s := by
  have _kf : (fun (_ : OpenLaw) (_ : Params → Frag) => True) PySem.Challenge.rw_rw0108_01 K := by (k_fill; trivial)
  clear _kf
  refine enterP (f := 49) (binds := bBinds (.ref l) (.int x tx) (.int lo t1) (.int hi t2) .none) O rfl rfl rfl rfl (hb _ rfl) (Nat.lt_trans hd (by decide)) (by decide) (locs rfl) rfl rfl rfl ?_
  intro h₁ F0
  show wpAny (model pw w) (A.deeper (envOf (Str.ofString "bisect_right") (fSc (stm 3)) s.heap.objs.size 49 (.ref 48))) (execs (fBody (stm 3)) (envOf (Str.ofString "bisect_right") (fSc (stm 3)) s.heap.objs.size 49 (.ref 48))) _ _ { s with heap := h₁, toks := s.toks + 5 }
  have es := (rfl : fSc (stm 3) = fSc (stm 3))
  conv at es => rhs; whnf
  have eb := (rfl : fBody (stm 3) = fBody (stm 3))
  conv at eb => rhs; whnf
  rw [es, eb]
  clear es eb
  have KX := O.K
  have T := O.T
  have N0 : News s.heap s.heap.objs.size h₁ [] := News.nil
  have hvl : vs.length = ns.length := by have := hn.length; simpa using this
  k_steps
  rename Fr _ _ _ _ => F9
  refine while_inv (fun n s' => ∃ (lo' hi' : Nat) (u1 u2 : Tok) (mid : Option Value) (h' : Heap) (tk' : Nat), s' = { s with heap := h', toks := tk' } ∧ Fr s.heap s.heap.objs.size h' (bm (.ref l) (.int x tx) .none (.int lo' u1) (.int hi' u2) mid) ∧ lo' ≤ hi' ∧ hi' ≤ ns.length ∧ hi' - lo' ≤ n ∧
      bis (fun i => !decide (x < ns.getD i 0)) n lo' hi' = bis (fun i => !decide (x < ns.getD i 0)) (hi - lo) lo hi) ?_ (hi - lo) ⟨lo, hi, t1, t2, none, _, _, rfl, (Fr.cast F9 bm_start), hlh, hhi, Nat.le_refl _, rfl⟩
  rintro n s' ⟨lo', hi', u1, u2, mid, h', tk', es, F1, hlh', hhi', hn', hR⟩
  subst es
  clear F9
  have N1 : News s.heap s.heap.objs.size h' [] := News.nil
  k_steps
  refine Stop.intro ?_
  by_cases hlt : lo' < hi'
  · rw [if_pos (decide_eq_true (Int.ofNat_lt.mpr hlt))]
    obtain ⟨k, rfl⟩ := mid_k hlt hn'
    k_steps
    · rename _ < List.getD _ _ _ => hc
      rw [mid_eq, Int.toNat_natCast] at hc
      rw [bis_dn hlt ((by show (!decide _) = false; rw [decide_eq_true hc]; rfl))] at hR
      have F2 := Fr.cast (by assumption) bm_hi
      rw [mid_eq] at F2
      exact Stop.intro ⟨rfl, k, Nat.lt_succ_self k, lo', (lo' + hi') / 2, _, _, _, _, _, rfl, F2, mid_d1 hlt, mid_d2 hlt hhi', mid_d3 hlt hn', hR⟩
    · rename ¬ (_ < List.getD _ _ _) => hc
      rw [mid_eq, Int.toNat_natCast] at hc
      rw [bis_up hlt ((by show (!decide _) = true; rw [decide_eq_false hc]; rfl))] at hR
      have F2 := Fr.cast (by assumption) bm_lo
      rw [mid_eq] at F2
      exact Stop.intro ⟨rfl, k, Nat.lt_succ_self k, (lo' + hi') / 2 + 1, hi', _, _, _, _, _, rfl, F2, mid_u1 hlt, hhi', mid_u2 hlt hn', hR⟩
  · rw [if_neg (mid_no hlt)]
    dsimp only
    k_steps
    rw [← hR, bis_done hlt] at hret
    exact hret _ _ _ (by exact Fr.keep (by assumption))
set_option maxHeartbeats 2000000 in
theorem bl_intN (w : World) (N : Names) (l : Addr) (vs : List Value) (ns : List Int) (x : Int) (tx t1 : Tok) (args : Args) {A : Around} {s : Shared} {Q : Value → Shared → Prop} {E : Value → Shared → Prop} (O : Okh w N s.heap) (hd : A.depth < 890) (hu : A.units < 8900)
    (hl : s.heap.IsList l vs.toArray) (hn : IntsAre vs ns) (hlen : ns.length < 1000)
    (hb : ∀ fd, (o58 w.params).data = .func fd → BindsTo s fd args (bBinds (.ref l) (.int x tx) (.int 0 t1) .none .none))
    (hret : ∀ h' tk t', Ext s.heap h' → Q (.int (bis (fun i => decide (ns.getD i 0 < x)) ns.length 0 ns.length : Nat) t') { s with heap := h', toks := tk }) : wpAny (model pw w) A (call (.ref 58) args.pos args.kw) Q E s := by
  have _kf : (fun (_ : OpenLaw) (_ : Params → Frag) => True) PySem.Challenge.rw_rw0108_01 K := by (k_fill; trivial)
  clear _kf
  refine enterP (f := 58) (binds := bBinds (.ref l) (.int x tx) (.int 0 t1) .none .none) O rfl rfl rfl rfl (hb _ rfl) (Nat.lt_trans hd (by decide)) (by decide) (locs rfl) rfl rfl rfl ?_
  intro h₁ F0
  show wpAny (model pw w) (A.deeper (envOf (Str.ofString "bisect_left") (fSc (stm 4)) s.heap.objs.size 58 (.ref 57))) (execs (fBody (stm 4)) (envOf (Str.ofString "bisect_left") (fSc (stm 4)) s.heap.objs.size 58 (.ref 57))) _ _ { s with heap := h₁, toks := s.toks + 5 }
  have es := (rfl : fSc (stm 4) = fSc (stm 4))
  conv at es => rhs; whnf
  have eb := (rfl : fBody (stm 4) = fBody (stm 4))
  conv at eb => rhs; whnf
  rw [es, eb]
  clear es eb
  have KX := O.K
  have T := O.T
  have N0 : News s.heap s.heap.objs.size h₁ [] := News.nil
  have hvl : vs.length = ns.length := by have := hn.length; simpa using this
  k_steps
  rename Fr _ _ _ _ => F9
  refine while_inv (fun n s' => ∃ (lo' hi' : Nat) (u1 u2 : Tok) (mid : Option Value) (h' : Heap) (tk' : Nat), s' = { s with heap := h', toks := tk' } ∧ Fr s.heap s.heap.objs.size h' (bm (.ref l) (.int x tx) .none (.int lo' u1) (.int hi' u2) mid) ∧ lo' ≤ hi' ∧ hi' ≤ ns.length ∧ hi' - lo' ≤ n ∧
      bis (fun i => decide (ns.getD i 0 < x)) n lo' hi' = bis (fun i => decide (ns.getD i 0 < x)) ns.length 0 ns.length) ?_ ns.length ⟨0, ns.length, t1, _, none, _, _, rfl, (Fr.cast F9 bm_startN), Nat.zero_le _, Nat.le_refl _, Nat.le_refl _, rfl⟩
  rintro n s' ⟨lo', hi', u1, u2, mid, h', tk', es, F1, hlh', hhi', hn', hR⟩
  subst es
  clear F9
  have N1 : News s.heap s.heap.objs.size h' [] := News.nil
  k_steps
  refine Stop.intro ?_
  by_cases hlt : lo' < hi'
  · rw [if_pos (decide_eq_true (Int.ofNat_lt.mpr hlt))]
    obtain ⟨k, rfl⟩ := mid_k hlt hn'
    k_steps
    · rename List.getD _ _ _ < _ => hc
      rw [mid_eq, Int.toNat_natCast] at hc
      rw [bis_up hlt (decide_eq_true hc)] at hR
      have F2 := Fr.cast (by assumption) bm_lo
      rw [mid_eq] at F2
      exact Stop.intro ⟨rfl, k, Nat.lt_succ_self k, (lo' + hi') / 2 + 1, hi', _, _, _, _, _, rfl, F2, mid_u1 hlt, hhi', mid_u2 hlt hn', hR⟩
    · rename ¬ (List.getD _ _ _ < _) => hc
      rw [mid_eq, Int.toNat_natCast] at hc
      rw [bis_dn hlt (decide_eq_false hc)] at hR
      have F2 := Fr.cast (by assumption) bm_hi
      rw [mid_eq] at F2
      exact Stop.intro ⟨rfl, k, Nat.lt_succ_self k, lo', (lo' + hi') / 2, _, _, _, _, _, rfl, F2, mid_d1 hlt, mid_d2 hlt hhi', mid_d3 hlt hn', hR⟩
  · rw [if_neg (mid_no hlt)]
    dsimp only
    k_steps
    rw [← hR, bis_done hlt] at hret
    exact hret _ _ _ (by exact Fr.keep (by assumption))
set_option maxHeartbeats 2000000 in
theorem br_intN (w : World) (N : Names) (l : Addr) (vs : List Value) (ns : List Int) (x : Int) (tx t1 : Tok) (args : Args) {A : Around} {s : Shared} {Q : Value → Shared → Prop} {E : Value → Shared → Prop} (O : Okh w N s.heap) (hd : A.depth < 890) (hu : A.units < 8900)
    (hl : s.heap.IsList l vs.toArray) (hn : IntsAre vs ns) (hlen : ns.length < 1000)
    (hb : ∀ fd, (o49 w.params).data = .func fd → BindsTo s fd args (bBinds (.ref l) (.int x tx) (.int 0 t1) .none .none))
    (hret : ∀ h' tk t', Ext s.heap h' → Q (.int (bis (fun i => !decide (x < ns.getD i 0)) ns.length 0 ns.length : Nat) t') { s with heap := h', toks := tk }) : wpAny (model pw w) A (call (.ref 49) args.pos args.kw) Q E s := by
  have _kf : (fun (_ : OpenLaw) (_ : Params → Frag) => True) PySem.Challenge.rw_rw0108_01 K := by (k_fill; trivial)
  clear _kf
  refine enterP (f := 49) (binds := bBinds (.ref l) (.int x tx) (.int 0 t1) .none .none) O rfl rfl rfl rfl (hb _ rfl) (Nat.lt_trans hd (by decide)) (by decide) (locs rfl) rfl rfl rfl ?_
  intro h₁ F0
  show wpAny (model pw w) (A.deeper (envOf (Str.ofString "bisect_right") (fSc (stm 3)) s.heap.objs.size 49 (.ref 48))) (execs (fBody (stm 3)) (envOf (Str.ofString "bisect_right") (fSc (stm 3)) s.heap.objs.size 49 (.ref 48))) _ _ { s with heap := h₁, toks := s.toks + 5 }
  have es := (rfl : fSc (stm 3) = fSc (stm 3))
  conv at es => rhs; whnf
  have eb := (rfl : fBody (stm 3) = fBody (stm 3))
  conv at eb => rhs; whnf
  rw [es, eb]
  clear es eb
  have KX := O.K
  have T := O.T
  have N0 : News s.heap s.heap.objs.size h₁ [] := News.nil
  have hvl : vs.length = ns.length := by have := hn.length; simpa using this
  k_steps
  rename Fr _ _ _ _ => F9
  refine while_inv (fun n s' => ∃ (lo' hi' : Nat) (u1 u2 : Tok) (mid : Option Value) (h' : Heap) (tk' : Nat), s' = { s with heap := h', toks := tk' } ∧ Fr s.heap s.heap.objs.size h' (bm (.ref l) (.int x tx) .none (.int lo' u1) (.int hi' u2) mid) ∧ lo' ≤ hi' ∧ hi' ≤ ns.length ∧ hi' - lo' ≤ n ∧
      bis (fun i => !decide (x < ns.getD i 0)) n lo' hi' = bis (fun i => !decide (x < ns.getD i 0)) ns.length 0 ns.length) ?_ ns.length ⟨0, ns.length, t1, _, none, _, _, rfl, (Fr.cast F9 bm_startN), Nat.zero_le _, Nat.le_refl _, Nat.le_refl _, rfl⟩
  rintro n s' ⟨lo', hi', u1, u2, mid, h', tk', es, F1, hlh', hhi', hn', hR⟩
  subst es
  clear F9
  have N1 : News s.heap s.heap.objs.size h' [] := News.nil
  k_steps
  refine Stop.intro ?_
  by_cases hlt : lo' < hi'
  · rw [if_pos (decide_eq_true (Int.ofNat_lt.mpr hlt))]
    obtain ⟨k, rfl⟩ := mid_k hlt hn'
    k_steps
    · rename _ < List.getD _ _ _ => hc
      rw [mid_eq, Int.toNat_natCast] at hc
      rw [bis_dn hlt ((by show (!decide _) = false; rw [decide_eq_true hc]; rfl))] at hR
      have F2 := Fr.cast (by assumption) bm_hi
      rw [mid_eq] at F2
      exact Stop.intro ⟨rfl, k, Nat.lt_succ_self k, lo', (lo' + hi') / 2, _, _, _, _, _, rfl, F2, mid_d1 hlt, mid_d2 hlt hhi', mid_d3 hlt hn', hR⟩
    · rename ¬ (_ < List.getD _ _ _) => hc
      rw [mid_eq, Int.toNat_natCast] at hc
      rw [bis_up hlt ((by show (!decide _) = true; rw [decide_eq_false hc]; rfl))] at hR
      have F2 := Fr.cast (by assumption) bm_lo
      rw [mid_eq] at F2
      exact Stop.intro ⟨rfl, k, Nat.lt_succ_self k, (lo' + hi') / 2 + 1, hi', _, _, _, _, _, rfl, F2, mid_u1 hlt, hhi', mid_u2 hlt hn', hR⟩
  · rw [if_neg (mid_no hlt)]
    dsimp only
    k_steps
    rw [← hR, bis_done hlt] at hret
    exact hret _ _ _ (by exact Fr.keep (by assumption))
set_option maxHeartbeats 2000000 in
theorem bl_str (w : World) (N : Names) (l : Addr) (vs : List Value) (cs : List Nat) (x : Str) (tx t1 : Tok) (args : Args) {A : Around} {s : Shared} {Q : Value → Shared → Prop} {E : Value → Shared → Prop} (O : Okh w N s.heap) (hd : A.depth < 890) (hu : A.units < 8900)
    (hl : s.heap.IsList l vs.toArray) (hn : StrsAre vs (cs.map sg)) (hlen : cs.length < 1000)
    (hb : ∀ fd, (o58 w.params).data = .func fd → BindsTo s fd args (bBinds (.ref l) (.str x tx) (.int 0 t1) .none (.ref 139)))
    (hret : ∀ h' tk t', Ext s.heap h' → Q (.int (bis (fun i => ltS (mapB3 (cs.getD i 0)) x) cs.length 0 cs.length : Nat) t') { s with heap := h', toks := tk }) : wpAny (model pw w) A (call (.ref 58) args.pos args.kw) Q E s := by
  have _kf : (fun (_ : OpenLaw) (_ : Params → Frag) => True) PySem.Challenge.rw_rw0108_01 K := by (k_fill; trivial)
  clear _kf
  refine enterP (f := 58) (binds := bBinds (.ref l) (.str x tx) (.int 0 t1) .none (.ref 139)) O rfl rfl rfl rfl (hb _ rfl) (Nat.lt_trans hd (by decide)) (by decide) (locs rfl) rfl rfl rfl ?_
  intro h₁ F0
  show wpAny (model pw w) (A.deeper (envOf (Str.ofString "bisect_left") (fSc (stm 4)) s.heap.objs.size 58 (.ref 57))) (execs (fBody (stm 4)) (envOf (Str.ofString "bisect_left") (fSc (stm 4)) s.heap.objs.size 58 (.ref 57))) _ _ { s with heap := h₁, toks := s.toks + 5 }
  have es := (rfl : fSc (stm 4) = fSc (stm 4))
  conv at es => rhs; whnf
  have eb := (rfl : fBody (stm 4) = fBody (stm 4))
  conv at eb => rhs; whnf
  rw [es, eb]
  clear es eb
  have KX := O.K
  have T := O.T
  have N0 : News s.heap s.heap.objs.size h₁ [] := News.nil
  have hvl : vs.length = cs.length := by have := StrsAre.length hn; simpa using this
  k_steps
  refine call_len_list (Fr.lst (by assumption) hl) (by rw [List.size_toArray, hvl]; omega) ?_
  k_steps
  rename Fr _ _ _ _ => F9
  rw [show vs.toArray.size = cs.length by rw [List.size_toArray]; exact hvl] at F9
  refine while_inv (fun n s' => ∃ (lo' hi' : Nat) (u1 u2 : Tok) (mid : Option Value) (h' : Heap) (tk' : Nat), s' = { s with heap := h', toks := tk' } ∧ Fr s.heap s.heap.objs.size h' (bm (.ref l) (.str x tx) (.ref 139) (.int lo' u1) (.int hi' u2) mid) ∧ lo' ≤ hi' ∧ hi' ≤ cs.length ∧ hi' - lo' ≤ n ∧
      bis (fun i => ltS (mapB3 (cs.getD i 0)) x) n lo' hi' = bis (fun i => ltS (mapB3 (cs.getD i 0)) x) cs.length 0 cs.length) ?_ cs.length ⟨0, cs.length, t1, _, none, _, _, rfl, (Fr.cast F9 bm_startN), Nat.zero_le _, Nat.le_refl _, Nat.le_refl _, rfl⟩
  rintro n s' ⟨lo', hi', u1, u2, mid, h', tk', es, F1, hlh', hhi', hn', hR⟩
  subst es
  clear F9
  have N1 : News s.heap s.heap.objs.size h' [] := News.nil
  k_steps
  refine Stop.intro ?_
  by_cases hlt : lo' < hi'
  · rw [if_pos (decide_eq_true (Int.ofNat_lt.mpr hlt))]
    obtain ⟨k, rfl⟩ := mid_k hlt hn'
    k_steps
    rw [mid_eq]
    have hmlt : (lo' + hi') / 2 < cs.length := by omega
    obtain ⟨ty, hy⟩ := StrsAre.at hn (j := (lo' + hi') / 2) (y := sg (cs.getD ((lo' + hi') / 2) 0)) (by rw [List.getElem?_map, List.getD_eq_getElem?_getD, List.getElem?_eq_getElem hmlt]; rfl)
    refine item_at (Fr.lst (by assumption) hl) (by omega) (by omega) (by rw [Int.toNat_natCast]; exact hy) ?_
    k_steps
    refine b3_spec w N _ _ (O.ext (Fr.keep (by assumption))) (by show A.depth + 1 < 900; omega) (by show A.units + 3 < 9000; omega) (fun h2 tk2 t2 e2 => ?_)
    rename Fr _ _ _ _ => F9
    have F3 := Fr.ext F9 e2
    have N3 : News s.heap s.heap.objs.size h2 [] := News.nil
    clear F9
    k_steps
    · rename (PySem.Str.cps _).toList < _ => hc
      rw [bis_up hlt (decide_eq_true hc)] at hR
      have F2 := Fr.cast (by assumption) bm_lo
      rw [mid_eq] at F2
      exact Stop.intro ⟨rfl, k, Nat.lt_succ_self k, (lo' + hi') / 2 + 1, hi', _, _, _, _, _, rfl, F2, mid_u1 hlt, hhi', mid_u2 hlt hn', hR⟩
    · rename ¬ ((PySem.Str.cps _).toList < _) => hc
      rw [bis_dn hlt (decide_eq_false hc)] at hR
      have F2 := Fr.cast (by assumption) bm_hi
      rw [mid_eq] at F2
      exact Stop.intro ⟨rfl, k, Nat.lt_succ_self k, lo', (lo' + hi') / 2, _, _, _, _, _, rfl, F2, mid_d1 hlt, mid_d2 hlt hhi', mid_d3 hlt hn', hR⟩
  · rw [if_neg (mid_no hlt)]
    dsimp only
    k_steps
    rw [← hR, bis_done hlt] at hret
    exact hret _ _ _ (by exact Fr.keep (by assumption))
set_option maxHeartbeats 2000000 in
theorem br_str (w : World) (N : Names) (l : Addr) (vs : List Value) (cs : List Nat) (x : Str) (tx t1 : Tok) (args : Args) {A : Around} {s : Shared} {Q : Value → Shared → Prop} {E : Value → Shared → Prop} (O : Okh w N s.heap) (hd : A.depth < 890) (hu : A.units < 8900)
    (hl : s.heap.IsList l vs.toArray) (hn : StrsAre vs (cs.map sg)) (hlen : cs.length < 1000)
    (hb : ∀ fd, (o49 w.params).data = .func fd → BindsTo s fd args (bBinds (.ref l) (.str x tx) (.int 0 t1) .none (.ref 139)))
    (hret : ∀ h' tk t', Ext s.heap h' → Q (.int (bis (fun i => !ltS x (mapB3 (cs.getD i 0))) cs.length 0 cs.length : Nat) t') { s with heap := h', toks := tk }) : wpAny (model pw w) A (call (.ref 49) args.pos args.kw) Q E s := by
  have _kf : (fun (_ : OpenLaw) (_ : Params → Frag) => True) PySem.Challenge.rw_rw0108_01 K := by (k_fill; trivial)
  clear _kf
  refine enterP (f := 49) (binds := bBinds (.ref l) (.str x tx) (.int 0 t1) .none (.ref 139)) O rfl rfl rfl rfl (hb _ rfl) (Nat.lt_trans hd (by decide)) (by decide) (locs rfl) rfl rfl rfl ?_
  intro h₁ F0
  show wpAny (model pw w) (A.deeper (envOf (Str.ofString "bisect_right") (fSc (stm 3)) s.heap.objs.size 49 (.ref 48))) (execs (fBody (stm 3)) (envOf (Str.ofString "bisect_right") (fSc (stm 3)) s.heap.objs.size 49 (.ref 48))) _ _ { s with heap := h₁, toks := s.toks + 5 }
  have es := (rfl : fSc (stm 3) = fSc (stm 3))
  conv at es => rhs; whnf
  have eb := (rfl : fBody (stm 3) = fBody (stm 3))
  conv at eb => rhs; whnf
  rw [es, eb]
  clear es eb
  have KX := O.K
  have T := O.T
  have N0 : News s.heap s.heap.objs.size h₁ [] := News.nil
  have hvl : vs.length = cs.length := by have := StrsAre.length hn; simpa using this
  k_steps
  refine call_len_list (Fr.lst (by assumption) hl) (by rw [List.size_toArray, hvl]; omega) ?_
  k_steps
  rename Fr _ _ _ _ => F9
  rw [show vs.toArray.size = cs.length by rw [List.size_toArray]; exact hvl] at F9
  refine while_inv (fun n s' => ∃ (lo' hi' : Nat) (u1 u2 : Tok) (mid : Option Value) (h' : Heap) (tk' : Nat), s' = { s with heap := h', toks := tk' } ∧ Fr s.heap s.heap.objs.size h' (bm (.ref l) (.str x tx) (.ref 139) (.int lo' u1) (.int hi' u2) mid) ∧ lo' ≤ hi' ∧ hi' ≤ cs.length ∧ hi' - lo' ≤ n ∧
      bis (fun i => !ltS x (mapB3 (cs.getD i 0))) n lo' hi' = bis (fun i => !ltS x (mapB3 (cs.getD i 0))) cs.length 0 cs.length) ?_ cs.length ⟨0, cs.length, t1, _, none, _, _, rfl, (Fr.cast F9 bm_startN), Nat.zero_le _, Nat.le_refl _, Nat.le_refl _, rfl⟩
  rintro n s' ⟨lo', hi', u1, u2, mid, h', tk', es, F1, hlh', hhi', hn', hR⟩
  subst es
  clear F9
  have N1 : News s.heap s.heap.objs.size h' [] := News.nil
  k_steps
  refine Stop.intro ?_
  by_cases hlt : lo' < hi'
  · rw [if_pos (decide_eq_true (Int.ofNat_lt.mpr hlt))]
    obtain ⟨k, rfl⟩ := mid_k hlt hn'
    k_steps
    rw [mid_eq]
    have hmlt : (lo' + hi') / 2 < cs.length := by omega
    obtain ⟨ty, hy⟩ := StrsAre.at hn (j := (lo' + hi') / 2) (y := sg (cs.getD ((lo' + hi') / 2) 0)) (by rw [List.getElem?_map, List.getD_eq_getElem?_getD, List.getElem?_eq_getElem hmlt]; rfl)
    refine item_at (Fr.lst (by assumption) hl) (by omega) (by omega) (by rw [Int.toNat_natCast]; exact hy) ?_
    k_steps
    refine b3_spec w N _ _ (O.ext (Fr.keep (by assumption))) (by show A.depth + 1 < 900; omega) (by show A.units + 3 < 9000; omega) (fun h2 tk2 t2 e2 => ?_)
    rename Fr _ _ _ _ => F9
    have F3 := Fr.ext F9 e2
    have N3 : News s.heap s.heap.objs.size h2 [] := News.nil
    clear F9
    k_steps
    · rename _ < (PySem.Str.cps (mapB3 _)).toList => hc
      rw [bis_dn hlt ((by show (!decide _) = false; rw [decide_eq_true hc]; rfl))] at hR
      have F2 := Fr.cast (by assumption) bm_hi
      rw [mid_eq] at F2
      exact Stop.intro ⟨rfl, k, Nat.lt_succ_self k, lo', (lo' + hi') / 2, _, _, _, _, _, rfl, F2, mid_d1 hlt, mid_d2 hlt hhi', mid_d3 hlt hn', hR⟩
    · rename ¬ (_ < (PySem.Str.cps (mapB3 _)).toList) => hc
      rw [bis_up hlt ((by show (!decide _) = true; rw [decide_eq_false hc]; rfl))] at hR
      have F2 := Fr.cast (by assumption) bm_lo
      rw [mid_eq] at F2
      exact Stop.intro ⟨rfl, k, Nat.lt_succ_self k, (lo' + hi') / 2 + 1, hi', _, _, _, _, _, rfl, F2, mid_u1 hlt, hhi', mid_u2 hlt hn', hR⟩
  · rw [if_neg (mid_no hlt)]
    dsimp only
    k_steps
    rw [← hR, bis_done hlt] at hret
    exact hret _ _ _ (by exact Fr.keep (by assumption))
end
end
end
/-! MB5 -/
section
open PySem PySem.W PySem.Spec PySem.Calls PyProof.Rows
/-- a plain list object -/
noncomputable abbrev lob (vs : List Value) (n : Nat) : Obj := ⟨.type "list", none, .seq vs.toArray n, #[]⟩
theorem lob_is {h : Heap} {l : Addr} {vs : List Value} {n : Nat} (e : h.get? l = some (lob vs n)) : h.IsList l vs.toArray := ⟨_, e, rfl, n, rfl⟩
/-- all but l is kept -/
noncomputable abbrev ExtBut (l : Addr) (h h' : Heap) : Prop := ∀ b o, b ≠ l → h.get? b = some o → h'.get? b = some o
noncomputable def insAt (cs : List Nat) (k c : Nat) : List Nat := cs.take k ++ c :: cs.drop k
theorem bis_le {p : Nat → Bool} : ∀ (n lo hi : Nat), lo ≤ hi → lo ≤ bis p n lo hi ∧ bis p n lo hi ≤ hi
  | 0, lo, hi, h => ⟨Nat.le_refl _, h⟩
  | n + 1, lo, hi, h => by
    unfold bis
    by_cases hlt : lo < hi
    · rw [if_pos hlt]
      cases p ((lo + hi) / 2) with
      | true => rw [if_pos rfl]; have := bis_le (p := p) n ((lo + hi) / 2 + 1) hi (by omega); omega
      | false => rw [if_neg Bool.false_ne_true]; have := bis_le (p := p) n lo ((lo + hi) / 2) (by omega); omega
    · rw [if_neg hlt]; omega
theorem mapSeq_ins {vs : List Value} {n k : Nat} {v : Value} (hk : k ≤ vs.length) :
    Obj.mapSeq (fun xs => have j := if ((k : Nat) : Int) < 0 then (((k : Nat) : Int) + ((xs.size : Nat) : Int)).toNat else min ((k : Nat) : Int).toNat xs.size; (xs.extract 0 j).push v ++ xs.extract j) (lob vs n) = lob (vs.take k ++ v :: vs.drop k) (n + 1) := by
  have e : (if ((k : Nat) : Int) < 0 then (((k : Nat) : Int) + ((vs.toArray.size : Nat) : Int)).toNat else min ((k : Nat) : Int).toNat vs.toArray.size) = k := by
    rw [if_neg (by omega), Int.toNat_natCast, List.size_toArray]; omega
  have e2 : ((vs.toArray.extract 0 k).push v ++ vs.toArray.extract k) = (vs.take k ++ v :: vs.drop k).toArray := by
    apply Array.ext'
    simp [List.extract_eq_take_drop, List.take_of_length_le]
  unfold Obj.mapSeq
  dsimp only
  rw [e, e2]
  have hne : ((vs.take k ++ v :: vs.drop k).toArray.size == vs.toArray.size) = false := by
    rw [beq_eq_false_iff_ne]
    simp only [List.size_toArray, List.length_append, List.length_take, List.length_cons, List.length_drop]
    omega
  rw [hne]
  rfl
theorem list_ins {w : World} {A : Around} {s : Shared} {Q : Value → Shared → Prop} {E : Value → Shared → Prop} {l : Addr} {vs : List Value} {n k : Nat} {t : Tok} {v : Value} (h : s.heap.get? l = some (lob vs n)) (hk : k ≤ vs.length) (hlen : vs.length < 1000)
    (hq : ∀ h', ExtBut l s.heap h' → h'.get? l = some (lob (vs.take k ++ v :: vs.drop k) (n + 1)) → Q .none { s with heap := h' }) : wpAny (model pw w) A (call (.builtin "list.insert") [.ref l, .int (k : Int) t, v]) Q E s := by
  have hfit : ¬(!Builtin.List.listFitsIndex (k : Int)) = true := by
    have : Builtin.List.listFitsIndex (k : Int) = true := by
      unfold Builtin.List.listFitsIndex
      rw [Bool.and_eq_true, decide_eq_true_eq, decide_eq_true_eq]; omega
    rw [this]; decide
  have hsz : vs.toArray.size ≤ sizeLine := by rw [List.size_toArray]; exact Nat.le_trans (Nat.le_of_lt hlen) (by decide)
  refine call_meets PySem.F.slot_list_insert (lob_is h).typeIs PySem.F.entry_list_insert (PySem.F.args_list_insert_3 _ _ _) (@PySem.AutoListH.list_insert_list_int_val_1 l vs.toArray n (k : Int) t v hfit hsz) ?_
  refine ⟨h, ?_⟩
  refine hq _ (fun b o hb e => (Heap.get?_update_ne _ _ _ _ hb).trans e) ?_
  rw [← mapSeq_ins hk]
  exact Heap.get?_update_self _ h rfl
set_option maxHeartbeats 2000000 in
theorem insort_spec (w : World) (N : Names) (l : Addr) (vs : List Value) (n : Nat) (cs : List Nat) (c : Nat) (tx : Tok) {A : Around} {s : Shared} {Q : Value → Shared → Prop} {E : Value → Shared → Prop} (O : Okh w N s.heap) (hd : A.depth < 880) (hu : A.units < 8800)
    (hl : s.heap.get? l = some (lob vs n)) (hn : StrsAre vs (cs.map sg)) (hlen : cs.length < 100)
    (hret : ∀ h' tk vs', ExtBut l s.heap h' → h'.get? l = some (lob vs' (n + 1)) → StrsAre vs' ((insAt cs (bis (fun i => !ltS (mapB3 c) (mapB3 (cs.getD i 0))) cs.length 0 cs.length) c).map sg) → Q .none { s with heap := h', toks := tk }) :
    wpAny (model pw w) A (call (.ref 40) [.ref l, .str (sg c) tx] [(Str.ofString "key", .ref 139)]) Q E s := by
  have _kf : (fun (_ : OpenLaw) (_ : Params → Frag) => True) PySem.Challenge.rw_rw0108_01 K := by (k_fill; trivial)
  clear _kf
  have hb : ∀ fd, (o40 w.params).data = .func fd → BindsTo s fd ⟨[.ref l, .str (sg c) tx], [(Str.ofString "key", .ref 139)]⟩ (bBinds (.ref l) (.str (sg c) tx) (.int 0 284) .none (.ref 139)) := by
    intro fd e
    cases e
    exact BindsTo.of_defaults (T := 32) (o := o32 w.params) rfl (O.K 32 _ rfl) rfl rfl rfl
  refine enterP (f := 40) (binds := bBinds (.ref l) (.str (sg c) tx) (.int 0 284) .none (.ref 139)) O rfl rfl rfl rfl (hb _ rfl) (Nat.lt_trans hd (by decide)) (by decide) (locs rfl) rfl rfl rfl ?_
  intro h₁ F0
  show wpAny (model pw w) (A.deeper (envOf (Str.ofString "insort_right") (fSc (stm 2)) s.heap.objs.size 40 (.ref 39))) (execs (fBody (stm 2)) (envOf (Str.ofString "insort_right") (fSc (stm 2)) s.heap.objs.size 40 (.ref 39))) _ _ { s with heap := h₁, toks := s.toks + 5 }
  have es := (rfl : fSc (stm 2) = fSc (stm 2))
  conv at es => rhs; whnf
  have eb := (rfl : fBody (stm 2) = fBody (stm 2))
  conv at eb => rhs; whnf
  rw [es, eb]
  clear es eb
  have KX := O.K
  have T := O.T
  have N0 : News s.heap s.heap.objs.size h₁ [] := News.nil
  k_steps
  refine b3_spec w N _ _ (O.ext (Fr.keep (by assumption))) (by show A.depth + 1 < 900; omega) (by show A.units + 3 < 9000; omega) (fun h2 tk2 t2 e2 => ?_)
  rename Fr _ _ _ _ => F9
  have F3 := Fr.ext F9 e2
  have N3 : News s.heap s.heap.objs.size h2 [] := News.nil
  clear F9
  k_steps
  refine br_str w N l vs cs (mapB3 c) _ 284 ⟨[.ref l, .str (mapB3 c) _, .int 0 284, .none], [(Str.ofString "key", .ref 139)]⟩ (O.ext (Fr.keep (by assumption))) (by show A.depth + 1 < 890; omega) (by show A.units + 3 < 8900; omega)
    (Fr.lst (by assumption) (lob_is hl)) hn (by omega) (fun fd e => by cases e; exact BindsTo.of_defaults (T := 41) (o := o41 w.params) rfl ((O.ext (Fr.keep (by assumption))).K 41 _ rfl) rfl rfl rfl) (fun h4 tk4 t4 e4 => ?_)
  rename Fr _ _ _ _ => F9
  have F5 := Fr.ext F9 e4
  have N5 : News s.heap s.heap.objs.size h4 [] := News.nil
  clear F9
  k_steps
  have hl6 := (Fr.keep (by assumption) : Ext s.heap _) _ _ hl
  refine getMethod_builtin (T := "list") (id := "list.insert") (lob_is hl6).typeIs PySem.F.plainAttrs_list PySem.F.slot_list_insert PySem.F.type_list_insert (fun a e => by cases e; exact ⟨_, hl6, rfl⟩) ?_
  k_steps
  have hb1 := (bis_le (p := fun i => !ltS (mapB3 c) (mapB3 (cs.getD i 0))) cs.length 0 cs.length (Nat.zero_le _)).2
  have hvl : vs.length = cs.length := by have := StrsAre.length hn; simpa using this
  refine list_ins hl6 (by omega) (by omega) (fun h7 e7 g7 => ?_)
  k_steps
  refine hret _ _ _ (fun b o hb e => e7 b o hb ((Fr.keep (by assumption) : Ext s.heap _) _ _ e)) g7 ?_
  unfold insAt
  rw [List.map_append, List.map_cons, List.map_take, List.map_drop]
  exact StrsAre.append' (StrsAre.take' hn _) (.cons _ _ (StrsAre.drop' hn _))
end
/-! MR1 -/
section
open PySem PySem.Sre PySem.W
noncomputable def code62 : Array Nat := #[14, 4, 0, 1, 1, 6, 1, 16, 46, 1]
noncomputable def code67 : Array Nat := #[14, 9, 4, 1, 2, 16, 10, 16, 13, 0, 7, 7, 16, 13, 16, 10, 15, 18, 5, 16, 10, 15, 13, 11, 16, 13, 5, 5, 0, 16, 10, 1, 15, 2, 0, 1]
noncomputable def stepN : Nat → M → M
  | 0, m => m
  | n + 1, m => stepN n m.step
theorem stepN_add (a b : Nat) (m : M) : stepN (a + b) m = stepN b (stepN a m) := by
  induction a generalizing m with
  | zero => rw [Nat.zero_add]; rfl
  | succ a ih => rw [Nat.succ_add]; exact ih m.step
theorem step_done {m : M} (h : m.outcome.isSome = true) : m.step = m := by
  unfold M.step; rw [if_pos h]
theorem stepN_done {m : M} (h : m.outcome.isSome = true) : ∀ n, stepN n m = m
  | 0 => rfl
  | n + 1 => by show stepN n m.step = m; rw [step_done h]; exact stepN_done h n
theorem runFor_eq : ∀ (n : Nat) (m : M), m.runFor n = stepN n m
  | 0, _ => rfl
  | n + 1, m => by
    unfold M.runFor
    by_cases h : m.outcome.isSome = true
    · rw [if_pos h, stepN_done h]
    · rw [if_neg h, runFor_eq n]; rfl
/-- m runs to m' in at most b steps -/
noncomputable def Run (b : Nat) (m m' : M) : Prop := ∃ n, n ≤ b ∧ stepN n m = m'
theorem Run.refl (m : M) : Run 0 m m := ⟨0, Nat.le_refl _, rfl⟩
theorem Run.step {m m₁ m' : M} {b : Nat} (e : m.step = m₁) (h : Run b m₁ m') : Run (b + 1) m m' := by
  obtain ⟨n, hn, hs⟩ := h
  exact ⟨n + 1, by omega, by show stepN n m.step = m'; rw [e]; exact hs⟩
theorem Run.trans {m m₁ m' : M} {a b : Nat} (h : Run a m m₁) (g : Run b m₁ m') : Run (a + b) m m' := by
  obtain ⟨n, hn, hs⟩ := h
  obtain ⟨k, hk, hs'⟩ := g
  exact ⟨n + k, by omega, by rw [stepN_add, hs, hs']⟩
theorem Run.le {m m' : M} {a b : Nat} (h : Run a m m') (g : a ≤ b) : Run b m m' := by
  obtain ⟨n, hn, hs⟩ := h
  exact ⟨n, Nat.le_trans hn g, hs⟩

noncomputable abbrev T (code text : Array Nat) (lim start last pos pc handed : Nat) (om : Bool) (fr : List Sre.Frame) (wt : Nat) (ans : Option Bool) (seen : Seen) : M :=
  { code, text, lim, start, lastStart := last, pc, pos, handed, outermost := om, marks := #[], frames := fr, weight := wt, answer := ans, seen }
noncomputable abbrev nsF (pc s : Nat) : Sre.Frame := { wait := .nextStart, pc := pc, pos := s, outermost := true }
noncomputable abbrev nsF' (pc s : Nat) (b : Bool) : Sre.Frame := { wait := .nextStart, pc := pc, pos := s, outermost := b }
theorem s62_at (text : Array Nat) (lim last s h : Nat) (om) (fr : List Sre.Frame) (wt : Nat) (seen : Seen) :
    (T code62 text lim s last s 5 h om fr wt none seen).step =
      if (s == 0 || text.getD (s - 1) 0 == 10) = true then T code62 text lim s last s 7 h om fr wt none ((seen.add 6).add 44) else T code62 text lim s last s 5 h om fr wt (some false) ((seen.add 6).add 44) := by kernel_rfl
theorem s62_lit (text : Array Nat) (lim last s h : Nat) (om) (fr : List Sre.Frame) (wt : Nat) (seen : Seen) :
    (T code62 text lim s last s 7 h om fr wt none seen).step =
      if s ≥ lim then T code62 text lim s last s 7 h om fr wt (some false) (seen.add 16) else
      match (text.getD s 0 == 46) with
      | true => T code62 text lim s last (s + 1) 9 h om fr wt none (seen.add 16)
      | false => T code62 text lim s last s 7 h om fr wt (some false) (seen.add 16) := by
  kernel_rfl
theorem s62_ok (text : Array Nat) (lim last s p h : Nat) (om) (fr : List Sre.Frame) (wt : Nat) (seen : Seen) :
    (T code62 text lim s last p 9 h om fr wt none seen).step =
      if (om && (false || false)) = true then T code62 text lim s last p 9 h om fr wt (some false) (seen.add 1) else
      T code62 text lim s last p 9 p om fr wt (some true) (seen.add 1) := by kernel_rfl
/-- the answer false comes back to nextStart -/
theorem s62_next (text : Array Nat) (lim last s p pc h : Nat) (om) (f : Nat) (b : Bool) (seen : Seen) :
    (T code62 text lim s last p pc h om [nsF' 5 f b] 1 (some false) seen).step =
      if f < last then T code62 text lim (f + 1) last (f + 1) 5 (f + 1) false [nsF' 5 (f + 1) false] 1 none seen
      else T code62 text lim s last f 5 h b [] 0 (some false) seen := by kernel_rfl
theorem sNs_yes (code text : Array Nat) (lim last s p pc h : Nat) (om) (q f : Nat) (b : Bool) (seen : Seen) :
    (T code text lim s last p pc h om [nsF' q f b] 1 (some true) seen).step = T code text lim s last f q h b [] 0 (some true) seen := by kernel_rfl
theorem sEnd (code text : Array Nat) (lim last s p pc h : Nat) (om) (a : Bool) (seen : Seen) :
    (T code text lim s last p pc h om [] 0 (some a) seen).step =
      { T code text lim s last p pc h om [] 0 (some a) seen with outcome := some (if a then .matched else .failed) } := by kernel_rfl
noncomputable def is62 (text : Array Nat) (s : Nat) : Bool := (s == 0 || text.getD (s - 1) 0 == 10) && text.getD s 0 == 46
noncomputable def nx (p : Nat → Option Nat) (lim : Nat) : Nat → Nat → Option (Nat × Nat)
  | 0, _ => none
  | n + 1, s => match p s with
    | some e => some (s, e)
    | none => if s < lim then nx p lim n (s + 1) else none
noncomputable def p62 (text : Array Nat) (s : Nat) : Option Nat := if s < text.size ∧ is62 text s = true then some (s + 1) else none
noncomputable def Ends (m : M) (r : Option (Nat × Nat)) : Prop := match r with
  | none => (∃ o, m.outcome = some o ∧ o = .failed)
  | some (s, e) => m.outcome = some .matched ∧ m.start = s ∧ m.handed = e
theorem run62 (text : Array Nat) : ∀ (n s : Nat) (om : Bool) (seen : Seen), s + n = text.size →
    ∃ m', Run (3 * n + 8) (T code62 text text.size s text.size s 5 s om [nsF' 5 s om] 1 none seen) m' ∧ Ends m' (nx (p62 text) text.size (n + 1) s) := by
  intro n
  induction n with
  | zero =>
    intro s om seen hs
    have e : nx (p62 text) text.size 1 s = none := by
      unfold nx p62
      rw [if_neg (by omega)]
      dsimp only
      rw [if_neg (by omega)]
    rw [e]
    have fin : ∀ pc h seen, ∃ m', Run 5 (T code62 text text.size s text.size s pc h om [nsF' 5 s om] 1 (some false) seen) m' ∧ Ends m' none := by
      intro pc h seen
      refine ⟨_, Run.le (Run.step (s62_next _ _ _ _ _ _ _ _ _ _ _) (Run.step ((congrArg M.step (if_neg (by omega))).trans (sEnd _ _ _ _ _ _ _ _ _ _ _)) (Run.refl _))) (by omega), _, rfl, rfl⟩
    by_cases c : (s == 0 || text.getD (s - 1) 0 == 10) = true
    · obtain ⟨m', r, g⟩ := fin 7 s (((seen.add 6).add 44).add 16)
      refine ⟨m', Run.le (Run.step (by rw [s62_at, if_pos c]) (Run.step (by rw [s62_lit, if_pos (by omega)]) r)) (by omega), g⟩
    · obtain ⟨m', r, g⟩ := fin 5 s ((seen.add 6).add 44)
      refine ⟨m', Run.le (Run.step (by rw [s62_at, if_neg c]) r) (by omega), g⟩
  | succ n ih =>
    intro s om seen hs
    have fin : is62 text s = false → ∀ pc h seen, ∃ m', Run (3 * n + 9) (T code62 text text.size s text.size s pc h om [nsF' 5 s om] 1 (some false) seen) m' ∧ Ends m' (nx (p62 text) text.size (n + 1 + 1) s) := by
      intro c pc h seen
      obtain ⟨m', r, g⟩ := ih (s + 1) false seen (by omega)
      refine ⟨m', Run.le (Run.step (by rw [s62_next, if_pos (by omega)]) r) (by omega), ?_⟩
      unfold nx p62
      rw [c, if_neg (by simp)]
      dsimp only
      rw [if_pos (by omega)]
      exact g
    by_cases c : (s == 0 || text.getD (s - 1) 0 == 10) = true
    · cases d : (text.getD s 0 == 46) with
      | true =>
        have i : is62 text s = true := by unfold is62; rw [c, d]; rfl
        have e : nx (p62 text) text.size (n + 1 + 1) s = some (s, s + 1) := by
          unfold nx p62
          rw [if_pos ⟨by omega, i⟩]
        rw [e]
        exact ⟨_, Run.le (Run.step (by rw [s62_at, if_pos c]) (Run.step (by rw [s62_lit, if_neg (by omega), d]) (Run.step (by rw [s62_ok, if_neg (by cases om <;> decide)])
          (Run.step (sNs_yes _ _ _ _ _ _ _ _ _ _ _ _ _) (Run.step (sEnd _ _ _ _ _ _ _ _ _ _ _) (Run.refl _)))))) (by omega), rfl, rfl, rfl⟩
      | false =>
        have i : is62 text s = false := by unfold is62; rw [d, Bool.and_false]
        obtain ⟨m', r, g⟩ := fin i 7 s (((seen.add 6).add 44).add 16)
        exact ⟨m', Run.le (Run.step (by rw [s62_at, if_pos c]) (Run.step (by rw [s62_lit, if_neg (by omega), d]) r)) (by omega), g⟩
    · have i : is62 text s = false := by unfold is62; rw [Bool.eq_false_iff.mpr c, Bool.false_and]
      obtain ⟨m', r, g⟩ := fin i 5 s ((seen.add 6).add 44)
      exact ⟨m', Run.le (Run.step (by rw [s62_at, if_neg c]) r) (by omega), g⟩
/-- what the machine finds from p on -/
noncomputable def Finds (code text : Array Nat) (p : Nat) (r : Option (Nat × Nat)) : Prop :=
  ∃ m', Run (1000 * text.size + 1000) (forSearch code text 0 p text.size false) m' ∧ Ends m' r
theorem fs62 (text : Array Nat) (p : Nat) : forSearch code62 text 0 p text.size false =
    if (decide (p > text.size) || decide (text.size - p < 1)) = true then T code62 text text.size p 0 p 5 p true [] 0 (some false) (({} : Seen).add 14)
    else T code62 text text.size p text.size p 5 p true [nsF' 5 p true] 1 none (({} : Seen).add 14) := by kernel_rfl
theorem find62 (text : Array Nat) (p : Nat) (hp : p ≤ text.size) : Finds code62 text p (nx (p62 text) text.size (text.size - p + 1) p) := by
  unfold Finds
  rw [fs62]
  by_cases h : p = text.size
  · rw [if_pos (by simp; omega)]
    have e : nx (p62 text) text.size (text.size - p + 1) p = none := by
      unfold nx p62
      rw [if_neg (by omega)]
      dsimp only
      rw [if_neg (by omega)]
    rw [e]
    exact ⟨_, Run.le (Run.step (sEnd _ _ _ _ _ _ _ _ _ _ _) (Run.refl _)) (by omega), _, rfl, rfl⟩
  · rw [if_neg (by simp; omega)]
    obtain ⟨m', r, g⟩ := run62 text (text.size - p) p true (({} : Seen).add 14) (by omega)
    exact ⟨m', Run.le r (by omega), g⟩
end
/-! MR2 -/
section
open PySem PySem.Sre PySem.W
noncomputable abbrev kp0 : Sre.Kept := { lastmark := -1, lastindex := -1, whole := false, marks := #[] }
noncomputable abbrev nbF (k p : Nat) : Sre.Frame := { wait := .nextBranch, pc := k, pos := p, outermost := true, kept := kp0 }
noncomputable abbrev lnF (p : Nat) : Sre.Frame := { wait := .lookNot, pc := 26, pos := p, outermost := true, kept := kp0 }
theorem t67_br (text : Array Nat) (lim last s p h : Nat) (fr : List Sre.Frame) (seen : Seen) :
    (T code67 text lim s last p 10 h true fr 1 none seen).step = T code67 text lim s last p 12 p true (nbF 11 p :: fr) 2 none (seen.add 7) := by kernel_rfl
theorem t67_12 (text : Array Nat) (lim last s p h : Nat) (om) (fr : List Sre.Frame) (wt : Nat) (seen : Seen) :
    (T code67 text lim s last p 12 h om fr wt none seen).step = if p ≥ lim then T code67 text lim s last p 12 h om fr wt (some false) (seen.add 16) else
      match (text.getD p 0 == 13) with
      | true => T code67 text lim s last (p + 1) 14 h om fr wt none (seen.add 16)
      | false => T code67 text lim s last p 12 h om fr wt (some false) (seen.add 16) := by kernel_rfl
theorem t67_14 (text : Array Nat) (lim last s p h : Nat) (om) (fr : List Sre.Frame) (wt : Nat) (seen : Seen) :
    (T code67 text lim s last p 14 h om fr wt none seen).step = if p ≥ lim then T code67 text lim s last p 14 h om fr wt (some false) (seen.add 16) else
      match (text.getD p 0 == 10) with
      | true => T code67 text lim s last (p + 1) 16 h om fr wt none (seen.add 16)
      | false => T code67 text lim s last p 14 h om fr wt (some false) (seen.add 16) := by kernel_rfl
theorem t67_19 (text : Array Nat) (lim last s p h : Nat) (om) (fr : List Sre.Frame) (wt : Nat) (seen : Seen) :
    (T code67 text lim s last p 19 h om fr wt none seen).step = if p ≥ lim then T code67 text lim s last p 19 h om fr wt (some false) (seen.add 16) else
      match (text.getD p 0 == 10) with
      | true => T code67 text lim s last (p + 1) 21 h om fr wt none (seen.add 16)
      | false => T code67 text lim s last p 19 h om fr wt (some false) (seen.add 16) := by kernel_rfl
theorem t67_24 (text : Array Nat) (lim last s p h : Nat) (om) (fr : List Sre.Frame) (wt : Nat) (seen : Seen) :
    (T code67 text lim s last p 24 h om fr wt none seen).step = if p ≥ lim then T code67 text lim s last p 24 h om fr wt (some false) (seen.add 16) else
      match (text.getD p 0 == 13) with
      | true => T code67 text lim s last (p + 1) 26 h om fr wt none (seen.add 16)
      | false => T code67 text lim s last p 24 h om fr wt (some false) (seen.add 16) := by kernel_rfl
theorem t67_29 (text : Array Nat) (lim last s p h : Nat) (om) (fr : List Sre.Frame) (wt : Nat) (seen : Seen) :
    (T code67 text lim s last p 29 h om fr wt none seen).step = if p ≥ lim then T code67 text lim s last p 29 h om fr wt (some false) (seen.add 16) else
      match (text.getD p 0 == 10) with
      | true => T code67 text lim s last (p + 1) 31 h om fr wt none (seen.add 16)
      | false => T code67 text lim s last p 29 h om fr wt (some false) (seen.add 16) := by kernel_rfl
theorem t67_16 (text : Array Nat) (lim last s p h : Nat) (om) (fr : List Sre.Frame) (wt : Nat) (seen : Seen) :
    (T code67 text lim s last p 16 h om fr wt none seen).step = T code67 text lim s last p 35 h om fr wt none (seen.add 15) := by kernel_rfl
theorem t67_21 (text : Array Nat) (lim last s p h : Nat) (om) (fr : List Sre.Frame) (wt : Nat) (seen : Seen) :
    (T code67 text lim s last p 21 h om fr wt none seen).step = T code67 text lim s last p 35 h om fr wt none (seen.add 15) := by kernel_rfl
theorem t67_32 (text : Array Nat) (lim last s p h : Nat) (om) (fr : List Sre.Frame) (wt : Nat) (seen : Seen) :
    (T code67 text lim s last p 32 h om fr wt none seen).step = T code67 text lim s last p 35 h om fr wt none (seen.add 15) := by kernel_rfl
theorem t67_35 (text : Array Nat) (lim last s p h : Nat) (fr : List Sre.Frame) (wt : Nat) (seen : Seen) :
    (T code67 text lim s last p 35 h true fr wt none seen).step = T code67 text lim s last p 35 p true fr wt (some true) (seen.add 1) := by kernel_rfl
theorem t67_n11 (text : Array Nat) (lim last s p pc h f : Nat) (om) (fr : List Sre.Frame) (seen : Seen) :
    (T code67 text lim s last p pc h om (nbF 11 f :: fr) 2 (some false) seen).step = T code67 text lim s last f 19 f true (nbF 18 f :: fr) 2 none seen := by kernel_rfl
theorem t67_n18 (text : Array Nat) (lim last s p pc h f : Nat) (om) (fr : List Sre.Frame) (seen : Seen) :
    (T code67 text lim s last p pc h om (nbF 18 f :: fr) 2 (some false) seen).step = T code67 text lim s last f 24 f true (nbF 23 f :: fr) 2 none seen := by kernel_rfl
theorem t67_26 (text : Array Nat) (lim last s p h : Nat) (fr : List Sre.Frame) (seen : Seen) :
    (T code67 text lim s last p 26 h true fr 2 none seen).step = if p < 0 then T code67 text lim s last p 32 h true fr 2 none (seen.add 5) else
      T code67 text lim s last p 29 p false (lnF p :: fr) 3 none (seen.add 5) := by kernel_rfl
theorem t67_ln (text : Array Nat) (lim last s p pc h f : Nat) (om) (fr : List Sre.Frame) (seen : Seen) :
    (T code67 text lim s last p pc h om (lnF f :: fr) 3 (some false) seen).step = T code67 text lim s last f 32 h true fr 2 none seen := by kernel_rfl
theorem t67_y (text : Array Nat) (lim last s p pc h k f : Nat) (om) (fr : List Sre.Frame) (seen : Seen) :
    (T code67 text lim s last p pc h om (nbF k f :: fr) 2 (some true) seen).step = T code67 text lim s last f k h true fr 1 (some true) seen := by kernel_rfl
theorem in67 (c : Nat) (seen : Seen) : inSet code67 c 36 5 true seen =
    if (c == 10) = true then .ok (true, seen.add 16) else if (c == 13) = true then .ok (true, (seen.add 16).add 16) else .ok (!true, ((seen.add 16).add 16).add 0) := by kernel_rfl
noncomputable def p67 (text : Array Nat) (s : Nat) : Option Nat :=
  if s < text.size then
    if text.getD s 0 == 13 then (if s + 1 < text.size ∧ (text.getD (s + 1) 0 == 10) = true then some (s + 2) else some (s + 1))
    else if text.getD s 0 == 10 then some (s + 1) else none
  else none
theorem fin67 (text : Array Nat) (s p k f : Nat) (seen : Seen) (h : Nat) :
    ∃ m', Run 4 (T code67 text text.size s text.size p 35 h true [nbF k f, nsF' 10 s true] 2 none seen) m' ∧ Ends m' (some (s, p)) :=
  ⟨_, Run.step (t67_35 _ _ _ _ _ _ _ _ _) (Run.step (t67_y _ _ _ _ _ _ _ _ _ _ _ _) (Run.step (sNs_yes _ _ _ _ _ _ _ _ _ _ _ _ _) (Run.step (sEnd _ _ _ _ _ _ _ _ _ _ _) (Run.refl _)))), rfl, rfl, rfl⟩
theorem run67 (text : Array Nat) (s e : Nat) (seen : Seen) (hp : p67 text s = some e) :
    ∃ m', Run 30 (T code67 text text.size s text.size s 10 s true [nsF' 10 s true] 1 none seen) m' ∧ Ends m' (some (s, e)) := by
  unfold p67 at hp
  by_cases hs : s < text.size
  · rw [if_pos hs] at hp
    cases c13 : (text.getD s 0 == 13) with
    | true =>
      rw [c13, if_pos rfl] at hp
      by_cases hb : s + 1 < text.size ∧ (text.getD (s + 1) 0 == 10) = true
      · rw [if_pos hb] at hp
        cases hp
        obtain ⟨m', r, g⟩ := fin67 text s (s + 2) 11 s ((((seen.add 7).add 16).add 16).add 15) s
        exact ⟨m', Run.le (Run.step (t67_br _ _ _ _ _ _ _ _) (Run.step (by rw [t67_12, if_neg (by omega), c13]) (Run.step (by rw [t67_14, if_neg (by omega), hb.2]) (Run.step (t67_16 _ _ _ _ _ _ _ _ _ _) r)))) (by omega), g⟩
      · rw [if_neg hb] at hp
        cases hp
        have tail : ∀ pc h p seen, ∃ m', Run 20 (T code67 text text.size s text.size p pc h true [nbF 11 s, nsF' 10 s true] 2 (some false) seen) m' ∧ Ends m' (some (s, s + 1)) := by
          intro pc h p seen
          have c10 : (text.getD s 0 == 10) = false := by
            have := eq_of_beq c13
            rw [this]; rfl
          have look : ∀ seen, ∃ m', Run 10 (T code67 text text.size s text.size (s + 1) 29 (s + 1) false [lnF (s + 1), nbF 23 s, nsF' 10 s true] 3 none seen) m' ∧ Ends m' (some (s, s + 1)) := by
            intro seen
            have tl : ∀ h p seen, ∃ m', Run 8 (T code67 text text.size s text.size p 29 h false [lnF (s + 1), nbF 23 s, nsF' 10 s true] 3 (some false) seen) m' ∧ Ends m' (some (s, s + 1)) := by
              intro h p seen
              obtain ⟨m', r, g⟩ := fin67 text s (s + 1) 23 s (seen.add 15) h
              exact ⟨m', Run.le (Run.step (t67_ln _ _ _ _ _ _ _ _ _ _ _) (Run.step (t67_32 _ _ _ _ _ _ _ _ _ _) r)) (by omega), g⟩
            by_cases hl : s + 1 ≥ text.size
            · obtain ⟨m', r, g⟩ := tl (s + 1) (s + 1) (seen.add 16)
              exact ⟨m', Run.le (Run.step (by rw [t67_29, if_pos hl]) r) (by omega), g⟩
            · have c : (text.getD (s + 1) 0 == 10) = false := by
                cases c : (text.getD (s + 1) 0 == 10) with
                | false => rfl
                | true => exact absurd ⟨by omega, c⟩ hb
              obtain ⟨m', r, g⟩ := tl (s + 1) (s + 1) (seen.add 16)
              exact ⟨m', Run.le (Run.step (by rw [t67_29, if_neg hl, c]) r) (by omega), g⟩
          obtain ⟨m', r, g⟩ := look (((seen.add 16).add 16).add 5)
          refine ⟨m', Run.le (Run.step (t67_n11 _ _ _ _ _ _ _ _ _ _ _) (Run.step (by rw [t67_19, if_neg (by omega), c10]) (Run.step (t67_n18 _ _ _ _ _ _ _ _ _ _ _) (Run.step (by rw [t67_24, if_neg (by omega), c13]) (Run.step (by rw [t67_26, if_neg (by omega)]) r))))) (by omega), g⟩
        by_cases hl : s + 1 ≥ text.size
        · obtain ⟨m', r, g⟩ := tail 14 s (s + 1) (((seen.add 7).add 16).add 16)
          exact ⟨m', Run.le (Run.step (t67_br _ _ _ _ _ _ _ _) (Run.step (by rw [t67_12, if_neg (by omega), c13]) (Run.step (by rw [t67_14, if_pos hl]) r))) (by omega), g⟩
        · have c : (text.getD (s + 1) 0 == 10) = false := by
            cases c : (text.getD (s + 1) 0 == 10) with
            | false => rfl
            | true => exact absurd ⟨by omega, c⟩ hb
          obtain ⟨m', r, g⟩ := tail 14 s (s + 1) (((seen.add 7).add 16).add 16)
          exact ⟨m', Run.le (Run.step (t67_br _ _ _ _ _ _ _ _) (Run.step (by rw [t67_12, if_neg (by omega), c13]) (Run.step (by rw [t67_14, if_neg hl, c]) r))) (by omega), g⟩
    | false =>
      rw [c13, if_neg Bool.false_ne_true] at hp
      cases c10 : (text.getD s 0 == 10) with
      | false => rw [c10, if_neg Bool.false_ne_true] at hp; cases hp
      | true =>
        rw [c10, if_pos rfl] at hp
        cases hp
        obtain ⟨m', r, g⟩ := fin67 text s (s + 1) 18 s ((((seen.add 7).add 16).add 16).add 15) s
        exact ⟨m', Run.le (Run.step (t67_br _ _ _ _ _ _ _ _) (Run.step (by rw [t67_12, if_neg (by omega), c13]) (Run.step (t67_n11 _ _ _ _ _ _ _ _ _ _ _) (Run.step (by rw [t67_19, if_neg (by omega), c10]) (Run.step (t67_21 _ _ _ _ _ _ _ _ _ _) r))))) (by omega), g⟩
  · rw [if_neg hs] at hp; cases hp
theorem adm67 (text : Array Nat) (q : Nat) (om) (sn : Seen) : ∀ (n s : Nat) (seen : Seen), s + n = text.size →
    (∃ e s' seen', M.admitted (T code67 text text.size q text.size q 10 q om [] 0 none sn) (n + 1) s seen = .ok (some s', seen') ∧ nx (p67 text) text.size (n + 1) s = some (s', e) ∧ p67 text s' = some e)
    ∨ (∃ seen', M.admitted (T code67 text text.size q text.size q 10 q om [] 0 none sn) (n + 1) s seen = .ok (none, seen') ∧ nx (p67 text) text.size (n + 1) s = none) := by
  intro n
  induction n with
  | zero =>
    intro s seen hs
    refine .inr ⟨seen, ?_, ?_⟩
    · unfold M.admitted
      rw [if_pos (show s ≥ text.size by omega)]
    · unfold nx p67
      rw [if_neg (by omega)]
      dsimp only
      rw [if_neg (by omega)]
  | succ n ih =>
    intro s seen hs
    have e1 : M.admitted (T code67 text text.size q text.size q 10 q om [] 0 none sn) (n + 1 + 1) s seen = 
      match inSet code67 (text.getD s 0) 36 5 true seen with
      | .ok (true, seen) => .ok (some s, seen)
      | .ok (false, seen) => M.admitted (T code67 text text.size q text.size q 10 q om [] 0 none sn) (n + 1) (s + 1) seen
      | .error why => .error why := by
      conv => lhs; unfold M.admitted
      rw [if_neg (show ¬ s ≥ text.size by omega)]
      rfl
    rw [e1, in67]
    cases c10 : (text.getD s 0 == 10) with
    | true =>
      rw [if_pos rfl]
      have hp : p67 text s = some (s + 1) := by
        unfold p67
        have := eq_of_beq c10
        rw [if_pos (by omega), this, if_neg (by decide), if_pos (by decide)]
      refine .inl ⟨s + 1, s, _, rfl, ?_, hp⟩
      unfold nx
      rw [hp]
    | false =>
      rw [if_neg Bool.false_ne_true]
      cases c13 : (text.getD s 0 == 13) with
      | true =>
        rw [if_pos rfl]
        obtain ⟨e, he⟩ : ∃ e, p67 text s = some e := by
          unfold p67
          rw [if_pos (by omega), c13, if_pos rfl]
          by_cases hb : s + 1 < text.size ∧ (text.getD (s + 1) 0 == 10) = true
          · rw [if_pos hb]; exact ⟨_, rfl⟩
          · rw [if_neg hb]; exact ⟨_, rfl⟩
        refine .inl ⟨e, s, _, rfl, ?_, he⟩
        unfold nx
        rw [he]
      | false =>
        rw [if_neg Bool.false_ne_true]
        have hp : p67 text s = none := by
          unfold p67
          rw [if_pos (by omega), c13, if_neg Bool.false_ne_true, c10, if_neg Bool.false_ne_true]
        have e2 : nx (p67 text) text.size (n + 1 + 1) s = nx (p67 text) text.size (n + 1) (s + 1) := by
          conv => lhs; unfold nx
          rw [hp]
          dsimp only
          rw [if_pos (by omega)]
        rw [e2]
        exact ih (s + 1) _ (by omega)
theorem fs67 (text : Array Nat) (p : Nat) : forSearch code67 text 0 p text.size false =
    if (decide (p > text.size) || decide (text.size - p < 1)) = true then T code67 text text.size p 0 p 10 p true [] 0 (some false) (({} : Seen).add 14)
    else match M.admitted (T code67 text text.size p text.size p 10 p true [] 0 none (({} : Seen).add 14)) (text.size + 1 - p) p (({} : Seen).add 14) with
    | .ok (some s, seen) => T code67 text text.size s text.size s 10 s true [nsF' 10 s true] 1 none seen
    | .ok (none, seen) => T code67 text text.size p text.size p 10 p true [] 0 (some false) seen
    | .error why => M.stick (T code67 text text.size p text.size p 10 p true [] 0 none (({} : Seen).add 14)) why := by kernel_rfl
theorem find67 (text : Array Nat) (p : Nat) (hp : p ≤ text.size) : Finds code67 text p (nx (p67 text) text.size (text.size - p + 1) p) := by
  unfold Finds
  rw [fs67]
  by_cases h : p = text.size
  · rw [if_pos (by simp; omega)]
    have e : nx (p67 text) text.size (text.size - p + 1) p = none := by
      unfold nx p67
      rw [if_neg (by omega)]
      dsimp only
      rw [if_neg (by omega)]
    rw [e]
    exact ⟨_, Run.le (Run.step (sEnd _ _ _ _ _ _ _ _ _ _ _) (Run.refl _)) (by omega), _, rfl, rfl⟩
  · rw [if_neg (by simp; omega)]
    have ef : text.size + 1 - p = text.size - p + 1 := by omega
    rw [ef]
    rcases adm67 text p true (({} : Seen).add 14) (text.size - p) p (({} : Seen).add 14) (by omega) with ⟨e, s', seen', h1, h2, h3⟩ | ⟨seen', h1, h2⟩
    · rw [h1, h2]
      obtain ⟨m', r, g⟩ := run67 text s' e seen' h3
      exact ⟨m', Run.le r (by omega), g⟩
    · rw [h1, h2]
      exact ⟨_, Run.le (Run.step (sEnd _ _ _ _ _ _ _ _ _ _ _) (Run.refl _)) (by omega), _, rfl, rfl⟩
end
/-! MR3 -/
section
open PySem PySem.W PySem.Spec PySem.Calls PyProof.Rows PySem.Builtin.Re
theorem wp_drive {M : Model} {A : Around} {E : Value → Shared → Prop} {s : Shared} {Q : Sre.M → Shared → Prop} {m' : Sre.M} (hd : m'.outcome.isSome = true) (hq : Q m' s) :
    ∀ (k turns n : Nat) (m : Sre.M), k < turns → n ≤ 4 * (k + 1) → stepN n m = m' → wpAny M A (reDrive turns m) Q E s := by
  intro k
  induction k with
  | zero =>
    intro turns n m hk hn hs
    obtain ⟨t, rfl⟩ : ∃ t, turns = t + 1 := ⟨turns - 1, by omega⟩
    have e : m.runFor reTurnSteps = m' := by
      show m.runFor 4 = m'
      rw [runFor_eq, show (4 : Nat) = n + (4 - n) by omega, stepN_add, hs, stepN_done hd]
    unfold reDrive
    dsimp only
    rw [e, hd, if_pos rfl]
    exact wpAny_pure hq
  | succ k ih =>
    intro turns n m hk hn hs
    obtain ⟨t, rfl⟩ : ∃ t, turns = t + 1 := ⟨turns - 1, by omega⟩
    have e0 : m.runFor reTurnSteps = stepN 4 m := runFor_eq 4 m
    unfold reDrive
    dsimp only
    rw [e0]
    by_cases hn4 : n ≤ 4
    · have e : stepN 4 m = m' := by
        rw [show (4 : Nat) = n + (4 - n) by omega, stepN_add, hs, stepN_done hd]
      rw [e, hd, if_pos rfl]
      exact wpAny_pure hq
    · have e : stepN (n - 4) (stepN 4 m) = m' := by
        rw [← stepN_add, show 4 + (n - 4) = n by omega, hs]
      by_cases ho : (stepN 4 m).outcome.isSome = true
      · rw [if_pos ho]
        rw [stepN_done ho] at e
        rw [e]
        exact wpAny_pure hq
      · rw [if_neg ho]
        exact wpAny_bind (wpAny_rule (ih t (n - 4) _ (by omega) (by omega) e))
theorem wp_names {M : Model} {A : Around} {E : Value → Shared → Prop} {s : Shared} {Q : PUnit → Shared → Prop} (seen : Sre.Seen) (hq : Q ⟨⟩ s) (l : List Nat) :
    wpAny M A (forIn l PUnit.unit fun i _ => do
      if seen.has i = true then do rule (Sre.names.getD i ""); pure (ForInStep.yield PUnit.unit) else pure (ForInStep.yield PUnit.unit)) Q E s := by
  refine wpAny_forIn_list _ (fun _ _ s' => s' = s) _ ?_ ?_ _ _ rfl
  · rintro x rest b s' rfl
    by_cases h : seen.has x = true
    · rw [if_pos h]; exact wpAny_bind (wpAny_rule (wpAny_pure rfl))
    · rw [if_neg h]; exact wpAny_pure rfl
  · rintro b s' rfl
    exact hq
theorem wp_runToEnd {M : Model} {A : Around} {E : Value → Shared → Prop} {s : Shared} {Q : Option Sre.M → Shared → Prop} {m m' : Sre.M} {b : Nat} {r : Option (Nat × Nat)} (hr : Run b m m') (hb : b < 1000000000000) (he : Ends m' r)
    (hq : ∀ o, (match r with | none => o = none | some (st, e) => ∃ q : Sre.M, o = some q ∧ q.start = st ∧ q.handed = e) → Q o s) :
    wpAny M A (reRunToEnd m) Q E s := by
  obtain ⟨n, hn, hs⟩ := hr
  have hsome : m'.outcome.isSome = true := by
    unfold Ends at he
    cases r with
    | none => obtain ⟨o, h, _⟩ := he; rw [h]; rfl
    | some p => obtain ⟨h, _⟩ := he; rw [h]; rfl
  unfold reRunToEnd
  refine wpAny_bind (wp_drive hsome ?_ n (2 ^ 64) n m (by omega) (by omega) hs)
  refine wpAny_bind (wp_names m'.seen ?_ _)
  unfold Ends at he
  cases r with
  | none =>
    obtain ⟨o, h, rfl⟩ := he
    rw [h]
    exact wpAny_pure (hq _ rfl)
  | some p =>
    obtain ⟨h, h1, h2⟩ := he
    rw [h]
    exact wpAny_pure (hq _ ⟨_, rfl, h1, h2⟩)
noncomputable def PatAt (h : Heap) (p : Addr) (code : Array Nat) : Prop :=
  ∃ o vs tup ot cv n, h.get? p = some o ∧ o.cls = .type "re.Pattern" ∧ o.data = .fields vs ∧ vs.getD 5 .none = .ref tup ∧ vs.getD 2 .none = .int 0 0 ∧ vs.getD 6 .none = .int 0 0
    ∧ h.get? tup = some ot ∧ ot.data = .seq cv n ∧ (cv.map reRawOf).map (·.toNat) = code
theorem PatAt.ext {h h' : Heap} {p : Addr} {code : Array Nat} (x : PatAt h p code) (e : Ext h h') : PatAt h' p code := by
  obtain ⟨o, vs, tup, ot, cv, n, h1, h2, h3, h4, h5, h6, h7, h8, h9⟩ := x
  exact ⟨o, vs, tup, ot, cv, n, e _ _ h1, h2, h3, h4, h5, h6, e _ _ h7, h8, h9⟩
noncomputable abbrev tgt (p : Addr) (x : Str) (t : Tok) (code : Array Nat) : ReTarget :=
  { pattern := .ref p, string := .str x t, code, text := x.cps, kind := 0, groups := 0, pos := 0, lim := x.cps.size }
theorem wp_whole {M : Model} {A : Around} {E : Value → Shared → Prop} {s : Shared} {Q : ReTarget → Shared → Prop} {p : Addr} {x : Str} {t : Tok} {code : Array Nat} (P : PatAt s.heap p code) (hq : Q (tgt p x t code) s) :
    wpAny M A (reWholeTarget (.ref p) (.str x t)) Q E s := by
  obtain ⟨o, vs, tup, ot, cv, n, h1, h2, h3, h4, h5, h6, h7, h8, h9⟩ := P
  unfold reWholeTarget
  refine wpAny_bind (wpAny_fieldsOf h1 h3 ?_)
  refine wpAny_bind (wpAny_of_eq (a := (x.cps, 0)) rfl ?_)
  dsimp only
  rw [h4, h5, h6]
  have f1 : (reRawNat (.int 0 0) == 0 && (0 : Nat) == 1) = false := rfl
  have f2 : (reRawNat (.int 0 0) == 1 && (0 : Nat) == 0) = false := rfl
  rw [f1, f2]
  simp only [Bool.false_eq_true, if_false]
  refine wpAny_bind (wpAny_of_eq (a := ()) rfl ?_)
  unfold reRawItems
  refine wpAny_bind (wpAny_bind (wpAny_seqItems h7 h8 (wpAny_pure ?_)))
  refine wpAny_pure ?_
  dsimp only [Option.getD]
  rw [h9]
  exact hq
theorem mapSeq_push {vs : List Value} {n : Nat} {v : Value} : Obj.mapSeq (·.push v) (lob vs n) = lob (vs ++ [v]) (n + 1) := by
  unfold Obj.mapSeq
  dsimp only
  have e2 : vs.toArray.push v = (vs ++ [v]).toArray := by simp
  rw [e2]
  have hne : ((vs ++ [v]).toArray.size == vs.toArray.size) = false := by
    rw [beq_eq_false_iff_ne]
    simp only [List.size_toArray, List.length_append, List.length_cons, List.length_nil]
    omega
  rw [hne]
  rfl
theorem wp_push {M : Model} {A : Around} {E : Value → Shared → Prop} {s : Shared} {Q : Unit → Shared → Prop} {L : Addr} {vs : List Value} {n : Nat} {v : Value} {h0 : Heap} (hl : s.heap.get? L = some (lob vs n)) (hn : h0.get? L = none) (e : Ext h0 s.heap) (hlen : vs.length < 10000000)
    (hq : ∀ h', Ext h0 h' → h'.get? L = some (lob (vs ++ [v]) (n + 1)) → Q () { s with heap := h' }) : wpAny M A (updateSeq L (·.push v)) Q E s := by
  refine wpAny_updateSeq (xs := vs.toArray) (n := n) hl rfl ?_ ?_ ?_
  · refine hq _ (fun b o hb => ?_) ?_
    · have : b ≠ L := by rintro rfl; rw [hn] at hb; cases hb
      exact (Heap.get?_update_ne _ _ _ _ this).trans (e _ _ hb)
    · rw [← mapSeq_push]
      exact Heap.get?_update_self _ hl rfl
  · rw [List.size_toArray]; unfold sizeLine; omega
  · rw [Array.size_push, List.size_toArray]; unfold sizeLine; omega
noncomputable def pieceStr (l : List (Str × Tok)) : List Nat := l.flatMap (fun p => p.1.cps.toList)
theorem glued_empty (l : List Str) : (Builtin.Str.glued ⟨#[]⟩ l).cps.toList = l.flatMap (fun p => p.cps.toList) := by
  unfold Builtin.Str.glued
  cases l with
  | nil => rfl
  | cons a r =>
    have g : ∀ (r : List Str) (acc : Array Nat), (r.foldl (fun acc p => acc ++ (#[] : Array Nat) ++ p.cps) acc).toList = acc.toList ++ r.flatMap (fun p => p.cps.toList) := by
      intro r
      induction r with
      | nil => intro acc; simp
      | cons b r ih => intro acc; rw [List.foldl_cons, ih]; simp
    exact g r a.cps
/-- the text after the first `start` signs, each find put out by rep -/
noncomputable def sbst (pf : Nat → Option Nat) (text : Array Nat) (rep : List Nat) : Nat → Nat → List Nat
  | 0, _ => []
  | n + 1, st => match nx pf text.size (text.size - st + 1) st with
    | none => text.toList.drop st
    | some (b, e) => (text.toList.drop st).take (b - st) ++ rep ++ sbst pf text rep n e
theorem nx_ge {pf : Nat → Option Nat} {lim : Nat} : ∀ (n s b e : Nat), nx pf lim n s = some (b, e) → s ≤ b ∧ pf b = some e
  | 0, _, _, _, h => by cases h
  | n + 1, s, b, e, h => by
    unfold nx at h
    cases hp : pf s with
    | some e' => rw [hp] at h; cases h; exact ⟨Nat.le_refl _, hp⟩
    | none =>
      rw [hp] at h
      dsimp only at h
      by_cases hl : s < lim
      · rw [if_pos hl] at h
        have := nx_ge n (s + 1) b e h
        exact ⟨by omega, this.2⟩
      · rw [if_neg hl] at h; cases h
end
/-! MR4 -/
section
open PySem PySem.W PySem.Spec PySem.Calls PyProof.Rows PySem.Builtin.Re
theorem rp_plain : PlainAttrs "re.Pattern" :=
  ⟨⟨"object.__getattribute__", by rw [typeLookup_type, builtinLookup_eq_fast]; kernel_rfl, by decide +kernel⟩, by rw [typeLookup_type, builtinLookup_eq_fast]; kernel_rfl⟩
theorem rp_slot : Slot "re.Pattern" "sub" "re.Pattern.sub" :=
  .of (owner := "re.Pattern") (n := "sub") (by rw [typeLookup_type, builtinLookup_eq_fast]; kernel_rfl) (by decide +kernel) (by decide +kernel) (by decide +kernel)
    (by first | exact .inl (by decide +kernel) | exact .inr (by decide +kernel)) (by rw [isSubtype_type]; kernel_rfl)
theorem rp_type : typeOf (.builtin "re.Pattern.sub") = pure (.type "method_descriptor") := by show builtinType _ = _; rw [builtinType_eq_fast]; kernel_rfl
theorem rp_entry : entryFor table "re.Pattern.sub" = some Builtin.«re.Pattern.sub» := entryFor_of_tree (by kernel_rfl)
theorem rp_entryL : entryFor table "re.Pattern.sub.loop" = some Builtin.«re.Pattern.sub.loop» := entryFor_of_tree (by kernel_rfl)
theorem rp_plainL : plainId "re.Pattern.sub.loop" = true := by decide +kernel
theorem rp_quietL (args : Args) : (Code.builtin "re.Pattern.sub.loop" args).quiet = true := plainId_quiet rp_plainL args
theorem rp_owner : Manifest.owners.lookup "re.Pattern" = some Manifest.sig_re_Pattern := by kernel_rfl
theorem rp_args (a b c : Value) : argsOk "re.Pattern.sub" ⟨[a, b, c], []⟩ := by
  unfold argsOk; rw [signature?_of (id := "re.Pattern.sub") (n := ['b', 'u', 's']) (o := ['n', 'r', 'e', 't', 't', 'a', 'P', '.', 'e', 'r']) (by kernel_rfl) rp_owner]; kernel_rfl
theorem join_len : ∀ (l : List (Str × Tok)) (acc : Nat), (l.map (·.1)).foldl (fun a y => a + y.length + (Str.mk #[]).length) acc = acc + (pieceStr l).length
  | [], acc => rfl
  | p :: r, acc => by
    rw [List.map_cons, List.foldl_cons, join_len r]
    show acc + p.1.cps.size + 0 + (pieceStr r).length = acc + (p.1.cps.toList ++ pieceStr r).length
    rw [List.length_append, Array.length_toList (xs := p.1.cps)]
    omega
theorem wp_join {w : World} {A : Around} {E : Value → Shared → Prop} {s : Shared} {Q : Value → Shared → Prop} {L : Addr} {l : List (Str × Tok)} {m : Nat} {t : Tok} (hl : s.heap.get? L = some (lob (strValues l) m)) (hp : (pieceStr l).length ≤ sizeLine)
    (hq : ∀ tk y t', y.cps.toList = pieceStr l → Q (.str y t') { s with toks := tk }) : wpAny (model pw w) A (call (.builtin "str.join") [.str ⟨#[]⟩ t, .ref L]) Q E s := by
  have ht : Builtin.Str.tooLong ((l.map (·.1)).toArray.foldl (fun a y => a + y.length + (Str.mk #[]).length) 0) = false := by
    rw [← Array.foldl_toList, List.toList_toArray, join_len, Nat.zero_add]
    unfold Builtin.Str.tooLong
    exact decide_eq_false (by omega)
  refine call_meets PySem.F.slot_str_join (typeIs_str _ _ _) PySem.F.entry_str_join (PySem.F.args_str_join_2 _ _) (meets_str_join_list _ _ L l ht) ⟨lob_is hl, ?_⟩
  have gl : ∀ l : List (Str × Tok), (Builtin.Str.glued ⟨#[]⟩ (l.map (·.1))).cps.toList = pieceStr l := by
    intro l
    rw [glued_empty]
    unfold pieceStr
    rw [List.flatMap_map]
  match l, hp, hq with
  | [q], _, hq => exact hq _ _ _ (by unfold pieceStr; simp)
  | [], hp, hq => exact ⟨by show _ ≤ _; decide, hq _ _ _ (gl [])⟩
  | q :: r :: u, hp, hq =>
    refine ⟨?_, hq _ _ _ (gl _)⟩
    show (Builtin.Str.glued ⟨#[]⟩ _).cps.size ≤ _
    rw [← Array.length_toList, gl]
    exact hp
noncomputable abbrev loopArgs (p : Addr) (x : Str) (t : Tok) (rep : Str) (rt : Tok) (n : Int) (st : Nat) (L : Addr) : Args :=
  ⟨[.ref p, .str x t, .str rep rt, rawInt 0, rawInt 0, rawInt n, rawInt (st : Int), rawInt (st : Int), .bool false, .ref L, .bool false], []⟩
theorem sub_loop {w : World} {A : Around} {R : Result → Shared → Prop} {p L : Addr} {code : Array Nat} {x rep : Str} {t rt : Tok} {h0 : Heap} {pf : Nat → Option Nat}
    (hpf : ∀ b e, pf b = some e → b < e ∧ e ≤ x.cps.size) (hf : ∀ q, q ≤ x.cps.size → Finds code x.cps q (nx pf x.cps.size (x.cps.size - q + 1) q)) (hx : x.cps.size < 1000000) (hrep : rep.cps.size = 2)
    (P : PatAt h0 p code) (hL : h0.get? L = none) :
    ∀ (k st : Nat) (n : Int) (m : Nat) (l : List (Str × Tok)) (s : Shared), x.cps.size - st < k → st ≤ x.cps.size → Ext h0 s.heap → s.heap.get? L = some (lob (strValues l) m) →
      l.length ≤ 2 * st → (pieceStr l).length ≤ 3 * st →
      (∀ h' tk y t', Ext h0 h' → y.cps.toList = pieceStr l ++ sbst pf x.cps rep.cps.toList k st → R (.ok (.ret (.str y t'))) { s with heap := h', toks := tk }) →
      codeAny (model pw w) A (.builtin "re.Pattern.sub.loop" (loopArgs p x t rep rt n st L)) R s := by
  intro k
  induction k with
  | zero => intro st n m l s h; omega
  | succ k ih =>
    intro st n m l s hk hst he hl hlen hplen hR
    refine codeAny_builtin rp_entryL ?_
    rw [Around.under_plainId rp_plainL _]
    unfold Builtin.«re.Pattern.sub.loop»
    dsimp only [rawInt]
    refine wpAny_bind (wp_whole (P.ext he) ?_)
    have f1 : ((0 : Int) == 0) = true := rfl
    have f2 : ((0 : Int) != 0) = false := rfl
    rw [if_pos f1]
    refine wpAny_bind (wpAny_of_eq (a := ()) rfl ?_)
    rw [f2, Bool.false_and, if_neg Bool.false_ne_true, Int.toNat_natCast]
    obtain ⟨m', hrun, hends⟩ := hf st hst
    refine wpAny_bind (m := reRunToEnd (Sre.forSearch code x.cps 0 st x.cps.size false)) (wp_runToEnd hrun (by omega) hends ?_)
    intro o ho
    have last : ∀ (l' : List (Str × Tok)) (m tk0 : Nat) (h : Heap), Ext h0 h → h.get? L = some (lob (strValues l') m) → (pieceStr l').length ≤ sizeLine → pieceStr l' = pieceStr l ++ sbst pf x.cps rep.cps.toList (k + 1) st →
        wpAny (model pw w) A.in1 (do
          let joiner ← reSlice x.cps 0 0 0
          let __do_lift ← seqItems? (.ref L)
          if (__do_lift.getD #[]).isEmpty = true then do
            let text ← pure joiner
            ret text
          else do
            let text ← call (.builtin (if ((0 : Nat) == 0) = true then "str.join" else "bytes.join")) [joiner, .ref L]
            ret text) (fun fin s' => match fin with | .done f => R (.ok f) s' | .again c' => c'.quiet = true ∧ codeAny (model pw w) A c' R s') (fun e s' => R (.error e) s') { s with heap := h, toks := tk0 } := by
      intro l' m tk0 h e g hz hc
      refine wpAny_bind (m := mkStr ⟨x.cps.extract 0 0⟩) (wpAny_mkStr ?_ ?_)
      · rw [show x.cps.extract 0 0 = #[] by simp]
        refine wpAny_bind (wpAny_seqItems (s := { s with heap := h, toks := tk0 + 1 }) g rfl ?_)
        dsimp only [Option.getD]
        by_cases he : l' = []
        · subst he
          rw [if_pos (show (strValues []).toArray.isEmpty = true from rfl)]
          refine wpAny_bind (wpAny_pure (wpAny_pure ?_))
          exact hR _ _ _ _ e (by rw [← hc]; rfl)
        · rw [if_neg (show ¬ (strValues l').toArray.isEmpty = true by cases l' with | nil => exact absurd rfl he | cons a b => exact Bool.false_ne_true)]
          refine wpAny_bind (m := call (.builtin "str.join") [.str ⟨#[]⟩ _, .ref L]) (wp_join (s := { s with heap := h, toks := tk0 + 1 }) g hz ?_)
          intro tk y t' hy
          refine wpAny_pure ?_
          exact hR _ _ _ _ e (by rw [hy, hc])
      · show (x.cps.extract 0 0).size ≤ _
        rw [Array.size_extract]
        unfold sizeLine
        omega
    unfold sbst at last
    cases hnx : nx pf x.cps.size (x.cps.size - st + 1) st with
    | none =>
      rw [hnx] at ho last
      subst ho
      dsimp only at last ⊢
      simp only [Bool.false_eq_true, if_false]
      by_cases hlt : st < x.cps.size
      · rw [if_pos hlt]
        refine wpAny_bind (m := mkStr ⟨x.cps.extract st x.cps.size⟩) (wpAny_mkStr ?_ ?_)
        · refine wpAny_bind (wp_push (s := { s with toks := s.toks + 1 }) hl hL he (by unfold strValues; rw [List.length_map]; omega) ?_)
          intro h' e' g'
          have hc : pieceStr (l ++ [(⟨x.cps.extract st x.cps.size⟩, s.toks)]) = pieceStr l ++ x.cps.toList.drop st := by
            unfold pieceStr
            rw [List.flatMap_append]
            congr 1
            simp [List.extract_eq_take_drop, List.take_of_length_le]
          refine last (l ++ [(⟨x.cps.extract st x.cps.size⟩, s.toks)]) _ _ h' e' (by unfold strValues; rw [List.map_append]; exact g') ?_ hc
          rw [hc, List.length_append, List.length_drop, Array.length_toList (xs := x.cps)]
          unfold sizeLine
          omega
        · show (x.cps.extract st x.cps.size).size ≤ _
          rw [Array.size_extract]
          unfold sizeLine
          omega
      · rw [if_neg hlt]
        refine last l _ _ s.heap he hl (by unfold sizeLine; omega) ?_
        rw [List.drop_of_length_le (by rw [Array.length_toList]; omega), List.append_nil]
    | some be =>
      obtain ⟨b, e⟩ := be
      rw [hnx] at ho
      obtain ⟨q, rfl, hq1, hq2⟩ := ho
      obtain ⟨hb1, hb2⟩ := nx_ge _ _ _ _ hnx
      obtain ⟨hb3, hb4⟩ := hpf _ _ hb2
      dsimp only
      rw [hq1, hq2]
      have hit : ∀ (l' : List (Str × Tok)) (m tk0 : Nat) (h : Heap), Ext h0 h → h.get? L = some (lob (strValues l') m) → l'.length ≤ 2 * st + 1 → pieceStr l' = pieceStr l ++ (x.cps.toList.drop st).take (b - st) →
        wpAny (model pw w) A.in1 (do
          let item ← pure (Value.str rep rt)
          if (item != Value.none) = true then do
              updateSeq L fun x => x.push item
              again (Code.builtin "re.Pattern.sub.loop" ⟨[Value.ref p, Value.str x t, Value.str rep rt, Value.int 0 0, Value.int 0 0, Value.int (n + 1) 0, Value.int (e : Int) 0, Value.int (e : Int) 0, Value.bool (e == b), Value.ref L, Value.bool false], []⟩)
            else
              again (Code.builtin "re.Pattern.sub.loop" ⟨[Value.ref p, Value.str x t, Value.str rep rt, Value.int 0 0, Value.int 0 0, Value.int (n + 1) 0, Value.int (e : Int) 0, Value.int (e : Int) 0, Value.bool (e == b), Value.ref L, Value.bool false], []⟩))
          (fun fin s' => match fin with | .done f => R (.ok f) s' | .again c' => c'.quiet = true ∧ codeAny (model pw w) A c' R s') (fun e s' => R (.error e) s') { s with heap := h, toks := tk0 } := by
        intro l' m tk0 h eh g hle hc
        refine wpAny_bind (wpAny_pure ?_)
        rw [if_pos (show (Value.str rep rt != Value.none) = true from rfl)]
        refine wpAny_bind (wp_push (s := { s with heap := h, toks := tk0 }) g hL eh (by unfold strValues; rw [List.length_map]; omega) ?_)
        intro h' e' g'
        refine wpAny_pure ⟨rp_quietL _, ?_⟩
        have hbe : (e == b) = false := by rw [beq_eq_false_iff_ne]; omega
        rw [hbe]
        have hc2 : pieceStr (l' ++ [(rep, rt)]) = pieceStr l ++ ((x.cps.toList.drop st).take (b - st) ++ rep.cps.toList) := by
          rw [← List.append_assoc, ← hc]
          unfold pieceStr
          rw [List.flatMap_append]
          congr 1
          simp
        refine ih e (n + 1) (m + 1) (l' ++ [(rep, rt)]) { s with heap := h', toks := tk0 } (by omega) hb4 e' (by unfold strValues; rw [List.map_append]; exact g') (by rw [List.length_append]; show _ + 1 ≤ _; omega) ?_ ?_
        · rw [hc2, List.length_append, List.length_append, List.length_take, Array.length_toList (xs := rep.cps), hrep]
          omega
        · intro h2 tk y t' e2 hy
          refine hR h2 tk y t' e2 ?_
          rw [hy, hc2]
          conv => rhs; unfold sbst
          rw [hnx]
          dsimp only
          simp only [List.append_assoc]
      by_cases hlt : st < b
      · rw [if_pos hlt]
        refine wpAny_bind (m := mkStr ⟨x.cps.extract st b⟩) (wpAny_mkStr ?_ ?_)
        · refine wpAny_bind (wp_push (s := { s with toks := s.toks + 1 }) hl hL he (by unfold strValues; rw [List.length_map]; omega) ?_)
          intro h' e' g'
          rw [if_pos f1]
          refine hit (l ++ [(⟨x.cps.extract st b⟩, s.toks)]) _ _ h' e' (by unfold strValues; rw [List.map_append]; exact g') (by rw [List.length_append]; show _ + 1 ≤ _; omega) ?_
          unfold pieceStr
          rw [List.flatMap_append]
          congr 1
          simp [List.extract_eq_take_drop]
        · show (x.cps.extract st b).size ≤ _
          rw [Array.size_extract]
          unfold sizeLine
          omega
      · rw [if_neg hlt, if_pos f1]
        refine hit l _ _ s.heap he hl (by omega) ?_
        rw [show b - st = 0 by omega, List.take_zero, List.append_nil]
end
/-! MR5 -/
section
open PySem PySem.W PySem.Spec PySem.Calls PyProof.Rows PySem.Builtin.Re
theorem str_no_call : typeLookup (.type "str") "__call__" = pure none := by rw [typeLookup_type, builtinLookup_eq_fast]; kernel_rfl
theorem sub_spec {w : World} {A : Around} {E : Value → Shared → Prop} {s : Shared} {Q : Value → Shared → Prop} {p : Addr} {code : Array Nat} {x rep : Str} {t rt : Tok} {pf : Nat → Option Nat}
    (hpf : ∀ b e, pf b = some e → b < e ∧ e ≤ x.cps.size) (hf : ∀ q, q ≤ x.cps.size → Finds code x.cps q (nx pf x.cps.size (x.cps.size - q + 1) q)) (hx : x.cps.size < 1000000) (hrep : rep.cps.size = 2) (hesc : rep.cps.contains 92 = false)
    (P : PatAt s.heap p code)
    (hq : ∀ h' tk y t', Ext s.heap h' → y.cps.toList = sbst pf x.cps rep.cps.toList (x.cps.size + 1) 0 → Q (.str y t') { s with heap := h', toks := tk }) :
    wpAny (model pw w) A (call (.builtin "re.Pattern.sub") [.ref p, .str rep rt, .str x t]) Q E s := by
  have hT : s.TypeIs (.ref p) "re.Pattern" := by
    obtain ⟨o, vs, tup, ot, cv, n, h1, h2, _⟩ := P
    exact ⟨o, h1, h2⟩
  refine wpAny_call (codeAny_call_builtin rp_slot.plain rp_entry (rp_slot.check _ _ _ _ _ _ _ _ hT (rp_args _ _ _) ?_))
  show wpAny (model pw w) A.in1 (reSubstitute "re.Pattern.sub" "sub" false ⟨[.ref p, .str rep rt, .str x t], []⟩) _ _ s
  unfold reSubstitute
  dsimp only
  refine wpAny_bind (wpAny_of_eq (a := [some (.str rep rt), some (.str x t), none]) (by kernel_rfl) ?_)
  dsimp only
  refine wpAny_bind (wpAny_pure ?_)
  refine wpAny_bind (wpAny_specialOf (typeIs_str _ _ _) str_no_call ?_)
  simp only [Option.isSome_none, Bool.false_eq_true, if_false]
  refine wpAny_bind (wpAny_of_eq (a := some rep) rfl ?_)
  dsimp only
  refine wpAny_bind (wpAny_pure ?_)
  rw [hesc, if_pos (show (!false) = true from rfl)]
  refine wpAny_bind (wpAny_pure ?_)
  refine wpAny_bind (wpAny_holding (wp_whole P ?_))
  rw [if_neg (show ¬ ((0 : Int) == 1) = true by decide)]
  refine wpAny_bind (wpAny_newList ?_)
  refine wpAny_pure ⟨rp_quietL _, ?_⟩
  have hL : s.heap.get? s.heap.objs.size = none := by
    cases e : s.heap.get? s.heap.objs.size with
    | none => rfl
    | some o => exact absurd (Heap.lt_size e) (Nat.lt_irrefl _)
  refine sub_loop (h0 := s.heap) hpf hf hx hrep P hL (x.cps.size + 1) 0 0 0 [] _ (by omega) (Nat.zero_le _) (fun b o hb => Heap.get?_push_of_some _ hb) (Heap.get?_push_size _ rfl) (Nat.le_refl _) (Nat.le_refl _) ?_
  intro h' tk y t' e hy
  exact hq h' tk y t' e hy
end
/-! MQ -/
section
open PySem PySem.W
theorem nx_spec {text : Array Nat} {pf : Nat → Option Nat} {rep : List Nat} {sp : Nat → List Nat} (hA : ∀ st, text.size ≤ st → pf st = none ∧ sp st = []) (hB : ∀ st e, pf st = some e → sp st = rep ++ sp e)
    (hC : ∀ st, st < text.size → pf st = none → sp st = text.getD st 0 :: sp (st + 1)) :
    ∀ (d st : Nat), text.size - st = d → match nx pf text.size (text.size - st + 1) st with
      | none => sp st = text.toList.drop st
      | some (b, e) => sp st = (text.toList.drop st).take (b - st) ++ rep ++ sp e := by
  intro d
  induction d with
  | zero =>
    intro st h
    unfold nx
    rw [(hA st (by omega)).1]
    dsimp only
    rw [if_neg (by omega)]
    dsimp only
    rw [(hA st (by omega)).2, List.drop_of_length_le (by rw [Array.length_toList (xs := text)]; omega)]
  | succ d ih =>
    intro st h
    have hd : text.toList.drop st = text.getD st 0 :: text.toList.drop (st + 1) := by
      have hlt : st < text.toList.length := by rw [Array.length_toList (xs := text)]; omega
      rw [List.drop_eq_getElem_cons hlt]
      congr 1
      simp [Array.getD, show st < text.size by omega]
    unfold nx
    cases hp : pf st with
    | some e =>
      dsimp only
      rw [hB st e hp, Nat.sub_self, List.take_zero, List.nil_append]
    | none =>
      dsimp only
      rw [if_pos (by omega)]
      have hs := ih (st + 1) (by omega)
      rw [show text.size - (st + 1) + 1 = text.size - st by omega] at hs
      cases hn : nx pf text.size (text.size - st) (st + 1) with
      | none =>
        rw [hn] at hs
        dsimp only at hs ⊢
        rw [hC st (by omega) hp, hs, hd]
      | some be =>
        obtain ⟨b, e⟩ := be
        rw [hn] at hs
        dsimp only at hs ⊢
        have := (nx_ge _ _ _ _ hn).1
        rw [hC st (by omega) hp, hs, hd, show b - st = (b - (st + 1)) + 1 by omega, List.take_succ_cons]
        rfl
theorem sbst_spec {text : Array Nat} {pf : Nat → Option Nat} {rep : List Nat} {sp : Nat → List Nat} (hA : ∀ st, text.size ≤ st → pf st = none ∧ sp st = []) (hB : ∀ st e, pf st = some e → sp st = rep ++ sp e)
    (hC : ∀ st, st < text.size → pf st = none → sp st = text.getD st 0 :: sp (st + 1)) (hlt : ∀ st e, pf st = some e → st < e) :
    ∀ (n st : Nat), st ≤ text.size → (∀ b e, pf b = some e → e ≤ text.size) → text.size - st < n → sbst pf text rep n st = sp st := by
  intro n
  induction n with
  | zero => intro st _ _ h; omega
  | succ n ih =>
    intro st hst hle h
    have hs := nx_spec hA hB hC _ st rfl
    unfold sbst
    cases hn : nx pf text.size (text.size - st + 1) st with
    | none =>
      rw [hn] at hs
      dsimp only at hs ⊢
      rw [hs]
    | some be =>
      obtain ⟨b, e⟩ := be
      rw [hn] at hs
      dsimp only at hs ⊢
      obtain ⟨h1, h2⟩ := nx_ge _ _ _ _ hn
      have h3 := hlt _ _ h2
      rw [hs, ih e (hle _ _ h2) hle (by have := hle _ _ h2; omega)]
noncomputable def crlf : List Nat → List Nat
  | [] => []
  | [c] => if c == 13 || c == 10 then [13, 10] else [c]
  | c :: d :: r => if c == 13 then (if d == 10 then 13 :: 10 :: crlf r else 13 :: 10 :: crlf (d :: r)) else if c == 10 then 13 :: 10 :: crlf (d :: r) else c :: crlf (d :: r)
noncomputable def dotUp : Bool → List Nat → List Nat
  | _, [] => []
  | b, c :: r => if b && c == 46 then 46 :: 46 :: dotUp false r else c :: dotUp (c == 10) r
theorem drop_get {text : Array Nat} {st : Nat} (h : st < text.size) : text.toList.drop st = text.getD st 0 :: text.toList.drop (st + 1) := by
  have hlt : st < text.toList.length := by rw [Array.length_toList (xs := text)]; exact h
  rw [List.drop_eq_getElem_cons hlt]
  congr 1
  simp [Array.getD, h]
theorem drop_nil {text : Array Nat} {st : Nat} (h : text.size ≤ st) : text.toList.drop st = [] :=
  List.drop_of_length_le (by rw [Array.length_toList (xs := text)]; exact h)
theorem p67_out {text : Array Nat} {st : Nat} (h : text.size ≤ st) : p67 text st = none := by unfold p67; rw [if_neg (by omega)]
theorem p67_rn {text : Array Nat} {st : Nat} (h : st + 1 < text.size) (h1 : (text.getD st 0 == 13) = true) (h2 : (text.getD (st + 1) 0 == 10) = true) : p67 text st = some (st + 2) := by
  unfold p67; rw [if_pos (by omega), if_pos h1, if_pos ⟨h, h2⟩]
theorem p67_r {text : Array Nat} {st : Nat} (h : st < text.size) (h1 : (text.getD st 0 == 13) = true) (h2 : ¬ (st + 1 < text.size ∧ (text.getD (st + 1) 0 == 10) = true)) : p67 text st = some (st + 1) := by
  unfold p67; rw [if_pos h, if_pos h1, if_neg h2]
theorem p67_n {text : Array Nat} {st : Nat} (h : st < text.size) (h1 : ¬ (text.getD st 0 == 13) = true) (h2 : (text.getD st 0 == 10) = true) : p67 text st = some (st + 1) := by
  unfold p67; rw [if_pos h, if_neg h1, if_pos h2]
theorem p67_no {text : Array Nat} {st : Nat} (h1 : ¬ (text.getD st 0 == 13) = true) (h2 : ¬ (text.getD st 0 == 10) = true) : p67 text st = none := by
  unfold p67
  by_cases h : st < text.size
  · rw [if_pos h, if_neg h1, if_neg h2]
  · rw [if_neg h]
theorem p67_bound {text : Array Nat} {b e : Nat} (h : p67 text b = some e) : b < e ∧ e ≤ text.size := by
  by_cases hs : b < text.size
  · by_cases c13 : (text.getD b 0 == 13) = true
    · by_cases hb : b + 1 < text.size ∧ (text.getD (b + 1) 0 == 10) = true
      · rw [p67_rn hb.1 c13 hb.2] at h; cases h; omega
      · rw [p67_r hs c13 hb] at h; cases h; omega
    · by_cases c10 : (text.getD b 0 == 10) = true
      · rw [p67_n hs c13 c10] at h; cases h; omega
      · rw [p67_no c13 c10] at h; cases h
  · rw [p67_out (by omega)] at h; cases h
theorem p62_bound {text : Array Nat} {b e : Nat} (h : p62 text b = some e) : b < e ∧ e ≤ text.size := by
  unfold p62 at h
  split at h
  · cases h; omega
  · cases h
theorem sbst67 (text : Array Nat) : sbst (p67 text) text [13, 10] (text.size + 1) 0 = crlf text.toList := by
  have := sbst_spec (text := text) (pf := p67 text) (rep := [13, 10]) (sp := fun st => crlf (text.toList.drop st)) ?_ ?_ ?_ (fun st e h => (p67_bound h).1) (text.size + 1) 0 (Nat.zero_le _) (fun b e h => (p67_bound h).2) (by omega)
  · rw [this]; rfl
  · intro st h
    refine ⟨?_, ?_⟩
    · unfold p67; rw [if_neg (by omega)]
    · show crlf _ = _; rw [drop_nil h]; rfl
  · intro st e h
    show crlf _ = [13, 10] ++ crlf _
    by_cases hs : st < text.size
    · rw [drop_get hs]
      by_cases c13 : (text.getD st 0 == 13) = true
      · by_cases h1 : st + 1 < text.size
        · rw [drop_get h1]
          by_cases c10 : (text.getD (st + 1) 0 == 10) = true
          · rw [p67_rn h1 c13 c10] at h
            cases h
            conv => lhs; unfold crlf
            rw [if_pos c13, if_pos c10]
            rfl
          · rw [p67_r hs c13 (fun x => c10 x.2)] at h
            cases h
            conv => lhs; unfold crlf
            rw [if_pos c13, if_neg c10, drop_get h1]
            rfl
        · rw [p67_r hs c13 (fun x => h1 x.1)] at h
          cases h
          rw [drop_nil (show text.size ≤ st + 1 by omega)]
          conv => lhs; unfold crlf
          rw [c13]
          rfl
      · by_cases c10 : (text.getD st 0 == 10) = true
        · rw [p67_n hs c13 c10] at h
          cases h
          cases hr : text.toList.drop (st + 1) with
          | nil =>
            conv => lhs; unfold crlf
            rw [c10, Bool.or_true]
            rfl
          | cons a b =>
            conv => lhs; unfold crlf
            rw [if_neg c13, if_pos c10]
            rfl
        · rw [p67_no c13 c10] at h; cases h
    · rw [p67_out (by omega)] at h; cases h
  · intro st hs h
    show crlf _ = _ :: crlf _
    have c13 : ¬ (text.getD st 0 == 13) = true := by
      intro c13
      by_cases hb : st + 1 < text.size ∧ (text.getD (st + 1) 0 == 10) = true
      · rw [p67_rn hb.1 c13 hb.2] at h; cases h
      · rw [p67_r hs c13 hb] at h; cases h
    have c10 : ¬ (text.getD st 0 == 10) = true := by
      intro c10
      rw [p67_n hs c13 c10] at h; cases h
    rw [drop_get hs]
    cases hr : text.toList.drop (st + 1) with
    | nil =>
      conv => lhs; unfold crlf
      rw [Bool.eq_false_iff.mpr c13, Bool.eq_false_iff.mpr c10]
      rfl
    | cons a b =>
      conv => lhs; unfold crlf
      rw [if_neg c13, if_neg c10]
theorem sbst62 (text : Array Nat) : sbst (p62 text) text [46, 46] (text.size + 1) 0 = dotUp true text.toList := by
  have := sbst_spec (text := text) (pf := p62 text) (rep := [46, 46]) (sp := fun st => dotUp (st == 0 || text.getD (st - 1) 0 == 10) (text.toList.drop st)) ?_ ?_ ?_ (fun st e h => (p62_bound h).1) (text.size + 1) 0 (Nat.zero_le _) (fun b e h => (p62_bound h).2) (by omega)
  · rw [this]; rfl
  · intro st h
    refine ⟨?_, ?_⟩
    · unfold p62; rw [if_neg (by omega)]
    · show dotUp _ _ = _; rw [drop_nil h]; rfl
  · intro st e h
    show dotUp _ _ = [46, 46] ++ dotUp _ _
    unfold p62 at h
    split at h
    · rename_i hs
      cases h
      have hi := hs.2
      unfold is62 at hi
      rw [drop_get hs.1]
      conv => lhs; unfold dotUp
      rw [if_pos hi]
      have c : text.getD st 0 = 46 := by rw [Bool.and_eq_true] at hi; exact eq_of_beq hi.2
      rw [Nat.add_sub_cancel, c]
      rfl
    · cases h
  · intro st hs h
    show dotUp _ _ = _ :: dotUp _ _
    unfold p62 at h
    split at h
    · cases h
    · rename_i hn
      rw [drop_get hs]
      conv => lhs; unfold dotUp
      have hi : ¬ ((st == 0 || text.getD (st - 1) 0 == 10) && text.getD st 0 == 46) = true := fun x => hn ⟨hs, x⟩
      rw [if_neg hi, Nat.add_sub_cancel]
      rfl
noncomputable def subL (pf : Array Nat → Nat → Option Nat) (rep : List Nat) (x : List Nat) : List Nat := sbst (pf x.toArray) x.toArray rep (x.length + 1) 0
theorem subL67 (x : List Nat) : subL p67 [13, 10] x = crlf x := sbst67 x.toArray
theorem subL62 (x : List Nat) : subL p62 [46, 46] x = dotUp true x := sbst62 x.toArray
theorem crlf_len : ∀ x : List Nat, (crlf x).length ≤ 2 * x.length
  | [] => Nat.le_refl _
  | [c] => by unfold crlf; split <;> simp
  | c :: d :: r => by
    have h1 := crlf_len r
    have h2 := crlf_len (d :: r)
    unfold crlf
    split
    · split
      · simp only [List.length_cons]; omega
      · simp only [List.length_cons] at *; omega
    · split
      · simp only [List.length_cons] at *; omega
      · simp only [List.length_cons] at *; omega
/-- a line's signs: no line end among them -/
noncomputable def LineOk (l : List Nat) : Prop := ∀ c ∈ l, c ≠ 10 ∧ c ≠ 13
noncomputable def mailOf (rows : List (List Nat)) : List Nat := rows.flatMap (· ++ [13, 10])
noncomputable def dot1 (l : List Nat) : List Nat := if l.head? = some 46 then 46 :: l else l
theorem crlf_line : ∀ (l r : List Nat), LineOk l → crlf (l ++ r) = l ++ crlf r
  | [], r, _ => rfl
  | c :: l, r, h => by
    have hc := h c List.mem_cons_self
    have ih := crlf_line l r (fun x hx => h x (List.mem_cons_of_mem _ hx))
    have n13 : ¬ (c == 13) = true := fun x => hc.2 (eq_of_beq x)
    have n10 : ¬ (c == 10) = true := fun x => hc.1 (eq_of_beq x)
    rw [List.cons_append, List.cons_append, ← ih]
    cases e : l ++ r with
    | nil =>
      conv => lhs; unfold crlf
      rw [Bool.eq_false_iff.mpr n13, Bool.eq_false_iff.mpr n10]
      rfl
    | cons a b =>
      conv => lhs; unfold crlf
      rw [if_neg n13, if_neg n10]
theorem crlf_mail : ∀ rows : List (List Nat), (∀ l ∈ rows, LineOk l) → crlf (mailOf rows) = mailOf rows
  | [], _ => rfl
  | l :: rows, h => by
    have ih := crlf_mail rows (fun x hx => h x (List.mem_cons_of_mem _ hx))
    show crlf ((l ++ [13, 10]) ++ mailOf rows) = (l ++ [13, 10]) ++ mailOf rows
    rw [List.append_assoc, crlf_line l _ (h l List.mem_cons_self)]
    congr 1
    show crlf (13 :: 10 :: mailOf rows) = 13 :: 10 :: mailOf rows
    conv => lhs; unfold crlf
    rw [if_pos (by decide), if_pos (by decide), ih]
theorem dotUp_line : ∀ (l r : List Nat), LineOk l → dotUp false (l ++ 13 :: 10 :: r) = l ++ 13 :: 10 :: dotUp true r
  | [], r, _ => rfl
  | c :: l, r, h => by
    have hc := h c List.mem_cons_self
    have ih := dotUp_line l r (fun x hx => h x (List.mem_cons_of_mem _ hx))
    have n10 : (c == 10) = false := Bool.eq_false_iff.mpr (fun x => hc.1 (eq_of_beq x))
    rw [List.cons_append, List.cons_append, ← ih]
    conv => lhs; unfold dotUp
    rw [Bool.false_and, if_neg Bool.false_ne_true, n10]
theorem dotUp_first (l r : List Nat) (h : LineOk l) : dotUp true (l ++ 13 :: 10 :: r) = dot1 l ++ 13 :: 10 :: dotUp true r := by
  cases l with
  | nil => rfl
  | cons c l =>
    have hc := h c List.mem_cons_self
    have hl := dotUp_line l r (fun x hx => h x (List.mem_cons_of_mem _ hx))
    have n10 : (c == 10) = false := Bool.eq_false_iff.mpr (fun x => hc.1 (eq_of_beq x))
    rw [List.cons_append]
    conv => lhs; unfold dotUp
    unfold dot1
    by_cases c46 : c = 46
    · subst c46
      rw [if_pos (by decide), hl, if_pos (by rfl)]
      rfl
    · rw [if_neg (by rw [Bool.true_and]; exact fun x => c46 (eq_of_beq x)), n10, hl, if_neg (by intro x; cases x; exact c46 rfl)]
      rfl
theorem dotUp_mail : ∀ rows : List (List Nat), (∀ l ∈ rows, LineOk l) → dotUp true (mailOf rows) = mailOf (rows.map dot1)
  | [], _ => rfl
  | l :: rows, h => by
    have ih := dotUp_mail rows (fun x hx => h x (List.mem_cons_of_mem _ hx))
    show dotUp true ((l ++ [13, 10]) ++ mailOf rows) = (dot1 l ++ [13, 10]) ++ mailOf (rows.map dot1)
    rw [List.append_assoc, List.append_assoc, ← ih]
    exact dotUp_first l _ (h l List.mem_cons_self)
noncomputable def nlOf (k : Nat) : List Nat := if k % 3 = 0 then [10] else if k % 3 = 1 then [13] else [13, 10]
theorem mail_head : ∀ rows : List (List Nat), (∀ l ∈ rows, LineOk l) → (mailOf rows).head? ≠ some 10
  | [], _ => by intro h; cases h
  | l :: rows, h => by
    show ((l ++ [13, 10]) ++ mailOf rows).head? ≠ some 10
    cases l with
    | nil => intro x; cases x
    | cons c l => intro x; cases x; exact (h _ List.mem_cons_self 10 List.mem_cons_self).1 rfl
theorem quote_law (row : List Nat) (rows : List (List Nat)) (k : Nat) (hr : LineOk row) (h : ∀ l ∈ rows, LineOk l) :
    subL p62 [46, 46] (subL p67 [13, 10] (row ++ nlOf k ++ mailOf rows)) = mailOf ((row :: rows).map dot1) := by
  rw [subL62, subL67]
  have e : crlf (nlOf k ++ mailOf rows) = 13 :: 10 :: mailOf rows := by
    have hm := crlf_mail rows h
    have hh := mail_head rows h
    unfold nlOf
    split
    · cases e : mailOf rows with
      | nil => rfl
      | cons a b =>
        rw [e] at hm
        show crlf (10 :: a :: b) = _
        conv => lhs; unfold crlf
        rw [if_neg (by decide), if_pos (by decide), hm]
    · split
      · cases e : mailOf rows with
        | nil => rfl
        | cons a b =>
          rw [e] at hm hh
          show crlf (13 :: a :: b) = _
          conv => lhs; unfold crlf
          rw [if_pos (by decide), if_neg (by intro x; exact hh (by rw [eq_of_beq x]; rfl)), hm]
      · show crlf (13 :: 10 :: mailOf rows) = _
        conv => lhs; unfold crlf
        rw [if_pos (by decide), if_pos (by decide), hm]
  have e2 : crlf (row ++ nlOf k ++ mailOf rows) = mailOf (row :: rows) := by
    rw [List.append_assoc, crlf_line row _ hr, e]
    show _ = (row ++ [13, 10]) ++ mailOf rows
    rw [List.append_assoc]
    rfl
  rw [e2]
  exact dotUp_mail (row :: rows) (fun l hl => by
    rcases List.mem_cons.mp hl with rfl | hl
    · exact hr
    · exact h l hl)
end
/-! MR6 -/
section
open PySem PySem.W PySem.Spec PySem.Calls PyProof.Rows
theorem pat63 {w : World} {N : Names} {h : Heap} (O : Okh w N h) : PatAt h 63 code62 :=
  ⟨o63 w.params, _, 62, o62 w.params, _, _, O.K 63 _ rfl, rfl, rfl, rfl, rfl, rfl, O.K 62 _ rfl, rfl, by kernel_rfl⟩
theorem pat68 {w : World} {N : Names} {h : Heap} (O : Okh w N h) : PatAt h 68 code67 :=
  ⟨o68 w.params, _, 67, o67 w.params, _, _, O.K 68 _ rfl, rfl, rfl, rfl, rfl, rfl, O.K 67 _ rfl, rfl, by kernel_rfl⟩
theorem subL_of (pf : Array Nat → Nat → Option Nat) (rep : List Nat) (x : Array Nat) : sbst (pf x) x rep (x.size + 1) 0 = subL pf rep x.toList := rfl
set_option maxHeartbeats 2000000 in
theorem quote_spec (w : World) (N : Names) (x : Str) (t : Tok) {A : Around} {s : Shared} {Q : Value → Shared → Prop} {E : Value → Shared → Prop} (O : Okh w N s.heap) (hd : A.depth < 900) (hu : A.units < 9000) (hx : x.cps.size < 100000)
    (hret : ∀ h' tk y t', Ext s.heap h' → y.cps.toList = subL p62 [46, 46] (subL p67 [13, 10] x.cps.toList) → Q (.str y t') { s with heap := h', toks := tk }) : wpAny (model pw w) A (call (.ref 75) [.str x t] []) Q E s := by
  have _kf : (fun (_ : OpenLaw) (_ : Params → Frag) => True) PySem.Challenge.rw_rw0108_01 K := by (k_fill; trivial)
  clear _kf
  refine enterP (f := 75) (binds := [(Str.ofString "data", .str x t)]) O rfl rfl rfl rfl (BindsTo.of_eq rfl) (Nat.lt_trans hd (by decide)) (by decide) (locs rfl) rfl rfl rfl ?_
  intro h₁ F0
  show wpAny (model pw w) (A.deeper (envOf (Str.ofString "quotedata") (fSc (stm 9)) s.heap.objs.size 75 (.ref 74))) (execs (fBody (stm 9)) (envOf (Str.ofString "quotedata") (fSc (stm 9)) s.heap.objs.size 75 (.ref 74))) _ _ { s with heap := h₁, toks := s.toks + 1 }
  have es := (rfl : fSc (stm 9) = fSc (stm 9))
  conv at es => rhs; whnf
  have eb := (rfl : fBody (stm 9) = fBody (stm 9))
  conv at eb => rhs; whnf
  rw [es, eb]
  clear es eb
  have KX := O.K
  have T := O.T
  have N0 : News s.heap s.heap.objs.size h₁ [] := News.nil
  k_steps
  refine getMethod_builtin (T := "re.Pattern") (id := "re.Pattern.sub") ⟨o63 w.params, KX.keeps (Fr.keep (by assumption)) 63 _ rfl, rfl⟩ rp_plain rp_slot rp_type (fun a e => by cases e; exact ⟨o63 w.params, KX.keeps (Fr.keep (by assumption)) 63 _ rfl, rfl⟩) ?_
  k_steps
  refine getMethod_builtin (T := "re.Pattern") (id := "re.Pattern.sub") ⟨o68 w.params, KX.keeps (Fr.keep (by assumption)) 68 _ rfl, rfl⟩ rp_plain rp_slot rp_type (fun a e => by cases e; exact ⟨o68 w.params, KX.keeps (Fr.keep (by assumption)) 68 _ rfl, rfl⟩) ?_
  k_steps
  refine sub_spec (pf := p67 x.cps) (code := code67) (fun b e h => p67_bound h) (fun q hq => find67 x.cps q hq) (by omega) rfl (by decide +kernel) (pat68 (O.ext (Fr.keep (by assumption)))) (fun h2 tk2 y2 t2 e2 hy2 => ?_)
  have hy2' : y2.cps.toList = subL p67 [13, 10] x.cps.toList := hy2
  have hsz : y2.cps.size < 1000000 := by
    rw [← Array.length_toList (xs := y2.cps), hy2', subL67]
    have := crlf_len x.cps.toList
    rw [Array.length_toList (xs := x.cps)] at this
    omega
  rename Fr _ _ _ _ => F9
  have F3 := Fr.ext F9 e2
  have N3 : News s.heap s.heap.objs.size h2 [] := News.nil
  clear F9
  k_steps
  refine sub_spec (pf := p62 y2.cps) (code := code62) (fun b e h => p62_bound h) (fun q hq => find62 y2.cps q hq) hsz rfl (by decide +kernel) (pat63 (O.ext (Fr.keep (by assumption)))) (fun h4 tk4 y4 t4 e4 hy4 => ?_)
  rename Fr _ _ _ _ => F8
  have F5 := Fr.ext F8 e4
  clear F8
  k_steps
  exact hret _ _ _ _ (Fr.keep (by assumption)) (by rw [← hy2']; exact hy4)
end
/-! ML0 -/
section
open PySem PySem.W PySem.Spec PySem.Calls PyProof.Rows
theorem enterC {w : World} {N : Names} {A : Around} {s : Shared} {Q : Value → Shared → Prop} {E : Value → Shared → Prop} {f : Addr} {fo : Obj} {name qual : Str} {params : Arguments} {body : List Stmt} {scope : Scope} {dV kV doc pm cdv ct : Value} {an : Option Addr} {vs : List Value} {kw : List (Str × Value)} {binds : List (Str × Value)}
    (O : Okh w N s.heap) (hl : (K w.params).lookup f = some fo) (hd : fo.data = .func (fnX name qual params body scope [] dV kV doc pm an cdv ct)) (hc : codeIn (K w.params) cdv qual = true)
    (hbind : BindsTo s (fnX name qual params body scope [] dV kV doc pm an cdv ct) ⟨vs, kw⟩ binds) (hroom : A.depth < recursionLimit)
    (hkind : ∀ n, ∀ x ∈ binds, scope.names.lookup x.1 = some .local ∨ (scope.names.lookup x.1 = some .cell ∧ ((cellsFrom n scope.names []).lookup x.1).isSome = true))
    (hnd : ((cellsFrom 0 scope.names []).map (·.1)).Nodup)
    (hco : scope.isCoroutine = false) (hgen : scope.isGenerator = false) (hk : scope.kind = .function)
    (h : ∀ h₁ tk cells, Fr s.heap s.heap.objs.size h₁ (bindL (envOfC qual scope s.heap.objs.size f cdv).kindOf binds fun _ => none) → News s.heap s.heap.objs.size h₁ cells →
      CellsAre (bindC (envOfC qual scope s.heap.objs.size f cdv).kindOf binds fun _ => none) (cellsFrom (s.heap.objs.size + 1) scope.names []) cells →
      wpAny (model pw w) (A.deeper (envOfC qual scope s.heap.objs.size f cdv)) (execs body (envOfC qual scope s.heap.objs.size f cdv)) (fun fl s' => Q (retV fl) s') (fun _ _ => False) { s with heap := h₁, toks := tk }) :
    wpAny (model pw w) A (call (.ref f) vs kw) Q E s := by
  refine wpAny_call ?_
  refine codeAny_call_function hroom (O.K _ _ hl) hd hco hgen rfl (codeRec_of O.K hc) (hbind _ _ _ _ ?_)
  refine wpAny_newFunctionEnv_cells hk (hkind _) fun env' he s' x => ?_
  subst he
  refine ⟨O.T.nolimit.keeps x.toInCall.keep, codeAny_func ?_⟩
  obtain ⟨h₁, tk, rfl, _⟩ := x.done
  have hk₁ := x.toInCall.keep
  obtain ⟨cells, NC, Y⟩ := Cl.news (h₀ := s.heap) (Nat.le_refl _) fun n c hm => ⟨x.cell n c (lookup_of_mem_nodup (cellsFrom_names scope.names 0 (s.heap.objs.size + 1) [] [] rfl ▸ hnd) hm), x.above n c hm⟩
  exact wpAny_mono (h h₁ tk cells ⟨x.toInCall.ns, fun b o e => hk₁ b o e, Nat.le_refl _⟩ NC Y) (fun fl s' hq => hq) (fun _ _ y => y.elim)
end
/-! ML4 -/
section
open PySem PySem.W PySem.Spec PySem.Calls PyProof.Rows
/-- `z = [elt for x in l]` at the list l: each element by g2, the rest of the walk by g3 -/
theorem srcCL {w : World} {A : Around} {E : Value → Shared → Prop} {s₁ : Shared} {h₀ : Heap} {L l : Addr} {m : Str → Option Value} {news : List (Addr × Obj)} {env : Env} {elt : PySem.Expr} {x z : Str} {scope : Scope} {cl : List (Str × Addr)} {Q : Flow → Shared → Prop} {vs : List Value} (R : Value → Value → Prop)
    (hh : A.handled = none) (hl : s₁.heap.IsList l vs.toArray) (F : Fr h₀ L s₁.heap m) (N : News h₀ L s₁.heap news) (hL : env.locals = L)
    (g2 : ∀ C v s₃ m₃ E', s₁.heap.objs.size < C → v ∈ vs → s₃.heap.Ns C m₃ → m₃ x = some v → Ext s₁.heap s₃.heap → wpAny (model pw w) A (eval elt (compEnvC scope cl C env)) (fun y s₄ => R v y ∧ Keeps s₃ s₄) E' s₃)
    (g3 : ∀ D ys n h' tk, Paired R vs ys → Fr h₀ L h' (fun y => if y = z then some (.ref D) else m y) → News h₀ L h' ((D, lob ys n) :: news) → Q .next { s₁ with heap := h', toks := tk })
    (hsz : vs.length ≤ sizeLine) :
    wpAny (model pw w) A (pyIter (.ref l)) (fun it s₂ => ∃ I fp wr n P St m, it = .ref I ∧ Walks pw w A I fp wr n P St ∧ n ≤ sizeLine ∧ St 0 s₂.heap ∧ (∀ b ∈ fp, b < s₂.heap.objs.size) ∧
      env.locals ∉ wr ∧ s₂.heap.Ns env.locals m ∧ QuietOnC pw w A env scope cl x [] elt wr P (fun _ => true) R s₂ ∧
      (∀ D h' tk ys (vs : List Value), s₂.heap.get? D = none → h'.IsList D ys → h'.PlainList D ys → vs.length = n → (∀ j v, vs[j]? = some v → P j v) → Paired R (vs.filter fun _ => true) ys.toList →
        h'.Ns env.locals (fun y => if y = z then some (.ref D) else m y) → (∀ b o, b ≠ env.locals → b ∉ wr → s₂.heap.get? b = some o → h'.get? b = some o) → Q .next { s₂ with heap := h', toks := tk })) E s₁ := by
  have hlt : l < s₁.heap.objs.size := by obtain ⟨_, e, _⟩ := hl; exact Heap.lt_size e
  subst hL
  refine wpAny_pyIter_list hl ?_
  refine ⟨s₁.heap.objs.size, [s₁.heap.objs.size, l], [s₁.heap.objs.size], vs.toArray.size, _, _, m, rfl, Walks.list hh _ l (Nat.ne_of_lt hlt) vs.toArray, (by rw [List.size_toArray]; exact hsz),
    ⟨⟨_, Heap.get?_push_size _ rfl, rfl, rfl⟩, hl.at fun o e => Heap.get?_push_of_some _ e⟩, ?_, ?_, (F.push _).ns, ⟨?_, ?_⟩, ?_⟩
  · intro b hb
    show b < (s₁.heap.push _).objs.size
    rw [Heap.size_push]
    rcases List.mem_cons.mp hb with rfl | hb
    · exact Nat.lt_succ_self _
    · rw [List.mem_singleton.mp hb]; exact Nat.lt_succ_of_lt hlt
  · intro hm
    exact absurd F.ns.lt ((List.mem_singleton.mp hm) ▸ Nat.lt_irrefl _)
  · intro C i v s₃ m₃ E' _ hP hn hm hk htk
    refine wpAny_pure ⟨rfl, s₃.heap, s₃.toks, rfl, fun _ _ e => e⟩
  · intro C i v s₃ m₃ E' hC hP hp hn hm hk htk
    have hC' : (s₁.heap.push { cls := .type "list_iterator", data := .fields #[.ref l, .int 0 0] }).objs.size ≤ C := hC
    rw [Heap.size_push] at hC'
    have hv : vs[i]? = some v := by simpa using hP
    exact g2 C v s₃ m₃ E' (by omega) (List.mem_of_getElem? hv) hn hm (fun b o e => hk b o (not_iter_of_old e) (Heap.get?_push_of_some _ e))
  · intro D h' tk ys vs' hnew hlD hplD hlen hP hF hn' hk
    have e' : vs' = vs := by simpa using walked_is hlen hP
    subst e'
    obtain ⟨n, hD⟩ := hplD
    have up : ∀ b o, b ≠ env.locals → s₁.heap.get? b = some o → h'.get? b = some o := fun b o hb e => hk b o hb (not_iter_of_old e) (Heap.get?_push_of_some _ e)
    have hn1 : s₁.heap.get? D = none := by
      cases e : s₁.heap.get? D with
      | none => rfl
      | some o' => rw [Heap.get?_push_of_some _ e] at hnew; cases hnew
    have hDL : D ≠ env.locals := by
      intro e
      obtain ⟨o, _, _, ho, _⟩ := F.ns
      rw [← e, hn1] at ho
      cases ho
    refine g3 D ys.toList n h' tk (by rw [List.filter_eq_self.mpr (fun _ _ => rfl)] at hF; exact hF) ⟨hn', fun b o' e => up b o' (Nat.ne_of_lt (Nat.lt_of_lt_of_le (Heap.lt_size e) F.above)) (F.keep b o' e), F.above⟩ ?_
    intro p hp
    rcases List.mem_cons.mp hp with rfl | hp
    · refine ⟨?_, hDL, ?_⟩
      · unfold lob; rw [Array.toArray_toList]; exact hD
      · cases e : h₀.get? D with
        | none => rfl
        | some o' => rw [F.keep _ _ e] at hn1; cases hn1
    · exact ⟨up _ _ (N p hp).2.1 (N p hp).1, (N p hp).2⟩
theorem asgCL {w : World} {A : Around} {E : Value → Shared → Prop} {s : Shared} {h₀ : Heap} {L l a : Addr} {m : Str → Option Value} {news : List (Addr × Obj)} {cn : Str} {cs : Scope} {ccd : Value} {cells cl : List (Str × Addr)} {elt : PySem.Expr} {x z r : Str} {px pz pr pos spos : Pos} {scope : Scope} {Q : Flow → Shared → Prop} {vs : List Value} {n₀ : Nat} (R : Value → Value → Prop)
    (hh : A.handled = none) (F : Fr h₀ L s.heap m) (N : News h₀ L s.heap news) (hr : m r = some (.ref l)) (hl : (l, lob vs n₀) ∈ news) (hsz : vs.length ≤ sizeLine)
    (g2 : ∀ C v s₃ m₃ E', s.heap.objs.size < C → Fr h₀ C s₃.heap m₃ → v ∈ vs → m₃ x = some v → Ext s.heap s₃.heap → wpAny (model pw w) A (eval elt (compEnvC scope cl C (envX cn cs L a ccd cells))) (fun y s₄ => R v y ∧ Keeps s₃ s₄) E' s₃)
    (g3 : ∀ D ys n h' tk, Paired R vs ys → Fr h₀ L h' (fun y => if y = z then some (.ref D) else m y) → News h₀ L h' ((D, lob ys n) :: news) → Q .next { s with heap := h', toks := tk })
    (hsw : swapsWith (.ListComp elt [⟨.Name x px, .Name r pr, [], 0⟩] scope pos) (some (.Name z pz)) spos.line (envX cn cs L a ccd cells) = pure true)
    (hclos : closureFor scope (envX cn cs L a ccd cells) = pure cl) (hcell : ∀ z ∈ scope.names, z.2 ≠ .cell) (hkind : scope.kind = .function)
    (hnames : ∀ z ∈ scope.names, z.2 = .local → scope.names.lookup z.1 = some .local) (hx : scope.names.lookup x = some .local)
    (hk : cs.kind = .function) (hz : (envX cn cs L a ccd cells).kindOf z = some .local) (hrk : (envX cn cs L a ccd cells).kindOf r = some .local) (hrd : (r == ("__debug__" : Str)) = false) :
    wpAny (model pw w) A (exec (.Assign [.Name z pz] (.ListComp elt [⟨.Name x px, .Name r pr, [], 0⟩] scope pos) spos) (envX cn cs L a ccd cells)) Q E s := by
  refine wpAny_Assign_ListComp_free (cl := cl) (fun _ => true) R hsw hclos hcell hkind hnames hx hz (by rw [hk]; rfl) ?_
  refine nameX_L F hr ?_ hk hrk hrd
  have hlL : L < s.heap.objs.size := F.ns.lt
  refine srcCL (s₁ := s) (L := L) (h₀ := h₀) R hh ⟨_, (N _ hl).1, rfl, n₀, rfl⟩ F N rfl (fun C v s₃ m₃ E' hC hv hn hm hE => ?_) g3 hsz
  exact g2 C v s₃ m₃ E' hC ⟨hn, fun b o e => hE _ _ (F.keep b o e), Nat.le_trans F.above (Nat.le_of_lt (Nat.lt_trans hlL hC))⟩ hv hm hE
end
/-! ML5 -/
section
open PySem PySem.W PySem.Spec PySem.Calls PyProof.Rows
/-- str.split with a separator: the heap grows by one list -/
theorem splitE {w : World} {A : Around} {E : Value → Shared → Prop} {s : Shared} {x y : Str} {t u : Tok} {Q : Value → Shared → Prop} (hy : (y.length == 0) = false)
    (h : ∀ l h' k, l.map (·.1) = Txt.split x y → Ext s.heap h' → h'.get? s.heap.objs.size = some (lob (strValues l) 0) → Q (.ref s.heap.objs.size) { s with heap := h', toks := k })
    (hsz : x.length < 1000000) : wpAny (model pw w) A (call (.builtin "str.split") [.str x t, .str y u]) Q E s := by
  have fin : ∀ (l : List (Str × Tok)) (k : Nat), l.map (·.1) = Txt.split x y → Q (.ref s.heap.objs.size) { s with heap := s.heap.push (lob (strValues l) 0), toks := k } := fun l k e =>
    h l _ k e (fun b o hb => Heap.get?_push_of_some _ hb) (Heap.get?_push_size _ rfl)
  have hx : x.length ≤ sizeLine := Nat.le_trans (Nat.le_of_lt hsz) (by decide)
  have hn : (Builtin.Str.partsBetween x (Builtin.Str.occurrences x y 0 x.length (x.length + 1)) y.length).length ≤ sizeLine := by
    have e1 := StrLaws.occ_length_le x y 0 x.length (x.length + 1)
    rw [length_partsBetween]
    have : x.length + 3 ≤ sizeLine := by unfold sizeLine; omega
    omega
  by_cases h1 : (decide (x.length < y.length) || decide (Builtin.Str.strKind x < Builtin.Str.strKind y)) = true
  · exact call_meets PySem.F.slot_str_split (typeIs_str _ _ _) PySem.F.entry_str_split (PySem.F.args_str_split_2 _ _) (meets_str_split_cannot_occur x y t u h1)
      (fin [(x, t)] s.toks (if_pos h1).symm)
  · have h1' := Bool.eq_false_iff.mpr h1
    by_cases hf : (Builtin.Str.occurrences x y 0 x.length (x.length + 1)).isEmpty = true
    · exact call_meets PySem.F.slot_str_split (typeIs_str _ _ _) PySem.F.entry_str_split (PySem.F.args_str_split_2 _ _) (meets_str_split_not_found x y t u h1' hy hf)
        (fin [(x, t)] s.toks ((if_neg h1).trans (if_pos hf)).symm)
    · have hf' := Bool.eq_false_iff.mpr hf
      refine call_meets PySem.F.slot_str_split (typeIs_str _ _ _) PySem.F.entry_str_split (PySem.F.args_str_split_2 _ _) (meets_str_split_sep x y t u h1' hy hf' hx hn) ?_
      rw [strsFrom_eq]
      exact fin (numbered s.toks _) _ ((numbered_texts _ _).trans ((if_neg h1).trans (if_neg hf)).symm)
/-- `[elt for x in r]` as an expression, in a def with cells -/
theorem evalCL {w : World} {A : Around} {E : Value → Shared → Prop} {s : Shared} {h₀ : Heap} {L l a : Addr} {m : Str → Option Value} {news : List (Addr × Obj)} {cn : Str} {cs : Scope} {ccd : Value} {cells cl : List (Str × Addr)} {elt : PySem.Expr} {x r : Str} {px pr pos : Pos} {scope : Scope} {Q : Value → Shared → Prop} {vs : List Value} {n₀ : Nat} (R : Value → Value → Prop)
    (hh : A.handled = none) (F : Fr h₀ L s.heap m) (N : News h₀ L s.heap news) (hr : m r = some (.ref l)) (hl : (l, lob vs n₀) ∈ news) (hsz : vs.length ≤ sizeLine)
    (g2 : ∀ C v s₃ m₃ E', s.heap.objs.size < C → Fr h₀ C s₃.heap m₃ → v ∈ vs → m₃ x = some v → Ext s.heap s₃.heap → wpAny (model pw w) A (eval elt (compEnvC scope cl C (envX cn cs L a ccd cells))) (fun y s₄ => R v y ∧ Keeps s₃ s₄) E' s₃)
    (g3 : ∀ D ys n h' tk, Paired R vs ys → Fr h₀ L h' m → News h₀ L h' ((D, lob ys n) :: news) → Q (.ref D) { s with heap := h', toks := tk })
    (hclos : closureFor scope (envX cn cs L a ccd cells) = pure cl) (hcell : ∀ z ∈ scope.names, z.2 ≠ .cell) (hkind : scope.kind = .function)
    (hnames : ∀ z ∈ scope.names, z.2 = .local → scope.names.lookup z.1 = some .local) (hx : scope.names.lookup x = some .local)
    (hk : cs.kind = .function) (hrk : (envX cn cs L a ccd cells).kindOf r = some .local) (hrd : (r == ("__debug__" : Str)) = false) :
    wpAny (model pw w) A (eval (.ListComp elt [⟨.Name x px, .Name r pr, [], 0⟩] scope pos) (envX cn cs L a ccd cells)) Q E s := by
  refine wpAny_ListComp_free (cl := cl) (fun _ => true) R hclos hcell hkind hnames hx ?_
  refine nameX_L F hr ?_ hk hrk hrd
  have hlL : L < s.heap.objs.size := F.ns.lt
  have hI : s.heap.IsList l vs.toArray := ⟨_, (N _ hl).1, rfl, n₀, rfl⟩
  have hlt : l < s.heap.objs.size := by obtain ⟨_, e, _⟩ := hI; exact Heap.lt_size e
  refine wpAny_pyIter_list hI ?_
  refine ⟨s.heap.objs.size, [s.heap.objs.size, l], [s.heap.objs.size], vs.toArray.size, _, _, rfl, Walks.list hh _ l (Nat.ne_of_lt hlt) vs.toArray, (by rw [List.size_toArray]; exact hsz),
    ⟨⟨_, Heap.get?_push_size _ rfl, rfl, rfl⟩, hI.at fun o e => Heap.get?_push_of_some _ e⟩, ?_, ⟨?_, ?_⟩, ?_⟩
  · intro b hb
    show b < (s.heap.push _).objs.size
    rw [Heap.size_push]
    rcases List.mem_cons.mp hb with rfl | hb
    · exact Nat.lt_succ_self _
    · rw [List.mem_singleton.mp hb]; exact Nat.lt_succ_of_lt hlt
  · intro C i v s₃ m₃ E' _ hP hn hm hk htk
    exact wpAny_pure ⟨rfl, s₃.heap, s₃.toks, rfl, fun _ _ e => e⟩
  · intro C i v s₃ m₃ E' hC hP hp hn hm hk htk
    have hC' : (s.heap.push { cls := .type "list_iterator", data := .fields #[.ref l, .int 0 0] }).objs.size ≤ C := hC
    rw [Heap.size_push] at hC'
    have hv : vs[i]? = some v := by simpa using hP
    have hE : Ext s.heap s₃.heap := fun b o e => hk b o (not_iter_of_old e) (Heap.get?_push_of_some _ e)
    exact g2 C v s₃ m₃ E' hC' ⟨hn, fun b o e => hE _ _ (F.keep b o e), Nat.le_trans F.above (Nat.le_of_lt (Nat.lt_trans hlL hC'))⟩ (List.mem_of_getElem? hv) hm hE
  · intro D h' tk ys vs' hnew hlD hplD hlen hP hF hk
    have e' : vs' = vs := by simpa using walked_is hlen hP
    subst e'
    obtain ⟨n, hD⟩ := hplD
    have up : Ext s.heap h' := fun b o e => hk b o (not_iter_of_old e) (Heap.get?_push_of_some _ e)
    have hn1 : s.heap.get? D = none := by
      cases e : s.heap.get? D with
      | none => rfl
      | some o' => rw [Heap.get?_push_of_some _ e] at hnew; cases hnew
    have hDL : D ≠ L := by
      intro e
      obtain ⟨o, _, _, ho, _⟩ := F.ns
      rw [← e, hn1] at ho
      cases ho
    refine g3 D ys.toList n h' tk (by rw [List.filter_eq_self.mpr (fun _ _ => rfl)] at hF; exact hF) (Fr.ext F up) ?_
    intro p hp
    rcases List.mem_cons.mp hp with rfl | hp
    · refine ⟨?_, hDL, ?_⟩
      · unfold lob; rw [Array.toArray_toList]; exact hD
      · cases e : h₀.get? D with
        | none => rfl
        | some o' => rw [F.keep _ _ e] at hn1; cases hn1
    · exact ⟨up _ _ (N p hp).1, (N p hp).2⟩
end
/-! ML6 -/
section
open PySem PySem.W PySem.Spec PySem.Calls PyProof.Rows
noncomputable def wordOf (y : Str) : Str := (Txt.split (Txt.lstripChars y (Str.ofString ".")) (Str.ofString " ")).headD Str.empty
noncomputable def dotsOf (y : Str) : Int := (y.length : Int) - ((Txt.lstripChars y (Str.ofString ".")).length : Int)
noncomputable def rankOf (cs : List Nat) (y : Str) : Nat := bis (fun i => ltS (mapB3 (cs.getD i 0)) y) cs.length 0 cs.length
noncomputable def wordR (v r : Value) : Prop := ∃ y t t', v = .str y t ∧ r = .str (wordOf y) t'
noncomputable def dotsR (v r : Value) : Prop := ∃ y t t', v = .str y t ∧ r = .int (dotsOf y) t'
noncomputable def rankR (cs : List Nat) (v r : Value) : Prop := ∃ y t t', v = .str y t ∧ r = .int (rankOf cs y : Nat) t'
theorem dots_ints : ∀ {vs ys : List Value} {xs : List Str}, StrsAre vs xs → Paired dotsR vs ys → IntsAre ys (xs.map dotsOf)
  | _, _, _, .nil, .nil => .nil
  | _, _, _, .cons y t h, .cons ⟨y', t', u, e, e'⟩ p => by cases e; subst e'; exact .cons _ _ (dots_ints h p)
theorem words_strs : ∀ {vs ys : List Value} {xs : List Str}, StrsAre vs xs → Paired wordR vs ys → StrsAre ys (xs.map wordOf)
  | _, _, _, .nil, .nil => .nil
  | _, _, _, .cons y t h, .cons ⟨y', t', u, e, e'⟩ p => by cases e; subst e'; exact .cons _ _ (words_strs h p)
theorem ranks_ints {cs : List Nat} : ∀ {vs ys : List Value} {xs : List Str}, StrsAre vs xs → Paired (rankR cs) vs ys → IntsAre ys (xs.map fun y => (rankOf cs y : Int))
  | _, _, _, .nil, .nil => .nil
  | _, _, _, .cons y t h, .cons ⟨y', t', u, e, e'⟩ p => by cases e; subst e'; exact .cons _ _ (ranks_ints h p)
theorem strs_at {vs : List Value} {xs : List Str} (h : StrsAre vs xs) : ∀ v ∈ vs, ∃ y t, v = .str y t ∧ y ∈ xs := by
  induction h with
  | nil => intro v hv; cases hv
  | cons y t _ ih =>
    intro v hv
    rcases List.mem_cons.mp hv with rfl | hv
    · exact ⟨y, t, rfl, List.mem_cons_self⟩
    · obtain ⟨y', t', e, m⟩ := ih v hv
      exact ⟨y', t', e, List.mem_cons_of_mem _ m⟩
theorem strs_app {a b : List Value} {x y : List Str} (h : StrsAre a x) (g : StrsAre b y) : StrsAre (a ++ b) (x ++ y) := by
  induction h with
  | nil => exact g
  | cons z t _ ih => exact .cons z t ih
theorem strs_rev {a : List Value} {x : List Str} (h : StrsAre a x) : StrsAre a.reverse x.reverse := by
  induction h with
  | nil => exact .nil
  | cons z t _ ih => rw [List.reverse_cons, List.reverse_cons]; exact strs_app ih (.cons z t .nil)
theorem rows_are {l1 : List (Str × Tok)} {rows : List Str} {last : Str} (e : l1.map (·.1) = rows ++ [last]) :
    StrsAre (kms_pick (strValues l1).toArray.toList none (some (-1))).toArray.toList.reverse rows.reverse := by
  have hl : l1.length = rows.length + 1 := by rw [← List.length_map (f := (·.1)) (as := l1), e, List.length_append]; rfl
  have hp : kms_pick (strValues l1).toArray.toList none (some (-1)) = strValues (l1.take rows.length) := by
    unfold kms_pick
    rw [List.toList_toArray]
    have h1 : kms_lo none (strValues l1).length = 0 := rfl
    have h2 : kms_hi (some (-1)) (strValues l1).length = rows.length := by
      show (strValues l1).length - 1 = _
      unfold strValues
      rw [List.length_map, hl]
      show rows.length + 1 - 1 = _
      omega
    rw [h1, h2, List.drop_zero, Nat.sub_zero]
    unfold strValues
    rw [List.map_take]
  have hm : (l1.take rows.length).map (·.1) = rows := by
    rw [List.map_take, e, List.take_left']
    rfl
  rw [hp, List.toList_toArray]
  refine strs_rev ?_
  have := strsAre_of_values (l1.take rows.length)
  rw [hm] at this
  exact this
end
/-! ML7 -/
section
open PySem PySem.W PySem.Spec PySem.Calls PyProof.Rows
theorem unpack2 {w : World} {A : Around} {E : Value → Shared → Prop} {s : Shared} {h₀ : Heap} {L f t : Addr} {m : Str → Option Value} {news : List (Addr × Obj)} {cn : Str} {cs : Scope} {cd : Value} {cl : List (Str × Addr)} {a b : Str} {pa pb pos : Pos} {k : Nat} {v1 v2 : Value} {Q : Unit → Shared → Prop}
    (hh : A.handled = none) (F : Fr h₀ L s.heap m) (N : News h₀ L s.heap news) (ht : (t, ({ cls := .type "tuple", data := .seq #[v1, v2] } : Obj)) ∈ news)
    (hk : cs.kind = .function) (ha : (envX cn cs L f cd cl).kindOf a = some .local) (hb : (envX cn cs L f cd cl).kindOf b = some .local)
    (h : ∀ h' tk, Fr h₀ L h' (fun y => if y = b then some v2 else if y = a then some v1 else m y) → News h₀ L h' news → Q () { s with heap := h', toks := tk }) :
    wpAny (model pw w) A (assign (.Tuple [.Name a pa, .Name b pb] k pos) (envX cn cs L f cd cl) (.ref t)) Q E s := by
  refine wpAny_assign_Tuple (items := #[v1, v2]) hh ⟨_, (N _ ht).1, rfl, 0, rfl⟩ rfl rfl (fun h1 x1 => ?_)
  have F1 : Fr h₀ L h1 m := ⟨F.ns.extBut x1 (Nat.ne_of_lt F.ns.lt), fun b o e => x1 b o (Nat.ne_of_lt (Heap.lt_size (F.keep b o e))) (F.keep b o e), F.above⟩
  have N1 : News h₀ L h1 news := fun p hp => ⟨x1 _ _ (Nat.ne_of_lt (Heap.lt_size (N p hp).1)) (N p hp).1, (N p hp).2⟩
  show wpAny _ _ (do holding [v2] (assign (.Name a pa) (envX cn cs L f cd cl) v1); do holding [] (assign (.Name b pb) (envX cn cs L f cd cl) v2); pure ()) _ _ _
  refine wpAny_bind (wpAny_holding (wpAny_assign_Name (storeX_L F1 N1 (fun h2 F2 N2 => ?_) hk ha)))
  refine wpAny_bind (wpAny_holding (wpAny_assign_Name (storeX_L F2 N2 (fun h3 F3 N3 => ?_) hk hb)))
  exact wpAny_pure (h _ _ F3 N3)
end
/-! ML8 -/
section
open PySem PySem.W PySem.Spec PySem.Calls PyProof.Rows
/-- all but L and the places of X is kept -/
noncomputable abbrev ExtX (L : Addr) (X : Addr → Prop) (h h' : Heap) : Prop := ∀ b o, b ≠ L → ¬ X b → h.get? b = some o → h'.get? b = some o
/-- what a turn must end with -/
noncomputable def TurnE (h₀ : Heap) (L : Addr) (own : List (Addr × Obj)) (Jn : (Str → Option Value) → Heap → Prop) (s : Shared) (f : Flow) (s' : Shared) : Prop :=
  f = .next ∧ ∃ h' tk' m₂, s' = { s with heap := h', toks := tk' } ∧ Fr h₀ L h' m₂ ∧ News h₀ L h' own ∧ Jn m₂ h'
open Classical in
noncomputable def ownX (h₀ : Heap) (L : Addr) (X : Addr → Prop) (h : Heap) : List (Addr × Obj) := (List.range h.objs.size).filterMap fun b => if b ≠ L ∧ ¬ X b ∧ h₀.get? b = none then (h.get? b).map fun o => (b, o) else none
theorem mem_ownX {h₀ h : Heap} {L : Addr} {X : Addr → Prop} {b : Addr} {o : Obj} (hb : b ≠ L) (hX : ¬ X b) (hn : h₀.get? b = none) (ho : h.get? b = some o) : (b, o) ∈ ownX h₀ L X h :=
  List.mem_filterMap.mpr ⟨b, List.mem_range.mpr (Heap.lt_size ho), by rw [if_pos ⟨hb, hX, hn⟩, ho]; rfl⟩
theorem news_ownX {h₀ h : Heap} {L : Addr} {X : Addr → Prop} : News h₀ L h (ownX h₀ L X h) := by
  intro p hp
  obtain ⟨b, _, e⟩ := List.mem_filterMap.mp hp
  split at e
  · rename_i q
    cases ho : h.get? b with
    | none => rw [ho] at e; cases e
    | some o =>
      rw [ho] at e
      cases e
      exact ⟨ho, q.1, q.2.2⟩
  · cases e
theorem off_ownX {h₀ h : Heap} {L : Addr} {X : Addr → Prop} : ∀ p ∈ ownX h₀ L X h, ¬ X p.1 := by
  intro p hp
  obtain ⟨b, _, e⟩ := List.mem_filterMap.mp hp
  split at e
  · rename_i q
    cases ho : h.get? b with
    | none => rw [ho] at e; cases e
    | some o => rw [ho] at e; cases e; exact q.2.1
  · cases e
theorem ext_ownX {h₀ h h' : Heap} {L : Addr} {X : Addr → Prop} {m : Str → Option Value} (F : Fr h₀ L h m) (hk : ∀ b o, h₀.get? b = some o → h'.get? b = some o) (N : News h₀ L h' (ownX h₀ L X h)) : ExtX L X h h' := by
  intro b o hb hX e
  cases hn : h₀.get? b with
  | some o₀ => have := F.keep b o₀ hn; rw [e] at this; cases this; exact hk b o hn
  | none => exact (N _ (mem_ownX hb hX hn e)).1
theorem frKnow {h₀ h : Heap} {L : Addr} {m : Str → Option Value} {k : Str} {v : Value} (F : Fr h₀ L h m) (e : m k = some v) : Fr h₀ L h (fun y => if y = k then some v else m y) :=
  Fr.cast F fun y => by
    by_cases q : y = k
    · subst q; rw [if_pos rfl]; exact e
    · rw [if_neg q]
/-- a loop by an invariant J on the locals and the heap (X: the places that the turns change) -/
theorem loopG2 {w : World} {A : Around} {E : Value → Shared → Prop} {s : Shared} {env : Env} {h₀ : Heap} {x : Str} {px : Pos} {body : List Stmt} {Q : Flow → Shared → Prop} {I : Addr} {fp wr : List Addr} {n : Nat} {P : Nat → Value → Prop} {St : Nat → Heap → Prop} {m : Str → Option Value}
    (X : Addr → Prop) (J : Nat → (Str → Option Value) → Heap → Prop) (W : Walks pw w A I fp wr n P St) (hx : env.kindOf x = some .local)
    (hp : (env.scope.kind == .class || (env.scope.kind == .module && env.locals != env.globals)) = false)
    (hLf : env.locals ∉ fp) (hXf : ∀ b ∈ fp, ¬ X b) (hwr : ∀ b ∈ wr, h₀.get? b = none)
    (hst : St 0 s.heap) (F : Fr h₀ env.locals s.heap m) (h0 : J 0 m s.heap)
    (stab : ∀ i m h h', J i m h → (∀ b o, b ≠ env.locals → b ∉ wr → h.get? b = some o → h'.get? b = some o) → J i m h')
    (turn : ∀ i v m₁ h tk own, i < n → P i v → J i m₁ h → Fr h₀ env.locals h (fun y => if y = x then some v else m₁ y) → (∀ b o, b ≠ env.locals → ¬ X b → b ∉ wr → s.heap.get? b = some o → h.get? b = some o) → News h₀ env.locals h own → (∀ p ∈ own, ¬ X p.1) → St (i + 1) h → (∀ b o, b ≠ env.locals → ¬ X b → h₀.get? b = none → h.get? b = some o → (b, o) ∈ own) →
      wpAny (model pw w) A (execs body env) (TurnE h₀ env.locals own (J (i + 1)) s) E { s with heap := h, toks := tk })
    (done : ∀ h tk m', Fr h₀ env.locals h m' → J n m' h → (∀ b o, b ≠ env.locals → ¬ X b → b ∉ wr → s.heap.get? b = some o → h.get? b = some o) → Q .next { s with heap := h, toks := tk })
    (hE : PassesOwn (model pw w) A env E) :
    codeAny (model pw w) A (.forLoop (.Name x px) (.ref I) body [] env) (fun r s' => match r with | .ok f => Q f s' | .error e => cameBackBy (model pw w) A env E e s') s := by
  have hLw : env.locals ∉ wr := fun h => hLf (W.sub _ h)
  have old : ∀ b o, h₀.get? b = some o → b ∉ wr := fun b o e hb => by rw [hwr b hb] at e; cases e
  refine codeAny_forLoop
    (fun k s' => ∃ h' tk m' i, s' = { s with heap := h', toks := tk } ∧ St i h' ∧ Fr h₀ env.locals h' m' ∧ J i m' h' ∧ (∀ b o, b ≠ env.locals → ¬ X b → b ∉ wr → s.heap.get? b = some o → h'.get? b = some o) ∧ i ≤ n ∧ k = n + 1 - i) ?_ (n + 1)
    ⟨s.heap, s.toks, m, 0, rfl, hst, F, h0, fun _ _ _ _ _ e => e, Nat.zero_le _, rfl⟩
  rintro k s' ⟨h', tk, m', i, rfl, hst', F', hJ, hK, hi, rfl⟩
  have next : ∀ h₁ : Heap, (∀ b o, b ∉ wr → h'.get? b = some o → h₁.get? b = some o) → Fr h₀ env.locals h₁ m' := fun h₁ hk₁ =>
    ⟨F'.ns.at' fun o e => hk₁ _ o hLw e, fun b o e => hk₁ b o (old b o e) (F'.keep b o e), F'.above⟩
  by_cases hlt : i < n
  · refine W.item i _ _ _ hlt hst' fun v h₁ tk₁ hP hst₁ hk₁ => ?_
    have F₁ := next h₁ hk₁
    refine wpAny_assign_Name (wpAny_storeName_local hx F₁.ns (fun h₂ hn₂ hs₂ => ?_) hp)
    have F₂ := F₁.set hn₂ hs₂
    have k₂ : ∀ b o, b ≠ env.locals → h₁.get? b = some o → h₂.get? b = some o := fun b o hb e => (hs₂.2 b hb).trans e
    have hst₂ : St (i + 1) h₂ := W.frame _ _ _ hst₁ fun b hb o e => k₂ b o (fun q => hLf (q ▸ hb)) e
    have hJ₂ : J i m' h₂ := stab _ _ _ _ hJ fun b o hb hw e => k₂ b o hb (hk₁ b o hw e)
    have hK₂ : ∀ b o, b ≠ env.locals → ¬ X b → b ∉ wr → s.heap.get? b = some o → h₂.get? b = some o := fun b o hb hX hw e => k₂ b o hb (hk₁ b o hw (hK b o hb hX hw e))
    refine wpAny_mono (wpAny_passesOwn hE (turn i v m' h₂ _ (ownX h₀ env.locals X h₂) hlt hP hJ₂ F₂ hK₂ news_ownX off_ownX hst₂ (fun b o h1 h2 h3 h4 => mem_ownX h1 h2 h3 h4))) (fun f s₃ h₃ => ?_) fun _ _ e => e
    obtain ⟨rfl, h₃', tk₃, m₂, rfl, F₃, N₃, hJ₃⟩ := h₃
    have K₃ := ext_ownX F₂ F₃.keep N₃
    refine ⟨n + 1 - (i + 1), by omega, h₃', tk₃, m₂, i + 1, rfl, ?_, F₃, hJ₃, fun b o hb hX hw e => K₃ b o hb hX (hK₂ b o hb hX hw e), hlt, rfl⟩
    refine W.frame _ _ _ hst₂ fun b hb o e => ?_
    exact K₃ b o (fun q => hLf (q ▸ hb)) (hXf b hb) e
  · have hin : i = n := by omega
    subst hin
    refine W.done _ _ _ hst' fun h₁ tk₁ hk₁ => wpAny_execs_nil ?_
    exact done h₁ tk₁ m' (next h₁ hk₁) (stab _ _ _ _ hJ fun b o _ hw e => hk₁ b o hw e) fun b o hb hX hw e => hk₁ b o hw (hK b o hb hX hw e)
/-- a loop by an invariant J on the locals and the heap (X: the places that the turns change) -/
theorem loopG {w : World} {A : Around} {E : Value → Shared → Prop} {s : Shared} {env : Env} {h₀ : Heap} {x : Str} {px : Pos} {body : List Stmt} {Q : Flow → Shared → Prop} {I : Addr} {fp wr : List Addr} {n : Nat} {P : Nat → Value → Prop} {St : Nat → Heap → Prop} {m : Str → Option Value}
    (X : Addr → Prop) (J : Nat → (Str → Option Value) → Heap → Prop) (W : Walks pw w A I fp wr n P St) (hx : env.kindOf x = some .local)
    (hp : (env.scope.kind == .class || (env.scope.kind == .module && env.locals != env.globals)) = false)
    (hLf : env.locals ∉ fp) (hXf : ∀ b ∈ fp, ¬ X b) (hwr : ∀ b ∈ wr, h₀.get? b = none)
    (hst : St 0 s.heap) (F : Fr h₀ env.locals s.heap m) (h0 : J 0 m s.heap)
    (stab : ∀ i m h h', J i m h → (∀ b o, b ≠ env.locals → b ∉ wr → h.get? b = some o → h'.get? b = some o) → J i m h')
    (turn : ∀ i v m₁ h tk own, i < n → P i v → J i m₁ h → Fr h₀ env.locals h (fun y => if y = x then some v else m₁ y) → (∀ b o, b ≠ env.locals → ¬ X b → b ∉ wr → s.heap.get? b = some o → h.get? b = some o) → News h₀ env.locals h own → (∀ p ∈ own, ¬ X p.1) →
      wpAny (model pw w) A (execs body env) (TurnE h₀ env.locals own (J (i + 1)) s) E { s with heap := h, toks := tk })
    (done : ∀ h tk m', Fr h₀ env.locals h m' → J n m' h → (∀ b o, b ≠ env.locals → ¬ X b → b ∉ wr → s.heap.get? b = some o → h.get? b = some o) → Q .next { s with heap := h, toks := tk })
    (hE : PassesOwn (model pw w) A env E) :
    codeAny (model pw w) A (.forLoop (.Name x px) (.ref I) body [] env) (fun r s' => match r with | .ok f => Q f s' | .error e => cameBackBy (model pw w) A env E e s') s :=
  loopG2 X J W hx hp hLf hXf hwr hst F h0 stab (fun i v m₁ h tk own hi hP hJ F₁ hK N₁ off _ _ => turn i v m₁ h tk own hi hP hJ F₁ hK N₁ off) done hE
/-- the loop over a range from 0 by ones, at its iterator -/
theorem iterRange2 {w : World} {A : Around} {E : Value → Shared → Prop} {s : Shared} {env : Env} {h₀ : Heap} {x : Str} {body : List Stmt} {px : Pos} {Q : Flow → Shared → Prop} {m : Str → Option Value} {r : Addr} {b₀ : Int} {t₀ u₀ v₀ : Tok}
    (X : Addr → Prop) (J : Nat → (Str → Option Value) → Heap → Prop) (n : Nat) (hh : A.handled = none) (hr : IsRange s.heap r 0 b₀ 1 t₀ u₀ v₀) (hsmall : Builtin.Range.small 0 b₀ 1 = true) (hn : b₀ = (n : Int))
    (F : Fr h₀ env.locals s.heap m) (h0 : J 0 m s.heap) (hX : ∀ b, X b → b < s.heap.objs.size)
    (stab : ∀ i m h h', J i m h → (∀ b o, b ≠ env.locals → b ≠ s.heap.objs.size → h.get? b = some o → h'.get? b = some o) → J i m h')
    (turn : ∀ (i : Nat) t m₁ h tk own, i < n → J i m₁ h → Fr h₀ env.locals h (fun y => if y = x then some (.int (i : Int) t) else m₁ y) → ExtX env.locals X s.heap h → News h₀ env.locals h own → (∀ p ∈ own, ¬ X p.1) → (∀ b o, b ≠ env.locals → ¬ X b → h₀.get? b = none → h.get? b = some o → (b, o) ∈ own) → (∃ o k1 k2 k3, (s.heap.objs.size, o) ∈ own ∧ o.data = .fields #[rawInt k1, rawInt k2, rawInt k3]) →
      wpAny (model pw w) A (execs body env) (TurnE h₀ env.locals own (J (i + 1)) s) E { s with heap := h, toks := tk })
    (done : ∀ h tk m', Fr h₀ env.locals h m' → J n m' h → ExtX env.locals X s.heap h → Q .next { s with heap := h, toks := tk })
    (hx : env.kindOf x = some .local)
    (hp : (env.scope.kind == .class || (env.scope.kind == .module && env.locals != env.globals)) = false)
    (hE : PassesOwn (model pw w) A env E := by passes_own) :
    wpAny (model pw w) A (pyIter (.ref r)) (fun it s₂ => codeAny (model pw w) A (.forLoop (.Name x px) it body [] env) (fun r s' => match r with | .ok f => Q f s' | .error e => cameBackBy (model pw w) A env E e s') s₂) E s := by
  refine wpAny_pyIter_range hr hsmall ?_
  have hn' : Builtin.Range.rangeSize 0 b₀ 1 = (n : Int) := by subst hn; unfold Builtin.Range.rangeSize; simp; omega
  have W : Walks pw w A s.heap.objs.size [s.heap.objs.size] [s.heap.objs.size] n (fun i v => i < n ∧ ∃ t, v = .int (0 + i * 1) t)
      (fun i h => IsRangeIter h s.heap.objs.size (0 + (i : Nat) * 1) ((n : Int) - (i : Nat)) 1) := (Walks.range hh _ 0 1 n).bound
  have hlt : ∀ {b o}, s.heap.get? b = some o → b ∉ [s.heap.objs.size] := fun e hm => absurd (Heap.lt_size e) ((List.mem_singleton.mp hm) ▸ Nat.lt_irrefl _)
  refine loopG2 X J W hx hp ?_ ?_ ?_ ?_ (F.push _) ?_ ?_ ?_ ?_ hE
  · intro hm
    exact absurd F.ns.lt ((List.mem_singleton.mp hm) ▸ Nat.lt_irrefl _)
  · intro b hb hXb
    exact absurd (hX b hXb) ((List.mem_singleton.mp hb) ▸ Nat.lt_irrefl _)
  · intro b hb
    rw [List.mem_singleton.mp hb]
    exact next_is_new F
  · show IsRangeIter _ _ _ _ _
    rw [hn']; simpa using Heap.get?_push_size _ rfl
  · exact stab _ _ _ _ h0 fun b o _ _ e => Heap.get?_push_of_some _ e
  · intro i m h h' hJ hk
    exact stab _ _ _ _ hJ fun b o hb hlt e => hk b o hb (fun hm => hlt (List.mem_singleton.mp hm)) e
  · intro i v m₁ h tk own hi hP hJ F₁ hK N₁ off hst hall
    obtain ⟨_, t, rfl⟩ := hP
    have e1 : (0 : Int) + (i : Int) * 1 = (i : Int) := by omega
    rw [e1] at F₁
    exact turn i t m₁ h tk own hi hJ F₁ (fun b o hb hXb e => hK b o hb hXb (hlt e) (Heap.get?_push_of_some _ e)) N₁ off hall (by
      exact ⟨_, _, _, _, hall _ _ (Nat.ne_of_gt F.ns.lt) (fun q => absurd (hX _ q) (Nat.lt_irrefl _)) (next_is_new F) hst, rfl⟩)
  · intro h tk m' F₁ hJ hK
    exact done h tk m' F₁ hJ fun b o hb hXb e => hK b o hb hXb (hlt e) (Heap.get?_push_of_some _ e)
/-- the loop over a range from 0 by ones, at its iterator -/
theorem iterRange {w : World} {A : Around} {E : Value → Shared → Prop} {s : Shared} {env : Env} {h₀ : Heap} {x : Str} {body : List Stmt} {px : Pos} {Q : Flow → Shared → Prop} {m : Str → Option Value} {r : Addr} {b₀ : Int} {t₀ u₀ v₀ : Tok}
    (X : Addr → Prop) (J : Nat → (Str → Option Value) → Heap → Prop) (n : Nat) (hh : A.handled = none) (hr : IsRange s.heap r 0 b₀ 1 t₀ u₀ v₀) (hsmall : Builtin.Range.small 0 b₀ 1 = true) (hn : b₀ = (n : Int))
    (F : Fr h₀ env.locals s.heap m) (h0 : J 0 m s.heap) (hX : ∀ b, X b → b < s.heap.objs.size)
    (stab : ∀ i m h h', J i m h → (∀ b o, b ≠ env.locals → b < s.heap.objs.size → h.get? b = some o → h'.get? b = some o) → J i m h')
    (turn : ∀ (i : Nat) t m₁ h tk own, i < n → J i m₁ h → Fr h₀ env.locals h (fun y => if y = x then some (.int (i : Int) t) else m₁ y) → ExtX env.locals X s.heap h → News h₀ env.locals h own →
      wpAny (model pw w) A (execs body env) (TurnE h₀ env.locals own (J (i + 1)) s) E { s with heap := h, toks := tk })
    (done : ∀ h tk m', Fr h₀ env.locals h m' → J n m' h → ExtX env.locals X s.heap h → Q .next { s with heap := h, toks := tk })
    (hx : env.kindOf x = some .local)
    (hp : (env.scope.kind == .class || (env.scope.kind == .module && env.locals != env.globals)) = false)
    (hE : PassesOwn (model pw w) A env E := by passes_own) :
    wpAny (model pw w) A (pyIter (.ref r)) (fun it s₂ => codeAny (model pw w) A (.forLoop (.Name x px) it body [] env) (fun r s' => match r with | .ok f => Q f s' | .error e => cameBackBy (model pw w) A env E e s') s₂) E s :=
  iterRange2 X J n hh hr hsmall hn F h0 hX (fun i m h h' hJ hk => stab i m h h' hJ fun b o hb hlt e => hk b o hb (Nat.ne_of_lt hlt) e)
    (fun i t m₁ h tk own hi hJ F₁ hK N₁ _ _ _ => turn i t m₁ h tk own hi hJ F₁ hK N₁) done hx hp hE
end
/-! ML9 -/
section
open PySem PySem.W PySem.Spec PySem.Calls PyProof.Rows
noncomputable def besideL : List Nat := [172, 174, 846, 848, 6149, 6151, 6154, 6158, 8202, 8206, 8287, 8289, 65023, 65040, 65278, 65280]
noncomputable def nameL : List (List Nat) := [[102, 102], [102, 102, 105], [102, 102, 108], [102, 105], [102, 108], [115, 115], [115, 116]]
/-- the text of a hand's row: its name, a blank, its sign -/
noncomputable def bareS (n : Int) : List Nat := nameL.getD (n % 7).toNat [] ++ [32, besideL.getD (n / 7 / 81 % 16).toNat 0]
noncomputable def headS (d : Bool) : List Nat := if d then [46] else []
noncomputable def rowS (n : Int) (d : Bool) : List Nat := headS d ++ bareS n
noncomputable def strL (l : List Nat) : Str := ⟨l.toArray⟩
/-- the dot before hand k -/
noncomputable def dotAt (ns : List Int) (k : Nat) : Bool := decide (0 < k) && decide (ns.getD (k - 1) 0 % 7 ≤ ns.getD k 0 % 7)
/-- the row of hand k after its sendings, were N hands in all -/
noncomputable def hisRow (ns : List Int) (N k : Nat) : List Nat := List.replicate (if dotAt ns k then N - k else 0) 46 ++ rowS (ns.getD k 0) (dotAt ns k)
/-- the rows of the first i hands, the newest first -/
noncomputable def stage (ns : List Int) (N i : Nat) : List (List Nat) := ((List.range i).map (hisRow ns N)).reverse
theorem stage_succ (ns : List Int) (N i : Nat) : stage ns N (i + 1) = hisRow ns N i :: stage ns N i := by
  unfold stage
  rw [List.range_succ, List.map_append, List.reverse_append]; rfl
theorem name_len : ∀ k : Nat, (nameL.getD k []).length ≤ 3
  | 0 | 1 | 2 | 3 | 4 | 5 | 6 => by decide
  | k + 7 => by show ([] : List Nat).length ≤ 3; decide
theorem name_all : nameL.all (fun l => l.all fun c => decide (97 ≤ c) && decide (c ≤ 122)) = true := by decide
theorem beside_all : besideL.all (fun c => decide (127 ≤ c)) = true := by decide
theorem bare_len (n : Int) : (bareS n).length ≤ 5 := by
  unfold bareS
  rw [List.length_append]
  have := name_len (n % 7).toNat
  show _ + 2 ≤ 5
  omega
theorem getD_mem_or {α : Type} (l : List α) (k : Nat) (d : α) : l.getD k d ∈ l ∨ l.getD k d = d := by
  by_cases h : k < l.length
  · left
    rw [List.getD_eq_getElem?_getD, List.getElem?_eq_getElem h]
    exact List.getElem_mem h
  · right
    rw [List.getD_eq_getElem?_getD, List.getElem?_eq_none (by omega)]
    rfl
/-- no dot, no feed and no return in a row's text -/
theorem bare_signs (n : Int) : ∀ c ∈ bareS n, c ≠ 46 ∧ c ≠ 10 ∧ c ≠ 13 := by
  intro c hc
  unfold bareS at hc
  rcases List.mem_append.mp hc with hc | hc
  · rcases getD_mem_or nameL (n % 7).toNat [] with h | h
    · have := List.all_eq_true.mp (List.all_eq_true.mp name_all _ h) c hc
      rw [Bool.and_eq_true, decide_eq_true_eq, decide_eq_true_eq] at this
      omega
    · rw [h] at hc; cases hc
  · rcases List.mem_cons.mp hc with rfl | hc
    · decide
    · rw [List.mem_singleton] at hc
      subst hc
      by_cases h : (n / 7 / 81 % 16).toNat < 16
      · rcases getD_mem_or besideL (n / 7 / 81 % 16).toNat 0 with h | h
        · have := List.all_eq_true.mp beside_all _ h
          rw [decide_eq_true_eq] at this
          omega
        · rw [h]; decide
      · have h2 : n / 7 / 81 % 16 < 16 := Int.emod_lt_of_pos _ (by decide)
        have h3 : 0 ≤ n / 7 / 81 % 16 := Int.emod_nonneg _ (by decide)
        omega
theorem rowS_line (n : Int) (d : Bool) : LineOk (rowS n d) := by
  intro c hc
  unfold rowS at hc
  rcases List.mem_append.mp hc with hc | hc
  · cases d with
    | false => cases hc
    | true => rw [show headS true = [46] from rfl, List.mem_singleton] at hc; subst hc; decide
  · exact (bare_signs n c hc).2
theorem hisRow_line (ns : List Int) (N k : Nat) : LineOk (hisRow ns N k) := by
  intro c hc
  unfold hisRow at hc
  rcases List.mem_append.mp hc with hc | hc
  · rw [List.eq_of_mem_replicate hc]; decide
  · exact rowS_line _ _ c hc
theorem stage_line (ns : List Int) (N i : Nat) : ∀ l ∈ stage ns N i, LineOk l := by
  intro l hl
  unfold stage at hl
  rw [List.mem_reverse, List.mem_map] at hl
  obtain ⟨k, _, rfl⟩ := hl
  exact hisRow_line ns N k
theorem bare_head (n : Int) : (bareS n).head? ≠ some 46 := by
  intro h
  exact (bare_signs n 46 (by
    cases e : bareS n with
    | nil => rw [e] at h; cases h
    | cons a b => rw [e] at h; cases h; exact List.mem_cons_self)).1 rfl
theorem dot1_his (ns : List Int) (i k : Nat) (h : k ≤ i) : dot1 (hisRow ns i k) = hisRow ns (i + 1) k := by
  unfold hisRow
  cases hd : dotAt ns k with
  | false =>
    simp only [Bool.false_eq_true, if_false]
    show dot1 (bareS _) = bareS _
    unfold dot1
    rw [if_neg (bare_head _)]
  | true =>
    simp only [if_true]
    have e : i + 1 - k = (i - k) + 1 := by omega
    rw [e, List.replicate_succ]
    unfold dot1
    have hh : (List.replicate (i - k) 46 ++ rowS (ns.getD k 0) true).head? = some 46 := by
      cases i - k with
      | zero => rfl
      | succ j => rfl
    rw [if_pos hh]; rfl
theorem sent_step (ns : List Int) (i : Nat) : (rowS (ns.getD i 0) (dotAt ns i) :: stage ns i i).map dot1 = stage ns (i + 1) (i + 1) := by
  rw [stage_succ, List.map_cons]
  congr 1
  · have := dot1_his ns i i (Nat.le_refl _)
    rw [← this]
    unfold hisRow
    rw [Nat.sub_self]
    cases dotAt ns i <;> rfl
  · unfold stage
    rw [List.map_reverse, List.map_map]
    congr 1
    refine List.map_congr_left fun k hk => ?_
    exact dot1_his ns i k (Nat.le_of_lt (List.mem_range.mp hk))
theorem his_len (ns : List Int) (N k : Nat) (h : N ≤ 6) : (hisRow ns N k).length ≤ 12 := by
  unfold hisRow rowS
  rw [List.length_append, List.length_append, List.length_replicate]
  have h1 := bare_len (ns.getD k 0)
  cases dotAt ns k with
  | false => rw [if_neg Bool.false_ne_true]; show 0 + (0 + _) ≤ 12; omega
  | true => rw [if_pos rfl]; show N - k + (1 + _) ≤ 12; omega
theorem mailOf_cons (l : List Nat) (r : List (List Nat)) : mailOf (l :: r) = l ++ [13, 10] ++ mailOf r := rfl
theorem mail_len : ∀ (r : List (List Nat)), (∀ l ∈ r, l.length ≤ 12) → (mailOf r).length ≤ 14 * r.length
  | [], _ => Nat.le_refl _
  | l :: r, h => by
    rw [mailOf_cons, List.length_append, List.length_append]
    have h3 : (l :: r).length = r.length + 1 := rfl
    have h1 := h l List.mem_cons_self
    have h2 := mail_len r fun x hx => h x (List.mem_cons_of_mem _ hx)
    show l.length + 2 + _ ≤ _
    rw [h3]
    omega
theorem stage_len (ns : List Int) (N i : Nat) (h : N ≤ 6) (hi : i ≤ 6) : (mailOf (stage ns N i)).length ≤ 84 := by
  have h1 := mail_len (stage ns N i) fun l hl => by
    unfold stage at hl
    rw [List.mem_reverse, List.mem_map] at hl
    obtain ⟨k, _, rfl⟩ := hl
    exact his_len ns N k h
  have h2 : (stage ns N i).length = i := by unfold stage; simp
  rw [h2] at h1
  omega
/-- a page: a hand's two rows -/
noncomputable def PageAt (h : Heap) (v : Value) (n : Int) : Prop := ∃ p k a b t1 t2 t3 t4, v = .ref p ∧ h.get? p = some (lob [.ref a, .ref b] k) ∧
  h.get? a = some { cls := .type "tuple", data := .seq #[.str (strL (rowS n false)) t1, .str (strL (rowS n false)) t2] } ∧
  h.get? b = some { cls := .type "tuple", data := .seq #[.str (strL (rowS n true)) t3, .str (strL (rowS n true)) t4] }
inductive Pages (h : Heap) : List Value → List Int → Prop
  | nil : Pages h [] []
  | cons {v n vs ns} : PageAt h v n → Pages h vs ns → Pages h (v :: vs) (n :: ns)
theorem PageAt.ext {h h' : Heap} {v : Value} {n : Int} (P : PageAt h v n) (e : Ext h h') : PageAt h' v n := by
  obtain ⟨p, k, a, b, t1, t2, t3, t4, rfl, e1, e2, e3⟩ := P
  exact ⟨p, k, a, b, t1, t2, t3, t4, rfl, e _ _ e1, e _ _ e2, e _ _ e3⟩
theorem Pages.ext {h h' : Heap} {vs : List Value} {ns : List Int} (P : Pages h vs ns) (e : Ext h h') : Pages h' vs ns := by
  induction P with
  | nil => exact .nil
  | cons p _ ih => exact .cons (p.ext e) ih
theorem Pages.len {h : Heap} {vs : List Value} {ns : List Int} (P : Pages h vs ns) : vs.length = ns.length := by
  induction P with
  | nil => rfl
  | cons p _ ih => rw [List.length_cons, List.length_cons, ih]
theorem Pages.get {h : Heap} {vs : List Value} {ns : List Int} (P : Pages h vs ns) : ∀ k, k < ns.length → ∃ v, vs[k]? = some v ∧ PageAt h v (ns.getD k 0) := by
  induction P with
  | nil => intro k hk; cases hk
  | cons p _ ih =>
    intro k hk
    cases k with
    | zero => exact ⟨_, rfl, p⟩
    | succ k => exact ih k (by simpa using hk)
end
/-! ML10 -/
section
open PySem PySem.W PySem.Spec PySem.Calls PyProof.Rows
/-- one statement, then the rest -/
theorem seq1 {M : Model} {A : Around} {E : Value → Shared → Prop} {s : Shared} {env : Env} {st : Stmt} {rest : List Stmt} {Q : Flow → Shared → Prop} (R : Shared → Prop)
    (h1 : wpAny M A (exec st env) (fun f s' => Stop (f = .next ∧ R s')) E s) (h2 : ∀ s', R s' → wpAny M A (execs rest env) Q E s') : wpAny M A (execs (st :: rest) env) Q E s :=
  wpAny_execs_cons (wpAny_mono h1 (fun f s' h => by obtain ⟨rfl, hr⟩ := Stop.out h; exact h2 s' hr) fun _ _ e => e)
/-- a mark in the context: some places halt only where it stands -/
noncomputable def Halt : Prop := True
theorem halt : Halt := trivial
/-- the paths through one statement meet in R -/
theorem joinAt {M : Model} {A : Around} {E : Value → Shared → Prop} {s : Shared} {x : Sem Flow} {P : Flow → Shared → Prop} (R : Shared → Prop)
    (h1 : wpAny M A x (fun f s' => Stop (f = .next ∧ R s')) E s) (h2 : ∀ s', R s' → P .next s') : wpAny M A x P E s :=
  wpAny_mono h1 (fun f s' h => by obtain ⟨rfl, hr⟩ := Stop.out h; exact h2 s' hr) fun _ _ e => e
theorem frRe {h₀ h : Heap} {L : Addr} {m : Str → Option Value} {k : Str} {v v' : Value} (F : Fr h₀ L h (fun y => if y = k then some v else m y)) (e : v = v') : Fr h₀ L h (fun y => if y = k then some v' else m y) := e ▸ F
theorem nl_len (k : Nat) : (nlOf k).length ≤ 2 := by
  unfold nlOf
  split
  · decide
  · split <;> decide
theorem addS {w : World} {A : Around} {E : Value → Shared → Prop} {s : Shared} {x y : Str} {t u : Tok} {a b : List Nat} {Q : Value → Shared → Prop} (hx : x.cps.toList = a) (hy : y.cps.toList = b)
    (h : ∀ t' k, Q (.str (strL (a ++ b)) t') { s with toks := k }) (hsz : a.length + b.length ≤ 1000) : wpAny (model pw w) A (binaryOp .Add (.str x t) (.str y u)) Q E s := by
  have e : x ++ y = strL (a ++ b) := PySem.Str.ext' (by
    rw [PySem.Str.cps_append]
    apply Array.ext'
    rw [Array.toList_append, hx, hy]; rfl)
  refine SB.add (fun t' k => by rw [e]; exact h t' k) ?_
  have h1 : x.length = a.length := by rw [← hx]; exact (Array.length_toList (xs := x.cps)).symm
  have h2 : y.length = b.length := by rw [← hy]; exact (Array.length_toList (xs := y.cps)).symm
  rw [h1, h2]
  exact Nat.le_trans hsz (by decide)
theorem fold_dots : ∀ (k : Nat) (acc : Array Nat), (List.replicate k #[46]).foldl (· ++ ·) acc = acc ++ (List.replicate k 46).toArray
  | 0, acc => by simp
  | k + 1, acc => by
    rw [List.replicate_succ, List.foldl_cons, fold_dots k, List.replicate_succ, Array.append_assoc]
    congr 1
    apply Array.ext'
    simp
theorem dots_mul (k : Nat) : Txt.mul (Str.ofString ".") (k : Int) = strL (List.replicate k 46) := by
  have e : Str.ofString "." = strL [46] := by decide +kernel
  rw [e]
  unfold Txt.mul
  by_cases h0 : (k : Int) < 1
  · have : k = 0 := by omega
    subst this
    rw [if_pos h0]; rfl
  · rw [if_neg h0]
    by_cases h1 : k = 1
    · subst h1; rfl
    · have : ((k : Int) == 1 || (strL [46]).length == 0) = false := by
        rw [Bool.or_eq_false_iff]
        exact ⟨beq_eq_false_iff_ne.mpr (by omega), rfl⟩
      rw [this, if_neg Bool.false_ne_true, Int.toNat_natCast]
      show Str.mk ((List.replicate k #[46]).foldl (· ++ ·) #[]) = strL _
      rw [fold_dots]
      unfold strL
      rw [Array.empty_append]
theorem mulS {w : World} {A : Around} {E : Value → Shared → Prop} {s : Shared} {t u : Tok} {n : Int} {k : Nat} {Q : Value → Shared → Prop}
    (h : ∀ t' j, Q (.str (strL (List.replicate k 46)) t') { s with toks := j }) (hn : n = (k : Int)) (hk : k ≤ 1000) : wpAny (model pw w) A (binaryOp .Mult (.str (Str.ofString ".") t) (.int n u)) Q E s := by
  subst hn
  refine KXi.mul (n := 1) (by decide +kernel) (by decide) (by omega) (by omega) (fun t' j _ _ => ?_)
  rw [dots_mul]
  exact h t' j
noncomputable def nlVals (t1 t2 t3 : Tok) : List Value := [.str (Str.ofString "\n") t1, .str (Str.ofString "\x0d") t2, .str (Str.ofString "\x0d\n") t3]
theorem nl_item (t1 t2 t3 : Tok) (k : Int) (h0 : 0 ≤ k) (h1 : k < 3) : ∃ t, (nlVals t1 t2 t3)[k.toNat]? = some (.str (strL (nlOf k.toNat)) t) := by
  have e1 : Str.ofString "\n" = strL [10] := by decide +kernel
  have e2 : Str.ofString "\x0d" = strL [13] := by decide +kernel
  have e3 : Str.ofString "\x0d\n" = strL [13, 10] := by decide +kernel
  have hk : k = 0 ∨ k = 1 ∨ k = 2 := by omega
  unfold nlVals
  rw [e1, e2, e3]
  rcases hk with rfl | rfl | rfl
  · exact ⟨t1, rfl⟩
  · exact ⟨t2, rfl⟩
  · exact ⟨t3, rfl⟩
end
/-! ML11 -/
section
open PySem PySem.W PySem.Spec PySem.Calls PyProof.Rows
noncomputable def chOf (v : Value) : Nat := match v with | Value.str y _ => y.cps.getD 0 0 | _ => 0
theorem signs_are {l : List Nat} {vs : List Value} (hl : vs.length = l.length) (hv : ∀ (j : Nat) (v : Value), vs[j]? = some v → ∃ (c : Nat) (u : Tok), l[j]? = some c ∧ v = Value.str (sg c) u) : vs.map chOf = l ∧ ∀ v ∈ vs, ∃ u, v = Value.str (sg (chOf v)) u := by
  constructor
  · apply List.ext_getElem?
    intro j
    rw [List.getElem?_map]
    cases e : vs[j]? with
    | none =>
      have : vs.length ≤ j := List.getElem?_eq_none_iff.mp e
      rw [List.getElem?_eq_none (by omega)]; rfl
    | some v =>
      obtain ⟨c, u, ec, rfl⟩ := hv j v e
      rw [ec]; rfl
  · intro v hm
    obtain ⟨j, hj⟩ := List.getElem?_of_mem hm
    obtain ⟨c, u, ec, rfl⟩ := hv j v hj
    exact ⟨u, rfl⟩
theorem paired_signs {p : Nat → Bool} {R : Nat → Value → Prop} : ∀ {vs ys : List Value}, Paired (fun v y => R (chOf v) y) (vs.filter fun v => p (chOf v)) ys → Paired R ((vs.map chOf).filter p) ys
  | [], _, h => by cases h; exact .nil
  | v :: vs, ys, h => by
    rw [List.filter_cons] at h
    rw [List.map_cons, List.filter_cons]
    cases hp : p (chOf v) with
    | true =>
      rw [hp, if_pos rfl] at h
      rw [if_pos rfl]
      cases h with
      | cons h1 h2 => exact .cons h1 (paired_signs h2)
    | false =>
      rw [hp, if_neg Bool.false_ne_true] at h
      rw [if_neg Bool.false_ne_true]
      exact paired_signs h
/-- `[elt for x in r if test]` over a text, as an expression, in a def with cells -/
theorem evalCS {w : World} {A : Around} {E : Value → Shared → Prop} {s : Shared} {h₀ : Heap} {L a : Addr} {m : Str → Option Value} {news : List (Addr × Obj)} {cn : Str} {cs : Scope} {ccd : Value} {cells cl : List (Str × Addr)} {elt : PySem.Expr} {ifs : List PySem.Expr} {x r : Str} {px pr pos : Pos} {scope : Scope} {Q : Value → Shared → Prop} {text : Str} {t : Tok} (p : Nat → Bool) (R : Nat → Value → Prop)
    (hh : A.handled = none) (F : Fr h₀ L s.heap m) (N : News h₀ L s.heap news) (hr : m r = some (.str text t)) (hsz : text.cps.size ≤ 1000)
    (g1 : ∀ C c u s₃ m₃ E', s.heap.objs.size < C → Fr h₀ C s₃.heap m₃ → c ∈ text.cps.toList → m₃ x = some (.str (sg c) u) → Ext s.heap s₃.heap → wpAny (model pw w) A (forIn ifs true fun c r => if r = true then do let ok ← isTrue c (compEnvC scope cl C (envX cn cs L a ccd cells)) (eval c (compEnvC scope cl C (envX cn cs L a ccd cells))); pure (ForInStep.yield ok) else pure (ForInStep.yield r)) (fun ok s₄ => Stop (ok = p c ∧ Keeps s₃ s₄)) E' s₃)
    (g2 : ∀ C c u s₃ m₃ E', s.heap.objs.size < C → Fr h₀ C s₃.heap m₃ → c ∈ text.cps.toList → p c = true → m₃ x = some (.str (sg c) u) → Ext s.heap s₃.heap → wpAny (model pw w) A (eval elt (compEnvC scope cl C (envX cn cs L a ccd cells))) (fun y s₄ => Stop (R c y ∧ Keeps s₃ s₄)) E' s₃)
    (g3 : ∀ D ys n h' tk, Paired R (text.cps.toList.filter p) ys → Fr h₀ L h' m → News h₀ L h' ((D, lob ys n) :: news) → Q (.ref D) { s with heap := h', toks := tk })
    (hclos : closureFor scope (envX cn cs L a ccd cells) = pure cl) (hcell : ∀ z ∈ scope.names, z.2 ≠ .cell) (hkind : scope.kind = .function)
    (hnames : ∀ z ∈ scope.names, z.2 = .local → scope.names.lookup z.1 = some .local) (hx : scope.names.lookup x = some .local)
    (hk : cs.kind = .function) (hrk : (envX cn cs L a ccd cells).kindOf r = some .local) (hrd : (r == ("__debug__" : Str)) = false) :
    wpAny (model pw w) A (eval (.ListComp elt [⟨.Name x px, .Name r pr, ifs, 0⟩] scope pos) (envX cn cs L a ccd cells)) Q E s := by
  refine wpAny_ListComp_free (cl := cl) (fun v => p (chOf v)) (fun v y => R (chOf v) y) hclos hcell hkind hnames hx ?_
  refine nameX_L F hr ?_ hk hrk hrd
  have hlL : L < s.heap.objs.size := F.ns.lt
  refine wpAny_pyIter_str fun o St W hst => ?_
  refine ⟨s.heap.objs.size, [s.heap.objs.size], [s.heap.objs.size], text.cps.size, SignAt text, St, rfl, W A hh, Nat.le_trans hsz (by decide), hst, ?_, ⟨?_, ?_⟩, ?_⟩
  · intro b hb
    rw [List.mem_singleton.mp hb]
    show _ < (s.heap.push _).objs.size
    rw [Heap.size_push]; exact Nat.lt_succ_self _
  · intro C i v s₃ m₃ E' hC hP hn hm hk' htk
    have hC' : (s.heap.push o).objs.size ≤ C := hC
    rw [Heap.size_push] at hC'
    obtain ⟨c, u, hc, rfl⟩ := hP
    have hE : Ext s.heap s₃.heap := fun b o' e => hk' b o' (fun hb => absurd (Heap.lt_size e) ((List.mem_singleton.mp hb) ▸ Nat.lt_irrefl _)) (Heap.get?_push_of_some _ e)
    have hc' : c ∈ text.cps.toList := List.mem_of_getElem? (by rw [Array.getElem?_toList]; exact hc)
    exact g1 C c u s₃ m₃ E' hC' ⟨hn, fun b o' e => hE _ _ (F.keep b o' e), Nat.le_trans F.above (Nat.le_of_lt (Nat.lt_trans hlL hC'))⟩ hc' hm hE
  · intro C i v s₃ m₃ E' hC hP hp hn hm hk' htk
    have hC' : (s.heap.push o).objs.size ≤ C := hC
    rw [Heap.size_push] at hC'
    obtain ⟨c, u, hc, rfl⟩ := hP
    have hE : Ext s.heap s₃.heap := fun b o' e => hk' b o' (fun hb => absurd (Heap.lt_size e) ((List.mem_singleton.mp hb) ▸ Nat.lt_irrefl _)) (Heap.get?_push_of_some _ e)
    have hc' : c ∈ text.cps.toList := List.mem_of_getElem? (by rw [Array.getElem?_toList]; exact hc)
    exact g2 C c u s₃ m₃ E' hC' ⟨hn, fun b o' e => hE _ _ (F.keep b o' e), Nat.le_trans F.above (Nat.le_of_lt (Nat.lt_trans hlL hC'))⟩ hc' hp hm hE
  · intro D h' tk ys vs hnew hlD hplD hlen hP hF hk'
    obtain ⟨n, hD⟩ := hplD
    have up : Ext s.heap h' := fun b o' e => hk' b o' (fun hb => absurd (Heap.lt_size e) ((List.mem_singleton.mp hb) ▸ Nat.lt_irrefl _)) (Heap.get?_push_of_some _ e)
    have hn1 : s.heap.get? D = none := by
      cases e : s.heap.get? D with
      | none => rfl
      | some o' => rw [Heap.get?_push_of_some _ e] at hnew; cases hnew
    have hDL : D ≠ L := by
      intro e
      obtain ⟨o', _, _, ho, _⟩ := F.ns
      rw [← e, hn1] at ho
      cases ho
    obtain ⟨e1, _⟩ := signs_are (l := text.cps.toList) (by rw [hlen]; exact (Array.length_toList (xs := text.cps)).symm) (fun j v hj => by
      obtain ⟨c, u, hc, rfl⟩ := hP j v hj
      exact ⟨c, u, by rw [Array.getElem?_toList]; exact hc, rfl⟩)
    have hF2 := paired_signs hF
    rw [e1] at hF2
    refine g3 D ys.toList n h' tk hF2 (Fr.ext F up) ?_
    intro q hq
    rcases List.mem_cons.mp hq with rfl | hq
    · refine ⟨?_, hDL, ?_⟩
      · unfold lob; rw [Array.toArray_toList]; exact hD
      · cases e : h₀.get? D with
        | none => rfl
        | some o' => rw [F.keep _ _ e] at hn1; cases hn1
    · exact ⟨up _ _ (N q hq).1, (N q hq).2⟩
theorem paired_strs {f : Nat → Str} : ∀ {l : List Nat} {ys : List Value}, Paired (fun c y => ∃ t, y = .str (f c) t) l ys → StrsAre ys (l.map f)
  | _, _, .nil => .nil
  | _, _, .cons ⟨_, e⟩ p => by subst e; exact .cons _ _ (paired_strs p)
/-- one sign of a text -/
theorem itemS {w : World} {A : Around} {E : Value → Shared → Prop} {s : Shared} {value slice : PySem.Expr} {x : Str} {t u : Tok} {i : Int} {l : List Nat} {Q : Value → Shared → Prop} (hx : x.cps.toList = l) (h0 : 0 ≤ i) (h1 : i < (l.length : Int)) (hs1 : l.length ≤ 1000)
    (h : ∀ t' k, Q (.str (sg (l.getD i.toNat 0)) t') { s with toks := k })
    (hs : subscripted slice false (.str x t) (.int i u) = operate [.str x t, .int i u] (getItem (.str x t) (.int i u)) := by with_unfolding_all rfl)
    (ht : ∀ r, letTemporaryGo value (.str x t) r = pure () := by intro _; with_unfolding_all rfl) :
    wpAny (model pw w) A (subscriptTail value slice (.str x t) (.int i u)) Q E s := by
  have hl : x.length = l.length := by rw [← hx]; exact (Array.length_toList (xs := x.cps)).symm
  refine KXi.item hl (by omega) h1 (by omega) (fun _ => ?_) hs ht
  have e : Txt.item x i = sg (l.getD i.toNat 0) := by
    unfold Txt.item Txt.charAt
    rw [StrLaws.seqIndex_nonneg h0 (by rw [hl]; omega)]
    show Str.mk #[(x.cps[i.toNat]?).getD 0] = _
    rw [← hx, List.getD_eq_getElem?_getD, Array.getElem?_toList]
  rw [e]
  exact h _ _
theorem glue_fold (sep : List Nat) : ∀ (r : List Str) (acc : Array Nat), (r.foldl (fun acc p => acc ++ (strL sep).cps ++ p.cps) acc).toList = acc.toList ++ r.flatMap fun y => sep ++ y.cps.toList
  | [], acc => by simp
  | y :: r, acc => by
    rw [List.foldl_cons, glue_fold sep r, List.flatMap_cons, Array.toList_append, Array.toList_append]
    show acc.toList ++ sep ++ y.cps.toList ++ _ = _
    simp only [List.append_assoc]
theorem join_list (sep : List Nat) (y : Str) (r : List Str) : Txt.join (strL sep) (y :: r) = strL (y.cps.toList ++ r.flatMap fun y => sep ++ y.cps.toList) := by
  unfold Txt.join Builtin.Str.glued
  refine PySem.Str.ext' (Array.ext' ?_)
  exact glue_fold sep r y.cps
theorem join_empty : ∀ texts : List Str, Txt.join (strL []) texts = strL (texts.flatMap fun y => y.cps.toList)
  | [] => rfl
  | y :: r => by rw [join_list]; rfl
theorem strs_values {vs : List Value} {xs : List Str} (h : StrsAre vs xs) : ∃ l, vs = strValues l ∧ l.map (·.1) = xs := by
  induction h with
  | nil => exact ⟨[], rfl, rfl⟩
  | cons y t _ ih =>
    obtain ⟨l, e1, e2⟩ := ih
    exact ⟨(y, t) :: l, by rw [e1]; rfl, by rw [← e2]; rfl⟩
theorem fold_len (k : Nat) : ∀ (l : List Str) (a : Nat), (∀ y ∈ l, y.length ≤ 50) → l.foldl (· + ·.length + k) a ≤ a + l.length * (50 + k)
  | [], a, _ => by simp
  | y :: r, a, h => by
    rw [List.foldl_cons]
    have h1 := fold_len k r (a + y.length + k) fun z hz => h z (List.mem_cons_of_mem _ hz)
    have h2 := h y List.mem_cons_self
    rw [List.length_cons, Nat.succ_mul]
    omega
theorem joinS {w : World} {A : Around} {E : Value → Shared → Prop} {s : Shared} {x : Str} {t : Tok} {Q : Value → Shared → Prop} {D : Addr} {vs : List Value} {texts : List Str} (hl : s.heap.IsList D vs.toArray) (ht : StrsAre vs texts)
    (hx : x.length ≤ 50) (hy : ∀ y ∈ texts, y.length ≤ 50) (hn : texts.length ≤ 50)
    (hq : ∀ t' k, Q (.str (Txt.join x texts) t') { s with toks := k }) : wpAny (model pw w) A (call (.builtin "str.join") [.str x t, .ref D]) Q E s := by
  obtain ⟨l, rfl, e⟩ := strs_values ht
  refine SC.join hl e ?_ hq
  unfold JoinOk
  have := fold_len x.length texts 0 hy
  have h2 : texts.length * (50 + x.length) ≤ 50 * (50 + 50) := Nat.mul_le_mul hn (by omega)
  rw [List.foldl_toArray, Bool.not_eq_true']
  unfold Builtin.Str.tooLong
  refine decide_eq_false ?_
  have h3 : (5000 : Nat) ≤ sizeLine := by decide
  omega
end
/-! ML12 -/
section
open PySem PySem.W PySem.Spec PySem.Calls PyProof.Rows
/-- a row prepared: signs of table B.1 left out, the others folded -/
noncomputable def prep (l : List Nat) : List Nat := (l.filter fun (c : Nat) => !inB1 (c : Int)).flatMap fun c => (mapB3 c).cps.toList
theorem prep_app (a b : List Nat) : prep (a ++ b) = prep a ++ prep b := by
  unfold prep
  rw [List.filter_append, List.flatMap_append]
theorem prep_cons (c : Nat) (b : List Nat) : prep (c :: b) = prep [c] ++ prep b := prep_app [c] b
theorem prep_hidden {u : Nat} (h : inB1 (u : Int) = true) : prep [u] = [] := by
  unfold prep
  rw [List.filter_cons, h]; rfl
noncomputable def hiddenL : List Nat := [173, 847, 6150, 6155, 6156, 6157, 8203, 8204, 8205, 8288, 65279]
noncomputable def ligL : List Nat := [64256, 64259, 64260, 64257, 64258, 223, 64262]
noncomputable def alphaL : List Int := [0, 1, 2, 4, 7, 8, 9, 10, 11, 12]
theorem hidden_in : hiddenL.all (fun (c : Nat) => inB1 (c : Int)) = true := by decide +kernel
theorem hidden_run : (List.range 16).all (fun c => inB1 ((65024 + c : Nat) : Int)) = true := by decide +kernel
theorem lig_prep : (List.range 7).all (fun k => prep [ligL.getD k 0] == nameL.getD k []) = true := by decide +kernel
theorem beside_prep : besideL.all (fun c => prep [c] == [c]) = true := by decide +kernel
theorem dot_prep : prep [46] = [46] := by decide +kernel
theorem blank_prep : prep [32] = [32] := by decide +kernel
theorem letter_prep : (65 :: alphaL.map fun a => (119808 + 52 * a).toNat).all (fun st => [102, 105, 108, 115, 116].all fun c => prep [st + c - 97] == [c]) = true := by decide +kernel
theorem name_letters : nameL.all (fun l => l.all fun c => [102, 105, 108, 115, 116].contains c) = true := by decide +kernel
theorem getD_lt {α : Type} (l : List α) (k : Nat) (d : α) (h : k < l.length) : l.getD k d ∈ l := by
  rw [List.getD_eq_getElem?_getD, List.getElem?_eq_getElem h]
  exact List.getElem_mem h
theorem prep_lig {k : Nat} (h : k < 7) : prep [ligL.getD k 0] = nameL.getD k [] := eq_of_beq (List.all_eq_true.mp lig_prep k (List.mem_range.mpr h))
theorem prep_beside {k : Nat} (h : k < 16) : prep [besideL.getD k 0] = [besideL.getD k 0] := eq_of_beq (List.all_eq_true.mp beside_prep _ (getD_lt besideL k 0 h))
theorem prep_head (d : Bool) : prep (headS d) = headS d := by cases d; rfl; exact dot_prep
theorem prep_letter {st c : Nat} (hs : st ∈ (65 :: alphaL.map fun a => (119808 + 52 * a).toNat)) {k : Nat} (hk : k < 7) (hc : c ∈ nameL.getD k []) : prep [st + c - 97] = [c] := by
  have h1 := List.all_eq_true.mp (List.all_eq_true.mp name_letters _ (getD_lt nameL k [] hk)) c hc
  exact eq_of_beq (List.all_eq_true.mp (List.all_eq_true.mp letter_prep st hs) c (List.contains_iff_mem.mp h1))
theorem prep_joined {u : Nat} (hu : inB1 (u : Int) = true) (f : Nat → Nat) : ∀ l : List Nat, (∀ c ∈ l, prep [f c] = [c]) → prep (Txt.join (strL [u]) (l.map fun c => sg (f c))).cps.toList = l
  | [], _ => rfl
  | c :: r, h => by
    rw [List.map_cons, join_list]
    show prep ([f c] ++ _) = _
    rw [prep_app, h c List.mem_cons_self]
    show c :: prep _ = c :: r
    congr 1
    have h' : ∀ c ∈ r, prep [f c] = [c] := fun x hx => h x (List.mem_cons_of_mem _ hx)
    clear h
    induction r with
    | nil => rfl
    | cons c r ih =>
      rw [List.map_cons, List.flatMap_cons, prep_app]
      show prep ([u] ++ [f c]) ++ _ = _
      rw [prep_app, prep_hidden hu, h' c List.mem_cons_self, ih fun x hx => h' x (List.mem_cons_of_mem _ hx)]
      rfl
theorem joined_len (u : Nat) (f : Nat → Nat) : ∀ l : List Nat, l.length ≤ 3 → (Txt.join (strL [u]) (l.map fun c => sg (f c))).cps.toList.length ≤ 5
  | [], _ => by show 0 ≤ 5; omega
  | c :: r, h => by
    rw [List.map_cons, join_list]
    show ([f c] ++ _).length ≤ 5
    have : ((r.map fun c => sg (f c)).flatMap fun y => [u] ++ y.cps.toList).length = 2 * r.length := by
      clear h
      induction r with
      | nil => rfl
      | cons c r ih =>
        rw [List.map_cons, List.flatMap_cons, List.length_append, ih, List.length_cons]
        show 2 + _ = _
        omega
    rw [List.length_append, this]
    rw [List.length_cons] at h
    show 1 + _ ≤ 5
    omega
/-- what the prepared row comes to -/
theorem prep_row (n : Int) (d : Bool) (u : Nat) (tl : List Nat) (hu : inB1 (u : Int) = true) (ht : prep tl = nameL.getD (n % 7).toNat []) :
    prep ([u] ++ headS d ++ [u] ++ tl ++ ([32] ++ [besideL.getD (n / 7 / 81 % 16).toNat 0])) = rowS n d := by
  have h0 : 0 ≤ n / 7 / 81 % 16 := Int.emod_nonneg _ (by decide)
  have h1 : n / 7 / 81 % 16 < 16 := Int.emod_lt_of_pos _ (by decide)
  rw [prep_app, prep_app, prep_app, prep_app, prep_app, prep_hidden hu, prep_head, ht, blank_prep, prep_beside (by omega)]
  unfold rowS bareS
  simp
noncomputable def nameVals : List Str := [Str.ofString "ff", Str.ofString "ffi", Str.ofString "ffl", Str.ofString "fi", Str.ofString "fl", Str.ofString "ss", Str.ofString "st"]
theorem name_vals : nameVals = nameL.map strL := by decide +kernel
theorem name_val {k : Nat} (h : k < 7) : nameVals.getD k Str.empty = strL (nameL.getD k []) := by
  rw [name_vals, List.getD_eq_getElem?_getD, List.getElem?_map, List.getElem?_eq_getElem (show k < nameL.length from h), List.getD_eq_getElem?_getD, List.getElem?_eq_getElem (show k < nameL.length from h)]
  rfl
theorem lig_text : (Str.ofString "ﬀﬃﬄﬁﬂßﬆ").cps.toList = ligL := by decide +kernel
theorem hidden_text : (Str.ofString "\xad\u034f\u1806\u180b\u180c\u180d\u200b\u200c\u200d\u2060\ufeff").cps.toList = hiddenL := by decide +kernel
theorem beside_text : (Str.ofString "\xac\xae\u034e\u0350\u1805\u1807\u180a\u180e\u200a\u200e\u205f\u2061\ufdff\ufe10\ufefe\uff00").cps.toList = besideL := by decide +kernel
theorem item_strL {w : World} {A : Around} {E : Value → Shared → Prop} {s : Shared} {value slice : PySem.Expr} {l : Addr} {vs : List Value} {ys : List Str} {k : Int} {u : Tok} {Q : Value → Shared → Prop}
    (hl : s.heap.IsList l vs.toArray) (hy : StrsAre vs ys) (h0 : 0 ≤ k) (hk : k < (ys.length : Int)) (hhi : k < 2 ^ 63) (h : ∀ t, Q (.str (ys.getD k.toNat Str.empty) t) s)
    (hs : subscripted slice false (.ref l) (.int k u) = operate [.ref l, .int k u] (getItem (.ref l) (.int k u)) := by with_unfolding_all rfl) :
    wpAny (model pw w) A (subscriptTail value slice (.ref l) (.int k u)) Q E s := by
  have hlt : k.toNat < ys.length := by omega
  obtain ⟨t, ht⟩ := hy.at (j := k.toNat) (y := ys.getD k.toNat Str.empty) (by rw [List.getD_eq_getElem?_getD, List.getElem?_eq_getElem hlt]; rfl)
  exact item_at hl h0 hhi ht (h t) hs
theorem item_intL {w : World} {A : Around} {E : Value → Shared → Prop} {s : Shared} {value slice : PySem.Expr} {l : Addr} {vs : List Value} {ys : List Int} {k : Int} {u : Tok} {Q : Value → Shared → Prop}
    (hl : s.heap.IsList l vs.toArray) (hy : IntsAre vs ys) (h0 : 0 ≤ k) (hk : k < (ys.length : Int)) (hhi : k < 2 ^ 63) (h : ∀ t, Q (.int (ys.getD k.toNat 0) t) s)
    (hs : subscripted slice false (.ref l) (.int k u) = operate [.ref l, .int k u] (getItem (.ref l) (.int k u)) := by with_unfolding_all rfl) :
    wpAny (model pw w) A (subscriptTail value slice (.ref l) (.int k u)) Q E s := by
  have hlt : k.toNat < ys.length := by omega
  obtain ⟨t, ht⟩ := hy.get k.toNat (ys.getD k.toNat 0) (by rw [List.getD_eq_getElem?_getD, List.getElem?_eq_getElem hlt]; rfl)
  exact item_at hl h0 hhi ht (h t) hs
section
variable {M : Model} {A : Around} {E : Value → Shared → Prop} {s : Shared} {Kf : Frag} {h₀ : Heap} {C : Addr} {m mg mb : Str → Option Value} {sc : Scope} {env : Env} {cl : List (Str × Addr)} {p : Program} {loose : List Str} {mean : ExcName → Option Value} {x : Str} {pos : Pos} {v : Value} {Q : Value → Shared → Prop}
theorem nameC_L (F : Fr h₀ C s.heap m) (hv : m x = some v) (h : Q v s) (hk : (compEnvC sc cl C env).scope.kind = .function) (hx : (compEnvC sc cl C env).kindOf x = some .local) (hd : (x == ("__debug__" : Str)) = false) :
    wpAny M A (eval (.Name x pos) (compEnvC sc cl C env)) Q E s := wpAny_Name (wpAny_loadName_local hk hx F.ns hv h) hd
theorem nameC_C {news : List (Addr × Obj)} {c : Addr} {o : Obj} (N : News h₀ C s.heap news) (hc : cl.lookup x = some c) (hm : (c, o) ∈ news) (hd : o.data = .cell (some v)) (h : Q v s) (hk : (compEnvC sc cl C env).scope.kind = .function) (hx : (compEnvC sc cl C env).kindOf x = some .cell) (hb : (x == ("__debug__" : Str)) = false) :
    wpAny M A (eval (.Name x pos) (compEnvC sc cl C env)) Q E s := wpAny_Name (wpAny_loadName_cell hk hx hc ⟨o, N.get hm, hd⟩ h) hb
end
theorem alpha_start {k : Nat} (h : k < 10) : 0 ≤ alphaL.getD k 0 ∧ ∃ st : Nat, (119808 + 52 * alphaL.getD k 0 : Int) = (st : Int) ∧ st ∈ (65 :: alphaL.map fun a => (119808 + 52 * a).toNat) := by
  have hm := getD_lt alphaL k 0 h
  have : alphaL.all (fun a => decide (0 ≤ a)) = true := by decide
  have h0 := of_decide_eq_true (List.all_eq_true.mp this _ hm)
  refine ⟨h0, (119808 + 52 * alphaL.getD k 0).toNat, ?_, List.mem_cons_of_mem _ (List.mem_map_of_mem hm)⟩
  omega
theorem start_small {st : Nat} (h : st ∈ (65 :: alphaL.map fun a => (119808 + 52 * a).toNat)) : 65 ≤ st ∧ st ≤ 120432 := by
  have : (65 :: alphaL.map fun a => (119808 + 52 * a).toNat).all (fun st => decide (65 ≤ st) && decide (st ≤ 120432)) = true := by decide
  have h1 := List.all_eq_true.mp this _ h
  rw [Bool.and_eq_true, decide_eq_true_eq, decide_eq_true_eq] at h1
  exact h1
theorem name_small {k c : Nat} (hk : k < 7) (hc : c ∈ nameL.getD k []) : 97 ≤ c ∧ c ≤ 122 := by
  have h1 := List.all_eq_true.mp (List.all_eq_true.mp name_all _ (getD_lt nameL k [] hk)) c hc
  rw [Bool.and_eq_true, decide_eq_true_eq, decide_eq_true_eq] at h1
  exact h1
theorem news1 {h₀ h h' : Heap} {L C a : Addr} {o : Obj} {news : List (Addr × Obj)} (N : News h₀ L h news) (hm : (a, o) ∈ news) (hE : Ext h h') (hC : h.objs.size < C) : News h₀ C h' [(a, o)] := by
  intro p hp
  cases List.mem_singleton.mp hp
  have z := N _ hm
  exact ⟨hE _ _ z.1, Nat.ne_of_lt (Nat.lt_trans (Heap.lt_size z.1) hC), z.2.2⟩
theorem mem_flat_len {l : List Str} {y : Str} (h : y ∈ l) : y.length ≤ (l.flatMap fun y => y.cps.toList).length := by
  induction l with
  | nil => cases h
  | cons z r ih =>
    rw [List.flatMap_cons, List.length_append]
    rcases List.mem_cons.mp h with rfl | h
    · exact Nat.le_trans (Nat.le_of_eq (Array.length_toList (xs := y.cps)).symm) (Nat.le_add_right _ _)
    · exact Nat.le_trans (ih h) (Nat.le_add_left _ _)
theorem row_len (n : Int) (d : Bool) : (rowS n d).length ≤ 6 := by
  unfold rowS
  rw [List.length_append]
  have := bare_len n
  cases d with
  | false => show 0 + _ ≤ 6; omega
  | true => show 1 + _ ≤ 6; omega
end
/-! MSu -/
section
open PySem PySem.W PySem.Spec PySem.Calls PyProof.Rows
section
variable {M : Model} {A : Around} {E : Value → Shared → Prop} {s : Shared} {h₀ : Heap} {C : Addr} {m : Str → Option Value} {x : Str} {pos : Pos} {v : Value} {Q : Value → Shared → Prop} {sc : Scope} {cl : List (Str × Addr)} {env : Env} {news : List (Addr × Obj)} {c : Addr} {o : Obj}
theorem nm_sh (h : wpAny M A (eval (.Name x pos) (compEnvC sc cl C env)) Q E s) : wpAny M A (eval (.Name x pos) (compEnvC sc cl C env)) Q E s := h
theorem nm_L (h : Q v s) (F : Fr h₀ C s.heap m := by assumption) (hv : m x = some v := by assumption) (hk : (compEnvC sc cl C env).scope.kind = .function := by rfl) (hx : (compEnvC sc cl C env).kindOf x = some .local := by rfl) (hd : (x == ("__debug__" : Str)) = false := by decide) :
    wpAny M A (eval (.Name x pos) (compEnvC sc cl C env)) Q E s := nameC_L F hv h hk hx hd
theorem nm_C (h : Q v s) (N : News h₀ C s.heap news := by assumption) (hc : cl.lookup x = some c := by rfl) (hm : (c, o) ∈ news := by exact .head _) (hd : o.data = .cell (some v) := by assumption) (hk : (compEnvC sc cl C env).scope.kind = .function := by rfl) (hx : (compEnvC sc cl C env).kindOf x = some .cell := by rfl) (hb : (x == ("__debug__" : Str)) = false := by decide) :
    wpAny M A (eval (.Name x pos) (compEnvC sc cl C env)) Q E s := nameC_C N hc hm hd h hk hx hb
theorem nm_D (h : Q v s) (N : News h₀ C s.heap news := by assumption) (hc : cl.lookup x = some c := by rfl) (hm : (c, o) ∈ news := by first | exact .head _ | exact .tail _ (.head _) | exact .tail _ (.tail _ (.head _)) | exact .tail _ (.tail _ (.tail _ (.head _)))) (hd : o.data = .cell (some v) := by assumption) (hk : (compEnvC sc cl C env).scope.kind = .function := by rfl) (hx : (compEnvC sc cl C env).kindOf x = some .cell := by rfl) (hb : (x == ("__debug__" : Str)) = false := by decide) :
    wpAny M A (eval (.Name x pos) (compEnvC sc cl C env)) Q E s := nameC_C N hc hm hd h hk hx hb
theorem nm_E (h : Q v s) (N : News h₀ C s.heap news := by assumption) (hc : cl.lookup x = some c := by rfl) (hm : (c, o) ∈ news := by k_mem) (hd : o.data = .cell (some v) := by assumption) (hk : (compEnvC sc cl C env).scope.kind = .function := by rfl) (hx : (compEnvC sc cl C env).kindOf x = some .cell := by rfl) (hb : (x == ("__debug__" : Str)) = false := by decide) :
    wpAny M A (eval (.Name x pos) (compEnvC sc cl C env)) Q E s := nameC_C N hc hm hd h hk hx hb
end
end
section
open PySem PySem.W PySem.Spec PySem.Calls PyProof.Rows
local macro_rules | `(tactic| walk_at "exec While") => `(tactic| with_reducible refine st_a ?_)
section
open PySem PySem.W PySem.Spec PySem.Calls PyProof.Rows
local macro_rules | `(tactic| walk_at "exec While Compare cons nil") => `(tactic| with_reducible refine st_a ?_)
/-! MW2 -/
section
open PySem PySem.W PySem.Spec PySem.Calls PyProof.Rows
set_option maxHeartbeats 2000000 in
theorem bl_key (w : World) (N : Names) (l : Addr) (vs : List Value) (ns : List Int) (x : Int) (kk : Addr) (tx t1 t2 : Tok) (lo hi : Nat) (args : Args) {A : Around} {s : Shared} {Q : Value → Shared → Prop} {E : Value → Shared → Prop} (O : Okh w N s.heap) (hd : A.depth < 890) (hu : A.units < 8900)
    (hl : s.heap.IsList l vs.toArray) (hn : IntsAre vs ns) (hlh : lo ≤ hi) (hhi : hi ≤ ns.length) (hlen : ns.length < 1000)
    (fo : Obj) (fdk : FuncData) (ho : s.heap.get? kk = some fo) (hfo : fo.data = .func fdk)
    (hK : ∀ (n : Int) (t : Tok) (A' : Around) (s' : Shared) (Q' : Value → Shared → Prop) (E' : Value → Shared → Prop), Ext s.heap s'.heap → A'.depth < 900 → A'.units < 9000 → (∀ h' tk t', Ext s'.heap h' → Q' (.int (-n) t') { s' with heap := h', toks := tk }) → wpAny (model pw w) A' (call (.ref kk) [.int n t] []) Q' E' s')
    (hb : ∀ fd, (o58 w.params).data = .func fd → BindsTo s fd args (bBinds (.ref l) (.int x tx) (.int lo t1) (.int hi t2) (.ref kk)))
    (hret : ∀ h' tk t', Ext s.heap h' → Q (.int (bis (fun i => decide (-(ns.getD i 0) < x)) (hi - lo) lo hi : Nat) t') { s with heap := h', toks := tk }) : wpAny (model pw w) A (call (.ref 58) args.pos args.kw) Q E s := by
  have _kf : (fun (_ : OpenLaw) (_ : Params → Frag) => True) PySem.Challenge.rw_rw0108_01 K := by (k_fill; trivial)
  clear _kf
  refine enterP (f := 58) (binds := bBinds (.ref l) (.int x tx) (.int lo t1) (.int hi t2) (.ref kk)) O rfl rfl rfl rfl (hb _ rfl) (Nat.lt_trans hd (by decide)) (by decide) (locs rfl) rfl rfl rfl ?_
  intro h₁ F0
  show wpAny (model pw w) (A.deeper (envOf (Str.ofString "bisect_left") (fSc (stm 4)) s.heap.objs.size 58 (.ref 57))) (execs (fBody (stm 4)) (envOf (Str.ofString "bisect_left") (fSc (stm 4)) s.heap.objs.size 58 (.ref 57))) _ _ { s with heap := h₁, toks := s.toks + 5 }
  have es := (rfl : fSc (stm 4) = fSc (stm 4))
  conv at es => rhs; whnf
  have eb := (rfl : fBody (stm 4) = fBody (stm 4))
  conv at eb => rhs; whnf
  rw [es, eb]
  clear es eb
  have KX := O.K
  have T := O.T
  have N0 : News s.heap s.heap.objs.size h₁ [] := News.nil
  have hvl : vs.length = ns.length := by have := hn.length; simpa using this
  k_steps
  rename Fr _ _ _ _ => F9
  refine while_inv (fun n s' => ∃ (lo' hi' : Nat) (u1 u2 : Tok) (mid : Option Value) (h' : Heap) (tk' : Nat), s' = { s with heap := h', toks := tk' } ∧ Fr s.heap s.heap.objs.size h' (bm (.ref l) (.int x tx) (.ref kk) (.int lo' u1) (.int hi' u2) mid) ∧ lo' ≤ hi' ∧ hi' ≤ ns.length ∧ hi' - lo' ≤ n ∧
      bis (fun i => decide (-(ns.getD i 0) < x)) n lo' hi' = bis (fun i => decide (-(ns.getD i 0) < x)) (hi - lo) lo hi) ?_ (hi - lo) ⟨lo, hi, t1, t2, none, _, _, rfl, (Fr.cast F9 bm_start), hlh, hhi, Nat.le_refl _, rfl⟩
  rintro n s' ⟨lo', hi', u1, u2, mid, h', tk', es, F1, hlh', hhi', hn', hR⟩
  subst es
  clear F9
  have N1 : News s.heap s.heap.objs.size h' [] := News.nil
  k_steps
  refine Stop.intro ?_
  by_cases hlt : lo' < hi'
  · rw [if_pos (decide_eq_true (Int.ofNat_lt.mpr hlt))]
    obtain ⟨k, rfl⟩ := mid_k hlt hn'
    k_steps
    rename Fr _ _ _ _ => F9
    refine hK _ _ _ _ _ _ ?e1 ?e2 ?e3 ?e4
    case e1 => exact F9.keep
    case e2 => show A.depth + 1 < 900; omega
    case e3 => show A.units + 3 < 9000; omega
    intro h2 tk2 t2 e2
    have F3 := Fr.ext F9 e2
    have N3 : News s.heap s.heap.objs.size h2 [] := News.nil
    clear F9
    k_steps
    · rename -List.getD _ _ _ < _ => hc
      rw [mid_eq, Int.toNat_natCast] at hc
      rw [bis_up hlt (decide_eq_true hc)] at hR
      have F2 := Fr.cast (by assumption) bm_lo
      rw [mid_eq] at F2
      exact Stop.intro ⟨rfl, k, Nat.lt_succ_self k, (lo' + hi') / 2 + 1, hi', _, _, _, _, _, rfl, F2, mid_u1 hlt, hhi', mid_u2 hlt hn', hR⟩
    · rename ¬ (-List.getD _ _ _ < _) => hc
      rw [mid_eq, Int.toNat_natCast] at hc
      rw [bis_dn hlt (decide_eq_false hc)] at hR
      have F2 := Fr.cast (by assumption) bm_hi
      rw [mid_eq] at F2
      exact Stop.intro ⟨rfl, k, Nat.lt_succ_self k, lo', (lo' + hi') / 2, _, _, _, _, _, rfl, F2, mid_d1 hlt, mid_d2 hlt hhi', mid_d3 hlt hn', hR⟩
  · rw [if_neg (mid_no hlt)]
    dsimp only
    k_steps
    rw [← hR, bis_done hlt] at hret
    exact hret _ _ _ (by exact Fr.keep (by assumption))
set_option maxHeartbeats 2000000 in
theorem br_key (w : World) (N : Names) (l : Addr) (vs : List Value) (ns : List Int) (x : Int) (kk : Addr) (tx t1 t2 : Tok) (lo hi : Nat) (args : Args) {A : Around} {s : Shared} {Q : Value → Shared → Prop} {E : Value → Shared → Prop} (O : Okh w N s.heap) (hd : A.depth < 890) (hu : A.units < 8900)
    (hl : s.heap.IsList l vs.toArray) (hn : IntsAre vs ns) (hlh : lo ≤ hi) (hhi : hi ≤ ns.length) (hlen : ns.length < 1000)
    (fo : Obj) (fdk : FuncData) (ho : s.heap.get? kk = some fo) (hfo : fo.data = .func fdk)
    (hK : ∀ (n : Int) (t : Tok) (A' : Around) (s' : Shared) (Q' : Value → Shared → Prop) (E' : Value → Shared → Prop), Ext s.heap s'.heap → A'.depth < 900 → A'.units < 9000 → (∀ h' tk t', Ext s'.heap h' → Q' (.int (-n) t') { s' with heap := h', toks := tk }) → wpAny (model pw w) A' (call (.ref kk) [.int n t] []) Q' E' s')
    (hb : ∀ fd, (o49 w.params).data = .func fd → BindsTo s fd args (bBinds (.ref l) (.int x tx) (.int lo t1) (.int hi t2) (.ref kk)))
    (hret : ∀ h' tk t', Ext s.heap h' → Q (.int (bis (fun i => !decide (x < -(ns.getD i 0))) (hi - lo) lo hi : Nat) t') { s with heap := h', toks := tk }) : wpAny (model pw w) A (call (.ref 49) args.pos args.kw) Q E s := by
  have _kf : (fun (_ : OpenLaw) (_ : Params → Frag) => True) PySem.Challenge.rw_rw0108_01 K := by (k_fill; trivial)
  clear _kf
  refine enterP (f := 49) (binds := bBinds (.ref l) (.int x tx) (.int lo t1) (.int hi t2) (.ref kk)) O rfl rfl rfl rfl (hb _ rfl) (Nat.lt_trans hd (by decide)) (by decide) (locs rfl) rfl rfl rfl ?_
  intro h₁ F0
  show wpAny (model pw w) (A.deeper (envOf (Str.ofString "bisect_right") (fSc (stm 3)) s.heap.objs.size 49 (.ref 48))) (execs (fBody (stm 3)) (envOf (Str.ofString "bisect_right") (fSc (stm 3)) s.heap.objs.size 49 (.ref 48))) _ _ { s with heap := h₁, toks := s.toks + 5 }
  have es := (rfl : fSc (stm 3) = fSc (stm 3))
  conv at es => rhs; whnf
  have eb := (rfl : fBody (stm 3) = fBody (stm 3))
  conv at eb => rhs; whnf
  rw [es, eb]
  clear es eb
  have KX := O.K
  have T := O.T
  have N0 : News s.heap s.heap.objs.size h₁ [] := News.nil
  have hvl : vs.length = ns.length := by have := hn.length; simpa using this
  k_steps
  rename Fr _ _ _ _ => F9
  refine while_inv (fun n s' => ∃ (lo' hi' : Nat) (u1 u2 : Tok) (mid : Option Value) (h' : Heap) (tk' : Nat), s' = { s with heap := h', toks := tk' } ∧ Fr s.heap s.heap.objs.size h' (bm (.ref l) (.int x tx) (.ref kk) (.int lo' u1) (.int hi' u2) mid) ∧ lo' ≤ hi' ∧ hi' ≤ ns.length ∧ hi' - lo' ≤ n ∧
      bis (fun i => !decide (x < -(ns.getD i 0))) n lo' hi' = bis (fun i => !decide (x < -(ns.getD i 0))) (hi - lo) lo hi) ?_ (hi - lo) ⟨lo, hi, t1, t2, none, _, _, rfl, (Fr.cast F9 bm_start), hlh, hhi, Nat.le_refl _, rfl⟩
  rintro n s' ⟨lo', hi', u1, u2, mid, h', tk', es, F1, hlh', hhi', hn', hR⟩
  subst es
  clear F9
  have N1 : News s.heap s.heap.objs.size h' [] := News.nil
  k_steps
  refine Stop.intro ?_
  by_cases hlt : lo' < hi'
  · rw [if_pos (decide_eq_true (Int.ofNat_lt.mpr hlt))]
    obtain ⟨k, rfl⟩ := mid_k hlt hn'
    k_steps
    rename Fr _ _ _ _ => F9
    refine hK _ _ _ _ _ _ ?e1 ?e2 ?e3 ?e4
    case e1 => exact F9.keep
    case e2 => show A.depth + 1 < 900; omega
    case e3 => show A.units + 3 < 9000; omega
    intro h2 tk2 t2 e2
    have F3 := Fr.ext F9 e2
    have N3 : News s.heap s.heap.objs.size h2 [] := News.nil
    clear F9
    k_steps
    · rename _ < -List.getD _ _ _ => hc
      rw [mid_eq, Int.toNat_natCast] at hc
      rw [bis_dn hlt ((by show (!decide _) = false; rw [decide_eq_true hc]; rfl))] at hR
      have F2 := Fr.cast (by assumption) bm_hi
      rw [mid_eq] at F2
      exact Stop.intro ⟨rfl, k, Nat.lt_succ_self k, lo', (lo' + hi') / 2, _, _, _, _, _, rfl, F2, mid_d1 hlt, mid_d2 hlt hhi', mid_d3 hlt hn', hR⟩
    · rename ¬ (_ < -List.getD _ _ _) => hc
      rw [mid_eq, Int.toNat_natCast] at hc
      rw [bis_up hlt ((by show (!decide _) = true; rw [decide_eq_false hc]; rfl))] at hR
      have F2 := Fr.cast (by assumption) bm_lo
      rw [mid_eq] at F2
      exact Stop.intro ⟨rfl, k, Nat.lt_succ_self k, (lo' + hi') / 2 + 1, hi', _, _, _, _, _, rfl, F2, mid_u1 hlt, hhi', mid_u2 hlt hn', hR⟩
  · rw [if_neg (mid_no hlt)]
    dsimp only
    k_steps
    rw [← hR, bis_done hlt] at hret
    exact hret _ _ _ (by exact Fr.keep (by assumption))
end
/-! MC1 -/
section
open PySem PySem.W PySem.Spec PySem.Calls PyProof.Rows
/-- the objects nw stand in h, none of them in h₁, none at C, D or in wr -/
noncomputable def Bears (h₁ : Heap) (C D : Addr) (wr : List Addr) (h : Heap) (nw : List (Addr × Obj)) : Prop := ∀ p ∈ nw, h₁.get? p.1 = none ∧ p.1 ≠ C ∧ p.1 ≠ D ∧ p.1 ∉ wr ∧ h.get? p.1 = some p.2
theorem Bears.keep {h₁ h h' : Heap} {C D : Addr} {wr : List Addr} {nw : List (Addr × Obj)} (x : Bears h₁ C D wr h nw) (k : ∀ b o, b ≠ C → b ≠ D → b ∉ wr → h.get? b = some o → h'.get? b = some o) : Bears h₁ C D wr h' nw :=
  fun p hp => let ⟨a, b, c, d, e⟩ := x p hp; ⟨a, b, c, d, k _ _ b c d e⟩
theorem none_ne {h : Heap} {a b : Addr} {o : Obj} (e : h.get? a = none) (e' : h.get? b = some o) : a ≠ b := fun q => by rw [q, e'] at e; cases e
/-- the loop of a comprehension whose elements make objects -/
theorem compH {w : World} {A : Around} {R : Result → Shared → Prop} {s : Shared} {elt iter : PySem.Expr} {x : Str} {px : Pos} {scope : Scope} {pos : Pos} {I D : Addr} {fp wr : List Addr} {n : Nat} {P : Nat → Value → Prop} {St : Nat → Heap → Prop}
    {cenv : Env} {m : Str → Option Value} (W : Walks pw w A I fp wr n P St) (G : List (Addr × Obj) → Value → Value → Prop)
    (hlive : ∀ i h, St i h → ∀ b ∈ wr, ∃ o, h.get? b = some o)
    (hx : cenv.kindOf x = some .local) (hp : (cenv.scope.kind == .class || (cenv.scope.kind == .module && cenv.locals != cenv.globals)) = false)
    (hDC : D ≠ cenv.locals) (hDf : D ∉ fp) (hCf : cenv.locals ∉ fp)
    (hst : St 0 s.heap) (hacc : s.heap.PlainList D #[]) (hn : s.heap.Ns cenv.locals m)
    (helt : ∀ i v s₂ m₂, P i v → s₂.heap.Ns cenv.locals m₂ → m₂ x = some v → (∀ b o, b ≠ cenv.locals → b ∉ wr → b ≠ D → s.heap.get? b = some o → s₂.heap.get? b = some o) →
      wpAny (model pw w) A (eval elt cenv) (fun y s₃ => (∃ nw, (∀ p ∈ nw, s₂.heap.get? p.1 = none ∧ s₃.heap.get? p.1 = some p.2) ∧ G nw v y) ∧ Keeps s₂ s₃) (notedBy (model pw w) A cenv fun e s' => R (.error e) s') s₂)
    (hR : ∀ h' tk m' ys (vs : List Value), h'.Ns cenv.locals m' → h'.PlainList D ys → vs.length = n → (∀ j v, vs[j]? = some v → P j v) →
      Paired (fun v y => ∃ nw, Bears s.heap cenv.locals D wr h' nw ∧ G nw v y) vs ys.toList →
      (∀ b o, b ≠ cenv.locals → b ∉ wr → b ≠ D → s.heap.get? b = some o → h'.get? b = some o) → R (.ok .next) { s with heap := h', toks := tk })
    (hsz : n ≤ sizeLine) :
    codeAny (model pw w) A (.compLoop (.ListComp elt [⟨.Name x px, iter, [], 0⟩] scope pos) 0 (.ref I) (.ref D) cenv) R s := by
  have hCw : cenv.locals ∉ wr := fun h => hCf (W.sub _ h)
  have hDw : D ∉ wr := fun h => hDf (W.sub _ h)
  refine codeAny_compLoop_tests
    (fun k s' => ∃ h' tk m' ys, ∃ vs : List Value, s' = { s with heap := h', toks := tk } ∧ St vs.length h' ∧ h'.PlainList D ys ∧ h'.Ns cenv.locals m' ∧ (∀ j v, vs[j]? = some v → P j v) ∧
      Paired (fun v y => ∃ nw, Bears s.heap cenv.locals D wr h' nw ∧ G nw v y) vs ys.toList ∧ vs.length ≤ n ∧ k = n + 1 - vs.length ∧
      (∀ b o, b ≠ cenv.locals → b ∉ wr → b ≠ D → s.heap.get? b = some o → h'.get? b = some o)) ?_ (n + 1)
    ⟨s.heap, s.toks, m, #[], [], rfl, hst, hacc, hn, by simp, .nil, Nat.zero_le _, rfl, fun _ _ _ _ _ e => e⟩
  rintro k s' ⟨H, tk, m', ys, vs, rfl, hst', hacc', hn', hP, hF, hi, rfl, hk⟩
  by_cases hlt : vs.length < n
  · refine W.item vs.length _ _ _ hlt hst' fun v h₁ tk₁ hPv hst₁ hk₁ => ?_
    refine wpAny_assign_Name (wpAny_storeName_local hx (hn'.at' fun o e => hk₁ _ o hCw e) (fun h₂ hn₂ hs₂ => ?_) hp)
    have up₂ : ∀ b o, b ≠ cenv.locals → b ∉ wr → H.get? b = some o → h₂.get? b = some o := fun b o hbC hbf e => hs₂.extBut b o hbC (hk₁ b o hbf e)
    have hst₂ : St (vs.length + 1) h₂ := W.frame _ _ _ hst₁ fun b hb o e => hs₂.extBut b o (fun h => hCf (h ▸ hb)) e
    have hk₂ : ∀ b o, b ≠ cenv.locals → b ∉ wr → b ≠ D → s.heap.get? b = some o → h₂.get? b = some o := fun b o hbC hbf hbD e => up₂ b o hbC hbf (hk b o hbC hbf hbD e)
    refine wpAny_tests_nil ?_
    rw [if_pos rfl]
    refine wpAny_mono (helt vs.length v _ _ hPv hn₂ (by simp) hk₂) (fun y s₄ h₄ => ?_) fun _ _ e => e
    obtain ⟨⟨nw, hnw, hG⟩, h₄, tk₄, rfl, hk₄⟩ := h₄
    have hPl : h₄.PlainList D ys := hacc'.at fun o e => hk₄ _ o (up₂ D o hDC hDw e)
    have hys : ys.size ≤ sizeLine := by
      have e1 := hF.length
      have e4 : ys.toList.length = ys.size := by simp
      omega
    have hB : Bears s.heap cenv.locals D wr h₄ nw := fun p hp => by
      obtain ⟨a, b⟩ := hnw p hp
      have c1 : p.1 ≠ cenv.locals := by obtain ⟨_, _, _, ho, _⟩ := hn₂; exact none_ne a ho
      have c2 : p.1 ≠ D := by obtain ⟨_, ho⟩ := hacc'; exact none_ne a (up₂ D _ hDC hDw ho)
      have c3 : p.1 ∉ wr := fun hm => by obtain ⟨o, ho⟩ := hlive _ _ hst₂ p.1 hm; exact none_ne a ho rfl
      refine ⟨?_, c1, c2, c3, b⟩
      cases e : s.heap.get? p.1 with
      | none => rfl
      | some o => exact absurd rfl (none_ne a (hk₂ _ o c1 c3 c2 e))
    refine wpAny_list_append_plain (hsz := hys) hPl fun h₅ hl₅ hs₅ => ?_
    refine ⟨n + 1 - (vs.length + 1), by omega, h₅, tk₄, _, ys.push y, vs ++ [v], rfl, ?_, hl₅, (hn₂.keeps hk₄).sameBut hs₅ (Ne.symm hDC), ?_, ?_, (by rw [List.length_append, List.length_singleton]; exact hlt), (by rw [List.length_append, List.length_singleton]),
      fun b o hbC hbf hbD e => hs₅.extBut b o hbD (hk₄ b o (hk₂ b o hbC hbf hbD e))⟩
    · rw [List.length_append, List.length_singleton]
      exact W.frame _ _ h₅ hst₂ fun b hb o e => hs₅.extBut b o (fun h => hDf (h ▸ hb)) (hk₄ b o e)
    · intro j u hj
      rcases Nat.lt_trichotomy j vs.length with h | h | h
      · exact hP j u (by rwa [List.getElem?_append_left h] at hj)
      · subst h; simp at hj; subst hj; exact hPv
      · have hnone : (vs ++ [v])[j]? = none := List.getElem?_eq_none (by rw [List.length_append, List.length_singleton]; omega)
        rw [hnone] at hj; cases hj
    · have hF₅ := hF.mono (F' := fun v y => ∃ nw, Bears s.heap cenv.locals D wr h₅ nw ∧ G nw v y) fun _ _ ⟨nw', a, b⟩ => ⟨nw', a.keep fun b o hbC hbD hbf e => hs₅.extBut b o hbD (hk₄ b o (up₂ b o hbC hbf e)), b⟩
      have e6 : (ys.push y).toList = ys.toList ++ [y] := by simp
      rw [e6]
      exact Paired.snoc hF₅ ⟨nw, hB.keep fun b o _ hbD _ e => hs₅.extBut b o hbD e, hG⟩
  · have hin : vs.length = n := by omega
    refine W.done _ _ _ (hin ▸ hst') fun h₁ tk₁ hk₁ => ?_
    exact hR h₁ tk₁ m' ys vs (hn'.at' fun o e => hk₁ _ o hCw e) (hacc'.at fun o e => hk₁ _ o hDw e) hin hP (hF.mono fun _ _ ⟨nw', a, b⟩ => ⟨nw', a.keep fun b o _ _ hbf e => hk₁ b o hbf e, b⟩) fun b o hbC hbf hbD e => hk₁ b o hbf (hk b o hbC hbf hbD e)
end
/-! MC2 -/
section
open PySem PySem.W PySem.Spec PySem.Calls PyProof.Rows
/-- what an element's walk must end with: it made the objects nw, all else is kept -/
noncomputable def Makes (G : List (Addr × Obj) → Value → Value → Prop) (v y : Value) (s₃ s₄ : Shared) : Prop := (∃ nw, (∀ p ∈ nw, s₃.heap.get? p.1 = none ∧ s₄.heap.get? p.1 = some p.2) ∧ G nw v y) ∧ Keeps s₃ s₄
/-- `z = [elt for x in r]` at the list r, in a def with cells, the elements making objects -/
theorem asgH {w : World} {A : Around} {E : Value → Shared → Prop} {s : Shared} {h₀ : Heap} {L l a : Addr} {m : Str → Option Value} {news : List (Addr × Obj)} {cn : Str} {cs : Scope} {ccd : Value} {cells cl : List (Str × Addr)} {elt : PySem.Expr} {x z r : Str} {px pz pr pos spos : Pos} {scope : Scope} {Q : Flow → Shared → Prop} {vs : List Value} {n₀ : Nat} (G : List (Addr × Obj) → Value → Value → Prop)
    (hh : A.handled = none) (F : Fr h₀ L s.heap m) (N : News h₀ L s.heap news) (hr : m r = some (.ref l)) (hl : s.heap.get? l = some (lob vs n₀)) (hsz : vs.length ≤ sizeLine)
    (g2 : ∀ C v s₃ m₃ E', s.heap.objs.size < C → Fr h₀ C s₃.heap m₃ → v ∈ vs → m₃ x = some v → Ext s.heap s₃.heap → wpAny (model pw w) A (eval elt (compEnvC scope cl C (envX cn cs L a ccd cells))) (fun y s₄ => Makes G v y s₃ s₄) E' s₃)
    (g3 : ∀ D ys n h' tk, Paired (fun v y => ∃ nw, (∀ p ∈ nw, s.heap.get? p.1 = none ∧ p.1 ≠ D ∧ h'.get? p.1 = some p.2) ∧ G nw v y) vs ys → Fr h₀ L h' (fun y => if y = z then some (.ref D) else m y) → News h₀ L h' ((D, lob ys n) :: news) → s.heap.get? D = none → Q .next { s with heap := h', toks := tk })
    (hsw : swapsWith (.ListComp elt [⟨.Name x px, .Name r pr, [], 0⟩] scope pos) (some (.Name z pz)) spos.line (envX cn cs L a ccd cells) = pure true)
    (hclos : closureFor scope (envX cn cs L a ccd cells) = pure cl) (hcell : ∀ z ∈ scope.names, z.2 ≠ .cell) (hkind : scope.kind = .function)
    (hnames : ∀ z ∈ scope.names, z.2 = .local → scope.names.lookup z.1 = some .local) (hx : scope.names.lookup x = some .local)
    (hk : cs.kind = .function) (hz : (envX cn cs L a ccd cells).kindOf z = some .local) (hrk : (envX cn cs L a ccd cells).kindOf r = some .local) (hrd : (r == ("__debug__" : Str)) = false) :
    wpAny (model pw w) A (exec (.Assign [.Name z pz] (.ListComp elt [⟨.Name x px, .Name r pr, [], 0⟩] scope pos) spos) (envX cn cs L a ccd cells)) Q E s := by
  have hlL : @LT.lt Nat _ L s.heap.objs.size := F.ns.lt
  have hlt : @LT.lt Nat _ l s.heap.objs.size := Heap.lt_size hl
  have hab : @LE.le Nat _ h₀.objs.size L := F.above
  rw [exec_Assign_Name_used _ _ _ _ hsw]
  refine wpAny_bind (wpAny_standAt (wpAny_bind ?_))
  show wpAny _ A (do let _ ← comprehension (.ListComp elt [⟨.Name x px, .Name r pr, [], 0⟩] scope pos) scope (envX cn cs L a ccd cells) _ (newList []) false (eval (.Name r pr) (envX cn cs L a ccd cells)) (some (assign (.Name z pz) (envX cn cs L a ccd cells)))) _ _ s
  refine wpAny_bind (wpAny_mono (wpAny_comprehension_free (use := some (assign (.Name z pz) (envX cn cs L a ccd cells))) (Q := fun _ s' => Q .next s') rfl (by intro _; rfl) hclos hkind hnames ?_) (fun _ s' hq => wpAny_pure (wpAny_pure hq)) fun _ _ e => e)
  refine nameX_L F hr ?_ hk hrk hrd
  refine wpAny_pyIter_list (lob_is hl) ?_
  -- the list and the names of the comprehension
  refine wpAny_newObj_type (wpAny_newFunctionEnv hcell (by intro y hy; simp at hy) (fun h₁ hns₁ hsb₁ => ?_) hkind)
  dsimp only at hns₁ hsb₁ ⊢
  generalize hI : s.heap.push { cls := .type "list_iterator", data := .fields #[.ref l, .int 0 0] } = HI at hns₁ hsb₁ ⊢
  generalize hH2 : HI.push { cls := .type "list", dict := none, data := .seq ([] : List Value).toArray } = H2 at hns₁ hsb₁ ⊢
  have szI : HI.objs.size = s.heap.objs.size + 1 := by rw [← hI, Heap.size_push]
  have sz2 : H2.objs.size = HI.objs.size + 1 := by rw [← hH2, Heap.size_push]
  have oldI : ∀ b o, HI.get? b = some o → h₁.get? b = some o := fun b o e => hsb₁.extBut b o (Nat.ne_of_lt (by have h : @LT.lt Nat _ b HI.objs.size := Heap.lt_size e; omega)) (Heap.get?_push_of_some _ (hH2 ▸ Heap.get?_push_of_some _ e))
  have old : ∀ b o, s.heap.get? b = some o → h₁.get? b = some o := fun b o e => oldI b o (hI ▸ Heap.get?_push_of_some _ e)
  have hitI : HI.get? s.heap.objs.size = some { cls := .type "list_iterator", data := .fields #[.ref l, .int 0 0] } := by rw [← hI]; exact Heap.get?_push_size _ rfl
  have hacc : h₁.PlainList HI.objs.size #[] := ⟨_, hsb₁.extBut _ _ (Nat.ne_of_lt (by omega)) (Heap.get?_push_of_some _ (hH2 ▸ Heap.get?_push_size _ rfl))⟩
  have W := Walks.list (prog := pw) (w := w) hh s.heap.objs.size l (Nat.ne_of_lt hlt) vs.toArray
  have fresh : ∀ b, s.heap.objs.size ≤ b → s.heap.get? b = none := fun b hb => Heap.get?_none_of_le hb
  have ne1 : ∀ b o, s.heap.get? b = some o → b ≠ s.heap.objs.size ∧ b ≠ HI.objs.size ∧ b ≠ H2.objs.size := fun b o e => by
    have h : @LT.lt Nat _ b s.heap.objs.size := Heap.lt_size e
    exact ⟨Nat.ne_of_lt h, Nat.ne_of_lt (by omega), Nat.ne_of_lt (by omega)⟩
  have body : ∀ s₃ : Shared, s₃.heap = h₁ → s₃.gens = s.gens → s₃.drawn = s.drawn → s₃.os = s.os →
      codeAny (model pw w) A (.compLoop (.ListComp elt [⟨.Name x px, .Name r pr, [], 0⟩] scope pos) 0 (.ref s.heap.objs.size) (.ref HI.objs.size) (compEnvC scope cl H2.objs.size (envX cn cs L a ccd cells)))
        (compPost (model pw w) A E (some (assign (.Name z pz) (envX cn cs L a ccd cells))) (fun _ s' => Q .next s') (.ref HI.objs.size) H2.objs.size) s₃ := by
    rintro ⟨h3, g3', d3, k3, o3⟩ e1 e2 e3 e4
    dsimp only at e1 e2 e3 e4
    subst e1 e2 e3 e4
    refine compH (n := vs.toArray.size) (cenv := compEnvC scope cl H2.objs.size (envX cn cs L a ccd cells)) W G ?_ (lookup_relabel_local hx) (by simp [compEnvC, relabel, hkind]) (show HI.objs.size ≠ H2.objs.size from Nat.ne_of_lt (by omega)) ?_ ?_ ⟨⟨_, oldI _ _ hitI, rfl, rfl⟩, (lob_is hl).at fun o e => old _ o e⟩ hacc hns₁ ?_ ?_ (by rw [List.size_toArray]; exact hsz)
    · intro i h st b hb
      rw [List.mem_singleton.mp hb]
      obtain ⟨o, e, _⟩ := st.1
      exact ⟨o, e⟩
    · intro hm
      rcases List.mem_cons.mp hm with e | hm
      · exact Nat.ne_of_gt (by omega : @LT.lt Nat _ s.heap.objs.size HI.objs.size) e
      · exact Nat.ne_of_gt (by omega : @LT.lt Nat _ l HI.objs.size) (List.mem_singleton.mp hm)
    · intro hm
      have hm' : H2.objs.size ∈ [s.heap.objs.size, l] := hm
      rcases List.mem_cons.mp hm' with e | hm
      · exact Nat.ne_of_gt (by omega : @LT.lt Nat _ s.heap.objs.size H2.objs.size) e
      · exact Nat.ne_of_gt (by omega : @LT.lt Nat _ l H2.objs.size) (List.mem_singleton.mp hm)
    · intro i v s₂ m₂ hP hn2 hm2 hk2
      have hv : vs[i]? = some v := by simpa using hP
      have hE : Ext s.heap s₂.heap := fun b o e => by
        obtain ⟨c1, c2, c3⟩ := ne1 b o e
        exact hk2 b o c3 (fun hb => c1 (List.mem_singleton.mp hb)) c2 (old b o e)
      exact g2 H2.objs.size v s₂ m₂ _ (by show @LT.lt Nat _ s.heap.objs.size H2.objs.size; omega) ⟨hn2, fun b o e => hE _ _ (F.keep b o e), by show @LE.le Nat _ h₀.objs.size H2.objs.size; omega⟩ (List.mem_of_getElem? hv) hm2 hE
    · intro h' tk m' ys vs' hnC hplD hlen hP hF hk'
      have e' : vs' = vs := by simpa using walked_is hlen hP
      subst e'
      obtain ⟨n, hD⟩ := hplD
      have up : ∀ b o, s.heap.get? b = some o → h'.get? b = some o := fun b o e => by
        obtain ⟨c1, c2, c3⟩ := ne1 b o e
        exact hk' b o c3 (fun hb => c1 (List.mem_singleton.mp hb)) c2 (old b o e)
      show wpAny _ A (assign (.Name z pz) (envX cn cs L a ccd cells) (.ref HI.objs.size)) _ _ _
      refine wpAny_assign_Name (wpAny_storeName_local hz (F.ns.at' fun o e => up _ o e) (fun h₂ hn₂ hs₂ => ?_) (by show (cs.kind == .class || _) = false; rw [hk]; rfl))
      have hLC : H2.objs.size ≠ L := Nat.ne_of_gt (by omega)
      have hLD : HI.objs.size ≠ L := Nat.ne_of_gt (by omega)
      have hDC : HI.objs.size ≠ H2.objs.size := Nat.ne_of_lt (by omega)
      refine ⟨m', hnC.sameBut hs₂ hLC, fun h₃ hs₃ => ?_⟩
      have up3 : ∀ b o, b ≠ L → b ≠ H2.objs.size → h'.get? b = some o → h₃.get? b = some o := fun b o hb1 hb2 e => hs₃.extBut b o hb2 (hs₂.extBut b o hb1 e)
      have q1 : Paired (fun v y => ∃ nw, (∀ p ∈ nw, s.heap.get? p.1 = none ∧ p.1 ≠ HI.objs.size ∧ h₃.get? p.1 = some p.2) ∧ G nw v y) vs' ys.toList := by
        refine hF.mono fun v y ⟨nw, a1, a2⟩ => ⟨nw, fun p hp => ?_, a2⟩
        obtain ⟨b1, b2, b3, b4, b5⟩ := a1 p hp
        have c1 : s.heap.get? p.1 = none := by
          cases e : s.heap.get? p.1 with
          | none => rfl
          | some o => exact absurd rfl (none_ne b1 (old _ _ e))
        refine ⟨c1, b3, up3 _ _ (fun q => ?_) b2 b5⟩
        obtain ⟨_, _, _, ho, _⟩ := F.ns
        exact none_ne c1 ho q
      have q2 : Fr h₀ L h₃ (fun y => if y = z then some (.ref HI.objs.size) else m y) := by
        refine ⟨hn₂.sameBut hs₃ (Ne.symm hLC), fun b o e => ?_, F.above⟩
        have hb : @LT.lt Nat _ b h₀.objs.size := Heap.lt_size e
        exact up3 b o (Nat.ne_of_lt (by omega)) (Nat.ne_of_lt (by omega)) (up b o (F.keep b o e))
      have q3 : News h₀ L h₃ ((HI.objs.size, lob ys.toList n) :: news) := by
        intro p hp
        rcases List.mem_cons.mp hp with rfl | hp
        · refine ⟨?_, hLD, Heap.get?_none_of_le (by show @LE.le Nat _ h₀.objs.size HI.objs.size; omega)⟩
          unfold lob
          rw [Array.toArray_toList]
          exact up3 _ _ hLD hDC hD
        · have hb : @LT.lt Nat _ p.1 s.heap.objs.size := Heap.lt_size (N p hp).1
          exact ⟨up3 _ _ (N p hp).2.1 (Nat.ne_of_lt (by omega)) (up _ _ (N p hp).1), (N p hp).2⟩
      exact g3 HI.objs.size ys.toList n h₃ _ q1 q2 q3 (fresh _ (by show @LE.le Nat _ s.heap.objs.size HI.objs.size; omega))
  exact codeAny_compStart_list (body _ rfl rfl rfl rfl) (W.self 0 _ _ _ ⟨⟨_, oldI _ _ hitI, rfl, rfl⟩, (lob_is hl).at fun o e => old _ o e⟩ (body _ rfl rfl rfl rfl))
end
/-! MC3 -/
section
open PySem PySem.W PySem.Spec PySem.Calls PyProof.Rows
noncomputable def numOf (v : Value) : Nat := match v with | Value.int k _ => k.toNat | _ => 0
theorem nums_are {n : Nat} {vs : List Value} (hl : vs.length = n) (hv : ∀ (j : Nat) (v : Value), vs[j]? = some v → ∃ t, v = Value.int (j : Int) t) : vs.map numOf = List.range n := by
  apply List.ext_getElem?
  intro j
  rw [List.getElem?_map]
  cases e : vs[j]? with
  | none =>
    have : vs.length ≤ j := List.getElem?_eq_none_iff.mp e
    rw [List.getElem?_eq_none (by rw [List.length_range]; omega)]; rfl
  | some v =>
    have hlt : j < vs.length := by
      rcases Nat.lt_or_ge j vs.length with h | h
      · exact h
      · rw [List.getElem?_eq_none h] at e; cases e
    obtain ⟨t, rfl⟩ := hv j v e
    rw [List.getElem?_range (by omega)]
    show some ((j : Int).toNat) = _
    rw [Int.toNat_natCast]
theorem paired_map {α : Type} {f : Value → α} {p : α → Bool} {R : α → Value → Prop} : ∀ {vs ys : List Value}, Paired (fun v y => R (f v) y) (vs.filter fun v => p (f v)) ys → Paired R ((vs.map f).filter p) ys
  | [], _, h => by cases h; exact .nil
  | v :: vs, ys, h => by
    rw [List.filter_cons] at h
    rw [List.map_cons, List.filter_cons]
    cases hp : p (f v) with
    | true =>
      rw [hp, if_pos rfl] at h
      rw [if_pos rfl]
      cases h with
      | cons h1 h2 => exact .cons h1 (paired_map h2)
    | false =>
      rw [hp, if_neg Bool.false_ne_true] at h
      rw [if_neg Bool.false_ne_true]
      exact paired_map h
section
variable {w : World} {A : Around} {E : Value → Shared → Prop} {s₁ : Shared} {h₀ : Heap} {L : Addr} {m : Str → Option Value} {news : List (Addr × Obj)} {env : Env} {elt : PySem.Expr} {ifs : List PySem.Expr} {x z : Str} {scope : Scope} {cl : List (Str × Addr)}
/-- the source range(n) of `z = [elt for x in range(n)]` -/
theorem srcAR {Q : Flow → Shared → Prop} {r : Addr} {b₀ : Int} {t₀ u₀ v₀ : Tok} {n : Nat} (R : Nat → Value → Prop) (hh : A.handled = none) {h₁ : Heap} (hs₁ : s₁.heap = h₁) (hr : IsRange h₁ r 0 b₀ 1 t₀ u₀ v₀) (hn : b₀ = (n : Int)) (hn1 : n ≤ 1000)
    (F : Fr h₀ L h₁ m) (N : News h₀ L h₁ news) (hL : env.locals = L)
    (g2 : ∀ C i t s₃ m₃ E', s₁.heap.objs.size < C → Fr h₀ C s₃.heap m₃ → i < n → m₃ x = some (.int (i : Nat) t) → Ext s₁.heap s₃.heap → wpAny (model pw w) A (eval elt (compEnvC scope cl C env)) (fun y s₄ => Stop (R i y ∧ Keeps s₃ s₄)) E' s₃)
    (g3 : ∀ D ys k h' tk, Paired R (List.range n) ys → Fr h₀ L h' (fun y => if y = z then some (.ref D) else m y) → News h₀ L h' ((D, lob ys k) :: news) → s₁.heap.get? D = none → Q .next { s₁ with heap := h', toks := tk }) :
    wpAny (model pw w) A (pyIter (.ref r)) (fun it s₂ => ∃ I fp wr n P St m, it = .ref I ∧ Walks pw w A I fp wr n P St ∧ n ≤ sizeLine ∧ St 0 s₂.heap ∧ (∀ b ∈ fp, b < s₂.heap.objs.size) ∧
      env.locals ∉ wr ∧ s₂.heap.Ns env.locals m ∧ QuietOnC pw w A env scope cl x [] elt wr P (fun _ => true) (fun v y => R (numOf v) y) s₂ ∧
      (∀ D h' tk ys (vs : List Value), s₂.heap.get? D = none → h'.IsList D ys → h'.PlainList D ys → vs.length = n → (∀ j v, vs[j]? = some v → P j v) → Paired (fun v y => R (numOf v) y) (vs.filter fun _ => true) ys.toList →
        h'.Ns env.locals (fun y => if y = z then some (.ref D) else m y) → (∀ b o, b ≠ env.locals → b ∉ wr → s₂.heap.get? b = some o → h'.get? b = some o) → Q .next { s₂ with heap := h', toks := tk })) E s₁ := by
  subst hL hn hs₁
  refine wpAny_pyIter_range hr (small_one (by decide) (by decide) (by omega) (by omega)) ?_
  have hn' : Builtin.Range.rangeSize 0 (n : Int) 1 = (n : Int) := by unfold Builtin.Range.rangeSize; simp; omega
  have W : Walks pw w A s₁.heap.objs.size [s₁.heap.objs.size] [s₁.heap.objs.size] n (fun i v => i < n ∧ ∃ t, v = .int (0 + i * 1) t)
      (fun i h => IsRangeIter h s₁.heap.objs.size (0 + (i : Nat) * 1) ((n : Int) - (i : Nat)) 1) := (Walks.range hh _ 0 1 n).bound
  have new : ∀ {b o}, s₁.heap.get? b = some o → b ∉ [s₁.heap.objs.size] := fun e hm => absurd (Heap.lt_size e) ((List.mem_singleton.mp hm) ▸ Nat.lt_irrefl _)
  have hlL : @LT.lt Nat _ env.locals s₁.heap.objs.size := F.ns.lt
  refine ⟨s₁.heap.objs.size, _, _, n, _, _, m, rfl, W, Nat.le_trans hn1 (by decide), ?_, ?_, ?_, (F.push _).ns, ⟨?_, ?_⟩, ?_⟩
  · show IsRangeIter _ _ _ _ _
    rw [hn']; simpa using Heap.get?_push_size _ rfl
  · intro b hb
    rw [List.mem_singleton.mp hb]
    show _ < (s₁.heap.push _).objs.size
    rw [Heap.size_push]; exact Nat.lt_succ_self _
  · intro hm
    exact absurd F.ns.lt ((List.mem_singleton.mp hm) ▸ Nat.lt_irrefl _)
  · intro C i v s₃ m₃ E' _ hP hn hm hk htk
    exact wpAny_pure ⟨rfl, s₃.heap, s₃.toks, rfl, fun _ _ e => e⟩
  · intro C i v s₃ m₃ E' hC hP hp hn hm hk htk
    obtain ⟨hi, t, rfl⟩ := hP
    have hC' : (s₁.heap.push _).objs.size ≤ C := hC
    rw [Heap.size_push] at hC'
    have e1 : (0 : Int) + (i : Int) * 1 = (i : Int) := by omega
    rw [e1] at hm
    have hE : Ext s₁.heap s₃.heap := fun b o e => hk b o (new e) (Heap.get?_push_of_some _ e)
    have e2 : numOf (Value.int (0 + (i : Int) * 1) t) = i := by rw [e1]; exact Int.toNat_natCast i
    rw [e2]
    exact g2 C i t s₃ m₃ E' hC' ⟨hn, fun b o e => hE _ _ (F.keep b o e), Nat.le_trans F.above (Nat.le_of_lt (Nat.lt_trans hlL hC'))⟩ hi hm hE
  · intro D h' tk ys vs hnew hlD hplD hlen hP hF hn' hk
    obtain ⟨k, hD⟩ := hplD
    have up : ∀ b o, b ≠ env.locals → s₁.heap.get? b = some o → h'.get? b = some o := fun b o hb e => hk b o hb (new e) (Heap.get?_push_of_some _ e)
    have hn1 : s₁.heap.get? D = none := by
      cases e : s₁.heap.get? D with
      | none => rfl
      | some o' => rw [Heap.get?_push_of_some _ e] at hnew; cases hnew
    have hDL : D ≠ env.locals := by
      intro e
      obtain ⟨o, _, _, ho, _⟩ := F.ns
      rw [← e, hn1] at ho
      cases ho
    have e1 := nums_are hlen (fun j v hj => by
      obtain ⟨_, t, rfl⟩ := hP j v hj
      exact ⟨t, by rw [show (0 : Int) + (j : Int) * 1 = (j : Int) by omega]⟩)
    have hF2 := paired_map (f := numOf) (p := fun _ => true) hF
    rw [e1, List.filter_eq_self.mpr (fun _ _ => rfl)] at hF2
    refine g3 D ys.toList k h' tk hF2 ⟨hn', fun b o' e => up b o' (Nat.ne_of_lt (Nat.lt_of_lt_of_le (Heap.lt_size e) F.above)) (F.keep b o' e), F.above⟩ ?_ hn1
    intro p hp
    rcases List.mem_cons.mp hp with rfl | hp
    · refine ⟨?_, hDL, ?_⟩
      · unfold lob; rw [Array.toArray_toList]; exact hD
      · cases e : h₀.get? D with
        | none => rfl
        | some o' => rw [F.keep _ _ e] at hn1; cases hn1
    · exact ⟨up _ _ (N p hp).2.1 (N p hp).1, (N p hp).2⟩
/-- the source range(n) of `[elt for x in range(n) if ..]` -/
theorem srcER {Q : Value → Shared → Prop} {r : Addr} {b₀ : Int} {t₀ u₀ v₀ : Tok} {n : Nat} (p : Nat → Bool) (R : Nat → Value → Prop) (hh : A.handled = none) {h₁ : Heap} (hs₁ : s₁.heap = h₁) (hr : IsRange h₁ r 0 b₀ 1 t₀ u₀ v₀) (hn : b₀ = (n : Int)) (hn1 : n ≤ 1000)
    (F : Fr h₀ L h₁ m) (N : News h₀ L h₁ news)
    (g1 : ∀ C i t s₃ m₃ E', s₁.heap.objs.size < C → Fr h₀ C s₃.heap m₃ → i < n → m₃ x = some (.int (i : Nat) t) → Ext s₁.heap s₃.heap → wpAny (model pw w) A (forIn ifs true fun c r => if r = true then do let ok ← isTrue c (compEnvC scope cl C env) (eval c (compEnvC scope cl C env)); pure (ForInStep.yield ok) else pure (ForInStep.yield r)) (fun ok s₄ => Stop (ok = p i ∧ Keeps s₃ s₄)) E' s₃)
    (g2 : ∀ C i t s₃ m₃ E', s₁.heap.objs.size < C → Fr h₀ C s₃.heap m₃ → i < n → p i = true → m₃ x = some (.int (i : Nat) t) → Ext s₁.heap s₃.heap → wpAny (model pw w) A (eval elt (compEnvC scope cl C env)) (fun y s₄ => Stop (R i y ∧ Keeps s₃ s₄)) E' s₃)
    (g3 : ∀ D ys k h' tk, Paired R ((List.range n).filter p) ys → Fr h₀ L h' m → News h₀ L h' ((D, lob ys k) :: news) → s₁.heap.get? D = none → Q (.ref D) { s₁ with heap := h', toks := tk }) :
    wpAny (model pw w) A (pyIter (.ref r)) (fun it s₂ => ∃ I fp wr n P St, it = .ref I ∧ Walks pw w A I fp wr n P St ∧ n ≤ sizeLine ∧ St 0 s₂.heap ∧ (∀ b ∈ fp, b < s₂.heap.objs.size) ∧
      QuietOnC pw w A env scope cl x ifs elt wr P (fun v => p (numOf v)) (fun v y => R (numOf v) y) s₂ ∧
      (∀ D h' tk ys (vs : List Value), s₂.heap.get? D = none → h'.IsList D ys → h'.PlainList D ys → vs.length = n → (∀ j v, vs[j]? = some v → P j v) → Paired (fun v y => R (numOf v) y) (vs.filter fun v => p (numOf v)) ys.toList →
        (∀ b o, b ∉ wr → s₂.heap.get? b = some o → h'.get? b = some o) → Q (.ref D) { s₂ with heap := h', toks := tk })) E s₁ := by
  subst hn hs₁
  refine wpAny_pyIter_range hr (small_one (by decide) (by decide) (by omega) (by omega)) ?_
  have hn' : Builtin.Range.rangeSize 0 (n : Int) 1 = (n : Int) := by unfold Builtin.Range.rangeSize; simp; omega
  have W : Walks pw w A s₁.heap.objs.size [s₁.heap.objs.size] [s₁.heap.objs.size] n (fun i v => i < n ∧ ∃ t, v = .int (0 + i * 1) t)
      (fun i h => IsRangeIter h s₁.heap.objs.size (0 + (i : Nat) * 1) ((n : Int) - (i : Nat)) 1) := (Walks.range hh _ 0 1 n).bound
  have new : ∀ {b o}, s₁.heap.get? b = some o → b ∉ [s₁.heap.objs.size] := fun e hm => absurd (Heap.lt_size e) ((List.mem_singleton.mp hm) ▸ Nat.lt_irrefl _)
  have hlL : @LT.lt Nat _ L s₁.heap.objs.size := F.ns.lt
  refine ⟨s₁.heap.objs.size, _, _, n, _, _, rfl, W, Nat.le_trans hn1 (by decide), ?_, ?_, ⟨?_, ?_⟩, ?_⟩
  · show IsRangeIter _ _ _ _ _
    rw [hn']; simpa using Heap.get?_push_size _ rfl
  · intro b hb
    rw [List.mem_singleton.mp hb]
    show _ < (s₁.heap.push _).objs.size
    rw [Heap.size_push]; exact Nat.lt_succ_self _
  · intro C i v s₃ m₃ E' hC hP hn hm hk htk
    obtain ⟨hi, t, rfl⟩ := hP
    have hC' : (s₁.heap.push _).objs.size ≤ C := hC
    rw [Heap.size_push] at hC'
    have e1 : (0 : Int) + (i : Int) * 1 = (i : Int) := by omega
    rw [e1] at hm
    have hE : Ext s₁.heap s₃.heap := fun b o e => hk b o (new e) (Heap.get?_push_of_some _ e)
    have e2 : numOf (Value.int (0 + (i : Int) * 1) t) = i := by rw [e1]; exact Int.toNat_natCast i
    rw [e2]
    exact g1 C i t s₃ m₃ E' hC' ⟨hn, fun b o e => hE _ _ (F.keep b o e), Nat.le_trans F.above (Nat.le_of_lt (Nat.lt_trans hlL hC'))⟩ hi hm hE
  · intro C i v s₃ m₃ E' hC hP hp hn hm hk htk
    obtain ⟨hi, t, rfl⟩ := hP
    have hC' : (s₁.heap.push _).objs.size ≤ C := hC
    rw [Heap.size_push] at hC'
    have e1 : (0 : Int) + (i : Int) * 1 = (i : Int) := by omega
    rw [e1] at hm
    have hE : Ext s₁.heap s₃.heap := fun b o e => hk b o (new e) (Heap.get?_push_of_some _ e)
    have e2 : numOf (Value.int (0 + (i : Int) * 1) t) = i := by rw [e1]; exact Int.toNat_natCast i
    rw [e2] at hp ⊢
    exact g2 C i t s₃ m₃ E' hC' ⟨hn, fun b o e => hE _ _ (F.keep b o e), Nat.le_trans F.above (Nat.le_of_lt (Nat.lt_trans hlL hC'))⟩ hi hp hm hE
  · intro D h' tk ys vs hnew hlD hplD hlen hP hF hk
    obtain ⟨k, hD⟩ := hplD
    have up : Ext s₁.heap h' := fun b o e => hk b o (new e) (Heap.get?_push_of_some _ e)
    have hn1 : s₁.heap.get? D = none := by
      cases e : s₁.heap.get? D with
      | none => rfl
      | some o' => rw [Heap.get?_push_of_some _ e] at hnew; cases hnew
    have hDL : D ≠ L := by
      intro e
      obtain ⟨o, _, _, ho, _⟩ := F.ns
      rw [← e, hn1] at ho
      cases ho
    have e1 := nums_are hlen (fun j v hj => by
      obtain ⟨_, t, rfl⟩ := hP j v hj
      exact ⟨t, by rw [show (0 : Int) + (j : Int) * 1 = (j : Int) by omega]⟩)
    have hF2 := paired_map (f := numOf) (p := p) hF
    rw [e1] at hF2
    refine g3 D ys.toList k h' tk hF2 (Fr.ext F up) ?_ hn1
    intro q hq
    rcases List.mem_cons.mp hq with rfl | hq
    · refine ⟨?_, hDL, ?_⟩
      · unfold lob; rw [Array.toArray_toList]; exact hD
      · cases e : h₀.get? D with
        | none => rfl
        | some o' => rw [F.keep _ _ e] at hn1; cases hn1
    · exact ⟨up _ _ (N q hq).1, (N q hq).2⟩
end
/-- the iterable stands: a range from 0 to n -/
noncomputable def RangeAt (h₀ : Heap) (L : Addr) (m : Str → Option Value) (news : List (Addr × Obj)) (n : Nat) (s : Shared) (xv : Value) (s₁ : Shared) : Prop :=
  ∃ r t u v h₁ tk, xv = .ref r ∧ s₁ = { s with heap := h₁, toks := tk } ∧ IsRange h₁ r 0 (n : Int) 1 t u v ∧ Fr h₀ L h₁ m ∧ News h₀ L h₁ news ∧ Ext s.heap h₁
/-- `z = [elt for x in range(..)]` -/
theorem asgR {w : World} {A : Around} {E : Value → Shared → Prop} {s : Shared} {h₀ : Heap} {L a : Addr} {m : Str → Option Value} {news : List (Addr × Obj)} {cn : Str} {cs : Scope} {ccd : Value} {cells cl : List (Str × Addr)} {elt iter : PySem.Expr} {x z : Str} {px pz pos spos : Pos} {scope : Scope} {Q : Flow → Shared → Prop} (n : Nat) (R : Nat → Value → Prop)
    (hh : A.handled = none) (hn1 : n ≤ 1000)
    (hit : wpAny (model pw w) A (eval iter (envX cn cs L a ccd cells)) (fun xv s₁ => Stop (RangeAt h₀ L m news n s xv s₁)) E s)
    (g2 : ∀ C i t s₃ m₃ E', (∀ b o, s.heap.get? b = some o → @LT.lt Nat _ b C) → Fr h₀ C s₃.heap m₃ → i < n → m₃ x = some (.int (i : Nat) t) → Ext s.heap s₃.heap → wpAny (model pw w) A (eval elt (compEnvC scope cl C (envX cn cs L a ccd cells))) (fun y s₄ => Stop (R i y ∧ Keeps s₃ s₄)) E' s₃)
    (g3 : ∀ D ys k h' tk, Paired R (List.range n) ys → Fr h₀ L h' (fun y => if y = z then some (.ref D) else m y) → News h₀ L h' ((D, lob ys k) :: news) → s.heap.get? D = none → Q .next { s with heap := h', toks := tk })
    (hsw : swapsWith (.ListComp elt [⟨.Name x px, iter, [], 0⟩] scope pos) (some (.Name z pz)) spos.line (envX cn cs L a ccd cells) = pure true)
    (hclos : closureFor scope (envX cn cs L a ccd cells) = pure cl) (hcell : ∀ z ∈ scope.names, z.2 ≠ .cell) (hkind : scope.kind = .function)
    (hnames : ∀ z ∈ scope.names, z.2 = .local → scope.names.lookup z.1 = some .local) (hx : scope.names.lookup x = some .local)
    (hk : cs.kind = .function) (hz : (envX cn cs L a ccd cells).kindOf z = some .local) (hsf : ∀ x, foldedSetIterable iter (envX cn cs L a ccd cells) x = pure x) :
    wpAny (model pw w) A (exec (.Assign [.Name z pz] (.ListComp elt [⟨.Name x px, iter, [], 0⟩] scope pos) spos) (envX cn cs L a ccd cells)) Q E s := by
  refine wpAny_Assign_ListComp_free (cl := cl) (fun _ => true) (fun v y => R (numOf v) y) hsw hclos hcell hkind hnames hx hz (by rw [show (envX cn cs L a ccd cells).scope = cs from rfl, hk]; rfl) (wpAny_mono hit (fun xv s₁ h => ?_) fun _ _ e => e) hsf
  obtain ⟨r, t, u, v, h₁, tk, rfl, rfl, hr, F, N, hE⟩ := Stop.out h
  exact srcAR (s₁ := { s with heap := h₁, toks := tk }) (h₁ := h₁) (L := L) R hh rfl hr rfl hn1 F N rfl (fun C i t s₃ m₃ E' hC FC hi hm hE' => g2 C i t s₃ m₃ E' (fun b o e => Nat.lt_trans (Heap.lt_size (hE b o e)) hC) FC hi hm (fun b o e => hE' b o (hE b o e)))
    (fun D ys k h' tk P F' N' hnew => g3 D ys k h' tk P F' N' (by
      cases e : s.heap.get? D with
      | none => rfl
      | some o => exact absurd rfl (none_ne hnew (hE _ _ e))))
/-- `[elt for x in range(..) if ..]` as an expression -/
theorem evR {w : World} {A : Around} {E : Value → Shared → Prop} {s : Shared} {h₀ : Heap} {L a : Addr} {m : Str → Option Value} {news : List (Addr × Obj)} {cn : Str} {cs : Scope} {ccd : Value} {cells cl : List (Str × Addr)} {elt iter : PySem.Expr} {ifs : List PySem.Expr} {x : Str} {px pos : Pos} {scope : Scope} {Q : Value → Shared → Prop} (n : Nat) (p : Nat → Bool) (R : Nat → Value → Prop)
    (hh : A.handled = none) (hn1 : n ≤ 1000)
    (hit : wpAny (model pw w) A (eval iter (envX cn cs L a ccd cells)) (fun xv s₁ => Stop (RangeAt h₀ L m news n s xv s₁)) E s)
    (g1 : ∀ C i t s₃ m₃ E', (∀ b o, s.heap.get? b = some o → @LT.lt Nat _ b C) → Fr h₀ C s₃.heap m₃ → i < n → m₃ x = some (.int (i : Nat) t) → Ext s.heap s₃.heap → wpAny (model pw w) A (forIn ifs true fun c r => if r = true then do let ok ← isTrue c (compEnvC scope cl C (envX cn cs L a ccd cells)) (eval c (compEnvC scope cl C (envX cn cs L a ccd cells))); pure (ForInStep.yield ok) else pure (ForInStep.yield r)) (fun ok s₄ => Stop (ok = p i ∧ Keeps s₃ s₄)) E' s₃)
    (g2 : ∀ C i t s₃ m₃ E', (∀ b o, s.heap.get? b = some o → @LT.lt Nat _ b C) → Fr h₀ C s₃.heap m₃ → i < n → p i = true → m₃ x = some (.int (i : Nat) t) → Ext s.heap s₃.heap → wpAny (model pw w) A (eval elt (compEnvC scope cl C (envX cn cs L a ccd cells))) (fun y s₄ => Stop (R i y ∧ Keeps s₃ s₄)) E' s₃)
    (g3 : ∀ D ys k h' tk, Paired R ((List.range n).filter p) ys → Fr h₀ L h' m → News h₀ L h' ((D, lob ys k) :: news) → s.heap.get? D = none → Q (.ref D) { s with heap := h', toks := tk })
    (hclos : closureFor scope (envX cn cs L a ccd cells) = pure cl) (hcell : ∀ z ∈ scope.names, z.2 ≠ .cell) (hkind : scope.kind = .function)
    (hnames : ∀ z ∈ scope.names, z.2 = .local → scope.names.lookup z.1 = some .local) (hx : scope.names.lookup x = some .local)
    (hsf : ∀ x, foldedSetIterable iter (envX cn cs L a ccd cells) x = pure x) :
    wpAny (model pw w) A (eval (.ListComp elt [⟨.Name x px, iter, ifs, 0⟩] scope pos) (envX cn cs L a ccd cells)) Q E s := by
  refine wpAny_ListComp_free (cl := cl) (fun v => p (numOf v)) (fun v y => R (numOf v) y) hclos hcell hkind hnames hx (wpAny_mono hit (fun xv s₁ h => ?_) fun _ _ e => e) hsf
  obtain ⟨r, t, u, v, h₁, tk, rfl, rfl, hr, F, N, hE⟩ := Stop.out h
  exact srcER (s₁ := { s with heap := h₁, toks := tk }) (h₁ := h₁) (L := L) p R hh rfl hr rfl hn1 F N (fun C i t s₃ m₃ E' hC FC hi hm hE' => g1 C i t s₃ m₃ E' (fun b o e => Nat.lt_trans (Heap.lt_size (hE b o e)) hC) FC hi hm (fun b o e => hE' b o (hE b o e)))
    (fun C i t s₃ m₃ E' hC FC hi hp hm hE' => g2 C i t s₃ m₃ E' (fun b o e => Nat.lt_trans (Heap.lt_size (hE b o e)) hC) FC hi hp hm (fun b o e => hE' b o (hE b o e)))
    (fun D ys k h' tk P F' N' hnew => g3 D ys k h' tk P F' N' (by
      cases e : s.heap.get? D with
      | none => rfl
      | some o => exact absurd rfl (none_ne hnew (hE _ _ e))))
theorem news1' {h₀ h h' : Heap} {L C a : Addr} {o : Obj} {news : List (Addr × Obj)} (N : News h₀ L h news) (hm : (a, o) ∈ news) (hE : Ext h h') (hC : ∀ b o, h.get? b = some o → @LT.lt Nat _ b C) : (a, o).1 ≠ C ∧ h'.get? a = some o ∧ h₀.get? a = none := by
  have z := N _ hm
  exact ⟨Nat.ne_of_lt (hC _ _ z.1), hE _ _ z.1, z.2.2⟩
/-- the ledger within an element -/
theorem newsC {h₀ h h' : Heap} {L C : Addr} {news : List (Addr × Obj)} (N : News h₀ L h news) (hE : Ext h h') (hC : ∀ b o, h.get? b = some o → @LT.lt Nat _ b C) : News h₀ C h' news := fun p hp =>
  ⟨hE _ _ (N p hp).1, Nat.ne_of_lt (hC _ _ (N p hp).1), (N p hp).2.2⟩
end
/-! MC4 -/
section
open PySem PySem.W PySem.Spec PySem.Calls PyProof.Rows
theorem sumE {w : World} {A : Around} {E : Value → Shared → Prop} {s : Shared} {l : Addr} {vs : List Value} {ns : List Int} {Q : Value → Shared → Prop} (hh : A.handled = none) (hl : s.heap.IsList l vs.toArray) (hi : IntsAre vs ns)
    (h : ∀ h' tk t', Ext s.heap h' → Q (.int ns.sum t') { s with heap := h', toks := tk }) : wpAny (model pw w) A (call (.builtin "sum") [.ref l]) Q E s := by
  obtain ⟨xs, hx⟩ := hi.allInts.items
  have hn : numsOf vs.toArray.toList = ns := hi.numsOf
  rw [hx] at hl hn
  rw [nums_intItems] at hn
  refine sum_intListG hh hl fun h' tk t' hk => ?_
  have e : preSum (numAt xs) xs.size = ns.sum := by
    rw [preSum_eq, List.take_of_length_le (by simp), hn]
  rw [e]
  exact h h' tk t' hk
theorem ints_of_mem : ∀ {l : List Value}, (∀ v ∈ l, ∃ n t, v = .int n t) → ∃ ns, IntsAre l ns
  | [], _ => ⟨[], .nil⟩
  | v :: l, h => by
    obtain ⟨n, t, rfl⟩ := h v List.mem_cons_self
    obtain ⟨ns, hn⟩ := ints_of_mem fun x hx => h x (List.mem_cons_of_mem _ hx)
    exact ⟨n :: ns, .cons n t hn⟩
theorem mem_ints {l : List Value} {ns : List Int} (h : IntsAre l ns) : ∀ v ∈ l, ∃ n t, v = .int n t := by
  induction h with
  | nil => intro v hv; cases hv
  | cons n t _ ih =>
    intro v hv
    rcases List.mem_cons.mp hv with rfl | hv
    · exact ⟨n, t, rfl⟩
    · exact ih v hv
theorem pick_ints {vs : List Value} {ns : List Int} (h : IntsAre vs ns) (a b c : Option Int) : ∃ ns', IntsAre (slicePick vs.toArray a b c).toList ns' := by
  refine ints_of_mem fun v hv => ?_
  unfold slicePick at hv
  rw [List.toList_toArray, List.mem_filterMap] at hv
  obtain ⟨i, _, hi⟩ := hv
  refine mem_ints h v ?_
  have : vs.toArray[i]? = some v := hi
  rw [List.getElem?_toArray] at this
  exact List.mem_of_getElem? this
/-- a slice of a list -/
theorem sliceE {w : World} {A : Around} {E : Value → Shared → Prop} {H : Heap} {gn : Array GenState} {dr : Drawn} {tk : Nat} {os : OsState} {value slice : PySem.Expr} {l : Addr} {items : Array Value} {vl vu vk : Value} {lo hi st : Option Int} {ops : List Value} {Q : Value → Shared → Prop}
    (hl : H.IsList l items) (pl : IsPart vl lo) (pu : IsPart vu hi) (pk : IsPart vk st) (h0 : st ≠ some 0)
    (h : ∀ h' D, Ext H h' → H.get? D = none → h'.get? D = some (lob (slicePick items lo hi st).toList 0) → Q (.ref D) ⟨h', gn, dr, tk, os⟩)
    (hs : subscripted slice false (.ref l) (.ref H.objs.size) = operate ops (getItem (.ref l) (.ref H.objs.size))) (hz : items.size ≤ 1000) :
    wpAny (model pw w) A (subscriptTail value slice (.ref l) (.ref H.objs.size)) Q E ⟨H.push { cls := .type "slice", data := .fields #[vl, vu, vk] }, gn, dr, tk, os⟩ := by
  refine tail_any (Heap.IsList.typeIs (s := ⟨H.push { cls := .type "slice", data := .fields #[vl, vu, vk] }, gn, dr, tk, os⟩) (hl.push _)) list_getitem_lookup ?_ hs
  refine wpAny_getItem_list_slice (hl.push _) (Heap.IsSliceOf.new ..) pl pu pk h0 ?_ (Nat.le_trans hz (by decide))
  refine h _ _ (fun b o e => Heap.get?_push_of_some _ (Heap.get?_push_of_some _ e)) ?_ ?_
  · show H.get? (H.push _).objs.size = none
    rw [Heap.size_push]
    exact Heap.get?_none_of_le (Nat.le_succ _)
  · unfold lob
    rw [Array.toArray_toList]
    exact Heap.get?_push_size _ rfl
theorem newListE {w : World} {A : Around} {E : Value → Shared → Prop} {s : Shared} {vs : List Value} {Q : Value → Shared → Prop} (hz : vs.length ≤ 1000)
    (h : ∀ h' D, Ext s.heap h' → s.heap.get? D = none → h'.get? D = some (lob vs 0) → Q (.ref D) { s with heap := h' }) : wpAny (model pw w) A (newList vs) Q E s :=
  wpAny_newObj_type (h _ _ (fun b o e => Heap.get?_push_of_some _ e) (Heap.get?_none_of_le (Nat.le_refl _)) (Heap.get?_push_size _ rfl)) (by show vs.toArray.size ≤ sizeLine; rw [List.size_toArray]; exact Nat.le_trans hz (by decide))
noncomputable abbrev tup2 (v1 v2 : Value) : Obj := { cls := .type "tuple", data := .seq #[v1, v2] }
/-- a hand's page among the objects nw -/
noncomputable def PageIn (nw : List (Addr × Obj)) (y : Value) (n : Int) : Prop := ∃ p k a b t1 t2 t3 t4, y = .ref p ∧ (p, lob [.ref a, .ref b] k) ∈ nw ∧
  (a, tup2 (.str (strL (rowS n false)) t1) (.str (strL (rowS n false)) t2)) ∈ nw ∧ (b, tup2 (.str (strL (rowS n true)) t3) (.str (strL (rowS n true)) t4)) ∈ nw
inductive PagesIn (nw : List (Addr × Obj)) : List Value → List Int → Prop
  | nil : PagesIn nw [] []
  | cons {y n ys ns} : PageIn nw y n → PagesIn nw ys ns → PagesIn nw (y :: ys) (n :: ns)
theorem PageIn.sub {a b : List (Addr × Obj)} {y : Value} {n : Int} (P : PageIn a y n) (hs : ∀ p ∈ a, p ∈ b) : PageIn b y n := by
  obtain ⟨p, k, a', b', t1, t2, t3, t4, e, m1, m2, m3⟩ := P
  exact ⟨p, k, a', b', t1, t2, t3, t4, e, hs _ m1, hs _ m2, hs _ m3⟩
theorem PagesIn.sub {a b : List (Addr × Obj)} {ys : List Value} {ns : List Int} (P : PagesIn a ys ns) (hs : ∀ p ∈ a, p ∈ b) : PagesIn b ys ns := by
  induction P with
  | nil => exact .nil
  | cons p _ ih => exact .cons (p.sub hs) ih
theorem PagesIn.pages {a : List (Addr × Obj)} {ys : List Value} {ns : List Int} {h : Heap} (P : PagesIn a ys ns) (hs : ∀ p ∈ a, h.get? p.1 = some p.2) : Pages h ys ns := by
  induction P with
  | nil => exact .nil
  | cons p _ ih =>
    obtain ⟨p', k, a', b', t1, t2, t3, t4, e, m1, m2, m3⟩ := p
    exact .cons ⟨p', k, a', b', t1, t2, t3, t4, e, hs _ m1, hs _ m2, hs _ m3⟩ ih
noncomputable def PageG (nw : List (Addr × Obj)) (v y : Value) : Prop := ∃ n t, v = .int n t ∧ PageIn nw y n
/-- all pages' objects in one list -/
theorem pages_all {C : Addr × Obj → Prop} : ∀ {hs ys : List Value} {ns : List Int}, IntsAre hs ns → Paired (fun v y => ∃ nw, (∀ p ∈ nw, C p) ∧ PageG nw v y) hs ys → ∃ nws, (∀ p ∈ nws, C p) ∧ PagesIn nws ys ns
  | _, _, _, .nil, .nil => ⟨[], fun _ h => (nomatch h), .nil⟩
  | _, _, _, .cons n t hi, .cons ⟨nw, hC, n', t', e, P⟩ hp => by
    cases e
    obtain ⟨nws, hC2, P2⟩ := pages_all hi hp
    exact ⟨nw ++ nws, fun p hp => (List.mem_append.mp hp).elim (hC p) (hC2 p), .cons (P.sub fun p hp => List.mem_append_left _ hp) (P2.sub fun p hp => List.mem_append_right _ hp)⟩
end
/-! MC5 -/
section
open PySem PySem.W PySem.Spec PySem.Calls PyProof.Rows
/-- the loop over a text, at its iterator -/
theorem iterStr {w : World} {A : Around} {E : Value → Shared → Prop} {s : Shared} {env : Env} {h₀ : Heap} {x : Str} {body : List Stmt} {px : Pos} {Q : Flow → Shared → Prop} {m : Str → Option Value} {text : Str} {t₀ : Tok}
    (X : Addr → Prop) (J : Nat → (Str → Option Value) → Heap → Prop) (hh : A.handled = none)
    (F : Fr h₀ env.locals s.heap m) (h0 : J 0 m s.heap) (hX : ∀ b, X b → b < s.heap.objs.size)
    (stab : ∀ i m h h', J i m h → (∀ b o, b ≠ env.locals → b < s.heap.objs.size → h.get? b = some o → h'.get? b = some o) → J i m h')
    (turn : ∀ (i c : Nat) t m₁ h tk own, text.cps[i]? = some c → J i m₁ h → Fr h₀ env.locals h (fun y => if y = x then some (.str (sg c) t) else m₁ y) → ExtX env.locals X s.heap h → News h₀ env.locals h own → (∀ p ∈ own, ¬ X p.1) →
      wpAny (model pw w) A (execs body env) (TurnE h₀ env.locals own (J (i + 1)) s) E { s with heap := h, toks := tk })
    (done : ∀ h tk m', Fr h₀ env.locals h m' → J text.cps.size m' h → ExtX env.locals X s.heap h → Q .next { s with heap := h, toks := tk })
    (hx : env.kindOf x = some .local)
    (hp : (env.scope.kind == .class || (env.scope.kind == .module && env.locals != env.globals)) = false)
    (hE : PassesOwn (model pw w) A env E := by passes_own) :
    wpAny (model pw w) A (pyIter (.str text t₀)) (fun it s₂ => codeAny (model pw w) A (.forLoop (.Name x px) it body [] env) (fun r s' => match r with | .ok f => Q f s' | .error e => cameBackBy (model pw w) A env E e s') s₂) E s := by
  refine wpAny_pyIter_str fun o St W hst => ?_
  have hlt : ∀ {b o}, s.heap.get? b = some o → b ∉ [s.heap.objs.size] := fun e hm => absurd (Heap.lt_size e) ((List.mem_singleton.mp hm) ▸ Nat.lt_irrefl _)
  refine loopG X J (W A hh) hx hp ?_ ?_ ?_ hst (F.push _) ?_ ?_ ?_ ?_ hE
  · intro hm
    exact absurd F.ns.lt ((List.mem_singleton.mp hm) ▸ Nat.lt_irrefl _)
  · intro b hb hXb
    exact absurd (hX b hXb) ((List.mem_singleton.mp hb) ▸ Nat.lt_irrefl _)
  · intro b hb
    rw [List.mem_singleton.mp hb]
    exact next_is_new F
  · exact stab _ _ _ _ h0 fun b o _ _ e => Heap.get?_push_of_some _ e
  · intro i m h h' hJ hk
    exact stab _ _ _ _ hJ fun b o hb hlt e => hk b o hb (fun hm => absurd hlt ((List.mem_singleton.mp hm) ▸ Nat.lt_irrefl _)) e
  · intro i v m₁ h tk own hi hP hJ F₁ hK N₁ hO
    obtain ⟨c, u, hc, rfl⟩ := hP
    exact turn i c u m₁ h tk own hc hJ F₁ (fun b o hb hXb e => hK b o hb hXb (hlt e) (Heap.get?_push_of_some _ e)) N₁ hO
  · intro h tk m' F₁ hJ hK
    exact done h tk m' F₁ hJ fun b o hb hXb e => hK b o hb hXb (hlt e) (Heap.get?_push_of_some _ e)
end
/-! MC6 -/
section
open PySem PySem.W PySem.Spec PySem.Calls PyProof.Rows
section
variable {w : World} {A : Around} {E : Value → Shared → Prop} {s : Shared}
/-- list + list -/
theorem addListE {l b : Addr} {vs ws : List Value} {Q : Value → Shared → Prop} (hl : s.heap.IsList l vs.toArray) (hb : s.heap.IsList b ws.toArray)
    (h : ∀ h' D, Ext s.heap h' → s.heap.get? D = none → h'.get? D = some (lob (vs ++ ws) 0) → Q (.ref D) { s with heap := h' }) (hz : vs.length + ws.length ≤ 1000) :
    wpAny (model pw w) A (binaryOp .Add (.ref l) (.ref b)) Q E s := by
  obtain ⟨⟨cls, dd, data, sl⟩, ho, hc, n, hd⟩ := id hl
  obtain ⟨⟨cls2, dd2, data2, sl2⟩, ho2, hc2, n2, hd2⟩ := id hb
  dsimp only at hc hd hc2 hd2
  subst hc hd hc2 hd2
  have hs : vs.toArray.size + ws.toArray.size ≤ sizeLine := by
    rw [List.size_toArray, List.size_toArray]
    exact Nat.le_trans hz (by decide)
  refine concat_meets ⟨_, ho, rfl⟩ ⟨_, ho2, rfl⟩ noFill_list_add seq_list_add PySem.F.slot_list_add PySem.F.entry_list_add (PySem.F.args_list_add_2 _ _) (list_addW l b vs.toArray ws.toArray n n2 dd dd2 sl sl2 hs) ⟨ho, ho2, ?_⟩
  have e : vs.toArray ++ ws.toArray = (vs ++ ws).toArray := by simp
  rw [e]
  exact h _ _ (fun b o e => Heap.get?_push_of_some _ e) (Heap.get?_none_of_le (Nat.le_refl _)) (Heap.get?_push_size _ rfl)
/-- list(text) -/
theorem listStrE {x : Str} {t : Tok} {l : List Nat} {Q : Value → Shared → Prop} (hh : A.handled = none) (hx : x.cps.toList = l) (hz : l.length ≤ 1000)
    (h : ∀ h' tk D vs n, Ext s.heap h' → s.heap.get? D = none → h'.get? D = some (lob vs n) → StrsAre vs (l.map sg) → Q (.ref D) { s with heap := h', toks := tk }) :
    wpAny (model pw w) A (call (.type "list") [.str x t]) Q E s := by
  have hsz : x.cps.size = l.length := by rw [← hx]; exact (Array.length_toList (xs := x.cps)).symm
  refine call_list_str hh x t (fun h' tk acc' c' hk hS hacc => ?_) (by rw [hsz]; exact Nat.le_trans hz (by decide))
  refine h h' tk _ acc'.toList c' hk (Heap.get?_none_of_le (Nat.le_refl _)) (by unfold lob; rw [Array.toArray_toList]; exact hS) ?_
  obtain ⟨e1, e2⟩ := signs_are (l := l) (vs := acc'.toList) (by rw [Array.length_toList, hacc.1, hsz]) (fun j v hj => by
    obtain ⟨c, u, hc, rfl⟩ := hacc.2 j v (by simpa using hj)
    exact ⟨c, u, by rw [← hx, Array.getElem?_toList]; exact hc, rfl⟩)
  rw [← e1]
  clear hacc hS
  generalize acc'.toList = vs at *
  clear e1
  induction vs with
  | nil => exact .nil
  | cons v vs ih =>
    obtain ⟨u, e⟩ := e2 v List.mem_cons_self
    rw [List.map_cons, List.map_cons]
    rw [e]
    exact .cons _ _ (ih fun x hx => e2 x (List.mem_cons_of_mem _ hx))
/-- list(range(a, b)) -/
theorem listRangeE {r : Addr} {a b : Int} {t u v : Tok} {Q : Value → Shared → Prop} {n : Nat} (hh : A.handled = none) (hr : IsRange s.heap r a b 1 t u v) (ha : 0 ≤ a) (hab : b = a + n) (hn : n ≤ 1000) (hb : b ≤ 1000)
    (h : ∀ h' tk D vs k, Ext s.heap h' → s.heap.get? D = none → h'.get? D = some (lob vs k) → IntsAre vs ((List.range n).map fun (i : Nat) => a + (i : Int)) → Q (.ref D) { s with heap := h', toks := tk }) :
    wpAny (model pw w) A (call (.type "list") [.ref r]) Q E s := by
  have hn' : Builtin.Range.rangeSize a b 1 = (n : Int) := by
    subst hab
    unfold Builtin.Range.rangeSize
    by_cases q : n = 0
    · subst q; simp
    · have : a < a + (n : Int) := by omega
      simp [this]; omega
  refine call_list_range hh hr (small_one (by omega) (by omega) (by omega) (by omega)) hn' (Nat.le_trans hn (by decide)) fun h' tk acc' c' hk hS hacc => ?_
  refine h h' tk _ acc'.toList c' hk (Heap.get?_none_of_le (Nat.le_refl _)) (by unfold lob; rw [Array.toArray_toList]; exact hS) ?_
  have hl : acc'.toList.length = n := by rw [Array.length_toList, hacc.1]
  have hv : ∀ (j : Nat) (x : Value), acc'.toList[j]? = some x → ∃ t, x = .int (a + (j : Int)) t := fun j x hj => by
    obtain ⟨t, e⟩ := hacc.2 j x (by simpa using hj)
    exact ⟨t, by rw [e, Int.mul_one]⟩
  clear hacc hS
  generalize acc'.toList = vs at *
  subst hl
  have main : ∀ (vs : List Value) (k : Nat), (∀ (j : Nat) (x : Value), vs[j]? = some x → ∃ t, x = .int (a + ((k + j : Nat) : Int)) t) → IntsAre vs ((List.range' k vs.length).map fun (i : Nat) => a + (i : Int)) := by
    intro vs
    induction vs with
    | nil => intro k _; exact .nil
    | cons x vs ih =>
      intro k hv
      obtain ⟨t, rfl⟩ := hv 0 x rfl
      rw [List.length_cons, List.range'_succ, List.map_cons]
      exact .cons _ _ (ih (k + 1) fun j y hj => by
        obtain ⟨t, e⟩ := hv (j + 1) y hj
        exact ⟨t, by rw [e]; congr 2; omega⟩)
  have := main vs 0 (fun j x hj => by obtain ⟨t, e⟩ := hv j x hj; exact ⟨t, by rw [Nat.zero_add]; exact e⟩)
  rw [List.range_eq_range']
  exact this
theorem sameStrs : ∀ xs : List Str, PySem.Spec.sameAll (xs.map PyData.str) (xs.map PyData.str) = true
  | [] => by simp [PySem.Spec.sameAll]
  | a :: r => by
    simp only [List.map_cons, PySem.Spec.sameAll, PySem.Spec.same, sameStrs r]
    simp
theorem carriedStrs : ∀ {vs : List Value} {xs : List Str}, StrsAre vs xs → CarriedAll vs (xs.map PyData.str)
  | _, _, .nil => .nil
  | _, _, .cons _ t r => .cons (.str _ t) (carriedStrs r)
theorem canLayStrs : ∀ xs : List Str, xs.all PyData.strOk = true → PyData.canLayAll0 (xs.map PyData.str) = true
  | [], _ => rfl
  | a :: r, h => by
    rw [List.all_cons, Bool.and_eq_true] at h
    simp [PyData.canLayAll0, PyData.canLay0, canLayStrs r h.2, h.1]
theorem depthStrs : ∀ xs : List Str, PyData.depthAll (xs.map PyData.str) = 0
  | [] => rfl
  | _ :: r => by simp [PyData.depthAll, PyData.depth, depthStrs r]
theorem shapedStrs (xs : List Str) (h : xs.all PyData.strOk = true) : SeqAt.shaped (.list (xs.map PyData.str)) = true := by
  simp [SeqAt.shaped, PyData.canLay0, PyData.depth, canLayStrs xs h, depthStrs]
/-- like lists of texts do not differ -/
theorem neStrs {a b : Addr} {vs ws : List Value} {xs : List Str} {Q : Value → Shared → Prop} (ha : s.heap.IsList a vs.toArray) (hb : s.heap.IsList b ws.toArray) (hi : StrsAre vs xs) (hj : StrsAre ws xs) (hok : xs.all PyData.strOk = true) (hu : A.units + 64 < cLine) (h : Q (.bool false) s) :
    wpAny (model pw w) A (compareOp .NotEq (.ref a) (.ref b)) Q E s :=
  ne_dataH_same (reads_newData ha (carriedStrs hi)) (reads_newData hb (carriedStrs hj)) (shapedStrs _ hok) (shapedStrs _ hok) hu (SeqAt.noMix_of_shape (.list .str) rfl _ _ (list_map_has fun _ => rfl) (list_map_has fun _ => rfl)) (by
    have e : PySem.Spec.same (.list (xs.map PyData.str)) (.list (xs.map PyData.str)) = true := by simp only [PySem.Spec.same]; exact sameStrs xs
    rw [e]; exact h)
end
theorem know_eq' {m : Str → Option Value} {k : Str} {v : Option Value} (e : m k = v) (y : Str) : (if y = k then v else m y) = m y := by
  by_cases q : y = k
  · subst q; rw [if_pos rfl, e]
  · rw [if_neg q]
theorem frUn {h₀ h : Heap} {L : Addr} {m : Str → Option Value} {k : Str} {v : Option Value} (F : Fr h₀ L h (fun y => if y = k then v else m y)) (e : m k = v) : Fr h₀ L h m := Fr.cast F (know_eq' e)
theorem frUn1 {h₀ h : Heap} {L : Addr} {m : Str → Option Value} {a k : Str} {u v : Option Value} (F : Fr h₀ L h (fun y => if y = a then u else if y = k then v else m y)) (e : m k = v) : Fr h₀ L h (fun y => if y = a then u else m y) :=
  Fr.cast F fun y => by
    by_cases q : y = a
    · rw [if_pos q, if_pos q]
    · rw [if_neg q, if_neg q]; exact know_eq' e y
theorem frUn2 {h₀ h : Heap} {L : Addr} {m : Str → Option Value} {a b k : Str} {u u' v : Option Value} (F : Fr h₀ L h (fun y => if y = a then u else if y = b then u' else if y = k then v else m y)) (e : m k = v) : Fr h₀ L h (fun y => if y = a then u else if y = b then u' else m y) :=
  Fr.cast F fun y => by
    by_cases q : y = a
    · rw [if_pos q, if_pos q]
    · rw [if_neg q, if_neg q]
      by_cases q2 : y = b
      · rw [if_pos q2, if_pos q2]
      · rw [if_neg q2, if_neg q2]; exact know_eq' e y
end
/-! MC7 -/
section
open PySem PySem.W PySem.Spec PySem.Calls PyProof.Rows
/-- `a, b = t`, both names cells -/
theorem unpackCC {w : World} {A : Around} {E : Value → Shared → Prop} {s : Shared} {h₀ : Heap} {L f t c1 c2 : Addr} {m : Str → Option Value} {own : List (Addr × Obj)} {cn : Str} {cs : Scope} {cd : Value} {cl : List (Str × Addr)} {a b : Str} {pa pb pos : Pos} {k : Nat} {v1 v2 : Value} {o1 o2 : Obj} {w1 w2 : Option Value} {Q : Unit → Shared → Prop}
    (hh : A.handled = none) (F : Fr h₀ L s.heap m) (N : News h₀ L s.heap ((c1, o1) :: (c2, o2) :: own)) (ht : s.heap.get? t = some (tup2 v1 v2))
    (h12 : c1 ≠ c2) (ne1 : ∀ p ∈ own, p.1 ≠ c1) (ne2 : ∀ p ∈ own, p.1 ≠ c2) (d1 : o1.data = .cell w1) (d2 : o2.data = .cell w2)
    (hc1 : cl.lookup a = some c1) (hc2 : cl.lookup b = some c2)
    (hk : cs.kind = .function) (ha : (envX cn cs L f cd cl).kindOf a = some .cell) (hb : (envX cn cs L f cd cl).kindOf b = some .cell)
    (h : ∀ h' tk o1' o2', Fr h₀ L h' m → News h₀ L h' ((c1, o1') :: (c2, o2') :: own) → o1'.data = .cell (some v1) → o2'.data = .cell (some v2) → Q () { s with heap := h', toks := tk }) :
    wpAny (model pw w) A (assign (.Tuple [.Name a pa, .Name b pb] k pos) (envX cn cs L f cd cl) (.ref t)) Q E s := by
  refine wpAny_assign_Tuple (items := #[v1, v2]) hh ⟨_, ht, rfl, 0, rfl⟩ rfl rfl (fun h1 x1 => ?_)
  have F1 : Fr h₀ L h1 m := ⟨F.ns.extBut x1 (Nat.ne_of_lt F.ns.lt), fun b o e => x1 b o (Nat.ne_of_lt (Heap.lt_size (F.keep b o e))) (F.keep b o e), F.above⟩
  have N1 : News h₀ L h1 ((c1, o1) :: (c2, o2) :: own) := fun p hp => ⟨x1 _ _ (Nat.ne_of_lt (Heap.lt_size (N p hp).1)) (N p hp).1, (N p hp).2⟩
  show wpAny _ _ (do holding [v2] (assign (.Name a pa) (envX cn cs L f cd cl) v1); do holding [] (assign (.Name b pb) (envX cn cs L f cd cl) v2); pure ()) _ _ _
  refine wpAny_bind (wpAny_holding (wpAny_assign_Name (storeX_C F1 N1 hc1 (UpdF.head (fun p hp => ?_)) d1 (fun h2 o1' F2 N2 e1 => ?_) hk ha)))
  · rcases List.mem_cons.mp hp with rfl | hp
    · exact Ne.symm h12
    · exact ne1 p hp
  refine wpAny_bind (wpAny_holding (wpAny_assign_Name (storeX_C F2 N2 hc2 (UpdF.tail h12 (UpdF.head ne2)) d2 (fun h3 o2' F3 N3 e2 => ?_) hk hb)))
  exact wpAny_pure (h _ _ _ _ F3 N3 e1 e2)
theorem stage_length (ns : List Int) (N i : Nat) : (stage ns N i).length = i := by unfold stage; simp
end
/-! MC8 -/
section
open PySem PySem.W PySem.Spec PySem.Calls PyProof.Rows
noncomputable def intOf (v : Value) : Int := match v with | Value.int k _ => k | _ => 0
theorem ints_map {vs : List Value} {ns : List Int} (h : IntsAre vs ns) : vs.map intOf = ns := by
  induction h with
  | nil => rfl
  | cons n t _ ih => rw [List.map_cons, ih]; rfl
/-- the iterable stands: the list l -/
noncomputable def ListAt (h₀ : Heap) (L : Addr) (m : Str → Option Value) (news : List (Addr × Obj)) (vs : List Value) (s : Shared) (xv : Value) (s₁ : Shared) : Prop :=
  ∃ l n h₁ tk, xv = .ref l ∧ s₁ = { s with heap := h₁, toks := tk } ∧ h₁.get? l = some (lob vs n) ∧ Fr h₀ L h₁ m ∧ News h₀ L h₁ news ∧ Ext s.heap h₁
/-- `[elt for x in iter if ..]` over a list of ints, in any frame -/
theorem evL {w : World} {A : Around} {E : Value → Shared → Prop} {s : Shared} {h₀ : Heap} {L : Addr} {m : Str → Option Value} {news : List (Addr × Obj)} {env : Env} {cl : List (Str × Addr)} {elt iter : PySem.Expr} {ifs : List PySem.Expr} {x : Str} {px pos : Pos} {scope : Scope} {Q : Value → Shared → Prop} {vs : List Value} {ns : List Int} (p : Int → Bool) (R : Int → Value → Prop)
    (hh : A.handled = none) (hi : IntsAre vs ns) (hn1 : ns.length ≤ 1000)
    (hit : wpAny (model pw w) A (eval iter env) (fun xv s₁ => Stop (ListAt h₀ L m news vs s xv s₁)) E s)
    (g1 : ∀ C i t s₃ m₃ E', (∀ b o, s.heap.get? b = some o → @LT.lt Nat _ b C) → Fr h₀ C s₃.heap m₃ → i ∈ ns → m₃ x = some (.int i t) → Ext s.heap s₃.heap → wpAny (model pw w) A (forIn ifs true fun c r => if r = true then do let ok ← isTrue c (compEnvC scope cl C env) (eval c (compEnvC scope cl C env)); pure (ForInStep.yield ok) else pure (ForInStep.yield r)) (fun ok s₄ => Stop (ok = p i ∧ Keeps s₃ s₄)) E' s₃)
    (g2 : ∀ C i t s₃ m₃ E', (∀ b o, s.heap.get? b = some o → @LT.lt Nat _ b C) → Fr h₀ C s₃.heap m₃ → i ∈ ns → p i = true → m₃ x = some (.int i t) → Ext s.heap s₃.heap → wpAny (model pw w) A (eval elt (compEnvC scope cl C env)) (fun y s₄ => Stop (R i y ∧ Keeps s₃ s₄)) E' s₃)
    (g3 : ∀ D ys k h' tk, Paired R (ns.filter p) ys → Ext s.heap h' → Fr h₀ L h' m → News h₀ L h' ((D, lob ys k) :: news) → s.heap.get? D = none → Q (.ref D) { s with heap := h', toks := tk })
    (hclos : closureFor scope env = pure cl) (hcell : ∀ z ∈ scope.names, z.2 ≠ .cell) (hkind : scope.kind = .function)
    (hnames : ∀ z ∈ scope.names, z.2 = .local → scope.names.lookup z.1 = some .local) (hx : scope.names.lookup x = some .local)
    (hsf : ∀ x, foldedSetIterable iter env x = pure x) :
    wpAny (model pw w) A (eval (.ListComp elt [⟨.Name x px, iter, ifs, 0⟩] scope pos) env) Q E s := by
  refine wpAny_ListComp_free (cl := cl) (fun v => p (intOf v)) (fun v y => R (intOf v) y) hclos hcell hkind hnames hx (wpAny_mono hit (fun xv s₁ h => ?_) fun _ _ e => e) hsf
  obtain ⟨l, n, h₁, tk, rfl, rfl, hl, F, N, hE⟩ := Stop.out h
  have hlt : l < h₁.objs.size := Heap.lt_size hl
  have hlL : @LT.lt Nat _ L h₁.objs.size := F.ns.lt
  refine wpAny_pyIter_list (s := { s with heap := h₁, toks := tk }) (lob_is hl) ?_
  have new : ∀ {b o}, h₁.get? b = some o → b ∉ [h₁.objs.size] := fun e hm => absurd (Heap.lt_size e) ((List.mem_singleton.mp hm) ▸ Nat.lt_irrefl _)
  have hvl : vs.length = ns.length := hi.length
  refine ⟨h₁.objs.size, [h₁.objs.size, l], [h₁.objs.size], vs.toArray.size, _, _, rfl, Walks.list hh _ l (Nat.ne_of_lt hlt) vs.toArray, (by rw [List.size_toArray, hvl]; exact Nat.le_trans hn1 (by decide)),
    ⟨⟨_, Heap.get?_push_size _ rfl, rfl, rfl⟩, (lob_is hl).at fun o e => Heap.get?_push_of_some _ e⟩, ?_, ⟨?_, ?_⟩, ?_⟩
  · intro b hb
    show b < (h₁.push _).objs.size
    rw [Heap.size_push]
    rcases List.mem_cons.mp hb with rfl | hb
    · exact Nat.lt_succ_self _
    · rw [List.mem_singleton.mp hb]; exact Nat.lt_succ_of_lt hlt
  · intro C i v s₃ m₃ E' hC hP hn hm hk htk
    have hv : vs[i]? = some v := by simpa using hP
    obtain ⟨a, t, rfl⟩ := mem_ints hi v (List.mem_of_getElem? hv)
    have ha : a ∈ ns := by
      have := ints_map hi
      rw [← this]
      exact List.mem_map.mpr ⟨_, List.mem_of_getElem? hv, rfl⟩
    have hC' : (h₁.push { cls := .type "list_iterator", data := .fields #[.ref l, .int 0 0] }).objs.size ≤ C := hC
    rw [Heap.size_push] at hC'
    have hE3 : Ext s.heap s₃.heap := fun b o e => hk b o (new (hE b o e)) (Heap.get?_push_of_some _ (hE b o e))
    exact g1 C a t s₃ m₃ E' (fun b o e => Nat.lt_trans (Heap.lt_size (hE b o e)) hC') ⟨hn, fun b o e => hk b o (new (F.keep b o e)) (Heap.get?_push_of_some _ (F.keep b o e)), Nat.le_trans F.above (Nat.le_of_lt (Nat.lt_trans hlL hC'))⟩ ha hm hE3
  · intro C i v s₃ m₃ E' hC hP hp hn hm hk htk
    have hv : vs[i]? = some v := by simpa using hP
    obtain ⟨a, t, rfl⟩ := mem_ints hi v (List.mem_of_getElem? hv)
    have ha : a ∈ ns := by
      have := ints_map hi
      rw [← this]
      exact List.mem_map.mpr ⟨_, List.mem_of_getElem? hv, rfl⟩
    have hC' : (h₁.push { cls := .type "list_iterator", data := .fields #[.ref l, .int 0 0] }).objs.size ≤ C := hC
    rw [Heap.size_push] at hC'
    have hE3 : Ext s.heap s₃.heap := fun b o e => hk b o (new (hE b o e)) (Heap.get?_push_of_some _ (hE b o e))
    exact g2 C a t s₃ m₃ E' (fun b o e => Nat.lt_trans (Heap.lt_size (hE b o e)) hC') ⟨hn, fun b o e => hk b o (new (F.keep b o e)) (Heap.get?_push_of_some _ (F.keep b o e)), Nat.le_trans F.above (Nat.le_of_lt (Nat.lt_trans hlL hC'))⟩ ha hp hm hE3
  · intro D h' tk' ys vs' hnew hlD hplD hlen hP hF hk
    have e' : vs' = vs := by simpa using walked_is hlen hP
    subst e'
    obtain ⟨k, hD⟩ := hplD
    have up1 : Ext h₁ h' := fun b o e => hk b o (new e) (Heap.get?_push_of_some _ e)
    have up : Ext s.heap h' := fun b o e => up1 _ _ (hE b o e)
    have hn1 : h₁.get? D = none := by
      cases e : h₁.get? D with
      | none => rfl
      | some o' => rw [Heap.get?_push_of_some _ e] at hnew; cases hnew
    have hn0 : s.heap.get? D = none := by
      cases e : s.heap.get? D with
      | none => rfl
      | some o' => exact absurd rfl (none_ne hn1 (hE _ _ e))
    have hDL : D ≠ L := by
      obtain ⟨o, _, _, ho, _⟩ := F.ns
      exact none_ne hn1 ho
    have hF2 := paired_map (f := intOf) (p := p) hF
    rw [ints_map hi] at hF2
    refine g3 D ys.toList k h' tk' hF2 up (Fr.ext F up1) ?_ hn0
    intro q hq
    rcases List.mem_cons.mp hq with rfl | hq
    · refine ⟨?_, hDL, ?_⟩
      · unfold lob; rw [Array.toArray_toList]; exact hD
      · cases e : h₀.get? D with
        | none => rfl
        | some o' => exact absurd rfl (none_ne hn1 (F.keep _ _ e))
    · exact ⟨up1 _ _ (N q hq).1, (N q hq).2⟩
/-- what the elements come to, as ints -/
theorem paired_fun {f : Int → Int} : ∀ {ns : List Int} {ys : List Value}, Paired (fun i y => ∃ t, y = .int (f i) t) ns ys → IntsAre ys (ns.map f)
  | _, _, .nil => .nil
  | _, _, .cons ⟨t, e⟩ p => by subst e; exact .cons _ _ (paired_fun p)
theorem paired_nat {f : Nat → Int} : ∀ {ns : List Nat} {ys : List Value}, Paired (fun i y => ∃ t, y = .int (f i) t) ns ys → IntsAre ys (ns.map f)
  | _, _, .nil => .nil
  | _, _, .cons ⟨t, e⟩ p => by subst e; exact .cons _ _ (paired_nat p)
end
/-! MC9 -/
section
open PySem PySem.W PySem.Spec PySem.Calls PyProof.Rows
/-- a list with the place p passed over -/
noncomputable def pass {α : Type} (l : List α) (p : Nat) : List α := l.take p ++ l.drop (p + 1)
theorem pick_pre {vs : List Value} {p : Nat} (h : p ≤ vs.length) : (slicePick vs.toArray none (some (p : Int)) none).toList = vs.take p := by
  rw [kms_pick_eq]
  unfold kms_pick kms_lo kms_hi
  have h1 : ¬ ((p : Int) < 0) := by omega
  simp only [h1, if_false, Int.toNat_natCast, List.drop_zero, Nat.sub_zero]
  rw [show min p vs.length = p by omega]
theorem pick_suf {vs : List Value} {p : Nat} (h : p ≤ vs.length) : (slicePick vs.toArray (some (p : Int)) none none).toList = vs.drop p := by
  rw [kms_pick_eq]
  unfold kms_pick kms_lo kms_hi
  have h1 : ¬ ((p : Int) < 0) := by omega
  simp only [h1, if_false, Int.toNat_natCast]
  rw [show min p vs.length = p by omega]
  exact List.take_of_length_le (by rw [List.length_drop]; exact Nat.le_refl _)
theorem pick_mid {vs : List Value} {a b : Nat} (h : b ≤ vs.length) (hab : a ≤ b) : (slicePick vs.toArray (some (a : Int)) (some (b : Int)) none).toList = (vs.drop a).take (b - a) := by
  rw [slicePick_run vs.toArray a b (by rw [List.size_toArray]; exact h) hab]
theorem ints_pass {vs : List Value} {ns : List Int} (h : IntsAre vs ns) (p : Nat) : IntsAre (pass vs p) (pass ns p) := IntsAre.append (h.take p) (h.drop (p + 1))
theorem PagesIn.take {nw : List (Addr × Obj)} {ys : List Value} {ns : List Int} (P : PagesIn nw ys ns) : ∀ p, PagesIn nw (ys.take p) (ns.take p) := by
  induction P with
  | nil => intro p; rw [List.take_nil, List.take_nil]; exact .nil
  | cons h _ ih =>
    intro p
    cases p with
    | zero => exact .nil
    | succ p => exact .cons h (ih p)
theorem PagesIn.drop {nw : List (Addr × Obj)} {ys : List Value} {ns : List Int} (P : PagesIn nw ys ns) : ∀ p, PagesIn nw (ys.drop p) (ns.drop p) := by
  induction P with
  | nil => intro p; rw [List.drop_nil, List.drop_nil]; exact .nil
  | cons h t ih =>
    intro p
    cases p with
    | zero => exact .cons h t
    | succ p => exact ih p
theorem PagesIn.app {nw : List (Addr × Obj)} {ys zs : List Value} {ns ms : List Int} (P : PagesIn nw ys ns) (S : PagesIn nw zs ms) : PagesIn nw (ys ++ zs) (ns ++ ms) := by
  induction P with
  | nil => exact S
  | cons h _ ih => exact .cons h ih
theorem PagesIn.length {nw : List (Addr × Obj)} {ys : List Value} {ns : List Int} (P : PagesIn nw ys ns) : ys.length = ns.length := by
  induction P with
  | nil => rfl
  | cons _ _ ih => rw [List.length_cons, List.length_cons, ih]
theorem pages_pass {nw : List (Addr × Obj)} {ys : List Value} {ns : List Int} (P : PagesIn nw ys ns) (p : Nat) : PagesIn nw (pass ys p) (pass ns p) := (P.take p).app (P.drop (p + 1))
theorem pass_len {α : Type} {l : List α} {p : Nat} (h : p < l.length) : (pass l p).length = l.length - 1 := by
  unfold pass
  rw [List.length_append, List.length_take, List.length_drop]
  omega
end
end
end
/-! MD1 -/
section
open PySem PySem.W PySem.Spec PySem.Calls PyProof.Rows
theorem among_snoc {pos : Pos} {a b : Int} {c v : Value} (l : List Value) (h : TriplesOk l) (e : codeAmong pos (l ++ [rawInt a, rawInt b, c]) = some v) : codeAmong pos l = some v ∨ v = c := by
  fun_induction TriplesOk l with
  | case1 =>
    right
    unfold rawInt at e
    simp only [List.nil_append, codeAmong] at e
    split at e
    · exact (Option.some.inj e).symm
    · cases e
  | case2 a' t b' u x rest ih =>
    simp only [List.cons_append, codeAmong] at e ⊢
    split at e
    · next q => rw [if_pos q]; exact .inl e
    · next q => rw [if_neg q]; exact ih h e
  | case3 => exact absurd h id
/-- every code within the table is a function's code of this name -/
noncomputable def LamTab (ps : Array Value) (own : List (Addr × Obj)) (qual : Str) : Prop :=
  TriplesOk ps.toList ∧ ∀ pos v, codeAmong pos ps.toList = some v → ∃ c oc vs t, v = .ref c ∧ (c, oc) ∈ own ∧ oc.data = .fields vs ∧ vs[1]? = some (.str qual t)
theorem LamTab.nil {own : List (Addr × Obj)} {qual : Str} : LamTab #[] own qual := ⟨trivial, fun pos v h => by cases h⟩
theorem LamTab.sub {ps : Array Value} {a b : List (Addr × Obj)} {qual : Str} (h : LamTab ps a qual) (hs : ∀ p ∈ a, p ∈ b) : LamTab ps b qual :=
  ⟨h.1, fun pos v e => by obtain ⟨c, oc, vs, t, h1, h2, h3⟩ := h.2 pos v e; exact ⟨c, oc, vs, t, h1, hs _ h2, h3⟩⟩
theorem LamTab.snoc {ps : Array Value} {own : List (Addr × Obj)} {qual : Str} {a b : Int} {c : Addr} {oc : Obj} {vs : Array Value} {t : Tok} (h : LamTab ps own qual) (hm : (c, oc) ∈ own) (hd : oc.data = .fields vs) (hv : vs[1]? = some (.str qual t)) :
    LamTab (ps ++ #[rawInt a, rawInt b, .ref c]) own qual := by
  have e : (ps ++ #[rawInt a, rawInt b, .ref c]).toList = ps.toList ++ [rawInt a, rawInt b, .ref c] := by simp
  refine ⟨by rw [e]; exact TriplesOk_snoc _ _ _ _ h.1, fun pos v hv2 => ?_⟩
  rw [e] at hv2
  rcases among_snoc _ h.1 hv2 with q | q
  · exact h.2 pos v q
  · exact ⟨c, oc, vs, t, q, hm, hd, hv⟩
noncomputable def lamP (p : Pos) : Arguments := { posonlyargs := [], args := [{ arg := Str.ofString "rank", annotation := none, pos := p }], vararg := none, kwonlyargs := [], kw_defaults := [], kwarg := none, defaults := [] }
noncomputable def lamB (p q : Pos) : PySem.Expr := .UnaryOp .USub (.Name (Str.ofString "rank") p) q
noncomputable def lamS : Scope := { kind := .function, names := [(Str.ofString "rank", .local)], isGenerator := false, isCoroutine := false }
noncomputable abbrev lamO (qual : Str) (p p2 q : Pos) (pm : Value) (c : Addr) (ctv : Value) : Obj := kla_obj "<lambda>" qual (lamP p) (lamB p2 q) lamS [] pm c ctv
/-- a lambda's evaluation: its code is put into the table, or stands there -/
theorem lamE {w : World} {A : Around} {E : Value → Shared → Prop} {s : Shared} {g : Heap} {L a : Addr} {m mg mb : Str → Option Value} {loose : List Str} {mean : ExcName → Option Value} {cn : Str} {cs : Scope} {cl : List (Str × Addr)} {ps : Array Value} {own : List (Addr × Obj)} {p p2 q pos : Pos} {qual : Str} {Q : Value → Shared → Prop}
    (hq : (envX cn cs L a (.ref 160) cl).qual ++ "<lambda>" = qual) (F : Fr g L s.heap m) (N : News g L s.heap ((158, tabObj ps) :: own)) (T : Top topProg loose mean mg mb g) (C : CodeHd g 160 158) (hP : ∀ p ∈ own, p.1 ≠ 158) (LT : LamTab ps own qual)
    (h : ∀ ps' own2 f c' oc vs t ctv h' tk, Fr g L h' m → News g L h' ((f, lamO qual p p2 q ((mg "__name__").getD .none) c' ctv) :: (158, tabObj ps') :: (own2 ++ own)) → LamTab ps' (own2 ++ own) qual → (c', oc) ∈ own2 ++ own → oc.data = .fields vs → vs[1]? = some (.str qual t) →
      (∀ x ∈ (158, tabObj ps) :: own, x.1 ≠ f ∧ ∀ y ∈ own2, x.1 ≠ y.1) → (∀ y ∈ own2, y.1 ≠ f) → Q (.ref f) { s with heap := h', toks := tk })
    (hcl : closureFor lamS (envX cn cs L a (.ref 160) cl) = pure []) (hdef : defaultsOf (lamP p) (envX cn cs L a (.ref 160) cl) = ([], [])) :
    wpAny (model pw w) A (eval (.Lambda (lamP p) (lamB p2 q) lamS pos) (envX cn cs L a (.ref 160) cl)) Q E s := by
  subst hq
  refine kla_eval hdef ?_
  cases hc : codeAmong pos ps.toList with
  | none =>
    refine kla_nest F N T C rfl (.head hP) LT.1 hc hcl ?_
    intro f c' oc vs t ctv h' tk F' N' hd hv l1 l2
    refine h (ps ++ #[rawInt pos.line, rawInt pos.col, .ref c']) [(c', oc)] f c' oc vs t ctv h' tk F' (fun p hp => N' p ?_) ?_ (.head _) hd hv ?_ ?_
    · rcases List.mem_cons.mp hp with rfl | hp
      · exact .head _
      · rcases List.mem_cons.mp hp with rfl | hp
        · exact .tail _ (.tail _ (.head _))
        · rcases List.mem_cons.mp hp with rfl | hp
          · exact .tail _ (.head _)
          · exact .tail _ (.tail _ (.tail _ hp))
    · exact (LT.sub (fun p hp => List.mem_cons_of_mem _ hp)).snoc (.head _) hd hv
    · intro x hx
      refine ⟨Nat.ne_of_lt (Nat.lt_trans (l1 x hx) l2), fun y hy => ?_⟩
      cases List.mem_singleton.mp hy
      exact Nat.ne_of_lt (l1 x hx)
    · intro y hy
      cases List.mem_singleton.mp hy
      exact Nat.ne_of_lt l2
  | some v =>
    obtain ⟨c, oc, vs, t, rfl, hm, hd, hv⟩ := LT.2 pos v hc
    refine kla_hit F N T C rfl (.head _) LT.1 hc hcl ?_
    intro f ctv h' tk F' N' l1
    exact h ps [] f c oc vs t ctv h' tk F' N' LT hm hd hv (fun x hx => ⟨Nat.ne_of_lt (l1 x hx), fun y hy => by cases hy⟩) (fun y hy => by cases hy)
/-- the lambda called -/
theorem lam_call {w : World} {N : Names} {A : Around} {s : Shared} {Q : Value → Shared → Prop} {E : Value → Shared → Prop} {f c' : Addr} {qual : Str} {p p2 q : Pos} {pm ctv : Value} (O : Okh w N s.heap) (hd : A.depth < 900) (ho : s.heap.get? f = some (lamO qual p p2 q pm c' ctv)) (hrec : s.heap.CodeRec (.ref c') qual) (n : Int) (t : Tok)
    (hret : ∀ h' tk t', Ext s.heap h' → Q (.int (-n) t') { s with heap := h', toks := tk }) : wpAny (model pw w) A (call (.ref f) [.int n t] []) Q E s := by
  have _kf : (fun (_ : OpenLaw) (_ : Params → Frag) => True) PySem.Challenge.rw_rw0108_01 K := by (k_fill; trivial)
  clear _kf
  refine wpAny_call ?_
  refine kla_callFunE (Nat.lt_trans hd (by decide)) ho rfl rfl rfl rfl hrec ?_
  have hb : bindArgs (kla_fn "<lambda>" qual (lamP p) (lamB p2 q) lamS [] pm (.ref c') ctv) ⟨[.int n t], []⟩ = pure [(Str.ofString "rank", .int n t)] := rfl
  rw [hb]
  refine wpAny_pure (wpAny_newFunctionEnv (show ∀ x ∈ lamS.names, x.2 ≠ .cell by decide) (fun y hy => by cases List.mem_singleton.mp hy; rfl) (fun h₁ hns hsb => ⟨?_, ?_⟩) rfl)
  · exact (O.T.nolimit).fresh _ hsb
  · refine kla_codeExpr ?_
    have hk₁ : ∀ b o, s.heap.get? b = some o → h₁.get? b = some o := fun b o e => hsb.extBut b o (Nat.ne_of_lt (Heap.lt_size e)) (Heap.get?_push_of_some _ e)
    have F : Fr s.heap s.heap.objs.size h₁ (fun y => List.lookup y [(Str.ofString "rank", Value.int n t)].reverse) := ⟨hns, hk₁, Nat.le_refl _⟩
    have NN : News s.heap s.heap.objs.size h₁ [] := News.nil
    have KX := O.K
    have T := O.T
    clear hns hsb hk₁ hb
    show wpAny (model pw w) (A.deeper (envX qual lamS s.heap.objs.size f (.ref c') [])) (eval (.UnaryOp .USub (.Name (Str.ofString "rank") p2) q) (envX qual lamS s.heap.objs.size f (.ref c') [])) _ _ { s with heap := h₁, toks := s.toks + 1 }
    have hrk : (fun y => List.lookup y [(Str.ofString "rank", Value.int n t)].reverse) (Str.ofString "rank") = some (.int n t) := rfl
    k_steps
    exact hret h₁ _ _ F.keep
end
/-! MD2 -/
section
open PySem PySem.W PySem.Spec PySem.Calls PyProof.Rows
theorem BindsTo.of_dw {s : Shared} {fd : FuncData} {args : Args} {binds : List (Str × Value)} {T : Addr} {o : Obj} {items : Array Value} {n : Nat}
    {k : Option (Array Value) → Sem (List (Str × Value))} (hd : fd.defaults = .ref T) (ho : s.heap.get? T = some o) (hs : o.data = .seq items n)
    (h₁ : bindArgs fd args = seqItems? fd.defaults >>= k) (h : BindsTo s fd args binds = BindsTo s fd args binds → ∀ M A Q E, Q binds s → wpAny M A (k (some items)) Q E s) : BindsTo s fd args binds :=
  fun _ _ _ _ hq => by
    rw [h₁, hd]
    exact wpAny_bind (wpAny_seqItems ho hs (h rfl _ _ _ _ hq))
theorem ns51 {w : World} {h : Heap} (KX : (K w.params).In h) : ∃ m, h.Ns 51 m ∧ m (Str.ofString "key") = some .none := by
  have e := KX 51 (o51 w.params) rfl
  refine ⟨_, ⟨_, _, _, e, rfl, ?_, fun _ => rfl⟩, ?_⟩
  · intro e he
    simp at he
    subst he
    exact ⟨_, _, rfl⟩
  · rfl
theorem ns42 {w : World} {h : Heap} (KX : (K w.params).In h) : ∃ m, h.Ns 42 m ∧ m (Str.ofString "key") = some .none := by
  have e := KX 42 (o42 w.params) rfl
  refine ⟨_, ⟨_, _, _, e, rfl, ?_, fun _ => rfl⟩, ?_⟩
  · intro e he
    simp at he
    subst he
    exact ⟨_, _, rfl⟩
  · rfl
theorem bl_noKey {w : World} {N : Names} {s : Shared} (O : Okh w N s.heap) (l : Addr) (x lo hi : Value) : ∀ fd, (o58 w.params).data = .func fd → BindsTo s fd ⟨[.ref l, x, lo, hi], []⟩ (bBinds (.ref l) x lo hi .none) := by
  intro fd e
  cases e
  obtain ⟨m, hn, hv⟩ := ns51 O.K
  refine BindsTo.of_dw (T := 50) (o := o50 w.params) rfl (O.K 50 _ rfl) rfl rfl fun _ M A Q E hq => ?_
  refine wpAny_bind (wpAny_of_eq (a := [(Str.ofString "a", Value.ref l), (Str.ofString "x", x), (Str.ofString "lo", lo), (Str.ofString "hi", hi)]) rfl ?_)
  refine wpAny_bind ?_
  show wpAny M A (forIn [Str.ofString "key"] _ _) _ _ _
  rw [List.forIn_cons]
  refine wpAny_bind (wpAny_bind (m := nsGet 51 (Str.ofString "key")) (wpAny_nsGet hn ?_))
  rw [hv]
  refine wpAny_pure ?_
  refine wpAny_of_eq (a := ([(Str.ofString "a", Value.ref l), (Str.ofString "x", x), (Str.ofString "lo", lo), (Str.ofString "hi", hi), (Str.ofString "key", .none)], [])) rfl ?_
  exact wpAny_of_eq (a := bBinds (.ref l) x lo hi .none) rfl hq
theorem br_noKey {w : World} {N : Names} {s : Shared} (O : Okh w N s.heap) (l : Addr) (x lo hi : Value) : ∀ fd, (o49 w.params).data = .func fd → BindsTo s fd ⟨[.ref l, x, lo, hi], []⟩ (bBinds (.ref l) x lo hi .none) := by
  intro fd e
  cases e
  obtain ⟨m, hn, hv⟩ := ns42 O.K
  refine BindsTo.of_dw (T := 41) (o := o41 w.params) rfl (O.K 41 _ rfl) rfl rfl fun _ M A Q E hq => ?_
  refine wpAny_bind (wpAny_of_eq (a := [(Str.ofString "a", Value.ref l), (Str.ofString "x", x), (Str.ofString "lo", lo), (Str.ofString "hi", hi)]) rfl ?_)
  refine wpAny_bind ?_
  show wpAny M A (forIn [Str.ofString "key"] _ _) _ _ _
  rw [List.forIn_cons]
  refine wpAny_bind (wpAny_bind (m := nsGet 42 (Str.ofString "key")) (wpAny_nsGet hn ?_))
  rw [hv]
  refine wpAny_pure ?_
  refine wpAny_of_eq (a := ([(Str.ofString "a", Value.ref l), (Str.ofString "x", x), (Str.ofString "lo", lo), (Str.ofString "hi", hi), (Str.ofString "key", .none)], [])) rfl ?_
  exact wpAny_of_eq (a := bBinds (.ref l) x lo hi .none) rfl hq
theorem bl_two {w : World} {N : Names} {s : Shared} (O : Okh w N s.heap) (l : Addr) (x : Value) : ∀ fd, (o58 w.params).data = .func fd → BindsTo s fd ⟨[.ref l, x], []⟩ (bBinds (.ref l) x (.int 0 311) .none .none) := by
  intro fd e
  cases e
  obtain ⟨m, hn, hv⟩ := ns51 O.K
  refine BindsTo.of_dw (T := 50) (o := o50 w.params) rfl (O.K 50 _ rfl) rfl rfl fun _ M A Q E hq => ?_
  refine wpAny_bind (wpAny_of_eq (a := [(Str.ofString "a", Value.ref l), (Str.ofString "x", x), (Str.ofString "lo", Value.int 0 311), (Str.ofString "hi", Value.none)]) rfl ?_)
  refine wpAny_bind ?_
  show wpAny M A (forIn [Str.ofString "key"] _ _) _ _ _
  rw [List.forIn_cons]
  refine wpAny_bind (wpAny_bind (m := nsGet 51 (Str.ofString "key")) (wpAny_nsGet hn ?_))
  rw [hv]
  refine wpAny_pure ?_
  refine wpAny_of_eq (a := ([(Str.ofString "a", Value.ref l), (Str.ofString "x", x), (Str.ofString "lo", Value.int 0 311), (Str.ofString "hi", Value.none), (Str.ofString "key", .none)], [])) rfl ?_
  exact wpAny_of_eq (a := bBinds (.ref l) x (.int 0 311) .none .none) rfl hq
theorem br_two {w : World} {N : Names} {s : Shared} (O : Okh w N s.heap) (l : Addr) (x : Value) : ∀ fd, (o49 w.params).data = .func fd → BindsTo s fd ⟨[.ref l, x], []⟩ (bBinds (.ref l) x (.int 0 297) .none .none) := by
  intro fd e
  cases e
  obtain ⟨m, hn, hv⟩ := ns42 O.K
  refine BindsTo.of_dw (T := 41) (o := o41 w.params) rfl (O.K 41 _ rfl) rfl rfl fun _ M A Q E hq => ?_
  refine wpAny_bind (wpAny_of_eq (a := [(Str.ofString "a", Value.ref l), (Str.ofString "x", x), (Str.ofString "lo", Value.int 0 297), (Str.ofString "hi", Value.none)]) rfl ?_)
  refine wpAny_bind ?_
  show wpAny M A (forIn [Str.ofString "key"] _ _) _ _ _
  rw [List.forIn_cons]
  refine wpAny_bind (wpAny_bind (m := nsGet 42 (Str.ofString "key")) (wpAny_nsGet hn ?_))
  rw [hv]
  refine wpAny_pure ?_
  refine wpAny_of_eq (a := ([(Str.ofString "a", Value.ref l), (Str.ofString "x", x), (Str.ofString "lo", Value.int 0 297), (Str.ofString "hi", Value.none), (Str.ofString "key", .none)], [])) rfl ?_
  exact wpAny_of_eq (a := bBinds (.ref l) x (.int 0 297) .none .none) rfl hq
theorem bl_keyed {w : World} {N : Names} {s : Shared} (O : Okh w N s.heap) (l : Addr) (x lo hi k : Value) : ∀ fd, (o58 w.params).data = .func fd → BindsTo s fd ⟨[.ref l, x, lo, hi], [(Str.ofString "key", k)]⟩ (bBinds (.ref l) x lo hi k) := by
  intro fd e
  cases e
  exact BindsTo.of_defaults (T := 50) (o := o50 w.params) rfl (O.K 50 _ rfl) rfl rfl rfl
theorem br_keyed {w : World} {N : Names} {s : Shared} (O : Okh w N s.heap) (l : Addr) (x lo hi k : Value) : ∀ fd, (o49 w.params).data = .func fd → BindsTo s fd ⟨[.ref l, x, lo, hi], [(Str.ofString "key", k)]⟩ (bBinds (.ref l) x lo hi k) := by
  intro fd e
  cases e
  exact BindsTo.of_defaults (T := 41) (o := o41 w.params) rfl (O.K 41 _ rfl) rfl rfl rfl
/-- l[-1] of a list of ints -/
theorem item_intLast {w : World} {A : Around} {E : Value → Shared → Prop} {s : Shared} {value slice : PySem.Expr} {l : Addr} {vs : List Value} {ys : List Int} {u : Tok} {Q : Value → Shared → Prop}
    (hl : s.heap.IsList l vs.toArray) (hi : IntsAre vs ys) (h1 : 1 ≤ ys.length) (h : ∀ t, Q (.int (ys.getD (ys.length - 1) 0) t) s)
    (hs : subscripted slice false (.ref l) (.int (-1) u) = operate [.ref l, .int (-1) u] (getItem (.ref l) (.int (-1) u)) := by with_unfolding_all rfl) :
    wpAny (model pw w) A (subscriptTail value slice (.ref l) (.int (-1) u)) Q E s := by
  have hsz : vs.toArray.size = ys.length := by simp [hi.length]
  have e : ys[ys.length - 1]? = some (ys.getD (ys.length - 1) 0) := by rw [List.getD_eq_getElem?_getD, List.getElem?_eq_getElem (by omega)]; rfl
  obtain ⟨t, ht⟩ := hi.get _ _ e
  refine tail_any hl.typeIs slot_list_getitem.lookup (wpAny_getItem_list_neg hl (by decide) (by rw [hsz]; omega) (by decide) ?_ (h t)) hs
  rw [hsz, show (-1 + (ys.length : Int)).toNat = ys.length - 1 by omega]
  simpa using ht
end
section
open PySem PySem.W PySem.Spec PySem.Calls PyProof.Rows
local macro_rules | `(tactic| walk_at "pyIter ref") => `(tactic| with_reducible refine st_d ?_)
section
open PySem PySem.W PySem.Spec PySem.Calls PyProof.Rows
local macro_rules | `(tactic| walk_at "eval Name") => `(tactic| ((with_reducible refine nm_sh ?_); refine nm_D ?_))
section
open PySem PySem.W PySem.Spec PySem.Calls PyProof.Rows
local macro_rules | `(tactic| walk_at "eval Name") => `(tactic| ((with_reducible refine nm_sh ?_); refine nm_L ?_))
section
open PySem PySem.W PySem.Spec PySem.Calls PyProof.Rows
local macro_rules | `(tactic| walk_at "subscriptTail Name Slice ref ref") => `(tactic| with_reducible refine st_j ?_)
section
open PySem PySem.W PySem.Spec PySem.Calls PyProof.Rows
local macro_rules | `(tactic| k_all) => `(tactic| assumption)
section
open PySem PySem.W PySem.Spec PySem.Calls PyProof.Rows
local macro_rules | `(tactic| walk_at "subscriptTail") => `(tactic| with_reducible refine st_j ?_)
section
open PySem PySem.W PySem.Spec PySem.Calls PyProof.Rows
local macro_rules | `(tactic| walk_at "eval ListComp") => `(tactic| with_reducible refine st_i ?_)
section
open PySem PySem.W PySem.Spec PySem.Calls PyProof.Rows
local macro_rules | `(tactic| walk_at "exec Assign cons ListComp") => `(tactic| with_reducible refine st_h ?_)
/-! MV1 -/
section
open PySem PySem.W PySem.Spec PySem.Calls PyProof.Rows
noncomputable abbrev lawC (L : Addr) : List (Str × Addr) := [(Str.ofString "ones", L + 7), (Str.ofString "name", L + 6), (Str.ofString "ranks", L + 5), (Str.ofString "dots", L + 4), (Str.ofString "drawn", L + 3), (Str.ofString "own", L + 2), (Str.ofString "script", L + 1)]
noncomputable def lawS (k : Nat) : Stmt := (fBody (stm 19)).getD k (.Pass default)
theorem law_body : fBody (stm 19) = [lawS 0, lawS 1, lawS 2, lawS 3, lawS 4, lawS 5, lawS 6, lawS 7, lawS 8, lawS 9, lawS 10, lawS 11, lawS 12, lawS 13, lawS 14, lawS 15] := by kernel_rfl
/-- statements one by one -/
theorem execs_seq {M : Model} {A : Around} {E : Value → Shared → Prop} {env : Env} {st : Stmt} {rest : List Stmt} {Q : Flow → Shared → Prop} {s : Shared} (R : Shared → Prop)
    (h1 : wpAny M A (exec st env) (fun f s' => Stop (f = .next ∧ R s')) E s) (h2 : ∀ s', R s' → wpAny M A (execs rest env) Q E s') : wpAny M A (execs (st :: rest) env) Q E s := seq1 R h1 h2
theorem know_eq {m : Str → Option Value} {k : Str} {v : Option Value} (e : m k = v) (y : Str) : (if y = k then v else m y) = m y := by
  by_cases q : y = k
  · subst q; rw [if_pos rfl, e]
  · rw [if_neg q]
theorem news_sub {h₀ h : Heap} {L : Addr} {a b : List (Addr × Obj)} (N : News h₀ L h a) (hs : ∀ p ∈ b, p ∈ a) : News h₀ L h b := fun p hp => N p (hs p hp)
/-- the facts of the law's frame -/
structure LawF (w : World) (N : Names) (A : Around) (g : Heap) (L l : Addr) (vs : List Value) (ns : List Int) : Prop where
  O : Okh w N g
  hd : A.depth < 700
  hu : A.units < 7000
  hA : A.handled = none
  hl : g.IsList l vs.toArray
  hn : IntsAre vs ns
  hlen : ns.length ≤ 63
section
variable {w : World} {N : Names} {A : Around} {g : Heap} {L l : Addr} {vs : List Value} {ns : List Int} {s : Shared} {m : Str → Option Value} {own : List (Addr × Obj)}
noncomputable def anyInt (_ : Nat) (y : Value) : Prop := ∃ n t, y = .int n t
theorem ne_news {g h : Heap} {L D : Addr} {own : List (Addr × Obj)} (NW : News g L h own) (hnew : h.get? D = none) : ∀ p ∈ own, p.1 ≠ D := fun p hp e => by
  have := (NW p hp).1
  rw [e, hnew] at this
  cases this
theorem allLt_ne {D : Addr} {own : List (Addr × Obj)} (h : AllLt D own) : ∀ p ∈ own, p.1 ≠ D := by
  induction own with
  | nil => intro p hp; cases hp
  | cons q r ih =>
    intro p hp
    rcases List.mem_cons.mp hp with rfl | hp
    · exact Nat.ne_of_lt h.1
    · exact ih h.2 p hp
theorem paired_ints {l : List Nat} {ys : List Value} (h : Paired anyInt l ys) : ∃ ns, IntsAre ys ns ∧ ns.length = l.length := by
  induction h with
  | nil => exact ⟨[], .nil, rfl⟩
  | cons h _ ih =>
    obtain ⟨n, t, rfl⟩ := h
    obtain ⟨ns, a, b⟩ := ih
    exact ⟨n :: ns, .cons n t a, by rw [List.length_cons, List.length_cons, b]⟩
set_option maxHeartbeats 4000000 in
theorem law0 (W : LawF w N A g L l vs ns) (F : Fr g L s.heap m) (NW : News g L s.heap (own)) {o1 : Obj} (m1 : (L + 1, o1) ∈ own) (d1 : o1.data = .cell (some (.ref l))) :
    wpAny (model pw w) (A.deeper (envX (Str.ofString "law") (fSc (stm 19)) L 161 (.ref 160) (lawC L))) (exec (lawS 0) (envX (Str.ofString "law") (fSc (stm 19)) L 161 (.ref 160) (lawC L)))
      (fun f s' => Stop (f = .next ∧ ∃ h' tk, s' = { s with heap := h', toks := tk } ∧ ∃ t, Fr g L h' (fun y => if y = Str.ofString "size" then some (.int (5 + (ns.length : Int).fmod 2) t) else m y) ∧ News g L h' own)) (fun _ _ => False) s := by
  have _kf : (fun (_ : OpenLaw) (_ : Params → Frag) => True) PySem.Challenge.rw_rw0108_01 K := by (k_fill; trivial)
  clear _kf
  have es := (rfl : fSc (stm 19) = fSc (stm 19))
  conv at es => rhs; whnf
  have eb := (rfl : lawS 0 = lawS 0)
  conv at eb => rhs; whnf
  rw [es, eb]
  clear es eb
  have KX := W.O.K
  have T := W.O.T
  have hl := W.hl
  have hn := W.hn
  have hlen := W.hlen
  have hd := W.hd
  have hu := W.hu
  have hA := W.hA
  obtain ⟨h0, gn0, dr0, tk0, os0⟩ := s
  have N1 : News g L h0 ((L + 1, o1) :: own) := news_sub NW (fun p hp => by rcases List.mem_cons.mp hp with rfl | hp; exact m1; exact hp)
  clear NW
  k_steps
  rename Fr _ _ _ _ => F9
  rename News _ _ _ _ => N9
  exact Stop.intro ⟨(by first | rfl | trivial), _, _, rfl, _, F9, news_sub N9 (fun p hp => List.mem_cons_of_mem _ hp)⟩
set_option maxHeartbeats 4000000 in
theorem law1 {o2 : Obj} {v2 : Option Value} (W : LawF w N A g L l vs ns) (F : Fr g L s.heap m) (NW : News g L s.heap ((L + 2, o2) :: own)) (hne : ∀ p ∈ own, p.1 ≠ L + 2) (d2 : o2.data = .cell v2) :
    wpAny (model pw w) (A.deeper (envX (Str.ofString "law") (fSc (stm 19)) L 161 (.ref 160) (lawC L))) (exec (lawS 1) (envX (Str.ofString "law") (fSc (stm 19)) L 161 (.ref 160) (lawC L)))
      (fun f s' => Stop (f = .next ∧ ∃ h' tk, s' = { s with heap := h', toks := tk } ∧ ∃ D vs6 ns6 o2' n6, Fr g L h' m ∧ News g L h' ((L + 2, o2') :: (D, lob vs6 n6) :: own) ∧ (∀ p ∈ (L + 2, o2) :: own, p.1 ≠ D) ∧ o2'.data = .cell (some (.ref D)) ∧ IntsAre vs6 ns6 ∧ ns6.length = 6)) (fun _ _ => False) s := by
  have _kf : (fun (_ : OpenLaw) (_ : Params → Frag) => True) PySem.Challenge.rw_rw0108_01 K := by (k_fill; trivial)
  clear _kf
  have es := (rfl : fSc (stm 19) = fSc (stm 19))
  conv at es => rhs; whnf
  have eb := (rfl : lawS 1 = lawS 1)
  conv at eb => rhs; whnf
  rw [es, eb]
  clear es eb
  have KX := W.O.K
  have T := W.O.T
  have hl := W.hl
  have hn := W.hn
  have hlen := W.hlen
  have hd := W.hd
  have hu := W.hu
  have hA := W.hA
  obtain ⟨h0, gn0, dr0, tk0, os0⟩ := s
  k_steps
  rename Fr _ _ _ _ => F9
  rename News _ _ _ _ => N9
  rename Obj => o9
  exact Stop.intro ⟨(by first | rfl | trivial), _, _, rfl, _, _, _, _, _, F9, news_sub N9 (fun p hp => by
    rcases List.mem_cons.mp hp with rfl | hp
    · exact .tail _ (.head _)
    · rcases List.mem_cons.mp hp with rfl | hp
      · exact .head _
      · exact .tail _ (.tail _ hp)), allLt_ne (by assumption), by assumption, .cons _ _ (.cons _ _ (.cons _ _ (.cons _ _ (.cons _ _ (.cons _ _ .nil))))), rfl⟩
set_option maxHeartbeats 4000000 in
theorem law2 (W : LawF w N A g L l vs ns) (F : Fr g L s.heap m) (NW : News g L s.heap (own)) {o1 o2 : Obj} {D : Addr} {vs6 : List Value} {ns6 : List Int} {n6 : Nat} {size : Int} {tz : Tok} (m1 : (L + 1, o1) ∈ own) (d1 : o1.data = .cell (some (.ref l))) (m2 : (L + 2, o2) ∈ own) (d2 : o2.data = .cell (some (.ref D))) (m3 : (D, lob vs6 n6) ∈ own) (i6 : IntsAre vs6 ns6) (l6 : ns6.length = 6) (hz : m (Str.ofString "size") = some (.int size tz)) (z1 : 5 ≤ size) (z2 : size ≤ 6) :
    wpAny (model pw w) (A.deeper (envX (Str.ofString "law") (fSc (stm 19)) L 161 (.ref 160) (lawC L))) (exec (lawS 2) (envX (Str.ofString "law") (fSc (stm 19)) L 161 (.ref 160) (lawC L)))
      (fun f s' => Stop (f = .next ∧ ∃ h' tk, s' = { s with heap := h', toks := tk } ∧ ∃ D2 hs hz nh, Fr g L h' (fun y => if y = Str.ofString "hands" then some (.ref D2) else m y) ∧ News g L h' ((D2, lob hs nh) :: own) ∧ (∀ p ∈ own, p.1 ≠ D2) ∧ IntsAre hs hz ∧ (hz.length : Int) = size)) (fun _ _ => False) s := by
  have _kf : (fun (_ : OpenLaw) (_ : Params → Frag) => True) PySem.Challenge.rw_rw0108_01 K := by (k_fill; trivial)
  clear _kf
  have es := (rfl : fSc (stm 19) = fSc (stm 19))
  conv at es => rhs; whnf
  have eb := (rfl : lawS 2 = lawS 2)
  conv at eb => rhs; whnf
  rw [es, eb]
  clear es eb
  have KX := W.O.K
  have T := W.O.T
  have hl := W.hl
  have hn := W.hn
  have hlen := W.hlen
  have hd := W.hd
  have hu := W.hu
  have hA := W.hA
  obtain ⟨h0, gn0, dr0, tk0, os0⟩ := s
  have F1 := frKnow F (k := Str.ofString "size") hz
  clear F
  obtain ⟨z, rfl⟩ : ∃ z : Nat, size = (z : Int) := ⟨size.toNat, by omega⟩
  refine asgR (A := A.deeper _) (L := L) (cl := [(Str.ofString "script", L + 1), (Str.ofString "own", L + 2)]) z anyInt hA (by omega) (m := fun y => if y = Str.ofString "size" then some (.int (z : Int) tz) else m y) (h₀ := g) (news := own) ?hit ?g2 ?g3 rfl rfl (by decide) rfl (by decide) rfl rfl rfl (by intro _; rfl)
  case hit =>
    k_steps
    exact Stop.intro ⟨_, _, _, _, _, _, rfl, rfl, by assumption, by assumption, by assumption, by assumption⟩
  case g2 =>
    intro C i t s₃ m₃ E' hC FC hi hm hE
    have NC := newsC NW hE hC
    have N3 : News g C s₃.heap ((L + 1, o1) :: (L + 2, o2) :: (D, lob vs6 n6) :: own) := news_sub NC (fun p hp => by
      rcases List.mem_cons.mp hp with rfl | hp
      · exact m1
      · rcases List.mem_cons.mp hp with rfl | hp
        · exact m2
        · rcases List.mem_cons.mp hp with rfl | hp
          · exact m3
          · exact hp)
    clear F1 NW NC hE hC
    obtain ⟨h3, gn3, dr3, tk3, os3⟩ := s₃
    k_steps
    refine Stop.intro ?_
    obtain ⟨np, hp⟩ := pick_ints hn (some (i : Int)) none (some 6)
    have hvl : vs.length ≤ 63 := by have := hn.length; omega
    refine sliceE (FC.lst hl) (.int _ _) .none (.int _ _) (by decide) (fun h5 D5 x5 n5 g5 => ?_) (by with_unfolding_all rfl) (by rw [List.size_toArray]; omega)
    have F5 := Fr.ext FC x5
    have N5 := News.ext N3 x5
    k_steps
    refine sumE hA (lob_is g5) hp (fun h4 tk4 t4 x4 => ?_)
    have F6 := Fr.ext F5 x4
    have N6 := News.ext N5 x4
    clear F5 N5
    k_steps
    exact Stop.intro ⟨⟨_, _, rfl⟩, _, _, rfl, fun b o e => x4 _ _ (x5 _ _ e)⟩
  case g3 =>
    intro D2 ys k h' tk P3 F3 N3 hnew
    have hz2 := paired_ints P3
    obtain ⟨hs, i1, i2⟩ := hz2
    refine Stop.intro ⟨rfl, _, _, rfl, D2, ys, hs, k, Fr.cast F3 (fun y => ?_), N3, ?_, i1, by rw [i2, List.length_range]⟩
    · by_cases q : y = Str.ofString "hands"
      · rw [if_pos q, if_pos q]
      · rw [if_neg q, if_neg q]; exact know_eq hz y
    · exact ne_news NW hnew
end
end
end
end
end
end
end
end
end
end
section
open PySem PySem.W PySem.Spec PySem.Calls PyProof.Rows
local macro_rules | `(tactic| walk_at "exec If") => `(tactic| ((rename Halt => kH); (with_reducible show wpAny _ _ (exec (PySem.Stmt.If _ _ _ _) _) _ _ _); refine Stop.out ?_))
section
open PySem PySem.W PySem.Spec PySem.Calls PyProof.Rows
local macro_rules | `(tactic| walk_at "exec If Compare cons nil") => `(tactic| ((rename Halt => kH); (with_reducible show wpAny _ _ (exec (PySem.Stmt.If _ _ _ _) _) _ _ _); refine Stop.out ?_))
section
open PySem PySem.W PySem.Spec PySem.Calls PyProof.Rows
local macro_rules | `(tactic| walk_at "binaryOp Add str str") => `(tactic| with_reducible refine st_e ?_)
section
open PySem PySem.W PySem.Spec PySem.Calls PyProof.Rows
local macro_rules | `(tactic| walk_at "subscriptTail") => `(tactic| with_reducible refine st_g ?_)
section
open PySem PySem.W PySem.Spec PySem.Calls PyProof.Rows
local macro_rules | `(tactic| walk_at "subscriptTail") => `(tactic| with_reducible refine st_p ?_)
section
open PySem PySem.W PySem.Spec PySem.Calls PyProof.Rows
local macro_rules | `(tactic| walk_at "subscriptTail Name BinOp str int") => `(tactic| with_reducible refine st_p ?_)
section
open PySem PySem.W PySem.Spec PySem.Calls PyProof.Rows
local macro_rules | `(tactic| walk_at "eval ListComp") => `(tactic| with_reducible refine st_i ?_)
section
open PySem PySem.W PySem.Spec PySem.Calls PyProof.Rows
local macro_rules | `(tactic| walk_at "call builtin:str.join") => `(tactic| ((with_reducible show wpAny _ _ (call (Value.builtin "str.join") _) _ _ _); refine Stop.out ?_))
section
open PySem PySem.W PySem.Spec PySem.Calls PyProof.Rows
local macro_rules | `(tactic| walk_at "eval Name") => `(tactic| ((with_reducible refine nm_sh ?_); refine nm_C ?_))
section
open PySem PySem.W PySem.Spec PySem.Calls PyProof.Rows
local macro_rules | `(tactic| walk_at "eval Name") => `(tactic| ((with_reducible refine nm_sh ?_); refine nm_L ?_))
/-! MW1 -/
section
open PySem PySem.W PySem.Spec PySem.Calls PyProof.Rows
set_option maxHeartbeats 2000000 in
theorem row_spec (w : World) (N : Names) (n : Int) (d : Bool) (tn td : Tok) {A : Around} {s : Shared} {Q : Value → Shared → Prop} {E : Value → Shared → Prop} (O : Okh w N s.heap) (hd : A.depth < 800) (hu : A.units < 8000) (hA : A.handled = none)
    (hret : ∀ h' tk T t1 t2, Ext s.heap h' → s.heap.get? T = none → h'.get? T = some { cls := .type "tuple", data := .seq #[.str (strL (rowS n d)) t1, .str (strL (rowS n d)) t2] } → Q (.ref T) { s with heap := h', toks := tk }) : wpAny (model pw w) A (call (.ref 144) [.int n tn, .str (strL (headS d)) td] []) Q E s := by
  have _kf : (fun (_ : OpenLaw) (_ : Params → Frag) => True) PySem.Challenge.rw_rw0108_01 K := by (k_fill; trivial)
  clear _kf
  refine enterC (f := 144) (binds := [(Str.ofString "number", .int n tn), (Str.ofString "head", .str (strL (headS d)) td)]) O rfl rfl rfl (BindsTo.of_eq rfl) (Nat.lt_trans hd (by decide)) (fun n => kinds_of ⟨.inl rfl, .inl rfl, trivial⟩) (by decide) rfl rfl rfl ?_
  intro h₁ tk₁ cells F0 N0 Y
  have F1 : Fr s.heap s.heap.objs.size h₁ (fun y => if y = Str.ofString "head" then some (.str (strL (headS d)) td) else if y = Str.ofString "number" then some (.int n tn) else none) := F0
  have Y1 := CellsAre.one (n := Str.ofString "start") (c := s.heap.objs.size + 1) Y
  obtain ⟨o1, rfl, d1⟩ := Y1
  have d1 : o1.data = .cell none := d1
  clear F0 Y
  show wpAny (model pw w) (A.deeper (envX (Str.ofString "_law_row") (fSc (stm 16)) s.heap.objs.size 144 (.ref 143) [(Str.ofString "start", s.heap.objs.size + 1)])) (execs (fBody (stm 16)) (envX (Str.ofString "_law_row") (fSc (stm 16)) s.heap.objs.size 144 (.ref 143) [(Str.ofString "start", s.heap.objs.size + 1)])) _ _ { s with heap := h₁, toks := tk₁ }
  have es := (rfl : fSc (stm 16) = fSc (stm 16))
  conv at es => rhs; whnf
  have eb := (rfl : fBody (stm 16) = fBody (stm 16))
  conv at eb => rhs; whnf
  rw [es, eb]
  clear es eb
  have KX := O.K
  have T := O.T
  have g0 : 0 ≤ (n.fdiv 7).fmod 27 := by rw [Int.fmod_eq_emod_of_nonneg _ (by decide)]; exact Int.emod_nonneg _ (by decide)
  have g1 : (n.fdiv 7).fmod 27 < 27 := by rw [Int.fmod_eq_emod_of_nonneg _ (by decide)]; exact Int.emod_lt_of_pos _ (by decide)
  have HH : Halt := halt
  k_steps
  refine Stop.intro ?_
  refine joinAt (fun s' => ∃ h' tk' u tu tr tn td, ∃ m₂ : Str → Option Value, s' = { s with heap := h', toks := tk' } ∧ Fr s.heap s.heap.objs.size h' (fun y => if y = Str.ofString "unseen" then some (.str (sg u) tu) else if y = Str.ofString "rest" then some (.int (n.fdiv 7) tr) else if y = Str.ofString "head" then some (.str (strL (headS d)) td) else if y = Str.ofString "number" then some (.int n tn) else m₂ y) ∧ News s.heap s.heap.objs.size h' [(s.heap.objs.size + 1, o1)] ∧ inB1 (u : Nat) = true) ?a ?b
  case a =>
    rename Halt => HH
    clear HH
    k_steps
    · refine Stop.intro ?_
      refine itemS hidden_text (by omega) (by show _ < (11 : Int); omega) (by decide) (fun t' k' => ?_)
      k_steps
      rename Fr _ _ _ _ => F2
      rename News _ _ _ _ => N2
      refine Stop.intro ⟨rfl, _, _, hiddenL.getD ((n.fdiv 7).fmod 27 - 16).toNat 0, _, _, _, _, _, rfl, frKnow (k := Str.ofString "unseen") (frKnow (k := Str.ofString "rest") (frKnow (k := Str.ofString "head") (frKnow (k := Str.ofString "number") F2 rfl) rfl) rfl) rfl, N2, ?_⟩
      exact List.all_eq_true.mp hidden_in _ (getD_lt hiddenL _ 0 (by show _ < 11; omega))
    · rename Fr _ _ _ _ => F2
      rename News _ _ _ _ => N2
      refine Stop.intro ⟨rfl, _, _, (65024 + (n.fdiv 7).fmod 27).toNat, _, _, _, _, _, rfl, frKnow (k := Str.ofString "unseen") (frKnow (k := Str.ofString "rest") (frKnow (k := Str.ofString "head") (frKnow (k := Str.ofString "number") F2 rfl) rfl) rfl) rfl, N2, ?_⟩
      have := List.all_eq_true.mp hidden_run ((n.fdiv 7).fmod 27).toNat (List.mem_range.mpr (by omega))
      have e : (65024 + (n.fdiv 7).fmod 27).toNat = 65024 + ((n.fdiv 7).fmod 27).toNat := by omega
      rw [e]
      exact this
  case b =>
    rintro _ ⟨h2, tk2, u, tu, tr, tn, td, m₂, rfl, F2, N2, hu1⟩
    dsimp only
    have g2 : 0 ≤ n.fmod 7 := by rw [Int.fmod_eq_emod_of_nonneg _ (by decide)]; exact Int.emod_nonneg _ (by decide)
    have g3 : n.fmod 7 < 7 := by rw [Int.fmod_eq_emod_of_nonneg _ (by decide)]; exact Int.emod_lt_of_pos _ (by decide)
    k_steps
    refine Stop.intro ?_
    rename Fr _ _ _ _ => F9
    rename News _ _ _ _ => N9
    refine item_strL (ys := nameVals) (lob_is (N9 _ (.head _)).1) ?_ g2 (by show _ < (7 : Int); omega) (by omega) (fun t3 => ?_)
    · exact .cons _ _ (.cons _ _ (.cons _ _ (.cons _ _ (.cons _ _ (.cons _ _ (.cons _ _ .nil))))))
    rw [name_val (show (n.fmod 7).toNat < 7 by omega)]
    k_steps
    refine Stop.intro ?_
    refine itemS lig_text (by omega) (by show _ < (7 : Int); omega) (by decide) (fun t' k' => ?_)
    k_steps
    refine Stop.intro ?_
    refine joinAt (fun s' => ∃ h' tk' tl tt tnm tu tr tn td, ∃ m₂ : Str → Option Value, s' = { s with heap := h', toks := tk' } ∧ Fr s.heap s.heap.objs.size h' (fun y => if y = Str.ofString "typed" then some (.str (strL tl) tt) else if y = Str.ofString "name" then some (.str (strL (nameL.getD (n.fmod 7).toNat [])) tnm) else if y = Str.ofString "unseen" then some (.str (sg u) tu) else if y = Str.ofString "rest" then some (.int (n.fdiv 7) tr) else if y = Str.ofString "head" then some (.str (strL (headS d)) td) else if y = Str.ofString "number" then some (.int n tn) else m₂ y) ∧ prep tl = nameL.getD (n.fmod 7).toNat [] ∧ tl.length ≤ 5) ?c ?d
    case c =>
      rename Halt => HH
      clear HH
      k_steps
      · refine Stop.intro ?_
        rename Fr _ _ _ _ => F9
        rename News _ _ _ _ => N9
        have g4 : 0 ≤ ((n.fdiv 7).fdiv 81).fmod 10 := by rw [Int.fmod_eq_emod_of_nonneg _ (by decide)]; exact Int.emod_nonneg _ (by decide)
        have g5 : ((n.fdiv 7).fdiv 81).fmod 10 < 10 := by rw [Int.fmod_eq_emod_of_nonneg _ (by decide)]; exact Int.emod_lt_of_pos _ (by decide)
        refine item_intL (ys := alphaL) (lob_is (N9 _ (.head _)).1) ?_ g4 (by show _ < (10 : Int); omega) (by omega) (fun t3 => ?_)
        · exact .cons _ _ (.cons _ _ (.cons _ _ (.cons _ _ (.cons _ _ (.cons _ _ (.cons _ _ (.cons _ _ (.cons _ _ (.cons _ _ .nil)))))))))
        obtain ⟨g6, st, est, hst⟩ := alpha_start (show (((n.fdiv 7).fdiv 81).fmod 10).toNat < 10 by omega)
        have hst2 := start_small hst
        have g7 : alphaL.getD (((n.fdiv 7).fdiv 81).fmod 10).toNat 0 ≤ 12 := by omega
        k_steps
        refine Stop.intro ?_
        rename Fr _ _ _ _ => F8
        rename News _ _ _ _ => N8
        rename _ = Data.cell (some (Value.int _ _)) => d8
        rw [est] at d8
        have hst2 := start_small hst
        refine evalCS (cl := [(Str.ofString "start", s.heap.objs.size + 1)]) (fun _ => true) (fun c y => ∃ t, y = .str (sg (st + c - 97)) t) hA F8 N8 rfl ?q1 ?q2 ?q3 ?q4 rfl (by decide) rfl (by decide) rfl rfl rfl (by decide)
        case q1 =>
          show (nameL.getD (n.fmod 7).toNat []).length ≤ 1000
          exact Nat.le_trans (name_len _) (by decide)
        case q2 => exact fun C c u s₃ m₃ E' _ _ _ _ _ => wpAny_tests_nil ⟨rfl, s₃.heap, s₃.toks, rfl, fun _ _ e => e⟩
        case q3 =>
          intro C c u s₃ m₃ E' hC FC hc _ hm hE
          have hc2 := name_small (show (n.fmod 7).toNat < 7 by omega) hc
          have NC := news1 N8 (.tail _ (.tail _ (.head _))) hE hC
          clear hE hC F8 N8
          obtain ⟨h3, gn3, dr3, tk3, os3⟩ := s₃
          k_steps
          have ech : (↑st + ↑c - 97 : Int).toNat = st + c - 97 := by omega
          rw [ech]
          exact Stop.intro ⟨⟨_, rfl⟩, _, _, rfl, fun _ _ e => e⟩
        case q4 =>
          intro D ys nD h9 tk9 P9 F9 N9
          have Y9 := paired_strs P9
          rw [List.filter_eq_self.mpr (fun _ _ => rfl)] at Y9
          have l9 : (nameL.getD (n.fmod 7).toNat []).length ≤ 3 := name_len _
          clear F8 N8
          k_steps
          refine Stop.intro ?_
          refine joinS (lob_is (N9 _ (.head _)).1) Y9 (by show 1 ≤ 50; decide) (fun y hy => by
            obtain ⟨c, _, rfl⟩ := List.mem_map.mp hy
            show 1 ≤ 50; decide) (by rw [List.length_map]; exact Nat.le_trans l9 (by decide)) (fun t8 k8 => ?_)
          k_steps
          rename Fr _ _ _ _ => F7
          refine Stop.intro ⟨rfl, _, _, (Txt.join (strL [u]) ((nameL.getD (n.fmod 7).toNat []).map fun c => sg (st + c - 97))).cps.toList, _, _, _, _, _, _, _, rfl, frKnow (k := Str.ofString "typed") (frKnow (k := Str.ofString "name") (frKnow (k := Str.ofString "unseen") (frKnow (k := Str.ofString "rest") (frKnow (k := Str.ofString "head") (frKnow (k := Str.ofString "number") F7 rfl) rfl) rfl) rfl) rfl) rfl,
            prep_joined hu1 _ _ (fun c hc => prep_letter hst (by omega) hc), joined_len _ _ _ l9⟩
      · refine Stop.intro ?_
        rename Fr _ _ _ _ => F8
        rename News _ _ _ _ => N8
        rename _ = Data.cell (some (Value.int _ _)) => d8
        obtain ⟨st, est, hst⟩ : ∃ st : Nat, (65 : Int) = (st : Int) ∧ st ∈ (65 :: alphaL.map fun a => (119808 + 52 * a).toNat) := ⟨65, rfl, List.mem_cons_self⟩
        rw [est] at d8
        have hst2 := start_small hst
        refine evalCS (cl := [(Str.ofString "start", s.heap.objs.size + 1)]) (fun _ => true) (fun c y => ∃ t, y = .str (sg (st + c - 97)) t) hA F8 N8 rfl ?q1 ?q2 ?q3 ?q4 rfl (by decide) rfl (by decide) rfl rfl rfl (by decide)
        case q1 =>
          show (nameL.getD (n.fmod 7).toNat []).length ≤ 1000
          exact Nat.le_trans (name_len _) (by decide)
        case q2 => exact fun C c u s₃ m₃ E' _ _ _ _ _ => wpAny_tests_nil ⟨rfl, s₃.heap, s₃.toks, rfl, fun _ _ e => e⟩
        case q3 =>
          intro C c u s₃ m₃ E' hC FC hc _ hm hE
          have hc2 := name_small (show (n.fmod 7).toNat < 7 by omega) hc
          have NC := news1 N8 (.tail _ (.head _)) hE hC
          clear hE hC F8 N8
          obtain ⟨h3, gn3, dr3, tk3, os3⟩ := s₃
          k_steps
          have ech : (↑st + ↑c - 97 : Int).toNat = st + c - 97 := by omega
          rw [ech]
          exact Stop.intro ⟨⟨_, rfl⟩, _, _, rfl, fun _ _ e => e⟩
        case q4 =>
          intro D ys nD h9 tk9 P9 F9 N9
          have Y9 := paired_strs P9
          rw [List.filter_eq_self.mpr (fun _ _ => rfl)] at Y9
          have l9 : (nameL.getD (n.fmod 7).toNat []).length ≤ 3 := name_len _
          clear F8 N8
          k_steps
          refine Stop.intro ?_
          refine joinS (lob_is (N9 _ (.head _)).1) Y9 (by show 1 ≤ 50; decide) (fun y hy => by
            obtain ⟨c, _, rfl⟩ := List.mem_map.mp hy
            show 1 ≤ 50; decide) (by rw [List.length_map]; exact Nat.le_trans l9 (by decide)) (fun t8 k8 => ?_)
          k_steps
          rename Fr _ _ _ _ => F7
          refine Stop.intro ⟨rfl, _, _, (Txt.join (strL [u]) ((nameL.getD (n.fmod 7).toNat []).map fun c => sg (st + c - 97))).cps.toList, _, _, _, _, _, _, _, rfl, frKnow (k := Str.ofString "typed") (frKnow (k := Str.ofString "name") (frKnow (k := Str.ofString "unseen") (frKnow (k := Str.ofString "rest") (frKnow (k := Str.ofString "head") (frKnow (k := Str.ofString "number") F7 rfl) rfl) rfl) rfl) rfl) rfl,
            prep_joined hu1 _ _ (fun c hc => prep_letter hst (by omega) hc), joined_len _ _ _ l9⟩
      · rename Fr _ _ _ _ => F9
        refine Stop.intro ⟨rfl, _, _, [ligL.getD (n.fmod 7).toNat 0], _, _, _, _, _, _, _, rfl, frKnow (k := Str.ofString "typed") (frKnow (k := Str.ofString "name") (frKnow (k := Str.ofString "unseen") (frKnow (k := Str.ofString "rest") (frKnow (k := Str.ofString "head") (frKnow (k := Str.ofString "number") F9 rfl) rfl) rfl) rfl) rfl) rfl, prep_lig (by omega), by show 1 ≤ 5; decide⟩
    case d =>
      rintro _ ⟨h3, tk3, tl, tt, tnm, tu, tr, tn, td, m₂, rfl, F3, hp, hl⟩
      dsimp only
      have N3 : News s.heap s.heap.objs.size h3 [] := News.nil
      have g8 : 0 ≤ ((n.fdiv 7).fdiv 81).fmod 16 := by rw [Int.fmod_eq_emod_of_nonneg _ (by decide)]; exact Int.emod_nonneg _ (by decide)
      have g9 : ((n.fdiv 7).fdiv 81).fmod 16 < 16 := by rw [Int.fmod_eq_emod_of_nonneg _ (by decide)]; exact Int.emod_lt_of_pos _ (by decide)
      have l9 : (nameL.getD (n.fmod 7).toNat []).length ≤ 3 := name_len _
      have lh : (headS d).length ≤ 1 := by cases d <;> decide
      k_steps
      refine Stop.intro ?_
      refine itemS beside_text g8 (by show _ < (16 : Int); omega) (by decide) (fun t' k' => ?_)
      k_steps
      refine Stop.intro ?_
      refine addS (a := [32]) (b := [besideL.getD (((n.fdiv 7).fdiv 81).fmod 16).toNat 0]) (by decide +kernel) rfl (fun t' k => ?_) (by show 2 ≤ 1000; decide)
      generalize hb : besideL.getD (((n.fdiv 7).fdiv 81).fmod 16).toNat 0 = bs
      k_steps
      refine Stop.intro ?_
      refine addS (a := [u]) (b := headS d) rfl rfl (fun t' k => ?_) (by show 1 + _ ≤ _; omega)
      k_steps
      refine Stop.intro ?_
      refine addS (a := [u] ++ headS d) (b := [u]) rfl rfl (fun t' k => ?_) (by rw [List.length_append]; show 1 + _ + 1 ≤ _; omega)
      k_steps
      refine Stop.intro ?_
      refine addS (a := [u] ++ headS d ++ [u]) (b := tl) rfl rfl (fun t' k => ?_) (by rw [List.length_append, List.length_append]; show 1 + _ + 1 + _ ≤ _; omega)
      k_steps
      refine Stop.intro ?_
      refine addS (a := [u] ++ headS d ++ [u] ++ tl) (b := [32] ++ [bs]) rfl rfl (fun t' k => ?_) (by rw [List.length_append, List.length_append, List.length_append]; show 1 + _ + 1 + _ + 2 ≤ _; omega)
      k_steps
      refine Stop.intro ?_
      rename Fr _ _ _ _ => F8
      rename News _ _ _ _ => N8
      have ls : ([u] ++ headS d ++ [u] ++ tl ++ ([32] ++ [bs])).length ≤ 20 := by rw [List.length_append, List.length_append, List.length_append, List.length_append]; show 1 + _ + 1 + _ + 2 ≤ _; omega
      have hpr : prep ([u] ++ headS d ++ [u] ++ tl ++ ([32] ++ [bs])) = rowS n d := by
        rw [← hb, Int.fdiv_eq_ediv_of_nonneg _ (by decide), Int.fdiv_eq_ediv_of_nonneg _ (by decide), Int.fmod_eq_emod_of_nonneg _ (by decide)]
        exact prep_row n d u tl hu1 (by rw [hp, Int.fmod_eq_emod_of_nonneg _ (by decide)])
      have hme : headS d ++ nameL.getD (n.fmod 7).toNat [] ++ ([32] ++ [bs]) ++ [] = rowS n d := by
        rw [← hb, Int.fdiv_eq_ediv_of_nonneg _ (by decide), Int.fdiv_eq_ediv_of_nonneg _ (by decide), Int.fmod_eq_emod_of_nonneg _ (by decide), Int.fmod_eq_emod_of_nonneg _ (by decide)]
        unfold rowS bareS
        simp
      generalize hsg : [u] ++ headS d ++ [u] ++ tl ++ ([32] ++ [bs]) = sgs at *
      refine evalCS (cl := []) (fun c => !inB1 (c : Int)) (fun c y => ∃ t, y = .str (mapB3 c) t) hA F8 N8 rfl ?r1 ?r2 ?r3 ?r4 rfl (by decide) rfl (by decide) rfl rfl rfl (by decide)
      case r1 => exact Nat.le_trans (show sgs.length ≤ 20 from ls) (by decide)
      case r2 =>
        intro C c u s₃ m₃ E' hC FC hc hm hE
        have NC : News s.heap C s₃.heap [] := News.nil
        clear hE hC F8 N8
        obtain ⟨h3, gn3, dr3, tk3, os3⟩ := s₃
        refine wpAny_tests_one ?_
        k_steps
        refine b1_spec w N c u (O.ext (FC.keep)) (by show A.depth + 1 < 900; omega) (by show A.units + 3 < 9000; omega) (fun h4 tk4 x4 => ?_)
        have FC2 := Fr.ext FC x4
        have NC2 : News s.heap C h4 [] := News.nil
        clear FC NC
        cases hb1 : inB1 (c : Int)
        · k_steps
          exact Stop.intro ⟨by rw [hb1]; rfl, _, _, rfl, x4⟩
        · k_steps
          exact Stop.intro ⟨by rw [hb1]; rfl, _, _, rfl, x4⟩
      case r3 =>
        intro C c u s₃ m₃ E' hC FC hc _ hm hE
        have NC : News s.heap C s₃.heap [] := News.nil
        clear hE hC F8 N8
        obtain ⟨h3, gn3, dr3, tk3, os3⟩ := s₃
        k_steps
        refine b3_spec w N c u (O.ext (FC.keep)) (by show A.depth + 1 < 900; omega) (by show A.units + 3 < 9000; omega) (fun h4 tk4 t4 x4 => ?_)
        exact Stop.intro ⟨⟨_, rfl⟩, _, _, rfl, x4⟩
      case r4 =>
        intro D ys nD h9 tk9 P9 F9 N9
        have Y9 := paired_strs P9
        clear F8 N8
        k_steps
        refine Stop.intro ?_
        have ep : ((((strL sgs).cps.toList.filter fun (c : Nat) => !inB1 (c : Int)).map mapB3).flatMap fun y => y.cps.toList) = rowS n d := by
          rw [← hpr, List.flatMap_map]
          rfl
        refine joinS (lob_is (N9 _ (.head _)).1) Y9 (by show 0 ≤ 50; decide) (fun y hy => by
          have := mem_flat_len hy
          rw [ep] at this
          exact Nat.le_trans this (Nat.le_trans (row_len n d) (by decide))) (by rw [List.length_map]; exact Nat.le_trans (List.length_filter_le _ _) (Nat.le_trans ls (by decide))) (fun t8 k8 => ?_)
        have ej : Txt.join (Str.ofString "") (((strL sgs).cps.toList.filter fun (c : Nat) => !inB1 (c : Int)).map mapB3) = strL (rowS n d) := by
          have e0 : Str.ofString "" = strL [] := by decide +kernel
          rw [e0, join_empty, ep]
        rw [ej]
        k_steps
        refine Stop.intro ?_
        refine addS (a := headS d) (b := nameL.getD (n.fmod 7).toNat []) rfl rfl (fun t' k => ?_) (by omega)
        k_steps
        refine Stop.intro ?_
        refine addS (a := headS d ++ nameL.getD (n.fmod 7).toNat []) (b := [32] ++ [bs]) rfl rfl (fun t' k => ?_) (by rw [List.length_append]; show _ + 2 ≤ _; omega)
        k_steps
        rename Fr _ _ _ _ => F7
        rename News _ _ _ _ => N7
        refine b1_spec w N u _ (O.ext F7.keep) (by show A.depth + 1 < 900; omega) (by show A.units + 3 < 9000; omega) (fun h4 tk4 x4 => ?_)
        rw [hu1]
        have F6 := Fr.ext F7 x4
        have N6 := News.ext N7 x4
        clear F7 N7
        k_steps
        refine Stop.intro ?_
        refine addS (a := headS d ++ nameL.getD (n.fmod 7).toNat [] ++ ([32] ++ [bs])) (b := []) rfl (by decide +kernel) (fun t' k => ?_) (by rw [List.length_append, List.length_append]; show _ + 2 + 0 ≤ _; omega)
        rw [hme]
        k_steps
        rename Fr _ _ _ _ => F5
        rename News _ _ _ _ => N5
        exact hret _ _ _ _ _ F5.keep (N5 _ (.head _)).2.2 (N5 _ (.head _)).1
end
end
end
end
end
end
end
end
end
end
end
section
open PySem PySem.W PySem.Spec PySem.Calls PyProof.Rows
local macro_rules | `(tactic| walk_at "pyIter ref") => `(tactic| with_reducible refine st_d ?_)
section
open PySem PySem.W PySem.Spec PySem.Calls PyProof.Rows
local macro_rules | `(tactic| walk_at "eval Name") => `(tactic| ((with_reducible refine nm_sh ?_); refine nm_D ?_))
section
open PySem PySem.W PySem.Spec PySem.Calls PyProof.Rows
local macro_rules | `(tactic| walk_at "eval Name") => `(tactic| ((with_reducible refine nm_sh ?_); refine nm_L ?_))
section
open PySem PySem.W PySem.Spec PySem.Calls PyProof.Rows
local macro_rules | `(tactic| walk_at "subscriptTail Name Slice ref ref") => `(tactic| with_reducible refine st_j ?_)
section
open PySem PySem.W PySem.Spec PySem.Calls PyProof.Rows
local macro_rules | `(tactic| k_all) => `(tactic| assumption)
section
open PySem PySem.W PySem.Spec PySem.Calls PyProof.Rows
local macro_rules | `(tactic| walk_at "subscriptTail") => `(tactic| with_reducible refine st_j ?_)
section
open PySem PySem.W PySem.Spec PySem.Calls PyProof.Rows
local macro_rules | `(tactic| walk_at "eval ListComp") => `(tactic| with_reducible refine st_i ?_)
section
open PySem PySem.W PySem.Spec PySem.Calls PyProof.Rows
local macro_rules | `(tactic| walk_at "newList") => `(tactic| with_reducible refine st_k ?_)
section
open PySem PySem.W PySem.Spec PySem.Calls PyProof.Rows
local macro_rules | `(tactic| walk_at "Makes") => `(tactic| ((with_reducible show Makes _ _ _ _ _); refine Stop.out ?_))
/-! MV2 -/
section
open PySem PySem.W PySem.Spec PySem.Calls PyProof.Rows
section
variable {w : World} {N : Names} {A : Around} {g : Heap} {L l : Addr} {vs : List Value} {ns : List Int} {s : Shared} {m : Str → Option Value} {own : List (Addr × Obj)}
set_option maxHeartbeats 4000000 in
theorem law3 (W : LawF w N A g L l vs ns) (F : Fr g L s.heap m) (NW : News g L s.heap (own)) {D : Addr} {hs : List Value} {hz : List Int} {nh : Nat} (m1 : (D, lob hs nh) ∈ own) (hi : IntsAre hs hz) (hlz : hz.length ≤ 6) (hm1 : m (Str.ofString "hands") = some (.ref D)) :
    wpAny (model pw w) (A.deeper (envX (Str.ofString "law") (fSc (stm 19)) L 161 (.ref 160) (lawC L))) (exec (lawS 3) (envX (Str.ofString "law") (fSc (stm 19)) L 161 (.ref 160) (lawC L)))
      (fun f s' => Stop (f = .next ∧ ∃ h' tk, s' = { s with heap := h', toks := tk } ∧ ∃ D2 ys k nws, Fr g L h' (fun y => if y = Str.ofString "pages" then some (.ref D2) else m y) ∧ News g L h' ((D2, lob ys k) :: (nws ++ own)) ∧ (∀ q ∈ (D2, lob ys k) :: nws, ∀ p ∈ own, p.1 ≠ q.1) ∧ PagesIn nws ys hz)) (fun _ _ => False) s := by
  have _kf : (fun (_ : OpenLaw) (_ : Params → Frag) => True) PySem.Challenge.rw_rw0108_01 K := by (k_fill; trivial)
  clear _kf
  have es := (rfl : fSc (stm 19) = fSc (stm 19))
  conv at es => rhs; whnf
  have eb := (rfl : lawS 3 = lawS 3)
  conv at eb => rhs; whnf
  rw [es, eb]
  clear es eb
  have KX := W.O.K
  have T := W.O.T
  have hl := W.hl
  have hn := W.hn
  have hlen := W.hlen
  have hd := W.hd
  have hu := W.hu
  have hA := W.hA
  obtain ⟨h0, gn0, dr0, tk0, os0⟩ := s
  have e0 : Str.ofString "" = strL (headS false) := by decide +kernel
  have e1 : Str.ofString "." = strL (headS true) := by decide +kernel
  have hln := hi.length
  refine asgH (A := A.deeper _) (cl := []) PageG hA F NW hm1 (NW _ m1).1 (by unfold sizeLine; omega) ?g2 ?g3 rfl rfl (by decide) rfl (by decide) rfl rfl rfl rfl (by decide)
  case g2 =>
    intro C v s₃ m₃ E' hC FC hv hm hE
    obtain ⟨n, t, rfl⟩ := mem_ints hi v hv
    have N3 : News g C s₃.heap [] := News.nil
    clear hE hC F NW
    obtain ⟨h3, gn3, dr3, tk3, os3⟩ := s₃
    k_steps
    rw [e0]
    refine row_spec (A := A.deeper _) w N n false _ _ (W.O.ext FC.keep) (by show A.depth + 1 < 800; omega) (by show A.units + 3 < 8000; omega) hA (fun h4 tk4 T4 t1 t2 x4 n4 g4 => ?_)
    have F4 := Fr.ext FC x4
    have N4 : News g C h4 [] := News.nil
    k_steps
    rw [e1]
    refine row_spec (A := A.deeper _) w N n true _ _ (W.O.ext F4.keep) (by show A.depth + 1 < 800; omega) (by show A.units + 3 < 8000; omega) hA (fun h5 tk5 T5 t3 t4 x5 n5 g5 => ?_)
    have F5 := Fr.ext F4 x5
    have N5 : News g C h5 [] := News.nil
    k_steps
    refine Stop.intro ?_
    refine newListE (by show 2 ≤ 1000; decide) (fun h6 D6 x6 n6 g6 => ?_)
    have q4 : h3.get? T4 = none := n4
    have q5 : h3.get? T5 = none := by
      cases e : h3.get? T5 with
      | none => rfl
      | some o => exact absurd rfl (none_ne n5 (x4 _ _ e))
    have q6 : h3.get? D6 = none := by
      cases e : h3.get? D6 with
      | none => rfl
      | some o => exact absurd rfl (none_ne n6 (x5 _ _ (x4 _ _ e)))
    refine ⟨⟨[(D6, lob [.ref T4, .ref T5] 0), (T4, tup2 (.str (strL (rowS n false)) t1) (.str (strL (rowS n false)) t2)), (T5, tup2 (.str (strL (rowS n true)) t3) (.str (strL (rowS n true)) t4))], fun p hp => ?_, n, t, rfl, D6, 0, T4, T5, t1, t2, t3, t4, rfl, .head _, .tail _ (.head _), .tail _ (.tail _ (.head _))⟩, _, _, rfl, fun b o e => x6 _ _ (x5 _ _ (x4 _ _ e))⟩
    rcases List.mem_cons.mp hp with rfl | hp
    · exact ⟨q6, g6⟩
    · rcases List.mem_cons.mp hp with rfl | hp
      · exact ⟨q4, x6 _ _ (x5 _ _ g4)⟩
      · cases List.mem_singleton.mp hp
        exact ⟨q5, x6 _ _ g5⟩
  case g3 =>
    intro D2 ys k h' tk P3 F3 N3 hnew
    obtain ⟨nws, hC, P4⟩ := pages_all hi P3
    have hnL : ∀ p ∈ nws, p.1 ≠ L := fun p hp => by
      obtain ⟨_, _, _, ho, _⟩ := F.ns
      exact none_ne (hC p hp).1 ho
    refine Stop.intro ⟨rfl, _, _, rfl, D2, ys, k, nws, F3, ?_, ?_, P4⟩
    · intro p hp
      rcases List.mem_cons.mp hp with rfl | hp
      · exact N3 _ (.head _)
      · rcases List.mem_append.mp hp with hp | hp
        · refine ⟨(hC p hp).2.2, hnL p hp, ?_⟩
          cases e : g.get? p.1 with
          | none => rfl
          | some o => exact absurd rfl (none_ne (hC p hp).1 (F.keep _ _ e))
        · exact N3 p (.tail _ hp)
    · intro q hq
      rcases List.mem_cons.mp hq with rfl | hq
      · exact ne_news NW hnew
      · exact ne_news NW (hC q hq).1
set_option maxHeartbeats 4000000 in
theorem law4 (W : LawF w N A g L l vs ns) (F : Fr g L s.heap m) (NW : News g L s.heap (own)) {o1 : Obj} (m1 : (L + 1, o1) ∈ own) (d1 : o1.data = .cell (some (.ref l))) :
    wpAny (model pw w) (A.deeper (envX (Str.ofString "law") (fSc (stm 19)) L 161 (.ref 160) (lawC L))) (exec (lawS 4) (envX (Str.ofString "law") (fSc (stm 19)) L 161 (.ref 160) (lawC L)))
      (fun f s' => Stop (f = .next ∧ ∃ h' tk, s' = { s with heap := h', toks := tk } ∧ ∃ t, Fr g L h' (fun y => if y = Str.ofString "turn" then some (.int (ns.sum.fmod 8) t) else m y) ∧ News g L h' own)) (fun _ _ => False) s := by
  have _kf : (fun (_ : OpenLaw) (_ : Params → Frag) => True) PySem.Challenge.rw_rw0108_01 K := by (k_fill; trivial)
  clear _kf
  have es := (rfl : fSc (stm 19) = fSc (stm 19))
  conv at es => rhs; whnf
  have eb := (rfl : lawS 4 = lawS 4)
  conv at eb => rhs; whnf
  rw [es, eb]
  clear es eb
  have KX := W.O.K
  have T := W.O.T
  have hl := W.hl
  have hn := W.hn
  have hlen := W.hlen
  have hd := W.hd
  have hu := W.hu
  have hA := W.hA
  obtain ⟨h0, gn0, dr0, tk0, os0⟩ := s
  have N1 : News g L h0 ((L + 1, o1) :: own) := news_sub NW (fun p hp => by rcases List.mem_cons.mp hp with rfl | hp; exact m1; exact hp)
  clear NW
  k_steps
  refine sumE (A := A.deeper _) hA (F.lst hl) hn (fun h4 tk4 t4 x4 => ?_)
  have F4 := Fr.ext F x4
  have N4 := News.ext N1 x4
  clear F N1
  k_steps
  rename Fr _ _ _ _ => F9
  rename News _ _ _ _ => N9
  exact Stop.intro ⟨(by first | rfl | trivial), _, _, rfl, _, F9, news_sub N9 (fun p hp => List.mem_cons_of_mem _ hp)⟩
set_option maxHeartbeats 4000000 in
theorem law5 (W : LawF w N A g L l vs ns) (F : Fr g L s.heap m) (NW : News g L s.heap (own)) :
    wpAny (model pw w) (A.deeper (envX (Str.ofString "law") (fSc (stm 19)) L 161 (.ref 160) (lawC L))) (exec (lawS 5) (envX (Str.ofString "law") (fSc (stm 19)) L 161 (.ref 160) (lawC L)))
      (fun f s' => Stop (f = .next ∧ ∃ h' tk, s' = { s with heap := h', toks := tk } ∧ ∃ t, Fr g L h' (fun y => if y = Str.ofString "signs" then some (.str (Str.ofString "ﬆﬀßﬄﬁﬃﬂﬅ") t) else m y) ∧ News g L h' own)) (fun _ _ => False) s := by
  have _kf : (fun (_ : OpenLaw) (_ : Params → Frag) => True) PySem.Challenge.rw_rw0108_01 K := by (k_fill; trivial)
  clear _kf
  have es := (rfl : fSc (stm 19) = fSc (stm 19))
  conv at es => rhs; whnf
  have eb := (rfl : lawS 5 = lawS 5)
  conv at eb => rhs; whnf
  rw [es, eb]
  clear es eb
  have KX := W.O.K
  have T := W.O.T
  have hl := W.hl
  have hn := W.hn
  have hlen := W.hlen
  have hd := W.hd
  have hu := W.hu
  have hA := W.hA
  obtain ⟨h0, gn0, dr0, tk0, os0⟩ := s
  k_steps
  rename Fr _ _ _ _ => F9
  rename News _ _ _ _ => N9
  exact Stop.intro ⟨(by first | rfl | trivial), _, _, rfl, _, F9, N9⟩
set_option maxHeartbeats 4000000 in
theorem law6 (W : LawF w N A g L l vs ns) (F : Fr g L s.heap m) (NW : News g L s.heap (own)) :
    wpAny (model pw w) (A.deeper (envX (Str.ofString "law") (fSc (stm 19)) L 161 (.ref 160) (lawC L))) (exec (lawS 6) (envX (Str.ofString "law") (fSc (stm 19)) L 161 (.ref 160) (lawC L)))
      (fun f s' => Stop (f = .next ∧ ∃ h' tk, s' = { s with heap := h', toks := tk } ∧ ∃ D, Fr g L h' (fun y => if y = Str.ofString "shelf" then some (.ref D) else m y) ∧ News g L h' ((D, lob [] 0) :: own) ∧ (∀ p ∈ own, p.1 ≠ D))) (fun _ _ => False) s := by
  have _kf : (fun (_ : OpenLaw) (_ : Params → Frag) => True) PySem.Challenge.rw_rw0108_01 K := by (k_fill; trivial)
  clear _kf
  have es := (rfl : fSc (stm 19) = fSc (stm 19))
  conv at es => rhs; whnf
  have eb := (rfl : lawS 6 = lawS 6)
  conv at eb => rhs; whnf
  rw [es, eb]
  clear es eb
  have KX := W.O.K
  have T := W.O.T
  have hl := W.hl
  have hn := W.hn
  have hlen := W.hlen
  have hd := W.hd
  have hu := W.hu
  have hA := W.hA
  obtain ⟨h0, gn0, dr0, tk0, os0⟩ := s
  k_steps
  refine Stop.intro ?_
  refine newListE (by decide) (fun h6 D6 x6 n6 g6 => ?_)
  have F6 := Fr.ext F x6
  have N6 : News g L h6 ((D6, lob [] 0) :: own) := by
    intro p hp
    rcases List.mem_cons.mp hp with rfl | hp
    · refine ⟨g6, ?_, ?_⟩
      · obtain ⟨_, _, _, ho, _⟩ := F.ns
        exact none_ne n6 ho
      · cases e : g.get? D6 with
        | none => rfl
        | some o => exact absurd rfl (none_ne n6 (F.keep _ _ e))
    · exact News.ext NW x6 p hp
  have q := ne_news NW n6
  clear F NW
  k_steps
  rename Fr _ _ _ _ => F9
  rename News _ _ _ _ => N9
  exact Stop.intro ⟨(by first | rfl | trivial), _, _, rfl, _, F9, N9, q⟩
end
end
/-! MP5 -/
section
open PySem PySem.W PySem.Spec PySem.Calls PyProof.Rows
open PySem.Builtin PySem.Builtin.Str
noncomputable def ostep (s sub : PySem.Str) (hi limit : Nat) (st : Array Nat × Nat) (i : Nat) : Array Nat × Nat := if ((st.fst.size < limit ∧ st.snd ≤ i) ∧ i + sub.length ≤ hi) ∧ subAt s sub i = true then (st.fst.push i, i + sub.length) else (st.fst, st.snd)
theorem run_fold (s sub : PySem.Str) (hi limit : Nat) : ∀ (l : List Nat) (st : Array Nat × Nat), (forIn l st (StrLaws.occBody s sub hi limit)).run = l.foldl (ostep s sub hi limit) st
  | [], _ => rfl
  | a :: l, st => by
    rw [List.forIn_cons, List.foldl_cons, ← run_fold s sub hi limit l]
    unfold StrLaws.occBody ostep
    split <;> rfl
theorem occ_fold (s sub : PySem.Str) (hi limit : Nat) : occurrences s sub 0 hi limit = ((List.range' 0 (hi + 1)).foldl (ostep s sub hi limit) (#[], 0)).1.toList := by
  rw [StrLaws.occ_eq, run_fold]; rfl
noncomputable def joinL (c0 : Nat) (tl : List Nat) (rows : List (List Nat)) : List Nat := rows.flatMap (· ++ c0 :: tl)
noncomputable def cuts (w : Nat) : Nat → List (List Nat) → List Nat
  | _, [] => []
  | b, l :: r => (b + l.length) :: cuts w (b + l.length + w) r
theorem sub_at (T : List Nat) (sub : List Nat) (i : Nat) : subAt (strL T) (strL sub) i = ((T.drop i).take sub.length == sub) := by
  rw [StrLaws.subAt_eq]; rfl
theorem skip_fold {s sub : PySem.Str} {hi limit : Nat} : ∀ (l : List Nat) (st : Array Nat × Nat), (∀ i ∈ l, ¬ (((st.fst.size < limit ∧ st.snd ≤ i) ∧ i + sub.length ≤ hi) ∧ subAt s sub i = true)) → l.foldl (ostep s sub hi limit) st = st
  | [], _, _ => rfl
  | a :: l, st, h => by
    have e : ostep s sub hi limit st a = st := by
      unfold ostep
      rw [if_neg (h a List.mem_cons_self)]
    rw [List.foldl_cons, e]
    exact skip_fold l st fun i hi' => h i (List.mem_cons_of_mem _ hi')
theorem no_head {c0 : Nat} {tl T : List Nat} {i : Nat} (h : T[i]? ≠ some c0) : subAt (strL T) (strL (c0 :: tl)) i = false := by
  rw [sub_at]
  cases e : T.drop i with
  | nil => rfl
  | cons a r =>
    have : T[i]? = some a := by
      have := List.getElem?_drop (xs := T) (i := i) (j := 0)
      rw [e] at this
      simpa using this.symm
    rw [this] at h
    have hne : (a == c0) = false := beq_eq_false_iff_ne.mpr fun q => h (by rw [q])
    show ((a :: r).take (tl.length + 1) == c0 :: tl) = false
    rw [List.take_succ_cons]
    show (a == c0 && _) = false
    rw [hne]; rfl
theorem fold_rows (c0 : Nat) (tl : List Nat) (limit : Nat) (T last : List Nat) : ∀ (rows : List (List Nat)) (pre : List Nat) (st : Array Nat × Nat), (∀ l ∈ rows, c0 ∉ l) → T = pre ++ (joinL c0 tl rows ++ last) → st.2 ≤ pre.length → st.1.size + rows.length ≤ limit →
    ∃ f, f ≤ pre.length + (joinL c0 tl rows).length ∧ (List.range' pre.length (joinL c0 tl rows).length).foldl (ostep (strL T) (strL (c0 :: tl)) T.length limit) st = (st.1 ++ (cuts (tl.length + 1) pre.length rows).toArray, f)
  | [], pre, st, _, _, hf, _ => ⟨st.2, hf, by simp [joinL, cuts]⟩
  | l :: rows, pre, st, hl, hT, hf, hs => by
    have e1 : joinL c0 tl (l :: rows) = l ++ (c0 :: tl) ++ joinL c0 tl rows := rfl
    have hT2 : T = (pre ++ l ++ (c0 :: tl)) ++ (joinL c0 tl rows ++ last) := by rw [hT, e1]; simp only [List.append_assoc]
    have hlen : (pre ++ l ++ (c0 :: tl)).length = pre.length + l.length + (tl.length + 1) := by simp; omega
    have e2 : List.range' pre.length (joinL c0 tl (l :: rows)).length = List.range' pre.length l.length ++ ((pre.length + l.length) :: (List.range' (pre.length + l.length + 1) tl.length ++ List.range' (pre.length + l.length + (tl.length + 1)) (joinL c0 tl rows).length)) := by
      rw [e1, List.length_append, List.length_append, List.length_cons]
      rw [show l.length + (tl.length + 1) + (joinL c0 tl rows).length = l.length + ((tl.length + (joinL c0 tl rows).length) + 1) by omega]
      rw [← List.range'_append_1, List.range'_succ, ← List.range'_append_1]
      rw [show pre.length + l.length + 1 + tl.length = pre.length + l.length + (tl.length + 1) by omega]
    rw [e2, List.foldl_append, List.foldl_cons, List.foldl_append]
    rw [skip_fold (List.range' pre.length l.length) st ?_]
    · have hat : subAt (strL T) (strL (c0 :: tl)) (pre.length + l.length) = true := by
        rw [sub_at, hT, e1]
        have : (pre ++ (l ++ (c0 :: tl) ++ joinL c0 tl rows ++ last)).drop (pre.length + l.length) = (c0 :: tl) ++ (joinL c0 tl rows ++ last) := by
          rw [show pre ++ (l ++ (c0 :: tl) ++ joinL c0 tl rows ++ last) = (pre ++ l) ++ ((c0 :: tl) ++ (joinL c0 tl rows ++ last)) by simp only [List.append_assoc]]
          rw [← List.length_append, List.drop_left']
          rfl
        rw [this, List.take_left' rfl, beq_self_eq_true]
      have hle : pre.length + l.length + (strL (c0 :: tl)).length ≤ T.length := by
        rw [hT2, List.length_append, hlen]
        show pre.length + l.length + (tl.length + 1) ≤ _
        omega
      have est : ostep (strL T) (strL (c0 :: tl)) T.length limit st (pre.length + l.length) = (st.1.push (pre.length + l.length), pre.length + l.length + (tl.length + 1)) := by
        unfold ostep
        rw [if_pos ⟨⟨⟨by rw [List.length_cons] at hs; omega, by omega⟩, hle⟩, hat⟩]; rfl
      rw [est, skip_fold (List.range' (pre.length + l.length + 1) tl.length) _ ?_]
      · obtain ⟨f, h1, h2⟩ := fold_rows c0 tl limit T last rows (pre ++ l ++ (c0 :: tl)) (st.1.push (pre.length + l.length), pre.length + l.length + (tl.length + 1)) (fun x hx => hl x (List.mem_cons_of_mem _ hx)) hT2 (by show _ ≤ _; rw [hlen]; exact Nat.le_refl _) (by
          show (st.1.push _).size + _ ≤ _
          rw [Array.size_push]; rw [List.length_cons] at hs; omega)
        rw [hlen] at h1 h2
        refine ⟨f, ?_, ?_⟩
        · rw [e1, List.length_append, List.length_append, List.length_cons]; omega
        · rw [h2]
          show (st.1.push _ ++ _, f) = (st.1 ++ ((pre.length + l.length) :: cuts (tl.length + 1) (pre.length + l.length + (tl.length + 1)) rows).toArray, f)
          congr 1
          apply Array.ext'
          simp
      · intro i hi h
        have h1 := (List.mem_range'_1.mp hi)
        have h2 : pre.length + l.length + (tl.length + 1) ≤ i := h.1.1.2
        omega
    · intro i hi h
      have h1 := List.mem_range'_1.mp hi
      have : subAt (strL T) (strL (c0 :: tl)) i = false := no_head (by
        rw [hT, e1, List.getElem?_append_right h1.1, List.append_assoc, List.append_assoc, List.getElem?_append_left (by omega)]
        intro q
        exact hl l List.mem_cons_self (List.mem_of_getElem? q))
      rw [this] at h
      exact Bool.false_ne_true h.2
theorem joinL_len (c0 : Nat) (tl : List Nat) : ∀ rows : List (List Nat), rows.length * (tl.length + 1) ≤ (joinL c0 tl rows).length
  | [] => by simp
  | l :: rows => by
    have := joinL_len c0 tl rows
    have e1 : joinL c0 tl (l :: rows) = l ++ (c0 :: tl) ++ joinL c0 tl rows := rfl
    rw [e1, List.length_append, List.length_append, List.length_cons, List.length_cons, Nat.succ_mul]
    omega
theorem occ_rows (c0 : Nat) (tl : List Nat) (rows : List (List Nat)) (last : List Nat) (hl : ∀ l ∈ rows, c0 ∉ l) (hla : c0 ∉ last) :
    occurrences (strL (joinL c0 tl rows ++ last)) (strL (c0 :: tl)) 0 (joinL c0 tl rows ++ last).length ((joinL c0 tl rows ++ last).length + 1) = cuts (tl.length + 1) 0 rows := by
  have hJ := joinL_len c0 tl rows
  have hr : rows.length ≤ (joinL c0 tl rows).length := Nat.le_trans (Nat.le_mul_of_pos_right _ (Nat.succ_pos _)) hJ
  rw [occ_fold]
  obtain ⟨f, h1, h2⟩ := fold_rows c0 tl ((joinL c0 tl rows ++ last).length + 1) (joinL c0 tl rows ++ last) last rows [] (#[], 0) hl rfl (Nat.le_refl _) (by rw [List.length_append]; show 0 + _ ≤ _; omega)
  have h2' : (List.range' 0 (joinL c0 tl rows).length).foldl (ostep (strL (joinL c0 tl rows ++ last)) (strL (c0 :: tl)) (joinL c0 tl rows ++ last).length ((joinL c0 tl rows ++ last).length + 1)) (#[], 0) = (#[] ++ (cuts (tl.length + 1) 0 rows).toArray, f) := h2
  rw [show List.range' 0 ((joinL c0 tl rows ++ last).length + 1) = List.range' 0 (joinL c0 tl rows).length ++ List.range' (joinL c0 tl rows).length (last.length + 1) by
    rw [List.length_append, Nat.add_assoc, ← List.range'_append_1, Nat.zero_add]]
  rw [List.foldl_append, h2', skip_fold]
  · simp
  · intro i hi h
    have hi' := List.mem_range'_1.mp hi
    have : subAt (strL (joinL c0 tl rows ++ last)) (strL (c0 :: tl)) i = false := no_head (by
      rw [List.getElem?_append_right hi'.1]
      intro q
      exact hla (List.mem_of_getElem? q))
    rw [this] at h
    exact Bool.false_ne_true h.2
theorem sub_run (T : List Nat) (a c : Nat) : strSub (strL T) a c = strL ((T.drop a).take (c - a)) := by
  refine PySem.Str.ext' (Array.ext' ?_)
  show ((strL T).cps.extract a c).toList = _
  rw [Array.toList_extract, List.extract_eq_take_drop]
  rfl
theorem parts_rows (c0 : Nat) (tl : List Nat) (T last : List Nat) : ∀ (rows : List (List Nat)) (pre : List Nat), T = pre ++ (joinL c0 tl rows ++ last) → StrLaws.partsFrom (strL T) (tl.length + 1) pre.length (cuts (tl.length + 1) pre.length rows) = rows.map strL ++ [strL last]
  | [], pre, hT => by
    show [strSub (strL T) pre.length (strL T).length] = [strL last]
    rw [sub_run, hT]
    congr 2
    have e : (strL (pre ++ (joinL c0 tl [] ++ last))).length = pre.length + last.length := by show (pre ++ ([] ++ last)).length = _; simp
    rw [e, List.drop_left', List.take_of_length_le]
    · rfl
    · show ([] ++ last).length ≤ _; simp
    · rfl
  | l :: rows, pre, hT => by
    have e1 : joinL c0 tl (l :: rows) = l ++ (c0 :: tl) ++ joinL c0 tl rows := rfl
    have hT2 : T = (pre ++ l ++ (c0 :: tl)) ++ (joinL c0 tl rows ++ last) := by rw [hT, e1]; simp only [List.append_assoc]
    have hlen : (pre ++ l ++ (c0 :: tl)).length = pre.length + l.length + (tl.length + 1) := by simp; omega
    have ih := parts_rows c0 tl T last rows (pre ++ l ++ (c0 :: tl)) hT2
    rw [hlen] at ih
    show strSub (strL T) pre.length (pre.length + l.length) :: StrLaws.partsFrom (strL T) (tl.length + 1) (pre.length + l.length + (tl.length + 1)) (cuts (tl.length + 1) (pre.length + l.length + (tl.length + 1)) rows) = strL l :: (rows.map strL ++ [strL last])
    rw [ih, sub_run, hT, e1]
    congr 2
    rw [List.drop_left' rfl, show pre.length + l.length - pre.length = l.length by omega, List.append_assoc, List.append_assoc, List.take_left' rfl]
theorem split_lines (c0 : Nat) (tl : List Nat) (hk : ((c0 :: tl).all fun c => decide (c < 256)) = true) (rows : List (List Nat)) (last : List Nat) (hl : ∀ l ∈ rows, c0 ∉ l) (hla : c0 ∉ last) :
    Txt.split (strL (joinL c0 tl rows ++ last)) (strL (c0 :: tl)) = rows.map strL ++ [strL last] := by
  have ho := occ_rows c0 tl rows last hl hla
  have hp := parts_rows c0 tl (joinL c0 tl rows ++ last) last rows [] rfl
  unfold Txt.split
  rw [show (strL (joinL c0 tl rows ++ last)).length = (joinL c0 tl rows ++ last).length from rfl, ho]
  cases rows with
  | nil =>
    have e : (cuts (tl.length + 1) 0 []).isEmpty = true := rfl
    rw [if_pos e, ite_self]
    rfl
  | cons l rows =>
    have hJ := joinL_len c0 tl (l :: rows)
    have h1 : decide ((joinL c0 tl (l :: rows) ++ last).length < (strL (c0 :: tl)).length) = false := by
      refine decide_eq_false ?_
      show ¬ ((joinL c0 tl (l :: rows) ++ last).length < tl.length + 1)
      rw [List.length_append]
      rw [List.length_cons, Nat.succ_mul] at hJ
      omega
    have h2 : decide (Builtin.Str.strKind (strL (joinL c0 tl (l :: rows) ++ last)) < Builtin.Str.strKind (strL (c0 :: tl))) = false := by
      refine decide_eq_false ?_
      have e : Builtin.Str.strKind (strL (c0 :: tl)) = 1 := by
        unfold Builtin.Str.strKind
        rw [if_pos]
        show ((c0 :: tl).toArray.all fun c => decide (c < 256)) = true
        rw [List.all_toArray]; exact hk
      rw [e]
      unfold Builtin.Str.strKind
      split
      · omega
      · split <;> omega
    rw [h1, h2]
    have e : (cuts (tl.length + 1) 0 (l :: rows)).isEmpty = false := rfl
    rw [if_neg (by decide), e, if_neg Bool.false_ne_true, StrLaws.partsBetween_eq]
    exact hp
end
/-! MP6 -/
section
open PySem PySem.W PySem.Spec PySem.Calls PyProof.Rows
open PySem.Builtin PySem.Builtin.Str
theorem take_dots (b : List Nat) (hb : b.head? ≠ some 46) : ∀ d, (List.replicate d 46 ++ b).takeWhile (fun c => (Str.ofString ".").cps.contains c) = List.replicate d 46
  | 0 => by
    cases b with
    | nil => rfl
    | cons a r =>
      have : (Str.ofString ".").cps.contains a = false := by
        have e : (Str.ofString ".").cps = #[46] := by decide +kernel
        rw [e]
        cases q : (#[46] : Array Nat).contains a with
        | false => rfl
        | true =>
          rw [Array.contains_iff_mem] at q
          have : a = 46 := by simpa using q
          exact absurd (by rw [this]; rfl) hb
      show (a :: r).takeWhile _ = []
      rw [List.takeWhile_cons, this]; rfl
  | d + 1 => by
    have e : (Str.ofString ".").cps.contains 46 = true := by decide +kernel
    rw [List.replicate_succ, List.cons_append, List.takeWhile_cons, e, if_pos rfl, take_dots b hb d]
theorem lstrip_dots (b : List Nat) (hb : b.head? ≠ some 46) (d : Nat) : Txt.lstripChars (strL (List.replicate d 46 ++ b)) (Str.ofString ".") = strL b := by
  unfold Txt.lstripChars
  rw [PyProof.Rows.stripBy_eq]
  have e1 : stripLo (Str.ofString ".").cps.contains true (strL (List.replicate d 46 ++ b)) = d := by
    unfold stripLo
    rw [if_pos rfl]
    show ((List.replicate d 46 ++ b).takeWhile (fun c => (Str.ofString ".").cps.contains c)).length = d
    rw [take_dots b hb d, List.length_replicate]
  have e2 : stripHi (Str.ofString ".").cps.contains false (strL (List.replicate d 46 ++ b)) d = d + b.length := by
    unfold stripHi
    rw [if_neg Bool.false_ne_true]
    show (List.replicate d 46 ++ b).length = _
    rw [List.length_append, List.length_replicate]
  rw [e1, e2, sub_run, List.drop_left' (List.length_replicate ..), List.take_of_length_le (by omega)]
theorem his_dots (ns : List Int) (N k : Nat) : hisRow ns N k = List.replicate (if dotAt ns k then N - k + 1 else 0) 46 ++ bareS (ns.getD k 0) := by
  unfold hisRow rowS
  cases dotAt ns k with
  | false => rfl
  | true =>
    rw [if_pos rfl, if_pos rfl, List.replicate_succ']
    simp [headS]
theorem word_his (ns : List Int) (N k : Nat) : wordOf (strL (hisRow ns N k)) = strL (nameL.getD (ns.getD k 0 % 7).toNat []) := by
  rw [his_dots]
  unfold wordOf
  rw [lstrip_dots _ (bare_head _)]
  have e : Str.ofString " " = strL [32] := by decide +kernel
  have hs := split_lines 32 [] (by decide) [nameL.getD (ns.getD k 0 % 7).toNat []] [besideL.getD (ns.getD k 0 / 7 / 81 % 16).toNat 0] (fun l hl => by
    rw [List.mem_singleton] at hl
    subst hl
    intro h
    rcases getD_mem_or nameL (ns.getD k 0 % 7).toNat [] with q | q
    · have := List.all_eq_true.mp (List.all_eq_true.mp name_all _ q) 32 h
      exact absurd this (by decide)
    · rw [q] at h; cases h) (fun h => by
    rw [List.mem_singleton] at h
    have h0 : 0 ≤ ns.getD k 0 / 7 / 81 % 16 := Int.emod_nonneg _ (by decide)
    have h1 : ns.getD k 0 / 7 / 81 % 16 < 16 := Int.emod_lt_of_pos _ (by decide)
    have := List.all_eq_true.mp beside_all _ (getD_lt besideL (ns.getD k 0 / 7 / 81 % 16).toNat 0 (by show _ < 16; omega))
    rw [decide_eq_true_eq] at this
    omega)
  have e2 : bareS (ns.getD k 0) = joinL 32 [] [nameL.getD (ns.getD k 0 % 7).toNat []] ++ [besideL.getD (ns.getD k 0 / 7 / 81 % 16).toNat 0] := by
    unfold bareS joinL
    simp
  rw [e, e2, hs]
  rfl
theorem dots_his (ns : List Int) (N k : Nat) : dotsOf (strL (hisRow ns N k)) = (((if dotAt ns k then N - k + 1 else 0) : Nat) : Int) := by
  unfold dotsOf
  rw [his_dots, lstrip_dots _ (bare_head _)]
  show ((List.replicate _ 46 ++ bareS _).length : Int) - ((bareS _).length : Int) = _
  rw [List.length_append, List.length_replicate]
  omega
theorem mail_split (rows : List (List Nat)) (h : ∀ l ∈ rows, LineOk l) : Txt.split (strL (mailOf rows)) (Str.ofString "\r\n") = rows.map strL ++ [strL []] := by
  have e : Str.ofString "\r\n" = strL [13, 10] := by decide +kernel
  have e2 : mailOf rows = joinL 13 [10] rows ++ [] := by rw [List.append_nil]; rfl
  rw [e, e2]
  exact split_lines 13 [10] (by decide) rows [] (fun l hl q => (h l hl 13 q).2 rfl) (by simp)
noncomputable def twinA : List Nat := [64256, 64259, 64260, 64257, 64258, 223, 64262, 64261]
noncomputable def twinB : List Nat := [64256, 64259, 64260, 64257, 64258, 223, 64261, 64262]
noncomputable def shelfE (k : Nat) : List Nat := if k = 0 then twinA else twinB
theorem ranksA : (List.range 7).all (fun r => rankOf twinA (strL (nameL.getD r [])) == r) = true := by decide +kernel
theorem ranksB : (List.range 7).all (fun r => rankOf twinB (strL (nameL.getD r [])) == r) = true := by decide +kernel
theorem rank_shelf (k r : Nat) (hr : r < 7) : rankOf (shelfE k) (strL (nameL.getD r [])) = r := by
  unfold shelfE
  split
  · exact eq_of_beq (List.all_eq_true.mp ranksA r (List.mem_range.mpr hr))
  · exact eq_of_beq (List.all_eq_true.mp ranksB r (List.mem_range.mpr hr))
noncomputable def sgL : List Nat := [64262, 64256, 223, 64260, 64257, 64259, 64258, 64261]
/-- one sign put on the shelf -/
noncomputable def insS (cs : List Nat) (c : Nat) : List Nat := insAt cs (bis (fun i => !ltS (mapB3 c) (mapB3 (cs.getD i 0))) cs.length 0 cs.length) c
theorem shelf_all : (List.range 8).all (fun k => (sgL.drop k ++ sgL.take k).foldl insS [] == shelfE k) = true := by decide +kernel
theorem shelf_is (k : Nat) (hk : k < 8) : (sgL.drop k ++ sgL.take k).foldl insS [] = shelfE k := eq_of_beq (List.all_eq_true.mp shelf_all k (List.mem_range.mpr hk))
/-- the rows as heard -/
theorem stage_rev (ns : List Int) (N i : Nat) : (stage ns N i).reverse = (List.range i).map (hisRow ns N) := by unfold stage; rw [List.reverse_reverse]
theorem heard_words (ns : List Int) (N i k : Nat) : (((stage ns N i).map strL).reverse.map fun y => (rankOf (shelfE k) (wordOf y) : Int)) = (List.range i).map fun j => ns.getD j 0 % 7 := by
  rw [← List.map_reverse, stage_rev, List.map_map, List.map_map]
  refine List.map_congr_left fun j _ => ?_
  show ((rankOf (shelfE k) (wordOf (strL (hisRow ns N j))) : Nat) : Int) = _
  have h0 : 0 ≤ ns.getD j 0 % 7 := Int.emod_nonneg _ (by decide)
  have h1 : ns.getD j 0 % 7 < 7 := Int.emod_lt_of_pos _ (by decide)
  rw [word_his, rank_shelf k _ (by omega)]
  omega
theorem heard_dots (ns : List Int) (N i : Nat) : (((stage ns N i).map strL).reverse.map dotsOf) = (List.range i).map fun j => (((if dotAt ns j then N - j + 1 else 0) : Nat) : Int) := by
  rw [← List.map_reverse, stage_rev, List.map_map, List.map_map]
  exact List.map_congr_left fun j _ => dots_his ns N j
end
end
end
end
end
end
end
end
end
end
section
open PySem PySem.W PySem.Spec PySem.Calls PyProof.Rows
local macro_rules | `(tactic| walk_at "assign Tuple") => `(tactic| with_reducible refine st_b ?_)
section
open PySem PySem.W PySem.Spec PySem.Calls PyProof.Rows
local macro_rules | `(tactic| walk_at "exec For") => `(tactic| with_reducible refine st_c ?_)
section
open PySem PySem.W PySem.Spec PySem.Calls PyProof.Rows
local macro_rules | `(tactic| walk_at "exec For Name Call cons nil") => `(tactic| with_reducible refine st_c ?_)
section
open PySem PySem.W PySem.Spec PySem.Calls PyProof.Rows
local macro_rules | `(tactic| walk_at "pyIter ref") => `(tactic| with_reducible refine st_d ?_)
section
open PySem PySem.W PySem.Spec PySem.Calls PyProof.Rows
local macro_rules | `(tactic| walk_at "binaryOp Add str str") => `(tactic| with_reducible refine st_e ?_)
section
open PySem PySem.W PySem.Spec PySem.Calls PyProof.Rows
local macro_rules | `(tactic| walk_at "binaryOp Mult str int") => `(tactic| with_reducible refine st_f ?_)
section
open PySem PySem.W PySem.Spec PySem.Calls PyProof.Rows
local macro_rules | `(tactic| walk_at "subscriptTail") => `(tactic| with_reducible refine st_g ?_)
/-! ML2 -/
section
open PySem PySem.W PySem.Spec PySem.Calls PyProof.Rows
theorem unpackH {w : World} {A : Around} {E : Value → Shared → Prop} {s : Shared} {h₀ : Heap} {L f t : Addr} {m : Str → Option Value} {cn : Str} {cs : Scope} {cd : Value} {cl : List (Str × Addr)} {a b : Str} {pa pb pos : Pos} {k : Nat} {v1 v2 : Value} {Q : Unit → Shared → Prop}
    (hh : A.handled = none) (F : Fr h₀ L s.heap m) (ht : s.heap.get? t = some ({ cls := .type "tuple", data := .seq #[v1, v2] } : Obj))
    (hk : cs.kind = .function) (ha : (envX cn cs L f cd cl).kindOf a = some .local) (hb : (envX cn cs L f cd cl).kindOf b = some .local)
    (h : ∀ h' tk, Fr h₀ L h' (fun y => if y = b then some v2 else if y = a then some v1 else m y) → (∀ b o, b ≠ L → s.heap.get? b = some o → h'.get? b = some o) → Q () { s with heap := h', toks := tk }) :
    wpAny (model pw w) A (assign (.Tuple [.Name a pa, .Name b pb] k pos) (envX cn cs L f cd cl) (.ref t)) Q E s := by
  refine wpAny_assign_Tuple (items := #[v1, v2]) hh ⟨_, ht, rfl, 0, rfl⟩ rfl rfl (fun h1 x1 => ?_)
  have F1 : Fr h₀ L h1 m := ⟨F.ns.extBut x1 (Nat.ne_of_lt F.ns.lt), fun b o e => x1 b o (Nat.ne_of_lt (Heap.lt_size (F.keep b o e))) (F.keep b o e), F.above⟩
  have up : ∀ b o, s.heap.get? b = some o → h1.get? b = some o := fun b o e => x1 b o (Nat.ne_of_lt (Heap.lt_size e)) e
  show wpAny _ _ (do holding [v2] (assign (.Name a pa) (envX cn cs L f cd cl) v1); do holding [] (assign (.Name b pb) (envX cn cs L f cd cl) v2); pure ()) _ _ _
  refine wpAny_bind (wpAny_holding (wpAny_assign_Name (wpAny_storeName_local ha F1.ns (fun h2 n2 s2 => ?_) (by show (cs.kind == .class || _) = false; rw [hk]; rfl))))
  have F2 := F1.set n2 s2
  refine wpAny_bind (wpAny_holding (wpAny_assign_Name (wpAny_storeName_local hb F2.ns (fun h3 n3 s3 => ?_) (by show (cs.kind == .class || _) = false; rw [hk]; rfl))))
  have F3 := F2.set n3 s3
  exact wpAny_pure (h _ _ F3 fun b o hb e => (s3.2 b hb).trans ((s2.2 b hb).trans (up b o e)))
theorem dotA {ns : List Int} {i : Nat} (h : ¬ 0 < (i : Int)) : decide (0 < (i : Int)) = dotAt ns i := by
  unfold dotAt
  rw [decide_eq_false h, decide_eq_false (by omega)]; rfl
theorem dotB {ns : List Int} {i : Nat} (h : 0 < (i : Int)) : decide ((ns.getD ((i : Int) - 1).toNat 0).fmod 7 ≤ (ns.getD ((i : Nat) : Int).toNat 0).fmod 7) = dotAt ns i := by
  unfold dotAt
  have e1 : ((i : Int) - 1).toNat = i - 1 := by omega
  rw [e1, Int.toNat_natCast, decide_eq_true (show 0 < i by omega), Int.fmod_eq_emod_of_nonneg _ (by decide), Int.fmod_eq_emod_of_nonneg _ (by decide)]; rfl
noncomputable abbrev sentM (l1 l2 : Addr) (d : Bool) (i : Nat) (x y : List Nat) (t t1 t2 : Tok) (m₁ : Str → Option Value) : Str → Option Value := fun z => if z = Str.ofString "dot" then some (.bool d) else if z = Str.ofString "due" then some (.str (strL y) t2) else if z = Str.ofString "mail" then some (.str (strL x) t1) else if z = Str.ofString "pages" then some (.ref l2) else if z = Str.ofString "hands" then some (.ref l1) else if z = Str.ofString "place" then some (.int (i : Int) t) else m₁ z
noncomputable def sentJ (l1 l2 : Addr) (ns : List Int) (i : Nat) (m : Str → Option Value) (_ : Heap) : Prop := ∃ t1 t2, m (Str.ofString "hands") = some (.ref l1) ∧ m (Str.ofString "pages") = some (.ref l2) ∧
  m (Str.ofString "mail") = some (.str (strL (mailOf (stage ns i i))) t1) ∧ m (Str.ofString "due") = some (.str (strL (mailOf (stage ns ns.length i))) t2)
set_option maxHeartbeats 2000000 in
theorem sent_spec (w : World) (N : Names) (l1 l2 : Addr) {A : Around} {s : Shared} {Q : Value → Shared → Prop} {E : Value → Shared → Prop} (O : Okh w N s.heap) (hd : A.depth < 800) (hu : A.units < 8000) (hA : A.handled = none)
    (hs : List Value) (nh : Nat) (ns : List Int) (ps : List Value) (np : Nat) (h1 : s.heap.get? l1 = some (lob hs nh)) (hi : IntsAre hs ns) (hn : ns.length ≤ 6)
    (h2 : s.heap.get? l2 = some (lob ps np)) (hP : Pages s.heap ps ns)
    (hret : ∀ h' tk T t1 t2, Ext s.heap h' → s.heap.get? T = none → h'.get? T = some { cls := .type "tuple", data := .seq #[.str (strL (mailOf (stage ns ns.length ns.length))) t1, .str (strL (mailOf (stage ns ns.length ns.length))) t2] } → Q (.ref T) { s with heap := h', toks := tk }) : wpAny (model pw w) A (call (.ref 151) [.ref l1, .ref l2] []) Q E s := by
  have _kf : (fun (_ : OpenLaw) (_ : Params → Frag) => True) PySem.Challenge.rw_rw0108_01 K := by (k_fill; trivial)
  clear _kf
  refine enterP (f := 151) (binds := [(Str.ofString "hands", .ref l1), (Str.ofString "pages", .ref l2)]) O rfl rfl rfl rfl (BindsTo.of_eq rfl) (Nat.lt_trans hd (by decide)) (by decide) (locs rfl) rfl rfl rfl ?_
  intro h₁ F0
  show wpAny (model pw w) (A.deeper (envOf (Str.ofString "_law_sent") (fSc (stm 17)) s.heap.objs.size 151 (.ref 150))) (execs (fBody (stm 17)) (envOf (Str.ofString "_law_sent") (fSc (stm 17)) s.heap.objs.size 151 (.ref 150))) _ _ { s with heap := h₁, toks := s.toks + 2 }
  have es := (rfl : fSc (stm 17) = fSc (stm 17))
  conv at es => rhs; whnf
  have eb := (rfl : fBody (stm 17) = fBody (stm 17))
  conv at eb => rhs; whnf
  rw [es, eb]
  clear es eb
  have KX := O.K
  have T := O.T
  have N0 : News s.heap s.heap.objs.size h₁ [] := News.nil
  have hlen := hi.length
  have i1 := lob_is h1
  have i2 := lob_is h2
  have hsz : hs.length < 1000 := by omega
  k_steps
  refine Stop.intro ?_
  rename Fr _ _ _ _ => F1
  rename News _ _ _ _ => N1
  refine unpack2 (cl := []) ?a1 F1 N1 (.head _) rfl rfl rfl ?a2
  case a1 => exact hA
  intro h2 tk2 F2 N2
  clear F1 N1
  k_steps
  refine Stop.intro ?_
  refine wpAny_For ?_ (by intro _; rfl)
  k_steps
  refine Stop.intro ?_
  rename IsRange _ _ _ _ _ _ _ _ => hr
  rename Fr _ _ _ _ => F1
  rename News _ _ _ _ => N1
  refine iterRange (fun _ => False) (sentJ l1 l2 ns) ns.length hA hr ?g1 rfl F1 ?g2 (fun _ x => x.elim) (fun _ _ _ _ x _ => x) ?turn ?done rfl rfl
  case g1 => exact small_one (by decide) (by decide) (by omega) (by omega)
  case g2 => exact ⟨_, _, rfl, rfl, rfl, rfl⟩
  case done =>
    intro h tk m' F3 ⟨t1, t2, e1, e2, e3, e4⟩ K3
    have F4 := frKnow (frKnow F3 (k := Str.ofString "mail") e3) (k := Str.ofString "due") ((if_neg (by decide)).trans e4)
    have N4 : News s.heap s.heap.objs.size h [] := News.nil
    clear F1 N1 F3
    k_steps
    rename Fr _ _ _ _ => F5
    rename News _ _ _ _ => N5
    exact hret _ _ _ _ _ F5.keep (N5 _ (.head _)).2.2 (N5 _ (.head _)).1
  case turn =>
    intro i t m₁ h tk own hi' ⟨t1, t2, e1, e2, e3, e4⟩ F3 K3 N4
    have F4 := frKnow (frKnow (frKnow (frKnow F3 (k := Str.ofString "hands") ((if_neg (by decide)).trans e1)) (k := Str.ofString "pages") ((if_neg (by decide)).trans ((if_neg (by decide)).trans e2))) (k := Str.ofString "mail") ((if_neg (by decide)).trans ((if_neg (by decide)).trans ((if_neg (by decide)).trans e3)))) (k := Str.ofString "due") ((if_neg (by decide)).trans ((if_neg (by decide)).trans ((if_neg (by decide)).trans ((if_neg (by decide)).trans e4))))
    have N4 : News s.heap s.heap.objs.size h own := N4
    clear F1 N1 F3 hr
    refine seq1 (fun s' => ∃ h' tk' m₂, s' = { s with heap := h', toks := tk' } ∧ Fr s.heap s.heap.objs.size h' (sentM l1 l2 (dotAt ns i) i (mailOf (stage ns i i)) (mailOf (stage ns ns.length i)) t t1 t2 m₂) ∧ News s.heap s.heap.objs.size h' own) ?first ?rest
    case first =>
      k_steps
      · rename Fr _ _ _ _ => F5
        rename News _ _ _ _ => N5
        exact Stop.intro ⟨rfl, _, _, _, rfl, frRe (v' := .bool (dotAt ns i)) F5 (by rw [dotB (ns := ns) (i := i) (by assumption)]), N5⟩
      · rename Fr _ _ _ _ => F5
        rename News _ _ _ _ => N5
        exact Stop.intro ⟨rfl, _, _, _, rfl, frRe (v' := .bool (dotAt ns i)) F5 (by rw [dotA (ns := ns) (i := i) (by assumption)]), N5⟩
    case rest =>
      clear F4 N4 K3 e1 e2 e3 e4
      rintro _ ⟨h6, tk6, m₂, rfl, F6, N6⟩
      obtain ⟨v, ev, p, k, a, b, u1, u2, u3, u4, rfl, q1, q2, q3⟩ := hP.get i hi'
      k_steps
      refine item_at (F6.lst i2) (Int.natCast_nonneg i) (by omega) (by rw [Int.toNat_natCast]; exact ev) ?_
      have i3 := lob_is q1
      cases hdd : dotAt ns i
      all_goals
        rw [hdd] at F6
        k_steps
        refine Stop.intro ?_
        rename Fr _ _ _ _ => F7
        rename News _ _ _ _ => N7
        refine unpackH (cl := []) hA F7 (by first | exact F7.keep _ _ q2 | exact F7.keep _ _ q3) rfl rfl rfl ?_
        intro h8 tk8 F8 K8
        have N8 : News s.heap s.heap.objs.size h8 _ := fun p hp => ⟨K8 _ _ (N7 p hp).2.1 (N7 p hp).1, (N7 p hp).2⟩
        clear F7 N7 K8
        k_steps
        refine Stop.intro ?_
        rename Fr _ _ _ _ => F9
        rename News _ _ _ _ => N9
        have g0 : 0 ≤ (ns.getD i 0).fmod 3 := by rw [Int.fmod_eq_emod_of_nonneg _ (by decide)]; exact Int.emod_nonneg _ (by decide)
        have g1 : (ns.getD i 0).fmod 3 < 3 := by rw [Int.fmod_eq_emod_of_nonneg _ (by decide)]; exact Int.emod_lt_of_pos _ (by decide)
        obtain ⟨tn, en⟩ := nl_item _ _ _ _ g0 g1
        refine item_at (lob_is (N9 _ (.head _)).1) g0 (Int.lt_trans g1 (by decide)) en ?_
        have b1 := bare_len (ns.getD i 0)
        have b2 : (nlOf ((ns.getD i 0).fmod 3).toNat).length ≤ 2 := nl_len _
        have b3 := stage_len ns i i (by omega) (by omega)
        have b4 := stage_len ns ns.length i (by omega) (by omega)
        k_steps
        refine Stop.intro ?_
        have b0 : (headS (dotAt ns i)).length ≤ 1 := by cases dotAt ns i <;> decide
        rw [hdd] at b0
        refine addS (a := rowS (ns.getD i 0) _) (b := nlOf _) rfl rfl (fun t' k => ?_) (by unfold rowS; rw [List.length_append]; omega)
        k_steps
        refine Stop.intro ?_
        refine addS (a := rowS (ns.getD i 0) _ ++ nlOf _) (b := mailOf (stage ns i i)) rfl rfl (fun t' k => ?_) (by unfold rowS; rw [List.length_append, List.length_append]; omega)
        k_steps
        refine quote_spec w N _ _ (O.ext (Fr.keep (by assumption))) (by show A.depth + 1 < 900; omega) (by show A.units + 3 < 9000; omega) (by
          show (rowS (ns.getD i 0) _ ++ nlOf _ ++ mailOf (stage ns i i)).length < 100000
          unfold rowS
          rw [List.length_append, List.length_append, List.length_append]
          omega) (fun h10 tk10 y ty x10 hy => ?_)
        have hy2 : y = strL (mailOf (stage ns (i + 1) (i + 1))) := by
          rw [← sent_step, hdd, ← quote_law _ _ _ (rowS_line _ _) (stage_line ns i i)]
          exact PySem.Str.ext' (Array.ext' hy)
        subst hy2
        rename Fr _ _ _ _ => F11
        rename News _ _ _ _ => N11
        have F12 := Fr.ext F11 x10
        have N12 := News.ext N11 x10
        clear F11 N11
        k_steps
        refine Stop.intro ?_
        obtain ⟨kk, hkk⟩ : ∃ kk, kk = if dotAt ns i then ns.length - i else 0 := ⟨_, rfl⟩
        have hk6 : kk ≤ 6 := by rw [hkk]; split <;> omega
        refine mulS (k := kk) (fun t' k => ?_) (by rw [hkk, hdd]; simp <;> omega) (by omega)
        k_steps
        refine Stop.intro ?_
        refine addS (a := List.replicate kk 46) (b := rowS (ns.getD i 0) _) rfl rfl (fun t' k => ?_) (by unfold rowS; rw [List.length_append, List.length_replicate]; omega)
        k_steps
        refine Stop.intro ?_
        refine addS (a := List.replicate kk 46 ++ rowS (ns.getD i 0) _) (b := [13, 10]) rfl (by decide +kernel) (fun t' k => ?_) (by unfold rowS; rw [List.length_append, List.length_append, List.length_replicate]; show _ + 2 ≤ _; omega)
        k_steps
        refine Stop.intro ?_
        refine addS (a := List.replicate kk 46 ++ rowS (ns.getD i 0) _ ++ [13, 10]) (b := mailOf (stage ns ns.length i)) rfl rfl (fun t' k => ?_) (by unfold rowS; rw [List.length_append, List.length_append, List.length_append, List.length_replicate]; show _ + 2 + _ ≤ _; omega)
        k_steps
        rename Fr _ _ _ _ => F13
        rename News _ _ _ _ => N13
        refine ⟨rfl, _, _, _, rfl, F13, (fun p hp => N13 p (by first | exact hp | exact List.mem_cons_of_mem _ hp | exact List.mem_cons_of_mem _ (List.mem_cons_of_mem _ hp))), _, t', rfl, rfl, rfl, ?_⟩
        show some (Value.str (strL _) t') = some (Value.str _ t')
        rw [stage_succ, mailOf_cons]
        unfold hisRow
        rw [hdd] at hkk ⊢
        rw [← hkk]
end
end
end
end
end
end
end
end
section
open PySem PySem.W PySem.Spec PySem.Calls PyProof.Rows
local macro_rules | `(tactic| walk_at "eval Name") => `(tactic| ((with_reducible refine nm_sh ?_); refine nm_C ?_))
section
open PySem PySem.W PySem.Spec PySem.Calls PyProof.Rows
local macro_rules | `(tactic| walk_at "eval Name") => `(tactic| ((with_reducible refine nm_sh ?_); refine nm_L ?_))
section
open PySem PySem.W PySem.Spec PySem.Calls PyProof.Rows
local macro_rules | `(tactic| walk_at "exec Assign cons ListComp") => `(tactic| with_reducible refine st_h ?_)
section
open PySem PySem.W PySem.Spec PySem.Calls PyProof.Rows
local macro_rules | `(tactic| walk_at "eval ListComp") => `(tactic| with_reducible refine st_i ?_)
section
open PySem PySem.W PySem.Spec PySem.Calls PyProof.Rows
local macro_rules | `(tactic| walk_at "subscriptTail") => `(tactic| with_reducible refine st_j ?_)
section
open PySem PySem.W PySem.Spec PySem.Calls PyProof.Rows
local macro_rules | `(tactic| walk_at "call builtin:str.split") => `(tactic| ((with_reducible show wpAny _ _ (call (Value.builtin "str.split") _) _ _ _); (rename InElt _ _ => kI); refine Stop.out ?_))
/-! ML3 -/
section
open PySem PySem.W PySem.Spec PySem.Calls PyProof.Rows
set_option maxHeartbeats 2000000 in
theorem heard_spec (w : World) (N : Names) (x : Str) (t : Tok) (l : Addr) (vs : List Value) (nv : Nat) (cs : List Nat) {A : Around} {s : Shared} {Q : Value → Shared → Prop} {E : Value → Shared → Prop} (O : Okh w N s.heap) (hd : A.depth < 800) (hu : A.units < 8000)
    (rows : List Str) (last : Str) (hsp : Txt.split x (Str.ofString "\r\n") = rows ++ [last]) (hrl : rows.length < 100) (hx : x.cps.size < 100000) (hA : A.handled = none) (hvs : s.heap.get? l = some (lob vs nv)) (hcs : StrsAre vs (cs.map sg)) (hlc : cs.length < 100)
    (hret : ∀ h' tk T D8 ys8 n8 D6 ys6 n6, Ext s.heap h' → News s.heap s.heap.objs.size h' [(T, { cls := .type "tuple", data := .seq #[.ref D8, .ref D6] }), (D8, lob ys8 n8), (D6, lob ys6 n6)] →
      IntsAre ys8 (rows.reverse.map fun y => (rankOf cs (wordOf y) : Int)) → IntsAre ys6 (rows.reverse.map dotsOf) → Q (.ref T) { s with heap := h', toks := tk }) : wpAny (model pw w) A (call (.ref 156) [.str x t, .ref l] []) Q E s := by
  have _kf : (fun (_ : OpenLaw) (_ : Params → Frag) => True) PySem.Challenge.rw_rw0108_01 K := by (k_fill; trivial)
  clear _kf
  refine enterC (f := 156) (binds := [(Str.ofString "mail", .str x t), (Str.ofString "shelf", .ref l)]) O rfl rfl rfl (BindsTo.of_eq rfl) (Nat.lt_trans hd (by decide)) (fun n => kinds_of ⟨.inl rfl, .inr ⟨rfl, rfl⟩, trivial⟩) (by decide) rfl rfl rfl ?_
  intro h₁ tk₁ cells F0 N0 Y
  have F1 : Fr s.heap s.heap.objs.size h₁ (fun y => if y = Str.ofString "mail" then some (.str x t) else none) := F0
  have Y1 := CellsAre.one (n := Str.ofString "shelf") (c := s.heap.objs.size + 1) Y
  obtain ⟨o1, rfl, d1⟩ := Y1
  have d1 : o1.data = .cell (some (.ref l)) := d1
  clear F0 Y
  show wpAny (model pw w) (A.deeper (envX (Str.ofString "_law_heard") (fSc (stm 18)) s.heap.objs.size 156 (.ref 155) [(Str.ofString "shelf", s.heap.objs.size + 1)])) (execs (fBody (stm 18)) (envX (Str.ofString "_law_heard") (fSc (stm 18)) s.heap.objs.size 156 (.ref 155) [(Str.ofString "shelf", s.heap.objs.size + 1)])) _ _ { s with heap := h₁, toks := tk₁ }
  have es := (rfl : fSc (stm 18) = fSc (stm 18))
  conv at es => rhs; whnf
  have eb := (rfl : fBody (stm 18) = fBody (stm 18))
  conv at eb => rhs; whnf
  rw [es, eb]
  clear es eb
  have KX := O.K
  have T := O.T
  k_steps
  rename_i l1 h2 k2 e1 e2 e3 e4 F2 N2
  have RS := rows_are (e1.trans hsp)
  have hl1 : l1.length = rows.length + 1 := by rw [← List.length_map (f := (·.1)) (as := l1), e1.trans hsp, List.length_append]; rfl
  have hshort : ∀ y ∈ rows.reverse, y.length < 100000 := fun y hy => Nat.lt_of_le_of_lt (e3 y (by rw [e1.trans hsp]; exact List.mem_append_left _ (List.mem_reverse.mp hy))) hx
  have hsl : (strValues l1).toArray.size ≤ sizeLine := by rw [List.size_toArray]; unfold strValues sizeLine; rw [List.length_map]; omega
  have hrs : (kms_pick (strValues l1).toArray.toList none (some (-1))).toArray.toList.reverse.length ≤ sizeLine := by rw [StrsAre.length RS, List.length_reverse]; unfold sizeLine; omega
  refine Stop.intro ?_
  dsimp only
  refine kba_turn (value' := PySem.Expr.Name (Str.ofString "_") ⟨0, 0, 0, 0⟩) (fun _ => rfl) ?_
  refine kms_slice_lit (s := { s with heap := h2, toks := k2 + 1 + 1 }) F2 N2 e4 .none (.int _ _) rfl ?h ?hs ?ht ?hz
  case hs => with_unfolding_all rfl
  case ht => exact fun _ => rfl
  case hz => exact hsl
  intro D2 h3 F3 N3 l3
  k_steps
  refine Stop.intro ?_
  dsimp only
  refine kba_turn (value' := PySem.Expr.Name (Str.ofString "_") ⟨0, 0, 0, 0⟩) (fun _ => rfl) ?_
  refine krv_lit (ops := [.ref D2, .ref h3.objs.size]) (s := { s with heap := h3, toks := _ }) F3 N3 ⟨_, (N3 _ (.head _)).1, rfl, 0, rfl⟩ (.int _ _) rfl ?r1 ?r2 ?r3 ?r4
  case r2 => with_unfolding_all rfl
  case r3 => exact fun _ => rfl
  case r4 => rw [List.size_toArray, ← List.length_reverse]; exact hrs
  intro D4 h5 F5 N5 l5
  k_steps
  refine Stop.intro ?_
  rename Fr _ _ _ _ => F7
  rename News _ _ _ _ => N7
  refine asgCL (cl := []) dotsR ?a0 F7 N7 rfl (.head _) ?a1 ?a2 ?a3 rfl rfl (by decide) rfl (by decide) rfl rfl rfl rfl (by decide)
  case a0 => exact hA
  case a1 => exact hrs
  case a2 =>
    intro C v s₃ m₃ E' hC FC hv hm hE
    obtain ⟨y, ty, rfl, hmy⟩ := strs_at RS v hv
    have NC : News s.heap C s₃.heap [] := News.nil
    have hy : y.length < 100000 := hshort y hmy
    clear hv hE hC F7 N7
    obtain ⟨h3, gn3, dr3, tk3, os3⟩ := s₃
    k_steps
    · exact ⟨_, _, _, rfl, rfl⟩
    · exact ⟨_, _, rfl, fun _ _ e => e⟩
  case a3 =>
    intro D6 ys6 n6 h8 tk8 P6 F8 N8
    clear F7 N7
    k_steps
    refine Stop.intro ?_
    refine asgCL (cl := []) wordR ?b0 F8 N8 rfl (.tail _ (.head _)) ?b1 ?b2 ?b3 rfl rfl (by decide) rfl (by decide) rfl rfl rfl rfl (by decide)
    case b0 => exact hA
    case b1 => exact hrs
    case b2 =>
      intro C v s₃ m₃ E' hC FC hv hm hE
      obtain ⟨y, ty, rfl, hmy⟩ := strs_at RS v hv
      have NC : News s.heap C s₃.heap [] := News.nil
      have hy : y.length < 100000 := hshort y hmy
      clear hv hE hC F8 N8
      obtain ⟨h3, gn3, dr3, tk3, os3⟩ := s₃
      k_steps
      refine Stop.intro ?_
      rename Fr _ _ _ _ => F9
      refine splitE (by decide) (fun l9 h9 k9 e9 x9 g9 => ?_) (by omega)
      have F10 := Fr.ext F9 x9
      have i9 : (h9.IsList _ (strValues l9).toArray) := lob_is g9
      have a9 := strsAre_of_values l9
      clear F9
      k_steps
      · rename_i hlook yy tt hyy
        refine ⟨_, _, tt, rfl, ?_⟩
        rw [hlook] at hyy
        cases hsp2 : Txt.split (Txt.lstripChars y (Str.ofString ".")) (Str.ofString " ") with
        | nil => rw [hsp2] at hyy; cases hyy
        | cons a b => rw [hsp2] at hyy; cases hyy; unfold wordOf; rw [hsp2]; rfl
      · exact ⟨_, _, rfl, x9⟩
    case b3 =>
      intro D7 ys7 n7 h9 tk9 P7 F9 N9
      clear F8 N8
      k_steps
      refine Stop.intro ?_
      refine evalCL (cl := [(Str.ofString "shelf", s.heap.objs.size + 1)]) (rankR cs) ?c0 F9 N9 rfl (.head _) ?c1 ?c2 ?c3 rfl (by decide) rfl (by decide) rfl rfl rfl (by decide)
      case c0 => exact hA
      case c1 => rw [StrsAre.length (words_strs RS P7), List.length_map, List.length_reverse]; unfold sizeLine; omega
      case c2 =>
        intro C v s₃ m₃ E' hC FC hv hm hE
        obtain ⟨y, ty, rfl, _⟩ := strs_at (words_strs RS P7) v hv
        have c1 : s₃.heap.get? (s.heap.objs.size + 1) = some o1 := hE _ _ (N9 (s.heap.objs.size + 1, o1) (.tail _ (.tail _ (.tail _ (.tail _ (.tail _ (.head _))))))).1
        have c2 : s.heap.objs.size + 1 < C := Nat.lt_trans (Heap.lt_size (N9 (s.heap.objs.size + 1, o1) (.tail _ (.tail _ (.tail _ (.tail _ (.tail _ (.head _))))))).1) hC
        have NC : News s.heap C s₃.heap [(s.heap.objs.size + 1, o1)] := by
          intro p hp
          cases List.mem_singleton.mp hp
          exact ⟨c1, Nat.ne_of_lt c2, (N9 (s.heap.objs.size + 1, o1) (.tail _ (.tail _ (.tail _ (.tail _ (.tail _ (.head _))))))).2.2⟩
        clear hv hE hC F9 N9
        obtain ⟨h3, gn3, dr3, tk3, os3⟩ := s₃
        k_steps
        refine bl_str w N l vs cs y ty tk3 ⟨[.ref l, .str y ty, .int 0 tk3, .none], [(Str.ofString "key", .ref 139)]⟩ (O.ext FC.keep) (by show A.depth + 1 < 890; omega) (by show A.units + 3 < 8900; omega)
          (lob_is (FC.keep _ _ hvs)) hcs (by omega) (fun fd e => by cases e; exact BindsTo.of_defaults (T := 50) (o := o50 w.params) rfl ((O.ext FC.keep).K 50 _ rfl) rfl rfl rfl) (fun h4 tk4 t4 e4 => ?_)
        exact ⟨⟨_, _, _, rfl, rfl⟩, _, _, rfl, e4⟩
      case c3 =>
        intro D8 ys8 n8 h10 tk10 P8 F10 N10
        clear F9 N9
        k_steps
        rename_i T8 h11 F11 N11 l11
        refine hret _ _ T8 D8 ys8 n8 D6 ys6 n6 F11.keep (fun p hp => ?_) (by have := ranks_ints (words_strs RS P7) P8; rwa [List.map_map] at this) (dots_ints RS P6)
        rcases List.mem_cons.mp hp with rfl | hp
        · exact N11 _ (.head _)
        · rcases List.mem_cons.mp hp with rfl | hp
          · exact N11 _ (.tail _ (.head _))
          · cases List.mem_singleton.mp hp
            exact N11 _ (.tail _ (.tail _ (.tail _ (.head _))))
end
end
end
end
end
end
end
section
open PySem PySem.W PySem.Spec PySem.Calls PyProof.Rows
local macro_rules | `(tactic| walk_at "pyIter ref") => `(tactic| with_reducible refine st_d ?_)
section
open PySem PySem.W PySem.Spec PySem.Calls PyProof.Rows
local macro_rules | `(tactic| walk_at "eval Name") => `(tactic| ((with_reducible refine nm_sh ?_); refine nm_D ?_))
section
open PySem PySem.W PySem.Spec PySem.Calls PyProof.Rows
local macro_rules | `(tactic| walk_at "eval Name") => `(tactic| ((with_reducible refine nm_sh ?_); refine nm_L ?_))
section
open PySem PySem.W PySem.Spec PySem.Calls PyProof.Rows
local macro_rules | `(tactic| walk_at "subscriptTail Name Slice ref ref") => `(tactic| with_reducible refine st_j ?_)
section
open PySem PySem.W PySem.Spec PySem.Calls PyProof.Rows
local macro_rules | `(tactic| k_all) => `(tactic| assumption)
section
open PySem PySem.W PySem.Spec PySem.Calls PyProof.Rows
local macro_rules | `(tactic| walk_at "subscriptTail") => `(tactic| with_reducible refine st_j ?_)
section
open PySem PySem.W PySem.Spec PySem.Calls PyProof.Rows
local macro_rules | `(tactic| walk_at "eval ListComp") => `(tactic| with_reducible refine st_i ?_)
section
open PySem PySem.W PySem.Spec PySem.Calls PyProof.Rows
local macro_rules | `(tactic| walk_at "newList") => `(tactic| with_reducible refine st_k ?_)
section
open PySem PySem.W PySem.Spec PySem.Calls PyProof.Rows
local macro_rules | `(tactic| walk_at "Makes") => `(tactic| ((with_reducible show Makes _ _ _ _ _); refine Stop.out ?_))
section
open PySem PySem.W PySem.Spec PySem.Calls PyProof.Rows
local macro_rules | `(tactic| walk_at "pyIter str") => `(tactic| with_reducible refine st_l ?_)
section
open PySem PySem.W PySem.Spec PySem.Calls PyProof.Rows
local macro_rules | `(tactic| walk_at "TurnE") => `(tactic| ((with_reducible show TurnE _ _ _ _ _ _ _); refine Stop.out ?_))
section
open PySem PySem.W PySem.Spec PySem.Calls PyProof.Rows
local macro_rules | `(tactic| walk_at "binaryOp Add str str") => `(tactic| with_reducible refine st_e ?_)
/-! MV3 -/
section
open PySem PySem.W PySem.Spec PySem.Calls PyProof.Rows
section
variable {w : World} {N : Names} {A : Around} {g : Heap} {L l : Addr} {vs : List Value} {ns : List Int} {s : Shared} {m : Str → Option Value} {own : List (Addr × Obj)}
theorem slices_all : (List.range 8).all (fun k => (Txt.slice (Str.ofString "ﬆﬀßﬄﬁﬃﬂﬅ") (some (k : Int)) none).cps.toList == sgL.drop k && (Txt.slice (Str.ofString "ﬆﬀßﬄﬁﬃﬂﬅ") none (some (k : Int))).cps.toList == sgL.take k) = true := by decide +kernel
theorem slices_at {k : Nat} (hk : k < 8) : (Txt.slice (Str.ofString "ﬆﬀßﬄﬁﬃﬂﬅ") (some (k : Int)) none).cps.toList = sgL.drop k ∧ (Txt.slice (Str.ofString "ﬆﬀßﬄﬁﬃﬂﬅ") none (some (k : Int))).cps.toList = sgL.take k := by
  have := List.all_eq_true.mp slices_all k (List.mem_range.mpr hk)
  rw [Bool.and_eq_true] at this
  exact ⟨eq_of_beq this.1, eq_of_beq this.2⟩
theorem insS_len (cs : List Nat) (c : Nat) : (insS cs c).length = cs.length + 1 := by
  unfold insS insAt
  rw [List.length_append, List.length_cons, List.length_take, List.length_drop]
  omega
theorem sgL_len (k : Nat) : (sgL.drop k).length + (sgL.take k).length ≤ 16 := by
  rw [List.length_drop, List.length_take]
  show 8 - k + min k 8 ≤ 16
  omega
noncomputable def RotAt (g : Heap) (L : Addr) (m : Str → Option Value) (news : List (Addr × Obj)) (k : Nat) (s : Shared) (xv : Value) (s₁ : Shared) : Prop :=
  ∃ x t h₁ tk, xv = .str x t ∧ x.cps.toList = sgL.drop k ++ sgL.take k ∧ s₁ = { s with heap := h₁, toks := tk } ∧ Fr g L h₁ m ∧ News g L h₁ news
set_option maxHeartbeats 4000000 in
theorem law7 {D : Addr} (W : LawF w N A g L l vs ns) (F : Fr g L s.heap m) (NW : News g L s.heap ((D, lob [] 0) :: own)) {k : Nat} {tt ts : Tok} (hne : ∀ p ∈ own, p.1 ≠ D) (hk : k < 8) (hsig : m (Str.ofString "signs") = some (.str (Str.ofString "ﬆﬀßﬄﬁﬃﬂﬅ") ts)) (hturn : m (Str.ofString "turn") = some (.int (k : Int) tt)) (hsh : m (Str.ofString "shelf") = some (.ref D)) :
    wpAny (model pw w) (A.deeper (envX (Str.ofString "law") (fSc (stm 19)) L 161 (.ref 160) (lawC L))) (exec (lawS 7) (envX (Str.ofString "law") (fSc (stm 19)) L 161 (.ref 160) (lawC L)))
      (fun f s' => Stop (f = .next ∧ ∃ h' tk, s' = { s with heap := h', toks := tk } ∧ ∃ m' vs' n', (∀ y, y ≠ Str.ofString "sign" → m' y = m y) ∧ Fr g L h' m' ∧ News g L h' ((D, lob vs' n') :: own) ∧ StrsAre vs' ((shelfE k).map sg))) (fun _ _ => False) s := by
  have _kf : (fun (_ : OpenLaw) (_ : Params → Frag) => True) PySem.Challenge.rw_rw0108_01 K := by (k_fill; trivial)
  clear _kf
  have es := (rfl : fSc (stm 19) = fSc (stm 19))
  conv at es => rhs; whnf
  have eb := (rfl : lawS 7 = lawS 7)
  conv at eb => rhs; whnf
  rw [es, eb]
  clear es eb
  have KX := W.O.K
  have T := W.O.T
  have hl := W.hl
  have hn := W.hn
  have hlen := W.hlen
  have hd := W.hd
  have hu := W.hu
  have hA := W.hA
  obtain ⟨h0, gn0, dr0, tk0, os0⟩ := s
  refine wpAny_For (wpAny_mono (?ev : wpAny _ _ _ (fun xv s₁ => Stop (RotAt g L m ((D, lob [] 0) :: own) k ⟨h0, gn0, dr0, tk0, os0⟩ xv s₁)) _ _) (fun xv s₁ hx => ?loop) fun _ _ e => e) (by intro _; rfl)
  case ev =>
    have F1 := frKnow (frKnow F (k := Str.ofString "signs") hsig) (k := Str.ofString "turn") ((if_neg (by decide)).trans hturn)
    clear F
    k_steps
    refine Stop.intro ?_
    refine addS (slices_at hk).1 (slices_at hk).2 (fun t' k' => ?_) (Nat.le_trans (sgL_len k) (by decide))
    rename Fr _ _ _ _ => F9
    rename News _ _ _ _ => N9
    exact Stop.intro ⟨_, _, _, _, rfl, rfl, rfl, Fr.cast F9 (fun y => (know_eq (m := fun y => if y = Str.ofString "signs" then some (Value.str (Str.ofString "ﬆﬀßﬄﬁﬃﬂﬅ") ts) else m y) ((if_neg (by decide)).trans hturn) y).trans (know_eq hsig y)), N9⟩
  case loop =>
    obtain ⟨x, t, h₁, tk, rfl, hcps, rfl, F1, N1⟩ := Stop.out hx
    clear hx F NW
    have hD1 := (N1 _ (.head _)).1
    have hDL := (N1 _ (.head _)).2.1
    have hgD := (N1 _ (.head _)).2.2
    have hsz : x.cps.size = (sgL.drop k ++ sgL.take k).length := by rw [← hcps]; exact (Array.length_toList (xs := x.cps)).symm
    have hs16 : x.cps.size ≤ 16 := by rw [hsz, List.length_append]; exact sgL_len k
    refine iterStr (A := A.deeper _) (h₀ := g) (m := m) (fun b => b = D) (fun i m₁ h => (∀ y, y ≠ Str.ofString "sign" → m₁ y = m y) ∧ ∃ vs' n', h.get? D = some (lob vs' n') ∧ StrsAre vs' ((((sgL.drop k ++ sgL.take k).take i).foldl insS []).map sg) ∧ (((sgL.drop k ++ sgL.take k).take i).foldl insS []).length ≤ i) hA F1 ⟨fun _ _ => rfl, [], 0, hD1, .nil, Nat.le_refl _⟩ (fun b e => e ▸ Heap.lt_size hD1) ?stab ?turn ?done rfl rfl
    case stab =>
      rintro i m₁ h h' ⟨a1, vs', n', a2, a3, a4⟩ hk'
      exact ⟨a1, vs', n', hk' _ _ hDL (Heap.lt_size hD1) a2, a3, a4⟩
    case done =>
      rintro h tk' m' F2 ⟨a1, vs', n', a2, a3, a4⟩ hE
      rw [hsz, List.take_length, shelf_is k hk] at a3
      refine Stop.intro ⟨(by first | rfl | trivial), _, _, rfl, m', vs', n', a1, F2, ?_, a3⟩
      intro p hp
      rcases List.mem_cons.mp hp with rfl | hp
      · exact ⟨a2, hDL, (N1 _ (.head _)).2.2⟩
      · have z := N1 p (.tail _ hp)
        exact ⟨hE _ _ z.2.1 (hne p hp) z.1, z.2⟩
    case turn =>
      rintro i c tc m₁ h tk' own' hc ⟨a1, vs', n', a2, a3, a4⟩ F2 hE N2 hO
      have hi : i < 16 := by
        have := (Array.getElem?_eq_some_iff.mp hc).1
        omega
      have F3 := frKnow F2 (k := Str.ofString "shelf") ((if_neg (by decide)).trans ((a1 _ (by decide)).trans hsh))
      clear F1 N1 F2
      k_steps
      refine insort_spec w N D vs' n' (((sgL.drop k ++ sgL.take k).take i).foldl insS []) c tc (W.O.ext (Fr.keep (by assumption))) (by show A.depth + 1 < 880; omega) (by show A.units + 3 < 8800; omega) a2 a3 (by omega) (fun h5 tk5 vs5 x5 g5 i5 => ?_)
      have F5 : Fr g L h5 _ := ⟨F3.ns.at' fun o e => x5 _ _ (Ne.symm hDL) e, fun b o e => x5 _ _ (fun q => by rw [q, hgD] at e; cases e) (F3.keep _ _ e), F3.above⟩
      have N5 : News g L h5 own' := fun p hp => ⟨x5 _ _ (hO p hp) (N2 p hp).1, (N2 p hp).2⟩
      k_steps
      have hT : (sgL.drop k ++ sgL.take k)[i]? = some c := by rw [← hcps, Array.getElem?_toList]; exact hc
      have etk : (sgL.drop k ++ sgL.take k).take (i + 1) = (sgL.drop k ++ sgL.take k).take i ++ [c] := by rw [List.take_add_one, hT]; rfl
      have efo : ((sgL.drop k ++ sgL.take k).take (i + 1)).foldl insS [] = insS (((sgL.drop k ++ sgL.take k).take i).foldl insS []) c := by rw [etk, List.foldl_append]; rfl
      refine Stop.intro ⟨rfl, _, _, _, rfl, F5, N5, fun y hy => ?_, vs5, n' + 1, g5, by rw [efo]; exact i5, ?_⟩
      · show (if y = Str.ofString "shelf" then some (Value.ref D) else if y = Str.ofString "sign" then _ else m₁ y) = m y
        by_cases q : y = Str.ofString "shelf"
        · rw [if_pos q, q]; exact hsh.symm
        · rw [if_neg q, if_neg hy]; exact a1 y hy
      · rw [efo, insS_len]
        omega
end
end
end
end
end
section
open PySem PySem.W PySem.Spec PySem.Calls PyProof.Rows
local macro_rules | `(tactic| walk_at "assign Tuple") => `(tactic| with_reducible refine st_b ?_)
/-! MV4 -/
section
open PySem PySem.W PySem.Spec PySem.Calls PyProof.Rows
section
variable {w : World} {N : Names} {A : Around} {g : Heap} {L l : Addr} {vs : List Value} {ns : List Int} {s : Shared} {m : Str → Option Value} {own : List (Addr × Obj)}
theorem news_new {g h h' : Heap} {L D : Addr} {m : Str → Option Value} {own : List (Addr × Obj)} {o : Obj} (F : Fr g L h m) (NW : News g L h own) (x : Ext h h') (n : h.get? D = none) (e : h'.get? D = some o) : News g L h' ((D, o) :: own) := by
  intro p hp
  rcases List.mem_cons.mp hp with rfl | hp
  · refine ⟨e, ?_, ?_⟩
    · obtain ⟨_, _, _, ho, _⟩ := F.ns
      exact none_ne n ho
    · cases q : g.get? D with
      | none => rfl
      | some o' => exact absurd rfl (none_ne n (F.keep _ _ q))
  · exact News.ext NW x p hp
set_option maxHeartbeats 4000000 in
theorem law8 (W : LawF w N A g L l vs ns) (F : Fr g L s.heap m) (NW : News g L s.heap (own)) {Dh Dp : Addr} {hs ys : List Value} {hz : List Int} {nh np : Nat} {nws : List (Addr × Obj)} (m1 : (Dh, lob hs nh) ∈ own) (hi : IntsAre hs hz) (hlz : hz.length ≤ 6) (m2 : (Dp, lob ys np) ∈ own) (hP : PagesIn nws ys hz) (hsub : ∀ p ∈ nws, p ∈ own) (hh : m (Str.ofString "hands") = some (.ref Dh)) (hp : m (Str.ofString "pages") = some (.ref Dp)) :
    wpAny (model pw w) (A.deeper (envX (Str.ofString "law") (fSc (stm 19)) L 161 (.ref 160) (lawC L))) (exec (lawS 8) (envX (Str.ofString "law") (fSc (stm 19)) L 161 (.ref 160) (lawC L)))
      (fun f s' => Stop (f = .next ∧ ∃ h' tk, s' = { s with heap := h', toks := tk } ∧ ∃ t1 t2, Fr g L h' (fun y => if y = Str.ofString "due" then some (.str (strL (mailOf (stage hz hz.length hz.length))) t2) else if y = Str.ofString "full" then some (.str (strL (mailOf (stage hz hz.length hz.length))) t1) else m y) ∧ News g L h' own)) (fun _ _ => False) s := by
  have _kf : (fun (_ : OpenLaw) (_ : Params → Frag) => True) PySem.Challenge.rw_rw0108_01 K := by (k_fill; trivial)
  clear _kf
  have es := (rfl : fSc (stm 19) = fSc (stm 19))
  conv at es => rhs; whnf
  have eb := (rfl : lawS 8 = lawS 8)
  conv at eb => rhs; whnf
  rw [es, eb]
  clear es eb
  have KX := W.O.K
  have T := W.O.T
  have hl := W.hl
  have hn := W.hn
  have hlen := W.hlen
  have hd := W.hd
  have hu := W.hu
  have hA := W.hA
  obtain ⟨h0, gn0, dr0, tk0, os0⟩ := s
  have F1 := frKnow (frKnow F (k := Str.ofString "hands") hh) (k := Str.ofString "pages") ((if_neg (by decide)).trans hp)
  clear F
  k_steps
  refine sent_spec (A := A.deeper _) w N Dh Dp (W.O.ext F1.keep) (by show A.depth + 1 < 800; omega) (by show A.units + 3 < 8000; omega) hA hs nh hz ys np (NW _ m1).1 hi hlz (NW _ m2).1 (hP.pages fun p hp => (NW p (hsub p hp)).1) (fun h2 tk2 T2 t1 t2 x2 n2 g2 => ?_)
  have F2 := Fr.ext F1 x2
  have N2 := News.ext NW x2
  clear F1 NW
  k_steps
  refine Stop.intro ?_
  refine unpackH (cl := lawC L) hA F2 g2 rfl rfl rfl ?_
  intro h3 tk3 F3 K3
  have N3 : News g L h3 own := fun p hp => ⟨K3 _ _ (N2 p hp).2.1 (N2 p hp).1, (N2 p hp).2⟩
  clear F2 N2
  k_steps
  refine Stop.intro ⟨(by first | rfl | trivial), _, _, rfl, t1, t2, Fr.cast F3 (fun y => ?_), N3⟩
  by_cases q1 : y = Str.ofString "due"
  · rw [if_pos q1, if_pos q1]
  · rw [if_neg q1, if_neg q1]
    by_cases q2 : y = Str.ofString "full"
    · rw [if_pos q2, if_pos q2]
    · rw [if_neg q2, if_neg q2]
      exact (know_eq (m := fun y => if y = Str.ofString "hands" then some (Value.ref Dh) else m y) ((if_neg (by decide)).trans hp) y).trans (know_eq hh y)
set_option maxHeartbeats 4000000 in
theorem law9 (W : LawF w N A g L l vs ns) (F : Fr g L s.heap m) (NW : News g L s.heap (own)) {k : Nat} {tt : Tok} (hk : k < 8) (hturn : m (Str.ofString "turn") = some (.int (k : Int) tt)) :
    wpAny (model pw w) (A.deeper (envX (Str.ofString "law") (fSc (stm 19)) L 161 (.ref 160) (lawC L))) (exec (lawS 9) (envX (Str.ofString "law") (fSc (stm 19)) L 161 (.ref 160) (lawC L)))
      (fun f s' => Stop (f = .next ∧ ∃ h' tk, s' = { s with heap := h', toks := tk } ∧ ∃ D vt, Fr g L h' (fun y => if y = Str.ofString "twins" then some (.ref D) else m y) ∧ News g L h' ((D, lob vt 0) :: own) ∧ (∀ p ∈ own, p.1 ≠ D) ∧ StrsAre vt ((if k = 0 then [64262, 64261] else [64261, 64262]).map sg))) (fun _ _ => False) s := by
  have _kf : (fun (_ : OpenLaw) (_ : Params → Frag) => True) PySem.Challenge.rw_rw0108_01 K := by (k_fill; trivial)
  clear _kf
  have es := (rfl : fSc (stm 19) = fSc (stm 19))
  conv at es => rhs; whnf
  have eb := (rfl : lawS 9 = lawS 9)
  conv at eb => rhs; whnf
  rw [es, eb]
  clear es eb
  have KX := W.O.K
  have T := W.O.T
  have hl := W.hl
  have hn := W.hn
  have hlen := W.hlen
  have hd := W.hd
  have hu := W.hu
  have hA := W.hA
  obtain ⟨h0, gn0, dr0, tk0, os0⟩ := s
  have F1 := frKnow F (k := Str.ofString "turn") hturn
  clear F
  have e1 : Str.ofString "ﬆ" = sg 64262 := by decide +kernel
  have e2 : Str.ofString "ﬅ" = sg 64261 := by decide +kernel
  k_steps
  all_goals
    refine Stop.intro ?_
    refine newListE (by show 2 ≤ 1000; decide) (fun h6 D6 x6 n6 g6 => ?_)
    have F6 := Fr.ext F1 x6
    have N6 := news_new F1 NW x6 n6 g6
    have q6 := ne_news NW n6
    clear F1 NW
    k_steps
    rename Fr _ _ _ _ => F9
    rename News _ _ _ _ => N9
  · have hk0 : k = 0 := by omega
    rw [if_pos hk0]
    refine Stop.intro ⟨(by first | rfl | trivial), _, _, rfl, _, _, Fr.cast F9 (fun y => ?_), N9, q6, ?_⟩
    · by_cases q : y = Str.ofString "twins"
      · rw [if_pos q, if_pos q]
      · rw [if_neg q, if_neg q]; exact know_eq hturn y
    · rw [e1, e2]; exact .cons _ _ (.cons _ _ .nil)
  · have hk0 : ¬ k = 0 := by omega
    rw [if_neg hk0]
    refine Stop.intro ⟨(by first | rfl | trivial), _, _, rfl, _, _, Fr.cast F9 (fun y => ?_), N9, q6, ?_⟩
    · by_cases q : y = Str.ofString "twins"
      · rw [if_pos q, if_pos q]
      · rw [if_neg q, if_neg q]; exact know_eq hturn y
    · rw [e1, e2]; exact .cons _ _ (.cons _ _ .nil)
end
end
section
open PySem PySem.W PySem.Spec PySem.Calls PyProof.Rows
local macro_rules | `(tactic| walk_at "binaryOp Add ref ref") => `(tactic| with_reducible refine st_m ?_)
section
open PySem PySem.W PySem.Spec PySem.Calls PyProof.Rows
local macro_rules | `(tactic| walk_at "compareOp NotEq ref ref") => `(tactic| with_reducible refine st_n ?_)
section
open PySem PySem.W PySem.Spec PySem.Calls PyProof.Rows
local macro_rules | `(tactic| walk_at "compareOp Eq ref ref") => `(tactic| with_reducible refine st_n ?_)
/-! MV5 -/
section
open PySem PySem.W PySem.Spec PySem.Calls PyProof.Rows
section
variable {w : World} {N : Names} {A : Around} {g : Heap} {L l : Addr} {vs : List Value} {ns : List Int} {s : Shared} {m : Str → Option Value} {own : List (Addr × Obj)}
set_option maxHeartbeats 4000000 in
theorem law10 (W : LawF w N A g L l vs ns) (F : Fr g L s.heap m) (NW : News g L s.heap (own)) {D Dt : Addr} {vd vt : List Value} {nd nt k : Nat} {t1 t2 : Tok} {x : Str} (hf : m (Str.ofString "full") = some (.str x t1)) (hdue : m (Str.ofString "due") = some (.str x t2)) (m1 : (D, lob vd nd) ∈ own) (m2 : (Dt, lob vt nt) ∈ own) (hsh : m (Str.ofString "shelf") = some (.ref D)) (htw : m (Str.ofString "twins") = some (.ref Dt)) (i1 : StrsAre vd ((shelfE k).map sg)) (i2 : StrsAre vt ((if k = 0 then [64262, 64261] else [64261, 64262]).map sg)) :
    wpAny (model pw w) (A.deeper (envX (Str.ofString "law") (fSc (stm 19)) L 161 (.ref 160) (lawC L))) (exec (lawS 10) (envX (Str.ofString "law") (fSc (stm 19)) L 161 (.ref 160) (lawC L)))
      (fun f s' => Stop (f = .next ∧ ∃ h' tk, s' = { s with heap := h', toks := tk } ∧ Fr g L h' m ∧ News g L h' own)) (fun _ _ => False) s := by
  have _kf : (fun (_ : OpenLaw) (_ : Params → Frag) => True) PySem.Challenge.rw_rw0108_01 K := by (k_fill; trivial)
  clear _kf
  have es := (rfl : fSc (stm 19) = fSc (stm 19))
  conv at es => rhs; whnf
  have eb := (rfl : lawS 10 = lawS 10)
  conv at eb => rhs; whnf
  rw [es, eb]
  clear es eb
  have KX := W.O.K
  have T := W.O.T
  have hl := W.hl
  have hn := W.hn
  have hlen := W.hlen
  have hd := W.hd
  have hu := W.hu
  have hA := W.hA
  obtain ⟨h0, gn0, dr0, tk0, os0⟩ := s
  have F1 := frKnow (frKnow (frKnow (frKnow F (k := Str.ofString "full") hf) (k := Str.ofString "due") ((if_neg (by decide)).trans hdue)) (k := Str.ofString "shelf") ((if_neg (by decide)).trans ((if_neg (by decide)).trans hsh))) (k := Str.ofString "twins") ((if_neg (by decide)).trans ((if_neg (by decide)).trans ((if_neg (by decide)).trans htw)))
  clear F
  have el : (Str.ofString "ﬀﬃﬄﬁﬂß").cps.toList = [64256, 64259, 64260, 64257, 64258, 223] := by decide +kernel
  k_steps
  · rename (_ != _) = true => hbad
    exact absurd hbad (by simp)
  · refine listStrE (A := A.deeper _) hA el (by decide) (fun h4 tk4 D4 vs4 n4 x4 e4 g4 i4 => ?_)
    have F4 := Fr.ext F1 x4
    have N4 := News.ext NW x4
    clear F1
    k_steps
    refine Stop.intro ?_
    have lt1 := StrsAre.length i4
    have lt2 := StrsAre.length i2
    refine addListE (lob_is g4) (lob_is (N4 _ m2).1) (fun h5 D5 x5 e5 g5 => ?_) (by rw [lt1, lt2]; split <;> decide)
    have F5 := Fr.ext F4 x5
    have N5 := News.ext N4 x5
    clear F4
    k_steps
    refine Stop.intro ?_
    have i6 : StrsAre (vs4 ++ vt) ((shelfE k).map sg) := by
      have := strs_app i4 i2
      rw [← List.map_append] at this
      have e : [64256, 64259, 64260, 64257, 64258, 223] ++ (if k = 0 then [64262, 64261] else [64261, 64262]) = shelfE k := by unfold shelfE; split <;> rfl
      rw [e] at this
      exact this
    refine neStrs (lob_is (N5 _ m1).1) (lob_is g5) i1 i6 (by unfold shelfE; split <;> decide +kernel) (by show A.units + 3 + 64 < _; unfold cLine; omega) ?_
    k_steps
    rename Fr _ _ _ _ => F9
    rename News _ _ _ _ => N9
    exact Stop.intro ⟨(by first | rfl | trivial), _, _, rfl, (frUn (frUn (frUn (frUn F9 ((if_neg (by decide)).trans ((if_neg (by decide)).trans ((if_neg (by decide)).trans htw)))) ((if_neg (by decide)).trans ((if_neg (by decide)).trans hsh))) ((if_neg (by decide)).trans hdue)) hf), news_sub N9 (fun p hp => by first | exact hp | exact .tail _ hp | exact .tail _ (.tail _ hp))⟩
end
end
/-! MV6 -/
section
open PySem PySem.W PySem.Spec PySem.Calls PyProof.Rows
section
variable {w : World} {N : Names} {A : Around} {g : Heap} {L l : Addr} {vs : List Value} {ns : List Int} {s : Shared} {m : Str → Option Value} {own : List (Addr × Obj)}
set_option maxHeartbeats 4000000 in
theorem law11 {oa ob : Obj} {wa wb : Option Value} (W : LawF w N A g L l vs ns) (F : Fr g L s.heap m) (NW : News g L s.heap ((L + 3, oa) :: (L + 4, ob) :: own)) (h12 : L + 3 ≠ L + 4) (ne1 : ∀ p ∈ own, p.1 ≠ L + 3) (ne2 : ∀ p ∈ own, p.1 ≠ L + 4) (da : oa.data = .cell wa) (db : ob.data = .cell wb) {D : Addr} {vd : List Value} {nd k : Nat} {hz : List Int} {t1 : Tok} (hlz : hz.length ≤ 6) (hf : m (Str.ofString "full") = some (.str (strL (mailOf (stage hz hz.length hz.length))) t1)) (hsh : m (Str.ofString "shelf") = some (.ref D)) (m1 : (D, lob vd nd) ∈ own) (i1 : StrsAre vd ((shelfE k).map sg)) :
    wpAny (model pw w) (A.deeper (envX (Str.ofString "law") (fSc (stm 19)) L 161 (.ref 160) (lawC L))) (exec (lawS 11) (envX (Str.ofString "law") (fSc (stm 19)) L 161 (.ref 160) (lawC L)))
      (fun f s' => Stop (f = .next ∧ ∃ h' tk, s' = { s with heap := h', toks := tk } ∧ ∃ oa' ob' D8 ys8 n8 D6 ys6 n6, Fr g L h' m ∧ News g L h' ((L + 3, oa') :: (L + 4, ob') :: (D8, lob ys8 n8) :: (D6, lob ys6 n6) :: own) ∧ oa'.data = .cell (some (.ref D8)) ∧ ob'.data = .cell (some (.ref D6)) ∧ (∀ p ∈ (L + 3, oa) :: (L + 4, ob) :: own, p.1 ≠ D8 ∧ p.1 ≠ D6) ∧ IntsAre ys8 ((List.range hz.length).map fun j => hz.getD j 0 % 7) ∧ IntsAre ys6 ((List.range hz.length).map fun j => (((if dotAt hz j then hz.length - j + 1 else 0) : Nat) : Int)))) (fun _ _ => False) s := by
  have _kf : (fun (_ : OpenLaw) (_ : Params → Frag) => True) PySem.Challenge.rw_rw0108_01 K := by (k_fill; trivial)
  clear _kf
  have es := (rfl : fSc (stm 19) = fSc (stm 19))
  conv at es => rhs; whnf
  have eb := (rfl : lawS 11 = lawS 11)
  conv at eb => rhs; whnf
  rw [es, eb]
  clear es eb
  have KX := W.O.K
  have T := W.O.T
  have hl := W.hl
  have hn := W.hn
  have hlen := W.hlen
  have hd := W.hd
  have hu := W.hu
  have hA := W.hA
  obtain ⟨h0, gn0, dr0, tk0, os0⟩ := s
  have F1 := (frKnow (frKnow F (k := Str.ofString "full") hf) (k := Str.ofString "shelf") ((if_neg (by decide)).trans hsh))
  clear F
  k_steps
  have hx84 := stage_len hz hz.length hz.length hlz hlz
  refine heard_spec (A := A.deeper _) w N _ _ D vd nd (shelfE k) (W.O.ext F1.keep) (by show A.depth + 1 < 800; omega) (by show A.units + 3 < 8000; omega) _ _ (mail_split _ (stage_line hz hz.length hz.length)) (by rw [List.length_map, stage_length]; omega) (Nat.lt_of_le_of_lt (show (mailOf (stage hz hz.length hz.length)).length ≤ 84 from hx84) (by decide)) hA (NW _ (.tail _ (.tail _ m1))).1 i1 (by unfold shelfE; split <;> decide) (fun h2 tk2 T2 D8 ys8 n8 D6 ys6 n6 x2 n2 j8 j6 => ?_)
  rw [heard_words] at j8
  rw [heard_dots] at j6
  have F2 := Fr.ext F1 x2
  have gT := (n2 _ (.head _)).1
  have g8 := n2 _ (.tail _ (.head _))
  have g6 := n2 _ (.tail _ (.tail _ (.head _)))
  have q8 := ne_news NW g8.2.2
  have q6 := ne_news NW g6.2.2
  have N2 := news_new F1 NW x2 g6.2.2 g6.1
  have N3 : News g L h2 ((L + 3, oa) :: (L + 4, ob) :: (D8, lob ys8 n8) :: (D6, lob ys6 n6) :: own) := by
    have N8 := news_new F1 NW x2 g8.2.2 g8.1
    intro p hp
    rcases List.mem_cons.mp hp with rfl | hp
    · exact N2 _ (.tail _ (.head _))
    · rcases List.mem_cons.mp hp with rfl | hp
      · exact N2 _ (.tail _ (.tail _ (.head _)))
      · rcases List.mem_cons.mp hp with rfl | hp
        · exact N8 _ (.head _)
        · rcases List.mem_cons.mp hp with rfl | hp
          · exact N2 _ (.head _)
          · exact N2 _ (.tail _ (.tail _ (.tail _ hp)))
  clear F1 NW N2
  k_steps
  refine Stop.intro ?_
  refine unpackCC (cl := lawC L) hA F2 N3 gT h12 ?u1 ?u2 da db rfl rfl rfl rfl rfl ?u3
  case u1 =>
    intro p hp
    rcases List.mem_cons.mp hp with rfl | hp
    · exact Ne.symm (q8 _ (.head _))
    · rcases List.mem_cons.mp hp with rfl | hp
      · exact Ne.symm (q6 _ (.head _))
      · exact ne1 p hp
  case u2 =>
    intro p hp
    rcases List.mem_cons.mp hp with rfl | hp
    · exact Ne.symm (q8 _ (.tail _ (.head _)))
    · rcases List.mem_cons.mp hp with rfl | hp
      · exact Ne.symm (q6 _ (.tail _ (.head _)))
      · exact ne2 p hp
  case u3 =>
    intro h4 tk4 oa' ob' F4 N4 e1 e2
    clear F2 N3
    k_steps
    exact Stop.intro ⟨(by first | rfl | trivial), _, _, rfl, oa', ob', D8, ys8, n8, D6, ys6, n6, (frUn (frUn F4 ((if_neg (by decide)).trans hsh)) hf), N4, e1, e2, fun p hp => ⟨q8 p hp, q6 p hp⟩, j8, j6⟩
end
end
section
open PySem PySem.W PySem.Spec PySem.Calls PyProof.Rows
local macro_rules | `(tactic| walk_at "eval Name") => `(tactic| ((with_reducible refine nm_sh ?_); refine nm_E ?_))
section
open PySem PySem.W PySem.Spec PySem.Calls PyProof.Rows
local macro_rules | `(tactic| walk_at "eval Name") => `(tactic| ((with_reducible refine nm_sh ?_); refine nm_L ?_))
/-! MV7 -/
section
open PySem PySem.W PySem.Spec PySem.Calls PyProof.Rows
section
variable {w : World} {N : Names} {A : Around} {g : Heap} {L l : Addr} {vs : List Value} {ns : List Int} {s : Shared} {m : Str → Option Value} {own : List (Addr × Obj)}
theorem mod_list (hz : List Int) : (List.range hz.length).map (fun j => hz.getD j 0 % 7) = hz.map fun i => i.fmod 7 := by
  apply List.ext_getElem?
  intro j
  rw [List.getElem?_map, List.getElem?_map]
  rcases Nat.lt_or_ge j hz.length with h | h
  · rw [List.getElem?_range h, List.getElem?_eq_getElem h]
    show some (hz.getD j 0 % 7) = some ((hz[j]).fmod 7)
    rw [List.getD_eq_getElem?_getD, List.getElem?_eq_getElem h, Int.fmod_eq_emod_of_nonneg _ (by decide)]
    rfl
  · rw [List.getElem?_eq_none (by rw [List.length_range]; omega), List.getElem?_eq_none h]; rfl
set_option maxHeartbeats 4000000 in
theorem law12 (W : LawF w N A g L l vs ns) (F : Fr g L s.heap m) (NW : News g L s.heap (own)) {o3 : Obj} {D8 Dh : Addr} {ys8 hs : List Value} {n8 nh : Nat} {hz : List Int} (m3 : (L + 3, o3) ∈ own) (d3 : o3.data = .cell (some (.ref D8))) (m8 : (D8, lob ys8 n8) ∈ own) (j8 : IntsAre ys8 ((List.range hz.length).map fun j => hz.getD j 0 % 7)) (hlz : hz.length ≤ 6) (m1 : (Dh, lob hs nh) ∈ own) (hi : IntsAre hs hz) (hh : m (Str.ofString "hands") = some (.ref Dh)) :
    wpAny (model pw w) (A.deeper (envX (Str.ofString "law") (fSc (stm 19)) L 161 (.ref 160) (lawC L))) (exec (lawS 12) (envX (Str.ofString "law") (fSc (stm 19)) L 161 (.ref 160) (lawC L)))
      (fun f s' => Stop (f = .next ∧ ∃ h' tk, s' = { s with heap := h', toks := tk } ∧ Fr g L h' m ∧ News g L h' own)) (fun _ _ => False) s := by
  have _kf : (fun (_ : OpenLaw) (_ : Params → Frag) => True) PySem.Challenge.rw_rw0108_01 K := by (k_fill; trivial)
  clear _kf
  have es := (rfl : fSc (stm 19) = fSc (stm 19))
  conv at es => rhs; whnf
  have eb := (rfl : lawS 12 = lawS 12)
  conv at eb => rhs; whnf
  rw [es, eb]
  clear es eb
  have KX := W.O.K
  have T := W.O.T
  have hl := W.hl
  have hn := W.hn
  have hlen := W.hlen
  have hd := W.hd
  have hu := W.hu
  have hA := W.hA
  obtain ⟨h0, gn0, dr0, tk0, os0⟩ := s
  have F1 := (frKnow F (k := Str.ofString "hands") hh)
  have N1 : News g L h0 ((L + 3, o3) :: own) := news_sub NW (fun p hp => by rcases List.mem_cons.mp hp with rfl | hp; exact m3; exact hp)
  clear F NW
  k_steps
  refine Stop.intro ?_
  refine evL (A := A.deeper _) (cl := []) (h₀ := g) (L := L) (m := fun y => if y = Str.ofString "hands" then some (.ref Dh) else m y) (news := (L + 3, o3) :: own) (fun _ => true) (fun i y => ∃ t, y = .int (i.fmod 7) t) hA hi (by omega) ?hit ?g1 ?g2 ?g3 rfl (by decide) rfl (by decide) rfl (by intro _; rfl)
  case hit =>
    k_steps
    exact Stop.intro ⟨_, _, _, _, rfl, rfl, (N1 _ (.tail _ m1)).1, F1, N1, fun _ _ e => e⟩
  case g1 => exact fun C i t s₃ m₃ E' _ _ _ _ _ => wpAny_tests_nil (Stop.intro ⟨rfl, s₃.heap, s₃.toks, rfl, fun _ _ e => e⟩)
  case g2 =>
    intro C i t s₃ m₃ E' hC FC hi2 _ hm hE
    have NC : News g C s₃.heap [] := News.nil
    clear hE hC F1 N1
    obtain ⟨h3, gn3, dr3, tk3, os3⟩ := s₃
    k_steps
    exact Stop.intro ⟨⟨_, rfl⟩, _, _, rfl, fun _ _ e => e⟩
  case g3 =>
    intro D ys k h' tk P x F2 N2 hnew
    have i9 := paired_fun P
    rw [List.filter_eq_self.mpr (fun _ _ => rfl)] at i9
    clear F1 N1
    k_steps
    refine Stop.intro ?_
    refine ke_ne_ints (lob_is (N2 _ (.tail _ (.tail _ m8))).1) (lob_is (N2 _ (.head _)).1) j8 i9 (by show A.units + 3 + 64 < _; unfold cLine; omega) ?_
    rw [decide_eq_true (mod_list hz)]
    k_steps
    rename Fr _ _ _ _ => F9
    rename News _ _ _ _ => N9
    exact Stop.intro ⟨(by first | rfl | trivial), _, _, rfl, (frUn F9 hh), news_sub N9 (fun p hp => by first | exact hp | exact .tail _ hp | exact .tail _ (.tail _ hp))⟩
end
end
/-! MV8 -/
section
open PySem PySem.W PySem.Spec PySem.Calls PyProof.Rows
section
variable {w : World} {N : Names} {A : Around} {g : Heap} {L l : Addr} {vs : List Value} {ns : List Int} {s : Shared} {m : Str → Option Value} {own : List (Addr × Obj)}
/-- the dots laid by quotedata, from the counts of a mail's dots -/
noncomputable def laidS (ds : List Int) : Int := ((ds.filter fun c => decide (0 < c)).map fun c => c - 1).sum
set_option maxHeartbeats 4000000 in
theorem law13 (W : LawF w N A g L l vs ns) (F : Fr g L s.heap m) (NW : News g L s.heap (own)) {o3 o4 : Obj} {D8 D6 : Addr} {ys8 ys6 : List Value} {n8 n6 z : Nat} {rs ds : List Int} {tz : Tok} (m3 : (L + 3, o3) ∈ own) (d3 : o3.data = .cell (some (.ref D8))) (m8 : (D8, lob ys8 n8) ∈ own) (j8 : IntsAre ys8 rs) (m4 : (L + 4, o4) ∈ own) (d4 : o4.data = .cell (some (.ref D6))) (m6 : (D6, lob ys6 n6) ∈ own) (j6 : IntsAre ys6 ds) (lds : ds.length ≤ 6) (hz : m (Str.ofString "size") = some (.int (z : Int) tz)) (z1 : 5 ≤ z) :
    wpAny (model pw w) (A.deeper (envX (Str.ofString "law") (fSc (stm 19)) L 161 (.ref 160) (lawC L))) (exec (lawS 13) (envX (Str.ofString "law") (fSc (stm 19)) L 161 (.ref 160) (lawC L)))
      (fun f s' => Stop (f = .next ∧ ∃ h' tk, s' = { s with heap := h', toks := tk } ∧ ∃ t1 t2, Fr g L h' (fun y => if y = Str.ofString "names" then some (.int (rs.sum.fmod 7) t1) else if y = Str.ofString "laid" then some (.int ((laidS ds).fmod z) t2) else m y) ∧ News g L h' own)) (fun _ _ => False) s := by
  have _kf : (fun (_ : OpenLaw) (_ : Params → Frag) => True) PySem.Challenge.rw_rw0108_01 K := by (k_fill; trivial)
  clear _kf
  have es := (rfl : fSc (stm 19) = fSc (stm 19))
  conv at es => rhs; whnf
  have eb := (rfl : lawS 13 = lawS 13)
  conv at eb => rhs; whnf
  rw [es, eb]
  clear es eb
  have KX := W.O.K
  have T := W.O.T
  have hl := W.hl
  have hn := W.hn
  have hlen := W.hlen
  have hd := W.hd
  have hu := W.hu
  have hA := W.hA
  obtain ⟨h0, gn0, dr0, tk0, os0⟩ := s
  have F1 := (frKnow F (k := Str.ofString "size") hz)
  have N1 : News g L h0 ((L + 3, o3) :: (L + 4, o4) :: own) := news_sub NW (fun p hp => by
    rcases List.mem_cons.mp hp with rfl | hp
    · exact m3
    · rcases List.mem_cons.mp hp with rfl | hp
      · exact m4
      · exact hp)
  clear F NW
  k_steps
  refine sumE (A := A.deeper _) hA (lob_is (N1 _ (.tail _ (.tail _ m8))).1) j8 (fun h2 tk2 t1 x2 => ?_)
  have F2 := Fr.ext F1 x2
  have N2 := News.ext N1 x2
  clear F1 N1
  k_steps
  refine Stop.intro ?_
  refine evL (A := A.deeper _) (cl := []) (h₀ := g) (L := L) (m := fun y => if y = Str.ofString "size" then some (.int (z : Int) tz) else m y) (news := (L + 3, o3) :: (L + 4, o4) :: own) (fun c => decide (0 < c)) (fun i y => ∃ t, y = .int (i - 1) t) hA j6 (by omega) ?hit ?g1 ?g2 ?g3 rfl (by decide) rfl (by decide) rfl (by intro _; rfl)
  case hit =>
    k_steps
    exact Stop.intro ⟨_, _, _, _, rfl, rfl, (N2 _ (.tail _ (.tail _ m6))).1, F2, N2, fun _ _ e => e⟩
  case g1 =>
    intro C i t s₃ m₃ E' hC FC hi2 hm hE
    have NC : News g C s₃.heap [] := News.nil
    clear hE hC F2 N2
    obtain ⟨h3, gn3, dr3, tk3, os3⟩ := s₃
    refine wpAny_tests_one ?_
    k_steps
    exact Stop.intro ⟨rfl, _, _, rfl, fun _ _ e => e⟩
  case g2 =>
    intro C i t s₃ m₃ E' hC FC hi2 _ hm hE
    have NC : News g C s₃.heap [] := News.nil
    clear hE hC F2 N2
    obtain ⟨h3, gn3, dr3, tk3, os3⟩ := s₃
    k_steps
    exact Stop.intro ⟨⟨_, rfl⟩, _, _, rfl, fun _ _ e => e⟩
  case g3 =>
    intro D ys k h' tk P x F3 N3 hnew
    have i9 := paired_fun P
    clear F2 N2
    k_steps
    refine sumE (A := A.deeper _) hA (lob_is (N3 _ (.head _)).1) i9 (fun h4 tk4 t4 x4 => ?_)
    have F4 := Fr.ext F3 x4
    have N4 := News.ext N3 x4
    clear F3 N3
    k_steps
    rename Fr _ _ _ _ => F5
    rename News _ _ _ _ => N5
    refine wpAny_unpackItems_tuple (A := A.deeper _) (items := #[_, _]) hA ⟨_, (N5 _ (.head _)).1, rfl, 0, rfl⟩ (fun h6 x6 => ?_)
    have F6 : Fr g L h6 _ := ⟨F5.ns.extBut x6 (Nat.ne_of_lt F5.ns.lt), fun b o e => x6 b o (Nat.ne_of_lt (Heap.lt_size (F5.keep b o e))) (F5.keep b o e), F5.above⟩
    have N6 : News g L h6 _ := fun p hp => ⟨x6 _ _ (Nat.ne_of_lt (Heap.lt_size (N5 p hp).1)) (N5 p hp).1, (N5 p hp).2⟩
    clear F5 N5
    k_steps
    rename Fr _ _ _ _ => F9
    rename News _ _ _ _ => N9
    exact Stop.intro ⟨(by first | rfl | trivial), _, _, rfl, _, _, frUn2 F9 hz, news_sub N9 (fun p hp => .tail _ (.tail _ (.tail _ (.tail _ hp))))⟩
end
end
/-! MV9 -/
section
open PySem PySem.W PySem.Spec PySem.Calls PyProof.Rows
section
variable {w : World} {N : Names} {A : Around} {g : Heap} {L l : Addr} {vs : List Value} {ns : List Int} {s : Shared} {m : Str → Option Value} {own : List (Addr × Obj)}
noncomputable def forBody (s : Stmt) : List Stmt := match s with
  | .For _ _ b _ _ => b
  | _ => []
noncomputable def lawB (k : Nat) : Stmt := (forBody (lawS 14)).getD k (.Pass default)
theorem law_loop : forBody (lawS 14) = [lawB 0, lawB 1, lawB 2, lawB 3, lawB 4, lawB 5, lawB 6, lawB 7] := by kernel_rfl
set_option maxHeartbeats 4000000 in
theorem loop0 (W : LawF w N A g L l vs ns) (F : Fr g L s.heap m) (NW : News g L s.heap (own)) {Dh Dp : Addr} {hs ys : List Value} {hz : List Int} {nh np p : Nat} {tp : Tok} {nws : List (Addr × Obj)} (m1 : (Dh, lob hs nh) ∈ own) (hi : IntsAre hs hz) (hlz : hz.length ≤ 6) (m2 : (Dp, lob ys np) ∈ own) (hP : PagesIn nws ys hz) (hsub : ∀ p ∈ nws, p ∈ own) (hh : m (Str.ofString "hands") = some (.ref Dh)) (hp : m (Str.ofString "pages") = some (.ref Dp)) (hlo : m (Str.ofString "lost") = some (.int (p : Int) tp)) (hpl : p < hz.length) :
    wpAny (model pw w) (A.deeper (envX (Str.ofString "law") (fSc (stm 19)) L 161 (.ref 160) (lawC L))) (exec (lawB 0) (envX (Str.ofString "law") (fSc (stm 19)) L 161 (.ref 160) (lawC L)))
      (fun f s' => Stop (f = .next ∧ ∃ h' tk, s' = { s with heap := h', toks := tk } ∧ ∃ t1 t2, Fr g L h' (fun y => if y = Str.ofString "due" then some (.str (strL (mailOf (stage (pass hz p) (pass hz p).length (pass hz p).length))) t2) else if y = Str.ofString "mail" then some (.str (strL (mailOf (stage (pass hz p) (pass hz p).length (pass hz p).length))) t1) else m y) ∧ News g L h' own)) (fun _ _ => False) s := by
  have _kf : (fun (_ : OpenLaw) (_ : Params → Frag) => True) PySem.Challenge.rw_rw0108_01 K := by (k_fill; trivial)
  clear _kf
  have es := (rfl : fSc (stm 19) = fSc (stm 19))
  conv at es => rhs; whnf
  have eb := (rfl : lawB 0 = lawB 0)
  conv at eb => rhs; whnf
  rw [es, eb]
  clear es eb
  have KX := W.O.K
  have T := W.O.T
  have hl := W.hl
  have hn := W.hn
  have hlen := W.hlen
  have hd := W.hd
  have hu := W.hu
  have hA := W.hA
  obtain ⟨h0, gn0, dr0, tk0, os0⟩ := s
  have F1 := (frKnow (frKnow (frKnow F (k := Str.ofString "hands") hh) (k := Str.ofString "pages") ((if_neg (by decide)).trans hp)) (k := Str.ofString "lost") ((if_neg (by decide)).trans ((if_neg (by decide)).trans hlo)))
  clear F
  have lh := hi.length
  have lp := hP.length
  have u1 := pick_pre (vs := hs) (p := p) (by omega)
  have u2 := pick_suf (vs := hs) (p := p + 1) (by omega)
  have u3 := pick_pre (vs := ys) (p := p) (by omega)
  have u4 := pick_suf (vs := ys) (p := p + 1) (by omega)
  have ec : (((p + 1 : Nat)) : Int) = (p : Int) + 1 := by omega
  rw [ec] at u2 u4
  have lq := pass_len hpl
  have lqh : (hs.take p).length + (hs.drop (p + 1)).length ≤ 1000 := by rw [List.length_take, List.length_drop]; omega
  have lqp : (ys.take p).length + (ys.drop (p + 1)).length ≤ 1000 := by rw [List.length_take, List.length_drop]; omega
  k_steps
  refine Stop.intro ?_
  refine sliceE (lob_is (NW _ m1).1) .none (.int _ _) .none (by decide) (fun h2 D2 x2 e2 g2 => ?_) (by with_unfolding_all rfl) (by rw [List.size_toArray]; omega)
  rw [u1] at g2
  have F2 := Fr.ext F1 x2
  have N2 := News.ext NW x2
  clear F1 NW
  k_steps
  refine Stop.intro ?_
  refine sliceE (lob_is (N2 _ m1).1) (.int _ _) .none .none (by decide) (fun h3 D3 x3 e3 g3 => ?_) (by with_unfolding_all rfl) (by rw [List.size_toArray]; omega)
  rw [u2] at g3
  have F3 := Fr.ext F2 x3
  have N3 := News.ext N2 x3
  replace g2 := x3 _ _ g2
  clear F2 N2
  k_steps
  refine Stop.intro ?_
  refine addListE (lob_is g2) (lob_is g3) (fun h4 D4 x4 e4 g4 => ?_) lqh
  have F4 := Fr.ext F3 x4
  have N4 := News.ext N3 x4
  clear F3 N3 g2 g3
  k_steps
  refine Stop.intro ?_
  refine sliceE (lob_is (N4 _ m2).1) .none (.int _ _) .none (by decide) (fun h5 D5 x5 e5 g5 => ?_) (by with_unfolding_all rfl) (by rw [List.size_toArray]; omega)
  rw [u3] at g5
  have F5 := Fr.ext F4 x5
  have N5 := News.ext N4 x5
  replace g4 := x5 _ _ g4
  clear F4 N4
  k_steps
  refine Stop.intro ?_
  refine sliceE (lob_is (N5 _ m2).1) (.int _ _) .none .none (by decide) (fun h6 D6 x6 e6 g6 => ?_) (by with_unfolding_all rfl) (by rw [List.size_toArray]; omega)
  rw [u4] at g6
  have F6 := Fr.ext F5 x6
  have N6 := News.ext N5 x6
  replace g4 := x6 _ _ g4
  replace g5 := x6 _ _ g5
  clear F5 N5
  k_steps
  refine Stop.intro ?_
  refine addListE (lob_is g5) (lob_is g6) (fun h7 D7 x7 e7 g7 => ?_) lqp
  have F7 := Fr.ext F6 x7
  have N7 := News.ext N6 x7
  replace g4 := x7 _ _ g4
  clear F6 N6 g5 g6
  k_steps
  refine sent_spec (A := A.deeper _) w N D4 D7 (W.O.ext F7.keep) (by show A.depth + 1 < 800; omega) (by show A.units + 3 < 8000; omega) hA (pass hs p) 0 (pass hz p) (pass ys p) 0 g4 (ints_pass hi p) (by omega) g7 ((pages_pass hP p).pages fun p hp => (N7 p (hsub p hp)).1) (fun h8 tk8 T8 t1 t2 x8 n8 g8 => ?_)
  have F8 := Fr.ext F7 x8
  have N8 := News.ext N7 x8
  clear F7 N7
  k_steps
  refine Stop.intro ?_
  refine unpackH (cl := lawC L) hA F8 g8 rfl rfl rfl ?_
  intro h9 tk9 F9 K9
  have N9 : News g L h9 own := fun p hp => ⟨K9 _ _ (N8 p hp).2.1 (N8 p hp).1, (N8 p hp).2⟩
  clear F8 N8
  k_steps
  exact Stop.intro ⟨(by first | rfl | trivial), _, _, rfl, t1, t2, (frUn2 (frUn2 (frUn2 F9 ((if_neg (by decide)).trans ((if_neg (by decide)).trans hlo))) ((if_neg (by decide)).trans hp)) hh), N9⟩
end
end
/-! MVa -/
section
open PySem PySem.W PySem.Spec PySem.Calls PyProof.Rows
section
variable {w : World} {N : Names} {A : Around} {g : Heap} {L l : Addr} {vs : List Value} {ns : List Int} {s : Shared} {m : Str → Option Value} {own : List (Addr × Obj)}
set_option maxHeartbeats 4000000 in
theorem loop1 (W : LawF w N A g L l vs ns) (F : Fr g L s.heap m) (NW : News g L s.heap (own)) {t1 t2 : Tok} {x : Str} (hf : m (Str.ofString "mail") = some (.str x t1)) (hdue : m (Str.ofString "due") = some (.str x t2)) :
    wpAny (model pw w) (A.deeper (envX (Str.ofString "law") (fSc (stm 19)) L 161 (.ref 160) (lawC L))) (exec (lawB 1) (envX (Str.ofString "law") (fSc (stm 19)) L 161 (.ref 160) (lawC L)))
      (fun f s' => Stop (f = .next ∧ ∃ h' tk, s' = { s with heap := h', toks := tk } ∧ Fr g L h' m ∧ News g L h' own)) (fun _ _ => False) s := by
  have _kf : (fun (_ : OpenLaw) (_ : Params → Frag) => True) PySem.Challenge.rw_rw0108_01 K := by (k_fill; trivial)
  clear _kf
  have es := (rfl : fSc (stm 19) = fSc (stm 19))
  conv at es => rhs; whnf
  have eb := (rfl : lawB 1 = lawB 1)
  conv at eb => rhs; whnf
  rw [es, eb]
  clear es eb
  have KX := W.O.K
  have T := W.O.T
  have hl := W.hl
  have hn := W.hn
  have hlen := W.hlen
  have hd := W.hd
  have hu := W.hu
  have hA := W.hA
  obtain ⟨h0, gn0, dr0, tk0, os0⟩ := s
  have F1 := (frKnow (frKnow F (k := Str.ofString "mail") hf) (k := Str.ofString "due") ((if_neg (by decide)).trans hdue))
  clear F
  k_steps
  · rename (_ != _) = true => hbad
    exact absurd hbad (by simp)
  · exact Stop.intro ⟨(by first | rfl | trivial), _, _, rfl, (frUn (frUn F1 ((if_neg (by decide)).trans hdue)) hf), NW⟩
set_option maxHeartbeats 4000000 in
theorem loop2 {oa ob : Obj} {wa wb : Option Value} (W : LawF w N A g L l vs ns) (F : Fr g L s.heap m) (NW : News g L s.heap ((L + 5, oa) :: (L + 4, ob) :: own)) (h12 : L + 5 ≠ L + 4) (ne1 : ∀ p ∈ own, p.1 ≠ L + 5) (ne2 : ∀ p ∈ own, p.1 ≠ L + 4) (da : oa.data = .cell wa) (db : ob.data = .cell wb) {D : Addr} {vd : List Value} {nd k : Nat} {hz : List Int} {t1 : Tok} (hlz : hz.length ≤ 6) (hf : m (Str.ofString "mail") = some (.str (strL (mailOf (stage hz hz.length hz.length))) t1)) (hsh : m (Str.ofString "shelf") = some (.ref D)) (m1 : (D, lob vd nd) ∈ own) (i1 : StrsAre vd ((shelfE k).map sg)) :
    wpAny (model pw w) (A.deeper (envX (Str.ofString "law") (fSc (stm 19)) L 161 (.ref 160) (lawC L))) (exec (lawB 2) (envX (Str.ofString "law") (fSc (stm 19)) L 161 (.ref 160) (lawC L)))
      (fun f s' => Stop (f = .next ∧ ∃ h' tk, s' = { s with heap := h', toks := tk } ∧ ∃ oa' ob' D8 ys8 n8 D6 ys6 n6, Fr g L h' m ∧ News g L h' ((L + 5, oa') :: (L + 4, ob') :: (D8, lob ys8 n8) :: (D6, lob ys6 n6) :: own) ∧ oa'.data = .cell (some (.ref D8)) ∧ ob'.data = .cell (some (.ref D6)) ∧ (∀ p ∈ (L + 5, oa) :: (L + 4, ob) :: own, p.1 ≠ D8 ∧ p.1 ≠ D6) ∧ IntsAre ys8 ((List.range hz.length).map fun j => hz.getD j 0 % 7) ∧ IntsAre ys6 ((List.range hz.length).map fun j => (((if dotAt hz j then hz.length - j + 1 else 0) : Nat) : Int)))) (fun _ _ => False) s := by
  have _kf : (fun (_ : OpenLaw) (_ : Params → Frag) => True) PySem.Challenge.rw_rw0108_01 K := by (k_fill; trivial)
  clear _kf
  have es := (rfl : fSc (stm 19) = fSc (stm 19))
  conv at es => rhs; whnf
  have eb := (rfl : lawB 2 = lawB 2)
  conv at eb => rhs; whnf
  rw [es, eb]
  clear es eb
  have KX := W.O.K
  have T := W.O.T
  have hl := W.hl
  have hn := W.hn
  have hlen := W.hlen
  have hd := W.hd
  have hu := W.hu
  have hA := W.hA
  obtain ⟨h0, gn0, dr0, tk0, os0⟩ := s
  have F1 := (frKnow (frKnow F (k := Str.ofString "mail") hf) (k := Str.ofString "shelf") ((if_neg (by decide)).trans hsh))
  clear F
  k_steps
  have hx84 := stage_len hz hz.length hz.length hlz hlz
  refine heard_spec (A := A.deeper _) w N _ _ D vd nd (shelfE k) (W.O.ext F1.keep) (by show A.depth + 1 < 800; omega) (by show A.units + 3 < 8000; omega) _ _ (mail_split _ (stage_line hz hz.length hz.length)) (by rw [List.length_map, stage_length]; omega) (Nat.lt_of_le_of_lt (show (mailOf (stage hz hz.length hz.length)).length ≤ 84 from hx84) (by decide)) hA (NW _ (.tail _ (.tail _ m1))).1 i1 (by unfold shelfE; split <;> decide) (fun h2 tk2 T2 D8 ys8 n8 D6 ys6 n6 x2 n2 j8 j6 => ?_)
  rw [heard_words] at j8
  rw [heard_dots] at j6
  have F2 := Fr.ext F1 x2
  have gT := (n2 _ (.head _)).1
  have g8 := n2 _ (.tail _ (.head _))
  have g6 := n2 _ (.tail _ (.tail _ (.head _)))
  have q8 := ne_news NW g8.2.2
  have q6 := ne_news NW g6.2.2
  have N2 := news_new F1 NW x2 g6.2.2 g6.1
  have N3 : News g L h2 ((L + 5, oa) :: (L + 4, ob) :: (D8, lob ys8 n8) :: (D6, lob ys6 n6) :: own) := by
    have N8 := news_new F1 NW x2 g8.2.2 g8.1
    intro p hp
    rcases List.mem_cons.mp hp with rfl | hp
    · exact N2 _ (.tail _ (.head _))
    · rcases List.mem_cons.mp hp with rfl | hp
      · exact N2 _ (.tail _ (.tail _ (.head _)))
      · rcases List.mem_cons.mp hp with rfl | hp
        · exact N8 _ (.head _)
        · rcases List.mem_cons.mp hp with rfl | hp
          · exact N2 _ (.head _)
          · exact N2 _ (.tail _ (.tail _ (.tail _ hp)))
  clear F1 NW N2
  k_steps
  refine Stop.intro ?_
  refine unpackCC (cl := lawC L) hA F2 N3 gT h12 ?u1 ?u2 da db rfl rfl rfl rfl rfl ?u3
  case u1 =>
    intro p hp
    rcases List.mem_cons.mp hp with rfl | hp
    · exact Ne.symm (q8 _ (.head _))
    · rcases List.mem_cons.mp hp with rfl | hp
      · exact Ne.symm (q6 _ (.head _))
      · exact ne1 p hp
  case u2 =>
    intro p hp
    rcases List.mem_cons.mp hp with rfl | hp
    · exact Ne.symm (q8 _ (.tail _ (.head _)))
    · rcases List.mem_cons.mp hp with rfl | hp
      · exact Ne.symm (q6 _ (.tail _ (.head _)))
      · exact ne2 p hp
  case u3 =>
    intro h4 tk4 oa' ob' F4 N4 e1 e2
    clear F2 N3
    k_steps
    exact Stop.intro ⟨(by first | rfl | trivial), _, _, rfl, oa', ob', D8, ys8, n8, D6, ys6, n6, (frUn (frUn F4 ((if_neg (by decide)).trans hsh)) hf), N4, e1, e2, fun p hp => ⟨q8 p hp, q6 p hp⟩, j8, j6⟩
set_option maxHeartbeats 4000000 in
theorem loop3 {o6 : Obj} {v6 : Option Value} (W : LawF w N A g L l vs ns) (F : Fr g L s.heap m) (NW : News g L s.heap ((L + 6, o6) :: own)) {o5 : Obj} {D8 : Addr} {ys8 : List Value} {n8 : Nat} {rs : List Int} {nm : Int} {tn : Tok} (m5 : (L + 5, o5) ∈ own) (d5 : o5.data = .cell (some (.ref D8))) (m8 : (D8, lob ys8 n8) ∈ own) (j8 : IntsAre ys8 rs) (d6 : o6.data = .cell v6) (hne : ∀ p ∈ own, p.1 ≠ L + 6) (hnm : m (Str.ofString "names") = some (.int nm tn)) :
    wpAny (model pw w) (A.deeper (envX (Str.ofString "law") (fSc (stm 19)) L 161 (.ref 160) (lawC L))) (exec (lawB 3) (envX (Str.ofString "law") (fSc (stm 19)) L 161 (.ref 160) (lawC L)))
      (fun f s' => Stop (f = .next ∧ ∃ h' tk, s' = { s with heap := h', toks := tk } ∧ ∃ o6' t, Fr g L h' m ∧ News g L h' ((L + 6, o6') :: own) ∧ o6'.data = .cell (some (.int ((nm - rs.sum).fmod 7) t)))) (fun _ _ => False) s := by
  have _kf : (fun (_ : OpenLaw) (_ : Params → Frag) => True) PySem.Challenge.rw_rw0108_01 K := by (k_fill; trivial)
  clear _kf
  have es := (rfl : fSc (stm 19) = fSc (stm 19))
  conv at es => rhs; whnf
  have eb := (rfl : lawB 3 = lawB 3)
  conv at eb => rhs; whnf
  rw [es, eb]
  clear es eb
  have KX := W.O.K
  have T := W.O.T
  have hl := W.hl
  have hn := W.hn
  have hlen := W.hlen
  have hd := W.hd
  have hu := W.hu
  have hA := W.hA
  obtain ⟨h0, gn0, dr0, tk0, os0⟩ := s
  have F1 := (frKnow F (k := Str.ofString "names") hnm)
  have N1 : News g L h0 ((L + 6, o6) :: (L + 5, o5) :: own) := news_sub NW (fun p hp => by
    rcases List.mem_cons.mp hp with rfl | hp
    · exact .head _
    · rcases List.mem_cons.mp hp with rfl | hp
      · exact .tail _ m5
      · exact .tail _ hp)
  have hne1 : ∀ p ∈ (L + 5, o5) :: own, p.1 ≠ L + 6 := fun p hp => by
    rcases List.mem_cons.mp hp with rfl | hp
    · exact hne _ m5
    · exact hne p hp
  clear F NW
  k_steps
  refine sumE (A := A.deeper _) hA (lob_is (N1 _ (.tail _ (.tail _ m8))).1) j8 (fun h2 tk2 t1 x2 => ?_)
  have F2 := Fr.ext F1 x2
  have N2 := News.ext N1 x2
  clear F1 N1
  k_steps
  rename Fr _ _ _ _ => F9
  rename News _ _ _ _ => N9
  exact Stop.intro ⟨(by first | rfl | trivial), _, _, rfl, _, _, (frUn F9 hnm), news_sub N9 (fun p hp => by
    rcases List.mem_cons.mp hp with rfl | hp
    · exact .head _
    · exact .tail _ (.tail _ hp)), by first | assumption | rfl⟩
set_option maxHeartbeats 4000000 in
theorem loop4 (W : LawF w N A g L l vs ns) (F : Fr g L s.heap m) (NW : News g L s.heap (own)) {o4 : Obj} {D6 : Addr} {ys6 : List Value} {n6 z : Nat} {la : Int} {ds : List Int} {tz tl : Tok} (m4 : (L + 4, o4) ∈ own) (d4 : o4.data = .cell (some (.ref D6))) (m6 : (D6, lob ys6 n6) ∈ own) (j6 : IntsAre ys6 ds) (lds : ds.length ≤ 6) (hz : m (Str.ofString "size") = some (.int (z : Int) tz)) (hla : m (Str.ofString "laid") = some (.int la tl)) (z1 : 5 ≤ z) :
    wpAny (model pw w) (A.deeper (envX (Str.ofString "law") (fSc (stm 19)) L 161 (.ref 160) (lawC L))) (exec (lawB 4) (envX (Str.ofString "law") (fSc (stm 19)) L 161 (.ref 160) (lawC L)))
      (fun f s' => Stop (f = .next ∧ ∃ h' tk, s' = { s with heap := h', toks := tk } ∧ ∃ t, Fr g L h' (fun y => if y = Str.ofString "lack" then some (.int ((la - laidS ds).fmod z) t) else m y) ∧ News g L h' own)) (fun _ _ => False) s := by
  have _kf : (fun (_ : OpenLaw) (_ : Params → Frag) => True) PySem.Challenge.rw_rw0108_01 K := by (k_fill; trivial)
  clear _kf
  have es := (rfl : fSc (stm 19) = fSc (stm 19))
  conv at es => rhs; whnf
  have eb := (rfl : lawB 4 = lawB 4)
  conv at eb => rhs; whnf
  rw [es, eb]
  clear es eb
  have KX := W.O.K
  have T := W.O.T
  have hl := W.hl
  have hn := W.hn
  have hlen := W.hlen
  have hd := W.hd
  have hu := W.hu
  have hA := W.hA
  obtain ⟨h0, gn0, dr0, tk0, os0⟩ := s
  have F1 := (frKnow (frKnow F (k := Str.ofString "size") hz) (k := Str.ofString "laid") ((if_neg (by decide)).trans hla))
  have N1 : News g L h0 ((L + 4, o4) :: own) := news_sub NW (fun p hp => by
    rcases List.mem_cons.mp hp with rfl | hp
    · exact m4
    · exact hp)
  clear F NW
  k_steps
  refine Stop.intro ?_
  refine evL (A := A.deeper _) (cl := []) (h₀ := g) (L := L) (m := fun y => if y = Str.ofString "laid" then some (.int la tl) else if y = Str.ofString "size" then some (.int (z : Int) tz) else m y) (news := (L + 4, o4) :: own) (fun c => decide (0 < c)) (fun i y => ∃ t, y = .int (i - 1) t) hA j6 (by omega) ?hit ?g1 ?g2 ?g3 rfl (by decide) rfl (by decide) rfl (by intro _; rfl)
  case hit =>
    k_steps
    exact Stop.intro ⟨_, _, _, _, rfl, rfl, (N1 _ (.tail _ m6)).1, F1, N1, fun _ _ e => e⟩
  case g1 =>
    intro C i t s₃ m₃ E' hC FC hi2 hm hE
    have NC : News g C s₃.heap [] := News.nil
    clear hE hC F1 N1
    obtain ⟨h3, gn3, dr3, tk3, os3⟩ := s₃
    refine wpAny_tests_one ?_
    k_steps
    exact Stop.intro ⟨rfl, _, _, rfl, fun _ _ e => e⟩
  case g2 =>
    intro C i t s₃ m₃ E' hC FC hi2 _ hm hE
    have NC : News g C s₃.heap [] := News.nil
    clear hE hC F1 N1
    obtain ⟨h3, gn3, dr3, tk3, os3⟩ := s₃
    k_steps
    exact Stop.intro ⟨⟨_, rfl⟩, _, _, rfl, fun _ _ e => e⟩
  case g3 =>
    intro D ys k h' tk P x F3 N3 hnew
    have i9 := paired_fun P
    clear F1 N1
    k_steps
    refine sumE (A := A.deeper _) hA (lob_is (N3 _ (.head _)).1) i9 (fun h4 tk4 t4 x4 => ?_)
    have F4 := Fr.ext F3 x4
    have N4 := News.ext N3 x4
    clear F3 N3
    k_steps
    rename Fr _ _ _ _ => F9
    rename News _ _ _ _ => N9
    exact Stop.intro ⟨(by first | rfl | trivial), _, _, rfl, _, (frUn1 (frUn1 F9 ((if_neg (by decide)).trans hla)) hz), news_sub N9 (fun p hp => .tail _ (.tail _ hp))⟩
end
end
/-! MVb -/
section
open PySem PySem.W PySem.Spec PySem.Calls PyProof.Rows
section
variable {w : World} {N : Names} {A : Around} {g : Heap} {L l : Addr} {vs : List Value} {ns : List Int} {s : Shared} {m : Str → Option Value} {own : List (Addr × Obj)}
/-- the dots heard ahead of the places up to k -/
noncomputable def onesN (ds : List Int) (k : Nat) : Nat := (((ds.drop 1).take k).filter fun c => decide (0 < c)).length
set_option maxHeartbeats 4000000 in
theorem loop5 {o7 : Obj} {v7 : Option Value} (W : LawF w N A g L l vs ns) (F : Fr g L s.heap m) (NW : News g L s.heap ((L + 7, o7) :: own)) {o4 : Obj} {D6 : Addr} {ys6 : List Value} {n6 z : Nat} {ds : List Int} {tz : Tok} (m4 : (L + 4, o4) ∈ own) (d4 : o4.data = .cell (some (.ref D6))) (m6 : (D6, lob ys6 n6) ∈ own) (j6 : IntsAre ys6 ds) (lds : ds.length = z - 1) (hz : m (Str.ofString "size") = some (.int (z : Int) tz)) (z1 : 5 ≤ z) (z2 : z ≤ 6) (d7 : o7.data = .cell v7) (hne : ∀ p ∈ own, p.1 ≠ L + 7) :
    wpAny (model pw w) (A.deeper (envX (Str.ofString "law") (fSc (stm 19)) L 161 (.ref 160) (lawC L))) (exec (lawB 5) (envX (Str.ofString "law") (fSc (stm 19)) L 161 (.ref 160) (lawC L)))
      (fun f s' => Stop (f = .next ∧ ∃ h' tk, s' = { s with heap := h', toks := tk } ∧ ∃ o7' D7 ys7 n7, Fr g L h' m ∧ News g L h' ((L + 7, o7') :: (D7, lob ys7 n7) :: own) ∧ (∀ p ∈ (L + 7, o7) :: own, p.1 ≠ D7) ∧ o7'.data = .cell (some (.ref D7)) ∧ IntsAre ys7 ((List.range (z - 1)).map fun k => ((onesN ds k : Nat) : Int)))) (fun _ _ => False) s := by
  have _kf : (fun (_ : OpenLaw) (_ : Params → Frag) => True) PySem.Challenge.rw_rw0108_01 K := by (k_fill; trivial)
  clear _kf
  have es := (rfl : fSc (stm 19) = fSc (stm 19))
  conv at es => rhs; whnf
  have eb := (rfl : lawB 5 = lawB 5)
  conv at eb => rhs; whnf
  rw [es, eb]
  clear es eb
  have KX := W.O.K
  have T := W.O.T
  have hl := W.hl
  have hn := W.hn
  have hlen := W.hlen
  have hd := W.hd
  have hu := W.hu
  have hA := W.hA
  obtain ⟨h0, gn0, dr0, tk0, os0⟩ := s
  have F1 := (frKnow F (k := Str.ofString "size") hz)
  clear F
  have ez : (z : Int) - 1 = ((z - 1 : Nat) : Int) := by omega
  k_steps
  refine Stop.intro ?_
  refine evR (A := A.deeper _) (cl := [(Str.ofString "dots", L + 4)]) (h₀ := g) (L := L) (m := fun y => if y = Str.ofString "size" then some (.int (z : Int) tz) else m y) (news := (L + 7, o7) :: own) (z - 1) (fun _ => true) (fun k y => ∃ t, y = .int (onesN ds k : Nat) t) hA (by omega) ?hit ?g1 ?g2 ?g3 rfl (by decide) rfl (by decide) rfl (by intro _; rfl)
  case hit =>
    k_steps
    rename IsRange _ _ _ _ _ _ _ _ => hr
    rw [ez] at hr
    exact Stop.intro ⟨_, _, _, _, _, _, rfl, rfl, hr, by assumption, by assumption, by assumption⟩
  case g1 => exact fun C i t s₃ m₃ E' _ _ _ _ _ => wpAny_tests_nil (Stop.intro ⟨rfl, s₃.heap, s₃.toks, rfl, fun _ _ e => e⟩)
  case g2 =>
    intro C i t s₃ m₃ E' hC FC hi2 _ hm hE
    have NC := newsC NW hE hC
    have N3 : News g C s₃.heap ((L + 4, o4) :: (L + 7, o7) :: own) := news_sub NC (fun p hp => by
      rcases List.mem_cons.mp hp with rfl | hp
      · exact .tail _ m4
      · exact hp)
    clear F1 NW NC hE hC
    obtain ⟨h3, gn3, dr3, tk3, os3⟩ := s₃
    have lys := j6.length
    have ei : (((i + 1 : Nat)) : Int) = (i : Int) + 1 := by omega
    have u1 := pick_mid (vs := ys6) (a := 1) (b := i + 1) (by omega) (by omega)
    rw [ei] at u1
    have lt2 : ((ds.drop 1).take (i + 1 - 1)).length ≤ 1000 := by rw [List.length_take, List.length_drop]; omega
    k_steps
    refine Stop.intro ?_
    refine evL (A := A.deeper _) (cl := []) (h₀ := g) (L := C) (m := m₃) (news := (L + 4, o4) :: (L + 7, o7) :: own) (fun c => decide (0 < c)) (fun j y => ∃ t, y = .int j t) hA ((j6.drop 1).take (i + 1 - 1)) lt2 ?qh ?q1 ?q2 ?q3 rfl (by decide) rfl (by decide) rfl (by intro _; rfl)
    case qh =>
      k_steps
      refine Stop.intro ?_
      refine sliceE (lob_is (N3 _ (.tail _ (.tail _ m6))).1) (.int _ _) (.int _ _) .none (by decide) (fun h5 D5 x5 e5 g5 => ?_) (by with_unfolding_all rfl) (by rw [List.size_toArray]; omega)
      refine Stop.intro ⟨_, _, _, _, rfl, rfl, g5.trans (congrArg (fun a => some (lob a 0)) u1), Fr.ext FC x5, News.ext N3 x5, x5⟩
    case q1 =>
      intro C2 i2 t2 s₄ m₄ E2 hC2 FC2 hi3 hm2 hE2
      have NC2 : News g C2 s₄.heap [] := News.nil
      clear hE2 hC2 FC N3
      obtain ⟨h4, gn4, dr4, tk4, os4⟩ := s₄
      refine wpAny_tests_one ?_
      k_steps
      exact Stop.intro ⟨rfl, _, _, rfl, fun _ _ e => e⟩
    case q2 =>
      intro C2 i2 t2 s₄ m₄ E2 hC2 FC2 hi3 _ hm2 hE2
      have NC2 : News g C2 s₄.heap [] := News.nil
      clear hE2 hC2 FC N3
      obtain ⟨h4, gn4, dr4, tk4, os4⟩ := s₄
      k_steps
      exact Stop.intro ⟨⟨_, rfl⟩, _, _, rfl, fun _ _ e => e⟩
    case q3 =>
      intro D5 ys5 k5 h5 tk5 P5 x5 F5 N5 hnew5
      have i9 := paired_fun (f := fun j => j) P5
      rw [List.map_id''] at i9
      have l9 := i9.length
      have hl5 : h5.IsList D5 ys5.toArray := lob_is (N5 _ (.head _)).1
      clear FC N3
      k_steps
      refine call_len_list (A := A.deeper _) hl5 (by rw [List.size_toArray, l9]; exact Int.lt_of_le_of_lt (Int.ofNat_le.mpr (Nat.le_trans (List.length_filter_le _ _) lt2)) (by decide)) ?_
      have e9 : ys5.toArray.size = onesN ds i := by rw [List.size_toArray, l9]; rfl
      rw [e9]
      exact Stop.intro ⟨⟨_, rfl⟩, _, _, rfl, x5⟩
  case g3 =>
    intro D ys k h' tk P F3 N3 hnew
    have i9 := paired_nat P
    rw [List.filter_eq_self.mpr (fun _ _ => rfl)] at i9
    have q := ne_news NW hnew
    have N4 : News g L h' ((L + 7, o7) :: (D, lob ys k) :: own) := news_sub N3 (fun p hp => by
      rcases List.mem_cons.mp hp with rfl | hp
      · exact .tail _ (.head _)
      · rcases List.mem_cons.mp hp with rfl | hp
        · exact .head _
        · exact .tail _ (.tail _ hp))
    have hne1 : ∀ p ∈ (D, lob ys k) :: own, p.1 ≠ L + 7 := fun p hp => by
      rcases List.mem_cons.mp hp with rfl | hp
      · exact Ne.symm (q _ (.head _))
      · exact hne p hp
    clear NW F1 N3
    k_steps
    rename Fr _ _ _ _ => F9
    rename News _ _ _ _ => N9
    exact Stop.intro ⟨(by first | rfl | trivial), _, _, rfl, _, _, _, _, (frUn F9 hz), N9, q, by first | assumption | rfl, i9⟩
end
end
/-! MVc -/
section
open PySem PySem.W PySem.Spec PySem.Calls PyProof.Rows
section
variable {w : World} {N : Names} {A : Around} {g : Heap} {L l : Addr} {vs : List Value} {ns : List Int} {s : Shared} {m : Str → Option Value} {own : List (Addr × Obj)}
set_option maxHeartbeats 4000000 in
theorem loop7 (W : LawF w N A g L l vs ns) (F : Fr g L s.heap m) (NW : News g L s.heap (own)) {o3 o5 o6 : Obj} {D3 D5 : Addr} {ys3 ys5 : List Value} {n3 n5 z a b : Nat} {rs dr : List Int} {x : Int} {tz tx ta tb : Tok} (m3 : (L + 3, o3) ∈ own) (d3 : o3.data = .cell (some (.ref D3))) (mm3 : (D3, lob ys3 n3) ∈ own) (j3 : IntsAre ys3 dr) (m5 : (L + 5, o5) ∈ own) (d5 : o5.data = .cell (some (.ref D5))) (mm5 : (D5, lob ys5 n5) ∈ own) (j5 : IntsAre ys5 rs) (m6 : (L + 6, o6) ∈ own) (d6 : o6.data = .cell (some (.int x tx))) (lrs : rs.length ≤ 6) (hz : m (Str.ofString "size") = some (.int (z : Int) tz)) (z2 : z = rs.length + 1) (hf : m (Str.ofString "first") = some (.int (a : Int) ta)) (hl2 : m (Str.ofString "last") = some (.int (b : Int) tb)) (hab : a ≤ b + 1) (hb : b ≤ 6) (hlaw : (List.range z).filter (fun k => decide (rs.take k ++ [x] ++ rs.drop k = dr)) = (List.range (b + 1 - a)).map (a + ·)) :
    wpAny (model pw w) (A.deeper (envX (Str.ofString "law") (fSc (stm 19)) L 161 (.ref 160) (lawC L))) (exec (lawB 7) (envX (Str.ofString "law") (fSc (stm 19)) L 161 (.ref 160) (lawC L)))
      (fun f s' => Stop (f = .next ∧ ∃ h' tk, s' = { s with heap := h', toks := tk } ∧ Fr g L h' m ∧ News g L h' own)) (fun _ _ => False) s := by
  have _kf : (fun (_ : OpenLaw) (_ : Params → Frag) => True) PySem.Challenge.rw_rw0108_01 K := by (k_fill; trivial)
  clear _kf
  have es := (rfl : fSc (stm 19) = fSc (stm 19))
  conv at es => rhs; whnf
  have eb := (rfl : lawB 7 = lawB 7)
  conv at eb => rhs; whnf
  rw [es, eb]
  clear es eb
  have KX := W.O.K
  have T := W.O.T
  have hl := W.hl
  have hn := W.hn
  have hlen := W.hlen
  have hd := W.hd
  have hu := W.hu
  have hA := W.hA
  obtain ⟨h0, gn0, dr0, tk0, os0⟩ := s
  have F1 := (frKnow (frKnow (frKnow F (k := Str.ofString "size") hz) (k := Str.ofString "first") ((if_neg (by decide)).trans hf)) (k := Str.ofString "last") ((if_neg (by decide)).trans ((if_neg (by decide)).trans hl2)))
  clear F
  k_steps
  refine Stop.intro ?_
  refine evR (A := A.deeper _) (cl := [(Str.ofString "ranks", L + 5), (Str.ofString "name", L + 6), (Str.ofString "drawn", L + 3)]) (h₀ := g) (L := L) (m := fun y => if y = Str.ofString "last" then some (.int (b : Int) tb) else if y = Str.ofString "first" then some (.int (a : Int) ta) else if y = Str.ofString "size" then some (.int (z : Int) tz) else m y) (news := own) z (fun k => decide (rs.take k ++ [x] ++ rs.drop k = dr)) (fun k y => ∃ t, y = .int (k : Nat) t) hA (by omega) ?hit ?g1 ?g2 ?g3 rfl (by decide) rfl (by decide) rfl (by intro _; rfl)
  case hit =>
    k_steps
    rename IsRange _ _ _ _ _ _ _ _ => hr
    exact Stop.intro ⟨_, _, _, _, _, _, rfl, rfl, hr, by assumption, by assumption, by assumption⟩
  case g1 =>
    intro C i t s₃ m₃ E' hC FC hi2 hm hE
    have NC := newsC NW hE hC
    have N3 : News g C s₃.heap ((L + 3, o3) :: (L + 5, o5) :: (L + 6, o6) :: own) := news_sub NC (fun p hp => by
      rcases List.mem_cons.mp hp with rfl | hp
      · exact m3
      · rcases List.mem_cons.mp hp with rfl | hp
        · exact m5
        · rcases List.mem_cons.mp hp with rfl | hp
          · exact m6
          · exact hp)
    clear F1 NW NC hE hC
    obtain ⟨h3, gn3, dr3, tk3, os3⟩ := s₃
    have lys := j5.length
    have u1 := pick_pre (vs := ys5) (p := i) (by omega)
    have u2 := pick_suf (vs := ys5) (p := i) (by omega)
    refine wpAny_tests_one ?_
    k_steps
    refine Stop.intro ?_
    refine sliceE (lob_is (N3 _ (.tail _ (.tail _ (.tail _ mm5)))).1) .none (.int _ _) .none (by decide) (fun h5 D5a x5 e5 g5 => ?_) (by with_unfolding_all rfl) (by rw [List.size_toArray]; omega)
    rw [u1] at g5
    have F5 := Fr.ext FC x5
    have N5 := News.ext N3 x5
    clear FC N3
    k_steps
    refine Stop.intro ?_
    refine newListE (by show 1 ≤ 1000; decide) (fun h6 D6 x6 n6 g6 => ?_)
    have F6 := Fr.ext F5 x6
    have N6 := News.ext N5 x6
    replace g5 := x6 _ _ g5
    clear F5 N5
    k_steps
    refine Stop.intro ?_
    refine addListE (lob_is g5) (lob_is g6) (fun h7 D7 x7 e7 g7 => ?_) (by rw [List.length_take]; show _ + 1 ≤ _; omega)
    have F7 := Fr.ext F6 x7
    have N7 := News.ext N6 x7
    clear F6 N6
    k_steps
    refine Stop.intro ?_
    refine sliceE (lob_is (N7 _ (.tail _ (.tail _ (.tail _ mm5)))).1) (.int _ _) .none .none (by decide) (fun h8 D8 x8 e8 g8 => ?_) (by with_unfolding_all rfl) (by rw [List.size_toArray]; omega)
    rw [u2] at g8
    have F8 := Fr.ext F7 x8
    have N8 := News.ext N7 x8
    replace g7 := x8 _ _ g7
    clear F7 N7
    k_steps
    refine Stop.intro ?_
    refine addListE (lob_is g7) (lob_is g8) (fun h9 D9 x9 e9 g9 => ?_) (by rw [List.length_append, List.length_take, List.length_drop]; show _ + 1 + _ ≤ _; omega)
    have F9 := Fr.ext F8 x9
    have N9 := News.ext N8 x9
    clear F8 N8
    k_steps
    refine Stop.intro ?_
    refine ke_eq_ints (lob_is g9) (lob_is (N9 _ (.tail _ (.tail _ (.tail _ mm3)))).1) (IntsAre.append (IntsAre.append (j5.take i) (.cons x _ .nil)) (j5.drop i)) j3 (by show A.units + 3 + 64 < _; unfold cLine; omega) ?_
    k_steps
    exact Stop.intro ⟨rfl, _, _, rfl, fun b o e => x9 _ _ (x8 _ _ (x7 _ _ (x6 _ _ (x5 _ _ e))))⟩
  case g2 =>
    intro C i t s₃ m₃ E' hC FC hi2 _ hm hE
    have NC : News g C s₃.heap [] := News.nil
    clear hE hC F1 NW
    obtain ⟨h3, gn3, dr3, tk3, os3⟩ := s₃
    k_steps
    exact Stop.intro ⟨⟨_, rfl⟩, _, _, rfl, fun _ _ e => e⟩
  case g3 =>
    intro D ys k h' tk P F3 N3 hnew
    have i9 := paired_nat P
    rw [hlaw] at i9
    clear NW F1
    k_steps
    rename IsRange _ _ _ _ _ _ _ _ => hr
    rename Fr _ _ _ _ => F4
    rename News _ _ _ _ => N4
    have eab : (b : Int) + 1 = (a : Int) + ((b + 1 - a : Nat) : Int) := by omega
    refine listRangeE (A := A.deeper _) (n := b + 1 - a) hA hr (by omega) eab (by omega) (by omega) (fun h5 tk5 D5b vs5 k5 x5 e5 g5 i5 => ?_)
    have F5 := Fr.ext F4 x5
    have N5 := News.ext N4 x5
    clear F4 N4
    have eL : ((List.range (b + 1 - a)).map (a + ·)).map (fun i : Nat => (i : Int)) = (List.range (b + 1 - a)).map fun (i : Nat) => (a : Int) + (i : Int) := by
      rw [List.map_map]
      apply List.map_congr_left
      intro i _
      show ((a + i : Nat) : Int) = _
      omega
    k_steps
    refine Stop.intro ?_
    refine ke_ne_ints (lob_is (N5 _ (.head _)).1) (lob_is g5) i9 i5 (by show A.units + 3 + 64 < _; unfold cLine; omega) ?_
    rw [decide_eq_true eL]
    k_steps
    rename Fr _ _ _ _ => F9
    rename News _ _ _ _ => N9
    exact Stop.intro ⟨(by first | rfl | trivial), _, _, rfl, (frUn (frUn (frUn F9 ((if_neg (by decide)).trans ((if_neg (by decide)).trans hl2))) ((if_neg (by decide)).trans hf)) hz), news_sub N9 (fun p hp => .tail _ hp)⟩
end
end
/-! MP1 -/
section
/-- what a binary search over a falling predicate gives -/
theorem bis_mono {p : Nat → Bool} : ∀ (n lo hi : Nat), hi - lo ≤ n → lo ≤ hi → (∀ i j, lo ≤ i → i ≤ j → j < hi → p j = true → p i = true) →
    lo ≤ bis p n lo hi ∧ bis p n lo hi ≤ hi ∧ (∀ i, lo ≤ i → i < bis p n lo hi → p i = true) ∧ (∀ i, bis p n lo hi ≤ i → i < hi → p i = false)
  | 0, lo, hi, h, hl, _ => by
    have : lo = hi := Nat.le_antisymm hl (Nat.le_of_sub_eq_zero (Nat.le_zero.mp h))
    subst this
    exact ⟨Nat.le_refl _, Nat.le_refl _, fun i a b => absurd b (Nat.not_lt.mpr a), fun i a b => absurd b (Nat.not_lt.mpr a)⟩
  | n + 1, lo, hi, h, hl, hm => by
    by_cases hlt : lo < hi
    · have m1 := mid_d1 hlt
      have m2 := Nat.lt_of_succ_le (mid_u1 hlt)
      cases q : p ((lo + hi) / 2) with
      | true =>
        rw [bis_up hlt q]
        obtain ⟨a, b, c, d⟩ := bis_mono (p := p) n ((lo + hi) / 2 + 1) hi (mid_u2 hlt h) (mid_u1 hlt) (fun i j x y z => hm i j (Nat.le_trans (Nat.le_succ_of_le m1) x) y z)
        refine ⟨Nat.le_trans (Nat.le_succ_of_le m1) a, b, fun i x y => ?_, d⟩
        by_cases hi' : i ≤ (lo + hi) / 2
        · exact hm i _ x hi' m2 q
        · exact c i (Nat.lt_of_not_le hi') y
      | false =>
        rw [bis_dn hlt q]
        obtain ⟨a, b, c, d⟩ := bis_mono (p := p) n lo ((lo + hi) / 2) (mid_d3 hlt h) m1 (fun i j x y z => hm i j x y (Nat.lt_trans z m2))
        refine ⟨a, Nat.le_trans b (Nat.le_of_lt m2), c, fun i x y => ?_⟩
        by_cases hi' : i < (lo + hi) / 2
        · exact d i x hi'
        · cases z : p i with
          | false => rfl
          | true => exact absurd (hm ((lo + hi) / 2) i m1 (Nat.not_lt.mp hi') y z) (by rw [q]; exact Bool.false_ne_true)
    · have : lo = hi := Nat.le_antisymm hl (Nat.not_lt.mp hlt)
      subst this
      rw [bis_done hlt]
      exact ⟨Nat.le_refl _, Nat.le_refl _, fun i a b => absurd b (Nat.not_lt.mpr a), fun i a b => absurd b (Nat.not_lt.mpr a)⟩
theorem bis_is {p : Nat → Bool} {n lo hi t : Nat} (hn : hi - lo ≤ n) (h1 : lo ≤ t) (h2 : t ≤ hi) (hT : ∀ i, lo ≤ i → i < t → p i = true) (hF : ∀ i, t ≤ i → i < hi → p i = false) : bis p n lo hi = t := by
  obtain ⟨a, b, c, d⟩ := bis_mono (p := p) n lo hi hn (by omega) (fun i j x y z w => by
    by_cases hj : j < t
    · exact hT i x (by omega)
    · rw [hF j (by omega) z] at w; cases w)
  rcases Nat.lt_trichotomy (bis p n lo hi) t with h | h | h
  · have := d _ (Nat.le_refl _) (by omega)
    rw [hT _ a h] at this; cases this
  · exact h
  · have := c t h1 h
    rw [hF t (Nat.le_refl _) (by omega)] at this; cases this
/-- rises among the first k + 1 of f -/
noncomputable def rises (f : Nat → Int) : Nat → Nat
  | 0 => 0
  | k + 1 => rises f k + if f k ≤ f (k + 1) then 1 else 0
theorem rises_mono (f : Nat → Int) {i j : Nat} (h : i ≤ j) : rises f i ≤ rises f j := by
  induction h with
  | refl => exact Nat.le_refl _
  | step _ ih => exact Nat.le_trans ih (Nat.le_add_right _ _)
theorem rises_step (f : Nat → Int) (k : Nat) : rises f (k + 1) ≤ rises f k + 1 := by
  show _ + (if _ then 1 else 0) ≤ _
  split <;> omega
theorem rises_lip' (f : Nat → Int) (i : Nat) : ∀ d, rises f (i + d) ≤ rises f i + d
  | 0 => Nat.le_refl _
  | d + 1 => by
    have h1 := rises_lip' f i d
    have h2 := rises_step f (i + d)
    show rises f (i + d + 1) ≤ _
    omega
theorem rises_lip (f : Nat → Int) {i j : Nat} (h : i ≤ j) : rises f j + i ≤ rises f i + j := by
  have := rises_lip' f i (j - i)
  rw [Nat.add_sub_cancel' h] at this
  omega
theorem rises_le (f : Nat → Int) (k : Nat) : rises f k ≤ k := by
  have := rises_lip f (Nat.zero_le k)
  have e : rises f 0 = 0 := rfl
  omega
theorem falls' (f : Nat → Int) (i : Nat) : ∀ d, rises f i = rises f (i + d + 1) → f (i + d + 1) < f i
  | 0, e => by
    have e1 : rises f (i + 1) = rises f i + if f i ≤ f (i + 1) then 1 else 0 := rfl
    have e' : rises f i = rises f (i + 1) := e
    show f (i + 1) < f i
    by_cases q : f i ≤ f (i + 1)
    · rw [if_pos q] at e1; omega
    · omega
  | d + 1, e => by
    have e1 : rises f (i + d + 1 + 1) = rises f (i + d + 1) + if f (i + d + 1) ≤ f (i + d + 1 + 1) then 1 else 0 := rfl
    have e' : rises f i = rises f (i + d + 1 + 1) := e
    have m1 : rises f i ≤ rises f (i + d + 1) := rises_mono f (by omega)
    show f (i + d + 1 + 1) < f i
    by_cases q : f (i + d + 1) ≤ f (i + d + 1 + 1)
    · rw [if_pos q] at e1; omega
    · have := falls' f i d (by rw [if_neg q] at e1; omega)
      omega
/-- no rise from i to j: f falls -/
theorem falls (f : Nat → Int) {i j : Nat} (h : i < j) (e : rises f i = rises f j) : f j < f i := by
  have ej : i + (j - i - 1) + 1 = j := by omega
  have := falls' f i (j - i - 1)
  rw [ej] at this
  exact this e
theorem climbs' (f : Nat → Int) (i : Nat) : ∀ d, rises f i + d = rises f (i + d) → f i ≤ f (i + d)
  | 0, _ => Int.le_refl _
  | d + 1, e => by
    have e1 : rises f (i + d + 1) = rises f (i + d) + if f (i + d) ≤ f (i + d + 1) then 1 else 0 := rfl
    have e' : rises f i + (d + 1) = rises f (i + d + 1) := e
    have l1 := rises_lip' f i d
    show f i ≤ f (i + d + 1)
    by_cases q : f (i + d) ≤ f (i + d + 1)
    · rw [if_pos q] at e1
      exact Int.le_trans (climbs' f i d (by omega)) q
    · rw [if_neg q] at e1; omega
/-- rises all the way from i to j: f never falls -/
theorem climbs (f : Nat → Int) {i j : Nat} (h : i ≤ j) (e : rises f i + j = rises f j + i) : f i ≤ f j := by
  have ej : i + (j - i) = j := by omega
  have := climbs' f i (j - i)
  rw [ej] at this
  exact this (by omega)
end
/-! MP2 -/
section
/-- x put in at p -/
noncomputable def put (f : Nat → Int) (p : Nat) (x : Int) (i : Nat) : Int := if i < p then f i else if i = p then x else f (i - 1)
noncomputable def tot (f : Nat → Int) : Nat → Nat
  | 0 => 0
  | n + 1 => tot f n + rises f n
theorem put_lt {f : Nat → Int} {p i : Nat} {x : Int} (h : i < p) : put f p x i = f i := if_pos h
theorem put_at {f : Nat → Int} {p : Nat} {x : Int} : put f p x p = x := by unfold put; rw [if_neg (Nat.lt_irrefl _), if_pos rfl]
theorem put_gt {f : Nat → Int} {p i : Nat} {x : Int} (h : p ≤ i) : put f p x (i + 1) = f i := by unfold put; rw [if_neg (by omega), if_neg (by omega)]; rfl
theorem rises_put_lt (f : Nat → Int) (p : Nat) (x : Int) : ∀ i, i < p → rises (put f p x) i = rises f i
  | 0, _ => rfl
  | i + 1, h => by
    have e1 : rises (put f p x) (i + 1) = rises (put f p x) i + if put f p x i ≤ put f p x (i + 1) then 1 else 0 := rfl
    have e2 : rises f (i + 1) = rises f i + if f i ≤ f (i + 1) then 1 else 0 := rfl
    rw [e1, e2, rises_put_lt f p x i (by omega), put_lt (by omega), put_lt h]
theorem tot_put_lt (f : Nat → Int) (p : Nat) (x : Int) : ∀ i, i ≤ p → tot (put f p x) i = tot f i
  | 0, _ => rfl
  | i + 1, h => by
    show tot (put f p x) i + _ = tot f i + _
    rw [tot_put_lt f p x i (by omega), rises_put_lt f p x i (by omega)]
theorem rises_put_gt (f : Nat → Int) (p : Nat) (x : Int) : ∀ i, rises (put f p x) (p + 1 + i) + rises f p = rises (put f p x) (p + 1) + rises f (p + i)
  | 0 => by rfl
  | i + 1 => by
    have ih := rises_put_gt f p x i
    have e1 : rises (put f p x) (p + 1 + i + 1) = rises (put f p x) (p + 1 + i) + if put f p x (p + 1 + i) ≤ put f p x (p + 1 + i + 1) then 1 else 0 := rfl
    have e2 : rises f (p + i + 1) = rises f (p + i) + if f (p + i) ≤ f (p + i + 1) then 1 else 0 := rfl
    have e3 : put f p x (p + 1 + i) = f (p + i) := by
      have := put_gt (f := f) (x := x) (show p ≤ p + i by omega)
      rw [show p + 1 + i = p + i + 1 by omega]; exact this
    have e4 : put f p x (p + 1 + i + 1) = f (p + i + 1) := by
      have := put_gt (f := f) (x := x) (show p ≤ p + i + 1 by omega)
      rw [show p + 1 + i + 1 = p + i + 1 + 1 by omega]; exact this
    rw [e3, e4] at e1
    show rises (put f p x) (p + 1 + i + 1) + _ = _ + rises f (p + i + 1)
    omega
theorem tot_put (f : Nat → Int) (p : Nat) (x : Int) : ∀ i, tot (put f p x) (p + 1 + i) + i * rises f p = tot f (p + i) + rises (put f p x) p + i * rises (put f p x) (p + 1)
  | 0 => by
    have := tot_put_lt f p x p (Nat.le_refl _)
    show tot (put f p x) p + rises (put f p x) p + 0 * _ = _
    rw [this]; simp
  | i + 1 => by
    have ih := tot_put f p x i
    have h := rises_put_gt f p x i
    have e1 : tot (put f p x) (p + 1 + i + 1) = tot (put f p x) (p + 1 + i) + rises (put f p x) (p + 1 + i) := rfl
    have e2 : tot f (p + i + 1) = tot f (p + i) + rises f (p + i) := rfl
    show tot (put f p x) (p + 1 + i + 1) + _ = tot f (p + i + 1) + _ + _
    rw [Nat.succ_mul, Nat.succ_mul]
    omega
/-- what the sum lacks when the place p is passed over -/
theorem lack_val (f : Nat → Int) (m p D : Nat) (x : Int) (hp : p < m) (hD : tot (put f p x) (m + 1) = tot f m + D) :
    D + (m - p) * rises f p = rises (put f p x) p + (m - p) * rises (put f p x) (p + 1) := by
  have h := tot_put f p x (m - p)
  rw [show p + 1 + (m - p) = m + 1 by omega, show p + (m - p) = m by omega] at h
  omega
theorem lack_end (f : Nat → Int) (m D : Nat) (x : Int) (hD : tot (put f m x) (m + 1) = tot f m + D) : D = rises (put f m x) m := by
  have h := tot_put f m x 0
  simp only [Nat.zero_mul, Nat.add_zero] at h
  omega
structure CaseA (f : Nat → Int) (m p : Nat) (x : Int) (low high : Nat) : Prop where
  lp : low ≤ p
  ph : p ≤ high
  left : ∀ j, low ≤ j → j < p → x < f j
  right : ∀ j, p ≤ j → j < high → f j < x
  nl : 0 < p → f (p - 1) ≠ x
  nr : p < m → f p ≠ x
structure CaseB (f : Nat → Int) (m p : Nat) (x : Int) (low high : Nat) : Prop where
  lp : low ≤ p
  ph : p ≤ high
  left : ∀ j, low ≤ j → j < p → f j ≤ x
  right : ∀ j, p ≤ j → j < high → x ≤ f j
  up : ∀ i j, low ≤ i → i ≤ j → j < high → f i ≤ f j
  l1 : 0 < low → low < p → f low < f (low - 1)
  l2 : 0 < p → low = p → f (p - 1) ≠ x
  r1 : high < m → p < high → f high < f (high - 1)
  r2 : p < m → high = p → f p ≠ x
/-- the word around p: what the counts say -/
theorem around (f : Nat → Int) (m p D : Nat) (x : Int) (hm : 1 ≤ m) (hp : p ≤ m) (hD : tot (put f p x) (m + 1) = tot f m + D) :
    (p = 0 ∧ ((D = 0 ∧ f 0 < x) ∨ (D = m ∧ x ≤ f 0))) ∨ (0 < p ∧ p = m ∧ ((D = rises f (m - 1) ∧ x < f (m - 1)) ∨ (D = rises f (m - 1) + 1 ∧ f (m - 1) ≤ x))) ∨
    (0 < p ∧ p < m ∧ ((D = rises f (p - 1) ∧ rises f p = rises f (p - 1) ∧ x < f (p - 1) ∧ f p < x) ∨ (D = rises f (p - 1) + 1 ∧ rises f p = rises f (p - 1) + 1 ∧ f (p - 1) < x ∧ f p < x) ∨ (D = rises f (p - 1) ∧ rises f p = rises f (p - 1) + 1 ∧ x < f (p - 1) ∧ x < f p) ∨
      (D = rises f (p - 1) + 1 + (m - p) ∧ rises f p = rises f (p - 1) + 1 ∧ f (p - 1) ≤ x ∧ x ≤ f p) ∨ (D = rises f (p - 1) + (m - p) ∧ rises f p = rises f (p - 1) ∧ x < f (p - 1) ∧ x ≤ f p) ∨ (D = rises f (p - 1) + 1 + (m - p) ∧ rises f p = rises f (p - 1) ∧ f (p - 1) ≤ x ∧ f p < x))) := by
  by_cases h0 : p = 0
  · subst h0
    left
    refine ⟨rfl, ?_⟩
    have h := lack_val f m 0 D x (by omega) hD
    have e1 : rises (put f 0 x) (0 + 1) = 0 + if put f 0 x 0 ≤ put f 0 x (0 + 1) then 1 else 0 := rfl
    rw [put_at, put_gt (Nat.le_refl _)] at e1
    have e2 : rises (put f 0 x) 0 = 0 := rfl
    have e3 : rises f 0 = 0 := rfl
    rw [e2, e3] at h
    by_cases q : x ≤ f 0
    · rw [if_pos q] at e1
      right
      rw [e1] at h
      exact ⟨by simpa using h, q⟩
    · rw [if_neg q] at e1
      left
      rw [e1] at h
      exact ⟨by simpa using h, by omega⟩
  · right
    obtain ⟨q, rfl⟩ : ∃ q, p = q + 1 := ⟨p - 1, by omega⟩
    have c1 : rises (put f (q + 1) x) (q + 1) = rises (put f (q + 1) x) q + if put f (q + 1) x q ≤ put f (q + 1) x (q + 1) then 1 else 0 := rfl
    rw [put_at, put_lt (Nat.lt_succ_self q), rises_put_lt f (q + 1) x q (Nat.lt_succ_self q)] at c1
    by_cases he : q + 1 = m
    · left
      subst he
      have h := lack_end f (q + 1) D x hD
      refine ⟨by omega, rfl, ?_⟩
      show (D = rises f q ∧ x < f q) ∨ (D = rises f q + 1 ∧ f q ≤ x)
      by_cases z : f q ≤ x
      · rw [if_pos z] at c1; right; exact ⟨by omega, z⟩
      · rw [if_neg z] at c1; left; exact ⟨by omega, by omega⟩
    · right
      have h := lack_val f m (q + 1) D x (by omega) hD
      have c2 : rises (put f (q + 1) x) (q + 1 + 1) = rises (put f (q + 1) x) (q + 1) + if put f (q + 1) x (q + 1) ≤ put f (q + 1) x (q + 1 + 1) then 1 else 0 := rfl
      rw [put_at, put_gt (Nat.le_refl _)] at c2
      have c3 : rises f (q + 1) = rises f q + if f q ≤ f (q + 1) then 1 else 0 := rfl
      refine ⟨by omega, by omega, ?_⟩
      show (D = rises f q ∧ rises f (q + 1) = rises f q ∧ x < f q ∧ f (q + 1) < x) ∨ (D = rises f q + 1 ∧ rises f (q + 1) = rises f q + 1 ∧ f q < x ∧ f (q + 1) < x) ∨ (D = rises f q ∧ rises f (q + 1) = rises f q + 1 ∧ x < f q ∧ x < f (q + 1)) ∨
        (D = rises f q + 1 + (m - (q + 1)) ∧ rises f (q + 1) = rises f q + 1 ∧ f q ≤ x ∧ x ≤ f (q + 1)) ∨ (D = rises f q + (m - (q + 1)) ∧ rises f (q + 1) = rises f q ∧ x < f q ∧ x ≤ f (q + 1)) ∨ (D = rises f q + 1 + (m - (q + 1)) ∧ rises f (q + 1) = rises f q ∧ f q ≤ x ∧ f (q + 1) < x)
      generalize rises (put f (q + 1) x) (q + 1 + 1) = C2 at *
      generalize rises (put f (q + 1) x) (q + 1) = C1 at *
      generalize rises f (q + 1) = c1' at *
      generalize rises f q = c0 at *
      generalize m - (q + 1) = d at *
      by_cases b : f q ≤ x <;> by_cases g : x ≤ f (q + 1) <;> by_cases a : f q ≤ f (q + 1) <;> simp only [b, g, a, if_true, if_false] at c1 c2 c3 <;> subst c3 <;> subst c1 <;> subst c2
      all_goals (try simp only [Nat.add_zero, Nat.mul_add, Nat.mul_one] at h)
      · right; right; right; left; exact ⟨by omega, by omega, by omega, by omega⟩
      · omega
      · right; left; exact ⟨by omega, by omega, by omega, by omega⟩
      · right; right; right; right; right; exact ⟨by omega, by omega, by omega, by omega⟩
      · right; right; left; exact ⟨by omega, by omega, by omega, by omega⟩
      · right; right; right; right; left; exact ⟨by omega, by omega, by omega, by omega⟩
      · omega
      · left; exact ⟨by omega, by omega, by omega, by omega⟩
end
/-! MP3 -/
section
theorem falls_le (f : Nat → Int) {i j : Nat} (h : i ≤ j) (e : rises f i = rises f j) : f j ≤ f i := by
  rcases Nat.lt_or_ge i j with h1 | h1
  · exact Int.le_of_lt (falls f h1 e)
  · have : i = j := Nat.le_antisymm h h1
    subst this; exact Int.le_refl _
theorem lo_of {a D low p : Nat} (H : a < D ↔ p < low) (h : D ≤ a) : low ≤ p := Nat.le_of_not_lt fun q => Nat.not_lt.mpr h (H.mpr q)
theorem lo_not {a D low p : Nat} (H : a < D ↔ p < low) (h : low ≤ p) : D ≤ a := Nat.le_of_not_lt fun q => Nat.not_lt.mpr h (H.mp q)
theorem hi_of {a D high p : Nat} (h0 : 0 < p) (H : a ≤ D ↔ p - 1 < high) (h : a ≤ D) : p ≤ high := Nat.le_of_pred_lt (H.mp h)
theorem lip_no {R r D m p : Nat} (lip : R + p ≤ r + (m - 1)) (h1 : p < m) (hle : D ≤ R) (e : r + (m - p) ≤ D) : False := by omega
theorem pre_lt {p m : Nat} (h0 : 0 < p) (hp : p ≤ m) : p - 1 < m := Nat.lt_of_lt_of_le (Nat.sub_lt h0 Nat.one_pos) hp
theorem pre_le (p : Nat) : p - 1 ≤ p := Nat.sub_le _ _
theorem caseA (f : Nat → Int) (m p D : Nat) (x : Int) (hm : 1 ≤ m) (hp : p ≤ m) (hD : tot (put f p x) (m + 1) = tot f m + D) (hle : D ≤ rises f (m - 1)) (low high : Nat) (hl : low ≤ m) (hh : high ≤ m)
    (Hl : ∀ j, j < m → (rises f j < D ↔ j < low)) (Hh : ∀ j, j < m → (rises f j ≤ D ↔ j < high)) : CaseA f m p x low high := by
  have lft : D = rises f (p - 1) → x < f (p - 1) → ∀ j, low ≤ j → j < p → x < f j := fun e hx j h1 h2 => by
    have hj : j ≤ p - 1 := Nat.le_sub_one_of_lt h2
    have a := lo_not (Hl j (Nat.lt_of_lt_of_le h2 hp)) h1
    exact Int.lt_of_lt_of_le hx (falls_le f hj (Nat.le_antisymm (rises_mono f hj) (Nat.le_trans (Nat.le_of_eq e.symm) a)))
  have rgt : rises f p = D → f p < x → ∀ j, p ≤ j → j < high → f j < x := fun e hx j h1 h2 => by
    have a := (Hh j (Nat.lt_of_lt_of_le h2 hh)).mpr h2
    exact Int.lt_of_le_of_lt (falls_le f h1 (Nat.le_antisymm (rises_mono f h1) (Nat.le_trans a (Nat.le_of_eq e.symm)))) hx
  rcases around f m p D x hm hp hD with ⟨rfl, h⟩ | ⟨h0, rfl, h⟩ | ⟨h0, h1, h⟩
  · rcases h with ⟨rfl, hx⟩ | ⟨rfl, hx⟩
    · exact ⟨lo_of (Hl 0 hm) (Nat.zero_le _), Nat.zero_le _, fun j h1 h2 => absurd h2 (Nat.not_lt_zero j), rgt rfl hx, fun h => absurd h (Nat.lt_irrefl 0), fun _ => Int.ne_of_lt hx⟩
    · exact absurd (Nat.le_trans hle (rises_le f (D - 1))) (Nat.not_le.mpr (Nat.sub_lt hm Nat.one_pos))
  · rcases h with ⟨e, hx⟩ | ⟨e, hx⟩
    · exact ⟨hl, hi_of h0 (Hh (p - 1) (pre_lt h0 hp)) (Nat.le_of_eq e.symm), lft e hx, fun j h1 h2 => absurd (Nat.lt_of_lt_of_le h2 hh) (Nat.not_lt.mpr h1), fun _ => Int.ne_of_gt hx, fun h => absurd h (Nat.lt_irrefl p)⟩
    · exact absurd hle (by rw [e]; exact Nat.not_succ_le_self _)
  · have lip := rises_lip f (show p ≤ m - 1 from Nat.le_sub_one_of_lt h1)
    have a := Hl p h1
    have b := Hh (p - 1) (pre_lt h0 hp)
    rcases h with ⟨e1, e2, h3, h4⟩ | ⟨e1, e2, h3, h4⟩ | ⟨e1, e2, h3, h4⟩ | ⟨e1, e2, h3, h4⟩ | ⟨e1, e2, h3, h4⟩ | ⟨e1, e2, h3, h4⟩
    · exact ⟨lo_of a (Nat.le_of_eq (e1.trans e2.symm)), hi_of h0 b (Nat.le_of_eq e1.symm), lft e1 h3, rgt (e2.trans e1.symm) h4, fun _ => Int.ne_of_gt h3, fun _ => Int.ne_of_lt h4⟩
    · refine ⟨lo_of a (Nat.le_of_eq (e1.trans e2.symm)), hi_of h0 b (by rw [e1]; exact Nat.le_succ _), fun j h5 h6 => ?_, rgt (e2.trans e1.symm) h4, fun _ => Int.ne_of_lt h3, fun _ => Int.ne_of_lt h4⟩
      have c := lo_not (Hl j (Nat.lt_of_lt_of_le h6 hp)) h5
      have d := rises_mono f (Nat.le_sub_one_of_lt h6)
      rw [e1] at c
      exact absurd (Nat.le_trans c d) (Nat.not_succ_le_self _)
    · refine ⟨lo_of a (by rw [e1, e2]; exact Nat.le_succ _), hi_of h0 b (Nat.le_of_eq e1.symm), lft e1 h3, fun j h5 h6 => ?_, fun _ => Int.ne_of_gt h3, fun _ => Int.ne_of_gt h4⟩
      have c := (Hh j (Nat.lt_of_lt_of_le h6 hh)).mpr h6
      have d := rises_mono f h5
      rw [e1] at c
      rw [e2] at d
      exact absurd (Nat.le_trans d c) (Nat.not_succ_le_self _)
    · exact (lip_no lip h1 hle (Nat.le_of_eq (by rw [e1, e2]))).elim
    · exact (lip_no lip h1 hle (Nat.le_of_eq (by rw [e1, e2]))).elim
    · exact (lip_no lip h1 hle (by rw [e1, e2]; exact Nat.add_le_add_right (Nat.le_succ _) _)).elim
theorem eq_bare {i j ri rj K : Nat} (a : K ≤ i - ri) (b : j - rj ≤ K) (c : rj + i ≤ ri + j) (l1 : ri ≤ i) (l2 : rj ≤ j) : ri + j = rj + i := by omega
theorem eq_step {l r r1 K : Nat} (h0 : 0 < l) (a : K ≤ l - r) (b : l - 1 - r1 < K) (c : r1 ≤ r) (l1 : r ≤ l) (l2 : r1 ≤ l - 1) : r1 = r := by omega
theorem bare_mono {i j ri rj : Nat} (c : rj + i ≤ ri + j) (l1 : ri ≤ i) (l2 : rj ≤ j) : i - ri ≤ j - rj := by omega
theorem kv_a {m p r' D : Nat} (h : p < m) (h0 : 0 < p) (l : r' ≤ p - 1) (e : D = r' + 1 + (m - p)) : m - D = p - 1 - r' := by omega
theorem kv_b {m p r D : Nat} (h : p < m) (l : r ≤ p) (e : D = r + (m - p)) : m - D = p - r := by omega
theorem kv_c {p r' : Nat} (h0 : 0 < p) (l : r' ≤ p - 1) : p - (r' + 1) = p - 1 - r' := by omega
theorem kv_d {p r' : Nat} (h0 : 0 < p) (l : r' ≤ p - 1) : p - 1 - r' < p - r' := by omega
theorem caseB (f : Nat → Int) (m p D : Nat) (x : Int) (hm : 1 ≤ m) (hp : p ≤ m) (hD : tot (put f p x) (m + 1) = tot f m + D) (hgt : rises f (m - 1) < D) (low high : Nat) (hl : low ≤ m) (hh : high ≤ m)
    (Hl : ∀ j, j < m → (j - rises f j < m - D ↔ j < low)) (Hh : ∀ j, j < m → (j - rises f j ≤ m - D ↔ j < high)) : CaseB f m p x low high := by
  have le := rises_le f
  have up : ∀ i j, low ≤ i → i ≤ j → j < high → f i ≤ f j := fun i j h1 h2 h3 => by
    have hj := Nat.lt_of_lt_of_le h3 hh
    exact climbs f h2 (eq_bare (lo_not (Hl i (Nat.lt_of_le_of_lt h2 hj)) h1) ((Hh j hj).mpr h3) (rises_lip f h2) (le i) (le j))
  have l1 : 0 < low → low < p → f low < f (low - 1) := fun h0 h1 =>
    falls f (Nat.sub_lt h0 Nat.one_pos) (eq_step h0 (lo_not (Hl low (Nat.lt_of_lt_of_le h1 hp)) (Nat.le_refl _)) ((Hl (low - 1) (Nat.lt_of_lt_of_le (Nat.sub_lt h0 Nat.one_pos) hl)).mpr (Nat.sub_lt h0 Nat.one_pos)) (rises_mono f (pre_le low)) (le low) (le (low - 1)))
  have r1 : high < m → p < high → f high < f (high - 1) := fun h0 h1 => by
    have hz : 0 < high := Nat.lt_of_le_of_lt (Nat.zero_le _) h1
    have a : m - D + 1 ≤ high - rises f high := Nat.lt_of_not_le fun q => Nat.lt_irrefl _ ((Hh high h0).mp q)
    have b := (Hh (high - 1) (Nat.lt_of_lt_of_le (Nat.sub_lt hz Nat.one_pos) hh)).mpr (Nat.sub_lt hz Nat.one_pos)
    exact falls f (Nat.sub_lt hz Nat.one_pos) (eq_step hz a (Nat.lt_succ_of_le b) (rises_mono f (pre_le high)) (le high) (le (high - 1)))
  have lft : m - D = p - 1 - rises f (p - 1) → f (p - 1) ≤ x → ∀ j, low ≤ j → j < p → f j ≤ x := fun e hx j h1 h2 => by
    have hj := Nat.le_sub_one_of_lt h2
    exact Int.le_trans (climbs f hj (eq_bare (lo_not (Hl j (Nat.lt_of_lt_of_le h2 hp)) h1) (Nat.le_of_eq e.symm) (rises_lip f hj) (le j) (le (p - 1)))) hx
  have rgt : m - D = p - rises f p → x ≤ f p → ∀ j, p ≤ j → j < high → x ≤ f j := fun e hx j h1 h2 =>
    Int.le_trans hx (climbs f h1 (eq_bare (Nat.le_of_eq e) ((Hh j (Nat.lt_of_lt_of_le h2 hh)).mpr h2) (rises_lip f h1) (le p) (le j)))
  rcases around f m p D x hm hp hD with ⟨rfl, h⟩ | ⟨h0, rfl, h⟩ | ⟨h0, h1, h⟩
  · rcases h with ⟨rfl, hx⟩ | ⟨rfl, hx⟩
    · exact absurd hgt (Nat.not_lt_zero _)
    · have ez : D - D = 0 - rises f 0 := Nat.sub_self D
      exact ⟨lo_of (Hl 0 hm) (Nat.le_of_eq ez), Nat.zero_le _, fun j h1 h2 => absurd h2 (Nat.not_lt_zero j), rgt ez hx, up, l1, fun h => absurd h (Nat.lt_irrefl 0), r1, fun _ h => absurd ((Hh 0 hm).mp (Nat.le_of_eq ez.symm)) (by rw [h]; exact Nat.lt_irrefl 0)⟩
  · rcases h with ⟨e, hx⟩ | ⟨e, hx⟩
    · exact absurd hgt (by rw [e]; exact Nat.lt_irrefl _)
    · have ek : p - D = p - 1 - rises f (p - 1) := by rw [e]; exact kv_c h0 (le _)
      have b := lo_of (Hl (p - 1) (pre_lt h0 hp)) (Nat.le_of_eq ek)
      exact ⟨hl, hi_of h0 (Hh (p - 1) (pre_lt h0 hp)) (Nat.le_of_eq ek.symm), lft ek hx, fun j h1 h2 => absurd (Nat.lt_of_lt_of_le h2 hh) (Nat.not_lt.mpr h1), up, l1, fun _ h => absurd (Nat.lt_of_le_of_lt b (Nat.sub_lt h0 Nat.one_pos)) (by rw [h]; exact Nat.lt_irrefl _), r1, fun h => absurd h (Nat.lt_irrefl p)⟩
  · have mon := rises_mono f (show p ≤ m - 1 from Nat.le_sub_one_of_lt h1)
    have a := Hl p h1
    have b := Hh (p - 1) (pre_lt h0 hp)
    have a' := Hh p h1
    have b' := Hl (p - 1) (pre_lt h0 hp)
    have lp := le (p - 1)
    have small : D ≤ rises f p → CaseB f m p x low high := fun h => absurd hgt (Nat.not_lt.mpr (Nat.le_trans h mon))
    have nolow : m - D ≤ p - 1 - rises f (p - 1) → low ≠ p := fun h q => absurd (Nat.lt_of_le_of_lt (lo_of b' h) (Nat.sub_lt h0 Nat.one_pos)) (by rw [q]; exact Nat.lt_irrefl _)
    have nohigh : p - rises f p ≤ m - D → high ≠ p := fun h q => absurd (a'.mp h) (by rw [q]; exact Nat.lt_irrefl _)
    rcases h with ⟨e1, e2, h3, h4⟩ | ⟨e1, e2, h3, h4⟩ | ⟨e1, e2, h3, h4⟩ | ⟨e1, e2, h3, h4⟩ | ⟨e1, e2, h3, h4⟩ | ⟨e1, e2, h3, h4⟩
    · exact small (Nat.le_of_eq (e1.trans e2.symm))
    · exact small (Nat.le_of_eq (e1.trans e2.symm))
    · exact small (by rw [e1, e2]; exact Nat.le_succ _)
    · have k1 := kv_a h1 h0 lp e1
      have k2 : m - D = p - rises f p := by rw [k1, e2]; exact (kv_c h0 lp).symm
      exact ⟨lo_of a (Nat.le_of_eq k2), hi_of h0 b (Nat.le_of_eq k1.symm), lft k1 h3, rgt k2 h4, up, l1, fun _ h => absurd h (nolow (Nat.le_of_eq k1)), r1, fun _ h => absurd h (nohigh (Nat.le_of_eq k2.symm))⟩
    · have k2 : m - D = p - rises f p := kv_b h1 (le p) (by rw [e1, e2])
      have k3 : p - 1 - rises f (p - 1) < m - D := by rw [k2, e2]; exact kv_d h0 lp
      refine ⟨lo_of a (Nat.le_of_eq k2), hi_of h0 b (Nat.le_of_lt k3), fun j h5 h6 => ?_, rgt k2 h4, up, l1, fun _ _ => Int.ne_of_gt h3, r1, fun _ h => absurd h (nohigh (Nat.le_of_eq k2.symm))⟩
      have c := lo_not (Hl j (Nat.lt_of_lt_of_le h6 hp)) h5
      have d := bare_mono (rises_lip f (Nat.le_sub_one_of_lt h6)) (le j) lp
      exact absurd (Nat.le_trans c d) (Nat.not_le.mpr k3)
    · have k1 := kv_a h1 h0 lp e1
      have k3 : m - D < p - rises f p := by rw [k1, e2]; exact kv_d h0 lp
      refine ⟨lo_of a (Nat.le_of_lt k3), hi_of h0 b (Nat.le_of_eq k1.symm), lft k1 h3, fun j h5 h6 => ?_, up, l1, fun _ h => absurd h (nolow (Nat.le_of_eq k1)), r1, fun _ _ => Int.ne_of_lt h4⟩
      have c := (Hh j (Nat.lt_of_lt_of_le h6 hh)).mpr h6
      have d := bare_mono (rises_lip f h5) (le p) (le j)
      exact absurd (Nat.le_trans d c) (Nat.not_le.mpr k3)
end
/-! MP4 -/
section
theorem put_same {f : Nat → Int} {m p k : Nat} {x : Int} (hp : p ≤ m) (hk : k ≤ m) : (∀ i, i ≤ m → put f k x i = put f p x i) ↔ ∀ j, (k ≤ j ∧ j < p) ∨ (p ≤ j ∧ j < k) → f j = x := by
  constructor
  · intro h
    have main : ∀ a b, a ≤ m → b ≤ m → (∀ i, i ≤ m → put f a x i = put f b x i) → ∀ d, a + d < b → f (a + d) = x := by
      intro a b ha hb hab d
      induction d with
      | zero =>
        intro hlt
        have := hab a ha
        rw [put_at, put_lt (show a < b from hlt)] at this
        exact this.symm
      | succ d ih =>
        intro hlt
        have e := hab (a + d + 1) (by omega)
        rw [put_gt (by omega), put_lt (show a + d + 1 < b from hlt)] at e
        exact e ▸ ih (by omega)
    intro j hj
    rcases hj with ⟨h1, h2⟩ | ⟨h1, h2⟩
    · have := main k p hk hp h (j - k) (by omega)
      rwa [show k + (j - k) = j by omega] at this
    · have := main p k hp hk (fun i hi => (h i hi).symm) (j - p) (by omega)
      rwa [show p + (j - p) = j by omega] at this
  · intro h
    have main : ∀ a b, a ≤ b → (∀ j, a ≤ j → j < b → f j = x) → ∀ i, put f a x i = put f b x i := by
      intro a b hab hx i
      rcases Nat.lt_trichotomy i a with h1 | h1 | h1
      · rw [put_lt h1, put_lt (by omega)]
      · subst h1
        rw [put_at]
        rcases Nat.lt_or_ge i b with h2 | h2
        · rw [put_lt h2, hx i (Nat.le_refl _) h2]
        · have : i = b := by omega
          subst this; rw [put_at]
      · obtain ⟨i, rfl⟩ : ∃ i', i = i' + 1 := ⟨i - 1, by omega⟩
        rw [put_gt (by omega)]
        rcases Nat.lt_trichotomy (i + 1) b with h2 | h2 | h2
        · rw [put_lt h2, hx i (by omega) (by omega), hx (i + 1) (by omega) h2]
        · subst h2; rw [put_at, hx i (by omega) (by omega)]
        · rw [put_gt (by omega)]
    intro i _
    rcases Nat.le_total k p with h1 | h1
    · exact main k p h1 (fun j a b => h j (.inl ⟨a, b⟩)) i
    · exact (main p k h1 (fun j a b => h j (.inr ⟨a, b⟩)) i).symm
theorem insA {f : Nat → Int} {m p low high : Nat} {x : Int} (C : CaseA f m p x low high) (hp : p ≤ m) {k : Nat} (hk : k ≤ m) : (∀ i, i ≤ m → put f k x i = put f p x i) ↔ (p ≤ k ∧ k ≤ p) := by
  rw [put_same hp hk]
  constructor
  · intro h
    constructor
    · rcases Nat.lt_or_ge k p with h1 | h1
      · exact absurd (h (p - 1) (.inl ⟨by omega, by omega⟩)) (C.nl (by omega))
      · exact h1
    · rcases Nat.lt_or_ge p k with h1 | h1
      · exact absurd (h p (.inr ⟨by omega, by omega⟩)) (C.nr (by omega))
      · exact h1
  · intro h j hj
    omega
theorem insB {f : Nat → Int} {m p low high first last : Nat} {x : Int} (C : CaseB f m p x low high) (hp : p ≤ m) (hh : high ≤ m) (f1 : low ≤ first) (f2 : first ≤ high) (f3 : ∀ i, low ≤ i → i < first → f i < x) (f4 : ∀ i, first ≤ i → i < high → x ≤ f i)
    (l1 : low ≤ last) (l2 : last ≤ high) (l3 : ∀ i, low ≤ i → i < last → f i ≤ x) (l4 : ∀ i, last ≤ i → i < high → x < f i) {k : Nat} (hk : k ≤ m) : first ≤ p ∧ p ≤ last ∧ ((∀ i, i ≤ m → put f k x i = put f p x i) ↔ (first ≤ k ∧ k ≤ last)) := by
  have hfp : first ≤ p := by
    rcases Nat.lt_or_ge p first with h | h
    · exact absurd (f3 p C.lp h) (Int.not_lt.mpr (C.right p (Nat.le_refl _) (Nat.lt_of_lt_of_le h f2)))
    · exact h
  have hpl : p ≤ last := by
    rcases Nat.lt_or_ge last p with h | h
    · exact absurd (l4 last (Nat.le_refl _) (Nat.lt_of_lt_of_le h C.ph)) (Int.not_lt.mpr (C.left last l1 h))
    · exact h
  refine ⟨hfp, hpl, ?_⟩
  rw [put_same hp hk]
  constructor
  · intro h
    constructor
    · rcases Nat.lt_or_ge k first with h1 | h1
      · exfalso
        have hf0 : 0 < first := Nat.lt_of_le_of_lt (Nat.zero_le _) h1
        have e := h (first - 1) (.inl ⟨Nat.le_sub_one_of_lt h1, Nat.lt_of_lt_of_le (Nat.sub_lt hf0 Nat.one_pos) hfp⟩)
        rcases Nat.lt_or_ge low first with h2 | h2
        · exact absurd e (Int.ne_of_lt (f3 (first - 1) (Nat.le_sub_one_of_lt h2) (Nat.sub_lt hf0 Nat.one_pos)))
        · have e2 : first = low := Nat.le_antisymm h2 f1
          rw [e2] at e hf0
          rcases Nat.lt_or_ge low p with h3 | h3
          · have a := C.l1 hf0 h3
            rw [e] at a
            exact absurd a (Int.not_lt.mpr (f4 low h2 (Nat.lt_of_lt_of_le h3 C.ph)))
          · have e3 : low = p := Nat.le_antisymm C.lp h3
            rw [e3] at e hf0
            exact C.l2 hf0 e3 e
      · exact h1
    · rcases Nat.lt_or_ge last k with h1 | h1
      · exfalso
        have e := h last (.inr ⟨hpl, h1⟩)
        rcases Nat.lt_or_ge last high with h2 | h2
        · exact absurd e (Int.ne_of_gt (l4 last (Nat.le_refl _) h2))
        · have e2 : last = high := Nat.le_antisymm l2 h2
          have hhm : high < m := Nat.lt_of_lt_of_le (e2 ▸ h1) hk
          rw [e2] at e
          rcases Nat.lt_or_ge p high with h3 | h3
          · have a := C.r1 hhm h3
            have h0 : 0 < high := Nat.lt_of_le_of_lt (Nat.zero_le _) h3
            rw [e] at a
            exact absurd a (Int.not_lt.mpr (l3 (high - 1) (Nat.le_trans C.lp (Nat.le_sub_one_of_lt h3)) (e2.symm ▸ Nat.sub_lt h0 Nat.one_pos)))
          · have e3 : high = p := Nat.le_antisymm h3 C.ph
            rw [e3] at e hhm
            exact C.r2 hhm e3 e
      · exact h1
  · rintro ⟨h1, h2⟩ j hj
    rcases hj with ⟨h3, h4⟩ | ⟨h3, h4⟩
    · exact Int.le_antisymm (C.left j (Nat.le_trans f1 (Nat.le_trans h1 h3)) h4) (f4 j (Nat.le_trans h1 h3) (Nat.lt_of_lt_of_le h4 C.ph))
    · exact Int.le_antisymm (l3 j (Nat.le_trans C.lp h3) (Nat.lt_of_lt_of_le h4 h2)) (C.right j h3 (Nat.lt_of_lt_of_le h4 (Nat.le_trans h2 l2)))
/-- lists: x put in at k -/
theorem put_list (r : List Int) (k : Nat) (x : Int) (hk : k ≤ r.length) : ∀ i, (r.take k ++ [x] ++ r.drop k).getD i 0 = put (fun i => r.getD i 0) k x i := by
  intro i
  have hlen : (r.take k).length = k := List.length_take_of_le hk
  rw [List.append_assoc, List.getD_eq_getElem?_getD]
  unfold put
  by_cases h1 : i < k
  · rw [if_pos h1, List.getElem?_append_left (by omega), List.getElem?_take_of_lt h1, ← List.getD_eq_getElem?_getD]
  · rw [if_neg h1, List.getElem?_append_right (by omega), hlen]
    by_cases h2 : i = k
    · subst h2; rw [if_pos rfl, Nat.sub_self]; rfl
    · rw [if_neg h2]
      obtain ⟨j, hj⟩ : ∃ j, i - k = j + 1 := ⟨i - k - 1, by omega⟩
      rw [hj]
      show ((r.drop k)[j]?).getD 0 = r.getD (i - 1) 0
      rw [List.getElem?_drop, List.getD_eq_getElem?_getD, show k + j = i - 1 by omega]
theorem list_eq_getD {a b : List Int} (hl : a.length = b.length) : a = b ↔ ∀ i, i < a.length → a.getD i 0 = b.getD i 0 := by
  constructor
  · rintro rfl i _; rfl
  · intro h
    apply List.ext_getElem hl
    intro i h1 h2
    have := h i h1
    rw [List.getD_eq_getElem?_getD, List.getD_eq_getElem?_getD, List.getElem?_eq_getElem h1, List.getElem?_eq_getElem h2] at this
    exact this
theorem ins_list (r : List Int) (p k : Nat) (x : Int) (hp : p ≤ r.length) (hk : k ≤ r.length) :
    (r.take k ++ [x] ++ r.drop k = r.take p ++ [x] ++ r.drop p) ↔ ∀ i, i ≤ r.length → put (fun i => r.getD i 0) k x i = put (fun i => r.getD i 0) p x i := by
  have len : ∀ k, k ≤ r.length → (r.take k ++ [x] ++ r.drop k).length = r.length + 1 := fun k h => by simp; omega
  rw [list_eq_getD (by rw [len k hk, len p hp]), len k hk]
  constructor
  · intro h i hi
    have := h i (by omega)
    rwa [put_list r k x hk, put_list r p x hp] at this
  · intro h i hi
    rw [put_list r k x hk, put_list r p x hp]
    exact h i (by omega)
theorem filter_run' (a b : Nat) : ∀ n, n ≤ b + 1 → (List.range n).filter (fun k => decide (a ≤ k ∧ k ≤ b)) = (List.range (n - a)).map (a + ·)
  | 0, _ => by simp
  | n + 1, hn => by
    rw [List.range_succ, List.filter_append, filter_run' a b n (by omega)]
    by_cases q : a ≤ n
    · have e : decide (a ≤ n ∧ n ≤ b) = true := decide_eq_true (by omega)
      rw [show n + 1 - a = (n - a) + 1 by omega, List.range_succ, List.map_append, List.filter_cons, e, if_pos rfl]
      show _ ++ [n] = _ ++ [a + (n - a)]
      rw [show a + (n - a) = n by omega]
    · have e : decide (a ≤ n ∧ n ≤ b) = false := decide_eq_false (by omega)
      rw [show n + 1 - a = 0 by omega, show n - a = 0 by omega, List.filter_cons, e, if_neg Bool.false_ne_true]
      rfl
theorem filter_run (a b : Nat) : ∀ d, (List.range (b + 1 + d)).filter (fun k => decide (a ≤ k ∧ k ≤ b)) = (List.range (b + 1 - a)).map (a + ·)
  | 0 => filter_run' a b (b + 1) (Nat.le_refl _)
  | d + 1 => by
    have e : decide (a ≤ b + 1 + d ∧ b + 1 + d ≤ b) = false := decide_eq_false (by omega)
    show (List.range (b + 1 + d + 1)).filter _ = _
    rw [List.range_succ, List.filter_append, filter_run a b d, List.filter_cons, e, if_neg Bool.false_ne_true]
    simp
end
/-! MP7 -/
section
noncomputable def bisL (l : List Int) (x : Int) : Nat := bis (fun i => decide (l.getD i 0 < x)) l.length 0 l.length
noncomputable def bisR (l : List Int) (x : Int) : Nat := bis (fun i => !decide (x < l.getD i 0)) l.length 0 l.length
noncomputable def bareL (qs : List Int) (n : Nat) : List Int := (List.range n).map fun (k : Nat) => (k : Int) - qs.getD k 0
theorem bareL_len (qs : List Int) (n : Nat) : (bareL qs n).length = n := by unfold bareL; rw [List.length_map, List.length_range]
theorem bareL_get (qs : List Int) (n k : Nat) (h : k < n) : (bareL qs n).getD k 0 = (k : Int) - qs.getD k 0 := by
  unfold bareL
  rw [List.getD_eq_getElem?_getD, List.getElem?_map, List.getElem?_range h]
  rfl
/-- a rising list's bounds -/
theorem bisL_spec {l : List Int} {x : Int} (h : ∀ i j, i ≤ j → j < l.length → l.getD i 0 ≤ l.getD j 0) : bisL l x ≤ l.length ∧ ∀ j, j < l.length → (l.getD j 0 < x ↔ j < bisL l x) := by
  obtain ⟨_, b, c, d⟩ := bis_mono (p := fun i => decide (l.getD i 0 < x)) l.length 0 l.length (by omega) (by omega) (fun i j _ h1 h2 q => by
    have := of_decide_eq_true q
    have := h i j h1 h2
    exact decide_eq_true (by omega))
  refine ⟨b, fun j hj => ⟨fun q => ?_, fun q => of_decide_eq_true (c j (Nat.zero_le _) q)⟩⟩
  rcases Nat.lt_or_ge j (bisL l x) with k | k
  · exact k
  · exact absurd q (of_decide_eq_false (d j k hj))
theorem bisR_spec {l : List Int} {x : Int} (h : ∀ i j, i ≤ j → j < l.length → l.getD i 0 ≤ l.getD j 0) : bisR l x ≤ l.length ∧ ∀ j, j < l.length → (l.getD j 0 ≤ x ↔ j < bisR l x) := by
  obtain ⟨_, b, c, d⟩ := bis_mono (p := fun i => !decide (x < l.getD i 0)) l.length 0 l.length (by omega) (by omega) (fun i j _ h1 h2 q => by
    have q2 : ¬ (x < l.getD j 0) := by simpa using q
    have := h i j h1 h2
    have : ¬ (x < l.getD i 0) := by omega
    simpa using this)
  refine ⟨b, fun j hj => ⟨fun q => ?_, fun q => ?_⟩⟩
  · rcases Nat.lt_or_ge j (bisR l x) with k | k
    · exact k
    · have e : (!decide (x < l.getD j 0)) = false := d j k hj
      have : x < l.getD j 0 := by simpa using e
      omega
  · have e : (!decide (x < l.getD j 0)) = true := c j (Nat.zero_le _) q
    have : ¬ (x < l.getD j 0) := by simpa using e
    omega
theorem bisLR {l : List Int} {x : Int} (h : ∀ i j, i ≤ j → j < l.length → l.getD i 0 ≤ l.getD j 0) : bisL l x ≤ bisR l x := by
  obtain ⟨a, b⟩ := bisL_spec (x := x) h
  obtain ⟨c, d⟩ := bisR_spec (x := x) h
  rcases Nat.lt_or_ge (bisR l x) (bisL l x) with k | k
  · have e := (b (bisR l x) (by omega)).mpr k
    have e2 := (d (bisR l x) (by omega)).mp (by omega)
    omega
  · exact k
/-- the two ends of the places where the lacking name may stand -/
noncomputable def EndsAt (qs rs : List Int) (z : Nat) (la x : Int) (a b : Nat) : Prop :=
  (la ≤ qs.getD (qs.length - 1) 0 → a = bis (fun i => decide (-(rs.getD i 0) < -x)) (bisR qs la - bisL qs la) (bisL qs la) (bisR qs la) ∧ b = bis (fun i => !decide (-x < -(rs.getD i 0))) (bisR qs la - bisL qs la) (bisL qs la) (bisR qs la)) ∧
  (¬ la ≤ qs.getD (qs.length - 1) 0 → a = bis (fun i => decide (rs.getD i 0 < x)) (bisR (bareL qs (z - 1)) ((z : Int) - 1 - la) - bisL (bareL qs (z - 1)) ((z : Int) - 1 - la)) (bisL (bareL qs (z - 1)) ((z : Int) - 1 - la)) (bisR (bareL qs (z - 1)) ((z : Int) - 1 - la)) ∧ b = bis (fun i => !decide (x < rs.getD i 0)) (bisR (bareL qs (z - 1)) ((z : Int) - 1 - la) - bisL (bareL qs (z - 1)) ((z : Int) - 1 - la)) (bisL (bareL qs (z - 1)) ((z : Int) - 1 - la)) (bisR (bareL qs (z - 1)) ((z : Int) - 1 - la)))
section
variable {rs qs : List Int} {m : Nat}
theorem ones_up (lq : qs.length = m) (hq : ∀ j, j < m → qs.getD j 0 = ((rises (fun i => rs.getD i 0) j : Nat) : Int)) : ∀ i j, i ≤ j → j < qs.length → qs.getD i 0 ≤ qs.getD j 0 := by
  intro i j h1 h2
  rw [hq i (by omega), hq j (by omega)]
  exact Int.ofNat_le.mpr (rises_mono _ h1)
theorem bare_up (hq : ∀ j, j < m → qs.getD j 0 = ((rises (fun i => rs.getD i 0) j : Nat) : Int)) : ∀ i j, i ≤ j → j < (bareL qs m).length → (bareL qs m).getD i 0 ≤ (bareL qs m).getD j 0 := by
  intro i j h1 h2
  rw [bareL_len] at h2
  rw [bareL_get _ _ _ (by omega), bareL_get _ _ _ h2, hq i (by omega), hq j h2]
  have := rises_lip (fun i => rs.getD i 0) h1
  omega
theorem ll1 {r m : Nat} (h : 1 ≤ m) (l : r ≤ m - 1) : r + 1 ≤ m := by omega
theorem ll2 {r p m : Nat} (h : p < m) (l : r ≤ p - 1) (h0 : 0 < p) : r + 1 + (m - p) ≤ m := by omega
/-- the lack is at most the size less one -/
theorem lack_le {f : Nat → Int} {p D : Nat} {x : Int} (hm : 1 ≤ m) (hp : p ≤ m) (hD : tot (put f p x) (m + 1) = tot f m + D) : D ≤ m := by
  have l1 := rises_le f (p - 1)
  have l2 := rises_le f (m - 1)
  rcases around f m p D x hm hp hD with ⟨_, ⟨e, _⟩ | ⟨e, _⟩⟩ | ⟨_, _, ⟨e, _⟩ | ⟨e, _⟩⟩ | ⟨h0, h1, ⟨e, _⟩ | ⟨e, _⟩ | ⟨e, _⟩ | ⟨e, _⟩ | ⟨e, _⟩ | ⟨e, _⟩⟩
  · rw [e]; exact Nat.zero_le _
  · rw [e]; exact Nat.le_refl _
  · rw [e]; exact Nat.le_of_succ_le (ll1 hm l2)
  · rw [e]; exact ll1 hm l2
  · rw [e]; exact Nat.le_trans (Nat.le_trans (Nat.le_succ _) (Nat.le_add_right _ _)) (ll2 h1 l1 h0)
  · rw [e]; exact Nat.le_trans (Nat.le_add_right _ _) (ll2 h1 l1 h0)
  · rw [e]; exact Nat.le_trans (Nat.le_trans (Nat.le_succ _) (Nat.le_add_right _ _)) (ll2 h1 l1 h0)
  · rw [e]; exact ll2 h1 l1 h0
  · rw [e]; exact Nat.le_trans (Nat.add_le_add_right (Nat.le_succ _) _) (ll2 h1 l1 h0)
  · rw [e]; exact ll2 h1 l1 h0
theorem bare_lt {j r K : Nat} (h : r ≤ j) : ((j : Int) - (r : Int) < (K : Int)) ↔ (j - r < K) := by omega
theorem bare_le {j r K : Nat} (h : r ≤ j) : ((j : Int) - (r : Int) ≤ (K : Int)) ↔ (j - r ≤ K) := by omega
theorem not_dec {p : Prop} [Decidable p] (h : ¬ p) : (!decide p) = true := by rw [decide_eq_false h]; rfl
theorem dec_not {p : Prop} [Decidable p] (h : p) : (!decide p) = false := by rw [decide_eq_true h]; rfl
theorem of_not_dec {p : Prop} [Decidable p] (h : (!decide p) = true) : ¬ p := fun q => by rw [dec_not q] at h; cases h
theorem of_dec_not {p : Prop} [Decidable p] (h : (!decide p) = false) : p := Decidable.byContradiction fun q => by rw [not_dec q] at h; cases h
theorem decode {p D : Nat} {x la : Int} {z a b : Nat} (hm : 1 ≤ m) (hz : z = m + 1) (lr : rs.length = m) (hp : p ≤ m) (hD : tot (put (fun i => rs.getD i 0) p x) (m + 1) = tot (fun i => rs.getD i 0) m + D) (hla : la = (D : Int)) (lq : qs.length = m)
    (hq : ∀ j, j < m → qs.getD j 0 = ((rises (fun i => rs.getD i 0) j : Nat) : Int)) (E : EndsAt qs rs z la x a b) :
    a ≤ b + 1 ∧ b ≤ m ∧ (List.range z).filter (fun k => decide (rs.take k ++ [x] ++ rs.drop k = rs.take p ++ [x] ++ rs.drop p)) = (List.range (b + 1 - a)).map (a + ·) := by
  have hDm := lack_le hm hp hD
  have main : a ≤ b ∧ b ≤ m ∧ ∀ k, k ≤ m → ((∀ i, i ≤ m → put (fun i => rs.getD i 0) k x i = put (fun i => rs.getD i 0) p x i) ↔ (a ≤ k ∧ k ≤ b)) := by
    have lst : qs.getD (qs.length - 1) 0 = ((rises (fun i => rs.getD i 0) (m - 1) : Nat) : Int) := by rw [lq]; exact hq _ (by omega)
    by_cases hc : la ≤ qs.getD (qs.length - 1) 0
    · obtain ⟨ea, eb⟩ := E.1 hc
      have up := ones_up lq hq
      obtain ⟨s1, s2⟩ := bisL_spec (x := la) up
      obtain ⟨s3, s4⟩ := bisR_spec (x := la) up
      have s5 := bisLR (x := la) up
      rw [lst, hla] at hc
      have C := caseA (fun i => rs.getD i 0) m p D x hm hp hD (Int.ofNat_le.mp hc) (bisL qs la) (bisR qs la) (lq ▸ s1) (lq ▸ s3)
        (fun j hj => by have := s2 j (lq ▸ hj); rw [hq j hj] at this; exact (Int.ofNat_lt.symm.trans (by rw [← hla])).trans this)
        (fun j hj => by have := s4 j (lq ▸ hj); rw [hq j hj] at this; exact (Int.ofNat_le.symm.trans (by rw [← hla])).trans this)
      have e1 : a = p := by
        rw [ea]
        refine bis_is (Nat.le_refl _) C.lp C.ph (fun i h1 h2 => ?_) (fun i h1 h2 => ?_)
        · exact decide_eq_true (Int.neg_lt_neg (C.left i h1 h2))
        · exact decide_eq_false (fun q => absurd (Int.lt_of_neg_lt_neg q) (Int.not_lt.mpr (Int.le_of_lt (C.right i h1 h2))))
      have e2 : b = p := by
        rw [eb]
        refine bis_is (Nat.le_refl _) C.lp C.ph (fun i h1 h2 => ?_) (fun i h1 h2 => ?_)
        · exact not_dec (fun q => absurd (Int.lt_of_neg_lt_neg q) (Int.not_lt.mpr (Int.le_of_lt (C.left i h1 h2))))
        · exact dec_not (Int.neg_lt_neg (C.right i h1 h2))
      subst e1 e2
      exact ⟨Nat.le_refl _, hp, fun k hk => insA C hp hk⟩
    · obtain ⟨ea, eb⟩ := E.2 hc
      have hz1 : z - 1 = m := by omega
      rw [hz1] at ea eb
      have ex : (z : Int) - 1 - la = ((m - D : Nat) : Int) := by omega
      rw [ex] at ea eb
      have up := bare_up hq
      obtain ⟨s1, s2⟩ := bisL_spec (x := ((m - D : Nat) : Int)) up
      obtain ⟨s3, s4⟩ := bisR_spec (x := ((m - D : Nat) : Int)) up
      have s5 := bisLR (x := ((m - D : Nat) : Int)) up
      rw [bareL_len] at s1 s2 s3 s4
      rw [lst, hla] at hc
      have C := caseB (fun i => rs.getD i 0) m p D x hm hp hD (by omega) _ _ s1 s3
        (fun j hj => by have := s2 j hj; rw [bareL_get _ _ _ hj, hq j hj] at this; exact (bare_lt (rises_le _ j)).symm.trans this)
        (fun j hj => by have := s4 j hj; rw [bareL_get _ _ _ hj, hq j hj] at this; exact (bare_le (rises_le _ j)).symm.trans this)
      obtain ⟨f1, f2, f3, f4⟩ := bis_mono (p := fun i => decide (rs.getD i 0 < x)) _ _ _ (Nat.le_refl _) s5 (fun i j h1 h2 h3 q => decide_eq_true (Int.lt_of_le_of_lt (C.up i j h1 h2 h3) (of_decide_eq_true q)))
      obtain ⟨g1, g2, g3, g4⟩ := bis_mono (p := fun i => !decide (x < rs.getD i 0)) _ _ _ (Nat.le_refl _) s5 (fun i j h1 h2 h3 q => not_dec (fun u => of_not_dec q (Int.lt_of_lt_of_le u (C.up i j h1 h2 h3))))
      rw [← ea] at f1 f2 f3 f4
      rw [← eb] at g1 g2 g3 g4
      have I := fun k (hk : k ≤ m) => insB (k := k) C hp s3 f1 f2 (fun i h1 h2 => of_decide_eq_true (f3 i h1 h2)) (fun i h1 h2 => Int.not_lt.mp (of_decide_eq_false (f4 i h1 h2))) g1 g2
        (fun i h1 h2 => Int.not_lt.mp (of_not_dec (g3 i h1 h2))) (fun i h1 h2 => of_dec_not (g4 i h1 h2)) hk
      have I0 := I 0 (Nat.zero_le _)
      exact ⟨by omega, by omega, fun k hk => (I k hk).2.2⟩
  obtain ⟨h1, h2, h3⟩ := main
  refine ⟨by omega, h2, ?_⟩
  have e : ∀ k ∈ List.range z, decide (rs.take k ++ [x] ++ rs.drop k = rs.take p ++ [x] ++ rs.drop p) = decide (a ≤ k ∧ k ≤ b) := by
    intro k hk
    have hk := List.mem_range.mp hk
    rw [decide_eq_decide, ins_list rs p k x (by omega) (by omega), lr]
    exact h3 k (by omega)
  rw [List.filter_congr e, show z = b + 1 + (m - b) by omega]
  exact filter_run a b (m - b)
end
end
/-! MP8 -/
section
noncomputable def sumTo (g : Nat → Nat) : Nat → Nat
  | 0 => 0
  | n + 1 => sumTo g n + g n
noncomputable def dsOf (hz : List Int) : List Int := (List.range hz.length).map fun j => (((if dotAt hz j then hz.length - j + 1 else 0) : Nat) : Int)
theorem laid_range (d : Nat → Bool) (g : Nat → Nat) : ∀ n, laidS ((List.range n).map fun j => (((if d j then g j + 1 else 0) : Nat) : Int)) = ((sumTo (fun j => if d j then g j else 0) n : Nat) : Int)
  | 0 => rfl
  | n + 1 => by
    have ih := laid_range d g n
    unfold laidS at ih ⊢
    rw [List.range_succ, List.map_append, List.filter_append, List.map_append, List.sum_append, ih]
    show _ + (((List.filter _ [(((if d n then g n + 1 else 0) : Nat) : Int)]).map _).sum) = ((sumTo _ n + (if d n then g n else 0) : Nat) : Int)
    cases d n with
    | false =>
      rw [if_neg Bool.false_ne_true, if_neg Bool.false_ne_true, List.filter_cons, if_neg (by decide)]
      show _ + (0 : Int) = _
      omega
    | true =>
      rw [if_pos rfl, if_pos rfl, List.filter_cons, if_pos (by exact decide_eq_true (by omega))]
      show _ + ((((g n + 1 : Nat) : Int) - 1) + 0) = _
      omega
theorem sumTo_add {f g h : Nat → Nat} : ∀ {n : Nat}, (∀ j, j < n → f j = g j + h j) → sumTo f n = sumTo g n + sumTo h n
  | 0, _ => rfl
  | n + 1, e => by
    show sumTo f n + f n = sumTo g n + g n + (sumTo h n + h n)
    rw [sumTo_add (fun j hj => e j (by omega)), e n (Nat.lt_succ_self n)]
    omega
noncomputable abbrev rk (hz : List Int) (i : Nat) : Int := hz.getD i 0 % 7
theorem dot_rises (hz : List Int) : ∀ n, sumTo (fun j => if dotAt hz j then 1 else 0) (n + 1) = rises (rk hz) n
  | 0 => rfl
  | n + 1 => by
    show sumTo _ (n + 1) + (if dotAt hz (n + 1) then 1 else 0) = rises (rk hz) n + (if rk hz n ≤ rk hz (n + 1) then 1 else 0)
    rw [dot_rises hz n]
    congr 1
    unfold dotAt
    rw [decide_eq_true (Nat.succ_pos n), Bool.true_and]
    by_cases q : hz.getD n 0 % 7 ≤ hz.getD (n + 1) 0 % 7
    · rw [if_pos q]
      exact if_pos (decide_eq_true q)
    · rw [if_neg q]
      exact if_neg (by rw [decide_eq_false (show ¬ (hz.getD (n + 1 - 1) 0 % 7 ≤ hz.getD (n + 1) 0 % 7) from q)]; exact Bool.false_ne_true)
theorem dot_tot (hz : List Int) : ∀ n, sumTo (fun j => if dotAt hz j then n - j else 0) n = tot (rk hz) n
  | 0 => rfl
  | n + 1 => by
    rw [sumTo_add (g := fun j => if dotAt hz j then n - j else 0) (h := fun j => if dotAt hz j then 1 else 0) (fun j hj => by
      cases dotAt hz j with
      | false => rfl
      | true => show n + 1 - j = n - j + 1; omega), dot_rises]
    show sumTo _ n + (if dotAt hz n then n - n else 0) + _ = tot (rk hz) n + rises (rk hz) n
    rw [dot_tot hz n, Nat.sub_self]
    cases dotAt hz n <;> rfl
theorem laid_tot (hz : List Int) : laidS (dsOf hz) = ((tot (rk hz) hz.length : Nat) : Int) := by
  rw [← dot_tot hz hz.length]
  exact laid_range (dotAt hz) (fun j => hz.length - j) hz.length
theorem ds_len (hz : List Int) : (dsOf hz).length = hz.length := by unfold dsOf; rw [List.length_map, List.length_range]
theorem ds_get (hz : List Int) {k : Nat} (h : k < hz.length) : (dsOf hz)[k]? = some (((if dotAt hz k then hz.length - k + 1 else 0) : Nat) : Int) := by
  unfold dsOf
  rw [List.getElem?_map, List.getElem?_range h]; rfl
theorem ones_rises (hz : List Int) : ∀ k, k < hz.length → onesN (dsOf hz) k = rises (rk hz) k
  | 0, _ => rfl
  | k + 1, h => by
    have ih := ones_rises hz k (by omega)
    unfold onesN at ih ⊢
    rw [List.take_succ, List.filter_append, List.length_append, ih, List.getElem?_drop, show 1 + k = k + 1 by omega, ds_get hz h]
    show _ + (List.filter _ [_]).length = _ + (if rk hz k ≤ rk hz (k + 1) then 1 else 0)
    congr 1
    have e : dotAt hz (k + 1) = decide (rk hz k ≤ rk hz (k + 1)) := by
      unfold dotAt
      rw [decide_eq_true (Nat.succ_pos k), Bool.true_and]; rfl
    rw [e]
    by_cases q : rk hz k ≤ rk hz (k + 1)
    · rw [if_pos q, if_pos (decide_eq_true q), List.filter_cons, if_pos (by exact decide_eq_true (by omega))]; rfl
    · rw [if_neg q, if_neg (by rw [decide_eq_false q]; exact Bool.false_ne_true), List.filter_cons, if_neg (by decide)]; rfl
theorem rk_list (l : List Int) : (List.range l.length).map (fun j => l.getD j 0 % 7) = l.map (· % 7) := by
  apply List.ext_getElem?
  intro j
  rw [List.getElem?_map, List.getElem?_map]
  rcases Nat.lt_or_ge j l.length with h | h
  · rw [List.getElem?_range h, List.getElem?_eq_getElem h]
    show some (l.getD j 0 % 7) = some (l[j] % 7)
    rw [List.getD_eq_getElem?_getD, List.getElem?_eq_getElem h]
    rfl
  · rw [List.getElem?_eq_none (by rw [List.length_range]; omega), List.getElem?_eq_none h]; rfl
theorem rk_get (l : List Int) (j : Nat) : (l.map (· % 7)).getD j 0 = rk l j := by
  unfold rk
  rw [List.getD_eq_getElem?_getD, List.getD_eq_getElem?_getD, List.getElem?_map]
  cases l[j]? <;> rfl
theorem pass_put (hz : List Int) (p : Nat) (hp : p < hz.length) : ((pass hz p).map (· % 7)).take p ++ [rk hz p] ++ ((pass hz p).map (· % 7)).drop p = hz.map (· % 7) := by
  have e : hz = hz.take p ++ [hz[p]] ++ hz.drop (p + 1) := by
    rw [List.append_assoc, List.singleton_append, List.getElem_cons_drop hp, List.take_append_drop]
  have h1 : (hz.take p).length = p := by rw [List.length_take]; omega
  unfold pass
  rw [← List.map_take, ← List.map_drop, List.take_left' h1, List.drop_left' h1]
  conv => rhs; rw [e]
  rw [List.map_append, List.map_append]
  congr 2
  show [hz.getD p 0 % 7] = [hz[p] % 7]
  rw [List.getD_eq_getElem?_getD, List.getElem?_eq_getElem hp]
  rfl
theorem tot_congr {f g : Nat → Int} (h : ∀ i, f i = g i) (n : Nat) : tot f n = tot g n := by rw [show f = g from funext h]
/-- one passed over lowers the sum -/
theorem tot_ge (f : Nat → Int) (m p : Nat) (x : Int) (hp : p ≤ m) : ∃ D, tot (put f p x) (m + 1) = tot f m + D := by
  have h := tot_put f p x (m - p)
  rw [show p + 1 + (m - p) = m + 1 by omega, show p + (m - p) = m by omega] at h
  have r : rises f p ≤ rises (put f p x) (p + 1) := by
    cases p with
    | zero => exact Nat.zero_le _
    | succ q =>
      have c1 : rises (put f (q + 1) x) (q + 1) = rises (put f (q + 1) x) q + if put f (q + 1) x q ≤ put f (q + 1) x (q + 1) then 1 else 0 := rfl
      rw [put_at, put_lt (Nat.lt_succ_self q), rises_put_lt f (q + 1) x q (Nat.lt_succ_self q)] at c1
      have c2 : rises (put f (q + 1) x) (q + 1 + 1) = rises (put f (q + 1) x) (q + 1) + if put f (q + 1) x (q + 1) ≤ put f (q + 1) x (q + 1 + 1) then 1 else 0 := rfl
      rw [put_at, put_gt (Nat.le_refl _)] at c2
      have c3 : rises f (q + 1) = rises f q + if f q ≤ f (q + 1) then 1 else 0 := rfl
      rw [c2, c1, c3]
      split <;> split <;> split <;> omega
  have k := Nat.mul_le_mul_left (m - p) r
  exact ⟨tot (put f p x) (m + 1) - tot f m, by omega⟩
theorem mod7 {a r : Int} (h0 : 0 ≤ r) (h1 : r < 7) : ((a + r) % 7 - a) % 7 = r := by omega
theorem mod_z {z T D : Nat} (z5 : z = 5 ∨ z = 6) (h : D ≤ z - 1) : ((((T + D : Nat) : Int) % (z : Int)) - (T : Int)) % (z : Int) = (D : Int) := by
  rcases z5 with rfl | rfl <;> omega
theorem sum_mid {a b c d : Int} (e : a + b = d) : a + (c + 0) + b = d + c := by omega
theorem z_facts {z p : Nat} (z5 : z = 5 ∨ z = 6) (hp : p < z) : 1 ≤ z - 1 ∧ p ≤ z - 1 ∧ z - 1 + 1 = z ∧ z - 1 ≤ 6 := by omega
theorem law_turn {hz rs ds qs dr : List Int} {p z a b : Nat} {x la nm ld : Int} (hp : p < hz.length) (ez : z = hz.length) (z5 : z = 5 ∨ z = 6)
    (er : rs = (List.range (pass hz p).length).map fun j => (pass hz p).getD j 0 % 7) (ed : ds = dsOf (pass hz p)) (eq : qs = (List.range (z - 1)).map fun k => ((onesN ds k : Nat) : Int))
    (edr : dr = (List.range hz.length).map fun j => hz.getD j 0 % 7) (en : nm = dr.sum.fmod 7) (el : ld = (laidS (dsOf hz)).fmod z)
    (ex : x = (nm - rs.sum).fmod 7) (ela : la = (ld - laidS ds).fmod z) :
    (rs.length = z - 1 ∧ qs.length = z - 1 ∧ ds.length = z - 1) ∧ bisL qs la ≤ bisR qs la ∧ bisR qs la ≤ rs.length ∧ bisL (bareL qs (z - 1)) ((z : Int) - 1 - la) ≤ bisR (bareL qs (z - 1)) ((z : Int) - 1 - la) ∧ bisR (bareL qs (z - 1)) ((z : Int) - 1 - la) ≤ rs.length ∧
    (EndsAt qs rs z la x a b → a ≤ b + 1 ∧ b ≤ 6 ∧ (List.range z).filter (fun k => decide (rs.take k ++ [x] ++ rs.drop k = dr)) = (List.range (b + 1 - a)).map (a + ·)) := by
  have lp := pass_len hp
  obtain ⟨zm, zp, zs, z6⟩ := z_facts z5 (ez ▸ hp)
  rw [rk_list] at er edr
  have lr : rs.length = z - 1 := by rw [er, List.length_map, lp, ez]
  have ld2 : ds.length = z - 1 := by rw [ed, ds_len, lp, ez]
  have lq : qs.length = z - 1 := by rw [eq, List.length_map, List.length_range]
  have hrs : ∀ i, rs.getD i 0 = rk (pass hz p) i := fun i => by rw [er]; exact rk_get _ i
  have hq : ∀ j, j < z - 1 → qs.getD j 0 = ((rises (fun i => rs.getD i 0) j : Nat) : Int) := by
    intro j hj
    rw [eq, List.getD_eq_getElem?_getD, List.getElem?_map, List.getElem?_range hj]
    show ((onesN ds j : Nat) : Int) = _
    rw [ed, ones_rises _ _ (by rw [lp, ← ez]; exact hj), show (fun i => rs.getD i 0) = rk (pass hz p) from funext hrs]
  have hins : rs.take p ++ [rk hz p] ++ rs.drop p = dr := by rw [er, edr]; exact pass_put hz p hp
  have hx : x = rk hz p := by
    have s : dr.sum = rs.sum + rk hz p := by
      rw [← hins, List.sum_append, List.sum_append]
      have e := congrArg List.sum (List.take_append_drop p rs)
      rw [List.sum_append] at e
      exact sum_mid e
    have b1 : 0 ≤ rk hz p := Int.emod_nonneg _ (by decide)
    have b2 : rk hz p < 7 := Int.emod_lt_of_pos _ (by decide)
    rw [ex, en, s, Int.fmod_eq_emod_of_nonneg _ (by decide), Int.fmod_eq_emod_of_nonneg _ (by decide)]
    exact mod7 b1 b2
  have hput : ∀ i, put (fun i => rs.getD i 0) p x i = rk hz i := fun i => by
    rw [← put_list rs p x (lr ▸ zp) i, hx, hins, edr]
    exact rk_get hz i
  obtain ⟨D, hD⟩ := tot_ge (fun i => rs.getD i 0) (z - 1) p x zp
  have hDm := lack_le (m := z - 1) zm zp hD
  have hla : la = (D : Int) := by
    have e1 : tot (rk hz) z = tot (rk (pass hz p)) (z - 1) + D := by
      rw [← tot_congr hput, ← tot_congr hrs, ← hD, zs]
    rw [ela, el, ed, laid_tot, laid_tot, lp, ← ez, e1]
    rw [Int.fmod_eq_emod_of_nonneg _ (Int.natCast_nonneg z), Int.fmod_eq_emod_of_nonneg _ (Int.natCast_nonneg z)]
    exact mod_z z5 hDm
  have up := ones_up lq hq
  have up2 := bare_up hq
  refine ⟨⟨lr, lq, ld2⟩, bisLR up, by rw [lr, ← lq]; exact (bisR_spec up).1, bisLR up2, by have := (bisR_spec (x := (z : Int) - 1 - la) up2).1; rw [bareL_len] at this; rw [lr]; exact this, fun E => ?_⟩
  obtain ⟨q1, q2, q3⟩ := decode (m := z - 1) zm zs.symm lr zp hD hla lq hq E
  rw [hx] at q3 ⊢
  rw [hins] at q3
  exact ⟨q1, Nat.le_trans q2 z6, q3⟩
end
section
open PySem PySem.W PySem.Spec PySem.Calls PyProof.Rows
local macro_rules | `(tactic| walk_at "eval Lambda") => `(tactic| with_reducible refine st_o ?_)
section
open PySem PySem.W PySem.Spec PySem.Calls PyProof.Rows
local macro_rules | `(tactic| walk_at "exec Assign cons ListComp") => `(tactic| with_reducible refine st_h ?_)
/-! MVd -/
section
open PySem PySem.W PySem.Spec PySem.Calls PyProof.Rows
section
variable {w : World} {N : Names} {A : Around} {g : Heap} {L l : Addr} {vs : List Value} {ns : List Int} {s : Shared} {m : Str → Option Value} {own : List (Addr × Obj)}
noncomputable def ifBody (s : Stmt) : List Stmt := match s with
  | .If _ b _ _ => b
  | _ => []
noncomputable def ifElse (s : Stmt) : List Stmt := match s with
  | .If _ _ b _ => b
  | _ => []
noncomputable def lawT (k : Nat) : Stmt := (ifBody (lawB 6)).getD k (.Pass default)
noncomputable def lawE (k : Nat) : Stmt := (ifElse (lawB 6)).getD k (.Pass default)
theorem law_then : ifBody (lawB 6) = [lawT 0, lawT 1, lawT 2] := by kernel_rfl
theorem law_else : ifElse (lawB 6) = [lawE 0, lawE 1, lawE 2] := by kernel_rfl
set_option maxHeartbeats 4000000 in
theorem loopT0 (W : LawF w N A g L l vs ns) (F : Fr g L s.heap m) (NW : News g L s.heap (own)) {o7 : Obj} {D7 : Addr} {ys7 : List Value} {n7 : Nat} {qs : List Int} (m7 : (L + 7, o7) ∈ own) (d7 : o7.data = .cell (some (.ref D7))) (mm7 : (D7, lob ys7 n7) ∈ own) (j7 : IntsAre ys7 qs) (lqs : qs.length ≤ 6) {la : Int} {tl : Tok} (hla : m (Str.ofString "lack") = some (.int la tl)) :
    wpAny (model pw w) (A.deeper (envX (Str.ofString "law") (fSc (stm 19)) L 161 (.ref 160) (lawC L))) (exec (lawT 0) (envX (Str.ofString "law") (fSc (stm 19)) L 161 (.ref 160) (lawC L)))
      (fun f s' => Stop (f = .next ∧ ∃ h' tk, s' = { s with heap := h', toks := tk } ∧ ∃ ta tb, Fr g L h' (fun y => if y = Str.ofString "low" then some (.int ((bisL qs la : Nat) : Int) ta) else if y = Str.ofString "high" then some (.int ((bisR qs la : Nat) : Int) tb) else m y) ∧ News g L h' own)) (fun _ _ => False) s := by
  have _kf : (fun (_ : OpenLaw) (_ : Params → Frag) => True) PySem.Challenge.rw_rw0108_01 K := by (k_fill; trivial)
  clear _kf
  have es := (rfl : fSc (stm 19) = fSc (stm 19))
  conv at es => rhs; whnf
  have eb := (rfl : lawT 0 = lawT 0)
  conv at eb => rhs; whnf
  rw [es, eb]
  clear es eb
  have KX := W.O.K
  have T := W.O.T
  have hl := W.hl
  have hn := W.hn
  have hlen := W.hlen
  have hd := W.hd
  have hu := W.hu
  have hA := W.hA
  obtain ⟨h0, gn0, dr0, tk0, os0⟩ := s
  have F1 := (frKnow F (k := Str.ofString "lack") hla)
  have N1 : News g L h0 ((L + 7, o7) :: own) := news_sub NW (fun p hp => by
    rcases List.mem_cons.mp hp with rfl | hp
    · exact m7
    · exact hp)
  clear F NW
  k_steps
  refine bl_intN (A := A.deeper _) w N D7 ys7 qs la tl 311 ⟨[.ref D7, .int la tl], []⟩ (W.O.ext F1.keep) (by show A.depth + 1 < 890; omega) (by show A.units + 3 < 8900; omega) (lob_is (N1 _ (.tail _ mm7)).1) j7 (by omega) (bl_two (by exact W.O.ext F1.keep) _ _) (fun h2 tk2 t2 x2 => ?_)
  have F2 := Fr.ext F1 x2
  have N2 := News.ext N1 x2
  clear F1 N1
  k_steps
  refine br_intN (A := A.deeper _) w N D7 ys7 qs la tl 297 ⟨[.ref D7, .int la tl], []⟩ (W.O.ext F2.keep) (by show A.depth + 1 < 890; omega) (by show A.units + 3 < 8900; omega) (lob_is (N2 _ (.tail _ mm7)).1) j7 (by omega) (br_two (by exact W.O.ext F2.keep) _ _) (fun h3 tk3 t3 x3 => ?_)
  have F3 := Fr.ext F2 x3
  have N3 := News.ext N2 x3
  clear F2 N2
  k_steps
  rename Fr _ _ _ _ => F5
  rename News _ _ _ _ => N5
  refine wpAny_unpackItems_tuple (A := A.deeper _) (items := #[_, _]) hA ⟨_, (N5 _ (.head _)).1, rfl, 0, rfl⟩ (fun h6 x6 => ?_)
  have F6 : Fr g L h6 _ := ⟨F5.ns.extBut x6 (Nat.ne_of_lt F5.ns.lt), fun b o e => x6 b o (Nat.ne_of_lt (Heap.lt_size (F5.keep b o e))) (F5.keep b o e), F5.above⟩
  have N6 : News g L h6 _ := fun p hp => ⟨x6 _ _ (Nat.ne_of_lt (Heap.lt_size (N5 p hp).1)) (N5 p hp).1, (N5 p hp).2⟩
  clear F5 N5
  k_steps
  rename Fr _ _ _ _ => F9
  rename News _ _ _ _ => N9
  exact Stop.intro ⟨(by first | rfl | trivial), _, _, rfl, t2, t3, (frUn2 F9 hla), news_sub N9 (fun p hp => .tail _ (.tail _ hp))⟩
end
end
/-! MVe -/
section
open PySem PySem.W PySem.Spec PySem.Calls PyProof.Rows
section
variable {w : World} {N : Names} {A : Around} {g : Heap} {L l : Addr} {vs : List Value} {ns : List Int} {s : Shared} {m : Str → Option Value} {own : List (Addr × Obj)}
noncomputable def lamQ : Str := Str.ofString "law" ++ ".<locals>." ++ "<lambda>"
theorem lamL {w : World} {A : Around} {E : Value → Shared → Prop} {s : Shared} {g : Heap} {L : Addr} {m mg mb : Str → Option Value} {loose : List Str} {mean : ExcName → Option Value} {cs : Scope} {ps : Array Value} {own : List (Addr × Obj)} {p p2 q pos : Pos} {Q : Value → Shared → Prop}
    (F : Fr g L s.heap m) (N : News g L s.heap ((158, tabObj ps) :: own)) (T : Top topProg loose mean mg mb g) (C : CodeHd g 160 158) (hP : ∀ p ∈ own, p.1 ≠ 158) (LT : LamTab ps own lamQ)
    (h : ∀ ps' own2 f c' oc vs t ctv h' tk, Fr g L h' m → News g L h' ((f, lamO lamQ p p2 q ((mg "__name__").getD .none) c' ctv) :: (158, tabObj ps') :: (own2 ++ own)) → LamTab ps' (own2 ++ own) lamQ → (c', oc) ∈ own2 ++ own → oc.data = .fields vs → vs[1]? = some (.str lamQ t) →
      (∀ x ∈ (158, tabObj ps) :: own, x.1 ≠ f ∧ ∀ y ∈ own2, x.1 ≠ y.1) → (∀ y ∈ own2, y.1 ≠ f) → Q (.ref f) { s with heap := h', toks := tk }) :
    wpAny (model pw w) A (eval (.Lambda (lamP p) (lamB p2 q) lamS pos) (envX (Str.ofString "law") cs L 161 (.ref 160) (lawC L))) Q E s :=
  lamE (cs := cs) rfl F N T C hP LT h rfl rfl
set_option maxHeartbeats 4000000 in
theorem loopT1 {ps : Array Value} (W : LawF w N A g L l vs ns) (F : Fr g L s.heap m) (NW : News g L s.heap ((158, tabObj ps) :: own)) (C0 : CodeHd g 160 158) (hP : ∀ p ∈ own, p.1 ≠ 158) (LT : LamTab ps own lamQ) {o5 o6 : Obj} {D5 : Addr} {ys5 : List Value} {n5 : Nat} {rs : List Int} {x : Int} {tx : Tok} (m5 : (L + 5, o5) ∈ own) (d5 : o5.data = .cell (some (.ref D5))) (mm5 : (D5, lob ys5 n5) ∈ own) (j5 : IntsAre ys5 rs) (lrs : rs.length ≤ 6) (m6 : (L + 6, o6) ∈ own) (d6 : o6.data = .cell (some (.int x tx))) {lo hi : Nat} {tlo thi : Tok} (hlow : m (Str.ofString "low") = some (.int ((lo : Nat) : Int) tlo)) (hhigh : m (Str.ofString "high") = some (.int ((hi : Nat) : Int) thi)) (hlh : lo ≤ hi) (hhi : hi ≤ rs.length) :
    wpAny (model pw w) (A.deeper (envX (Str.ofString "law") (fSc (stm 19)) L 161 (.ref 160) (lawC L))) (exec (lawT 1) (envX (Str.ofString "law") (fSc (stm 19)) L 161 (.ref 160) (lawC L)))
      (fun f s' => Stop (f = .next ∧ ∃ h' tk, s' = { s with heap := h', toks := tk } ∧ ∃ (t : Tok) (ps' : Array Value) (own2 : List (Addr × Obj)), Fr g L h' (fun y => if y = Str.ofString "first" then some (.int ((bis (fun i => decide (-(rs.getD i 0) < -x)) (hi - lo) lo hi : Nat) : Int) t) else m y) ∧ News g L h' ((158, tabObj ps') :: (own2 ++ own)) ∧ LamTab ps' (own2 ++ own) lamQ ∧ (∀ u : Addr × Obj, u ∈ (158, tabObj ps) :: own → ∀ v : Addr × Obj, v ∈ own2 → u.1 ≠ v.1))) (fun _ _ => False) s := by
  have _kf : (fun (_ : OpenLaw) (_ : Params → Frag) => True) PySem.Challenge.rw_rw0108_01 K := by (k_fill; trivial)
  clear _kf
  have es := (rfl : fSc (stm 19) = fSc (stm 19))
  conv at es => rhs; whnf
  have eb := (rfl : lawT 1 = lawT 1)
  conv at eb => rhs; whnf
  rw [es, eb]
  clear es eb
  have KX := W.O.K
  have T := W.O.T
  have hl := W.hl
  have hn := W.hn
  have hlen := W.hlen
  have hd := W.hd
  have hu := W.hu
  have hA := W.hA
  obtain ⟨h0, gn0, dr0, tk0, os0⟩ := s
  have F1 := (frKnow (frKnow F (k := Str.ofString "low") hlow) (k := Str.ofString "high") ((if_neg (by decide)).trans hhigh))
  have N1 : News g L h0 ((L + 5, o5) :: (L + 6, o6) :: (158, tabObj ps) :: own) := news_sub NW (fun p hp => by
    rcases List.mem_cons.mp hp with rfl | hp
    · exact .tail _ m5
    · rcases List.mem_cons.mp hp with rfl | hp
      · exact .tail _ m6
      · exact hp)
  clear F
  k_steps
  refine Stop.intro ?_
  refine lamL (A := A.deeper _) F1 NW T C0 hP LT ?_
  intro ps' own2 f c' oc vs2 tq ctv h2 tk2 F2 N2 LT2 mc hdc hvc hne1 hne2
  clear F1 N1 NW
  have N3 : News g L h2 ((L + 5, o5) :: (L + 6, o6) :: (f, lamO lamQ _ _ _ ((N.mg "__name__").getD .none) c' ctv) :: (158, tabObj ps') :: (own2 ++ own)) := news_sub N2 (fun p hp => by
    rcases List.mem_cons.mp hp with rfl | hp
    · exact .tail _ (.tail _ (List.mem_append_right _ m5))
    · rcases List.mem_cons.mp hp with rfl | hp
      · exact .tail _ (.tail _ (List.mem_append_right _ m6))
      · exact hp)
  clear N2
  dsimp only
  k_steps
  refine bl_key (A := A.deeper _) w N D5 ys5 rs (-x) f _ _ _ lo hi ⟨[.ref D5, .int (-x) _, .int (lo : Nat) _, .int (hi : Nat) _], [(Str.ofString "key", .ref f)]⟩ (W.O.ext F2.keep) (by show A.depth + 1 < 890; omega) (by show A.units + 3 < 8900; omega) (lob_is (N3 _ (.tail _ (.tail _ (.tail _ (.tail _ (List.mem_append_right _ mm5)))))).1) j5 hlh hhi (by omega) _ _ (N3 _ (.tail _ (.tail _ (.head _)))).1 rfl (fun n t A' s' Q' E' e' hd' hu' hr' => lam_call ((W.O.ext F2.keep).ext e') hd' (e' _ _ (N3 _ (.tail _ (.tail _ (.head _)))).1) ⟨c', oc, vs2, tq, rfl, e' _ _ (N3 _ (.tail _ (.tail _ (.tail _ (.tail _ mc))))).1, hdc, hvc⟩ n t hr') (bl_keyed (by exact W.O.ext F2.keep) _ _ _ _ _) (fun h10 tk10 t10 x10 => ?_)
  have F10 := Fr.ext F2 x10
  have N10 := News.ext N3 x10
  clear F2 N3
  k_steps
  rename Fr _ _ _ _ => F9
  rename News _ _ _ _ => N9
  exact Stop.intro ⟨(by first | rfl | trivial), _, _, rfl, _, ps', own2, (frUn1 (frUn1 F9 ((if_neg (by decide)).trans hhigh)) hlow), news_sub N9 (fun p hp => .tail _ (.tail _ (.tail _ hp))), LT2, fun u hu v hv => (hne1 u hu).2 v hv⟩

set_option maxHeartbeats 4000000 in
theorem loopT2 {ps : Array Value} (W : LawF w N A g L l vs ns) (F : Fr g L s.heap m) (NW : News g L s.heap ((158, tabObj ps) :: own)) (C0 : CodeHd g 160 158) (hP : ∀ p ∈ own, p.1 ≠ 158) (LT : LamTab ps own lamQ) {o5 o6 : Obj} {D5 : Addr} {ys5 : List Value} {n5 : Nat} {rs : List Int} {x : Int} {tx : Tok} (m5 : (L + 5, o5) ∈ own) (d5 : o5.data = .cell (some (.ref D5))) (mm5 : (D5, lob ys5 n5) ∈ own) (j5 : IntsAre ys5 rs) (lrs : rs.length ≤ 6) (m6 : (L + 6, o6) ∈ own) (d6 : o6.data = .cell (some (.int x tx))) {lo hi : Nat} {tlo thi : Tok} (hlow : m (Str.ofString "low") = some (.int ((lo : Nat) : Int) tlo)) (hhigh : m (Str.ofString "high") = some (.int ((hi : Nat) : Int) thi)) (hlh : lo ≤ hi) (hhi : hi ≤ rs.length) :
    wpAny (model pw w) (A.deeper (envX (Str.ofString "law") (fSc (stm 19)) L 161 (.ref 160) (lawC L))) (exec (lawT 2) (envX (Str.ofString "law") (fSc (stm 19)) L 161 (.ref 160) (lawC L)))
      (fun f s' => Stop (f = .next ∧ ∃ h' tk, s' = { s with heap := h', toks := tk } ∧ ∃ (t : Tok) (ps' : Array Value) (own2 : List (Addr × Obj)), Fr g L h' (fun y => if y = Str.ofString "last" then some (.int ((bis (fun i => !decide (-x < -(rs.getD i 0))) (hi - lo) lo hi : Nat) : Int) t) else m y) ∧ News g L h' ((158, tabObj ps') :: (own2 ++ own)) ∧ LamTab ps' (own2 ++ own) lamQ ∧ (∀ u : Addr × Obj, u ∈ (158, tabObj ps) :: own → ∀ v : Addr × Obj, v ∈ own2 → u.1 ≠ v.1))) (fun _ _ => False) s := by
  have _kf : (fun (_ : OpenLaw) (_ : Params → Frag) => True) PySem.Challenge.rw_rw0108_01 K := by (k_fill; trivial)
  clear _kf
  have es := (rfl : fSc (stm 19) = fSc (stm 19))
  conv at es => rhs; whnf
  have eb := (rfl : lawT 2 = lawT 2)
  conv at eb => rhs; whnf
  rw [es, eb]
  clear es eb
  have KX := W.O.K
  have T := W.O.T
  have hl := W.hl
  have hn := W.hn
  have hlen := W.hlen
  have hd := W.hd
  have hu := W.hu
  have hA := W.hA
  obtain ⟨h0, gn0, dr0, tk0, os0⟩ := s
  have F1 := (frKnow (frKnow F (k := Str.ofString "low") hlow) (k := Str.ofString "high") ((if_neg (by decide)).trans hhigh))
  have N1 : News g L h0 ((L + 5, o5) :: (L + 6, o6) :: (158, tabObj ps) :: own) := news_sub NW (fun p hp => by
    rcases List.mem_cons.mp hp with rfl | hp
    · exact .tail _ m5
    · rcases List.mem_cons.mp hp with rfl | hp
      · exact .tail _ m6
      · exact hp)
  clear F
  k_steps
  refine Stop.intro ?_
  refine lamL (A := A.deeper _) F1 NW T C0 hP LT ?_
  intro ps' own2 f c' oc vs2 tq ctv h2 tk2 F2 N2 LT2 mc hdc hvc hne1 hne2
  clear F1 N1 NW
  have N3 : News g L h2 ((L + 5, o5) :: (L + 6, o6) :: (f, lamO lamQ _ _ _ ((N.mg "__name__").getD .none) c' ctv) :: (158, tabObj ps') :: (own2 ++ own)) := news_sub N2 (fun p hp => by
    rcases List.mem_cons.mp hp with rfl | hp
    · exact .tail _ (.tail _ (List.mem_append_right _ m5))
    · rcases List.mem_cons.mp hp with rfl | hp
      · exact .tail _ (.tail _ (List.mem_append_right _ m6))
      · exact hp)
  clear N2
  dsimp only
  k_steps
  refine br_key (A := A.deeper _) w N D5 ys5 rs (-x) f _ _ _ lo hi ⟨[.ref D5, .int (-x) _, .int (lo : Nat) _, .int (hi : Nat) _], [(Str.ofString "key", .ref f)]⟩ (W.O.ext F2.keep) (by show A.depth + 1 < 890; omega) (by show A.units + 3 < 8900; omega) (lob_is (N3 _ (.tail _ (.tail _ (.tail _ (.tail _ (List.mem_append_right _ mm5)))))).1) j5 hlh hhi (by omega) _ _ (N3 _ (.tail _ (.tail _ (.head _)))).1 rfl (fun n t A' s' Q' E' e' hd' hu' hr' => lam_call ((W.O.ext F2.keep).ext e') hd' (e' _ _ (N3 _ (.tail _ (.tail _ (.head _)))).1) ⟨c', oc, vs2, tq, rfl, e' _ _ (N3 _ (.tail _ (.tail _ (.tail _ (.tail _ mc))))).1, hdc, hvc⟩ n t hr') (br_keyed (by exact W.O.ext F2.keep) _ _ _ _ _) (fun h10 tk10 t10 x10 => ?_)
  have F10 := Fr.ext F2 x10
  have N10 := News.ext N3 x10
  clear F2 N3
  k_steps
  rename Fr _ _ _ _ => F9
  rename News _ _ _ _ => N9
  exact Stop.intro ⟨(by first | rfl | trivial), _, _, rfl, _, ps', own2, (frUn1 (frUn1 F9 ((if_neg (by decide)).trans hhigh)) hlow), news_sub N9 (fun p hp => .tail _ (.tail _ (.tail _ hp))), LT2, fun u hu v hv => (hne1 u hu).2 v hv⟩

end
end
/-! MVf -/
section
open PySem PySem.W PySem.Spec PySem.Calls PyProof.Rows
section
variable {w : World} {N : Names} {A : Around} {g : Heap} {L l : Addr} {vs : List Value} {ns : List Int} {s : Shared} {m : Str → Option Value} {own : List (Addr × Obj)}
theorem paired_bareG {qs : List Int} {l : List Nat} {ys : List Value} (h : Paired (fun (k : Nat) (y : Value) => ∃ t, y = Value.int ((k : Int) - qs.getD k 0) t) l ys) : IntsAre ys (l.map fun (k : Nat) => (k : Int) - qs.getD k 0) := by
  induction h with
  | nil => exact .nil
  | cons h _ ih =>
    obtain ⟨t, rfl⟩ := h
    exact .cons _ t ih
theorem paired_bare {qs : List Int} {n : Nat} {ys : List Value} (h : Paired (fun (k : Nat) (y : Value) => ∃ t, y = Value.int ((k : Int) - qs.getD k 0) t) (List.range n) ys) : IntsAre ys (bareL qs n) := paired_bareG h
set_option maxHeartbeats 4000000 in
theorem loopE0 (W : LawF w N A g L l vs ns) (F : Fr g L s.heap m) (NW : News g L s.heap (own)) {o7 : Obj} {D7 : Addr} {ys7 : List Value} {n7 : Nat} {qs : List Int} (m7 : (L + 7, o7) ∈ own) (d7 : o7.data = .cell (some (.ref D7))) (mm7 : (D7, lob ys7 n7) ∈ own) (j7 : IntsAre ys7 qs) (lqs : qs.length ≤ 6) {z : Nat} {tz : Tok} (hz : m (Str.ofString "size") = some (.int (z : Int) tz)) (z1 : 5 ≤ z) (z2 : z ≤ 6) (lqz : qs.length = z - 1) :
    wpAny (model pw w) (A.deeper (envX (Str.ofString "law") (fSc (stm 19)) L 161 (.ref 160) (lawC L))) (exec (lawE 0) (envX (Str.ofString "law") (fSc (stm 19)) L 161 (.ref 160) (lawC L)))
      (fun f s' => Stop (f = .next ∧ ∃ h' tk, s' = { s with heap := h', toks := tk } ∧ ∃ Db yb nb, Fr g L h' (fun y => if y = Str.ofString "bare" then some (.ref Db) else m y) ∧ News g L h' ((Db, lob yb nb) :: own) ∧ (∀ p ∈ own, p.1 ≠ Db) ∧ IntsAre yb (bareL qs (z - 1)))) (fun _ _ => False) s := by
  have _kf : (fun (_ : OpenLaw) (_ : Params → Frag) => True) PySem.Challenge.rw_rw0108_01 K := by (k_fill; trivial)
  clear _kf
  have es := (rfl : fSc (stm 19) = fSc (stm 19))
  conv at es => rhs; whnf
  have eb := (rfl : lawE 0 = lawE 0)
  conv at eb => rhs; whnf
  rw [es, eb]
  clear es eb
  have KX := W.O.K
  have T := W.O.T
  have hl := W.hl
  have hn := W.hn
  have hlen := W.hlen
  have hd := W.hd
  have hu := W.hu
  have hA := W.hA
  obtain ⟨h0, gn0, dr0, tk0, os0⟩ := s
  have F1 := (frKnow F (k := Str.ofString "size") hz)
  clear F
  have ez : (z : Int) - 1 = ((z - 1 : Nat) : Int) := by omega
  refine asgR (A := A.deeper _) (L := L) (cl := [(Str.ofString "ones", L + 7)]) (z - 1) (fun (k : Nat) (y : Value) => ∃ t, y = .int ((k : Int) - qs.getD k 0) t) hA (by omega) (m := fun y => if y = Str.ofString "size" then some (.int (z : Int) tz) else m y) (h₀ := g) (news := own) ?hit ?g2 ?g3 rfl rfl (by decide) rfl (by decide) rfl rfl rfl (by intro _; rfl)
  case hit =>
    k_steps
    rename IsRange _ _ _ _ _ _ _ _ => hr
    rw [ez] at hr
    exact Stop.intro ⟨_, _, _, _, _, _, rfl, rfl, hr, by assumption, by assumption, by assumption⟩
  case g2 =>
    intro C i t s₃ m₃ E' hC FC hi hm hE
    have NC := newsC NW hE hC
    have N3 : News g C s₃.heap ((L + 7, o7) :: own) := news_sub NC (fun p hp => by
      rcases List.mem_cons.mp hp with rfl | hp
      · exact m7
      · exact hp)
    clear F1 NW NC hE hC
    obtain ⟨h3, gn3, dr3, tk3, os3⟩ := s₃
    k_steps
    refine item_intL (lob_is (N3 _ (.tail _ mm7)).1) j7 (by omega) (by omega) (by omega) (fun t7 => ?_)
    rw [Int.toNat_natCast]
    k_steps
    exact Stop.intro ⟨⟨_, rfl⟩, _, _, rfl, fun b o e => e⟩
  case g3 =>
    intro D2 ys k h' tk P3 F3 N3 hnew
    have i9 := paired_bare P3
    refine Stop.intro ⟨rfl, _, _, rfl, D2, ys, k, Fr.cast F3 (fun y => ?_), N3, ne_news NW hnew, i9⟩
    by_cases q : y = Str.ofString "bare"
    · rw [if_pos q, if_pos q]
    · rw [if_neg q, if_neg q]; exact know_eq hz y
set_option maxHeartbeats 4000000 in
theorem loopE1 (W : LawF w N A g L l vs ns) (F : Fr g L s.heap m) (NW : News g L s.heap (own)) {Db : Addr} {yb : List Value} {nb : Nat} {bl : List Int} (mmb : (Db, lob yb nb) ∈ own) (jb : IntsAre yb bl) (lbl : bl.length ≤ 6) (hbare : m (Str.ofString "bare") = some (.ref Db)) {la : Int} {tl : Tok} (hla : m (Str.ofString "lack") = some (.int la tl)) {z : Nat} {tz : Tok} (hz : m (Str.ofString "size") = some (.int (z : Int) tz)) (z1 : 5 ≤ z) (z2 : z ≤ 6) :
    wpAny (model pw w) (A.deeper (envX (Str.ofString "law") (fSc (stm 19)) L 161 (.ref 160) (lawC L))) (exec (lawE 1) (envX (Str.ofString "law") (fSc (stm 19)) L 161 (.ref 160) (lawC L)))
      (fun f s' => Stop (f = .next ∧ ∃ h' tk, s' = { s with heap := h', toks := tk } ∧ ∃ ta tb, Fr g L h' (fun y => if y = Str.ofString "low" then some (.int ((bisL bl ((z : Int) - 1 - la) : Nat) : Int) ta) else if y = Str.ofString "high" then some (.int ((bisR bl ((z : Int) - 1 - la) : Nat) : Int) tb) else m y) ∧ News g L h' own)) (fun _ _ => False) s := by
  have _kf : (fun (_ : OpenLaw) (_ : Params → Frag) => True) PySem.Challenge.rw_rw0108_01 K := by (k_fill; trivial)
  clear _kf
  have es := (rfl : fSc (stm 19) = fSc (stm 19))
  conv at es => rhs; whnf
  have eb := (rfl : lawE 1 = lawE 1)
  conv at eb => rhs; whnf
  rw [es, eb]
  clear es eb
  have KX := W.O.K
  have T := W.O.T
  have hl := W.hl
  have hn := W.hn
  have hlen := W.hlen
  have hd := W.hd
  have hu := W.hu
  have hA := W.hA
  obtain ⟨h0, gn0, dr0, tk0, os0⟩ := s
  have F1 := (frKnow (frKnow (frKnow F (k := Str.ofString "lack") hla) (k := Str.ofString "bare") ((if_neg (by decide)).trans hbare)) (k := Str.ofString "size") ((if_neg (by decide)).trans ((if_neg (by decide)).trans hz)))
  clear F
  k_steps
  refine bl_intN (A := A.deeper _) w N Db yb bl ((z : Int) - 1 - la) _ 311 ⟨[.ref Db, .int ((z : Int) - 1 - la) _], []⟩ (W.O.ext F1.keep) (by show A.depth + 1 < 890; omega) (by show A.units + 3 < 8900; omega) (lob_is (NW _ mmb).1) jb (by omega) (bl_two (by exact W.O.ext F1.keep) _ _) (fun h2 tk2 t2 x2 => ?_)
  have F2 := Fr.ext F1 x2
  have N2 := News.ext NW x2
  clear F1 NW
  k_steps
  refine br_intN (A := A.deeper _) w N Db yb bl ((z : Int) - 1 - la) _ 297 ⟨[.ref Db, .int ((z : Int) - 1 - la) _], []⟩ (W.O.ext F2.keep) (by show A.depth + 1 < 890; omega) (by show A.units + 3 < 8900; omega) (lob_is (N2 _ mmb).1) jb (by omega) (br_two (by exact W.O.ext F2.keep) _ _) (fun h3 tk3 t3 x3 => ?_)
  have F3 := Fr.ext F2 x3
  have N3 := News.ext N2 x3
  clear F2 N2
  k_steps
  rename Fr _ _ _ _ => F5
  rename News _ _ _ _ => N5
  refine wpAny_unpackItems_tuple (A := A.deeper _) (items := #[_, _]) hA ⟨_, (N5 _ (.head _)).1, rfl, 0, rfl⟩ (fun h6 x6 => ?_)
  have F6 : Fr g L h6 _ := ⟨F5.ns.extBut x6 (Nat.ne_of_lt F5.ns.lt), fun b o e => x6 b o (Nat.ne_of_lt (Heap.lt_size (F5.keep b o e))) (F5.keep b o e), F5.above⟩
  have N6 : News g L h6 _ := fun p hp => ⟨x6 _ _ (Nat.ne_of_lt (Heap.lt_size (N5 p hp).1)) (N5 p hp).1, (N5 p hp).2⟩
  clear F5 N5
  k_steps
  rename Fr _ _ _ _ => F9
  rename News _ _ _ _ => N9
  exact Stop.intro ⟨(by first | rfl | trivial), _, _, rfl, t2, t3, (frUn2 (frUn2 (frUn2 F9 ((if_neg (by decide)).trans ((if_neg (by decide)).trans hz))) ((if_neg (by decide)).trans hbare)) hla), news_sub N9 (fun p hp => .tail _ hp)⟩
set_option maxHeartbeats 4000000 in
theorem loopE2 (W : LawF w N A g L l vs ns) (F : Fr g L s.heap m) (NW : News g L s.heap (own)) {o5 o6 : Obj} {D5 : Addr} {ys5 : List Value} {n5 : Nat} {rs : List Int} {x : Int} {tx : Tok} (m5 : (L + 5, o5) ∈ own) (d5 : o5.data = .cell (some (.ref D5))) (mm5 : (D5, lob ys5 n5) ∈ own) (j5 : IntsAre ys5 rs) (lrs : rs.length ≤ 6) (m6 : (L + 6, o6) ∈ own) (d6 : o6.data = .cell (some (.int x tx))) {lo hi : Nat} {tlo thi : Tok} (hlow : m (Str.ofString "low") = some (.int ((lo : Nat) : Int) tlo)) (hhigh : m (Str.ofString "high") = some (.int ((hi : Nat) : Int) thi)) (hlh : lo ≤ hi) (hhi : hi ≤ rs.length) :
    wpAny (model pw w) (A.deeper (envX (Str.ofString "law") (fSc (stm 19)) L 161 (.ref 160) (lawC L))) (exec (lawE 2) (envX (Str.ofString "law") (fSc (stm 19)) L 161 (.ref 160) (lawC L)))
      (fun f s' => Stop (f = .next ∧ ∃ h' tk, s' = { s with heap := h', toks := tk } ∧ ∃ ta tb, Fr g L h' (fun y => if y = Str.ofString "first" then some (.int ((bis (fun i => decide (rs.getD i 0 < x)) (hi - lo) lo hi : Nat) : Int) ta) else if y = Str.ofString "last" then some (.int ((bis (fun i => !decide (x < rs.getD i 0)) (hi - lo) lo hi : Nat) : Int) tb) else m y) ∧ News g L h' own)) (fun _ _ => False) s := by
  have _kf : (fun (_ : OpenLaw) (_ : Params → Frag) => True) PySem.Challenge.rw_rw0108_01 K := by (k_fill; trivial)
  clear _kf
  have es := (rfl : fSc (stm 19) = fSc (stm 19))
  conv at es => rhs; whnf
  have eb := (rfl : lawE 2 = lawE 2)
  conv at eb => rhs; whnf
  rw [es, eb]
  clear es eb
  have KX := W.O.K
  have T := W.O.T
  have hl := W.hl
  have hn := W.hn
  have hlen := W.hlen
  have hd := W.hd
  have hu := W.hu
  have hA := W.hA
  obtain ⟨h0, gn0, dr0, tk0, os0⟩ := s
  have F1 := (frKnow (frKnow F (k := Str.ofString "low") hlow) (k := Str.ofString "high") ((if_neg (by decide)).trans hhigh))
  have N1 : News g L h0 ((L + 5, o5) :: (L + 6, o6) :: own) := news_sub NW (fun p hp => by
    rcases List.mem_cons.mp hp with rfl | hp
    · exact m5
    · rcases List.mem_cons.mp hp with rfl | hp
      · exact m6
      · exact hp)
  clear F NW
  k_steps
  refine bl_int2 (A := A.deeper _) w N D5 ys5 rs x _ _ _ lo hi ⟨[.ref D5, .int x _, .int (lo : Nat) _, .int (hi : Nat) _], []⟩ (W.O.ext F1.keep) (by show A.depth + 1 < 890; omega) (by show A.units + 3 < 8900; omega) (lob_is (N1 _ (.tail _ (.tail _ mm5))).1) j5 hlh hhi (by omega) (bl_noKey (by exact W.O.ext F1.keep) _ _ _ _) (fun h2 tk2 t2 x2 => ?_)
  have F2 := Fr.ext F1 x2
  have N2 := News.ext N1 x2
  clear F1 N1
  k_steps
  refine br_int (A := A.deeper _) w N D5 ys5 rs x _ _ _ lo hi ⟨[.ref D5, .int x _, .int (lo : Nat) _, .int (hi : Nat) _], []⟩ (W.O.ext F2.keep) (by show A.depth + 1 < 890; omega) (by show A.units + 3 < 8900; omega) (lob_is (N2 _ (.tail _ (.tail _ mm5))).1) j5 hlh hhi (by omega) (br_noKey (by exact W.O.ext F2.keep) _ _ _ _) (fun h3 tk3 t3 x3 => ?_)
  have F3 := Fr.ext F2 x3
  have N3 := News.ext N2 x3
  clear F2 N2
  k_steps
  rename Fr _ _ _ _ => F5
  rename News _ _ _ _ => N5
  refine wpAny_unpackItems_tuple (A := A.deeper _) (items := #[_, _]) hA ⟨_, (N5 _ (.head _)).1, rfl, 0, rfl⟩ (fun h6 x6 => ?_)
  have F6 : Fr g L h6 _ := ⟨F5.ns.extBut x6 (Nat.ne_of_lt F5.ns.lt), fun b o e => x6 b o (Nat.ne_of_lt (Heap.lt_size (F5.keep b o e))) (F5.keep b o e), F5.above⟩
  have N6 : News g L h6 _ := fun p hp => ⟨x6 _ _ (Nat.ne_of_lt (Heap.lt_size (N5 p hp).1)) (N5 p hp).1, (N5 p hp).2⟩
  clear F5 N5
  k_steps
  rename Fr _ _ _ _ => F9
  rename News _ _ _ _ => N9
  exact Stop.intro ⟨(by first | rfl | trivial), _, _, rfl, t2, t3, (frUn2 (frUn2 F9 ((if_neg (by decide)).trans hhigh)) hlow), news_sub N9 (fun p hp => .tail _ (.tail _ (.tail _ hp)))⟩
end
end
/-! MVg -/
section
open PySem PySem.W PySem.Spec PySem.Calls PyProof.Rows
section
variable {w : World} {N : Names} {A : Around} {g : Heap} {L l : Addr} {vs : List Value} {ns : List Int} {s : Shared} {m : Str → Option Value} {own : List (Addr × Obj)}
noncomputable def ifTest (s : Stmt) : PySem.Expr := match s with
  | .If t _ _ _ => t
  | _ => .Name Str.empty default
noncomputable def ifPos (s : Stmt) : Pos := match s with
  | .If _ _ _ p => p
  | _ => default
theorem lawB6 : lawB 6 = .If (ifTest (lawB 6)) [lawT 0, lawT 1, lawT 2] [lawE 0, lawE 1, lawE 2] (ifPos (lawB 6)) := by kernel_rfl
set_option maxHeartbeats 4000000 in
theorem loopIf (W : LawF w N A g L l vs ns) (F : Fr g L s.heap m) (NW : News g L s.heap (own)) {o7 : Obj} {D7 : Addr} {ys7 : List Value} {n7 : Nat} {qs : List Int} (m7 : (L + 7, o7) ∈ own) (d7 : o7.data = .cell (some (.ref D7))) (mm7 : (D7, lob ys7 n7) ∈ own) (j7 : IntsAre ys7 qs) (lqs : qs.length ≤ 6) (l1 : 1 ≤ qs.length) {la : Int} {tl : Tok} (hla : m (Str.ofString "lack") = some (.int la tl)) :
    wpAny (model pw w) (A.deeper (envX (Str.ofString "law") (fSc (stm 19)) L 161 (.ref 160) (lawC L))) (isTrue (ifTest (lawB 6)) (envX (Str.ofString "law") (fSc (stm 19)) L 161 (.ref 160) (lawC L)) (eval (ifTest (lawB 6)) (envX (Str.ofString "law") (fSc (stm 19)) L 161 (.ref 160) (lawC L))))
      (fun f s' => Stop (f = decide (la ≤ qs.getD (qs.length - 1) 0) ∧ ∃ h' tk, s' = { s with heap := h', toks := tk } ∧ Fr g L h' m ∧ News g L h' own)) (fun _ _ => False) s := by
  have _kf : (fun (_ : OpenLaw) (_ : Params → Frag) => True) PySem.Challenge.rw_rw0108_01 K := by (k_fill; trivial)
  clear _kf
  have es := (rfl : fSc (stm 19) = fSc (stm 19))
  conv at es => rhs; whnf
  have eb := (rfl : ifTest (lawB 6) = ifTest (lawB 6))
  conv at eb => rhs; whnf
  rw [es, eb]
  clear es eb
  have KX := W.O.K
  have T := W.O.T
  have hl := W.hl
  have hn := W.hn
  have hlen := W.hlen
  have hd := W.hd
  have hu := W.hu
  have hA := W.hA
  obtain ⟨h0, gn0, dr0, tk0, os0⟩ := s
  have F1 := (frKnow F (k := Str.ofString "lack") hla)
  have N1 : News g L h0 ((L + 7, o7) :: own) := news_sub NW (fun p hp => by
    rcases List.mem_cons.mp hp with rfl | hp
    · exact m7
    · exact hp)
  clear F NW
  k_steps
  refine item_intLast (lob_is (N1 _ (.tail _ mm7)).1) j7 l1 (fun tt => ?_)
  k_steps
  all_goals first
    | exact Stop.intro ⟨(decide_eq_true (by assumption)).symm, _, _, rfl, (frUn F1 hla), news_sub N1 (fun p hp => .tail _ hp)⟩
    | exact Stop.intro ⟨(decide_eq_false (by assumption)).symm, _, _, rfl, (frUn F1 hla), news_sub N1 (fun p hp => .tail _ hp)⟩
    | exact Stop.intro ⟨rfl, _, _, rfl, (frUn F1 hla), news_sub N1 (fun p hp => .tail _ hp)⟩
theorem upG {m m' : Str → Option Value} {a b : Str} {u v : Option Value} (e : ∀ y, m' y = if y = a then u else if y = b then v else m y) (y : Str) (h1 : y ≠ a) (h2 : y ≠ b) : m' y = m y := by rw [e, if_neg h1, if_neg h2]
/-- the if and its two ways -/
theorem loop6 {ps : Array Value} (W : LawF w N A g L l vs ns) (F : Fr g L s.heap m) (NW : News g L s.heap ((158, tabObj ps) :: own)) (C0 : CodeHd g 160 158) (hP : ∀ p ∈ own, p.1 ≠ 158) (LT : LamTab ps own lamQ) {o7 : Obj} {D7 : Addr} {ys7 : List Value} {n7 : Nat} {qs : List Int} (m7 : (L + 7, o7) ∈ own) (d7 : o7.data = .cell (some (.ref D7))) (mm7 : (D7, lob ys7 n7) ∈ own) (j7 : IntsAre ys7 qs) (lqs : qs.length ≤ 6) {o5 o6 : Obj} {D5 : Addr} {ys5 : List Value} {n5 : Nat} {rs : List Int} {x : Int} {tx : Tok} (m5 : (L + 5, o5) ∈ own) (d5 : o5.data = .cell (some (.ref D5))) (mm5 : (D5, lob ys5 n5) ∈ own) (j5 : IntsAre ys5 rs) (lrs : rs.length ≤ 6) (m6 : (L + 6, o6) ∈ own) (d6 : o6.data = .cell (some (.int x tx))) {z : Nat} {tz : Tok} (hz : m (Str.ofString "size") = some (.int (z : Int) tz)) (z1 : 5 ≤ z) (z2 : z ≤ 6) (lrz : rs.length = z - 1) (lqz : qs.length = z - 1) {la : Int} {tl : Tok} (hla : m (Str.ofString "lack") = some (.int la tl))
    (c1 : bisL qs la ≤ bisR qs la) (c2 : bisR qs la ≤ rs.length) (c3 : bisL (bareL qs (z - 1)) ((z : Int) - 1 - la) ≤ bisR (bareL qs (z - 1)) ((z : Int) - 1 - la)) (c4 : bisR (bareL qs (z - 1)) ((z : Int) - 1 - la) ≤ rs.length) :
    wpAny (model pw w) (A.deeper (envX (Str.ofString "law") (fSc (stm 19)) L 161 (.ref 160) (lawC L))) (exec (lawB 6) (envX (Str.ofString "law") (fSc (stm 19)) L 161 (.ref 160) (lawC L)))
      (fun f s' => Stop (f = .next ∧ ∃ h' tk, s' = { s with heap := h', toks := tk } ∧ ∃ (a b : Nat) (ta tb : Tok) (ps' : Array Value) (own2 : List (Addr × Obj)) (m' : Str → Option Value), EndsAt qs rs z la x a b ∧ Fr g L h' m' ∧ News g L h' ((158, tabObj ps') :: (own2 ++ own)) ∧ LamTab ps' (own2 ++ own) lamQ ∧ (∀ u : Addr × Obj, u ∈ (158, tabObj ps) :: own → ∀ v : Addr × Obj, v ∈ own2 → u.1 ≠ v.1) ∧ m' (Str.ofString "first") = some (.int ((a : Nat) : Int) ta) ∧ m' (Str.ofString "last") = some (.int ((b : Nat) : Int) tb) ∧ (∀ y, y ≠ Str.ofString "last" → y ≠ Str.ofString "first" → y ≠ Str.ofString "low" → y ≠ Str.ofString "high" → y ≠ Str.ofString "bare" → m' y = m y))) (fun _ _ => False) s := by
  rw [lawB6]
  refine wpAny_If (wpAny_mono (loopIf W F NW (.tail _ m7) d7 (.tail _ mm7) j7 lqs (by omega) hla) (fun f s' hq => ?_) fun _ _ e => e)
  obtain ⟨rfl, h1, tk1, rfl, F1, N1⟩ := Stop.out hq
  clear F NW hq
  by_cases hc : la ≤ qs.getD (qs.length - 1) 0
  · rw [decide_eq_true hc, if_pos rfl]
    refine seq1 _ (loopT0 W F1 N1 (.tail _ m7) d7 (.tail _ mm7) j7 lqs hla) (fun s2 hs2 => ?_)
    obtain ⟨h2, tk2, rfl, t2, u2, F2, N2⟩ := hs2
    refine seq1 _ (loopT1 W F2 N2 C0 hP LT m5 d5 mm5 j5 lrs m6 d6 (lo := bisL qs la) (hi := bisR qs la) (tlo := t2) (thi := u2) rfl rfl c1 c2) (fun s3 hs3 => ?_)
    obtain ⟨h3, tk3, rfl, t3, ps3, own3, F3, N3, LT3, ne3⟩ := hs3
    refine seq1 _ (loopT2 W F3 N3 C0 (fun p hp => ?_) LT3 (List.mem_append_right _ m5) d5 (List.mem_append_right _ mm5) j5 lrs (List.mem_append_right _ m6) d6 (lo := bisL qs la) (hi := bisR qs la) (tlo := t2) (thi := u2) rfl rfl c1 c2) (fun s4 hs4 => ?_)
    · rcases List.mem_append.mp hp with q | q
      · exact Ne.symm (ne3 _ (.head _) p q)
      · exact hP p q
    obtain ⟨h4, tk4, rfl, t4, ps4, own4, F4, N4, LT4, ne4⟩ := hs4
    rw [← List.append_assoc] at N4 LT4
    refine wpAny_execs_nil (Stop.intro ⟨rfl, h4, tk4, rfl, _, _, t3, t4, ps4, own4 ++ own3, _, ⟨fun _ => ⟨rfl, rfl⟩, fun q => absurd hc q⟩, F4, N4, LT4, fun u hu v hv => ?_, ?_, ?_, fun y y1 y2 y3 y4 y5 => ?_⟩)
    · rcases List.mem_append.mp hv with q | q
      · rcases List.mem_cons.mp hu with rfl | hu
        · exact ne4 (158, tabObj ps3) (.head _) v q
        · exact ne4 u (.tail _ (List.mem_append_right _ hu)) v q
      · exact ne3 u hu v q
    · rfl
    · rfl
    · rw [if_neg y1, if_neg y2, if_neg y3, if_neg y4]
  · rw [decide_eq_false hc, if_neg Bool.false_ne_true]
    refine seq1 _ (loopE0 W F1 N1 (.tail _ m7) d7 (.tail _ mm7) j7 lqs hz z1 z2 lqz) (fun s2 hs2 => ?_)
    obtain ⟨h2, tk2, rfl, Db, yb, nb, F2, N2, ne2, j2⟩ := hs2
    refine seq1 _ (loopE1 (m := fun y => if y = Str.ofString "bare" then some (.ref Db) else m y) W F2 N2 (.head _) j2 (by rw [bareL_len]; omega) rfl (la := la) (tl := tl) ((if_neg (by decide)).trans hla) (z := z) (tz := tz) ((if_neg (by decide)).trans hz) z1 z2) (fun s3 hs3 => ?_)
    obtain ⟨h3, tk3, rfl, t3, u3, F3, N3⟩ := hs3
    refine seq1 _ (loopE2 W F3 N3 (.tail _ (.tail _ m5)) d5 (.tail _ (.tail _ mm5)) j5 lrs (.tail _ (.tail _ m6)) d6 (lo := bisL (bareL qs (z - 1)) ((z : Int) - 1 - la)) (hi := bisR (bareL qs (z - 1)) ((z : Int) - 1 - la)) (tlo := t3) (thi := u3) rfl rfl c3 c4) (fun s4 hs4 => ?_)
    obtain ⟨h4, tk4, rfl, t4, u4, F4, N4⟩ := hs4
    refine wpAny_execs_nil (Stop.intro ⟨rfl, h4, tk4, rfl, _, _, t4, u4, ps, [(Db, lob yb nb)], _, ⟨fun q => absurd q hc, fun _ => ⟨rfl, rfl⟩⟩, F4, news_sub N4 (fun p hp => ?_), LT.sub (fun p hp => .tail _ hp), fun u hu v hv => ?_, ?_, ?_, fun y y1 y2 y3 y4 y5 => ?_⟩)
    · rcases List.mem_cons.mp hp with rfl | hp
      · exact .tail _ (.head _)
      · rcases List.mem_cons.mp hp with rfl | hp
        · exact .head _
        · exact .tail _ (.tail _ hp)
    · cases List.mem_singleton.mp hv
      exact ne2 u hu
    · rfl
    · rfl
    · rw [if_neg y2, if_neg y1, if_neg y3, if_neg y4, if_neg y5]
end
end
/-! MVh -/
section
open PySem PySem.W PySem.Spec PySem.Calls PyProof.Rows
section
variable {w : World} {N : Names} {A : Around} {g : Heap} {L l : Addr} {vs : List Value} {ns : List Int} {s : Shared} {m : Str → Option Value} {own : List (Addr × Obj)}
noncomputable abbrev upS (s : Shared) (h : Heap) (tk : Nat) : Shared := { s with heap := h, toks := tk }
/-- one statement of many, the state kept flat -/
theorem seqS {M : Model} {A : Around} {E : Value → Shared → Prop} {s : Shared} {env : Env} {st : Stmt} {rest : List Stmt} {Q : Flow → Shared → Prop} {h : Heap} {tk : Nat} (P : Heap → Prop)
    (h1 : wpAny M A (exec st env) (fun f s' => Stop (f = .next ∧ ∃ h' tk', s' = { upS s h tk with heap := h', toks := tk' } ∧ P h')) E (upS s h tk)) (h2 : ∀ h' tk', P h' → wpAny M A (execs rest env) Q E (upS s h' tk')) : wpAny M A (execs (st :: rest) env) Q E (upS s h tk) :=
  seq1 _ h1 (fun s' hs => by obtain ⟨h', tk', rfl, hp⟩ := hs; exact h2 h' tk' hp)
/-- two blocks of a ledger change places -/
theorem news_swap {g h : Heap} {L : Addr} {X Y l : List (Addr × Obj)} (N : News g L h (X ++ (Y ++ l))) : News g L h (Y ++ (X ++ l)) := news_sub N (fun p hp => by
  rcases List.mem_append.mp hp with q | q
  · exact List.mem_append_right _ (List.mem_append_left _ q)
  · rcases List.mem_append.mp q with q | q
    · exact List.mem_append_left _ q
    · exact List.mem_append_right _ (List.mem_append_right _ q))
theorem ne_add {L a b : Nat} (h : a ≠ b) : (L + a : Addr) ≠ (L + b : Addr) := fun e => h (Nat.add_left_cancel e)
theorem ne_158 {L a : Nat} (h : 158 < L) : (158 : Addr) ≠ (L + a : Addr) := Nat.ne_of_lt (Nat.lt_of_lt_of_le h (Nat.le_add_right L a))
theorem LamTab.pick {ps : Array Value} {a b : List (Addr × Obj)} {qual : Str} (h : LamTab ps a qual) (hs : ∀ p ∈ a, p ∈ b ∨ ∀ vs t, p.2.data = .fields vs → vs[1]? = some (.str qual t) → False) : LamTab ps b qual :=
  ⟨h.1, fun pos v e => by
    obtain ⟨c, oc, vs, t, h1, h2, h3, h4⟩ := h.2 pos v e
    rcases hs _ h2 with q | q
    · exact ⟨c, oc, vs, t, h1, q, h3, h4⟩
    · exact (q vs t h3 h4).elim⟩
theorem cell_no {o : Obj} {v : Option Value} {qual : Str} (e : o.data = .cell v) : ∀ vs t, o.data = .fields vs → vs[1]? = some (.str qual t) → False := fun vs t h _ => by rw [e] at h; cases h
/-- what the loop leaves alone -/
structure LoopK (L : Addr) (own : List (Addr × Obj)) (z : Nat) (hz dr : List Int) (nm ld : Int) (Dh Dp Ds : Addr) : Prop where
  z5 : z = 5 ∨ z = 6
  ez : z = hz.length
  edr : dr = (List.range hz.length).map fun j => hz.getD j 0 % 7
  en : nm = dr.sum.fmod 7
  el : ld = (laidS (dsOf hz)).fmod z
  hands : ∃ hs nh, (Dh, lob hs nh) ∈ own ∧ IntsAre hs hz
  pages : ∃ ys np nws, (Dp, lob ys np) ∈ own ∧ PagesIn nws ys hz ∧ ∀ p ∈ nws, p ∈ own
  shelf : ∃ vd nd k, (Ds, lob vd nd) ∈ own ∧ StrsAre vd ((shelfE k).map sg)
  drawn : ∃ o3 D3 ys3 n3, (L + 3, o3) ∈ own ∧ o3.data = .cell (some (.ref D3)) ∧ (D3, lob ys3 n3) ∈ own ∧ IntsAre ys3 dr
theorem LoopK.sub {own own' : List (Addr × Obj)} {z : Nat} {hz dr : List Int} {nm ld : Int} {Dh Dp Ds : Addr} (k : LoopK L own z hz dr nm ld Dh Dp Ds) (h : ∀ p ∈ own, p ∈ own') : LoopK L own' z hz dr nm ld Dh Dp Ds :=
  ⟨k.z5, k.ez, k.edr, k.en, k.el, let ⟨a, b, c, d⟩ := k.hands; ⟨a, b, h _ c, d⟩, let ⟨a, b, c, d, e, f⟩ := k.pages; ⟨a, b, c, h _ d, e, fun p hp => h _ (f p hp)⟩,
    let ⟨a, b, c, d, e⟩ := k.shelf; ⟨a, b, c, h _ d, e⟩, let ⟨a, b, c, d, e, f, x, y⟩ := k.drawn; ⟨a, b, c, d, h _ e, f, h _ x, y⟩⟩
/-- the names that the loop reads and leaves alone -/
structure LoopM (m : Str → Option Value) (z : Nat) (nm ld : Int) (Dh Dp Ds : Addr) : Prop where
  size : ∃ t, m (Str.ofString "size") = some (.int (z : Int) t)
  hands : m (Str.ofString "hands") = some (.ref Dh)
  pages : m (Str.ofString "pages") = some (.ref Dp)
  shelf : m (Str.ofString "shelf") = some (.ref Ds)
  names : ∃ t, m (Str.ofString "names") = some (.int nm t)
  laid : ∃ t, m (Str.ofString "laid") = some (.int ld t)
/-- no place of the loop's own -/
noncomputable def Off (L : Addr) (q : Addr × Obj) : Prop := q.1 ≠ 158 ∧ q.1 ≠ L + 4 ∧ q.1 ≠ L + 5 ∧ q.1 ≠ L + 6 ∧ q.1 ≠ L + 7
noncomputable abbrev cells5 (ps : Array Value) (L : Addr) (o4 o5 o6 o7 : Obj) (own : List (Addr × Obj)) : List (Addr × Obj) := (158, tabObj ps) :: (L + 4, o4) :: (L + 5, o5) :: (L + 6, o6) :: (L + 7, o7) :: own
noncomputable def isCell (o : Obj) : Prop := ∃ v, o.data = .cell v
set_option maxHeartbeats 4000000 in
theorem turn8 {ps : Array Value} {o4 o5 o6 o7 : Obj} {z p : Nat} {hz dr : List Int} {nm ld : Int} {Dh Dp Ds : Addr} {tp : Tok} (W : LawF w N A g L l vs ns) (C0 : CodeHd g 160 158) (F : Fr g L s.heap m)
    (NW : News g L s.heap (cells5 ps L o4 o5 o6 o7 own)) (hX : ∀ q ∈ own, Off L q) (h4 : isCell o4) (h5 : isCell o5) (h6 : isCell o6) (h7 : isCell o7) (LT : LamTab ps own lamQ)
    (KL : LoopK L own z hz dr nm ld Dh Dp Ds) (KM : LoopM m z nm ld Dh Dp Ds) (hlo : m (Str.ofString "lost") = some (.int (p : Int) tp)) (hpl : p < hz.length) :
    wpAny (model pw w) (A.deeper (envX (Str.ofString "law") (fSc (stm 19)) L 161 (.ref 160) (lawC L))) (execs [lawB 0, lawB 1, lawB 2, lawB 3, lawB 4, lawB 5, lawB 6, lawB 7] (envX (Str.ofString "law") (fSc (stm 19)) L 161 (.ref 160) (lawC L)))
      (fun f s' => f = .next ∧ ∃ (h' : Heap) (tk : Nat) (ps' : Array Value) (new : List (Addr × Obj)) (o4 o5 o6 o7 : Obj) (m' : Str → Option Value), s' = { s with heap := h', toks := tk } ∧ Fr g L h' m' ∧ News g L h' (cells5 ps' L o4 o5 o6 o7 (new ++ own)) ∧
        (∀ q ∈ new, Off L q ∧ ∀ u ∈ own, u.1 ≠ q.1) ∧ isCell o4 ∧ isCell o5 ∧ isCell o6 ∧ isCell o7 ∧ LamTab ps' (new ++ own) lamQ ∧ LoopM m' z nm ld Dh Dp Ds) (fun _ _ => False) s := by
  obtain ⟨v4, d4⟩ := h4
  obtain ⟨v5, d5⟩ := h5
  obtain ⟨v6, d6⟩ := h6
  obtain ⟨v7, d7⟩ := h7
  obtain ⟨z5, ez, edr, en, el, ⟨hs, nh, mh, ih⟩, ⟨ys, np, nws, mp, hP, hsub⟩, ⟨vd, nd, k, msh, ish⟩, ⟨o3, D3, ys3, n3, m3, d3, mm3, j3⟩⟩ := KL
  obtain ⟨⟨tz, ksz⟩, kh, kp, ks, ⟨tn, kn⟩, ⟨tl, kl⟩⟩ := KM
  have l158 : 158 < L := by
    obtain ⟨o, _, _, _, _, _, _, _, _, e, _⟩ := C0
    exact Nat.lt_of_lt_of_le (Nat.lt_trans (by decide) (Heap.lt_size e)) F.above
  have lpass := pass_len hpl
  have z6 : hz.length ≤ 6 := by omega
  have tl5 : ∀ {q : Addr × Obj}, q ∈ own → q ∈ cells5 ps L o4 o5 o6 o7 own := fun h => .tail _ (.tail _ (.tail _ (.tail _ (.tail _ h))))
  refine seqS _ (loop0 W F NW (tl5 mh) ih z6 (tl5 mp) hP (fun q hq => tl5 (hsub q hq)) kh kp hlo hpl) (fun h1 tk1 hs1 => ?_)
  obtain ⟨t1, u1, F1, N1⟩ := hs1
  refine seqS _ (loop1 W F1 N1 (t1 := t1) (t2 := u1) (x := strL (mailOf (stage (pass hz p) (pass hz p).length (pass hz p).length))) rfl rfl) (fun h2 tk2 hs2 => ?_)
  obtain ⟨F2, N2⟩ := hs2
  clear F NW F1 N1
  obtain ⟨m2, F2, km, kE⟩ : ∃ m2 : Str → Option Value, Fr g L h2 m2 ∧ m2 (Str.ofString "mail") = some (.str (strL (mailOf (stage (pass hz p) (pass hz p).length (pass hz p).length))) t1) ∧ ∀ y, y ≠ Str.ofString "due" → y ≠ Str.ofString "mail" → m2 y = m y := ⟨_, F2, rfl, fun y a b => (if_neg a).trans (if_neg b)⟩
  have kS : ∀ {y : Str} {r : Option Value}, y ≠ Str.ofString "due" → y ≠ Str.ofString "mail" → m y = r → m2 y = r := fun a b e => (kE _ a b).trans e
  -- the mail is heard
  have N2b : News g L h2 ((L + 5, o5) :: (L + 4, o4) :: (158, tabObj ps) :: (L + 6, o6) :: (L + 7, o7) :: own) := news_swap (X := [_, _]) (Y := [_]) (news_swap (X := [_]) (Y := [_]) N2)
  refine seqS _ (loop2 W F2 N2b (ne_add (by decide)) (fun q hq => ?_) (fun q hq => ?_) d5 d4 (D := Ds) (vd := vd) (nd := nd) (k := k) (hz := pass hz p) (t1 := t1) (by omega) km (kS (by decide) (by decide) ks) (.tail _ (.tail _ (.tail _ msh))) ish) (fun h3 tk3 hs3 => ?_)
  · rcases List.mem_cons.mp hq with rfl | hq
    · exact ne_158 l158
    rcases List.mem_cons.mp hq with rfl | hq
    · exact ne_add (by decide)
    rcases List.mem_cons.mp hq with rfl | hq
    · exact ne_add (by decide)
    exact (hX q hq).2.2.1
  · rcases List.mem_cons.mp hq with rfl | hq
    · exact ne_158 l158
    rcases List.mem_cons.mp hq with rfl | hq
    · exact ne_add (by decide)
    rcases List.mem_cons.mp hq with rfl | hq
    · exact ne_add (by decide)
    exact (hX q hq).2.1
  obtain ⟨p5, p4, D8, ys8, n8, D6, ys6, n6, F3, N3, e5, e4, ne3, j8, j6⟩ := hs3
  clear F2 N2 N2b
  obtain ⟨rs, er, j8⟩ : ∃ rs, rs = ((List.range (pass hz p).length).map fun j => (pass hz p).getD j 0 % 7) ∧ IntsAre ys8 rs := ⟨_, rfl, j8⟩
  obtain ⟨ds, ed, j6⟩ : ∃ ds, ds = dsOf (pass hz p) ∧ IntsAre ys6 ds := ⟨_, rfl, j6⟩
  have lds : ds.length = z - 1 := by rw [ed, ds_len, lpass, ez]
  have o8 : Off L (D8, lob ys8 n8) := ⟨Ne.symm (ne3 (158, tabObj ps) (.tail _ (.tail _ (.head _)))).1, Ne.symm (ne3 (L + 4, o4) (.tail _ (.head _))).1, Ne.symm (ne3 (L + 5, o5) (.head _)).1, Ne.symm (ne3 (L + 6, o6) (.tail _ (.tail _ (.tail _ (.head _))))).1, Ne.symm (ne3 (L + 7, o7) (.tail _ (.tail _ (.tail _ (.tail _ (.head _)))))).1⟩
  have q6 : Off L (D6, lob ys6 n6) := ⟨Ne.symm (ne3 (158, tabObj ps) (.tail _ (.tail _ (.head _)))).2, Ne.symm (ne3 (L + 4, o4) (.tail _ (.head _))).2, Ne.symm (ne3 (L + 5, o5) (.head _)).2, Ne.symm (ne3 (L + 6, o6) (.tail _ (.tail _ (.tail _ (.head _))))).2, Ne.symm (ne3 (L + 7, o7) (.tail _ (.tail _ (.tail _ (.tail _ (.head _)))))).2⟩
  -- the name that lacks
  have N3b : News g L h3 ((L + 6, o6) :: (L + 5, p5) :: (L + 4, p4) :: (D8, lob ys8 n8) :: (D6, lob ys6 n6) :: (158, tabObj ps) :: (L + 7, o7) :: own) := news_swap (X := [_, _, _, _, _]) (Y := [_]) N3
  refine seqS _ (loop3 W F3 N3b (o5 := p5) (D8 := D8) (ys8 := ys8) (n8 := n8) (nm := nm) (tn := tn) (.head _) e5 (.tail _ (.tail _ (.head _))) j8 d6 (fun q hq => ?_) (kS (by decide) (by decide) kn)) (fun h4 tk4 hs4 => ?_)
  · rcases List.mem_cons.mp hq with rfl | hq
    · exact ne_add (by decide)
    rcases List.mem_cons.mp hq with rfl | hq
    · exact ne_add (by decide)
    rcases List.mem_cons.mp hq with rfl | hq
    · exact o8.2.2.2.1
    rcases List.mem_cons.mp hq with rfl | hq
    · exact q6.2.2.2.1
    rcases List.mem_cons.mp hq with rfl | hq
    · exact ne_158 l158
    rcases List.mem_cons.mp hq with rfl | hq
    · exact ne_add (by decide)
    exact (hX q hq).2.2.2.1
  obtain ⟨p6, t6, F4, N4, e6⟩ := hs4
  obtain ⟨x, ex, e6⟩ : ∃ x, x = (nm - rs.sum).fmod 7 ∧ p6.data = .cell (some (.int x t6)) := ⟨_, rfl, e6⟩
  clear F3 N3 N3b
  refine seqS _ (loop4 W F4 N4 (o4 := p4) (D6 := D6) (ys6 := ys6) (n6 := n6) (z := z) (la := ld) (tz := tz) (tl := tl) (.tail _ (.tail _ (.head _))) e4 (.tail _ (.tail _ (.tail _ (.tail _ (.head _))))) j6 (by omega) (kS (by decide) (by decide) ksz) (kS (by decide) (by decide) kl) (by omega)) (fun h5 tk5 hs5 => ?_)
  obtain ⟨t5, F5, N5⟩ := hs5
  obtain ⟨la, ela, m5, F5, kl5, k5⟩ : ∃ la, la = (ld - laidS ds).fmod z ∧ ∃ m5 : Str → Option Value, Fr g L h5 m5 ∧ m5 (Str.ofString "lack") = some (.int la t5) ∧ ∀ y, y ≠ Str.ofString "lack" → m5 y = m2 y := ⟨_, rfl, _, F5, rfl, fun y a => if_neg a⟩
  clear F4 N4
  have N5b : News g L h5 ((L + 7, o7) :: (L + 6, p6) :: (L + 5, p5) :: (L + 4, p4) :: (D8, lob ys8 n8) :: (D6, lob ys6 n6) :: (158, tabObj ps) :: own) := news_swap (X := [_, _, _, _, _, _]) (Y := [_]) N5
  refine seqS _ (loop5 W F5 N5b (o4 := p4) (D6 := D6) (ys6 := ys6) (n6 := n6) (z := z) (tz := tz) (.tail _ (.tail _ (.head _))) e4 (.tail _ (.tail _ (.tail _ (.tail _ (.head _))))) j6 (by omega) ((k5 _ (by decide)).trans (kS (by decide) (by decide) ksz)) (by omega) (by omega) d7 (fun q hq => ?_)) (fun h6 tk6 hs6 => ?_)
  · rcases List.mem_cons.mp hq with rfl | hq
    · exact ne_add (by decide)
    rcases List.mem_cons.mp hq with rfl | hq
    · exact ne_add (by decide)
    rcases List.mem_cons.mp hq with rfl | hq
    · exact ne_add (by decide)
    rcases List.mem_cons.mp hq with rfl | hq
    · exact o8.2.2.2.2
    rcases List.mem_cons.mp hq with rfl | hq
    · exact q6.2.2.2.2
    rcases List.mem_cons.mp hq with rfl | hq
    · exact ne_158 l158
    exact (hX q hq).2.2.2.2
  obtain ⟨p7, D7, ys7, n7, F6, N6, ne6, e7, j7⟩ := hs6
  obtain ⟨qs, eq, j7⟩ : ∃ qs, qs = ((List.range (z - 1)).map fun k => ((onesN ds k : Nat) : Int)) ∧ IntsAre ys7 qs := ⟨_, rfl, j7⟩
  clear F5 N5 N5b
  have o7b : Off L (D7, lob ys7 n7) := ⟨Ne.symm (ne6 (158, tabObj ps) (.tail _ (.tail _ (.tail _ (.tail _ (.tail _ (.tail _ (.head _)))))))), Ne.symm (ne6 (L + 4, p4) (.tail _ (.tail _ (.tail _ (.head _))))), Ne.symm (ne6 (L + 5, p5) (.tail _ (.tail _ (.head _)))), Ne.symm (ne6 (L + 6, p6) (.tail _ (.head _))), Ne.symm (ne6 (L + 7, o7) (.head _))⟩
  -- the two ends
  have LW := fun a b => law_turn (p := p) (a := a) (b := b) hpl ez z5 er ed eq edr en el ex ela
  obtain ⟨⟨lrs, lqs, _⟩, c1, c2, c3, c4, _⟩ := LW 0 0
  have N6b : News g L h6 ((158, tabObj ps) :: (L + 7, p7) :: (D7, lob ys7 n7) :: (L + 6, p6) :: (L + 5, p5) :: (L + 4, p4) :: (D8, lob ys8 n8) :: (D6, lob ys6 n6) :: own) := news_swap (X := [_, _, _, _, _, _, _]) (Y := [_]) N6
  have k6z : m5 (Str.ofString "size") = some (.int (z : Int) tz) := (k5 _ (by decide)).trans (kS (by decide) (by decide) ksz)
  refine seqS _ (loop6 W F6 N6b C0 (fun q hq => ?_) (LT.sub fun q hq => .tail _ (.tail _ (.tail _ (.tail _ (.tail _ (.tail _ (.tail _ (hq)))))))) (.head _) e7 (.tail _ (.head _)) j7 (by omega) (.tail _ (.tail _ (.tail _ (.head _)))) e5 (.tail _ (.tail _ (.tail _ (.tail _ (.tail _ (.head _)))))) j8 (by omega) (.tail _ (.tail _ (.head _))) e6 k6z (by omega) (by omega) lrs lqs kl5 c1 c2 c3 c4) (fun h7 tk7 hs7 => ?_)
  · rcases List.mem_cons.mp hq with rfl | hq
    · exact Ne.symm (ne_158 l158)
    rcases List.mem_cons.mp hq with rfl | hq
    · exact o7b.1
    rcases List.mem_cons.mp hq with rfl | hq
    · exact Ne.symm (ne_158 l158)
    rcases List.mem_cons.mp hq with rfl | hq
    · exact Ne.symm (ne_158 l158)
    rcases List.mem_cons.mp hq with rfl | hq
    · exact Ne.symm (ne_158 l158)
    rcases List.mem_cons.mp hq with rfl | hq
    · exact o8.1
    rcases List.mem_cons.mp hq with rfl | hq
    · exact q6.1
    exact (hX q hq).1
  obtain ⟨a, b, ta, tb, ps7, own7, m7, EE, F7, N7, LT7, ne7, kf, kla, k7⟩ := hs7
  clear F6 N6 N6b
  obtain ⟨hab, hb6, hflt⟩ := (LW a b).2.2.2.2.2 EE
  refine seqS _ (loop7 W F7 N7 (o3 := o3) (D3 := D3) (ys3 := ys3) (n3 := n3) (dr := dr) (.tail _ (List.mem_append_right _ (.tail _ (.tail _ (.tail _ (.tail _ (.tail _ (.tail _ (.tail _ (m3)))))))))) d3 (.tail _ (List.mem_append_right _ (.tail _ (.tail _ (.tail _ (.tail _ (.tail _ (.tail _ (.tail _ (mm3)))))))))) j3 (.tail _ (List.mem_append_right _ (.tail _ (.tail _ (.tail _ (.head _)))))) e5 (.tail _ (List.mem_append_right _ (.tail _ (.tail _ (.tail _ (.tail _ (.tail _ (.head _)))))))) j8 (.tail _ (List.mem_append_right _ (.tail _ (.tail _ (.head _))))) e6 (by omega) ((k7 _ (by decide) (by decide) (by decide) (by decide) (by decide)).trans k6z) (by omega) kf kla hab hb6 hflt) (fun h8 tk8 hs8 => ?_)
  obtain ⟨F8, N8⟩ := hs8
  clear F7 N7
  have kk : ∀ {y : Str} {r : Option Value}, y ≠ Str.ofString "last" → y ≠ Str.ofString "first" → y ≠ Str.ofString "low" → y ≠ Str.ofString "high" → y ≠ Str.ofString "bare" → y ≠ Str.ofString "lack" → y ≠ Str.ofString "due" → y ≠ Str.ofString "mail" → m y = r → m7 y = r :=
    fun a1 a2 a3 a4 a5 a6 a7 a8 e => (k7 _ a1 a2 a3 a4 a5).trans ((k5 _ a6).trans (kS a7 a8 e))
  refine wpAny_execs_nil ⟨rfl, h8, tk8, ps7, own7 ++ [(D7, lob ys7 n7), (D8, lob ys8 n8), (D6, lob ys6 n6)], p4, p5, p6, p7, m7, rfl, F8, ?_, ?_, ⟨_, e4⟩, ⟨_, e5⟩, ⟨_, e6⟩, ⟨_, e7⟩, ?_, ?_⟩
  · refine news_sub N8 (fun q hq => ?_)
    rw [List.append_assoc] at hq
    rcases List.mem_cons.mp hq with rfl | hq
    · exact .head _
    rcases List.mem_cons.mp hq with rfl | hq
    · exact .tail _ (List.mem_append_right _ (.tail _ (.tail _ (.tail _ (.tail _ (.head _))))))
    rcases List.mem_cons.mp hq with rfl | hq
    · exact .tail _ (List.mem_append_right _ (.tail _ (.tail _ (.tail _ (.head _)))))
    rcases List.mem_cons.mp hq with rfl | hq
    · exact .tail _ (List.mem_append_right _ (.tail _ (.tail _ (.head _))))
    rcases List.mem_cons.mp hq with rfl | hq
    · exact .tail _ (List.mem_append_right _ (.head _))
    rcases List.mem_append.mp hq with hq | hq
    · exact .tail _ (List.mem_append_left _ hq)
    rcases List.mem_cons.mp hq with rfl | hq
    · exact .tail _ (List.mem_append_right _ (.tail _ (.head _)))
    rcases List.mem_cons.mp hq with rfl | hq
    · exact .tail _ (List.mem_append_right _ (.tail _ (.tail _ (.tail _ (.tail _ (.tail _ (.head _)))))))
    rcases List.mem_cons.mp hq with rfl | hq
    · exact .tail _ (List.mem_append_right _ (.tail _ (.tail _ (.tail _ (.tail _ (.tail _ (.tail _ (.head _))))))))
    exact .tail _ (List.mem_append_right _ (.tail _ (.tail _ (.tail _ (.tail _ (.tail _ (.tail _ (.tail _ (hq)))))))))
  · intro q hq
    rcases List.mem_append.mp hq with hq | hq
    · refine ⟨⟨Ne.symm (ne7 (158, tabObj ps) (.head _) q hq), Ne.symm (ne7 (L + 4, p4) (.tail _ (.tail _ (.tail _ (.tail _ (.tail _ (.head _)))))) q hq), Ne.symm (ne7 (L + 5, p5) (.tail _ (.tail _ (.tail _ (.tail _ (.head _))))) q hq), Ne.symm (ne7 (L + 6, p6) (.tail _ (.tail _ (.tail _ (.head _)))) q hq), Ne.symm (ne7 (L + 7, p7) (.tail _ (.head _)) q hq)⟩, fun u hu => ne7 u (.tail _ (.tail _ (.tail _ (.tail _ (.tail _ (.tail _ (.tail _ (.tail _ (hu))))))))) q hq⟩
    · rcases List.mem_cons.mp hq with rfl | hq
      · exact ⟨o7b, fun u hu => ne6 u (.tail _ (.tail _ (.tail _ (.tail _ (.tail _ (.tail _ (.tail _ (hu))))))))⟩
      rcases List.mem_cons.mp hq with rfl | hq
      · exact ⟨o8, fun u hu => (ne3 u (.tail _ (.tail _ (.tail _ (.tail _ (.tail _ (hu))))))).1⟩
      cases List.mem_singleton.mp hq
      exact ⟨q6, fun u hu => (ne3 u (.tail _ (.tail _ (.tail _ (.tail _ (.tail _ (hu))))))).2⟩
  · refine LT7.pick (fun q hq => ?_)
    rw [List.append_assoc]
    rcases List.mem_append.mp hq with hq | hq
    · exact .inl (List.mem_append_left _ hq)
    rcases List.mem_cons.mp hq with rfl | hq
    · exact .inr (cell_no e7)
    rcases List.mem_cons.mp hq with rfl | hq
    · exact .inl (List.mem_append_right _ (.head _))
    rcases List.mem_cons.mp hq with rfl | hq
    · exact .inr (cell_no e6)
    rcases List.mem_cons.mp hq with rfl | hq
    · exact .inr (cell_no e5)
    rcases List.mem_cons.mp hq with rfl | hq
    · exact .inr (cell_no e4)
    exact .inl (List.mem_append_right _ (.tail _ hq))
  · exact ⟨⟨tz, kk (by decide) (by decide) (by decide) (by decide) (by decide) (by decide) (by decide) (by decide) ksz⟩, kk (by decide) (by decide) (by decide) (by decide) (by decide) (by decide) (by decide) (by decide) kh, kk (by decide) (by decide) (by decide) (by decide) (by decide) (by decide) (by decide) (by decide) kp, kk (by decide) (by decide) (by decide) (by decide) (by decide) (by decide) (by decide) (by decide) ks,
      ⟨tn, kk (by decide) (by decide) (by decide) (by decide) (by decide) (by decide) (by decide) (by decide) kn⟩, ⟨tl, kk (by decide) (by decide) (by decide) (by decide) (by decide) (by decide) (by decide) (by decide) kl⟩⟩
end
end
/-! MVi -/
section
open PySem PySem.W PySem.Spec PySem.Calls PyProof.Rows
section
variable {w : World} {N : Names} {A : Around} {g : Heap} {L l : Addr} {vs : List Value} {ns : List Int} {s : Shared} {m : Str → Option Value} {own : List (Addr × Obj)}
noncomputable def forIter (s : Stmt) : PySem.Expr := match s with
  | .For _ i _ _ _ => i
  | _ => .Name Str.empty default
noncomputable def forPx (s : Stmt) : Pos := match s with
  | .For (.Name _ p) _ _ _ _ => p
  | _ => default
noncomputable def forPos (s : Stmt) : Pos := match s with
  | .For _ _ _ _ p => p
  | _ => default
theorem lawS14 : lawS 14 = .For (.Name (Str.ofString "lost") (forPx (lawS 14))) (forIter (lawS 14)) [lawB 0, lawB 1, lawB 2, lawB 3, lawB 4, lawB 5, lawB 6, lawB 7] [] (forPos (lawS 14)) := by kernel_rfl
set_option maxHeartbeats 4000000 in
theorem law14It (W : LawF w N A g L l vs ns) (F : Fr g L s.heap m) (NW : News g L s.heap (own)) {z : Nat} {tz : Tok} (hz : m (Str.ofString "size") = some (.int (z : Int) tz)) (z2 : z ≤ 6) :
    wpAny (model pw w) (A.deeper (envX (Str.ofString "law") (fSc (stm 19)) L 161 (.ref 160) (lawC L))) (eval (forIter (lawS 14)) (envX (Str.ofString "law") (fSc (stm 19)) L 161 (.ref 160) (lawC L)))
      (fun xv s' => Stop (∃ r t u v h' tk, xv = .ref r ∧ s' = { s with heap := h', toks := tk } ∧ IsRange h' r 0 z 1 t u v ∧ Fr g L h' m ∧ News g L h' own)) (fun _ _ => False) s := by
  have _kf : (fun (_ : OpenLaw) (_ : Params → Frag) => True) PySem.Challenge.rw_rw0108_01 K := by (k_fill; trivial)
  clear _kf
  have es := (rfl : fSc (stm 19) = fSc (stm 19))
  conv at es => rhs; whnf
  have eb := (rfl : forIter (lawS 14) = forIter (lawS 14))
  conv at eb => rhs; whnf
  rw [es, eb]
  clear es eb
  have KX := W.O.K
  have T := W.O.T
  have hl := W.hl
  have hn := W.hn
  have hlen := W.hlen
  have hd := W.hd
  have hu := W.hu
  have hA := W.hA
  obtain ⟨h0, gn0, dr0, tk0, os0⟩ := s
  have F1 := (frKnow F (k := Str.ofString "size") hz)
  clear F
  k_steps
  rename IsRange _ _ _ _ _ _ _ _ => hr
  rename Fr _ _ _ _ => F9
  rename News _ _ _ _ => N9
  exact Stop.intro ⟨_, _, _, _, _, _, rfl, rfl, hr, (frUn F9 hz), news_sub N9 (fun p hp => by first | exact hp | exact .tail _ hp)⟩
/-- the loop's own places -/
noncomputable def OwnX (L : Addr) (b : Addr) : Prop := b = 158 ∨ b = L + 4 ∨ b = L + 5 ∨ b = L + 6 ∨ b = L + 7
theorem Off.not {L : Addr} {q : Addr × Obj} (h : Off L q) : ¬ OwnX L q.1 := fun x => by
  obtain ⟨a, b, c, d, e⟩ := h
  rcases x with x | x | x | x | x
  · exact a x
  · exact b x
  · exact c x
  · exact d x
  · exact e x
theorem Off.of {L : Addr} {q : Addr × Obj} (h : ¬ OwnX L q.1) : Off L q :=
  ⟨fun x => h (.inl x), fun x => h (.inr (.inl x)), fun x => h (.inr (.inr (.inl x))), fun x => h (.inr (.inr (.inr (.inl x)))), fun x => h (.inr (.inr (.inr (.inr x))))⟩
noncomputable def loopJ (g : Heap) (L I : Addr) (z : Nat) (nm ld : Int) (Dh Dp Ds : Addr) (_ : Nat) (m : Str → Option Value) (h : Heap) : Prop :=
  LoopM m z nm ld Dh Dp Ds ∧ ∃ (ps : Array Value) (co : List (Addr × Obj)) (o4 o5 o6 o7 : Obj), News g L h (cells5 ps L o4 o5 o6 o7 co) ∧ (∀ q ∈ co, Off L q ∧ q.1 ≠ I) ∧ isCell o4 ∧ isCell o5 ∧ isCell o6 ∧ isCell o7 ∧ LamTab ps co lamQ
theorem LoopM.at {m m' : Str → Option Value} {z : Nat} {nm ld : Int} {Dh Dp Ds : Addr} (K : LoopM m z nm ld Dh Dp Ds) (e : ∀ y, y ≠ Str.ofString "lost" → m' y = m y) : LoopM m' z nm ld Dh Dp Ds :=
  ⟨let ⟨t, h⟩ := K.size; ⟨t, (e _ (by decide)).trans h⟩, (e _ (by decide)).trans K.hands, (e _ (by decide)).trans K.pages, (e _ (by decide)).trans K.shelf, let ⟨t, h⟩ := K.names; ⟨t, (e _ (by decide)).trans h⟩, let ⟨t, h⟩ := K.laid; ⟨t, (e _ (by decide)).trans h⟩⟩
theorem law14 {ps : Array Value} {o4 o5 o6 o7 : Obj} {z : Nat} {hz dr : List Int} {nm ld : Int} {Dh Dp Ds : Addr} (W : LawF w N A g L l vs ns) (C0 : CodeHd g 160 158) (F : Fr g L s.heap m)
    (NW : News g L s.heap (cells5 ps L o4 o5 o6 o7 own)) (hX : ∀ q ∈ own, Off L q) (h4 : isCell o4) (h5 : isCell o5) (h6 : isCell o6) (h7 : isCell o7) (LT : LamTab ps own lamQ)
    (KL : LoopK L own z hz dr nm ld Dh Dp Ds) (KM : LoopM m z nm ld Dh Dp Ds) :
    wpAny (model pw w) (A.deeper (envX (Str.ofString "law") (fSc (stm 19)) L 161 (.ref 160) (lawC L))) (exec (lawS 14) (envX (Str.ofString "law") (fSc (stm 19)) L 161 (.ref 160) (lawC L)))
      (fun f s' => Stop (f = .next ∧ ∃ h' tk, s' = { s with heap := h', toks := tk } ∧ ∃ m' ps', Fr g L h' m' ∧ News g L h' [(158, tabObj ps')])) (fun _ _ => False) s := by
  have z5 := KL.z5
  obtain ⟨tz, ksz⟩ := KM.size
  rw [lawS14]
  refine wpAny_For (wpAny_mono (law14It W F NW ksz (by omega)) (fun xv s1 hq => ?_) fun _ _ e => e) (by intro _; rfl)
  obtain ⟨r, t, u, v, h1, tk1, rfl, rfl, hr, F1, N1⟩ := Stop.out hq
  clear hq F NW
  have lI : ∀ q ∈ cells5 ps L o4 o5 o6 o7 own, q.1 < h1.objs.size := fun q hq => Heap.lt_size (N1 q hq).1
  have xI : ∀ b, OwnX L b → b < h1.objs.size := fun b hb => by
    rcases hb with rfl | rfl | rfl | rfl | rfl
    · exact lI _ (.head _)
    · exact lI _ (.tail _ (.head _))
    · exact lI _ (.tail _ (.tail _ (.head _)))
    · exact lI _ (.tail _ (.tail _ (.tail _ (.head _))))
    · exact lI _ (.tail _ (.tail _ (.tail _ (.tail _ (.head _)))))
  refine iterRange2 (h₀ := g) (m := m) (OwnX L) (loopJ g L h1.objs.size z nm ld Dh Dp Ds) z W.hA hr (small_one (by decide) (by decide) (by omega) (by omega)) rfl F1 ?h0 xI ?stab ?turn ?done rfl rfl
  case h0 =>
    exact ⟨KM, ps, own, o4, o5, o6, o7, N1, fun q hq => ⟨hX q hq, Nat.ne_of_lt (lI q (.tail _ (.tail _ (.tail _ (.tail _ (.tail _ hq))))))⟩, h4, h5, h6, h7, LT⟩
  case stab =>
    rintro i m₁ h h' ⟨K, ps1, co, p4, p5, p6, p7, NN, hco, r4, r5, r6, r7, LL⟩ hk
    refine ⟨K, ps1, co, p4, p5, p6, p7, fun q hq => ?_, hco, r4, r5, r6, r7, LL⟩
    have hn := NN q hq
    refine ⟨hk _ _ hn.2.1 ?_ hn.1, hn.2⟩
    rcases List.mem_cons.mp hq with rfl | hq
    · exact Nat.ne_of_lt (xI _ (.inl rfl))
    rcases List.mem_cons.mp hq with rfl | hq
    · exact Nat.ne_of_lt (xI _ (.inr (.inl rfl)))
    rcases List.mem_cons.mp hq with rfl | hq
    · exact Nat.ne_of_lt (xI _ (.inr (.inr (.inl rfl))))
    rcases List.mem_cons.mp hq with rfl | hq
    · exact Nat.ne_of_lt (xI _ (.inr (.inr (.inr (.inl rfl)))))
    rcases List.mem_cons.mp hq with rfl | hq
    · exact Nat.ne_of_lt (xI _ (.inr (.inr (.inr (.inr rfl)))))
    exact (hco q hq).2
  case done =>
    rintro h tk m' F3 ⟨K, ps1, co, p4, p5, p6, p7, NN, hco, r4, r5, r6, r7, LL⟩ hK
    exact Stop.intro ⟨rfl, h, tk, rfl, m', ps1, F3, news_sub NN (fun q hq => by cases List.mem_singleton.mp hq; exact .head _)⟩
  case turn =>
    rintro i t2 m₁ h tk own' hi ⟨K, ps1, co, p4, p5, p6, p7, NN, hco, r4, r5, r6, r7, LL⟩ F3 hK N3 off hall ⟨oI, k1, k2, k3, mI, dI⟩
    have N4 : News g L h (cells5 ps1 L p4 p5 p6 p7 own') := fun q hq => by
      rcases List.mem_cons.mp hq with rfl | hq
      · exact NN _ (.head _)
      rcases List.mem_cons.mp hq with rfl | hq
      · exact NN _ (.tail _ (.head _))
      rcases List.mem_cons.mp hq with rfl | hq
      · exact NN _ (.tail _ (.tail _ (.head _)))
      rcases List.mem_cons.mp hq with rfl | hq
      · exact NN _ (.tail _ (.tail _ (.tail _ (.head _))))
      rcases List.mem_cons.mp hq with rfl | hq
      · exact NN _ (.tail _ (.tail _ (.tail _ (.tail _ (.head _)))))
      exact N3 q hq
    have LL' : LamTab ps1 own' lamQ := LL.sub fun q hq => by
      have hn := NN q (.tail _ (.tail _ (.tail _ (.tail _ (.tail _ hq)))))
      exact hall q.1 q.2 hn.2.1 (hco q hq).1.not hn.2.2 hn.1
    have KL' : LoopK L own' z hz dr nm ld Dh Dp Ds := KL.sub fun q hq => by
      have hn := N1 q (.tail _ (.tail _ (.tail _ (.tail _ (.tail _ hq)))))
      exact hall q.1 q.2 hn.2.1 (hX q hq).not hn.2.2 (hK _ _ hn.2.1 (hX q hq).not hn.1)
    refine wpAny_mono (turn8 (p := i) (tp := t2) W C0 F3 N4 (fun q hq => Off.of (off q hq)) r4 r5 r6 r7 LL' KL' (K.at fun y hy => if_neg hy) rfl (by have := KL.ez; omega)) (fun f s' hs => ?_) fun _ _ e => e
    obtain ⟨rfl, h', tk', ps2, new, q4, q5, q6, q7, m', rfl, F5, N5, hnew, e4, e5, e6, e7, L5, K5⟩ := hs
    refine ⟨rfl, h', tk', m', rfl, F5, news_sub N5 (fun q hq => .tail _ (.tail _ (.tail _ (.tail _ (.tail _ (List.mem_append_right _ hq)))))), K5, ps2, (new ++ own').filter (fun q => decide (q.1 ≠ h1.objs.size)), q4, q5, q6, q7, fun q hq => ?_, fun q hq => ?_, e4, e5, e6, e7, L5.pick fun q hq => ?_⟩
    · rcases List.mem_cons.mp hq with rfl | hq
      · exact N5 _ (.head _)
      rcases List.mem_cons.mp hq with rfl | hq
      · exact N5 _ (.tail _ (.head _))
      rcases List.mem_cons.mp hq with rfl | hq
      · exact N5 _ (.tail _ (.tail _ (.head _)))
      rcases List.mem_cons.mp hq with rfl | hq
      · exact N5 _ (.tail _ (.tail _ (.tail _ (.head _))))
      rcases List.mem_cons.mp hq with rfl | hq
      · exact N5 _ (.tail _ (.tail _ (.tail _ (.tail _ (.head _)))))
      exact N5 q (.tail _ (.tail _ (.tail _ (.tail _ (.tail _ (List.mem_filter.mp hq).1)))))
    · obtain ⟨hm, hd⟩ := List.mem_filter.mp hq
      refine ⟨?_, of_decide_eq_true hd⟩
      rcases List.mem_append.mp hm with z | z
      · exact (hnew q z).1
      · exact Off.of (off q z)
    · by_cases hd : q.1 = h1.objs.size
      · right
        intro vs2 t3 ev es
        rcases List.mem_append.mp hq with z | z
        · exact absurd hd.symm ((hnew q z).2 _ mI)
        · have a := (N3 q z).1
          rw [hd, (N3 _ mI).1] at a
          rw [← Option.some.inj a, dI] at ev
          cases ev
          cases es
      · exact .inl (List.mem_filter.mpr ⟨hq, decide_eq_true hd⟩)
end
end
/-! MVj -/
section
open PySem PySem.W PySem.Spec PySem.Calls PyProof.Rows
section
variable {w : World} {N : Names} {A : Around} {g : Heap} {L l : Addr} {vs : List Value} {ns : List Int} {s : Shared} {m : Str → Option Value} {own : List (Addr × Obj)}
set_option maxHeartbeats 4000000 in
theorem law15 (W : LawF w N A g L l vs ns) (F : Fr g L s.heap m) (NW : News g L s.heap (own)) :
    wpAny (model pw w) (A.deeper (envX (Str.ofString "law") (fSc (stm 19)) L 161 (.ref 160) (lawC L))) (exec (lawS 15) (envX (Str.ofString "law") (fSc (stm 19)) L 161 (.ref 160) (lawC L)))
      (fun f s' => Stop (f = .ret (.bool true) ∧ ∃ h' tk, s' = { s with heap := h', toks := tk } ∧ News g L h' own ∧ Fr g L h' m)) (fun _ _ => False) s := by
  have _kf : (fun (_ : OpenLaw) (_ : Params → Frag) => True) PySem.Challenge.rw_rw0108_01 K := by (k_fill; trivial)
  clear _kf
  have es := (rfl : fSc (stm 19) = fSc (stm 19))
  conv at es => rhs; whnf
  have eb := (rfl : lawS 15 = lawS 15)
  conv at eb => rhs; whnf
  rw [es, eb]
  clear es eb
  have KX := W.O.K
  have T := W.O.T
  have hl := W.hl
  have hn := W.hn
  have hlen := W.hlen
  have hd := W.hd
  have hu := W.hu
  have hA := W.hA
  obtain ⟨h0, gn0, dr0, tk0, os0⟩ := s
  k_steps
  exact Stop.intro ⟨rfl, _, _, rfl, NW, F⟩
/-- the ledger of the law: the table, the cells, all else -/
noncomputable abbrev led (ps : Array Value) (L : Addr) (o1 o2 o3 o4 o5 o6 o7 : Obj) (obs : List (Addr × Obj)) : List (Addr × Obj) :=
  (158, tabObj ps) :: (L + 7, o7) :: (L + 6, o6) :: (L + 5, o5) :: (L + 4, o4) :: (L + 3, o3) :: (L + 2, o2) :: (L + 1, o1) :: obs
noncomputable def Off8 (L : Addr) (q : Addr × Obj) : Prop := q.1 ≠ 158 ∧ q.1 ≠ (L + 7 : Addr) ∧ q.1 ≠ (L + 6 : Addr) ∧ q.1 ≠ (L + 5 : Addr) ∧ q.1 ≠ (L + 4 : Addr) ∧ q.1 ≠ (L + 3 : Addr) ∧ q.1 ≠ (L + 2 : Addr) ∧ q.1 ≠ (L + 1 : Addr)
section
variable {ps : Array Value} {L : Addr} {o1 o2 o3 o4 o5 o6 o7 : Obj} {obs : List (Addr × Obj)}
theorem in_obs {q : Addr × Obj} (h : q ∈ obs) : q ∈ led ps L o1 o2 o3 o4 o5 o6 o7 obs := .tail _ (.tail _ (.tail _ (.tail _ (.tail _ (.tail _ (.tail _ (.tail _ h)))))))
theorem off8_of {D : Addr} {o : Obj} (h : ∀ p ∈ led ps L o1 o2 o3 o4 o5 o6 o7 obs, p.1 ≠ D) : Off8 L (D, o) :=
  ⟨Ne.symm (h _ (.head _)), Ne.symm (h _ (.tail _ (.head _))), Ne.symm (h _ (.tail _ (.tail _ (.head _)))), Ne.symm (h _ (.tail _ (.tail _ (.tail _ (.head _))))), Ne.symm (h _ (.tail _ (.tail _ (.tail _ (.tail _ (.head _)))))), Ne.symm (h _ (.tail _ (.tail _ (.tail _ (.tail _ (.tail _ (.head _))))))), Ne.symm (h _ (.tail _ (.tail _ (.tail _ (.tail _ (.tail _ (.tail _ (.head _)))))))), Ne.symm (h _ (.tail _ (.tail _ (.tail _ (.tail _ (.tail _ (.tail _ (.tail _ (.head _)))))))))⟩
/-- a new object ahead goes behind the cells -/
theorem led_new {h₀ h : Heap} {q : Addr × Obj} (N : News h₀ L h (q :: led ps L o1 o2 o3 o4 o5 o6 o7 obs)) : News h₀ L h (led ps L o1 o2 o3 o4 o5 o6 o7 (q :: obs)) := news_swap (X := [_]) (Y := [_, _, _, _, _, _, _, _]) N
end
/-- the map with a name more -/
theorem upd1 {g h : Heap} {L : Addr} {m : Str → Option Value} {k : Str} {v : Value} (F : Fr g L h (fun y => if y = k then some v else m y)) : ∃ m', Fr g L h m' ∧ m' k = some v ∧ ∀ y, y ≠ k → m' y = m y := ⟨_, F, if_pos rfl, fun y a => if_neg a⟩
theorem upd2 {g h : Heap} {L : Addr} {m : Str → Option Value} {k k2 : Str} {v v2 : Value} (F : Fr g L h (fun y => if y = k then some v else if y = k2 then some v2 else m y)) (hk : k2 ≠ k) : ∃ m', Fr g L h m' ∧ m' k = some v ∧ m' k2 = some v2 ∧ ∀ y, y ≠ k → y ≠ k2 → m' y = m y :=
  ⟨_, F, if_pos rfl, (if_neg hk).trans (if_pos rfl), fun y a b => (if_neg a).trans (if_neg b)⟩
set_option maxHeartbeats 4000000 in
theorem law_run {o1 o2 o3 o4 o5 o6 o7 : Obj} (W : LawF w N A g L l vs ns) (C0 : CodeHd g 160 158) (F : Fr g L s.heap m) (NW : News g L s.heap (led #[] L o1 o2 o3 o4 o5 o6 o7 [])) (d1 : o1.data = .cell (some (.ref l))) (d2 : o2.data = .cell none) (d3 : o3.data = .cell none) (d4 : o4.data = .cell none) (d5 : o5.data = .cell none) (d6 : o6.data = .cell none) (d7 : o7.data = .cell none) :
    wpAny (model pw w) (A.deeper (envX (Str.ofString "law") (fSc (stm 19)) L 161 (.ref 160) (lawC L))) (execs (fBody (stm 19)) (envX (Str.ofString "law") (fSc (stm 19)) L 161 (.ref 160) (lawC L)))
      (fun f s' => f = .ret (.bool true) ∧ ∃ h' tk m' ps', s' = { s with heap := h', toks := tk } ∧ Fr g L h' m' ∧ News g L h' [(158, tabObj ps')]) (fun _ _ => False) s := by
  have l158 : 158 < L := by
    obtain ⟨o, _, _, _, _, _, _, _, _, e, _⟩ := C0
    exact Nat.lt_of_lt_of_le (Nat.lt_trans (by decide) (Heap.lt_size e)) F.above
  rw [law_body]
  show wpAny _ _ _ _ _ (upS s s.heap s.toks)
  refine seqS _ (law0 W F NW (o1 := o1) (.tail _ (.tail _ (.tail _ (.tail _ (.tail _ (.tail _ (.tail _ (.head _)))))))) d1) (fun h0 tk0 hs => ?_)
  obtain ⟨tz, F0, N0⟩ := hs
  obtain ⟨m0, F0, ksz, k0⟩ := upd1 F0
  clear F NW
  -- own
  have N0b : News g L h0 ((L + 2, o2) :: (158, tabObj #[]) :: (L + 7, o7) :: (L + 6, o6) :: (L + 5, o5) :: (L + 4, o4) :: (L + 3, o3) :: (L + 1, o1) :: []) := news_swap (X := [_, _, _, _, _, _]) (Y := [_]) (N0)
  refine seqS _ (law1 W F0 N0b (fun q hq => ?_) d2) (fun h1 tk1 hs => ?_)
  · rcases List.mem_cons.mp hq with rfl | hq
    · exact ne_158 l158
    rcases List.mem_cons.mp hq with rfl | hq
    · exact ne_add (by decide)
    rcases List.mem_cons.mp hq with rfl | hq
    · exact ne_add (by decide)
    rcases List.mem_cons.mp hq with rfl | hq
    · exact ne_add (by decide)
    rcases List.mem_cons.mp hq with rfl | hq
    · exact ne_add (by decide)
    rcases List.mem_cons.mp hq with rfl | hq
    · exact ne_add (by decide)
    rcases List.mem_cons.mp hq with rfl | hq
    · exact ne_add (by decide)
    cases hq
  obtain ⟨D1, vs6, ns6, p2, n6, F1, N1, ne1, e2, i6, l6⟩ := hs
  clear F0 N0 N0b
  have b1 : Off8 L (D1, lob vs6 n6) := ⟨Ne.symm (ne1 (158, tabObj #[]) (.tail _ (.head _))), Ne.symm (ne1 (L + 7, o7) (.tail _ (.tail _ (.head _)))), Ne.symm (ne1 (L + 6, o6) (.tail _ (.tail _ (.tail _ (.head _))))), Ne.symm (ne1 (L + 5, o5) (.tail _ (.tail _ (.tail _ (.tail _ (.head _)))))), Ne.symm (ne1 (L + 4, o4) (.tail _ (.tail _ (.tail _ (.tail _ (.tail _ (.head _))))))), Ne.symm (ne1 (L + 3, o3) (.tail _ (.tail _ (.tail _ (.tail _ (.tail _ (.tail _ (.head _)))))))), Ne.symm (ne1 (L + 2, o2) (.head _)), Ne.symm (ne1 (L + 1, o1) (.tail _ (.tail _ (.tail _ (.tail _ (.tail _ (.tail _ (.tail _ (.head _)))))))))⟩
  have N1b : News g L h1 (led #[] L o1 p2 o3 o4 o5 o6 o7 [(D1, lob vs6 n6)]) := news_swap (X := [_]) (Y := [_, _, _, _, _, _]) (news_swap (X := [_]) (Y := [_, _, _, _, _, _, _, _]) (news_swap (X := [_]) (Y := [_]) (N1)))
  -- hands
  refine seqS _ (law2 W F1 N1b (o1 := o1) (o2 := p2) (D := D1) (vs6 := vs6) (ns6 := ns6) (n6 := n6) (size := 5 + (ns.length : Int).fmod 2) (tz := tz) (.tail _ (.tail _ (.tail _ (.tail _ (.tail _ (.tail _ (.tail _ (.head _)))))))) d1 (.tail _ (.tail _ (.tail _ (.tail _ (.tail _ (.tail _ (.head _))))))) e2 (in_obs (.head _)) i6 l6 ksz (by rw [Int.fmod_eq_emod_of_nonneg _ (by decide)]; omega) (by rw [Int.fmod_eq_emod_of_nonneg _ (by decide)]; omega)) (fun h2 tk2 hs => ?_)
  obtain ⟨Dh, hs, hz, nh, F2, N2, ne2, ih, lz⟩ := hs
  obtain ⟨m2, F2, kh, k2⟩ := upd1 F2
  clear F1 N1 N1b
  have N2 := led_new N2
  have b2 : Off8 L (Dh, lob hs nh) := off8_of ne2
  have z5 : hz.length = 5 ∨ hz.length = 6 := by
    rw [Int.fmod_eq_emod_of_nonneg _ (by decide)] at lz
    omega
  rw [← lz] at ksz
  have ksz := (k2 _ (by decide)).trans ksz
  -- pages
  refine seqS _ (law3 W F2 N2 (D := Dh) (hs := hs) (hz := hz) (nh := nh) (in_obs (.head _)) ih (by omega) kh) (fun h3 tk3 hs => ?_)
  obtain ⟨Dp, ys, np, nws, F3, N3, ne3, hP⟩ := hs
  obtain ⟨m3, F3, kp, k3⟩ := upd1 F3
  clear F2 N2
  have N3 : News g L h3 (led #[] L o1 p2 o3 o4 o5 o6 o7 ((Dp, lob ys np) :: (nws ++ [(Dh, lob hs nh), (D1, lob vs6 n6)]))) := news_swap (X := (Dp, lob ys np) :: nws) (Y := [_, _, _, _, _, _, _, _]) N3
  have b3 : ∀ q ∈ (Dp, lob ys np) :: nws, Off8 L q := fun q hq => off8_of (o := q.2) (ne3 q hq)
  have ksz := (k3 _ (by decide)).trans ksz
  have kh := (k3 _ (by decide)).trans kh
  generalize hobs : (Dp, lob ys np) :: (nws ++ [(Dh, lob hs nh), (D1, lob vs6 n6)]) = obs at N3
  have bO : ∀ q ∈ obs, Off8 L q := fun q hq => by
    subst hobs
    rcases List.mem_cons.mp hq with h | hq
    · exact b3 q (h ▸ .head _)
    rcases List.mem_append.mp hq with hq | hq
    · exact b3 q (.tail _ hq)
    rcases List.mem_cons.mp hq with h | hq
    · exact h ▸ b2
    · exact (List.mem_singleton.mp hq) ▸ b1
  have mh : (Dh, lob hs nh) ∈ obs := hobs ▸ .tail _ (List.mem_append_right _ (.head _))
  have mp : (Dp, lob ys np) ∈ obs := hobs ▸ .head _
  have hsub : ∀ q ∈ nws, q ∈ obs := fun q hq => hobs ▸ .tail _ (List.mem_append_left _ hq)
  clear hobs b1 b2 b3 ne1 ne2 ne3
  -- turn, signs, shelf
  refine seqS _ (law4 W F3 N3 (o1 := o1) (.tail _ (.tail _ (.tail _ (.tail _ (.tail _ (.tail _ (.tail _ (.head _)))))))) d1) (fun h4 tk4 hs => ?_)
  obtain ⟨tt, F4, N4⟩ := hs
  obtain ⟨m4, F4, kt, k4⟩ := upd1 F4
  clear F3 N3
  obtain ⟨k, ek, hk8⟩ : ∃ k : Nat, ns.sum.fmod 8 = (k : Int) ∧ k < 8 := ⟨(ns.sum.fmod 8).toNat, by rw [Int.fmod_eq_emod_of_nonneg _ (by decide)]; omega, by rw [Int.fmod_eq_emod_of_nonneg _ (by decide)]; omega⟩
  rw [ek] at kt
  refine seqS _ (law5 W F4 N4) (fun h5 tk5 hs => ?_)
  obtain ⟨tg, F5, N5⟩ := hs
  obtain ⟨m5, F5, kg, k5⟩ := upd1 F5
  clear F4 N4
  refine seqS _ (law6 W F5 N5) (fun h6 tk6 hs => ?_)
  obtain ⟨Ds, F6, N6, ne6⟩ := hs
  obtain ⟨m6, F6, ks, k6⟩ := upd1 F6
  clear F5 N5
  refine seqS _ (law7 W F6 N6 (k := k) (tt := tt) (ts := tg) ne6 hk8 ((k6 _ (by decide)).trans kg) ((k6 _ (by decide)).trans ((k5 _ (by decide)).trans kt)) ks) (fun h7 tk7 hs => ?_)
  obtain ⟨m7, vd, nd, k7, F7, N7, ish⟩ := hs
  clear F6 N6
  have N7 := led_new N7
  have b7 : Off8 L (Ds, lob vd nd) := off8_of ne6
  have c7 : ∀ {y : Str} {r : Option Value}, y ≠ Str.ofString "sign" → y ≠ Str.ofString "shelf" → y ≠ Str.ofString "signs" → y ≠ Str.ofString "turn" → m3 y = r → m7 y = r := fun a b c d e => (k7 _ a).trans ((k6 _ b).trans ((k5 _ c).trans ((k4 _ d).trans e)))
  have ksz := c7 (by decide) (by decide) (by decide) (by decide) ksz
  have kh := c7 (by decide) (by decide) (by decide) (by decide) kh
  have kp := c7 (by decide) (by decide) (by decide) (by decide) kp
  have ks := (k7 _ (by decide)).trans ks
  have kt := (k7 _ (by decide)).trans ((k6 _ (by decide)).trans ((k5 _ (by decide)).trans kt))
  clear c7 kg
  -- all hands
  refine seqS _ (law8 W F7 N7 (in_obs (.tail _ mh)) ih (by omega) (in_obs (.tail _ mp)) hP (fun q hq => in_obs (.tail _ (hsub q hq))) kh kp) (fun h8 tk8 hs => ?_)
  obtain ⟨t8, u8, F8, N8⟩ := hs
  obtain ⟨m8, F8, kdue, kfull, k8⟩ := upd2 F8 (by decide)
  clear F7 N7
  refine seqS _ (law9 W F8 N8 (k := k) (tt := tt) hk8 ((k8 _ (by decide) (by decide)).trans kt)) (fun h9 tk9 hs => ?_)
  obtain ⟨Dt, vt, F9, N9, ne9, it⟩ := hs
  obtain ⟨m9, F9, ktw, k9⟩ := upd1 F9
  clear F8 N8
  have N9 := led_new N9
  have b9 : Off8 L (Dt, lob vt 0) := off8_of ne9
  have kfull := (k9 _ (by decide)).trans kfull
  have ks := (k9 _ (by decide)).trans ((k8 _ (by decide) (by decide)).trans ks)
  have ksz := (k9 _ (by decide)).trans ((k8 _ (by decide) (by decide)).trans ksz)
  have kh := (k9 _ (by decide)).trans ((k8 _ (by decide) (by decide)).trans kh)
  have kp := (k9 _ (by decide)).trans ((k8 _ (by decide) (by decide)).trans kp)
  refine seqS _ (law10 W F9 N9 (k := k) kfull ((k9 _ (by decide)).trans kdue) (in_obs (.tail _ (.head _))) (in_obs (.head _)) ks ktw ish it) (fun h10 tk10 hs => ?_)
  obtain ⟨F10, N10⟩ := hs
  clear F9 N9
  generalize hobs : (Dt, lob vt 0) :: (Ds, lob vd nd) :: obs = obs2 at N10
  have bO2 : ∀ q ∈ obs2, Off8 L q := fun q hq => by
    subst hobs
    rcases List.mem_cons.mp hq with h | hq
    · exact h ▸ b9
    rcases List.mem_cons.mp hq with h | hq
    · exact h ▸ b7
    exact bO q hq
  have up : ∀ q ∈ obs, q ∈ obs2 := fun q hq => hobs ▸ .tail _ (.tail _ hq)
  have msh : (Ds, lob vd nd) ∈ obs2 := hobs ▸ .tail _ (.head _)
  clear hobs b7 b9 ne6 ne9
  -- what is heard
  have N10b : News g L h10 ((L + 3, o3) :: (L + 4, o4) :: (158, tabObj #[]) :: (L + 7, o7) :: (L + 6, o6) :: (L + 5, o5) :: (L + 2, p2) :: (L + 1, o1) :: obs2) := news_swap (X := [_, _, _, _, _]) (Y := [_]) (news_swap (X := [_, _, _, _]) (Y := [_]) (N10))
  refine seqS _ (law11 W F10 N10b (ne_add (by decide)) (fun q hq => ?_) (fun q hq => ?_) d3 d4 (D := Ds) (vd := vd) (nd := nd) (k := k) (hz := hz) (by omega) kfull ks (.tail _ (.tail _ (.tail _ (.tail _ (.tail _ (.tail _ msh)))))) ish) (fun h11 tk11 hs => ?_)
  · rcases List.mem_cons.mp hq with rfl | hq
    · exact ne_158 l158
    rcases List.mem_cons.mp hq with rfl | hq
    · exact ne_add (by decide)
    rcases List.mem_cons.mp hq with rfl | hq
    · exact ne_add (by decide)
    rcases List.mem_cons.mp hq with rfl | hq
    · exact ne_add (by decide)
    rcases List.mem_cons.mp hq with rfl | hq
    · exact ne_add (by decide)
    rcases List.mem_cons.mp hq with rfl | hq
    · exact ne_add (by decide)
    exact (bO2 q hq).2.2.2.2.2.1
  · rcases List.mem_cons.mp hq with rfl | hq
    · exact ne_158 l158
    rcases List.mem_cons.mp hq with rfl | hq
    · exact ne_add (by decide)
    rcases List.mem_cons.mp hq with rfl | hq
    · exact ne_add (by decide)
    rcases List.mem_cons.mp hq with rfl | hq
    · exact ne_add (by decide)
    rcases List.mem_cons.mp hq with rfl | hq
    · exact ne_add (by decide)
    rcases List.mem_cons.mp hq with rfl | hq
    · exact ne_add (by decide)
    exact (bO2 q hq).2.2.2.2.1
  obtain ⟨p3, p4, D8, ys8, n8, D6, ys6, n6b, F11, N11, e3, e4, ne11, j8, j6⟩ := hs
  clear F10 N10 N10b
  obtain ⟨dr, edr, j8⟩ : ∃ dr, dr = ((List.range hz.length).map fun j => hz.getD j 0 % 7) ∧ IntsAre ys8 dr := ⟨_, rfl, j8⟩
  obtain ⟨ds, ed, j6⟩ : ∃ ds, ds = dsOf hz ∧ IntsAre ys6 ds := ⟨_, rfl, j6⟩
  have ne11a := fun p hp => (ne11 p hp).1
  have ne11b := fun p hp => (ne11 p hp).2
  refine seqS _ (law12 W F11 N11 (o3 := p3) (D8 := D8) (Dh := Dh) (hz := hz) (.head _) e3 (.tail _ (.tail _ (.head _))) (edr ▸ j8) (by omega) (.tail _ (.tail _ (.tail _ (.tail _ (.tail _ (.tail _ (.tail _ (.tail _ (.tail _ (.tail _ (up _ mh))))))))))) ih kh) (fun h12 tk12 hs => ?_)
  obtain ⟨F12, N12⟩ := hs
  clear F11 N11
  refine seqS _ (law13 W F12 N12 (o3 := p3) (o4 := p4) (D8 := D8) (D6 := D6) (z := hz.length) (rs := dr) (ds := ds) (.head _) e3 (.tail _ (.tail _ (.head _))) j8 (.tail _ (.head _)) e4 (.tail _ (.tail _ (.tail _ (.head _)))) j6 (by rw [ed, ds_len]; omega) ksz (by omega)) (fun h13 tk13 hs => ?_)
  obtain ⟨t13, u13, F13, N13⟩ := hs
  obtain ⟨m13, F13, knm, kld, k13⟩ := upd2 F13 (by decide)
  clear F12 N12
  -- the loop
  have N13b : News g L h13 (cells5 #[] L p4 o5 o6 o7 ((L + 3, p3) :: (D8, lob ys8 n8) :: (D6, lob ys6 n6b) :: (L + 2, p2) :: (L + 1, o1) :: obs2)) := news_swap (X := [_, _, _, _, _, _, _]) (Y := [_]) (news_swap (X := [_, _, _, _]) (Y := [_]) (news_swap (X := [_, _, _, _, _, _, _]) (Y := [_]) (news_swap (X := [_, _, _, _, _, _]) (Y := [_]) (news_swap (X := [_, _, _, _, _]) (Y := [_]) (N13)))))
  refine seqS _ (law14 (z := hz.length) (hz := hz) (dr := dr) (nm := dr.sum.fmod 7) (ld := (laidS ds).fmod hz.length) (Dh := Dh) (Dp := Dp) (Ds := Ds) W C0 F13 N13b (fun q hq => ?_) ⟨_, e4⟩ ⟨_, d5⟩ ⟨_, d6⟩ ⟨_, d7⟩ .nil
    ⟨z5, rfl, edr, rfl, by rw [ed], ⟨hs, nh, .tail _ (.tail _ (.tail _ (.tail _ (.tail _ (up _ mh))))), ih⟩, ⟨ys, np, nws, .tail _ (.tail _ (.tail _ (.tail _ (.tail _ (up _ mp))))), hP, fun q hq => .tail _ (.tail _ (.tail _ (.tail _ (.tail _ (up _ (hsub q hq))))))⟩, ⟨vd, nd, k, .tail _ (.tail _ (.tail _ (.tail _ (.tail _ msh)))), ish⟩, ⟨p3, D8, ys8, n8, .head _, e3, .tail _ (.head _), j8⟩⟩
    ⟨⟨_, (k13 _ (by decide) (by decide)).trans ksz⟩, (k13 _ (by decide) (by decide)).trans kh, (k13 _ (by decide) (by decide)).trans kp, (k13 _ (by decide) (by decide)).trans ks, ⟨_, knm⟩, ⟨_, kld⟩⟩) (fun h14 tk14 hs => ?_)
  · rcases List.mem_cons.mp hq with rfl | hq
    · exact ⟨Ne.symm (ne_158 l158), ne_add (by decide), ne_add (by decide), ne_add (by decide), ne_add (by decide)⟩
    rcases List.mem_cons.mp hq with rfl | hq
    · exact ⟨Ne.symm (ne11a (158, tabObj #[]) (.tail _ (.tail _ (.head _)))), Ne.symm (ne11a (L + 4, o4) (.tail _ (.head _))), Ne.symm (ne11a (L + 5, o5) (.tail _ (.tail _ (.tail _ (.tail _ (.tail _ (.head _))))))), Ne.symm (ne11a (L + 6, o6) (.tail _ (.tail _ (.tail _ (.tail _ (.head _)))))), Ne.symm (ne11a (L + 7, o7) (.tail _ (.tail _ (.tail _ (.head _)))))⟩
    rcases List.mem_cons.mp hq with rfl | hq
    · exact ⟨Ne.symm (ne11b (158, tabObj #[]) (.tail _ (.tail _ (.head _)))), Ne.symm (ne11b (L + 4, o4) (.tail _ (.head _))), Ne.symm (ne11b (L + 5, o5) (.tail _ (.tail _ (.tail _ (.tail _ (.tail _ (.head _))))))), Ne.symm (ne11b (L + 6, o6) (.tail _ (.tail _ (.tail _ (.tail _ (.head _)))))), Ne.symm (ne11b (L + 7, o7) (.tail _ (.tail _ (.tail _ (.head _)))))⟩
    rcases List.mem_cons.mp hq with rfl | hq
    · exact ⟨Ne.symm (ne_158 l158), ne_add (by decide), ne_add (by decide), ne_add (by decide), ne_add (by decide)⟩
    rcases List.mem_cons.mp hq with rfl | hq
    · exact ⟨Ne.symm (ne_158 l158), ne_add (by decide), ne_add (by decide), ne_add (by decide), ne_add (by decide)⟩
    obtain ⟨q1, q2, q3, q4, q5, _⟩ := bO2 q hq
    exact ⟨q1, q5, q4, q3, q2⟩
  obtain ⟨m14, ps14, F14, N14⟩ := hs
  clear F13 N13 N13b
  refine wpAny_execs_cons (wpAny_mono (law15 W F14 N14) (fun f s' hs => ?_) fun _ _ e => e)
  obtain ⟨rfl, h15, tk15, rfl, N15, F15⟩ := Stop.out hs
  exact ⟨rfl, h15, tk15, m14, ps14, rfl, F15, N15⟩
end
end
/-! MVk -/
section
open PySem PySem.W PySem.Spec PySem.Calls PyProof.Rows
/-- the call of a def with cells, its end handed on -/
theorem enterCode {w : World} {N : Names} {A : Around} {s : Shared} {R : Result → Shared → Prop} {f : Addr} {fo : Obj} {name qual : Str} {params : Arguments} {body : List Stmt} {scope : Scope} {dV kV doc pm cdv ct : Value} {an : Option Addr} {vs : List Value} {kw : List (Str × Value)} {binds : List (Str × Value)}
    (O : Okh w N s.heap) (hl : (K w.params).lookup f = some fo) (hd : fo.data = .func (fnX name qual params body scope [] dV kV doc pm an cdv ct)) (hc : codeIn (K w.params) cdv qual = true)
    (hbind : BindsTo s (fnX name qual params body scope [] dV kV doc pm an cdv ct) ⟨vs, kw⟩ binds) (hroom : A.depth < recursionLimit)
    (hkind : ∀ n, ∀ x ∈ binds, scope.names.lookup x.1 = some .local ∨ (scope.names.lookup x.1 = some .cell ∧ ((cellsFrom n scope.names []).lookup x.1).isSome = true))
    (hnd : ((cellsFrom 0 scope.names []).map (·.1)).Nodup)
    (hco : scope.isCoroutine = false) (hgen : scope.isGenerator = false) (hk : scope.kind = .function)
    (h : ∀ h₁ tk cells, Fr s.heap s.heap.objs.size h₁ (bindL (envOfC qual scope s.heap.objs.size f cdv).kindOf binds fun _ => none) → News s.heap s.heap.objs.size h₁ cells →
      CellsAre (bindC (envOfC qual scope s.heap.objs.size f cdv).kindOf binds fun _ => none) (cellsFrom (s.heap.objs.size + 1) scope.names []) cells →
      wpAny (model pw w) (A.deeper (envOfC qual scope s.heap.objs.size f cdv)) (execs body (envOfC qual scope s.heap.objs.size f cdv)) (fun fl s' => R (.ok (.ret (retV fl))) s') (fun _ _ => False) { s with heap := h₁, toks := tk }) :
    codeAny (model pw w) A (.call (.ref f) ⟨vs, kw⟩) R s := by
  refine codeAny_call_function hroom (O.K _ _ hl) hd hco hgen rfl (codeRec_of O.K hc) (hbind _ _ _ _ ?_)
  refine wpAny_newFunctionEnv_cells hk (hkind _) fun env' he s' x => ?_
  subst he
  refine ⟨O.T.nolimit.keeps x.toInCall.keep, codeAny_func ?_⟩
  obtain ⟨h₁, tk, rfl, _⟩ := x.done
  have hk₁ := x.toInCall.keep
  obtain ⟨cells, NC, Y⟩ := Cl.news (h₀ := s.heap) (Nat.le_refl _) fun n c hm => ⟨x.cell n c (lookup_of_mem_nodup (cellsFrom_names scope.names 0 (s.heap.objs.size + 1) [] [] rfl ▸ hnd) hm), x.above n c hm⟩
  exact wpAny_mono (h h₁ tk cells ⟨x.toInCall.ns, fun b o e => hk₁ b o e, Nat.le_refl _⟩ NC Y) (fun fl s' hq => hq) (fun _ _ y => y.elim)
noncomputable abbrev ghT : List (Addr × Addr) := [(160, 158)]
theorem noTabsK (w : World) : noTabs (K w.params) = true := by kernel_rfl
theorem law_call {w : World} {mean : ExcName → Option Value} {mg mb : Str → Option Value} {s : Shared} {l : Addr} {vs : List Value} {ns : List Int} {R : Result → Shared → Prop} (KX : (K w.params).In s.heap) (T : Top vq (looseW vq vloose) mean mg mb s.heap) (hT : TabsAt ghT s.heap)
    (hl : s.heap.IsList l vs.toArray) (hn : IntsAre vs ns) (hlen : ns.length ≤ 63)
    (h : ∀ h' tk ps, (∀ b o, (ghostOf s.heap ghT).get? b = some o → h'.get? b = some o) → h'.get? 158 = some (tabObj ps) → R (.ok (.ret (.bool true))) { s with heap := h', toks := tk }) :
    codeAny (model pw w) callerA (.call (.ref 161) ⟨[.ref l], []⟩) R s := by
  have O : Okh w ⟨mean, mg, mb⟩ s.heap := ⟨KX, ghost_top (tabs := []) (fun _ h => nomatch h) T⟩
  refine enterCode (f := 161) (binds := [(Str.ofString "script", .ref l)]) O rfl rfl rfl (BindsTo.of_eq rfl) (by decide) (fun n => kinds_of ⟨.inr ⟨rfl, rfl⟩, trivial⟩) (by decide) rfl rfl rfl ?_
  intro h₁ tk₁ cells F0 N0 Y
  obtain ⟨o7, o6, o5, o4, o3, o2, o1, rfl, d7, d6, d5, d4, d3, d2, d1⟩ := kc_seven Y
  have F1 := ghost_fr hT F0
  have N1 := ghost_news hT F0 N0
  have C1 := (ghost_code hT).1
  have K1 := ghost_K hT KX (noTabsK w)
  have T1 := ghost_top hT T
  have L1 := ghost_list hT hl
  have W : LawF w ⟨mean, mg, mb⟩ callerA (ghostOf s.heap ghT) s.heap.objs.size l vs ns := ⟨⟨K1, T1⟩, by decide, by decide, rfl, L1, hn, hlen⟩
  refine wpAny_mono (law_run (s := { s with heap := h₁, toks := tk₁ }) W C1 F1 (news_sub N1 (fun q hq => ?_)) d1 d2 d3 d4 d5 d6 d7) (fun f s' hs => ?_) fun _ _ e => e
  · rcases List.mem_cons.mp hq with rfl | hq
    · exact List.mem_append_right _ (.head _)
    · exact List.mem_append_left _ hq
  · obtain ⟨rfl, h', tk, m', ps, rfl, F, NW⟩ := hs
    exact h h' tk ps F.keep (NW _ (.head _)).1
end
end
end
end
end
end
end
end
end
end
end
end
end
end
end
end
end
end
/-! MF1 -/
section
open PySem PySem.W PySem.Spec PySem.Calls PyProof.Rows
set_option maxHeartbeats 8000000 in
theorem fin1 : PySem.Challenge.rw_rw0108_01.Holds := by
  w_on
  refine holds_law ok_said (fun said => ?_)
  refine holds_open (q := vq) (loose := vloose) (Xt := fun s => xlAt vq [] s && recOk (RowW.records (PySem.Challenge.rw_rw0108_01.row.toRowW)) s) (XP := XL vq []) (Yf := Hook.obs kH) (Ya := Hook.val kH) (YP := Hook.says kH) (N := 30000) h_left (Hook.of kH) (Hook.keeps kH) (fun s e => xl_of s (Bool.and_eq_true_iff.mp e).1) XL.keeps (by rfl) (by rfl) (by rfl) (fun s e => recFacts_of (Bool.and_eq_true_iff.mp e).2) (by rfl) (by first | assumption | decide +kernel) (by decide +kernel) ⟨rfl, rfl, rfl, rfl, rfl, by decide +kernel⟩ ?hw ?hc
  case hw => w_witness2
  intro w s₀ s₁ mg mb G Y fa o pm cd doc dV kV ho hd hcd hD hmg hg args vals as hpre hlay hrd hwl hlo
  have _kf : (fun (_ : OpenLaw) (_ : Params → Frag) => True) PySem.Challenge.rw_rw0108_01 K := by (k_fill; trivial)
  clear _kf
  have KX := km_in_of Y
  have hT8 := km_tabs_of Y
  have X := (Ground.X G).1
  have V := (Ground.X G).2
  refine Ground.open G ?_
  intro T B D TE TW
  km_lay T hmg ho hd cd
  have efa : mg (Str.ofString "law") = some (.ref 161) := mg_of KX (Top.g T) (by kernel_rfl)
  have efa2 : fa = 161 := by
    have e := hmg.symm.trans efa
    cases e
    rfl
  subst efa2
  clear hmg efa
  wrow_args hpre hlay hrd hwl hlo
  refine enter_call ?_
  w_top on
  refine kn_post hT9 (fun _ _ => rfl) ?_
  clear hD ho hd hcd
  rename s₁.heap.IsList _ _ => hL
  rename IntsAre _ _ => hI
  rename ¬ _ < _ => hC
  refine law_call KX T hT9 hL hI (by omega) (fun h' tk ps hk hp => ?_)
  refine ⟨⟨.inl ⟨.bool true, .bool true, [], rfl, fun _ => rfl, .bool true, ?_, unshared_nil⟩, hk, rfl, hg⟩, ⟨ps, hp⟩, trivial⟩
  wrow_post
end
end Mine
theorem PySem.Challenge.cw_rw0108_01_holds : PySem.Challenge.rw_rw0108_01.Holds :=
  Mine.fin1
